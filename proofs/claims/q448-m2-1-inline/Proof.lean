import JvmDerived
import JvmDerived.Pilot.@@N@@Statement
import JvmDerived.Pilot.@@N@@Code
set_option linter.unusedVariables false
set_option linter.unusedSimpArgs false

/- laws to paste: Road.backV, Road.eqW, Road.codOf, Road.lenW, pair_says, shr0, narrow_ch, lo8_mask (cut by pick.py; bodies as the Statement names them) -/
namespace Jvm.Pilot.@@N@@
namespace StrChars
open Jvm Sem ClassFile Op Lib Jvm.Stand Jvm.Free.XT Jvm.Free.ALB Jvm.Free.JM Jvm.Free
open Jvm.Lib.Cold (StaticIs)
def Ch (a : Addr) (A : Cell) (U : State) : Prop := Arr .char a A U ∧ Typed .char A
theorem Ch.mv {a : Addr} {A : Cell} {U U' : State} (h : Ch a A U) (hal : U.vm.Alike U'.vm) (hh : U'.heap = U.heap) : Ch a A U' := ⟨h.1.mv hal hh, h.2⟩
theorem Ch.keep {a : Addr} {A : Cell} {U U' : State} (h : Ch a A U) (hal : U.vm.Alike U'.vm) (hk : U'.heap[a]? = some A) : Ch a A U' := ⟨h.1.keep hal hk, h.2⟩
def cv (A : Cell) (i : Nat) : Int32 := match A.slots[i]? with | some (.int x) => x | _ => 0
def lo8 (x : Int32) : Int32 := x.toInt8.toInt32
theorem fits_lo8 (y : Int32) : fits .byte (.int (lo8 y)) = true := by
  have h1 := y.toInt8.le_toInt
  have h2 := y.toInt8.toInt_lt
  simp only [lo8, fits, Bool.and_eq_true, decide_eq_true_eq, Int32.le_iff_toInt_le, Int8.toInt_toInt32, show (-128 : Int32).toInt = -128 from by decide, show (127 : Int32).toInt = 127 from by decide]
  omega
namespace Cmp5
end Cmp5
namespace Cmp3
end Cmp3
namespace CodL
end CodL
def Got (a : Addr) (D : Cell) (fV fC : Field) (A : Cell) (o len : Nat) (r : Option Value) (s u : State) : Prop := r = none ∧ ∃ D' V : Cell, Blank "java/lang/String" a D' u ∧ Same D D' [fV.slot, fC.slot] ∧ D'.slots[fV.slot]? = some (.ref s.heap.size) ∧ D'.slots[fC.slot]? = some (.int 0) ∧ Arr .byte s.heap.size V u ∧ V.vm = .none ∧ u.vm.findClass "[B" = some V.cls ∧ V.slots.size = len ∧ (∀ j, j < len → V.slots[j]? = some (.int (lo8 (cv A (o + j))))) ∧ (∀ (y : Addr) (c : Cell), y ≠ a → s.heap[y]? = some c → u.heap[y]? = some c) ∧ u.heap.size = s.heap.size + 1
theorem Got.mv {a : Addr} {D A : Cell} {fV fC : Field} {o len : Nat} : ∀ r (U U' V V' : State), U'.heap = U.heap → V.vm.Alike V'.vm → V'.heap = V.heap → Got a D fV fC A o len r U V → Got a D fV fC A o len r U' V' :=
  fun r U U' V V' h1 hal h2 ⟨e0, D', X, a1, a2, a3, a4, a5, a6, a7, a8, a9, a10, a11⟩ => ⟨e0, D', X, a1.mv hal h2, a2, by rw [h1]; exact a3, a4, by rw [h1]; exact a5.mv hal h2, a6, by rw [hal.findClass]; exact a7, a8, a9, by rw [h1, h2]; exact a10, by rw [h1, h2]; exact a11⟩
namespace New4
end New4
namespace New1
end New1
theorem lo8_mask {x : Int32} (h0 : ¬ x < 0) (h1 : ¬ 255 < x) : lo8 x &&& 255 = x := by
  have t : ∀ k : Fin 256, lo8 (Int32.ofNat k.val) &&& 255 = Int32.ofNat k.val := by decide +kernel
  rw [Int32.lt_iff_toInt_lt] at h0 h1
  have e0 : (0 : Int32).toInt = 0 := rfl
  have e1 : (255 : Int32).toInt = 255 := rfl
  obtain ⟨k, hk⟩ : ∃ k : Nat, x.toInt = k := ⟨x.toInt.toNat, by omega⟩
  have hx : x = Int32.ofNat k := Int32.toInt_inj.mp (by rw [hk, Int32.toInt_ofNat_small (by omega)])
  rw [hx]
  exact t ⟨k, by omega⟩
end StrChars
namespace StrChars.Road
open Jvm Sem ClassFile Op Lib Jvm.Stand Jvm.Free Jvm.Free.XT
open Jvm.Lib.Cold (StaticIs)
abbrev ST : String := "java/lang/String"
def Q (Z : State) (x : Addr) (A : Cell) (h : Heap) (v : Option Value) (h' : Heap) (L : List Loc) : Prop := v = none ∧ (∀ y ∈ L, y.base = x) ∧ RoadKit.Keep h h' [x] ∧ h'.size = h.size + 1 ∧ RoadKit.Exa Z h' x ST ∧ RoadKit.Fld Z h' x ST "value" "[B" (.ref h.size) ∧ RoadKit.Fld Z h' x ST "coder" "B" (.int 0) ∧
  (∃ V : Cell, RoadKit.Arr Z h' h.size V .byte ∧ V.vm = .none ∧ Z.vm.findClass "[B" = some V.cls ∧ V.slots.size = A.slots.size ∧ ∀ j, j < A.slots.size → V.slots[j]? = some (.int (lo8 (cv A j)))) ∧
  ∀ (O n d : String) (w : Value), RoadKit.Fld Z h x O n d w → RoadKit.slotOf Z O n d ≠ RoadKit.slotOf Z ST "value" "[B" → RoadKit.slotOf Z O n d ≠ RoadKit.slotOf Z ST "coder" "B" → RoadKit.Fld Z h' x O n d w
end StrChars.Road
namespace StrChars.Road
open Jvm Sem ClassFile Op Lib Jvm.Stand Jvm.Free Jvm.Free.XT
end StrChars.Road
namespace StrChars.Road
open Jvm Sem ClassFile Op Lib Jvm.Stand Jvm.Free Jvm.Free.XT
end StrChars.Road
namespace StrChars
open Jvm Sem ClassFile Op Lib Jvm.Stand Jvm.Free.XT Jvm.Free.ALB Jvm.Free.JM Jvm.Free
open Jvm.Lib.Cold (StaticIs)
def hi8 (x : Int32) : Int32 := lo8 (x >>> ((8 : Int32) &&& 31))
def pairCh (u v : Int32) : Int32 := (((u &&& 255) <<< ((0 : Int32) &&& 31)) ||| ((v &&& 255) <<< ((8 : Int32) &&& 31))).toUInt32.toUInt16.toUInt32.toInt32
theorem shr0 (c : Int32) : c >>> ((0 : Int32) &&& 31) = c := by
  have e : ((0 : Int32) &&& 31) = 0 := by decide
  rw [e]
  apply Int32.toBitVec_inj.mp
  rw [Int32.toBitVec_shiftRight]
  have e1 : ((0 : Int32).toBitVec.smod 32) = 0#32 := by decide
  rw [e1, BitVec.sshiftRight_eq']
  exact BitVec.sshiftRight_zero
theorem lo8_and (x : Int32) : (lo8 x &&& 255).toBitVec.toNat = x.toBitVec.toNat % 256 := by
  have h : (lo8 x).toBitVec = (x.toBitVec.signExtend 8).signExtend 32 := by rw [lo8, Int8.toBitVec_toInt32, Int32.toBitVec_toInt8]
  rw [Int32.toBitVec_and, BitVec.toNat_and, h]
  have e : ((x.toBitVec.signExtend 8).signExtend 32).toNat % 256 = x.toBitVec.toNat % 256 := by
    rw [BitVec.toNat_signExtend]
    have hlt := x.toBitVec.isLt
    simp only [BitVec.toNat_setWidth, BitVec.toNat_signExtend]
    split <;> split <;> omega
  rw [← e]
  exact Nat.and_two_pow_sub_one_eq_mod _ 8
theorem pair_says {c : Int32} (h0 : ¬ c < 0) (h1 : ¬ 65535 < c) : pairCh (lo8 c) (hi8 c) = c := by
  rw [Int32.lt_iff_toInt_lt] at h0 h1
  have e0 : (0 : Int32).toInt = 0 := rfl
  have e1 : (65535 : Int32).toInt = 65535 := rfl
  have hc : c.toInt = c.toBitVec.toNat := by
    have := c.toBitVec.isLt
    have e : c.toInt = c.toBitVec.toInt := rfl
    rw [e] at h0 h1
    rw [e]
    rw [BitVec.toInt_eq_toNat_cond] at h0 h1 ⊢
    split at h0 <;> split <;> omega
  have hn : c.toBitVec.toNat < 65536 := by omega
  have a1 := lo8_and c
  have a2 : (hi8 c &&& 255).toBitVec.toNat = c.toBitVec.toNat / 256 := by
    rw [hi8, lo8_and]
    have e : ((8 : Int32) &&& 31) = 8 := by decide
    rw [e, Int32.toBitVec_shiftRight]
    have e2 : ((8 : Int32).toBitVec.smod 32) = 8#32 := by decide
    rw [e2, BitVec.sshiftRight_eq', BitVec.toNat_sshiftRight_of_msb_false (by rw [BitVec.msb_eq_false_iff_two_mul_lt]; omega)]
    show c.toBitVec.toNat >>> 8 % 256 = _
    rw [Nat.shiftRight_eq_div_pow]
    omega
  unfold pairCh
  apply Int32.toBitVec_inj.mp
  apply BitVec.eq_of_toNat_eq
  have f0 : ((0 : Int32) &&& 31) = 0 := by decide
  have f8 : ((8 : Int32) &&& 31) = 8 := by decide
  rw [f0, f8]
  have g : (((lo8 c &&& 255) <<< (0 : Int32)) ||| ((hi8 c &&& 255) <<< (8 : Int32))).toBitVec.toNat = c.toBitVec.toNat := by
    rw [Int32.toBitVec_or, Int32.toBitVec_shiftLeft, Int32.toBitVec_shiftLeft]
    have s0 : ((0 : Int32).toBitVec.smod 32) = 0#32 := by decide
    have s8 : ((8 : Int32).toBitVec.smod 32) = 8#32 := by decide
    rw [s0, s8, BitVec.toNat_or]
    simp only [BitVec.shiftLeft_eq', BitVec.toNat_shiftLeft, a1, a2]
    show (c.toBitVec.toNat % 256) <<< 0 % 2 ^ 32 ||| (c.toBitVec.toNat / 256) <<< 8 % 2 ^ 32 = _
    rw [Nat.shiftLeft_zero, Nat.mod_eq_of_lt (show c.toBitVec.toNat % 256 < 2 ^ 32 by omega), Nat.mod_eq_of_lt (show (c.toBitVec.toNat / 256) <<< 8 < 2 ^ 32 by rw [Nat.shiftLeft_eq]; omega), Nat.or_comm, ← Nat.shiftLeft_add_eq_or_of_lt (by omega), Nat.shiftLeft_eq]
    omega
  show BitVec.toNat (((((lo8 c &&& 255) <<< (0 : Int32)) ||| ((hi8 c &&& 255) <<< (8 : Int32))).toBitVec.setWidth 16).setWidth 32) = _
  rw [BitVec.toNat_setWidth, BitVec.toNat_setWidth, g]
  omega
end StrChars
namespace StrChars
open Jvm Sem ClassFile Op Lib Jvm.Stand Jvm.Free.XT Jvm.Free.ALB Jvm.Free.JM Jvm.Free
open Jvm.Lib.Cold (StaticIs)
theorem shr1 {n : Nat} (h : 2 * n < 2 ^ 31) : Int32.ofNat (2 * n) >>> ((1 : Int32) &&& 31) = Int32.ofNat n := by
  have e : ((1 : Int32) &&& 31) = 1 := by decide
  rw [e]
  apply Int32.toBitVec_inj.mp
  rw [Int32.toBitVec_shiftRight]
  have e1 : ((1 : Int32).toBitVec.smod 32) = 1#32 := by decide
  have hm : (BitVec.ofNat 32 (2 * n)).toNat = 2 * n := by rw [BitVec.toNat_ofNat, Nat.mod_eq_of_lt (by omega)]
  rw [e1, BitVec.sshiftRight_eq']
  apply BitVec.eq_of_toNat_eq
  show ((BitVec.ofNat 32 (2 * n)).sshiftRight 1).toNat = (BitVec.ofNat 32 n).toNat
  rw [BitVec.toNat_sshiftRight_of_msb_false (by rw [BitVec.msb_eq_false_iff_two_mul_lt, hm]; omega), hm, BitVec.toNat_ofNat, Nat.shiftRight_eq_div_pow]
  omega
theorem narrow_ch {c : Int32} (h0 : ¬ c < 0) (h1 : ¬ 65535 < c) : narrow .char (.int c) = .int c := by
  have q : narrow .char (.int (pairCh (lo8 c) (hi8 c))) = .int (pairCh (lo8 c) (hi8 c)) := narrow_c _
  rwa [pair_says h0 h1] at q
def Cod (cd : Int32) (n : Nat) (f : Nat → Int32) (V : Cell) : Prop := (cd = 0 ∧ V.slots.size = n ∧ ∀ j, j < n → V.slots[j]? = some (.int (lo8 (f j))) ∧ ¬ 255 < f j) ∨ (cd = 1 ∧ V.slots.size = 2 * n ∧ (∀ j, j < n → V.slots[2 * j]? = some (.int (lo8 (f j))) ∧ V.slots[2 * j + 1]? = some (.int (hi8 (f j)))) ∧ ∃ j, j < n ∧ 255 < f j)
theorem Cod.cd {cd : Int32} {n : Nat} {f : Nat → Int32} {V : Cell} (h : Cod cd n f V) : cd = 0 ∨ cd = 1 := h.imp (fun q => q.1) fun q => q.1
theorem Cod.len {cd : Int32} {n : Nat} {f : Nat → Int32} {V : Cell} (h : Cod cd n f V) (hs : V.slots.size < 2 ^ 31) : Int32.ofNat V.slots.size >>> (cd &&& 31) = Int32.ofNat n := by
  rcases h with ⟨rfl, h, -⟩ | ⟨rfl, h, -⟩
  · rw [shr0, h]
  · rw [h, shr1 (by omega)]
def Txt (x t : Addr) (V : Cell) (cd : Int32) (n : Nat) (f : Nat → Int32) (U : State) : Prop := Exact "java/lang/String" x U ∧ Has x "java/lang/String" "value" "[B" (.ref t) U ∧ Has x "java/lang/String" "coder" "B" (.int cd) U ∧ XT.Arr .byte t V U ∧ Cod cd n f V ∧ ∀ j, j < n → ¬ f j < 0 ∧ ¬ 65535 < f j
theorem Txt.mv {x t : Addr} {V : Cell} {cd : Int32} {n : Nat} {f : Nat → Int32} {U U' : State} (h : Txt x t V cd n f U) (hal : U.vm.Alike U'.vm) (hh : U'.heap = U.heap) : Txt x t V cd n f U' := ⟨h.1.mv hal hh, h.2.1.mv hal hh, h.2.2.1.mv hal hh, h.2.2.2.1.mv hal hh, h.2.2.2.2⟩
namespace Cdr
def yN : MethodName := ⟨"java/lang/String", "coder", "()B"⟩
abbrev yB : ByteArray := jdk_42_method_152_code
theorem d0 : decode yB 0 = .ok (.getstatic 38, 3) := by decide +kernel
theorem d3 : decode yB 3 = .ok (.ifCond (.eq) 10, 3) := by decide +kernel
theorem d6 : decode yB 6 = .ok (.aload_n 0, 1) := by decide +kernel
theorem d7 : decode yB 7 = .ok (.getfield 15, 3) := by decide +kernel
theorem d10 : decode yB 10 = .ok (.goto 4, 3) := by decide +kernel
theorem d14 : decode yB 14 = .ok (.ireturn, 1) := by decide +kernel
def site : List Cond := [.fieldLink "java/lang/String" 38 "java/lang/String" "COMPACT_STRINGS" "Z", .fieldLink "java/lang/String" 15 "java/lang/String" "coder" "B"]
def tab : Cond := tabOf yN yB 1 (some .byte) site
def P (x : Addr) (cd z : Int32) (args : Array Value) (s : State) : Prop := args = #[.ref x] ∧ Has x "java/lang/String" "coder" "B" (.int cd) s ∧ (cd = 0 ∨ cd = 1) ∧ StaticIs s "java/lang/String" "COMPACT_STRINGS" "Z" (.int z) ∧ ¬ z = 0
def E (cd : Int32) (r : Option Value) (s u : State) : Prop := XT.PureE (some (.int cd)) r s u
theorem law (l : Launch) (x : Addr) (cd z : Int32) : Law l yN 1 0 0 0 yB 1 (some .byte) site (P x cd z) (E cd) [] 0 0 := by
  refine Law.of_walk (plainFor_of_name (by decide +kernel)) (by decide +kernel) (by decide +kernel) (by decide) (fun _ _ h => by rw [h.1]; rfl) (fun _ U U' hal hh h => ⟨h.1, h.2.1.mv hal hh, h.2.2.1, h.2.2.2.1.there hal hh, h.2.2.2.2⟩) (fun r U U' V V' h1 hal h2 h => XT.PureE.mv r U U' V V' h1 hal h2 h) ?_
  intro p e s m args below meth c s₁ X0 hexec hbytes hml hret hlk hnm hown hh0 W hP
  obtain ⟨rfl, hx, hc, s1, hz⟩ := hP
  have c1 : Steps p.tables e below (s₁.setTop (entryFrame m #[.ref x] 1)) (s₁.setTop (mkF m 0 #[.val (.ref x)] [])) := entry rfl
  obtain ⟨T2, X2, q2, st2⟩ := X0.sget hexec hown (wk W (.fieldLink "java/lang/String" 38 "java/lang/String" "COMPACT_STRINGS" "Z")) s1 (fun _ _ h => by rw [hh0]; exact h) (g := (mkF m 0 #[.val (.ref x)] [])) rfl (hb hbytes d0)
  have hh2 := q2.trans hh0
  have c3 : Steps p.tables e below (s₁.setTop (entryFrame m #[.ref x] 1)) (T2.setTop (mkF m 7 #[.val (.ref x)] [.ref x])) := (c1.trans (st2 _ (Steps.refl _))).trans (by
    refine XS.ifNo X2.here hexec rfl (hb hbytes d3) rfl (i0_eq_f hz) ?_
    refine XS.aloadN X2.here hexec rfl (hb hbytes d6) rfl rfl ?_
    exact Steps.refl _)
  obtain ⟨T4, X4, q4, st4⟩ := X2.hget hexec hown (wk W (.fieldLink "java/lang/String" 15 "java/lang/String" "coder" "B")) (hx.mv X2.warmed.alike hh2) (g := (mkF m 7 #[.val (.ref x)] [.ref x])) rfl (rest := []) rfl (hb hbytes d7)
  have c5 : Steps p.tables e below (s₁.setTop (entryFrame m #[.ref x] 1)) (T4.setTop (mkF m 14 #[.val (.ref x)] [.int cd])) := (c3.trans (st4 _ (Steps.refl _))).trans (by
    refine XS.goto X4.here hexec rfl (pc0 := 10) rfl (hb hbytes d10) (by decide) rfl ?_
    exact Steps.refl _)
  exact ⟨T4, some (.int cd), _, _, _, X4, rfl, rfl, rfl, (fun h => by cases h), ⟨rfl, q4.trans hh2⟩, fun fs hl => c5.trans (X4.ireturnOut hexec hret (by rcases hc with rfl | rfl <;> rfl) (Or.inr (Or.inr (Or.inl rfl))) (hb hbytes d14) hl)⟩
end Cdr
namespace Len
def yN : MethodName := ⟨"java/lang/String", "length", "()I"⟩
abbrev yB : ByteArray := jdk_42_method_54_code
theorem d0 : decode yB 0 = .ok (.aload_n 0, 1) := by decide +kernel
theorem d1 : decode yB 1 = .ok (.getfield 9, 3) := by decide +kernel
theorem d4 : decode yB 4 = .ok (.arraylength, 1) := by decide +kernel
theorem d5 : decode yB 5 = .ok (.aload_n 0, 1) := by decide +kernel
theorem d6 : decode yB 6 = .ok (.invokevirtual 335, 3) := by decide +kernel
theorem d9 : decode yB 9 = .ok (.ishr, 1) := by decide +kernel
theorem d10 : decode yB 10 = .ok (.ireturn, 1) := by decide +kernel
def site : List Cond := [.fieldLink "java/lang/String" 9 "java/lang/String" "value" "[B", Cdr.tab] ++ virtW "java/lang/String" 335 "java/lang/String" Cdr.yN Cdr.yN
def tab : Cond := tabOf yN yB 1 (some .int) site
def P (x t : Addr) (V : Cell) (cd : Int32) (n : Nat) (f : Nat → Int32) (z : Int32) (args : Array Value) (s : State) : Prop := args = #[.ref x] ∧ Txt x t V cd n f s ∧ StaticIs s "java/lang/String" "COMPACT_STRINGS" "Z" (.int z) ∧ ¬ z = 0
def E (n : Nat) (r : Option Value) (s u : State) : Prop := XT.PureE (some (.int (Int32.ofNat n))) r s u
theorem law (l : Launch) (x t : Addr) (V : Cell) (cd : Int32) (n : Nat) (f : Nat → Int32) (z : Int32) : Law l yN 1 0 1 13 yB 1 (some .int) site (P x t V cd n f z) (E n) [] 0 0 := by
  refine Law.of_walk (plainFor_of_name (by decide +kernel)) (by decide +kernel) (by decide +kernel) (by decide) (fun _ _ h => by rw [h.1]; rfl) (fun _ U U' hal hh h => ⟨h.1, h.2.1.mv hal hh, h.2.2.1.there hal hh, h.2.2.2⟩) (fun r U U' V V' h1 hal h2 h => XT.PureE.mv r U U' V V' h1 hal h2 h) ?_
  intro p e s m args below meth c s₁ X0 hexec hbytes hml hret hlk hnm hown hh0 W hP
  obtain ⟨rfl, hx, s1, hz⟩ := hP
  have v31 := hx.2.2.2.1.2.2.2
  have c1 : Steps p.tables e below (s₁.setTop (entryFrame m #[.ref x] 1)) (s₁.setTop (mkF m 1 #[.val (.ref x)] [.ref x])) := Steps.trans (entry rfl) (by
    show Steps p.tables e below (s₁.setTop (mkF m 0 #[.val (.ref x)] [])) _
    refine XS.aloadN X0.here hexec rfl (hb hbytes d0) rfl rfl ?_
    exact Steps.refl _)
  obtain ⟨T2, X2, q2, st2⟩ := X0.hget hexec hown (wk W (.fieldLink "java/lang/String" 9 "java/lang/String" "value" "[B")) (hx.mv X0.warmed.alike hh0).2.1 (g := (mkF m 1 #[.val (.ref x)] [.ref x])) rfl (rest := []) rfl (hb hbytes d1)
  have hh2 := q2.trans hh0
  have hx2 := hx.mv X2.warmed.alike hh2
  have c3 : Steps p.tables e below (s₁.setTop (entryFrame m #[.ref x] 1)) (T2.setTop (mkF m 6 #[.val (.ref x)] [.ref x, .int (Int32.ofNat V.slots.size)])) := (c1.trans (st2 _ (Steps.refl _))).trans (by
    refine X2.alen hexec hx2.2.2.2.1 rfl rfl (hb hbytes d4) ?_
    refine XS.aloadN X2.here hexec rfl (hb hbytes d5) rfl rfl ?_
    exact Steps.refl _)
  obtain ⟨v4, T4, X4, E4, g4⟩ := X2.callV hexec (Cdr.law l x cd z) hown (wks W (virtW "java/lang/String" 335 "java/lang/String" Cdr.yN Cdr.yN)) rfl (by decide) (wk W Cdr.tab) (W := 1) (Nat.le_of_ble_eq_true rfl) (Nat.le_of_ble_eq_true rfl) (Nat.le_refl _) (Nat.le_refl _) (hx2.1.fc X2.warmed.alike) hx2.1.is (g := (mkF m 6 #[.val (.ref x)] [.ref x, .int (Int32.ofNat V.slots.size)])) rfl (by rw [hml]; rfl) c3 (argsL := []) (rest := [.int (Int32.ofNat V.slots.size)]) rfl rfl (by show 2 * 0 + (1 + 0) ≤ _; decide) (hb hbytes d6) (⟨rfl, hx2.2.2.1, hx.2.2.2.2.1.cd, s1.there X2.warmed.alike hh2, hz⟩)
  obtain ⟨rfl, q4⟩ := E4
  have c5 : Steps p.tables e below (s₁.setTop (entryFrame m #[.ref x] 1)) (T4.setTop (mkF m 10 #[.val (.ref x)] [.int (Int32.ofNat V.slots.size >>> (cd &&& 31))])) := Steps.trans g4 (by
    refine ishr X4.here hexec rfl (hb hbytes d9) rfl ?_
    exact Steps.refl _)
  rw [hx.2.2.2.2.1.len v31] at c5
  exact ⟨T4, some (.int (Int32.ofNat n)), _, _, _, X4, rfl, rfl, rfl, (fun h => by cases h), ⟨rfl, q4.trans hh2⟩, fun fs hl => c5.trans (X4.ireturnOut hexec hret rfl (Or.inl rfl) (hb hbytes d10) hl)⟩
theorem pays {l : Launch} {R : Room} {p : Program} {e : Env} {below : List Frame} {s : State} {sargs : Array Value} {len W : Nat} (x t : Addr) (V : Cell) (cd : Int32) (n : Nat) (f : Nat → Int32) (z : Int32) (htab : tab.before sargs s = true) (hfr : 2 ≤ R.frames) (hlo : W + 25 ≤ R.locals) :
    Back l R p e below s sargs yN len W (fun A₁ a₁ => A₁.cells + 0 ≤ R.cells ∧ A₁.slots + 0 ≤ R.slots ∧ P x t V cd n f z a₁ A₁.U) (fun A₁ _ v₁ B₁ => E n v₁ A₁.U B₁.U ∧ B₁.locs = A₁.locs ++ [] ∧ B₁.cells = A₁.cells + 0 ∧ B₁.slots = A₁.slots + 0) :=
  (law l x t V cd n f z).pays htab hfr (by omega)
end Len
end StrChars
namespace StrChars.Road
open Jvm Sem ClassFile Op Lib Jvm.Stand Jvm.Free Jvm.Free.XT
open Jvm.Lib.Cold (StaticIs)
theorem consq {a : Array Value} {s : State} {c : Jvm.Cond} {L : List Jvm.Cond} (h0 : c.before a s = true) (h : ∀ w ∈ L, w.before a s = true) : ∀ w ∈ c :: L, w.before a s = true := fun w hw => (List.mem_cons.mp hw).elim (fun e => e ▸ h0) (h w)
abbrev wordsLen : List Jvm.Cond := [.code Len.yN Len.yB 1 (some .int), .initialized ST, .fieldLink ST 9 ST "value" "[B", .fieldLink ST 38 ST "COMPACT_STRINGS" "Z", .fieldLink ST 15 ST "coder" "B", .code Cdr.yN Cdr.yB 1 (some .byte), .methodLink ST 335 Cdr.yN, .declares Cdr.yN, .selects ST Cdr.yN Cdr.yN, .instanceMethod Cdr.yN]
theorem tabLen_of {a : Array Value} {s : State} (h : ∀ w ∈ wordsLen, w.before a s = true) : Len.tab.before a s = true := by
  have hc : Cdr.tab.before a s = true := unparts (wk h (.code Cdr.yN Cdr.yB 1 (some .byte))) (wks h (.initialized Cdr.yN.cls :: Cdr.site))
  have q := consq hc h
  exact unparts (wk q (.code Len.yN Len.yB 1 (some .int))) (wks q (.initialized Len.yN.cls :: Len.site))
theorem movedLen {Z s : State} {a0 args : Array Value} (hZ : Z.Warmed39 s.vm) (hw : ∀ d ∈ wordsLen, d.before a0 Z = true) : ∀ d ∈ wordsLen, d.before args s = true := fun d hd => by
  have q := hw d hd
  have t : ∀ d ∈ wordsLen, d = .arrayClass .byte ∨ (d.onTables && d.keepsFace) = true := by decide +kernel
  rcases t d hd with rfl | t
  · exact RoadKit.mvA hZ q
  · exact RoadKit.mv hZ q t
def wideBytes : List Int32 → List Value
  | [] => []
  | c :: cs => .int (lo8 c) :: .int (hi8 c) :: wideBytes cs
theorem wide_lo (d : Value) : ∀ (cs : List Int32) (j : Nat), j < cs.length → (wideBytes cs).getD (2 * j) d = .int (lo8 (cs.getD j 0))
  | [], j, h => absurd h (Nat.not_lt_zero j)
  | c :: cs, 0, _ => rfl
  | c :: cs, j + 1, h => by
    have q := wide_lo d cs j (by simpa using h)
    rw [show 2 * (j + 1) = 2 * j + 1 + 1 from by omega]
    simpa [wideBytes] using q
theorem wide_hi (d : Value) : ∀ (cs : List Int32) (j : Nat), j < cs.length → (wideBytes cs).getD (2 * j + 1) d = .int (hi8 (cs.getD j 0))
  | [], j, h => absurd h (Nat.not_lt_zero j)
  | c :: cs, 0, _ => rfl
  | c :: cs, j + 1, h => by
    have q := wide_hi d cs j (by simpa using h)
    rw [show 2 * (j + 1) + 1 = 2 * j + 1 + 1 + 1 from by omega]
    simpa [wideBytes] using q
theorem low_at (d : Value) (cs : List Int32) (j : Nat) (h : j < cs.length) : (cs.map fun c => Value.int (lo8 c)).getD j d = .int (lo8 (cs.getD j 0)) := by
  simp [List.getD_eq_getElem?_getD, h]
def CodA (cs : List Int32) (cd N2 : Int32) (vs : List Value) : Prop := (cd = 0 ∧ N2 = Int32.ofNat cs.length ∧ vs = (cs.map fun c => Value.int (lo8 c)) ∧ ∀ c ∈ cs, ¬ 255 < c) ∨ (cd = 1 ∧ N2 = Int32.ofNat (2 * cs.length) ∧ vs = wideBytes cs ∧ ∃ c ∈ cs, 255 < c)
theorem CodA.cod {cs : List Int32} {cd N2 : Int32} {vs : List Value} {V : Cell} (h : CodA cs cd N2 vs) (hn : 2 * cs.length < 2 ^ 31) (hs : V.slots.size = N2.toNatClampNeg) (hv : RoadKit.Has V vs (.int 0)) : Cod cd cs.length (fun j => cs.getD j 0) V := by
  rcases h with ⟨rfl, rfl, rfl, h⟩ | ⟨rfl, rfl, rfl, c, hc, hw⟩
  · rw [n32 (by omega)] at hs
    exact Or.inl ⟨rfl, hs, fun j hj => ⟨by rw [hv j (by omega), low_at _ _ _ hj], by
      have e : cs.getD j 0 = cs[j] := by simp [List.getD_eq_getElem?_getD, hj]
      show ¬ 255 < cs.getD j 0
      rw [e]; exact h _ (List.getElem_mem _)⟩⟩
  · rw [n32 (by omega)] at hs
    obtain ⟨j, hj, rfl⟩ := List.getElem_of_mem hc
    exact Or.inr ⟨rfl, hs, fun j hj => ⟨by rw [hv _ (by omega), wide_lo _ _ _ hj], by rw [hv _ (by omega), wide_hi _ _ _ hj]⟩, j, hj, by
      have e : cs.getD j 0 = cs[j] := by simp [List.getD_eq_getElem?_getD, hj]
      show 255 < cs.getD j 0
      rw [e]; exact hw⟩
theorem strObj {Z U : State} {a0 : Array Value} {kI : Nat} (wi : (Jvm.Cond.instantiable ST kI).before a0 Z = true) (al : Z.vm.Alike U.vm) {x : Addr} {v0 c0 : Value} (E : RoadKit.Exa Z U.heap x ST) (V : RoadKit.Fld Z U.heap x ST "value" "[B" v0) (C : RoadKit.Fld Z U.heap x ST "coder" "B" c0) :
    ∃ (D : Cell) (fV fC : Field), Blank ST x D U ∧ Found ST "value" "[B" fV U ∧ Found ST "coder" "B" fC U ∧ D.slots[fV.slot]? = some v0 ∧ D.slots[fC.slot]? = some c0 ∧ RoadKit.slotOf Z ST "value" "[B" = fV.slot ∧ RoadKit.slotOf Z ST "coder" "B" = fC.slot := by
  obtain ⟨D, cfV, kV, iV, fV, hD, gV, stV, knV, obV, asV, slV⟩ := V
  obtain ⟨D', cfC, kC, iC, fC, hD', gC, stC, -, -, asC, slC⟩ := C
  cases hD.symm.trans hD'
  obtain ⟨D2, kD, e1, e2, e3, e4, e5⟩ := E
  cases hD.symm.trans e1
  obtain ⟨c2, k2, i1, i2, i3, -⟩ := Cond.instantiable_spec wi
  cases e2.symm.trans i1
  cases e3.symm.trans i2
  obtain ⟨kU, u1, u2⟩ := al.2.2 _ _ e3
  exact ⟨D, fV, fC, ⟨hD, ⟨knV, fun q hq => by rw [hq] at obV; cases obV⟩, by rw [al.findClass]; exact e2, kU, u1, by rw [u2]; exact i3, by rw [u2]; exact e5 i3⟩, ⟨SBG.found_only al ⟨cfV, kV, iV, gV⟩, stV⟩, ⟨SBG.found_only al ⟨cfC, kC, iC, gC⟩, stC⟩, slV, slC, by simp [RoadKit.slotOf, gV], by simp [RoadKit.slotOf, gC]⟩
theorem sta_is {Z U : State} (al : Z.vm.Alike U.vm) {C n d : String} {v : Value} (S : RoadKit.Sta Z U.heap C n d v) : StaticIs U C n d v := by
  obtain ⟨cfS, iS, kS, fS, st, cS, t1, t2, t3, t4, t5, t6, t7⟩ := S
  exact StaticIs.there (s := { Z with heap := U.heap }) ⟨cfS, iS, kS, fS, st, cS, t1, t2, t3, t4, t5, (fun q => by rw [q] at t6; cases t6), t7⟩ al rfl
theorem lenW {p : Program} {l : Launch} {e : Env} {R : Room} {s : State} {args : Array Value} {below : List Frame} {len W : Nat} {Z : State} {a0 : Array Value} {h : Heap} (hZ : Z.Warmed39 s.vm) (hw : ∀ d ∈ wordsLen, d.before a0 Z = true) {kI : Nat} (wi : (Jvm.Cond.instantiable ST kI).before a0 Z = true)
    {x t : Addr} {kb : ClassId} {cs : List Int32} {cd N2 z : Int32} {vs : List Value} (E : RoadKit.Exa Z h x ST) (V : RoadKit.Fld Z h x ST "value" "[B" (.ref t)) (C : RoadKit.Fld Z h x ST "coder" "B" (.int cd)) (K : RoadKit.Arv Z h t kb .byte N2 vs (.int 0)) (hc : CodA cs cd N2 vs) (hb : ∀ c ∈ cs, ¬ c < 0 ∧ ¬ (65535 : Int32) < c)
    (S : RoadKit.Sta Z h ST "COMPACT_STRINGS" "Z" (.int z)) (hz : ¬ z = 0) (l2 : cs.length ≤ 4000) (hfr : 2 ≤ R.frames) (hlo : W + 25 ≤ R.locals) :
    Back l R p e below s args (⟨"java/lang/String", "length", "()I"⟩ : MethodName) len W (fun P a => a = #[.ref x] ∧ P.U.heap = h ∧ P.cells + 0 ≤ R.cells ∧ P.slots + 0 ≤ R.slots)
      (fun P _ v B => ∃ L, (v = some (.int (Int32.ofNat cs.length)) ∧ L = [] ∧ B.U.heap = h) ∧ B.locs = P.locs ++ L ∧ B.cells = P.cells + 0 ∧ B.slots = P.slots + 0) := by
  obtain ⟨A, K1, K2, K3, K4, K5, K6⟩ := K
  have hcod := hc.cod (by omega) K3 K5
  intro m meth c P g ig mk a X hg hsize hdg hW hn hp'
  obtain ⟨rfl, rfl, r1, r2⟩ := hp'
  have al : Z.vm.Alike P.U.vm := hZ.alike.trans X.warmed.alike
  obtain ⟨D, fV, fC, hB, F1, F2, g1, g2, -, -⟩ := strObj wi al E V C
  have hx : Txt x t A cd cs.length (fun j => cs.getD j 0) P.U := ⟨⟨_, hB.2.2.1, D, hB.1, rfl, by cases q : D.vm <;> first | rfl | exact absurd q (hB.2.1.2 _)⟩, Has.of hB F1 g1, Has.of hB F2 g2, ⟨K1.1, State.isArrayOf_alike al K1.2.1, K1.2.2, by rcases hcod with ⟨-, q, -⟩ | ⟨-, q, -⟩ <;> omega⟩, hcod, fun j hj => by
    have e : cs.getD j 0 = cs[j] := by simp [List.getD_eq_getElem?_getD, hj]
    show ¬ cs.getD j 0 < 0 ∧ ¬ 65535 < cs.getD j 0
    rw [e]; exact hb _ (List.getElem_mem _)⟩
  obtain ⟨v, B, X', ⟨⟨hv, hh⟩, hl, hk, hs⟩, st⟩ := Len.pays x t A cd cs.length (fun j => cs.getD j 0) z (tabLen_of (movedLen hZ hw)) hfr hlo m meth c P g ig mk _ X hg hsize hdg hW hn ⟨r1, r2, rfl, hx, sta_is al S, hz⟩
  exact ⟨v, B, X', ⟨[], ⟨hv, rfl, hh⟩, hl, hk, hs⟩, st⟩
end StrChars.Road
namespace StrChars
open Jvm Sem ClassFile Op Lib Jvm.Stand Jvm.Free.XT Jvm.Free.ALB Jvm.Free.JM Jvm.Free
open Jvm.Lib.Cold (StaticIs)
def yv (A : Cell) (i : Nat) : Int32 := match A.slots[i]? with | some (.int x) => x | _ => 0
theorem yv_get {a : Addr} {A : Cell} {U : State} (h : XT.Arr .byte a A U) (ht : Typed .byte A) {i : Nat} (hi : i < A.slots.size) : A.slots[i]? = some (.int (yv A i)) := by
  have e := Array.getElem?_eq_getElem hi
  have f := ht i _ e
  unfold yv; rw [e]
  generalize A.slots[i] = v at f
  cases v <;> simp [fits] at f ⊢
def EqC (A B : Cell) : Prop := A.slots.size = B.slots.size ∧ ∀ i, i < A.slots.size → yv A i = yv B i
def Says01 (q : Prop) (r : Option Value) (s u : State) : Prop := ∃ v : Int32, r = some (.int v) ∧ u.heap = s.heap ∧ ((v = 1 ∧ q) ∨ (v = 0 ∧ ¬ q))
theorem Says01.mv {q : Prop} : ∀ r (U U' V V' : State), U'.heap = U.heap → V.vm.Alike V'.vm → V'.heap = V.heap → Says01 q r U V → Says01 q r U' V' :=
  fun r U U' V V' h1 _ h2 ⟨v, a, b, c⟩ => ⟨v, a, by rw [h1, h2]; exact b, c⟩
namespace LEq
def yN : MethodName := ⟨"java/lang/StringLatin1", "equals", "([B[B)Z"⟩
abbrev yB : ByteArray := jdk_43_method_13_code
theorem d0 : decode yB 0 = .ok (.aload_n 0, 1) := by decide +kernel
theorem d1 : decode yB 1 = .ok (.arraylength, 1) := by decide +kernel
theorem d2 : decode yB 2 = .ok (.aload_n 1, 1) := by decide +kernel
theorem d3 : decode yB 3 = .ok (.arraylength, 1) := by decide +kernel
theorem d4 : decode yB 4 = .ok (.if_icmp (.ne) 30, 3) := by decide +kernel
theorem d7 : decode yB 7 = .ok (.iconst 0, 1) := by decide +kernel
theorem d8 : decode yB 8 = .ok (.istore_n 2, 1) := by decide +kernel
theorem d9 : decode yB 9 = .ok (.iload_n 2, 1) := by decide +kernel
theorem d10 : decode yB 10 = .ok (.aload_n 0, 1) := by decide +kernel
theorem d11 : decode yB 11 = .ok (.arraylength, 1) := by decide +kernel
theorem d12 : decode yB 12 = .ok (.if_icmp (.ge) 20, 3) := by decide +kernel
theorem d15 : decode yB 15 = .ok (.aload_n 0, 1) := by decide +kernel
theorem d16 : decode yB 16 = .ok (.iload_n 2, 1) := by decide +kernel
theorem d17 : decode yB 17 = .ok (.baload, 1) := by decide +kernel
theorem d18 : decode yB 18 = .ok (.aload_n 1, 1) := by decide +kernel
theorem d19 : decode yB 19 = .ok (.iload_n 2, 1) := by decide +kernel
theorem d20 : decode yB 20 = .ok (.baload, 1) := by decide +kernel
theorem d21 : decode yB 21 = .ok (.if_icmp (.eq) 5, 3) := by decide +kernel
theorem d24 : decode yB 24 = .ok (.iconst 0, 1) := by decide +kernel
theorem d25 : decode yB 25 = .ok (.ireturn, 1) := by decide +kernel
theorem d26 : decode yB 26 = .ok (.iinc 2 1, 3) := by decide +kernel
theorem d29 : decode yB 29 = .ok (.goto (-20), 3) := by decide +kernel
theorem d32 : decode yB 32 = .ok (.iconst 1, 1) := by decide +kernel
theorem d33 : decode yB 33 = .ok (.ireturn, 1) := by decide +kernel
theorem d34 : decode yB 34 = .ok (.iconst 0, 1) := by decide +kernel
theorem d35 : decode yB 35 = .ok (.ireturn, 1) := by decide +kernel
def site : List Cond := []
def tab : Cond := tabOf yN yB 3 (some .boolean) site
def P (a : Addr) (A : Cell) (b : Addr) (B : Cell) (args : Array Value) (s : State) : Prop := args = #[.ref a, .ref b] ∧ XT.Arr .byte a A s ∧ Typed .byte A ∧ XT.Arr .byte b B s ∧ Typed .byte B
theorem law (l : Launch) (a : Addr) (A : Cell) (b : Addr) (B : Cell) : Law l yN 2 2 0 0 yB 3 (some .boolean) site (P a A b B) (Says01 (EqC A B)) [] 0 0 := by
  refine Law.of_walk (plainFor_of_name (by decide +kernel)) (by decide +kernel) (by decide +kernel) (by decide) (fun _ _ h => by rw [h.1]; rfl) (fun _ U U' hal hh h => ⟨h.1, h.2.1.mv hal hh, h.2.2.1, h.2.2.2.1.mv hal hh, h.2.2.2.2⟩) (fun r U U' V V' h1 hal h2 h => Says01.mv r U U' V V' h1 hal h2 h) ?_
  intro p e s m args below meth c s₁ X0 hexec hbytes hml hret hlk hnm hown hh0 W hP
  obtain ⟨rfl, hA, tA, hB, tB⟩ := hP
  have a31 := hA.2.2.2
  have b31 := hB.2.2.2
  have hA0 := hA.mv X0.warmed.alike hh0
  have hB0 := hB.mv X0.warmed.alike hh0
  have c1 : Steps p.tables e below (s₁.setTop (entryFrame m #[.ref a, .ref b] 3)) (s₁.setTop (mkF m 0 #[.val (.ref a), .val (.ref b), .unset] [])) := entry rfl
  have c2 : Steps p.tables e below (s₁.setTop (entryFrame m #[.ref a, .ref b] 3)) (s₁.setTop (mkF m 4 #[.val (.ref a), .val (.ref b), .unset] [.int (Int32.ofNat B.slots.size), .int (Int32.ofNat A.slots.size)])) := c1.trans (by
    refine XS.aloadN X0.here hexec rfl (hb hbytes d0) rfl rfl ?_
    refine X0.alen hexec hA0 rfl rfl (hb hbytes d1) ?_
    refine XS.aloadN X0.here hexec rfl (hb hbytes d2) rfl rfl ?_
    refine X0.alen hexec hB0 rfl rfl (hb hbytes d3) ?_
    exact Steps.refl _)
  by_cases hs : A.slots.size = B.slots.size
  · have c3 : Steps p.tables e below (s₁.setTop (entryFrame m #[.ref a, .ref b] 3)) (s₁.setTop (mkF m 9 #[.val (.ref a), .val (.ref b), .val (.int 0)] [])) := c2.trans (by
      refine XS.icmpNo X0.here hexec rfl (hb hbytes d4) rfl (ii_ne_f (by rw [hs])) ?_
      refine iconstV X0.here hexec rfl 0 (hb hbytes d7) (by decide) ?_
      refine XS.istoreN X0.here hexec rfl (hb hbytes d8) rfl rfl ?_
      exact Steps.refl _)
    have loop : ∀ (r i : Nat), i + r = A.slots.size → (∀ j, j < i → yv A j = yv B j) → Steps p.tables e below (s₁.setTop (entryFrame m #[.ref a, .ref b] 3)) (s₁.setTop (mkF m 9 #[.val (.ref a), .val (.ref b), .val (.int (Int32.ofNat i))] [])) → ∃ (pc : Nat) (Ls : Array Slot) (v : Int32), (pc = 25 ∨ pc = 33) ∧ ((v = 1 ∧ EqC A B) ∨ (v = 0 ∧ ¬ EqC A B)) ∧ Steps p.tables e below (s₁.setTop (entryFrame m #[.ref a, .ref b] 3)) (s₁.setTop (mkF m pc Ls [.int v])) := by
      intro r
      induction r with
      | zero =>
        intro i hi he cl
        exact ⟨33, _, 1, Or.inr rfl, Or.inl ⟨rfl, hs, fun j hj => he j (by omega)⟩, cl.trans (by
          refine XS.iloadN X0.here hexec rfl (hb hbytes d9) rfl ?_
          refine XS.aloadN X0.here hexec rfl (hb hbytes d10) rfl rfl ?_
          refine X0.alen hexec hA0 rfl rfl (hb hbytes d11) ?_
          refine XS.icmpYes X0.here hexec rfl (pc0 := 12) rfl (hb hbytes d12) rfl (ii_ge_t (nlt32 (by omega) (by omega))) (by decide) rfl ?_
          refine iconstV X0.here hexec rfl 1 (hb hbytes d32) (by decide) ?_
          exact Steps.refl _)⟩
      | succ r ih =>
        intro i hi he cl
        have c4 : Steps p.tables e below (s₁.setTop (entryFrame m #[.ref a, .ref b] 3)) (s₁.setTop (mkF m 21 #[.val (.ref a), .val (.ref b), .val (.int (Int32.ofNat i))] [.int (yv B i), .int (yv A i)])) := cl.trans (by
          refine XS.iloadN X0.here hexec rfl (hb hbytes d9) rfl ?_
          refine XS.aloadN X0.here hexec rfl (hb hbytes d10) rfl rfl ?_
          refine X0.alen hexec hA0 rfl rfl (hb hbytes d11) ?_
          refine XS.icmpNo X0.here hexec rfl (hb hbytes d12) rfl (ii_ge_f (lt32 (by omega) (by omega))) ?_
          refine XS.aloadN X0.here hexec rfl (hb hbytes d15) rfl rfl ?_
          refine XS.iloadN X0.here hexec rfl (hb hbytes d16) rfl ?_
          refine X0.aget hexec hA0 rfl (yv_get hA tA (i := i) (by omega)) rfl rfl (hb hbytes d17) ?_
          refine XS.aloadN X0.here hexec rfl (hb hbytes d18) rfl rfl ?_
          refine XS.iloadN X0.here hexec rfl (hb hbytes d19) rfl ?_
          refine X0.aget hexec hB0 rfl (yv_get hB tB (i := i) (by omega)) rfl rfl (hb hbytes d20) ?_
          exact Steps.refl _)
        by_cases hv : yv A i = yv B i
        · have c5 : Steps p.tables e below (s₁.setTop (entryFrame m #[.ref a, .ref b] 3)) (s₁.setTop (mkF m 9 #[.val (.ref a), .val (.ref b), .val (.int (Int32.ofNat i + 1))] [])) := c4.trans (by
            refine XS.icmpYes X0.here hexec rfl (pc0 := 21) rfl (hb hbytes d21) rfl (ii_eq_t hv) (by decide) rfl ?_
            refine iincV X0.here hexec rfl 1 (hb hbytes d26) (by decide) rfl rfl ?_
            refine XS.goto X0.here hexec rfl (pc0 := 29) rfl (hb hbytes d29) (by decide) rfl ?_
            exact Steps.refl _)
          rw [succ32] at c5
          exact ih (i + 1) (by omega) (fun j hj => by
            by_cases e : j = i
            · rw [e]; exact hv
            · exact he j (by omega)) c5
        · exact ⟨25, _, 0, Or.inl rfl, Or.inr ⟨rfl, fun q => hv (q.2 i (by omega))⟩, c4.trans (by
            refine XS.icmpNo X0.here hexec rfl (hb hbytes d21) rfl (ii_eq_f hv) ?_
            refine iconstV X0.here hexec rfl 0 (hb hbytes d24) (by decide) ?_
            exact Steps.refl _)⟩
    obtain ⟨pc, Ls, v, hpc, hv, cz⟩ := loop A.slots.size 0 (by omega) (fun j hj => absurd hj (Nat.not_lt_zero j)) c3
    have nv : narrow .boolean (.int v) = .int v := by rcases hv with ⟨rfl, -⟩ | ⟨rfl, -⟩ <;> rfl
    rcases hpc with rfl | rfl
    · exact ⟨s₁, some (.int v), _, _, _, X0, rfl, rfl, rfl, (fun h => by cases h), ⟨v, rfl, hh0, hv⟩, fun fs hl => cz.trans (X0.ireturnOut hexec hret nv (Or.inr (Or.inl rfl)) (hb hbytes d25) hl)⟩
    · exact ⟨s₁, some (.int v), _, _, _, X0, rfl, rfl, rfl, (fun h => by cases h), ⟨v, rfl, hh0, hv⟩, fun fs hl => cz.trans (X0.ireturnOut hexec hret nv (Or.inr (Or.inl rfl)) (hb hbytes d33) hl)⟩
  · have c3 : Steps p.tables e below (s₁.setTop (entryFrame m #[.ref a, .ref b] 3)) (s₁.setTop (mkF m 35 #[.val (.ref a), .val (.ref b), .unset] [.int 0])) := c2.trans (by
      refine XS.icmpYes X0.here hexec rfl (pc0 := 4) rfl (hb hbytes d4) rfl (ii_ne_t (ne32 a31 b31 hs)) (by decide) rfl ?_
      refine iconstV X0.here hexec rfl 0 (hb hbytes d34) (by decide) ?_
      exact Steps.refl _)
    exact ⟨s₁, some (.int 0), _, _, _, X0, rfl, rfl, rfl, (fun h => by cases h), ⟨0, rfl, hh0, Or.inr ⟨rfl, fun q => hs q.1⟩⟩, fun fs hl => c3.trans (X0.ireturnOut hexec hret rfl (Or.inr (Or.inl rfl)) (hb hbytes d35) hl)⟩
end LEq
theorem Cod.ty {cd : Int32} {n : Nat} {f : Nat → Int32} {V : Cell} (h : Cod cd n f V) : Typed .byte V := fun i v hv => by
  have hi : i < V.slots.size := (Array.getElem?_eq_some_iff.mp hv).1
  rcases h with ⟨-, k1, k2⟩ | ⟨-, k1, k2, -⟩
  · rw [(k2 i (by omega)).1] at hv; cases hv; exact fits_lo8 _
  · rcases Nat.mod_two_eq_zero_or_one i with e | e
    · obtain ⟨j, rfl⟩ : ∃ j, i = 2 * j := ⟨i / 2, by omega⟩
      rw [(k2 j (by omega)).1] at hv; cases hv; exact fits_lo8 _
    · obtain ⟨j, rfl⟩ : ∃ j, i = 2 * j + 1 := ⟨i / 2, by omega⟩
      rw [(k2 j (by omega)).2] at hv; cases hv; exact fits_lo8 _
def SameT (n : Nat) (f : Nat → Int32) (k : Nat) (g : Nat → Int32) : Prop := n = k ∧ ∀ j, j < n → f j = g j
theorem lo8_inj {x y : Int32} (h0 : ¬ x < 0) (h1 : ¬ 255 < x) (k0 : ¬ y < 0) (k1 : ¬ 255 < y) (h : lo8 x = lo8 y) : x = y := by
  rw [← lo8_mask h0 h1, ← lo8_mask k0 k1, h]
theorem Cod.eqv {cd : Int32} {n k : Nat} {f g : Nat → Int32} {V V' : Cell} (h : Cod cd n f V) (h' : Cod cd k g V') (hf : ∀ j, j < n → ¬ f j < 0 ∧ ¬ 65535 < f j) (hg : ∀ j, j < k → ¬ g j < 0 ∧ ¬ 65535 < g j) : EqC V V' ↔ SameT n f k g := by
  have yvv : ∀ {W : Cell} {i : Nat} {x : Int32}, W.slots[i]? = some (.int x) → yv W i = x := fun q => by unfold yv; rw [q]
  rcases h with ⟨rfl, k1, k2⟩ | ⟨rfl, k1, k2, -⟩
  · rcases h' with ⟨-, m1, m2⟩ | ⟨e, -⟩
    · constructor
      · rintro ⟨e1, e2⟩
        refine ⟨by omega, fun j hj => ?_⟩
        have q := e2 j (by omega)
        rw [yvv (k2 j hj).1, yvv (m2 j (by omega)).1] at q
        exact lo8_inj (hf j hj).1 (k2 j hj).2 (hg j (by omega)).1 (m2 j (by omega)).2 q
      · rintro ⟨rfl, e2⟩
        refine ⟨by omega, fun j hj => ?_⟩
        rw [yvv (k2 j (by omega)).1, yvv (m2 j (by omega)).1, e2 j (by omega)]
    · exact absurd e (by decide)
  · rcases h' with ⟨e, -⟩ | ⟨-, m1, m2, -⟩
    · exact absurd e (by decide)
    · constructor
      · rintro ⟨e1, e2⟩
        refine ⟨by omega, fun j hj => ?_⟩
        have q1 := e2 (2 * j) (by omega)
        have q2 := e2 (2 * j + 1) (by omega)
        rw [yvv (k2 j hj).1, yvv (m2 j (by omega)).1] at q1
        rw [yvv (k2 j hj).2, yvv (m2 j (by omega)).2] at q2
        rw [← pair_says (hf j hj).1 (hf j hj).2, ← pair_says (hg j (by omega)).1 (hg j (by omega)).2, q1, q2]
      · rintro ⟨rfl, e2⟩
        refine ⟨by omega, fun i hi => ?_⟩
        rcases Nat.mod_two_eq_zero_or_one i with e | e
        · obtain ⟨j, rfl⟩ : ∃ j, i = 2 * j := ⟨i / 2, by omega⟩
          rw [yvv (k2 j (by omega)).1, yvv (m2 j (by omega)).1, e2 j (by omega)]
        · obtain ⟨j, rfl⟩ : ∃ j, i = 2 * j + 1 := ⟨i / 2, by omega⟩
          rw [yvv (k2 j (by omega)).2, yvv (m2 j (by omega)).2, e2 j (by omega)]
theorem Cod.dif {cd cd' : Int32} {n k : Nat} {f g : Nat → Int32} {V V' : Cell} (h : Cod cd n f V) (h' : Cod cd' k g V') (hne : ¬ cd = cd') : ¬ SameT n f k g := by
  rintro ⟨rfl, e⟩
  rcases h with ⟨rfl, -, k2⟩ | ⟨rfl, -, -, j, hj, hw⟩
  · rcases h' with ⟨rfl, -⟩ | ⟨-, -, -, j, hj, hw⟩
    · exact hne rfl
    · exact (k2 j hj).2 (by rw [e j hj]; exact hw)
  · rcases h' with ⟨-, -, m2⟩ | ⟨rfl, -⟩
    · exact (m2 j hj).2 (by rw [← e j hj]; exact hw)
    · exact hne rfl
theorem cinst {p : Program} {l : Launch} {e : Env} {R : Room} {s : State} {m : MethodId} {args : Array Value} {below : List Frame} {meth : Method} {c : Code} {T : State} {locs : List Loc} {cells slots : Nat} (X : Stand p l e R s m args below meth c T locs cells slots) (hexec : p.tables.exec = Jvm.exec) {own C : String} {index : Nat} (hown : s.vm.findClass own = some m.cls) (hlink : (Cond.classLink own index C).before args s = true) {a : Addr} (hE : Exact C a T)
    {g : JFrame} (hg : g.method = m) {rest : List Value} (hstack : g.stack = .ref a :: rest) (hdg : decode c.code g.pc = .ok (.instanceof index, 3)) :
    ∃ T', Stand p l e R s m args below meth c T' locs cells slots ∧ T'.heap = T.heap ∧ ∀ target, Steps p.tables e below (T'.setTop { g with pc := g.pc + 3, stack := .int 1 :: rest }) target → Steps p.tables e below (T.setTop g) target := by
  obtain ⟨cB, h1, D, h2, h3, h4⟩ := hE
  have h1' : s.vm.findClass C = some cB := by rw [← X.warmed.alike.findClass]; exact h1
  obtain ⟨vm', X', st⟩ := X.instanceofYes hexec hown hlink h2 h4 h1' (by rw [h3]; exact Jvm.Free.SB.assignable_self _ _) hg hstack hdg
  exact ⟨_, X', rfl, st⟩
theorem cself {p : Program} {l : Launch} {e : Env} {R : Room} {s : State} {m : MethodId} {args : Array Value} {below : List Frame} {meth : Method} {c : Code} {T : State} {locs : List Loc} {cells slots : Nat} (X : Stand p l e R s m args below meth c T locs cells slots) (hexec : p.tables.exec = Jvm.exec) {own C : String} {index : Nat} (hown : s.vm.findClass own = some m.cls) (hlink : (Cond.classLink own index C).before args s = true) {a : Addr} (hE : Exact C a T)
    {g : JFrame} (hg : g.method = m) {rest : List Value} (hstack : g.stack = .ref a :: rest) (hdg : decode c.code g.pc = .ok (.checkcast index, 3)) :
    ∃ T', Stand p l e R s m args below meth c T' locs cells slots ∧ T'.heap = T.heap ∧ ∀ target, Steps p.tables e below (T'.setTop { g with pc := g.pc + 3, stack := .ref a :: rest }) target → Steps p.tables e below (T.setTop g) target := by
  obtain ⟨cB, h1, D, h2, h3, h4⟩ := hE
  have h1' : s.vm.findClass C = some cB := by rw [← X.warmed.alike.findClass]; exact h1
  obtain ⟨vm', X', st⟩ := X.checkcastYes hexec hown hlink h2 h4 h1' (by rw [h3]; exact Jvm.Free.SB.assignable_self _ _) hg hstack hdg
  exact ⟨_, X', rfl, fun t h => st t (by rw [← hstack] at h; exact h)⟩
namespace SEq
def yN : MethodName := ⟨"java/lang/String", "equals", "(Ljava/lang/Object;)Z"⟩
abbrev yB : ByteArray := jdk_42_method_66_code
theorem d0 : decode yB 0 = .ok (.aload_n 0, 1) := by decide +kernel
theorem d1 : decode yB 1 = .ok (.aload_n 1, 1) := by decide +kernel
theorem d2 : decode yB 2 = .ok (.if_acmp (.ne) 5, 3) := by decide +kernel
theorem d5 : decode yB 5 = .ok (.iconst 1, 1) := by decide +kernel
theorem d6 : decode yB 6 = .ok (.ireturn, 1) := by decide +kernel
theorem d7 : decode yB 7 = .ok (.aload_n 1, 1) := by decide +kernel
theorem d8 : decode yB 8 = .ok (.instanceof 10, 3) := by decide +kernel
theorem d11 : decode yB 11 = .ok (.ifCond (.eq) 43, 3) := by decide +kernel
theorem d14 : decode yB 14 = .ok (.aload_n 1, 1) := by decide +kernel
theorem d15 : decode yB 15 = .ok (.checkcast 10, 3) := by decide +kernel
theorem d18 : decode yB 18 = .ok (.astore_n 2, 1) := by decide +kernel
theorem d19 : decode yB 19 = .ok (.getstatic 38, 3) := by decide +kernel
theorem d22 : decode yB 22 = .ok (.ifCond (.eq) 14, 3) := by decide +kernel
theorem d25 : decode yB 25 = .ok (.aload_n 0, 1) := by decide +kernel
theorem d26 : decode yB 26 = .ok (.getfield 15, 3) := by decide +kernel
theorem d29 : decode yB 29 = .ok (.aload_n 2, 1) := by decide +kernel
theorem d30 : decode yB 30 = .ok (.getfield 15, 3) := by decide +kernel
theorem d33 : decode yB 33 = .ok (.if_icmp (.ne) 21, 3) := by decide +kernel
theorem d36 : decode yB 36 = .ok (.aload_n 0, 1) := by decide +kernel
theorem d37 : decode yB 37 = .ok (.getfield 9, 3) := by decide +kernel
theorem d40 : decode yB 40 = .ok (.aload_n 2, 1) := by decide +kernel
theorem d41 : decode yB 41 = .ok (.getfield 9, 3) := by decide +kernel
theorem d44 : decode yB 44 = .ok (.invokestatic 541, 3) := by decide +kernel
theorem d47 : decode yB 47 = .ok (.ifCond (.eq) 7, 3) := by decide +kernel
theorem d50 : decode yB 50 = .ok (.iconst 1, 1) := by decide +kernel
theorem d51 : decode yB 51 = .ok (.goto 4, 3) := by decide +kernel
theorem d54 : decode yB 54 = .ok (.iconst 0, 1) := by decide +kernel
theorem d55 : decode yB 55 = .ok (.ireturn, 1) := by decide +kernel
def site : List Cond := [.classLink "java/lang/String" 10 "java/lang/String", .fieldLink "java/lang/String" 38 "java/lang/String" "COMPACT_STRINGS" "Z", .fieldLink "java/lang/String" 15 "java/lang/String" "coder" "B", .fieldLink "java/lang/String" 9 "java/lang/String" "value" "[B", LEq.tab] ++ staticW "java/lang/String" 541 LEq.yN
def tab : Cond := tabOf yN yB 3 (some .boolean) site
def P (x t : Addr) (V : Cell) (cd : Int32) (n : Nat) (f : Nat → Int32) (y t' : Addr) (V' : Cell) (cd' : Int32) (k : Nat) (g : Nat → Int32) (z : Int32) (args : Array Value) (s : State) : Prop := args = #[.ref x, .ref y] ∧ Txt x t V cd n f s ∧ Txt y t' V' cd' k g s ∧ StaticIs s "java/lang/String" "COMPACT_STRINGS" "Z" (.int z) ∧ ¬ z = 0
theorem law (l : Launch) (x t : Addr) (V : Cell) (cd : Int32) (n : Nat) (f : Nat → Int32) (y t' : Addr) (V' : Cell) (cd' : Int32) (k : Nat) (g : Nat → Int32) (z : Int32) : Law l yN 2 1 1 14 yB 3 (some .boolean) site (P x t V cd n f y t' V' cd' k g z) (Says01 (SameT n f k g)) [] 0 0 := by
  refine Law.of_walk (plainFor_of_name (by decide +kernel)) (by decide +kernel) (by decide +kernel) (by decide) (fun _ _ h => by rw [h.1]; rfl) (fun _ U U' hal hh h => ⟨h.1, h.2.1.mv hal hh, h.2.2.1.mv hal hh, h.2.2.2.1.there hal hh, h.2.2.2.2⟩) (fun r U U' V V' h1 hal h2 h => Says01.mv r U U' V V' h1 hal h2 h) ?_
  intro p e s m args below meth c s₁ X0 hexec hbytes hml hret hlk hnm hown hh0 W hP
  obtain ⟨rfl, hx, hy, s1, hz⟩ := hP
  have c1 : Steps p.tables e below (s₁.setTop (entryFrame m #[.ref x, .ref y] 3)) (s₁.setTop (mkF m 2 #[.val (.ref x), .val (.ref y), .unset] [.ref y, .ref x])) := Steps.trans (entry rfl) (by
    show Steps p.tables e below (s₁.setTop (mkF m 0 #[.val (.ref x), .val (.ref y), .unset] [])) _
    refine XS.aloadN X0.here hexec rfl (hb hbytes d0) rfl rfl ?_
    refine XS.aloadN X0.here hexec rfl (hb hbytes d1) rfl rfl ?_
    exact Steps.refl _)
  by_cases hxy : x = y
  · have c2 : Steps p.tables e below (s₁.setTop (entryFrame m #[.ref x, .ref y] 3)) (s₁.setTop (mkF m 6 #[.val (.ref x), .val (.ref y), .unset] [.int 1])) := c1.trans (by
      refine acmpNo X0.here hexec rfl (hb hbytes d2) rfl rfl rfl (by simp [acmp, hxy]) ?_
      refine iconstV X0.here hexec rfl 1 (hb hbytes d5) (by decide) ?_
      exact Steps.refl _)
    subst hxy
    have ec : cd = cd' := by
      obtain ⟨D, fd, a1, a2, a3⟩ := hx.2.2.1
      obtain ⟨D', fd', b1, b2, b3⟩ := hy.2.2.1
      cases a1.symm.trans b1
      obtain ⟨q1, q2, q3, q4⟩ := a2.1
      obtain ⟨r1, r2, r3, r4⟩ := b2.1
      cases q4.symm.trans r4
      cases a3.symm.trans b3; rfl
    have et : t = t' := by
      obtain ⟨D, fd, a1, a2, a3⟩ := hx.2.1
      obtain ⟨D', fd', b1, b2, b3⟩ := hy.2.1
      cases a1.symm.trans b1
      obtain ⟨q1, q2, q3, q4⟩ := a2.1
      obtain ⟨r1, r2, r3, r4⟩ := b2.1
      cases q4.symm.trans r4
      cases a3.symm.trans b3; rfl
    subst ec et
    have ev : V = V' := by cases hx.2.2.2.1.1.symm.trans hy.2.2.2.1.1; rfl
    subst ev
    have hs : SameT n f k g := (Cod.eqv hx.2.2.2.2.1 hy.2.2.2.2.1 hx.2.2.2.2.2 hy.2.2.2.2.2).mp ⟨rfl, fun _ _ => rfl⟩
    exact ⟨s₁, some (.int 1), _, _, _, X0, rfl, rfl, rfl, (fun h => by cases h), ⟨1, rfl, hh0, Or.inl ⟨rfl, hs⟩⟩, fun fs hl => c2.trans (X0.ireturnOut hexec hret rfl (Or.inr (Or.inl rfl)) (hb hbytes d6) hl)⟩
  · have c2 : Steps p.tables e below (s₁.setTop (entryFrame m #[.ref x, .ref y] 3)) (s₁.setTop (mkF m 8 #[.val (.ref x), .val (.ref y), .unset] [.ref y])) := c1.trans (by
      refine acmpYes X0.here hexec rfl (pc0 := 2) rfl (hb hbytes d2) rfl rfl rfl (by simp [acmp, hxy]) (by decide) rfl ?_
      refine XS.aloadN X0.here hexec rfl (hb hbytes d7) rfl rfl ?_
      exact Steps.refl _)
    obtain ⟨T3, X3, q3, st3⟩ := cinst X0 hexec hown (wk W (.classLink "java/lang/String" 10 "java/lang/String")) (hy.mv X0.warmed.alike hh0).1 (g := (mkF m 8 #[.val (.ref x), .val (.ref y), .unset] [.ref y])) rfl (rest := []) rfl (hb hbytes d8)
    have hh3 := q3.trans hh0
    have c4 : Steps p.tables e below (s₁.setTop (entryFrame m #[.ref x, .ref y] 3)) (T3.setTop (mkF m 15 #[.val (.ref x), .val (.ref y), .unset] [.ref y])) := (c2.trans (st3 _ (Steps.refl _))).trans (by
      refine XS.ifNo X3.here hexec rfl (hb hbytes d11) rfl (i0_eq_f (by decide)) ?_
      refine XS.aloadN X3.here hexec rfl (hb hbytes d14) rfl rfl ?_
      exact Steps.refl _)
    obtain ⟨T5, X5, q5, st5⟩ := cself X3 hexec hown (wk W (.classLink "java/lang/String" 10 "java/lang/String")) (hy.mv X3.warmed.alike hh3).1 (g := (mkF m 15 #[.val (.ref x), .val (.ref y), .unset] [.ref y])) rfl (rest := []) rfl (hb hbytes d15)
    have hh5 := q5.trans hh3
    have c6 : Steps p.tables e below (s₁.setTop (entryFrame m #[.ref x, .ref y] 3)) (T5.setTop (mkF m 19 #[.val (.ref x), .val (.ref y), .val (.ref y)] [])) := (c4.trans (st5 _ (Steps.refl _))).trans (by
      refine XS.astoreN X5.here hexec rfl (hb hbytes d18) rfl rfl rfl ?_
      exact Steps.refl _)
    obtain ⟨T7, X7, q7, st7⟩ := X5.sget hexec hown (wk W (.fieldLink "java/lang/String" 38 "java/lang/String" "COMPACT_STRINGS" "Z")) s1 (fun _ _ h => by rw [hh5]; exact h) (g := (mkF m 19 #[.val (.ref x), .val (.ref y), .val (.ref y)] [])) rfl (hb hbytes d19)
    have hh7 := q7.trans hh5
    have c8 : Steps p.tables e below (s₁.setTop (entryFrame m #[.ref x, .ref y] 3)) (T7.setTop (mkF m 26 #[.val (.ref x), .val (.ref y), .val (.ref y)] [.ref x])) := (c6.trans (st7 _ (Steps.refl _))).trans (by
      refine XS.ifNo X7.here hexec rfl (hb hbytes d22) rfl (i0_eq_f hz) ?_
      refine XS.aloadN X7.here hexec rfl (hb hbytes d25) rfl rfl ?_
      exact Steps.refl _)
    obtain ⟨T9, X9, q9, st9⟩ := X7.hget hexec hown (wk W (.fieldLink "java/lang/String" 15 "java/lang/String" "coder" "B")) (hx.mv X7.warmed.alike hh7).2.2.1 (g := (mkF m 26 #[.val (.ref x), .val (.ref y), .val (.ref y)] [.ref x])) rfl (rest := []) rfl (hb hbytes d26)
    have hh9 := q9.trans hh7
    have c10 : Steps p.tables e below (s₁.setTop (entryFrame m #[.ref x, .ref y] 3)) (T9.setTop (mkF m 30 #[.val (.ref x), .val (.ref y), .val (.ref y)] [.ref y, .int cd])) := (c8.trans (st9 _ (Steps.refl _))).trans (by
      refine XS.aloadN X9.here hexec rfl (hb hbytes d29) rfl rfl ?_
      exact Steps.refl _)
    obtain ⟨T11, X11, q11, st11⟩ := X9.hget hexec hown (wk W (.fieldLink "java/lang/String" 15 "java/lang/String" "coder" "B")) (hy.mv X9.warmed.alike hh9).2.2.1 (g := (mkF m 30 #[.val (.ref x), .val (.ref y), .val (.ref y)] [.ref y, .int cd])) rfl (rest := [.int cd]) rfl (hb hbytes d30)
    have hh11 := q11.trans hh9
    have c12 : Steps p.tables e below (s₁.setTop (entryFrame m #[.ref x, .ref y] 3)) (T11.setTop (mkF m 33 #[.val (.ref x), .val (.ref y), .val (.ref y)] [.int cd', .int cd])) := c10.trans (st11 _ (Steps.refl _))
    by_cases hcd : cd = cd'
    · subst hcd
      have c13 : Steps p.tables e below (s₁.setTop (entryFrame m #[.ref x, .ref y] 3)) (T11.setTop (mkF m 37 #[.val (.ref x), .val (.ref y), .val (.ref y)] [.ref x])) := c12.trans (by
        refine XS.icmpNo X11.here hexec rfl (hb hbytes d33) rfl (ii_ne_f rfl) ?_
        refine XS.aloadN X11.here hexec rfl (hb hbytes d36) rfl rfl ?_
        exact Steps.refl _)
      obtain ⟨T14, X14, q14, st14⟩ := X11.hget hexec hown (wk W (.fieldLink "java/lang/String" 9 "java/lang/String" "value" "[B")) (hx.mv X11.warmed.alike hh11).2.1 (g := (mkF m 37 #[.val (.ref x), .val (.ref y), .val (.ref y)] [.ref x])) rfl (rest := []) rfl (hb hbytes d37)
      have hh14 := q14.trans hh11
      have c15 : Steps p.tables e below (s₁.setTop (entryFrame m #[.ref x, .ref y] 3)) (T14.setTop (mkF m 41 #[.val (.ref x), .val (.ref y), .val (.ref y)] [.ref y, .ref t])) := (c13.trans (st14 _ (Steps.refl _))).trans (by
        refine XS.aloadN X14.here hexec rfl (hb hbytes d40) rfl rfl ?_
        exact Steps.refl _)
      obtain ⟨T16, X16, q16, st16⟩ := X14.hget hexec hown (wk W (.fieldLink "java/lang/String" 9 "java/lang/String" "value" "[B")) (hy.mv X14.warmed.alike hh14).2.1 (g := (mkF m 41 #[.val (.ref x), .val (.ref y), .val (.ref y)] [.ref y, .ref t])) rfl (rest := [.ref t]) rfl (hb hbytes d41)
      have hh16 := q16.trans hh14
      have c17 : Steps p.tables e below (s₁.setTop (entryFrame m #[.ref x, .ref y] 3)) (T16.setTop (mkF m 44 #[.val (.ref x), .val (.ref y), .val (.ref y)] [.ref t', .ref t])) := c15.trans (st16 _ (Steps.refl _))
      obtain ⟨v18, T18, X18, E18, g18⟩ := X16.callS hexec (LEq.law l t V t' V') hown (wks W (staticW "java/lang/String" 541 LEq.yN)) (wk W LEq.tab) (W := 0) (Nat.le_of_ble_eq_true rfl) (Nat.le_of_ble_eq_true rfl) (Nat.le_refl _) (Nat.le_refl _) (g := (mkF m 44 #[.val (.ref x), .val (.ref y), .val (.ref y)] [.ref t', .ref t])) rfl (by rw [hml]; rfl) c17 (argsL := [.ref t, .ref t']) (rest := []) rfl rfl (by show 2 * 0 + 0 ≤ _; decide) (hb hbytes d44) (⟨rfl, hx.2.2.2.1.mv X16.warmed.alike hh16, hx.2.2.2.2.1.ty, hy.2.2.2.1.mv X16.warmed.alike hh16, hy.2.2.2.2.1.ty⟩)
      obtain ⟨v, rfl, q18, hv⟩ := E18
      have iff := Cod.eqv hx.2.2.2.2.1 hy.2.2.2.2.1 hx.2.2.2.2.2 hy.2.2.2.2.2
      rcases hv with ⟨rfl, he⟩ | ⟨rfl, he⟩
      · have c19 : Steps p.tables e below (s₁.setTop (entryFrame m #[.ref x, .ref y] 3)) (T18.setTop (mkF m 55 #[.val (.ref x), .val (.ref y), .val (.ref y)] [.int 1])) := Steps.trans g18 (by
          refine XS.ifNo X18.here hexec rfl (hb hbytes d47) rfl (i0_eq_f (by decide)) ?_
          refine iconstV X18.here hexec rfl 1 (hb hbytes d50) (by decide) ?_
          refine XS.goto X18.here hexec rfl (pc0 := 51) rfl (hb hbytes d51) (by decide) rfl ?_
          exact Steps.refl _)
        exact ⟨T18, some (.int 1), _, _, _, X18, rfl, rfl, rfl, (fun h => by cases h), ⟨1, rfl, q18.trans hh16, Or.inl ⟨rfl, iff.mp he⟩⟩, fun fs hl => c19.trans (X18.ireturnOut hexec hret rfl (Or.inr (Or.inl rfl)) (hb hbytes d55) hl)⟩
      · have c19 : Steps p.tables e below (s₁.setTop (entryFrame m #[.ref x, .ref y] 3)) (T18.setTop (mkF m 55 #[.val (.ref x), .val (.ref y), .val (.ref y)] [.int 0])) := Steps.trans g18 (by
          refine XS.ifYes X18.here hexec rfl (pc0 := 47) rfl (hb hbytes d47) rfl (i0_eq_t rfl) (by decide) rfl ?_
          refine iconstV X18.here hexec rfl 0 (hb hbytes d54) (by decide) ?_
          exact Steps.refl _)
        exact ⟨T18, some (.int 0), _, _, _, X18, rfl, rfl, rfl, (fun h => by cases h), ⟨0, rfl, q18.trans hh16, Or.inr ⟨rfl, fun q => he (iff.mpr q)⟩⟩, fun fs hl => c19.trans (X18.ireturnOut hexec hret rfl (Or.inr (Or.inl rfl)) (hb hbytes d55) hl)⟩
    · have c13 : Steps p.tables e below (s₁.setTop (entryFrame m #[.ref x, .ref y] 3)) (T11.setTop (mkF m 55 #[.val (.ref x), .val (.ref y), .val (.ref y)] [.int 0])) := c12.trans (by
        refine XS.icmpYes X11.here hexec rfl (pc0 := 33) rfl (hb hbytes d33) rfl (ii_ne_t hcd) (by decide) rfl ?_
        refine iconstV X11.here hexec rfl 0 (hb hbytes d54) (by decide) ?_
        exact Steps.refl _)
      exact ⟨T11, some (.int 0), _, _, _, X11, rfl, rfl, rfl, (fun h => by cases h), ⟨0, rfl, hh11, Or.inr ⟨rfl, Cod.dif hx.2.2.2.2.1 hy.2.2.2.2.1 hcd⟩⟩, fun fs hl => c13.trans (X11.ireturnOut hexec hret rfl (Or.inr (Or.inl rfl)) (hb hbytes d55) hl)⟩
theorem pays {l : Launch} {R : Room} {p : Program} {e : Env} {below : List Frame} {s : State} {sargs : Array Value} {len W : Nat} (x t : Addr) (V : Cell) (cd : Int32) (n : Nat) (f : Nat → Int32) (y t' : Addr) (V' : Cell) (cd' : Int32) (k : Nat) (g : Nat → Int32) (z : Int32) (htab : tab.before sargs s = true) (hfr : 2 ≤ R.frames) (hlo : W + 28 ≤ R.locals) :
    Back l R p e below s sargs yN len W (fun A₁ a₁ => A₁.cells + 0 ≤ R.cells ∧ A₁.slots + 0 ≤ R.slots ∧ P x t V cd n f y t' V' cd' k g z a₁ A₁.U) (fun A₁ _ v₁ B₁ => Says01 (SameT n f k g) v₁ A₁.U B₁.U ∧ B₁.locs = A₁.locs ++ [] ∧ B₁.cells = A₁.cells + 0 ∧ B₁.slots = A₁.slots + 0) :=
  (law l x t V cd n f y t' V' cd' k g z).pays htab hfr (by omega)
end SEq
end StrChars
namespace StrChars.Road
open Jvm Sem ClassFile Op Lib Jvm.Stand Jvm.Free Jvm.Free.XT
open Jvm.Lib.Cold (StaticIs)
abbrev wordsEq : List Jvm.Cond := [.code SEq.yN SEq.yB 3 (some .boolean), .initialized ST, .classLink ST 10 ST, .fieldLink ST 38 ST "COMPACT_STRINGS" "Z", .fieldLink ST 15 ST "coder" "B", .fieldLink ST 9 ST "value" "[B", .methodLink ST 541 LEq.yN, .static LEq.yN, .code LEq.yN LEq.yB 3 (some .boolean), .initialized "java/lang/StringLatin1"]
theorem tabEq_of {a : Array Value} {s : State} (h : ∀ w ∈ wordsEq, w.before a s = true) : SEq.tab.before a s = true := by
  have hl : LEq.tab.before a s = true := unparts (wk h (.code LEq.yN LEq.yB 3 (some .boolean))) (wks h (.initialized LEq.yN.cls :: LEq.site))
  have q := consq hl h
  exact unparts (wk q (.code SEq.yN SEq.yB 3 (some .boolean))) (wks q (.initialized SEq.yN.cls :: SEq.site))
theorem movedEq {Z s : State} {a0 args : Array Value} (hZ : Z.Warmed39 s.vm) (hw : ∀ d ∈ wordsEq, d.before a0 Z = true) : ∀ d ∈ wordsEq, d.before args s = true := fun d hd => by
  have t : ∀ d ∈ wordsEq, (d.onTables && d.keepsFace) = true := by decide +kernel
  exact RoadKit.mv hZ (hw d hd) (t d hd)
theorem txt_of {Z U : State} {a0 : Array Value} {kI : Nat} (wi : (Jvm.Cond.instantiable ST kI).before a0 Z = true) (al : Z.vm.Alike U.vm) {x t : Addr} {kb : ClassId} {cs : List Int32} {cd N2 : Int32} {vs : List Value} (E : RoadKit.Exa Z U.heap x ST) (V : RoadKit.Fld Z U.heap x ST "value" "[B" (.ref t)) (C : RoadKit.Fld Z U.heap x ST "coder" "B" (.int cd)) (K : RoadKit.Arv Z U.heap t kb .byte N2 vs (.int 0)) (hc : CodA cs cd N2 vs) (hb : ∀ c ∈ cs, ¬ c < 0 ∧ ¬ (65535 : Int32) < c) (l2 : cs.length ≤ 4000) :
    ∃ A, Txt x t A cd cs.length (fun j => cs.getD j 0) U := by
  obtain ⟨A, K1, K2, K3, K4, K5, K6⟩ := K
  have hcod := hc.cod (by omega) K3 K5
  obtain ⟨D, fV, fC, hB, F1, F2, g1, g2, -, -⟩ := strObj wi al E V C
  exact ⟨A, ⟨_, hB.2.2.1, D, hB.1, rfl, by cases q : D.vm <;> first | rfl | exact absurd q (hB.2.1.2 _)⟩, Has.of hB F1 g1, Has.of hB F2 g2, ⟨K1.1, State.isArrayOf_alike al K1.2.1, K1.2.2, by rcases hcod with ⟨-, q, -⟩ | ⟨-, q, -⟩ <;> omega⟩, hcod, fun j hj => by
    have e : cs.getD j 0 = cs[j] := by simp [List.getD_eq_getElem?_getD, hj]
    show ¬ cs.getD j 0 < 0 ∧ ¬ 65535 < cs.getD j 0
    rw [e]; exact hb _ (List.getElem_mem _)⟩
theorem same_list (cs ds : List Int32) : SameT cs.length (fun j => cs.getD j 0) ds.length (fun j => ds.getD j 0) ↔ cs = ds := by
  constructor
  · rintro ⟨e, q⟩
    refine List.ext_getElem e fun j h1 h2 => ?_
    have := q j h1
    simpa [List.getD_eq_getElem?_getD, h1, h2] using this
  · rintro rfl
    exact ⟨rfl, fun _ _ => rfl⟩
theorem eqW {p : Program} {l : Launch} {e : Env} {R : Room} {s : State} {args : Array Value} {below : List Frame} {len W : Nat} {Z : State} {a0 : Array Value} {h : Heap} (hZ : Z.Warmed39 s.vm) (hw : ∀ d ∈ wordsEq, d.before a0 Z = true) {kI : Nat} (wi : (Jvm.Cond.instantiable ST kI).before a0 Z = true)
    {x t : Addr} {kb : ClassId} {cs : List Int32} {cd N2 : Int32} {vs : List Value} (E : RoadKit.Exa Z h x ST) (V : RoadKit.Fld Z h x ST "value" "[B" (.ref t)) (C : RoadKit.Fld Z h x ST "coder" "B" (.int cd)) (K : RoadKit.Arv Z h t kb .byte N2 vs (.int 0)) (hc : CodA cs cd N2 vs) (hb : ∀ c ∈ cs, ¬ c < 0 ∧ ¬ (65535 : Int32) < c) (l2 : cs.length ≤ 4000)
    {y t' : Addr} {kb' : ClassId} {ds : List Int32} {cd' N2' : Int32} {vs' : List Value} (E' : RoadKit.Exa Z h y ST) (V' : RoadKit.Fld Z h y ST "value" "[B" (.ref t')) (C' : RoadKit.Fld Z h y ST "coder" "B" (.int cd')) (K' : RoadKit.Arv Z h t' kb' .byte N2' vs' (.int 0)) (hc' : CodA ds cd' N2' vs') (hb' : ∀ c ∈ ds, ¬ c < 0 ∧ ¬ (65535 : Int32) < c) (l2' : ds.length ≤ 4000)
    {z : Int32} (S : RoadKit.Sta Z h ST "COMPACT_STRINGS" "Z" (.int z)) (hz : ¬ z = 0) (hfr : 2 ≤ R.frames) (hlo : W + 28 ≤ R.locals) :
    Back l R p e below s args (⟨"java/lang/String", "equals", "(Ljava/lang/Object;)Z"⟩ : MethodName) len W (fun P a => a = #[.ref x, .ref y] ∧ P.U.heap = h ∧ P.cells + 0 ≤ R.cells ∧ P.slots + 0 ≤ R.slots)
      (fun P _ v B => ∃ L, (((v = some (.int 1) ∧ cs = ds) ∨ (v = some (.int 0) ∧ ¬ cs = ds)) ∧ L = [] ∧ B.U.heap = h) ∧ B.locs = P.locs ++ L ∧ B.cells = P.cells + 0 ∧ B.slots = P.slots + 0) := by
  intro m meth c P g ig mk a X hg hsize hdg hW hn hp'
  obtain ⟨rfl, rfl, r1, r2⟩ := hp'
  have al : Z.vm.Alike P.U.vm := hZ.alike.trans X.warmed.alike
  obtain ⟨A, hx⟩ := txt_of wi al E V C K hc hb l2
  obtain ⟨A', hy⟩ := txt_of wi al E' V' C' K' hc' hb' l2'
  obtain ⟨v, B, X', ⟨⟨w, hv, hh, hq⟩, hl, hk, hs⟩, st⟩ := SEq.pays x t A cd cs.length (fun j => cs.getD j 0) y t' A' cd' ds.length (fun j => ds.getD j 0) z (tabEq_of (movedEq hZ hw)) hfr hlo m meth c P g ig mk _ X hg hsize hdg hW hn ⟨r1, r2, rfl, hx, hy, sta_is al S, hz⟩
  refine ⟨v, B, X', ⟨[], ⟨?_, rfl, hh⟩, hl, hk, hs⟩, st⟩
  rcases hq with ⟨rfl, q⟩ | ⟨rfl, q⟩
  · exact Or.inl ⟨hv, (same_list cs ds).mp q⟩
  · exact Or.inr ⟨hv, fun e => q ((same_list cs ds).mpr e)⟩
end StrChars.Road
namespace StrChars.Road
open Jvm Sem ClassFile Op Lib Jvm.Stand Jvm.Free Jvm.Free.XT
open Jvm.Lib.Cold (StaticIs)
theorem codOf {cs : List Int32} {n : Nat} (hn : cs.length = n) (hb : ∀ c ∈ cs, ¬ 255 < c) : CodA cs 0 (Int32.ofNat n) ((cs.map lo8).map Value.int) := Or.inl ⟨rfl, by rw [hn], by simp [List.map_map, Function.comp_def], hb⟩
end StrChars.Road
end Jvm.Pilot.@@N@@

namespace Jvm.Pilot.@@N@@
open Jvm Jvm.ClassFile Sem Op Lib Jvm.Free Jvm.Stand Jvm.LawKit Jvm.RoadKit Bundle Jvm.Pilot.@@N@@.Jvm.D
namespace Ow
def Run (p : Program) (e : Env) (below : List Frame) (Q : Outcome → State → Prop) (T : State) (g : JFrame) : Prop :=
  ∃ s₂ o, Steps p.tables e below (T.setTop g) s₂ ∧ s₂.status = .running ∧ Ended s₂ below o ∧ Q o s₂
def ushJ (x : Int64) (y : Int32) : Int64 := (x.toUInt64 >>> (y &&& 0x3f).toInt64.toUInt64).toInt64
def Rs (s : State) (m : MethodId) (Z : State) (EL : List (String × Nat)) (own : String) (h0 : Heap) (ws : List Addr) (vm0 : Vm) (k0 : Nat) (locs : List Loc) (h : Heap) (S : List Addr) : Prop :=
  s.Since vm0 k0 ∧ k0 ≤ h.size ∧ Z.Warmed39 vm0 ∧ vm0.findClass own = some m.cls ∧ CHr Z EL s.vm h0 vm0 h ∧ Fr Z.heap.size locs ∧ Keep h0 h ws ∧ Ext Z.heap h0 ∧ (∀ x ∈ ws, Z.heap.size ≤ x) ∧ ∀ x ∈ S, x < h.size ∧ Safe Z EL vm0 h x
def Wk (p : Program) (l : Launch) (e : Env) (R : Room) (s : State) (m : MethodId) (args : Array Value) (below : List Frame) (meth : Method) (c : Code) (Z : State) (EL : List (String × Nat)) (own : String) (h0 : Heap) (ws : List Addr)
    (T : State) (h : Heap) (cells slots : Nat) (S : List Addr) : Prop :=
  ∃ (vm0 : Vm) (k0 : Nat) (locs : List Loc), p.tables.exec = Jvm.exec ∧ Stand p l e R (s.setVm vm0) m args below meth c T locs cells slots ∧ T.heap = h ∧ Rs s m Z EL own h0 ws vm0 k0 locs h S
section Kit
variable {p : Program} {l : Launch} {e : Env} {R : Room} {s : State} {m : MethodId} {args : Array Value} {below : List Frame} {meth : Method} {c : Code} {Z : State} {a0 : Array Value} {EL : List (String × Nat)} {own : String} {h0 : Heap} {ws : List Addr} {T T' : State} {h h' hB : Heap} {cells slots : Nat} {S : List Addr} {Q : Outcome → State → Prop} {pc pc' pc1 pc2 : Nat} {Ls l' : Array Slot} {rest st : List Value} {vm0 : Vm} {k0 : Nat} {locs : List Loc} {g g' : JFrame}
theorem Run.to (f : ∀ t, Steps p.tables e below (T'.setTop g') t → Steps p.tables e below (T.setTop g) t) (k : Run p e below Q T' g') : Run p e below Q T g := by
  obtain ⟨a, b, q, r⟩ := k
  exact ⟨a, b, f _ q, r⟩
theorem Run.stp (f : Steps p.tables e below (T.setTop g) (T'.setTop g')) (k : Run p e below Q T' g') : Run p e below Q T g := Run.to (fun _ q => f.trans q) k
theorem Run.cast (q : g = g') (k : Run p e below Q T g') : Run p e below Q T g := q ▸ k
theorem Rs.ch (r : Rs s m Z EL own h0 ws vm0 k0 locs h S) : CHv Z EL vm0 h := r.2.2.2.2.1.1
theorem Rs.hZ (r : Rs s m Z EL own h0 ws vm0 k0 locs h S) : Z.Warmed39 (s.setVm vm0).vm := r.2.2.1
theorem Rs.ow (r : Rs s m Z EL own h0 ws vm0 k0 locs h S) : (s.setVm vm0).vm.findClass own = some m.cls := r.2.2.2.1
theorem Rs.keep (r : Rs s m Z EL own h0 ws vm0 k0 locs h S) : Keep h0 h ws := r.2.2.2.2.2.2.1
theorem Rs.ext (r : Rs s m Z EL own h0 ws vm0 k0 locs h S) (E : Ext h h') : Rs s m Z EL own h0 ws vm0 k0 locs h' S := by
  obtain ⟨a1, a2, a3, a4, a5, a6, a7, a8, a9, a10⟩ := r
  exact ⟨a1, Nat.le_trans a2 E.1, a3, a4, a5.trans (CHr.ext E a5.1), a6, a7.ext E, a8, a9, fun x q => ⟨Nat.lt_of_lt_of_le (a10 x q).1 E.1, Safe.ext E a5.1 (a10 x q).2⟩⟩
theorem Rs.add (r : Rs s m Z EL own h0 ws vm0 k0 locs h S) (E : Ext h h') {x : Addr} (q1 : h.size ≤ x) (q2 : x < h'.size) : Rs s m Z EL own h0 ws vm0 k0 locs h' (x :: S) := by
  have r' := r.ext E
  obtain ⟨a1, a2, a3, a4, a5, a6, a7, a8, a9, a10⟩ := r'
  refine ⟨a1, a2, a3, a4, a5, a6, a7, a8, a9, fun y q => ?_⟩
  rcases List.mem_cons.mp q with rfl | q
  · exact ⟨q2, Safe.ext E r.ch (Safe.new q1)⟩
  · exact a10 y q
theorem Rs.wr (r : Rs s m Z EL own h0 ws vm0 k0 locs h S) {a : Addr} {sl : Nat} {v : Value} (W : Wr h h' a sl v) (Sa : Safe Z EL vm0 h a) (q : a ∈ ws ∨ h0.size ≤ a) : Rs s m Z EL own h0 ws vm0 k0 (locs ++ [⟨a, sl⟩]) h' S := by
  obtain ⟨a1, a2, a3, a4, a5, a6, a7, a8, a9, a10⟩ := r
  have hsz := W.size
  refine ⟨a1, by rw [hsz]; exact a2, a3, a4, a5.trans (CHr.wr W Sa a5.1), a6.app fun y hy => ?_, a7.wr W q, a8, a9, fun x z => ⟨by rw [hsz]; exact (a10 x z).1, Safe.wr W Sa a5.1 (a10 x z).2⟩⟩
  rw [List.mem_singleton.mp hy]
  rcases q with q | q
  · exact a9 _ q
  · exact Nat.le_trans a8.1 q
theorem Ext.rf (h : Heap) : Ext h h := ⟨Nat.le_refl _, fun _ _ q => q⟩
theorem Ext.tr {h2 : Heap} (E : Ext h h') (F : Ext h' h2) : Ext h h2 := ⟨Nat.le_trans E.1 F.1, fun x c q => F.2 x c (E.2 x c q)⟩
theorem Ext.wr' (E : Ext hB h) {a : Addr} {sl : Nat} {v : Value} (W : Wr h h' a sl v) (q : hB.size ≤ a) : Ext hB h' := by
  have hsz := W.size
  refine ⟨by rw [hsz]; exact E.1, fun x c z => ?_⟩
  obtain ⟨c0, -, -, -, rfl⟩ := W
  have hx := (Array.getElem?_eq_some_iff.mp z).1
  rw [Array.getElem?_setIfInBounds_ne (by omega)]
  exact E.2 x c z
theorem Ext.kp (E : Ext hB h) {vs : List Addr} (K : Keep h h' vs) (q : ∀ x ∈ vs, hB.size ≤ x) : Ext hB h' := by
  refine ⟨Nat.le_trans E.1 K.1, fun x c z => K.2.1 x c (E.2 x c z) fun hm => ?_⟩
  have hx := (Array.getElem?_eq_some_iff.mp z).1
  have := q x hm
  omega
theorem Keep.ext0 (K : Keep h h' []) : Ext h h' := ⟨K.1, fun x c q => K.2.1 x c q nin0⟩
theorem Wk.at (w : Wk p l e R s m args below meth c Z EL own h0 ws T h cells slots S) : At T m c below := by obtain ⟨_, _, _, -, X, -⟩ := w; exact X.here
theorem Wk.hx (w : Wk p l e R s m args below meth c Z EL own h0 ws T h cells slots S) : p.tables.exec = Jvm.exec := by obtain ⟨_, _, _, q, -⟩ := w; exact q
theorem Wk.keep (w : Wk p l e R s m args below meth c Z EL own h0 ws T h cells slots S) : Keep h0 h ws := by obtain ⟨_, _, _, -, -, -, r⟩ := w; exact r.keep
theorem Rs.old (r : Rs s m Z EL own h0 ws vm0 k0 locs h S) : Ext Z.heap h := Ext.kp r.2.2.2.2.2.2.2.1 r.keep r.2.2.2.2.2.2.2.2.1
theorem Wk.old (w : Wk p l e R s m args below meth c Z EL own h0 ws T h cells slots S) : Ext Z.heap h := by obtain ⟨_, _, _, -, -, -, r⟩ := w; exact r.old
theorem Wk.mono (w : Wk p l e R s m args below meth c Z EL own h0 ws T h cells slots S) {cells' slots' : Nat} (q1 : cells ≤ cells') (q2 : slots ≤ slots') : Wk p l e R s m args below meth c Z EL own h0 ws T h cells' slots' S := by
  obtain ⟨vm0, k0, locs, hx, X, r⟩ := w
  exact ⟨vm0, k0, locs, hx, X.mono q1 q2, r⟩
theorem jp (w : Wk p l e R s m args below meth c Z EL own h0 ws T h cells slots S) {x y : Int32} (hd : decode c.code pc = .ok (.iadd, 1)) (pc' : Nat) (hp : pc + 1 = pc') (k : Run p e below Q T (mkF m pc' Ls (.int (x + y) :: rest))) : Run p e below Q T (mkF m pc Ls (.int y :: .int x :: rest)) := by
  subst hp; exact Run.to (fun _ q => XS.iadd w.at w.hx rfl hd rfl q) k
theorem s_isub (w : Wk p l e R s m args below meth c Z EL own h0 ws T h cells slots S) {x y : Int32} (hd : decode c.code pc = .ok (.isub, 1)) (pc' : Nat) (hp : pc + 1 = pc') (k : Run p e below Q T (mkF m pc' Ls (.int (x - y) :: rest))) : Run p e below Q T (mkF m pc Ls (.int y :: .int x :: rest)) := by
  subst hp; exact Run.to (fun _ q => XS.isub w.at w.hx rfl hd rfl q) k
theorem jw (w : Wk p l e R s m args below meth c Z EL own h0 ws T h cells slots S) {x y : Int32} (hd : decode c.code pc = .ok (.iand, 1)) (pc' : Nat) (hp : pc + 1 = pc') (k : Run p e below Q T (mkF m pc' Ls (.int (x &&& y) :: rest))) : Run p e below Q T (mkF m pc Ls (.int y :: .int x :: rest)) := by
  subst hp; exact Run.to (fun _ q => XS.iand w.at w.hx rfl hd rfl q) k
theorem s_imul (w : Wk p l e R s m args below meth c Z EL own h0 ws T h cells slots S) {x y : Int32} (hd : decode c.code pc = .ok (.imul, 1)) (pc' : Nat) (hp : pc + 1 = pc') (k : Run p e below Q T (mkF m pc' Ls (.int (x * y) :: rest))) : Run p e below Q T (mkF m pc Ls (.int y :: .int x :: rest)) := by
  subst hp; exact Run.to (fun _ q => XS.imul w.at w.hx rfl hd rfl q) k
theorem s_ixor (w : Wk p l e R s m args below meth c Z EL own h0 ws T h cells slots S) {x y : Int32} (hd : decode c.code pc = .ok (.ixor, 1)) (pc' : Nat) (hp : pc + 1 = pc') (k : Run p e below Q T (mkF m pc' Ls (.int (x ^^^ y) :: rest))) : Run p e below Q T (mkF m pc Ls (.int y :: .int x :: rest)) := by
  subst hp; exact Run.to (fun _ q => XT.ixor w.at w.hx rfl hd rfl q) k
theorem s_ior (w : Wk p l e R s m args below meth c Z EL own h0 ws T h cells slots S) {x y : Int32} (hd : decode c.code pc = .ok (.ior, 1)) (pc' : Nat) (hp : pc + 1 = pc') (k : Run p e below Q T (mkF m pc' Ls (.int (x ||| y) :: rest))) : Run p e below Q T (mkF m pc Ls (.int y :: .int x :: rest)) := by
  subst hp; exact Run.to (fun _ q => XT.ior w.at w.hx rfl hd rfl q) k
theorem s_ishl (w : Wk p l e R s m args below meth c Z EL own h0 ws T h cells slots S) {x y : Int32} (hd : decode c.code pc = .ok (.ishl, 1)) (pc' : Nat) (hp : pc + 1 = pc') (k : Run p e below Q T (mkF m pc' Ls (.int (x <<< (y &&& 31)) :: rest))) : Run p e below Q T (mkF m pc Ls (.int y :: .int x :: rest)) := by
  subst hp; exact Run.to (fun _ q => XT.ishl w.at w.hx rfl hd rfl q) k
theorem s_ishr (w : Wk p l e R s m args below meth c Z EL own h0 ws T h cells slots S) {x y : Int32} (hd : decode c.code pc = .ok (.ishr, 1)) (pc' : Nat) (hp : pc + 1 = pc') (k : Run p e below Q T (mkF m pc' Ls (.int (x >>> (y &&& 31)) :: rest))) : Run p e below Q T (mkF m pc Ls (.int y :: .int x :: rest)) := by
  subst hp; exact Run.to (fun _ q => XT.ishr w.at w.hx rfl hd rfl q) k
theorem s_iushr (w : Wk p l e R s m args below meth c Z EL own h0 ws T h cells slots S) {x y : Int32} (hd : decode c.code pc = .ok (.iushr, 1)) (pc' : Nat) (hp : pc + 1 = pc') (k : Run p e below Q T (mkF m pc' Ls (.int (XT.ushr x y) :: rest))) : Run p e below Q T (mkF m pc Ls (.int y :: .int x :: rest)) := by
  subst hp; exact Run.to (fun _ q => XT.iushr w.at w.hx rfl hd rfl q) k
theorem s_idiv (w : Wk p l e R s m args below meth c Z EL own h0 ws T h cells slots S) {x y : Int32} (hd : decode c.code pc = .ok (.idiv, 1)) (hy : y ≠ 0) (pc' : Nat) (hp : pc + 1 = pc') (k : Run p e below Q T (mkF m pc' Ls (.int (x / y) :: rest))) : Run p e below Q T (mkF m pc Ls (.int y :: .int x :: rest)) := by
  subst hp; exact Run.to (fun _ q => XS.idiv w.at w.hx rfl hd rfl hy q) k
theorem s_lmul (w : Wk p l e R s m args below meth c Z EL own h0 ws T h cells slots S) {x y : Int64} (hd : decode c.code pc = .ok (.lmul, 1)) (pc' : Nat) (hp : pc + 1 = pc') (k : Run p e below Q T (mkF m pc' Ls (.long (x * y) :: rest))) : Run p e below Q T (mkF m pc Ls (.long y :: .long x :: rest)) := by
  subst hp; exact Run.to (fun _ q => XT.lmul w.at w.hx rfl hd rfl q) k
theorem s_land (w : Wk p l e R s m args below meth c Z EL own h0 ws T h cells slots S) {x y : Int64} (hd : decode c.code pc = .ok (.land, 1)) (pc' : Nat) (hp : pc + 1 = pc') (k : Run p e below Q T (mkF m pc' Ls (.long (x &&& y) :: rest))) : Run p e below Q T (mkF m pc Ls (.long y :: .long x :: rest)) := by
  subst hp; exact Run.to (fun _ q => XT.land w.at w.hx rfl hd rfl q) k
theorem s_lushr (w : Wk p l e R s m args below meth c Z EL own h0 ws T h cells slots S) {x : Int64} {y : Int32} (hd : decode c.code pc = .ok (.lushr, 1)) (pc' : Nat) (hp : pc + 1 = pc') (k : Run p e below Q T (mkF m pc' Ls (.long (ushJ x y) :: rest))) : Run p e below Q T (mkF m pc Ls (.int y :: .long x :: rest)) := by
  subst hp; exact Run.to (fun _ q => XS.lushr w.at w.hx rfl hd rfl q) k
theorem s_lcmp (w : Wk p l e R s m args below meth c Z EL own h0 ws T h cells slots S) {x y : Int64} (hd : decode c.code pc = .ok (.lcmp, 1)) (pc' : Nat) (hp : pc + 1 = pc') (k : Run p e below Q T (mkF m pc' Ls (.int (XT.cmpL x y) :: rest))) : Run p e below Q T (mkF m pc Ls (.long y :: .long x :: rest)) := by
  subst hp; exact Run.to (fun _ q => XT.lcmp w.at w.hx rfl hd rfl q) k
theorem s_i2l (w : Wk p l e R s m args below meth c Z EL own h0 ws T h cells slots S) {x : Int32} (hd : decode c.code pc = .ok (.i2l, 1)) (pc' : Nat) (hp : pc + 1 = pc') (k : Run p e below Q T (mkF m pc' Ls (.long x.toInt64 :: rest))) : Run p e below Q T (mkF m pc Ls (.int x :: rest)) := by
  subst hp; exact Run.to (fun _ q => XT.i2l w.at w.hx rfl hd rfl q) k
theorem s_l2i (w : Wk p l e R s m args below meth c Z EL own h0 ws T h cells slots S) {x : Int64} (hd : decode c.code pc = .ok (.l2i, 1)) (pc' : Nat) (hp : pc + 1 = pc') (k : Run p e below Q T (mkF m pc' Ls (.int x.toInt32 :: rest))) : Run p e below Q T (mkF m pc Ls (.long x :: rest)) := by
  subst hp; exact Run.to (fun _ q => XT.l2i w.at w.hx rfl hd rfl q) k
theorem s_i2b (w : Wk p l e R s m args below meth c Z EL own h0 ws T h cells slots S) {x : Int32} (hd : decode c.code pc = .ok (.i2b, 1)) (pc' : Nat) (hp : pc + 1 = pc') (k : Run p e below Q T (mkF m pc' Ls (.int x.toInt8.toInt32 :: rest))) : Run p e below Q T (mkF m pc Ls (.int x :: rest)) := by
  subst hp; exact Run.to (fun _ q => XT.i2b w.at w.hx rfl hd rfl q) k
theorem s_i2c (w : Wk p l e R s m args below meth c Z EL own h0 ws T h cells slots S) {x : Int32} (hd : decode c.code pc = .ok (.i2c, 1)) (pc' : Nat) (hp : pc + 1 = pc') (k : Run p e below Q T (mkF m pc' Ls (.int (nar .char x) :: rest))) : Run p e below Q T (mkF m pc Ls (.int x :: rest)) := by
  subst hp; exact Run.to (fun _ q => XT.i2c w.at w.hx rfl hd rfl q) k
theorem jd (w : Wk p l e R s m args below meth c Z EL own h0 ws T h cells slots S) {x : Value} (hd : decode c.code pc = .ok (.dup, 1)) (hc : x.category = 1) (pc' : Nat) (hp : pc + 1 = pc') (k : Run p e below Q T (mkF m pc' Ls (x :: x :: rest))) : Run p e below Q T (mkF m pc Ls (x :: rest)) := by
  subst hp; exact Run.to (fun _ q => XS.dup w.at w.hx rfl hd rfl hc q) k
theorem s_pop (w : Wk p l e R s m args below meth c Z EL own h0 ws T h cells slots S) {x : Value} (hd : decode c.code pc = .ok (.pop, 1)) (hc : x.category = 1) (pc' : Nat) (hp : pc + 1 = pc') (k : Run p e below Q T (mkF m pc' Ls rest)) : Run p e below Q T (mkF m pc Ls (x :: rest)) := by
  subst hp; exact Run.to (fun _ q => XT.pop w.at w.hx rfl hd rfl hc q) k
theorem jc (w : Wk p l e R s m args below meth c Z EL own h0 ws T h cells slots S) {i : Int} (v : Int32) (hd : decode c.code pc = .ok (.iconst i, 1)) (hv : Int32.ofInt i = v) (pc' : Nat) (hp : pc + 1 = pc') (k : Run p e below Q T (mkF m pc' Ls (.int v :: st))) : Run p e below Q T (mkF m pc Ls st) := by
  subst hp hv; exact Run.to (fun _ q => XS.iconst w.at w.hx rfl hd q) k
theorem jb (w : Wk p l e R s m args below meth c Z EL own h0 ws T h cells slots S) {i : Int} (v : Int32) (hd : decode c.code pc = .ok (.bipush i, 2)) (hv : (Int8.ofInt i).toInt32 = v) (pc' : Nat) (hp : pc + 2 = pc') (k : Run p e below Q T (mkF m pc' Ls (.int v :: st))) : Run p e below Q T (mkF m pc Ls st) := by
  subst hp hv; exact Run.to (fun _ q => XS.bipush w.at w.hx rfl hd q) k
theorem s_sipush (w : Wk p l e R s m args below meth c Z EL own h0 ws T h cells slots S) {i : Int} (v : Int32) (hd : decode c.code pc = .ok (.sipush i, 3)) (hv : (Int16.ofInt i).toInt32 = v) (pc' : Nat) (hp : pc + 3 = pc') (k : Run p e below Q T (mkF m pc' Ls (.int v :: st))) : Run p e below Q T (mkF m pc Ls st) := by
  subst hp hv; exact Run.to (fun _ q => XS.sipush w.at w.hx rfl hd q) k
theorem s_anull (w : Wk p l e R s m args below meth c Z EL own h0 ws T h cells slots S) (hd : decode c.code pc = .ok (.aconst_null, 1)) (pc' : Nat) (hp : pc + 1 = pc') (k : Run p e below Q T (mkF m pc' Ls (.null :: st))) : Run p e below Q T (mkF m pc Ls st) := by
  subst hp; exact Run.to (fun _ q => XS.aconstNull w.at w.hx rfl hd q) k
theorem jl (w : Wk p l e R s m args below meth c Z EL own h0 ws T h cells slots S) {i : Nat} {v : Int32} (hd : decode c.code pc = .ok (.iload i, 2)) (hl : Ls[i]? = some (.val (.int v))) (pc' : Nat) (hp : pc + 2 = pc') (k : Run p e below Q T (mkF m pc' Ls (.int v :: st))) : Run p e below Q T (mkF m pc Ls st) := by
  subst hp; exact Run.to (fun _ q => XS.iload w.at w.hx rfl hd hl q) k
theorem jn (w : Wk p l e R s m args below meth c Z EL own h0 ws T h cells slots S) {i : Fin 4} {v : Int32} (hd : decode c.code pc = .ok (.iload_n i, 1)) (hl : Ls[i.val]? = some (.val (.int v))) (pc' : Nat) (hp : pc + 1 = pc') (k : Run p e below Q T (mkF m pc' Ls (.int v :: st))) : Run p e below Q T (mkF m pc Ls st) := by
  subst hp; exact Run.to (fun _ q => XS.iloadN w.at w.hx rfl hd hl q) k
theorem s_lload_n (w : Wk p l e R s m args below meth c Z EL own h0 ws T h cells slots S) {i : Fin 4} {v : Int64} (hd : decode c.code pc = .ok (.lload_n i, 1)) (hl : Ls[i.val]? = some (.val (.long v))) (pc' : Nat) (hp : pc + 1 = pc') (k : Run p e below Q T (mkF m pc' Ls (.long v :: st))) : Run p e below Q T (mkF m pc Ls st) := by
  subst hp; exact Run.to (fun _ q => XT.lloadN w.at w.hx rfl hd hl q) k
theorem ja (w : Wk p l e R s m args below meth c Z EL own h0 ws T h cells slots S) {i : Nat} {v : Value} (hd : decode c.code pc = .ok (.aload i, 2)) (hl : Ls[i]? = some (.val v)) (hv : v.isRef = true) (pc' : Nat) (hp : pc + 2 = pc') (k : Run p e below Q T (mkF m pc' Ls (v :: st))) : Run p e below Q T (mkF m pc Ls st) := by
  subst hp; exact Run.to (fun _ q => XS.aload w.at w.hx rfl hd hl hv q) k
theorem jm (w : Wk p l e R s m args below meth c Z EL own h0 ws T h cells slots S) {i : Fin 4} {v : Value} (hd : decode c.code pc = .ok (.aload_n i, 1)) (hl : Ls[i.val]? = some (.val v)) (hv : v.isRef = true) (pc' : Nat) (hp : pc + 1 = pc') (k : Run p e below Q T (mkF m pc' Ls (v :: st))) : Run p e below Q T (mkF m pc Ls st) := by
  subst hp; exact Run.to (fun _ q => XS.aloadN w.at w.hx rfl hd hl hv q) k
theorem js (w : Wk p l e R s m args below meth c Z EL own h0 ws T h cells slots S) {i : Nat} {v : Int32} (l' : Array Slot) (hd : decode c.code pc = .ok (.istore i, 2)) (hl : storeLocals Ls i (.int v) = some l') (pc' : Nat) (hp : pc + 2 = pc') (k : Run p e below Q T (mkF m pc' l' st)) : Run p e below Q T (mkF m pc Ls (.int v :: st)) := by
  subst hp; exact Run.to (fun _ q => XS.istore w.at w.hx rfl hd rfl hl q) k
theorem s_istore_n (w : Wk p l e R s m args below meth c Z EL own h0 ws T h cells slots S) {i : Fin 4} {v : Int32} (l' : Array Slot) (hd : decode c.code pc = .ok (.istore_n i, 1)) (hl : storeLocals Ls i.val (.int v) = some l') (pc' : Nat) (hp : pc + 1 = pc') (k : Run p e below Q T (mkF m pc' l' st)) : Run p e below Q T (mkF m pc Ls (.int v :: st)) := by
  subst hp; exact Run.to (fun _ q => XS.istoreN w.at w.hx rfl hd rfl hl q) k
theorem s_lstore_n (w : Wk p l e R s m args below meth c Z EL own h0 ws T h cells slots S) {i : Fin 4} {v : Int64} (l' : Array Slot) (hd : decode c.code pc = .ok (.lstore_n i, 1)) (hl : storeLocals Ls i.val (.long v) = some l') (pc' : Nat) (hp : pc + 1 = pc') (k : Run p e below Q T (mkF m pc' l' st)) : Run p e below Q T (mkF m pc Ls (.long v :: st)) := by
  subst hp; exact Run.to (fun _ q => XT.lstoreN w.at w.hx rfl hd rfl hl q) k
theorem s_astore (w : Wk p l e R s m args below meth c Z EL own h0 ws T h cells slots S) {i : Nat} {v : Value} (l' : Array Slot) (hd : decode c.code pc = .ok (.astore i, 2)) (hv : v.isRef = true) (hl : storeLocals Ls i v = some l') (pc' : Nat) (hp : pc + 2 = pc') (k : Run p e below Q T (mkF m pc' l' st)) : Run p e below Q T (mkF m pc Ls (v :: st)) := by
  subst hp; exact Run.to (fun _ q => XS.astore w.at w.hx rfl hd rfl hv hl q) k
theorem s_astore_n (w : Wk p l e R s m args below meth c Z EL own h0 ws T h cells slots S) {i : Fin 4} {v : Value} (l' : Array Slot) (hd : decode c.code pc = .ok (.astore_n i, 1)) (hv : v.isRef = true) (hl : storeLocals Ls i.val v = some l') (pc' : Nat) (hp : pc + 1 = pc') (k : Run p e below Q T (mkF m pc' l' st)) : Run p e below Q T (mkF m pc Ls (v :: st)) := by
  subst hp; exact Run.to (fun _ q => XS.astoreN w.at w.hx rfl hd rfl hv hl q) k
theorem ji (w : Wk p l e R s m args below meth c Z EL own h0 ws T h cells slots S) {i : Nat} {cst : Int} {x v : Int32} (l' : Array Slot) (hd : decode c.code pc = .ok (.iinc i cst, 3)) (hv : Int32.ofInt cst = v) (hl : Ls[i]? = some (.val (.int x))) (hl' : storeLocals Ls i (.int (x + v)) = some l') (pc' : Nat) (hp : pc + 3 = pc') (k : Run p e below Q T (mkF m pc' l' st)) : Run p e below Q T (mkF m pc Ls st) := by
  subst hp; exact Run.to (fun _ q => XT.iincV w.at w.hx rfl v hd hv hl hl' q) k
theorem jt (w : Wk p l e R s m args below meth c Z EL own h0 ws T h cells slots S) {o : Int} (hd : decode c.code pc = .ok (.goto o, 3)) (ho : 0 ≤ (pc : Int) + o) (pc' : Nat) (hp : ((pc : Int) + o).toNat = pc') (k : Run p e below Q T (mkF m pc' Ls st)) : Run p e below Q T (mkF m pc Ls st) := by
  exact Run.to (fun _ q => XS.goto w.at w.hx rfl (pc0 := pc) rfl hd ho hp q) k
theorem s_icmp_eq (w : Wk p l e R s m args below meth c Z EL own h0 ws T h cells slots S) {x y : Int32} {o : Int} (hd : decode c.code pc = .ok (.if_icmp .eq o, 3)) (ho : 0 ≤ (pc : Int) + o) (pc1 : Nat) (h1 : pc + 3 = pc1) (pc2 : Nat) (h2 : ((pc : Int) + o).toNat = pc2) (k1 : ¬ (x = y) → Run p e below Q T (mkF m pc1 Ls rest)) (k2 : x = y → Run p e below Q T (mkF m pc2 Ls rest)) : Run p e below Q T (mkF m pc Ls (.int y :: .int x :: rest)) := by
  subst h1
  by_cases cq : x = y
  · exact Run.to (fun _ q => XS.icmpYes w.at w.hx rfl (pc0 := pc) rfl hd rfl (XT.ii_eq_t cq) ho h2 q) (k2 cq)
  · exact Run.to (fun _ q => XS.icmpNo w.at w.hx rfl hd rfl (XT.ii_eq_f cq) q) (k1 cq)
theorem jx (w : Wk p l e R s m args below meth c Z EL own h0 ws T h cells slots S) {x y : Int32} {o : Int} (hd : decode c.code pc = .ok (.if_icmp .ne o, 3)) (ho : 0 ≤ (pc : Int) + o) (pc1 : Nat) (h1 : pc + 3 = pc1) (pc2 : Nat) (h2 : ((pc : Int) + o).toNat = pc2) (k1 : x = y → Run p e below Q T (mkF m pc1 Ls rest)) (k2 : ¬ (x = y) → Run p e below Q T (mkF m pc2 Ls rest)) : Run p e below Q T (mkF m pc Ls (.int y :: .int x :: rest)) := by
  subst h1
  by_cases cq : x = y
  · exact Run.to (fun _ q => XS.icmpNo w.at w.hx rfl hd rfl (XT.ii_ne_f cq) q) (k1 cq)
  · exact Run.to (fun _ q => XS.icmpYes w.at w.hx rfl (pc0 := pc) rfl hd rfl (XT.ii_ne_t cq) ho h2 q) (k2 cq)
theorem s_icmp_lt (w : Wk p l e R s m args below meth c Z EL own h0 ws T h cells slots S) {x y : Int32} {o : Int} (hd : decode c.code pc = .ok (.if_icmp .lt o, 3)) (ho : 0 ≤ (pc : Int) + o) (pc1 : Nat) (h1 : pc + 3 = pc1) (pc2 : Nat) (h2 : ((pc : Int) + o).toNat = pc2) (k1 : ¬ (x < y) → Run p e below Q T (mkF m pc1 Ls rest)) (k2 : x < y → Run p e below Q T (mkF m pc2 Ls rest)) : Run p e below Q T (mkF m pc Ls (.int y :: .int x :: rest)) := by
  subst h1
  by_cases cq : x < y
  · exact Run.to (fun _ q => XS.icmpYes w.at w.hx rfl (pc0 := pc) rfl hd rfl (XT.ii_lt_t cq) ho h2 q) (k2 cq)
  · exact Run.to (fun _ q => XS.icmpNo w.at w.hx rfl hd rfl (XT.ii_lt_f cq) q) (k1 cq)
theorem jg (w : Wk p l e R s m args below meth c Z EL own h0 ws T h cells slots S) {x y : Int32} {o : Int} (hd : decode c.code pc = .ok (.if_icmp .ge o, 3)) (ho : 0 ≤ (pc : Int) + o) (pc1 : Nat) (h1 : pc + 3 = pc1) (pc2 : Nat) (h2 : ((pc : Int) + o).toNat = pc2) (k1 : x < y → Run p e below Q T (mkF m pc1 Ls rest)) (k2 : ¬ (x < y) → Run p e below Q T (mkF m pc2 Ls rest)) : Run p e below Q T (mkF m pc Ls (.int y :: .int x :: rest)) := by
  subst h1
  by_cases cq : x < y
  · exact Run.to (fun _ q => XS.icmpNo w.at w.hx rfl hd rfl (XT.ii_ge_f cq) q) (k1 cq)
  · exact Run.to (fun _ q => XS.icmpYes w.at w.hx rfl (pc0 := pc) rfl hd rfl (XT.ii_ge_t cq) ho h2 q) (k2 cq)
theorem s_icmp_gt (w : Wk p l e R s m args below meth c Z EL own h0 ws T h cells slots S) {x y : Int32} {o : Int} (hd : decode c.code pc = .ok (.if_icmp .gt o, 3)) (ho : 0 ≤ (pc : Int) + o) (pc1 : Nat) (h1 : pc + 3 = pc1) (pc2 : Nat) (h2 : ((pc : Int) + o).toNat = pc2) (k1 : ¬ (y < x) → Run p e below Q T (mkF m pc1 Ls rest)) (k2 : y < x → Run p e below Q T (mkF m pc2 Ls rest)) : Run p e below Q T (mkF m pc Ls (.int y :: .int x :: rest)) := by
  subst h1
  by_cases cq : y < x
  · exact Run.to (fun _ q => XS.icmpYes w.at w.hx rfl (pc0 := pc) rfl hd rfl (XT.ii_gt_t cq) ho h2 q) (k2 cq)
  · exact Run.to (fun _ q => XS.icmpNo w.at w.hx rfl hd rfl (XT.ii_gt_f cq) q) (k1 cq)
theorem je (w : Wk p l e R s m args below meth c Z EL own h0 ws T h cells slots S) {x y : Int32} {o : Int} (hd : decode c.code pc = .ok (.if_icmp .le o, 3)) (ho : 0 ≤ (pc : Int) + o) (pc1 : Nat) (h1 : pc + 3 = pc1) (pc2 : Nat) (h2 : ((pc : Int) + o).toNat = pc2) (k1 : y < x → Run p e below Q T (mkF m pc1 Ls rest)) (k2 : ¬ (y < x) → Run p e below Q T (mkF m pc2 Ls rest)) : Run p e below Q T (mkF m pc Ls (.int y :: .int x :: rest)) := by
  subst h1
  by_cases cq : y < x
  · exact Run.to (fun _ q => XS.icmpNo w.at w.hx rfl hd rfl (XT.ii_le_f cq) q) (k1 cq)
  · exact Run.to (fun _ q => XS.icmpYes w.at w.hx rfl (pc0 := pc) rfl hd rfl (XT.ii_le_t cq) ho h2 q) (k2 cq)
theorem s_if_eq (w : Wk p l e R s m args below meth c Z EL own h0 ws T h cells slots S) {x : Int32} {o : Int} (hd : decode c.code pc = .ok (.ifCond .eq o, 3)) (ho : 0 ≤ (pc : Int) + o) (pc1 : Nat) (h1 : pc + 3 = pc1) (pc2 : Nat) (h2 : ((pc : Int) + o).toNat = pc2) (k1 : ¬ (x = 0) → Run p e below Q T (mkF m pc1 Ls rest)) (k2 : x = 0 → Run p e below Q T (mkF m pc2 Ls rest)) : Run p e below Q T (mkF m pc Ls (.int x :: rest)) := by
  subst h1
  by_cases cq : x = 0
  · exact Run.to (fun _ q => XS.ifYes w.at w.hx rfl (pc0 := pc) rfl hd rfl (XT.i0_eq_t cq) ho h2 q) (k2 cq)
  · exact Run.to (fun _ q => XS.ifNo w.at w.hx rfl hd rfl (XT.i0_eq_f cq) q) (k1 cq)
theorem s_if_ne (w : Wk p l e R s m args below meth c Z EL own h0 ws T h cells slots S) {x : Int32} {o : Int} (hd : decode c.code pc = .ok (.ifCond .ne o, 3)) (ho : 0 ≤ (pc : Int) + o) (pc1 : Nat) (h1 : pc + 3 = pc1) (pc2 : Nat) (h2 : ((pc : Int) + o).toNat = pc2) (k1 : x = 0 → Run p e below Q T (mkF m pc1 Ls rest)) (k2 : ¬ (x = 0) → Run p e below Q T (mkF m pc2 Ls rest)) : Run p e below Q T (mkF m pc Ls (.int x :: rest)) := by
  subst h1
  by_cases cq : x = 0
  · exact Run.to (fun _ q => XS.ifNo w.at w.hx rfl hd rfl (XT.i0_ne_f cq) q) (k1 cq)
  · exact Run.to (fun _ q => XS.ifYes w.at w.hx rfl (pc0 := pc) rfl hd rfl (XT.i0_ne_t cq) ho h2 q) (k2 cq)
theorem s_if_lt (w : Wk p l e R s m args below meth c Z EL own h0 ws T h cells slots S) {x : Int32} {o : Int} (hd : decode c.code pc = .ok (.ifCond .lt o, 3)) (ho : 0 ≤ (pc : Int) + o) (pc1 : Nat) (h1 : pc + 3 = pc1) (pc2 : Nat) (h2 : ((pc : Int) + o).toNat = pc2) (k1 : ¬ (x < 0) → Run p e below Q T (mkF m pc1 Ls rest)) (k2 : x < 0 → Run p e below Q T (mkF m pc2 Ls rest)) : Run p e below Q T (mkF m pc Ls (.int x :: rest)) := by
  subst h1
  by_cases cq : x < 0
  · exact Run.to (fun _ q => XS.ifYes w.at w.hx rfl (pc0 := pc) rfl hd rfl (XT.i0_lt_t cq) ho h2 q) (k2 cq)
  · exact Run.to (fun _ q => XS.ifNo w.at w.hx rfl hd rfl (XT.i0_lt_f cq) q) (k1 cq)
theorem s_if_ge (w : Wk p l e R s m args below meth c Z EL own h0 ws T h cells slots S) {x : Int32} {o : Int} (hd : decode c.code pc = .ok (.ifCond .ge o, 3)) (ho : 0 ≤ (pc : Int) + o) (pc1 : Nat) (h1 : pc + 3 = pc1) (pc2 : Nat) (h2 : ((pc : Int) + o).toNat = pc2) (k1 : x < 0 → Run p e below Q T (mkF m pc1 Ls rest)) (k2 : ¬ (x < 0) → Run p e below Q T (mkF m pc2 Ls rest)) : Run p e below Q T (mkF m pc Ls (.int x :: rest)) := by
  subst h1
  by_cases cq : x < 0
  · exact Run.to (fun _ q => XS.ifNo w.at w.hx rfl hd rfl (XT.i0_ge_f cq) q) (k1 cq)
  · exact Run.to (fun _ q => XS.ifYes w.at w.hx rfl (pc0 := pc) rfl hd rfl (XT.i0_ge_t cq) ho h2 q) (k2 cq)
theorem s_if_gt (w : Wk p l e R s m args below meth c Z EL own h0 ws T h cells slots S) {x : Int32} {o : Int} (hd : decode c.code pc = .ok (.ifCond .gt o, 3)) (ho : 0 ≤ (pc : Int) + o) (pc1 : Nat) (h1 : pc + 3 = pc1) (pc2 : Nat) (h2 : ((pc : Int) + o).toNat = pc2) (k1 : ¬ (0 < x) → Run p e below Q T (mkF m pc1 Ls rest)) (k2 : 0 < x → Run p e below Q T (mkF m pc2 Ls rest)) : Run p e below Q T (mkF m pc Ls (.int x :: rest)) := by
  subst h1
  by_cases cq : 0 < x
  · exact Run.to (fun _ q => XS.ifYes w.at w.hx rfl (pc0 := pc) rfl hd rfl (XT.i0_gt_t cq) ho h2 q) (k2 cq)
  · exact Run.to (fun _ q => XS.ifNo w.at w.hx rfl hd rfl (XT.i0_gt_f cq) q) (k1 cq)
theorem s_if_le (w : Wk p l e R s m args below meth c Z EL own h0 ws T h cells slots S) {x : Int32} {o : Int} (hd : decode c.code pc = .ok (.ifCond .le o, 3)) (ho : 0 ≤ (pc : Int) + o) (pc1 : Nat) (h1 : pc + 3 = pc1) (pc2 : Nat) (h2 : ((pc : Int) + o).toNat = pc2) (k1 : 0 < x → Run p e below Q T (mkF m pc1 Ls rest)) (k2 : ¬ (0 < x) → Run p e below Q T (mkF m pc2 Ls rest)) : Run p e below Q T (mkF m pc Ls (.int x :: rest)) := by
  subst h1
  by_cases cq : 0 < x
  · exact Run.to (fun _ q => XS.ifNo w.at w.hx rfl hd rfl (XT.i0_le_f cq) q) (k1 cq)
  · exact Run.to (fun _ q => XS.ifYes w.at w.hx rfl (pc0 := pc) rfl hd rfl (XT.i0_le_t cq) ho h2 q) (k2 cq)
theorem s_lif_eq (w : Wk p l e R s m args below meth c Z EL own h0 ws T h cells slots S) {x y : Int64} {o : Int} (hd : decode c.code pc = .ok (.ifCond .eq o, 3)) (ho : 0 ≤ (pc : Int) + o) (pc1 : Nat) (h1 : pc + 3 = pc1) (pc2 : Nat) (h2 : ((pc : Int) + o).toNat = pc2) (k1 : ¬ (x = y) → Run p e below Q T (mkF m pc1 Ls rest)) (k2 : x = y → Run p e below Q T (mkF m pc2 Ls rest)) : Run p e below Q T (mkF m pc Ls (.int (XT.cmpL x y) :: rest)) := by
  subst h1
  by_cases cq : x = y
  · exact Run.to (fun _ q => XS.ifYes w.at w.hx rfl (pc0 := pc) rfl hd rfl (XT.ll_eq_t cq) ho h2 q) (k2 cq)
  · exact Run.to (fun _ q => XS.ifNo w.at w.hx rfl hd rfl (XT.ll_eq_f cq) q) (k1 cq)
theorem s_ifnonnull_yes (w : Wk p l e R s m args below meth c Z EL own h0 ws T h cells slots S) {b : Addr} {o : Int} (hd : decode c.code pc = .ok (.ifnonnull o, 3)) (ho : 0 ≤ (pc : Int) + o) (pc' : Nat) (hp : ((pc : Int) + o).toNat = pc') (k : Run p e below Q T (mkF m pc' Ls rest)) : Run p e below Q T (mkF m pc Ls (.ref b :: rest)) :=
  Run.to (fun _ q => XT.ifnonnullYes w.at w.hx rfl (pc0 := pc) rfl hd rfl ho hp q) k
theorem jF (w : Wk p l e R s m args below meth c Z EL own h0 ws T h cells slots S) {R0 O n d : String} {index : Nat} (wl : (Jvm.Cond.fieldLink own index R0 n d).before a0 Z = true) (via : Via Z R0 O n d) {a : Addr} {v : Value} (F : Fld Z h a O n d v) (hd : decode c.code pc = .ok (.getfield index, 3)) (pc' : Nat) (hp : pc + 3 = pc')
    (k : ∀ T', Wk p l e R s m args below meth c Z EL own h0 ws T' h cells slots S → Run p e below Q T' (mkF m pc' Ls (v :: rest))) : Run p e below Q T (mkF m pc Ls (.ref a :: rest)) := by
  obtain ⟨vm0, k0, locs, hx, X, eT, r⟩ := w
  obtain ⟨T', X', e', stp⟩ := getF X hx r.hZ (host := "") r.ow (Or.inl wl) via eT F (g := mkF m pc Ls (.ref a :: rest)) rfl rfl hd
  subst hp
  exact Run.to stp (k T' ⟨vm0, k0, locs, hx, X', e', r⟩)
theorem w_getS (w : Wk p l e R s m args below meth c Z EL own h0 ws T h cells slots S) {R0 O n d : String} {index : Nat} (wl : (Jvm.Cond.fieldLink own index R0 n d).before a0 Z = true) (via : Via Z R0 O n d) {v : Value} (F : Sta Z h O n d v) (hd : decode c.code pc = .ok (.getstatic index, 3)) (pc' : Nat) (hp : pc + 3 = pc')
    (k : ∀ T', Wk p l e R s m args below meth c Z EL own h0 ws T' h cells slots S → Run p e below Q T' (mkF m pc' Ls (v :: st))) : Run p e below Q T (mkF m pc Ls st) := by
  obtain ⟨vm0, k0, locs, hx, X, eT, r⟩ := w
  obtain ⟨T', X', e', stp⟩ := getS (host := "") X hx r.hZ r.ow wl via eT F (g := mkF m pc Ls st) rfl hd
  subst hp
  exact Run.to stp (k T' ⟨vm0, k0, locs, hx, X', e', r⟩)
theorem w_cast (w : Wk p l e R s m args below meth c Z EL own h0 ws T h cells slots S) {K : String} {index : Nat} (wl : (Jvm.Cond.classLink own index K).before a0 Z = true) {a : Addr} (F : Ins Z h a K true) (hd : decode c.code pc = .ok (.checkcast index, 3)) (pc' : Nat) (hp : pc + 3 = pc')
    (k : ∀ T', Wk p l e R s m args below meth c Z EL own h0 ws T' h cells slots S → Run p e below Q T' (mkF m pc' Ls (.ref a :: rest))) : Run p e below Q T (mkF m pc Ls (.ref a :: rest)) := by
  obtain ⟨vm0, k0, locs, hx, X, eT, r⟩ := w
  obtain ⟨T', X', e', stp⟩ := castY X hx r.hZ r.ow wl eT F (g := mkF m pc Ls (.ref a :: rest)) rfl rfl hd
  subst hp
  exact Run.to stp (k T' ⟨vm0, k0, locs, hx, X', e', r⟩)
theorem w_new (w : Wk p l e R s m args below meth c Z EL own h0 ws T h cells slots S) {C : String} {index n : Nat} (wl : (Jvm.Cond.classLink own index C).before a0 Z = true) (wi : (Jvm.Cond.instantiable C n).before a0 Z = true) (wz : (Jvm.Cond.initialized C).before a0 Z = true) (hd : decode c.code pc = .ok (.new index, 3)) (pc' : Nat) (hp : pc + 3 = pc') (hc : cells + 1 ≤ R.cells) (hl : slots + n ≤ R.slots)
    (k : ∀ T' h' x, Wk p l e R s m args below meth c Z EL own h0 ws T' h' (cells + 1) (slots + n) (x :: S) → Ext h h' → h.size ≤ x → h0.size ≤ x → Exa Z h' x C → (∀ {O nm d : String} {ty : FieldType}, Laid Z a0 C O nm d → parseFieldDescriptor d = some ty → Fld Z h' x O nm d (defaultValue ty)) → Run p e below Q T' (mkF m pc' Ls (.ref x :: st))) : Run p e below Q T (mkF m pc Ls st) := by
  obtain ⟨vm0, k0, locs, hx, X, eT, r⟩ := w
  obtain ⟨T', h', X', e', E, A, D, -, stp⟩ := newO X hx r.hZ r.ow wl wi wz eT (g := mkF m pc Ls st) rfl hd hc hl
  subst hp
  exact Run.to stp (k T' h' h.size ⟨vm0, k0, locs, hx, X', e', r.add E (Nat.le_refl _) A.lt⟩ E (Nat.le_refl _) r.keep.1 A D)
theorem w_newP (w : Wk p l e R s m args below meth c Z EL own h0 ws T h cells slots S) {aty : ArrayType} {ty : FieldType} {z : Int32} {n : Nat} {dv : Value} (wl : (Jvm.Cond.arrayClass ty).before a0 Z = true) (hty : newarray.typeOf aty = ty) (hdv : defaultValue ty = dv) (hd : decode c.code pc = .ok (.newarray aty, 2)) (hz : ¬ z < 0) (hn : z.toNatClampNeg ≤ n) (hb : n * 8 ≤ 536870912) (pc' : Nat) (hp : pc + 2 = pc') (hc : cells + 1 ≤ R.cells) (hl : slots + n ≤ R.slots)
    (k : ∀ T' h' x ka, Wk p l e R s m args below meth c Z EL own h0 ws T' h' (cells + 1) (slots + n) (x :: S) → Ext h h' → h.size ≤ x → h0.size ≤ x → Arv Z h' x ka ty z (List.replicate n dv) dv → Run p e below Q T' (mkF m pc' Ls (.ref x :: rest))) : Run p e below Q T (mkF m pc Ls (.int z :: rest)) := by
  obtain ⟨vm0, k0, locs, hx, X, eT, r⟩ := w
  subst hty hdv hp
  obtain ⟨T', h', kA, X', e', E, A, stp⟩ := newP X hx r.hZ wl eT (g := mkF m pc Ls (.int z :: rest)) rfl hd rfl hz hn hb hc hl
  have V := (Arv.new A hz).pad (pad_rep [] _ n)
  exact Run.to stp (k T' h' h.size kA ⟨vm0, k0, locs, hx, X', e', r.add E (Nat.le_refl _) A.lt⟩ E (Nat.le_refl _) r.keep.1 V)
theorem jC (w : Wk p l e R s m args below meth c Z EL own h0 ws T h cells slots S) {a : Addr} {ka : ClassId} {z j x x' : Int32} {vs : List Value} {dv : Value} (V : Arv Z h a ka .char z vs dv) {i : Nat} (hj : ¬ j < 0) (hi : j.toNatClampNeg = i) (hiz : i < z.toNatClampNeg) (hiv : i < vs.length) (hx' : nar .char x = x') (hd : decode c.code pc = .ok (.castore, 1)) (q : a ∈ ws ∨ h0.size ≤ a) (pc' : Nat) (hp : pc + 1 = pc')
    (k : ∀ T' h', Wk p l e R s m args below meth c Z EL own h0 ws T' h' cells slots S → Wr h h' a i (.int x') → Arv Z h' a ka .char z (vs.set i (.int x')) dv → Run p e below Q T' (mkF m pc' Ls rest)) : Run p e below Q T (mkF m pc Ls (.int x :: .int j :: .ref a :: rest)) := by
  obtain ⟨vm0, k0, locs, hx, X, eT, r⟩ := w
  obtain ⟨cl, A, q1, q2, q3, q4, q5⟩ := V
  have hin : ¬ (j < 0 ∨ cl.slots.size ≤ j.toNatClampNeg) := by rw [q2, hi]; rintro (z | z); exact hj z; omega
  obtain ⟨T', h', X', e', Wq, stp⟩ := stC X hx r.hZ eT A hin (g := mkF m pc Ls (.int x :: .int j :: .ref a :: rest)) rfl rfl hd
  subst hp hx'
  have V' := Arv.set A q1 q2 q3 q4 q5 (fits_nar_char x) Wq i hi hiv
  rw [hi] at Wq
  have r' := r.wr Wq (Safe.arr r.hZ.alike A (by decide)) q
  rw [hi] at X'
  exact Run.to stp (k T' h' ⟨vm0, k0, _, hx, X', e', r'⟩ Wq V')
theorem jB (w : Wk p l e R s m args below meth c Z EL own h0 ws T h cells slots S) {a : Addr} {ka : ClassId} {z j x x' : Int32} {vs : List Value} {dv : Value} (V : Arv Z h a ka .byte z vs dv) {i : Nat} (hj : ¬ j < 0) (hi : j.toNatClampNeg = i) (hiz : i < z.toNatClampNeg) (hiv : i < vs.length) (hx' : nar .byte x = x') (hd : decode c.code pc = .ok (.bastore, 1)) (q : a ∈ ws ∨ h0.size ≤ a) (hS : a ∈ S) (pc' : Nat) (hp : pc + 1 = pc')
    (k : ∀ T' h', Wk p l e R s m args below meth c Z EL own h0 ws T' h' cells slots S → Wr h h' a i (.int x') → Arv Z h' a ka .byte z (vs.set i (.int x')) dv → Run p e below Q T' (mkF m pc' Ls rest)) : Run p e below Q T (mkF m pc Ls (.int x :: .int j :: .ref a :: rest)) := by
  obtain ⟨vm0, k0, locs, hx, X, eT, r⟩ := w
  obtain ⟨cl, A, q1, q2, q3, q4, q5⟩ := V
  have hin : ¬ (j < 0 ∨ cl.slots.size ≤ j.toNatClampNeg) := by rw [q2, hi]; rintro (z | z); exact hj z; omega
  obtain ⟨T', h', X', e', Wq, stp⟩ := stB X hx r.hZ eT A hin (g := mkF m pc Ls (.int x :: .int j :: .ref a :: rest)) rfl rfl hd
  subst hp hx'
  have V' := Arv.set A q1 q2 q3 q4 q5 (fits_nar_byte x) Wq i hi hiv
  rw [hi] at Wq
  have r' := r.wr Wq (r.2.2.2.2.2.2.2.2.2 a hS).2 q
  rw [hi] at X'
  exact Run.to stp (k T' h' ⟨vm0, k0, _, hx, X', e', r'⟩ Wq V')
theorem w_len (w : Wk p l e R s m args below meth c Z EL own h0 ws T h cells slots S) {a : Addr} {ka : ClassId} {ty : FieldType} {z : Int32} {vs : List Value} {dv : Value} (V : Arv Z h a ka ty z vs dv) (hd : decode c.code pc = .ok (.arraylength, 1)) (pc' : Nat) (hp : pc + 1 = pc')
    (k : Run p e below Q T (mkF m pc' Ls (.int z :: rest))) : Run p e below Q T (mkF m pc Ls (.ref a :: rest)) := by
  obtain ⟨vm0, k0, locs, hx, X, eT, r⟩ := w
  obtain ⟨cl, A, q1, q2, q3, q4, q5⟩ := V
  subst hp
  rw [← len_of q2 q3] at k
  exact Run.to (X.arraylength hx (by rw [eT]; exact A.1) (State.isArrayOf_alike r.hZ.alike A.2.1) (g := mkF m pc Ls (.ref a :: rest)) rfl rfl hd) k
theorem w_ldC (w : Wk p l e R s m args below meth c Z EL own h0 ws T h cells slots S) {a : Addr} {ka : ClassId} {z j : Int32} {vs : List Value} {dv v : Value} (V : Arv Z h a ka .char z vs dv) {i : Nat} (hj : ¬ j < 0) (hi : j.toNatClampNeg = i) (hiz : i < z.toNatClampNeg) (hv : vs.getD i dv = v) (hd : decode c.code pc = .ok (.caload, 1)) (pc' : Nat) (hp : pc + 1 = pc')
    (k : Run p e below Q T (mkF m pc' Ls (v :: rest))) : Run p e below Q T (mkF m pc Ls (.int j :: .ref a :: rest)) := by
  obtain ⟨vm0, k0, locs, hx, X, eT, r⟩ := w
  obtain ⟨cl, A, q1, q2, q3, q4, q5⟩ := V
  have hin : ¬ (j < 0 ∨ cl.slots.size ≤ j.toNatClampNeg) := by rw [q2, hi]; rintro (z | z); exact hj z; omega
  subst hp
  exact Run.to (X.caload hx (j := j) (v := v) (by rw [eT]; exact A.1) (State.isArrayOf_alike r.hZ.alike A.2.1) A.2.2 hin (q4.at hin (by rw [hi]; exact hv)) (g := mkF m pc Ls (.int j :: .ref a :: rest)) rfl rfl hd) k
theorem w_ldB (w : Wk p l e R s m args below meth c Z EL own h0 ws T h cells slots S) {a : Addr} {ka : ClassId} {z j : Int32} {vs : List Value} {dv v : Value} (V : Arv Z h a ka .byte z vs dv) {i : Nat} (hj : ¬ j < 0) (hi : j.toNatClampNeg = i) (hiz : i < z.toNatClampNeg) (hv : vs.getD i dv = v) (hd : decode c.code pc = .ok (.baload, 1)) (pc' : Nat) (hp : pc + 1 = pc')
    (k : Run p e below Q T (mkF m pc' Ls (v :: rest))) : Run p e below Q T (mkF m pc Ls (.int j :: .ref a :: rest)) := by
  obtain ⟨vm0, k0, locs, hx, X, eT, r⟩ := w
  obtain ⟨cl, A, q1, q2, q3, q4, q5⟩ := V
  have hin : ¬ (j < 0 ∨ cl.slots.size ≤ j.toNatClampNeg) := by rw [q2, hi]; rintro (z | z); exact hj z; omega
  subst hp
  exact Run.to (X.baloadBytes hx (j := j) (v := v) (by rw [eT]; exact A.1) (State.isArrayOf_alike r.hZ.alike A.2.1) A.2.2 hin (q4.at hin (by rw [hi]; exact hv)) (g := mkF m pc Ls (.int j :: .ref a :: rest)) rfl rfl hd) k
theorem w_putF (w : Wk p l e R s m args below meth c Z EL own h0 ws T h cells slots S) {R0 O n d C : String} {index kk : Nat} {ty : FieldType} (wl : (Jvm.Cond.fieldLink own index R0 n d).before a0 Z = true) (via : Via Z R0 O n d) {a : Addr} {v old : Value} (F : Fld Z h a O n d old) (E : Exa Z h a C) (L : (Jvm.Cond.lays C O n d).before a0 Z = true ∨ ((Jvm.Cond.laysFinal C O n d).before a0 Z = true ∧ own = O ∧ meth.name = "<init>")) (wi : (Jvm.Cond.instantiable C kk).before a0 Z = true)
    (hty : parseFieldDescriptor d = some ty) (hn : narrow ty v = v) (hf : fits ty v = true) (hd : decode c.code pc = .ok (.putfield index, 3)) (q : a ∈ ws ∨ h0.size ≤ a) (hS : (C ≠ "java/lang/String" ∧ C ≠ "[B") ∨ a ∈ S) (pc' : Nat) (hp : pc + 3 = pc')
    (k : ∀ T' h', Wk p l e R s m args below meth c Z EL own h0 ws T' h' cells slots S → Wr h h' a (Jvm.RoadKit.slotOf Z O n d) v → Fld Z h' a O n d v → Exa Z h' a C → Run p e below Q T' (mkF m pc' Ls rest)) : Run p e below Q T (mkF m pc Ls (v :: .ref a :: rest)) := by
  obtain ⟨vm0, k0, locs, hx, X, eT, r⟩ := w
  obtain ⟨T', h', X', e', Wq, stp⟩ := putF X hx r.hZ (host := "") r.ow (Or.inl wl) via eT F E L wi hty hn hf (g := mkF m pc Ls (v :: .ref a :: rest)) rfl rfl hd
  subst hp
  have Sa : Safe Z EL vm0 h a := by
    rcases hS with hS | hS
    · exact Safe.exa r.hZ.alike E hS.1 hS.2
    · exact (r.2.2.2.2.2.2.2.2.2 a hS).2
  exact Run.to stp (k T' h' ⟨vm0, k0, _, hx, X', e', r.wr Wq Sa q⟩ Wq (F.same Wq) (E.wr Wq))
theorem w_objInit (w : Wk p l e R s m args below meth c Z EL own h0 ws T h cells slots S) {idx : Nat} (w1 : (Jvm.Cond.methodLink own idx Lib.objectInit).before a0 Z = true) (w2 : (Jvm.Cond.instanceMethod Lib.objectInit).before a0 Z = true) (w3 : (Jvm.Cond.code Lib.objectInit ⟨#[0xb1]⟩ 1 none).before a0 Z = true) {a : Addr} (hd : decode c.code pc = .ok (.invokespecial idx, 3)) (hsz : Ls.size = c.maxLocals) (hf : 1 ≤ R.frames) {W : Nat} (hW : (rest.map fun v => v.category).sum ≤ W) (hl : W + 12 ≤ R.locals) (pc' : Nat) (hp : pc + 3 = pc')
    (k : ∀ T', Wk p l e R s m args below meth c Z EL own h0 ws T' h cells slots S → Run p e below Q T' (mkF m pc' Ls rest)) : Run p e below Q T (mkF m pc Ls (.ref a :: rest)) := by
  obtain ⟨vm0, k0, locs, hx, X, eT, r⟩ := w
  obtain ⟨T', X', e', stp⟩ := initO X hx r.hZ r.ow w1 w2 w3 eT (g := mkF m pc Ls (.ref a :: rest)) rfl hsz rfl hd hf (W := W) (by show 2 * 0 + _ ≤ _; omega) hl
  subst hp
  exact Run.to stp (k T' ⟨vm0, k0, locs, hx, X', e', r⟩)
theorem w_ldcI (w : Wk p l e R s m args below meth c Z EL own h0 ws T h cells slots S) {index : Nat} {v : Int32} (wl : (Jvm.Cond.constant own index v).before a0 Z = true) (hd : decode c.code pc = .ok (.ldc index, 2)) (pc' : Nat) (hp : pc + 2 = pc') (k : Run p e below Q T (mkF m pc' Ls (.int v :: st))) : Run p e below Q T (mkF m pc Ls st) := by
  obtain ⟨vm0, k0, locs, hx, X, eT, r⟩ := w
  subst hp
  exact Run.to (fun _ q => X.ldcI hx r.ow (mvT r.hZ wl) (g := mkF m pc Ls st) rfl hd q) k
theorem w_ldcJ (w : Wk p l e R s m args below meth c Z EL own h0 ws T h cells slots S) {index : Nat} {v : Int64} (wl : (Jvm.Cond.constantLong own index v).before a0 Z = true) (hd : decode c.code pc = .ok (.ldc2_w index, 3)) (pc' : Nat) (hp : pc + 3 = pc') (k : Run p e below Q T (mkF m pc' Ls (.long v :: st))) : Run p e below Q T (mkF m pc Ls st) := by
  obtain ⟨vm0, k0, locs, hx, X, eT, r⟩ := w
  subst hp
  exact Run.to (fun _ q => X.ldc2J hx r.ow (mvT r.hZ wl) (g := mkF m pc Ls st) rfl hd q) k
theorem w_ldcS (w : Wk p l e R s m args below meth c Z EL own h0 ws T h cells slots S) (hEL : EW Z a0 EL) {text : String} {index : Nat} (wl : (Jvm.Cond.stringLink own index text).before a0 Z = true) (wS : ∀ a ∈ Bundle.stringAtoms, a.before a0 Z = true) (hmem : (own, index) ∈ EL) {vs : List Value} {z : Int32} {n : Nat}
    (ht : (∀ c ∈ text.toList, c.toNat < 256) ∧ text.toList.map (fun c => Value.int (Jvm.Lit.byteI c.toNat.toUInt16)) = vs) (hz : ¬ z < 0) (hl : z.toNatClampNeg = vs.length) (hn : 4 * text.toList.length ≤ n) (hbig : n ≤ 536870912) (hd : decode c.code pc = .ok (.ldc index, 2)) (pc' : Nat) (hp : pc + 2 = pc') (hc : cells + 2 ≤ R.cells) (hl' : slots + (n + 4) ≤ R.slots)
    (k : ∀ T' h' x t kb, Wk p l e R s m args below meth c Z EL own h0 ws T' h' (cells + 2) (slots + (n + 4)) S → Ext h h' → Exa Z h' x "java/lang/String" → Fld Z h' x "java/lang/String" "coder" "B" (.int 0) → Fld Z h' x "java/lang/String" "value" "[B" (.ref t) → Arv Z h' t kb .byte z vs (.int 0) → (∀ y ∈ S, y ≠ x ∧ y ≠ t) → Run p e below Q T' (mkF m pc' Ls (.ref x :: st))) : Run p e below Q T (mkF m pc Ls st) := by
  obtain ⟨vm0, k0, locs, hx, X, eT, r⟩ := w
  obtain ⟨x, T', h', k1, t, kb, X', e', E, hS, hk1, hZ', hown', A, C, V, K, -, -, hCH, -, hne, stp⟩ := ldcCH X hx r.hZ r.ow wl wS eT r.1 r.2.1 hEL hmem r.ch ht hz hl (g := mkF m pc Ls st) rfl hd hn hbig hc hl'
  subst hp
  obtain ⟨a1, a2, a3, a4, a5, a6, a7, a8, a9, a10⟩ := r
  have hs : ∀ y ∈ S, y < h'.size ∧ Safe Z EL T'.vm h' y := fun y q => ⟨Nat.lt_of_lt_of_le (a10 y q).1 E.1, hCH.safe (a10 y q).1 (a10 y q).2⟩
  exact Run.to stp (k T' h' x t kb ⟨T'.vm, k1, locs, hx, X', e', hS, hk1, hZ', hown', a5.trans hCH, a6, a7.ext E, a8, a9, hs⟩ E A C V K fun y q => hne y (hs y q).2)
def QmN (Z : State) (EL : List (String × Nat)) (s : State) (h0 : Heap) (ws : List Addr) (rm : Room) (P : Option Value → Heap → List Addr → Prop) (o : Outcome) (U' : State) : Prop :=
  ∃ v L, o = .returned v ∧ (Fr Z.heap.size L ∧ Keep h0 U'.heap ws ∧ ∃ N, P v U'.heap N ∧ ∀ x ∈ N, x < U'.heap.size ∧ Safe Z EL U'.vm U'.heap x) ∧ CHr Z EL s.vm s.heap U'.vm U'.heap ∧ ReturnedEndW s o U' L rm.cells rm.slots
def Pm (Z : State) (EL : List (String × Nat)) (as' : Array Value) (h : Heap) (S ws : List Addr) (a : Array Value) (U : State) : Prop := a = as' ∧ Z.Warmed39 U.vm ∧ U.heap = h ∧ CHv Z EL U.vm h ∧ Ext Z.heap h ∧ (∀ x ∈ ws, Z.heap.size ≤ x) ∧ ∀ x ∈ S, x < h.size ∧ Safe Z EL U.vm h x
def MetN (l : Launch) (Z : State) (EL : List (String × Nat)) (y : MethodName) (bytes : ByteArray) (maxL : Nat) (ret : Option FieldType) (rm : Room) (as' : Array Value) (h : Heap) (S ws : List Addr) (P : Option Value → Heap → List Addr → Prop) : Prop :=
  ∀ wl : List Jvm.Cond, MetFree l y (head1 (Jvm.Cond.code y bytes maxL ret :: wl) rm) (Pm Z EL as' h S ws) (fun _ _ _ _ _ => True) (fun _ U o U' => QmN Z EL U h ws rm P o U')
theorem MetN.of {y : MethodName} {bytes : ByteArray} {maxL : Nat} {ret : Option FieldType} {rm : Room} {as' : Array Value} {P : Option Value → Heap → List Addr → Prop} (hpn : plainFor y = true)
    (body : ∀ p e s m below meth c T, meth.name = y.name → meth.sig.returnType = ret → meth.locks = false → c.code = bytes → c.maxLocals = maxL → s.heap = h0 → Wk p l e rm s m as' below meth c Z EL y.cls h0 ws T h0 0 0 S → Run p e below (QmN Z EL s h0 ws rm P) T (entryFrame m as' maxL)) : MetN l Z EL y bytes maxL ret rm as' h0 S ws P := by
  intro wl
  refine MetFree.of_bodySF (code := bytes) (maxLocals := maxL) (ret := ret) hpn hisR ?_
  intro p e s m args below meth c s₁ Bd hml0 hP hK
  obtain ⟨rfl, hZ, hh, hC, hn, hws, hS⟩ := hP
  have hnm := (name_of_methodNamed Bd.named Bd.method).1
  have hown : s.vm.findClass y.cls = some m.cls := findClass_of_methodNamed Bd.named
  have X0 : Stand p l e rm s m args below meth c s₁ [] 0 0 := Stand.of_body Bd
  have e0 : s₁.heap = h0 := by rw [← hh, Bd.state]; rfl
  exact body p e s m below meth c s₁ hnm Bd.returns Bd.notSynchronized Bd.bytes hml0 hh ⟨s.vm, 0, [], Bd.exec, X0, e0, (State.WarmedH.refl s).since 0, Nat.zero_le _, hZ, hown, CHr.refl hC, Fr.nil _, Keep.refl _ _, hn, hws, hS⟩
theorem w_retN (w : Wk p l e R s m args below meth c Z EL own h0 ws T h cells slots S) (hEL : EW Z a0 EL) (hs : s.heap = h0) (hlk : meth.locks = false) {v : Option Value} (hv : meth.sig.returnType = none → v = none) {P : Option Value → Heap → List Addr → Prop} {N : List Addr} (hN : ∀ x ∈ N, x ∈ S) (hP : P v h N) (hc : cells ≤ R.cells) (hl : slots ≤ R.slots)
    (stp : ∀ {vm0 : Vm} {locs : List Loc}, Stand p l e R (s.setVm vm0) m args below meth c T locs cells slots → ∀ fs, (∀ (f : JFrame) (acts : List Action), f.method = m → f.locked = none → f.entered = [] → (doReturn e (T.setTop f) acts v).1 = T.setFrames fs) → Steps p.tables e below (T.setTop g) (T.setFrames fs)) : Run p e below (QmN Z EL s h0 ws R P) T g := by
  obtain ⟨vm0, k0, locs, hx, X, eT, r⟩ := w
  obtain ⟨fs, hr, hrun, hended, hE⟩ := X.leaveW r.1 (by rw [eT]; exact r.2.1) hv
  refine ⟨_, _, stp X fs hr, hrun, hended, v, locs, rfl, ⟨r.2.2.2.2.2.1, ?_, ?_⟩, ?_, hE.1, hE.2.1, hE.2.2.1, hE.2.2.2.mono hc hl⟩
  · show Keep h0 T.heap ws
    rw [eT]; exact r.keep
  · refine ⟨N, by rw [show (T.setFrames fs).heap = h from eT]; exact hP, fun x z => ?_⟩
    show x < T.heap.size ∧ Safe Z EL T.vm T.heap x
    have q := r.2.2.2.2.2.2.2.2.2 x (hN x z)
    rw [eT]; exact ⟨q.1, (CHv.at X r.hZ hEL r.ch).safe q.1 q.2⟩
  · show CHr Z EL s.vm s.heap T.vm T.heap
    rw [eT, hs]
    exact r.2.2.2.2.1.trans (CHv.at X r.hZ hEL r.ch)
theorem w_ireturnN (w : Wk p l e R s m args below meth c Z EL own h0 ws T h cells slots S) (hEL : EW Z a0 EL) (hs : s.heap = h0) (hlk : meth.locks = false) {t : FieldType} {z : Int32} (hret : meth.sig.returnType = some t) (hn : narrow t (.int z) = .int z) (ht : t = .int ∨ t = .boolean ∨ t = .byte ∨ t = .char ∨ t = .short) {P : Option Value → Heap → List Addr → Prop} (hd : decode c.code pc = .ok (.ireturn, 1)) (hc : cells ≤ R.cells) (hl : slots ≤ R.slots) {N : List Addr} (hN : ∀ x ∈ N, x ∈ S) (hP : P (some (.int z)) h N) : Run p e below (QmN Z EL s h0 ws R P) T (mkF m pc Ls [.int z]) :=
  w_retN w hEL hs hlk (v := some (.int z)) (fun q => by rw [hret] at q; cases q) hN hP hc hl fun X fs hr => X.ireturnOut w.hx hret hn ht hd hr
theorem w_areturnN (w : Wk p l e R s m args below meth c Z EL own h0 ws T h cells slots S) (hEL : EW Z a0 EL) (hs : s.heap = h0) (hlk : meth.locks = false) {t : FieldType} {v : Value} (hret : meth.sig.returnType = some t) (ht : t.isReference = true) (hv : v.isRef = true) {P : Option Value → Heap → List Addr → Prop} (hd : decode c.code pc = .ok (.areturn, 1)) (hc : cells ≤ R.cells) (hl : slots ≤ R.slots) {N : List Addr} (hN : ∀ x ∈ N, x ∈ S) (hP : P (some v) h N) : Run p e below (QmN Z EL s h0 ws R P) T (mkF m pc Ls [v]) :=
  w_retN w hEL hs hlk (v := some v) (fun q => by rw [hret] at q; cases q) hN hP hc hl fun X fs hr => X.areturnOut w.hx hv hret ht hd hr
theorem w_returnN (w : Wk p l e R s m args below meth c Z EL own h0 ws T h cells slots S) (hEL : EW Z a0 EL) (hs : s.heap = h0) (hlk : meth.locks = false) (hret : meth.sig.returnType = none) {P : Option Value → Heap → List Addr → Prop} (hd : decode c.code pc = .ok (.return_, 1)) (hc : cells ≤ R.cells) (hl : slots ≤ R.slots) {N : List Addr} (hN : ∀ x ∈ N, x ∈ S) (hP : P none h N) : Run p e below (QmN Z EL s h0 ws R P) T (mkF m pc Ls []) :=
  w_retN w hEL hs hlk (v := none) (fun _ => rfl) hN hP hc hl fun X fs hr => X.returnOut w.hx hret hd hr
theorem MetN.back {y : MethodName} {bytes : ByteArray} {maxL : Nat} {ret : Option FieldType} {rm : Room} {as' : Array Value} {S' ws' : List Addr} {P : Option Value → Heap → List Addr → Prop} {len W : Nat} (hM : MetN l Z EL y bytes maxL ret rm as' h S' ws' P) (hZ : Z.Warmed39 vm0) (wc : (Jvm.Cond.code y bytes maxL ret).before a0 Z = true) (wz : (Jvm.Cond.initialized y.cls).before a0 Z = true)
    (hf : rm.frames + 1 ≤ R.frames) (hl : W + (maxL + 11) + rm.locals ≤ R.locals) (hEL : EW Z a0 EL) (H : CHv Z EL vm0 h) (hn : Ext Z.heap h) (hws : ∀ x ∈ ws', Z.heap.size ≤ x) (hS : ∀ x ∈ S', x < h.size ∧ Safe Z EL vm0 h x) :
    BackS l R p e below (s.setVm vm0) args y len W (fun A a => a = as' ∧ A.U.heap = h ∧ A.cells + rm.cells ≤ R.cells ∧ A.slots + rm.slots ≤ R.slots)
      (fun A _ v B => ∃ L, (Fr Z.heap.size L ∧ Keep h B.U.heap ws' ∧ ∃ N, P v B.U.heap N ∧ ∀ x ∈ N, x < B.U.heap.size ∧ Safe Z EL B.U.vm B.U.heap x) ∧ B.locs = A.locs ++ L ∧ B.cells = A.cells + rm.cells ∧ B.slots = A.slots + rm.slots ∧ CHr Z EL vm0 h B.U.vm B.U.heap) :=
  BackS.of_freeW (bytes := bytes) (maxL := maxL) (ret := ret) (E := fun _ first o t L k n => k = rm.cells ∧ n = rm.slots ∧ (∃ v, o = .returned v ∧ (Fr Z.heap.size L ∧ Keep h t.heap ws' ∧ ∃ N, P v t.heap N ∧ ∀ x ∈ N, x < t.heap.size ∧ Safe Z EL t.vm t.heap x)) ∧ CHr Z EL first.vm first.heap t.vm t.heap) (hM []) hf hl
    (fun m meth c A a Y hp => have hU : Z.Warmed39 A.U.vm := wtrans (s := s.setVm vm0) hZ Y.warmed
      ⟨by show (Jvm.Cond.and _ .tt).before a A.U = true; rw [Cond.before_and, mv hU wc]; rfl, mv hU wc, mv hU wz, hp.2.2.1, hp.2.2.2⟩)
    (fun m meth c A a g mk Y hp => ⟨hp.1, wtrans (s := s.setVm vm0) hZ Y.warmed, hp.2.1, (CHv.at Y hZ hEL H).1, hn, hws, fun x q => ⟨(hS x q).1, (CHv.at Y hZ hEL H).safe (hS x q).1 (hS x q).2⟩⟩) (fun _ _ _ _ _ _ _ _ _ => trivial)
    (fun _ _ _ _ ⟨v, L, h1, h2, h3, h4⟩ => ⟨L, _, _, h4, rfl, rfl, ⟨v, h1, h2⟩, h3⟩)
    (fun m meth c A a g mk v t L k n Y hp _ _ ⟨e1, e2, ⟨v', e3, e4⟩, e5⟩ => by
      cases e3; subst e1 e2
      refine ⟨L, e4, rfl, rfl, rfl, (CHv.at Y hZ hEL H).trans ?_⟩
      rw [← hp.2.1]; exact e5)
theorem Rs.adds (r : Rs s m Z EL own h0 ws vm0 k0 locs h S) {N : List Addr} (q : ∀ x ∈ N, x < h.size ∧ Safe Z EL vm0 h x) : Rs s m Z EL own h0 ws vm0 k0 locs h (N ++ S) := by
  obtain ⟨a1, a2, a3, a4, a5, a6, a7, a8, a9, a10⟩ := r
  exact ⟨a1, a2, a3, a4, a5, a6, a7, a8, a9, fun x z => (List.mem_append.mp z).elim (q x) (a10 x)⟩
theorem Rs.call (r : Rs s m Z EL own h0 ws vm0 k0 locs h S) {vm1 : Vm} {L : List Loc} {ws' : List Addr} (h2 : (s.setVm vm0).Since vm1 h'.size) (hC : CHr Z EL vm0 h vm1 h') (F : Fr Z.heap.size L) (K : Keep h h' ws') (q : ∀ x ∈ ws', x ∈ ws ∨ h0.size ≤ x) : Rs s m Z EL own h0 ws vm1 h'.size (locs ++ L) h' S := by
  obtain ⟨a1, a2, a3, a4, a5, a6, a7, a8, a9, a10⟩ := r
  exact ⟨a1.trans h2 (Nat.le_trans a2 K.1), Nat.le_refl _, State.Warmed39.trans (t := s.setVm vm0) a3 h2.1, (h2.1.alike.findClass _ _).trans a4, a5.trans hC, a6.app F, a7.trans K q, a8, a9, fun x z => ⟨Nat.lt_of_lt_of_le (a10 x z).1 K.1, hC.safe (a10 x z).1 (a10 x z).2⟩⟩
theorem w_staticN (w : Wk p l e R s m args below meth c Z EL own h0 ws T h cells slots S) (hEL : EW Z a0 EL) {index : Nat} {y : MethodName} {bytes : ByteArray} {maxL : Nat} {ret : Option FieldType} {rm : Room} {as' : Array Value} {S' ws' : List Addr} {P : Option Value → Heap → List Addr → Prop} {W : Nat} {argsL : List Value}
    (w1 : (Jvm.Cond.methodLink own index y).before a0 Z = true) (w2 : (Jvm.Cond.static y).before a0 Z = true) (w3 : (Jvm.Cond.initialized y.cls).before a0 Z = true) (w4 : (Jvm.Cond.code y bytes maxL ret).before a0 Z = true) (hy : y.cls ≠ "java/lang/invoke/MethodHandle" ∧ y.cls ≠ "java/lang/invoke/VarHandle")
    (hM : MetN l Z EL y bytes maxL ret rm as' h S' ws' P) (hS : ∀ x ∈ S', x ∈ S) (hws : ∀ x ∈ ws', x ∈ ws ∨ h0.size ≤ x) (hlen : ∀ sig, parseMethodDescriptor y.desc = some sig → argsL.length = sig.parameters.length) (ha : argsL.toArray = as') (hst : st = argsL.reverse ++ rest) (hd : decode c.code pc = .ok (.invokestatic index, 3)) (hsz : Ls.size = c.maxLocals)
    (hW : (rest.map fun v => v.category).sum ≤ W) (hf : rm.frames + 1 ≤ R.frames) (hl : W + (maxL + 11) + rm.locals ≤ R.locals) (hc : cells + rm.cells ≤ R.cells) (hsl : slots + rm.slots ≤ R.slots) (pc' : Nat) (hp : pc + 3 = pc')
    (k : ∀ v N T' h', Wk p l e R s m args below meth c Z EL own h0 ws T' h' (cells + rm.cells) (slots + rm.slots) (N ++ S) → Keep h h' ws' → P v h' N → Run p e below Q T' (mkF m pc' Ls (v.toList ++ rest))) : Run p e below Q T (mkF m pc Ls st) := by
  obtain ⟨vm0, k0, locs, hx, X, eT, r⟩ := w
  have hn := r.old
  have hb := MetN.back (R := R) (p := p) (e := e) (below := below) (s := s) (args := args) (len := 3) (W := W) hM r.hZ w4 w3 hf hl hEL r.ch hn (fun x q => (hws x q).elim (r.2.2.2.2.2.2.2.2.1 x) (Nat.le_trans r.2.2.2.2.2.2.2.1.1)) (fun x q => r.2.2.2.2.2.2.2.2.2 x (hS x q))
  obtain ⟨v, vm1, ⟨T', L', c', n'⟩, -, X', hSi, hg, ⟨L, ⟨q1, q2, N, q3, qN⟩, y1, y2, y3, hC⟩, stp⟩ := callSS X hx r.ow (mvT r.hZ w1) (mvT r.hZ w2) (mvT r.hZ w3) (mvT r.hZ w4) hy hb (g := mkF m pc Ls st) rfl hsz (argsL := argsL) (rest := rest) hlen hst (by show 2 * 0 + _ ≤ _; omega) hd (fun _ _ => ⟨ha, eT, hc, hsl⟩)
  dsimp only [Pt.U, Pt.locs, Pt.cells, Pt.slots] at X' hSi hg q2 q3 qN y1 y2 y3 hC stp
  subst y1 y2 y3 hp
  exact Run.stp stp (k v N T' T'.heap ⟨T'.vm, _, _, hx, X', rfl, (r.call hSi hC q1 q2 hws).adds qN⟩ q2 q3)
theorem w_specialN (w : Wk p l e R s m args below meth c Z EL own h0 ws T h cells slots S) (hEL : EW Z a0 EL) {index : Nat} {y : MethodName} {bytes : ByteArray} {maxL : Nat} {rm : Room} {as' : Array Value} {S' ws' : List Addr} {P : Option Value → Heap → List Addr → Prop} {W : Nat} {a : Addr} {argsL : List Value}
    (hy1 : y.name = "<init>") (w1 : (Jvm.Cond.methodLink own index y).before a0 Z = true) (w2 : (Jvm.Cond.instanceMethod y).before a0 Z = true) (w3 : (Jvm.Cond.initialized y.cls).before a0 Z = true) (w4 : (Jvm.Cond.code y bytes maxL none).before a0 Z = true) (hy : y.cls ≠ "java/lang/invoke/MethodHandle" ∧ y.cls ≠ "java/lang/invoke/VarHandle")
    (hM : MetN l Z EL y bytes maxL none rm as' h S' ws' P) (hS : ∀ x ∈ S', x ∈ S) (hws : ∀ x ∈ ws', x ∈ ws ∨ h0.size ≤ x) (hlen : ∀ sig, parseMethodDescriptor y.desc = some sig → argsL.length = sig.parameters.length) (ha : (Value.ref a :: argsL).toArray = as') (hst : st = argsL.reverse ++ .ref a :: rest) (hd : decode c.code pc = .ok (.invokespecial index, 3)) (hsz : Ls.size = c.maxLocals)
    (hW : (rest.map fun v => v.category).sum ≤ W) (hf : rm.frames + 1 ≤ R.frames) (hl : W + (maxL + 11) + rm.locals ≤ R.locals) (hc : cells + rm.cells ≤ R.cells) (hsl : slots + rm.slots ≤ R.slots) (pc' : Nat) (hp : pc + 3 = pc')
    (k : ∀ v N T' h', Wk p l e R s m args below meth c Z EL own h0 ws T' h' (cells + rm.cells) (slots + rm.slots) (N ++ S) → Keep h h' ws' → P v h' N → Run p e below Q T' (mkF m pc' Ls (v.toList ++ rest))) : Run p e below Q T (mkF m pc Ls st) := by
  obtain ⟨vm0, k0, locs, hx, X, eT, r⟩ := w
  have hn := r.old
  have hb := MetN.back (R := R) (p := p) (e := e) (below := below) (s := s) (args := args) (len := 3) (W := W) hM r.hZ w4 w3 hf hl hEL r.ch hn (fun x q => (hws x q).elim (r.2.2.2.2.2.2.2.2.1 x) (Nat.le_trans r.2.2.2.2.2.2.2.1.1)) (fun x q => r.2.2.2.2.2.2.2.2.2 x (hS x q))
  obtain ⟨v, vm1, ⟨T', L', c', n'⟩, -, X', hSi, hg, ⟨L, ⟨q1, q2, N, q3, qN⟩, y1, y2, y3, hC⟩, stp⟩ := X.specialBackS hx hy1 r.ow (mvT r.hZ w1) (mvT r.hZ w2) (mvT r.hZ w4) hy hb (g := mkF m pc Ls st) rfl hsz (Steps.refl _) (a := a) (argsL := argsL) (rest := rest) hlen hst (by show 2 * 0 + _ ≤ _; omega) hd (fun _ _ => ⟨ha, eT, hc, hsl⟩)
  dsimp only [Pt.U, Pt.locs, Pt.cells, Pt.slots] at X' hSi hg q2 q3 qN y1 y2 y3 hC stp
  subst y1 y2 y3 hp
  exact Run.stp stp (k v N T' T'.heap ⟨T'.vm, _, _, hx, X', rfl, (r.call hSi hC q1 q2 hws).adds qN⟩ q2 q3)
theorem w_virtualN (w : Wk p l e R s m args below meth c Z EL own h0 ws T h cells slots S) (hEL : EW Z a0 EL) {index : Nat} {y y' : MethodName} {C : String} {bytes : ByteArray} {maxL : Nat} {ret : Option FieldType} {rm : Room} {as' : Array Value} {S' ws' : List Addr} {P : Option Value → Heap → List Addr → Prop} {W : Nat} {a : Addr} {argsL : List Value}
    (w1 : (Jvm.Cond.methodLink own index y).before a0 Z = true) (w2 : (Jvm.Cond.declares y).before a0 Z = true) (w5 : (Jvm.Cond.selects y.cls y y).before a0 Z = true) (w6 : (Jvm.Cond.selects C y y').before a0 Z = true) (w7 : (Jvm.Cond.instanceMethod y').before a0 Z = true) (w3 : (Jvm.Cond.initialized y'.cls).before a0 Z = true) (w4 : (Jvm.Cond.code y' bytes maxL ret).before a0 Z = true) (hy : y.cls ≠ "java/lang/invoke/MethodHandle" ∧ y.cls ≠ "java/lang/invoke/VarHandle")
    (E : Exa Z h a C) (hM : MetN l Z EL y' bytes maxL ret rm as' h S' ws' P) (hS : ∀ x ∈ S', x ∈ S) (hws : ∀ x ∈ ws', x ∈ ws ∨ h0.size ≤ x) (hlen : ∀ sig, parseMethodDescriptor y.desc = some sig → argsL.length = sig.parameters.length) (ha : (Value.ref a :: argsL).toArray = as') (hst : st = argsL.reverse ++ .ref a :: rest) (hd : decode c.code pc = .ok (.invokevirtual index, 3)) (hsz : Ls.size = c.maxLocals)
    (hW : (rest.map fun v => v.category).sum ≤ W) (hf : rm.frames + 1 ≤ R.frames) (hl : W + (maxL + 11) + rm.locals ≤ R.locals) (hc : cells + rm.cells ≤ R.cells) (hsl : slots + rm.slots ≤ R.slots) (pc' : Nat) (hp : pc + 3 = pc')
    (k : ∀ v N T' h', Wk p l e R s m args below meth c Z EL own h0 ws T' h' (cells + rm.cells) (slots + rm.slots) (N ++ S) → Keep h h' ws' → P v h' N → Run p e below Q T' (mkF m pc' Ls (v.toList ++ rest))) : Run p e below Q T (mkF m pc Ls st) := by
  obtain ⟨vm0, k0, locs, hx, X, eT, r⟩ := w
  have hn := r.old
  have hb := MetN.back (R := R) (p := p) (e := e) (below := below) (s := s) (args := args) (len := 3) (W := W) hM r.hZ w4 w3 hf hl hEL r.ch hn (fun x q => (hws x q).elim (r.2.2.2.2.2.2.2.2.1 x) (Nat.le_trans r.2.2.2.2.2.2.2.1.1)) (fun x q => r.2.2.2.2.2.2.2.2.2 x (hS x q))
  obtain ⟨cq, kq, qa, qb, qc⟩ := isOf r.hZ eT E
  obtain ⟨v, vm1, ⟨T', L', c', n'⟩, -, X', hSi, hg, ⟨L, ⟨q1, q2, N, q3, qN⟩, y1, y2, y3, hC⟩, stp⟩ := X.virtualBackS hx r.ow (mvT r.hZ w1) (mvT r.hZ w2) (notFace_of_selects (args := #[]) (mvT r.hZ w5)) (mvT r.hZ w6) (mvT r.hZ w7) hy hb qa qc (g := mkF m pc Ls st) rfl hsz (Steps.refl _) (argsL := argsL) (rest := rest) hlen hst (by show 2 * 0 + _ ≤ _; omega) hd (fun _ _ => ⟨ha, eT, hc, hsl⟩)
  dsimp only [Pt.U, Pt.locs, Pt.cells, Pt.slots] at X' hSi hg q2 q3 qN y1 y2 y3 hC stp
  subst y1 y2 y3 hp
  exact Run.stp stp (k v N T' T'.heap ⟨T'.vm, _, _, hx, X', rfl, (r.call hSi hC q1 q2 hws).adds qN⟩ q2 q3)
def Lf (P : Option Value → Heap → Prop) (v : Option Value) (h : Heap) (N : List Addr) : Prop := N = [] ∧ P v h
abbrev Qm (Z : State) (EL : List (String × Nat)) (s : State) (h0 : Heap) (ws : List Addr) (rm : Room) (P : Option Value → Heap → Prop) (o : Outcome) (U' : State) : Prop := QmN Z EL s h0 ws rm (Lf P) o U'
abbrev Met (l : Launch) (Z : State) (EL : List (String × Nat)) (y : MethodName) (bytes : ByteArray) (maxL : Nat) (ret : Option FieldType) (rm : Room) (as' : Array Value) (h : Heap) (S ws : List Addr) (P : Option Value → Heap → Prop) : Prop := MetN l Z EL y bytes maxL ret rm as' h S ws (Lf P)
theorem Met.of {y : MethodName} {bytes : ByteArray} {maxL : Nat} {ret : Option FieldType} {rm : Room} {as' : Array Value} {P : Option Value → Heap → Prop} (hpn : plainFor y = true)
    (body : ∀ p e s m below meth c T, meth.name = y.name → meth.sig.returnType = ret → meth.locks = false → c.code = bytes → c.maxLocals = maxL → s.heap = h0 → Wk p l e rm s m as' below meth c Z EL y.cls h0 ws T h0 0 0 S → Run p e below (Qm Z EL s h0 ws rm P) T (entryFrame m as' maxL)) : Met l Z EL y bytes maxL ret rm as' h0 S ws P := MetN.of hpn body
theorem nilS : ∀ x ∈ ([] : List Addr), x ∈ S := fun _ q => nomatch q
theorem w_ireturn (w : Wk p l e R s m args below meth c Z EL own h0 ws T h cells slots S) (hEL : EW Z a0 EL) (hs : s.heap = h0) (hlk : meth.locks = false) {t : FieldType} {z : Int32} (hret : meth.sig.returnType = some t) (hn : narrow t (.int z) = .int z) (ht : t = .int ∨ t = .boolean ∨ t = .byte ∨ t = .char ∨ t = .short) {P : Option Value → Heap → Prop} (hd : decode c.code pc = .ok (.ireturn, 1)) (hc : cells ≤ R.cells) (hl : slots ≤ R.slots) (hP : P (some (.int z)) h) : Run p e below (Qm Z EL s h0 ws R P) T (mkF m pc Ls [.int z]) :=
  w_ireturnN w hEL hs hlk hret hn ht hd hc hl nilS ⟨rfl, hP⟩
theorem w_areturn (w : Wk p l e R s m args below meth c Z EL own h0 ws T h cells slots S) (hEL : EW Z a0 EL) (hs : s.heap = h0) (hlk : meth.locks = false) {t : FieldType} {v : Value} (hret : meth.sig.returnType = some t) (ht : t.isReference = true) (hv : v.isRef = true) {P : Option Value → Heap → Prop} (hd : decode c.code pc = .ok (.areturn, 1)) (hc : cells ≤ R.cells) (hl : slots ≤ R.slots) (hP : P (some v) h) : Run p e below (Qm Z EL s h0 ws R P) T (mkF m pc Ls [v]) :=
  w_areturnN w hEL hs hlk hret ht hv hd hc hl nilS ⟨rfl, hP⟩
theorem w_return (w : Wk p l e R s m args below meth c Z EL own h0 ws T h cells slots S) (hEL : EW Z a0 EL) (hs : s.heap = h0) (hlk : meth.locks = false) (hret : meth.sig.returnType = none) {P : Option Value → Heap → Prop} (hd : decode c.code pc = .ok (.return_, 1)) (hc : cells ≤ R.cells) (hl : slots ≤ R.slots) (hP : P none h) : Run p e below (Qm Z EL s h0 ws R P) T (mkF m pc Ls []) :=
  w_returnN w hEL hs hlk hret hd hc hl nilS ⟨rfl, hP⟩
theorem w_static (w : Wk p l e R s m args below meth c Z EL own h0 ws T h cells slots S) (hEL : EW Z a0 EL) {index : Nat} {y : MethodName} {bytes : ByteArray} {maxL : Nat} {ret : Option FieldType} {rm : Room} {as' : Array Value} {S' ws' : List Addr} {P : Option Value → Heap → Prop} {W : Nat} {argsL : List Value}
    (w1 : (Jvm.Cond.methodLink own index y).before a0 Z = true) (w2 : (Jvm.Cond.static y).before a0 Z = true) (w3 : (Jvm.Cond.initialized y.cls).before a0 Z = true) (w4 : (Jvm.Cond.code y bytes maxL ret).before a0 Z = true) (hy : y.cls ≠ "java/lang/invoke/MethodHandle" ∧ y.cls ≠ "java/lang/invoke/VarHandle")
    (hM : Met l Z EL y bytes maxL ret rm as' h S' ws' P) (hS : ∀ x ∈ S', x ∈ S) (hws : ∀ x ∈ ws', x ∈ ws ∨ h0.size ≤ x) (hlen : ∀ sig, parseMethodDescriptor y.desc = some sig → argsL.length = sig.parameters.length) (ha : argsL.toArray = as') (hst : st = argsL.reverse ++ rest) (hd : decode c.code pc = .ok (.invokestatic index, 3)) (hsz : Ls.size = c.maxLocals)
    (hW : (rest.map fun v => v.category).sum ≤ W) (hf : rm.frames + 1 ≤ R.frames) (hl : W + (maxL + 11) + rm.locals ≤ R.locals) (hc : cells + rm.cells ≤ R.cells) (hsl : slots + rm.slots ≤ R.slots) (pc' : Nat) (hp : pc + 3 = pc')
    (k : ∀ v T' h', Wk p l e R s m args below meth c Z EL own h0 ws T' h' (cells + rm.cells) (slots + rm.slots) S → Keep h h' ws' → P v h' → Run p e below Q T' (mkF m pc' Ls (v.toList ++ rest))) : Run p e below Q T (mkF m pc Ls st) :=
  w_staticN w hEL w1 w2 w3 w4 hy hM hS hws hlen ha hst hd hsz hW hf hl hc hsl _ hp fun v N T' h' w' K' P' => by obtain ⟨rfl, P'⟩ := P'; exact k v T' h' w' K' P'
theorem w_special (w : Wk p l e R s m args below meth c Z EL own h0 ws T h cells slots S) (hEL : EW Z a0 EL) {index : Nat} {y : MethodName} {bytes : ByteArray} {maxL : Nat} {rm : Room} {as' : Array Value} {S' ws' : List Addr} {P : Option Value → Heap → Prop} {W : Nat} {a : Addr} {argsL : List Value}
    (hy1 : y.name = "<init>") (w1 : (Jvm.Cond.methodLink own index y).before a0 Z = true) (w2 : (Jvm.Cond.instanceMethod y).before a0 Z = true) (w3 : (Jvm.Cond.initialized y.cls).before a0 Z = true) (w4 : (Jvm.Cond.code y bytes maxL none).before a0 Z = true) (hy : y.cls ≠ "java/lang/invoke/MethodHandle" ∧ y.cls ≠ "java/lang/invoke/VarHandle")
    (hM : Met l Z EL y bytes maxL none rm as' h S' ws' P) (hS : ∀ x ∈ S', x ∈ S) (hws : ∀ x ∈ ws', x ∈ ws ∨ h0.size ≤ x) (hlen : ∀ sig, parseMethodDescriptor y.desc = some sig → argsL.length = sig.parameters.length) (ha : (Value.ref a :: argsL).toArray = as') (hst : st = argsL.reverse ++ .ref a :: rest) (hd : decode c.code pc = .ok (.invokespecial index, 3)) (hsz : Ls.size = c.maxLocals)
    (hW : (rest.map fun v => v.category).sum ≤ W) (hf : rm.frames + 1 ≤ R.frames) (hl : W + (maxL + 11) + rm.locals ≤ R.locals) (hc : cells + rm.cells ≤ R.cells) (hsl : slots + rm.slots ≤ R.slots) (pc' : Nat) (hp : pc + 3 = pc')
    (k : ∀ v T' h', Wk p l e R s m args below meth c Z EL own h0 ws T' h' (cells + rm.cells) (slots + rm.slots) S → Keep h h' ws' → P v h' → Run p e below Q T' (mkF m pc' Ls (v.toList ++ rest))) : Run p e below Q T (mkF m pc Ls st) :=
  w_specialN w hEL hy1 w1 w2 w3 w4 hy hM hS hws hlen ha hst hd hsz hW hf hl hc hsl _ hp fun v N T' h' w' K' P' => by obtain ⟨rfl, P'⟩ := P'; exact k v T' h' w' K' P'
theorem w_virtB (w : Wk p l e R s m args below meth c Z EL own h0 ws T h cells slots S) {index : Nat} {y y' : MethodName} {C : String} {as' : Array Value} {Pv : Option Value → Prop} {W : Nat} {a : Addr} {argsL : List Value}
    (w1 : (Jvm.Cond.methodLink own index y).before a0 Z = true) (w2 : (Jvm.Cond.declares y).before a0 Z = true) (w5 : (Jvm.Cond.selects y.cls y y).before a0 Z = true) (w6 : (Jvm.Cond.selects C y y').before a0 Z = true) (w7 : (Jvm.Cond.instanceMethod y').before a0 Z = true) (hy : y.cls ≠ "java/lang/invoke/MethodHandle" ∧ y.cls ≠ "java/lang/invoke/VarHandle")
    (E : Exa Z h a C) (hK : ∀ vm0, Z.Warmed39 (s.setVm vm0).vm → Back l R p e below (s.setVm vm0) args y' 3 W (fun P b => b = as' ∧ P.U.heap = h ∧ P.cells + 0 ≤ R.cells ∧ P.slots + 0 ≤ R.slots) (fun P _ v B => ∃ L, (Pv v ∧ L = [] ∧ B.U.heap = h) ∧ B.locs = P.locs ++ L ∧ B.cells = P.cells + 0 ∧ B.slots = P.slots + 0))
    (hlen : ∀ sig, parseMethodDescriptor y.desc = some sig → argsL.length = sig.parameters.length) (ha : (Value.ref a :: argsL).toArray = as') (hst : st = argsL.reverse ++ .ref a :: rest) (hd : decode c.code pc = .ok (.invokevirtual index, 3)) (hsz : Ls.size = c.maxLocals)
    (hW : (rest.map fun v => v.category).sum ≤ W) (hc : cells ≤ R.cells) (hsl : slots ≤ R.slots) (pc' : Nat) (hp : pc + 3 = pc')
    (k : ∀ v T', Wk p l e R s m args below meth c Z EL own h0 ws T' h cells slots S → Pv v → Run p e below Q T' (mkF m pc' Ls (v.toList ++ rest))) : Run p e below Q T (mkF m pc Ls st) := by
  obtain ⟨vm0, k0, locs, hx, X, eT, r⟩ := w
  obtain ⟨cq, kq, qa, qb, qc⟩ := isOf r.hZ eT E
  obtain ⟨v, vm1, ⟨T', L', c', n'⟩, -, X', ⟨L, ⟨q1, q2, q3⟩, y1, y2, y3⟩, stp⟩ := X.virtualBack hx r.ow (mvT r.hZ w1) (mvT r.hZ w2) (notFace_of_selects (args := #[]) (mvT r.hZ w5)) (mvT r.hZ w6) (mvT r.hZ w7) hy (hK vm0 r.hZ) qa qc (g := mkF m pc Ls st) rfl hsz (Steps.refl _) (argsL := argsL) (rest := rest) hlen hst (by show 2 * 0 + _ ≤ _; omega) hd (fun _ _ => ⟨ha, eT, hc, hsl⟩)
  dsimp only [Pt.U, Pt.locs, Pt.cells, Pt.slots] at X' q3 y1 y2 y3 stp
  subst q2 y1 y2 y3 hp
  rw [List.append_nil] at X'
  exact Run.stp stp (k v T' ⟨vm0, k0, locs, hx, X', q3, r⟩ q1)
end Kit
end Ow
end Jvm.Pilot.@@N@@


namespace Jvm.Pilot.@@N@@
open Jvm Jvm.ClassFile Sem Op Lib Jvm.Free Jvm.Stand Jvm.LawKit Jvm.RoadKit Bundle Jvm.Pilot.@@N@@.Jvm.D
namespace Ow
open StrChars StrChars.Road
section StrK
variable {p : Program} {l : Launch} {e : Env} {R : Room} {s : State} {m : MethodId} {args : Array Value} {below : List Frame} {meth : Method} {c : Code} {Z : State} {a0 : Array Value} {EL : List (String × Nat)} {own : String} {h0 : Heap} {ws : List Addr} {T T' : State} {h h' hB : Heap} {cells slots : Nat} {S : List Addr} {Q : Outcome → State → Prop} {pc pc' pc1 pc2 : Nat} {Ls l' : Array Slot} {rest st : List Value} {x y : Addr} {cs ds : List Int32}
def Str (Z : State) (h : Heap) (x : Addr) (cs : List Int32) : Prop :=
  Exa Z h x ST ∧ ∃ (t : Addr) (kb : ClassId) (cd N2 : Int32) (vs : List Value), Fld Z h x ST "value" "[B" (.ref t) ∧ Fld Z h x ST "coder" "B" (.int cd) ∧ Arv Z h t kb .byte N2 vs (.int 0) ∧ CodA cs cd N2 vs ∧ (∀ c ∈ cs, ¬ c < 0 ∧ ¬ (65535 : Int32) < c) ∧ cs.length ≤ 4000
theorem Str.ext (F : Str Z h x cs) (E : Ext h h') : Str Z h' x cs := by
  obtain ⟨a, t, kb, cd, N2, vs, q1, q2, q3, q4⟩ := F
  exact ⟨a.ext E, t, kb, cd, N2, vs, q1.ext E, q2.ext E, q3.ext E, q4⟩
theorem Str.low (A : Exa Z h x ST) {t : Addr} {kb : ClassId} {N : Int32} {n : Nat} (V : Fld Z h x ST "value" "[B" (.ref t)) (C : Fld Z h x ST "coder" "B" (.int 0)) (hn : cs.length = n) (hN : N = Int32.ofNat n) (K : Arv Z h t kb .byte N ((cs.map (fun c => c.toInt8.toInt32)).map Value.int) (.int 0)) (hp : ∀ c ∈ cs, ¬ c < 0 ∧ ¬ (255 : Int32) < c) (hl : n ≤ 4000) : Str Z h x cs := by
  subst hN hn
  refine ⟨A, t, kb, 0, _, _, V, C, K, codOf rfl fun c q => (hp c q).2, fun c q => ⟨(hp c q).1, fun z => (hp c q).2 ?_⟩, hl⟩
  have := Int32.lt_iff_toInt_lt.mp z
  rw [Int32.lt_iff_toInt_lt]
  have e1 : (65535 : Int32).toInt = 65535 := by decide
  have e2 : (255 : Int32).toInt = 255 := by decide
  omega
theorem w_strEq (w : Wk p l e R s m args below meth c Z EL own h0 ws T h cells slots S) (hwE : ∀ d ∈ StrChars.Road.wordsEq, d.before a0 Z = true) (wi : (Jvm.Cond.instantiable ST 4).before a0 Z = true) {index : Nat} (w1 : (Jvm.Cond.methodLink own index SEq.yN).before a0 Z = true) (w2 : (Jvm.Cond.declares SEq.yN).before a0 Z = true) (w3 : (Jvm.Cond.selects ST SEq.yN SEq.yN).before a0 Z = true) (w4 : (Jvm.Cond.instanceMethod SEq.yN).before a0 Z = true)
    {zc : Int32} {W : Nat} (X : Str Z h x cs) (Y : Str Z h y ds) (SC : Sta Z Z.heap ST "COMPACT_STRINGS" "Z" (.int zc)) (hz : ¬ zc = 0) (hd : decode c.code pc = .ok (.invokevirtual index, 3)) (hsz : Ls.size = c.maxLocals) (hW : (rest.map fun v => v.category).sum ≤ W) (hf : 2 ≤ R.frames) (hl : W + 28 ≤ R.locals) (hc : cells ≤ R.cells) (hsl : slots ≤ R.slots) (pc' : Nat) (hp : pc + 3 = pc')
    (k : ∀ T' (b : Int32), Wk p l e R s m args below meth c Z EL own h0 ws T' h cells slots S → ((b = 1 ∧ cs = ds) ∨ (b = 0 ∧ ¬ cs = ds)) → Run p e below Q T' (mkF m pc' Ls (.int b :: rest))) : Run p e below Q T (mkF m pc Ls (.ref y :: .ref x :: rest)) := by
  obtain ⟨A, t, kb, cd, N2, vs, q1, q2, q3, q4, q5, q6⟩ := X
  obtain ⟨A', t', kb', cd', N2', vs', q1', q2', q3', q4', q5', q6'⟩ := Y
  have SC' := SC.ext w.old
  refine w_virtB w (y := SEq.yN) (y' := SEq.yN) (C := ST) w1 w2 w3 w3 w4 (by decide) A (Pv := fun v => (v = some (.int 1) ∧ cs = ds) ∨ (v = some (.int 0) ∧ ¬ cs = ds)) (as' := #[.ref x, .ref y]) (W := W) (fun vm0 hZ => StrChars.Road.eqW hZ hwE wi A q1 q2 q3 q4 q5 q6 A' q1' q2' q3' q4' q5' q6' SC' hz hf hl) (argsL := [.ref y]) (rest := rest) (lenOf (by decide +kernel : parseMethodDescriptor "(Ljava/lang/Object;)Z" = some ⟨[.object "java/lang/Object"], some .boolean⟩) rfl) rfl rfl hd hsz hW hc hsl _ hp fun v T' w' P' => ?_
  rcases P' with ⟨rfl, q⟩ | ⟨rfl, q⟩
  · exact k T' 1 w' (Or.inl ⟨rfl, q⟩)
  · exact k T' 0 w' (Or.inr ⟨rfl, q⟩)
end StrK
end Ow
end Jvm.Pilot.@@N@@


namespace Jvm.Pilot.@@N@@
open Jvm Jvm.ClassFile Sem Op Lib Jvm.Free Jvm.Stand Jvm.LawKit Jvm.RoadKit Bundle Jvm.Pilot.@@N@@.Jvm.D
namespace Ow
theorem nf_of {s : State} {a : Array Value} {C : String} {y y5 y6 : MethodName} (w : (Jvm.Cond.selects C y5 y6).before a s = true) (hc : y6.cls = y.cls) : NotFace s y := fun r0 h0 => by
  obtain ⟨c2, r2, m2, q1, q2, q3, q4, kP, hkP, hkPi⟩ := Cond.selects_spec w
  have e1 := findClass_of_methodNamed h0
  have e2 := findClass_of_methodNamed q3
  rw [hc] at e2
  have e3 : m2.cls = r0.cls := Option.some.inj (e2.symm.trans e1)
  rw [e3] at hkP
  exact ⟨kP, hkP, hkPi⟩
theorem same_of {s : State} {a : Array Value} {C : String} {y y5 y6 : MethodName} (w1 : (Jvm.Cond.declares y).before a s = true) (w : (Jvm.Cond.selects C y5 y6).before a s = true) (hc : y6.cls = y.cls) (hy : y.cls ≠ "java/lang/invoke/MethodHandle" ∧ y.cls ≠ "java/lang/invoke/VarHandle") : (Jvm.Cond.sameMethod y.cls y.cls y.name y.desc).before a s = true := by
  obtain ⟨m, me, hn, -⟩ := Cond.declares_spec w1
  have hf := State.methodFound?_of_named hn hy
  obtain ⟨k, hk, hi⟩ := nf_of w hc m hn
  have e1 := findClass_of_methodNamed hn
  have hn' : s.methodNamed? ⟨y.cls, y.name, y.desc⟩ = some m := hn
  simp [Cond.before, Cond.holds, Cond.value, e1, hf, hn', hk, hi]
theorem sel_priv {s : State} {a : Array Value} {C : String} {y y5 y6 : MethodName} (w1 : (Jvm.Cond.instanceMethod y).before a s = true) (wp : (Jvm.Cond.privateMethod y).before a s = true) (w : (Jvm.Cond.selects C y5 y6).before a s = true) (hc : y6.cls = y.cls) (hy : y.cls ≠ "java/lang/invoke/MethodHandle" ∧ y.cls ≠ "java/lang/invoke/VarHandle") : (Jvm.Cond.selects y.cls y y).before a s = true := by
  obtain ⟨m, me, hn, hm, -⟩ := Cond.instanceMethod_spec w1
  have hf := State.methodFound?_of_named hn hy
  obtain ⟨k, hk, hi⟩ := nf_of w hc m hn
  have e1 := findClass_of_methodNamed hn
  have hp := Cond.privateMethod_at wp m me hn hm
  have hs : selectMethod {} s.vm m.cls m = .method m := selectMethod_private hm hp
  simp [Cond.before, Cond.holds, Cond.value, e1, hf, hn, hk, hi, hs]
section Kit4
variable {p : Program} {l : Launch} {e : Env} {R : Room} {s : State} {m : MethodId} {args : Array Value} {below : List Frame} {meth : Method} {c : Code} {Z : State} {a0 : Array Value} {EL : List (String × Nat)} {own : String} {h0 : Heap} {ws : List Addr} {T T' : State} {h h' hB : Heap} {cells slots : Nat} {S : List Addr} {Q : Outcome → State → Prop} {pc pc' pc1 pc2 : Nat} {Ls l' : Array Slot} {rest st : List Value}
theorem w_virtualK (w : Wk p l e R s m args below meth c Z EL own h0 ws T h cells slots S) (hEL : EW Z a0 EL) {index : Nat} {y y' y5 y6 : MethodName} {C C5 : String} {bytes : ByteArray} {maxL : Nat} {ret : Option FieldType} {rm : Room} {as' : Array Value} {S' ws' : List Addr} {P : Option Value → Heap → List Addr → Prop} {W : Nat} {a : Addr} {argsL : List Value}
    (w1 : (Jvm.Cond.methodLink own index y).before a0 Z = true) (w2 : (Jvm.Cond.declares y).before a0 Z = true) (w5 : (Jvm.Cond.selects C5 y5 y6).before a0 Z = true) (h5 : y6.cls = y.cls) (w6 : (Jvm.Cond.selects C y y').before a0 Z = true) (w7 : (Jvm.Cond.instanceMethod y').before a0 Z = true) (w3 : (Jvm.Cond.initialized y'.cls).before a0 Z = true) (w4 : (Jvm.Cond.code y' bytes maxL ret).before a0 Z = true) (hy : y.cls ≠ "java/lang/invoke/MethodHandle" ∧ y.cls ≠ "java/lang/invoke/VarHandle")
    (E : Exa Z h a C) (hM : MetN l Z EL y' bytes maxL ret rm as' h S' ws' P) (hS : ∀ x ∈ S', x ∈ S) (hws : ∀ x ∈ ws', x ∈ ws ∨ h0.size ≤ x) (hlen : ∀ sig, parseMethodDescriptor y.desc = some sig → argsL.length = sig.parameters.length) (ha : (Value.ref a :: argsL).toArray = as') (hst : st = argsL.reverse ++ .ref a :: rest) (hd : decode c.code pc = .ok (.invokevirtual index, 3)) (hsz : Ls.size = c.maxLocals)
    (hW : (rest.map fun v => v.category).sum ≤ W) (hf : rm.frames + 1 ≤ R.frames) (hl : W + (maxL + 11) + rm.locals ≤ R.locals) (hc : cells + rm.cells ≤ R.cells) (hsl : slots + rm.slots ≤ R.slots) (pc' : Nat) (hp : pc + 3 = pc')
    (k : ∀ v N T' h', Wk p l e R s m args below meth c Z EL own h0 ws T' h' (cells + rm.cells) (slots + rm.slots) (N ++ S) → Keep h h' ws' → P v h' N → Run p e below Q T' (mkF m pc' Ls (v.toList ++ rest))) : Run p e below Q T (mkF m pc Ls st) := by
  obtain ⟨vm0, k0, locs, hx, X, eT, r⟩ := w
  have hn := r.old
  have hb := MetN.back (R := R) (p := p) (e := e) (below := below) (s := s) (args := args) (len := 3) (W := W) hM r.hZ w4 w3 hf hl hEL r.ch hn (fun x q => (hws x q).elim (r.2.2.2.2.2.2.2.2.1 x) (Nat.le_trans r.2.2.2.2.2.2.2.1.1)) (fun x q => r.2.2.2.2.2.2.2.2.2 x (hS x q))
  obtain ⟨cq, kq, qa, qb, qc⟩ := isOf r.hZ eT E
  obtain ⟨v, vm1, ⟨T', L', c', n'⟩, -, X', hSi, hg, ⟨L, ⟨q1, q2, N, q3, qN⟩, y1, y2, y3, hC⟩, stp⟩ := X.virtualBackS hx r.ow (mvT r.hZ w1) (mvT r.hZ w2) (nf_of (a := #[]) (mvT r.hZ w5) h5) (mvT r.hZ w6) (mvT r.hZ w7) hy hb qa qc (g := mkF m pc Ls st) rfl hsz (Steps.refl _) (argsL := argsL) (rest := rest) hlen hst (by show 2 * 0 + _ ≤ _; omega) hd (fun _ _ => ⟨ha, eT, hc, hsl⟩)
  dsimp only [Pt.U, Pt.locs, Pt.cells, Pt.slots] at X' hSi hg q2 q3 qN y1 y2 y3 hC stp
  subst y1 y2 y3 hp
  exact Run.stp stp (k v N T' T'.heap ⟨T'.vm, _, _, hx, X', rfl, (r.call hSi hC q1 q2 hws).adds qN⟩ q2 q3)
theorem w_privateN (w : Wk p l e R s m args below meth c Z EL own h0 ws T h cells slots S) (hEL : EW Z a0 EL) {index : Nat} {y y5 y6 : MethodName} {C C5 : String} {bytes : ByteArray} {maxL : Nat} {ret : Option FieldType} {rm : Room} {as' : Array Value} {S' ws' : List Addr} {P : Option Value → Heap → List Addr → Prop} {W : Nat} {a : Addr} {argsL : List Value}
    (w1 : (Jvm.Cond.methodLink own index y).before a0 Z = true) (w5 : (Jvm.Cond.selects C5 y5 y6).before a0 Z = true) (h5 : y6.cls = y.cls) (w8 : (Jvm.Cond.privateMethod y).before a0 Z = true) (w7 : (Jvm.Cond.instanceMethod y).before a0 Z = true) (w3 : (Jvm.Cond.initialized y.cls).before a0 Z = true) (w4 : (Jvm.Cond.code y bytes maxL ret).before a0 Z = true) (hy : y.cls ≠ "java/lang/invoke/MethodHandle" ∧ y.cls ≠ "java/lang/invoke/VarHandle")
    (E : Exa Z h a C) (hM : MetN l Z EL y bytes maxL ret rm as' h S' ws' P) (hS : ∀ x ∈ S', x ∈ S) (hws : ∀ x ∈ ws', x ∈ ws ∨ h0.size ≤ x) (hlen : ∀ sig, parseMethodDescriptor y.desc = some sig → argsL.length = sig.parameters.length) (ha : (Value.ref a :: argsL).toArray = as') (hst : st = argsL.reverse ++ .ref a :: rest) (hd : decode c.code pc = .ok (.invokevirtual index, 3)) (hsz : Ls.size = c.maxLocals)
    (hW : (rest.map fun v => v.category).sum ≤ W) (hf : rm.frames + 1 ≤ R.frames) (hl : W + (maxL + 11) + rm.locals ≤ R.locals) (hc : cells + rm.cells ≤ R.cells) (hsl : slots + rm.slots ≤ R.slots) (pc' : Nat) (hp : pc + 3 = pc')
    (k : ∀ v N T' h', Wk p l e R s m args below meth c Z EL own h0 ws T' h' (cells + rm.cells) (slots + rm.slots) (N ++ S) → Keep h h' ws' → P v h' N → Run p e below Q T' (mkF m pc' Ls (v.toList ++ rest))) : Run p e below Q T (mkF m pc Ls st) := by
  obtain ⟨vm0, k0, locs, hx, X, eT, r⟩ := w
  have hn := r.old
  have hb := MetN.back (R := R) (p := p) (e := e) (below := below) (s := s) (args := args) (len := 3) (W := W) hM r.hZ w4 w3 hf hl hEL r.ch hn (fun x q => (hws x q).elim (r.2.2.2.2.2.2.2.2.1 x) (Nat.le_trans r.2.2.2.2.2.2.2.1.1)) (fun x q => r.2.2.2.2.2.2.2.2.2 x (hS x q))
  obtain ⟨cell, kc, g1, g2, g3, g4, -⟩ := E
  obtain ⟨v, vm1, ⟨T', L', c', n'⟩, -, X', hSi, hg, ⟨L, ⟨q1, q2, N, q3, qN⟩, y1, y2, y3, hC⟩, stp⟩ := X.privateBackS hx r.ow (mvT r.hZ w1) (mvT r.hZ w7) (sel_priv (mvT r.hZ w7) (mvT r.hZ w8) (mvT r.hZ w5) h5 hy) (Cond.privateMethod_at (args := #[]) (mvT r.hZ w8)) (mvT r.hZ w4) hy hb (g := mkF m pc Ls st) rfl hsz (Steps.refl _) (a := a) (cell := cell) (by rw [eT]; exact g1) (fun q e => by rw [e] at g4; cases g4) (argsL := argsL) (rest := rest) hlen hst (by show 2 * 0 + _ ≤ _; omega) hd (fun _ _ => ⟨ha, eT, hc, hsl⟩)
  dsimp only [Pt.U, Pt.locs, Pt.cells, Pt.slots] at X' hSi hg q2 q3 qN y1 y2 y3 hC stp
  subst y1 y2 y3 hp
  exact Run.stp stp (k v N T' T'.heap ⟨T'.vm, _, _, hx, X', rfl, (r.call hSi hC q1 q2 hws).adds qN⟩ q2 q3)
theorem w_superN (w : Wk p l e R s m args below meth c Z EL own h0 ws T h cells slots S) (hEL : EW Z a0 EL) {index : Nat} {y y5 y6 : MethodName} {C C5 : String} {bytes : ByteArray} {maxL : Nat} {ret : Option FieldType} {rm : Room} {as' : Array Value} {S' ws' : List Addr} {P : Option Value → Heap → List Addr → Prop} {W : Nat} {a : Addr} {argsL : List Value}
    (hy1 : y.name ≠ "<init>") (w1 : (Jvm.Cond.methodLink own index y).before a0 Z = true) (w2 : (Jvm.Cond.declares y).before a0 Z = true) (w5 : (Jvm.Cond.selects C5 y5 y6).before a0 Z = true) (h5 : y6.cls = y.cls) (w8 : (Jvm.Cond.superclass own y.cls).before a0 Z = true) (w7 : (Jvm.Cond.instanceMethod y).before a0 Z = true) (w3 : (Jvm.Cond.initialized y.cls).before a0 Z = true) (w4 : (Jvm.Cond.code y bytes maxL ret).before a0 Z = true) (hy : y.cls ≠ "java/lang/invoke/MethodHandle" ∧ y.cls ≠ "java/lang/invoke/VarHandle")
    (E : Exa Z h a C) (hM : MetN l Z EL y bytes maxL ret rm as' h S' ws' P) (hS : ∀ x ∈ S', x ∈ S) (hws : ∀ x ∈ ws', x ∈ ws ∨ h0.size ≤ x) (hlen : ∀ sig, parseMethodDescriptor y.desc = some sig → argsL.length = sig.parameters.length) (ha : (Value.ref a :: argsL).toArray = as') (hst : st = argsL.reverse ++ .ref a :: rest) (hd : decode c.code pc = .ok (.invokespecial index, 3)) (hsz : Ls.size = c.maxLocals)
    (hW : (rest.map fun v => v.category).sum ≤ W) (hf : rm.frames + 1 ≤ R.frames) (hl : W + (maxL + 11) + rm.locals ≤ R.locals) (hc : cells + rm.cells ≤ R.cells) (hsl : slots + rm.slots ≤ R.slots) (pc' : Nat) (hp : pc + 3 = pc')
    (k : ∀ v N T' h', Wk p l e R s m args below meth c Z EL own h0 ws T' h' (cells + rm.cells) (slots + rm.slots) (N ++ S) → Keep h h' ws' → P v h' N → Run p e below Q T' (mkF m pc' Ls (v.toList ++ rest))) : Run p e below Q T (mkF m pc Ls st) := by
  obtain ⟨vm0, k0, locs, hx, X, eT, r⟩ := w
  have hn := r.old
  have hb := MetN.back (R := R) (p := p) (e := e) (below := below) (s := s) (args := args) (len := 3) (W := W) hM r.hZ w4 w3 hf hl hEL r.ch hn (fun x q => (hws x q).elim (r.2.2.2.2.2.2.2.2.1 x) (Nat.le_trans r.2.2.2.2.2.2.2.1.1)) (fun x q => r.2.2.2.2.2.2.2.2.2 x (hS x q))
  obtain ⟨v, vm1, ⟨T', L', c', n'⟩, -, X', hSi, hg, ⟨L, ⟨q1, q2, N, q3, qN⟩, y1, y2, y3, hC⟩, stp⟩ := superBackS X hx r.hZ r.ow w1 (same_of w2 w5 h5 hy) w7 w8 hy1 hb eT (Ins.self E) (g := mkF m pc Ls st) rfl hsz w4 (argsL := argsL) (rest := rest) hlen hst (by show 2 * 0 + _ ≤ _; omega) hd (fun _ _ => ⟨ha, eT, hc, hsl⟩)
  dsimp only [Pt.U, Pt.locs, Pt.cells, Pt.slots] at X' hSi hg q2 q3 qN y1 y2 y3 hC stp
  subst y1 y2 y3 hp
  exact Run.stp stp (k v N T' T'.heap ⟨T'.vm, _, _, hx, X', rfl, (r.call hSi hC q1 q2 hws).adds qN⟩ q2 q3)
theorem w_copyB (w : Wk p l e R s m args below meth c Z EL own h0 ws T h cells slots S) {index : Nat} (w1 : (Jvm.Cond.methodLink own index Jvm.Stand.acN).before a0 Z = true) (w2 : (Jvm.Cond.native Jvm.Stand.acN).before a0 Z = true) (w3 : (Jvm.Cond.static Jvm.Stand.acN).before a0 Z = true) (w4 : (Jvm.Cond.initialized "java/lang/System").before a0 Z = true)
    {a b : Addr} {ka kb : ClassId} {z z' sp dp nn : Int32} {vs vd us : List Value} {dv dd : Value} {is id n W : Nat} (A : Arv Z h a ka .byte z vs dv) (B : Arv Z h b kb .byte z' vd dd) (h1 : sp = Int32.ofNat is) (h2 : dp = Int32.ofNat id) (h3 : nn = Int32.ofNat n) (b1 : is ≤ 4000) (b2 : id ≤ 4000) (b3 : n ≤ 4000)
    (h4 : is + n ≤ z.toNatClampNeg) (h5 : id + n ≤ z'.toNatClampNeg) (hus : us = (List.range n).map fun i => vs.getD (is + i) dv) (hlv : id + n ≤ vd.length) (hS : b ∈ S) (q : b ∈ ws ∨ h0.size ≤ b) (hst : st = .int nn :: .int dp :: .ref b :: .int sp :: .ref a :: rest) (hd : decode c.code pc = .ok (.invokestatic index, 3)) (hsz : Ls.size = c.maxLocals)
    (hf : 1 ≤ R.frames) (hW : (rest.map fun v => v.category).sum ≤ W) (hlo : W + (nativeFrameWords "java/lang/System" "arraycopy" 5 + 11) ≤ R.locals) (pc' : Nat) (hp : pc + 3 = pc')
    (k : ∀ T' h', Wk p l e R s m args below meth c Z EL own h0 ws T' h' cells slots S → Keep h h' [b] → Arv Z h' b kb .byte z' (vd.take id ++ us ++ vd.drop (id + n)) dd → Run p e below Q T' (mkF m pc' Ls rest)) : Run p e below Q T (mkF m pc Ls st) := by
  obtain ⟨vm0, k0, locs, hx, X, eT, r⟩ := w
  have cl : ∀ j : Nat, j ≤ 4000 → (Int32.ofNat j).toNatClampNeg = j := fun j hj => by
    show (Int32.ofNat j).toInt.toNat = j
    rw [Int32.toInt_ofNat_of_lt (by omega)]; rfl
  have nl : ∀ j : Nat, j ≤ 4000 → ¬ (Int32.ofNat j) < 0 := fun j hj => by
    have e : (0 : Int32).toInt = 0 := rfl
    rw [Int32.lt_iff_toInt_lt, Int32.toInt_ofNat_of_lt (by omega), e]; omega
  subst h1 h2 h3 hp hst
  obtain ⟨a1, a2, a3, a4, a5, a6, a7, a8, a9, a10⟩ := r
  have ge : Z.heap.size ≤ b := q.elim (a9 b) (fun z => Nat.le_trans a8.1 z)
  obtain ⟨T', h', L, X', e', N', K', B', stp⟩ := cpA X hx a3 a4 w1 w2 w3 w4 eT A B (Or.inl ⟨rfl, rfl⟩) (nl is b1) (nl id b2) (nl n b3) (by rw [cl is b1, cl n b3]; exact h4) (by rw [cl id b2, cl n b3]; exact h5) (us := us) (by rw [cl is b1, cl n b3]; exact hus) (by rw [cl id b2, cl n b3]; exact hlv) (n0 := Z.heap.size) a6 ge (g := mkF m pc Ls (.int (Int32.ofNat n) :: .int (Int32.ofNat id) :: .ref b :: .int (Int32.ofNat is) :: .ref a :: rest)) rfl hsz rfl hd hf (W := W) (by show 2 * 0 + _ ≤ _; omega) hlo
  rw [cl id b2, cl n b3] at B'
  have Sb := (a10 b hS).2
  have hCr : CHr Z EL vm0 h vm0 h' := CHr.keep K' (fun y z => by rw [List.mem_singleton.mp z]; exact Sb) a5.1
  have r' : Rs s m Z EL own h0 ws vm0 k0 L h' S := ⟨a1, Nat.le_trans a2 K'.1, a3, a4, a5.trans hCr, N', a7.trans K' (fun y z => by rw [List.mem_singleton.mp z]; exact q), a8, a9, fun y z => ⟨Nat.lt_of_lt_of_le (a10 y z).1 K'.1, hCr.safe (a10 y z).1 (a10 y z).2⟩⟩
  exact Run.to stp (k T' h' ⟨vm0, k0, L, hx, X', e', r'⟩ K' B')
end Kit4
end Ow
end Jvm.Pilot.@@N@@


namespace Jvm.Pilot.@@N@@
open Jvm Jvm.ClassFile Sem Op Lib Jvm.Free Jvm.Stand Jvm.LawKit Jvm.RoadKit Bundle Jvm.Pilot.@@N@@.Jvm.D
namespace Ow
section Kit5
variable {p : Program} {l : Launch} {e : Env} {R : Room} {s : State} {m : MethodId} {args : Array Value} {below : List Frame} {meth : Method} {c : Code} {Z : State} {a0 : Array Value} {EL : List (String × Nat)} {own : String} {h0 : Heap} {ws : List Addr} {T T' : State} {h h' hB : Heap} {cells slots : Nat} {S : List Addr} {Q : Outcome → State → Prop} {pc pc' pc1 pc2 : Nat} {Ls l' : Array Slot} {rest st : List Value}
theorem w_clone (w : Wk p l e R s m args below meth c Z EL own h0 ws T h cells slots S) {ad : String} {index : Nat} (w1 : (Jvm.Cond.methodLink own index ⟨ad, "clone", "()Ljava/lang/Object;"⟩).before a0 Z = true) (w2 : (Jvm.Cond.sameMethod ad "java/lang/Object" "clone" "()Ljava/lang/Object;").before a0 Z = true) (w3 : (Jvm.Cond.native ⟨"java/lang/Object", "clone", "()Ljava/lang/Object;"⟩).before a0 Z = true)
    (w4 : (Jvm.Cond.instanceMethod ⟨"java/lang/Object", "clone", "()Ljava/lang/Object;"⟩).before a0 Z = true) (w5 : (Jvm.Cond.selects ad ⟨ad, "clone", "()Ljava/lang/Object;"⟩ ⟨"java/lang/Object", "clone", "()Ljava/lang/Object;"⟩).before a0 Z = true) (w6 : (Jvm.Cond.castable ad "java/lang/Cloneable").before a0 Z = true)
    {a : Addr} {k : ClassId} {ty : FieldType} {z : Int32} {vs : List Value} {dv : Value} {W cap : Nat} (F : Arv Z h a k ty z vs dv) (E : Exa Z h a ad) (hd : decode c.code pc = .ok (.invokevirtual index, 3)) (hsz : Ls.size = c.maxLocals) (hf : 1 ≤ R.frames) (hW : (rest.map fun v => v.category).sum ≤ W) (hl : W + 14 ≤ R.locals) (hcap : z.toNatClampNeg ≤ cap) (hc : cells + 1 ≤ R.cells) (hsl : slots + cap ≤ R.slots) (pc' : Nat) (hp : pc + 3 = pc')
    (kk : ∀ T' h' x, Wk p l e R s m args below meth c Z EL own h0 ws T' h' (cells + 1) (slots + cap) S → Ext h h' → Arv Z h' x k ty z vs dv → Exa Z h' x ad → Run p e below Q T' (mkF m pc' Ls (.ref x :: rest))) : Run p e below Q T (mkF m pc Ls (.ref a :: rest)) := by
  obtain ⟨vm0, k0, locs, hx, X, eT, r⟩ := w
  obtain ⟨T', h', X', e', ex, A', E', st⟩ := cloneH X hx r.hZ r.ow w1 w2 w3 w4 w5 w6 eT F.arh E (g := mkF m pc Ls (.ref a :: rest)) rfl hsz (rest := rest) rfl hd hf (W := W) (by show 2 * 0 + _ ≤ _; omega) hl hcap hc hsl
  subst hp
  exact Run.to st (kk T' h' h.size ⟨vm0, k0, locs, hx, X', e', r.ext ex⟩ ex A' E')
end Kit5
theorem fit_of {s : State} (hF : heapFits s = true) : Fit s := fun {y c} hc i hi => by
  obtain ⟨ha, rfl⟩ := Array.getElem?_eq_some_iff.mp hc
  have q := List.all_eq_true.mp ((Array.all_eq_true_iff_forall_mem.mp hF) _ (Array.getElem_mem ha)) i (List.mem_range.mpr hi)
  simpa [Array.getElem?_eq_getElem hi] using q
theorem hasL_of {c : Cell} {dv : Value} : ∀ (vs : List Value) (i : Nat), (∀ j, j < vs.length → c.slots[i + j]? = some (vs.getD j dv)) → HasL c i vs
  | [], _, _ => trivial
  | v :: r, i, H => ⟨H 0 (by simp), hasL_of r (i + 1) fun j hj => by
    have q := H (j + 1) (by simpa using hj)
    rw [show i + (j + 1) = i + 1 + j from by omega] at q
    simpa using q⟩
theorem arv_start {Z : State} {args : Array Value} {t : Term} {a : Addr} {ty : FieldType} {z : Int32} {vs : List Value} {dv : Value} (hf : Fit Z) (ev : t.eval args Z none [] Z = some (.ref a)) (hA : (Jvm.Cond.arrayOf t ty).value args Z none Z [] = some true) (hl : (Term.length t).eval args Z none [] Z = some (.int z)) (hz : ¬ z < 0) (hn : z.toNatClampNeg = vs.length) (hv : vs.length ≤ 4000)
    (H : ∀ j, j < vs.length → (Term.elem t (.int (Int32.ofNat j))).eval args Z none [] Z = some (vs.getD j dv)) : ∃ k, Arv Z Z.heap a k ty z vs dv := by
  obtain ⟨cl, A⟩ := Arr.start ev hA
  have ha : Z.arrayAt? a = some cl := Arr.fin (Vm.Alike.refl _) A
  have hq : cl.slots.size < 2 ^ 31 ∧ cl.slots.size.toInt32 = z := by
    simp only [Term.eval, ev, ha, Option.bind_eq_bind, Option.bind_some] at hl
    split at hl
    · rename_i q
      exact ⟨q, by simpa using hl⟩
    · simp at hl
  refine ⟨cl.cls, Arv.start hf A hq.1 hq.2 hz hn (hasL_of (dv := dv) vs 0 fun j hj => ?_)⟩
  have nl : ¬ (Int32.ofNat j) < 0 := by
    have e : (0 : Int32).toInt = 0 := rfl
    rw [Int32.lt_iff_toInt_lt, Int32.toInt_ofNat_of_lt (by omega), e]; omega
  have q := H j hj
  rw [elem_f ev (rfl : (Term.int (Int32.ofNat j)).eval args Z none [] Z = some (.int (Int32.ofNat j))) ha nl] at q
  have cl' : (Int32.ofNat j).toNatClampNeg = j := by
    show (Int32.ofNat j).toInt.toNat = j
    rw [Int32.toInt_ofNat_of_lt (by omega)]; rfl
  rw [cl'] at q
  rw [Nat.zero_add]; exact q
end Ow
end Jvm.Pilot.@@N@@


namespace Jvm.Pilot.@@N@@
open Jvm Jvm.ClassFile Sem Op Lib Jvm.Free Jvm.Stand Jvm.LawKit Jvm.RoadKit Bundle Jvm.Pilot.@@N@@.Jvm.D
namespace Ow
section Kit6
variable {p : Program} {l : Launch} {e : Env} {R : Room} {s : State} {m : MethodId} {args : Array Value} {below : List Frame} {meth : Method} {c : Code} {Z : State} {a0 : Array Value} {EL : List (String × Nat)} {own : String} {h0 : Heap} {ws : List Addr} {T T' : State} {h h' hB : Heap} {cells slots : Nat} {S : List Addr} {Q : Outcome → State → Prop} {pc pc' pc1 pc2 : Nat} {Ls l' : Array Slot} {rest st : List Value}
theorem w_getSR (w : Wk p l e R s m args below meth c Z EL own h0 ws T h cells slots S) {R0 n d : String} {index : Nat} {v : Value} (wl : (Jvm.Cond.fieldRef own index R0 n d).before a0 Z = true) (F : Sta Z h R0 n d v) (hd : decode c.code pc = .ok (.getstatic index, 3)) (pc' : Nat) (hp : pc + 3 = pc')
    (k : Run p e below Q T (mkF m pc' Ls (v :: st))) : Run p e below Q T (mkF m pc Ls st) := by
  obtain ⟨vm0, k0, locs, hx, X, eT, r⟩ := w
  subst hp
  have hZT : Z.Warmed39 T.vm := wtrans (s := s.setVm vm0) r.hZ X.warmed
  have w1 := Cond.fieldRef_warmed39 hZT wl
  have how : (Z.setVm T.vm).vm.findClass own = some m.cls := (X.warmed.alike.findClass _ _).trans r.ow
  obtain ⟨cf, kk, i, f, hi, hready⟩ := Cond.fieldRef_spec how w1
  obtain ⟨cf', i', k', f', st', cell, h1, h2, h3, h4, h5, h6, h7⟩ := F
  obtain ⟨k2, hi2, ek⟩ := State.fieldFound?_setVm (s := Z) hZT.alike h1
  cases hi.symm.trans hi2
  obtain ⟨hk, hf⟩ := State.fieldFound?_spec hi
  refine Run.to (fun target hrest => ?_) k
  jvm_step X.here [hx, hd, getstatic.wp_ready (e := e) (s := T) (f := mkF m pc Ls st) X.here.top hready h2 hk (by rw [ek]; exact h3) (by rw [ek]; exact h4) (show T.heap[st']? = some cell by rw [eT]; exact h5) (fun q => by rw [q] at h6; cases h6) h7]
  exact hrest
theorem w_ldI (w : Wk p l e R s m args below meth c Z EL own h0 ws T h cells slots S) {a : Addr} {ka : ClassId} {z j : Int32} {vs : List Value} {dv v : Value} (V : Arv Z h a ka .int z vs dv) {i : Nat} (hj : ¬ j < 0) (hi : j.toNatClampNeg = i) (hiz : i < z.toNatClampNeg) (hv : vs.getD i dv = v) (hd : decode c.code pc = .ok (.iaload, 1)) (pc' : Nat) (hp : pc + 1 = pc')
    (k : Run p e below Q T (mkF m pc' Ls (v :: rest))) : Run p e below Q T (mkF m pc Ls (.int j :: .ref a :: rest)) := by
  obtain ⟨vm0, k0, locs, hx, X, eT, r⟩ := w
  obtain ⟨cl, A, q1, q2, q3, q4, q5⟩ := V
  have hin : ¬ (j < 0 ∨ cl.slots.size ≤ j.toNatClampNeg) := by rw [q2, hi]; rintro (z | z); exact hj z; omega
  subst hp
  exact Run.to (X.iaload hx (j := j) (v := v) (by rw [eT]; exact A.1) (State.isArrayOf_alike r.hZ.alike A.2.1) A.2.2 hin (q4.at hin (by rw [hi]; exact hv)) (g := mkF m pc Ls (.int j :: .ref a :: rest)) rfl rfl hd) k
theorem w_specialR (w : Wk p l e R s m args below meth c Z EL own h0 ws T h cells slots S) (hEL : EW Z a0 EL) {index : Nat} {y : MethodName} {bytes : ByteArray} {maxL : Nat} {rm : Room} {as' : Array Value} {S' ws' : List Addr} {P : Option Value → Heap → List Addr → Prop} {W : Nat} {a : Addr} {argsL : List Value}
    (hy1 : y.name = "<init>") (w1 : (Jvm.Cond.methodRef own index y).before a0 Z = true) (w2 : (Jvm.Cond.instanceMethod y).before a0 Z = true) (w3 : (Jvm.Cond.initialized y.cls).before a0 Z = true) (w4 : (Jvm.Cond.code y bytes maxL none).before a0 Z = true) (hy : y.cls ≠ "java/lang/invoke/MethodHandle" ∧ y.cls ≠ "java/lang/invoke/VarHandle")
    (hM : MetN l Z EL y bytes maxL none rm as' h S' ws' P) (hS : ∀ x ∈ S', x ∈ S) (hws : ∀ x ∈ ws', x ∈ ws ∨ h0.size ≤ x) (hlen : ∀ sig, parseMethodDescriptor y.desc = some sig → argsL.length = sig.parameters.length) (ha : (Value.ref a :: argsL).toArray = as') (hst : st = argsL.reverse ++ .ref a :: rest) (hd : decode c.code pc = .ok (.invokespecial index, 3)) (hsz : Ls.size = c.maxLocals)
    (hW : (rest.map fun v => v.category).sum ≤ W) (hf : rm.frames + 1 ≤ R.frames) (hl : W + (maxL + 11) + rm.locals ≤ R.locals) (hc : cells + rm.cells ≤ R.cells) (hsl : slots + rm.slots ≤ R.slots) (pc' : Nat) (hp : pc + 3 = pc')
    (k : ∀ v N T' h', Wk p l e R s m args below meth c Z EL own h0 ws T' h' (cells + rm.cells) (slots + rm.slots) (N ++ S) → Keep h h' ws' → P v h' N → Run p e below Q T' (mkF m pc' Ls (v.toList ++ rest))) : Run p e below Q T (mkF m pc Ls st) := by
  obtain ⟨vm0, k0, locs, hx, X, eT, r⟩ := w
  have hn := r.old
  have hb := MetN.back (R := R) (p := p) (e := e) (below := below) (s := s) (args := args) (len := 3) (W := W) hM r.hZ w4 w3 hf hl hEL r.ch hn (fun x q => (hws x q).elim (r.2.2.2.2.2.2.2.2.1 x) (Nat.le_trans r.2.2.2.2.2.2.2.1.1)) (fun x q => r.2.2.2.2.2.2.2.2.2 x (hS x q))
  have hZT : Z.Warmed39 T.vm := wtrans (s := s.setVm vm0) r.hZ X.warmed
  have how : (Z.setVm T.vm).vm.findClass own = some m.cls := (X.warmed.alike.findClass _ _).trans r.ow
  obtain ⟨mkZ, -, hnZ, -⟩ := Cond.instanceMethod_spec w2
  have w1T := Cond.methodRef_warmed39 hZT hnZ hy w1
  have w2T : (Jvm.Cond.instanceMethod y).before a0 (Z.setVm T.vm) = true := mv (s := Z.setVm T.vm) hZT w2
  have w4T : (Jvm.Cond.code y bytes maxL none).before a0 (Z.setVm T.vm) = true := mv (s := Z.setVm T.vm) hZT w4
  obtain ⟨mk, methM, hnT, hmM, hstM, habM⟩ := Cond.instanceMethod_spec w2T
  obtain ⟨methM', cM, hmM', -, -, -, -, -, -, hsig⟩ := Cond.code_spec hnT w4T
  cases hmM.symm.trans hmM'
  obtain ⟨kO, hkO, hnameO⟩ := className_of_methodNamed hnT
  obtain ⟨hnameM, hdescM⟩ := name_of_methodNamed hnT hmM
  obtain ⟨mR, cR, e1, q1, e2, q2⟩ := Cond.methodRef_named e how w1T
  cases e1.symm.trans (State.methodFound?_of_named hnT hy)
  have e3 : cR = mk.cls := Option.some.inj (e2.symm.trans (findClass_of_methodNamed hnT))
  subst e3
  have hfound : lookupSpecial T.vm mk.cls "<init>" methM.desc = .method mk := by
    rw [hdescM, ← hy1]; exact lookupSpecial_of_named hnT hmM hstM
  have hnS : (s.setVm vm0).methodNamed? y = some mk := by
    obtain ⟨mS, meS, hnS, -⟩ := Cond.instanceMethod_spec (mvT (args := args) r.hZ w2)
    have e1 : (Z.setVm T.vm).methodNamed? y = some mS := X.named hnS
    cases e1.symm.trans hnT
    exact hnS
  obtain ⟨v, ⟨T', L', c', n'⟩, X', hSi, hg, ⟨L, ⟨q1', q2', N, q3, qN⟩, y1, y2, y3, hC⟩, stp⟩ := hb m meth c ⟨T, locs, cells, slots⟩ { mkF m pc Ls st with stack := rest } (.invokespecial index) mk (.ref a :: argsL).toArray X rfl hsz hd (by show 2 * 0 + (rest.map fun v => v.category).sum ≤ W; omega) (X.named hnS) ⟨ha, eT, hc, hsl⟩
  dsimp only [Pt.U, Pt.locs, Pt.cells, Pt.slots] at X' hSi hg q2' q3 qN y1 y2 y3 hC stp
  subst y1 y2 y3 hp
  refine Run.to (fun target hrest => ?_) (k v N T' T'.heap ⟨T'.vm, _, _, hx, X', rfl, (r.call hSi hC q1' q2' hws).adds qN⟩ q2' q3)
  refine Steps.trans ?_ hrest
  jvm_step X.here [hx, hd, invokespecial.wp_init (e := e) (s := T) (k := kO) (meth := methM) (m := mk) (a := a) (args := argsL) (rest := rest) (f := mkF m pc Ls st) X.here.top q2 q1 hkO hmM (by rw [hnameM]; exact hy1) hstM habM hfound (hlen _ hsig) hst]
  exact fun acts => by rw [doInvoke_state] at stp ⊢; exact stp
end Kit6
end Ow
end Jvm.Pilot.@@N@@


namespace Jvm.Pilot.@@N@@
open Jvm Jvm.ClassFile Sem Op Lib Jvm.Free Jvm.Stand Jvm.LawKit Jvm.RoadKit Bundle Jvm.Pilot.@@N@@.Jvm.D
namespace Ow
theorem backW {l : Launch} {R : Room} {p : Program} {e : Env} {below : List Frame} {s : State} {sargs : Array Value} {y : MethodName} {len W : Nat} {Pre : Pt → Array Value → Prop} {Post : Pt → Array Value → Option Value → Pt → Prop} {S : Spec} {P : Array Value → State → Prop}
    {K : Program → Env → List Frame → State → Array Value → Prop} {Q : Array Value → State → Outcome → State → Prop} {bytes : ByteArray} {maxL : Nat} {ret : Option FieldType} {hs : List (Nat × Nat × Nat × Nat)} {E : Array Value → State → Outcome → State → List Loc → Nat → Nat → Prop}
    (hM : MetFree l y S P K Q) (hframes : S.room.frames + 1 ≤ R.frames) (hlocals : W + (maxL + 11) + S.room.locals ≤ R.locals)
    (hpre : ∀ m meth c (A : Pt) a, Stand p l e R s m sargs below meth c A.U A.locs A.cells A.slots → Pre A a → S.pre.before a A.U = true ∧ (Jvm.Cond.codeWith y bytes maxL ret hs).before a A.U = true ∧ (Jvm.Cond.initialized y.cls).before a A.U = true ∧ A.cells + S.room.cells ≤ R.cells ∧ A.slots + S.room.slots ≤ R.slots)
    (hP : ∀ m meth c (A : Pt) a (g : JFrame) mk, Stand p l e R s m sargs below meth c A.U A.locs A.cells A.slots → Pre A a → P a (A.U.calling g mk a))
    (hK : ∀ m meth c (A : Pt) a (g : JFrame) mk, Stand p l e R s m sargs below meth c A.U A.locs A.cells A.slots → Pre A a → K p e (A.U.setTop g).frames (A.U.calling g mk a) a)
    (hQ : ∀ a first o t, Q a first o t → ∃ L k n, ReturnedEndW first o t L k n ∧ E a first o t L k n)
    (hpost : ∀ m meth c (A : Pt) a (g : JFrame) mk v t L k n, Stand p l e R s m sargs below meth c A.U A.locs A.cells A.slots → Pre A a → Q a (A.U.calling g mk a) (.returned v) t → ReturnedEndW (A.U.calling g mk a) (.returned v) t L k n → E a (A.U.calling g mk a) (.returned v) t L k n →
      Post A a v ⟨(({ A.U with heap := t.heap, slotsUsed := t.slotsUsed } : State).setVm t.vm), A.locs ++ L, A.cells + k, A.slots + n⟩) :
    BackS l R p e below s sargs y len W Pre Post := by
  intro m meth c A g ig mk a X hg hsize hdg hW hn hp
  obtain ⟨h1, h2, h3, h4, h5⟩ := hpre m meth c A a X hp
  obtain ⟨U, Ls, c0, s0⟩ := A
  dsimp only [Pt.U, Pt.locs, Pt.cells, Pt.slots] at h1 h2 h3 h4 h5 X hn ⊢
  obtain ⟨mk', methY, cY, hn', hmY, hcY, -, hlY, -⟩ := Cond.codeWith_spec h2
  cases hn.symm.trans hn'
  obtain ⟨kY, hkY, -⟩ := className_of_methodNamed hn
  have hin : kY.init = .initialized := Cond.initialized_spec (findClass_of_methodNamed hn) hkY h3
  have h : At U g.method c below := by rw [hg]; exact X.here
  have happ : S.appliesLoose y e.platform (U.calling g mk a) = true := Spec.appliesLoose_calling (g := g) h hdg hn hkY hin (X.room_calling (g := g) (R' := S.room) hsize hmY hcY hframes (by rw [hlY]; omega) h4 h5) h1
  obtain ⟨mid, hmid⟩ := h.above
  have hfr : (U.setTop g).frames = (.java g :: mid) ++ below := by rw [State.frames_setTop' g h.top, hmid]; rfl
  obtain ⟨o, t, hsteps, -, hend, hq⟩ := Steps.callFree hM p X.admits X.cas X.clock (acts := []) hfr happ (hP m meth c ⟨U, Ls, c0, s0⟩ a g mk X hp) (hK m meth c ⟨U, Ls, c0, s0⟩ a g mk X hp)
  have hq' : Q a (U.calling g mk a) o t := hq
  rw [State.frames_setTop' g h.top] at hend
  obtain ⟨L, k, n, hfe, hE⟩ := hQ _ _ _ _ hq'
  obtain ⟨⟨v, rfl⟩, hW', hB, e2, q2, q3, q4, q5, q6⟩ := id hfe
  have e3 : t = ({ (U.calling g mk a).setFrames t.frames with heap := t.heap, slotsUsed := t.slotsUsed } : State).setVm t.vm := by
    have q : t = ({ t with vm := (U.calling g mk a).vm } : State).setVm t.vm := rfl
    rw [e2] at q
    exact q
  obtain ⟨c2, i2, len2, hc2, hd2, hf2⟩ := hend
  have hWU : U.Warmed39 t.vm := hW'
  have hcc : c2 = c := by
    have z : t.code? g.method = U.code? g.method := by rw [State.code?_eq, State.code?_eq, hWU.alike.method?]
    exact Option.some.inj (hc2.symm.trans (z.trans h.code))
  subst hcc
  have hlen : len2 = len := by rw [hdg] at hd2; cases hd2; rfl
  subst hlen
  obtain ⟨g0, hg0⟩ := Option.isSome_iff_exists.mp h.top
  obtain ⟨r, hr⟩ := State.topJava?_eq_some.mp hg0
  have ht : t = (({ U with heap := t.heap, slotsUsed := t.slotsUsed } : State).setVm t.vm).setTop { g with pc := g.pc + len2, stack := v.toList ++ g.stack } := by
    have hr' : (({ U with heap := t.heap, slotsUsed := t.slotsUsed } : State).setVm t.vm).frames = .java g0 :: r := hr
    refine e3.trans ?_
    rw [hf2, State.calling_eq h.top, State.setFrames_setFrames, State.setTop_of_frames _ hr', hr]
    rfl
  have hsame : U.sameButNew ({ U with heap := t.heap, slotsUsed := t.slotsUsed } : State) L k n := by
    refine ⟨?_, q2, q3, q4, q5, q6⟩
    obtain ⟨th, hth, -⟩ := State.frames_cons hr
    show ({ U with heap := t.heap, slotsUsed := t.slotsUsed } : State) = { U.setFrames U.frames with heap := t.heap, slotsUsed := t.slotsUsed }
    rw [State.setFrames_self hth]
  subst hg
  obtain ⟨X', hS⟩ := X.movedW (T₂ := (({ U with heap := t.heap, slotsUsed := t.slotsUsed } : State).setVm t.vm)) ((X.here.setHeapUsed t.heap t.slotsUsed).setVm hWU.alike) X.tail rfl rfl hWU hB hsame
  refine ⟨v, ⟨(({ U with heap := t.heap, slotsUsed := t.slotsUsed } : State).setVm t.vm), Ls ++ L, c0 + k, s0 + n⟩, X', hS, hsame.2.1, hpost _ meth _ ⟨U, Ls, c0, s0⟩ a g mk v t L k n X hp hq' hfe hE, ?_⟩
  show Steps p.tables e below _ ((({ U with heap := t.heap, slotsUsed := t.slotsUsed } : State).setVm t.vm).setTop { g with pc := g.pc + len2, stack := v.toList ++ g.stack })
  rw [← ht]
  exact hsteps
section Kit7
variable {p : Program} {l : Launch} {e : Env} {R : Room} {s : State} {m : MethodId} {args : Array Value} {below : List Frame} {meth : Method} {c : Code} {Z : State} {a0 : Array Value} {EL : List (String × Nat)} {own : String} {h0 : Heap} {ws : List Addr} {T T' : State} {h h' hB : Heap} {cells slots : Nat} {S : List Addr} {Q : Outcome → State → Prop} {pc pc' pc1 pc2 : Nat} {Ls l' : Array Slot} {rest st : List Value} {vm0 : Vm}
def MetH (l : Launch) (Z : State) (EL : List (String × Nat)) (y : MethodName) (bytes : ByteArray) (maxL : Nat) (ret : Option FieldType) (hs : List (Nat × Nat × Nat × Nat)) (rm : Room) (as' : Array Value) (h : Heap) (S ws : List Addr) (P : Option Value → Heap → List Addr → Prop) : Prop :=
  ∀ wl : List Jvm.Cond, MetFree l y (head1 (Jvm.Cond.codeWith y bytes maxL ret hs :: wl) rm) (Pm Z EL as' h S ws) (fun _ _ _ _ _ => True) (fun _ U o U' => QmN Z EL U h ws rm P o U')
theorem MetH.of {y : MethodName} {bytes : ByteArray} {maxL : Nat} {ret : Option FieldType} {hs : List (Nat × Nat × Nat × Nat)} {rm : Room} {as' : Array Value} {P : Option Value → Heap → List Addr → Prop} (hpn : plainFor y = true)
    (body : ∀ p e s m below meth c T, meth.name = y.name → meth.sig.returnType = ret → meth.locks = false → c.code = bytes → c.maxLocals = maxL → s.heap = h0 → Wk p l e rm s m as' below meth c Z EL y.cls h0 ws T h0 0 0 S → Run p e below (QmN Z EL s h0 ws rm P) T (entryFrame m as' maxL)) : MetH l Z EL y bytes maxL ret hs rm as' h0 S ws P := by
  intro wl
  refine MetFree.of_bodySF (code := bytes) (maxLocals := maxL) (ret := ret) hpn hisWith ?_
  intro p e s m args below meth c s₁ Bd hml0 hP hK
  obtain ⟨rfl, hZ, hh, hC, hn, hws, hS⟩ := hP
  have hnm := (name_of_methodNamed Bd.named Bd.method).1
  have hown : s.vm.findClass y.cls = some m.cls := findClass_of_methodNamed Bd.named
  have X0 : Stand p l e rm s m args below meth c s₁ [] 0 0 := Stand.of_body Bd
  have e0 : s₁.heap = h0 := by rw [← hh, Bd.state]; rfl
  exact body p e s m below meth c s₁ hnm Bd.returns Bd.notSynchronized Bd.bytes hml0 hh ⟨s.vm, 0, [], Bd.exec, X0, e0, (State.WarmedH.refl s).since 0, Nat.zero_le _, hZ, hown, CHr.refl hC, Fr.nil _, Keep.refl _ _, hn, hws, hS⟩
theorem MetH.back {y : MethodName} {bytes : ByteArray} {maxL : Nat} {ret : Option FieldType} {hs : List (Nat × Nat × Nat × Nat)} {rm : Room} {as' : Array Value} {S' ws' : List Addr} {P : Option Value → Heap → List Addr → Prop} {len W : Nat} (hM : MetH l Z EL y bytes maxL ret hs rm as' h S' ws' P) (hZ : Z.Warmed39 vm0) (wc : (Jvm.Cond.codeWith y bytes maxL ret hs).before a0 Z = true) (wz : (Jvm.Cond.initialized y.cls).before a0 Z = true)
    (hf : rm.frames + 1 ≤ R.frames) (hl : W + (maxL + 11) + rm.locals ≤ R.locals) (hEL : EW Z a0 EL) (H : CHv Z EL vm0 h) (hn : Ext Z.heap h) (hws : ∀ x ∈ ws', Z.heap.size ≤ x) (hS : ∀ x ∈ S', x < h.size ∧ Safe Z EL vm0 h x) :
    BackS l R p e below (s.setVm vm0) args y len W (fun A a => a = as' ∧ A.U.heap = h ∧ A.cells + rm.cells ≤ R.cells ∧ A.slots + rm.slots ≤ R.slots)
      (fun A _ v B => ∃ L, (Fr Z.heap.size L ∧ Keep h B.U.heap ws' ∧ ∃ N, P v B.U.heap N ∧ ∀ x ∈ N, x < B.U.heap.size ∧ Safe Z EL B.U.vm B.U.heap x) ∧ B.locs = A.locs ++ L ∧ B.cells = A.cells + rm.cells ∧ B.slots = A.slots + rm.slots ∧ CHr Z EL vm0 h B.U.vm B.U.heap) :=
  backW (bytes := bytes) (maxL := maxL) (ret := ret) (hs := hs) (E := fun _ first o t L k n => k = rm.cells ∧ n = rm.slots ∧ (∃ v, o = .returned v ∧ (Fr Z.heap.size L ∧ Keep h t.heap ws' ∧ ∃ N, P v t.heap N ∧ ∀ x ∈ N, x < t.heap.size ∧ Safe Z EL t.vm t.heap x)) ∧ CHr Z EL first.vm first.heap t.vm t.heap) (hM []) hf hl
    (fun m meth c A a Y hp => have hU : Z.Warmed39 A.U.vm := wtrans (s := s.setVm vm0) hZ Y.warmed
      ⟨by show (Jvm.Cond.and _ .tt).before a A.U = true; rw [Cond.before_and, mv hU wc]; rfl, mv hU wc, mv hU wz, hp.2.2.1, hp.2.2.2⟩)
    (fun m meth c A a g mk Y hp => ⟨hp.1, wtrans (s := s.setVm vm0) hZ Y.warmed, hp.2.1, (CHv.at Y hZ hEL H).1, hn, hws, fun x q => ⟨(hS x q).1, (CHv.at Y hZ hEL H).safe (hS x q).1 (hS x q).2⟩⟩) (fun _ _ _ _ _ _ _ _ _ => trivial)
    (fun _ _ _ _ ⟨v, L, h1, h2, h3, h4⟩ => ⟨L, _, _, h4, rfl, rfl, ⟨v, h1, h2⟩, h3⟩)
    (fun m meth c A a g mk v t L k n Y hp _ _ ⟨e1, e2, ⟨v', e3, e4⟩, e5⟩ => by
      cases e3; subst e1 e2
      refine ⟨L, e4, rfl, rfl, rfl, (CHv.at Y hZ hEL H).trans ?_⟩
      rw [← hp.2.1]; exact e5)
theorem w_privateH (w : Wk p l e R s m args below meth c Z EL own h0 ws T h cells slots S) (hEL : EW Z a0 EL) {index : Nat} {y y5 y6 : MethodName} {C C5 : String} {bytes : ByteArray} {maxL : Nat} {ret : Option FieldType} {hs : List (Nat × Nat × Nat × Nat)} {rm : Room} {as' : Array Value} {S' ws' : List Addr} {P : Option Value → Heap → List Addr → Prop} {W : Nat} {a : Addr} {argsL : List Value}
    (w1 : (Jvm.Cond.methodLink own index y).before a0 Z = true) (w5 : (Jvm.Cond.selects C5 y5 y6).before a0 Z = true) (h5 : y6.cls = y.cls) (w8 : (Jvm.Cond.privateMethod y).before a0 Z = true) (w7 : (Jvm.Cond.instanceMethod y).before a0 Z = true) (w3 : (Jvm.Cond.initialized y.cls).before a0 Z = true) (w4 : (Jvm.Cond.codeWith y bytes maxL ret hs).before a0 Z = true) (hy : y.cls ≠ "java/lang/invoke/MethodHandle" ∧ y.cls ≠ "java/lang/invoke/VarHandle")
    (E : Exa Z h a C) (hM : MetH l Z EL y bytes maxL ret hs rm as' h S' ws' P) (hS : ∀ x ∈ S', x ∈ S) (hws : ∀ x ∈ ws', x ∈ ws ∨ h0.size ≤ x) (hlen : ∀ sig, parseMethodDescriptor y.desc = some sig → argsL.length = sig.parameters.length) (ha : (Value.ref a :: argsL).toArray = as') (hst : st = argsL.reverse ++ .ref a :: rest) (hd : decode c.code pc = .ok (.invokevirtual index, 3)) (hsz : Ls.size = c.maxLocals)
    (hW : (rest.map fun v => v.category).sum ≤ W) (hf : rm.frames + 1 ≤ R.frames) (hl : W + (maxL + 11) + rm.locals ≤ R.locals) (hc : cells + rm.cells ≤ R.cells) (hsl : slots + rm.slots ≤ R.slots) (pc' : Nat) (hp : pc + 3 = pc')
    (k : ∀ v N T' h', Wk p l e R s m args below meth c Z EL own h0 ws T' h' (cells + rm.cells) (slots + rm.slots) (N ++ S) → Keep h h' ws' → P v h' N → Run p e below Q T' (mkF m pc' Ls (v.toList ++ rest))) : Run p e below Q T (mkF m pc Ls st) := by
  obtain ⟨vm0, k0, locs, hx, X, eT, r⟩ := w
  have hn := r.old
  have hb := MetH.back (R := R) (p := p) (e := e) (below := below) (s := s) (args := args) (len := 3) (W := W) hM r.hZ w4 w3 hf hl hEL r.ch hn (fun x q => (hws x q).elim (r.2.2.2.2.2.2.2.2.1 x) (Nat.le_trans r.2.2.2.2.2.2.2.1.1)) (fun x q => r.2.2.2.2.2.2.2.2.2 x (hS x q))
  obtain ⟨cell, kc, g1, g2, g3, g4, -⟩ := E
  obtain ⟨mk, methM, hnamed, hmethM, hstM, habM⟩ := Cond.instanceMethod_spec (mvT (args := args) r.hZ w7)
  obtain ⟨mk2, meth2, c2, hn2, hm2, -, -, -, -, -, -, hsigM⟩ := Cond.codeWith_spec (mvT (args := args) r.hZ w4)
  cases hnamed.symm.trans hn2
  cases hmethM.symm.trans hm2
  obtain ⟨kP, hkP, hkPi⟩ := nf_of (a := #[]) (mvT r.hZ w5) h5 mk hnamed
  have hpriv := Cond.privateMethod_at (args := #[]) (mvT r.hZ w8) mk methM hnamed hmethM
  have hselP : selectMethod e.platform (s.setVm vm0).vm cell.cls mk = .method mk := selectMethod_private hmethM hpriv
  obtain ⟨vm1, X1, hstep⟩ := X.invokevirtual hx r.ow (mvT r.hZ w1) hnamed hmethM hstM hkP hkPi hy (a := a) (cell := cell) (by rw [eT]; exact g1) (fun q z => by rw [z] at g4; cases g4) hselP hmethM habM hkP hkPi (g := mkF m pc Ls st) rfl (argsL := argsL) (rest := rest) (hlen _ hsigM) hst hd
  obtain ⟨v, ⟨T', L', c', n'⟩, X', hSi, hg, ⟨L, ⟨q1, q2, N, q3, qN⟩, y1, y2, y3, hC⟩, stp⟩ := hb m meth c ⟨T.setVm vm1, locs, cells, slots⟩ { mkF m pc Ls st with stack := rest } (.invokevirtual index) mk (.ref a :: argsL).toArray X1 rfl hsz hd (by show 2 * 0 + (rest.map fun v => v.category).sum ≤ W; omega) (X1.named hnamed) ⟨ha, eT, hc, hsl⟩
  dsimp only [Pt.U, Pt.locs, Pt.cells, Pt.slots] at X' hSi hg q2 q3 qN y1 y2 y3 hC stp
  subst y1 y2 y3 hp
  refine Run.to (fun target hrest => hstep _ fun acts => ?_) (k v N T' T'.heap ⟨T'.vm, _, _, hx, X', rfl, (r.call hSi hC q1 q2 hws).adds qN⟩ q2 q3)
  rw [doInvoke_state] at stp ⊢
  exact stp.trans hrest
end Kit7
end Ow
end Jvm.Pilot.@@N@@


namespace Jvm.Pilot.@@N@@
open Jvm Jvm.ClassFile Sem Op Lib Jvm.Free Jvm.Stand Jvm.LawKit Jvm.RoadKit Bundle Jvm.Pilot.@@N@@.Jvm.D
namespace Ow
section Kit8
variable {p : Program} {l : Launch} {e : Env} {R : Room} {s : State} {m : MethodId} {args : Array Value} {below : List Frame} {meth : Method} {c : Code} {Z : State} {a0 : Array Value} {EL : List (String × Nat)} {own : String} {h0 : Heap} {ws : List Addr} {T T' : State} {h h' hB : Heap} {cells slots : Nat} {S : List Addr} {Q : Outcome → State → Prop} {pc pc' pc1 pc2 : Nat} {Ls l' : Array Slot} {rest st : List Value}
theorem w_newPE (w : Wk p l e R s m args below meth c Z EL own h0 ws T h cells slots S) {aty : ArrayType} {ty : FieldType} {z : Int32} {n : Nat} {dv : Value} {ad : String} (wl : (Jvm.Cond.arrayClass ty).before a0 Z = true) (hty : newarray.typeOf aty = ty) (hdv : defaultValue ty = dv) (had : "[" ++ (newarray.typeOf aty).toString = ad) (hd : decode c.code pc = .ok (.newarray aty, 2)) (hz : ¬ z < 0) (hn : z.toNatClampNeg ≤ n) (hb : n * 8 ≤ 536870912) (pc' : Nat) (hp : pc + 2 = pc') (hc : cells + 1 ≤ R.cells) (hl : slots + n ≤ R.slots)
    (k : ∀ T' h' x ka, Wk p l e R s m args below meth c Z EL own h0 ws T' h' (cells + 1) (slots + n) (x :: S) → Ext h h' → h.size ≤ x → h0.size ≤ x → Arv Z h' x ka ty z (List.replicate n dv) dv → Exa Z h' x ad → Run p e below Q T' (mkF m pc' Ls (.ref x :: rest))) : Run p e below Q T (mkF m pc Ls (.int z :: rest)) := by
  obtain ⟨vm0, k0, locs, hx, X, eT, r⟩ := w
  subst hty hdv hp
  obtain ⟨T', h', kA, X', e', E, A, Ex, stp⟩ := newPE X hx r.hZ wl eT (g := mkF m pc Ls (.int z :: rest)) rfl hd rfl hz hn hb hc hl had
  have V := (Arv.new A hz).pad (pad_rep [] _ n)
  exact Run.to stp (k T' h' h.size kA ⟨vm0, k0, locs, hx, X', e', r.add E (Nat.le_refl _) A.lt⟩ E (Nat.le_refl _) r.keep.1 V Ex)
end Kit8
end Ow
end Jvm.Pilot.@@N@@

namespace Jvm.Pilot.@@N@@
open Jvm Jvm.ClassFile Sem Op Lib Jvm.Free Jvm.Stand Jvm.LawKit Jvm.RoadKit Bundle Jvm.Pilot.@@N@@.Jvm.D
namespace Ow
open StrChars StrChars.Road

def Lat (c : Int32) : Prop := ¬ c < 0 ∧ ¬ (255 : Int32) < c
theorem i32_0 : (0 : Int32).toInt = 0 := by decide
theorem i32_255 : (255 : Int32).toInt = 255 := by decide
theorem lat_iff {c : Int32} : Lat c ↔ 0 ≤ c.toInt ∧ c.toInt ≤ 255 := by
  unfold Lat
  rw [Int32.lt_iff_toInt_lt, Int32.lt_iff_toInt_lt, i32_0, i32_255]
  omega
theorem nar_char (x : Int32) : nar .char x = x.toUInt32.toUInt16.toUInt32.toInt32 := rfl
theorem nar_id {c : Int32} (h : 0 ≤ c.toInt ∧ c.toInt < 65536) : nar .char c = c := by
  have q := c_i2c c
  rw [← nar_char] at q
  rw [← Int32.toInt_inj]
  omega
theorem Lat.nar {c : Int32} (h : Lat c) : nar .char c = c := nar_id (by have := lat_iff.mp h; omega)
theorem mask_le (x : Int32) (m : Int32) (k : Nat) (hk : k ≤ 31) (hm : m.toBitVec.toNat = 2 ^ k - 1) : 0 ≤ (x &&& m).toInt ∧ (x &&& m).toInt < (2 ^ k : Nat) := by
  rw [c_mask x m k hk hm]
  have : (0 : Int) < (2 ^ k : Nat) := by exact_mod_cast Nat.pos_of_ne_zero (by simp)
  exact ⟨Int.emod_nonneg _ (by omega), Int.emod_lt_of_pos _ this⟩
theorem ne_int {args : Array Value} {s : State} {t : Term} {n x : Int32} (ht : t.eval args s none [] s = some (.int x)) (h : (Jvm.Cond.not (.eq t (.int n))).before args s = true) : ¬ x = n := by
  intro q; subst q
  have h1 := not_v (Cond.before_iff.mp h)
  have hi : (Term.int x).eval args s none [] s = some (.int x) := rfl
  simp only [Jvm.Cond.value, ht, hi] at h1
  simp at h1
theorem eq_int {args : Array Value} {s : State} {t : Term} {n : Int32} (h : (Jvm.Cond.eq t (.int n)).value args s none s [] = some true) : t.eval args s none [] s = some (.int n) := by
  cases ht : t.eval args s none [] s with
  | none => simp [Jvm.Cond.value, ht] at h
  | some v => cases v <;> simp [Jvm.Cond.value, ht, Term.eval] at h ⊢; exact h
theorem val {e f : Int32} {A B : Prop} [Decidable B] (h : (e = 1 ∧ A) ∨ (e = 0 ∧ ¬ A)) (hf : (if B then (1 : Int32) else 0) = f) (hab : B ↔ A) : f = e := by
  rw [← hf]
  rcases h with ⟨rfl, q⟩ | ⟨rfl, q⟩
  · exact if_pos (hab.mpr q)
  · exact if_neg fun z => q (hab.mp z)

theorem subA : ∀ d ∈ Bundle.stringAtoms, d ∈ tables_1 := by decide +kernel
theorem hmem : ("java/lang/String", 7) ∈ consts_1 := by decide
theorem subE : ∀ d ∈ StrChars.Road.wordsEq, d ∈ tables_1 := by decide +kernel
def tb64 : List Int32 := [65, 66, 67, 68, 69, 70, 71, 72, 73, 74, 75, 76, 77, 78, 79, 80, 81, 82, 83, 84, 85, 86, 87, 88, 89, 90, 97, 98, 99, 100, 101, 102, 103, 104, 105, 106, 107, 108, 109, 110, 111, 112, 113, 114, 115, 116, 117, 118, 119, 120, 121, 122, 48, 49, 50, 51, 52, 53, 54, 55, 56, 57, 43, 47]
def fb256 : List Int32 := [-1, -1, -1, -1, -1, -1, -1, -1, -1, -1, -1, -1, -1, -1, -1, -1, -1, -1, -1, -1, -1, -1, -1, -1, -1, -1, -1, -1, -1, -1, -1, -1, -1, -1, -1, -1, -1, -1, -1, -1, -1, -1, -1, 62, -1, -1, -1, 63, 52, 53, 54, 55, 56, 57, 58, 59, 60, 61, -1, -1, -1, -2, -1, -1, -1, 0, 1, 2, 3, 4, 5, 6, 7, 8, 9, 10, 11, 12, 13, 14, 15, 16, 17, 18, 19, 20, 21, 22, 23, 24, 25, -1, -1, -1, -1, -1, -1, 26, 27, 28, 29, 30, 31, 32, 33, 34, 35, 36, 37, 38, 39, 40, 41, 42, 43, 44, 45, 46, 47, 48, 49, 50, 51, -1, -1, -1, -1, -1, -1, -1, -1, -1, -1, -1, -1, -1, -1, -1, -1, -1, -1, -1, -1, -1, -1, -1, -1, -1, -1, -1, -1, -1, -1, -1, -1, -1, -1, -1, -1, -1, -1, -1, -1, -1, -1, -1, -1, -1, -1, -1, -1, -1, -1, -1, -1, -1, -1, -1, -1, -1, -1, -1, -1, -1, -1, -1, -1, -1, -1, -1, -1, -1, -1, -1, -1, -1, -1, -1, -1, -1, -1, -1, -1, -1, -1, -1, -1, -1, -1, -1, -1, -1, -1, -1, -1, -1, -1, -1, -1, -1, -1, -1, -1, -1, -1, -1, -1, -1, -1, -1, -1, -1, -1, -1, -1, -1, -1, -1, -1, -1, -1, -1, -1, -1, -1, -1, -1, -1, -1, -1, -1, -1, -1, -1, -1, -1]
theorem Kw {a0 : Array Value} {Z : State} (hw : ∀ d ∈ tables_1, d.before a0 Z = true) (i : Nat) {d : Jvm.Cond} (h : tables_1[i]? = some d) : d.before a0 Z = true := hw d (List.mem_of_getElem? h)
theorem Kv {a0 : Array Value} {Z : State} (hw : ∀ d ∈ jdkStatics_1, d.before a0 Z = true) (i : Nat) {d : Jvm.Cond} (h : jdkStatics_1[i]? = some d) : d.before a0 Z = true := hw d (List.mem_of_getElem? h)
theorem mi {α : Type} {L : List α} (i : Nat) {x : α} (h : L[i]? = some x) : x ∈ L := List.mem_of_getElem? h
theorem dat {bytes : ByteArray} {L : List (Nat × Instr × Nat)} (H : ∀ x ∈ L, decode bytes x.1 = .ok x.2) {c : Code} (e : c.code = bytes) (i : Nat) {pc n : Nat} {ins : Instr} (h : L[i]? = some (pc, ins, n)) : decode c.code pc = .ok (ins, n) := by
  rw [e]; exact H (pc, ins, n) (List.mem_of_getElem? h)
abbrev vI (x : Int32) : Slot := .val (.int x)
abbrev vR (x : Addr) : Slot := .val (.ref x)
abbrev vJ (x : Int64) : Slot := .val (.long x)
theorem efL {m : MethodId} {args : Array Value} {n : Nat} {L : Array Slot} (h : argsToLocals args n = L) : entryFrame m args n = mkF m 0 L [] := by subst h; rfl
abbrev mkR (f c s l : Nat) : Room := { frames := f, cells := c, slots := s, locals := l }
abbrev mN0 : MethodName := ⟨"java/lang/StringUTF16", "getChar", "([BI)C"⟩
abbrev mN1 : MethodName := ⟨"java/lang/StringUTF16", "putChar", "([BII)V"⟩
abbrev mN2 : MethodName := ⟨"java/lang/StringUTF16", "newBytesLength", "(I)I"⟩
abbrev mN3 : MethodName := ⟨"java/lang/StringUTF16", "newBytesFor", "(I)[B"⟩
abbrev mN4 : MethodName := ⟨"java/lang/StringUTF16", "toBytes", "([CII)[B"⟩
abbrev mN5 : MethodName := ⟨"java/lang/StringUTF16", "compress", "([CI[BII)I"⟩
abbrev mN6 : MethodName := ⟨"java/lang/StringUTF16", "compress", "([CII)[B"⟩
abbrev mN7 : MethodName := ⟨"java/lang/StringUTF16", "coderFromArrayLen", "([BI)B"⟩
abbrev mN8 : MethodName := ⟨"java/lang/String", "<init>", "([CIILjava/lang/Void;)V"⟩
abbrev mN9 : MethodName := ⟨"java/lang/String", "<init>", "([C)V"⟩
abbrev mN10 : MethodName := ⟨"java/lang/String", "coder", "()B"⟩
abbrev mN11 : MethodName := ⟨"java/lang/StringUTF16", "length", "([B)I"⟩
abbrev mN12 : MethodName := ⟨"jdk/internal/util/Preconditions", "checkFromIndexSize", "(IIILjava/util/function/BiFunction;)I"⟩
abbrev mN13 : MethodName := ⟨"java/lang/String", "checkBoundsOffCount", "(III)I"⟩
abbrev mN14 : MethodName := ⟨"java/lang/StringUTF16", "checkBoundsOffCount", "(II[B)V"⟩
abbrev mN15 : MethodName := ⟨"java/lang/StringUTF16", "inflate", "([BI[BII)V"⟩
abbrev mN16 : MethodName := ⟨"java/lang/StringLatin1", "inflate", "([BI[BII)V"⟩
abbrev mN17 : MethodName := ⟨"java/lang/AbstractStringBuilder", "isLatin1", "()Z"⟩
abbrev mN18 : MethodName := ⟨"java/lang/AbstractStringBuilder", "inflate", "()V"⟩
abbrev mN19 : MethodName := ⟨"java/lang/AbstractStringBuilder", "inflateIfNeededFor", "(Ljava/lang/String;)V"⟩
abbrev mN20 : MethodName := ⟨"java/lang/String", "getBytes", "([BIB)V"⟩
abbrev mN21 : MethodName := ⟨"java/lang/AbstractStringBuilder", "putStringAt", "(ILjava/lang/String;)V"⟩
abbrev mN22 : MethodName := ⟨"java/lang/AbstractStringBuilder", "ensureCapacityInternal", "(I)V"⟩
abbrev mN23 : MethodName := ⟨"java/lang/AbstractStringBuilder", "append", "(Ljava/lang/String;)Ljava/lang/AbstractStringBuilder;"⟩
abbrev mN24 : MethodName := ⟨"java/lang/StringBuilder", "append", "(Ljava/lang/String;)Ljava/lang/StringBuilder;"⟩
abbrev mN25 : MethodName := ⟨"java/lang/AbstractStringBuilder", "<init>", "(I)V"⟩
abbrev mN26 : MethodName := ⟨"java/lang/StringBuilder", "<init>", "()V"⟩
abbrev mN27 : MethodName := ⟨"java/lang/Math", "min", "(II)I"⟩
abbrev mN28 : MethodName := ⟨"java/util/Arrays", "checkLength", "(II)V"⟩
abbrev mN29 : MethodName := ⟨"java/util/Arrays", "copyOfRangeByte", "([BII)[B"⟩
abbrev mN30 : MethodName := ⟨"java/util/Arrays", "copyOfRange", "([BII)[B"⟩
abbrev mN31 : MethodName := ⟨"java/lang/AbstractStringBuilder", "getValue", "()[B"⟩
abbrev mN32 : MethodName := ⟨"java/lang/AbstractStringBuilder", "length", "()I"⟩
abbrev mN33 : MethodName := ⟨"java/lang/StringBuilder", "length", "()I"⟩
abbrev mN34 : MethodName := ⟨"java/lang/String", "<init>", "(Ljava/lang/AbstractStringBuilder;Ljava/lang/Void;)V"⟩
abbrev mN35 : MethodName := ⟨"java/lang/String", "<init>", "(Ljava/lang/StringBuilder;)V"⟩
abbrev mN36 : MethodName := ⟨"java/lang/StringBuilder", "toString", "()Ljava/lang/String;"⟩
abbrev mN37 : MethodName := ⟨"java/lang/String", "isLatin1", "()Z"⟩
abbrev mN38 : MethodName := ⟨"jdk/internal/util/Preconditions", "checkIndex", "(IILjava/util/function/BiFunction;)I"⟩
abbrev mN39 : MethodName := ⟨"java/lang/String", "checkIndex", "(II)V"⟩
abbrev mN40 : MethodName := ⟨"java/lang/StringLatin1", "charAt", "([BI)C"⟩
abbrev mN41 : MethodName := ⟨"java/lang/StringUTF16", "checkIndex", "(I[B)V"⟩
abbrev mN42 : MethodName := ⟨"java/lang/StringUTF16", "charAt", "([BI)C"⟩
abbrev mN43 : MethodName := ⟨"java/lang/String", "charAt", "(I)C"⟩
abbrev mN44 : MethodName := ⟨"java/lang/Math", "max", "(II)I"⟩
abbrev mN45 : MethodName := ⟨"jdk/internal/util/ArraysSupport", "newLength", "(III)I"⟩
abbrev mN46 : MethodName := ⟨"java/lang/AbstractStringBuilder", "newCapacity", "(I)I"⟩
abbrev mN47 : MethodName := ⟨"java/util/Arrays", "copyOf", "([BI)[B"⟩
abbrev mN48 : MethodName := ⟨"java/lang/Math", "addExact", "(II)I"⟩
abbrev mN49 : MethodName := ⟨"java/lang/Math", "multiplyExact", "(II)I"⟩
abbrev mN50 : MethodName := ⟨"java/util/Base64$Encoder", "encodedOutLength", "(IZ)I"⟩
abbrev mN51 : MethodName := ⟨"java/util/Objects", "requireNonNull", "(Ljava/lang/Object;)Ljava/lang/Object;"⟩
abbrev mN52 : MethodName := ⟨"java/util/Base64$Encoder", "<init>", "(Z[BIZ)V"⟩
abbrev mN53 : MethodName := ⟨"java/util/Base64", "getMimeEncoder", "(I[B)Ljava/util/Base64$Encoder;"⟩
abbrev mN54 : MethodName := ⟨"java/util/Base64$Encoder", "encodeBlock", "([BII[BIZ)V"⟩
abbrev mN55 : MethodName := ⟨"java/util/Base64$Encoder", "encode0", "([BII[B)I"⟩
abbrev mN56 : MethodName := ⟨"java/util/Base64$Encoder", "encode", "([B)[B"⟩
abbrev mN57 : MethodName := ⟨"java/lang/String", "<init>", "([BIII)V"⟩
abbrev mN58 : MethodName := ⟨"java/util/Base64$Encoder", "encodeToString", "([B)Ljava/lang/String;"⟩
abbrev mN59 : MethodName := ⟨"com/example/tuikuan/tuikuan/Pem", "encode", "(Ljava/lang/String;[B)Ljava/lang/String;"⟩
abbrev mN60 : MethodName := ⟨"com/example/tuikuan/tuikuan/PemEncodePinLaw", "ub", "(JI)I"⟩
abbrev mN61 : MethodName := ⟨"com/example/tuikuan/tuikuan/PemEncodePinLaw", "b64", "(I)C"⟩
abbrev mN62 : MethodName := ⟨"com/example/tuikuan/tuikuan/PemEncodePinLaw", "grp", "(IIIII)C"⟩
abbrev mN63 : MethodName := ⟨"com/example/tuikuan/tuikuan/PemEncodePinLaw", "longCase", "(Ljava/lang/String;CCJ)Z"⟩
theorem pD0 : parseMethodDescriptor "(I)I" = some ⟨[.int], (some .int)⟩ := by decide +kernel
theorem pD1 : parseMethodDescriptor "([BII)V" = some ⟨[(.array .byte), .int, .int], none⟩ := by decide +kernel
theorem pD2 : parseMethodDescriptor "([CI[BII)I" = some ⟨[(.array .char), .int, (.array .byte), .int, .int], (some .int)⟩ := by decide +kernel
theorem pD3 : parseMethodDescriptor "([BI)C" = some ⟨[(.array .byte), .int], (some .char)⟩ := by decide +kernel
theorem pD4 : parseMethodDescriptor "([CII)[B" = some ⟨[(.array .char), .int, .int], (some (.array .byte))⟩ := by decide +kernel
theorem pD5 : parseMethodDescriptor "([BI)B" = some ⟨[(.array .byte), .int], (some .byte)⟩ := by decide +kernel
theorem pD6 : parseMethodDescriptor "([CIILjava/lang/Void;)V" = some ⟨[(.array .char), .int, .int, (.object "java/lang/Void")], none⟩ := by decide +kernel
theorem pD7 : parseMethodDescriptor "()I" = some ⟨[], (some .int)⟩ := by decide +kernel
theorem pD8 : parseMethodDescriptor "(Z[BIZ)V" = some ⟨[.boolean, (.array .byte), .int, .boolean], none⟩ := by decide +kernel
theorem pD9 : parseMethodDescriptor "(IZ)I" = some ⟨[.int, .boolean], (some .int)⟩ := by decide +kernel
theorem pD10 : parseMethodDescriptor "([C)V" = some ⟨[(.array .char)], none⟩ := by decide +kernel
theorem pD11 : parseMethodDescriptor "(I)[B" = some ⟨[.int], (some (.array .byte))⟩ := by decide +kernel
theorem pD12 : parseMethodDescriptor "(IIILjava/util/function/BiFunction;)I" = some ⟨[.int, .int, .int, (.object "java/util/function/BiFunction")], (some .int)⟩ := by decide +kernel
theorem pD13 : parseMethodDescriptor "([B)I" = some ⟨[(.array .byte)], (some .int)⟩ := by decide +kernel
theorem pD14 : parseMethodDescriptor "(III)I" = some ⟨[.int, .int, .int], (some .int)⟩ := by decide +kernel
theorem pD15 : parseMethodDescriptor "(II[B)V" = some ⟨[.int, .int, (.array .byte)], none⟩ := by decide +kernel
theorem pD16 : parseMethodDescriptor "([BI[BII)V" = some ⟨[(.array .byte), .int, (.array .byte), .int, .int], none⟩ := by decide +kernel
theorem pD17 : parseMethodDescriptor "()Z" = some ⟨[], (some .boolean)⟩ := by decide +kernel
theorem pD18 : parseMethodDescriptor "()B" = some ⟨[], (some .byte)⟩ := by decide +kernel
theorem pD19 : parseMethodDescriptor "()V" = some ⟨[], none⟩ := by decide +kernel
theorem pD20 : parseMethodDescriptor "(Ljava/lang/String;)V" = some ⟨[(.object "java/lang/String")], none⟩ := by decide +kernel
theorem pD21 : parseMethodDescriptor "([BIB)V" = some ⟨[(.array .byte), .int, .byte], none⟩ := by decide +kernel
theorem pD22 : parseMethodDescriptor "(I)V" = some ⟨[.int], none⟩ := by decide +kernel
theorem pD23 : parseMethodDescriptor "(ILjava/lang/String;)V" = some ⟨[.int, (.object "java/lang/String")], none⟩ := by decide +kernel
theorem pD24 : parseMethodDescriptor "(Ljava/lang/String;)Ljava/lang/AbstractStringBuilder;" = some ⟨[(.object "java/lang/String")], (some (.object "java/lang/AbstractStringBuilder"))⟩ := by decide +kernel
theorem pD25 : parseMethodDescriptor "(II)V" = some ⟨[.int, .int], none⟩ := by decide +kernel
theorem pD26 : parseMethodDescriptor "(II)I" = some ⟨[.int, .int], (some .int)⟩ := by decide +kernel
theorem pD27 : parseMethodDescriptor "([BII)[B" = some ⟨[(.array .byte), .int, .int], (some (.array .byte))⟩ := by decide +kernel
theorem pD28 : parseMethodDescriptor "()[B" = some ⟨[], (some (.array .byte))⟩ := by decide +kernel
theorem pD29 : parseMethodDescriptor "(Ljava/lang/AbstractStringBuilder;Ljava/lang/Void;)V" = some ⟨[(.object "java/lang/AbstractStringBuilder"), (.object "java/lang/Void")], none⟩ := by decide +kernel
theorem pD30 : parseMethodDescriptor "(Ljava/lang/StringBuilder;)V" = some ⟨[(.object "java/lang/StringBuilder")], none⟩ := by decide +kernel
theorem pD31 : parseMethodDescriptor "(IILjava/util/function/BiFunction;)I" = some ⟨[.int, .int, (.object "java/util/function/BiFunction")], (some .int)⟩ := by decide +kernel
theorem pD32 : parseMethodDescriptor "(I[B)V" = some ⟨[.int, (.array .byte)], none⟩ := by decide +kernel
theorem pD33 : parseMethodDescriptor "([BI)[B" = some ⟨[(.array .byte), .int], (some (.array .byte))⟩ := by decide +kernel
theorem pD34 : parseMethodDescriptor "(Ljava/lang/Object;)Ljava/lang/Object;" = some ⟨[(.object "java/lang/Object")], (some (.object "java/lang/Object"))⟩ := by decide +kernel
theorem pD35 : parseMethodDescriptor "([BII[BIZ)V" = some ⟨[(.array .byte), .int, .int, (.array .byte), .int, .boolean], none⟩ := by decide +kernel
theorem pD36 : parseMethodDescriptor "([BII[B)I" = some ⟨[(.array .byte), .int, .int, (.array .byte)], (some .int)⟩ := by decide +kernel
theorem pD37 : parseMethodDescriptor "([B)[B" = some ⟨[(.array .byte)], (some (.array .byte))⟩ := by decide +kernel
theorem pD38 : parseMethodDescriptor "([BIII)V" = some ⟨[(.array .byte), .int, .int, .int], none⟩ := by decide +kernel
theorem pD39 : parseMethodDescriptor "(I[B)Ljava/util/Base64$Encoder;" = some ⟨[.int, (.array .byte)], (some (.object "java/util/Base64$Encoder"))⟩ := by decide +kernel
theorem pD40 : parseMethodDescriptor "([B)Ljava/lang/String;" = some ⟨[(.array .byte)], (some (.object "java/lang/String"))⟩ := by decide +kernel
theorem pD41 : parseMethodDescriptor "(Ljava/lang/String;)Ljava/lang/StringBuilder;" = some ⟨[(.object "java/lang/String")], (some (.object "java/lang/StringBuilder"))⟩ := by decide +kernel
theorem pD42 : parseMethodDescriptor "()Ljava/lang/String;" = some ⟨[], (some (.object "java/lang/String"))⟩ := by decide +kernel
theorem pD43 : parseMethodDescriptor "(I)C" = some ⟨[.int], (some .char)⟩ := by decide +kernel
theorem pD44 : parseMethodDescriptor "(JI)I" = some ⟨[.long, .int], (some .int)⟩ := by decide +kernel
theorem pD45 : parseMethodDescriptor "(Ljava/lang/String;[B)Ljava/lang/String;" = some ⟨[(.object "java/lang/String"), (.array .byte)], (some (.object "java/lang/String"))⟩ := by decide +kernel
theorem pD46 : parseMethodDescriptor "(IIIII)C" = some ⟨[.int, .int, .int, .int, .int], (some .char)⟩ := by decide +kernel
theorem pD47 : parseMethodDescriptor "(Ljava/lang/String;CCJ)Z" = some ⟨[(.object "java/lang/String"), .char, .char, .long], (some .boolean)⟩ := by decide +kernel
def BS (Z : State) (a0 : Array Value) (y : MethodName) (bytes : ByteArray) (maxL : Nat) (ret : Option FieldType) (n : Nat) : Prop := (Jvm.Cond.static y).before a0 Z = true ∧ (Jvm.Cond.initialized y.cls).before a0 Z = true ∧ (Jvm.Cond.code y bytes maxL ret).before a0 Z = true ∧ (y.cls ≠ "java/lang/invoke/MethodHandle" ∧ y.cls ≠ "java/lang/invoke/VarHandle") ∧ ∀ sig, parseMethodDescriptor y.desc = some sig → n = sig.parameters.length
def BI (Z : State) (a0 : Array Value) (y : MethodName) (bytes : ByteArray) (maxL : Nat) (ret : Option FieldType) (n : Nat) : Prop := (Jvm.Cond.instanceMethod y).before a0 Z = true ∧ (Jvm.Cond.initialized y.cls).before a0 Z = true ∧ (Jvm.Cond.code y bytes maxL ret).before a0 Z = true ∧ (y.cls ≠ "java/lang/invoke/MethodHandle" ∧ y.cls ≠ "java/lang/invoke/VarHandle") ∧ ∀ sig, parseMethodDescriptor y.desc = some sig → n = sig.parameters.length
theorem lenN {d : String} {sig : MethodDescriptor} {n : Nat} (h : parseMethodDescriptor d = some sig) (hn : n = sig.parameters.length) : ∀ s', parseMethodDescriptor d = some s' → n = s'.parameters.length := fun s' q => by
  rw [h] at q; cases q; exact hn
section
variable {p : Program} {l : Launch} {e : Env} {R : Room} {s : State} {m : MethodId} {args : Array Value} {below : List Frame} {meth : Method} {c : Code} {Z : State} {a0 : Array Value} {EL : List (String × Nat)} {own : String} {h0 : Heap} {ws : List Addr} {T : State} {h : Heap} {cells slots : Nat} {S : List Addr} {Q : Outcome → State → Prop} {pc : Nat} {Ls : Array Slot} {st : List Value} {index : Nat} {y y5 y6 : MethodName} {C C5 : String} {bytes : ByteArray} {maxL n k0 : Nat} {ret : Option FieldType} {rm : Room} {as' : Array Value} {S' ws' : List Addr} {P : Option Value → Heap → List Addr → Prop}
theorem wS (w : Wk p l e R s m args below meth c Z EL own h0 ws T h cells slots S) (hEL : EW Z a0 EL) (B : BS Z a0 y bytes maxL ret n) (w1 : (Jvm.Cond.methodLink own index y).before a0 Z = true) (hM : MetN l Z EL y bytes maxL ret rm as' h S' ws' P) (hS : ∀ x ∈ S', x ∈ S) (hws : ∀ x ∈ ws', x ∈ ws ∨ h0.size ≤ x) (argsL rest : List Value) (hlen : argsL.length = n) (ha : argsL.toArray = as') (hst : st = argsL.reverse ++ rest) (hd : decode c.code pc = .ok (.invokestatic index, 3)) (hml : c.maxLocals = k0) (hsz : Ls.size = k0) (W : Nat) (hW : (rest.map fun v => v.category).sum = W) (hR : rm.frames + 1 ≤ R.frames ∧ W + (maxL + 11) + rm.locals ≤ R.locals ∧ cells + rm.cells ≤ R.cells ∧ slots + rm.slots ≤ R.slots) (pc' : Nat) (hp : pc + 3 = pc')
    (kk : ∀ v N T' h', Wk p l e R s m args below meth c Z EL own h0 ws T' h' (cells + rm.cells) (slots + rm.slots) (N ++ S) → Keep h h' ws' → P v h' N → Run p e below Q T' (mkF m pc' Ls (v.toList ++ rest))) : Run p e below Q T (mkF m pc Ls st) :=
  w_staticN w hEL w1 B.1 B.2.1 B.2.2.1 B.2.2.2.1 hM hS hws (fun sig q => hlen.trans (B.2.2.2.2 sig q)) ha hst hd (hsz.trans hml.symm) (W := W) (Nat.le_of_eq hW) hR.1 hR.2.1 hR.2.2.1 hR.2.2.2 _ hp kk
theorem wI (w : Wk p l e R s m args below meth c Z EL own h0 ws T h cells slots S) (hEL : EW Z a0 EL) (B : BI Z a0 y bytes maxL none n) (w1 : (Jvm.Cond.methodLink own index y).before a0 Z = true) (hy1 : y.name = "<init>") (hM : MetN l Z EL y bytes maxL none rm as' h S' ws' P) (hS : ∀ x ∈ S', x ∈ S) (hws : ∀ x ∈ ws', x ∈ ws ∨ h0.size ≤ x) (a : Addr) (argsL rest : List Value) (hlen : argsL.length = n) (ha : (Value.ref a :: argsL).toArray = as') (hst : st = argsL.reverse ++ .ref a :: rest) (hd : decode c.code pc = .ok (.invokespecial index, 3)) (hml : c.maxLocals = k0) (hsz : Ls.size = k0) (W : Nat) (hW : (rest.map fun v => v.category).sum = W) (hR : rm.frames + 1 ≤ R.frames ∧ W + (maxL + 11) + rm.locals ≤ R.locals ∧ cells + rm.cells ≤ R.cells ∧ slots + rm.slots ≤ R.slots) (pc' : Nat) (hp : pc + 3 = pc')
    (kk : ∀ v N T' h', Wk p l e R s m args below meth c Z EL own h0 ws T' h' (cells + rm.cells) (slots + rm.slots) (N ++ S) → Keep h h' ws' → P v h' N → Run p e below Q T' (mkF m pc' Ls (v.toList ++ rest))) : Run p e below Q T (mkF m pc Ls st) :=
  w_specialN w hEL hy1 w1 B.1 B.2.1 B.2.2.1 B.2.2.2.1 hM hS hws (fun sig q => hlen.trans (B.2.2.2.2 sig q)) ha hst hd (hsz.trans hml.symm) (W := W) (Nat.le_of_eq hW) hR.1 hR.2.1 hR.2.2.1 hR.2.2.2 _ hp kk
theorem wV (w : Wk p l e R s m args below meth c Z EL own h0 ws T h cells slots S) (hEL : EW Z a0 EL) {a : Addr} (B : BI Z a0 y bytes maxL ret n) (w1 : (Jvm.Cond.methodLink own index y).before a0 Z = true) (w2 : (Jvm.Cond.declares y).before a0 Z = true) (w5 : (Jvm.Cond.selects y.cls y y).before a0 Z = true) (w6 : (Jvm.Cond.selects C y y).before a0 Z = true) (E : Exa Z h a C) (hM : MetN l Z EL y bytes maxL ret rm as' h S' ws' P) (hS : ∀ x ∈ S', x ∈ S) (hws : ∀ x ∈ ws', x ∈ ws ∨ h0.size ≤ x) (argsL rest : List Value) (hlen : argsL.length = n) (ha : (Value.ref a :: argsL).toArray = as') (hst : st = argsL.reverse ++ .ref a :: rest) (hd : decode c.code pc = .ok (.invokevirtual index, 3)) (hml : c.maxLocals = k0) (hsz : Ls.size = k0) (W : Nat) (hW : (rest.map fun v => v.category).sum = W) (hR : rm.frames + 1 ≤ R.frames ∧ W + (maxL + 11) + rm.locals ≤ R.locals ∧ cells + rm.cells ≤ R.cells ∧ slots + rm.slots ≤ R.slots) (pc' : Nat) (hp : pc + 3 = pc')
    (kk : ∀ v N T' h', Wk p l e R s m args below meth c Z EL own h0 ws T' h' (cells + rm.cells) (slots + rm.slots) (N ++ S) → Keep h h' ws' → P v h' N → Run p e below Q T' (mkF m pc' Ls (v.toList ++ rest))) : Run p e below Q T (mkF m pc Ls st) :=
  w_virtualN w hEL w1 w2 w5 w6 B.1 B.2.1 B.2.2.1 B.2.2.2.1 E hM hS hws (fun sig q => hlen.trans (B.2.2.2.2 sig q)) ha hst hd (hsz.trans hml.symm) (W := W) (Nat.le_of_eq hW) hR.1 hR.2.1 hR.2.2.1 hR.2.2.2 _ hp kk
theorem wP (w : Wk p l e R s m args below meth c Z EL own h0 ws T h cells slots S) (hEL : EW Z a0 EL) {a : Addr} (B : BI Z a0 y bytes maxL ret n) (w1 : (Jvm.Cond.methodLink own index y).before a0 Z = true) (w5 : (Jvm.Cond.selects C5 y5 y6).before a0 Z = true) (h5 : y6.cls = y.cls) (w8 : (Jvm.Cond.privateMethod y).before a0 Z = true) (E : Exa Z h a C) (hM : MetN l Z EL y bytes maxL ret rm as' h S' ws' P) (hS : ∀ x ∈ S', x ∈ S) (hws : ∀ x ∈ ws', x ∈ ws ∨ h0.size ≤ x) (argsL rest : List Value) (hlen : argsL.length = n) (ha : (Value.ref a :: argsL).toArray = as') (hst : st = argsL.reverse ++ .ref a :: rest) (hd : decode c.code pc = .ok (.invokevirtual index, 3)) (hml : c.maxLocals = k0) (hsz : Ls.size = k0) (W : Nat) (hW : (rest.map fun v => v.category).sum = W) (hR : rm.frames + 1 ≤ R.frames ∧ W + (maxL + 11) + rm.locals ≤ R.locals ∧ cells + rm.cells ≤ R.cells ∧ slots + rm.slots ≤ R.slots) (pc' : Nat) (hp : pc + 3 = pc')
    (kk : ∀ v N T' h', Wk p l e R s m args below meth c Z EL own h0 ws T' h' (cells + rm.cells) (slots + rm.slots) (N ++ S) → Keep h h' ws' → P v h' N → Run p e below Q T' (mkF m pc' Ls (v.toList ++ rest))) : Run p e below Q T (mkF m pc Ls st) :=
  w_privateN w hEL w1 w5 h5 w8 B.1 B.2.1 B.2.2.1 B.2.2.2.1 E hM hS hws (fun sig q => hlen.trans (B.2.2.2.2 sig q)) ha hst hd (hsz.trans hml.symm) (W := W) (Nat.le_of_eq hW) hR.1 hR.2.1 hR.2.2.1 hR.2.2.2 _ hp kk
theorem wU (w : Wk p l e R s m args below meth c Z EL own h0 ws T h cells slots S) (hEL : EW Z a0 EL) {a : Addr} (B : BI Z a0 y bytes maxL ret n) (w1 : (Jvm.Cond.methodLink own index y).before a0 Z = true) (w2 : (Jvm.Cond.declares y).before a0 Z = true) (w5 : (Jvm.Cond.selects C5 y5 y6).before a0 Z = true) (h5 : y6.cls = y.cls) (w8 : (Jvm.Cond.superclass own y.cls).before a0 Z = true) (hy1 : y.name ≠ "<init>") (E : Exa Z h a C) (hM : MetN l Z EL y bytes maxL ret rm as' h S' ws' P) (hS : ∀ x ∈ S', x ∈ S) (hws : ∀ x ∈ ws', x ∈ ws ∨ h0.size ≤ x) (argsL rest : List Value) (hlen : argsL.length = n) (ha : (Value.ref a :: argsL).toArray = as') (hst : st = argsL.reverse ++ .ref a :: rest) (hd : decode c.code pc = .ok (.invokespecial index, 3)) (hml : c.maxLocals = k0) (hsz : Ls.size = k0) (W : Nat) (hW : (rest.map fun v => v.category).sum = W) (hR : rm.frames + 1 ≤ R.frames ∧ W + (maxL + 11) + rm.locals ≤ R.locals ∧ cells + rm.cells ≤ R.cells ∧ slots + rm.slots ≤ R.slots) (pc' : Nat) (hp : pc + 3 = pc')
    (kk : ∀ v N T' h', Wk p l e R s m args below meth c Z EL own h0 ws T' h' (cells + rm.cells) (slots + rm.slots) (N ++ S) → Keep h h' ws' → P v h' N → Run p e below Q T' (mkF m pc' Ls (v.toList ++ rest))) : Run p e below Q T (mkF m pc Ls st) :=
  w_superN w hEL hy1 w1 w2 w5 h5 w8 B.1 B.2.1 B.2.2.1 B.2.2.2.1 E hM hS hws (fun sig q => hlen.trans (B.2.2.2.2 sig q)) ha hst hd (hsz.trans hml.symm) (W := W) (Nat.le_of_eq hW) hR.1 hR.2.1 hR.2.2.1 hR.2.2.2 _ hp kk
theorem wK (w : Wk p l e R s m args below meth c Z EL own h0 ws T h cells slots S) (hEL : EW Z a0 EL) {a : Addr} (B : BI Z a0 y bytes maxL ret n) (w1 : (Jvm.Cond.methodLink own index y).before a0 Z = true) (w2 : (Jvm.Cond.declares y).before a0 Z = true) (w5 : (Jvm.Cond.selects C5 y5 y6).before a0 Z = true) (h5 : y6.cls = y.cls) (w6 : (Jvm.Cond.selects C y y).before a0 Z = true) (E : Exa Z h a C) (hM : MetN l Z EL y bytes maxL ret rm as' h S' ws' P) (hS : ∀ x ∈ S', x ∈ S) (hws : ∀ x ∈ ws', x ∈ ws ∨ h0.size ≤ x) (argsL rest : List Value) (hlen : argsL.length = n) (ha : (Value.ref a :: argsL).toArray = as') (hst : st = argsL.reverse ++ .ref a :: rest) (hd : decode c.code pc = .ok (.invokevirtual index, 3)) (hml : c.maxLocals = k0) (hsz : Ls.size = k0) (W : Nat) (hW : (rest.map fun v => v.category).sum = W) (hR : rm.frames + 1 ≤ R.frames ∧ W + (maxL + 11) + rm.locals ≤ R.locals ∧ cells + rm.cells ≤ R.cells ∧ slots + rm.slots ≤ R.slots) (pc' : Nat) (hp : pc + 3 = pc')
    (kk : ∀ v N T' h', Wk p l e R s m args below meth c Z EL own h0 ws T' h' (cells + rm.cells) (slots + rm.slots) (N ++ S) → Keep h h' ws' → P v h' N → Run p e below Q T' (mkF m pc' Ls (v.toList ++ rest))) : Run p e below Q T (mkF m pc Ls st) :=
  w_virtualK w hEL w1 w2 w5 h5 w6 B.1 B.2.1 B.2.2.1 B.2.2.2.1 E hM hS hws (fun sig q => hlen.trans (B.2.2.2.2 sig q)) ha hst hd (hsz.trans hml.symm) (W := W) (Nat.le_of_eq hW) hR.1 hR.2.1 hR.2.2.1 hR.2.2.2 _ hp kk
end
theorem cB0 {a0 : Array Value} {Z : State} (hw : ∀ d ∈ tables_1, d.before a0 Z = true) : BS Z a0 mN3 jdk_52_method_2_code 1 (some (.array .byte)) 1 := ⟨Kw hw 296 rfl, Kw hw 17 rfl, Kw hw 297 rfl, by decide, lenN pD11 rfl⟩
theorem cB1 {a0 : Array Value} {Z : State} (hw : ∀ d ∈ tables_1, d.before a0 Z = true) : BS Z a0 mN4 jdk_52_method_14_code 5 (some (.array .byte)) 3 := ⟨Kw hw 293 rfl, Kw hw 17 rfl, Kw hw 294 rfl, by decide, lenN pD4 rfl⟩
theorem cB2 {a0 : Array Value} {Z : State} (hw : ∀ d ∈ tables_1, d.before a0 Z = true) : BS Z a0 mN12 jdk_41_method_13_code 4 (some .int) 4 := ⟨Kw hw 101 rfl, Kw hw 99 rfl, Kw hw 102 rfl, by decide, lenN pD12 rfl⟩
theorem cB3 {a0 : Array Value} {Z : State} (hw : ∀ d ∈ tables_1, d.before a0 Z = true) : BS Z a0 mN11 jdk_52_method_6_code 1 (some .int) 1 := ⟨Kw hw 328 rfl, Kw hw 17 rfl, Kw hw 329 rfl, by decide, lenN pD13 rfl⟩
theorem cB4 {a0 : Array Value} {Z : State} (hw : ∀ d ∈ tables_1, d.before a0 Z = true) : BS Z a0 mN13 jdk_42_method_157_code 3 (some .int) 3 := ⟨Kw hw 96 rfl, Kw hw 2 rfl, Kw hw 97 rfl, by decide, lenN pD14 rfl⟩
theorem cB5 {a0 : Array Value} {Z : State} (hw : ∀ d ∈ tables_1, d.before a0 Z = true) : BS Z a0 mN14 jdk_52_method_94_code 3 none 3 := ⟨Kw hw 325 rfl, Kw hw 17 rfl, Kw hw 326 rfl, by decide, lenN pD15 rfl⟩
theorem cB6 {a0 : Array Value} {Z : State} (hw : ∀ d ∈ tables_1, d.before a0 Z = true) : BS Z a0 mN1 jdk_52_method_4_code 3 none 3 := ⟨Kw hw 303 rfl, Kw hw 17 rfl, Kw hw 304 rfl, by decide, lenN pD1 rfl⟩
theorem cB7 {a0 : Array Value} {Z : State} (hw : ∀ d ∈ tables_1, d.before a0 Z = true) : BS Z a0 mN15 jdk_52_method_86_code 6 none 5 := ⟨Kw hw 322 rfl, Kw hw 17 rfl, Kw hw 323 rfl, by decide, lenN pD16 rfl⟩
theorem cB8 {a0 : Array Value} {Z : State} (hw : ∀ d ∈ tables_1, d.before a0 Z = true) : BI Z a0 mN17 jdk_68_method_68_code 1 (some .boolean) 0 := ⟨Kw hw 221 rfl, Kw hw 116 rfl, Kw hw 223 rfl, by decide, lenN pD17 rfl⟩
theorem cB9 {a0 : Array Value} {Z : State} (hw : ∀ d ∈ tables_1, d.before a0 Z = true) : BS Z a0 mN16 jdk_43_method_50_code 5 none 5 := ⟨Kw hw 319 rfl, Kw hw 241 rfl, Kw hw 320 rfl, by decide, lenN pD16 rfl⟩
theorem cB10 {a0 : Array Value} {Z : State} (hw : ∀ d ∈ tables_1, d.before a0 Z = true) : BI Z a0 mN10 jdk_42_method_152_code 1 (some .byte) 0 := ⟨Kw hw 142 rfl, Kw hw 2 rfl, Kw hw 144 rfl, by decide, lenN pD18 rfl⟩
theorem cB11 {a0 : Array Value} {Z : State} (hw : ∀ d ∈ tables_1, d.before a0 Z = true) : BI Z a0 mN18 jdk_68_method_11_code 2 none 0 := ⟨Kw hw 312 rfl, Kw hw 116 rfl, Kw hw 315 rfl, by decide, lenN pD19 rfl⟩
theorem cB12 {a0 : Array Value} {Z : State} (hw : ∀ d ∈ tables_1, d.before a0 Z = true) : BI Z a0 mN19 jdk_68_method_71_code 2 none 1 := ⟨Kw hw 158 rfl, Kw hw 116 rfl, Kw hw 161 rfl, by decide, lenN pD20 rfl⟩
theorem cB13 {a0 : Array Value} {Z : State} (hw : ∀ d ∈ tables_1, d.before a0 Z = true) : BI Z a0 mN20 jdk_42_method_147_code 4 none 3 := ⟨Kw hw 165 rfl, Kw hw 2 rfl, Kw hw 167 rfl, by decide, lenN pD21 rfl⟩
theorem cB14 {a0 : Array Value} {Z : State} (hw : ∀ d ∈ tables_1, d.before a0 Z = true) : BI Z a0 mN22 jdk_68_method_9_code 3 none 1 := ⟨Kw hw 148 rfl, Kw hw 116 rfl, Kw hw 151 rfl, by decide, lenN pD22 rfl⟩
theorem cB15 {a0 : Array Value} {Z : State} (hw : ∀ d ∈ tables_1, d.before a0 Z = true) : BI Z a0 mN21 jdk_68_method_73_code 3 none 2 := ⟨Kw hw 153 rfl, Kw hw 116 rfl, Kw hw 156 rfl, by decide, lenN pD23 rfl⟩
theorem cB16 {a0 : Array Value} {Z : State} (hw : ∀ d ∈ tables_1, d.before a0 Z = true) : BI Z a0 mN23 jdk_68_method_22_code 3 (some (.object "java/lang/AbstractStringBuilder")) 1 := ⟨Kw hw 131 rfl, Kw hw 116 rfl, Kw hw 134 rfl, by decide, lenN pD24 rfl⟩
theorem cB17 {a0 : Array Value} {Z : State} (hw : ∀ d ∈ tables_1, d.before a0 Z = true) : BI Z a0 mN25 jdk_68_method_2_code 2 none 1 := ⟨Kw hw 113 rfl, Kw hw 116 rfl, Kw hw 117 rfl, by decide, lenN pD22 rfl⟩
theorem cB18 {a0 : Array Value} {Z : State} (hw : ∀ d ∈ tables_1, d.before a0 Z = true) : BS Z a0 mN28 jdk_65_method_131_code 2 none 2 := ⟨Kw hw 231 rfl, Kw hw 189 rfl, Kw hw 232 rfl, by decide, lenN pD25 rfl⟩
theorem cB19 {a0 : Array Value} {Z : State} (hw : ∀ d ∈ tables_1, d.before a0 Z = true) : BS Z a0 mN27 jdk_29_method_69_code 2 (some .int) 2 := ⟨Kw hw 31 rfl, Kw hw 32 rfl, Kw hw 33 rfl, by decide, lenN pD26 rfl⟩
theorem cB20 {a0 : Array Value} {Z : State} (hw : ∀ d ∈ tables_1, d.before a0 Z = true) : BS Z a0 mN29 jdk_65_method_133_code 5 (some (.array .byte)) 3 := ⟨Kw hw 228 rfl, Kw hw 189 rfl, Kw hw 229 rfl, by decide, lenN pD27 rfl⟩
theorem cB21 {a0 : Array Value} {Z : State} (hw : ∀ d ∈ tables_1, d.before a0 Z = true) : BI Z a0 mN32 jdk_68_method_6_code 1 (some .int) 0 := ⟨Kw hw 213 rfl, Kw hw 116 rfl, Kw hw 218 rfl, by decide, lenN pD7 rfl⟩
theorem cB22 {a0 : Array Value} {Z : State} (hw : ∀ d ∈ tables_1, d.before a0 Z = true) : BI Z a0 mN31 jdk_68_method_64_code 1 (some (.array .byte)) 0 := ⟨Kw hw 208 rfl, Kw hw 116 rfl, Kw hw 210 rfl, by decide, lenN pD28 rfl⟩
theorem cB23 {a0 : Array Value} {Z : State} (hw : ∀ d ∈ tables_1, d.before a0 Z = true) : BS Z a0 mN30 jdk_65_method_132_code 3 (some (.array .byte)) 3 := ⟨Kw hw 225 rfl, Kw hw 189 rfl, Kw hw 226 rfl, by decide, lenN pD27 rfl⟩
theorem cB24 {a0 : Array Value} {Z : State} (hw : ∀ d ∈ tables_1, d.before a0 Z = true) : BI Z a0 mN34 jdk_42_method_150_code 5 none 2 := ⟨Kw hw 204 rfl, Kw hw 2 rfl, Kw hw 205 rfl, by decide, lenN pD29 rfl⟩
theorem cB25 {a0 : Array Value} {Z : State} (hw : ∀ d ∈ tables_1, d.before a0 Z = true) : BI Z a0 mN35 jdk_42_method_53_code 2 none 1 := ⟨Kw hw 201 rfl, Kw hw 2 rfl, Kw hw 202 rfl, by decide, lenN pD30 rfl⟩
theorem cB26 {a0 : Array Value} {Z : State} (hw : ∀ d ∈ tables_1, d.before a0 Z = true) : BS Z a0 mN38 jdk_41_method_11_code 3 (some .int) 3 := ⟨Kw hw 290 rfl, Kw hw 99 rfl, Kw hw 291 rfl, by decide, lenN pD31 rfl⟩
theorem cB27 {a0 : Array Value} {Z : State} (hw : ∀ d ∈ tables_1, d.before a0 Z = true) : BS Z a0 mN39 jdk_42_method_155_code 2 none 2 := ⟨Kw hw 287 rfl, Kw hw 2 rfl, Kw hw 288 rfl, by decide, lenN pD25 rfl⟩
theorem cB28 {a0 : Array Value} {Z : State} (hw : ∀ d ∈ tables_1, d.before a0 Z = true) : BS Z a0 mN41 jdk_52_method_91_code 2 none 2 := ⟨Kw hw 338 rfl, Kw hw 17 rfl, Kw hw 339 rfl, by decide, lenN pD32 rfl⟩
theorem cB29 {a0 : Array Value} {Z : State} (hw : ∀ d ∈ tables_1, d.before a0 Z = true) : BS Z a0 mN0 jdk_52_method_5_code 2 (some .char) 2 := ⟨Kw hw 309 rfl, Kw hw 17 rfl, Kw hw 310 rfl, by decide, lenN pD3 rfl⟩
theorem cB30 {a0 : Array Value} {Z : State} (hw : ∀ d ∈ tables_1, d.before a0 Z = true) : BI Z a0 mN37 jdk_42_method_154_code 1 (some .boolean) 0 := ⟨Kw hw 280 rfl, Kw hw 2 rfl, Kw hw 282 rfl, by decide, lenN pD17 rfl⟩
theorem cB31 {a0 : Array Value} {Z : State} (hw : ∀ d ∈ tables_1, d.before a0 Z = true) : BS Z a0 mN40 jdk_43_method_2_code 2 (some .char) 2 := ⟨Kw hw 284 rfl, Kw hw 241 rfl, Kw hw 285 rfl, by decide, lenN pD3 rfl⟩
theorem cB32 {a0 : Array Value} {Z : State} (hw : ∀ d ∈ tables_1, d.before a0 Z = true) : BS Z a0 mN42 jdk_52_method_83_code 2 (some .char) 2 := ⟨Kw hw 335 rfl, Kw hw 17 rfl, Kw hw 336 rfl, by decide, lenN pD3 rfl⟩
theorem cB33 {a0 : Array Value} {Z : State} (hw : ∀ d ∈ tables_1, d.before a0 Z = true) : BS Z a0 mN44 jdk_29_method_65_code 2 (some .int) 2 := ⟨Kw hw 183 rfl, Kw hw 32 rfl, Kw hw 184 rfl, by decide, lenN pD26 rfl⟩
theorem cB34 {a0 : Array Value} {Z : State} (hw : ∀ d ∈ tables_1, d.before a0 Z = true) : BS Z a0 mN45 jdk_48_method_27_code 4 (some .int) 3 := ⟨Kw hw 179 rfl, Kw hw 180 rfl, Kw hw 181 rfl, by decide, lenN pD14 rfl⟩
theorem cB35 {a0 : Array Value} {Z : State} (hw : ∀ d ∈ tables_1, d.before a0 Z = true) : BI Z a0 mN46 jdk_68_method_10_code 6 (some .int) 1 := ⟨Kw hw 174 rfl, Kw hw 116 rfl, Kw hw 177 rfl, by decide, lenN pD0 rfl⟩
theorem cB36 {a0 : Array Value} {Z : State} (hw : ∀ d ∈ tables_1, d.before a0 Z = true) : BS Z a0 mN47 jdk_65_method_121_code 3 (some (.array .byte)) 2 := ⟨Kw hw 188 rfl, Kw hw 189 rfl, Kw hw 190 rfl, by decide, lenN pD33 rfl⟩
theorem cB37 {a0 : Array Value} {Z : State} (hw : ∀ d ∈ tables_1, d.before a0 Z = true) : BS Z a0 mN48 jdk_29_method_24_code 3 (some .int) 2 := ⟨Kw hw 80 rfl, Kw hw 32 rfl, Kw hw 81 rfl, by decide, lenN pD26 rfl⟩
theorem cB38 {a0 : Array Value} {Z : State} (hw : ∀ d ∈ tables_1, d.before a0 Z = true) : BS Z a0 mN49 jdk_29_method_28_code 4 (some .int) 2 := ⟨Kw hw 83 rfl, Kw hw 32 rfl, Kw hw 84 rfl, by decide, lenN pD26 rfl⟩
theorem cB39 {a0 : Array Value} {Z : State} (hw : ∀ d ∈ tables_1, d.before a0 Z = true) : BS Z a0 mN51 jdk_31_method_10_code 1 (some (.object "java/lang/Object")) 1 := ⟨Kw hw 43 rfl, Kw hw 44 rfl, Kw hw 45 rfl, by decide, lenN pD34 rfl⟩
theorem cB40 {a0 : Array Value} {Z : State} (hw : ∀ d ∈ tables_1, d.before a0 Z = true) : BI Z a0 mN54 jdk_2452_method_9_code 11 none 6 := ⟨Kw hw 256 rfl, Kw hw 50 rfl, Kw hw 259 rfl, by decide, lenN pD35 rfl⟩
theorem cB41 {a0 : Array Value} {Z : State} (hw : ∀ d ∈ tables_1, d.before a0 Z = true) : BI Z a0 mN55 jdk_2452_method_10_code 16 (some .int) 4 := ⟨Kw hw 86 rfl, Kw hw 50 rfl, Kw hw 89 rfl, by decide, lenN pD36 rfl⟩
theorem cB42 {a0 : Array Value} {Z : State} (hw : ∀ d ∈ tables_1, d.before a0 Z = true) : BI Z a0 mN56 jdk_2452_method_3_code 5 (some (.array .byte)) 1 := ⟨Kw hw 71 rfl, Kw hw 50 rfl, Kw hw 73 rfl, by decide, lenN pD37 rfl⟩
theorem cB43 {a0 : Array Value} {Z : State} (hw : ∀ d ∈ tables_1, d.before a0 Z = true) : BI Z a0 mN57 jdk_42_method_7_code 7 none 4 := ⟨Kw hw 93 rfl, Kw hw 2 rfl, Kw hw 94 rfl, by decide, lenN pD38 rfl⟩
theorem cB44 {a0 : Array Value} {Z : State} (hw : ∀ d ∈ tables_1, d.before a0 Z = true) : BS Z a0 mN53 jdk_2448_method_5_code 7 (some (.object "java/util/Base64$Encoder")) 2 := ⟨Kw hw 39 rfl, Kw hw 40 rfl, Kw hw 41 rfl, by decide, lenN pD39 rfl⟩
theorem cB45 {a0 : Array Value} {Z : State} (hw : ∀ d ∈ tables_1, d.before a0 Z = true) : BI Z a0 mN58 jdk_2452_method_5_code 3 (some (.object "java/lang/String")) 1 := ⟨Kw hw 66 rfl, Kw hw 50 rfl, Kw hw 68 rfl, by decide, lenN pD40 rfl⟩
theorem cB46 {a0 : Array Value} {Z : State} (hw : ∀ d ∈ tables_1, d.before a0 Z = true) : BI Z a0 mN26 jdk_67_method_1_code 1 none 0 := ⟨Kw hw 110 rfl, Kw hw 108 rfl, Kw hw 111 rfl, by decide, lenN pD19 rfl⟩
theorem cB47 {a0 : Array Value} {Z : State} (hw : ∀ d ∈ tables_1, d.before a0 Z = true) : BI Z a0 mN24 jdk_67_method_7_code 2 (some (.object "java/lang/StringBuilder")) 1 := ⟨Kw hw 127 rfl, Kw hw 108 rfl, Kw hw 129 rfl, by decide, lenN pD41 rfl⟩
theorem cB48 {a0 : Array Value} {Z : State} (hw : ∀ d ∈ tables_1, d.before a0 Z = true) : BI Z a0 mN36 jdk_67_method_42_code 1 (some (.object "java/lang/String")) 0 := ⟨Kw hw 196 rfl, Kw hw 108 rfl, Kw hw 198 rfl, by decide, lenN pD42 rfl⟩
theorem cB49 {a0 : Array Value} {Z : State} (hw : ∀ d ∈ tables_1, d.before a0 Z = true) : BS Z a0 mN61 method_3_code 1 (some .char) 1 := ⟨Kw hw 252 rfl, Kw hw 245 rfl, Kw hw 253 rfl, by decide, lenN pD43 rfl⟩
theorem cB50 {a0 : Array Value} {Z : State} (hw : ∀ d ∈ tables_1, d.before a0 Z = true) : BS Z a0 mN60 method_2_code 3 (some .int) 2 := ⟨Kw hw 244 rfl, Kw hw 245 rfl, Kw hw 246 rfl, by decide, lenN pD44 rfl⟩
theorem cB51 {a0 : Array Value} {Z : State} (hw : ∀ d ∈ tables_1, d.before a0 Z = true) : BS Z a0 mN59 prog_20_method_3_code 3 (some (.object "java/lang/String")) 2 := ⟨Kw hw 35 rfl, Kw hw 36 rfl, Kw hw 37 rfl, by decide, lenN pD45 rfl⟩
theorem cB52 {a0 : Array Value} {Z : State} (hw : ∀ d ∈ tables_1, d.before a0 Z = true) : BI Z a0 mN43 jdk_42_method_56_code 2 (some .char) 1 := ⟨Kw hw 275 rfl, Kw hw 2 rfl, Kw hw 277 rfl, by decide, lenN pD43 rfl⟩
theorem cB53 {a0 : Array Value} {Z : State} (hw : ∀ d ∈ tables_1, d.before a0 Z = true) : BS Z a0 mN62 method_4_code 5 (some .char) 5 := ⟨Kw hw 249 rfl, Kw hw 245 rfl, Kw hw 250 rfl, by decide, lenN pD46 rfl⟩
theorem cB54 {a0 : Array Value} {Z : State} (hw : ∀ d ∈ tables_1, d.before a0 Z = true) : BS Z a0 mN63 method_5_code 14 (some .boolean) 4 := ⟨Kw hw 270 rfl, Kw hw 245 rfl, Kw hw 271 rfl, by decide, lenN pD47 rfl⟩
def Gl (Z : State) (a0 : Array Value) (zc : Int32) (fm : Value) (tba : Addr) (ktb : ClassId) (fba : Addr) (kfb : ClassId) : Prop :=
  (∀ d ∈ tables_1, d.before a0 Z = true) ∧ EW Z a0 consts_1 ∧ Sta Z Z.heap ST "COMPACT_STRINGS" "Z" (.int zc) ∧ ¬ zc = 0 ∧ (Sta Z Z.heap "jdk/internal/util/Preconditions" "SIOOBE_FORMATTER" "Ljava/util/function/BiFunction;" fm) ∧ (fm.isRef = true) ∧ (Sta Z Z.heap "java/lang/StringUTF16" "$assertionsDisabled" "Z" (.int 1)) ∧ (Sta Z Z.heap "java/lang/StringUTF16" "HI_BYTE_SHIFT" "I" (.int 0)) ∧ (Sta Z Z.heap "java/lang/StringUTF16" "LO_BYTE_SHIFT" "I" (.int 8)) ∧ (Sta Z Z.heap "java/util/Base64$Decoder" "fromBase64" "[I" (.ref fba)) ∧ (Arv Z Z.heap fba kfb .int 256 (fb256.map Value.int) (.int 0)) ∧ (Sta Z Z.heap "java/util/Base64$Encoder" "toBase64" "[C" (.ref tba)) ∧ (Arv Z Z.heap tba ktb .char 64 (tb64.map Value.int) (.int 0))
set_option maxRecDepth 65536
set_option maxHeartbeats 40000000
variable {l : Launch} {Z : State} {a0 : Array Value} {zc : Int32} {fm : Value} {tba : Addr} {ktb : ClassId} {fba : Addr} {kfb : ClassId}
theorem ofNat_lt {n : Nat} (h : n ≤ 4000) : ¬ (Int32.ofNat n) < 0 := by
  rw [Int32.lt_iff_toInt_lt, Int32.toInt_ofNat_of_lt (by omega), i32_0]; omega
theorem ofNat_nat {n : Nat} (h : n ≤ 4000) : (Int32.ofNat n).toNatClampNeg = n := by
  show (Int32.ofNat n).toInt.toNat = n
  rw [Int32.toInt_ofNat_of_lt (by omega)]; rfl
theorem ofNat_cmp {n k : Nat} (h : n ≤ 4000) (h' : k ≤ 4000) : Int32.ofNat n < Int32.ofNat k ↔ n < k := by
  rw [Int32.lt_iff_toInt_lt, Int32.toInt_ofNat_of_lt (by omega), Int32.toInt_ofNat_of_lt (by omega)]; omega
theorem ofNat_succ (n : Nat) : Int32.ofNat n + 1 = Int32.ofNat (n + 1) := by
  rw [Int32.ofNat_add]; rfl

theorem nar_byte (x : Int32) : nar .byte x.toInt8.toInt32 = x.toInt8.toInt32 := by show x.toInt8.toInt32.toInt8.toInt32 = _; simp
def Chr (c : Int32) : Prop := ¬ c < 0 ∧ ¬ (65535 : Int32) < c
theorem mapI_getD {cs : List Int32} {j : Nat} (h : j < cs.length) : (cs.map Value.int).getD j (.int 0) = .int (cs.getD j 0) := by
  simp [List.getD, h]
theorem getD_memC {cs : List Int32} {j : Nat} (h : j < cs.length) : cs.getD j 0 ∈ cs := by simp [List.getD, h]
theorem fill_step {f : Int32 → Value} {v : Value} : ∀ (cs : List Int32) (j : Nat), j < cs.length → (((cs.take j).map f) ++ List.replicate (cs.length - j) v).set j (f (cs.getD j 0)) = ((cs.take (j + 1)).map f) ++ List.replicate (cs.length - (j + 1)) v
  | [], j, h => absurd h (Nat.not_lt_zero j)
  | c :: cs, 0, _ => by simp [List.replicate_succ]
  | c :: cs, j + 1, h => by
    have q := fill_step (f := f) (v := v) cs j (by simpa using h)
    simpa using q
theorem wide_step {v : Value} : ∀ (cs : List Int32) (j : Nat), j < cs.length → ((wideBytes (cs.take j) ++ List.replicate (2 * (cs.length - j)) v).set (2 * j) (.int (lo8 (cs.getD j 0)))).set (2 * j + 1) (.int (hi8 (cs.getD j 0))) = wideBytes (cs.take (j + 1)) ++ List.replicate (2 * (cs.length - (j + 1))) v
  | [], j, h => absurd h (Nat.not_lt_zero j)
  | c :: cs, 0, _ => by
    rw [show 2 * ((c :: cs).length - 0) = 2 * cs.length + 1 + 1 from by simp; omega]
    simp [List.replicate_succ, wideBytes]
  | c :: cs, j + 1, h => by
    have q := wide_step (v := v) cs j (by simpa using h)
    rw [show 2 * (j + 1) = 2 * j + 1 + 1 from by omega]
    simpa [wideBytes] using q
theorem take_mem {cs : List Int32} {j : Nat} {c : Int32} (h : j < cs.length) (q : c ∈ cs.take (j + 1)) : c ∈ cs.take j ∨ c = cs.getD j 0 := by
  rw [List.take_add_one, List.mem_append] at q
  rcases q with q | q
  · exact Or.inl q
  · right
    simp [h] at q
    simp [List.getD, h, q]
theorem wide_len : ∀ cs : List Int32, (wideBytes cs).length = 2 * cs.length
  | [] => rfl
  | c :: cs => by simp [wideBytes, wide_len cs]; omega
theorem ofN_shl {n : Nat} (h : n ≤ 256) : (Int32.ofNat n) <<< ((1 : Int32) &&& 31) = Int32.ofNat (2 * n) := by
  have q := c_ishl (Int32.ofNat n) 1 1 (by decide)
  have r := rng32 ((Int32.ofNat n) <<< ((1 : Int32) &&& 31))
  rw [Int32.toInt_ofNat_of_lt (by omega)] at q
  rw [← Int32.toInt_inj, Int32.toInt_ofNat_of_lt (by omega)]
  omega
theorem ofN_inj {n k : Nat} (h : n ≤ 4000) (h' : k ≤ 4000) (q : Int32.ofNat n = Int32.ofNat k) : n = k := by
  have e := congrArg Int32.toNatClampNeg q
  rwa [ofNat_nat h, ofNat_nat h'] at e
theorem cdr0_ : ∀ n : Fin 257, (XT.ushr (Int32.ofNat n.val - Int32.ofNat n.val) 31).toInt8.toInt32 = 0 := by decide
theorem cdr1_ : ∀ n : Fin 257, 0 < n.val → (XT.ushr (Int32.ofNat n.val - Int32.ofNat (2 * n.val)) 31).toInt8.toInt32 = 1 := by decide
theorem coda_coder {cs : List Int32} {cd N N2 : Int32} {vs : List Value} (C : CodA cs cd N2 vs) (hN : N = Int32.ofNat cs.length) (h0 : 0 < cs.length) (hl : cs.length ≤ 256) : (XT.ushr (N - N2) 31).toInt8.toInt32 = cd := by
  subst hN
  rcases C with ⟨rfl, rfl, -, -⟩ | ⟨rfl, rfl, -, -⟩
  · exact cdr0_ ⟨cs.length, by omega⟩
  · exact cdr1_ ⟨cs.length, by omega⟩ h0
theorem coda_bit {cs : List Int32} {cd N2 : Int32} {vs : List Value} (C : CodA cs cd N2 vs) : narrow .byte (.int cd) = .int cd ∧ fits .byte (.int cd) = true := by
  rcases C with ⟨rfl, -⟩ | ⟨rfl, -⟩
  · exact ⟨rfl, rfl⟩
  · exact ⟨rfl, rfl⟩
theorem allP {x : Addr} {P : Addr → Prop} (q : P x) : ∀ y ∈ [x], P y := fun y z => by rw [List.mem_singleton.mp z]; exact q

theorem pn_0 : plainName "java/lang/StringUTF16" = true := by first | (simp [plainName, overriddenIn]; done) | decide +kernel
def dL0al : List (Nat × Instr × Nat) := [(0, .getstatic 44, 3), (3, .ifCond .ne 25, 3), (28, .iload_n 1, 1), (29, .iconst 1, 1), (30, .ishl, 1), (31, .istore_n 1, 1), (32, .aload_n 0, 1), (33, .iload_n 1, 1), (34, .iinc 1 1, 3), (37, .baload, 1), (38, .sipush 255, 3), (41, .iand, 1), (42, .getstatic 59, 3), (45, .ishl, 1), (46, .aload_n 0, 1), (47, .iload_n 1, 1)]
theorem dL0a : ∀ x ∈ dL0al, decode jdk_52_method_5_code x.1 = .ok x.2 := by decide +kernel
def dL0bl : List (Nat × Instr × Nat) := [(48, .baload, 1), (49, .sipush 255, 3), (52, .iand, 1), (53, .getstatic 63, 3), (56, .ishl, 1), (57, .ior, 1), (58, .i2c, 1), (59, .ireturn, 1)]
theorem dL0b : ∀ x ∈ dL0bl, decode jdk_52_method_5_code x.1 = .ok x.2 := by decide +kernel
theorem rm_gch (G : Gl Z a0 zc fm tba ktb fba kfb) (h : Heap) (t : Addr) (J : Int32) (j : Nat) (hJ : J = Int32.ofNat j) (kt : ClassId) (cs : List Int32) (N : Int32) (hN : N = Int32.ofNat (2 * cs.length)) (K : Arv Z h t kt .byte N (wideBytes cs) (.int 0)) (hj : j < cs.length) (hl : cs.length ≤ 256) (hcs : ∀ c ∈ cs, Chr c) :
    Met l Z consts_1 mN0 jdk_52_method_5_code 2 (some .char) (mkR 0 0 0 0) #[.ref t, .int J] h [] [] (fun v h' => v = some (.int (cs.getD j 0)) ∧ h = h') := by
  obtain ⟨hw, hEL, -, -, -, -, SA, SH, SL, -⟩ := G
  refine Met.of (plainFor_of_name pn_0) ?_
  intro p e s m below meth c T hnm hret hlk hby hml hs w; have oa := @dat _ _ dL0a _ hby; have ob := @dat _ _ dL0b _ hby
  refine Run.cast (efL (L := #[vR t, vI J]) (by simp [argsToLocals, Value.category, vI, vR, vJ])) ?_
  have hj32 : j ≤ 256 := by omega
  refine w_getS w (Kw hw 305 rfl) Via.refl (SA.ext w.old) (oa 0 rfl) 3 rfl fun T w => ?_
  refine s_if_ne w (oa 1 rfl) (by decide) 6 rfl 28 rfl (fun q => absurd q (by decide)) (fun _ => ?_)
  refine jn w (oa 2 rfl) rfl 29 rfl <| jc w 1 (oa 3 rfl) rfl 30 rfl <| s_ishl w (oa 4 rfl) 31 rfl <| s_istore_n w #[vR t, vI (J <<< ((1 : Int32) &&& 31))] (oa 5 rfl) rfl 32 rfl ?_
  rw [hJ, ofN_shl hj32]
  refine jm w (oa 6 rfl) rfl rfl 33 rfl <| jn w (oa 7 rfl) rfl 34 rfl <| ji w #[vR t, vI ((Int32.ofNat (2 * j)) + 1)] (oa 8 rfl) (v := 1) rfl rfl rfl 37 rfl ?_
  rw [ofNat_succ]
  refine w_ldB w K (i := 2 * j) (ofNat_lt (by omega)) (ofNat_nat (by omega)) (by rw [hN, ofNat_nat (by omega)]; omega) (wide_lo _ cs j hj) (oa 9 rfl) 38 rfl ?_
  refine s_sipush w 255 (oa 10 rfl) rfl 41 rfl <| jw w (oa 11 rfl) 42 rfl <| w_getS w (Kw hw 306 rfl) Via.refl (SH.ext w.old) (oa 12 rfl) 45 rfl fun T w => ?_
  refine s_ishl w (oa 13 rfl) 46 rfl <| jm w (oa 14 rfl) rfl rfl 47 rfl <| jn w (oa 15 rfl) rfl 48 rfl <| w_ldB w K (i := 2 * j + 1) (ofNat_lt (by omega)) (ofNat_nat (by omega)) (by rw [hN, ofNat_nat (by omega)]; omega) (wide_hi _ cs j hj) (ob 0 rfl) 49 rfl <| s_sipush w 255 (ob 1 rfl) rfl 52 rfl <| jw w (ob 2 rfl) 53 rfl ?_
  refine w_getS w (Kw hw 307 rfl) Via.refl (SL.ext w.old) (ob 3 rfl) 56 rfl fun T w => ?_
  refine s_ishl w (ob 4 rfl) 57 rfl <| s_ior w (ob 5 rfl) 58 rfl <| s_i2c w (ob 6 rfl) 59 rfl ?_
  have e : nar .char (((lo8 (cs.getD j 0) &&& 255) <<< ((0 : Int32) &&& 31)) ||| ((hi8 (cs.getD j 0) &&& 255) <<< ((8 : Int32) &&& 31))) = cs.getD j 0 := pair_says (hcs _ (getD_memC hj)).1 (hcs _ (getD_memC hj)).2
  rw [e]
  exact w_ireturn w hEL hs hlk hret (narrow_ch (hcs _ (getD_memC hj)).1 (hcs _ (getD_memC hj)).2) (Or.inr (Or.inr (Or.inr (Or.inl rfl)))) (ob 7 rfl) (by decide) (by decide) ⟨rfl, rfl⟩
def dL1al : List (Nat × Instr × Nat) := [(0, .getstatic 44, 3), (3, .ifCond .ne 25, 3), (28, .iload_n 1, 1), (29, .iconst 1, 1), (30, .ishl, 1), (31, .istore_n 1, 1), (32, .aload_n 0, 1), (33, .iload_n 1, 1), (34, .iinc 1 1, 3), (37, .iload_n 2, 1), (38, .getstatic 59, 3), (41, .ishr, 1), (42, .i2b, 1), (43, .bastore, 1), (44, .aload_n 0, 1), (45, .iload_n 1, 1)]
theorem dL1a : ∀ x ∈ dL1al, decode jdk_52_method_4_code x.1 = .ok x.2 := by decide +kernel
def dL1bl : List (Nat × Instr × Nat) := [(46, .iload_n 2, 1), (47, .getstatic 63, 3), (50, .ishr, 1), (51, .i2b, 1), (52, .bastore, 1), (53, .return_, 1)]
theorem dL1b : ∀ x ∈ dL1bl, decode jdk_52_method_4_code x.1 = .ok x.2 := by decide +kernel
theorem rm_pch (G : Gl Z a0 zc fm tba ktb fba kfb) (h : Heap) (t : Addr) (J : Int32) (c0 : Int32) (j n : Nat) (hJ : J = Int32.ofNat j) (kt : ClassId) (vs : List Value) (N : Int32) (hN : N = Int32.ofNat (2 * n)) (hvs : vs.length = 2 * n) (K : Arv Z h t kt .byte N vs (.int 0)) (hj : j < n) (hl : n ≤ 256) :
    Met l Z consts_1 mN1 jdk_52_method_4_code 3 none (mkR 0 0 0 0) #[.ref t, .int J, .int c0] h [t] [t] (fun v h' => v = none ∧ Arv Z h' t kt .byte N ((vs.set (2 * j) (.int (lo8 c0))).set (2 * j + 1) (.int (hi8 c0))) (.int 0)) := by
  obtain ⟨hw, hEL, -, -, -, -, SA, SH, SL, -⟩ := G
  refine Met.of (plainFor_of_name pn_0) ?_
  intro p e s m below meth c T hnm hret hlk hby hml hs w; have oa := @dat _ _ dL1a _ hby; have ob := @dat _ _ dL1b _ hby
  refine Run.cast (efL (L := #[vR t, vI J, vI c0]) (by simp [argsToLocals, Value.category, vI, vR, vJ])) ?_
  have hj32 : j ≤ 256 := by omega
  refine w_getS w (Kw hw 305 rfl) Via.refl (SA.ext w.old) (oa 0 rfl) 3 rfl fun T w => ?_
  refine s_if_ne w (oa 1 rfl) (by decide) 6 rfl 28 rfl (fun q => absurd q (by decide)) (fun _ => ?_)
  refine jn w (oa 2 rfl) rfl 29 rfl <| jc w 1 (oa 3 rfl) rfl 30 rfl <| s_ishl w (oa 4 rfl) 31 rfl <| s_istore_n w #[vR t, vI (J <<< ((1 : Int32) &&& 31)), vI c0] (oa 5 rfl) rfl 32 rfl ?_
  rw [hJ, ofN_shl hj32]
  refine jm w (oa 6 rfl) rfl rfl 33 rfl <| jn w (oa 7 rfl) rfl 34 rfl <| ji w #[vR t, vI ((Int32.ofNat (2 * j)) + 1), vI c0] (oa 8 rfl) (v := 1) rfl rfl rfl 37 rfl ?_
  rw [ofNat_succ]
  refine jn w (oa 9 rfl) rfl 38 rfl <| w_getS w (Kw hw 306 rfl) Via.refl (SH.ext w.old) (oa 10 rfl) 41 rfl fun T w => ?_
  refine s_ishr w (oa 11 rfl) 42 rfl <| s_i2b w (oa 12 rfl) 43 rfl <| jB w K (i := 2 * j) (ofNat_lt (by omega)) (ofNat_nat (by omega)) (by rw [hN, ofNat_nat (by omega)]; omega) (by first | (rw [hvs]; omega) | (rw [List.length_set, hvs]; omega)) (nar_byte _) (oa 13 rfl) (Or.inl (List.mem_singleton.mpr rfl)) (List.mem_singleton.mpr rfl) 44 rfl fun T g1 w W1 D1 => ?_
  refine jm w (oa 14 rfl) rfl rfl 45 rfl <| jn w (oa 15 rfl) rfl 46 rfl <| jn w (ob 0 rfl) rfl 47 rfl <| w_getS w (Kw hw 307 rfl) Via.refl (SL.ext w.old) (ob 1 rfl) 50 rfl fun T w => ?_
  refine s_ishr w (ob 2 rfl) 51 rfl <| s_i2b w (ob 3 rfl) 52 rfl <| jB w D1 (i := 2 * j + 1) (ofNat_lt (by omega)) (ofNat_nat (by omega)) (by rw [hN, ofNat_nat (by omega)]; omega) (by first | (rw [hvs]; omega) | (rw [List.length_set, hvs]; omega)) (nar_byte _) (ob 4 rfl) (Or.inl (List.mem_singleton.mpr rfl)) (List.mem_singleton.mpr rfl) 53 rfl fun T g2 w W2 D2 => ?_
  rw [shr0] at D2
  exact w_return w hEL hs hlk hret (ob 5 rfl) (by decide) (by decide) ⟨rfl, D2⟩
def dL2al : List (Nat × Instr × Nat) := [(0, .iload_n 0, 1), (1, .ifCond .ge 11, 3), (12, .iload_n 0, 1), (13, .ldc 20, 2), (15, .if_icmp .lt 40, 3), (55, .iload_n 0, 1), (56, .iconst 1, 1), (57, .ishl, 1), (58, .ireturn, 1)]
theorem dL2a : ∀ x ∈ dL2al, decode jdk_52_method_3_code x.1 = .ok x.2 := by decide +kernel
theorem rm_nbl (G : Gl Z a0 zc fm tba ktb fba kfb) (h : Heap) (N : Int32) (n : Nat) (hN : N = Int32.ofNat n) (hn : n ≤ 256) :
    Met l Z consts_1 mN2 jdk_52_method_3_code 1 (some .int) (mkR 0 0 0 0) #[.int N] h [] [] (fun v h' => v = some (.int (Int32.ofNat (2 * n))) ∧ h = h') := by
  obtain ⟨hw, hEL, -⟩ := G
  refine Met.of (plainFor_of_name pn_0) ?_
  intro p e s m below meth c T hnm hret hlk hby hml hs w; have oa := @dat _ _ dL2a _ hby
  refine Run.cast (efL (L := #[vI N]) (by simp [argsToLocals, Value.category, vI, vR, vJ])) ?_
  refine jn w (oa 0 rfl) rfl 1 rfl <| s_if_ge w (oa 1 rfl) (by decide) 4 rfl 12 rfl (fun ct1 => ?_) (fun ct1 => ?_)
  · exact absurd ct1 (by rw [hN]; exact ofNat_lt (by omega))
  · skip
    refine jn w (oa 2 rfl) rfl 13 rfl <| w_ldcI w (v := 1073741823) (Kw hw 301 rfl) (oa 3 rfl) 15 rfl <| s_icmp_lt w (oa 4 rfl) (by decide) 18 rfl 55 rfl (fun ct2 => ?_) (fun ct2 => ?_)
    · exact absurd (by rw [hN, Int32.lt_iff_toInt_lt, Int32.toInt_ofNat_of_lt (by omega)]; have e : (1073741823 : Int32).toInt = 1073741823 := (by decide); omega) ct2
    · skip
      refine jn w (oa 5 rfl) rfl 56 rfl <| jc w 1 (oa 6 rfl) rfl 57 rfl <| s_ishl w (oa 7 rfl) 58 rfl ?_
      rw [hN, ofN_shl hn]
      exact w_ireturn w hEL hs hlk hret rfl (Or.inl rfl) (oa 8 rfl) (by decide) (by decide) ⟨rfl, rfl⟩
def dL3al : List (Nat × Instr × Nat) := [(0, .iload_n 0, 1), (1, .invokestatic 11, 3), (4, .newarray .byte, 2), (6, .areturn, 1)]
theorem dL3a : ∀ x ∈ dL3al, decode jdk_52_method_2_code x.1 = .ok x.2 := by decide +kernel
theorem rm_nbf (G : Gl Z a0 zc fm tba ktb fba kfb) (h : Heap) (N : Int32) (n : Nat) (hN : N = Int32.ofNat n) (hB : n ≤ 48) :
    MetN l Z consts_1 mN3 jdk_52_method_2_code 1 (some (.array .byte)) (mkR 1 1 96 12) #[.int N] h [] [] (fun v h' N => ∃ t kt, v = some (.ref t) ∧ N = [t] ∧ h.size ≤ t ∧ Arv Z h' t kt .byte (Int32.ofNat (2 * n)) (List.replicate (2 * n) (.int 0)) (.int 0)) := by
  have G0 := G
  obtain ⟨hw, hEL, -⟩ := G
  refine MetN.of (plainFor_of_name pn_0) ?_
  intro p e s m below meth c T hnm hret hlk hby hml hs w; have oa := @dat _ _ dL3a _ hby
  refine Run.cast (efL (L := #[vI N]) (by simp [argsToLocals, Value.category, vI, vR, vJ])) ?_
  have hn : n ≤ 256 := by omega
  refine jn w (oa 0 rfl) rfl 1 rfl <| w_static w hEL (y := mN2) (Kw hw 298 rfl) (Kw hw 299 rfl) (Kw hw 17 rfl) (Kw hw 300 rfl) (by decide) (rm_nbl G0 h N n hN hn) all0 all0 (argsL := [.int N]) (rest := []) (lenOf pD0 rfl) rfl rfl (oa 1 rfl) (by rw [hml]; rfl) (W := 0) (Nat.le_of_eq rfl) (by decide) (by decide) (by decide) (by decide) 4 rfl fun u1 T h2 w K3 P4 => ?_
  obtain ⟨rfl, rfl⟩ := P4
  show Run _ _ _ _ _ (mkF _ _ _ [.int (Int32.ofNat (2 * n))])
  refine w_newP w (Kw hw 19 rfl) rfl rfl (oa 2 rfl) (ofNat_lt (by omega)) (n := 2 * n) (Nat.le_of_eq (ofNat_nat (by omega))) (by omega) 6 rfl (by decide) (by first | omega | (dsimp only [mkR]; omega)) fun T h5 x6 k7 w E8 q9 r10 V11 => ?_
  have w := w.mono (slots' := 96) (Nat.le_refl _) (by first | omega | (dsimp only [mkR]; omega))
  exact w_areturnN w hEL hs hlk hret rfl rfl (oa 3 rfl) (by decide) (by decide) (N := [x6]) (allP (List.mem_cons_self ..)) ⟨x6, _, rfl, rfl, q9, V11⟩
def dL4al : List (Nat × Instr × Nat) := [(0, .iload_n 2, 1), (1, .invokestatic 107, 3), (4, .astore_n 3, 1), (5, .iconst 0, 1), (6, .istore 4, 2), (8, .iload 4, 2), (10, .iload_n 2, 1), (11, .if_icmp .ge 21, 3), (14, .aload_n 3, 1), (15, .iload 4, 2), (17, .aload_n 0, 1), (18, .iload_n 1, 1), (19, .caload, 1), (20, .invokestatic 111, 3), (23, .iinc 1 1, 3), (26, .iinc 4 1, 3)]
theorem dL4a : ∀ x ∈ dL4al, decode jdk_52_method_14_code x.1 = .ok x.2 := by decide +kernel
def dL4bl : List (Nat × Instr × Nat) := [(29, .goto (-21), 3), (32, .aload_n 3, 1), (33, .areturn, 1)]
theorem dL4b : ∀ x ∈ dL4bl, decode jdk_52_method_14_code x.1 = .ok x.2 := by decide +kernel
theorem rm_tob (G : Gl Z a0 zc fm tba ktb fba kfb) (h : Heap) (b : Addr) (N : Int32) (kb : ClassId) (cs : List Int32) (hN : N = Int32.ofNat cs.length) (hB : cs.length ≤ 48) (K : Arv Z h b kb .char N (cs.map Value.int) (.int 0)) :
    MetN l Z consts_1 mN4 jdk_52_method_14_code 5 (some (.array .byte)) (mkR 2 1 96 24) #[.ref b, .int 0, .int N] h [] [] (fun v h' N => ∃ t kt, v = some (.ref t) ∧ N = [t] ∧ h.size ≤ t ∧ Arv Z h' t kt .byte (Int32.ofNat (2 * cs.length)) (wideBytes cs) (.int 0)) := by
  have G0 := G
  obtain ⟨hw, hEL, -⟩ := G
  refine MetN.of (plainFor_of_name pn_0) ?_
  intro p e s m below meth c T hnm hret hlk hby hml hs w; have oa := @dat _ _ dL4a _ hby; have ob := @dat _ _ dL4b _ hby
  refine Run.cast (efL (L := #[vR b, vI 0, vI N, .unset, .unset]) (by simp [argsToLocals, Value.category, vI, vR, vJ])) ?_
  have hl32 : cs.length ≤ 256 := by omega
  refine jn w (oa 0 rfl) rfl 1 rfl <| wS w hEL (cB0 hw) (Kw hw 295 rfl) (rm_nbf G0 h N cs.length hN hB) all0 all0 [.int N] [] rfl rfl rfl (oa 1 rfl) hml rfl 0 rfl (by decide) 4 rfl fun u1 N5 T h2 w K3 P4 => ?_
  obtain ⟨t6, kt7, rfl, rfl, q8, A9⟩ := P4
  have E10 := Keep.ext0 K3
  show Run _ _ _ _ _ (mkF _ _ _ [.ref t6])
  refine s_astore_n w #[vR b, vI 0, vI N, vR t6, .unset] (oa 2 rfl) rfl rfl 5 rfl <| jc w 0 (oa 3 rfl) rfl 6 rfl <| js w #[vR b, vI 0, vI N, vR t6, vI 0] (oa 4 rfl) rfl 8 rfl ?_
  have hbt : b ≠ t6 := fun z => by obtain ⟨cl, A, -⟩ := K; have := A.lt; rw [z] at this; exact absurd q8 (Nat.not_le.mpr this)
  suffices H : ∀ k j T g, j + k = cs.length → Wk p l e _ s m _ below meth c Z consts_1 _ h [] T g 1 96 [t6] → Ext h g → Arv Z g b kb .char N (cs.map Value.int) (.int 0) → Arv Z g t6 kt7 .byte (Int32.ofNat (2 * cs.length)) (wideBytes (cs.take j) ++ List.replicate (2 * (cs.length - j)) (.int 0)) (.int 0) → Run p e below (QmN Z consts_1 s h [] _ _) T (mkF m 8 #[vR b, vI (Int32.ofNat j), vI N, vR t6, vI (Int32.ofNat j)] []) from H cs.length 0 T h2 (Nat.zero_add _) w E10 (K.ext E10) A9
  intro k
  induction k with
  | zero =>
    intro j T g hj w E K D
    obtain rfl : j = cs.length := hj
    refine jl w (oa 5 rfl) rfl 10 rfl <| jn w (oa 6 rfl) rfl 11 rfl <| jg w (oa 7 rfl) (by decide) 14 rfl 32 rfl (fun ct11 => ?_) (fun ct11 => ?_)
    · exact absurd ct11 (by rw [hN]; exact Int32.lt_irrefl)
    · skip
      refine jm w (ob 1 rfl) rfl rfl 33 rfl ?_
      exact w_areturnN w hEL hs hlk hret rfl rfl (ob 2 rfl) (by decide) (by decide) (N := [t6]) (allP (List.mem_cons_self ..)) ⟨t6, kt7, rfl, rfl, q8, by simpa using D⟩
  | succ k ih =>
    intro j T g hj w E K D
    have hjn : j < cs.length := by omega
    refine jl w (oa 5 rfl) rfl 10 rfl <| jn w (oa 6 rfl) rfl 11 rfl <| jg w (oa 7 rfl) (by decide) 14 rfl 32 rfl (fun ct12 => ?_) (fun ct12 => ?_)
    · skip
      refine jm w (oa 8 rfl) rfl rfl 15 rfl <| jl w (oa 9 rfl) rfl 17 rfl <| jm w (oa 10 rfl) rfl rfl 18 rfl <| jn w (oa 11 rfl) rfl 19 rfl <| w_ldC w K (i := j) (ofNat_lt (by omega)) (ofNat_nat (by omega)) (by rw [hN, ofNat_nat (by omega)]; exact hjn) (mapI_getD hjn) (oa 12 rfl) 20 rfl <| w_static w hEL (y := mN1) (Kw hw 302 rfl) (Kw hw 303 rfl) (Kw hw 17 rfl) (Kw hw 304 rfl) (by decide) (rm_pch G0 g t6 _ _ j cs.length rfl kt7 _ _ rfl (by simp [wide_len]; omega) D hjn hl32) (allS (mi 0 rfl) all0) (allS (Or.inr q8) all0) (argsL := [.ref t6, .int (Int32.ofNat j), .int (cs.getD j 0)]) (rest := []) (lenOf pD1 rfl) rfl rfl (oa 13 rfl) (by rw [hml]; rfl) (W := 0) (Nat.le_of_eq rfl) (by decide) (by decide) (by decide) (by decide) 23 rfl fun u13 T h14 w K15 P16 => ?_
      obtain ⟨rfl, D1⟩ := P16
      have E1 := Ext.kp E K15 (allP q8)
      have K1 := K.keep K15 (ninS hbt nin0)
      rw [wide_step cs j hjn] at D1
      show Run _ _ _ _ _ (mkF _ _ _ [])
      refine ji w #[vR b, vI ((Int32.ofNat j) + 1), vI N, vR t6, vI (Int32.ofNat j)] (oa 14 rfl) (v := 1) rfl rfl rfl 26 rfl <| ji w #[vR b, vI ((Int32.ofNat j) + 1), vI N, vR t6, vI ((Int32.ofNat j) + 1)] (oa 15 rfl) (v := 1) rfl rfl rfl 29 rfl <| jt w (ob 0 rfl) (by decide) 8 rfl ?_
      rw [ofNat_succ]
      exact ih (j + 1) _ _ (by omega) w E1 K1 D1
    · exact absurd (by rw [hN]; exact (ofNat_cmp (by omega) (by omega)).mpr hjn) ct12
def dL5al : List (Nat × Instr × Nat) := [(0, .iconst 0, 1), (1, .istore 5, 2), (3, .iload 5, 2), (5, .iload 4, 2), (7, .if_icmp .ge 37, 3), (10, .aload_n 0, 1), (11, .iload_n 1, 1), (12, .caload, 1), (13, .istore 6, 2), (15, .iload 6, 2), (17, .sipush 255, 3), (20, .if_icmp .le 6, 3), (23, .iload 5, 2), (25, .ireturn, 1), (26, .aload_n 2, 1), (27, .iload_n 3, 1)]
theorem dL5a : ∀ x ∈ dL5al, decode jdk_52_method_21_code x.1 = .ok x.2 := by decide +kernel
def dL5bl : List (Nat × Instr × Nat) := [(28, .iload 6, 2), (30, .i2b, 1), (31, .bastore, 1), (32, .iinc 1 1, 3), (35, .iinc 3 1, 3), (38, .iinc 5 1, 3), (41, .goto (-38), 3), (44, .iload 4, 2), (46, .ireturn, 1)]
theorem dL5b : ∀ x ∈ dL5bl, decode jdk_52_method_21_code x.1 = .ok x.2 := by decide +kernel
theorem rm_cp5 (G : Gl Z a0 zc fm tba ktb fba kfb) (h : Heap) (b : Addr) (d : Addr) (N : Int32) (kb kd : ClassId) (cs : List Int32) (hN : N = Int32.ofNat cs.length) (hB : cs.length ≤ 256) (K : Arv Z h b kb .char N (cs.map Value.int) (.int 0)) (D : Arv Z h d kd .byte N (List.replicate cs.length (.int 0)) (.int 0)) (hne : b ≠ d) :
    Met l Z consts_1 mN5 jdk_52_method_21_code 7 (some .int) (mkR 0 0 0 0) #[.ref b, .int 0, .ref d, .int 0, .int N] h [d] [d] (fun v h' => ∃ r, v = some (.int (Int32.ofNat r)) ∧ ((r = cs.length ∧ (∀ c ∈ cs, ¬ (255 : Int32) < c) ∧ Arv Z h' d kd .byte N (cs.map fun c => Value.int (lo8 c)) (.int 0)) ∨ (r < cs.length ∧ (255 : Int32) < cs.getD r 0))) := by
  obtain ⟨-, hEL, -⟩ := G
  refine Met.of (plainFor_of_name pn_0) ?_
  intro p e s m below meth c T hnm hret hlk hby hml hs w; have oa := @dat _ _ dL5a _ hby; have ob := @dat _ _ dL5b _ hby
  refine Run.cast (efL (L := #[vR b, vI 0, vR d, vI 0, vI N, .unset, .unset]) (by simp [argsToLocals, Value.category, vI, vR, vJ])) ?_
  refine jc w 0 (oa 0 rfl) rfl 1 rfl <| js w #[vR b, vI 0, vR d, vI 0, vI N, vI 0, .unset] (oa 1 rfl) rfl 3 rfl ?_
  suffices H : ∀ k j (sl : Slot) T g, j + k = cs.length → (sl = .unset ∨ ∃ z, sl = vI z) → Wk p l e _ s m _ below meth c Z consts_1 _ h [d] T g 0 0 [d] → Arv Z g b kb .char N (cs.map Value.int) (.int 0) → Arv Z g d kd .byte N (((cs.take j).map fun c => Value.int (lo8 c)) ++ List.replicate (cs.length - j) (.int 0)) (.int 0) → (∀ c ∈ cs.take j, ¬ (255 : Int32) < c) → Run p e below (Qm Z consts_1 s h [d] _ _) T (mkF m 3 #[vR b, vI (Int32.ofNat j), vR d, vI (Int32.ofNat j), vI N, vI (Int32.ofNat j), sl] []) from H cs.length 0 .unset T h (Nat.zero_add _) (Or.inl rfl) w K D (fun _ q => nomatch q)
  intro k
  induction k with
  | zero =>
    intro j sl T g hj hsl w K D hlt
    obtain rfl : j = cs.length := hj
    refine jl w (oa 2 rfl) rfl 5 rfl <| jl w (oa 3 rfl) rfl 7 rfl <| jg w (oa 4 rfl) (by decide) 10 rfl 44 rfl (fun ct1 => ?_) (fun ct1 => ?_)
    · exact absurd ct1 (by rw [hN]; exact Int32.lt_irrefl)
    · skip
      refine jl w (ob 7 rfl) rfl 46 rfl ?_
      exact w_ireturn w hEL hs hlk hret rfl (Or.inl rfl) (ob 8 rfl) (by decide) (by decide) ⟨cs.length, by rw [hN], Or.inl ⟨rfl, fun c q => hlt c (by simpa using q), by simpa using D⟩⟩
  | succ k ih =>
    intro j sl T g hj hsl w K D hlt
    have hjn : j < cs.length := by omega
    refine jl w (oa 2 rfl) rfl 5 rfl <| jl w (oa 3 rfl) rfl 7 rfl <| jg w (oa 4 rfl) (by decide) 10 rfl 44 rfl (fun ct2 => ?_) (fun ct2 => ?_)
    · skip
      refine jm w (oa 5 rfl) rfl rfl 11 rfl <| jn w (oa 6 rfl) rfl 12 rfl <| w_ldC w K (i := j) (ofNat_lt (by omega)) (ofNat_nat (by omega)) (by rw [hN, ofNat_nat (by omega)]; exact hjn) (mapI_getD hjn) (oa 7 rfl) 13 rfl <| js w #[vR b, vI (Int32.ofNat j), vR d, vI (Int32.ofNat j), vI N, vI (Int32.ofNat j), vI (cs.getD j 0)] (oa 8 rfl) (by rcases hsl with rfl | ⟨z, rfl⟩ <;> rfl) 15 rfl <| jl w (oa 9 rfl) rfl 17 rfl <| s_sipush w 255 (oa 10 rfl) rfl 20 rfl ?_
      refine je w (oa 11 rfl) (by decide) 23 rfl 26 rfl (fun ct3 => ?_) (fun ct3 => ?_)
      · skip
        refine jl w (oa 12 rfl) rfl 25 rfl ?_
        exact w_ireturn w hEL hs hlk hret rfl (Or.inl rfl) (oa 13 rfl) (by decide) (by decide) ⟨j, rfl, Or.inr ⟨hjn, ct3⟩⟩
      · skip
        refine jm w (oa 14 rfl) rfl rfl 27 rfl <| jn w (oa 15 rfl) rfl 28 rfl <| jl w (ob 0 rfl) rfl 30 rfl <| s_i2b w (ob 1 rfl) 31 rfl <| jB w D (i := j) (ofNat_lt (by omega)) (ofNat_nat (by omega)) (by rw [hN, ofNat_nat (by omega)]; exact hjn) (by simp; omega) (nar_byte _) (ob 2 rfl) (Or.inl (List.mem_singleton.mpr rfl)) (List.mem_singleton.mpr rfl) 32 rfl fun T g1 w W1 D1 => ?_
        refine ji w #[vR b, vI ((Int32.ofNat j) + 1), vR d, vI (Int32.ofNat j), vI N, vI (Int32.ofNat j), vI (cs.getD j 0)] (ob 3 rfl) (v := 1) rfl rfl rfl 35 rfl <| ji w #[vR b, vI ((Int32.ofNat j) + 1), vR d, vI ((Int32.ofNat j) + 1), vI N, vI (Int32.ofNat j), vI (cs.getD j 0)] (ob 4 rfl) (v := 1) rfl rfl rfl 38 rfl <| ji w #[vR b, vI ((Int32.ofNat j) + 1), vR d, vI ((Int32.ofNat j) + 1), vI N, vI ((Int32.ofNat j) + 1), vI (cs.getD j 0)] (ob 5 rfl) (v := 1) rfl rfl rfl 41 rfl <| jt w (ob 6 rfl) (by decide) 3 rfl ?_
        rw [ofNat_succ]
        exact ih (j + 1) _ _ _ (by omega) (Or.inr ⟨_, rfl⟩) w (K.other W1 hne) (by rw [← fill_step (f := fun c => Value.int (lo8 c)) cs j hjn]; exact D1) (fun c q => (take_mem hjn q).elim (hlt c) (fun z => by rw [z]; exact ct3))
    · exact absurd (by rw [hN]; exact (ofNat_cmp (by omega) (by omega)).mpr hjn) ct2
def dL6al : List (Nat × Instr × Nat) := [(0, .iload_n 2, 1), (1, .newarray .byte, 2), (3, .astore_n 3, 1), (4, .aload_n 0, 1), (5, .iload_n 1, 1), (6, .aload_n 3, 1), (7, .iconst 0, 1), (8, .iload_n 2, 1), (9, .invokestatic 115, 3), (12, .istore 4, 2), (14, .iload 4, 2), (16, .iload_n 2, 1), (17, .if_icmp .eq 40, 3), (20, .aload_n 0, 1), (21, .iload_n 1, 1), (22, .iload_n 2, 1)]
theorem dL6a : ∀ x ∈ dL6al, decode jdk_52_method_16_code x.1 = .ok x.2 := by decide +kernel
def dL6bl : List (Nat × Instr × Nat) := [(23, .invokestatic 119, 3), (26, .astore 5, 2), (28, .aload 5, 2), (30, .iload 4, 2), (32, .invokestatic 71, 3), (35, .sipush 255, 3), (38, .if_icmp .gt 16, 3), (54, .aload 5, 2), (56, .areturn, 1), (57, .aload_n 3, 1), (58, .areturn, 1)]
theorem dL6b : ∀ x ∈ dL6bl, decode jdk_52_method_16_code x.1 = .ok x.2 := by decide +kernel
theorem rm_cp3 (G : Gl Z a0 zc fm tba ktb fba kfb) (h : Heap) (b : Addr) (N : Int32) (kb : ClassId) (cs : List Int32) (hN : N = Int32.ofNat cs.length) (hB : cs.length ≤ 48) (hcs : ∀ c ∈ cs, Chr c) (K : Arv Z h b kb .char N (cs.map Value.int) (.int 0)) :
    Met l Z consts_1 mN6 jdk_52_method_16_code 6 (some (.array .byte)) (mkR 3 2 144 40) #[.ref b, .int 0, .int N] h [] [] (fun v h' => ∃ t kt cd N2 vs, v = some (.ref t) ∧ h.size ≤ t ∧ Arv Z h' t kt .byte N2 vs (.int 0) ∧ CodA cs cd N2 vs) := by
  have G0 := G
  obtain ⟨hw, hEL, -⟩ := G
  refine Met.of (plainFor_of_name pn_0) ?_
  intro p e s m below meth c T hnm hret hlk hby hml hs w; have oa := @dat _ _ dL6a _ hby; have ob := @dat _ _ dL6b _ hby
  refine Run.cast (efL (L := #[vR b, vI 0, vI N, .unset, .unset, .unset]) (by simp [argsToLocals, Value.category, vI, vR, vJ])) ?_
  have hl32 : cs.length ≤ 256 := by omega
  refine jn w (oa 0 rfl) rfl 1 rfl <| w_newP w (Kw hw 19 rfl) rfl rfl (oa 1 rfl) (by rw [hN]; exact ofNat_lt (by omega)) (n := cs.length) (by rw [hN]; exact Nat.le_of_eq (ofNat_nat (by omega))) (by omega) 3 rfl (by decide) (by first | omega | (dsimp only [mkR]; omega)) fun T h1 x2 k3 w E4 q5 r6 V7 => ?_
  have w := w.mono (slots' := 48) (Nat.le_refl _) (by first | omega | (dsimp only [mkR]; omega))
  refine s_astore_n w #[vR b, vI 0, vI N, vR x2, .unset, .unset] (oa 2 rfl) rfl rfl 4 rfl <| jm w (oa 3 rfl) rfl rfl 5 rfl <| jn w (oa 4 rfl) rfl 6 rfl <| jm w (oa 5 rfl) rfl rfl 7 rfl <| jc w 0 (oa 6 rfl) rfl 8 rfl <| jn w (oa 7 rfl) rfl 9 rfl ?_
  have hne : b ≠ x2 := fun z => by obtain ⟨cl, A, -⟩ := K; have := A.lt; rw [z] at this; exact absurd q5 (Nat.not_le.mpr this)
  refine w_static w hEL (y := mN5) (Kw hw 20 rfl) (Kw hw 21 rfl) (Kw hw 17 rfl) (Kw hw 22 rfl) (by decide) (rm_cp5 G0 h1 b x2 N kb k3 cs hN hl32 (K.ext E4) V7 hne) (allS (mi 0 rfl) all0) (allS (Or.inr r6) all0) (argsL := [.ref b, .int 0, .ref x2, .int 0, .int N]) (rest := []) (lenOf pD2 rfl) rfl rfl (oa 8 rfl) (by rw [hml]; rfl) (W := 0) (Nat.le_of_eq rfl) (by decide) (by decide) (by decide) (by decide) 12 rfl fun u8 T h9 w K10 P11 => ?_
  obtain ⟨r0, rfl, hr⟩ := P11
  have Kb1 := (K.ext E4).keep K10 (ninS hne nin0)
  have E12 := Ext.kp E4 K10 (allS q5 all0)
  show Run _ _ _ _ _ (mkF _ _ _ [.int (Int32.ofNat r0)])
  refine js w #[vR b, vI 0, vI N, vR x2, vI (Int32.ofNat r0), .unset] (oa 9 rfl) rfl 14 rfl <| jl w (oa 10 rfl) rfl 16 rfl <| jn w (oa 11 rfl) rfl 17 rfl <| s_icmp_eq w (oa 12 rfl) (by decide) 20 rfl 57 rfl (fun ct13 => ?_) (fun ct13 => ?_)
  · skip
    refine jm w (oa 13 rfl) rfl rfl 21 rfl <| jn w (oa 14 rfl) rfl 22 rfl <| jn w (oa 15 rfl) rfl 23 rfl <| wS w hEL (cB1 hw) (Kw hw 292 rfl) (rm_tob G0 h9 b N kb cs hN hB Kb1) all0 all0 [.ref b, .int 0, .int N] [] rfl rfl rfl (ob 0 rfl) hml rfl 0 rfl (by decide) 26 rfl fun u14 N18 T h15 w K16 P17 => ?_
    obtain ⟨t19, kt20, rfl, rfl, q21, A22⟩ := P17
    have E23 := Keep.ext0 K16
    show Run _ _ _ _ _ (mkF _ _ _ [.ref t19])
    refine s_astore w #[vR b, vI 0, vI N, vR x2, vI (Int32.ofNat r0), vR t19] (ob 1 rfl) rfl rfl 28 rfl <| ja w (ob 2 rfl) rfl rfl 30 rfl <| jl w (ob 3 rfl) rfl 32 rfl ?_
    have hr2 := hr.elim (fun z => absurd (by rw [hN, z.1]) ct13) id
    refine w_static w hEL (y := mN0) (Kw hw 308 rfl) (Kw hw 309 rfl) (Kw hw 17 rfl) (Kw hw 310 rfl) (by decide) (rm_gch G0 h15 t19 _ r0 rfl kt20 cs _ rfl A22 hr2.1 hl32 hcs) all0 all0 (argsL := [.ref t19, .int (Int32.ofNat r0)]) (rest := []) (lenOf pD3 rfl) rfl rfl (ob 4 rfl) (by rw [hml]; rfl) (W := 0) (Nat.le_of_eq rfl) (by decide) (by decide) (by decide) (by decide) 35 rfl fun u24 T h25 w K26 P27 => ?_
    obtain ⟨rfl, rfl⟩ := P27
    show Run _ _ _ _ _ (mkF _ _ _ [.int (cs.getD r0 0)])
    refine s_sipush w 255 (ob 5 rfl) rfl 38 rfl <| s_icmp_gt w (ob 6 rfl) (by decide) 41 rfl 54 rfl (fun ct28 => ?_) (fun ct28 => ?_)
    · exact absurd hr2.2 ct28
    · skip
      refine ja w (ob 7 rfl) rfl rfl 56 rfl ?_
      exact w_areturn w hEL hs hlk hret rfl rfl (ob 8 rfl) (by decide) (by decide) ⟨t19, kt20, 1, _, _, rfl, Nat.le_trans E12.1 q21, A22, Or.inr ⟨rfl, rfl, rfl, _, getD_memC hr2.1, hr2.2⟩⟩
  · skip
    refine jm w (ob 9 rfl) rfl rfl 58 rfl ?_
    have hr1 := hr.elim id (fun z => absurd (ofN_inj (by omega) (by omega) (ct13.trans hN)) (Nat.ne_of_lt z.1))
    exact w_areturn w hEL hs hlk hret rfl rfl (ob 10 rfl) (by decide) (by decide) ⟨x2, _, 0, _, _, rfl, q5, hr1.2.2, Or.inl ⟨rfl, hN, rfl, hr1.2.1⟩⟩
def dL7al : List (Nat × Instr × Nat) := [(0, .iload_n 1, 1), (1, .aload_n 0, 1), (2, .arraylength, 1), (3, .isub, 1), (4, .bipush 31, 2), (6, .iushr, 1), (7, .i2b, 1), (8, .ireturn, 1)]
theorem dL7a : ∀ x ∈ dL7al, decode jdk_52_method_15_code x.1 = .ok x.2 := by decide +kernel
theorem rm_cfl (G : Gl Z a0 zc fm tba ktb fba kfb) (h : Heap) (t : Addr) (N : Int32) (kt : ClassId) (cs : List Int32) (cd N2 : Int32) (vs : List Value) (A : Arv Z h t kt .byte N2 vs (.int 0)) (C : CodA cs cd N2 vs) (hN : N = Int32.ofNat cs.length) (h0 : 0 < cs.length) (hl : cs.length ≤ 256) :
    Met l Z consts_1 mN7 jdk_52_method_15_code 2 (some .byte) (mkR 0 0 0 0) #[.ref t, .int N] h [] [] (fun v h' => v = some (.int cd) ∧ h = h') := by
  obtain ⟨-, hEL, -⟩ := G
  refine Met.of (plainFor_of_name pn_0) ?_
  intro p e s m below meth c T hnm hret hlk hby hml hs w; have oa := @dat _ _ dL7a _ hby
  refine Run.cast (efL (L := #[vR t, vI N]) (by simp [argsToLocals, Value.category, vI, vR, vJ])) ?_
  refine jn w (oa 0 rfl) rfl 1 rfl <| jm w (oa 1 rfl) rfl rfl 2 rfl <| w_len w A (oa 2 rfl) 3 rfl <| s_isub w (oa 3 rfl) 4 rfl <| jb w 31 (oa 4 rfl) rfl 6 rfl <| s_iushr w (oa 5 rfl) 7 rfl ?_
  refine s_i2b w (oa 6 rfl) 8 rfl ?_
  rw [coda_coder C hN h0 hl]
  exact w_ireturn w hEL hs hlk hret (coda_bit C).1 (Or.inr (Or.inr (Or.inl rfl))) (oa 7 rfl) (by decide) (by decide) ⟨rfl, rfl⟩
theorem pn_1 : plainName "java/lang/String" = true := by first | (simp [plainName, overriddenIn]; done) | decide +kernel
def dL8al : List (Nat × Instr × Nat) := [(0, .aload_n 0, 1), (1, .invokespecial 1, 3), (4, .iload_n 3, 1), (5, .ifCond .ne 22, 3), (27, .getstatic 38, 3), (30, .ifCond .eq 28, 3), (33, .aload_n 1, 1), (34, .iload_n 2, 1), (35, .iload_n 3, 1), (36, .invokestatic 177, 3), (39, .astore 5, 2), (41, .aload_n 0, 1), (42, .aload 5, 2), (44, .iload_n 3, 1), (45, .invokestatic 47, 3), (48, .putfield 15, 3)]
theorem dL8a : ∀ x ∈ dL8al, decode jdk_42_method_149_code x.1 = .ok x.2 := by decide +kernel
def dL8bl : List (Nat × Instr × Nat) := [(51, .aload_n 0, 1), (52, .aload 5, 2), (54, .putfield 9, 3), (57, .return_, 1)]
theorem dL8b : ∀ x ∈ dL8bl, decode jdk_42_method_149_code x.1 = .ok x.2 := by decide +kernel
theorem rm_in4 (G : Gl Z a0 zc fm tba ktb fba kfb) (h : Heap) (x : Addr) (b : Addr) (N : Int32) (kb : ClassId) (cs : List Int32) (v0 v1 : Value) (hN : N = Int32.ofNat cs.length) (h0n : 0 < cs.length) (hB : cs.length ≤ 48) (hcs : ∀ c ∈ cs, Chr c) (K : Arv Z h b kb .char N (cs.map Value.int) (.int 0)) (E0 : Exa Z h x ST) (F_v : Fld Z h x ST "value" "[B" v0) (F_c : Fld Z h x ST "coder" "B" v1) :
    Met l Z consts_1 mN8 jdk_42_method_149_code 6 none (mkR 4 2 144 57) #[.ref x, .ref b, .int 0, .int N, .null] h [x] [x] (fun v h' => v = none ∧ Str Z h' x cs) := by
  have G0 := G
  obtain ⟨hw, hEL, SC, hz, -⟩ := G
  refine Met.of (plainFor_of_name pn_1) ?_
  intro p e s m below meth c T hnm hret hlk hby hml hs w; have oa := @dat _ _ dL8a _ hby; have ob := @dat _ _ dL8b _ hby
  refine Run.cast (efL (L := #[vR x, vR b, vI 0, vI N, .val (.null), .unset]) (by simp [argsToLocals, Value.category, vI, vR, vJ])) ?_
  refine jm w (oa 0 rfl) rfl rfl 1 rfl <| w_objInit w (Kw hw 11 rfl) (Kw hw 12 rfl) (Kw hw 13 rfl) (oa 1 rfl) (by rw [hml]; rfl) (by decide) (W := 0) (Nat.le_of_eq rfl) (by decide) 4 rfl fun T w => ?_
  refine jn w (oa 2 rfl) rfl 5 rfl <| s_if_ne w (oa 3 rfl) (by decide) 8 rfl 27 rfl (fun ct1 => ?_) (fun ct1 => ?_)
  · exact absurd (ofN_inj (k := 0) (by omega) (by omega) (hN.symm.trans ct1)) (by omega)
  · skip
    refine w_getS w (Kw hw 14 rfl) Via.refl (SC.ext w.old) (oa 4 rfl) 30 rfl fun T w => ?_
    refine s_if_eq w (oa 5 rfl) (by decide) 33 rfl 58 rfl (fun ct2 => ?_) (fun ct2 => ?_)
    · skip
      refine jm w (oa 6 rfl) rfl rfl 34 rfl <| jn w (oa 7 rfl) rfl 35 rfl <| jn w (oa 8 rfl) rfl 36 rfl <| w_static w hEL (y := mN6) (Kw hw 15 rfl) (Kw hw 16 rfl) (Kw hw 17 rfl) (Kw hw 18 rfl) (by decide) (rm_cp3 G0 h b N kb cs hN hB hcs K) all0 all0 (argsL := [.ref b, .int 0, .int N]) (rest := []) (lenOf pD4 rfl) rfl rfl (oa 9 rfl) (by rw [hml]; rfl) (W := 0) (Nat.le_of_eq rfl) (by decide) (by decide) (by decide) (by decide) 39 rfl fun u3 T h4 w K5 P6 => ?_
      obtain ⟨t, kt, cd, N2, vs, rfl, ht, At, Ct⟩ := P6
      have E7 := Keep.ext0 K5
      have E1 := E7
      show Run _ _ _ _ _ (mkF _ _ _ [.ref t])
      refine s_astore w #[vR x, vR b, vI 0, vI N, .val (.null), vR t] (oa 10 rfl) rfl rfl 41 rfl <| jm w (oa 11 rfl) rfl rfl 42 rfl <| ja w (oa 12 rfl) rfl rfl 44 rfl <| jn w (oa 13 rfl) rfl 45 rfl <| w_static w hEL (y := mN7) (Kw hw 23 rfl) (Kw hw 24 rfl) (Kw hw 17 rfl) (Kw hw 25 rfl) (by decide) (rm_cfl G0 h4 t N kt cs cd N2 vs At Ct hN h0n (by omega)) all0 all0 (argsL := [.ref t, .int N]) (rest := [.ref x]) (lenOf pD5 rfl) rfl rfl (oa 14 rfl) (by rw [hml]; rfl) (W := 1) (Nat.le_of_eq rfl) (by decide) (by decide) (by decide) (by decide) 48 rfl fun u8 T h9 w K10 P11 => ?_
      obtain ⟨rfl, rfl⟩ := P11
      show Run _ _ _ _ _ (mkF _ _ _ [.int cd, .ref x])
      have nxt : t ≠ x := fun z => by obtain ⟨cl, k0, A, -⟩ := E0; have := (Array.getElem?_eq_some_iff.mp A).1; rw [← z] at this; exact absurd ht (Nat.not_le.mpr this)
      have sn : Jvm.RoadKit.slotOf Z "java/lang/String" "value" "[B" ≠ Jvm.RoadKit.slotOf Z "java/lang/String" "coder" "B" := slot_ne (Or.inr (Kw hw 29 rfl)) (Or.inr (Kw hw 27 rfl)) (by decide) (t := .array .byte) (t' := .byte) (by decide) (by decide)
      refine w_putF w (Kw hw 26 rfl) Via.refl (F_c.ext E1) (E0.ext E1) (Or.inr ⟨(Kw hw 27 rfl), rfl, hnm⟩) (Kw hw 1 rfl) (ty := .byte) (by decide) (coda_bit Ct).1 (coda_bit Ct).2 (oa 15 rfl) (Or.inl (List.mem_singleton.mpr rfl)) (Or.inr (List.mem_singleton.mpr rfl)) 51 rfl fun T g1 w W1 F1 X1 => ?_
      refine jm w (ob 0 rfl) rfl rfl 52 rfl <| ja w (ob 1 rfl) rfl rfl 54 rfl <| w_putF w (Kw hw 28 rfl) Via.refl ((F_v.ext E1).other W1 (Or.inr sn)) X1 (Or.inr ⟨(Kw hw 29 rfl), rfl, hnm⟩) (Kw hw 1 rfl) (ty := (.array .byte)) (by decide) rfl rfl (ob 2 rfl) (Or.inl (List.mem_singleton.mpr rfl)) (Or.inr (List.mem_singleton.mpr rfl)) 57 rfl fun T g2 w W2 F2 X2 => ?_
      exact w_return w hEL hs hlk hret (ob 3 rfl) (by decide) (by decide) ⟨rfl, X2, t, kt, cd, N2, vs, F2, F1.other W2 (Or.inr sn.symm), (At.other W1 nxt).other W2 nxt, Ct, hcs, by omega⟩
    · exact absurd ct2 hz
def dL9al : List (Nat × Instr × Nat) := [(0, .aload_n 0, 1), (1, .aload_n 1, 1), (2, .iconst 0, 1), (3, .aload_n 1, 1), (4, .arraylength, 1), (5, .aconst_null, 1), (6, .invokespecial 27, 3), (9, .return_, 1)]
theorem dL9a : ∀ x ∈ dL9al, decode jdk_42_method_3_code x.1 = .ok x.2 := by decide +kernel
theorem rm_in1 (G : Gl Z a0 zc fm tba ktb fba kfb) (h : Heap) (x : Addr) (b : Addr) (N : Int32) (kb : ClassId) (cs : List Int32) (v0 v1 : Value) (hN : N = Int32.ofNat cs.length) (h0n : 0 < cs.length) (hB : cs.length ≤ 48) (hcs : ∀ c ∈ cs, Chr c) (K : Arv Z h b kb .char N (cs.map Value.int) (.int 0)) (E0 : Exa Z h x ST) (F_v : Fld Z h x ST "value" "[B" v0) (F_c : Fld Z h x ST "coder" "B" v1) :
    Met l Z consts_1 mN9 jdk_42_method_3_code 2 none (mkR 5 2 144 74) #[.ref x, .ref b] h [x] [x] (fun v h' => v = none ∧ Str Z h' x cs) := by
  have G0 := G
  obtain ⟨hw, hEL, -⟩ := G
  refine Met.of (plainFor_of_name pn_1) ?_
  intro p e s m below meth c T hnm hret hlk hby hml hs w; have oa := @dat _ _ dL9a _ hby
  refine Run.cast (efL (L := #[vR x, vR b]) (by simp [argsToLocals, Value.category, vI, vR, vJ])) ?_
  refine jm w (oa 0 rfl) rfl rfl 1 rfl <| jm w (oa 1 rfl) rfl rfl 2 rfl <| jc w 0 (oa 2 rfl) rfl 3 rfl <| jm w (oa 3 rfl) rfl rfl 4 rfl <| w_len w K (oa 4 rfl) 5 rfl <| s_anull w (oa 5 rfl) 6 rfl ?_
  refine w_special w hEL (y := mN8) (a := x) rfl (Kw hw 7 rfl) (Kw hw 8 rfl) (Kw hw 2 rfl) (Kw hw 10 rfl) (by decide) (rm_in4 G0 h x b N kb cs v0 v1 hN h0n hB hcs K E0 F_v F_c) (allS (mi 0 rfl) all0) (allP (Or.inl (List.mem_singleton.mpr rfl))) (argsL := [.ref b, .int 0, .int N, .null]) (rest := []) (lenOf pD6 rfl) rfl rfl (oa 6 rfl) (by rw [hml]; rfl) (W := 0) (Nat.le_of_eq rfl) (by decide) (by decide) (by decide) (by decide) 9 rfl fun u1 T h2 w K3 P4 => ?_
  obtain ⟨rfl, P9⟩ := P4
  show Run _ _ _ _ _ (mkF _ _ _ [])
  exact w_return w hEL hs hlk hret (oa 7 rfl) (by decide) (by decide) ⟨rfl, P9⟩
open StrChars StrChars.Road

theorem subL : ∀ d ∈ StrChars.Road.wordsLen, d ∈ tables_1 := by decide +kernel
abbrev SBC : String := "java/lang/StringBuilder"
abbrev ASB : String := "java/lang/AbstractStringBuilder"
def low (cs : List Int32) : List Value := cs.map fun c => Value.int (lo8 c)
def room_ (cs : List Int32) (cap : Nat) : List Value := low cs ++ List.replicate (cap - cs.length) (.int 0)
theorem low_len (cs : List Int32) : (low cs).length = cs.length := by simp [low]
theorem room_len {cs : List Int32} {cap : Nat} (h : cs.length ≤ cap) : (room_ cs cap).length = cap := by simp [room_, low]; omega
theorem range_low (ds : List Int32) : low ds = (List.range ds.length).map fun i => (low ds).getD (0 + i) (.int 0) := by
  refine List.ext_getElem (by simp [low]) fun i h1 h2 => ?_
  simp [low] at h1 ⊢
  simp [List.getD, h1]
theorem range_take {vs : List Value} {n : Nat} {d : Value} (h : n ≤ vs.length) : vs.take n = (List.range n).map fun i => vs.getD (0 + i) d := by
  refine List.ext_getElem (by simp; omega) fun i h1 h2 => ?_
  have hi : i < n := by simpa using h2
  simp [List.getD, show i < vs.length by omega]
theorem room_put {cs ds : List Int32} {cap : Nat} (h : cs.length + ds.length ≤ cap) : (room_ cs cap).take cs.length ++ low ds ++ (room_ cs cap).drop (cs.length + ds.length) = room_ (cs ++ ds) cap := by
  have e1 : (room_ cs cap).take cs.length = low cs := by rw [room_, ← low_len cs, List.take_left']; rfl
  have e2 : (room_ cs cap).drop (cs.length + ds.length) = List.replicate (cap - (cs ++ ds).length) (.int 0) := by
    rw [room_, List.drop_append, low_len, List.drop_replicate]
    have : (low cs).drop (cs.length + ds.length) = [] := List.drop_eq_nil_of_le (by rw [low_len]; omega)
    rw [this, List.nil_append, List.length_append]
    congr 1; omega
  rw [e1, e2, room_]; simp [low]
theorem room_take {cs : List Int32} {cap : Nat} : (room_ cs cap).take cs.length = low cs := by rw [room_, ← low_len cs, List.take_left']; rfl
theorem room_nil (cap : Nat) : room_ [] cap = List.replicate cap (.int 0) := by simp [room_, low]
theorem shl0 (x : Int32) : x <<< ((0 : Int32) &&& 31) = x := by
  rw [show ((0 : Int32) &&& 31) = 0 from by decide]
  simp
theorem shr0' (x : Int32) : x >>> ((0 : Int32) &&& 31) = x := by
  rw [show ((0 : Int32) &&& 31) = 0 from by decide]
  simp
theorem sub_le {n m : Nat} (h : n ≤ m) (h' : m ≤ 4000) : ¬ (0 : Int32) < Int32.ofNat n - Int32.ofNat m := by
  rw [Int32.lt_iff_toInt_lt, i32_0]
  have q := c_isub (Int32.ofNat n) (Int32.ofNat m)
  have r := rng32 (Int32.ofNat n - Int32.ofNat m)
  rw [Int32.toInt_ofNat_of_lt (by omega), Int32.toInt_ofNat_of_lt (by omega)] at q
  omega
theorem ofN_inj' {n k : Nat} (h : n ≤ 4000) (h' : k ≤ 4000) (q : Int32.ofNat n = Int32.ofNat k) : n = k := by
  have e := congrArg Int32.toNatClampNeg q
  rwa [ofNat_nat h, ofNat_nat h'] at e
def Sb (Z : State) (h : Heap) (b t : Addr) (kt : ClassId) (cap : Nat) (cs : List Int32) : Prop := Exa Z h b SBC ∧ Fld Z h b ASB "value" "[B" (.ref t) ∧ Fld Z h b ASB "coder" "B" (.int 0) ∧ Fld Z h b ASB "count" "I" (.int (Int32.ofNat cs.length)) ∧ Arv Z h t kt .byte (Int32.ofNat cap) (room_ cs cap) (.int 0) ∧ cs.length ≤ cap ∧ cap ≤ 2000
theorem Sb.ext {Z : State} {h h' : Heap} {b t : Addr} {kt : ClassId} {cap : Nat} {cs : List Int32} (F : Sb Z h b t kt cap cs) (E : Ext h h') : Sb Z h' b t kt cap cs := by
  obtain ⟨a1, a2, a3, a4, a5, a6⟩ := F
  exact ⟨a1.ext E, a2.ext E, a3.ext E, a4.ext E, a5.ext E, a6⟩
def SL (Z : State) (h : Heap) (x t : Addr) (kt : ClassId) (ds : List Int32) : Prop := Exa Z h x ST ∧ Fld Z h x ST "value" "[B" (.ref t) ∧ Fld Z h x ST "coder" "B" (.int 0) ∧ Arv Z h t kt .byte (Int32.ofNat ds.length) (low ds) (.int 0) ∧ (∀ c ∈ ds, Lat c) ∧ ds.length ≤ 2000
theorem SL.ext {Z : State} {h h' : Heap} {x t : Addr} {kt : ClassId} {cs : List Int32} (F : SL Z h x t kt cs) (E : Ext h h') : SL Z h' x t kt cs := by
  obtain ⟨a1, a2, a3, a5, a6⟩ := F
  exact ⟨a1.ext E, a2.ext E, a3.ext E, a5.ext E, a6⟩
theorem lat_chr {c : Int32} (h : Lat c) : ¬ c < 0 ∧ ¬ (65535 : Int32) < c := ⟨h.1, fun z => h.2 (by
  rw [Int32.lt_iff_toInt_lt] at z ⊢
  have e1 : (65535 : Int32).toInt = 65535 := by decide
  rw [i32_255]; omega)⟩
theorem SL.str {Z : State} {h : Heap} {x t : Addr} {kt : ClassId} {cs : List Int32} (F : SL Z h x t kt cs) : Str Z h x cs := by
  obtain ⟨a1, a2, a3, a4, a5, a6⟩ := F
  exact ⟨a1, t, kt, 0, _, _, a2, a3, a4, Or.inl ⟨rfl, rfl, rfl, fun c q => (a5 c q).2⟩, fun c q => lat_chr (a5 c q), by omega⟩
def wroom (cs : List Int32) (cap : Nat) : List Value := wideBytes cs ++ List.replicate (2 * (cap - cs.length)) (.int 0)
theorem wroom_len {cs : List Int32} {cap : Nat} (h : cs.length ≤ cap) : (wroom cs cap).length = 2 * cap := by simp [wroom, wide_len]; omega
theorem wide_app : ∀ a b : List Int32, wideBytes (a ++ b) = wideBytes a ++ wideBytes b
  | [], b => rfl
  | c :: a, b => by simp [wideBytes, wide_app a b]
theorem wroom_take {cs : List Int32} {cap : Nat} : (wroom cs cap).take (2 * cs.length) = wideBytes cs := by rw [wroom, ← wide_len cs, List.take_left']; rfl
theorem wroom_drop {cs : List Int32} {cap k : Nat} (h : cs.length + k ≤ cap) : (wroom cs cap).drop (2 * cs.length + 2 * k) = List.replicate (2 * (cap - (cs.length + k))) (.int 0) := by
  rw [wroom, List.drop_append, wide_len, List.drop_replicate]
  have : (wideBytes cs).drop (2 * cs.length + 2 * k) = [] := List.drop_eq_nil_of_le (by rw [wide_len]; omega)
  rw [this, List.nil_append]
  congr 1; omega
theorem wroom_put {cs ds : List Int32} {cap : Nat} (h : cs.length + ds.length ≤ cap) : (wroom cs cap).take (2 * cs.length) ++ wideBytes ds ++ (wroom cs cap).drop (2 * cs.length + 2 * ds.length) = wroom (cs ++ ds) cap := by
  rw [wroom_take, wroom_drop h, wroom, wide_app, List.length_append]
theorem set2 (P : List Value) (x y a b : Value) (R : List Value) : ((P ++ x :: y :: R).set P.length a).set (P.length + 1) b = P ++ a :: b :: R := by
  induction P with
  | nil => rfl
  | cons p P ih => simp
theorem drop2 {vd : List Value} {k : Nat} (h : k + 2 ≤ vd.length) : ∃ x y, vd.drop k = x :: y :: vd.drop (k + 2) := by
  rw [List.drop_eq_getElem_cons (by omega), List.drop_eq_getElem_cons (i := k + 1) (by omega)]
  exact ⟨_, _, rfl⟩
theorem take_one {ds : List Int32} {j : Nat} (h : j < ds.length) : ds.take (j + 1) = ds.take j ++ [ds.getD j 0] := by
  rw [List.take_add_one]; simp [List.getD, h]
theorem inf_step {vd : List Value} {ds : List Int32} {o j cap : Nat} (hv : vd.length = 2 * cap) (hj : j < ds.length) (hf : o + ds.length ≤ cap) :
    ((vd.take (2 * o) ++ wideBytes (ds.take j) ++ vd.drop (2 * (o + j))).set (2 * (o + j)) (.int (lo8 (ds.getD j 0)))).set (2 * (o + j) + 1) (.int (hi8 (ds.getD j 0))) = vd.take (2 * o) ++ wideBytes (ds.take (j + 1)) ++ vd.drop (2 * (o + (j + 1))) := by
  obtain ⟨x, y, e⟩ := drop2 (vd := vd) (k := 2 * (o + j)) (by omega)
  have hl : (vd.take (2 * o) ++ wideBytes (ds.take j)).length = 2 * (o + j) := by simp [wide_len]; omega
  have q := set2 (vd.take (2 * o) ++ wideBytes (ds.take j)) x y (.int (lo8 (ds.getD j 0))) (.int (hi8 (ds.getD j 0))) (vd.drop (2 * (o + j) + 2))
  rw [hl] at q
  rw [e, q, take_one hj, wide_app, show 2 * (o + (j + 1)) = 2 * (o + j) + 2 from by omega]
  simp [wideBytes]
theorem wrange (ds : List Int32) : wideBytes ds = (List.range (2 * ds.length)).map fun i => (wideBytes ds).getD (0 + i) (.int 0) := by
  rw [← wide_len ds]
  refine List.ext_getElem (by simp) fun i h1 h2 => ?_
  simp [List.getD, h1]
theorem room_get {cs : List Int32} {cap j : Nat} (h : j < cs.length) : (room_ cs cap).getD j (.int 0) = .int (lo8 (cs.getD j 0)) := by
  simp [room_, low, List.getD, List.getElem?_append, h]
theorem low_get {cs : List Int32} {j : Nat} (h : j < cs.length) : (low cs).getD j (.int 0) = .int (lo8 (cs.getD j 0)) := by
  simp [low, List.getD, h]
theorem ofN_shr {n : Nat} (h : n ≤ 256) : (Int32.ofNat (2 * n)) >>> ((1 : Int32) &&& 31) = Int32.ofNat n := by
  have q := c_ishr (Int32.ofNat (2 * n)) 1 1 (by decide)
  rw [Int32.toInt_ofNat_of_lt (by omega)] at q
  rw [← Int32.toInt_inj, Int32.toInt_ofNat_of_lt (by omega), q]
  omega
theorem or3nn {a b c : Nat} (h1 : a ≤ 4000) (h2 : b ≤ 4000) (h3 : c ≤ 4000) : ¬ ((Int32.ofNat a ||| Int32.ofNat b) ||| Int32.ofNat c) < 0 := by
  have f : ∀ n : Nat, n ≤ 4000 → 0 ≤ (Int32.ofNat n).toInt := fun n h => by rw [Int32.toInt_ofNat_of_lt (by omega)]; omega
  rw [Int32.lt_iff_toInt_lt, i32_0]
  have q := (c_orS (Int32.ofNat a) (Int32.ofNat b)).1 (f a h1) (f b h2)
  have r := (c_orS (Int32.ofNat a ||| Int32.ofNat b) (Int32.ofNat c)).1 q (f c h3)
  omega
theorem sub_fit {n o cap : Nat} (h : o + n ≤ cap) (h' : cap ≤ 4000) : ¬ (Int32.ofNat cap - Int32.ofNat o) < Int32.ofNat n := by
  rw [Int32.lt_iff_toInt_lt]
  have q := c_isub (Int32.ofNat cap) (Int32.ofNat o)
  have r := rng32 (Int32.ofNat cap - Int32.ofNat o)
  rw [Int32.toInt_ofNat_of_lt (by omega), Int32.toInt_ofNat_of_lt (by omega)] at q
  rw [Int32.toInt_ofNat_of_lt (by omega)]
  omega
def Sb0 (Z : State) (h : Heap) (b t : Addr) (kt : ClassId) (cap : Nat) (cs : List Int32) : Prop := Exa Z h b SBC ∧ Fld Z h b ASB "value" "[B" (.ref t) ∧ Fld Z h b ASB "coder" "B" (.int 0) ∧ Fld Z h b ASB "count" "I" (.int (Int32.ofNat cs.length)) ∧ Fld Z h b ASB "maybeLatin1" "Z" (.int 0) ∧ Arv Z h t kt .byte (Int32.ofNat cap) (room_ cs cap) (.int 0) ∧ (∀ c ∈ cs, Lat c) ∧ (cs.length ≤ cap ∧ cap ≤ 220)
def Sb1 (Z : State) (h : Heap) (b t : Addr) (kt : ClassId) (cap : Nat) (cs : List Int32) : Prop := Exa Z h b SBC ∧ Fld Z h b ASB "value" "[B" (.ref t) ∧ Fld Z h b ASB "coder" "B" (.int 1) ∧ Fld Z h b ASB "count" "I" (.int (Int32.ofNat cs.length)) ∧ Fld Z h b ASB "maybeLatin1" "Z" (.int 0) ∧ Arv Z h t kt .byte (Int32.ofNat (2 * cap)) (wroom cs cap) (.int 0) ∧ ((∀ c ∈ cs, Chr c) ∧ ∃ c ∈ cs, (255 : Int32) < c) ∧ (cs.length ≤ cap ∧ cap ≤ 220)
def Sbp (Z : State) (h : Heap) (b t : Addr) (kt : ClassId) (cap : Nat) (cs : List Int32) : Prop := Exa Z h b SBC ∧ Fld Z h b ASB "value" "[B" (.ref t) ∧ Fld Z h b ASB "coder" "B" (.int 1) ∧ Fld Z h b ASB "count" "I" (.int (Int32.ofNat cs.length)) ∧ Fld Z h b ASB "maybeLatin1" "Z" (.int 0) ∧ Arv Z h t kt .byte (Int32.ofNat (2 * cap)) (wroom cs cap) (.int 0) ∧ (∀ c ∈ cs, Chr c) ∧ (cs.length ≤ cap ∧ cap ≤ 220)
theorem Sb0.ext {Z : State} {h h' : Heap} {b t : Addr} {kt : ClassId} {cap : Nat} {cs : List Int32} (F : Sb0 Z h b t kt cap cs) (E : Ext h h') : Sb0 Z h' b t kt cap cs := by
  obtain ⟨a1, a2, a3, a4, a5, a6, a7⟩ := F
  exact ⟨a1.ext E, a2.ext E, a3.ext E, a4.ext E, a5.ext E, a6.ext E, a7⟩
theorem Sb1.ext {Z : State} {h h' : Heap} {b t : Addr} {kt : ClassId} {cap : Nat} {cs : List Int32} (F : Sb1 Z h b t kt cap cs) (E : Ext h h') : Sb1 Z h' b t kt cap cs := by
  obtain ⟨a1, a2, a3, a4, a5, a6, a7⟩ := F
  exact ⟨a1.ext E, a2.ext E, a3.ext E, a4.ext E, a5.ext E, a6.ext E, a7⟩
def S0 (Z : State) (h : Heap) (x t : Addr) (kt : ClassId) (ds : List Int32) : Prop := Exa Z h x ST ∧ Fld Z h x ST "value" "[B" (.ref t) ∧ Fld Z h x ST "coder" "B" (.int 0) ∧ Arv Z h t kt .byte (Int32.ofNat ds.length) (low ds) (.int 0) ∧ (∀ c ∈ ds, Lat c) ∧ ds.length ≤ 110
def S1 (Z : State) (h : Heap) (x t : Addr) (kt : ClassId) (ds : List Int32) : Prop := Exa Z h x ST ∧ Fld Z h x ST "value" "[B" (.ref t) ∧ Fld Z h x ST "coder" "B" (.int 1) ∧ Arv Z h t kt .byte (Int32.ofNat (2 * ds.length)) (wideBytes ds) (.int 0) ∧ ((∀ c ∈ ds, Chr c) ∧ ∃ c ∈ ds, (255 : Int32) < c) ∧ ds.length ≤ 110
theorem Str.two {Z : State} {h : Heap} {x : Addr} {cs : List Int32} (F : Str Z h x cs) (hl : cs.length ≤ 110) : (∃ t kt, S0 Z h x t kt cs) ∨ ∃ t kt, S1 Z h x t kt cs := by
  obtain ⟨a, t, kb, cd, N2, vs, q1, q2, q3, q4, q5, q6⟩ := F
  rcases q4 with ⟨rfl, rfl, rfl, z⟩ | ⟨rfl, rfl, rfl, z⟩
  · exact Or.inl ⟨t, kb, a, q1, q2, q3, fun c q => ⟨(q5 c q).1, z c q⟩, hl⟩
  · exact Or.inr ⟨t, kb, a, q1, q2, q3, ⟨q5, z⟩, hl⟩
theorem S0.str {Z : State} {h : Heap} {x t : Addr} {kt : ClassId} {cs : List Int32} (F : S0 Z h x t kt cs) : Str Z h x cs := by
  obtain ⟨a1, a2, a3, a4, a5, a6⟩ := F
  exact ⟨a1, t, kt, 0, _, _, a2, a3, a4, Or.inl ⟨rfl, rfl, rfl, fun c q => (a5 c q).2⟩, fun c q => lat_chr (a5 c q), by omega⟩
theorem S1.str {Z : State} {h : Heap} {x t : Addr} {kt : ClassId} {cs : List Int32} (F : S1 Z h x t kt cs) : Str Z h x cs := by
  obtain ⟨a1, a2, a3, a4, a5, a6⟩ := F
  exact ⟨a1, t, kt, 1, _, _, a2, a3, a4, Or.inr ⟨rfl, rfl, rfl, a5.2⟩, a5.1, by omega⟩
theorem S0.ext {Z : State} {h h' : Heap} {x t : Addr} {kt : ClassId} {cs : List Int32} (F : S0 Z h x t kt cs) (E : Ext h h') : S0 Z h' x t kt cs := by
  obtain ⟨a1, a2, a3, a5, a6⟩ := F
  exact ⟨a1.ext E, a2.ext E, a3.ext E, a5.ext E, a6⟩
theorem S1.ext {Z : State} {h h' : Heap} {x t : Addr} {kt : ClassId} {cs : List Int32} (F : S1 Z h x t kt cs) (E : Ext h h') : S1 Z h' x t kt cs := by
  obtain ⟨a1, a2, a3, a5, a6⟩ := F
  exact ⟨a1.ext E, a2.ext E, a3.ext E, a5.ext E, a6⟩

def dL10al : List (Nat × Instr × Nat) := [(0, .getstatic 38, 3), (3, .ifCond .eq 10, 3), (6, .aload_n 0, 1), (7, .getfield 15, 3), (10, .goto 4, 3), (13, .iconst 1, 1), (14, .ireturn, 1)]
theorem dL10a : ∀ x ∈ dL10al, decode jdk_42_method_152_code x.1 = .ok x.2 := by decide +kernel
theorem rm_cdr0 (G : Gl Z a0 zc fm tba ktb fba kfb) (h : Heap) (x : Addr) (C : Fld Z h x ST "coder" "B" (.int 0)) :
    Met l Z consts_1 mN10 jdk_42_method_152_code 1 (some .byte) (mkR 0 0 0 0) #[.ref x] h [] [] (fun v h' => v = some (.int 0) ∧ h = h') := by
  obtain ⟨hw, hEL, SC, hz, -⟩ := G
  refine Met.of (plainFor_of_name pn_1) ?_
  intro p e s m below meth c T hnm hret hlk hby hml hs w; have oa := @dat _ _ dL10a _ hby
  refine Run.cast (efL (L := #[vR x]) (by simp [argsToLocals, Value.category, vI, vR, vJ])) ?_
  refine w_getS w (Kw hw 14 rfl) Via.refl (SC.ext w.old) (oa 0 rfl) 3 rfl fun T w => ?_
  refine s_if_eq w (oa 1 rfl) (by decide) 6 rfl 13 rfl (fun ct1 => ?_) (fun ct1 => ?_)
  · -- ¬ (zc = 0)
    refine jm w (oa 2 rfl) rfl rfl 7 rfl <| jF w (Kw hw 26 rfl) Via.refl C (oa 3 rfl) 10 rfl fun T w => ?_
    refine jt w (oa 4 rfl) (by decide) 14 rfl ?_
    exact w_ireturn w hEL hs hlk hret rfl (Or.inr (Or.inr (Or.inl rfl))) (oa 6 rfl) (by decide) (by decide) ⟨rfl, rfl⟩
  · -- zc = 0
    refine jc w 1 (oa 5 rfl) rfl 14 rfl ?_
    exact absurd ct1 hz
theorem rm_cdr1 (G : Gl Z a0 zc fm tba ktb fba kfb) (h : Heap) (x : Addr) (C : Fld Z h x ST "coder" "B" (.int 1)) :
    Met l Z consts_1 mN10 jdk_42_method_152_code 1 (some .byte) (mkR 0 0 0 0) #[.ref x] h [] [] (fun v h' => v = some (.int 1) ∧ h = h') := by
  obtain ⟨hw, hEL, SC, hz, -⟩ := G
  refine Met.of (plainFor_of_name pn_1) ?_
  intro p e s m below meth c T hnm hret hlk hby hml hs w; have oa := @dat _ _ dL10a _ hby
  refine Run.cast (efL (L := #[vR x]) (by simp [argsToLocals, Value.category, vI, vR, vJ])) ?_
  refine w_getS w (Kw hw 14 rfl) Via.refl (SC.ext w.old) (oa 0 rfl) 3 rfl fun T w => ?_
  refine s_if_eq w (oa 1 rfl) (by decide) 6 rfl 13 rfl (fun ct1 => ?_) (fun ct1 => ?_)
  · -- ¬ (zc = 0)
    refine jm w (oa 2 rfl) rfl rfl 7 rfl <| jF w (Kw hw 26 rfl) Via.refl C (oa 3 rfl) 10 rfl fun T w => ?_
    refine jt w (oa 4 rfl) (by decide) 14 rfl ?_
    exact w_ireturn w hEL hs hlk hret rfl (Or.inr (Or.inr (Or.inl rfl))) (oa 6 rfl) (by decide) (by decide) ⟨rfl, rfl⟩
  · -- zc = 0
    refine jc w 1 (oa 5 rfl) rfl 14 rfl ?_
    exact absurd ct1 hz
def dL11al : List (Nat × Instr × Nat) := [(0, .aload_n 0, 1), (1, .arraylength, 1), (2, .iconst 1, 1), (3, .ishr, 1), (4, .ireturn, 1)]
theorem dL11a : ∀ x ∈ dL11al, decode jdk_52_method_6_code x.1 = .ok x.2 := by decide +kernel
theorem rm_ul (G : Gl Z a0 zc fm tba ktb fba kfb) (h : Heap) (t : Addr) (n : Nat) (kt : ClassId) (vs : List Value) (A : Arv Z h t kt .byte (Int32.ofNat (2 * n)) vs (.int 0)) (hn : n ≤ 256) :
    Met l Z consts_1 mN11 jdk_52_method_6_code 1 (some .int) (mkR 0 0 0 0) #[.ref t] h [] [] (fun v h' => v = some (.int (Int32.ofNat n)) ∧ h = h') := by
  obtain ⟨-, hEL, -⟩ := G
  refine Met.of (plainFor_of_name pn_0) ?_
  intro p e s m below meth c T hnm hret hlk hby hml hs w; have oa := @dat _ _ dL11a _ hby
  refine Run.cast (efL (L := #[vR t]) (by simp [argsToLocals, Value.category, vI, vR, vJ])) ?_
  refine jm w (oa 0 rfl) rfl rfl 1 rfl <| w_len w A (oa 1 rfl) 2 rfl <| jc w 1 (oa 2 rfl) rfl 3 rfl <| s_ishr w (oa 3 rfl) 4 rfl ?_
  rw [ofN_shr hn]
  exact w_ireturn w hEL hs hlk hret rfl (Or.inl rfl) (oa 4 rfl) (by decide) (by decide) ⟨rfl, rfl⟩
theorem pn_2 : plainName "jdk/internal/util/Preconditions" = true := by first | (simp [plainName, overriddenIn]; done) | decide +kernel
def dL12al : List (Nat × Instr × Nat) := [(0, .iload_n 2, 1), (1, .iload_n 0, 1), (2, .ior, 1), (3, .iload_n 1, 1), (4, .ior, 1), (5, .ifCond .lt 10, 3), (8, .iload_n 1, 1), (9, .iload_n 2, 1), (10, .iload_n 0, 1), (11, .isub, 1), (12, .if_icmp .le 11, 3), (23, .iload_n 0, 1), (24, .ireturn, 1)]
theorem dL12a : ∀ x ∈ dL12al, decode jdk_41_method_13_code x.1 = .ok x.2 := by decide +kernel
theorem rm_cfs0 (G : Gl Z a0 zc fm tba ktb fba kfb) (h : Heap) (O : Int32) (N : Int32) (L : Int32) (o n l0 : Nat) (hO : O = Int32.ofNat o) (hN : N = Int32.ofNat n) (hL : L = Int32.ofNat l0) (hf : o + n ≤ l0) (hl : l0 ≤ 2000) :
    Met l Z consts_1 mN12 jdk_41_method_13_code 4 (some .int) (mkR 0 0 0 0) #[.int O, .int N, .int L, .null] h [] [] (fun v h' => v = some (.int O) ∧ h = h') := by
  obtain ⟨-, hEL, -⟩ := G
  refine Met.of (plainFor_of_name pn_2) ?_
  intro p e s m below meth c T hnm hret hlk hby hml hs w; have oa := @dat _ _ dL12a _ hby
  refine Run.cast (efL (L := #[vI O, vI N, vI L, .val (.null)]) (by simp [argsToLocals, Value.category, vI, vR, vJ])) ?_
  refine jn w (oa 0 rfl) rfl 1 rfl <| jn w (oa 1 rfl) rfl 2 rfl <| s_ior w (oa 2 rfl) 3 rfl <| jn w (oa 3 rfl) rfl 4 rfl <| s_ior w (oa 4 rfl) 5 rfl <| s_if_lt w (oa 5 rfl) (by decide) 8 rfl 15 rfl (fun ct1 => ?_) (fun ct1 => ?_)
  · skip
    refine jn w (oa 6 rfl) rfl 9 rfl <| jn w (oa 7 rfl) rfl 10 rfl <| jn w (oa 8 rfl) rfl 11 rfl <| s_isub w (oa 9 rfl) 12 rfl <| je w (oa 10 rfl) (by decide) 15 rfl 23 rfl (fun ct2 => ?_) (fun ct2 => ?_)
    · exact absurd ct2 (by rw [hO, hN, hL]; exact sub_fit hf (by omega))
    · skip
      refine jn w (oa 11 rfl) rfl 24 rfl ?_
      exact w_ireturn w hEL hs hlk hret rfl (Or.inl rfl) (oa 12 rfl) (by decide) (by decide) ⟨rfl, rfl⟩
  · exact absurd ct1 (by rw [hO, hN, hL]; exact or3nn (by omega) (by omega) (by omega))
theorem rm_cfs1 (G : Gl Z a0 zc fm tba ktb fba kfb) (h : Heap) (O : Int32) (N : Int32) (L : Int32) (ra : Addr) (o n l0 : Nat) (hO : O = Int32.ofNat o) (hN : N = Int32.ofNat n) (hL : L = Int32.ofNat l0) (hf : o + n ≤ l0) (hl : l0 ≤ 2000) :
    Met l Z consts_1 mN12 jdk_41_method_13_code 4 (some .int) (mkR 0 0 0 0) #[.int O, .int N, .int L, .ref ra] h [] [] (fun v h' => v = some (.int O) ∧ h = h') := by
  obtain ⟨-, hEL, -⟩ := G
  refine Met.of (plainFor_of_name pn_2) ?_
  intro p e s m below meth c T hnm hret hlk hby hml hs w; have oa := @dat _ _ dL12a _ hby
  refine Run.cast (efL (L := #[vI O, vI N, vI L, vR ra]) (by simp [argsToLocals, Value.category, vI, vR, vJ])) ?_
  refine jn w (oa 0 rfl) rfl 1 rfl <| jn w (oa 1 rfl) rfl 2 rfl <| s_ior w (oa 2 rfl) 3 rfl <| jn w (oa 3 rfl) rfl 4 rfl <| s_ior w (oa 4 rfl) 5 rfl <| s_if_lt w (oa 5 rfl) (by decide) 8 rfl 15 rfl (fun ct1 => ?_) (fun ct1 => ?_)
  · skip
    refine jn w (oa 6 rfl) rfl 9 rfl <| jn w (oa 7 rfl) rfl 10 rfl <| jn w (oa 8 rfl) rfl 11 rfl <| s_isub w (oa 9 rfl) 12 rfl <| je w (oa 10 rfl) (by decide) 15 rfl 23 rfl (fun ct2 => ?_) (fun ct2 => ?_)
    · exact absurd ct2 (by rw [hO, hN, hL]; exact sub_fit hf (by omega))
    · skip
      refine jn w (oa 11 rfl) rfl 24 rfl ?_
      exact w_ireturn w hEL hs hlk hret rfl (Or.inl rfl) (oa 12 rfl) (by decide) (by decide) ⟨rfl, rfl⟩
  · exact absurd ct1 (by rw [hO, hN, hL]; exact or3nn (by omega) (by omega) (by omega))
def dL13al : List (Nat × Instr × Nat) := [(0, .iload_n 0, 1), (1, .iload_n 1, 1), (2, .iload_n 2, 1), (3, .getstatic 1053, 3), (6, .invokestatic 1065, 3), (9, .ireturn, 1)]
theorem dL13a : ∀ x ∈ dL13al, decode jdk_42_method_157_code x.1 = .ok x.2 := by decide +kernel
theorem rm_sbc (G : Gl Z a0 zc fm tba ktb fba kfb) (h : Heap) (O : Int32) (N : Int32) (L : Int32) (o n l0 : Nat) (hO : O = Int32.ofNat o) (hN : N = Int32.ofNat n) (hL : L = Int32.ofNat l0) (hf : o + n ≤ l0) (hl : l0 ≤ 2000) :
    Met l Z consts_1 mN13 jdk_42_method_157_code 3 (some .int) (mkR 1 0 0 15) #[.int O, .int N, .int L] h [] [] (fun v h' => v = some (.int O) ∧ h = h') := by
  have G0 := G
  obtain ⟨hw, hEL, -, -, SF, hfm, -⟩ := G
  refine Met.of (plainFor_of_name pn_1) ?_
  intro p e s m below meth c T hnm hret hlk hby hml hs w; have oa := @dat _ _ dL13a _ hby
  refine Run.cast (efL (L := #[vI O, vI N, vI L]) (by simp [argsToLocals, Value.category, vI, vR, vJ])) ?_
  rcases ref_cases hfm with rfl | ⟨ra, rfl⟩
  · skip
    refine jn w (oa 0 rfl) rfl 1 rfl <| jn w (oa 1 rfl) rfl 2 rfl <| jn w (oa 2 rfl) rfl 3 rfl <| w_getS w (Kw hw 98 rfl) Via.refl (SF.ext w.old) (oa 3 rfl) 6 rfl fun T w => ?_
    refine wS w hEL (cB2 hw) (Kw hw 100 rfl) (rm_cfs0 G0 h O N L o n l0 hO hN hL hf hl) all0 all0 [.int O, .int N, .int L, .null] [] rfl rfl rfl (oa 4 rfl) hml rfl 0 rfl (by decide) 9 rfl fun u1 N2 T h3 w K4 P5 => ?_
    obtain ⟨rfl, rfl, rfl⟩ := P5
    show Run _ _ _ _ _ (mkF _ _ _ [.int O])
    exact w_ireturn w hEL hs hlk hret rfl (Or.inl rfl) (oa 5 rfl) (by decide) (by decide) ⟨rfl, rfl⟩
  · skip
    refine jn w (oa 0 rfl) rfl 1 rfl <| jn w (oa 1 rfl) rfl 2 rfl <| jn w (oa 2 rfl) rfl 3 rfl <| w_getS w (Kw hw 98 rfl) Via.refl (SF.ext w.old) (oa 3 rfl) 6 rfl fun T w => ?_
    refine wS w hEL (cB2 hw) (Kw hw 100 rfl) (rm_cfs1 G0 h O N L ra o n l0 hO hN hL hf hl) all0 all0 [.int O, .int N, .int L, .ref ra] [] rfl rfl rfl (oa 4 rfl) hml rfl 0 rfl (by decide) 9 rfl fun u7 N8 T h9 w K10 P11 => ?_
    obtain ⟨rfl, rfl, rfl⟩ := P11
    show Run _ _ _ _ _ (mkF _ _ _ [.int O])
    exact w_ireturn w hEL hs hlk hret rfl (Or.inl rfl) (oa 5 rfl) (by decide) (by decide) ⟨rfl, rfl⟩
def dL14al : List (Nat × Instr × Nat) := [(0, .iload_n 0, 1), (1, .iload_n 1, 1), (2, .aload_n 2, 1), (3, .invokestatic 48, 3), (6, .invokestatic 419, 3), (9, .pop, 1), (10, .return_, 1)]
theorem dL14a : ∀ x ∈ dL14al, decode jdk_52_method_94_code x.1 = .ok x.2 := by decide +kernel
theorem rm_ubc (G : Gl Z a0 zc fm tba ktb fba kfb) (h : Heap) (O : Int32) (N : Int32) (t : Addr) (o n l0 : Nat) (kt : ClassId) (vs : List Value) (A : Arv Z h t kt .byte (Int32.ofNat (2 * l0)) vs (.int 0)) (hO : O = Int32.ofNat o) (hN : N = Int32.ofNat n) (hf : o + n ≤ l0) (hl : l0 ≤ 256) :
    Met l Z consts_1 mN14 jdk_52_method_94_code 3 none (mkR 2 0 0 29) #[.int O, .int N, .ref t] h [] [] (fun v h' => v = none ∧ h = h') := by
  have G0 := G
  obtain ⟨hw, hEL, -⟩ := G
  refine Met.of (plainFor_of_name pn_0) ?_
  intro p e s m below meth c T hnm hret hlk hby hml hs w; have oa := @dat _ _ dL14a _ hby
  refine Run.cast (efL (L := #[vI O, vI N, vR t]) (by simp [argsToLocals, Value.category, vI, vR, vJ])) ?_
  refine jn w (oa 0 rfl) rfl 1 rfl <| jn w (oa 1 rfl) rfl 2 rfl <| jm w (oa 2 rfl) rfl rfl 3 rfl <| wS w hEL (cB3 hw) (Kw hw 327 rfl) (rm_ul G0 h t l0 kt vs A (by omega)) all0 all0 [.ref t] [.int N, .int O] rfl rfl rfl (oa 3 rfl) hml rfl 2 rfl (by decide) 6 rfl fun u1 N2 T h3 w K4 P5 => ?_
  obtain ⟨rfl, rfl, rfl⟩ := P5
  show Run _ _ _ _ _ (mkF _ _ _ [.int (Int32.ofNat l0), .int N, .int O])
  refine wS w hEL (cB4 hw) (Kw hw 330 rfl) (rm_sbc G0 h O N _ o n l0 hO hN rfl hf (by omega)) all0 all0 [.int O, .int N, .int (Int32.ofNat l0)] [] rfl rfl rfl (oa 4 rfl) hml rfl 0 rfl (by decide) 9 rfl fun u7 N8 T h9 w K10 P11 => ?_
  obtain ⟨rfl, rfl, rfl⟩ := P11
  show Run _ _ _ _ _ (mkF _ _ _ [.int O])
  refine s_pop w (oa 5 rfl) rfl 10 rfl ?_
  exact w_return w hEL hs hlk hret (oa 6 rfl) (by decide) (by decide) ⟨rfl, rfl⟩
def dL15al : List (Nat × Instr × Nat) := [(0, .iload_n 3, 1), (1, .iload 4, 2), (3, .aload_n 2, 1), (4, .invokestatic 173, 3), (7, .iconst 0, 1), (8, .istore 5, 2), (10, .iload 5, 2), (12, .iload 4, 2), (14, .if_icmp .ge 27, 3), (17, .aload_n 2, 1), (18, .iload_n 3, 1), (19, .iinc 3 1, 3), (22, .aload_n 0, 1), (23, .iload_n 1, 1), (24, .iinc 1 1, 3), (27, .baload, 1)]
theorem dL15a : ∀ x ∈ dL15al, decode jdk_52_method_86_code x.1 = .ok x.2 := by decide +kernel
def dL15bl : List (Nat × Instr × Nat) := [(28, .sipush 255, 3), (31, .iand, 1), (32, .invokestatic 111, 3), (35, .iinc 5 1, 3), (38, .goto (-28), 3), (41, .return_, 1)]
theorem dL15b : ∀ x ∈ dL15bl, decode jdk_52_method_86_code x.1 = .ok x.2 := by decide +kernel
theorem rm_uif (G : Gl Z a0 zc fm tba ktb fba kfb) (h : Heap) (s0 : Addr) (d : Addr) (O : Int32) (N : Int32) {cap : Nat} (o : Nat) (ks kd : ClassId) (Ns : Int32) (vs vd : List Value) (ds : List Int32) (hO : O = Int32.ofNat o) (hN : N = Int32.ofNat ds.length) (As : Arv Z h s0 ks .byte Ns vs (.int 0)) (hNs : ds.length ≤ Ns.toNatClampNeg) (hsrc : ∀ j, j < ds.length → vs.getD j (.int 0) = .int (lo8 (ds.getD j 0))) (hlat : ∀ c ∈ ds, Lat c) (D : Arv Z h d kd .byte (Int32.ofNat (2 * cap)) vd (.int 0)) (hvd : vd.length = 2 * cap) (hf : o + ds.length ≤ cap ∧ cap ≤ 220) (hsd : s0 ≠ d) :
    Met l Z consts_1 mN15 jdk_52_method_86_code 6 none (mkR 3 0 0 43) #[.ref s0, .int 0, .ref d, .int O, .int N] h [d] [d] (fun v h' => v = none ∧ Arv Z h' d kd .byte (Int32.ofNat (2 * cap)) (vd.take (2 * o) ++ wideBytes ds ++ vd.drop (2 * (o + ds.length))) (.int 0)) := by
  have G0 := G
  obtain ⟨hw, hEL, -⟩ := G
  refine Met.of (plainFor_of_name pn_0) ?_
  intro p e s m below meth c T hnm hret hlk hby hml hs w; have oa := @dat _ _ dL15a _ hby; have ob := @dat _ _ dL15b _ hby
  refine Run.cast (efL (L := #[vR s0, vI 0, vR d, vI O, vI N, .unset]) (by simp [argsToLocals, Value.category, vI, vR, vJ])) ?_
  refine jn w (oa 0 rfl) rfl 1 rfl <| jl w (oa 1 rfl) rfl 3 rfl <| jm w (oa 2 rfl) rfl rfl 4 rfl <| wS w hEL (cB5 hw) (Kw hw 324 rfl) (rm_ubc G0 h O N d o ds.length cap kd vd D hO hN hf.1 (by omega)) all0 all0 [.int O, .int N, .ref d] [] rfl rfl rfl (oa 3 rfl) hml rfl 0 rfl (by decide) 7 rfl fun u1 N2 T h3 w K4 P5 => ?_
  obtain ⟨rfl, rfl, rfl⟩ := P5
  show Run _ _ _ _ _ (mkF _ _ _ [])
  refine jc w 0 (oa 4 rfl) rfl 8 rfl <| js w #[vR s0, vI 0, vR d, vI O, vI N, vI 0] (oa 5 rfl) rfl 10 rfl ?_
  rw [hO]
  suffices H : ∀ k j T g, j + k = ds.length → Wk p l e _ s m _ below meth c Z consts_1 _ h [d] T g 0 0 [d] → Arv Z g s0 ks .byte Ns vs (.int 0) → Arv Z g d kd .byte (Int32.ofNat (2 * cap)) (vd.take (2 * o) ++ wideBytes (ds.take j) ++ vd.drop (2 * (o + j))) (.int 0) → Run p e below (Qm Z consts_1 s h [d] _ _) T (mkF m 10 #[vR s0, vI (Int32.ofNat j), vR d, vI (Int32.ofNat (o + j)), vI N, vI (Int32.ofNat j)] []) from H ds.length 0 T h (Nat.zero_add _) w As (by simpa [wideBytes] using D)
  intro k
  induction k with
  | zero =>
    intro j T g hj w As D
    obtain rfl : j = ds.length := hj
    refine jl w (oa 6 rfl) rfl 12 rfl <| jl w (oa 7 rfl) rfl 14 rfl <| jg w (oa 8 rfl) (by decide) 17 rfl 41 rfl (fun ct7 => ?_) (fun ct7 => ?_)
    · exact absurd ct7 (by rw [hN]; exact Int32.lt_irrefl)
    · skip
      exact w_return w hEL hs hlk hret (ob 5 rfl) (by decide) (by decide) ⟨rfl, by simpa using D⟩
  | succ k ih =>
    intro j T g hj w As D
    have hjn : j < ds.length := by omega
    refine jl w (oa 6 rfl) rfl 12 rfl <| jl w (oa 7 rfl) rfl 14 rfl <| jg w (oa 8 rfl) (by decide) 17 rfl 41 rfl (fun ct8 => ?_) (fun ct8 => ?_)
    · skip
      refine jm w (oa 9 rfl) rfl rfl 18 rfl <| jn w (oa 10 rfl) rfl 19 rfl <| ji w #[vR s0, vI (Int32.ofNat j), vR d, vI ((Int32.ofNat (o + j)) + 1), vI N, vI (Int32.ofNat j)] (oa 11 rfl) (v := 1) rfl rfl rfl 22 rfl <| jm w (oa 12 rfl) rfl rfl 23 rfl <| jn w (oa 13 rfl) rfl 24 rfl <| ji w #[vR s0, vI ((Int32.ofNat j) + 1), vR d, vI ((Int32.ofNat (o + j)) + 1), vI N, vI (Int32.ofNat j)] (oa 14 rfl) (v := 1) rfl rfl rfl 27 rfl ?_
      refine w_ldB w As (i := j) (ofNat_lt (by omega)) (ofNat_nat (by omega)) (by omega) (hsrc j hjn) (oa 15 rfl) 28 rfl ?_
      refine s_sipush w 255 (ob 0 rfl) rfl 31 rfl <| jw w (ob 1 rfl) 32 rfl ?_
      rw [lo8_mask (hlat _ (getD_memC hjn)).1 (hlat _ (getD_memC hjn)).2]
      refine wS w hEL (cB6 hw) (Kw hw 302 rfl) (rm_pch G0 g d _ _ (o + j) cap rfl kd _ _ rfl (by simp [wide_len]; omega) D (by omega) (by omega)) (allS (mi 0 rfl) all0) (allS (Or.inl (mi 0 rfl)) all0) [.ref d, .int (Int32.ofNat (o + j)), .int (ds.getD j 0)] [] rfl rfl rfl (ob 2 rfl) hml rfl 0 rfl (by decide) 35 rfl fun u9 N10 T h11 w K12 P13 => ?_
      obtain ⟨rfl, rfl, D1⟩ := P13
      have K1 := As.keep K12 (ninS hsd nin0)
      rw [inf_step hvd hjn hf.1] at D1
      show Run _ _ _ _ _ (mkF _ _ _ [])
      refine ji w #[vR s0, vI ((Int32.ofNat j) + 1), vR d, vI ((Int32.ofNat (o + j)) + 1), vI N, vI ((Int32.ofNat j) + 1)] (ob 3 rfl) (v := 1) rfl rfl rfl 38 rfl <| jt w (ob 4 rfl) (by decide) 10 rfl ?_
      simp only [ofNat_succ]
      exact ih (j + 1) _ _ (by omega) w K1 D1
    · exact absurd (by rw [hN]; exact (ofNat_cmp (by omega) (by omega)).mpr hjn) ct8
theorem pn_3 : plainName "java/lang/StringLatin1" = true := by first | (simp [plainName, overriddenIn]; done) | decide +kernel
def dL16al : List (Nat × Instr × Nat) := [(0, .aload_n 0, 1), (1, .iload_n 1, 1), (2, .aload_n 2, 1), (3, .iload_n 3, 1), (4, .iload 4, 2), (6, .invokestatic 240, 3), (9, .return_, 1)]
theorem dL16a : ∀ x ∈ dL16al, decode jdk_43_method_50_code x.1 = .ok x.2 := by decide +kernel
theorem rm_lif (G : Gl Z a0 zc fm tba ktb fba kfb) (h : Heap) (s0 : Addr) (d : Addr) (O : Int32) (N : Int32) {cap : Nat} (o : Nat) (ks kd : ClassId) (Ns : Int32) (vs vd : List Value) (ds : List Int32) (hO : O = Int32.ofNat o) (hN : N = Int32.ofNat ds.length) (As : Arv Z h s0 ks .byte Ns vs (.int 0)) (hNs : ds.length ≤ Ns.toNatClampNeg) (hsrc : ∀ j, j < ds.length → vs.getD j (.int 0) = .int (lo8 (ds.getD j 0))) (hlat : ∀ c ∈ ds, Lat c) (D : Arv Z h d kd .byte (Int32.ofNat (2 * cap)) vd (.int 0)) (hvd : vd.length = 2 * cap) (hf : o + ds.length ≤ cap ∧ cap ≤ 220) (hsd : s0 ≠ d) :
    Met l Z consts_1 mN16 jdk_43_method_50_code 5 none (mkR 4 0 0 60) #[.ref s0, .int 0, .ref d, .int O, .int N] h [d] [d] (fun v h' => v = none ∧ Arv Z h' d kd .byte (Int32.ofNat (2 * cap)) (vd.take (2 * o) ++ wideBytes ds ++ vd.drop (2 * (o + ds.length))) (.int 0)) := by
  have G0 := G
  obtain ⟨hw, hEL, -⟩ := G
  refine Met.of (plainFor_of_name pn_3) ?_
  intro p e s m below meth c T hnm hret hlk hby hml hs w; have oa := @dat _ _ dL16a _ hby
  refine Run.cast (efL (L := #[vR s0, vI 0, vR d, vI O, vI N]) (by simp [argsToLocals, Value.category, vI, vR, vJ])) ?_
  refine jm w (oa 0 rfl) rfl rfl 1 rfl <| jn w (oa 1 rfl) rfl 2 rfl <| jm w (oa 2 rfl) rfl rfl 3 rfl <| jn w (oa 3 rfl) rfl 4 rfl <| jl w (oa 4 rfl) rfl 6 rfl <| wS w hEL (cB7 hw) (Kw hw 321 rfl) (rm_uif G0 h s0 d O N o ks kd Ns vs vd ds hO hN As hNs hsrc hlat D hvd hf hsd) (allS (mi 0 rfl) all0) (allS (Or.inl (mi 0 rfl)) all0) [.ref s0, .int 0, .ref d, .int O, .int N] [] rfl rfl rfl (oa 5 rfl) hml rfl 0 rfl (by decide) 9 rfl fun u1 N2 T h3 w K4 P5 => ?_
  obtain ⟨rfl, rfl, P9⟩ := P5
  show Run _ _ _ _ _ (mkF _ _ _ [])
  exact w_return w hEL hs hlk hret (oa 6 rfl) (by decide) (by decide) ⟨rfl, P9⟩
open StrChars StrChars.Road

theorem pn_4 : plainName "java/lang/AbstractStringBuilder" = true := by first | (simp [plainName, overriddenIn]; done) | decide +kernel
def dL17al : List (Nat × Instr × Nat) := [(0, .getstatic 18, 3), (3, .ifCond .eq 14, 3), (6, .aload_n 0, 1), (7, .getfield 22, 3), (10, .ifCond .ne 7, 3), (13, .iconst 1, 1), (14, .goto 4, 3), (17, .iconst 0, 1), (18, .ireturn, 1)]
theorem dL17a : ∀ x ∈ dL17al, decode jdk_68_method_68_code x.1 = .ok x.2 := by decide +kernel
theorem rm_ail0 (G : Gl Z a0 zc fm tba ktb fba kfb) (h : Heap) (b : Addr) (F : Fld Z h b ASB "coder" "B" (.int 0)) :
    Met l Z consts_1 mN17 jdk_68_method_68_code 1 (some .boolean) (mkR 0 0 0 0) #[.ref b] h [] [] (fun v h' => v = some (.int 1) ∧ h = h') := by
  obtain ⟨hw, hEL, SC, hz, -⟩ := G
  refine Met.of (plainFor_of_name pn_4) ?_
  intro p e s m below meth c T hnm hret hlk hby hml hs w; have oa := @dat _ _ dL17a _ hby
  refine Run.cast (efL (L := #[vR b]) (by simp [argsToLocals, Value.category, vI, vR, vJ])) ?_
  refine w_getS w (Kw hw 119 rfl) Via.refl (SC.ext w.old) (oa 0 rfl) 3 rfl fun T w => ?_
  refine s_if_eq w (oa 1 rfl) (by decide) 6 rfl 17 rfl (fun ct1 => ?_) (fun ct1 => ?_)
  · -- ¬ (zc = 0)
    refine jm w (oa 2 rfl) rfl rfl 7 rfl <| jF w (Kw hw 122 rfl) Via.refl F (oa 3 rfl) 10 rfl fun T w => ?_
    refine s_if_ne w (oa 4 rfl) (by decide) 13 rfl 17 rfl (fun _ => ?_) (fun q => absurd q (by decide))
    refine jc w 1 (oa 5 rfl) rfl 14 rfl <| jt w (oa 6 rfl) (by decide) 18 rfl ?_
    exact w_ireturn w hEL hs hlk hret rfl (Or.inr (Or.inl rfl)) (oa 8 rfl) (by decide) (by decide) ⟨rfl, rfl⟩
  · -- zc = 0
    refine jc w 0 (oa 7 rfl) rfl 18 rfl ?_
    exact absurd ct1 hz
theorem rm_ail1 (G : Gl Z a0 zc fm tba ktb fba kfb) (h : Heap) (b : Addr) (F : Fld Z h b ASB "coder" "B" (.int 1)) :
    Met l Z consts_1 mN17 jdk_68_method_68_code 1 (some .boolean) (mkR 0 0 0 0) #[.ref b] h [] [] (fun v h' => v = some (.int 0) ∧ h = h') := by
  obtain ⟨hw, hEL, SC, -⟩ := G
  refine Met.of (plainFor_of_name pn_4) ?_
  intro p e s m below meth c T hnm hret hlk hby hml hs w; have oa := @dat _ _ dL17a _ hby
  refine Run.cast (efL (L := #[vR b]) (by simp [argsToLocals, Value.category, vI, vR, vJ])) ?_
  refine w_getS w (Kw hw 119 rfl) Via.refl (SC.ext w.old) (oa 0 rfl) 3 rfl fun T w => ?_
  refine s_if_eq w (oa 1 rfl) (by decide) 6 rfl 17 rfl (fun ct1 => ?_) (fun ct1 => ?_)
  · -- ¬ (zc = 0)
    refine jm w (oa 2 rfl) rfl rfl 7 rfl <| jF w (Kw hw 122 rfl) Via.refl F (oa 3 rfl) 10 rfl fun T w => ?_
    refine s_if_ne w (oa 4 rfl) (by decide) 13 rfl 17 rfl (fun q => absurd q (by decide)) (fun _ => ?_)
    refine jc w 0 (oa 7 rfl) rfl 18 rfl ?_
    exact w_ireturn w hEL hs hlk hret rfl (Or.inr (Or.inl rfl)) (oa 8 rfl) (by decide) (by decide) ⟨rfl, rfl⟩
  · -- zc = 0
    refine jc w 0 (oa 7 rfl) rfl 18 rfl ?_
    exact w_ireturn w hEL hs hlk hret rfl (Or.inr (Or.inl rfl)) (oa 8 rfl) (by decide) (by decide) ⟨rfl, rfl⟩
def dL18al : List (Nat × Instr × Nat) := [(0, .aload_n 0, 1), (1, .invokevirtual 83, 3), (4, .ifCond .ne 4, 3), (7, .return_, 1), (8, .aload_n 0, 1), (9, .getfield 15, 3), (12, .arraylength, 1), (13, .invokestatic 26, 3), (16, .astore_n 1, 1), (17, .aload_n 0, 1), (18, .getfield 15, 3), (21, .iconst 0, 1), (22, .aload_n 1, 1), (23, .iconst 0, 1), (24, .aload_n 0, 1), (25, .getfield 79, 3)]
theorem dL18a : ∀ x ∈ dL18al, decode jdk_68_method_11_code x.1 = .ok x.2 := by decide +kernel
def dL18bl : List (Nat × Instr × Nat) := [(28, .invokestatic 125, 3), (31, .aload_n 0, 1), (32, .aload_n 1, 1), (33, .putfield 15, 3), (36, .aload_n 0, 1), (37, .iconst 1, 1), (38, .putfield 22, 3), (41, .return_, 1)]
theorem dL18b : ∀ x ∈ dL18bl, decode jdk_68_method_11_code x.1 = .ok x.2 := by decide +kernel
theorem rm_ifl1 (G : Gl Z a0 zc fm tba ktb fba kfb) (h : Heap) (b : Addr) {cap : Nat} (t : Addr) (kt : ClassId) (cs : List Int32) (B0 : Sb1 Z h b t kt cap cs) :
    Met l Z consts_1 mN18 jdk_68_method_11_code 2 none (mkR 1 0 0 12) #[.ref b] h [] [] (fun v h' => v = none ∧ h = h') := by
  have G0 := G
  obtain ⟨hw, hEL, -⟩ := G
  refine Met.of (plainFor_of_name pn_4) ?_
  intro p e s m below meth c T hnm hret hlk hby hml hs w; have oa := @dat _ _ dL18a _ hby
  refine Run.cast (efL (L := #[vR b, .unset]) (by simp [argsToLocals, Value.category, vI, vR, vJ])) ?_
  have B1 := B0
  obtain ⟨Eb, Vb, Cb, Nb, Mb, At, hcs, hcl⟩ := B0
  refine jm w (oa 0 rfl) rfl rfl 1 rfl <| wK w hEL (cB8 hw) (Kw hw 316 rfl) (Kw hw 220 rfl) (Kw hw 209 rfl) rfl (Kw hw 222 rfl) Eb (rm_ail1 G0 h b Cb) all0 all0 [] [] rfl rfl rfl (oa 1 rfl) hml rfl 0 rfl (by decide) 4 rfl fun u1 N2 T h3 w K4 P5 => ?_
  obtain ⟨rfl, rfl, rfl⟩ := P5
  show Run _ _ _ _ _ (mkF _ _ _ [.int 0])
  refine s_if_ne w (oa 2 rfl) (by decide) 7 rfl 8 rfl (fun _ => ?_) (fun q => absurd q (by decide))
  exact w_return w hEL hs hlk hret (oa 3 rfl) (by decide) (by decide) ⟨rfl, rfl⟩
theorem rm_ifl0 (G : Gl Z a0 zc fm tba ktb fba kfb) (h : Heap) (b : Addr) {cap : Nat} (t : Addr) (kt : ClassId) (cs : List Int32) (B0 : Sb0 Z h b t kt cap cs) (hc48 : cap ≤ 48) :
    MetN l Z consts_1 mN18 jdk_68_method_11_code 2 none (mkR 5 1 96 76) #[.ref b] h [] [b] (fun v h' N => v = none ∧ ∃ t1 k1, N = [t1] ∧ h.size ≤ t1 ∧ Sbp Z h' b t1 k1 cap cs) := by
  have G0 := G
  obtain ⟨hw, hEL, -⟩ := G
  refine MetN.of (plainFor_of_name pn_4) ?_
  intro p e s m below meth c T hnm hret hlk hby hml hs w; have oa := @dat _ _ dL18a _ hby; have ob := @dat _ _ dL18b _ hby
  refine Run.cast (efL (L := #[vR b, .unset]) (by simp [argsToLocals, Value.category, vI, vR, vJ])) ?_
  have B1 := B0
  obtain ⟨Eb, Vb, Cb, Nb, Mb, At, hcs, hcl⟩ := B0
  refine jm w (oa 0 rfl) rfl rfl 1 rfl <| wK w hEL (cB8 hw) (Kw hw 316 rfl) (Kw hw 220 rfl) (Kw hw 209 rfl) rfl (Kw hw 222 rfl) Eb (rm_ail0 G0 h b Cb) all0 all0 [] [] rfl rfl rfl (oa 1 rfl) hml rfl 0 rfl (by decide) 4 rfl fun u1 N2 T h3 w K4 P5 => ?_
  obtain ⟨rfl, rfl, rfl⟩ := P5
  show Run _ _ _ _ _ (mkF _ _ _ [.int 1])
  refine s_if_ne w (oa 2 rfl) (by decide) 7 rfl 8 rfl (fun q => absurd q (by decide)) (fun _ => ?_)
  refine jm w (oa 4 rfl) rfl rfl 9 rfl <| jF w (Kw hw 120 rfl) Via.refl Vb (oa 5 rfl) 12 rfl fun T w => ?_
  refine w_len w At (oa 6 rfl) 13 rfl ?_
  refine wS w hEL (cB0 hw) (Kw hw 317 rfl) (rm_nbf G0 h _ cap rfl hc48) all0 all0 [.int (Int32.ofNat cap)] [] rfl rfl rfl (oa 7 rfl) hml rfl 0 rfl (by decide) 16 rfl fun u8 N9 T h10 w K11 P12 => ?_
  obtain ⟨t1, k1, rfl, rfl, q1, A1⟩ := P12
  have E13 := Keep.ext0 K11
  show Run _ _ _ _ _ (mkF _ _ _ [.ref t1])
  refine s_astore_n w #[vR b, vR t1] (oa 8 rfl) rfl rfl 17 rfl <| jm w (oa 9 rfl) rfl rfl 18 rfl <| jF w (Kw hw 120 rfl) Via.refl (Vb.ext E13) (oa 10 rfl) 21 rfl fun T w => ?_
  refine jc w 0 (oa 11 rfl) rfl 22 rfl <| jm w (oa 12 rfl) rfl rfl 23 rfl <| jc w 0 (oa 13 rfl) rfl 24 rfl <| jm w (oa 14 rfl) rfl rfl 25 rfl <| jF w (Kw hw 145 rfl) Via.refl (Nb.ext E13) (oa 15 rfl) 28 rfl fun T w => ?_
  refine wS w hEL (cB9 hw) (Kw hw 318 rfl) (rm_lif G0 h10 t t1 0 _ 0 kt k1 _ _ _ cs rfl rfl (At.ext E13) (by rw [ofNat_nat (by omega)]; omega) (fun j hj => room_get hj) hcs A1 (by simp) (by omega) (fun z => absurd q1 (by rw [← z]; exact Nat.not_le.mpr At.lt))) (allS (mi 0 rfl) all0) (allS (Or.inr q1) all0) [.ref t, .int 0, .ref t1, .int 0, .int (Int32.ofNat cs.length)] [] rfl rfl rfl (ob 0 rfl) hml rfl 0 rfl (by decide) 31 rfl fun u14 N15 T h16 w K17 P18 => ?_
  obtain ⟨rfl, rfl, D1⟩ := P18
  have D2 : Arv Z h16 t1 k1 .byte (Int32.ofNat (2 * cap)) (wroom cs cap) (.int 0) := by have e : List.take (2 * 0) (List.replicate (2 * cap) (Value.int 0)) ++ wideBytes cs ++ List.drop (2 * (0 + cs.length)) (List.replicate (2 * cap) (Value.int 0)) = wroom cs cap := (by have e2 : 2 * cap - 2 * (0 + cs.length) = 2 * (cap - cs.length) := (by omega); rw [List.drop_replicate, e2, wroom]; simp); rw [← e]; exact D1
  have E20 := Ext.kp E13 K17 (allS q1 all0)
  show Run _ _ _ _ _ (mkF _ _ _ [])
  refine jm w (ob 1 rfl) rfl rfl 32 rfl <| jm w (ob 2 rfl) rfl rfl 33 rfl ?_
  have Vq := (Vb.ext E20)
  have Cq := (Cb.ext E20)
  have Nq := (Nb.ext E20)
  have Mq := (Mb.ext E20)
  have Eq := (Eb.ext E20)
  refine w_putF w (Kw hw 120 rfl) Via.refl Vq Eq (Or.inl (Kw hw 121 rfl)) (Kw hw 107 rfl) (ty := .array .byte) (by decide) rfl rfl (ob 3 rfl) (Or.inl (List.mem_singleton.mpr rfl)) (Or.inl ⟨by decide, by decide⟩) 36 rfl fun T g1 w W1 F1 Y1 => ?_
  have sc : Jvm.RoadKit.slotOf Z ASB "coder" "B" ≠ Jvm.RoadKit.slotOf Z ASB "value" "[B" := slot_ne (C := SBC) (Or.inl (Kw hw 123 rfl)) (Or.inl (Kw hw 121 rfl)) (by decide) (t := .byte) (t' := .array .byte) (by decide) (by decide)
  have sn : Jvm.RoadKit.slotOf Z ASB "count" "I" ≠ Jvm.RoadKit.slotOf Z ASB "value" "[B" := slot_ne (C := SBC) (Or.inl (Kw hw 146 rfl)) (Or.inl (Kw hw 121 rfl)) (by decide) (t := .int) (t' := .array .byte) (by decide) (by decide)
  have sm : Jvm.RoadKit.slotOf Z ASB "maybeLatin1" "Z" ≠ Jvm.RoadKit.slotOf Z ASB "value" "[B" := slot_ne (C := SBC) (Or.inl (Kw hw 333 rfl)) (Or.inl (Kw hw 121 rfl)) (by decide) (t := .boolean) (t' := .array .byte) (by decide) (by decide)
  have sn2 : Jvm.RoadKit.slotOf Z ASB "count" "I" ≠ Jvm.RoadKit.slotOf Z ASB "coder" "B" := slot_ne (C := SBC) (Or.inl (Kw hw 146 rfl)) (Or.inl (Kw hw 123 rfl)) (by decide) (t := .int) (t' := .byte) (by decide) (by decide)
  have sm2 : Jvm.RoadKit.slotOf Z ASB "maybeLatin1" "Z" ≠ Jvm.RoadKit.slotOf Z ASB "coder" "B" := slot_ne (C := SBC) (Or.inl (Kw hw 333 rfl)) (Or.inl (Kw hw 123 rfl)) (by decide) (t := .boolean) (t' := .byte) (by decide) (by decide)
  have nb : t1 ≠ b := (Exa.neArv Eq D2 (Kw hw 107 rfl)).symm
  refine jm w (ob 4 rfl) rfl rfl 37 rfl <| jc w 1 (ob 5 rfl) rfl 38 rfl <| w_putF w (Kw hw 122 rfl) Via.refl (Cq.other W1 (Or.inr sc)) Y1 (Or.inl (Kw hw 123 rfl)) (Kw hw 107 rfl) (ty := .byte) (by decide) rfl rfl (ob 6 rfl) (Or.inl (List.mem_singleton.mpr rfl)) (Or.inl ⟨by decide, by decide⟩) 41 rfl fun T g2 w W2 F2 Y2 => ?_
  exact w_returnN w hEL hs hlk hret (ob 7 rfl) (by decide) (by decide) (N := [t1]) (allP (mi 0 rfl)) ⟨rfl, t1, k1, rfl, q1, Y2, F1.other W2 (Or.inr sc.symm), F2, (Nq.other W1 (Or.inr sn)).other W2 (Or.inr sn2), (Mq.other W1 (Or.inr sm)).other W2 (Or.inr sm2), (D2.other W1 nb).other W2 nb, fun c q => lat_chr (hcs c q), hcl⟩
def dL19al : List (Nat × Instr × Nat) := [(0, .getstatic 18, 3), (3, .ifCond .eq 18, 3), (6, .aload_n 0, 1), (7, .getfield 22, 3), (10, .aload_n 1, 1), (11, .invokevirtual 40, 3), (14, .if_icmp .eq 7, 3), (17, .aload_n 0, 1), (18, .invokevirtual 195, 3), (21, .return_, 1)]
theorem dL19a : ∀ x ∈ dL19al, decode jdk_68_method_71_code x.1 = .ok x.2 := by decide +kernel
theorem rm_inf00 (G : Gl Z a0 zc fm tba ktb fba kfb) (h : Heap) (b : Addr) (x : Addr) {cap : Nat} (t tx : Addr) (kt kx : ClassId) (cs ds : List Int32) (B0 : Sb0 Z h b t kt cap cs) (X0 : S0 Z h x tx kx ds) :
    Met l Z consts_1 mN19 jdk_68_method_71_code 2 none (mkR 1 0 0 13) #[.ref b, .ref x] h [] [] (fun v h' => v = none ∧ h = h') := by
  have G0 := G
  obtain ⟨hw, hEL, SC, hz, -⟩ := G
  refine Met.of (plainFor_of_name pn_4) ?_
  intro p e s m below meth c T hnm hret hlk hby hml hs w; have oa := @dat _ _ dL19a _ hby
  refine Run.cast (efL (L := #[vR b, vR x]) (by simp [argsToLocals, Value.category, vI, vR, vJ])) ?_
  have B1 := B0
  obtain ⟨Eb, Vb, Cb, Nb, Mb, At, hcs, hcl⟩ := B0
  have X1 := X0
  have Sx := X0.str
  obtain ⟨Ex, Vx, Cx, Ax, hds, hdl⟩ := X0
  refine w_getS w (Kw hw 119 rfl) Via.refl (SC.ext w.old) (oa 0 rfl) 3 rfl fun T w => ?_
  refine s_if_eq w (oa 1 rfl) (by decide) 6 rfl 21 rfl (fun ct1 => ?_) (fun ct1 => ?_)
  · skip
    refine jm w (oa 2 rfl) rfl rfl 7 rfl <| jF w (Kw hw 122 rfl) Via.refl Cb (oa 3 rfl) 10 rfl fun T w => ?_
    refine jm w (oa 4 rfl) rfl rfl 11 rfl <| wV w hEL (cB10 hw) (Kw hw 162 rfl) (Kw hw 141 rfl) (Kw hw 143 rfl) (Kw hw 143 rfl) Ex (rm_cdr0 G0 h x Cx) all0 all0 [] [.int 0] rfl rfl rfl (oa 5 rfl) hml rfl 1 rfl (by decide) 14 rfl fun u2 N3 T h4 w K5 P6 => ?_
    obtain ⟨rfl, rfl, rfl⟩ := P6
    show Run _ _ _ _ _ (mkF _ _ _ [.int 0, .int 0])
    refine s_icmp_eq w (oa 6 rfl) (by decide) 17 rfl 21 rfl (fun q => absurd q (by decide)) (fun _ => ?_)
    exact w_return w hEL hs hlk hret (oa 9 rfl) (by decide) (by decide) ⟨rfl, rfl⟩
  · exact absurd ct1 hz
theorem rm_inf01 (G : Gl Z a0 zc fm tba ktb fba kfb) (h : Heap) (b : Addr) (x : Addr) {cap : Nat} (t tx : Addr) (kt kx : ClassId) (cs ds : List Int32) (B0 : Sb0 Z h b t kt cap cs) (X0 : S1 Z h x tx kx ds) (hc48 : cap ≤ 48) :
    MetN l Z consts_1 mN19 jdk_68_method_71_code 2 none (mkR 6 1 96 89) #[.ref b, .ref x] h [] [b] (fun v h' N => v = none ∧ ∃ t1 k1, N = [t1] ∧ h.size ≤ t1 ∧ Sbp Z h' b t1 k1 cap cs) := by
  have G0 := G
  obtain ⟨hw, hEL, SC, hz, -⟩ := G
  refine MetN.of (plainFor_of_name pn_4) ?_
  intro p e s m below meth c T hnm hret hlk hby hml hs w; have oa := @dat _ _ dL19a _ hby
  refine Run.cast (efL (L := #[vR b, vR x]) (by simp [argsToLocals, Value.category, vI, vR, vJ])) ?_
  have B1 := B0
  obtain ⟨Eb, Vb, Cb, Nb, Mb, At, hcs, hcl⟩ := B0
  have X1 := X0
  have Sx := X0.str
  obtain ⟨Ex, Vx, Cx, Ax, hds, hdl⟩ := X0
  refine w_getS w (Kw hw 119 rfl) Via.refl (SC.ext w.old) (oa 0 rfl) 3 rfl fun T w => ?_
  refine s_if_eq w (oa 1 rfl) (by decide) 6 rfl 21 rfl (fun ct1 => ?_) (fun ct1 => ?_)
  · skip
    refine jm w (oa 2 rfl) rfl rfl 7 rfl <| jF w (Kw hw 122 rfl) Via.refl Cb (oa 3 rfl) 10 rfl fun T w => ?_
    refine jm w (oa 4 rfl) rfl rfl 11 rfl <| wV w hEL (cB10 hw) (Kw hw 162 rfl) (Kw hw 141 rfl) (Kw hw 143 rfl) (Kw hw 143 rfl) Ex (rm_cdr1 G0 h x Cx) all0 all0 [] [.int 0] rfl rfl rfl (oa 5 rfl) hml rfl 1 rfl (by decide) 14 rfl fun u2 N3 T h4 w K5 P6 => ?_
    obtain ⟨rfl, rfl, rfl⟩ := P6
    show Run _ _ _ _ _ (mkF _ _ _ [.int 1, .int 0])
    refine s_icmp_eq w (oa 6 rfl) (by decide) 17 rfl 21 rfl (fun _ => ?_) (fun q => absurd q (by decide))
    refine jm w (oa 7 rfl) rfl rfl 18 rfl <| wP w hEL (cB11 hw) (Kw hw 311 rfl) (Kw hw 209 rfl) rfl (Kw hw 313 rfl) Eb (rm_ifl0 G0 h b t kt cs B1 hc48) all0 (allS (Or.inl (mi 0 rfl)) all0) [] [] rfl rfl rfl (oa 8 rfl) hml rfl 0 rfl (by decide) 21 rfl fun u9 N10 T h11 w K12 P13 => ?_
    obtain ⟨rfl, t1, k1, rfl, P8, P9⟩ := P13
    show Run _ _ _ _ _ (mkF _ _ _ [])
    exact w_returnN w hEL hs hlk hret (oa 9 rfl) (by decide) (by decide) (N := [t1]) (allP (List.mem_cons_self ..)) ⟨rfl, t1, k1, rfl, P8, P9⟩
  · exact absurd ct1 hz
theorem rm_inf10 (G : Gl Z a0 zc fm tba ktb fba kfb) (h : Heap) (b : Addr) (x : Addr) {cap : Nat} (t tx : Addr) (kt kx : ClassId) (cs ds : List Int32) (B0 : Sb1 Z h b t kt cap cs) (X0 : S0 Z h x tx kx ds) :
    Met l Z consts_1 mN19 jdk_68_method_71_code 2 none (mkR 2 0 0 25) #[.ref b, .ref x] h [] [] (fun v h' => v = none ∧ h = h') := by
  have G0 := G
  obtain ⟨hw, hEL, SC, hz, -⟩ := G
  refine Met.of (plainFor_of_name pn_4) ?_
  intro p e s m below meth c T hnm hret hlk hby hml hs w; have oa := @dat _ _ dL19a _ hby
  refine Run.cast (efL (L := #[vR b, vR x]) (by simp [argsToLocals, Value.category, vI, vR, vJ])) ?_
  have B1 := B0
  obtain ⟨Eb, Vb, Cb, Nb, Mb, At, hcs, hcl⟩ := B0
  have X1 := X0
  have Sx := X0.str
  obtain ⟨Ex, Vx, Cx, Ax, hds, hdl⟩ := X0
  refine w_getS w (Kw hw 119 rfl) Via.refl (SC.ext w.old) (oa 0 rfl) 3 rfl fun T w => ?_
  refine s_if_eq w (oa 1 rfl) (by decide) 6 rfl 21 rfl (fun ct1 => ?_) (fun ct1 => ?_)
  · skip
    refine jm w (oa 2 rfl) rfl rfl 7 rfl <| jF w (Kw hw 122 rfl) Via.refl Cb (oa 3 rfl) 10 rfl fun T w => ?_
    refine jm w (oa 4 rfl) rfl rfl 11 rfl <| wV w hEL (cB10 hw) (Kw hw 162 rfl) (Kw hw 141 rfl) (Kw hw 143 rfl) (Kw hw 143 rfl) Ex (rm_cdr0 G0 h x Cx) all0 all0 [] [.int 1] rfl rfl rfl (oa 5 rfl) hml rfl 1 rfl (by decide) 14 rfl fun u2 N3 T h4 w K5 P6 => ?_
    obtain ⟨rfl, rfl, rfl⟩ := P6
    show Run _ _ _ _ _ (mkF _ _ _ [.int 0, .int 1])
    refine s_icmp_eq w (oa 6 rfl) (by decide) 17 rfl 21 rfl (fun _ => ?_) (fun q => absurd q (by decide))
    refine jm w (oa 7 rfl) rfl rfl 18 rfl <| wP w hEL (cB11 hw) (Kw hw 311 rfl) (Kw hw 209 rfl) rfl (Kw hw 313 rfl) Eb (rm_ifl1 G0 h b t kt cs B1) all0 all0 [] [] rfl rfl rfl (oa 8 rfl) hml rfl 0 rfl (by decide) 21 rfl fun u9 N10 T h11 w K12 P13 => ?_
    obtain ⟨rfl, rfl, rfl⟩ := P13
    show Run _ _ _ _ _ (mkF _ _ _ [])
    exact w_return w hEL hs hlk hret (oa 9 rfl) (by decide) (by decide) ⟨rfl, rfl⟩
  · exact absurd ct1 hz
theorem rm_inf11 (G : Gl Z a0 zc fm tba ktb fba kfb) (h : Heap) (b : Addr) (x : Addr) {cap : Nat} (t tx : Addr) (kt kx : ClassId) (cs ds : List Int32) (B0 : Sb1 Z h b t kt cap cs) (X0 : S1 Z h x tx kx ds) :
    Met l Z consts_1 mN19 jdk_68_method_71_code 2 none (mkR 1 0 0 13) #[.ref b, .ref x] h [] [] (fun v h' => v = none ∧ h = h') := by
  have G0 := G
  obtain ⟨hw, hEL, SC, hz, -⟩ := G
  refine Met.of (plainFor_of_name pn_4) ?_
  intro p e s m below meth c T hnm hret hlk hby hml hs w; have oa := @dat _ _ dL19a _ hby
  refine Run.cast (efL (L := #[vR b, vR x]) (by simp [argsToLocals, Value.category, vI, vR, vJ])) ?_
  have B1 := B0
  obtain ⟨Eb, Vb, Cb, Nb, Mb, At, hcs, hcl⟩ := B0
  have X1 := X0
  have Sx := X0.str
  obtain ⟨Ex, Vx, Cx, Ax, hds, hdl⟩ := X0
  refine w_getS w (Kw hw 119 rfl) Via.refl (SC.ext w.old) (oa 0 rfl) 3 rfl fun T w => ?_
  refine s_if_eq w (oa 1 rfl) (by decide) 6 rfl 21 rfl (fun ct1 => ?_) (fun ct1 => ?_)
  · skip
    refine jm w (oa 2 rfl) rfl rfl 7 rfl <| jF w (Kw hw 122 rfl) Via.refl Cb (oa 3 rfl) 10 rfl fun T w => ?_
    refine jm w (oa 4 rfl) rfl rfl 11 rfl <| wV w hEL (cB10 hw) (Kw hw 162 rfl) (Kw hw 141 rfl) (Kw hw 143 rfl) (Kw hw 143 rfl) Ex (rm_cdr1 G0 h x Cx) all0 all0 [] [.int 1] rfl rfl rfl (oa 5 rfl) hml rfl 1 rfl (by decide) 14 rfl fun u2 N3 T h4 w K5 P6 => ?_
    obtain ⟨rfl, rfl, rfl⟩ := P6
    show Run _ _ _ _ _ (mkF _ _ _ [.int 1, .int 1])
    refine s_icmp_eq w (oa 6 rfl) (by decide) 17 rfl 21 rfl (fun q => absurd q (by decide)) (fun _ => ?_)
    exact w_return w hEL hs hlk hret (oa 9 rfl) (by decide) (by decide) ⟨rfl, rfl⟩
  · exact absurd ct1 hz
def dL20al : List (Nat × Instr × Nat) := [(0, .aload_n 0, 1), (1, .invokevirtual 335, 3), (4, .iload_n 3, 1), (5, .if_icmp .ne 23, 3), (8, .aload_n 0, 1), (9, .getfield 9, 3), (12, .iconst 0, 1), (13, .aload_n 1, 1), (14, .iload_n 2, 1), (15, .iload_n 3, 1), (16, .ishl, 1), (17, .aload_n 0, 1), (18, .getfield 9, 3), (21, .arraylength, 1), (22, .invokestatic 212, 3), (25, .goto 18, 3)]
theorem dL20a : ∀ x ∈ dL20al, decode jdk_42_method_147_code x.1 = .ok x.2 := by decide +kernel
def dL20bl : List (Nat × Instr × Nat) := [(28, .aload_n 0, 1), (29, .getfield 9, 3), (32, .iconst 0, 1), (33, .aload_n 1, 1), (34, .iload_n 2, 1), (35, .aload_n 0, 1), (36, .getfield 9, 3), (39, .arraylength, 1), (40, .invokestatic 106, 3), (43, .return_, 1)]
theorem dL20b : ∀ x ∈ dL20bl, decode jdk_42_method_147_code x.1 = .ok x.2 := by decide +kernel
theorem rm_gby00 (G : Gl Z a0 zc fm tba ktb fba kfb) (h : Heap) (x : Addr) (t : Addr) (I0 : Int32) {cap : Nat} (tx : Addr) (kt kx : ClassId) (i : Nat) (ds : List Int32) (vd : List Value) (hI : I0 = Int32.ofNat i) (X0 : S0 Z h x tx kx ds) (At : Arv Z h t kt .byte (Int32.ofNat cap) vd (.int 0)) (hvl : vd.length = cap) (hic : i + ds.length ≤ cap ∧ cap ≤ 220) (hnt : tx ≠ t) :
    Met l Z consts_1 mN20 jdk_42_method_147_code 4 none (mkR 1 0 0 40) #[.ref x, .ref t, .int I0, .int 0] h [t] [t] (fun v h' => v = none ∧ Arv Z h' t kt .byte (Int32.ofNat cap) (vd.take i ++ low ds ++ vd.drop (i + ds.length)) (.int 0)) := by
  have G0 := G
  obtain ⟨hw, hEL, -⟩ := G
  refine Met.of (plainFor_of_name pn_1) ?_
  intro p e s m below meth c T hnm hret hlk hby hml hs w; have oa := @dat _ _ dL20a _ hby; have ob := @dat _ _ dL20b _ hby
  refine Run.cast (efL (L := #[vR x, vR t, vI I0, vI 0]) (by simp [argsToLocals, Value.category, vI, vR, vJ])) ?_
  have X1 := X0
  have Sx := X0.str
  obtain ⟨Ex, Vx, Cx, Ax, hds, hdl⟩ := X0
  refine jm w (oa 0 rfl) rfl rfl 1 rfl <| wV w hEL (cB10 hw) (Kw hw 140 rfl) (Kw hw 141 rfl) (Kw hw 143 rfl) (Kw hw 143 rfl) Ex (rm_cdr0 G0 h x Cx) all0 all0 [] [] rfl rfl rfl (oa 1 rfl) hml rfl 0 rfl (by decide) 4 rfl fun u1 N2 T h3 w K4 P5 => ?_
  obtain ⟨rfl, rfl, rfl⟩ := P5
  show Run _ _ _ _ _ (mkF _ _ _ [.int 0])
  refine jn w (oa 2 rfl) rfl 5 rfl <| jx w (oa 3 rfl) (by decide) 8 rfl 28 rfl (fun _ => ?_) (fun q => absurd q (by decide))
  refine jm w (oa 4 rfl) rfl rfl 9 rfl <| jF w (Kw hw 28 rfl) Via.refl Vx (oa 5 rfl) 12 rfl fun T w => ?_
  refine jc w 0 (oa 6 rfl) rfl 13 rfl <| jm w (oa 7 rfl) rfl rfl 14 rfl <| jn w (oa 8 rfl) rfl 15 rfl <| jn w (oa 9 rfl) rfl 16 rfl <| s_ishl w (oa 10 rfl) 17 rfl <| jm w (oa 11 rfl) rfl rfl 18 rfl ?_
  refine jF w (Kw hw 28 rfl) Via.refl Vx (oa 12 rfl) 21 rfl fun T w => ?_
  refine w_len w Ax (oa 13 rfl) 22 rfl ?_
  rw [shl0]
  refine w_copyB w (Kw hw 168 rfl) (Kw hw 171 rfl) (Kw hw 169 rfl) (Kw hw 170 rfl) (is := 0) (id := i) (n := ds.length) (us := low ds) Ax At rfl hI rfl (by omega) (by omega) (by omega) (by rw [ofNat_nat (by omega)]; omega) (by rw [ofNat_nat (by omega)]; omega) (range_low ds) (by omega) (mi 0 rfl) (Or.inl (mi 0 rfl)) rfl (oa 14 rfl) (by rw [hml]; rfl) (by decide) (W := 0) (Nat.le_of_eq rfl) (by decide) 25 rfl fun T h8 w K9 F10 => ?_
  refine jt w (oa 15 rfl) (by decide) 43 rfl ?_
  exact w_return w hEL hs hlk hret (ob 9 rfl) (by decide) (by decide) ⟨rfl, F10⟩
theorem rm_gby11 (G : Gl Z a0 zc fm tba ktb fba kfb) (h : Heap) (x : Addr) (t : Addr) (I0 : Int32) {cap : Nat} (tx : Addr) (kt kx : ClassId) (i : Nat) (ds : List Int32) (vd : List Value) (hI : I0 = Int32.ofNat i) (X0 : S1 Z h x tx kx ds) (At : Arv Z h t kt .byte (Int32.ofNat (2 * cap)) vd (.int 0)) (hvl : vd.length = 2 * cap) (hic : i + ds.length ≤ cap ∧ cap ≤ 220) (hnt : tx ≠ t) :
    Met l Z consts_1 mN20 jdk_42_method_147_code 4 none (mkR 1 0 0 40) #[.ref x, .ref t, .int I0, .int 1] h [t] [t] (fun v h' => v = none ∧ Arv Z h' t kt .byte (Int32.ofNat (2 * cap)) (vd.take (2 * i) ++ wideBytes ds ++ vd.drop (2 * (i + ds.length))) (.int 0)) := by
  have G0 := G
  obtain ⟨hw, hEL, -⟩ := G
  refine Met.of (plainFor_of_name pn_1) ?_
  intro p e s m below meth c T hnm hret hlk hby hml hs w; have oa := @dat _ _ dL20a _ hby; have ob := @dat _ _ dL20b _ hby
  refine Run.cast (efL (L := #[vR x, vR t, vI I0, vI 1]) (by simp [argsToLocals, Value.category, vI, vR, vJ])) ?_
  have X1 := X0
  have Sx := X0.str
  obtain ⟨Ex, Vx, Cx, Ax, hds, hdl⟩ := X0
  refine jm w (oa 0 rfl) rfl rfl 1 rfl <| wV w hEL (cB10 hw) (Kw hw 140 rfl) (Kw hw 141 rfl) (Kw hw 143 rfl) (Kw hw 143 rfl) Ex (rm_cdr1 G0 h x Cx) all0 all0 [] [] rfl rfl rfl (oa 1 rfl) hml rfl 0 rfl (by decide) 4 rfl fun u1 N2 T h3 w K4 P5 => ?_
  obtain ⟨rfl, rfl, rfl⟩ := P5
  show Run _ _ _ _ _ (mkF _ _ _ [.int 1])
  refine jn w (oa 2 rfl) rfl 5 rfl <| jx w (oa 3 rfl) (by decide) 8 rfl 28 rfl (fun _ => ?_) (fun q => absurd q (by decide))
  refine jm w (oa 4 rfl) rfl rfl 9 rfl <| jF w (Kw hw 28 rfl) Via.refl Vx (oa 5 rfl) 12 rfl fun T w => ?_
  refine jc w 0 (oa 6 rfl) rfl 13 rfl <| jm w (oa 7 rfl) rfl rfl 14 rfl <| jn w (oa 8 rfl) rfl 15 rfl <| jn w (oa 9 rfl) rfl 16 rfl <| s_ishl w (oa 10 rfl) 17 rfl <| jm w (oa 11 rfl) rfl rfl 18 rfl ?_
  refine jF w (Kw hw 28 rfl) Via.refl Vx (oa 12 rfl) 21 rfl fun T w => ?_
  refine w_len w Ax (oa 13 rfl) 22 rfl ?_
  rw [hI, ofN_shl (by omega)]
  refine w_copyB w (Kw hw 168 rfl) (Kw hw 171 rfl) (Kw hw 169 rfl) (Kw hw 170 rfl) (is := 0) (id := (2 * i)) (n := (2 * ds.length)) (us := (wideBytes ds)) Ax At rfl rfl rfl (by omega) (by omega) (by omega) (by rw [ofNat_nat (by omega)]; omega) (by rw [ofNat_nat (by omega)]; omega) (wrange ds) (by omega) (mi 0 rfl) (Or.inl (mi 0 rfl)) rfl (oa 14 rfl) (by rw [hml]; rfl) (by decide) (W := 0) (Nat.le_of_eq rfl) (by decide) 25 rfl fun T h8 w K9 F10 => ?_
  rw [← Nat.mul_add] at F10
  refine jt w (oa 15 rfl) (by decide) 43 rfl ?_
  exact w_return w hEL hs hlk hret (ob 9 rfl) (by decide) (by decide) ⟨rfl, F10⟩
theorem rm_gby10 (G : Gl Z a0 zc fm tba ktb fba kfb) (h : Heap) (x : Addr) (t : Addr) (I0 : Int32) {cap : Nat} (tx : Addr) (kt kx : ClassId) (i : Nat) (ds : List Int32) (vd : List Value) (hI : I0 = Int32.ofNat i) (X0 : S0 Z h x tx kx ds) (At : Arv Z h t kt .byte (Int32.ofNat (2 * cap)) vd (.int 0)) (hvl : vd.length = 2 * cap) (hic : i + ds.length ≤ cap ∧ cap ≤ 220) (hnt : tx ≠ t) :
    Met l Z consts_1 mN20 jdk_42_method_147_code 4 none (mkR 5 0 0 76) #[.ref x, .ref t, .int I0, .int 1] h [t] [t] (fun v h' => v = none ∧ Arv Z h' t kt .byte (Int32.ofNat (2 * cap)) (vd.take (2 * i) ++ wideBytes ds ++ vd.drop (2 * (i + ds.length))) (.int 0)) := by
  have G0 := G
  obtain ⟨hw, hEL, -⟩ := G
  refine Met.of (plainFor_of_name pn_1) ?_
  intro p e s m below meth c T hnm hret hlk hby hml hs w; have oa := @dat _ _ dL20a _ hby; have ob := @dat _ _ dL20b _ hby
  refine Run.cast (efL (L := #[vR x, vR t, vI I0, vI 1]) (by simp [argsToLocals, Value.category, vI, vR, vJ])) ?_
  have X1 := X0
  have Sx := X0.str
  obtain ⟨Ex, Vx, Cx, Ax, hds, hdl⟩ := X0
  refine jm w (oa 0 rfl) rfl rfl 1 rfl <| wV w hEL (cB10 hw) (Kw hw 140 rfl) (Kw hw 141 rfl) (Kw hw 143 rfl) (Kw hw 143 rfl) Ex (rm_cdr0 G0 h x Cx) all0 all0 [] [] rfl rfl rfl (oa 1 rfl) hml rfl 0 rfl (by decide) 4 rfl fun u1 N2 T h3 w K4 P5 => ?_
  obtain ⟨rfl, rfl, rfl⟩ := P5
  show Run _ _ _ _ _ (mkF _ _ _ [.int 0])
  refine jn w (oa 2 rfl) rfl 5 rfl <| jx w (oa 3 rfl) (by decide) 8 rfl 28 rfl (fun q => absurd q (by decide)) (fun _ => ?_)
  refine jm w (ob 0 rfl) rfl rfl 29 rfl <| jF w (Kw hw 28 rfl) Via.refl Vx (ob 1 rfl) 32 rfl fun T w => ?_
  refine jc w 0 (ob 2 rfl) rfl 33 rfl <| jm w (ob 3 rfl) rfl rfl 34 rfl <| jn w (ob 4 rfl) rfl 35 rfl <| jm w (ob 5 rfl) rfl rfl 36 rfl <| jF w (Kw hw 28 rfl) Via.refl Vx (ob 6 rfl) 39 rfl fun T w => ?_
  refine w_len w Ax (ob 7 rfl) 40 rfl ?_
  refine wS w hEL (cB9 hw) (Kw hw 331 rfl) (rm_lif G0 h tx t I0 _ i kx kt _ _ vd ds hI rfl Ax (by rw [ofNat_nat (by omega)]; omega) (fun j hj => low_get hj) hds At hvl hic hnt) (allS (mi 0 rfl) all0) (allS (Or.inl (mi 0 rfl)) all0) [.ref tx, .int 0, .ref t, .int I0, .int (Int32.ofNat ds.length)] [] rfl rfl rfl (ob 8 rfl) hml rfl 0 rfl (by decide) 43 rfl fun u8 N9 T h10 w K11 P12 => ?_
  obtain ⟨rfl, rfl, P9⟩ := P12
  show Run _ _ _ _ _ (mkF _ _ _ [])
  exact w_return w hEL hs hlk hret (ob 9 rfl) (by decide) (by decide) ⟨rfl, P9⟩
def dL21al : List (Nat × Instr × Nat) := [(0, .aload_n 0, 1), (1, .aload_n 2, 1), (2, .invokevirtual 397, 3), (5, .aload_n 2, 1), (6, .aload_n 0, 1), (7, .getfield 15, 3), (10, .iload_n 1, 1), (11, .aload_n 0, 1), (12, .getfield 22, 3), (15, .invokevirtual 399, 3), (18, .return_, 1)]
theorem dL21a : ∀ x ∈ dL21al, decode jdk_68_method_73_code x.1 = .ok x.2 := by decide +kernel
theorem rm_psa00 (G : Gl Z a0 zc fm tba ktb fba kfb) (h : Heap) (b : Addr) (I0 : Int32) (x : Addr) {cap : Nat} (t tx : Addr) (kt kx : ClassId) (cs ds : List Int32) (B0 : Sb0 Z h b t kt cap cs) (X0 : S0 Z h x tx kx ds) (hI : I0 = Int32.ofNat cs.length) (hfit : cs.length + ds.length ≤ cap) (hnt : tx ≠ t) :
    Met l Z consts_1 mN21 jdk_68_method_73_code 3 none (mkR 2 0 0 55) #[.ref b, .int I0, .ref x] h [t] [t] (fun v h' => v = none ∧ Arv Z h' t kt .byte (Int32.ofNat cap) (room_ (cs ++ ds) cap) (.int 0)) := by
  have G0 := G
  obtain ⟨hw, hEL, -⟩ := G
  refine Met.of (plainFor_of_name pn_4) ?_
  intro p e s m below meth c T hnm hret hlk hby hml hs w; have oa := @dat _ _ dL21a _ hby
  refine Run.cast (efL (L := #[vR b, vI I0, vR x]) (by simp [argsToLocals, Value.category, vI, vR, vJ])) ?_
  have B1 := B0
  obtain ⟨Eb, Vb, Cb, Nb, Mb, At, hcs, hcl⟩ := B0
  have X1 := X0
  have Sx := X0.str
  obtain ⟨Ex, Vx, Cx, Ax, hds, hdl⟩ := X0
  refine jm w (oa 0 rfl) rfl rfl 1 rfl <| jm w (oa 1 rfl) rfl rfl 2 rfl <| wP w hEL (cB12 hw) (Kw hw 157 rfl) (Kw hw 209 rfl) rfl (Kw hw 159 rfl) Eb (rm_inf00 G0 h b x t tx kt kx cs ds B1 X1) all0 all0 [.ref x] [] rfl rfl rfl (oa 2 rfl) hml rfl 0 rfl (by decide) 5 rfl fun u1 N2 T h3 w K4 P5 => ?_
  obtain ⟨rfl, rfl, rfl⟩ := P5
  show Run _ _ _ _ _ (mkF _ _ _ [])
  refine jm w (oa 3 rfl) rfl rfl 6 rfl <| jm w (oa 4 rfl) rfl rfl 7 rfl <| jF w (Kw hw 120 rfl) Via.refl Vb (oa 5 rfl) 10 rfl fun T w => ?_
  refine jn w (oa 6 rfl) rfl 11 rfl <| jm w (oa 7 rfl) rfl rfl 12 rfl <| jF w (Kw hw 122 rfl) Via.refl Cb (oa 8 rfl) 15 rfl fun T w => ?_
  refine wV w hEL (cB13 hw) (Kw hw 163 rfl) (Kw hw 164 rfl) (Kw hw 166 rfl) (Kw hw 166 rfl) Ex (rm_gby00 G0 h x t I0 tx kt kx cs.length ds _ hI X1 At (room_len hcl.1) ⟨hfit, hcl.2⟩ hnt) (allS (mi 0 rfl) all0) (allS (Or.inl (mi 0 rfl)) all0) [.ref t, .int I0, .int 0] [] rfl rfl rfl (oa 9 rfl) hml rfl 0 rfl (by decide) 18 rfl fun u7 N8 T h9 w K10 P11 => ?_
  obtain ⟨rfl, rfl, P9⟩ := P11
  rw [room_put hfit] at P9
  show Run _ _ _ _ _ (mkF _ _ _ [])
  exact w_return w hEL hs hlk hret (oa 10 rfl) (by decide) (by decide) ⟨rfl, P9⟩
theorem rm_psa01 (G : Gl Z a0 zc fm tba ktb fba kfb) (h : Heap) (b : Addr) (I0 : Int32) (x : Addr) {cap : Nat} (t tx : Addr) (kt kx : ClassId) (cs ds : List Int32) (B0 : Sb0 Z h b t kt cap cs) (X0 : S1 Z h x tx kx ds) (hc48 : cap ≤ 48) (hI : I0 = Int32.ofNat cs.length) (hfit : cs.length + ds.length ≤ cap) (hnt : tx ≠ t) :
    MetN l Z consts_1 mN21 jdk_68_method_73_code 3 none (mkR 7 1 96 102) #[.ref b, .int I0, .ref x] h [] [b] (fun v h' N => v = none ∧ ∃ t1 k1, N = [t1] ∧ h.size ≤ t1 ∧ Exa Z h' b SBC ∧ Fld Z h' b ASB "value" "[B" (.ref t1) ∧ Fld Z h' b ASB "coder" "B" (.int 1) ∧ Fld Z h' b ASB "count" "I" (.int (Int32.ofNat cs.length)) ∧ Fld Z h' b ASB "maybeLatin1" "Z" (.int 0) ∧ Arv Z h' t1 k1 .byte (Int32.ofNat (2 * cap)) (wroom (cs ++ ds) cap) (.int 0)) := by
  have G0 := G
  obtain ⟨hw, hEL, -⟩ := G
  refine MetN.of (plainFor_of_name pn_4) ?_
  intro p e s m below meth c T hnm hret hlk hby hml hs w; have oa := @dat _ _ dL21a _ hby
  refine Run.cast (efL (L := #[vR b, vI I0, vR x]) (by simp [argsToLocals, Value.category, vI, vR, vJ])) ?_
  have B1 := B0
  obtain ⟨Eb, Vb, Cb, Nb, Mb, At, hcs, hcl⟩ := B0
  have X1 := X0
  have Sx := X0.str
  obtain ⟨Ex, Vx, Cx, Ax, hds, hdl⟩ := X0
  refine jm w (oa 0 rfl) rfl rfl 1 rfl <| jm w (oa 1 rfl) rfl rfl 2 rfl <| wP w hEL (cB12 hw) (Kw hw 157 rfl) (Kw hw 209 rfl) rfl (Kw hw 159 rfl) Eb (rm_inf01 G0 h b x t tx kt kx cs ds B1 X1 hc48) all0 (allS (Or.inl (mi 0 rfl)) all0) [.ref x] [] rfl rfl rfl (oa 2 rfl) hml rfl 0 rfl (by decide) 5 rfl fun u1 N2 T h3 w K4 P5 => ?_
  obtain ⟨rfl, t1, k1, rfl, P8, Eb1, Vb1, Cb1, Nb1, Mb1, At1, hcs1, hcl1⟩ := P5
  have nbx : x ∉ [b] := ninS (ne_exa Ex Eb (by decide)) nin0
  have nbt : tx ∉ [b] := ninS (Exa.neArv Eb Ax (Kw hw 107 rfl)).symm nin0
  have X2 : S1 Z h3 x tx kx ds := ⟨Ex.keep K4, Vx.keep K4 nbx, Cx.keep K4 nbx, Ax.keep K4 nbt, hds, hdl⟩
  show Run _ _ _ _ _ (mkF _ _ _ [])
  refine jm w (oa 3 rfl) rfl rfl 6 rfl <| jm w (oa 4 rfl) rfl rfl 7 rfl <| jF w (Kw hw 120 rfl) Via.refl Vb1 (oa 5 rfl) 10 rfl fun T w => ?_
  refine jn w (oa 6 rfl) rfl 11 rfl <| jm w (oa 7 rfl) rfl rfl 12 rfl <| jF w (Kw hw 122 rfl) Via.refl Cb1 (oa 8 rfl) 15 rfl fun T w => ?_
  refine wV w hEL (cB13 hw) (Kw hw 163 rfl) (Kw hw 164 rfl) (Kw hw 166 rfl) (Kw hw 166 rfl) X2.1 (rm_gby11 G0 h3 x t1 I0 tx k1 kx cs.length ds _ hI X2 At1 (wroom_len hcl.1) ⟨hfit, hcl.2⟩ (fun z => absurd P8 (by rw [← z]; exact Nat.not_le.mpr Ax.lt))) (allS (mi 0 rfl) all0) (allS (Or.inr P8) all0) [.ref t1, .int I0, .int 1] [] rfl rfl rfl (oa 9 rfl) hml rfl 0 rfl (by decide) 18 rfl fun u6 N7 T h8 w K9 P10 => ?_
  obtain ⟨rfl, rfl, P9⟩ := P10
  rw [Nat.mul_add, wroom_put hfit] at P9
  have nt1 : b ∉ [t1] := ninS (Exa.neArv Eb1 At1 (Kw hw 107 rfl)) nin0
  have Vb2 := Vb1.keep K9 nt1
  have Cb2 := Cb1.keep K9 nt1
  have Nb2 := Nb1.keep K9 nt1
  have Mb2 := Mb1.keep K9 nt1
  have Eb2 := Eb1.keep K9
  show Run _ _ _ _ _ (mkF _ _ _ [])
  exact w_returnN w hEL hs hlk hret (oa 10 rfl) (by decide) (by decide) (N := [t1]) (allP (List.mem_cons_self ..)) ⟨rfl, t1, k1, rfl, P8, Eb2, Vb2, Cb2, Nb2, Mb2, P9⟩
theorem rm_psa10 (G : Gl Z a0 zc fm tba ktb fba kfb) (h : Heap) (b : Addr) (I0 : Int32) (x : Addr) {cap : Nat} (t tx : Addr) (kt kx : ClassId) (cs ds : List Int32) (B0 : Sb1 Z h b t kt cap cs) (X0 : S0 Z h x tx kx ds) (hI : I0 = Int32.ofNat cs.length) (hfit : cs.length + ds.length ≤ cap) (hnt : tx ≠ t) :
    Met l Z consts_1 mN21 jdk_68_method_73_code 3 none (mkR 6 0 0 91) #[.ref b, .int I0, .ref x] h [t] [t] (fun v h' => v = none ∧ Arv Z h' t kt .byte (Int32.ofNat (2 * cap)) (wroom (cs ++ ds) cap) (.int 0)) := by
  have G0 := G
  obtain ⟨hw, hEL, -⟩ := G
  refine Met.of (plainFor_of_name pn_4) ?_
  intro p e s m below meth c T hnm hret hlk hby hml hs w; have oa := @dat _ _ dL21a _ hby
  refine Run.cast (efL (L := #[vR b, vI I0, vR x]) (by simp [argsToLocals, Value.category, vI, vR, vJ])) ?_
  have B1 := B0
  obtain ⟨Eb, Vb, Cb, Nb, Mb, At, hcs, hcl⟩ := B0
  have X1 := X0
  have Sx := X0.str
  obtain ⟨Ex, Vx, Cx, Ax, hds, hdl⟩ := X0
  refine jm w (oa 0 rfl) rfl rfl 1 rfl <| jm w (oa 1 rfl) rfl rfl 2 rfl <| wP w hEL (cB12 hw) (Kw hw 157 rfl) (Kw hw 209 rfl) rfl (Kw hw 159 rfl) Eb (rm_inf10 G0 h b x t tx kt kx cs ds B1 X1) all0 all0 [.ref x] [] rfl rfl rfl (oa 2 rfl) hml rfl 0 rfl (by decide) 5 rfl fun u1 N2 T h3 w K4 P5 => ?_
  obtain ⟨rfl, rfl, rfl⟩ := P5
  show Run _ _ _ _ _ (mkF _ _ _ [])
  refine jm w (oa 3 rfl) rfl rfl 6 rfl <| jm w (oa 4 rfl) rfl rfl 7 rfl <| jF w (Kw hw 120 rfl) Via.refl Vb (oa 5 rfl) 10 rfl fun T w => ?_
  refine jn w (oa 6 rfl) rfl 11 rfl <| jm w (oa 7 rfl) rfl rfl 12 rfl <| jF w (Kw hw 122 rfl) Via.refl Cb (oa 8 rfl) 15 rfl fun T w => ?_
  refine wV w hEL (cB13 hw) (Kw hw 163 rfl) (Kw hw 164 rfl) (Kw hw 166 rfl) (Kw hw 166 rfl) Ex (rm_gby10 G0 h x t I0 tx kt kx cs.length ds _ hI X1 At (wroom_len hcl.1) ⟨hfit, hcl.2⟩ hnt) (allS (mi 0 rfl) all0) (allS (Or.inl (mi 0 rfl)) all0) [.ref t, .int I0, .int 1] [] rfl rfl rfl (oa 9 rfl) hml rfl 0 rfl (by decide) 18 rfl fun u7 N8 T h9 w K10 P11 => ?_
  obtain ⟨rfl, rfl, P9⟩ := P11
  rw [Nat.mul_add, wroom_put hfit] at P9
  show Run _ _ _ _ _ (mkF _ _ _ [])
  exact w_return w hEL hs hlk hret (oa 10 rfl) (by decide) (by decide) ⟨rfl, P9⟩
theorem rm_psa11 (G : Gl Z a0 zc fm tba ktb fba kfb) (h : Heap) (b : Addr) (I0 : Int32) (x : Addr) {cap : Nat} (t tx : Addr) (kt kx : ClassId) (cs ds : List Int32) (B0 : Sb1 Z h b t kt cap cs) (X0 : S1 Z h x tx kx ds) (hI : I0 = Int32.ofNat cs.length) (hfit : cs.length + ds.length ≤ cap) (hnt : tx ≠ t) :
    Met l Z consts_1 mN21 jdk_68_method_73_code 3 none (mkR 2 0 0 55) #[.ref b, .int I0, .ref x] h [t] [t] (fun v h' => v = none ∧ Arv Z h' t kt .byte (Int32.ofNat (2 * cap)) (wroom (cs ++ ds) cap) (.int 0)) := by
  have G0 := G
  obtain ⟨hw, hEL, -⟩ := G
  refine Met.of (plainFor_of_name pn_4) ?_
  intro p e s m below meth c T hnm hret hlk hby hml hs w; have oa := @dat _ _ dL21a _ hby
  refine Run.cast (efL (L := #[vR b, vI I0, vR x]) (by simp [argsToLocals, Value.category, vI, vR, vJ])) ?_
  have B1 := B0
  obtain ⟨Eb, Vb, Cb, Nb, Mb, At, hcs, hcl⟩ := B0
  have X1 := X0
  have Sx := X0.str
  obtain ⟨Ex, Vx, Cx, Ax, hds, hdl⟩ := X0
  refine jm w (oa 0 rfl) rfl rfl 1 rfl <| jm w (oa 1 rfl) rfl rfl 2 rfl <| wP w hEL (cB12 hw) (Kw hw 157 rfl) (Kw hw 209 rfl) rfl (Kw hw 159 rfl) Eb (rm_inf11 G0 h b x t tx kt kx cs ds B1 X1) all0 all0 [.ref x] [] rfl rfl rfl (oa 2 rfl) hml rfl 0 rfl (by decide) 5 rfl fun u1 N2 T h3 w K4 P5 => ?_
  obtain ⟨rfl, rfl, rfl⟩ := P5
  show Run _ _ _ _ _ (mkF _ _ _ [])
  refine jm w (oa 3 rfl) rfl rfl 6 rfl <| jm w (oa 4 rfl) rfl rfl 7 rfl <| jF w (Kw hw 120 rfl) Via.refl Vb (oa 5 rfl) 10 rfl fun T w => ?_
  refine jn w (oa 6 rfl) rfl 11 rfl <| jm w (oa 7 rfl) rfl rfl 12 rfl <| jF w (Kw hw 122 rfl) Via.refl Cb (oa 8 rfl) 15 rfl fun T w => ?_
  refine wV w hEL (cB13 hw) (Kw hw 163 rfl) (Kw hw 164 rfl) (Kw hw 166 rfl) (Kw hw 166 rfl) Ex (rm_gby11 G0 h x t I0 tx kt kx cs.length ds _ hI X1 At (wroom_len hcl.1) ⟨hfit, hcl.2⟩ hnt) (allS (mi 0 rfl) all0) (allS (Or.inl (mi 0 rfl)) all0) [.ref t, .int I0, .int 1] [] rfl rfl rfl (oa 9 rfl) hml rfl 0 rfl (by decide) 18 rfl fun u7 N8 T h9 w K10 P11 => ?_
  obtain ⟨rfl, rfl, P9⟩ := P11
  rw [Nat.mul_add, wroom_put hfit] at P9
  show Run _ _ _ _ _ (mkF _ _ _ [])
  exact w_return w hEL hs hlk hret (oa 10 rfl) (by decide) (by decide) ⟨rfl, P9⟩
def dL22al : List (Nat × Instr × Nat) := [(0, .aload_n 0, 1), (1, .getfield 15, 3), (4, .arraylength, 1), (5, .aload_n 0, 1), (6, .getfield 22, 3), (9, .ishr, 1), (10, .istore_n 2, 1), (11, .iload_n 1, 1), (12, .iload_n 2, 1), (13, .isub, 1), (14, .ifCond .le 24, 3), (17, .aload_n 0, 1), (18, .aload_n 0, 1), (19, .getfield 15, 3), (22, .aload_n 0, 1), (23, .iload_n 1, 1)]
theorem dL22a : ∀ x ∈ dL22al, decode jdk_68_method_9_code x.1 = .ok x.2 := by decide +kernel
def dL22bl : List (Nat × Instr × Nat) := [(24, .invokevirtual 104, 3), (27, .aload_n 0, 1), (28, .getfield 22, 3), (31, .ishl, 1), (32, .invokestatic 108, 3), (35, .putfield 15, 3), (38, .return_, 1)]
theorem dL22b : ∀ x ∈ dL22bl, decode jdk_68_method_9_code x.1 = .ok x.2 := by decide +kernel
theorem rm_eci0 (G : Gl Z a0 zc fm tba ktb fba kfb) (h : Heap) (b : Addr) (M : Int32) {cap : Nat} (t : Addr) (kt : ClassId) (m0 : Nat) (cs : List Int32) (hM : M = Int32.ofNat m0) (hm : m0 ≤ cap) (B0 : Sb0 Z h b t kt cap cs) :
    Met l Z consts_1 mN22 jdk_68_method_9_code 3 none (mkR 0 0 0 0) #[.ref b, .int M] h [] [] (fun v h' => v = none ∧ h = h') := by
  obtain ⟨hw, hEL, -⟩ := G
  refine Met.of (plainFor_of_name pn_4) ?_
  intro p e s m below meth c T hnm hret hlk hby hml hs w; have oa := @dat _ _ dL22a _ hby; have ob := @dat _ _ dL22b _ hby
  refine Run.cast (efL (L := #[vR b, vI M, .unset]) (by simp [argsToLocals, Value.category, vI, vR, vJ])) ?_
  have B1 := B0
  obtain ⟨Eb, Vb, Cb, Nb, Mb, At, hcs, hcl⟩ := B0
  refine jm w (oa 0 rfl) rfl rfl 1 rfl <| jF w (Kw hw 120 rfl) Via.refl Vb (oa 1 rfl) 4 rfl fun T w => ?_
  refine w_len w At (oa 2 rfl) 5 rfl ?_
  refine jm w (oa 3 rfl) rfl rfl 6 rfl <| jF w (Kw hw 122 rfl) Via.refl Cb (oa 4 rfl) 9 rfl fun T w => ?_
  refine s_ishr w (oa 5 rfl) 10 rfl ?_
  rw [shr0']
  refine s_istore_n w #[vR b, vI M, vI (Int32.ofNat cap)] (oa 6 rfl) rfl 11 rfl <| jn w (oa 7 rfl) rfl 12 rfl <| jn w (oa 8 rfl) rfl 13 rfl <| s_isub w (oa 9 rfl) 14 rfl <| s_if_le w (oa 10 rfl) (by decide) 17 rfl 38 rfl (fun ct1 => ?_) (fun ct1 => ?_)
  · exact absurd ct1 (by rw [hM]; exact sub_le hm (by omega))
  · skip
    exact w_return w hEL hs hlk hret (ob 6 rfl) (by decide) (by decide) ⟨rfl, rfl⟩
theorem rm_eci1 (G : Gl Z a0 zc fm tba ktb fba kfb) (h : Heap) (b : Addr) (M : Int32) {cap : Nat} (t : Addr) (kt : ClassId) (m0 : Nat) (cs : List Int32) (hM : M = Int32.ofNat m0) (hm : m0 ≤ cap) (B0 : Sb1 Z h b t kt cap cs) :
    Met l Z consts_1 mN22 jdk_68_method_9_code 3 none (mkR 0 0 0 0) #[.ref b, .int M] h [] [] (fun v h' => v = none ∧ h = h') := by
  obtain ⟨hw, hEL, -⟩ := G
  refine Met.of (plainFor_of_name pn_4) ?_
  intro p e s m below meth c T hnm hret hlk hby hml hs w; have oa := @dat _ _ dL22a _ hby; have ob := @dat _ _ dL22b _ hby
  refine Run.cast (efL (L := #[vR b, vI M, .unset]) (by simp [argsToLocals, Value.category, vI, vR, vJ])) ?_
  have B1 := B0
  obtain ⟨Eb, Vb, Cb, Nb, Mb, At, hcs, hcl⟩ := B0
  refine jm w (oa 0 rfl) rfl rfl 1 rfl <| jF w (Kw hw 120 rfl) Via.refl Vb (oa 1 rfl) 4 rfl fun T w => ?_
  refine w_len w At (oa 2 rfl) 5 rfl ?_
  refine jm w (oa 3 rfl) rfl rfl 6 rfl <| jF w (Kw hw 122 rfl) Via.refl Cb (oa 4 rfl) 9 rfl fun T w => ?_
  refine s_ishr w (oa 5 rfl) 10 rfl ?_
  rw [ofN_shr (by omega)]
  refine s_istore_n w #[vR b, vI M, vI (Int32.ofNat cap)] (oa 6 rfl) rfl 11 rfl <| jn w (oa 7 rfl) rfl 12 rfl <| jn w (oa 8 rfl) rfl 13 rfl <| s_isub w (oa 9 rfl) 14 rfl <| s_if_le w (oa 10 rfl) (by decide) 17 rfl 38 rfl (fun ct1 => ?_) (fun ct1 => ?_)
  · exact absurd ct1 (by rw [hM]; exact sub_le hm (by omega))
  · skip
    exact w_return w hEL hs hlk hret (ob 6 rfl) (by decide) (by decide) ⟨rfl, rfl⟩
def dL23al : List (Nat × Instr × Nat) := [(0, .aload_n 1, 1), (1, .ifnonnull 8, 3), (9, .aload_n 1, 1), (10, .invokevirtual 32, 3), (13, .istore_n 2, 1), (14, .aload_n 0, 1), (15, .aload_n 0, 1), (16, .getfield 79, 3), (19, .iload_n 2, 1), (20, .iadd, 1), (21, .invokevirtual 100, 3), (24, .aload_n 0, 1), (25, .aload_n 0, 1), (26, .getfield 79, 3), (29, .aload_n 1, 1), (30, .invokevirtual 208, 3)]
theorem dL23a : ∀ x ∈ dL23al, decode jdk_68_method_22_code x.1 = .ok x.2 := by decide +kernel
def dL23bl : List (Nat × Instr × Nat) := [(33, .aload_n 0, 1), (34, .dup, 1), (35, .getfield 79, 3), (38, .iload_n 2, 1), (39, .iadd, 1), (40, .putfield 79, 3), (43, .aload_n 0, 1), (44, .areturn, 1)]
theorem dL23b : ∀ x ∈ dL23bl, decode jdk_68_method_22_code x.1 = .ok x.2 := by decide +kernel
theorem rm_asa00 (G : Gl Z a0 zc fm tba ktb fba kfb) (h : Heap) (b : Addr) (x : Addr) {cap : Nat} (t tx : Addr) (kt kx : ClassId) (cs ds : List Int32) (B0 : Sb0 Z h b t kt cap cs) (X0 : S0 Z h x tx kx ds) (hfit : cs.length + ds.length ≤ cap) (hnt : tx ≠ t) :
    MetN l Z consts_1 mN23 jdk_68_method_22_code 3 (some (.object "java/lang/AbstractStringBuilder")) (mkR 3 0 0 69) #[.ref b, .ref x] h [t] [b, t] (fun v h' N => v = some (.ref b) ∧ ∃ t1 k1, N = [t1] ∧ (t1 = t ∨ h.size ≤ t1) ∧ Sb0 Z h' b t1 k1 cap (cs ++ ds)) := by
  have G0 := G
  obtain ⟨hw, hEL, SC, hz, -⟩ := G
  refine MetN.of (plainFor_of_name pn_4) ?_
  intro p e s m below meth c T hnm hret hlk hby hml hs w; have oa := @dat _ _ dL23a _ hby; have ob := @dat _ _ dL23b _ hby
  refine Run.cast (efL (L := #[vR b, vR x, .unset]) (by simp [argsToLocals, Value.category, vI, vR, vJ])) ?_
  have B1 := B0
  obtain ⟨Eb, Vb, Cb, Nb, Mb, At, hcs, hcl⟩ := B0
  have X1 := X0
  have Sx := X0.str
  obtain ⟨Ex, Vx, Cx, Ax, hds, hdl⟩ := X0
  have hwL := fun d q => hw d (subL d q)
  have hcx : Int32.ofNat cs.length + Int32.ofNat ds.length = Int32.ofNat (cs.length + ds.length) := (Int32.ofNat_add _ _).symm
  have ntb : b ≠ t := Exa.neArv Eb At (Kw hw 107 rfl)
  refine jm w (oa 0 rfl) rfl rfl 1 rfl <| s_ifnonnull_yes w (oa 1 rfl) (by decide) 9 rfl <| jm w (oa 2 rfl) rfl rfl 10 rfl ?_
  obtain ⟨XE, Xt, Xkb, Xcd, XN, Xvs, Xq1, Xq2, Xq3, Xq4, Xq5, Xq6⟩ := id Sx
  refine w_virtB w (y := Len.yN) (y' := Len.yN) (C := ST) (Kw hw 135 rfl) (Kw hw 136 rfl) (Kw hw 138 rfl) (Kw hw 138 rfl) (Kw hw 137 rfl) (by decide) XE (Pv := fun v => v = some (.int (Int32.ofNat (ds).length))) (as' := #[.ref x]) (W := 0) (fun vm0 hZ => StrChars.Road.lenW hZ hwL (Kw hw 1 rfl) XE Xq1 Xq2 Xq3 Xq4 Xq5 (SC.ext w.old) hz Xq6 (by decide) (by decide)) (argsL := []) (rest := []) (lenOf pD7 rfl) rfl rfl (oa 3 rfl) (by rw [hml]; rfl) (Nat.le_of_eq rfl) (by decide) (by decide) 13 rfl fun u1 T w P2 => ?_
  obtain rfl := P2
  show Run _ _ _ _ _ (mkF _ _ _ [.int (Int32.ofNat (ds).length)])
  refine s_istore_n w #[vR b, vR x, vI (Int32.ofNat (ds).length)] (oa 4 rfl) rfl 14 rfl <| jm w (oa 5 rfl) rfl rfl 15 rfl <| jm w (oa 6 rfl) rfl rfl 16 rfl <| jF w (Kw hw 145 rfl) Via.refl Nb (oa 7 rfl) 19 rfl fun T w => ?_
  refine jn w (oa 8 rfl) rfl 20 rfl <| jp w (oa 9 rfl) 21 rfl <| wP w hEL (cB14 hw) (Kw hw 147 rfl) (Kw hw 209 rfl) rfl (Kw hw 149 rfl) Eb (rm_eci0 G0 h b _ t kt (cs.length + ds.length) cs hcx hfit B1) all0 all0 [.int ((Int32.ofNat cs.length) + (Int32.ofNat (ds).length))] [] rfl rfl rfl (oa 10 rfl) hml rfl 0 rfl (by decide) 24 rfl fun u3 N4 T h5 w K6 P7 => ?_
  obtain ⟨rfl, rfl, rfl⟩ := P7
  show Run _ _ _ _ _ (mkF _ _ _ [])
  refine jm w (oa 11 rfl) rfl rfl 25 rfl <| jm w (oa 12 rfl) rfl rfl 26 rfl <| jF w (Kw hw 145 rfl) Via.refl Nb (oa 13 rfl) 29 rfl fun T w => ?_
  refine jm w (oa 14 rfl) rfl rfl 30 rfl <| wP w hEL (cB15 hw) (Kw hw 152 rfl) (Kw hw 209 rfl) rfl (Kw hw 154 rfl) Eb (rm_psa00 G0 h b _ x t tx kt kx cs ds B1 X1 rfl hfit hnt) (allS (mi 0 rfl) all0) (allS (Or.inl (mi 1 rfl)) all0) [.int (Int32.ofNat cs.length), .ref x] [] rfl rfl rfl (oa 15 rfl) hml rfl 0 rfl (by decide) 33 rfl fun u9 N10 T h11 w K12 P13 => ?_
  obtain ⟨rfl, rfl, P9⟩ := P13
  have Vb1 := Vb.keep K12 (ninS ntb nin0)
  have Cb1 := Cb.keep K12 (ninS ntb nin0)
  have Nb1 := Nb.keep K12 (ninS ntb nin0)
  have Mb1 := Mb.keep K12 (ninS ntb nin0)
  have Eb1 := Eb.keep K12
  show Run _ _ _ _ _ (mkF _ _ _ [])
  refine jm w (ob 0 rfl) rfl rfl 34 rfl <| jd w (ob 1 rfl) rfl 35 rfl <| jF w (Kw hw 145 rfl) Via.refl Nb1 (ob 2 rfl) 38 rfl fun T w => ?_
  refine jn w (ob 3 rfl) rfl 39 rfl <| jp w (ob 4 rfl) 40 rfl ?_
  rw [hcx, ← List.length_append]
  refine w_putF w (Kw hw 145 rfl) Via.refl Nb1 Eb1 (Or.inl (Kw hw 146 rfl)) (Kw hw 107 rfl) (ty := .int) (by decide) rfl rfl (ob 5 rfl) (Or.inl (mi 0 rfl)) (Or.inl ⟨by decide, by decide⟩) 43 rfl fun T g1 w W1 F1 Y1 => ?_
  have sv : Jvm.RoadKit.slotOf Z ASB "value" "[B" ≠ Jvm.RoadKit.slotOf Z ASB "count" "I" := slot_ne (C := SBC) (Or.inl (Kw hw 121 rfl)) (Or.inl (Kw hw 146 rfl)) (by decide) (t := .array .byte) (t' := .int) (by decide) (by decide)
  have sc : Jvm.RoadKit.slotOf Z ASB "coder" "B" ≠ Jvm.RoadKit.slotOf Z ASB "count" "I" := slot_ne (C := SBC) (Or.inl (Kw hw 123 rfl)) (Or.inl (Kw hw 146 rfl)) (by decide) (t := .byte) (t' := .int) (by decide) (by decide)
  have sm : Jvm.RoadKit.slotOf Z ASB "maybeLatin1" "Z" ≠ Jvm.RoadKit.slotOf Z ASB "count" "I" := slot_ne (C := SBC) (Or.inl (Kw hw 333 rfl)) (Or.inl (Kw hw 146 rfl)) (by decide) (t := .boolean) (t' := .int) (by decide) (by decide)
  refine jm w (ob 6 rfl) rfl rfl 44 rfl ?_
  exact w_areturnN w hEL hs hlk hret rfl rfl (ob 7 rfl) (by decide) (by decide) (N := [t]) (allP (List.mem_cons_self ..)) ⟨rfl, t, kt, rfl, Or.inl rfl, Y1, Vb1.other W1 (Or.inr sv), Cb1.other W1 (Or.inr sc), F1, Mb1.other W1 (Or.inr sm), P9.other W1 (Exa.neArv Eb1 P9 (Kw hw 107 rfl)).symm, (fun c q => (List.mem_append.mp q).elim (hcs c) (hds c)), ⟨by rw [List.length_append]; exact hfit, hcl.2⟩⟩
theorem pn_5 : plainName "java/lang/StringBuilder" = true := by first | (simp [plainName, overriddenIn]; done) | decide +kernel
def dL24al : List (Nat × Instr × Nat) := [(0, .aload_n 0, 1), (1, .aload_n 1, 1), (2, .invokespecial 29, 3), (5, .pop, 1), (6, .aload_n 0, 1), (7, .areturn, 1)]
theorem dL24a : ∀ x ∈ dL24al, decode jdk_67_method_7_code x.1 = .ok x.2 := by decide +kernel
theorem rm_asa01 (G : Gl Z a0 zc fm tba ktb fba kfb) (h : Heap) (b : Addr) (x : Addr) {cap : Nat} (t tx : Addr) (kt kx : ClassId) (cs ds : List Int32) (B0 : Sb0 Z h b t kt cap cs) (X0 : S1 Z h x tx kx ds) (hc48 : cap ≤ 48) (hfit : cs.length + ds.length ≤ cap) (hnt : tx ≠ t) :
    MetN l Z consts_1 mN23 jdk_68_method_22_code 3 (some (.object "java/lang/AbstractStringBuilder")) (mkR 8 1 96 116) #[.ref b, .ref x] h [t] [b, t] (fun v h' N => v = some (.ref b) ∧ ∃ t1 k1, N = [t1] ∧ (t1 = t ∨ h.size ≤ t1) ∧ Sb1 Z h' b t1 k1 cap (cs ++ ds)) := by
  have G0 := G
  obtain ⟨hw, hEL, SC, hz, -⟩ := G
  refine MetN.of (plainFor_of_name pn_4) ?_
  intro p e s m below meth c T hnm hret hlk hby hml hs w; have oa := @dat _ _ dL23a _ hby; have ob := @dat _ _ dL23b _ hby
  refine Run.cast (efL (L := #[vR b, vR x, .unset]) (by simp [argsToLocals, Value.category, vI, vR, vJ])) ?_
  have B1 := B0
  obtain ⟨Eb, Vb, Cb, Nb, Mb, At, hcs, hcl⟩ := B0
  have X1 := X0
  have Sx := X0.str
  obtain ⟨Ex, Vx, Cx, Ax, hds, hdl⟩ := X0
  have hwL := fun d q => hw d (subL d q)
  have hcx : Int32.ofNat cs.length + Int32.ofNat ds.length = Int32.ofNat (cs.length + ds.length) := (Int32.ofNat_add _ _).symm
  have ntb : b ≠ t := Exa.neArv Eb At (Kw hw 107 rfl)
  refine jm w (oa 0 rfl) rfl rfl 1 rfl <| s_ifnonnull_yes w (oa 1 rfl) (by decide) 9 rfl <| jm w (oa 2 rfl) rfl rfl 10 rfl ?_
  obtain ⟨XE, Xt, Xkb, Xcd, XN, Xvs, Xq1, Xq2, Xq3, Xq4, Xq5, Xq6⟩ := id Sx
  refine w_virtB w (y := Len.yN) (y' := Len.yN) (C := ST) (Kw hw 135 rfl) (Kw hw 136 rfl) (Kw hw 138 rfl) (Kw hw 138 rfl) (Kw hw 137 rfl) (by decide) XE (Pv := fun v => v = some (.int (Int32.ofNat (ds).length))) (as' := #[.ref x]) (W := 0) (fun vm0 hZ => StrChars.Road.lenW hZ hwL (Kw hw 1 rfl) XE Xq1 Xq2 Xq3 Xq4 Xq5 (SC.ext w.old) hz Xq6 (by decide) (by decide)) (argsL := []) (rest := []) (lenOf pD7 rfl) rfl rfl (oa 3 rfl) (by rw [hml]; rfl) (Nat.le_of_eq rfl) (by decide) (by decide) 13 rfl fun u1 T w P2 => ?_
  obtain rfl := P2
  show Run _ _ _ _ _ (mkF _ _ _ [.int (Int32.ofNat (ds).length)])
  refine s_istore_n w #[vR b, vR x, vI (Int32.ofNat (ds).length)] (oa 4 rfl) rfl 14 rfl <| jm w (oa 5 rfl) rfl rfl 15 rfl <| jm w (oa 6 rfl) rfl rfl 16 rfl <| jF w (Kw hw 145 rfl) Via.refl Nb (oa 7 rfl) 19 rfl fun T w => ?_
  refine jn w (oa 8 rfl) rfl 20 rfl <| jp w (oa 9 rfl) 21 rfl <| wP w hEL (cB14 hw) (Kw hw 147 rfl) (Kw hw 209 rfl) rfl (Kw hw 149 rfl) Eb (rm_eci0 G0 h b _ t kt (cs.length + ds.length) cs hcx hfit B1) all0 all0 [.int ((Int32.ofNat cs.length) + (Int32.ofNat (ds).length))] [] rfl rfl rfl (oa 10 rfl) hml rfl 0 rfl (by decide) 24 rfl fun u3 N4 T h5 w K6 P7 => ?_
  obtain ⟨rfl, rfl, rfl⟩ := P7
  show Run _ _ _ _ _ (mkF _ _ _ [])
  refine jm w (oa 11 rfl) rfl rfl 25 rfl <| jm w (oa 12 rfl) rfl rfl 26 rfl <| jF w (Kw hw 145 rfl) Via.refl Nb (oa 13 rfl) 29 rfl fun T w => ?_
  refine jm w (oa 14 rfl) rfl rfl 30 rfl <| wP w hEL (cB15 hw) (Kw hw 152 rfl) (Kw hw 209 rfl) rfl (Kw hw 154 rfl) Eb (rm_psa01 G0 h b _ x t tx kt kx cs ds B1 X1 hc48 rfl hfit hnt) all0 (allS (Or.inl (mi 0 rfl)) all0) [.int (Int32.ofNat cs.length), .ref x] [] rfl rfl rfl (oa 15 rfl) hml rfl 0 rfl (by decide) 33 rfl fun u9 N10 T h11 w K12 P13 => ?_
  obtain ⟨rfl, t1, k1, rfl, P8, Eb1, Vb1, Cb1, Nb1, Mb1, P9⟩ := P13
  show Run _ _ _ _ _ (mkF _ _ _ [])
  refine jm w (ob 0 rfl) rfl rfl 34 rfl <| jd w (ob 1 rfl) rfl 35 rfl <| jF w (Kw hw 145 rfl) Via.refl Nb1 (ob 2 rfl) 38 rfl fun T w => ?_
  refine jn w (ob 3 rfl) rfl 39 rfl <| jp w (ob 4 rfl) 40 rfl ?_
  rw [hcx, ← List.length_append]
  refine w_putF w (Kw hw 145 rfl) Via.refl Nb1 Eb1 (Or.inl (Kw hw 146 rfl)) (Kw hw 107 rfl) (ty := .int) (by decide) rfl rfl (ob 5 rfl) (Or.inl (mi 0 rfl)) (Or.inl ⟨by decide, by decide⟩) 43 rfl fun T g1 w W1 F1 Y1 => ?_
  have sv : Jvm.RoadKit.slotOf Z ASB "value" "[B" ≠ Jvm.RoadKit.slotOf Z ASB "count" "I" := slot_ne (C := SBC) (Or.inl (Kw hw 121 rfl)) (Or.inl (Kw hw 146 rfl)) (by decide) (t := .array .byte) (t' := .int) (by decide) (by decide)
  have sc : Jvm.RoadKit.slotOf Z ASB "coder" "B" ≠ Jvm.RoadKit.slotOf Z ASB "count" "I" := slot_ne (C := SBC) (Or.inl (Kw hw 123 rfl)) (Or.inl (Kw hw 146 rfl)) (by decide) (t := .byte) (t' := .int) (by decide) (by decide)
  have sm : Jvm.RoadKit.slotOf Z ASB "maybeLatin1" "Z" ≠ Jvm.RoadKit.slotOf Z ASB "count" "I" := slot_ne (C := SBC) (Or.inl (Kw hw 333 rfl)) (Or.inl (Kw hw 146 rfl)) (by decide) (t := .boolean) (t' := .int) (by decide) (by decide)
  refine jm w (ob 6 rfl) rfl rfl 44 rfl ?_
  exact w_areturnN w hEL hs hlk hret rfl rfl (ob 7 rfl) (by decide) (by decide) (N := [t1]) (allP (List.mem_cons_self ..)) ⟨rfl, t1, k1, rfl, Or.inr P8, Y1, Vb1.other W1 (Or.inr sv), Cb1.other W1 (Or.inr sc), F1, Mb1.other W1 (Or.inr sm), P9.other W1 (Exa.neArv Eb1 P9 (Kw hw 107 rfl)).symm, ⟨fun c q => (List.mem_append.mp q).elim (fun z => lat_chr (hcs c z)) (hds.1 c), hds.2.elim fun c q => ⟨c, List.mem_append.mpr (Or.inr q.1), q.2⟩⟩, ⟨by rw [List.length_append]; exact hfit, hcl.2⟩⟩
theorem rm_asa10 (G : Gl Z a0 zc fm tba ktb fba kfb) (h : Heap) (b : Addr) (x : Addr) {cap : Nat} (t tx : Addr) (kt kx : ClassId) (cs ds : List Int32) (B0 : Sb1 Z h b t kt cap cs) (X0 : S0 Z h x tx kx ds) (hfit : cs.length + ds.length ≤ cap) (hnt : tx ≠ t) :
    MetN l Z consts_1 mN23 jdk_68_method_22_code 3 (some (.object "java/lang/AbstractStringBuilder")) (mkR 7 0 0 105) #[.ref b, .ref x] h [t] [b, t] (fun v h' N => v = some (.ref b) ∧ ∃ t1 k1, N = [t1] ∧ (t1 = t ∨ h.size ≤ t1) ∧ Sb1 Z h' b t1 k1 cap (cs ++ ds)) := by
  have G0 := G
  obtain ⟨hw, hEL, SC, hz, -⟩ := G
  refine MetN.of (plainFor_of_name pn_4) ?_
  intro p e s m below meth c T hnm hret hlk hby hml hs w; have oa := @dat _ _ dL23a _ hby; have ob := @dat _ _ dL23b _ hby
  refine Run.cast (efL (L := #[vR b, vR x, .unset]) (by simp [argsToLocals, Value.category, vI, vR, vJ])) ?_
  have B1 := B0
  obtain ⟨Eb, Vb, Cb, Nb, Mb, At, hcs, hcl⟩ := B0
  have X1 := X0
  have Sx := X0.str
  obtain ⟨Ex, Vx, Cx, Ax, hds, hdl⟩ := X0
  have hwL := fun d q => hw d (subL d q)
  have hcx : Int32.ofNat cs.length + Int32.ofNat ds.length = Int32.ofNat (cs.length + ds.length) := (Int32.ofNat_add _ _).symm
  have ntb : b ≠ t := Exa.neArv Eb At (Kw hw 107 rfl)
  refine jm w (oa 0 rfl) rfl rfl 1 rfl <| s_ifnonnull_yes w (oa 1 rfl) (by decide) 9 rfl <| jm w (oa 2 rfl) rfl rfl 10 rfl ?_
  obtain ⟨XE, Xt, Xkb, Xcd, XN, Xvs, Xq1, Xq2, Xq3, Xq4, Xq5, Xq6⟩ := id Sx
  refine w_virtB w (y := Len.yN) (y' := Len.yN) (C := ST) (Kw hw 135 rfl) (Kw hw 136 rfl) (Kw hw 138 rfl) (Kw hw 138 rfl) (Kw hw 137 rfl) (by decide) XE (Pv := fun v => v = some (.int (Int32.ofNat (ds).length))) (as' := #[.ref x]) (W := 0) (fun vm0 hZ => StrChars.Road.lenW hZ hwL (Kw hw 1 rfl) XE Xq1 Xq2 Xq3 Xq4 Xq5 (SC.ext w.old) hz Xq6 (by decide) (by decide)) (argsL := []) (rest := []) (lenOf pD7 rfl) rfl rfl (oa 3 rfl) (by rw [hml]; rfl) (Nat.le_of_eq rfl) (by decide) (by decide) 13 rfl fun u1 T w P2 => ?_
  obtain rfl := P2
  show Run _ _ _ _ _ (mkF _ _ _ [.int (Int32.ofNat (ds).length)])
  refine s_istore_n w #[vR b, vR x, vI (Int32.ofNat (ds).length)] (oa 4 rfl) rfl 14 rfl <| jm w (oa 5 rfl) rfl rfl 15 rfl <| jm w (oa 6 rfl) rfl rfl 16 rfl <| jF w (Kw hw 145 rfl) Via.refl Nb (oa 7 rfl) 19 rfl fun T w => ?_
  refine jn w (oa 8 rfl) rfl 20 rfl <| jp w (oa 9 rfl) 21 rfl <| wP w hEL (cB14 hw) (Kw hw 147 rfl) (Kw hw 209 rfl) rfl (Kw hw 149 rfl) Eb (rm_eci1 G0 h b _ t kt (cs.length + ds.length) cs hcx hfit B1) all0 all0 [.int ((Int32.ofNat cs.length) + (Int32.ofNat (ds).length))] [] rfl rfl rfl (oa 10 rfl) hml rfl 0 rfl (by decide) 24 rfl fun u3 N4 T h5 w K6 P7 => ?_
  obtain ⟨rfl, rfl, rfl⟩ := P7
  show Run _ _ _ _ _ (mkF _ _ _ [])
  refine jm w (oa 11 rfl) rfl rfl 25 rfl <| jm w (oa 12 rfl) rfl rfl 26 rfl <| jF w (Kw hw 145 rfl) Via.refl Nb (oa 13 rfl) 29 rfl fun T w => ?_
  refine jm w (oa 14 rfl) rfl rfl 30 rfl <| wP w hEL (cB15 hw) (Kw hw 152 rfl) (Kw hw 209 rfl) rfl (Kw hw 154 rfl) Eb (rm_psa10 G0 h b _ x t tx kt kx cs ds B1 X1 rfl hfit hnt) (allS (mi 0 rfl) all0) (allS (Or.inl (mi 1 rfl)) all0) [.int (Int32.ofNat cs.length), .ref x] [] rfl rfl rfl (oa 15 rfl) hml rfl 0 rfl (by decide) 33 rfl fun u9 N10 T h11 w K12 P13 => ?_
  obtain ⟨rfl, rfl, P9⟩ := P13
  have Vb1 := Vb.keep K12 (ninS ntb nin0)
  have Cb1 := Cb.keep K12 (ninS ntb nin0)
  have Nb1 := Nb.keep K12 (ninS ntb nin0)
  have Mb1 := Mb.keep K12 (ninS ntb nin0)
  have Eb1 := Eb.keep K12
  show Run _ _ _ _ _ (mkF _ _ _ [])
  refine jm w (ob 0 rfl) rfl rfl 34 rfl <| jd w (ob 1 rfl) rfl 35 rfl <| jF w (Kw hw 145 rfl) Via.refl Nb1 (ob 2 rfl) 38 rfl fun T w => ?_
  refine jn w (ob 3 rfl) rfl 39 rfl <| jp w (ob 4 rfl) 40 rfl ?_
  rw [hcx, ← List.length_append]
  refine w_putF w (Kw hw 145 rfl) Via.refl Nb1 Eb1 (Or.inl (Kw hw 146 rfl)) (Kw hw 107 rfl) (ty := .int) (by decide) rfl rfl (ob 5 rfl) (Or.inl (mi 0 rfl)) (Or.inl ⟨by decide, by decide⟩) 43 rfl fun T g1 w W1 F1 Y1 => ?_
  have sv : Jvm.RoadKit.slotOf Z ASB "value" "[B" ≠ Jvm.RoadKit.slotOf Z ASB "count" "I" := slot_ne (C := SBC) (Or.inl (Kw hw 121 rfl)) (Or.inl (Kw hw 146 rfl)) (by decide) (t := .array .byte) (t' := .int) (by decide) (by decide)
  have sc : Jvm.RoadKit.slotOf Z ASB "coder" "B" ≠ Jvm.RoadKit.slotOf Z ASB "count" "I" := slot_ne (C := SBC) (Or.inl (Kw hw 123 rfl)) (Or.inl (Kw hw 146 rfl)) (by decide) (t := .byte) (t' := .int) (by decide) (by decide)
  have sm : Jvm.RoadKit.slotOf Z ASB "maybeLatin1" "Z" ≠ Jvm.RoadKit.slotOf Z ASB "count" "I" := slot_ne (C := SBC) (Or.inl (Kw hw 333 rfl)) (Or.inl (Kw hw 146 rfl)) (by decide) (t := .boolean) (t' := .int) (by decide) (by decide)
  refine jm w (ob 6 rfl) rfl rfl 44 rfl ?_
  exact w_areturnN w hEL hs hlk hret rfl rfl (ob 7 rfl) (by decide) (by decide) (N := [t]) (allP (List.mem_cons_self ..)) ⟨rfl, t, kt, rfl, Or.inl rfl, Y1, Vb1.other W1 (Or.inr sv), Cb1.other W1 (Or.inr sc), F1, Mb1.other W1 (Or.inr sm), P9.other W1 (Exa.neArv Eb1 P9 (Kw hw 107 rfl)).symm, ⟨fun c q => (List.mem_append.mp q).elim (hcs.1 c) (fun z => lat_chr (hds c z)), hcs.2.elim fun c q => ⟨c, List.mem_append.mpr (Or.inl q.1), q.2⟩⟩, ⟨by rw [List.length_append]; exact hfit, hcl.2⟩⟩
theorem rm_asa11 (G : Gl Z a0 zc fm tba ktb fba kfb) (h : Heap) (b : Addr) (x : Addr) {cap : Nat} (t tx : Addr) (kt kx : ClassId) (cs ds : List Int32) (B0 : Sb1 Z h b t kt cap cs) (X0 : S1 Z h x tx kx ds) (hfit : cs.length + ds.length ≤ cap) (hnt : tx ≠ t) :
    MetN l Z consts_1 mN23 jdk_68_method_22_code 3 (some (.object "java/lang/AbstractStringBuilder")) (mkR 3 0 0 69) #[.ref b, .ref x] h [t] [b, t] (fun v h' N => v = some (.ref b) ∧ ∃ t1 k1, N = [t1] ∧ (t1 = t ∨ h.size ≤ t1) ∧ Sb1 Z h' b t1 k1 cap (cs ++ ds)) := by
  have G0 := G
  obtain ⟨hw, hEL, SC, hz, -⟩ := G
  refine MetN.of (plainFor_of_name pn_4) ?_
  intro p e s m below meth c T hnm hret hlk hby hml hs w; have oa := @dat _ _ dL23a _ hby; have ob := @dat _ _ dL23b _ hby
  refine Run.cast (efL (L := #[vR b, vR x, .unset]) (by simp [argsToLocals, Value.category, vI, vR, vJ])) ?_
  have B1 := B0
  obtain ⟨Eb, Vb, Cb, Nb, Mb, At, hcs, hcl⟩ := B0
  have X1 := X0
  have Sx := X0.str
  obtain ⟨Ex, Vx, Cx, Ax, hds, hdl⟩ := X0
  have hwL := fun d q => hw d (subL d q)
  have hcx : Int32.ofNat cs.length + Int32.ofNat ds.length = Int32.ofNat (cs.length + ds.length) := (Int32.ofNat_add _ _).symm
  have ntb : b ≠ t := Exa.neArv Eb At (Kw hw 107 rfl)
  refine jm w (oa 0 rfl) rfl rfl 1 rfl <| s_ifnonnull_yes w (oa 1 rfl) (by decide) 9 rfl <| jm w (oa 2 rfl) rfl rfl 10 rfl ?_
  obtain ⟨XE, Xt, Xkb, Xcd, XN, Xvs, Xq1, Xq2, Xq3, Xq4, Xq5, Xq6⟩ := id Sx
  refine w_virtB w (y := Len.yN) (y' := Len.yN) (C := ST) (Kw hw 135 rfl) (Kw hw 136 rfl) (Kw hw 138 rfl) (Kw hw 138 rfl) (Kw hw 137 rfl) (by decide) XE (Pv := fun v => v = some (.int (Int32.ofNat (ds).length))) (as' := #[.ref x]) (W := 0) (fun vm0 hZ => StrChars.Road.lenW hZ hwL (Kw hw 1 rfl) XE Xq1 Xq2 Xq3 Xq4 Xq5 (SC.ext w.old) hz Xq6 (by decide) (by decide)) (argsL := []) (rest := []) (lenOf pD7 rfl) rfl rfl (oa 3 rfl) (by rw [hml]; rfl) (Nat.le_of_eq rfl) (by decide) (by decide) 13 rfl fun u1 T w P2 => ?_
  obtain rfl := P2
  show Run _ _ _ _ _ (mkF _ _ _ [.int (Int32.ofNat (ds).length)])
  refine s_istore_n w #[vR b, vR x, vI (Int32.ofNat (ds).length)] (oa 4 rfl) rfl 14 rfl <| jm w (oa 5 rfl) rfl rfl 15 rfl <| jm w (oa 6 rfl) rfl rfl 16 rfl <| jF w (Kw hw 145 rfl) Via.refl Nb (oa 7 rfl) 19 rfl fun T w => ?_
  refine jn w (oa 8 rfl) rfl 20 rfl <| jp w (oa 9 rfl) 21 rfl <| wP w hEL (cB14 hw) (Kw hw 147 rfl) (Kw hw 209 rfl) rfl (Kw hw 149 rfl) Eb (rm_eci1 G0 h b _ t kt (cs.length + ds.length) cs hcx hfit B1) all0 all0 [.int ((Int32.ofNat cs.length) + (Int32.ofNat (ds).length))] [] rfl rfl rfl (oa 10 rfl) hml rfl 0 rfl (by decide) 24 rfl fun u3 N4 T h5 w K6 P7 => ?_
  obtain ⟨rfl, rfl, rfl⟩ := P7
  show Run _ _ _ _ _ (mkF _ _ _ [])
  refine jm w (oa 11 rfl) rfl rfl 25 rfl <| jm w (oa 12 rfl) rfl rfl 26 rfl <| jF w (Kw hw 145 rfl) Via.refl Nb (oa 13 rfl) 29 rfl fun T w => ?_
  refine jm w (oa 14 rfl) rfl rfl 30 rfl <| wP w hEL (cB15 hw) (Kw hw 152 rfl) (Kw hw 209 rfl) rfl (Kw hw 154 rfl) Eb (rm_psa11 G0 h b _ x t tx kt kx cs ds B1 X1 rfl hfit hnt) (allS (mi 0 rfl) all0) (allS (Or.inl (mi 1 rfl)) all0) [.int (Int32.ofNat cs.length), .ref x] [] rfl rfl rfl (oa 15 rfl) hml rfl 0 rfl (by decide) 33 rfl fun u9 N10 T h11 w K12 P13 => ?_
  obtain ⟨rfl, rfl, P9⟩ := P13
  have Vb1 := Vb.keep K12 (ninS ntb nin0)
  have Cb1 := Cb.keep K12 (ninS ntb nin0)
  have Nb1 := Nb.keep K12 (ninS ntb nin0)
  have Mb1 := Mb.keep K12 (ninS ntb nin0)
  have Eb1 := Eb.keep K12
  show Run _ _ _ _ _ (mkF _ _ _ [])
  refine jm w (ob 0 rfl) rfl rfl 34 rfl <| jd w (ob 1 rfl) rfl 35 rfl <| jF w (Kw hw 145 rfl) Via.refl Nb1 (ob 2 rfl) 38 rfl fun T w => ?_
  refine jn w (ob 3 rfl) rfl 39 rfl <| jp w (ob 4 rfl) 40 rfl ?_
  rw [hcx, ← List.length_append]
  refine w_putF w (Kw hw 145 rfl) Via.refl Nb1 Eb1 (Or.inl (Kw hw 146 rfl)) (Kw hw 107 rfl) (ty := .int) (by decide) rfl rfl (ob 5 rfl) (Or.inl (mi 0 rfl)) (Or.inl ⟨by decide, by decide⟩) 43 rfl fun T g1 w W1 F1 Y1 => ?_
  have sv : Jvm.RoadKit.slotOf Z ASB "value" "[B" ≠ Jvm.RoadKit.slotOf Z ASB "count" "I" := slot_ne (C := SBC) (Or.inl (Kw hw 121 rfl)) (Or.inl (Kw hw 146 rfl)) (by decide) (t := .array .byte) (t' := .int) (by decide) (by decide)
  have sc : Jvm.RoadKit.slotOf Z ASB "coder" "B" ≠ Jvm.RoadKit.slotOf Z ASB "count" "I" := slot_ne (C := SBC) (Or.inl (Kw hw 123 rfl)) (Or.inl (Kw hw 146 rfl)) (by decide) (t := .byte) (t' := .int) (by decide) (by decide)
  have sm : Jvm.RoadKit.slotOf Z ASB "maybeLatin1" "Z" ≠ Jvm.RoadKit.slotOf Z ASB "count" "I" := slot_ne (C := SBC) (Or.inl (Kw hw 333 rfl)) (Or.inl (Kw hw 146 rfl)) (by decide) (t := .boolean) (t' := .int) (by decide) (by decide)
  refine jm w (ob 6 rfl) rfl rfl 44 rfl ?_
  exact w_areturnN w hEL hs hlk hret rfl rfl (ob 7 rfl) (by decide) (by decide) (N := [t]) (allP (List.mem_cons_self ..)) ⟨rfl, t, kt, rfl, Or.inl rfl, Y1, Vb1.other W1 (Or.inr sv), Cb1.other W1 (Or.inr sc), F1, Mb1.other W1 (Or.inr sm), P9.other W1 (Exa.neArv Eb1 P9 (Kw hw 107 rfl)).symm, ⟨fun c q => (List.mem_append.mp q).elim (hcs.1 c) (hds.1 c), hcs.2.elim fun c q => ⟨c, List.mem_append.mpr (Or.inl q.1), q.2⟩⟩, ⟨by rw [List.length_append]; exact hfit, hcl.2⟩⟩
open StrChars StrChars.Road

def dL25al : List (Nat × Instr × Nat) := [(0, .aload_n 0, 1), (1, .invokespecial 3, 3), (4, .getstatic 18, 3), (7, .ifCond .eq 18, 3), (10, .aload_n 0, 1), (11, .iload_n 1, 1), (12, .newarray .byte, 2), (14, .putfield 15, 3), (17, .aload_n 0, 1), (18, .iconst 0, 1), (19, .putfield 22, 3), (22, .goto 16, 3), (38, .return_, 1)]
theorem dL25a : ∀ x ∈ dL25al, decode jdk_68_method_2_code x.1 = .ok x.2 := by decide +kernel
theorem rm_abi (G : Gl Z a0 zc fm tba ktb fba kfb) (h : Heap) (b : Addr) (v0 v1 : Value) (Eb : Exa Z h b SBC) (Vb : Fld Z h b ASB "value" "[B" v0) (Cb : Fld Z h b ASB "coder" "B" v1) (Nb : Fld Z h b ASB "count" "I" (.int 0)) (Mb : Fld Z h b ASB "maybeLatin1" "Z" (.int 0)) :
    MetN l Z consts_1 mN25 jdk_68_method_2_code 2 none (mkR 1 1 16 12) #[.ref b, .int 16] h [] [b] (fun v h' N => v = none ∧ ∃ t kt, N = [t] ∧ h.size ≤ t ∧ Sb0 Z h' b t kt 16 []) := by
  obtain ⟨hw, hEL, SC, hz, -⟩ := G
  refine MetN.of (plainFor_of_name pn_4) ?_
  intro p e s m below meth c T hnm hret hlk hby hml hs w; have oa := @dat _ _ dL25a _ hby
  refine Run.cast (efL (L := #[vR b, vI 16]) (by simp [argsToLocals, Value.category, vI, vR, vJ])) ?_
  refine jm w (oa 0 rfl) rfl rfl 1 rfl <| w_objInit w (Kw hw 118 rfl) (Kw hw 12 rfl) (Kw hw 13 rfl) (oa 1 rfl) (by rw [hml]; rfl) (by decide) (W := 0) (Nat.le_of_eq rfl) (by decide) 4 rfl fun T w => ?_
  refine w_getS w (Kw hw 119 rfl) Via.refl (SC.ext w.old) (oa 2 rfl) 7 rfl fun T w => ?_
  refine s_if_eq w (oa 3 rfl) (by decide) 10 rfl 25 rfl (fun ct1 => ?_) (fun ct1 => ?_)
  · skip
    refine jm w (oa 4 rfl) rfl rfl 11 rfl <| jn w (oa 5 rfl) rfl 12 rfl <| w_newP w (Kw hw 19 rfl) rfl rfl (oa 6 rfl) (by decide) (n := 16) (by decide) (by decide) 14 rfl (by decide) (by decide) fun T h2 x3 k4 w E5 q6 r7 V8 => ?_
    refine w_putF w (Kw hw 120 rfl) Via.refl (Vb.ext E5) (Eb.ext E5) (Or.inl (Kw hw 121 rfl)) (Kw hw 107 rfl) (ty := (.array .byte)) (by decide) rfl rfl (oa 7 rfl) (Or.inl (List.mem_singleton.mpr rfl)) (Or.inl ⟨by decide, by decide⟩) 17 rfl fun T g1 w W1 F1 Y1 => ?_
    have sc : Jvm.RoadKit.slotOf Z ASB "coder" "B" ≠ Jvm.RoadKit.slotOf Z ASB "value" "[B" := slot_ne (C := SBC) (Or.inl (Kw hw 123 rfl)) (Or.inl (Kw hw 121 rfl)) (by decide) (t := .byte) (t' := .array .byte) (by decide) (by decide)
    have sn : Jvm.RoadKit.slotOf Z ASB "count" "I" ≠ Jvm.RoadKit.slotOf Z ASB "value" "[B" := slot_ne (C := SBC) (Or.inl (Kw hw 146 rfl)) (Or.inl (Kw hw 121 rfl)) (by decide) (t := .int) (t' := .array .byte) (by decide) (by decide)
    have sm : Jvm.RoadKit.slotOf Z ASB "maybeLatin1" "Z" ≠ Jvm.RoadKit.slotOf Z ASB "value" "[B" := slot_ne (C := SBC) (Or.inl (Kw hw 333 rfl)) (Or.inl (Kw hw 121 rfl)) (by decide) (t := .boolean) (t' := .array .byte) (by decide) (by decide)
    have sn2 : Jvm.RoadKit.slotOf Z ASB "count" "I" ≠ Jvm.RoadKit.slotOf Z ASB "coder" "B" := slot_ne (C := SBC) (Or.inl (Kw hw 146 rfl)) (Or.inl (Kw hw 123 rfl)) (by decide) (t := .int) (t' := .byte) (by decide) (by decide)
    have sm2 : Jvm.RoadKit.slotOf Z ASB "maybeLatin1" "Z" ≠ Jvm.RoadKit.slotOf Z ASB "coder" "B" := slot_ne (C := SBC) (Or.inl (Kw hw 333 rfl)) (Or.inl (Kw hw 123 rfl)) (by decide) (t := .boolean) (t' := .byte) (by decide) (by decide)
    refine jm w (oa 8 rfl) rfl rfl 18 rfl <| jc w 0 (oa 9 rfl) rfl 19 rfl <| w_putF w (Kw hw 122 rfl) Via.refl ((Cb.ext E5).other W1 (Or.inr sc)) Y1 (Or.inl (Kw hw 123 rfl)) (Kw hw 107 rfl) (ty := .byte) (by decide) rfl rfl (oa 10 rfl) (Or.inl (List.mem_singleton.mpr rfl)) (Or.inl ⟨by decide, by decide⟩) 22 rfl fun T g2 w W2 F2 Y2 => ?_
    refine jt w (oa 11 rfl) (by decide) 38 rfl ?_
    have nbt : x3 ≠ b := (Exa.neArv (Eb.ext E5) V8 (Kw hw 107 rfl)).symm
    exact w_returnN w hEL hs hlk hret (oa 12 rfl) (by decide) (by decide) (N := [x3]) (allP (List.mem_cons_self ..)) ⟨rfl, x3, _, rfl, q6, Y2, F1.other W2 (Or.inr sc.symm), F2, ((Nb.ext E5).other W1 (Or.inr sn)).other W2 (Or.inr sn2), ((Mb.ext E5).other W1 (Or.inr sm)).other W2 (Or.inr sm2), by rw [room_nil]; exact (V8.other W1 nbt).other W2 nbt, (fun _ q => nomatch q), ⟨Nat.zero_le _, by decide⟩⟩
  · exact absurd ct1 hz
def dL26al : List (Nat × Instr × Nat) := [(0, .aload_n 0, 1), (1, .bipush 16, 2), (3, .invokespecial 1, 3), (6, .return_, 1)]
theorem dL26a : ∀ x ∈ dL26al, decode jdk_67_method_1_code x.1 = .ok x.2 := by decide +kernel
theorem rm_sbi (G : Gl Z a0 zc fm tba ktb fba kfb) (h : Heap) (b : Addr) (v0 v1 : Value) (Eb : Exa Z h b SBC) (Vb : Fld Z h b ASB "value" "[B" v0) (Cb : Fld Z h b ASB "coder" "B" v1) (Nb : Fld Z h b ASB "count" "I" (.int 0)) (Mb : Fld Z h b ASB "maybeLatin1" "Z" (.int 0)) :
    MetN l Z consts_1 mN26 jdk_67_method_1_code 1 none (mkR 2 1 16 25) #[.ref b] h [] [b] (fun v h' N => v = none ∧ ∃ t kt, N = [t] ∧ h.size ≤ t ∧ Sb0 Z h' b t kt 16 []) := by
  have G0 := G
  obtain ⟨hw, hEL, -⟩ := G
  refine MetN.of (plainFor_of_name pn_5) ?_
  intro p e s m below meth c T hnm hret hlk hby hml hs w; have oa := @dat _ _ dL26a _ hby
  refine Run.cast (efL (L := #[vR b]) (by simp [argsToLocals, Value.category, vI, vR, vJ])) ?_
  refine jm w (oa 0 rfl) rfl rfl 1 rfl <| jb w 16 (oa 1 rfl) rfl 3 rfl <| wI w hEL (cB17 hw) (Kw hw 112 rfl) rfl (rm_abi G0 h b v0 v1 Eb Vb Cb Nb Mb) all0 (allS (Or.inl (mi 0 rfl)) all0) b [.int 16] [] rfl rfl rfl (oa 2 rfl) hml rfl 0 rfl (by decide) 6 rfl fun u1 N2 T h3 w K4 P5 => ?_
  obtain ⟨rfl, t, kt, rfl, P8, P9⟩ := P5
  show Run _ _ _ _ _ (mkF _ _ _ [])
  exact w_returnN w hEL hs hlk hret (oa 3 rfl) (by decide) (by decide) (N := [t]) (allP (List.mem_cons_self ..)) ⟨rfl, t, kt, rfl, P8, P9⟩
def dL27al : List (Nat × Instr × Nat) := [(0, .iload_n 0, 1), (1, .iload_n 1, 1), (2, .if_icmp .gt 7, 3), (5, .iload_n 0, 1), (6, .goto 4, 3), (9, .iload_n 1, 1), (10, .ireturn, 1)]
theorem dL27a : ∀ x ∈ dL27al, decode jdk_29_method_69_code x.1 = .ok x.2 := by decide +kernel
theorem rm_min (G : Gl Z a0 zc fm tba ktb fba kfb) (h : Heap) (x : Int32) (y : Int32)  :
    Met l Z consts_1 mN27 jdk_29_method_69_code 2 (some .int) (mkR 0 0 0 0) #[.int x, .int y] h [] [] (fun v h' => v = some (.int (if y < x then y else x)) ∧ h = h') := by
  obtain ⟨-, hEL, -⟩ := G
  refine Met.of (by decide +kernel) ?_
  intro p e s m below meth c T hnm hret hlk hby hml hs w; have oa := @dat _ _ dL27a _ hby
  refine Run.cast (efL (L := #[vI x, vI y]) (by simp [argsToLocals, Value.category, vI, vR, vJ])) ?_
  refine jn w (oa 0 rfl) rfl 1 rfl <| jn w (oa 1 rfl) rfl 2 rfl <| s_icmp_gt w (oa 2 rfl) (by decide) 5 rfl 9 rfl (fun ct1 => ?_) (fun ct1 => ?_)
  · -- ¬ (y < x)
    refine jn w (oa 3 rfl) rfl 6 rfl <| jt w (oa 4 rfl) (by decide) 10 rfl ?_
    exact w_ireturn w hEL hs hlk hret rfl (Or.inl rfl) (oa 6 rfl) (by decide) (by decide) ⟨by rw [if_neg ct1], rfl⟩
  · -- y < x
    refine jn w (oa 5 rfl) rfl 10 rfl ?_
    exact w_ireturn w hEL hs hlk hret rfl (Or.inl rfl) (oa 6 rfl) (by decide) (by decide) ⟨by rw [if_pos ct1], rfl⟩
theorem pn_6 : plainName "java/util/Arrays" = true := by first | (simp [plainName, overriddenIn]; done) | decide +kernel
def dL28al : List (Nat × Instr × Nat) := [(0, .iload_n 1, 1), (1, .iload_n 0, 1), (2, .if_icmp .ge 35, 3), (37, .return_, 1)]
theorem dL28a : ∀ x ∈ dL28al, decode jdk_65_method_131_code x.1 = .ok x.2 := by decide +kernel
theorem rm_ckl (G : Gl Z a0 zc fm tba ktb fba kfb) (h : Heap) (N : Int32) (n : Nat) (hN : N = Int32.ofNat n) (hn : n ≤ 2000) :
    Met l Z consts_1 mN28 jdk_65_method_131_code 2 none (mkR 0 0 0 0) #[.int 0, .int N] h [] [] (fun v h' => v = none ∧ h = h') := by
  obtain ⟨-, hEL, -⟩ := G
  refine Met.of (plainFor_of_name pn_6) ?_
  intro p e s m below meth c T hnm hret hlk hby hml hs w; have oa := @dat _ _ dL28a _ hby
  refine Run.cast (efL (L := #[vI 0, vI N]) (by simp [argsToLocals, Value.category, vI, vR, vJ])) ?_
  refine jn w (oa 0 rfl) rfl 1 rfl <| jn w (oa 1 rfl) rfl 2 rfl <| jg w (oa 2 rfl) (by decide) 5 rfl 37 rfl (fun ct1 => ?_) (fun ct1 => ?_)
  · exact absurd ct1 (by rw [hN]; exact ofNat_lt (by omega))
  · skip
    exact w_return w hEL hs hlk hret (oa 3 rfl) (by decide) (by decide) ⟨rfl, rfl⟩
def dL29al : List (Nat × Instr × Nat) := [(0, .iload_n 1, 1), (1, .iload_n 2, 1), (2, .invokestatic 343, 3), (5, .iload_n 2, 1), (6, .iload_n 1, 1), (7, .isub, 1), (8, .istore_n 3, 1), (9, .iload_n 3, 1), (10, .newarray .byte, 2), (12, .astore 4, 2), (14, .aload_n 0, 1), (15, .iload_n 1, 1), (16, .aload 4, 2), (18, .iconst 0, 1), (19, .aload_n 0, 1), (20, .arraylength, 1)]
theorem dL29a : ∀ x ∈ dL29al, decode jdk_65_method_133_code x.1 = .ok x.2 := by decide +kernel
def dL29bl : List (Nat × Instr × Nat) := [(21, .iload_n 1, 1), (22, .isub, 1), (23, .iload_n 3, 1), (24, .invokestatic 304, 3), (27, .invokestatic 150, 3), (30, .aload 4, 2), (32, .areturn, 1)]
theorem dL29b : ∀ x ∈ dL29bl, decode jdk_65_method_133_code x.1 = .ok x.2 := by decide +kernel
theorem rm_crb (G : Gl Z a0 zc fm tba ktb fba kfb) (h : Heap) (t : Addr) (N : Int32) (n cap : Nat) (kt : ClassId) (vs : List Value) (hN : N = Int32.ofNat n) (hlt : n < cap) (hc2 : cap ≤ 2000) (hnB : n ≤ 224) (At : Arv Z h t kt .byte (Int32.ofNat cap) vs (.int 0)) (hvl : vs.length = cap) :
    Met l Z consts_1 mN29 jdk_65_method_133_code 5 (some (.array .byte)) (mkR 1 1 224 40) #[.ref t, .int 0, .int N] h [] [] (fun v h' => ∃ u ku, v = some (.ref u) ∧ h.size ≤ u ∧ Arv Z h' u ku .byte N (vs.take n) (.int 0)) := by
  have G0 := G
  obtain ⟨hw, hEL, -⟩ := G
  refine Met.of (plainFor_of_name pn_6) ?_
  intro p e s m below meth c T hnm hret hlk hby hml hs w; have oa := @dat _ _ dL29a _ hby; have ob := @dat _ _ dL29b _ hby
  refine Run.cast (efL (L := #[vR t, vI 0, vI N, .unset, .unset]) (by simp [argsToLocals, Value.category, vI, vR, vJ])) ?_
  refine jn w (oa 0 rfl) rfl 1 rfl <| jn w (oa 1 rfl) rfl 2 rfl <| wS w hEL (cB18 hw) (Kw hw 230 rfl) (rm_ckl G0 h N n hN (by omega)) all0 all0 [.int 0, .int N] [] rfl rfl rfl (oa 2 rfl) hml rfl 0 rfl (by decide) 5 rfl fun u1 N2 T h3 w K4 P5 => ?_
  obtain ⟨rfl, rfl, rfl⟩ := P5
  show Run _ _ _ _ _ (mkF _ _ _ [])
  refine jn w (oa 3 rfl) rfl 6 rfl <| jn w (oa 4 rfl) rfl 7 rfl <| s_isub w (oa 5 rfl) 8 rfl ?_
  rw [Int32.sub_zero]
  refine s_istore_n w #[vR t, vI 0, vI N, vI N, .unset] (oa 6 rfl) rfl 9 rfl <| jn w (oa 7 rfl) rfl 10 rfl <| w_newP w (Kw hw 19 rfl) rfl (dv := .int 0) rfl (oa 8 rfl) (by rw [hN]; exact ofNat_lt (by omega)) (n := n) (by rw [hN]; exact Nat.le_of_eq (ofNat_nat (by omega))) (by omega) 12 rfl (by decide) (by first | omega | (dsimp only [mkR]; omega)) fun T h7 x8 k9 w E10 q11 r12 V13 => ?_
  have w := w.mono (slots' := 224) (Nat.le_refl _) (by first | omega | (dsimp only [mkR]; omega))
  refine s_astore w #[vR t, vI 0, vI N, vI N, vR x8] (oa 9 rfl) rfl rfl 14 rfl <| jm w (oa 10 rfl) rfl rfl 15 rfl <| jn w (oa 11 rfl) rfl 16 rfl <| ja w (oa 12 rfl) rfl rfl 18 rfl <| jc w 0 (oa 13 rfl) rfl 19 rfl <| jm w (oa 14 rfl) rfl rfl 20 rfl ?_
  refine w_len w (At.ext E10) (oa 15 rfl) 21 rfl ?_
  refine jn w (ob 0 rfl) rfl 22 rfl <| s_isub w (ob 1 rfl) 23 rfl ?_
  rw [Int32.sub_zero]
  refine jn w (ob 2 rfl) rfl 24 rfl <| wS w hEL (cB19 hw) (Kw hw 191 rfl) (rm_min G0 h7 (Int32.ofNat cap) N) all0 all0 [.int (Int32.ofNat cap), .int N] [.int 0, .ref x8, .int 0, .ref t] rfl rfl rfl (ob 3 rfl) hml rfl 4 rfl (by decide) 27 rfl fun u14 N15 T h16 w K17 P18 => ?_
  obtain ⟨rfl, rfl, rfl⟩ := P18
  rw [if_pos (by rw [hN]; exact (ofNat_cmp (by omega) (by omega)).mpr hlt)]
  show Run _ _ _ _ _ (mkF _ _ _ [.int N, .int 0, .ref x8, .int 0, .ref t])
  refine w_copyB w (Kw hw 192 rfl) (Kw hw 171 rfl) (Kw hw 169 rfl) (Kw hw 170 rfl) (is := 0) (id := 0) (n := n) (us := (vs.take n)) (At.ext E10) V13 rfl rfl hN (by omega) (by omega) (by omega) (by rw [ofNat_nat (by omega)]; omega) (by rw [hN, ofNat_nat (by omega)]; omega) (range_take (by omega)) (by simp) (mi 0 rfl) (Or.inr r12) rfl (ob 4 rfl) (by rw [hml]; rfl) (by decide) (W := 0) (Nat.le_of_eq rfl) (by decide) 30 rfl fun T h20 w K21 F22 => ?_
  refine ja w (ob 5 rfl) rfl rfl 32 rfl ?_
  exact w_areturn w hEL hs hlk hret rfl rfl (ob 6 rfl) (by decide) (by decide) ⟨x8, _, rfl, q11, by simpa using F22⟩
def dL30al : List (Nat × Instr × Nat) := [(0, .iload_n 1, 1), (1, .ifCond .ne 9, 3), (4, .iload_n 2, 1), (5, .aload_n 0, 1), (6, .arraylength, 1), (7, .if_icmp .eq 10, 3), (10, .aload_n 0, 1), (11, .iload_n 1, 1), (12, .iload_n 2, 1), (13, .invokestatic 339, 3), (16, .areturn, 1), (17, .aload_n 0, 1), (18, .invokevirtual 310, 3), (21, .checkcast 311, 3), (24, .areturn, 1)]
theorem dL30a : ∀ x ∈ dL30al, decode jdk_65_method_132_code x.1 = .ok x.2 := by decide +kernel
theorem rm_cor (G : Gl Z a0 zc fm tba ktb fba kfb) (h : Heap) (t : Addr) (N : Int32) (n cap : Nat) (kt : ClassId) (vs : List Value) (hN : N = Int32.ofNat n) (hlt : n < cap) (hc2 : cap ≤ 2000) (hnB : n ≤ 224) (At : Arv Z h t kt .byte (Int32.ofNat cap) vs (.int 0)) (hvl : vs.length = cap) :
    Met l Z consts_1 mN30 jdk_65_method_132_code 3 (some (.array .byte)) (mkR 2 1 224 56) #[.ref t, .int 0, .int N] h [] [] (fun v h' => ∃ u ku, v = some (.ref u) ∧ h.size ≤ u ∧ Arv Z h' u ku .byte N (vs.take n) (.int 0)) := by
  have G0 := G
  obtain ⟨hw, hEL, -⟩ := G
  refine Met.of (plainFor_of_name pn_6) ?_
  intro p e s m below meth c T hnm hret hlk hby hml hs w; have oa := @dat _ _ dL30a _ hby
  refine Run.cast (efL (L := #[vR t, vI 0, vI N]) (by simp [argsToLocals, Value.category, vI, vR, vJ])) ?_
  refine jn w (oa 0 rfl) rfl 1 rfl <| s_if_ne w (oa 1 rfl) (by decide) 4 rfl 10 rfl (fun _ => ?_) (fun q => absurd q (by decide))
  refine jn w (oa 2 rfl) rfl 5 rfl <| jm w (oa 3 rfl) rfl rfl 6 rfl <| w_len w At (oa 4 rfl) 7 rfl <| s_icmp_eq w (oa 5 rfl) (by decide) 10 rfl 17 rfl (fun ct2 => ?_) (fun ct2 => ?_)
  · skip
    refine jm w (oa 6 rfl) rfl rfl 11 rfl <| jn w (oa 7 rfl) rfl 12 rfl <| jn w (oa 8 rfl) rfl 13 rfl <| wS w hEL (cB20 hw) (Kw hw 227 rfl) (rm_crb G0 h t N n cap kt vs hN hlt hc2 hnB At hvl) all0 all0 [.ref t, .int 0, .int N] [] rfl rfl rfl (oa 9 rfl) hml rfl 0 rfl (by decide) 16 rfl fun u3 N4 T h5 w K6 P7 => ?_
    obtain ⟨rfl, u, ku, rfl, P8, P9⟩ := P7
    show Run _ _ _ _ _ (mkF _ _ _ [.ref u])
    exact w_areturn w hEL hs hlk hret rfl rfl (oa 10 rfl) (by decide) (by decide) ⟨u, ku, rfl, P8, P9⟩
  · exact absurd (ofN_inj' (by omega) (by omega) (hN.symm.trans ct2)) (by omega)
def dL31al : List (Nat × Instr × Nat) := [(0, .aload_n 0, 1), (1, .getfield 15, 3), (4, .areturn, 1)]
theorem dL31a : ∀ x ∈ dL31al, decode jdk_68_method_64_code x.1 = .ok x.2 := by decide +kernel
theorem rm_gv (G : Gl Z a0 zc fm tba ktb fba kfb) (h : Heap) (b : Addr) (t : Addr) (F : Fld Z h b ASB "value" "[B" (.ref t)) :
    Met l Z consts_1 mN31 jdk_68_method_64_code 1 (some (.array .byte)) (mkR 0 0 0 0) #[.ref b] h [] [] (fun v h' => v = some (.ref t) ∧ h = h') := by
  obtain ⟨hw, hEL, -⟩ := G
  refine Met.of (plainFor_of_name pn_4) ?_
  intro p e s m below meth c T hnm hret hlk hby hml hs w; have oa := @dat _ _ dL31a _ hby
  refine Run.cast (efL (L := #[vR b]) (by simp [argsToLocals, Value.category, vI, vR, vJ])) ?_
  refine jm w (oa 0 rfl) rfl rfl 1 rfl <| jF w (Kw hw 120 rfl) Via.refl F (oa 1 rfl) 4 rfl fun T w => ?_
  exact w_areturn w hEL hs hlk hret rfl rfl (oa 2 rfl) (by decide) (by decide) ⟨rfl, rfl⟩
def dL32al : List (Nat × Instr × Nat) := [(0, .aload_n 0, 1), (1, .getfield 79, 3), (4, .ireturn, 1)]
theorem dL32a : ∀ x ∈ dL32al, decode jdk_68_method_6_code x.1 = .ok x.2 := by decide +kernel
theorem rm_aln (G : Gl Z a0 zc fm tba ktb fba kfb) (h : Heap) (b : Addr) (n0 : Int32) (F : Fld Z h b ASB "count" "I" (.int n0)) :
    Met l Z consts_1 mN32 jdk_68_method_6_code 1 (some .int) (mkR 0 0 0 0) #[.ref b] h [] [] (fun v h' => v = some (.int n0) ∧ h = h') := by
  obtain ⟨hw, hEL, -⟩ := G
  refine Met.of (plainFor_of_name pn_4) ?_
  intro p e s m below meth c T hnm hret hlk hby hml hs w; have oa := @dat _ _ dL32a _ hby
  refine Run.cast (efL (L := #[vR b]) (by simp [argsToLocals, Value.category, vI, vR, vJ])) ?_
  refine jm w (oa 0 rfl) rfl rfl 1 rfl <| jF w (Kw hw 145 rfl) Via.refl F (oa 1 rfl) 4 rfl fun T w => ?_
  exact w_ireturn w hEL hs hlk hret rfl (Or.inl rfl) (oa 2 rfl) (by decide) (by decide) ⟨rfl, rfl⟩
def dL33al : List (Nat × Instr × Nat) := [(0, .aload_n 0, 1), (1, .invokespecial 343, 3), (4, .ireturn, 1)]
theorem dL33a : ∀ x ∈ dL33al, decode jdk_67_method_93_code x.1 = .ok x.2 := by decide +kernel
theorem rm_sln (G : Gl Z a0 zc fm tba ktb fba kfb) (h : Heap) (b : Addr) (n0 : Int32) (E : Exa Z h b SBC) (F : Fld Z h b ASB "count" "I" (.int n0)) :
    Met l Z consts_1 mN33 jdk_67_method_93_code 1 (some .int) (mkR 1 0 0 12) #[.ref b] h [] [] (fun v h' => v = some (.int n0) ∧ h = h') := by
  have G0 := G
  obtain ⟨hw, hEL, -⟩ := G
  refine Met.of (plainFor_of_name pn_5) ?_
  intro p e s m below meth c T hnm hret hlk hby hml hs w; have oa := @dat _ _ dL33a _ hby
  refine Run.cast (efL (L := #[vR b]) (by simp [argsToLocals, Value.category, vI, vR, vJ])) ?_
  refine jm w (oa 0 rfl) rfl rfl 1 rfl <| wU w hEL (cB21 hw) (Kw hw 217 rfl) (Kw hw 212 rfl) (Kw hw 209 rfl) rfl (Kw hw 132 rfl) (by decide) E (rm_aln G0 h b n0 F) all0 all0 [] [] rfl rfl rfl (oa 1 rfl) hml rfl 0 rfl (by decide) 4 rfl fun u1 N2 T h3 w K4 P5 => ?_
  obtain ⟨rfl, rfl, rfl⟩ := P5
  show Run _ _ _ _ _ (mkF _ _ _ [.int n0])
  exact w_ireturn w hEL hs hlk hret rfl (Or.inl rfl) (oa 2 rfl) (by decide) (by decide) ⟨rfl, rfl⟩
def dL34al : List (Nat × Instr × Nat) := [(0, .aload_n 0, 1), (1, .invokespecial 1, 3), (4, .aload_n 1, 1), (5, .invokevirtual 552, 3), (8, .astore_n 3, 1), (9, .aload_n 1, 1), (10, .invokevirtual 549, 3), (13, .istore 4, 2), (15, .aload_n 1, 1), (16, .invokevirtual 1047, 3), (19, .ifCond .eq 22, 3), (22, .aload_n 0, 1), (23, .iconst 0, 1), (24, .putfield 15, 3), (27, .aload_n 0, 1), (28, .aload_n 3, 1)]
theorem dL34a : ∀ x ∈ dL34al, decode jdk_42_method_150_code x.1 = .ok x.2 := by decide +kernel
def dL34bl : List (Nat × Instr × Nat) := [(29, .iconst 0, 1), (30, .iload 4, 2), (32, .invokestatic 54, 3), (35, .putfield 9, 3), (38, .goto 59, 3), (41, .getstatic 38, 3), (44, .ifCond .eq 35, 3), (47, .aload_n 1, 1), (48, .getfield 1048, 3), (51, .ifCond .eq 28, 3), (79, .aload_n 0, 1), (80, .iconst 1, 1), (81, .putfield 15, 3), (84, .aload_n 0, 1), (85, .aload_n 3, 1), (86, .iconst 0, 1)]
theorem dL34b : ∀ x ∈ dL34bl, decode jdk_42_method_150_code x.1 = .ok x.2 := by decide +kernel
def dL34cl : List (Nat × Instr × Nat) := [(87, .iload 4, 2), (89, .iconst 1, 1), (90, .ishl, 1), (91, .invokestatic 54, 3), (94, .putfield 9, 3), (97, .return_, 1)]
theorem dL34c : ∀ x ∈ dL34cl, decode jdk_42_method_150_code x.1 = .ok x.2 := by decide +kernel
theorem rm_sia0 (G : Gl Z a0 zc fm tba ktb fba kfb) (h : Heap) (x : Addr) (b : Addr) {cap : Nat} (t : Addr) (kt : ClassId) (cs : List Int32) (v0 v1 : Value) (B0 : Sb0 Z h b t kt cap cs) (hlt : cs.length ≤ 110) (hlt2 : cs.length < cap) (E0 : Exa Z h x ST) (F_v : Fld Z h x ST "value" "[B" v0) (F_c : Fld Z h x ST "coder" "B" v1) :
    Met l Z consts_1 mN34 jdk_42_method_150_code 5 none (mkR 3 1 224 71) #[.ref x, .ref b, .null] h [x] [x] (fun v h' => v = none ∧ ∃ u ku, S0 Z h' x u ku cs) := by
  have G0 := G
  obtain ⟨hw, hEL, -⟩ := G
  refine Met.of (plainFor_of_name pn_1) ?_
  intro p e s m below meth c T hnm hret hlk hby hml hs w; have oa := @dat _ _ dL34a _ hby; have ob := @dat _ _ dL34b _ hby; have oc := @dat _ _ dL34c _ hby
  refine Run.cast (efL (L := #[vR x, vR b, .val (.null), .unset, .unset]) (by simp [argsToLocals, Value.category, vI, vR, vJ])) ?_
  have B1 := B0
  obtain ⟨Eb, Vb, Cb, Nb, Mb, At, hcs, hcl⟩ := B0
  refine jm w (oa 0 rfl) rfl rfl 1 rfl <| w_objInit w (Kw hw 11 rfl) (Kw hw 12 rfl) (Kw hw 13 rfl) (oa 1 rfl) (by rw [hml]; rfl) (by decide) (W := 0) (Nat.le_of_eq rfl) (by decide) 4 rfl fun T w => ?_
  refine jm w (oa 2 rfl) rfl rfl 5 rfl <| wK w hEL (cB22 hw) (Kw hw 206 rfl) (Kw hw 207 rfl) (Kw hw 209 rfl) rfl (Kw hw 209 rfl) Eb (rm_gv G0 h b t Vb) all0 all0 [] [] rfl rfl rfl (oa 3 rfl) hml rfl 0 rfl (by decide) 8 rfl fun u1 N2 T h3 w K4 P5 => ?_
  obtain ⟨rfl, rfl, rfl⟩ := P5
  show Run _ _ _ _ _ (mkF _ _ _ [.ref t])
  refine s_astore_n w #[vR x, vR b, .val (.null), vR t, .unset] (oa 4 rfl) rfl rfl 9 rfl <| jm w (oa 5 rfl) rfl rfl 10 rfl <| w_virtualK w hEL (y := mN32) (y' := mN33) (C := "java/lang/StringBuilder") (a := b) (Kw hw 211 rfl) (Kw hw 212 rfl) (Kw hw 209 rfl) rfl (Kw hw 214 rfl) (Kw hw 215 rfl) (Kw hw 108 rfl) (Kw hw 216 rfl) (by decide) Eb (rm_sln G0 h b _ Eb Nb) all0 all0 (argsL := []) (rest := []) (lenOf pD7 rfl) rfl rfl (oa 6 rfl) (by rw [hml]; rfl) (W := 0) (Nat.le_of_eq rfl) (by decide) (by decide) (by decide) (by decide) 13 rfl fun u7 N8 T h9 w K10 P11 => ?_
  obtain ⟨rfl, rfl, rfl⟩ := P11
  show Run _ _ _ _ _ (mkF _ _ _ [.int (Int32.ofNat cs.length)])
  refine js w #[vR x, vR b, .val (.null), vR t, vI (Int32.ofNat cs.length)] (oa 7 rfl) rfl 15 rfl <| jm w (oa 8 rfl) rfl rfl 16 rfl <| wK w hEL (cB8 hw) (Kw hw 219 rfl) (Kw hw 220 rfl) (Kw hw 209 rfl) rfl (Kw hw 222 rfl) Eb (rm_ail0 G0 h b Cb) all0 all0 [] [] rfl rfl rfl (oa 9 rfl) hml rfl 0 rfl (by decide) 19 rfl fun u13 N14 T h15 w K16 P17 => ?_
  obtain ⟨rfl, rfl, rfl⟩ := P17
  show Run _ _ _ _ _ (mkF _ _ _ [.int 1])
  refine s_if_eq w (oa 10 rfl) (by decide) 22 rfl 41 rfl (fun _ => ?_) (fun q => absurd q (by decide))
  refine jm w (oa 11 rfl) rfl rfl 23 rfl <| jc w 0 (oa 12 rfl) rfl 24 rfl ?_
  have sn : Jvm.RoadKit.slotOf Z "java/lang/String" "value" "[B" ≠ Jvm.RoadKit.slotOf Z "java/lang/String" "coder" "B" := slot_ne (Or.inr (Kw hw 29 rfl)) (Or.inr (Kw hw 27 rfl)) (by decide) (t := .array .byte) (t' := .byte) (by decide) (by decide)
  refine w_putF w (Kw hw 26 rfl) Via.refl F_c E0 (Or.inr ⟨(Kw hw 27 rfl), rfl, hnm⟩) (Kw hw 1 rfl) (ty := .byte) (by decide) rfl rfl (oa 13 rfl) (Or.inl (List.mem_singleton.mpr rfl)) (Or.inr (List.mem_singleton.mpr rfl)) 27 rfl fun T g1 w W1 F1 Y1 => ?_
  have At1 := At.other W1 (Exa.neArv E0 At (Kw hw 1 rfl)).symm
  refine jm w (oa 14 rfl) rfl rfl 28 rfl <| jm w (oa 15 rfl) rfl rfl 29 rfl <| jc w 0 (ob 0 rfl) rfl 30 rfl <| jl w (ob 1 rfl) rfl 32 rfl <| wS w hEL (cB23 hw) (Kw hw 224 rfl) (rm_cor G0 g1 t _ cs.length cap kt _ rfl hlt2 (by omega) (by omega) At1 (room_len hcl.1)) all0 all0 [.ref t, .int 0, .int (Int32.ofNat cs.length)] [.ref x] rfl rfl rfl (ob 2 rfl) hml rfl 1 rfl (by decide) 35 rfl fun u20 N21 T h22 w K23 P24 => ?_
  obtain ⟨rfl, u, ku, rfl, P8, P9⟩ := P24
  rw [room_take] at P9
  have E2 := Keep.ext0 K23
  show Run _ _ _ _ _ (mkF _ _ _ [.ref u, .ref x])
  refine w_putF w (Kw hw 28 rfl) Via.refl ((F_v.other W1 (Or.inr sn)).ext E2) (Y1.ext E2) (Or.inr ⟨(Kw hw 29 rfl), rfl, hnm⟩) (Kw hw 1 rfl) (ty := (.array .byte)) (by decide) rfl rfl (ob 3 rfl) (Or.inl (List.mem_singleton.mpr rfl)) (Or.inr (List.mem_singleton.mpr rfl)) 38 rfl fun T g2 w W2 F2 Y2 => ?_
  refine jt w (ob 4 rfl) (by decide) 97 rfl ?_
  have nu : u ≠ x := fun z => by obtain ⟨cl, k0, A, -⟩ := Y1; have := (Array.getElem?_eq_some_iff.mp A).1; rw [← z] at this; exact absurd P8 (Nat.not_le.mpr this)
  exact w_return w hEL hs hlk hret (oc 5 rfl) (by decide) (by decide) ⟨rfl, u, ku, Y2, F2, (F1.ext E2).other W2 (Or.inr sn.symm), P9.other W2 nu, hcs, hlt⟩
def dL35al : List (Nat × Instr × Nat) := [(0, .aload_n 0, 1), (1, .aload_n 1, 1), (2, .aconst_null, 1), (3, .invokespecial 489, 3), (6, .return_, 1)]
theorem dL35a : ∀ x ∈ dL35al, decode jdk_42_method_53_code x.1 = .ok x.2 := by decide +kernel
theorem rm_sib0 (G : Gl Z a0 zc fm tba ktb fba kfb) (h : Heap) (x : Addr) (b : Addr) {cap : Nat} (t : Addr) (kt : ClassId) (cs : List Int32) (v0 v1 : Value) (B0 : Sb0 Z h b t kt cap cs) (hlt : cs.length ≤ 110) (hlt2 : cs.length < cap) (E0 : Exa Z h x ST) (F_v : Fld Z h x ST "value" "[B" v0) (F_c : Fld Z h x ST "coder" "B" v1) :
    Met l Z consts_1 mN35 jdk_42_method_53_code 2 none (mkR 4 1 224 87) #[.ref x, .ref b] h [x] [x] (fun v h' => v = none ∧ ∃ u ku, S0 Z h' x u ku cs) := by
  have G0 := G
  obtain ⟨hw, hEL, -⟩ := G
  refine Met.of (plainFor_of_name pn_1) ?_
  intro p e s m below meth c T hnm hret hlk hby hml hs w; have oa := @dat _ _ dL35a _ hby
  refine Run.cast (efL (L := #[vR x, vR b]) (by simp [argsToLocals, Value.category, vI, vR, vJ])) ?_
  refine jm w (oa 0 rfl) rfl rfl 1 rfl <| jm w (oa 1 rfl) rfl rfl 2 rfl <| s_anull w (oa 2 rfl) 3 rfl <| wI w hEL (cB24 hw) (Kw hw 203 rfl) rfl (rm_sia0 G0 h x b t kt cs v0 v1 B0 hlt hlt2 E0 F_v F_c) (allS (mi 0 rfl) all0) (allS (Or.inl (mi 0 rfl)) all0) x [.ref b, .null] [] rfl rfl rfl (oa 3 rfl) hml rfl 0 rfl (by decide) 6 rfl fun u1 N2 T h3 w K4 P5 => ?_
  obtain ⟨rfl, rfl, P9⟩ := P5
  show Run _ _ _ _ _ (mkF _ _ _ [])
  exact w_return w hEL hs hlk hret (oa 4 rfl) (by decide) (by decide) ⟨rfl, P9⟩
def dL36al : List (Nat × Instr × Nat) := [(0, .new 18, 3), (3, .dup, 1), (4, .aload_n 0, 1), (5, .invokespecial 137, 3), (8, .areturn, 1)]
theorem dL36a : ∀ x ∈ dL36al, decode jdk_67_method_42_code x.1 = .ok x.2 := by decide +kernel
theorem rm_tos0 (G : Gl Z a0 zc fm tba ktb fba kfb) (h : Heap) (b : Addr) {cap : Nat} (t : Addr) (kt : ClassId) (cs : List Int32) (B0 : Sb0 Z h b t kt cap cs) (hlt : cs.length ≤ 110) (hlt2 : cs.length < cap) :
    Met l Z consts_1 mN36 jdk_67_method_42_code 1 (some (.object "java/lang/String")) (mkR 5 2 228 101) #[.ref b] h [] [] (fun v h' => ∃ x, v = some (.ref x) ∧ Str Z h' x cs) := by
  have G0 := G
  obtain ⟨hw, hEL, -⟩ := G
  refine Met.of (plainFor_of_name pn_5) ?_
  intro p e s m below meth c T hnm hret hlk hby hml hs w; have oa := @dat _ _ dL36a _ hby
  refine Run.cast (efL (L := #[vR b]) (by simp [argsToLocals, Value.category, vI, vR, vJ])) ?_
  refine w_new w (Kw hw 199 rfl) (Kw hw 1 rfl) (Kw hw 2 rfl) (oa 0 rfl) 3 rfl (by decide) (by decide) fun T h1 x2 w E3 q4 r5 A6 D7 => ?_
  have F_coder_x2 : Fld Z h1 x2 "java/lang/String" "coder" "B" (.int 0) := D7 (Or.inr (Kw hw 27 rfl)) (ty := .byte) (by decide)
  have F_value_x2 : Fld Z h1 x2 "java/lang/String" "value" "[B" (.null) := D7 (Or.inr (Kw hw 29 rfl)) (ty := (.array .byte)) (by decide)
  refine jd w (oa 1 rfl) rfl 4 rfl <| jm w (oa 2 rfl) rfl rfl 5 rfl <| wI w hEL (cB25 hw) (Kw hw 200 rfl) rfl (rm_sib0 G0 h1 x2 b t kt cs _ _ (B0.ext E3) hlt hlt2 A6 F_value_x2 F_coder_x2) (allS (mi 0 rfl) all0) (allS (Or.inr r5) all0) x2 [.ref b] [.ref x2] rfl rfl rfl (oa 3 rfl) hml rfl 1 rfl (by decide) 8 rfl fun u8 N9 T h10 w K11 P12 => ?_
  obtain ⟨rfl, rfl, u, ku, P9⟩ := P12
  show Run _ _ _ _ _ (mkF _ _ _ [.ref x2])
  exact w_areturn w hEL hs hlk hret rfl rfl (oa 4 rfl) (by decide) (by decide) ⟨x2, rfl, P9.str⟩
theorem rm_sia1 (G : Gl Z a0 zc fm tba ktb fba kfb) (h : Heap) (x : Addr) (b : Addr) {cap : Nat} (t : Addr) (kt : ClassId) (cs : List Int32) (v0 v1 : Value) (B0 : Sb1 Z h b t kt cap cs) (hlt : cs.length ≤ 110) (hlt2 : cs.length < cap) (E0 : Exa Z h x ST) (F_v : Fld Z h x ST "value" "[B" v0) (F_c : Fld Z h x ST "coder" "B" v1) :
    Met l Z consts_1 mN34 jdk_42_method_150_code 5 none (mkR 3 1 224 71) #[.ref x, .ref b, .null] h [x] [x] (fun v h' => v = none ∧ ∃ u ku, S1 Z h' x u ku cs) := by
  have G0 := G
  obtain ⟨hw, hEL, SC, hz, -⟩ := G
  refine Met.of (plainFor_of_name pn_1) ?_
  intro p e s m below meth c T hnm hret hlk hby hml hs w; have oa := @dat _ _ dL34a _ hby; have ob := @dat _ _ dL34b _ hby; have oc := @dat _ _ dL34c _ hby
  refine Run.cast (efL (L := #[vR x, vR b, .val (.null), .unset, .unset]) (by simp [argsToLocals, Value.category, vI, vR, vJ])) ?_
  have B1 := B0
  obtain ⟨Eb, Vb, Cb, Nb, Mb, At, hcs, hcl⟩ := B0
  refine jm w (oa 0 rfl) rfl rfl 1 rfl <| w_objInit w (Kw hw 11 rfl) (Kw hw 12 rfl) (Kw hw 13 rfl) (oa 1 rfl) (by rw [hml]; rfl) (by decide) (W := 0) (Nat.le_of_eq rfl) (by decide) 4 rfl fun T w => ?_
  refine jm w (oa 2 rfl) rfl rfl 5 rfl <| wK w hEL (cB22 hw) (Kw hw 206 rfl) (Kw hw 207 rfl) (Kw hw 209 rfl) rfl (Kw hw 209 rfl) Eb (rm_gv G0 h b t Vb) all0 all0 [] [] rfl rfl rfl (oa 3 rfl) hml rfl 0 rfl (by decide) 8 rfl fun u1 N2 T h3 w K4 P5 => ?_
  obtain ⟨rfl, rfl, rfl⟩ := P5
  show Run _ _ _ _ _ (mkF _ _ _ [.ref t])
  refine s_astore_n w #[vR x, vR b, .val (.null), vR t, .unset] (oa 4 rfl) rfl rfl 9 rfl <| jm w (oa 5 rfl) rfl rfl 10 rfl <| w_virtualK w hEL (y := mN32) (y' := mN33) (C := "java/lang/StringBuilder") (a := b) (Kw hw 211 rfl) (Kw hw 212 rfl) (Kw hw 209 rfl) rfl (Kw hw 214 rfl) (Kw hw 215 rfl) (Kw hw 108 rfl) (Kw hw 216 rfl) (by decide) Eb (rm_sln G0 h b _ Eb Nb) all0 all0 (argsL := []) (rest := []) (lenOf pD7 rfl) rfl rfl (oa 6 rfl) (by rw [hml]; rfl) (W := 0) (Nat.le_of_eq rfl) (by decide) (by decide) (by decide) (by decide) 13 rfl fun u7 N8 T h9 w K10 P11 => ?_
  obtain ⟨rfl, rfl, rfl⟩ := P11
  show Run _ _ _ _ _ (mkF _ _ _ [.int (Int32.ofNat cs.length)])
  refine js w #[vR x, vR b, .val (.null), vR t, vI (Int32.ofNat cs.length)] (oa 7 rfl) rfl 15 rfl <| jm w (oa 8 rfl) rfl rfl 16 rfl <| wK w hEL (cB8 hw) (Kw hw 219 rfl) (Kw hw 220 rfl) (Kw hw 209 rfl) rfl (Kw hw 222 rfl) Eb (rm_ail1 G0 h b Cb) all0 all0 [] [] rfl rfl rfl (oa 9 rfl) hml rfl 0 rfl (by decide) 19 rfl fun u13 N14 T h15 w K16 P17 => ?_
  obtain ⟨rfl, rfl, rfl⟩ := P17
  show Run _ _ _ _ _ (mkF _ _ _ [.int 0])
  refine s_if_eq w (oa 10 rfl) (by decide) 22 rfl 41 rfl (fun q => absurd q (by decide)) (fun _ => ?_)
  refine w_getS w (Kw hw 14 rfl) Via.refl (SC.ext w.old) (ob 5 rfl) 44 rfl fun T w => ?_
  refine s_if_eq w (ob 6 rfl) (by decide) 47 rfl 79 rfl (fun ct20 => ?_) (fun ct20 => ?_)
  · skip
    refine jm w (ob 7 rfl) rfl rfl 48 rfl <| jF w (Kw hw 332 rfl) Via.refl Mb (ob 8 rfl) 51 rfl fun T w => ?_
    refine s_if_eq w (ob 9 rfl) (by decide) 54 rfl 79 rfl (fun q => absurd q (by decide)) (fun _ => ?_)
    refine jm w (ob 10 rfl) rfl rfl 80 rfl <| jc w 1 (ob 11 rfl) rfl 81 rfl ?_
    have sn : Jvm.RoadKit.slotOf Z "java/lang/String" "value" "[B" ≠ Jvm.RoadKit.slotOf Z "java/lang/String" "coder" "B" := slot_ne (Or.inr (Kw hw 29 rfl)) (Or.inr (Kw hw 27 rfl)) (by decide) (t := .array .byte) (t' := .byte) (by decide) (by decide)
    refine w_putF w (Kw hw 26 rfl) Via.refl F_c E0 (Or.inr ⟨(Kw hw 27 rfl), rfl, hnm⟩) (Kw hw 1 rfl) (ty := .byte) (by decide) rfl rfl (ob 12 rfl) (Or.inl (List.mem_singleton.mpr rfl)) (Or.inr (List.mem_singleton.mpr rfl)) 84 rfl fun T g1 w W1 F1 Y1 => ?_
    have At1 := At.other W1 (Exa.neArv E0 At (Kw hw 1 rfl)).symm
    refine jm w (ob 13 rfl) rfl rfl 85 rfl <| jm w (ob 14 rfl) rfl rfl 86 rfl <| jc w 0 (ob 15 rfl) rfl 87 rfl <| jl w (oc 0 rfl) rfl 89 rfl <| jc w 1 (oc 1 rfl) rfl 90 rfl <| s_ishl w (oc 2 rfl) 91 rfl ?_
    rw [ofN_shl (by omega)]
    refine wS w hEL (cB23 hw) (Kw hw 224 rfl) (rm_cor G0 g1 t _ (2 * cs.length) (2 * cap) kt _ rfl (by omega) (by omega) (by omega) At1 (wroom_len hcl.1)) all0 all0 [.ref t, .int 0, .int (Int32.ofNat (2 * cs.length))] [.ref x] rfl rfl rfl (oc 3 rfl) hml rfl 1 rfl (by decide) 94 rfl fun u22 N23 T h24 w K25 P26 => ?_
    obtain ⟨rfl, u, ku, rfl, P8, P9⟩ := P26
    rw [wroom_take] at P9
    have E2 := Keep.ext0 K25
    show Run _ _ _ _ _ (mkF _ _ _ [.ref u, .ref x])
    refine w_putF w (Kw hw 28 rfl) Via.refl ((F_v.other W1 (Or.inr sn)).ext E2) (Y1.ext E2) (Or.inr ⟨(Kw hw 29 rfl), rfl, hnm⟩) (Kw hw 1 rfl) (ty := (.array .byte)) (by decide) rfl rfl (oc 4 rfl) (Or.inl (List.mem_singleton.mpr rfl)) (Or.inr (List.mem_singleton.mpr rfl)) 97 rfl fun T g2 w W2 F2 Y2 => ?_
    have nu : u ≠ x := fun z => by obtain ⟨cl, k0, A, -⟩ := Y1; have := (Array.getElem?_eq_some_iff.mp A).1; rw [← z] at this; exact absurd P8 (Nat.not_le.mpr this)
    exact w_return w hEL hs hlk hret (oc 5 rfl) (by decide) (by decide) ⟨rfl, u, ku, Y2, F2, (F1.ext E2).other W2 (Or.inr sn.symm), P9.other W2 nu, hcs, hlt⟩
  · exact absurd ct20 hz
theorem rm_sib1 (G : Gl Z a0 zc fm tba ktb fba kfb) (h : Heap) (x : Addr) (b : Addr) {cap : Nat} (t : Addr) (kt : ClassId) (cs : List Int32) (v0 v1 : Value) (B0 : Sb1 Z h b t kt cap cs) (hlt : cs.length ≤ 110) (hlt2 : cs.length < cap) (E0 : Exa Z h x ST) (F_v : Fld Z h x ST "value" "[B" v0) (F_c : Fld Z h x ST "coder" "B" v1) :
    Met l Z consts_1 mN35 jdk_42_method_53_code 2 none (mkR 4 1 224 87) #[.ref x, .ref b] h [x] [x] (fun v h' => v = none ∧ ∃ u ku, S1 Z h' x u ku cs) := by
  have G0 := G
  obtain ⟨hw, hEL, -⟩ := G
  refine Met.of (plainFor_of_name pn_1) ?_
  intro p e s m below meth c T hnm hret hlk hby hml hs w; have oa := @dat _ _ dL35a _ hby
  refine Run.cast (efL (L := #[vR x, vR b]) (by simp [argsToLocals, Value.category, vI, vR, vJ])) ?_
  refine jm w (oa 0 rfl) rfl rfl 1 rfl <| jm w (oa 1 rfl) rfl rfl 2 rfl <| s_anull w (oa 2 rfl) 3 rfl <| wI w hEL (cB24 hw) (Kw hw 203 rfl) rfl (rm_sia1 G0 h x b t kt cs v0 v1 B0 hlt hlt2 E0 F_v F_c) (allS (mi 0 rfl) all0) (allS (Or.inl (mi 0 rfl)) all0) x [.ref b, .null] [] rfl rfl rfl (oa 3 rfl) hml rfl 0 rfl (by decide) 6 rfl fun u1 N2 T h3 w K4 P5 => ?_
  obtain ⟨rfl, rfl, P9⟩ := P5
  show Run _ _ _ _ _ (mkF _ _ _ [])
  exact w_return w hEL hs hlk hret (oa 4 rfl) (by decide) (by decide) ⟨rfl, P9⟩
theorem rm_tos1 (G : Gl Z a0 zc fm tba ktb fba kfb) (h : Heap) (b : Addr) {cap : Nat} (t : Addr) (kt : ClassId) (cs : List Int32) (B0 : Sb1 Z h b t kt cap cs) (hlt : cs.length ≤ 110) (hlt2 : cs.length < cap) :
    Met l Z consts_1 mN36 jdk_67_method_42_code 1 (some (.object "java/lang/String")) (mkR 5 2 228 101) #[.ref b] h [] [] (fun v h' => ∃ x, v = some (.ref x) ∧ Str Z h' x cs) := by
  have G0 := G
  obtain ⟨hw, hEL, -⟩ := G
  refine Met.of (plainFor_of_name pn_5) ?_
  intro p e s m below meth c T hnm hret hlk hby hml hs w; have oa := @dat _ _ dL36a _ hby
  refine Run.cast (efL (L := #[vR b]) (by simp [argsToLocals, Value.category, vI, vR, vJ])) ?_
  refine w_new w (Kw hw 199 rfl) (Kw hw 1 rfl) (Kw hw 2 rfl) (oa 0 rfl) 3 rfl (by decide) (by decide) fun T h1 x2 w E3 q4 r5 A6 D7 => ?_
  have F_coder_x2 : Fld Z h1 x2 "java/lang/String" "coder" "B" (.int 0) := D7 (Or.inr (Kw hw 27 rfl)) (ty := .byte) (by decide)
  have F_value_x2 : Fld Z h1 x2 "java/lang/String" "value" "[B" (.null) := D7 (Or.inr (Kw hw 29 rfl)) (ty := (.array .byte)) (by decide)
  refine jd w (oa 1 rfl) rfl 4 rfl <| jm w (oa 2 rfl) rfl rfl 5 rfl <| wI w hEL (cB25 hw) (Kw hw 200 rfl) rfl (rm_sib1 G0 h1 x2 b t kt cs _ _ (B0.ext E3) hlt hlt2 A6 F_value_x2 F_coder_x2) (allS (mi 0 rfl) all0) (allS (Or.inr r5) all0) x2 [.ref b] [.ref x2] rfl rfl rfl (oa 3 rfl) hml rfl 1 rfl (by decide) 8 rfl fun u8 N9 T h10 w K11 P12 => ?_
  obtain ⟨rfl, rfl, u, ku, P9⟩ := P12
  show Run _ _ _ _ _ (mkF _ _ _ [.ref x2])
  exact w_areturn w hEL hs hlk hret rfl rfl (oa 4 rfl) (by decide) (by decide) ⟨x2, rfl, P9.str⟩
open StrChars StrChars.Road

def dL37al : List (Nat × Instr × Nat) := [(0, .getstatic 38, 3), (3, .ifCond .eq 14, 3), (6, .aload_n 0, 1), (7, .getfield 15, 3), (10, .ifCond .ne 7, 3), (13, .iconst 1, 1), (14, .goto 4, 3), (17, .iconst 0, 1), (18, .ireturn, 1)]
theorem dL37a : ∀ x ∈ dL37al, decode jdk_42_method_154_code x.1 = .ok x.2 := by decide +kernel
theorem rm_sil0 (G : Gl Z a0 zc fm tba ktb fba kfb) (h : Heap) (x : Addr) (F : Fld Z h x ST "coder" "B" (.int 0)) :
    Met l Z consts_1 mN37 jdk_42_method_154_code 1 (some .boolean) (mkR 0 0 0 0) #[.ref x] h [] [] (fun v h' => v = some (.int 1) ∧ h = h') := by
  obtain ⟨hw, hEL, SC, hz, -⟩ := G
  refine Met.of (plainFor_of_name pn_1) ?_
  intro p e s m below meth c T hnm hret hlk hby hml hs w; have oa := @dat _ _ dL37a _ hby
  refine Run.cast (efL (L := #[vR x]) (by simp [argsToLocals, Value.category, vI, vR, vJ])) ?_
  refine w_getS w (Kw hw 14 rfl) Via.refl (SC.ext w.old) (oa 0 rfl) 3 rfl fun T w => ?_
  refine s_if_eq w (oa 1 rfl) (by decide) 6 rfl 17 rfl (fun ct1 => ?_) (fun ct1 => ?_)
  · -- ¬ (zc = 0)
    refine jm w (oa 2 rfl) rfl rfl 7 rfl <| jF w (Kw hw 26 rfl) Via.refl F (oa 3 rfl) 10 rfl fun T w => ?_
    refine s_if_ne w (oa 4 rfl) (by decide) 13 rfl 17 rfl (fun _ => ?_) (fun q => absurd q (by decide))
    refine jc w 1 (oa 5 rfl) rfl 14 rfl <| jt w (oa 6 rfl) (by decide) 18 rfl ?_
    exact w_ireturn w hEL hs hlk hret rfl (Or.inr (Or.inl rfl)) (oa 8 rfl) (by decide) (by decide) ⟨rfl, rfl⟩
  · -- zc = 0
    refine jc w 0 (oa 7 rfl) rfl 18 rfl ?_
    exact absurd ct1 hz
theorem rm_sil1 (G : Gl Z a0 zc fm tba ktb fba kfb) (h : Heap) (x : Addr) (F : Fld Z h x ST "coder" "B" (.int 1)) :
    Met l Z consts_1 mN37 jdk_42_method_154_code 1 (some .boolean) (mkR 0 0 0 0) #[.ref x] h [] [] (fun v h' => v = some (.int 0) ∧ h = h') := by
  obtain ⟨hw, hEL, SC, -⟩ := G
  refine Met.of (plainFor_of_name pn_1) ?_
  intro p e s m below meth c T hnm hret hlk hby hml hs w; have oa := @dat _ _ dL37a _ hby
  refine Run.cast (efL (L := #[vR x]) (by simp [argsToLocals, Value.category, vI, vR, vJ])) ?_
  refine w_getS w (Kw hw 14 rfl) Via.refl (SC.ext w.old) (oa 0 rfl) 3 rfl fun T w => ?_
  refine s_if_eq w (oa 1 rfl) (by decide) 6 rfl 17 rfl (fun ct1 => ?_) (fun ct1 => ?_)
  · -- ¬ (zc = 0)
    refine jm w (oa 2 rfl) rfl rfl 7 rfl <| jF w (Kw hw 26 rfl) Via.refl F (oa 3 rfl) 10 rfl fun T w => ?_
    refine s_if_ne w (oa 4 rfl) (by decide) 13 rfl 17 rfl (fun q => absurd q (by decide)) (fun _ => ?_)
    refine jc w 0 (oa 7 rfl) rfl 18 rfl ?_
    exact w_ireturn w hEL hs hlk hret rfl (Or.inr (Or.inl rfl)) (oa 8 rfl) (by decide) (by decide) ⟨rfl, rfl⟩
  · -- zc = 0
    refine jc w 0 (oa 7 rfl) rfl 18 rfl ?_
    exact w_ireturn w hEL hs hlk hret rfl (Or.inr (Or.inl rfl)) (oa 8 rfl) (by decide) (by decide) ⟨rfl, rfl⟩
def dL38al : List (Nat × Instr × Nat) := [(0, .iload_n 0, 1), (1, .ifCond .lt 8, 3), (4, .iload_n 0, 1), (5, .iload_n 1, 1), (6, .if_icmp .lt 10, 3), (16, .iload_n 0, 1), (17, .ireturn, 1)]
theorem dL38a : ∀ x ∈ dL38al, decode jdk_41_method_11_code x.1 = .ok x.2 := by decide +kernel
theorem rm_pci0 (G : Gl Z a0 zc fm tba ktb fba kfb) (h : Heap) (I0 : Int32) (N : Int32) (i n : Nat) (hI : I0 = Int32.ofNat i) (hN : N = Int32.ofNat n) (hi : i < n) (hn : n ≤ 2000) :
    Met l Z consts_1 mN38 jdk_41_method_11_code 3 (some .int) (mkR 0 0 0 0) #[.int I0, .int N, .null] h [] [] (fun v h' => v = some (.int I0) ∧ h = h') := by
  obtain ⟨-, hEL, -⟩ := G
  refine Met.of (plainFor_of_name pn_2) ?_
  intro p e s m below meth c T hnm hret hlk hby hml hs w; have oa := @dat _ _ dL38a _ hby
  refine Run.cast (efL (L := #[vI I0, vI N, .val (.null)]) (by simp [argsToLocals, Value.category, vI, vR, vJ])) ?_
  refine jn w (oa 0 rfl) rfl 1 rfl <| s_if_lt w (oa 1 rfl) (by decide) 4 rfl 9 rfl (fun ct1 => ?_) (fun ct1 => ?_)
  · skip
    refine jn w (oa 2 rfl) rfl 5 rfl <| jn w (oa 3 rfl) rfl 6 rfl <| s_icmp_lt w (oa 4 rfl) (by decide) 9 rfl 16 rfl (fun ct2 => ?_) (fun ct2 => ?_)
    · exact absurd (by rw [hI, hN]; exact (ofNat_cmp (by omega) (by omega)).mpr hi) ct2
    · skip
      refine jn w (oa 5 rfl) rfl 17 rfl ?_
      exact w_ireturn w hEL hs hlk hret rfl (Or.inl rfl) (oa 6 rfl) (by decide) (by decide) ⟨rfl, rfl⟩
  · exact absurd ct1 (by rw [hI]; exact ofNat_lt (by omega))
theorem rm_pci1 (G : Gl Z a0 zc fm tba ktb fba kfb) (h : Heap) (I0 : Int32) (N : Int32) (ra : Addr) (i n : Nat) (hI : I0 = Int32.ofNat i) (hN : N = Int32.ofNat n) (hi : i < n) (hn : n ≤ 2000) :
    Met l Z consts_1 mN38 jdk_41_method_11_code 3 (some .int) (mkR 0 0 0 0) #[.int I0, .int N, .ref ra] h [] [] (fun v h' => v = some (.int I0) ∧ h = h') := by
  obtain ⟨-, hEL, -⟩ := G
  refine Met.of (plainFor_of_name pn_2) ?_
  intro p e s m below meth c T hnm hret hlk hby hml hs w; have oa := @dat _ _ dL38a _ hby
  refine Run.cast (efL (L := #[vI I0, vI N, vR ra]) (by simp [argsToLocals, Value.category, vI, vR, vJ])) ?_
  refine jn w (oa 0 rfl) rfl 1 rfl <| s_if_lt w (oa 1 rfl) (by decide) 4 rfl 9 rfl (fun ct1 => ?_) (fun ct1 => ?_)
  · skip
    refine jn w (oa 2 rfl) rfl 5 rfl <| jn w (oa 3 rfl) rfl 6 rfl <| s_icmp_lt w (oa 4 rfl) (by decide) 9 rfl 16 rfl (fun ct2 => ?_) (fun ct2 => ?_)
    · exact absurd (by rw [hI, hN]; exact (ofNat_cmp (by omega) (by omega)).mpr hi) ct2
    · skip
      refine jn w (oa 5 rfl) rfl 17 rfl ?_
      exact w_ireturn w hEL hs hlk hret rfl (Or.inl rfl) (oa 6 rfl) (by decide) (by decide) ⟨rfl, rfl⟩
  · exact absurd ct1 (by rw [hI]; exact ofNat_lt (by omega))
def dL39al : List (Nat × Instr × Nat) := [(0, .iload_n 0, 1), (1, .iload_n 1, 1), (2, .getstatic 1053, 3), (5, .invokestatic 1059, 3), (8, .pop, 1), (9, .return_, 1)]
theorem dL39a : ∀ x ∈ dL39al, decode jdk_42_method_155_code x.1 = .ok x.2 := by decide +kernel
theorem rm_sci (G : Gl Z a0 zc fm tba ktb fba kfb) (h : Heap) (I0 : Int32) (N : Int32) (i n : Nat) (hI : I0 = Int32.ofNat i) (hN : N = Int32.ofNat n) (hi : i < n) (hn : n ≤ 2000) :
    Met l Z consts_1 mN39 jdk_42_method_155_code 2 none (mkR 1 0 0 14) #[.int I0, .int N] h [] [] (fun v h' => v = none ∧ h = h') := by
  have G0 := G
  obtain ⟨hw, hEL, -, -, SF, hfm, -⟩ := G
  refine Met.of (plainFor_of_name pn_1) ?_
  intro p e s m below meth c T hnm hret hlk hby hml hs w; have oa := @dat _ _ dL39a _ hby
  refine Run.cast (efL (L := #[vI I0, vI N]) (by simp [argsToLocals, Value.category, vI, vR, vJ])) ?_
  rcases ref_cases hfm with rfl | ⟨ra, rfl⟩
  · skip
    refine jn w (oa 0 rfl) rfl 1 rfl <| jn w (oa 1 rfl) rfl 2 rfl <| w_getS w (Kw hw 98 rfl) Via.refl (SF.ext w.old) (oa 2 rfl) 5 rfl fun T w => ?_
    refine wS w hEL (cB26 hw) (Kw hw 289 rfl) (rm_pci0 G0 h I0 N i n hI hN hi hn) all0 all0 [.int I0, .int N, .null] [] rfl rfl rfl (oa 3 rfl) hml rfl 0 rfl (by decide) 8 rfl fun u1 N2 T h3 w K4 P5 => ?_
    obtain ⟨rfl, rfl, rfl⟩ := P5
    show Run _ _ _ _ _ (mkF _ _ _ [.int I0])
    refine s_pop w (oa 4 rfl) rfl 9 rfl ?_
    exact w_return w hEL hs hlk hret (oa 5 rfl) (by decide) (by decide) ⟨rfl, rfl⟩
  · skip
    refine jn w (oa 0 rfl) rfl 1 rfl <| jn w (oa 1 rfl) rfl 2 rfl <| w_getS w (Kw hw 98 rfl) Via.refl (SF.ext w.old) (oa 2 rfl) 5 rfl fun T w => ?_
    refine wS w hEL (cB26 hw) (Kw hw 289 rfl) (rm_pci1 G0 h I0 N ra i n hI hN hi hn) all0 all0 [.int I0, .int N, .ref ra] [] rfl rfl rfl (oa 3 rfl) hml rfl 0 rfl (by decide) 8 rfl fun u7 N8 T h9 w K10 P11 => ?_
    obtain ⟨rfl, rfl, rfl⟩ := P11
    show Run _ _ _ _ _ (mkF _ _ _ [.int I0])
    refine s_pop w (oa 4 rfl) rfl 9 rfl ?_
    exact w_return w hEL hs hlk hret (oa 5 rfl) (by decide) (by decide) ⟨rfl, rfl⟩
def dL40al : List (Nat × Instr × Nat) := [(0, .iload_n 1, 1), (1, .aload_n 0, 1), (2, .arraylength, 1), (3, .invokestatic 9, 3), (6, .aload_n 0, 1), (7, .iload_n 1, 1), (8, .baload, 1), (9, .sipush 255, 3), (12, .iand, 1), (13, .i2c, 1), (14, .ireturn, 1)]
theorem dL40a : ∀ x ∈ dL40al, decode jdk_43_method_2_code x.1 = .ok x.2 := by decide +kernel
theorem rm_lca (G : Gl Z a0 zc fm tba ktb fba kfb) (h : Heap) (t : Addr) (I0 : Int32) (i : Nat) (kt : ClassId) (cs : List Int32) (hI : I0 = Int32.ofNat i) (hi : i < cs.length) (hl : cs.length ≤ 110) (hlat : ∀ c ∈ cs, Lat c) (A : Arv Z h t kt .byte (Int32.ofNat cs.length) (low cs) (.int 0)) :
    Met l Z consts_1 mN40 jdk_43_method_2_code 2 (some .char) (mkR 2 0 0 27) #[.ref t, .int I0] h [] [] (fun v h' => v = some (.int (cs.getD i 0)) ∧ h = h') := by
  have G0 := G
  obtain ⟨hw, hEL, -⟩ := G
  refine Met.of (plainFor_of_name pn_3) ?_
  intro p e s m below meth c T hnm hret hlk hby hml hs w; have oa := @dat _ _ dL40a _ hby
  refine Run.cast (efL (L := #[vR t, vI I0]) (by simp [argsToLocals, Value.category, vI, vR, vJ])) ?_
  refine jn w (oa 0 rfl) rfl 1 rfl <| jm w (oa 1 rfl) rfl rfl 2 rfl <| w_len w A (oa 2 rfl) 3 rfl <| wS w hEL (cB27 hw) (Kw hw 286 rfl) (rm_sci G0 h I0 _ i cs.length hI rfl hi (by omega)) all0 all0 [.int I0, .int (Int32.ofNat cs.length)] [] rfl rfl rfl (oa 3 rfl) hml rfl 0 rfl (by decide) 6 rfl fun u1 N2 T h3 w K4 P5 => ?_
  obtain ⟨rfl, rfl, rfl⟩ := P5
  show Run _ _ _ _ _ (mkF _ _ _ [])
  refine jm w (oa 4 rfl) rfl rfl 7 rfl <| jn w (oa 5 rfl) rfl 8 rfl <| w_ldB w A (i := i) (by rw [hI]; exact ofNat_lt (by omega)) (by rw [hI]; exact ofNat_nat (by omega)) (by rw [ofNat_nat (by omega)]; exact hi) (low_get hi) (oa 6 rfl) 9 rfl <| s_sipush w 255 (oa 7 rfl) rfl 12 rfl <| jw w (oa 8 rfl) 13 rfl <| s_i2c w (oa 9 rfl) 14 rfl ?_
  have lc := hlat _ (getD_memC hi)
  rw [lo8_mask lc.1 lc.2, lc.nar]
  exact w_ireturn w hEL hs hlk hret (narrow_ch (lat_chr lc).1 (lat_chr lc).2) (Or.inr (Or.inr (Or.inr (Or.inl rfl)))) (oa 10 rfl) (by decide) (by decide) ⟨rfl, rfl⟩
def dL41al : List (Nat × Instr × Nat) := [(0, .iload_n 0, 1), (1, .aload_n 1, 1), (2, .invokestatic 48, 3), (5, .invokestatic 414, 3), (8, .return_, 1)]
theorem dL41a : ∀ x ∈ dL41al, decode jdk_52_method_91_code x.1 = .ok x.2 := by decide +kernel
theorem rm_uci (G : Gl Z a0 zc fm tba ktb fba kfb) (h : Heap) (I0 : Int32) (t : Addr) (i : Nat) (kt : ClassId) (cs : List Int32) (hI : I0 = Int32.ofNat i) (hi : i < cs.length) (hl : cs.length ≤ 110) (hc : ∀ c ∈ cs, Chr c) (A : Arv Z h t kt .byte (Int32.ofNat (2 * cs.length)) (wideBytes cs) (.int 0)) :
    Met l Z consts_1 mN41 jdk_52_method_91_code 2 none (mkR 2 0 0 27) #[.int I0, .ref t] h [] [] (fun v h' => v = none ∧ h = h') := by
  have G0 := G
  obtain ⟨hw, hEL, -⟩ := G
  refine Met.of (plainFor_of_name pn_0) ?_
  intro p e s m below meth c T hnm hret hlk hby hml hs w; have oa := @dat _ _ dL41a _ hby
  refine Run.cast (efL (L := #[vI I0, vR t]) (by simp [argsToLocals, Value.category, vI, vR, vJ])) ?_
  refine jn w (oa 0 rfl) rfl 1 rfl <| jm w (oa 1 rfl) rfl rfl 2 rfl <| wS w hEL (cB3 hw) (Kw hw 327 rfl) (rm_ul G0 h t cs.length kt _ A (by omega)) all0 all0 [.ref t] [.int I0] rfl rfl rfl (oa 2 rfl) hml rfl 1 rfl (by decide) 5 rfl fun u1 N2 T h3 w K4 P5 => ?_
  obtain ⟨rfl, rfl, rfl⟩ := P5
  show Run _ _ _ _ _ (mkF _ _ _ [.int (Int32.ofNat cs.length), .int I0])
  refine wS w hEL (cB27 hw) (Kw hw 340 rfl) (rm_sci G0 h I0 _ i cs.length hI rfl hi (by omega)) all0 all0 [.int I0, .int (Int32.ofNat cs.length)] [] rfl rfl rfl (oa 3 rfl) hml rfl 0 rfl (by decide) 8 rfl fun u7 N8 T h9 w K10 P11 => ?_
  obtain ⟨rfl, rfl, rfl⟩ := P11
  show Run _ _ _ _ _ (mkF _ _ _ [])
  exact w_return w hEL hs hlk hret (oa 4 rfl) (by decide) (by decide) ⟨rfl, rfl⟩
def dL42al : List (Nat × Instr × Nat) := [(0, .iload_n 1, 1), (1, .aload_n 0, 1), (2, .invokestatic 67, 3), (5, .aload_n 0, 1), (6, .iload_n 1, 1), (7, .invokestatic 71, 3), (10, .ireturn, 1)]
theorem dL42a : ∀ x ∈ dL42al, decode jdk_52_method_83_code x.1 = .ok x.2 := by decide +kernel
theorem rm_uca (G : Gl Z a0 zc fm tba ktb fba kfb) (h : Heap) (t : Addr) (I0 : Int32) (i : Nat) (kt : ClassId) (cs : List Int32) (hI : I0 = Int32.ofNat i) (hi : i < cs.length) (hl : cs.length ≤ 110) (hc : ∀ c ∈ cs, Chr c) (A : Arv Z h t kt .byte (Int32.ofNat (2 * cs.length)) (wideBytes cs) (.int 0)) :
    Met l Z consts_1 mN42 jdk_52_method_83_code 2 (some .char) (mkR 3 0 0 40) #[.ref t, .int I0] h [] [] (fun v h' => v = some (.int (cs.getD i 0)) ∧ h = h') := by
  have G0 := G
  obtain ⟨hw, hEL, -⟩ := G
  refine Met.of (plainFor_of_name pn_0) ?_
  intro p e s m below meth c T hnm hret hlk hby hml hs w; have oa := @dat _ _ dL42a _ hby
  refine Run.cast (efL (L := #[vR t, vI I0]) (by simp [argsToLocals, Value.category, vI, vR, vJ])) ?_
  refine jn w (oa 0 rfl) rfl 1 rfl <| jm w (oa 1 rfl) rfl rfl 2 rfl <| wS w hEL (cB28 hw) (Kw hw 337 rfl) (rm_uci G0 h I0 t i kt cs hI hi hl hc A) all0 all0 [.int I0, .ref t] [] rfl rfl rfl (oa 2 rfl) hml rfl 0 rfl (by decide) 5 rfl fun u1 N2 T h3 w K4 P5 => ?_
  obtain ⟨rfl, rfl, rfl⟩ := P5
  show Run _ _ _ _ _ (mkF _ _ _ [])
  refine jm w (oa 3 rfl) rfl rfl 6 rfl <| jn w (oa 4 rfl) rfl 7 rfl <| wS w hEL (cB29 hw) (Kw hw 308 rfl) (rm_gch G0 h t I0 i hI kt cs _ rfl A hi (by omega) hc) all0 all0 [.ref t, .int I0] [] rfl rfl rfl (oa 5 rfl) hml rfl 0 rfl (by decide) 10 rfl fun u7 N8 T h9 w K10 P11 => ?_
  obtain ⟨rfl, rfl, rfl⟩ := P11
  show Run _ _ _ _ _ (mkF _ _ _ [.int (cs.getD i 0)])
  exact w_ireturn w hEL hs hlk hret (narrow_ch (hc _ (getD_memC hi)).1 (hc _ (getD_memC hi)).2) (Or.inr (Or.inr (Or.inr (Or.inl rfl)))) (oa 6 rfl) (by decide) (by decide) ⟨rfl, rfl⟩
def dL43al : List (Nat × Instr × Nat) := [(0, .aload_n 0, 1), (1, .invokevirtual 492, 3), (4, .ifCond .eq 12, 3), (7, .aload_n 0, 1), (8, .getfield 9, 3), (11, .iload_n 1, 1), (12, .invokestatic 495, 3), (15, .ireturn, 1), (16, .aload_n 0, 1), (17, .getfield 9, 3), (20, .iload_n 1, 1), (21, .invokestatic 498, 3), (24, .ireturn, 1)]
theorem dL43a : ∀ x ∈ dL43al, decode jdk_42_method_56_code x.1 = .ok x.2 := by decide +kernel
theorem rm_cha (G : Gl Z a0 zc fm tba ktb fba kfb) (h : Heap) (x : Addr) (I0 : Int32) (i : Nat) (cs : List Int32) (hI : I0 = Int32.ofNat i) (hi : i < cs.length) (hl : cs.length ≤ 110) (Sx : Str Z h x cs) :
    Met l Z consts_1 mN43 jdk_42_method_56_code 2 (some .char) (mkR 4 0 0 53) #[.ref x, .int I0] h [] [] (fun v h' => v = some (.int (cs.getD i 0)) ∧ h = h') := by
  have G0 := G
  obtain ⟨hw, hEL, -⟩ := G
  refine Met.of (plainFor_of_name pn_1) ?_
  intro p e s m below meth c T hnm hret hlk hby hml hs w; have oa := @dat _ _ dL43a _ hby
  refine Run.cast (efL (L := #[vR x, vI I0]) (by simp [argsToLocals, Value.category, vI, vR, vJ])) ?_
  have hcc : Chr (cs.getD i 0) := Sx.2.elim fun _ q => q.elim fun _ q => q.elim fun _ q => q.elim fun _ q => q.elim fun _ q => q.2.2.2.2.1 _ (getD_memC hi)
  rcases Str.two Sx hl with ⟨tx, kx, X0⟩ | ⟨tx, kx, X0⟩
  · skip
    have X1 := X0
    have Sx := X0.str
    obtain ⟨Ex, Vx, Cx, Ax, hds, hdl⟩ := X0
    refine jm w (oa 0 rfl) rfl rfl 1 rfl <| wV w hEL (cB30 hw) (Kw hw 278 rfl) (Kw hw 279 rfl) (Kw hw 281 rfl) (Kw hw 281 rfl) Ex (rm_sil0 G0 h x Cx) all0 all0 [] [] rfl rfl rfl (oa 1 rfl) hml rfl 0 rfl (by decide) 4 rfl fun u1 N2 T h3 w K4 P5 => ?_
    obtain ⟨rfl, rfl, rfl⟩ := P5
    show Run _ _ _ _ _ (mkF _ _ _ [.int 1])
    refine s_if_eq w (oa 2 rfl) (by decide) 7 rfl 16 rfl (fun _ => ?_) (fun q => absurd q (by decide))
    refine jm w (oa 3 rfl) rfl rfl 8 rfl <| jF w (Kw hw 28 rfl) Via.refl Vx (oa 4 rfl) 11 rfl fun T w => ?_
    refine jn w (oa 5 rfl) rfl 12 rfl <| wS w hEL (cB31 hw) (Kw hw 283 rfl) (rm_lca G0 h tx I0 i kx cs hI hi hl hds Ax) all0 all0 [.ref tx, .int I0] [] rfl rfl rfl (oa 6 rfl) hml rfl 0 rfl (by decide) 15 rfl fun u8 N9 T h10 w K11 P12 => ?_
    obtain ⟨rfl, rfl, rfl⟩ := P12
    show Run _ _ _ _ _ (mkF _ _ _ [.int (cs.getD i 0)])
    exact w_ireturn w hEL hs hlk hret (narrow_ch hcc.1 hcc.2) (Or.inr (Or.inr (Or.inr (Or.inl rfl)))) (oa 7 rfl) (by decide) (by decide) ⟨rfl, rfl⟩
  · skip
    have X1 := X0
    have Sx := X0.str
    obtain ⟨Ex, Vx, Cx, Ax, hds, hdl⟩ := X0
    refine jm w (oa 0 rfl) rfl rfl 1 rfl <| wV w hEL (cB30 hw) (Kw hw 278 rfl) (Kw hw 279 rfl) (Kw hw 281 rfl) (Kw hw 281 rfl) Ex (rm_sil1 G0 h x Cx) all0 all0 [] [] rfl rfl rfl (oa 1 rfl) hml rfl 0 rfl (by decide) 4 rfl fun u14 N15 T h16 w K17 P18 => ?_
    obtain ⟨rfl, rfl, rfl⟩ := P18
    show Run _ _ _ _ _ (mkF _ _ _ [.int 0])
    refine s_if_eq w (oa 2 rfl) (by decide) 7 rfl 16 rfl (fun q => absurd q (by decide)) (fun _ => ?_)
    refine jm w (oa 8 rfl) rfl rfl 17 rfl <| jF w (Kw hw 28 rfl) Via.refl Vx (oa 9 rfl) 20 rfl fun T w => ?_
    refine jn w (oa 10 rfl) rfl 21 rfl <| wS w hEL (cB32 hw) (Kw hw 334 rfl) (rm_uca G0 h tx I0 i kx cs hI hi hl hds.1 Ax) all0 all0 [.ref tx, .int I0] [] rfl rfl rfl (oa 11 rfl) hml rfl 0 rfl (by decide) 24 rfl fun u21 N22 T h23 w K24 P25 => ?_
    obtain ⟨rfl, rfl, rfl⟩ := P25
    show Run _ _ _ _ _ (mkF _ _ _ [.int (cs.getD i 0)])
    exact w_ireturn w hEL hs hlk hret (narrow_ch hcc.1 hcc.2) (Or.inr (Or.inr (Or.inr (Or.inl rfl)))) (oa 12 rfl) (by decide) (by decide) ⟨rfl, rfl⟩
open StrChars StrChars.Road

def ncap (cap m : Nat) : Nat := cap + max (m - cap) (cap + 2)
theorem ofN_sub {a b : Nat} (h : b ≤ a) (h' : a ≤ 4000) : Int32.ofNat a - Int32.ofNat b = Int32.ofNat (a - b) := by
  have q := c_isub (Int32.ofNat a) (Int32.ofNat b)
  have r := rng32 (Int32.ofNat a - Int32.ofNat b)
  rw [Int32.toInt_ofNat_of_lt (by omega), Int32.toInt_ofNat_of_lt (by omega)] at q
  rw [← Int32.toInt_inj, Int32.toInt_ofNat_of_lt (by omega)]
  omega
theorem ofN_max {a b : Nat} (h : a ≤ 4000) (h' : b ≤ 4000) : (if Int32.ofNat a < Int32.ofNat b then Int32.ofNat b else Int32.ofNat a) = Int32.ofNat (max a b) := by
  by_cases q : a < b
  · rw [if_pos ((ofNat_cmp h h').mpr q), Nat.max_eq_right (by omega)]
  · rw [if_neg (fun z => q ((ofNat_cmp h h').mp z)), Nat.max_eq_left (by omega)]
theorem ofN_add (a b : Nat) : Int32.ofNat a + Int32.ofNat b = Int32.ofNat (a + b) := (Int32.ofNat_add _ _).symm
theorem ofN_small {n : Nat} (h : n ≤ 4000) : ¬ (2147483639 : Int32) < Int32.ofNat n := by
  rw [Int32.lt_iff_toInt_lt, Int32.toInt_ofNat_of_lt (by omega)]
  have e : (2147483639 : Int32).toInt = 2147483639 := by decide
  omega
theorem ofN_neMax {n : Nat} (h : n ≤ 4000) : ¬ Int32.ofNat n = (2147483647 : Int32) := fun q => by
  have e := congrArg Int32.toInt q
  rw [Int32.toInt_ofNat_of_lt (by omega), show (2147483647 : Int32).toInt = 2147483647 from by decide] at e
  omega
theorem sub_gt {n m : Nat} (h : m < n) (h' : n ≤ 4000) : (0 : Int32) < Int32.ofNat n - Int32.ofNat m := by
  rw [ofN_sub (by omega) h', Int32.lt_iff_toInt_lt, i32_0, Int32.toInt_ofNat_of_lt (by omega)]; omega
theorem ncap2 (cap m : Nat) : 2 * cap + max (2 * m - 2 * cap) (2 * cap + 4) = 2 * ncap cap m := by
  unfold ncap; omega
theorem room_grow {cs : List Int32} {cap n : Nat} (h : cs.length ≤ cap) (h2 : cap ≤ n) : room_ cs cap ++ List.replicate (n - cap) (.int 0) = room_ cs n := by
  rw [room_, room_, List.append_assoc, List.replicate_append_replicate]
  congr 2; omega
theorem wroom_grow {cs : List Int32} {cap n : Nat} (h : cs.length ≤ cap) (h2 : cap ≤ n) : wroom cs cap ++ List.replicate (2 * n - 2 * cap) (.int 0) = wroom cs n := by
  rw [wroom, wroom, List.append_assoc, List.replicate_append_replicate]
  congr 2; omega

def dL44al : List (Nat × Instr × Nat) := [(0, .iload_n 0, 1), (1, .iload_n 1, 1), (2, .if_icmp .lt 7, 3), (5, .iload_n 0, 1), (6, .goto 4, 3), (9, .iload_n 1, 1), (10, .ireturn, 1)]
theorem dL44a : ∀ x ∈ dL44al, decode jdk_29_method_65_code x.1 = .ok x.2 := by decide +kernel
theorem rm_max (G : Gl Z a0 zc fm tba ktb fba kfb) (h : Heap) (x : Int32) (y : Int32)  :
    Met l Z consts_1 mN44 jdk_29_method_65_code 2 (some .int) (mkR 0 0 0 0) #[.int x, .int y] h [] [] (fun v h' => v = some (.int (if x < y then y else x)) ∧ h = h') := by
  obtain ⟨-, hEL, -⟩ := G
  refine Met.of (by decide +kernel) ?_
  intro p e s m below meth c T hnm hret hlk hby hml hs w; have oa := @dat _ _ dL44a _ hby
  refine Run.cast (efL (L := #[vI x, vI y]) (by simp [argsToLocals, Value.category, vI, vR, vJ])) ?_
  refine jn w (oa 0 rfl) rfl 1 rfl <| jn w (oa 1 rfl) rfl 2 rfl <| s_icmp_lt w (oa 2 rfl) (by decide) 5 rfl 9 rfl (fun ct1 => ?_) (fun ct1 => ?_)
  · -- ¬ (x < y)
    refine jn w (oa 3 rfl) rfl 6 rfl <| jt w (oa 4 rfl) (by decide) 10 rfl ?_
    exact w_ireturn w hEL hs hlk hret rfl (Or.inl rfl) (oa 6 rfl) (by decide) (by decide) ⟨by rw [if_neg ct1], rfl⟩
  · -- x < y
    refine jn w (oa 5 rfl) rfl 10 rfl ?_
    exact w_ireturn w hEL hs hlk hret rfl (Or.inl rfl) (oa 6 rfl) (by decide) (by decide) ⟨by rw [if_pos ct1], rfl⟩
theorem pn_7 : plainName "jdk/internal/util/ArraysSupport" = true := by first | (simp [plainName, overriddenIn]; done) | decide +kernel
def dL45al : List (Nat × Instr × Nat) := [(0, .iload_n 0, 1), (1, .iload_n 1, 1), (2, .iload_n 2, 1), (3, .invokestatic 194, 3), (6, .iadd, 1), (7, .istore_n 3, 1), (8, .iconst 0, 1), (9, .iload_n 3, 1), (10, .if_icmp .ge 11, 3), (13, .iload_n 3, 1), (14, .ldc 200, 2), (16, .if_icmp .gt 5, 3), (19, .iload_n 3, 1), (20, .ireturn, 1)]
theorem dL45a : ∀ x ∈ dL45al, decode jdk_48_method_27_code x.1 = .ok x.2 := by decide +kernel
theorem rm_nln (G : Gl Z a0 zc fm tba ktb fba kfb) (h : Heap) (O : Int32) (G0_ : Int32) (P : Int32) (o g p_ : Nat) (hO : O = Int32.ofNat o) (hG : G0_ = Int32.ofNat g) (hP : P = Int32.ofNat p_) (h0 : 0 < o) (hbd : o + max g p_ ≤ 2000) :
    Met l Z consts_1 mN45 jdk_48_method_27_code 4 (some .int) (mkR 1 0 0 14) #[.int O, .int G0_, .int P] h [] [] (fun v h' => v = some (.int (Int32.ofNat (o + max g p_))) ∧ h = h') := by
  have G0 := G
  obtain ⟨hw, hEL, -⟩ := G
  refine Met.of (plainFor_of_name pn_7) ?_
  intro p e s m below meth c T hnm hret hlk hby hml hs w; have oa := @dat _ _ dL45a _ hby
  refine Run.cast (efL (L := #[vI O, vI G0_, vI P, .unset]) (by simp [argsToLocals, Value.category, vI, vR, vJ])) ?_
  refine jn w (oa 0 rfl) rfl 1 rfl <| jn w (oa 1 rfl) rfl 2 rfl <| jn w (oa 2 rfl) rfl 3 rfl <| wS w hEL (cB33 hw) (Kw hw 182 rfl) (rm_max G0 h G0_ P) all0 all0 [.int G0_, .int P] [.int O] rfl rfl rfl (oa 3 rfl) hml rfl 1 rfl (by decide) 6 rfl fun u1 N2 T h3 w K4 P5 => ?_
  obtain ⟨rfl, rfl, rfl⟩ := P5
  rw [hG, hP, ofN_max (by omega) (by omega)]
  rw [hO]
  show Run _ _ _ _ _ (mkF _ _ _ [.int (Int32.ofNat (max g p_)), .int (Int32.ofNat o)])
  refine jp w (oa 4 rfl) 7 rfl ?_
  rw [ofN_add]
  refine s_istore_n w #[vI (Int32.ofNat o), vI (Int32.ofNat g), vI (Int32.ofNat p_), vI (Int32.ofNat (o + max g p_))] (oa 5 rfl) rfl 8 rfl <| jc w 0 (oa 6 rfl) rfl 9 rfl <| jn w (oa 7 rfl) rfl 10 rfl <| jg w (oa 8 rfl) (by decide) 13 rfl 21 rfl (fun ct7 => ?_) (fun ct7 => ?_)
  · skip
    refine jn w (oa 9 rfl) rfl 14 rfl <| w_ldcI w (v := 2147483639) (Kw hw 185 rfl) (oa 10 rfl) 16 rfl <| s_icmp_gt w (oa 11 rfl) (by decide) 19 rfl 21 rfl (fun ct8 => ?_) (fun ct8 => ?_)
    · skip
      refine jn w (oa 12 rfl) rfl 20 rfl ?_
      exact w_ireturn w hEL hs hlk hret rfl (Or.inl rfl) (oa 13 rfl) (by decide) (by decide) ⟨rfl, rfl⟩
    · exact absurd ct8 (ofN_small (by omega))
  · exact absurd ((ofNat_cmp (n := 0) (by omega) (by omega)).mpr (by omega)) ct7
def dL46al : List (Nat × Instr × Nat) := [(0, .aload_n 0, 1), (1, .getfield 15, 3), (4, .arraylength, 1), (5, .istore_n 2, 1), (6, .iload_n 1, 1), (7, .aload_n 0, 1), (8, .getfield 22, 3), (11, .ishl, 1), (12, .istore_n 3, 1), (13, .iload_n 3, 1), (14, .iload_n 2, 1), (15, .isub, 1), (16, .istore 4, 2), (18, .iload_n 2, 1), (19, .iload 4, 2), (21, .iload_n 2, 1)]
theorem dL46a : ∀ x ∈ dL46al, decode jdk_68_method_10_code x.1 = .ok x.2 := by decide +kernel
def dL46bl : List (Nat × Instr × Nat) := [(22, .iconst 2, 1), (23, .aload_n 0, 1), (24, .getfield 22, 3), (27, .ishl, 1), (28, .iadd, 1), (29, .invokestatic 114, 3), (32, .istore 5, 2), (34, .iload 5, 2), (36, .ldc 39, 2), (38, .if_icmp .ne 13, 3), (51, .iload 5, 2), (53, .aload_n 0, 1), (54, .getfield 22, 3), (57, .ishr, 1), (58, .ireturn, 1)]
theorem dL46b : ∀ x ∈ dL46bl, decode jdk_68_method_10_code x.1 = .ok x.2 := by decide +kernel
theorem rm_ncp0 (G : Gl Z a0 zc fm tba ktb fba kfb) (h : Heap) (b : Addr) (M : Int32) {cap : Nat} (t : Addr) (kt : ClassId) (m0 : Nat) (cs : List Int32) (hM : M = Int32.ofNat m0) (hm : cap < m0) (h0c : 0 < cap) (hn5 : ncap cap m0 ≤ 220) (B0 : Sb0 Z h b t kt cap cs) :
    Met l Z consts_1 mN46 jdk_68_method_10_code 6 (some .int) (mkR 2 0 0 29) #[.ref b, .int M] h [] [] (fun v h' => v = some (.int (Int32.ofNat (ncap cap m0))) ∧ h = h') := by
  have G0 := G
  obtain ⟨hw, hEL, -⟩ := G
  refine Met.of (plainFor_of_name pn_4) ?_
  intro p e s m below meth c T hnm hret hlk hby hml hs w; have oa := @dat _ _ dL46a _ hby; have ob := @dat _ _ dL46b _ hby
  refine Run.cast (efL (L := #[vR b, vI M, .unset, .unset, .unset, .unset]) (by simp [argsToLocals, Value.category, vI, vR, vJ])) ?_
  have B1 := B0
  obtain ⟨Eb, Vb, Cb, Nb, Mb, At, hcs, hcl⟩ := B0
  have hnn : ncap cap m0 ≤ 220 := hn5
  refine jm w (oa 0 rfl) rfl rfl 1 rfl <| jF w (Kw hw 120 rfl) Via.refl Vb (oa 1 rfl) 4 rfl fun T w => ?_
  refine w_len w At (oa 2 rfl) 5 rfl ?_
  refine s_istore_n w #[vR b, vI M, vI (Int32.ofNat cap), .unset, .unset, .unset] (oa 3 rfl) rfl 6 rfl <| jn w (oa 4 rfl) rfl 7 rfl <| jm w (oa 5 rfl) rfl rfl 8 rfl <| jF w (Kw hw 122 rfl) Via.refl Cb (oa 6 rfl) 11 rfl fun T w => ?_
  refine s_ishl w (oa 7 rfl) 12 rfl ?_
  rw [hM, shl0]
  show Run _ _ _ _ _ (mkF _ _ _ [.int (Int32.ofNat m0)])
  refine s_istore_n w #[vR b, vI (Int32.ofNat m0), vI (Int32.ofNat cap), vI (Int32.ofNat m0), .unset, .unset] (oa 8 rfl) rfl 13 rfl <| jn w (oa 9 rfl) rfl 14 rfl <| jn w (oa 10 rfl) rfl 15 rfl <| s_isub w (oa 11 rfl) 16 rfl ?_
  rw [ofN_sub (by omega) (by unfold ncap at hnn; omega)]
  show Run _ _ _ _ _ (mkF _ _ _ [.int (Int32.ofNat (m0 - cap))])
  refine js w #[vR b, vI (Int32.ofNat m0), vI (Int32.ofNat cap), vI (Int32.ofNat m0), vI (Int32.ofNat (m0 - cap)), .unset] (oa 12 rfl) rfl 18 rfl <| jn w (oa 13 rfl) rfl 19 rfl <| jl w (oa 14 rfl) rfl 21 rfl <| jn w (oa 15 rfl) rfl 22 rfl <| jc w 2 (ob 0 rfl) rfl 23 rfl <| jm w (ob 1 rfl) rfl rfl 24 rfl ?_
  refine jF w (Kw hw 122 rfl) Via.refl Cb (ob 2 rfl) 27 rfl fun T w => ?_
  refine s_ishl w (ob 3 rfl) 28 rfl ?_
  rw [show ((2 : Int32) <<< ((0 : Int32) &&& 31)) = Int32.ofNat 2 from by decide]
  show Run _ _ _ _ _ (mkF _ _ _ [.int (Int32.ofNat 2), .int (Int32.ofNat cap), .int (Int32.ofNat (m0 - cap)), .int (Int32.ofNat cap)])
  refine jp w (ob 4 rfl) 29 rfl ?_
  rw [ofN_add]
  show Run _ _ _ _ _ (mkF _ _ _ [.int (Int32.ofNat (cap + 2)), .int (Int32.ofNat (m0 - cap)), .int (Int32.ofNat cap)])
  refine wS w hEL (cB34 hw) (Kw hw 178 rfl) (rm_nln G0 h _ _ _ cap (m0 - cap) (cap + 2) rfl rfl rfl (by omega) (by unfold ncap at hnn; omega)) all0 all0 [.int (Int32.ofNat cap), .int (Int32.ofNat (m0 - cap)), .int (Int32.ofNat (cap + 2))] [] rfl rfl rfl (ob 5 rfl) hml rfl 0 rfl (by decide) 32 rfl fun u1 N2 T h3 w K4 P5 => ?_
  obtain ⟨rfl, rfl, rfl⟩ := P5
  rw [show cap + max (m0 - cap) (cap + 2) = ncap cap m0 from rfl]
  show Run _ _ _ _ _ (mkF _ _ _ [.int (Int32.ofNat (ncap cap m0))])
  refine js w #[vR b, vI (Int32.ofNat m0), vI (Int32.ofNat cap), vI (Int32.ofNat m0), vI (Int32.ofNat (m0 - cap)), vI (Int32.ofNat (ncap cap m0))] (ob 6 rfl) rfl 34 rfl <| jl w (ob 7 rfl) rfl 36 rfl <| w_ldcI w (v := 2147483647) (Kw hw 186 rfl) (ob 8 rfl) 38 rfl <| jx w (ob 9 rfl) (by decide) 41 rfl 51 rfl (fun ct7 => ?_) (fun ct7 => ?_)
  · exact absurd ct7 (ofN_neMax (by omega))
  · skip
    refine jl w (ob 10 rfl) rfl 53 rfl <| jm w (ob 11 rfl) rfl rfl 54 rfl <| jF w (Kw hw 122 rfl) Via.refl Cb (ob 12 rfl) 57 rfl fun T w => ?_
    refine s_ishr w (ob 13 rfl) 58 rfl ?_
    rw [shr0']
    exact w_ireturn w hEL hs hlk hret rfl (Or.inl rfl) (ob 14 rfl) (by decide) (by decide) ⟨rfl, rfl⟩
theorem rm_ncp1 (G : Gl Z a0 zc fm tba ktb fba kfb) (h : Heap) (b : Addr) (M : Int32) {cap : Nat} (t : Addr) (kt : ClassId) (m0 : Nat) (cs : List Int32) (hM : M = Int32.ofNat m0) (hm : cap < m0) (h0c : 0 < cap) (hn5 : ncap cap m0 ≤ 220) (B0 : Sb1 Z h b t kt cap cs) :
    Met l Z consts_1 mN46 jdk_68_method_10_code 6 (some .int) (mkR 2 0 0 29) #[.ref b, .int M] h [] [] (fun v h' => v = some (.int (Int32.ofNat (ncap cap m0))) ∧ h = h') := by
  have G0 := G
  obtain ⟨hw, hEL, -⟩ := G
  refine Met.of (plainFor_of_name pn_4) ?_
  intro p e s m below meth c T hnm hret hlk hby hml hs w; have oa := @dat _ _ dL46a _ hby; have ob := @dat _ _ dL46b _ hby
  refine Run.cast (efL (L := #[vR b, vI M, .unset, .unset, .unset, .unset]) (by simp [argsToLocals, Value.category, vI, vR, vJ])) ?_
  have B1 := B0
  obtain ⟨Eb, Vb, Cb, Nb, Mb, At, hcs, hcl⟩ := B0
  have hnn : ncap cap m0 ≤ 220 := hn5
  refine jm w (oa 0 rfl) rfl rfl 1 rfl <| jF w (Kw hw 120 rfl) Via.refl Vb (oa 1 rfl) 4 rfl fun T w => ?_
  refine w_len w At (oa 2 rfl) 5 rfl ?_
  refine s_istore_n w #[vR b, vI M, vI (Int32.ofNat (2 * cap)), .unset, .unset, .unset] (oa 3 rfl) rfl 6 rfl <| jn w (oa 4 rfl) rfl 7 rfl <| jm w (oa 5 rfl) rfl rfl 8 rfl <| jF w (Kw hw 122 rfl) Via.refl Cb (oa 6 rfl) 11 rfl fun T w => ?_
  refine s_ishl w (oa 7 rfl) 12 rfl ?_
  rw [hM, ofN_shl (by unfold ncap at hnn; omega)]
  show Run _ _ _ _ _ (mkF _ _ _ [.int (Int32.ofNat (2 * m0))])
  refine s_istore_n w #[vR b, vI (Int32.ofNat m0), vI (Int32.ofNat (2 * cap)), vI (Int32.ofNat (2 * m0)), .unset, .unset] (oa 8 rfl) rfl 13 rfl <| jn w (oa 9 rfl) rfl 14 rfl <| jn w (oa 10 rfl) rfl 15 rfl <| s_isub w (oa 11 rfl) 16 rfl ?_
  rw [ofN_sub (by omega) (by unfold ncap at hnn; omega)]
  show Run _ _ _ _ _ (mkF _ _ _ [.int (Int32.ofNat (2 * m0 - 2 * cap))])
  refine js w #[vR b, vI (Int32.ofNat m0), vI (Int32.ofNat (2 * cap)), vI (Int32.ofNat (2 * m0)), vI (Int32.ofNat (2 * m0 - 2 * cap)), .unset] (oa 12 rfl) rfl 18 rfl <| jn w (oa 13 rfl) rfl 19 rfl <| jl w (oa 14 rfl) rfl 21 rfl <| jn w (oa 15 rfl) rfl 22 rfl <| jc w 2 (ob 0 rfl) rfl 23 rfl <| jm w (ob 1 rfl) rfl rfl 24 rfl ?_
  refine jF w (Kw hw 122 rfl) Via.refl Cb (ob 2 rfl) 27 rfl fun T w => ?_
  refine s_ishl w (ob 3 rfl) 28 rfl ?_
  rw [show ((2 : Int32) <<< ((1 : Int32) &&& 31)) = Int32.ofNat 4 from by decide]
  show Run _ _ _ _ _ (mkF _ _ _ [.int (Int32.ofNat 4), .int (Int32.ofNat (2 * cap)), .int (Int32.ofNat (2 * m0 - 2 * cap)), .int (Int32.ofNat (2 * cap))])
  refine jp w (ob 4 rfl) 29 rfl ?_
  rw [ofN_add]
  show Run _ _ _ _ _ (mkF _ _ _ [.int (Int32.ofNat (2 * cap + 4)), .int (Int32.ofNat (2 * m0 - 2 * cap)), .int (Int32.ofNat (2 * cap))])
  refine wS w hEL (cB34 hw) (Kw hw 178 rfl) (rm_nln G0 h _ _ _ (2 * cap) (2 * m0 - 2 * cap) (2 * cap + 4) rfl rfl rfl (by omega) (by unfold ncap at hnn; omega)) all0 all0 [.int (Int32.ofNat (2 * cap)), .int (Int32.ofNat (2 * m0 - 2 * cap)), .int (Int32.ofNat (2 * cap + 4))] [] rfl rfl rfl (ob 5 rfl) hml rfl 0 rfl (by decide) 32 rfl fun u1 N2 T h3 w K4 P5 => ?_
  obtain ⟨rfl, rfl, rfl⟩ := P5
  rw [ncap2]
  show Run _ _ _ _ _ (mkF _ _ _ [.int (Int32.ofNat (2 * ncap cap m0))])
  refine js w #[vR b, vI (Int32.ofNat m0), vI (Int32.ofNat (2 * cap)), vI (Int32.ofNat (2 * m0)), vI (Int32.ofNat (2 * m0 - 2 * cap)), vI (Int32.ofNat (2 * ncap cap m0))] (ob 6 rfl) rfl 34 rfl <| jl w (ob 7 rfl) rfl 36 rfl <| w_ldcI w (v := 2147483647) (Kw hw 186 rfl) (ob 8 rfl) 38 rfl <| jx w (ob 9 rfl) (by decide) 41 rfl 51 rfl (fun ct7 => ?_) (fun ct7 => ?_)
  · exact absurd ct7 (ofN_neMax (by omega))
  · skip
    refine jl w (ob 10 rfl) rfl 53 rfl <| jm w (ob 11 rfl) rfl rfl 54 rfl <| jF w (Kw hw 122 rfl) Via.refl Cb (ob 12 rfl) 57 rfl fun T w => ?_
    refine s_ishr w (ob 13 rfl) 58 rfl ?_
    rw [ofN_shr (by omega)]
    exact w_ireturn w hEL hs hlk hret rfl (Or.inl rfl) (ob 14 rfl) (by decide) (by decide) ⟨rfl, rfl⟩
def dL47al : List (Nat × Instr × Nat) := [(0, .iload_n 1, 1), (1, .aload_n 0, 1), (2, .arraylength, 1), (3, .if_icmp .ne 11, 3), (14, .iload_n 1, 1), (15, .newarray .byte, 2), (17, .astore_n 2, 1), (18, .aload_n 0, 1), (19, .iconst 0, 1), (20, .aload_n 2, 1), (21, .iconst 0, 1), (22, .aload_n 0, 1), (23, .arraylength, 1), (24, .iload_n 1, 1), (25, .invokestatic 304, 3), (28, .invokestatic 150, 3)]
theorem dL47a : ∀ x ∈ dL47al, decode jdk_65_method_121_code x.1 = .ok x.2 := by decide +kernel
def dL47bl : List (Nat × Instr × Nat) := [(31, .aload_n 2, 1), (32, .areturn, 1)]
theorem dL47b : ∀ x ∈ dL47bl, decode jdk_65_method_121_code x.1 = .ok x.2 := by decide +kernel
theorem rm_cof178 (G : Gl Z a0 zc fm tba ktb fba kfb) (h : Heap) (t : Addr) (N : Int32) (n k0 : Nat) (kt : ClassId) (vs : List Value) (hN : N = Int32.ofNat n) (hlt : k0 < n) (hnB : n ≤ 356) (At : Arv Z h t kt .byte (Int32.ofNat k0) vs (.int 0)) (hvl : vs.length = k0) :
    MetN l Z consts_1 mN47 jdk_65_method_121_code 3 (some (.array .byte)) (mkR 1 1 356 40) #[.ref t, .int N] h [] [] (fun v h' N => ∃ u ku, v = some (.ref u) ∧ N = [u] ∧ h.size ≤ u ∧ Arv Z h' u ku .byte (Int32.ofNat n) (vs ++ List.replicate (n - k0) (.int 0)) (.int 0)) := by
  have G0 := G
  obtain ⟨hw, hEL, -⟩ := G
  refine MetN.of (plainFor_of_name pn_6) ?_
  intro p e s m below meth c T hnm hret hlk hby hml hs w; have oa := @dat _ _ dL47a _ hby; have ob := @dat _ _ dL47b _ hby
  refine Run.cast (efL (L := #[vR t, vI N, .unset]) (by simp [argsToLocals, Value.category, vI, vR, vJ])) ?_
  refine jn w (oa 0 rfl) rfl 1 rfl <| jm w (oa 1 rfl) rfl rfl 2 rfl <| w_len w At (oa 2 rfl) 3 rfl <| jx w (oa 3 rfl) (by decide) 6 rfl 14 rfl (fun ct1 => ?_) (fun ct1 => ?_)
  · exact absurd (ofN_inj' (by omega) (by omega) (hN.symm.trans ct1)) (by omega)
  · skip
    refine jn w (oa 4 rfl) rfl 15 rfl <| w_newP w (Kw hw 19 rfl) rfl (dv := .int 0) rfl (oa 5 rfl) (by rw [hN]; exact ofNat_lt (by omega)) (n := n) (by rw [hN]; exact Nat.le_of_eq (ofNat_nat (by omega))) (by omega) 17 rfl (by decide) (by first | omega | (dsimp only [mkR]; omega)) fun T h2 x3 k4 w E5 q6 r7 V8 => ?_
    have w := w.mono (slots' := 356) (Nat.le_refl _) (by first | omega | (dsimp only [mkR]; omega))
    refine s_astore_n w #[vR t, vI N, vR x3] (oa 6 rfl) rfl rfl 18 rfl <| jm w (oa 7 rfl) rfl rfl 19 rfl <| jc w 0 (oa 8 rfl) rfl 20 rfl <| jm w (oa 9 rfl) rfl rfl 21 rfl <| jc w 0 (oa 10 rfl) rfl 22 rfl <| jm w (oa 11 rfl) rfl rfl 23 rfl ?_
    refine w_len w (At.ext E5) (oa 12 rfl) 24 rfl ?_
    refine jn w (oa 13 rfl) rfl 25 rfl <| wS w hEL (cB19 hw) (Kw hw 191 rfl) (rm_min G0 h2 (Int32.ofNat k0) N) all0 all0 [.int (Int32.ofNat k0), .int N] [.int 0, .ref x3, .int 0, .ref t] rfl rfl rfl (oa 14 rfl) hml rfl 4 rfl (by decide) 28 rfl fun u9 N10 T h11 w K12 P13 => ?_
    obtain ⟨rfl, rfl, rfl⟩ := P13
    rw [if_neg (by rw [hN]; exact fun q => absurd ((ofNat_cmp (by omega) (by omega)).mp q) (by omega))]
    show Run _ _ _ _ _ (mkF _ _ _ [.int (Int32.ofNat k0), .int 0, .ref x3, .int 0, .ref t])
    refine w_copyB w (Kw hw 192 rfl) (Kw hw 171 rfl) (Kw hw 169 rfl) (Kw hw 170 rfl) (is := 0) (id := 0) (n := k0) (us := vs) (At.ext E5) V8 rfl rfl rfl (by omega) (by omega) (by omega) (by rw [ofNat_nat (by omega)]; omega) (by rw [hN, ofNat_nat (by omega)]; omega) (by have q := range_take (vs := vs) (n := k0) (d := .int 0) (by omega); rw [← q, List.take_of_length_le (by omega)]) (by simp; omega) (mi 0 rfl) (Or.inr r7) rfl (oa 15 rfl) (by rw [hml]; rfl) (by decide) (W := 0) (Nat.le_of_eq rfl) (by decide) 31 rfl fun T h15 w K16 F17 => ?_
    refine jm w (ob 0 rfl) rfl rfl 32 rfl ?_
    have e9 : List.take 0 (List.replicate n (Value.int 0)) ++ vs ++ List.drop (0 + k0) (List.replicate n (Value.int 0)) = vs ++ List.replicate (n - k0) (.int 0) := by simp
    rw [e9] at F17
    exact w_areturnN w hEL hs hlk hret rfl rfl (ob 1 rfl) (by decide) (by decide) (N := [x3]) (allP (List.mem_cons_self ..)) ⟨x3, _, rfl, rfl, q6, by rw [← hN]; exact F17⟩
theorem rm_eciG178_0 (G : Gl Z a0 zc fm tba ktb fba kfb) (h : Heap) (b : Addr) (M : Int32) {cap : Nat} (t : Addr) (kt : ClassId) (m0 : Nat) (cs : List Int32) (hM : M = Int32.ofNat m0) (hm : cap < m0) (h0c : 0 < cap) (hn5 : ncap cap m0 ≤ 220) (hnG : ncap cap m0 ≤ 178) (B0 : Sb0 Z h b t kt cap cs) :
    MetN l Z consts_1 mN22 jdk_68_method_9_code 3 none (mkR 3 1 356 55) #[.ref b, .int M] h [] [b] (fun v h' N => v = none ∧ ∃ t1 k1, N = [t1] ∧ h.size ≤ t1 ∧ Sb0 Z h' b t1 k1 (ncap cap m0) cs) := by
  have G0 := G
  obtain ⟨hw, hEL, -⟩ := G
  refine MetN.of (plainFor_of_name pn_4) ?_
  intro p e s m below meth c T hnm hret hlk hby hml hs w; have oa := @dat _ _ dL22a _ hby; have ob := @dat _ _ dL22b _ hby
  refine Run.cast (efL (L := #[vR b, vI M, .unset]) (by simp [argsToLocals, Value.category, vI, vR, vJ])) ?_
  have B1 := B0
  obtain ⟨Eb, Vb, Cb, Nb, Mb, At, hcs, hcl⟩ := B0
  have hnc : cap + 2 ≤ ncap cap m0 := by unfold ncap; omega
  refine jm w (oa 0 rfl) rfl rfl 1 rfl <| jF w (Kw hw 120 rfl) Via.refl Vb (oa 1 rfl) 4 rfl fun T w => ?_
  refine w_len w At (oa 2 rfl) 5 rfl ?_
  refine jm w (oa 3 rfl) rfl rfl 6 rfl <| jF w (Kw hw 122 rfl) Via.refl Cb (oa 4 rfl) 9 rfl fun T w => ?_
  refine s_ishr w (oa 5 rfl) 10 rfl ?_
  rw [shr0']
  refine s_istore_n w #[vR b, vI M, vI (Int32.ofNat cap)] (oa 6 rfl) rfl 11 rfl <| jn w (oa 7 rfl) rfl 12 rfl <| jn w (oa 8 rfl) rfl 13 rfl <| s_isub w (oa 9 rfl) 14 rfl <| s_if_le w (oa 10 rfl) (by decide) 17 rfl 38 rfl (fun ct1 => ?_) (fun ct1 => ?_)
  · skip
    refine jm w (oa 11 rfl) rfl rfl 18 rfl <| jm w (oa 12 rfl) rfl rfl 19 rfl <| jF w (Kw hw 120 rfl) Via.refl Vb (oa 13 rfl) 22 rfl fun T w => ?_
    refine jm w (oa 14 rfl) rfl rfl 23 rfl <| jn w (oa 15 rfl) rfl 24 rfl <| wP w hEL (cB35 hw) (Kw hw 173 rfl) (Kw hw 209 rfl) rfl (Kw hw 175 rfl) Eb (rm_ncp0 G0 h b M t kt m0 cs hM hm h0c hn5 B1) all0 all0 [.int M] [.ref t, .ref b] rfl rfl rfl (ob 0 rfl) hml rfl 2 rfl (by decide) 27 rfl fun u2 N3 T h4 w K5 P6 => ?_
    obtain ⟨rfl, rfl, rfl⟩ := P6
    show Run _ _ _ _ _ (mkF _ _ _ [.int (Int32.ofNat (ncap cap m0)), .ref t, .ref b])
    refine jm w (ob 1 rfl) rfl rfl 28 rfl <| jF w (Kw hw 122 rfl) Via.refl Cb (ob 2 rfl) 31 rfl fun T w => ?_
    refine s_ishl w (ob 3 rfl) 32 rfl ?_
    rw [shl0]
    show Run _ _ _ _ _ (mkF _ _ _ [.int (Int32.ofNat (ncap cap m0)), .ref t, .ref b])
    refine wS w hEL (cB36 hw) (Kw hw 187 rfl) (rm_cof178 G0 h t _ (ncap cap m0) (cap) kt _ rfl (by omega) (by omega) At (room_len hcl.1)) all0 all0 [.ref t, .int (Int32.ofNat (ncap cap m0))] [.ref b] rfl rfl rfl (ob 4 rfl) hml rfl 1 rfl (by decide) 35 rfl fun u8 N9 T h10 w K11 P12 => ?_
    obtain ⟨t1, k1, rfl, rfl, q1, A1⟩ := P12
    rw [room_grow hcl.1 (by omega)] at A1
    have E13 := Keep.ext0 K11
    show Run _ _ _ _ _ (mkF _ _ _ [.ref t1, .ref b])
    refine w_putF w (Kw hw 120 rfl) Via.refl (Vb.ext E13) (Eb.ext E13) (Or.inl (Kw hw 121 rfl)) (Kw hw 107 rfl) (ty := .array .byte) (by decide) rfl rfl (ob 5 rfl) (Or.inl (List.mem_singleton.mpr rfl)) (Or.inl ⟨by decide, by decide⟩) 38 rfl fun T g1 w W1 F1 Y1 => ?_
    have sc : Jvm.RoadKit.slotOf Z ASB "coder" "B" ≠ Jvm.RoadKit.slotOf Z ASB "value" "[B" := slot_ne (C := SBC) (Or.inl (Kw hw 123 rfl)) (Or.inl (Kw hw 121 rfl)) (by decide) (t := .byte) (t' := .array .byte) (by decide) (by decide)
    have sn : Jvm.RoadKit.slotOf Z ASB "count" "I" ≠ Jvm.RoadKit.slotOf Z ASB "value" "[B" := slot_ne (C := SBC) (Or.inl (Kw hw 146 rfl)) (Or.inl (Kw hw 121 rfl)) (by decide) (t := .int) (t' := .array .byte) (by decide) (by decide)
    have sm : Jvm.RoadKit.slotOf Z ASB "maybeLatin1" "Z" ≠ Jvm.RoadKit.slotOf Z ASB "value" "[B" := slot_ne (C := SBC) (Or.inl (Kw hw 333 rfl)) (Or.inl (Kw hw 121 rfl)) (by decide) (t := .boolean) (t' := .array .byte) (by decide) (by decide)
    exact w_returnN w hEL hs hlk hret (ob 6 rfl) (by decide) (by decide) (N := [t1]) (allP (List.mem_cons_self ..)) ⟨rfl, t1, k1, rfl, q1, Y1, F1, (Cb.ext E13).other W1 (Or.inr sc), (Nb.ext E13).other W1 (Or.inr sn), (Mb.ext E13).other W1 (Or.inr sm), A1.other W1 (Exa.neArv (Eb.ext E13) A1 (Kw hw 107 rfl)).symm, hcs, by omega, hn5⟩
  · exact absurd (by rw [hM]; exact sub_gt hm (by unfold ncap at hn5; omega)) ct1
theorem rm_eciG178_1 (G : Gl Z a0 zc fm tba ktb fba kfb) (h : Heap) (b : Addr) (M : Int32) {cap : Nat} (t : Addr) (kt : ClassId) (m0 : Nat) (cs : List Int32) (hM : M = Int32.ofNat m0) (hm : cap < m0) (h0c : 0 < cap) (hn5 : ncap cap m0 ≤ 220) (hnG : ncap cap m0 ≤ 178) (B0 : Sb1 Z h b t kt cap cs) :
    MetN l Z consts_1 mN22 jdk_68_method_9_code 3 none (mkR 3 1 356 55) #[.ref b, .int M] h [] [b] (fun v h' N => v = none ∧ ∃ t1 k1, N = [t1] ∧ h.size ≤ t1 ∧ Sb1 Z h' b t1 k1 (ncap cap m0) cs) := by
  have G0 := G
  obtain ⟨hw, hEL, -⟩ := G
  refine MetN.of (plainFor_of_name pn_4) ?_
  intro p e s m below meth c T hnm hret hlk hby hml hs w; have oa := @dat _ _ dL22a _ hby; have ob := @dat _ _ dL22b _ hby
  refine Run.cast (efL (L := #[vR b, vI M, .unset]) (by simp [argsToLocals, Value.category, vI, vR, vJ])) ?_
  have B1 := B0
  obtain ⟨Eb, Vb, Cb, Nb, Mb, At, hcs, hcl⟩ := B0
  have hnc : cap + 2 ≤ ncap cap m0 := by unfold ncap; omega
  refine jm w (oa 0 rfl) rfl rfl 1 rfl <| jF w (Kw hw 120 rfl) Via.refl Vb (oa 1 rfl) 4 rfl fun T w => ?_
  refine w_len w At (oa 2 rfl) 5 rfl ?_
  refine jm w (oa 3 rfl) rfl rfl 6 rfl <| jF w (Kw hw 122 rfl) Via.refl Cb (oa 4 rfl) 9 rfl fun T w => ?_
  refine s_ishr w (oa 5 rfl) 10 rfl ?_
  rw [ofN_shr (by omega)]
  refine s_istore_n w #[vR b, vI M, vI (Int32.ofNat cap)] (oa 6 rfl) rfl 11 rfl <| jn w (oa 7 rfl) rfl 12 rfl <| jn w (oa 8 rfl) rfl 13 rfl <| s_isub w (oa 9 rfl) 14 rfl <| s_if_le w (oa 10 rfl) (by decide) 17 rfl 38 rfl (fun ct1 => ?_) (fun ct1 => ?_)
  · skip
    refine jm w (oa 11 rfl) rfl rfl 18 rfl <| jm w (oa 12 rfl) rfl rfl 19 rfl <| jF w (Kw hw 120 rfl) Via.refl Vb (oa 13 rfl) 22 rfl fun T w => ?_
    refine jm w (oa 14 rfl) rfl rfl 23 rfl <| jn w (oa 15 rfl) rfl 24 rfl <| wP w hEL (cB35 hw) (Kw hw 173 rfl) (Kw hw 209 rfl) rfl (Kw hw 175 rfl) Eb (rm_ncp1 G0 h b M t kt m0 cs hM hm h0c hn5 B1) all0 all0 [.int M] [.ref t, .ref b] rfl rfl rfl (ob 0 rfl) hml rfl 2 rfl (by decide) 27 rfl fun u2 N3 T h4 w K5 P6 => ?_
    obtain ⟨rfl, rfl, rfl⟩ := P6
    show Run _ _ _ _ _ (mkF _ _ _ [.int (Int32.ofNat (ncap cap m0)), .ref t, .ref b])
    refine jm w (ob 1 rfl) rfl rfl 28 rfl <| jF w (Kw hw 122 rfl) Via.refl Cb (ob 2 rfl) 31 rfl fun T w => ?_
    refine s_ishl w (ob 3 rfl) 32 rfl ?_
    rw [ofN_shl (by omega)]
    show Run _ _ _ _ _ (mkF _ _ _ [.int (Int32.ofNat (2 * ncap cap m0)), .ref t, .ref b])
    refine wS w hEL (cB36 hw) (Kw hw 187 rfl) (rm_cof178 G0 h t _ (2 * ncap cap m0) (2 * cap) kt _ rfl (by omega) (by omega) At (wroom_len hcl.1)) all0 all0 [.ref t, .int (Int32.ofNat (2 * ncap cap m0))] [.ref b] rfl rfl rfl (ob 4 rfl) hml rfl 1 rfl (by decide) 35 rfl fun u8 N9 T h10 w K11 P12 => ?_
    obtain ⟨t1, k1, rfl, rfl, q1, A1⟩ := P12
    rw [wroom_grow hcl.1 (by omega)] at A1
    have E13 := Keep.ext0 K11
    show Run _ _ _ _ _ (mkF _ _ _ [.ref t1, .ref b])
    refine w_putF w (Kw hw 120 rfl) Via.refl (Vb.ext E13) (Eb.ext E13) (Or.inl (Kw hw 121 rfl)) (Kw hw 107 rfl) (ty := .array .byte) (by decide) rfl rfl (ob 5 rfl) (Or.inl (List.mem_singleton.mpr rfl)) (Or.inl ⟨by decide, by decide⟩) 38 rfl fun T g1 w W1 F1 Y1 => ?_
    have sc : Jvm.RoadKit.slotOf Z ASB "coder" "B" ≠ Jvm.RoadKit.slotOf Z ASB "value" "[B" := slot_ne (C := SBC) (Or.inl (Kw hw 123 rfl)) (Or.inl (Kw hw 121 rfl)) (by decide) (t := .byte) (t' := .array .byte) (by decide) (by decide)
    have sn : Jvm.RoadKit.slotOf Z ASB "count" "I" ≠ Jvm.RoadKit.slotOf Z ASB "value" "[B" := slot_ne (C := SBC) (Or.inl (Kw hw 146 rfl)) (Or.inl (Kw hw 121 rfl)) (by decide) (t := .int) (t' := .array .byte) (by decide) (by decide)
    have sm : Jvm.RoadKit.slotOf Z ASB "maybeLatin1" "Z" ≠ Jvm.RoadKit.slotOf Z ASB "value" "[B" := slot_ne (C := SBC) (Or.inl (Kw hw 333 rfl)) (Or.inl (Kw hw 121 rfl)) (by decide) (t := .boolean) (t' := .array .byte) (by decide) (by decide)
    exact w_returnN w hEL hs hlk hret (ob 6 rfl) (by decide) (by decide) (N := [t1]) (allP (List.mem_cons_self ..)) ⟨rfl, t1, k1, rfl, q1, Y1, F1, (Cb.ext E13).other W1 (Or.inr sc), (Nb.ext E13).other W1 (Or.inr sn), (Mb.ext E13).other W1 (Or.inr sm), A1.other W1 (Exa.neArv (Eb.ext E13) A1 (Kw hw 107 rfl)).symm, hcs, by omega, hn5⟩
  · exact absurd (by rw [hM]; exact sub_gt hm (by unfold ncap at hn5; omega)) ct1
theorem rm_asG178_00 (G : Gl Z a0 zc fm tba ktb fba kfb) (h : Heap) (b : Addr) (x : Addr) {cap : Nat} (t tx : Addr) (kt kx : ClassId) (cs ds : List Int32) (B0 : Sb0 Z h b t kt cap cs) (X0 : S0 Z h x tx kx ds) (hm : cap < cs.length + ds.length) (h0c : 0 < cap) (hn5 : ncap cap (cs.length + ds.length) ≤ 220) (hnG : ncap cap (cs.length + ds.length) ≤ 178) :
    MetN l Z consts_1 mN23 jdk_68_method_22_code 3 (some (.object "java/lang/AbstractStringBuilder")) (mkR 4 1 356 69) #[.ref b, .ref x] h [] [b] (fun v h' N => v = some (.ref b) ∧ ∃ t1 k1, N = [t1] ∧ h.size ≤ t1 ∧ Sb0 Z h' b t1 k1 (ncap cap (cs.length + ds.length)) (cs ++ ds)) := by
  have G0 := G
  obtain ⟨hw, hEL, SC, hz, -⟩ := G
  refine MetN.of (plainFor_of_name pn_4) ?_
  intro p e s m below meth c T hnm hret hlk hby hml hs w; have oa := @dat _ _ dL23a _ hby; have ob := @dat _ _ dL23b _ hby
  refine Run.cast (efL (L := #[vR b, vR x, .unset]) (by simp [argsToLocals, Value.category, vI, vR, vJ])) ?_
  have B1 := B0
  obtain ⟨Eb, Vb, Cb, Nb, Mb, At, hcs, hcl⟩ := B0
  have X1 := X0
  have Sx := X0.str
  obtain ⟨Ex, Vx, Cx, Ax, hds, hdl⟩ := X0
  have hwL := fun d q => hw d (subL d q)
  have hcx : Int32.ofNat cs.length + Int32.ofNat ds.length = Int32.ofNat (cs.length + ds.length) := (Int32.ofNat_add _ _).symm
  refine jm w (oa 0 rfl) rfl rfl 1 rfl <| s_ifnonnull_yes w (oa 1 rfl) (by decide) 9 rfl <| jm w (oa 2 rfl) rfl rfl 10 rfl ?_
  obtain ⟨XE, Xt, Xkb, Xcd, XN, Xvs, Xq1, Xq2, Xq3, Xq4, Xq5, Xq6⟩ := id Sx
  refine w_virtB w (y := Len.yN) (y' := Len.yN) (C := ST) (Kw hw 135 rfl) (Kw hw 136 rfl) (Kw hw 138 rfl) (Kw hw 138 rfl) (Kw hw 137 rfl) (by decide) XE (Pv := fun v => v = some (.int (Int32.ofNat (ds).length))) (as' := #[.ref x]) (W := 0) (fun vm0 hZ => StrChars.Road.lenW hZ hwL (Kw hw 1 rfl) XE Xq1 Xq2 Xq3 Xq4 Xq5 (SC.ext w.old) hz Xq6 (by decide) (by decide)) (argsL := []) (rest := []) (lenOf pD7 rfl) rfl rfl (oa 3 rfl) (by rw [hml]; rfl) (Nat.le_of_eq rfl) (by decide) (by decide) 13 rfl fun u1 T w P2 => ?_
  obtain rfl := P2
  show Run _ _ _ _ _ (mkF _ _ _ [.int (Int32.ofNat (ds).length)])
  refine s_istore_n w #[vR b, vR x, vI (Int32.ofNat (ds).length)] (oa 4 rfl) rfl 14 rfl <| jm w (oa 5 rfl) rfl rfl 15 rfl <| jm w (oa 6 rfl) rfl rfl 16 rfl <| jF w (Kw hw 145 rfl) Via.refl Nb (oa 7 rfl) 19 rfl fun T w => ?_
  refine jn w (oa 8 rfl) rfl 20 rfl <| jp w (oa 9 rfl) 21 rfl <| wP w hEL (cB14 hw) (Kw hw 147 rfl) (Kw hw 209 rfl) rfl (Kw hw 149 rfl) Eb (rm_eciG178_0 G0 h b _ t kt (cs.length + ds.length) cs hcx hm h0c hn5 hnG B1) all0 (allS (Or.inl (mi 0 rfl)) all0) [.int ((Int32.ofNat cs.length) + (Int32.ofNat (ds).length))] [] rfl rfl rfl (oa 10 rfl) hml rfl 0 rfl (by decide) 24 rfl fun u3 N4 T h5 w K6 P7 => ?_
  obtain ⟨rfl, t1, k1, rfl, P8, B2⟩ := P7
  have B3 := B2
  obtain ⟨Eb1, Vb1, Cb1, Nb1, Mb1, At1, hcs1, hcl1⟩ := B2
  have nbx : x ∉ [b] := ninS (ne_exa Ex Eb (by decide)) nin0
  have nbt : tx ∉ [b] := ninS (Exa.neArv Eb Ax (Kw hw 107 rfl)).symm nin0
  have X2 : S0 Z h5 x tx kx ds := ⟨Ex.keep K6, Vx.keep K6 nbx, Cx.keep K6 nbx, Ax.keep K6 nbt, hds, hdl⟩
  have ntx : tx ≠ t1 := fun z => absurd P8 (by rw [← z]; exact Nat.not_le.mpr Ax.lt)
  show Run _ _ _ _ _ (mkF _ _ _ [])
  refine jm w (oa 11 rfl) rfl rfl 25 rfl <| jm w (oa 12 rfl) rfl rfl 26 rfl <| jF w (Kw hw 145 rfl) Via.refl Nb1 (oa 13 rfl) 29 rfl fun T w => ?_
  refine jm w (oa 14 rfl) rfl rfl 30 rfl <| wP w hEL (cB15 hw) (Kw hw 152 rfl) (Kw hw 209 rfl) rfl (Kw hw 154 rfl) Eb1 (rm_psa00 G0 h5 b _ x t1 tx k1 kx cs ds B3 X2 rfl (by unfold ncap; omega) ntx) (allS (mi 0 rfl) all0) (allS (Or.inr P8) all0) [.int (Int32.ofNat cs.length), .ref x] [] rfl rfl rfl (oa 15 rfl) hml rfl 0 rfl (by decide) 33 rfl fun u8 N9 T h10 w K11 P12 => ?_
  obtain ⟨rfl, rfl, P9⟩ := P12
  have ntb : b ≠ t1 := Exa.neArv Eb1 At1 (Kw hw 107 rfl)
  have Vb2 := Vb1.keep K11 (ninS ntb nin0)
  have Cb2 := Cb1.keep K11 (ninS ntb nin0)
  have Nb2 := Nb1.keep K11 (ninS ntb nin0)
  have Mb2 := Mb1.keep K11 (ninS ntb nin0)
  have Eb2 := Eb1.keep K11
  show Run _ _ _ _ _ (mkF _ _ _ [])
  refine jm w (ob 0 rfl) rfl rfl 34 rfl <| jd w (ob 1 rfl) rfl 35 rfl <| jF w (Kw hw 145 rfl) Via.refl Nb2 (ob 2 rfl) 38 rfl fun T w => ?_
  refine jn w (ob 3 rfl) rfl 39 rfl <| jp w (ob 4 rfl) 40 rfl ?_
  rw [show Int32.ofNat cs.length + Int32.ofNat ds.length = Int32.ofNat (cs ++ ds).length from by rw [List.length_append]; exact hcx]
  refine w_putF w (Kw hw 145 rfl) Via.refl Nb2 Eb2 (Or.inl (Kw hw 146 rfl)) (Kw hw 107 rfl) (ty := .int) (by decide) rfl rfl (ob 5 rfl) (Or.inl (List.mem_singleton.mpr rfl)) (Or.inl ⟨by decide, by decide⟩) 43 rfl fun T g1 w W1 F1 Y1 => ?_
  have sv : Jvm.RoadKit.slotOf Z ASB "value" "[B" ≠ Jvm.RoadKit.slotOf Z ASB "count" "I" := slot_ne (C := SBC) (Or.inl (Kw hw 121 rfl)) (Or.inl (Kw hw 146 rfl)) (by decide) (t := .array .byte) (t' := .int) (by decide) (by decide)
  have sc : Jvm.RoadKit.slotOf Z ASB "coder" "B" ≠ Jvm.RoadKit.slotOf Z ASB "count" "I" := slot_ne (C := SBC) (Or.inl (Kw hw 123 rfl)) (Or.inl (Kw hw 146 rfl)) (by decide) (t := .byte) (t' := .int) (by decide) (by decide)
  have sm : Jvm.RoadKit.slotOf Z ASB "maybeLatin1" "Z" ≠ Jvm.RoadKit.slotOf Z ASB "count" "I" := slot_ne (C := SBC) (Or.inl (Kw hw 333 rfl)) (Or.inl (Kw hw 146 rfl)) (by decide) (t := .boolean) (t' := .int) (by decide) (by decide)
  refine jm w (ob 6 rfl) rfl rfl 44 rfl ?_
  exact w_areturnN w hEL hs hlk hret rfl rfl (ob 7 rfl) (by decide) (by decide) (N := [t1]) (allP (List.mem_cons_self ..)) ⟨rfl, t1, k1, rfl, P8, Y1, Vb2.other W1 (Or.inr sv), Cb2.other W1 (Or.inr sc), F1, Mb2.other W1 (Or.inr sm), P9.other W1 ntb.symm, (fun c q => (List.mem_append.mp q).elim (hcs c) (hds c)), by rw [List.length_append]; unfold ncap; omega, hn5⟩
theorem rm_asG178_10 (G : Gl Z a0 zc fm tba ktb fba kfb) (h : Heap) (b : Addr) (x : Addr) {cap : Nat} (t tx : Addr) (kt kx : ClassId) (cs ds : List Int32) (B0 : Sb1 Z h b t kt cap cs) (X0 : S0 Z h x tx kx ds) (hm : cap < cs.length + ds.length) (h0c : 0 < cap) (hn5 : ncap cap (cs.length + ds.length) ≤ 220) (hnG : ncap cap (cs.length + ds.length) ≤ 178) :
    MetN l Z consts_1 mN23 jdk_68_method_22_code 3 (some (.object "java/lang/AbstractStringBuilder")) (mkR 7 1 356 105) #[.ref b, .ref x] h [] [b] (fun v h' N => v = some (.ref b) ∧ ∃ t1 k1, N = [t1] ∧ h.size ≤ t1 ∧ Sb1 Z h' b t1 k1 (ncap cap (cs.length + ds.length)) (cs ++ ds)) := by
  have G0 := G
  obtain ⟨hw, hEL, SC, hz, -⟩ := G
  refine MetN.of (plainFor_of_name pn_4) ?_
  intro p e s m below meth c T hnm hret hlk hby hml hs w; have oa := @dat _ _ dL23a _ hby; have ob := @dat _ _ dL23b _ hby
  refine Run.cast (efL (L := #[vR b, vR x, .unset]) (by simp [argsToLocals, Value.category, vI, vR, vJ])) ?_
  have B1 := B0
  obtain ⟨Eb, Vb, Cb, Nb, Mb, At, hcs, hcl⟩ := B0
  have X1 := X0
  have Sx := X0.str
  obtain ⟨Ex, Vx, Cx, Ax, hds, hdl⟩ := X0
  have hwL := fun d q => hw d (subL d q)
  have hcx : Int32.ofNat cs.length + Int32.ofNat ds.length = Int32.ofNat (cs.length + ds.length) := (Int32.ofNat_add _ _).symm
  refine jm w (oa 0 rfl) rfl rfl 1 rfl <| s_ifnonnull_yes w (oa 1 rfl) (by decide) 9 rfl <| jm w (oa 2 rfl) rfl rfl 10 rfl ?_
  obtain ⟨XE, Xt, Xkb, Xcd, XN, Xvs, Xq1, Xq2, Xq3, Xq4, Xq5, Xq6⟩ := id Sx
  refine w_virtB w (y := Len.yN) (y' := Len.yN) (C := ST) (Kw hw 135 rfl) (Kw hw 136 rfl) (Kw hw 138 rfl) (Kw hw 138 rfl) (Kw hw 137 rfl) (by decide) XE (Pv := fun v => v = some (.int (Int32.ofNat (ds).length))) (as' := #[.ref x]) (W := 0) (fun vm0 hZ => StrChars.Road.lenW hZ hwL (Kw hw 1 rfl) XE Xq1 Xq2 Xq3 Xq4 Xq5 (SC.ext w.old) hz Xq6 (by decide) (by decide)) (argsL := []) (rest := []) (lenOf pD7 rfl) rfl rfl (oa 3 rfl) (by rw [hml]; rfl) (Nat.le_of_eq rfl) (by decide) (by decide) 13 rfl fun u1 T w P2 => ?_
  obtain rfl := P2
  show Run _ _ _ _ _ (mkF _ _ _ [.int (Int32.ofNat (ds).length)])
  refine s_istore_n w #[vR b, vR x, vI (Int32.ofNat (ds).length)] (oa 4 rfl) rfl 14 rfl <| jm w (oa 5 rfl) rfl rfl 15 rfl <| jm w (oa 6 rfl) rfl rfl 16 rfl <| jF w (Kw hw 145 rfl) Via.refl Nb (oa 7 rfl) 19 rfl fun T w => ?_
  refine jn w (oa 8 rfl) rfl 20 rfl <| jp w (oa 9 rfl) 21 rfl <| wP w hEL (cB14 hw) (Kw hw 147 rfl) (Kw hw 209 rfl) rfl (Kw hw 149 rfl) Eb (rm_eciG178_1 G0 h b _ t kt (cs.length + ds.length) cs hcx hm h0c hn5 hnG B1) all0 (allS (Or.inl (mi 0 rfl)) all0) [.int ((Int32.ofNat cs.length) + (Int32.ofNat (ds).length))] [] rfl rfl rfl (oa 10 rfl) hml rfl 0 rfl (by decide) 24 rfl fun u3 N4 T h5 w K6 P7 => ?_
  obtain ⟨rfl, t1, k1, rfl, P8, B2⟩ := P7
  have B3 := B2
  obtain ⟨Eb1, Vb1, Cb1, Nb1, Mb1, At1, hcs1, hcl1⟩ := B2
  have nbx : x ∉ [b] := ninS (ne_exa Ex Eb (by decide)) nin0
  have nbt : tx ∉ [b] := ninS (Exa.neArv Eb Ax (Kw hw 107 rfl)).symm nin0
  have X2 : S0 Z h5 x tx kx ds := ⟨Ex.keep K6, Vx.keep K6 nbx, Cx.keep K6 nbx, Ax.keep K6 nbt, hds, hdl⟩
  have ntx : tx ≠ t1 := fun z => absurd P8 (by rw [← z]; exact Nat.not_le.mpr Ax.lt)
  show Run _ _ _ _ _ (mkF _ _ _ [])
  refine jm w (oa 11 rfl) rfl rfl 25 rfl <| jm w (oa 12 rfl) rfl rfl 26 rfl <| jF w (Kw hw 145 rfl) Via.refl Nb1 (oa 13 rfl) 29 rfl fun T w => ?_
  refine jm w (oa 14 rfl) rfl rfl 30 rfl <| wP w hEL (cB15 hw) (Kw hw 152 rfl) (Kw hw 209 rfl) rfl (Kw hw 154 rfl) Eb1 (rm_psa10 G0 h5 b _ x t1 tx k1 kx cs ds B3 X2 rfl (by unfold ncap; omega) ntx) (allS (mi 0 rfl) all0) (allS (Or.inr P8) all0) [.int (Int32.ofNat cs.length), .ref x] [] rfl rfl rfl (oa 15 rfl) hml rfl 0 rfl (by decide) 33 rfl fun u8 N9 T h10 w K11 P12 => ?_
  obtain ⟨rfl, rfl, P9⟩ := P12
  have ntb : b ≠ t1 := Exa.neArv Eb1 At1 (Kw hw 107 rfl)
  have Vb2 := Vb1.keep K11 (ninS ntb nin0)
  have Cb2 := Cb1.keep K11 (ninS ntb nin0)
  have Nb2 := Nb1.keep K11 (ninS ntb nin0)
  have Mb2 := Mb1.keep K11 (ninS ntb nin0)
  have Eb2 := Eb1.keep K11
  show Run _ _ _ _ _ (mkF _ _ _ [])
  refine jm w (ob 0 rfl) rfl rfl 34 rfl <| jd w (ob 1 rfl) rfl 35 rfl <| jF w (Kw hw 145 rfl) Via.refl Nb2 (ob 2 rfl) 38 rfl fun T w => ?_
  refine jn w (ob 3 rfl) rfl 39 rfl <| jp w (ob 4 rfl) 40 rfl ?_
  rw [show Int32.ofNat cs.length + Int32.ofNat ds.length = Int32.ofNat (cs ++ ds).length from by rw [List.length_append]; exact hcx]
  refine w_putF w (Kw hw 145 rfl) Via.refl Nb2 Eb2 (Or.inl (Kw hw 146 rfl)) (Kw hw 107 rfl) (ty := .int) (by decide) rfl rfl (ob 5 rfl) (Or.inl (List.mem_singleton.mpr rfl)) (Or.inl ⟨by decide, by decide⟩) 43 rfl fun T g1 w W1 F1 Y1 => ?_
  have sv : Jvm.RoadKit.slotOf Z ASB "value" "[B" ≠ Jvm.RoadKit.slotOf Z ASB "count" "I" := slot_ne (C := SBC) (Or.inl (Kw hw 121 rfl)) (Or.inl (Kw hw 146 rfl)) (by decide) (t := .array .byte) (t' := .int) (by decide) (by decide)
  have sc : Jvm.RoadKit.slotOf Z ASB "coder" "B" ≠ Jvm.RoadKit.slotOf Z ASB "count" "I" := slot_ne (C := SBC) (Or.inl (Kw hw 123 rfl)) (Or.inl (Kw hw 146 rfl)) (by decide) (t := .byte) (t' := .int) (by decide) (by decide)
  have sm : Jvm.RoadKit.slotOf Z ASB "maybeLatin1" "Z" ≠ Jvm.RoadKit.slotOf Z ASB "count" "I" := slot_ne (C := SBC) (Or.inl (Kw hw 333 rfl)) (Or.inl (Kw hw 146 rfl)) (by decide) (t := .boolean) (t' := .int) (by decide) (by decide)
  refine jm w (ob 6 rfl) rfl rfl 44 rfl ?_
  exact w_areturnN w hEL hs hlk hret rfl rfl (ob 7 rfl) (by decide) (by decide) (N := [t1]) (allP (List.mem_cons_self ..)) ⟨rfl, t1, k1, rfl, P8, Y1, Vb2.other W1 (Or.inr sv), Cb2.other W1 (Or.inr sc), F1, Mb2.other W1 (Or.inr sm), P9.other W1 ntb.symm, ⟨fun c q => (List.mem_append.mp q).elim (hcs.1 c) (fun z => lat_chr (hds c z)), hcs.2.elim fun c q => ⟨c, List.mem_append.mpr (Or.inl q.1), q.2⟩⟩, by rw [List.length_append]; unfold ncap; omega, hn5⟩
theorem rm_asG178_11 (G : Gl Z a0 zc fm tba ktb fba kfb) (h : Heap) (b : Addr) (x : Addr) {cap : Nat} (t tx : Addr) (kt kx : ClassId) (cs ds : List Int32) (B0 : Sb1 Z h b t kt cap cs) (X0 : S1 Z h x tx kx ds) (hm : cap < cs.length + ds.length) (h0c : 0 < cap) (hn5 : ncap cap (cs.length + ds.length) ≤ 220) (hnG : ncap cap (cs.length + ds.length) ≤ 178) :
    MetN l Z consts_1 mN23 jdk_68_method_22_code 3 (some (.object "java/lang/AbstractStringBuilder")) (mkR 4 1 356 69) #[.ref b, .ref x] h [] [b] (fun v h' N => v = some (.ref b) ∧ ∃ t1 k1, N = [t1] ∧ h.size ≤ t1 ∧ Sb1 Z h' b t1 k1 (ncap cap (cs.length + ds.length)) (cs ++ ds)) := by
  have G0 := G
  obtain ⟨hw, hEL, SC, hz, -⟩ := G
  refine MetN.of (plainFor_of_name pn_4) ?_
  intro p e s m below meth c T hnm hret hlk hby hml hs w; have oa := @dat _ _ dL23a _ hby; have ob := @dat _ _ dL23b _ hby
  refine Run.cast (efL (L := #[vR b, vR x, .unset]) (by simp [argsToLocals, Value.category, vI, vR, vJ])) ?_
  have B1 := B0
  obtain ⟨Eb, Vb, Cb, Nb, Mb, At, hcs, hcl⟩ := B0
  have X1 := X0
  have Sx := X0.str
  obtain ⟨Ex, Vx, Cx, Ax, hds, hdl⟩ := X0
  have hwL := fun d q => hw d (subL d q)
  have hcx : Int32.ofNat cs.length + Int32.ofNat ds.length = Int32.ofNat (cs.length + ds.length) := (Int32.ofNat_add _ _).symm
  refine jm w (oa 0 rfl) rfl rfl 1 rfl <| s_ifnonnull_yes w (oa 1 rfl) (by decide) 9 rfl <| jm w (oa 2 rfl) rfl rfl 10 rfl ?_
  obtain ⟨XE, Xt, Xkb, Xcd, XN, Xvs, Xq1, Xq2, Xq3, Xq4, Xq5, Xq6⟩ := id Sx
  refine w_virtB w (y := Len.yN) (y' := Len.yN) (C := ST) (Kw hw 135 rfl) (Kw hw 136 rfl) (Kw hw 138 rfl) (Kw hw 138 rfl) (Kw hw 137 rfl) (by decide) XE (Pv := fun v => v = some (.int (Int32.ofNat (ds).length))) (as' := #[.ref x]) (W := 0) (fun vm0 hZ => StrChars.Road.lenW hZ hwL (Kw hw 1 rfl) XE Xq1 Xq2 Xq3 Xq4 Xq5 (SC.ext w.old) hz Xq6 (by decide) (by decide)) (argsL := []) (rest := []) (lenOf pD7 rfl) rfl rfl (oa 3 rfl) (by rw [hml]; rfl) (Nat.le_of_eq rfl) (by decide) (by decide) 13 rfl fun u1 T w P2 => ?_
  obtain rfl := P2
  show Run _ _ _ _ _ (mkF _ _ _ [.int (Int32.ofNat (ds).length)])
  refine s_istore_n w #[vR b, vR x, vI (Int32.ofNat (ds).length)] (oa 4 rfl) rfl 14 rfl <| jm w (oa 5 rfl) rfl rfl 15 rfl <| jm w (oa 6 rfl) rfl rfl 16 rfl <| jF w (Kw hw 145 rfl) Via.refl Nb (oa 7 rfl) 19 rfl fun T w => ?_
  refine jn w (oa 8 rfl) rfl 20 rfl <| jp w (oa 9 rfl) 21 rfl <| wP w hEL (cB14 hw) (Kw hw 147 rfl) (Kw hw 209 rfl) rfl (Kw hw 149 rfl) Eb (rm_eciG178_1 G0 h b _ t kt (cs.length + ds.length) cs hcx hm h0c hn5 hnG B1) all0 (allS (Or.inl (mi 0 rfl)) all0) [.int ((Int32.ofNat cs.length) + (Int32.ofNat (ds).length))] [] rfl rfl rfl (oa 10 rfl) hml rfl 0 rfl (by decide) 24 rfl fun u3 N4 T h5 w K6 P7 => ?_
  obtain ⟨rfl, t1, k1, rfl, P8, B2⟩ := P7
  have B3 := B2
  obtain ⟨Eb1, Vb1, Cb1, Nb1, Mb1, At1, hcs1, hcl1⟩ := B2
  have nbx : x ∉ [b] := ninS (ne_exa Ex Eb (by decide)) nin0
  have nbt : tx ∉ [b] := ninS (Exa.neArv Eb Ax (Kw hw 107 rfl)).symm nin0
  have X2 : S1 Z h5 x tx kx ds := ⟨Ex.keep K6, Vx.keep K6 nbx, Cx.keep K6 nbx, Ax.keep K6 nbt, hds, hdl⟩
  have ntx : tx ≠ t1 := fun z => absurd P8 (by rw [← z]; exact Nat.not_le.mpr Ax.lt)
  show Run _ _ _ _ _ (mkF _ _ _ [])
  refine jm w (oa 11 rfl) rfl rfl 25 rfl <| jm w (oa 12 rfl) rfl rfl 26 rfl <| jF w (Kw hw 145 rfl) Via.refl Nb1 (oa 13 rfl) 29 rfl fun T w => ?_
  refine jm w (oa 14 rfl) rfl rfl 30 rfl <| wP w hEL (cB15 hw) (Kw hw 152 rfl) (Kw hw 209 rfl) rfl (Kw hw 154 rfl) Eb1 (rm_psa11 G0 h5 b _ x t1 tx k1 kx cs ds B3 X2 rfl (by unfold ncap; omega) ntx) (allS (mi 0 rfl) all0) (allS (Or.inr P8) all0) [.int (Int32.ofNat cs.length), .ref x] [] rfl rfl rfl (oa 15 rfl) hml rfl 0 rfl (by decide) 33 rfl fun u8 N9 T h10 w K11 P12 => ?_
  obtain ⟨rfl, rfl, P9⟩ := P12
  have ntb : b ≠ t1 := Exa.neArv Eb1 At1 (Kw hw 107 rfl)
  have Vb2 := Vb1.keep K11 (ninS ntb nin0)
  have Cb2 := Cb1.keep K11 (ninS ntb nin0)
  have Nb2 := Nb1.keep K11 (ninS ntb nin0)
  have Mb2 := Mb1.keep K11 (ninS ntb nin0)
  have Eb2 := Eb1.keep K11
  show Run _ _ _ _ _ (mkF _ _ _ [])
  refine jm w (ob 0 rfl) rfl rfl 34 rfl <| jd w (ob 1 rfl) rfl 35 rfl <| jF w (Kw hw 145 rfl) Via.refl Nb2 (ob 2 rfl) 38 rfl fun T w => ?_
  refine jn w (ob 3 rfl) rfl 39 rfl <| jp w (ob 4 rfl) 40 rfl ?_
  rw [show Int32.ofNat cs.length + Int32.ofNat ds.length = Int32.ofNat (cs ++ ds).length from by rw [List.length_append]; exact hcx]
  refine w_putF w (Kw hw 145 rfl) Via.refl Nb2 Eb2 (Or.inl (Kw hw 146 rfl)) (Kw hw 107 rfl) (ty := .int) (by decide) rfl rfl (ob 5 rfl) (Or.inl (List.mem_singleton.mpr rfl)) (Or.inl ⟨by decide, by decide⟩) 43 rfl fun T g1 w W1 F1 Y1 => ?_
  have sv : Jvm.RoadKit.slotOf Z ASB "value" "[B" ≠ Jvm.RoadKit.slotOf Z ASB "count" "I" := slot_ne (C := SBC) (Or.inl (Kw hw 121 rfl)) (Or.inl (Kw hw 146 rfl)) (by decide) (t := .array .byte) (t' := .int) (by decide) (by decide)
  have sc : Jvm.RoadKit.slotOf Z ASB "coder" "B" ≠ Jvm.RoadKit.slotOf Z ASB "count" "I" := slot_ne (C := SBC) (Or.inl (Kw hw 123 rfl)) (Or.inl (Kw hw 146 rfl)) (by decide) (t := .byte) (t' := .int) (by decide) (by decide)
  have sm : Jvm.RoadKit.slotOf Z ASB "maybeLatin1" "Z" ≠ Jvm.RoadKit.slotOf Z ASB "count" "I" := slot_ne (C := SBC) (Or.inl (Kw hw 333 rfl)) (Or.inl (Kw hw 146 rfl)) (by decide) (t := .boolean) (t' := .int) (by decide) (by decide)
  refine jm w (ob 6 rfl) rfl rfl 44 rfl ?_
  exact w_areturnN w hEL hs hlk hret rfl rfl (ob 7 rfl) (by decide) (by decide) (N := [t1]) (allP (List.mem_cons_self ..)) ⟨rfl, t1, k1, rfl, P8, Y1, Vb2.other W1 (Or.inr sv), Cb2.other W1 (Or.inr sc), F1, Mb2.other W1 (Or.inr sm), P9.other W1 ntb.symm, ⟨fun c q => (List.mem_append.mp q).elim (hcs.1 c) (hds.1 c), hcs.2.elim fun c q => ⟨c, List.mem_append.mpr (Or.inl q.1), q.2⟩⟩, by rw [List.length_append]; unfold ncap; omega, hn5⟩
open StrChars StrChars.Road

def tbl (i : Int32) : Int32 := tb64.getD i.toNatClampNeg 0
def bits3 (a b c : Int32) : Int32 := (((a &&& 255) <<< ((16 : Int32) &&& 31)) ||| ((b &&& 255) <<< ((8 : Int32) &&& 31))) ||| (c &&& 255)
def encs (bs : List Int32) : Nat → List Int32
  | 0 => []
  | k + 1 => (((encs bs k ++ [tbl ((XT.ushr (bits3 (bs.getD (3 * k) 0) (bs.getD (3 * k + 1) 0) (bs.getD (3 * k + 1 + 1) 0)) 18) &&& 63)]) ++ [tbl ((XT.ushr (bits3 (bs.getD (3 * k) 0) (bs.getD (3 * k + 1) 0) (bs.getD (3 * k + 1 + 1) 0)) 12) &&& 63)]) ++ [tbl ((XT.ushr (bits3 (bs.getD (3 * k) 0) (bs.getD (3 * k + 1) 0) (bs.getD (3 * k + 1 + 1) 0)) 6) &&& 63)]) ++ [tbl (bits3 (bs.getD (3 * k) 0) (bs.getD (3 * k + 1) 0) (bs.getD (3 * k + 1 + 1) 0) &&& 63)]
theorem encs_len (bs : List Int32) : ∀ k, (encs bs k).length = 4 * k
  | 0 => rfl
  | k + 1 => by simp [encs, encs_len bs k]; omega
theorem room_set {cs : List Int32} {cap i : Nat} {c : Int32} (hi : i = cs.length) (h : i < cap) : (room_ cs cap).set i (.int (lo8 c)) = room_ (cs ++ [c]) cap := by
  subst hi
  unfold room_
  rw [show cap - cs.length = (cap - (cs ++ [c]).length) + 1 from by simp; omega, List.replicate_succ, ← low_len cs, List.set_append_right _ _ (Nat.le_refl _)]
  simp [low]
theorem Arv.stp {Z : State} {h : Heap} {d : Addr} {k : ClassId} {z : Int32} {cs : List Int32} {M i : Nat} {c : Int32} (A : Arv Z h d k .byte z ((room_ cs M).set i (.int c.toInt8.toInt32)) (.int 0)) (hi : i = cs.length) (hM : i < M) : Arv Z h d k .byte z (room_ (cs ++ [c]) M) (.int 0) := by
  have q := room_set (cs := cs) (c := c) hi hM
  unfold lo8 at q
  rw [q] at A; exact A
theorem ix64 {i : Int32} (h : 0 ≤ i.toInt ∧ i.toInt < 64) : ¬ i < 0 ∧ i.toNatClampNeg < (64 : Int32).toNatClampNeg ∧ (tb64.map Value.int).getD i.toNatClampNeg (.int 0) = .int (tbl i) := by
  have e : i.toNatClampNeg < 64 := by show i.toInt.toNat < 64; omega
  refine ⟨by rw [Int32.lt_iff_toInt_lt, i32_0]; omega, e, mapI_getD (by exact e)⟩
theorem m63 (x : Int32) : 0 ≤ (x &&& 63).toInt ∧ (x &&& 63).toInt < 64 := mask_le x 63 6 (by decide) (by decide)
theorem m255 (x : Int32) : 0 ≤ (x &&& 255).toInt ∧ (x &&& 255).toInt < 256 := mask_le x 255 8 (by decide) (by decide)
theorem sh2 (x : Int32) : 0 ≤ ((x &&& 255) >>> ((2 : Int32) &&& 31)).toInt ∧ ((x &&& 255) >>> ((2 : Int32) &&& 31)).toInt < 64 := by
  rw [c_ishr _ 2 2 (by decide)]
  have := m255 x
  omega
theorem m63r (x : Int32) : (((x &&& 255) <<< ((4 : Int32) &&& 31)) &&& 63).toInt % 16 = 0 := by
  rw [c_mask _ 63 6 (by decide) (by decide)]
  have q := c_ishl (x &&& 255) 4 4 (by decide)
  omega
theorem orix (x y : Int32) : 0 ≤ ((((x &&& 255) <<< ((4 : Int32) &&& 31)) &&& 63) ||| ((y &&& 255) >>> ((4 : Int32) &&& 31))).toInt ∧ ((((x &&& 255) <<< ((4 : Int32) &&& 31)) &&& 63) ||| ((y &&& 255) >>> ((4 : Int32) &&& 31))).toInt < 64 := by
  have a1 := m63r x
  have a2 := m63 ((x &&& 255) <<< ((4 : Int32) &&& 31))
  have a3 := c_ishr (y &&& 255) 4 4 (by decide)
  have a4 := m255 y
  have a5 := c_or (((x &&& 255) <<< ((4 : Int32) &&& 31)) &&& 63) ((y &&& 255) >>> ((4 : Int32) &&& 31)) 4 (by decide) 16 (by decide) a1 (by omega) (by omega)
  have a6 := rng32 ((((x &&& 255) <<< ((4 : Int32) &&& 31)) &&& 63) ||| ((y &&& 255) >>> ((4 : Int32) &&& 31)))
  omega

def Enc (Z : State) (h : Heap) (a nl : Addr) (kn : ClassId) : Prop := Exa Z h a "java/util/Base64$Encoder" ∧ Fld Z h a "java/util/Base64$Encoder" "isURL" "Z" (.int 0) ∧ Fld Z h a "java/util/Base64$Encoder" "newline" "[B" (.ref nl) ∧ Fld Z h a "java/util/Base64$Encoder" "linemax" "I" (.int 64) ∧ Fld Z h a "java/util/Base64$Encoder" "doPadding" "Z" (.int 1) ∧ Arv Z h nl kn .byte 1 [.int 10] (.int 0)
theorem Enc.ext {Z : State} {h h' : Heap} {a nl : Addr} {kn : ClassId} (F : Enc Z h a nl kn) (E : Ext h h') : Enc Z h' a nl kn := by
  obtain ⟨a1, a2, a3, a4, a5, a6⟩ := F
  exact ⟨a1.ext E, a2.ext E, a3.ext E, a4.ext E, a5.ext E, a6.ext E⟩

def dL48al : List (Nat × Instr × Nat) := [(0, .iload_n 0, 1), (1, .iload_n 1, 1), (2, .iadd, 1), (3, .istore_n 2, 1), (4, .iload_n 0, 1), (5, .iload_n 2, 1), (6, .ixor, 1), (7, .iload_n 1, 1), (8, .iload_n 2, 1), (9, .ixor, 1), (10, .iand, 1), (11, .ifCond .ge 13, 3), (24, .iload_n 2, 1), (25, .ireturn, 1)]
theorem dL48a : ∀ x ∈ dL48al, decode jdk_29_method_24_code x.1 = .ok x.2 := by decide +kernel
theorem rm_adx (G : Gl Z a0 zc fm tba ktb fba kfb) (h : Heap) (x : Int32) (y : Int32) (hxy : ¬ ((x ^^^ (x + y)) &&& (y ^^^ (x + y))) < 0) :
    Met l Z consts_1 mN48 jdk_29_method_24_code 3 (some .int) (mkR 0 0 0 0) #[.int x, .int y] h [] [] (fun v h' => v = some (.int (x + y)) ∧ h = h') := by
  obtain ⟨-, hEL, -⟩ := G
  refine Met.of (by decide +kernel) ?_
  intro p e s m below meth c T hnm hret hlk hby hml hs w; have oa := @dat _ _ dL48a _ hby
  refine Run.cast (efL (L := #[vI x, vI y, .unset]) (by simp [argsToLocals, Value.category, vI, vR, vJ])) ?_
  refine jn w (oa 0 rfl) rfl 1 rfl <| jn w (oa 1 rfl) rfl 2 rfl <| jp w (oa 2 rfl) 3 rfl <| s_istore_n w #[vI x, vI y, vI (x + y)] (oa 3 rfl) rfl 4 rfl <| jn w (oa 4 rfl) rfl 5 rfl <| jn w (oa 5 rfl) rfl 6 rfl ?_
  refine s_ixor w (oa 6 rfl) 7 rfl <| jn w (oa 7 rfl) rfl 8 rfl <| jn w (oa 8 rfl) rfl 9 rfl <| s_ixor w (oa 9 rfl) 10 rfl <| jw w (oa 10 rfl) 11 rfl <| s_if_ge w (oa 11 rfl) (by decide) 14 rfl 24 rfl (fun ct1 => ?_) (fun ct1 => ?_)
  · exact absurd ct1 hxy
  · skip
    refine jn w (oa 12 rfl) rfl 25 rfl ?_
    exact w_ireturn w hEL hs hlk hret rfl (Or.inl rfl) (oa 13 rfl) (by decide) (by decide) ⟨rfl, rfl⟩
def dL49al : List (Nat × Instr × Nat) := [(0, .iload_n 0, 1), (1, .i2l, 1), (2, .iload_n 1, 1), (3, .i2l, 1), (4, .lmul, 1), (5, .lstore_n 2, 1), (6, .lload_n 2, 1), (7, .l2i, 1), (8, .i2l, 1), (9, .lload_n 2, 1), (10, .lcmp, 1), (11, .ifCond .eq 13, 3), (24, .lload_n 2, 1), (25, .l2i, 1), (26, .ireturn, 1)]
theorem dL49a : ∀ x ∈ dL49al, decode jdk_29_method_28_code x.1 = .ok x.2 := by decide +kernel
theorem rm_mlx (G : Gl Z a0 zc fm tba ktb fba kfb) (h : Heap) (x : Int32) (y : Int32) (hxy : (x.toInt64 * y.toInt64).toInt32.toInt64 = x.toInt64 * y.toInt64) :
    Met l Z consts_1 mN49 jdk_29_method_28_code 4 (some .int) (mkR 0 0 0 0) #[.int x, .int y] h [] [] (fun v h' => v = some (.int (x.toInt64 * y.toInt64).toInt32) ∧ h = h') := by
  obtain ⟨-, hEL, -⟩ := G
  refine Met.of (by decide +kernel) ?_
  intro p e s m below meth c T hnm hret hlk hby hml hs w; have oa := @dat _ _ dL49a _ hby
  refine Run.cast (efL (L := #[vI x, vI y, .unset, .unset]) (by simp [argsToLocals, Value.category, vI, vR, vJ])) ?_
  refine jn w (oa 0 rfl) rfl 1 rfl <| s_i2l w (oa 1 rfl) 2 rfl <| jn w (oa 2 rfl) rfl 3 rfl <| s_i2l w (oa 3 rfl) 4 rfl <| s_lmul w (oa 4 rfl) 5 rfl <| s_lstore_n w #[vI x, vI y, vJ (x.toInt64 * y.toInt64), .second] (oa 5 rfl) rfl 6 rfl ?_
  refine s_lload_n w (oa 6 rfl) rfl 7 rfl <| s_l2i w (oa 7 rfl) 8 rfl <| s_i2l w (oa 8 rfl) 9 rfl <| s_lload_n w (oa 9 rfl) rfl 10 rfl <| s_lcmp w (oa 10 rfl) 11 rfl <| s_lif_eq w (oa 11 rfl) (by decide) 14 rfl 24 rfl (fun ct1 => ?_) (fun ct1 => ?_)
  · exact absurd hxy ct1
  · skip
    refine s_lload_n w (oa 12 rfl) rfl 25 rfl <| s_l2i w (oa 13 rfl) 26 rfl ?_
    exact w_ireturn w hEL hs hlk hret rfl (Or.inl rfl) (oa 14 rfl) (by decide) (by decide) ⟨rfl, rfl⟩
theorem pn_8 : plainName "java/util/Base64$Encoder" = true := by first | (simp [plainName, overriddenIn]; done) | decide +kernel
def eolF (N : Int32) : Int32 := ((((4 : Int32).toInt64 * (((N + 2) / 3) : Int32).toInt64).toInt32) + ((((((4 : Int32).toInt64 * (((N + 2) / 3) : Int32).toInt64).toInt32) - 1) / 64) * 1))
def dL50al : List (Nat × Instr × Nat) := [(0, .iconst 0, 1), (1, .istore_n 3, 1), (2, .aload_n 0, 1), (3, .getfield 21, 3), (6, .ifCond .eq 18, 3), (9, .iconst 4, 1), (10, .iload_n 1, 1), (11, .iconst 2, 1), (12, .invokestatic 24, 3), (15, .iconst 3, 1), (16, .idiv, 1), (17, .invokestatic 30, 3), (20, .istore_n 3, 1), (21, .goto 32, 3), (53, .aload_n 0, 1), (54, .getfield 17, 3)]
theorem dL50a : ∀ x ∈ dL50al, decode jdk_2452_method_2_code x.1 = .ok x.2 := by decide +kernel
def dL50bl : List (Nat × Instr × Nat) := [(57, .ifCond .le 22, 3), (60, .iload_n 3, 1), (61, .iload_n 3, 1), (62, .iconst 1, 1), (63, .isub, 1), (64, .aload_n 0, 1), (65, .getfield 17, 3), (68, .idiv, 1), (69, .aload_n 0, 1), (70, .getfield 13, 3), (73, .arraylength, 1), (74, .imul, 1), (75, .invokestatic 24, 3), (78, .istore_n 3, 1), (79, .goto 21, 3), (100, .iload_n 3, 1)]
theorem dL50b : ∀ x ∈ dL50bl, decode jdk_2452_method_2_code x.1 = .ok x.2 := by decide +kernel
def dL50cl : List (Nat × Instr × Nat) := [(101, .ireturn, 1)]
theorem dL50c : ∀ x ∈ dL50cl, decode jdk_2452_method_2_code x.1 = .ok x.2 := by decide +kernel
theorem rm_eol (G : Gl Z a0 zc fm tba ktb fba kfb) (h : Heap) (a : Addr) (N : Int32) (nl : Addr) (kn : ClassId) (hN : N = 0 ∨ N = 1 ∨ N = 2 ∨ N = 3 ∨ N = 4 ∨ N = 5 ∨ N = 6 ∨ N = 49) (En : Enc Z h a nl kn) :
    MetH l Z consts_1 mN50 jdk_2452_method_2_code 5 (some .int) [(2, 79, 82, 33)] (mkR 1 0 0 15) #[.ref a, .int N, .int 1] h [] [] (fun v h' N_ => v = some (.int (eolF N)) ∧ N_ = [] ∧ h = h') := by
  have G0 := G
  obtain ⟨hw, hEL, -⟩ := G
  refine MetH.of (plainFor_of_name pn_8) ?_
  intro p e s m below meth c T hnm hret hlk hby hml hs w; have oa := @dat _ _ dL50a _ hby; have ob := @dat _ _ dL50b _ hby; have oc := @dat _ _ dL50c _ hby
  refine Run.cast (efL (L := #[vR a, vI N, vI 1, .unset, .unset]) (by simp [argsToLocals, Value.category, vI, vR, vJ])) ?_
  obtain ⟨Ea, Fu, Fn, Fl, Fp, Anl⟩ := id En
  refine jc w 0 (oa 0 rfl) rfl 1 rfl <| s_istore_n w #[vR a, vI N, vI 1, vI 0, .unset] (oa 1 rfl) rfl 2 rfl <| jm w (oa 2 rfl) rfl rfl 3 rfl <| jF w (Kw hw 62 rfl) Via.refl Fp (oa 3 rfl) 6 rfl fun T w => ?_
  refine s_if_eq w (oa 4 rfl) (by decide) 9 rfl 24 rfl (fun _ => ?_) (fun q => absurd q (by decide))
  refine jc w 4 (oa 5 rfl) rfl 10 rfl <| jn w (oa 6 rfl) rfl 11 rfl <| jc w 2 (oa 7 rfl) rfl 12 rfl <| wS w hEL (cB37 hw) (Kw hw 79 rfl) (rm_adx G0 h N 2 (by rcases hN with rfl | rfl | rfl | rfl | rfl | rfl | rfl | rfl <;> decide)) all0 all0 [.int N, .int 2] [.int 4] rfl rfl rfl (oa 8 rfl) hml rfl 1 rfl (by decide) 15 rfl fun u2 N3 T h4 w K5 P6 => ?_
  obtain ⟨rfl, rfl, rfl⟩ := P6
  show Run _ _ _ _ _ (mkF _ _ _ [.int (N + 2), .int 4])
  refine jc w 3 (oa 9 rfl) rfl 16 rfl <| s_idiv w (oa 10 rfl) (by decide) 17 rfl <| wS w hEL (cB38 hw) (Kw hw 82 rfl) (rm_mlx G0 h 4 ((N + 2) / 3) (by rcases hN with rfl | rfl | rfl | rfl | rfl | rfl | rfl | rfl <;> decide)) all0 all0 [.int 4, .int ((N + 2) / 3)] [] rfl rfl rfl (oa 11 rfl) hml rfl 0 rfl (by decide) 20 rfl fun u8 N9 T h10 w K11 P12 => ?_
  obtain ⟨rfl, rfl, rfl⟩ := P12
  show Run _ _ _ _ _ (mkF _ _ _ [.int ((4 : Int32).toInt64 * (((N + 2) / 3) : Int32).toInt64).toInt32])
  refine s_istore_n w #[vR a, vI N, vI 1, vI ((4 : Int32).toInt64 * (((N + 2) / 3) : Int32).toInt64).toInt32, .unset] (oa 12 rfl) rfl 21 rfl <| jt w (oa 13 rfl) (by decide) 53 rfl <| jm w (oa 14 rfl) rfl rfl 54 rfl <| jF w (Kw hw 60 rfl) Via.refl Fl (oa 15 rfl) 57 rfl fun T w => ?_
  refine s_if_le w (ob 0 rfl) (by decide) 60 rfl 79 rfl (fun _ => ?_) (fun q => absurd q (by decide))
  refine jn w (ob 1 rfl) rfl 61 rfl <| jn w (ob 2 rfl) rfl 62 rfl <| jc w 1 (ob 3 rfl) rfl 63 rfl <| s_isub w (ob 4 rfl) 64 rfl <| jm w (ob 5 rfl) rfl rfl 65 rfl <| jF w (Kw hw 60 rfl) Via.refl Fl (ob 6 rfl) 68 rfl fun T w => ?_
  refine s_idiv w (ob 7 rfl) (by decide) 69 rfl <| jm w (ob 8 rfl) rfl rfl 70 rfl <| jF w (Kw hw 58 rfl) Via.refl Fn (ob 9 rfl) 73 rfl fun T w => ?_
  refine w_len w Anl (ob 10 rfl) 74 rfl ?_
  refine s_imul w (ob 11 rfl) 75 rfl <| wS w hEL (cB37 hw) (Kw hw 79 rfl) (rm_adx G0 h (((4 : Int32).toInt64 * (((N + 2) / 3) : Int32).toInt64).toInt32) ((((((4 : Int32).toInt64 * (((N + 2) / 3) : Int32).toInt64).toInt32) - 1) / 64) * 1) (by rcases hN with rfl | rfl | rfl | rfl | rfl | rfl | rfl | rfl <;> decide)) all0 all0 [.int ((4 : Int32).toInt64 * (((N + 2) / 3) : Int32).toInt64).toInt32, .int ((((((4 : Int32).toInt64 * (((N + 2) / 3) : Int32).toInt64).toInt32) - 1) / 64) * 1)] [] rfl rfl rfl (ob 12 rfl) hml rfl 0 rfl (by decide) 78 rfl fun u15 N16 T h17 w K18 P19 => ?_
  obtain ⟨rfl, rfl, rfl⟩ := P19
  show Run _ _ _ _ _ (mkF _ _ _ [.int ((((4 : Int32).toInt64 * (((N + 2) / 3) : Int32).toInt64).toInt32) + ((((((4 : Int32).toInt64 * (((N + 2) / 3) : Int32).toInt64).toInt32) - 1) / 64) * 1))])
  refine s_istore_n w #[vR a, vI N, vI 1, vI ((((4 : Int32).toInt64 * (((N + 2) / 3) : Int32).toInt64).toInt32) + ((((((4 : Int32).toInt64 * (((N + 2) / 3) : Int32).toInt64).toInt32) - 1) / 64) * 1)), .unset] (ob 13 rfl) rfl 79 rfl <| jt w (ob 14 rfl) (by decide) 100 rfl <| jn w (ob 15 rfl) rfl 101 rfl ?_
  exact w_ireturnN w hEL hs hlk hret rfl (Or.inl rfl) (oc 0 rfl) (by decide) (by decide) (N := []) nilS ⟨rfl, rfl, rfl⟩
theorem pn_9 : plainName "java/util/Objects" = true := by first | (simp [plainName, overriddenIn]; done) | decide +kernel
def dL51al : List (Nat × Instr × Nat) := [(0, .aload_n 0, 1), (1, .ifnonnull 11, 3), (12, .aload_n 0, 1), (13, .areturn, 1)]
theorem dL51a : ∀ x ∈ dL51al, decode jdk_31_method_10_code x.1 = .ok x.2 := by decide +kernel
theorem rm_rnn (G : Gl Z a0 zc fm tba ktb fba kfb) (h : Heap) (x : Addr)  :
    Met l Z consts_1 mN51 jdk_31_method_10_code 1 (some (.object "java/lang/Object")) (mkR 0 0 0 0) #[.ref x] h [] [] (fun v h' => v = some (.ref x) ∧ h = h') := by
  obtain ⟨-, hEL, -⟩ := G
  refine Met.of (plainFor_of_name pn_9) ?_
  intro p e s m below meth c T hnm hret hlk hby hml hs w; have oa := @dat _ _ dL51a _ hby
  refine Run.cast (efL (L := #[vR x]) (by simp [argsToLocals, Value.category, vI, vR, vJ])) ?_
  refine jm w (oa 0 rfl) rfl rfl 1 rfl <| s_ifnonnull_yes w (oa 1 rfl) (by decide) 12 rfl <| jm w (oa 2 rfl) rfl rfl 13 rfl ?_
  exact w_areturn w hEL hs hlk hret rfl rfl (oa 3 rfl) (by decide) (by decide) ⟨rfl, rfl⟩
def dL52al : List (Nat × Instr × Nat) := [(0, .aload_n 0, 1), (1, .invokespecial 1, 3), (4, .aload_n 0, 1), (5, .iload_n 1, 1), (6, .putfield 7, 3), (9, .aload_n 0, 1), (10, .aload_n 2, 1), (11, .putfield 13, 3), (14, .aload_n 0, 1), (15, .iload_n 3, 1), (16, .putfield 17, 3), (19, .aload_n 0, 1), (20, .iload 4, 2), (22, .putfield 21, 3), (25, .return_, 1)]
theorem dL52a : ∀ x ∈ dL52al, decode jdk_2452_method_1_code x.1 = .ok x.2 := by decide +kernel
theorem rm_ein (G : Gl Z a0 zc fm tba ktb fba kfb) (h : Heap) (a : Addr) (nl : Addr) (v0 v1 v2 v3 : Value) (E0 : Exa Z h a "java/util/Base64$Encoder") (F_0 : Fld Z h a "java/util/Base64$Encoder" "isURL" "Z" v0) (F_1 : Fld Z h a "java/util/Base64$Encoder" "newline" "[B" v1) (F_2 : Fld Z h a "java/util/Base64$Encoder" "linemax" "I" v2) (F_3 : Fld Z h a "java/util/Base64$Encoder" "doPadding" "Z" v3) :
    Met l Z consts_1 mN52 jdk_2452_method_1_code 5 none (mkR 1 0 0 12) #[.ref a, .int 0, .ref nl, .int 64, .int 1] h [] [a] (fun v h' => v = none ∧ Exa Z h' a "java/util/Base64$Encoder" ∧ Fld Z h' a "java/util/Base64$Encoder" "isURL" "Z" (.int 0) ∧ Fld Z h' a "java/util/Base64$Encoder" "newline" "[B" (.ref nl) ∧ Fld Z h' a "java/util/Base64$Encoder" "linemax" "I" (.int 64) ∧ Fld Z h' a "java/util/Base64$Encoder" "doPadding" "Z" (.int 1)) := by
  obtain ⟨hw, hEL, -⟩ := G
  refine Met.of (plainFor_of_name pn_8) ?_
  intro p e s m below meth c T hnm hret hlk hby hml hs w; have oa := @dat _ _ dL52a _ hby
  refine Run.cast (efL (L := #[vR a, vI 0, vR nl, vI 64, vI 1]) (by simp [argsToLocals, Value.category, vI, vR, vJ])) ?_
  have s01 : Jvm.RoadKit.slotOf Z "java/util/Base64$Encoder" "isURL" "Z" ≠ Jvm.RoadKit.slotOf Z "java/util/Base64$Encoder" "newline" "[B" := slot_ne (Or.inr (Kw hw 57 rfl)) (Or.inr (Kw hw 59 rfl)) (by decide) (t := .boolean) (t' := .array .byte) (by decide) (by decide)
  have s02 : Jvm.RoadKit.slotOf Z "java/util/Base64$Encoder" "isURL" "Z" ≠ Jvm.RoadKit.slotOf Z "java/util/Base64$Encoder" "linemax" "I" := slot_ne (Or.inr (Kw hw 57 rfl)) (Or.inr (Kw hw 61 rfl)) (by decide) (t := .boolean) (t' := .int) (by decide) (by decide)
  have s03 : Jvm.RoadKit.slotOf Z "java/util/Base64$Encoder" "isURL" "Z" ≠ Jvm.RoadKit.slotOf Z "java/util/Base64$Encoder" "doPadding" "Z" := slot_ne (Or.inr (Kw hw 57 rfl)) (Or.inr (Kw hw 63 rfl)) (by decide) (t := .boolean) (t' := .boolean) (by decide) (by decide)
  have s10 : Jvm.RoadKit.slotOf Z "java/util/Base64$Encoder" "newline" "[B" ≠ Jvm.RoadKit.slotOf Z "java/util/Base64$Encoder" "isURL" "Z" := slot_ne (Or.inr (Kw hw 59 rfl)) (Or.inr (Kw hw 57 rfl)) (by decide) (t := .array .byte) (t' := .boolean) (by decide) (by decide)
  have s12 : Jvm.RoadKit.slotOf Z "java/util/Base64$Encoder" "newline" "[B" ≠ Jvm.RoadKit.slotOf Z "java/util/Base64$Encoder" "linemax" "I" := slot_ne (Or.inr (Kw hw 59 rfl)) (Or.inr (Kw hw 61 rfl)) (by decide) (t := .array .byte) (t' := .int) (by decide) (by decide)
  have s13 : Jvm.RoadKit.slotOf Z "java/util/Base64$Encoder" "newline" "[B" ≠ Jvm.RoadKit.slotOf Z "java/util/Base64$Encoder" "doPadding" "Z" := slot_ne (Or.inr (Kw hw 59 rfl)) (Or.inr (Kw hw 63 rfl)) (by decide) (t := .array .byte) (t' := .boolean) (by decide) (by decide)
  have s20 : Jvm.RoadKit.slotOf Z "java/util/Base64$Encoder" "linemax" "I" ≠ Jvm.RoadKit.slotOf Z "java/util/Base64$Encoder" "isURL" "Z" := slot_ne (Or.inr (Kw hw 61 rfl)) (Or.inr (Kw hw 57 rfl)) (by decide) (t := .int) (t' := .boolean) (by decide) (by decide)
  have s21 : Jvm.RoadKit.slotOf Z "java/util/Base64$Encoder" "linemax" "I" ≠ Jvm.RoadKit.slotOf Z "java/util/Base64$Encoder" "newline" "[B" := slot_ne (Or.inr (Kw hw 61 rfl)) (Or.inr (Kw hw 59 rfl)) (by decide) (t := .int) (t' := .array .byte) (by decide) (by decide)
  have s23 : Jvm.RoadKit.slotOf Z "java/util/Base64$Encoder" "linemax" "I" ≠ Jvm.RoadKit.slotOf Z "java/util/Base64$Encoder" "doPadding" "Z" := slot_ne (Or.inr (Kw hw 61 rfl)) (Or.inr (Kw hw 63 rfl)) (by decide) (t := .int) (t' := .boolean) (by decide) (by decide)
  have s30 : Jvm.RoadKit.slotOf Z "java/util/Base64$Encoder" "doPadding" "Z" ≠ Jvm.RoadKit.slotOf Z "java/util/Base64$Encoder" "isURL" "Z" := slot_ne (Or.inr (Kw hw 63 rfl)) (Or.inr (Kw hw 57 rfl)) (by decide) (t := .boolean) (t' := .boolean) (by decide) (by decide)
  have s31 : Jvm.RoadKit.slotOf Z "java/util/Base64$Encoder" "doPadding" "Z" ≠ Jvm.RoadKit.slotOf Z "java/util/Base64$Encoder" "newline" "[B" := slot_ne (Or.inr (Kw hw 63 rfl)) (Or.inr (Kw hw 59 rfl)) (by decide) (t := .boolean) (t' := .array .byte) (by decide) (by decide)
  have s32 : Jvm.RoadKit.slotOf Z "java/util/Base64$Encoder" "doPadding" "Z" ≠ Jvm.RoadKit.slotOf Z "java/util/Base64$Encoder" "linemax" "I" := slot_ne (Or.inr (Kw hw 63 rfl)) (Or.inr (Kw hw 61 rfl)) (by decide) (t := .boolean) (t' := .int) (by decide) (by decide)
  refine jm w (oa 0 rfl) rfl rfl 1 rfl <| w_objInit w (Kw hw 55 rfl) (Kw hw 12 rfl) (Kw hw 13 rfl) (oa 1 rfl) (by rw [hml]; rfl) (by decide) (W := 0) (Nat.le_of_eq rfl) (by decide) 4 rfl fun T w => ?_
  refine jm w (oa 2 rfl) rfl rfl 5 rfl <| jn w (oa 3 rfl) rfl 6 rfl <| w_putF w (Kw hw 56 rfl) Via.refl F_0 E0 (Or.inr ⟨(Kw hw 57 rfl), rfl, hnm⟩) (Kw hw 49 rfl) (ty := .boolean) (by decide) rfl rfl (oa 4 rfl) (Or.inl (List.mem_singleton.mpr rfl)) (Or.inl ⟨by decide, by decide⟩) 9 rfl fun T g0 w W0 Q0 X0 => ?_
  refine jm w (oa 5 rfl) rfl rfl 10 rfl <| jm w (oa 6 rfl) rfl rfl 11 rfl <| w_putF w (Kw hw 58 rfl) Via.refl (F_1.other W0 (Or.inr s10)) X0 (Or.inr ⟨(Kw hw 59 rfl), rfl, hnm⟩) (Kw hw 49 rfl) (ty := .array .byte) (by decide) rfl rfl (oa 7 rfl) (Or.inl (List.mem_singleton.mpr rfl)) (Or.inl ⟨by decide, by decide⟩) 14 rfl fun T g1 w W1 Q1 X1 => ?_
  refine jm w (oa 8 rfl) rfl rfl 15 rfl <| jn w (oa 9 rfl) rfl 16 rfl <| w_putF w (Kw hw 60 rfl) Via.refl ((F_2.other W0 (Or.inr s20)).other W1 (Or.inr s21)) X1 (Or.inr ⟨(Kw hw 61 rfl), rfl, hnm⟩) (Kw hw 49 rfl) (ty := .int) (by decide) rfl rfl (oa 10 rfl) (Or.inl (List.mem_singleton.mpr rfl)) (Or.inl ⟨by decide, by decide⟩) 19 rfl fun T g2 w W2 Q2 X2 => ?_
  refine jm w (oa 11 rfl) rfl rfl 20 rfl <| jl w (oa 12 rfl) rfl 22 rfl <| w_putF w (Kw hw 62 rfl) Via.refl (((F_3.other W0 (Or.inr s30)).other W1 (Or.inr s31)).other W2 (Or.inr s32)) X2 (Or.inr ⟨(Kw hw 63 rfl), rfl, hnm⟩) (Kw hw 49 rfl) (ty := .boolean) (by decide) rfl rfl (oa 13 rfl) (Or.inl (List.mem_singleton.mpr rfl)) (Or.inl ⟨by decide, by decide⟩) 25 rfl fun T g3 w W3 Q3 X3 => ?_
  exact w_return w hEL hs hlk hret (oa 14 rfl) (by decide) (by decide) ⟨rfl, X3, (((Q0.other W1 (Or.inr s01)).other W2 (Or.inr s02)).other W3 (Or.inr s03)), ((Q1.other W2 (Or.inr s12)).other W3 (Or.inr s13)), (Q2.other W3 (Or.inr s23)), Q3⟩
theorem pn_10 : plainName "java/util/Base64" = true := by first | (simp [plainName, overriddenIn]; done) | decide +kernel
def dL53al : List (Nat × Instr × Nat) := [(0, .aload_n 1, 1), (1, .invokestatic 19, 3), (4, .pop, 1), (5, .getstatic 25, 3), (8, .astore_n 2, 1), (9, .aload_n 1, 1), (10, .astore_n 3, 1), (11, .aload_n 3, 1), (12, .arraylength, 1), (13, .istore 4, 2), (15, .iconst 0, 1), (16, .istore 5, 2), (18, .iload 5, 2), (20, .iload 4, 2), (22, .if_icmp .ge 60, 3), (25, .aload_n 3, 1)]
theorem dL53a : ∀ x ∈ dL53al, decode jdk_2448_method_5_code x.1 = .ok x.2 := by decide +kernel
def dL53bl : List (Nat × Instr × Nat) := [(26, .iload 5, 2), (28, .baload, 1), (29, .istore 6, 2), (31, .aload_n 2, 1), (32, .iload 6, 2), (34, .sipush 255, 3), (37, .iand, 1), (38, .iaload, 1), (39, .iconst (-1), 1), (40, .if_icmp .eq 36, 3), (76, .iinc 5 1, 3), (79, .goto (-61), 3), (82, .iload_n 0, 1), (83, .bipush (-4), 2), (85, .iand, 1), (86, .istore_n 0, 1)]
theorem dL53b : ∀ x ∈ dL53bl, decode jdk_2448_method_5_code x.1 = .ok x.2 := by decide +kernel
def dL53cl : List (Nat × Instr × Nat) := [(87, .iload_n 0, 1), (88, .ifCond .gt 7, 3), (95, .new 8, 3), (98, .dup, 1), (99, .iconst 0, 1), (100, .aload_n 1, 1), (101, .iload_n 0, 1), (102, .iconst 1, 1), (103, .invokespecial 54, 3), (106, .areturn, 1)]
theorem dL53c : ∀ x ∈ dL53cl, decode jdk_2448_method_5_code x.1 = .ok x.2 := by decide +kernel
theorem rm_gme (G : Gl Z a0 zc fm tba ktb fba kfb) (h : Heap) (nl : Addr) (kn : ClassId) (Anl : Arv Z h nl kn .byte 1 [.int 10] (.int 0)) :
    Met l Z consts_1 mN53 jdk_2448_method_5_code 7 (some (.object "java/util/Base64$Encoder")) (mkR 2 1 4 29) #[.int 64, .ref nl] h [] [] (fun v h' => ∃ a, v = some (.ref a) ∧ h.size ≤ a ∧ Enc Z h' a nl kn) := by
  have G0 := G
  obtain ⟨hw, hEL, -, -, -, -, -, -, -, SFB, AFB, -⟩ := G
  refine Met.of (plainFor_of_name pn_10) ?_
  intro p e s m below meth c T hnm hret hlk hby hml hs w; have oa := @dat _ _ dL53a _ hby; have ob := @dat _ _ dL53b _ hby; have oc := @dat _ _ dL53c _ hby
  refine Run.cast (efL (L := #[vI 64, vR nl, .unset, .unset, .unset, .unset, .unset]) (by simp [argsToLocals, Value.category, vI, vR, vJ])) ?_
  refine jm w (oa 0 rfl) rfl rfl 1 rfl <| wS w hEL (cB39 hw) (Kw hw 42 rfl) (rm_rnn G0 h nl) all0 all0 [.ref nl] [] rfl rfl rfl (oa 1 rfl) hml rfl 0 rfl (by decide) 4 rfl fun u1 N2 T h3 w K4 P5 => ?_
  obtain ⟨rfl, rfl, rfl⟩ := P5
  show Run _ _ _ _ _ (mkF _ _ _ [.ref nl])
  refine s_pop w (oa 2 rfl) rfl 5 rfl <| w_getSR w (Kw hw 46 rfl) (SFB.ext w.old) (oa 3 rfl) 8 rfl <| s_astore_n w #[vI 64, vR nl, vR fba, .unset, .unset, .unset, .unset] (oa 4 rfl) rfl rfl 9 rfl <| jm w (oa 5 rfl) rfl rfl 10 rfl <| s_astore_n w #[vI 64, vR nl, vR fba, vR nl, .unset, .unset, .unset] (oa 6 rfl) rfl rfl 11 rfl <| jm w (oa 7 rfl) rfl rfl 12 rfl ?_
  refine w_len w Anl (oa 8 rfl) 13 rfl ?_
  refine js w #[vI 64, vR nl, vR fba, vR nl, vI 1, .unset, .unset] (oa 9 rfl) rfl 15 rfl <| jc w 0 (oa 10 rfl) rfl 16 rfl <| js w #[vI 64, vR nl, vR fba, vR nl, vI 1, vI 0, .unset] (oa 11 rfl) rfl 18 rfl <| jl w (oa 12 rfl) rfl 20 rfl <| jl w (oa 13 rfl) rfl 22 rfl <| jg w (oa 14 rfl) (by decide) 25 rfl 82 rfl (fun _ => ?_) (fun q => absurd q (by decide))
  refine jm w (oa 15 rfl) rfl rfl 26 rfl <| jl w (ob 0 rfl) rfl 28 rfl <| w_ldB w Anl (i := 0) (by decide) rfl (by decide) (v := .int 10) rfl (ob 1 rfl) 29 rfl <| js w #[vI 64, vR nl, vR fba, vR nl, vI 1, vI 0, vI 10] (ob 2 rfl) rfl 31 rfl <| jm w (ob 3 rfl) rfl rfl 32 rfl <| jl w (ob 4 rfl) rfl 34 rfl ?_
  refine s_sipush w 255 (ob 5 rfl) rfl 37 rfl <| jw w (ob 6 rfl) 38 rfl ?_
  rw [show ((10 &&& 255) : Int32) = 10 from by decide]
  refine w_ldI w (AFB.ext w.old) (i := 10) (by decide) rfl (by decide) (v := .int (-1)) rfl (ob 7 rfl) 39 rfl ?_
  refine jc w (-1) (ob 8 rfl) rfl 40 rfl <| s_icmp_eq w (ob 9 rfl) (by decide) 43 rfl 76 rfl (fun q => absurd q (by decide)) (fun _ => ?_)
  refine ji w #[vI 64, vR nl, vR fba, vR nl, vI 1, vI (0 + 1), vI 10] (ob 10 rfl) (v := 1) rfl rfl rfl 79 rfl ?_
  rw [show ((0 + 1) : Int32) = 1 from by decide]
  refine jt w (ob 11 rfl) (by decide) 18 rfl <| jl w (oa 12 rfl) rfl 20 rfl <| jl w (oa 13 rfl) rfl 22 rfl <| jg w (oa 14 rfl) (by decide) 25 rfl 82 rfl (fun q => absurd q (by decide)) (fun _ => ?_)
  refine jn w (ob 12 rfl) rfl 83 rfl <| jb w (-4) (ob 13 rfl) rfl 85 rfl <| jw w (ob 14 rfl) 86 rfl ?_
  rw [show ((64 &&& (-4)) : Int32) = 64 from by decide]
  refine s_istore_n w #[vI 64, vR nl, vR fba, vR nl, vI 1, vI 1, vI 10] (ob 15 rfl) rfl 87 rfl <| jn w (oc 0 rfl) rfl 88 rfl <| s_if_gt w (oc 1 rfl) (by decide) 91 rfl 95 rfl (fun q => absurd q (by decide)) (fun _ => ?_)
  refine w_new w (Kw hw 48 rfl) (Kw hw 49 rfl) (Kw hw 50 rfl) (oc 2 rfl) 98 rfl (by decide) (by decide) fun T h11 x12 w E13 q14 r15 A16 D17 => ?_
  have F_isURL_x12 : Fld Z h11 x12 "java/util/Base64$Encoder" "isURL" "Z" (.int 0) := D17 (Or.inr (Kw hw 57 rfl)) (ty := .boolean) (by decide)
  have F_newline_x12 : Fld Z h11 x12 "java/util/Base64$Encoder" "newline" "[B" (.null) := D17 (Or.inr (Kw hw 59 rfl)) (ty := (.array .byte)) (by decide)
  have F_linemax_x12 : Fld Z h11 x12 "java/util/Base64$Encoder" "linemax" "I" (.int 0) := D17 (Or.inr (Kw hw 61 rfl)) (ty := .int) (by decide)
  have F_doPadding_x12 : Fld Z h11 x12 "java/util/Base64$Encoder" "doPadding" "Z" (.int 0) := D17 (Or.inr (Kw hw 63 rfl)) (ty := .boolean) (by decide)
  refine jd w (oc 3 rfl) rfl 99 rfl <| jc w 0 (oc 4 rfl) rfl 100 rfl <| jm w (oc 5 rfl) rfl rfl 101 rfl <| jn w (oc 6 rfl) rfl 102 rfl <| jc w 1 (oc 7 rfl) rfl 103 rfl <| w_specialR w hEL (y := mN52) (a := x12) rfl (Kw hw 51 rfl) (Kw hw 52 rfl) (Kw hw 50 rfl) (Kw hw 54 rfl) (by decide) (rm_ein G0 h11 x12 nl _ _ _ _ A16 F_isURL_x12 F_newline_x12 F_linemax_x12 F_doPadding_x12) all0 (allS (Or.inr r15) all0) (argsL := [.int 0, .ref nl, .int 64, .int 1]) (rest := [.ref x12]) (lenOf pD8 rfl) rfl rfl (oc 8 rfl) (by rw [hml]; rfl) (W := 1) (Nat.le_of_eq rfl) (by decide) (by decide) (by decide) (by decide) 106 rfl fun u9 N9 T h9 w K9 P9 => ?_
  obtain ⟨rfl, rfl, P9⟩ := P9
  have Anl9 := (Anl.ext E13).keep K9 (ninS (Exa.neArv A16 (Anl.ext E13) (Kw hw 49 rfl)).symm nin0)
  show Run _ _ _ _ _ (mkF _ _ _ [.ref x12])
  exact w_areturn w hEL hs hlk hret rfl rfl (oc 9 rfl) (by decide) (by decide) ⟨x12, rfl, q14, P9.1, P9.2.1, P9.2.2.1, P9.2.2.2.1, P9.2.2.2.2, Anl9⟩
def dL54al : List (Nat × Instr × Nat) := [(0, .iload 6, 2), (2, .ifCond .eq 9, 3), (11, .getstatic 115, 3), (14, .astore 7, 2), (16, .iload_n 2, 1), (17, .istore 8, 2), (19, .iload 5, 2), (21, .istore 9, 2), (23, .iload 8, 2), (25, .iload_n 3, 1), (26, .if_icmp .ge 126, 3), (29, .aload_n 1, 1), (30, .iload 8, 2), (32, .iinc 8 1, 3), (35, .baload, 1), (36, .sipush 255, 3)]
theorem dL54a : ∀ x ∈ dL54al, decode jdk_2452_method_9_code x.1 = .ok x.2 := by decide +kernel
def dL54bl : List (Nat × Instr × Nat) := [(39, .iand, 1), (40, .bipush 16, 2), (42, .ishl, 1), (43, .aload_n 1, 1), (44, .iload 8, 2), (46, .iinc 8 1, 3), (49, .baload, 1), (50, .sipush 255, 3), (53, .iand, 1), (54, .bipush 8, 2), (56, .ishl, 1), (57, .ior, 1), (58, .aload_n 1, 1), (59, .iload 8, 2), (61, .iinc 8 1, 3), (64, .baload, 1)]
theorem dL54b : ∀ x ∈ dL54bl, decode jdk_2452_method_9_code x.1 = .ok x.2 := by decide +kernel
def dL54cl : List (Nat × Instr × Nat) := [(65, .sipush 255, 3), (68, .iand, 1), (69, .ior, 1), (70, .istore 10, 2), (72, .aload 4, 2), (74, .iload 9, 2), (76, .iinc 9 1, 3), (79, .aload 7, 2), (81, .iload 10, 2), (83, .bipush 18, 2), (85, .iushr, 1), (86, .bipush 63, 2), (88, .iand, 1), (89, .caload, 1), (90, .i2b, 1), (91, .bastore, 1)]
theorem dL54c : ∀ x ∈ dL54cl, decode jdk_2452_method_9_code x.1 = .ok x.2 := by decide +kernel
def dL54dl : List (Nat × Instr × Nat) := [(92, .aload 4, 2), (94, .iload 9, 2), (96, .iinc 9 1, 3), (99, .aload 7, 2), (101, .iload 10, 2), (103, .bipush 12, 2), (105, .iushr, 1), (106, .bipush 63, 2), (108, .iand, 1), (109, .caload, 1), (110, .i2b, 1), (111, .bastore, 1), (112, .aload 4, 2), (114, .iload 9, 2), (116, .iinc 9 1, 3), (119, .aload 7, 2)]
theorem dL54d : ∀ x ∈ dL54dl, decode jdk_2452_method_9_code x.1 = .ok x.2 := by decide +kernel
def dL54el : List (Nat × Instr × Nat) := [(121, .iload 10, 2), (123, .bipush 6, 2), (125, .iushr, 1), (126, .bipush 63, 2), (128, .iand, 1), (129, .caload, 1), (130, .i2b, 1), (131, .bastore, 1), (132, .aload 4, 2), (134, .iload 9, 2), (136, .iinc 9 1, 3), (139, .aload 7, 2), (141, .iload 10, 2), (143, .bipush 63, 2), (145, .iand, 1), (146, .caload, 1)]
theorem dL54e : ∀ x ∈ dL54el, decode jdk_2452_method_9_code x.1 = .ok x.2 := by decide +kernel
def dL54fl : List (Nat × Instr × Nat) := [(147, .i2b, 1), (148, .bastore, 1), (149, .goto (-126), 3), (152, .return_, 1)]
theorem dL54f : ∀ x ∈ dL54fl, decode jdk_2452_method_9_code x.1 = .ok x.2 := by decide +kernel
theorem rm_eblk (G : Gl Z a0 zc fm tba ktb fba kfb) (h : Heap) (a : Addr) (s0 : Addr) (N : Int32) (d : Addr) (ks kd : ClassId) (bs : List Int32) (k M : Nat) (hN : N = Int32.ofNat (3 * k)) (hk : 3 * k ≤ bs.length) (hbl : bs.length ≤ 900) (hM : 4 * k ≤ M) (hM9 : M ≤ 900) (hne : s0 ≠ d) (As : Arv Z h s0 ks .byte (Int32.ofNat bs.length) (bs.map Value.int) (.int 0)) (Ad : Arv Z h d kd .byte (Int32.ofNat M) (List.replicate M (.int 0)) (.int 0)) :
    Met l Z consts_1 mN54 jdk_2452_method_9_code 11 none (mkR 0 0 0 0) #[.ref a, .ref s0, .int 0, .int N, .ref d, .int 0, .int 0] h [d] [d] (fun v h' => v = none ∧ Arv Z h' d kd .byte (Int32.ofNat M) (room_ (encs bs k) M) (.int 0)) := by
  obtain ⟨hw, hEL, -, -, -, -, -, -, -, -, -, STB, ATB⟩ := G
  refine Met.of (plainFor_of_name pn_8) ?_
  intro p e s m below meth c T hnm hret hlk hby hml hs w; have oa := @dat _ _ dL54a _ hby; have ob := @dat _ _ dL54b _ hby; have oc := @dat _ _ dL54c _ hby; have od := @dat _ _ dL54d _ hby; have oe := @dat _ _ dL54e _ hby; have of := @dat _ _ dL54f _ hby
  refine Run.cast (efL (L := #[vR a, vR s0, vI 0, vI N, vR d, vI 0, vI 0, .unset, .unset, .unset, .unset]) (by simp [argsToLocals, Value.category, vI, vR, vJ])) ?_
  refine jl w (oa 0 rfl) rfl 2 rfl <| s_if_eq w (oa 1 rfl) (by decide) 5 rfl 11 rfl (fun q => absurd q (by decide)) (fun _ => ?_)
  refine w_getS w (Kw hw 90 rfl) Via.refl (STB.ext w.old) (oa 2 rfl) 14 rfl fun T w => ?_
  refine s_astore w #[vR a, vR s0, vI 0, vI N, vR d, vI 0, vI 0, vR tba, .unset, .unset, .unset] (oa 3 rfl) rfl rfl 16 rfl <| jn w (oa 4 rfl) rfl 17 rfl <| js w #[vR a, vR s0, vI 0, vI N, vR d, vI 0, vI 0, vR tba, vI 0, .unset, .unset] (oa 5 rfl) rfl 19 rfl <| jl w (oa 6 rfl) rfl 21 rfl <| js w #[vR a, vR s0, vI 0, vI N, vR d, vI 0, vI 0, vR tba, vI 0, vI 0, .unset] (oa 7 rfl) rfl 23 rfl ?_
  suffices H : ∀ q j (sl : Slot) T g, j + q = k → (sl = .unset ∨ ∃ z, sl = vI z) → Wk p l e _ s m _ below meth c Z consts_1 _ h [d] T g 0 0 [d] → Arv Z g s0 ks .byte (Int32.ofNat bs.length) (bs.map Value.int) (.int 0) → Arv Z g d kd .byte (Int32.ofNat M) (room_ (encs bs j) M) (.int 0) → Run p e below (Qm Z consts_1 s h [d] _ _) T (mkF m 23 #[vR a, vR s0, vI 0, vI N, vR d, vI 0, vI 0, vR tba, vI (Int32.ofNat (3 * j)), vI (Int32.ofNat (4 * j)), sl] []) from H k 0 .unset T h (Nat.zero_add _) (Or.inl rfl) w As (by show Arv Z h d kd .byte (Int32.ofNat M) (room_ [] M) (.int 0); rw [room_nil]; exact Ad)
  intro q
  induction q with
  | zero =>
    intro j sl T g hj hsl w As Ad
    obtain rfl : j = k := hj
    refine jl w (oa 8 rfl) rfl 25 rfl <| jn w (oa 9 rfl) rfl 26 rfl <| jg w (oa 10 rfl) (by decide) 29 rfl 152 rfl (fun ct2 => ?_) (fun ct2 => ?_)
    · exact absurd ct2 (by rw [hN]; exact Int32.lt_irrefl)
    · skip
      exact w_return w hEL hs hlk hret (of 3 rfl) (by decide) (by decide) ⟨rfl, Ad⟩
  | succ q ih =>
    intro j sl T g hj hsl w As Ad
    have hjk : j < k := by omega
    have hel := encs_len bs j
    refine jl w (oa 8 rfl) rfl 25 rfl <| jn w (oa 9 rfl) rfl 26 rfl <| jg w (oa 10 rfl) (by decide) 29 rfl 152 rfl (fun ct3 => ?_) (fun ct3 => ?_)
    · skip
      refine jm w (oa 11 rfl) rfl rfl 30 rfl <| jl w (oa 12 rfl) rfl 32 rfl <| ji w #[vR a, vR s0, vI 0, vI N, vR d, vI 0, vI 0, vR tba, vI ((Int32.ofNat (3 * j)) + 1), vI (Int32.ofNat (4 * j)), sl] (oa 13 rfl) (v := 1) rfl rfl rfl 35 rfl ?_
      rw [ofNat_succ]
      refine w_ldB w As (i := 3 * j) (ofNat_lt (by omega)) (ofNat_nat (by omega)) (by rw [ofNat_nat (by omega)]; omega) (mapI_getD (by omega)) (oa 14 rfl) 36 rfl ?_
      refine s_sipush w 255 (oa 15 rfl) rfl 39 rfl <| jw w (ob 0 rfl) 40 rfl <| jb w 16 (ob 1 rfl) rfl 42 rfl <| s_ishl w (ob 2 rfl) 43 rfl <| jm w (ob 3 rfl) rfl rfl 44 rfl <| jl w (ob 4 rfl) rfl 46 rfl ?_
      refine ji w #[vR a, vR s0, vI 0, vI N, vR d, vI 0, vI 0, vR tba, vI ((Int32.ofNat (3 * j + 1)) + 1), vI (Int32.ofNat (4 * j)), sl] (ob 5 rfl) (v := 1) rfl rfl rfl 49 rfl ?_
      rw [ofNat_succ]
      refine w_ldB w As (i := 3 * j + 1) (ofNat_lt (by omega)) (ofNat_nat (by omega)) (by rw [ofNat_nat (by omega)]; omega) (mapI_getD (by omega)) (ob 6 rfl) 50 rfl ?_
      refine s_sipush w 255 (ob 7 rfl) rfl 53 rfl <| jw w (ob 8 rfl) 54 rfl <| jb w 8 (ob 9 rfl) rfl 56 rfl <| s_ishl w (ob 10 rfl) 57 rfl <| s_ior w (ob 11 rfl) 58 rfl <| jm w (ob 12 rfl) rfl rfl 59 rfl ?_
      refine jl w (ob 13 rfl) rfl 61 rfl <| ji w #[vR a, vR s0, vI 0, vI N, vR d, vI 0, vI 0, vR tba, vI ((Int32.ofNat (3 * j + 1 + 1)) + 1), vI (Int32.ofNat (4 * j)), sl] (ob 14 rfl) (v := 1) rfl rfl rfl 64 rfl ?_
      rw [ofNat_succ]
      refine w_ldB w As (i := 3 * j + 1 + 1) (ofNat_lt (by omega)) (ofNat_nat (by omega)) (by rw [ofNat_nat (by omega)]; omega) (mapI_getD (by omega)) (ob 15 rfl) 65 rfl ?_
      refine s_sipush w 255 (oc 0 rfl) rfl 68 rfl <| jw w (oc 1 rfl) 69 rfl <| s_ior w (oc 2 rfl) 70 rfl ?_
      show Run _ _ _ _ _ (mkF _ _ _ [.int (bits3 (bs.getD (3 * j) 0) (bs.getD (3 * j + 1) 0) (bs.getD (3 * j + 1 + 1) 0))])
      refine js w #[vR a, vR s0, vI 0, vI N, vR d, vI 0, vI 0, vR tba, vI (Int32.ofNat (3 * j + 1 + 1 + 1)), vI (Int32.ofNat (4 * j)), vI (bits3 (bs.getD (3 * j) 0) (bs.getD (3 * j + 1) 0) (bs.getD (3 * j + 1 + 1) 0))] (oc 3 rfl) (by rcases hsl with rfl | ⟨z, rfl⟩ <;> rfl) 72 rfl <| ja w (oc 4 rfl) rfl rfl 74 rfl <| jl w (oc 5 rfl) rfl 76 rfl <| ji w #[vR a, vR s0, vI 0, vI N, vR d, vI 0, vI 0, vR tba, vI (Int32.ofNat (3 * j + 1 + 1 + 1)), vI ((Int32.ofNat (4 * j)) + 1), vI (bits3 (bs.getD (3 * j) 0) (bs.getD (3 * j + 1) 0) (bs.getD (3 * j + 1 + 1) 0))] (oc 6 rfl) (v := 1) rfl rfl rfl 79 rfl ?_
      rw [ofNat_succ]
      refine ja w (oc 7 rfl) rfl rfl 81 rfl <| jl w (oc 8 rfl) rfl 83 rfl <| jb w 18 (oc 9 rfl) rfl 85 rfl <| s_iushr w (oc 10 rfl) 86 rfl <| jb w 63 (oc 11 rfl) rfl 88 rfl <| jw w (oc 12 rfl) 89 rfl ?_
      refine w_ldC w (ATB.ext w.old) (ix64 (m63 _)).1 rfl (ix64 (m63 _)).2.1 (ix64 (m63 _)).2.2 (oc 13 rfl) 90 rfl ?_
      refine s_i2b w (oc 14 rfl) 91 rfl <| jB w Ad (i := 4 * j) (ofNat_lt (by omega)) (ofNat_nat (by omega)) (by rw [ofNat_nat (by omega)]; omega) (by rw [room_len (by simp [hel]; omega)]; omega) (nar_byte _) (oc 15 rfl) (Or.inl (List.mem_singleton.mpr rfl)) (List.mem_singleton.mpr rfl) 92 rfl fun T g0 w W0 D0 => ?_
      have As := As.other W0 hne
      have D0 := Arv.stp D0 (by simp [hel]) (by omega)
      refine ja w (od 0 rfl) rfl rfl 94 rfl <| jl w (od 1 rfl) rfl 96 rfl <| ji w #[vR a, vR s0, vI 0, vI N, vR d, vI 0, vI 0, vR tba, vI (Int32.ofNat (3 * j + 1 + 1 + 1)), vI ((Int32.ofNat (4 * j + 1)) + 1), vI (bits3 (bs.getD (3 * j) 0) (bs.getD (3 * j + 1) 0) (bs.getD (3 * j + 1 + 1) 0))] (od 2 rfl) (v := 1) rfl rfl rfl 99 rfl ?_
      rw [ofNat_succ]
      refine ja w (od 3 rfl) rfl rfl 101 rfl <| jl w (od 4 rfl) rfl 103 rfl <| jb w 12 (od 5 rfl) rfl 105 rfl <| s_iushr w (od 6 rfl) 106 rfl <| jb w 63 (od 7 rfl) rfl 108 rfl <| jw w (od 8 rfl) 109 rfl ?_
      refine w_ldC w (ATB.ext w.old) (ix64 (m63 _)).1 rfl (ix64 (m63 _)).2.1 (ix64 (m63 _)).2.2 (od 9 rfl) 110 rfl ?_
      refine s_i2b w (od 10 rfl) 111 rfl <| jB w D0 (i := 4 * j + 1) (ofNat_lt (by omega)) (ofNat_nat (by omega)) (by rw [ofNat_nat (by omega)]; omega) (by rw [room_len (by simp [hel]; omega)]; omega) (nar_byte _) (od 11 rfl) (Or.inl (List.mem_singleton.mpr rfl)) (List.mem_singleton.mpr rfl) 112 rfl fun T g1 w W1 D1 => ?_
      have As := As.other W1 hne
      have D1 := Arv.stp D1 (by simp [hel]) (by omega)
      refine ja w (od 12 rfl) rfl rfl 114 rfl <| jl w (od 13 rfl) rfl 116 rfl <| ji w #[vR a, vR s0, vI 0, vI N, vR d, vI 0, vI 0, vR tba, vI (Int32.ofNat (3 * j + 1 + 1 + 1)), vI ((Int32.ofNat (4 * j + 1 + 1)) + 1), vI (bits3 (bs.getD (3 * j) 0) (bs.getD (3 * j + 1) 0) (bs.getD (3 * j + 1 + 1) 0))] (od 14 rfl) (v := 1) rfl rfl rfl 119 rfl ?_
      rw [ofNat_succ]
      refine ja w (od 15 rfl) rfl rfl 121 rfl <| jl w (oe 0 rfl) rfl 123 rfl <| jb w 6 (oe 1 rfl) rfl 125 rfl <| s_iushr w (oe 2 rfl) 126 rfl <| jb w 63 (oe 3 rfl) rfl 128 rfl <| jw w (oe 4 rfl) 129 rfl ?_
      refine w_ldC w (ATB.ext w.old) (ix64 (m63 _)).1 rfl (ix64 (m63 _)).2.1 (ix64 (m63 _)).2.2 (oe 5 rfl) 130 rfl ?_
      refine s_i2b w (oe 6 rfl) 131 rfl <| jB w D1 (i := 4 * j + 1 + 1) (ofNat_lt (by omega)) (ofNat_nat (by omega)) (by rw [ofNat_nat (by omega)]; omega) (by rw [room_len (by simp [hel]; omega)]; omega) (nar_byte _) (oe 7 rfl) (Or.inl (List.mem_singleton.mpr rfl)) (List.mem_singleton.mpr rfl) 132 rfl fun T g2 w W2 D2 => ?_
      have As := As.other W2 hne
      have D2 := Arv.stp D2 (by simp [hel]) (by omega)
      refine ja w (oe 8 rfl) rfl rfl 134 rfl <| jl w (oe 9 rfl) rfl 136 rfl <| ji w #[vR a, vR s0, vI 0, vI N, vR d, vI 0, vI 0, vR tba, vI (Int32.ofNat (3 * j + 1 + 1 + 1)), vI ((Int32.ofNat (4 * j + 1 + 1 + 1)) + 1), vI (bits3 (bs.getD (3 * j) 0) (bs.getD (3 * j + 1) 0) (bs.getD (3 * j + 1 + 1) 0))] (oe 10 rfl) (v := 1) rfl rfl rfl 139 rfl ?_
      rw [ofNat_succ]
      refine ja w (oe 11 rfl) rfl rfl 141 rfl <| jl w (oe 12 rfl) rfl 143 rfl <| jb w 63 (oe 13 rfl) rfl 145 rfl <| jw w (oe 14 rfl) 146 rfl <| w_ldC w (ATB.ext w.old) (ix64 (m63 _)).1 rfl (ix64 (m63 _)).2.1 (ix64 (m63 _)).2.2 (oe 15 rfl) 147 rfl <| s_i2b w (of 0 rfl) 148 rfl ?_
      refine jB w D2 (i := 4 * j + 1 + 1 + 1) (ofNat_lt (by omega)) (ofNat_nat (by omega)) (by rw [ofNat_nat (by omega)]; omega) (by rw [room_len (by simp [hel]; omega)]; omega) (nar_byte _) (of 1 rfl) (Or.inl (List.mem_singleton.mpr rfl)) (List.mem_singleton.mpr rfl) 149 rfl fun T g3 w W3 D3 => ?_
      have As := As.other W3 hne
      have D3 := Arv.stp D3 (by simp [hel]) (by omega)
      refine jt w (of 2 rfl) (by decide) 23 rfl ?_
      exact ih (j + 1) _ _ _ (by omega) (Or.inr ⟨_, rfl⟩) w As D3
    · exact absurd (by rw [hN]; exact (ofNat_cmp (by omega) (by omega)).mpr (by omega)) ct3
def rem1 (a : Int32) : List Int32 := [tbl ((a &&& 255) >>> ((2 : Int32) &&& 31)), tbl (((a &&& 255) <<< ((4 : Int32) &&& 31)) &&& 63), 61, 61]
def rem2 (a b : Int32) : List Int32 := [tbl ((a &&& 255) >>> ((2 : Int32) &&& 31)), tbl ((((a &&& 255) <<< ((4 : Int32) &&& 31)) &&& 63) ||| ((b &&& 255) >>> ((4 : Int32) &&& 31))), tbl (((b &&& 255) <<< ((2 : Int32) &&& 31)) &&& 63), 61]
def b64s (bs : List Int32) : List Int32 := encs bs (bs.length / 3) ++ (if bs.length = 49 then [10] else []) ++ (if bs.length % 3 = 1 then rem1 (bs.getD (3 * (bs.length / 3)) 0) else if bs.length % 3 = 2 then rem2 (bs.getD (3 * (bs.length / 3)) 0) (bs.getD (3 * (bs.length / 3) + 1) 0) else [])
theorem Enc.wr {Z : State} {h h' : Heap} {a nl d : Addr} {kn : ClassId} {i : Nat} {v : Value} (F : Enc Z h a nl kn) (W : Wr h h' d i v) (n1 : a ≠ d) (n2 : nl ≠ d) : Enc Z h' a nl kn := by
  obtain ⟨a1, a2, a3, a4, a5, a6⟩ := F
  exact ⟨a1.wr W, a2.other W (Or.inl n1), a3.other W (Or.inl n1), a4.other W (Or.inl n1), a5.other W (Or.inl n1), a6.other W n2⟩
theorem Enc.keep {Z : State} {h h' : Heap} {a nl d : Addr} {kn : ClassId} (F : Enc Z h a nl kn) (K : Keep h h' [d]) (n1 : a ≠ d) (n2 : nl ≠ d) : Enc Z h' a nl kn := by
  obtain ⟨a1, a2, a3, a4, a5, a6⟩ := F
  exact ⟨a1.keep K, a2.keep K (ninS n1 nin0), a3.keep K (ninS n1 nin0), a4.keep K (ninS n1 nin0), a5.keep K (ninS n1 nin0), a6.keep K (ninS n2 nin0)⟩
theorem room_full {cs : List Int32} {M : Nat} (h : cs.length = M) : room_ cs M = low cs := by simp [room_, h]
theorem b64s_len {bs : List Int32} : (b64s bs).length = 4 * (bs.length / 3) + (if bs.length = 49 then 1 else 0) + (if bs.length % 3 = 0 then 0 else 4) := by
  unfold b64s
  rw [List.length_append, List.length_append, encs_len]
  have : bs.length % 3 = 0 ∨ bs.length % 3 = 1 ∨ bs.length % 3 = 2 := by omega
  rcases this with h | h | h <;> simp [h, rem1, rem2] <;> split <;> rfl

def N8 (n : Nat) : Prop := n = 0 ∨ n = 1 ∨ n = 2 ∨ n = 3 ∨ n = 4 ∨ n = 5 ∨ n = 6 ∨ n = 49
theorem b64s_M {bs : List Int32} (hn8 : N8 bs.length) : (b64s bs).length = 0 ∨ (b64s bs).length = 4 ∨ (b64s bs).length = 8 ∨ (b64s bs).length = 69 := by
  rw [b64s_len]; unfold N8 at hn8
  rcases hn8 with hn | hn | hn | hn | hn | hn | hn | hn <;> rw [hn] <;> decide
def dL55al : List (Nat × Instr × Nat) := [(0, .aload_n 0, 1), (1, .getfield 7, 3), (4, .ifCond .eq 9, 3), (13, .getstatic 115, 3), (16, .astore 5, 2), (18, .iload_n 2, 1), (19, .istore 6, 2), (21, .iload_n 3, 1), (22, .iload_n 2, 1), (23, .isub, 1), (24, .iconst 3, 1), (25, .idiv, 1), (26, .iconst 3, 1), (27, .imul, 1), (28, .istore 7, 2), (30, .iload_n 2, 1)]
theorem dL55a : ∀ x ∈ dL55al, decode jdk_2452_method_10_code x.1 = .ok x.2 := by decide +kernel
def dL55bl : List (Nat × Instr × Nat) := [(31, .iload 7, 2), (33, .iadd, 1), (34, .istore 8, 2), (36, .aload_n 0, 1), (37, .getfield 17, 3), (40, .ifCond .le 26, 3), (43, .iload 7, 2), (45, .aload_n 0, 1), (46, .getfield 17, 3), (49, .iconst 4, 1), (50, .idiv, 1), (51, .iconst 3, 1), (52, .imul, 1), (53, .if_icmp .le 13, 3), (66, .iconst 0, 1), (67, .istore 9, 2)]
theorem dL55b : ∀ x ∈ dL55bl, decode jdk_2452_method_10_code x.1 = .ok x.2 := by decide +kernel
def dL55cl : List (Nat × Instr × Nat) := [(69, .iload 6, 2), (71, .iload 8, 2), (73, .if_icmp .ge 116, 3), (76, .iload 6, 2), (78, .iload 7, 2), (80, .iadd, 1), (81, .iload 8, 2), (83, .invokestatic 124, 3), (86, .istore 10, 2), (88, .aload_n 0, 1), (89, .aload_n 1, 1), (90, .iload 6, 2), (92, .iload 10, 2), (94, .aload 4, 2), (96, .iload 9, 2), (98, .aload_n 0, 1)]
theorem dL55c : ∀ x ∈ dL55cl, decode jdk_2452_method_10_code x.1 = .ok x.2 := by decide +kernel
def dL55dl : List (Nat × Instr × Nat) := [(99, .getfield 7, 3), (102, .invokevirtual 127, 3), (105, .iload 10, 2), (107, .iload 6, 2), (109, .isub, 1), (110, .iconst 3, 1), (111, .idiv, 1), (112, .iconst 4, 1), (113, .imul, 1), (114, .istore 11, 2), (116, .iload 9, 2), (118, .iload 11, 2), (120, .iadd, 1), (121, .istore 9, 2), (123, .iload 10, 2), (125, .istore 6, 2)]
theorem dL55d : ∀ x ∈ dL55dl, decode jdk_2452_method_10_code x.1 = .ok x.2 := by decide +kernel
def dL55el : List (Nat × Instr × Nat) := [(127, .iload 11, 2), (129, .aload_n 0, 1), (130, .getfield 17, 3), (133, .if_icmp .ne 53, 3), (136, .iload 6, 2), (138, .iload_n 3, 1), (139, .if_icmp .ge 47, 3), (142, .aload_n 0, 1), (143, .getfield 13, 3), (146, .astore 12, 2), (148, .aload 12, 2), (150, .arraylength, 1), (151, .istore 13, 2), (153, .iconst 0, 1), (154, .istore 14, 2), (156, .iload 14, 2)]
theorem dL55e : ∀ x ∈ dL55el, decode jdk_2452_method_10_code x.1 = .ok x.2 := by decide +kernel
def dL55fl : List (Nat × Instr × Nat) := [(158, .iload 13, 2), (160, .if_icmp .ge 26, 3), (163, .aload 12, 2), (165, .iload 14, 2), (167, .baload, 1), (168, .istore 15, 2), (170, .aload 4, 2), (172, .iload 9, 2), (174, .iinc 9 1, 3), (177, .iload 15, 2), (179, .bastore, 1), (180, .iinc 14 1, 3), (183, .goto (-27), 3), (186, .goto (-117), 3), (189, .iload 6, 2), (191, .iload_n 3, 1)]
theorem dL55f : ∀ x ∈ dL55fl, decode jdk_2452_method_10_code x.1 = .ok x.2 := by decide +kernel
def dL55gl : List (Nat × Instr × Nat) := [(192, .if_icmp .ge 160, 3), (195, .aload_n 1, 1), (196, .iload 6, 2), (198, .iinc 6 1, 3), (201, .baload, 1), (202, .sipush 255, 3), (205, .iand, 1), (206, .istore 10, 2), (208, .aload 4, 2), (210, .iload 9, 2), (212, .iinc 9 1, 3), (215, .aload 5, 2), (217, .iload 10, 2), (219, .iconst 2, 1), (220, .ishr, 1), (221, .caload, 1)]
theorem dL55g : ∀ x ∈ dL55gl, decode jdk_2452_method_10_code x.1 = .ok x.2 := by decide +kernel
def dL55hl : List (Nat × Instr × Nat) := [(222, .i2b, 1), (223, .bastore, 1), (224, .iload 6, 2), (226, .iload_n 3, 1), (227, .if_icmp .ne 52, 3), (230, .aload 4, 2), (232, .iload 9, 2), (234, .iinc 9 1, 3), (237, .aload 5, 2), (239, .iload 10, 2), (241, .iconst 4, 1), (242, .ishl, 1), (243, .bipush 63, 2), (245, .iand, 1), (246, .caload, 1), (247, .i2b, 1)]
theorem dL55h : ∀ x ∈ dL55hl, decode jdk_2452_method_10_code x.1 = .ok x.2 := by decide +kernel
def dL55il : List (Nat × Instr × Nat) := [(248, .bastore, 1), (249, .aload_n 0, 1), (250, .getfield 21, 3), (253, .ifCond .eq 99, 3), (256, .aload 4, 2), (258, .iload 9, 2), (260, .iinc 9 1, 3), (263, .bipush 61, 2), (265, .bastore, 1), (266, .aload 4, 2), (268, .iload 9, 2), (270, .iinc 9 1, 3), (273, .bipush 61, 2), (275, .bastore, 1), (276, .goto 76, 3), (279, .aload_n 1, 1)]
theorem dL55i : ∀ x ∈ dL55il, decode jdk_2452_method_10_code x.1 = .ok x.2 := by decide +kernel
def dL55jl : List (Nat × Instr × Nat) := [(280, .iload 6, 2), (282, .iinc 6 1, 3), (285, .baload, 1), (286, .sipush 255, 3), (289, .iand, 1), (290, .istore 11, 2), (292, .aload 4, 2), (294, .iload 9, 2), (296, .iinc 9 1, 3), (299, .aload 5, 2), (301, .iload 10, 2), (303, .iconst 4, 1), (304, .ishl, 1), (305, .bipush 63, 2), (307, .iand, 1), (308, .iload 11, 2)]
theorem dL55j : ∀ x ∈ dL55jl, decode jdk_2452_method_10_code x.1 = .ok x.2 := by decide +kernel
def dL55kl : List (Nat × Instr × Nat) := [(310, .iconst 4, 1), (311, .ishr, 1), (312, .ior, 1), (313, .caload, 1), (314, .i2b, 1), (315, .bastore, 1), (316, .aload 4, 2), (318, .iload 9, 2), (320, .iinc 9 1, 3), (323, .aload 5, 2), (325, .iload 11, 2), (327, .iconst 2, 1), (328, .ishl, 1), (329, .bipush 63, 2), (331, .iand, 1), (332, .caload, 1)]
theorem dL55k : ∀ x ∈ dL55kl, decode jdk_2452_method_10_code x.1 = .ok x.2 := by decide +kernel
def dL55ll : List (Nat × Instr × Nat) := [(333, .i2b, 1), (334, .bastore, 1), (335, .aload_n 0, 1), (336, .getfield 21, 3), (339, .ifCond .eq 13, 3), (342, .aload 4, 2), (344, .iload 9, 2), (346, .iinc 9 1, 3), (349, .bipush 61, 2), (351, .bastore, 1), (352, .iload 9, 2), (354, .ireturn, 1)]
theorem dL55l : ∀ x ∈ dL55ll, decode jdk_2452_method_10_code x.1 = .ok x.2 := by decide +kernel
theorem rm_en0 (G : Gl Z a0 zc fm tba ktb fba kfb) (h : Heap) (a : Addr) (s0 : Addr) (N : Int32) (d : Addr) (nl : Addr) (kn ks kd : ClassId) (bs : List Int32) (hn8 : N8 bs.length) (hN : N = Int32.ofNat bs.length) (hne : s0 ≠ d) (n1 : a ≠ d) (n2 : nl ≠ d) (En : Enc Z h a nl kn) (As : Arv Z h s0 ks .byte (Int32.ofNat bs.length) (bs.map Value.int) (.int 0)) (Ad0 : Arv Z h d kd .byte (Int32.ofNat (b64s bs).length) (List.replicate (b64s bs).length (.int 0)) (.int 0)) :
    Met l Z consts_1 mN55 jdk_2452_method_10_code 16 (some .int) (mkR 1 0 0 22) #[.ref a, .ref s0, .int 0, .int N, .ref d] h [d] [d] (fun v h' => v = some (.int (Int32.ofNat (b64s bs).length)) ∧ Arv Z h' d kd .byte (Int32.ofNat (b64s bs).length) (low (b64s bs)) (.int 0)) := by
  have G0 := G
  obtain ⟨hw, hEL, -, -, -, -, -, -, -, -, -, STB, ATB⟩ := G
  refine Met.of (plainFor_of_name pn_8) ?_
  intro p e s m below meth c T hnm hret hlk hby hml hs w; have oa := @dat _ _ dL55a _ hby; have ob := @dat _ _ dL55b _ hby; have oc := @dat _ _ dL55c _ hby; have od := @dat _ _ dL55d _ hby; have oe := @dat _ _ dL55e _ hby; have of := @dat _ _ dL55f _ hby; have og := @dat _ _ dL55g _ hby; have oh := @dat _ _ dL55h _ hby; have oi := @dat _ _ dL55i _ hby; have oj := @dat _ _ dL55j _ hby; have ok := @dat _ _ dL55k _ hby; have ol := @dat _ _ dL55l _ hby
  refine Run.cast (efL (L := #[vR a, vR s0, vI 0, vI N, vR d, .unset, .unset, .unset, .unset, .unset, .unset, .unset, .unset, .unset, .unset, .unset]) (by simp [argsToLocals, Value.category, vI, vR, vJ])) ?_
  unfold N8 at hn8
  rcases hn8 with hn | hn | hn | hn | hn | hn | hn | hn
  · obtain rfl : N = 0 := by rw [hN, hn]; rfl
    have el : (b64s bs).length = 0 := by rw [b64s_len, hn]; rfl
    rw [el] at Ad0
    have Ad : Arv Z h d kd .byte (Int32.ofNat 0) (room_ (encs bs 0) 0) (.int 0) := by show Arv Z h d kd .byte (Int32.ofNat 0) (room_ [] 0) (.int 0); rw [room_nil]; exact Ad0
    refine jm w (oa 0 rfl) rfl rfl 1 rfl <| jF w (Kw hw 56 rfl) Via.refl En.2.1 (oa 1 rfl) 4 rfl fun T w => ?_
    refine s_if_eq w (oa 2 rfl) (by decide) 7 rfl 13 rfl (fun q => absurd q (by decide)) (fun _ => ?_)
    refine w_getS w (Kw hw 90 rfl) Via.refl (STB.ext w.old) (oa 3 rfl) 16 rfl fun T w => ?_
    refine s_astore w #[vR a, vR s0, vI 0, vI 0, vR d, vR tba, .unset, .unset, .unset, .unset, .unset, .unset, .unset, .unset, .unset, .unset] (oa 4 rfl) rfl rfl 18 rfl <| jn w (oa 5 rfl) rfl 19 rfl <| js w #[vR a, vR s0, vI 0, vI 0, vR d, vR tba, vI 0, .unset, .unset, .unset, .unset, .unset, .unset, .unset, .unset, .unset] (oa 6 rfl) rfl 21 rfl <| jn w (oa 7 rfl) rfl 22 rfl <| jn w (oa 8 rfl) rfl 23 rfl <| s_isub w (oa 9 rfl) 24 rfl ?_
    rw [show ((0 - 0) : Int32) = 0 from by decide]
    refine jc w 3 (oa 10 rfl) rfl 25 rfl <| s_idiv w (oa 11 rfl) (by decide) 26 rfl ?_
    rw [show ((0 / 3) : Int32) = 0 from by decide]
    refine jc w 3 (oa 12 rfl) rfl 27 rfl <| s_imul w (oa 13 rfl) 28 rfl ?_
    rw [show ((0 * 3) : Int32) = 0 from by decide]
    refine js w #[vR a, vR s0, vI 0, vI 0, vR d, vR tba, vI 0, vI 0, .unset, .unset, .unset, .unset, .unset, .unset, .unset, .unset] (oa 14 rfl) rfl 30 rfl <| jn w (oa 15 rfl) rfl 31 rfl <| jl w (ob 0 rfl) rfl 33 rfl <| jp w (ob 1 rfl) 34 rfl ?_
    rw [show ((0 + 0) : Int32) = 0 from by decide]
    refine js w #[vR a, vR s0, vI 0, vI 0, vR d, vR tba, vI 0, vI 0, vI 0, .unset, .unset, .unset, .unset, .unset, .unset, .unset] (ob 2 rfl) rfl 36 rfl <| jm w (ob 3 rfl) rfl rfl 37 rfl <| jF w (Kw hw 60 rfl) Via.refl En.2.2.2.1 (ob 4 rfl) 40 rfl fun T w => ?_
    refine s_if_le w (ob 5 rfl) (by decide) 43 rfl 66 rfl (fun _ => ?_) (fun q => absurd q (by decide))
    refine jl w (ob 6 rfl) rfl 45 rfl <| jm w (ob 7 rfl) rfl rfl 46 rfl <| jF w (Kw hw 60 rfl) Via.refl En.2.2.2.1 (ob 8 rfl) 49 rfl fun T w => ?_
    refine jc w 4 (ob 9 rfl) rfl 50 rfl <| s_idiv w (ob 10 rfl) (by decide) 51 rfl ?_
    rw [show ((64 / 4) : Int32) = 16 from by decide]
    refine jc w 3 (ob 11 rfl) rfl 52 rfl <| s_imul w (ob 12 rfl) 53 rfl ?_
    rw [show ((16 * 3) : Int32) = 48 from by decide]
    refine je w (ob 13 rfl) (by decide) 56 rfl 66 rfl (fun q => absurd q (by decide)) (fun _ => ?_)
    refine jc w 0 (ob 14 rfl) rfl 67 rfl <| js w #[vR a, vR s0, vI 0, vI 0, vR d, vR tba, vI 0, vI 0, vI 0, vI 0, .unset, .unset, .unset, .unset, .unset, .unset] (ob 15 rfl) rfl 69 rfl <| jl w (oc 0 rfl) rfl 71 rfl <| jl w (oc 1 rfl) rfl 73 rfl <| jg w (oc 2 rfl) (by decide) 76 rfl 189 rfl (fun q => absurd q (by decide)) (fun _ => ?_)
    refine jl w (of 14 rfl) rfl 191 rfl <| jn w (of 15 rfl) rfl 192 rfl <| jg w (og 0 rfl) (by decide) 195 rfl 352 rfl (fun q => absurd q (by decide)) (fun _ => ?_)
    refine jl w (ol 10 rfl) rfl 354 rfl ?_
    have eo : (encs bs 0) = b64s bs := by simp [b64s, hn, rem1, rem2]
    rw [eo, room_full el] at Ad
    exact w_ireturn w hEL hs hlk hret rfl (Or.inl rfl) (ol 11 rfl) (by decide) (by decide) ⟨by rw [el]; rfl, by rw [el]; exact Ad⟩
  · obtain rfl : N = 1 := by rw [hN, hn]; rfl
    have el : (b64s bs).length = 4 := by rw [b64s_len, hn]; rfl
    rw [el] at Ad0
    have Ad : Arv Z h d kd .byte (Int32.ofNat 4) (room_ (encs bs 0) 4) (.int 0) := by show Arv Z h d kd .byte (Int32.ofNat 4) (room_ [] 4) (.int 0); rw [room_nil]; exact Ad0
    refine jm w (oa 0 rfl) rfl rfl 1 rfl <| jF w (Kw hw 56 rfl) Via.refl En.2.1 (oa 1 rfl) 4 rfl fun T w => ?_
    refine s_if_eq w (oa 2 rfl) (by decide) 7 rfl 13 rfl (fun q => absurd q (by decide)) (fun _ => ?_)
    refine w_getS w (Kw hw 90 rfl) Via.refl (STB.ext w.old) (oa 3 rfl) 16 rfl fun T w => ?_
    refine s_astore w #[vR a, vR s0, vI 0, vI 1, vR d, vR tba, .unset, .unset, .unset, .unset, .unset, .unset, .unset, .unset, .unset, .unset] (oa 4 rfl) rfl rfl 18 rfl <| jn w (oa 5 rfl) rfl 19 rfl <| js w #[vR a, vR s0, vI 0, vI 1, vR d, vR tba, vI 0, .unset, .unset, .unset, .unset, .unset, .unset, .unset, .unset, .unset] (oa 6 rfl) rfl 21 rfl <| jn w (oa 7 rfl) rfl 22 rfl <| jn w (oa 8 rfl) rfl 23 rfl <| s_isub w (oa 9 rfl) 24 rfl ?_
    rw [show ((1 - 0) : Int32) = 1 from by decide]
    refine jc w 3 (oa 10 rfl) rfl 25 rfl <| s_idiv w (oa 11 rfl) (by decide) 26 rfl ?_
    rw [show ((1 / 3) : Int32) = 0 from by decide]
    refine jc w 3 (oa 12 rfl) rfl 27 rfl <| s_imul w (oa 13 rfl) 28 rfl ?_
    rw [show ((0 * 3) : Int32) = 0 from by decide]
    refine js w #[vR a, vR s0, vI 0, vI 1, vR d, vR tba, vI 0, vI 0, .unset, .unset, .unset, .unset, .unset, .unset, .unset, .unset] (oa 14 rfl) rfl 30 rfl <| jn w (oa 15 rfl) rfl 31 rfl <| jl w (ob 0 rfl) rfl 33 rfl <| jp w (ob 1 rfl) 34 rfl ?_
    rw [show ((0 + 0) : Int32) = 0 from by decide]
    refine js w #[vR a, vR s0, vI 0, vI 1, vR d, vR tba, vI 0, vI 0, vI 0, .unset, .unset, .unset, .unset, .unset, .unset, .unset] (ob 2 rfl) rfl 36 rfl <| jm w (ob 3 rfl) rfl rfl 37 rfl <| jF w (Kw hw 60 rfl) Via.refl En.2.2.2.1 (ob 4 rfl) 40 rfl fun T w => ?_
    refine s_if_le w (ob 5 rfl) (by decide) 43 rfl 66 rfl (fun _ => ?_) (fun q => absurd q (by decide))
    refine jl w (ob 6 rfl) rfl 45 rfl <| jm w (ob 7 rfl) rfl rfl 46 rfl <| jF w (Kw hw 60 rfl) Via.refl En.2.2.2.1 (ob 8 rfl) 49 rfl fun T w => ?_
    refine jc w 4 (ob 9 rfl) rfl 50 rfl <| s_idiv w (ob 10 rfl) (by decide) 51 rfl ?_
    rw [show ((64 / 4) : Int32) = 16 from by decide]
    refine jc w 3 (ob 11 rfl) rfl 52 rfl <| s_imul w (ob 12 rfl) 53 rfl ?_
    rw [show ((16 * 3) : Int32) = 48 from by decide]
    refine je w (ob 13 rfl) (by decide) 56 rfl 66 rfl (fun q => absurd q (by decide)) (fun _ => ?_)
    refine jc w 0 (ob 14 rfl) rfl 67 rfl <| js w #[vR a, vR s0, vI 0, vI 1, vR d, vR tba, vI 0, vI 0, vI 0, vI 0, .unset, .unset, .unset, .unset, .unset, .unset] (ob 15 rfl) rfl 69 rfl <| jl w (oc 0 rfl) rfl 71 rfl <| jl w (oc 1 rfl) rfl 73 rfl <| jg w (oc 2 rfl) (by decide) 76 rfl 189 rfl (fun q => absurd q (by decide)) (fun _ => ?_)
    refine jl w (of 14 rfl) rfl 191 rfl <| jn w (of 15 rfl) rfl 192 rfl <| jg w (og 0 rfl) (by decide) 195 rfl 352 rfl (fun _ => ?_) (fun q => absurd q (by decide))
    refine jm w (og 1 rfl) rfl rfl 196 rfl <| jl w (og 2 rfl) rfl 198 rfl <| ji w #[vR a, vR s0, vI 0, vI 1, vR d, vR tba, vI (0 + 1), vI 0, vI 0, vI 0, .unset, .unset, .unset, .unset, .unset, .unset] (og 3 rfl) (v := 1) rfl rfl rfl 201 rfl ?_
    rw [show ((0 + 1) : Int32) = 1 from by decide]
    refine w_ldB w As (i := 0) (by decide) rfl (by rw [hn]; decide) (mapI_getD (by omega)) (og 4 rfl) 202 rfl ?_
    refine s_sipush w 255 (og 5 rfl) rfl 205 rfl <| jw w (og 6 rfl) 206 rfl <| js w #[vR a, vR s0, vI 0, vI 1, vR d, vR tba, vI 1, vI 0, vI 0, vI 0, vI ((bs.getD 0 0) &&& 255), .unset, .unset, .unset, .unset, .unset] (og 7 rfl) rfl 208 rfl <| ja w (og 8 rfl) rfl rfl 210 rfl <| jl w (og 9 rfl) rfl 212 rfl <| ji w #[vR a, vR s0, vI 0, vI 1, vR d, vR tba, vI 1, vI 0, vI 0, vI (0 + 1), vI ((bs.getD 0 0) &&& 255), .unset, .unset, .unset, .unset, .unset] (og 10 rfl) (v := 1) rfl rfl rfl 215 rfl ?_
    rw [show ((0 + 1) : Int32) = 1 from by decide]
    refine ja w (og 11 rfl) rfl rfl 217 rfl <| jl w (og 12 rfl) rfl 219 rfl <| jc w 2 (og 13 rfl) rfl 220 rfl <| s_ishr w (og 14 rfl) 221 rfl <| w_ldC w (ATB.ext w.old) (ix64 (sh2 _)).1 rfl (ix64 (sh2 _)).2.1 (ix64 (sh2 _)).2.2 (og 15 rfl) 222 rfl <| s_i2b w (oh 0 rfl) 223 rfl ?_
    refine jB w Ad (i := 0) (by decide) rfl (by decide) (by rw [room_len (by simp [encs_len])]; decide) (nar_byte _) (oh 1 rfl) (Or.inl (List.mem_singleton.mpr rfl)) (List.mem_singleton.mpr rfl) 224 rfl fun T g0 w W0 Ad => ?_
    have As := As.other W0 hne
    have En := En.wr W0 n1 n2
    have Ad := Arv.stp (c := (tbl (((bs.getD 0 0) &&& 255) >>> ((2 : Int32) &&& 31)))) Ad (by simp [encs_len]) (by decide)
    refine jl w (oh 2 rfl) rfl 226 rfl <| jn w (oh 3 rfl) rfl 227 rfl <| jx w (oh 4 rfl) (by decide) 230 rfl 279 rfl (fun _ => ?_) (fun q => absurd q (by decide))
    refine ja w (oh 5 rfl) rfl rfl 232 rfl <| jl w (oh 6 rfl) rfl 234 rfl <| ji w #[vR a, vR s0, vI 0, vI 1, vR d, vR tba, vI 1, vI 0, vI 0, vI (1 + 1), vI ((bs.getD 0 0) &&& 255), .unset, .unset, .unset, .unset, .unset] (oh 7 rfl) (v := 1) rfl rfl rfl 237 rfl ?_
    rw [show ((1 + 1) : Int32) = 2 from by decide]
    refine ja w (oh 8 rfl) rfl rfl 239 rfl <| jl w (oh 9 rfl) rfl 241 rfl <| jc w 4 (oh 10 rfl) rfl 242 rfl <| s_ishl w (oh 11 rfl) 243 rfl <| jb w 63 (oh 12 rfl) rfl 245 rfl <| jw w (oh 13 rfl) 246 rfl ?_
    refine w_ldC w (ATB.ext w.old) (ix64 (m63 _)).1 rfl (ix64 (m63 _)).2.1 (ix64 (m63 _)).2.2 (oh 14 rfl) 247 rfl ?_
    refine s_i2b w (oh 15 rfl) 248 rfl <| jB w Ad (i := 1) (by decide) rfl (by decide) (by rw [room_len (by simp [encs_len])]; decide) (nar_byte _) (oi 0 rfl) (Or.inl (List.mem_singleton.mpr rfl)) (List.mem_singleton.mpr rfl) 249 rfl fun T g1 w W1 Ad => ?_
    have As := As.other W1 hne
    have En := En.wr W1 n1 n2
    have Ad := Arv.stp (c := (tbl ((((bs.getD 0 0) &&& 255) <<< ((4 : Int32) &&& 31)) &&& 63))) Ad (by simp [encs_len]) (by decide)
    refine jm w (oi 1 rfl) rfl rfl 250 rfl <| jF w (Kw hw 62 rfl) Via.refl En.2.2.2.2.1 (oi 2 rfl) 253 rfl fun T w => ?_
    refine s_if_eq w (oi 3 rfl) (by decide) 256 rfl 352 rfl (fun _ => ?_) (fun q => absurd q (by decide))
    refine ja w (oi 4 rfl) rfl rfl 258 rfl <| jl w (oi 5 rfl) rfl 260 rfl <| ji w #[vR a, vR s0, vI 0, vI 1, vR d, vR tba, vI 1, vI 0, vI 0, vI (2 + 1), vI ((bs.getD 0 0) &&& 255), .unset, .unset, .unset, .unset, .unset] (oi 6 rfl) (v := 1) rfl rfl rfl 263 rfl ?_
    rw [show ((2 + 1) : Int32) = 3 from by decide]
    refine jb w 61 (oi 7 rfl) rfl 265 rfl <| jB w Ad (i := 2) (by decide) rfl (by decide) (by rw [room_len (by simp [encs_len])]; decide) (x' := (61 : Int32).toInt8.toInt32) rfl (oi 8 rfl) (Or.inl (List.mem_singleton.mpr rfl)) (List.mem_singleton.mpr rfl) 266 rfl fun T g2 w W2 Ad => ?_
    have As := As.other W2 hne
    have En := En.wr W2 n1 n2
    have Ad := Arv.stp (c := 61) Ad (by simp [encs_len]) (by decide)
    refine ja w (oi 9 rfl) rfl rfl 268 rfl <| jl w (oi 10 rfl) rfl 270 rfl <| ji w #[vR a, vR s0, vI 0, vI 1, vR d, vR tba, vI 1, vI 0, vI 0, vI (3 + 1), vI ((bs.getD 0 0) &&& 255), .unset, .unset, .unset, .unset, .unset] (oi 11 rfl) (v := 1) rfl rfl rfl 273 rfl ?_
    rw [show ((3 + 1) : Int32) = 4 from by decide]
    refine jb w 61 (oi 12 rfl) rfl 275 rfl <| jB w Ad (i := 3) (by decide) rfl (by decide) (by rw [room_len (by simp [encs_len])]; decide) (x' := (61 : Int32).toInt8.toInt32) rfl (oi 13 rfl) (Or.inl (List.mem_singleton.mpr rfl)) (List.mem_singleton.mpr rfl) 276 rfl fun T g3 w W3 Ad => ?_
    have As := As.other W3 hne
    have En := En.wr W3 n1 n2
    have Ad := Arv.stp (c := 61) Ad (by simp [encs_len]) (by decide)
    refine jt w (oi 14 rfl) (by decide) 352 rfl <| jl w (ol 10 rfl) rfl 354 rfl ?_
    have eo : (((((encs bs 0) ++ [(tbl (((bs.getD 0 0) &&& 255) >>> ((2 : Int32) &&& 31)))]) ++ [(tbl ((((bs.getD 0 0) &&& 255) <<< ((4 : Int32) &&& 31)) &&& 63))]) ++ [61]) ++ [61]) = b64s bs := by simp [b64s, hn, rem1, rem2]
    rw [eo, room_full el] at Ad
    exact w_ireturn w hEL hs hlk hret rfl (Or.inl rfl) (ol 11 rfl) (by decide) (by decide) ⟨by rw [el]; rfl, by rw [el]; exact Ad⟩
  · obtain rfl : N = 2 := by rw [hN, hn]; rfl
    have el : (b64s bs).length = 4 := by rw [b64s_len, hn]; rfl
    rw [el] at Ad0
    have Ad : Arv Z h d kd .byte (Int32.ofNat 4) (room_ (encs bs 0) 4) (.int 0) := by show Arv Z h d kd .byte (Int32.ofNat 4) (room_ [] 4) (.int 0); rw [room_nil]; exact Ad0
    refine jm w (oa 0 rfl) rfl rfl 1 rfl <| jF w (Kw hw 56 rfl) Via.refl En.2.1 (oa 1 rfl) 4 rfl fun T w => ?_
    refine s_if_eq w (oa 2 rfl) (by decide) 7 rfl 13 rfl (fun q => absurd q (by decide)) (fun _ => ?_)
    refine w_getS w (Kw hw 90 rfl) Via.refl (STB.ext w.old) (oa 3 rfl) 16 rfl fun T w => ?_
    refine s_astore w #[vR a, vR s0, vI 0, vI 2, vR d, vR tba, .unset, .unset, .unset, .unset, .unset, .unset, .unset, .unset, .unset, .unset] (oa 4 rfl) rfl rfl 18 rfl <| jn w (oa 5 rfl) rfl 19 rfl <| js w #[vR a, vR s0, vI 0, vI 2, vR d, vR tba, vI 0, .unset, .unset, .unset, .unset, .unset, .unset, .unset, .unset, .unset] (oa 6 rfl) rfl 21 rfl <| jn w (oa 7 rfl) rfl 22 rfl <| jn w (oa 8 rfl) rfl 23 rfl <| s_isub w (oa 9 rfl) 24 rfl ?_
    rw [show ((2 - 0) : Int32) = 2 from by decide]
    refine jc w 3 (oa 10 rfl) rfl 25 rfl <| s_idiv w (oa 11 rfl) (by decide) 26 rfl ?_
    rw [show ((2 / 3) : Int32) = 0 from by decide]
    refine jc w 3 (oa 12 rfl) rfl 27 rfl <| s_imul w (oa 13 rfl) 28 rfl ?_
    rw [show ((0 * 3) : Int32) = 0 from by decide]
    refine js w #[vR a, vR s0, vI 0, vI 2, vR d, vR tba, vI 0, vI 0, .unset, .unset, .unset, .unset, .unset, .unset, .unset, .unset] (oa 14 rfl) rfl 30 rfl <| jn w (oa 15 rfl) rfl 31 rfl <| jl w (ob 0 rfl) rfl 33 rfl <| jp w (ob 1 rfl) 34 rfl ?_
    rw [show ((0 + 0) : Int32) = 0 from by decide]
    refine js w #[vR a, vR s0, vI 0, vI 2, vR d, vR tba, vI 0, vI 0, vI 0, .unset, .unset, .unset, .unset, .unset, .unset, .unset] (ob 2 rfl) rfl 36 rfl <| jm w (ob 3 rfl) rfl rfl 37 rfl <| jF w (Kw hw 60 rfl) Via.refl En.2.2.2.1 (ob 4 rfl) 40 rfl fun T w => ?_
    refine s_if_le w (ob 5 rfl) (by decide) 43 rfl 66 rfl (fun _ => ?_) (fun q => absurd q (by decide))
    refine jl w (ob 6 rfl) rfl 45 rfl <| jm w (ob 7 rfl) rfl rfl 46 rfl <| jF w (Kw hw 60 rfl) Via.refl En.2.2.2.1 (ob 8 rfl) 49 rfl fun T w => ?_
    refine jc w 4 (ob 9 rfl) rfl 50 rfl <| s_idiv w (ob 10 rfl) (by decide) 51 rfl ?_
    rw [show ((64 / 4) : Int32) = 16 from by decide]
    refine jc w 3 (ob 11 rfl) rfl 52 rfl <| s_imul w (ob 12 rfl) 53 rfl ?_
    rw [show ((16 * 3) : Int32) = 48 from by decide]
    refine je w (ob 13 rfl) (by decide) 56 rfl 66 rfl (fun q => absurd q (by decide)) (fun _ => ?_)
    refine jc w 0 (ob 14 rfl) rfl 67 rfl <| js w #[vR a, vR s0, vI 0, vI 2, vR d, vR tba, vI 0, vI 0, vI 0, vI 0, .unset, .unset, .unset, .unset, .unset, .unset] (ob 15 rfl) rfl 69 rfl <| jl w (oc 0 rfl) rfl 71 rfl <| jl w (oc 1 rfl) rfl 73 rfl <| jg w (oc 2 rfl) (by decide) 76 rfl 189 rfl (fun q => absurd q (by decide)) (fun _ => ?_)
    refine jl w (of 14 rfl) rfl 191 rfl <| jn w (of 15 rfl) rfl 192 rfl <| jg w (og 0 rfl) (by decide) 195 rfl 352 rfl (fun _ => ?_) (fun q => absurd q (by decide))
    refine jm w (og 1 rfl) rfl rfl 196 rfl <| jl w (og 2 rfl) rfl 198 rfl <| ji w #[vR a, vR s0, vI 0, vI 2, vR d, vR tba, vI (0 + 1), vI 0, vI 0, vI 0, .unset, .unset, .unset, .unset, .unset, .unset] (og 3 rfl) (v := 1) rfl rfl rfl 201 rfl ?_
    rw [show ((0 + 1) : Int32) = 1 from by decide]
    refine w_ldB w As (i := 0) (by decide) rfl (by rw [hn]; decide) (mapI_getD (by omega)) (og 4 rfl) 202 rfl ?_
    refine s_sipush w 255 (og 5 rfl) rfl 205 rfl <| jw w (og 6 rfl) 206 rfl <| js w #[vR a, vR s0, vI 0, vI 2, vR d, vR tba, vI 1, vI 0, vI 0, vI 0, vI ((bs.getD 0 0) &&& 255), .unset, .unset, .unset, .unset, .unset] (og 7 rfl) rfl 208 rfl <| ja w (og 8 rfl) rfl rfl 210 rfl <| jl w (og 9 rfl) rfl 212 rfl <| ji w #[vR a, vR s0, vI 0, vI 2, vR d, vR tba, vI 1, vI 0, vI 0, vI (0 + 1), vI ((bs.getD 0 0) &&& 255), .unset, .unset, .unset, .unset, .unset] (og 10 rfl) (v := 1) rfl rfl rfl 215 rfl ?_
    rw [show ((0 + 1) : Int32) = 1 from by decide]
    refine ja w (og 11 rfl) rfl rfl 217 rfl <| jl w (og 12 rfl) rfl 219 rfl <| jc w 2 (og 13 rfl) rfl 220 rfl <| s_ishr w (og 14 rfl) 221 rfl <| w_ldC w (ATB.ext w.old) (ix64 (sh2 _)).1 rfl (ix64 (sh2 _)).2.1 (ix64 (sh2 _)).2.2 (og 15 rfl) 222 rfl <| s_i2b w (oh 0 rfl) 223 rfl ?_
    refine jB w Ad (i := 0) (by decide) rfl (by decide) (by rw [room_len (by simp [encs_len])]; decide) (nar_byte _) (oh 1 rfl) (Or.inl (List.mem_singleton.mpr rfl)) (List.mem_singleton.mpr rfl) 224 rfl fun T g0 w W0 Ad => ?_
    have As := As.other W0 hne
    have En := En.wr W0 n1 n2
    have Ad := Arv.stp (c := (tbl (((bs.getD 0 0) &&& 255) >>> ((2 : Int32) &&& 31)))) Ad (by simp [encs_len]) (by decide)
    refine jl w (oh 2 rfl) rfl 226 rfl <| jn w (oh 3 rfl) rfl 227 rfl <| jx w (oh 4 rfl) (by decide) 230 rfl 279 rfl (fun q => absurd q (by decide)) (fun _ => ?_)
    refine jm w (oi 15 rfl) rfl rfl 280 rfl <| jl w (oj 0 rfl) rfl 282 rfl <| ji w #[vR a, vR s0, vI 0, vI 2, vR d, vR tba, vI (1 + 1), vI 0, vI 0, vI 1, vI ((bs.getD 0 0) &&& 255), .unset, .unset, .unset, .unset, .unset] (oj 1 rfl) (v := 1) rfl rfl rfl 285 rfl ?_
    rw [show ((1 + 1) : Int32) = 2 from by decide]
    refine w_ldB w As (i := 1) (by decide) rfl (by rw [hn]; decide) (mapI_getD (by omega)) (oj 2 rfl) 286 rfl ?_
    refine s_sipush w 255 (oj 3 rfl) rfl 289 rfl <| jw w (oj 4 rfl) 290 rfl <| js w #[vR a, vR s0, vI 0, vI 2, vR d, vR tba, vI 2, vI 0, vI 0, vI 1, vI ((bs.getD 0 0) &&& 255), vI ((bs.getD 1 0) &&& 255), .unset, .unset, .unset, .unset] (oj 5 rfl) rfl 292 rfl <| ja w (oj 6 rfl) rfl rfl 294 rfl <| jl w (oj 7 rfl) rfl 296 rfl <| ji w #[vR a, vR s0, vI 0, vI 2, vR d, vR tba, vI 2, vI 0, vI 0, vI (1 + 1), vI ((bs.getD 0 0) &&& 255), vI ((bs.getD 1 0) &&& 255), .unset, .unset, .unset, .unset] (oj 8 rfl) (v := 1) rfl rfl rfl 299 rfl ?_
    rw [show ((1 + 1) : Int32) = 2 from by decide]
    refine ja w (oj 9 rfl) rfl rfl 301 rfl <| jl w (oj 10 rfl) rfl 303 rfl <| jc w 4 (oj 11 rfl) rfl 304 rfl <| s_ishl w (oj 12 rfl) 305 rfl <| jb w 63 (oj 13 rfl) rfl 307 rfl <| jw w (oj 14 rfl) 308 rfl ?_
    refine jl w (oj 15 rfl) rfl 310 rfl <| jc w 4 (ok 0 rfl) rfl 311 rfl <| s_ishr w (ok 1 rfl) 312 rfl <| s_ior w (ok 2 rfl) 313 rfl <| w_ldC w (ATB.ext w.old) (ix64 (orix _ _)).1 rfl (ix64 (orix _ _)).2.1 (ix64 (orix _ _)).2.2 (ok 3 rfl) 314 rfl <| s_i2b w (ok 4 rfl) 315 rfl ?_
    refine jB w Ad (i := 1) (by decide) rfl (by decide) (by rw [room_len (by simp [encs_len])]; decide) (nar_byte _) (ok 5 rfl) (Or.inl (List.mem_singleton.mpr rfl)) (List.mem_singleton.mpr rfl) 316 rfl fun T g1 w W1 Ad => ?_
    have As := As.other W1 hne
    have En := En.wr W1 n1 n2
    have Ad := Arv.stp (c := (tbl (((((bs.getD 0 0) &&& 255) <<< ((4 : Int32) &&& 31)) &&& 63) ||| (((bs.getD 1 0) &&& 255) >>> ((4 : Int32) &&& 31))))) Ad (by simp [encs_len]) (by decide)
    refine ja w (ok 6 rfl) rfl rfl 318 rfl <| jl w (ok 7 rfl) rfl 320 rfl <| ji w #[vR a, vR s0, vI 0, vI 2, vR d, vR tba, vI 2, vI 0, vI 0, vI (2 + 1), vI ((bs.getD 0 0) &&& 255), vI ((bs.getD 1 0) &&& 255), .unset, .unset, .unset, .unset] (ok 8 rfl) (v := 1) rfl rfl rfl 323 rfl ?_
    rw [show ((2 + 1) : Int32) = 3 from by decide]
    refine ja w (ok 9 rfl) rfl rfl 325 rfl <| jl w (ok 10 rfl) rfl 327 rfl <| jc w 2 (ok 11 rfl) rfl 328 rfl <| s_ishl w (ok 12 rfl) 329 rfl <| jb w 63 (ok 13 rfl) rfl 331 rfl <| jw w (ok 14 rfl) 332 rfl ?_
    refine w_ldC w (ATB.ext w.old) (ix64 (m63 _)).1 rfl (ix64 (m63 _)).2.1 (ix64 (m63 _)).2.2 (ok 15 rfl) 333 rfl ?_
    refine s_i2b w (ol 0 rfl) 334 rfl <| jB w Ad (i := 2) (by decide) rfl (by decide) (by rw [room_len (by simp [encs_len])]; decide) (nar_byte _) (ol 1 rfl) (Or.inl (List.mem_singleton.mpr rfl)) (List.mem_singleton.mpr rfl) 335 rfl fun T g2 w W2 Ad => ?_
    have As := As.other W2 hne
    have En := En.wr W2 n1 n2
    have Ad := Arv.stp (c := (tbl ((((bs.getD 1 0) &&& 255) <<< ((2 : Int32) &&& 31)) &&& 63))) Ad (by simp [encs_len]) (by decide)
    refine jm w (ol 2 rfl) rfl rfl 336 rfl <| jF w (Kw hw 62 rfl) Via.refl En.2.2.2.2.1 (ol 3 rfl) 339 rfl fun T w => ?_
    refine s_if_eq w (ol 4 rfl) (by decide) 342 rfl 352 rfl (fun _ => ?_) (fun q => absurd q (by decide))
    refine ja w (ol 5 rfl) rfl rfl 344 rfl <| jl w (ol 6 rfl) rfl 346 rfl <| ji w #[vR a, vR s0, vI 0, vI 2, vR d, vR tba, vI 2, vI 0, vI 0, vI (3 + 1), vI ((bs.getD 0 0) &&& 255), vI ((bs.getD 1 0) &&& 255), .unset, .unset, .unset, .unset] (ol 7 rfl) (v := 1) rfl rfl rfl 349 rfl ?_
    rw [show ((3 + 1) : Int32) = 4 from by decide]
    refine jb w 61 (ol 8 rfl) rfl 351 rfl <| jB w Ad (i := 3) (by decide) rfl (by decide) (by rw [room_len (by simp [encs_len])]; decide) (x' := (61 : Int32).toInt8.toInt32) rfl (ol 9 rfl) (Or.inl (List.mem_singleton.mpr rfl)) (List.mem_singleton.mpr rfl) 352 rfl fun T g3 w W3 Ad => ?_
    have As := As.other W3 hne
    have En := En.wr W3 n1 n2
    have Ad := Arv.stp (c := 61) Ad (by simp [encs_len]) (by decide)
    refine jl w (ol 10 rfl) rfl 354 rfl ?_
    have eo : (((((encs bs 0) ++ [(tbl (((bs.getD 0 0) &&& 255) >>> ((2 : Int32) &&& 31)))]) ++ [(tbl (((((bs.getD 0 0) &&& 255) <<< ((4 : Int32) &&& 31)) &&& 63) ||| (((bs.getD 1 0) &&& 255) >>> ((4 : Int32) &&& 31))))]) ++ [(tbl ((((bs.getD 1 0) &&& 255) <<< ((2 : Int32) &&& 31)) &&& 63))]) ++ [61]) = b64s bs := by simp [b64s, hn, rem1, rem2]
    rw [eo, room_full el] at Ad
    exact w_ireturn w hEL hs hlk hret rfl (Or.inl rfl) (ol 11 rfl) (by decide) (by decide) ⟨by rw [el]; rfl, by rw [el]; exact Ad⟩
  · obtain rfl : N = 3 := by rw [hN, hn]; rfl
    have el : (b64s bs).length = 4 := by rw [b64s_len, hn]; rfl
    rw [el] at Ad0
    refine jm w (oa 0 rfl) rfl rfl 1 rfl <| jF w (Kw hw 56 rfl) Via.refl En.2.1 (oa 1 rfl) 4 rfl fun T w => ?_
    refine s_if_eq w (oa 2 rfl) (by decide) 7 rfl 13 rfl (fun q => absurd q (by decide)) (fun _ => ?_)
    refine w_getS w (Kw hw 90 rfl) Via.refl (STB.ext w.old) (oa 3 rfl) 16 rfl fun T w => ?_
    refine s_astore w #[vR a, vR s0, vI 0, vI 3, vR d, vR tba, .unset, .unset, .unset, .unset, .unset, .unset, .unset, .unset, .unset, .unset] (oa 4 rfl) rfl rfl 18 rfl <| jn w (oa 5 rfl) rfl 19 rfl <| js w #[vR a, vR s0, vI 0, vI 3, vR d, vR tba, vI 0, .unset, .unset, .unset, .unset, .unset, .unset, .unset, .unset, .unset] (oa 6 rfl) rfl 21 rfl <| jn w (oa 7 rfl) rfl 22 rfl <| jn w (oa 8 rfl) rfl 23 rfl <| s_isub w (oa 9 rfl) 24 rfl ?_
    rw [show ((3 - 0) : Int32) = 3 from by decide]
    refine jc w 3 (oa 10 rfl) rfl 25 rfl <| s_idiv w (oa 11 rfl) (by decide) 26 rfl ?_
    rw [show ((3 / 3) : Int32) = 1 from by decide]
    refine jc w 3 (oa 12 rfl) rfl 27 rfl <| s_imul w (oa 13 rfl) 28 rfl ?_
    rw [show ((1 * 3) : Int32) = 3 from by decide]
    refine js w #[vR a, vR s0, vI 0, vI 3, vR d, vR tba, vI 0, vI 3, .unset, .unset, .unset, .unset, .unset, .unset, .unset, .unset] (oa 14 rfl) rfl 30 rfl <| jn w (oa 15 rfl) rfl 31 rfl <| jl w (ob 0 rfl) rfl 33 rfl <| jp w (ob 1 rfl) 34 rfl ?_
    rw [show ((0 + 3) : Int32) = 3 from by decide]
    refine js w #[vR a, vR s0, vI 0, vI 3, vR d, vR tba, vI 0, vI 3, vI 3, .unset, .unset, .unset, .unset, .unset, .unset, .unset] (ob 2 rfl) rfl 36 rfl <| jm w (ob 3 rfl) rfl rfl 37 rfl <| jF w (Kw hw 60 rfl) Via.refl En.2.2.2.1 (ob 4 rfl) 40 rfl fun T w => ?_
    refine s_if_le w (ob 5 rfl) (by decide) 43 rfl 66 rfl (fun _ => ?_) (fun q => absurd q (by decide))
    refine jl w (ob 6 rfl) rfl 45 rfl <| jm w (ob 7 rfl) rfl rfl 46 rfl <| jF w (Kw hw 60 rfl) Via.refl En.2.2.2.1 (ob 8 rfl) 49 rfl fun T w => ?_
    refine jc w 4 (ob 9 rfl) rfl 50 rfl <| s_idiv w (ob 10 rfl) (by decide) 51 rfl ?_
    rw [show ((64 / 4) : Int32) = 16 from by decide]
    refine jc w 3 (ob 11 rfl) rfl 52 rfl <| s_imul w (ob 12 rfl) 53 rfl ?_
    rw [show ((16 * 3) : Int32) = 48 from by decide]
    refine je w (ob 13 rfl) (by decide) 56 rfl 66 rfl (fun q => absurd q (by decide)) (fun _ => ?_)
    refine jc w 0 (ob 14 rfl) rfl 67 rfl <| js w #[vR a, vR s0, vI 0, vI 3, vR d, vR tba, vI 0, vI 3, vI 3, vI 0, .unset, .unset, .unset, .unset, .unset, .unset] (ob 15 rfl) rfl 69 rfl <| jl w (oc 0 rfl) rfl 71 rfl <| jl w (oc 1 rfl) rfl 73 rfl <| jg w (oc 2 rfl) (by decide) 76 rfl 189 rfl (fun _ => ?_) (fun q => absurd q (by decide))
    refine jl w (oc 3 rfl) rfl 78 rfl <| jl w (oc 4 rfl) rfl 80 rfl <| jp w (oc 5 rfl) 81 rfl ?_
    rw [show ((0 + 3) : Int32) = 3 from by decide]
    refine jl w (oc 6 rfl) rfl 83 rfl <| wS w hEL (cB19 hw) (Kw hw 254 rfl) (rm_min G0 h 3 3) all0 all0 [.int 3, .int 3] [] rfl rfl rfl (oc 7 rfl) hml rfl 0 rfl (by decide) 86 rfl fun u24 N25 T h26 w K27 P28 => ?_
    obtain ⟨rfl, rfl, rfl⟩ := P28
    rw [show (if (3 : Int32) < 3 then (3 : Int32) else 3) = 3 from by decide]
    show Run _ _ _ _ _ (mkF _ _ _ [.int 3])
    refine js w #[vR a, vR s0, vI 0, vI 3, vR d, vR tba, vI 0, vI 3, vI 3, vI 0, vI 3, .unset, .unset, .unset, .unset, .unset] (oc 8 rfl) rfl 88 rfl <| jm w (oc 9 rfl) rfl rfl 89 rfl <| jm w (oc 10 rfl) rfl rfl 90 rfl <| jl w (oc 11 rfl) rfl 92 rfl <| jl w (oc 12 rfl) rfl 94 rfl <| ja w (oc 13 rfl) rfl rfl 96 rfl ?_
    refine jl w (oc 14 rfl) rfl 98 rfl <| jm w (oc 15 rfl) rfl rfl 99 rfl <| jF w (Kw hw 56 rfl) Via.refl En.2.1 (od 0 rfl) 102 rfl fun T w => ?_
    refine wP w hEL (cB40 hw) (Kw hw 255 rfl) (Kw hw 72 rfl) rfl (Kw hw 257 rfl) En.1 (rm_eblk G0 h a s0 3 d ks kd bs 1 4 rfl (by omega) (by omega) (by decide) (by decide) hne As Ad0) (allS (mi 0 rfl) all0) (allS (Or.inl (mi 0 rfl)) all0) [.ref s0, .int 0, .int 3, .ref d, .int 0, .int 0] [] rfl rfl rfl (od 1 rfl) hml rfl 0 rfl (by decide) 105 rfl fun u30 N31 T h32 w K33 P34 => ?_
    obtain ⟨rfl, rfl, Ad⟩ := P34
    have En := En.keep K33 n1 n2
    have As := As.keep K33 (ninS hne nin0)
    show Run _ _ _ _ _ (mkF _ _ _ [])
    refine jl w (od 2 rfl) rfl 107 rfl <| jl w (od 3 rfl) rfl 109 rfl <| s_isub w (od 4 rfl) 110 rfl ?_
    rw [show ((3 - 0) : Int32) = 3 from by decide]
    refine jc w 3 (od 5 rfl) rfl 111 rfl <| s_idiv w (od 6 rfl) (by decide) 112 rfl ?_
    rw [show ((3 / 3) : Int32) = 1 from by decide]
    refine jc w 4 (od 7 rfl) rfl 113 rfl <| s_imul w (od 8 rfl) 114 rfl ?_
    rw [show ((1 * 4) : Int32) = 4 from by decide]
    refine js w #[vR a, vR s0, vI 0, vI 3, vR d, vR tba, vI 0, vI 3, vI 3, vI 0, vI 3, vI 4, .unset, .unset, .unset, .unset] (od 9 rfl) rfl 116 rfl <| jl w (od 10 rfl) rfl 118 rfl <| jl w (od 11 rfl) rfl 120 rfl <| jp w (od 12 rfl) 121 rfl ?_
    rw [show ((0 + 4) : Int32) = 4 from by decide]
    refine js w #[vR a, vR s0, vI 0, vI 3, vR d, vR tba, vI 0, vI 3, vI 3, vI 4, vI 3, vI 4, .unset, .unset, .unset, .unset] (od 13 rfl) rfl 123 rfl <| jl w (od 14 rfl) rfl 125 rfl <| js w #[vR a, vR s0, vI 0, vI 3, vR d, vR tba, vI 3, vI 3, vI 3, vI 4, vI 3, vI 4, .unset, .unset, .unset, .unset] (od 15 rfl) rfl 127 rfl <| jl w (oe 0 rfl) rfl 129 rfl <| jm w (oe 1 rfl) rfl rfl 130 rfl <| jF w (Kw hw 60 rfl) Via.refl En.2.2.2.1 (oe 2 rfl) 133 rfl fun T w => ?_
    refine jx w (oe 3 rfl) (by decide) 136 rfl 186 rfl (fun q => absurd q (by decide)) (fun _ => ?_)
    refine jt w (of 13 rfl) (by decide) 69 rfl <| jl w (oc 0 rfl) rfl 71 rfl <| jl w (oc 1 rfl) rfl 73 rfl <| jg w (oc 2 rfl) (by decide) 76 rfl 189 rfl (fun q => absurd q (by decide)) (fun _ => ?_)
    refine jl w (of 14 rfl) rfl 191 rfl <| jn w (of 15 rfl) rfl 192 rfl <| jg w (og 0 rfl) (by decide) 195 rfl 352 rfl (fun q => absurd q (by decide)) (fun _ => ?_)
    refine jl w (ol 10 rfl) rfl 354 rfl ?_
    have eo : (encs bs 1) = b64s bs := by simp [b64s, hn, rem1, rem2]
    rw [eo, room_full el] at Ad
    exact w_ireturn w hEL hs hlk hret rfl (Or.inl rfl) (ol 11 rfl) (by decide) (by decide) ⟨by rw [el]; rfl, by rw [el]; exact Ad⟩
  · obtain rfl : N = 4 := by rw [hN, hn]; rfl
    have el : (b64s bs).length = 8 := by rw [b64s_len, hn]; rfl
    rw [el] at Ad0
    refine jm w (oa 0 rfl) rfl rfl 1 rfl <| jF w (Kw hw 56 rfl) Via.refl En.2.1 (oa 1 rfl) 4 rfl fun T w => ?_
    refine s_if_eq w (oa 2 rfl) (by decide) 7 rfl 13 rfl (fun q => absurd q (by decide)) (fun _ => ?_)
    refine w_getS w (Kw hw 90 rfl) Via.refl (STB.ext w.old) (oa 3 rfl) 16 rfl fun T w => ?_
    refine s_astore w #[vR a, vR s0, vI 0, vI 4, vR d, vR tba, .unset, .unset, .unset, .unset, .unset, .unset, .unset, .unset, .unset, .unset] (oa 4 rfl) rfl rfl 18 rfl <| jn w (oa 5 rfl) rfl 19 rfl <| js w #[vR a, vR s0, vI 0, vI 4, vR d, vR tba, vI 0, .unset, .unset, .unset, .unset, .unset, .unset, .unset, .unset, .unset] (oa 6 rfl) rfl 21 rfl <| jn w (oa 7 rfl) rfl 22 rfl <| jn w (oa 8 rfl) rfl 23 rfl <| s_isub w (oa 9 rfl) 24 rfl ?_
    rw [show ((4 - 0) : Int32) = 4 from by decide]
    refine jc w 3 (oa 10 rfl) rfl 25 rfl <| s_idiv w (oa 11 rfl) (by decide) 26 rfl ?_
    rw [show ((4 / 3) : Int32) = 1 from by decide]
    refine jc w 3 (oa 12 rfl) rfl 27 rfl <| s_imul w (oa 13 rfl) 28 rfl ?_
    rw [show ((1 * 3) : Int32) = 3 from by decide]
    refine js w #[vR a, vR s0, vI 0, vI 4, vR d, vR tba, vI 0, vI 3, .unset, .unset, .unset, .unset, .unset, .unset, .unset, .unset] (oa 14 rfl) rfl 30 rfl <| jn w (oa 15 rfl) rfl 31 rfl <| jl w (ob 0 rfl) rfl 33 rfl <| jp w (ob 1 rfl) 34 rfl ?_
    rw [show ((0 + 3) : Int32) = 3 from by decide]
    refine js w #[vR a, vR s0, vI 0, vI 4, vR d, vR tba, vI 0, vI 3, vI 3, .unset, .unset, .unset, .unset, .unset, .unset, .unset] (ob 2 rfl) rfl 36 rfl <| jm w (ob 3 rfl) rfl rfl 37 rfl <| jF w (Kw hw 60 rfl) Via.refl En.2.2.2.1 (ob 4 rfl) 40 rfl fun T w => ?_
    refine s_if_le w (ob 5 rfl) (by decide) 43 rfl 66 rfl (fun _ => ?_) (fun q => absurd q (by decide))
    refine jl w (ob 6 rfl) rfl 45 rfl <| jm w (ob 7 rfl) rfl rfl 46 rfl <| jF w (Kw hw 60 rfl) Via.refl En.2.2.2.1 (ob 8 rfl) 49 rfl fun T w => ?_
    refine jc w 4 (ob 9 rfl) rfl 50 rfl <| s_idiv w (ob 10 rfl) (by decide) 51 rfl ?_
    rw [show ((64 / 4) : Int32) = 16 from by decide]
    refine jc w 3 (ob 11 rfl) rfl 52 rfl <| s_imul w (ob 12 rfl) 53 rfl ?_
    rw [show ((16 * 3) : Int32) = 48 from by decide]
    refine je w (ob 13 rfl) (by decide) 56 rfl 66 rfl (fun q => absurd q (by decide)) (fun _ => ?_)
    refine jc w 0 (ob 14 rfl) rfl 67 rfl <| js w #[vR a, vR s0, vI 0, vI 4, vR d, vR tba, vI 0, vI 3, vI 3, vI 0, .unset, .unset, .unset, .unset, .unset, .unset] (ob 15 rfl) rfl 69 rfl <| jl w (oc 0 rfl) rfl 71 rfl <| jl w (oc 1 rfl) rfl 73 rfl <| jg w (oc 2 rfl) (by decide) 76 rfl 189 rfl (fun _ => ?_) (fun q => absurd q (by decide))
    refine jl w (oc 3 rfl) rfl 78 rfl <| jl w (oc 4 rfl) rfl 80 rfl <| jp w (oc 5 rfl) 81 rfl ?_
    rw [show ((0 + 3) : Int32) = 3 from by decide]
    refine jl w (oc 6 rfl) rfl 83 rfl <| wS w hEL (cB19 hw) (Kw hw 254 rfl) (rm_min G0 h 3 3) all0 all0 [.int 3, .int 3] [] rfl rfl rfl (oc 7 rfl) hml rfl 0 rfl (by decide) 86 rfl fun u43 N44 T h45 w K46 P47 => ?_
    obtain ⟨rfl, rfl, rfl⟩ := P47
    rw [show (if (3 : Int32) < 3 then (3 : Int32) else 3) = 3 from by decide]
    show Run _ _ _ _ _ (mkF _ _ _ [.int 3])
    refine js w #[vR a, vR s0, vI 0, vI 4, vR d, vR tba, vI 0, vI 3, vI 3, vI 0, vI 3, .unset, .unset, .unset, .unset, .unset] (oc 8 rfl) rfl 88 rfl <| jm w (oc 9 rfl) rfl rfl 89 rfl <| jm w (oc 10 rfl) rfl rfl 90 rfl <| jl w (oc 11 rfl) rfl 92 rfl <| jl w (oc 12 rfl) rfl 94 rfl <| ja w (oc 13 rfl) rfl rfl 96 rfl ?_
    refine jl w (oc 14 rfl) rfl 98 rfl <| jm w (oc 15 rfl) rfl rfl 99 rfl <| jF w (Kw hw 56 rfl) Via.refl En.2.1 (od 0 rfl) 102 rfl fun T w => ?_
    refine wP w hEL (cB40 hw) (Kw hw 255 rfl) (Kw hw 72 rfl) rfl (Kw hw 257 rfl) En.1 (rm_eblk G0 h a s0 3 d ks kd bs 1 8 rfl (by omega) (by omega) (by decide) (by decide) hne As Ad0) (allS (mi 0 rfl) all0) (allS (Or.inl (mi 0 rfl)) all0) [.ref s0, .int 0, .int 3, .ref d, .int 0, .int 0] [] rfl rfl rfl (od 1 rfl) hml rfl 0 rfl (by decide) 105 rfl fun u49 N50 T h51 w K52 P53 => ?_
    obtain ⟨rfl, rfl, Ad⟩ := P53
    have En := En.keep K52 n1 n2
    have As := As.keep K52 (ninS hne nin0)
    show Run _ _ _ _ _ (mkF _ _ _ [])
    refine jl w (od 2 rfl) rfl 107 rfl <| jl w (od 3 rfl) rfl 109 rfl <| s_isub w (od 4 rfl) 110 rfl ?_
    rw [show ((3 - 0) : Int32) = 3 from by decide]
    refine jc w 3 (od 5 rfl) rfl 111 rfl <| s_idiv w (od 6 rfl) (by decide) 112 rfl ?_
    rw [show ((3 / 3) : Int32) = 1 from by decide]
    refine jc w 4 (od 7 rfl) rfl 113 rfl <| s_imul w (od 8 rfl) 114 rfl ?_
    rw [show ((1 * 4) : Int32) = 4 from by decide]
    refine js w #[vR a, vR s0, vI 0, vI 4, vR d, vR tba, vI 0, vI 3, vI 3, vI 0, vI 3, vI 4, .unset, .unset, .unset, .unset] (od 9 rfl) rfl 116 rfl <| jl w (od 10 rfl) rfl 118 rfl <| jl w (od 11 rfl) rfl 120 rfl <| jp w (od 12 rfl) 121 rfl ?_
    rw [show ((0 + 4) : Int32) = 4 from by decide]
    refine js w #[vR a, vR s0, vI 0, vI 4, vR d, vR tba, vI 0, vI 3, vI 3, vI 4, vI 3, vI 4, .unset, .unset, .unset, .unset] (od 13 rfl) rfl 123 rfl <| jl w (od 14 rfl) rfl 125 rfl <| js w #[vR a, vR s0, vI 0, vI 4, vR d, vR tba, vI 3, vI 3, vI 3, vI 4, vI 3, vI 4, .unset, .unset, .unset, .unset] (od 15 rfl) rfl 127 rfl <| jl w (oe 0 rfl) rfl 129 rfl <| jm w (oe 1 rfl) rfl rfl 130 rfl <| jF w (Kw hw 60 rfl) Via.refl En.2.2.2.1 (oe 2 rfl) 133 rfl fun T w => ?_
    refine jx w (oe 3 rfl) (by decide) 136 rfl 186 rfl (fun q => absurd q (by decide)) (fun _ => ?_)
    refine jt w (of 13 rfl) (by decide) 69 rfl <| jl w (oc 0 rfl) rfl 71 rfl <| jl w (oc 1 rfl) rfl 73 rfl <| jg w (oc 2 rfl) (by decide) 76 rfl 189 rfl (fun q => absurd q (by decide)) (fun _ => ?_)
    refine jl w (of 14 rfl) rfl 191 rfl <| jn w (of 15 rfl) rfl 192 rfl <| jg w (og 0 rfl) (by decide) 195 rfl 352 rfl (fun _ => ?_) (fun q => absurd q (by decide))
    refine jm w (og 1 rfl) rfl rfl 196 rfl <| jl w (og 2 rfl) rfl 198 rfl <| ji w #[vR a, vR s0, vI 0, vI 4, vR d, vR tba, vI (3 + 1), vI 3, vI 3, vI 4, vI 3, vI 4, .unset, .unset, .unset, .unset] (og 3 rfl) (v := 1) rfl rfl rfl 201 rfl ?_
    rw [show ((3 + 1) : Int32) = 4 from by decide]
    refine w_ldB w As (i := 3) (by decide) rfl (by rw [hn]; decide) (mapI_getD (by omega)) (og 4 rfl) 202 rfl ?_
    refine s_sipush w 255 (og 5 rfl) rfl 205 rfl <| jw w (og 6 rfl) 206 rfl <| js w #[vR a, vR s0, vI 0, vI 4, vR d, vR tba, vI 4, vI 3, vI 3, vI 4, vI ((bs.getD 3 0) &&& 255), vI 4, .unset, .unset, .unset, .unset] (og 7 rfl) rfl 208 rfl <| ja w (og 8 rfl) rfl rfl 210 rfl <| jl w (og 9 rfl) rfl 212 rfl <| ji w #[vR a, vR s0, vI 0, vI 4, vR d, vR tba, vI 4, vI 3, vI 3, vI (4 + 1), vI ((bs.getD 3 0) &&& 255), vI 4, .unset, .unset, .unset, .unset] (og 10 rfl) (v := 1) rfl rfl rfl 215 rfl ?_
    rw [show ((4 + 1) : Int32) = 5 from by decide]
    refine ja w (og 11 rfl) rfl rfl 217 rfl <| jl w (og 12 rfl) rfl 219 rfl <| jc w 2 (og 13 rfl) rfl 220 rfl <| s_ishr w (og 14 rfl) 221 rfl <| w_ldC w (ATB.ext w.old) (ix64 (sh2 _)).1 rfl (ix64 (sh2 _)).2.1 (ix64 (sh2 _)).2.2 (og 15 rfl) 222 rfl <| s_i2b w (oh 0 rfl) 223 rfl ?_
    refine jB w Ad (i := 4) (by decide) rfl (by decide) (by rw [room_len (by simp [encs_len])]; decide) (nar_byte _) (oh 1 rfl) (Or.inl (List.mem_singleton.mpr rfl)) (List.mem_singleton.mpr rfl) 224 rfl fun T g0 w W0 Ad => ?_
    have As := As.other W0 hne
    have En := En.wr W0 n1 n2
    have Ad := Arv.stp (c := (tbl (((bs.getD 3 0) &&& 255) >>> ((2 : Int32) &&& 31)))) Ad (by simp [encs_len]) (by decide)
    refine jl w (oh 2 rfl) rfl 226 rfl <| jn w (oh 3 rfl) rfl 227 rfl <| jx w (oh 4 rfl) (by decide) 230 rfl 279 rfl (fun _ => ?_) (fun q => absurd q (by decide))
    refine ja w (oh 5 rfl) rfl rfl 232 rfl <| jl w (oh 6 rfl) rfl 234 rfl <| ji w #[vR a, vR s0, vI 0, vI 4, vR d, vR tba, vI 4, vI 3, vI 3, vI (5 + 1), vI ((bs.getD 3 0) &&& 255), vI 4, .unset, .unset, .unset, .unset] (oh 7 rfl) (v := 1) rfl rfl rfl 237 rfl ?_
    rw [show ((5 + 1) : Int32) = 6 from by decide]
    refine ja w (oh 8 rfl) rfl rfl 239 rfl <| jl w (oh 9 rfl) rfl 241 rfl <| jc w 4 (oh 10 rfl) rfl 242 rfl <| s_ishl w (oh 11 rfl) 243 rfl <| jb w 63 (oh 12 rfl) rfl 245 rfl <| jw w (oh 13 rfl) 246 rfl ?_
    refine w_ldC w (ATB.ext w.old) (ix64 (m63 _)).1 rfl (ix64 (m63 _)).2.1 (ix64 (m63 _)).2.2 (oh 14 rfl) 247 rfl ?_
    refine s_i2b w (oh 15 rfl) 248 rfl <| jB w Ad (i := 5) (by decide) rfl (by decide) (by rw [room_len (by simp [encs_len])]; decide) (nar_byte _) (oi 0 rfl) (Or.inl (List.mem_singleton.mpr rfl)) (List.mem_singleton.mpr rfl) 249 rfl fun T g1 w W1 Ad => ?_
    have As := As.other W1 hne
    have En := En.wr W1 n1 n2
    have Ad := Arv.stp (c := (tbl ((((bs.getD 3 0) &&& 255) <<< ((4 : Int32) &&& 31)) &&& 63))) Ad (by simp [encs_len]) (by decide)
    refine jm w (oi 1 rfl) rfl rfl 250 rfl <| jF w (Kw hw 62 rfl) Via.refl En.2.2.2.2.1 (oi 2 rfl) 253 rfl fun T w => ?_
    refine s_if_eq w (oi 3 rfl) (by decide) 256 rfl 352 rfl (fun _ => ?_) (fun q => absurd q (by decide))
    refine ja w (oi 4 rfl) rfl rfl 258 rfl <| jl w (oi 5 rfl) rfl 260 rfl <| ji w #[vR a, vR s0, vI 0, vI 4, vR d, vR tba, vI 4, vI 3, vI 3, vI (6 + 1), vI ((bs.getD 3 0) &&& 255), vI 4, .unset, .unset, .unset, .unset] (oi 6 rfl) (v := 1) rfl rfl rfl 263 rfl ?_
    rw [show ((6 + 1) : Int32) = 7 from by decide]
    refine jb w 61 (oi 7 rfl) rfl 265 rfl <| jB w Ad (i := 6) (by decide) rfl (by decide) (by rw [room_len (by simp [encs_len])]; decide) (x' := (61 : Int32).toInt8.toInt32) rfl (oi 8 rfl) (Or.inl (List.mem_singleton.mpr rfl)) (List.mem_singleton.mpr rfl) 266 rfl fun T g2 w W2 Ad => ?_
    have As := As.other W2 hne
    have En := En.wr W2 n1 n2
    have Ad := Arv.stp (c := 61) Ad (by simp [encs_len]) (by decide)
    refine ja w (oi 9 rfl) rfl rfl 268 rfl <| jl w (oi 10 rfl) rfl 270 rfl <| ji w #[vR a, vR s0, vI 0, vI 4, vR d, vR tba, vI 4, vI 3, vI 3, vI (7 + 1), vI ((bs.getD 3 0) &&& 255), vI 4, .unset, .unset, .unset, .unset] (oi 11 rfl) (v := 1) rfl rfl rfl 273 rfl ?_
    rw [show ((7 + 1) : Int32) = 8 from by decide]
    refine jb w 61 (oi 12 rfl) rfl 275 rfl <| jB w Ad (i := 7) (by decide) rfl (by decide) (by rw [room_len (by simp [encs_len])]; decide) (x' := (61 : Int32).toInt8.toInt32) rfl (oi 13 rfl) (Or.inl (List.mem_singleton.mpr rfl)) (List.mem_singleton.mpr rfl) 276 rfl fun T g3 w W3 Ad => ?_
    have As := As.other W3 hne
    have En := En.wr W3 n1 n2
    have Ad := Arv.stp (c := 61) Ad (by simp [encs_len]) (by decide)
    refine jt w (oi 14 rfl) (by decide) 352 rfl <| jl w (ol 10 rfl) rfl 354 rfl ?_
    have eo : (((((encs bs 1) ++ [(tbl (((bs.getD 3 0) &&& 255) >>> ((2 : Int32) &&& 31)))]) ++ [(tbl ((((bs.getD 3 0) &&& 255) <<< ((4 : Int32) &&& 31)) &&& 63))]) ++ [61]) ++ [61]) = b64s bs := by simp [b64s, hn, rem1, rem2]
    rw [eo, room_full el] at Ad
    exact w_ireturn w hEL hs hlk hret rfl (Or.inl rfl) (ol 11 rfl) (by decide) (by decide) ⟨by rw [el]; rfl, by rw [el]; exact Ad⟩
  · obtain rfl : N = 5 := by rw [hN, hn]; rfl
    have el : (b64s bs).length = 8 := by rw [b64s_len, hn]; rfl
    rw [el] at Ad0
    refine jm w (oa 0 rfl) rfl rfl 1 rfl <| jF w (Kw hw 56 rfl) Via.refl En.2.1 (oa 1 rfl) 4 rfl fun T w => ?_
    refine s_if_eq w (oa 2 rfl) (by decide) 7 rfl 13 rfl (fun q => absurd q (by decide)) (fun _ => ?_)
    refine w_getS w (Kw hw 90 rfl) Via.refl (STB.ext w.old) (oa 3 rfl) 16 rfl fun T w => ?_
    refine s_astore w #[vR a, vR s0, vI 0, vI 5, vR d, vR tba, .unset, .unset, .unset, .unset, .unset, .unset, .unset, .unset, .unset, .unset] (oa 4 rfl) rfl rfl 18 rfl <| jn w (oa 5 rfl) rfl 19 rfl <| js w #[vR a, vR s0, vI 0, vI 5, vR d, vR tba, vI 0, .unset, .unset, .unset, .unset, .unset, .unset, .unset, .unset, .unset] (oa 6 rfl) rfl 21 rfl <| jn w (oa 7 rfl) rfl 22 rfl <| jn w (oa 8 rfl) rfl 23 rfl <| s_isub w (oa 9 rfl) 24 rfl ?_
    rw [show ((5 - 0) : Int32) = 5 from by decide]
    refine jc w 3 (oa 10 rfl) rfl 25 rfl <| s_idiv w (oa 11 rfl) (by decide) 26 rfl ?_
    rw [show ((5 / 3) : Int32) = 1 from by decide]
    refine jc w 3 (oa 12 rfl) rfl 27 rfl <| s_imul w (oa 13 rfl) 28 rfl ?_
    rw [show ((1 * 3) : Int32) = 3 from by decide]
    refine js w #[vR a, vR s0, vI 0, vI 5, vR d, vR tba, vI 0, vI 3, .unset, .unset, .unset, .unset, .unset, .unset, .unset, .unset] (oa 14 rfl) rfl 30 rfl <| jn w (oa 15 rfl) rfl 31 rfl <| jl w (ob 0 rfl) rfl 33 rfl <| jp w (ob 1 rfl) 34 rfl ?_
    rw [show ((0 + 3) : Int32) = 3 from by decide]
    refine js w #[vR a, vR s0, vI 0, vI 5, vR d, vR tba, vI 0, vI 3, vI 3, .unset, .unset, .unset, .unset, .unset, .unset, .unset] (ob 2 rfl) rfl 36 rfl <| jm w (ob 3 rfl) rfl rfl 37 rfl <| jF w (Kw hw 60 rfl) Via.refl En.2.2.2.1 (ob 4 rfl) 40 rfl fun T w => ?_
    refine s_if_le w (ob 5 rfl) (by decide) 43 rfl 66 rfl (fun _ => ?_) (fun q => absurd q (by decide))
    refine jl w (ob 6 rfl) rfl 45 rfl <| jm w (ob 7 rfl) rfl rfl 46 rfl <| jF w (Kw hw 60 rfl) Via.refl En.2.2.2.1 (ob 8 rfl) 49 rfl fun T w => ?_
    refine jc w 4 (ob 9 rfl) rfl 50 rfl <| s_idiv w (ob 10 rfl) (by decide) 51 rfl ?_
    rw [show ((64 / 4) : Int32) = 16 from by decide]
    refine jc w 3 (ob 11 rfl) rfl 52 rfl <| s_imul w (ob 12 rfl) 53 rfl ?_
    rw [show ((16 * 3) : Int32) = 48 from by decide]
    refine je w (ob 13 rfl) (by decide) 56 rfl 66 rfl (fun q => absurd q (by decide)) (fun _ => ?_)
    refine jc w 0 (ob 14 rfl) rfl 67 rfl <| js w #[vR a, vR s0, vI 0, vI 5, vR d, vR tba, vI 0, vI 3, vI 3, vI 0, .unset, .unset, .unset, .unset, .unset, .unset] (ob 15 rfl) rfl 69 rfl <| jl w (oc 0 rfl) rfl 71 rfl <| jl w (oc 1 rfl) rfl 73 rfl <| jg w (oc 2 rfl) (by decide) 76 rfl 189 rfl (fun _ => ?_) (fun q => absurd q (by decide))
    refine jl w (oc 3 rfl) rfl 78 rfl <| jl w (oc 4 rfl) rfl 80 rfl <| jp w (oc 5 rfl) 81 rfl ?_
    rw [show ((0 + 3) : Int32) = 3 from by decide]
    refine jl w (oc 6 rfl) rfl 83 rfl <| wS w hEL (cB19 hw) (Kw hw 254 rfl) (rm_min G0 h 3 3) all0 all0 [.int 3, .int 3] [] rfl rfl rfl (oc 7 rfl) hml rfl 0 rfl (by decide) 86 rfl fun u64 N65 T h66 w K67 P68 => ?_
    obtain ⟨rfl, rfl, rfl⟩ := P68
    rw [show (if (3 : Int32) < 3 then (3 : Int32) else 3) = 3 from by decide]
    show Run _ _ _ _ _ (mkF _ _ _ [.int 3])
    refine js w #[vR a, vR s0, vI 0, vI 5, vR d, vR tba, vI 0, vI 3, vI 3, vI 0, vI 3, .unset, .unset, .unset, .unset, .unset] (oc 8 rfl) rfl 88 rfl <| jm w (oc 9 rfl) rfl rfl 89 rfl <| jm w (oc 10 rfl) rfl rfl 90 rfl <| jl w (oc 11 rfl) rfl 92 rfl <| jl w (oc 12 rfl) rfl 94 rfl <| ja w (oc 13 rfl) rfl rfl 96 rfl ?_
    refine jl w (oc 14 rfl) rfl 98 rfl <| jm w (oc 15 rfl) rfl rfl 99 rfl <| jF w (Kw hw 56 rfl) Via.refl En.2.1 (od 0 rfl) 102 rfl fun T w => ?_
    refine wP w hEL (cB40 hw) (Kw hw 255 rfl) (Kw hw 72 rfl) rfl (Kw hw 257 rfl) En.1 (rm_eblk G0 h a s0 3 d ks kd bs 1 8 rfl (by omega) (by omega) (by decide) (by decide) hne As Ad0) (allS (mi 0 rfl) all0) (allS (Or.inl (mi 0 rfl)) all0) [.ref s0, .int 0, .int 3, .ref d, .int 0, .int 0] [] rfl rfl rfl (od 1 rfl) hml rfl 0 rfl (by decide) 105 rfl fun u70 N71 T h72 w K73 P74 => ?_
    obtain ⟨rfl, rfl, Ad⟩ := P74
    have En := En.keep K73 n1 n2
    have As := As.keep K73 (ninS hne nin0)
    show Run _ _ _ _ _ (mkF _ _ _ [])
    refine jl w (od 2 rfl) rfl 107 rfl <| jl w (od 3 rfl) rfl 109 rfl <| s_isub w (od 4 rfl) 110 rfl ?_
    rw [show ((3 - 0) : Int32) = 3 from by decide]
    refine jc w 3 (od 5 rfl) rfl 111 rfl <| s_idiv w (od 6 rfl) (by decide) 112 rfl ?_
    rw [show ((3 / 3) : Int32) = 1 from by decide]
    refine jc w 4 (od 7 rfl) rfl 113 rfl <| s_imul w (od 8 rfl) 114 rfl ?_
    rw [show ((1 * 4) : Int32) = 4 from by decide]
    refine js w #[vR a, vR s0, vI 0, vI 5, vR d, vR tba, vI 0, vI 3, vI 3, vI 0, vI 3, vI 4, .unset, .unset, .unset, .unset] (od 9 rfl) rfl 116 rfl <| jl w (od 10 rfl) rfl 118 rfl <| jl w (od 11 rfl) rfl 120 rfl <| jp w (od 12 rfl) 121 rfl ?_
    rw [show ((0 + 4) : Int32) = 4 from by decide]
    refine js w #[vR a, vR s0, vI 0, vI 5, vR d, vR tba, vI 0, vI 3, vI 3, vI 4, vI 3, vI 4, .unset, .unset, .unset, .unset] (od 13 rfl) rfl 123 rfl <| jl w (od 14 rfl) rfl 125 rfl <| js w #[vR a, vR s0, vI 0, vI 5, vR d, vR tba, vI 3, vI 3, vI 3, vI 4, vI 3, vI 4, .unset, .unset, .unset, .unset] (od 15 rfl) rfl 127 rfl <| jl w (oe 0 rfl) rfl 129 rfl <| jm w (oe 1 rfl) rfl rfl 130 rfl <| jF w (Kw hw 60 rfl) Via.refl En.2.2.2.1 (oe 2 rfl) 133 rfl fun T w => ?_
    refine jx w (oe 3 rfl) (by decide) 136 rfl 186 rfl (fun q => absurd q (by decide)) (fun _ => ?_)
    refine jt w (of 13 rfl) (by decide) 69 rfl <| jl w (oc 0 rfl) rfl 71 rfl <| jl w (oc 1 rfl) rfl 73 rfl <| jg w (oc 2 rfl) (by decide) 76 rfl 189 rfl (fun q => absurd q (by decide)) (fun _ => ?_)
    refine jl w (of 14 rfl) rfl 191 rfl <| jn w (of 15 rfl) rfl 192 rfl <| jg w (og 0 rfl) (by decide) 195 rfl 352 rfl (fun _ => ?_) (fun q => absurd q (by decide))
    refine jm w (og 1 rfl) rfl rfl 196 rfl <| jl w (og 2 rfl) rfl 198 rfl <| ji w #[vR a, vR s0, vI 0, vI 5, vR d, vR tba, vI (3 + 1), vI 3, vI 3, vI 4, vI 3, vI 4, .unset, .unset, .unset, .unset] (og 3 rfl) (v := 1) rfl rfl rfl 201 rfl ?_
    rw [show ((3 + 1) : Int32) = 4 from by decide]
    refine w_ldB w As (i := 3) (by decide) rfl (by rw [hn]; decide) (mapI_getD (by omega)) (og 4 rfl) 202 rfl ?_
    refine s_sipush w 255 (og 5 rfl) rfl 205 rfl <| jw w (og 6 rfl) 206 rfl <| js w #[vR a, vR s0, vI 0, vI 5, vR d, vR tba, vI 4, vI 3, vI 3, vI 4, vI ((bs.getD 3 0) &&& 255), vI 4, .unset, .unset, .unset, .unset] (og 7 rfl) rfl 208 rfl <| ja w (og 8 rfl) rfl rfl 210 rfl <| jl w (og 9 rfl) rfl 212 rfl <| ji w #[vR a, vR s0, vI 0, vI 5, vR d, vR tba, vI 4, vI 3, vI 3, vI (4 + 1), vI ((bs.getD 3 0) &&& 255), vI 4, .unset, .unset, .unset, .unset] (og 10 rfl) (v := 1) rfl rfl rfl 215 rfl ?_
    rw [show ((4 + 1) : Int32) = 5 from by decide]
    refine ja w (og 11 rfl) rfl rfl 217 rfl <| jl w (og 12 rfl) rfl 219 rfl <| jc w 2 (og 13 rfl) rfl 220 rfl <| s_ishr w (og 14 rfl) 221 rfl <| w_ldC w (ATB.ext w.old) (ix64 (sh2 _)).1 rfl (ix64 (sh2 _)).2.1 (ix64 (sh2 _)).2.2 (og 15 rfl) 222 rfl <| s_i2b w (oh 0 rfl) 223 rfl ?_
    refine jB w Ad (i := 4) (by decide) rfl (by decide) (by rw [room_len (by simp [encs_len])]; decide) (nar_byte _) (oh 1 rfl) (Or.inl (List.mem_singleton.mpr rfl)) (List.mem_singleton.mpr rfl) 224 rfl fun T g0 w W0 Ad => ?_
    have As := As.other W0 hne
    have En := En.wr W0 n1 n2
    have Ad := Arv.stp (c := (tbl (((bs.getD 3 0) &&& 255) >>> ((2 : Int32) &&& 31)))) Ad (by simp [encs_len]) (by decide)
    refine jl w (oh 2 rfl) rfl 226 rfl <| jn w (oh 3 rfl) rfl 227 rfl <| jx w (oh 4 rfl) (by decide) 230 rfl 279 rfl (fun q => absurd q (by decide)) (fun _ => ?_)
    refine jm w (oi 15 rfl) rfl rfl 280 rfl <| jl w (oj 0 rfl) rfl 282 rfl <| ji w #[vR a, vR s0, vI 0, vI 5, vR d, vR tba, vI (4 + 1), vI 3, vI 3, vI 5, vI ((bs.getD 3 0) &&& 255), vI 4, .unset, .unset, .unset, .unset] (oj 1 rfl) (v := 1) rfl rfl rfl 285 rfl ?_
    rw [show ((4 + 1) : Int32) = 5 from by decide]
    refine w_ldB w As (i := 4) (by decide) rfl (by rw [hn]; decide) (mapI_getD (by omega)) (oj 2 rfl) 286 rfl ?_
    refine s_sipush w 255 (oj 3 rfl) rfl 289 rfl <| jw w (oj 4 rfl) 290 rfl <| js w #[vR a, vR s0, vI 0, vI 5, vR d, vR tba, vI 5, vI 3, vI 3, vI 5, vI ((bs.getD 3 0) &&& 255), vI ((bs.getD 4 0) &&& 255), .unset, .unset, .unset, .unset] (oj 5 rfl) rfl 292 rfl <| ja w (oj 6 rfl) rfl rfl 294 rfl <| jl w (oj 7 rfl) rfl 296 rfl <| ji w #[vR a, vR s0, vI 0, vI 5, vR d, vR tba, vI 5, vI 3, vI 3, vI (5 + 1), vI ((bs.getD 3 0) &&& 255), vI ((bs.getD 4 0) &&& 255), .unset, .unset, .unset, .unset] (oj 8 rfl) (v := 1) rfl rfl rfl 299 rfl ?_
    rw [show ((5 + 1) : Int32) = 6 from by decide]
    refine ja w (oj 9 rfl) rfl rfl 301 rfl <| jl w (oj 10 rfl) rfl 303 rfl <| jc w 4 (oj 11 rfl) rfl 304 rfl <| s_ishl w (oj 12 rfl) 305 rfl <| jb w 63 (oj 13 rfl) rfl 307 rfl <| jw w (oj 14 rfl) 308 rfl ?_
    refine jl w (oj 15 rfl) rfl 310 rfl <| jc w 4 (ok 0 rfl) rfl 311 rfl <| s_ishr w (ok 1 rfl) 312 rfl <| s_ior w (ok 2 rfl) 313 rfl <| w_ldC w (ATB.ext w.old) (ix64 (orix _ _)).1 rfl (ix64 (orix _ _)).2.1 (ix64 (orix _ _)).2.2 (ok 3 rfl) 314 rfl <| s_i2b w (ok 4 rfl) 315 rfl ?_
    refine jB w Ad (i := 5) (by decide) rfl (by decide) (by rw [room_len (by simp [encs_len])]; decide) (nar_byte _) (ok 5 rfl) (Or.inl (List.mem_singleton.mpr rfl)) (List.mem_singleton.mpr rfl) 316 rfl fun T g1 w W1 Ad => ?_
    have As := As.other W1 hne
    have En := En.wr W1 n1 n2
    have Ad := Arv.stp (c := (tbl (((((bs.getD 3 0) &&& 255) <<< ((4 : Int32) &&& 31)) &&& 63) ||| (((bs.getD 4 0) &&& 255) >>> ((4 : Int32) &&& 31))))) Ad (by simp [encs_len]) (by decide)
    refine ja w (ok 6 rfl) rfl rfl 318 rfl <| jl w (ok 7 rfl) rfl 320 rfl <| ji w #[vR a, vR s0, vI 0, vI 5, vR d, vR tba, vI 5, vI 3, vI 3, vI (6 + 1), vI ((bs.getD 3 0) &&& 255), vI ((bs.getD 4 0) &&& 255), .unset, .unset, .unset, .unset] (ok 8 rfl) (v := 1) rfl rfl rfl 323 rfl ?_
    rw [show ((6 + 1) : Int32) = 7 from by decide]
    refine ja w (ok 9 rfl) rfl rfl 325 rfl <| jl w (ok 10 rfl) rfl 327 rfl <| jc w 2 (ok 11 rfl) rfl 328 rfl <| s_ishl w (ok 12 rfl) 329 rfl <| jb w 63 (ok 13 rfl) rfl 331 rfl <| jw w (ok 14 rfl) 332 rfl ?_
    refine w_ldC w (ATB.ext w.old) (ix64 (m63 _)).1 rfl (ix64 (m63 _)).2.1 (ix64 (m63 _)).2.2 (ok 15 rfl) 333 rfl ?_
    refine s_i2b w (ol 0 rfl) 334 rfl <| jB w Ad (i := 6) (by decide) rfl (by decide) (by rw [room_len (by simp [encs_len])]; decide) (nar_byte _) (ol 1 rfl) (Or.inl (List.mem_singleton.mpr rfl)) (List.mem_singleton.mpr rfl) 335 rfl fun T g2 w W2 Ad => ?_
    have As := As.other W2 hne
    have En := En.wr W2 n1 n2
    have Ad := Arv.stp (c := (tbl ((((bs.getD 4 0) &&& 255) <<< ((2 : Int32) &&& 31)) &&& 63))) Ad (by simp [encs_len]) (by decide)
    refine jm w (ol 2 rfl) rfl rfl 336 rfl <| jF w (Kw hw 62 rfl) Via.refl En.2.2.2.2.1 (ol 3 rfl) 339 rfl fun T w => ?_
    refine s_if_eq w (ol 4 rfl) (by decide) 342 rfl 352 rfl (fun _ => ?_) (fun q => absurd q (by decide))
    refine ja w (ol 5 rfl) rfl rfl 344 rfl <| jl w (ol 6 rfl) rfl 346 rfl <| ji w #[vR a, vR s0, vI 0, vI 5, vR d, vR tba, vI 5, vI 3, vI 3, vI (7 + 1), vI ((bs.getD 3 0) &&& 255), vI ((bs.getD 4 0) &&& 255), .unset, .unset, .unset, .unset] (ol 7 rfl) (v := 1) rfl rfl rfl 349 rfl ?_
    rw [show ((7 + 1) : Int32) = 8 from by decide]
    refine jb w 61 (ol 8 rfl) rfl 351 rfl <| jB w Ad (i := 7) (by decide) rfl (by decide) (by rw [room_len (by simp [encs_len])]; decide) (x' := (61 : Int32).toInt8.toInt32) rfl (ol 9 rfl) (Or.inl (List.mem_singleton.mpr rfl)) (List.mem_singleton.mpr rfl) 352 rfl fun T g3 w W3 Ad => ?_
    have As := As.other W3 hne
    have En := En.wr W3 n1 n2
    have Ad := Arv.stp (c := 61) Ad (by simp [encs_len]) (by decide)
    refine jl w (ol 10 rfl) rfl 354 rfl ?_
    have eo : (((((encs bs 1) ++ [(tbl (((bs.getD 3 0) &&& 255) >>> ((2 : Int32) &&& 31)))]) ++ [(tbl (((((bs.getD 3 0) &&& 255) <<< ((4 : Int32) &&& 31)) &&& 63) ||| (((bs.getD 4 0) &&& 255) >>> ((4 : Int32) &&& 31))))]) ++ [(tbl ((((bs.getD 4 0) &&& 255) <<< ((2 : Int32) &&& 31)) &&& 63))]) ++ [61]) = b64s bs := by simp [b64s, hn, rem1, rem2]
    rw [eo, room_full el] at Ad
    exact w_ireturn w hEL hs hlk hret rfl (Or.inl rfl) (ol 11 rfl) (by decide) (by decide) ⟨by rw [el]; rfl, by rw [el]; exact Ad⟩
  · obtain rfl : N = 6 := by rw [hN, hn]; rfl
    have el : (b64s bs).length = 8 := by rw [b64s_len, hn]; rfl
    rw [el] at Ad0
    refine jm w (oa 0 rfl) rfl rfl 1 rfl <| jF w (Kw hw 56 rfl) Via.refl En.2.1 (oa 1 rfl) 4 rfl fun T w => ?_
    refine s_if_eq w (oa 2 rfl) (by decide) 7 rfl 13 rfl (fun q => absurd q (by decide)) (fun _ => ?_)
    refine w_getS w (Kw hw 90 rfl) Via.refl (STB.ext w.old) (oa 3 rfl) 16 rfl fun T w => ?_
    refine s_astore w #[vR a, vR s0, vI 0, vI 6, vR d, vR tba, .unset, .unset, .unset, .unset, .unset, .unset, .unset, .unset, .unset, .unset] (oa 4 rfl) rfl rfl 18 rfl <| jn w (oa 5 rfl) rfl 19 rfl <| js w #[vR a, vR s0, vI 0, vI 6, vR d, vR tba, vI 0, .unset, .unset, .unset, .unset, .unset, .unset, .unset, .unset, .unset] (oa 6 rfl) rfl 21 rfl <| jn w (oa 7 rfl) rfl 22 rfl <| jn w (oa 8 rfl) rfl 23 rfl <| s_isub w (oa 9 rfl) 24 rfl ?_
    rw [show ((6 - 0) : Int32) = 6 from by decide]
    refine jc w 3 (oa 10 rfl) rfl 25 rfl <| s_idiv w (oa 11 rfl) (by decide) 26 rfl ?_
    rw [show ((6 / 3) : Int32) = 2 from by decide]
    refine jc w 3 (oa 12 rfl) rfl 27 rfl <| s_imul w (oa 13 rfl) 28 rfl ?_
    rw [show ((2 * 3) : Int32) = 6 from by decide]
    refine js w #[vR a, vR s0, vI 0, vI 6, vR d, vR tba, vI 0, vI 6, .unset, .unset, .unset, .unset, .unset, .unset, .unset, .unset] (oa 14 rfl) rfl 30 rfl <| jn w (oa 15 rfl) rfl 31 rfl <| jl w (ob 0 rfl) rfl 33 rfl <| jp w (ob 1 rfl) 34 rfl ?_
    rw [show ((0 + 6) : Int32) = 6 from by decide]
    refine js w #[vR a, vR s0, vI 0, vI 6, vR d, vR tba, vI 0, vI 6, vI 6, .unset, .unset, .unset, .unset, .unset, .unset, .unset] (ob 2 rfl) rfl 36 rfl <| jm w (ob 3 rfl) rfl rfl 37 rfl <| jF w (Kw hw 60 rfl) Via.refl En.2.2.2.1 (ob 4 rfl) 40 rfl fun T w => ?_
    refine s_if_le w (ob 5 rfl) (by decide) 43 rfl 66 rfl (fun _ => ?_) (fun q => absurd q (by decide))
    refine jl w (ob 6 rfl) rfl 45 rfl <| jm w (ob 7 rfl) rfl rfl 46 rfl <| jF w (Kw hw 60 rfl) Via.refl En.2.2.2.1 (ob 8 rfl) 49 rfl fun T w => ?_
    refine jc w 4 (ob 9 rfl) rfl 50 rfl <| s_idiv w (ob 10 rfl) (by decide) 51 rfl ?_
    rw [show ((64 / 4) : Int32) = 16 from by decide]
    refine jc w 3 (ob 11 rfl) rfl 52 rfl <| s_imul w (ob 12 rfl) 53 rfl ?_
    rw [show ((16 * 3) : Int32) = 48 from by decide]
    refine je w (ob 13 rfl) (by decide) 56 rfl 66 rfl (fun q => absurd q (by decide)) (fun _ => ?_)
    refine jc w 0 (ob 14 rfl) rfl 67 rfl <| js w #[vR a, vR s0, vI 0, vI 6, vR d, vR tba, vI 0, vI 6, vI 6, vI 0, .unset, .unset, .unset, .unset, .unset, .unset] (ob 15 rfl) rfl 69 rfl <| jl w (oc 0 rfl) rfl 71 rfl <| jl w (oc 1 rfl) rfl 73 rfl <| jg w (oc 2 rfl) (by decide) 76 rfl 189 rfl (fun _ => ?_) (fun q => absurd q (by decide))
    refine jl w (oc 3 rfl) rfl 78 rfl <| jl w (oc 4 rfl) rfl 80 rfl <| jp w (oc 5 rfl) 81 rfl ?_
    rw [show ((0 + 6) : Int32) = 6 from by decide]
    refine jl w (oc 6 rfl) rfl 83 rfl <| wS w hEL (cB19 hw) (Kw hw 254 rfl) (rm_min G0 h 6 6) all0 all0 [.int 6, .int 6] [] rfl rfl rfl (oc 7 rfl) hml rfl 0 rfl (by decide) 86 rfl fun u85 N86 T h87 w K88 P89 => ?_
    obtain ⟨rfl, rfl, rfl⟩ := P89
    rw [show (if (6 : Int32) < 6 then (6 : Int32) else 6) = 6 from by decide]
    show Run _ _ _ _ _ (mkF _ _ _ [.int 6])
    refine js w #[vR a, vR s0, vI 0, vI 6, vR d, vR tba, vI 0, vI 6, vI 6, vI 0, vI 6, .unset, .unset, .unset, .unset, .unset] (oc 8 rfl) rfl 88 rfl <| jm w (oc 9 rfl) rfl rfl 89 rfl <| jm w (oc 10 rfl) rfl rfl 90 rfl <| jl w (oc 11 rfl) rfl 92 rfl <| jl w (oc 12 rfl) rfl 94 rfl <| ja w (oc 13 rfl) rfl rfl 96 rfl ?_
    refine jl w (oc 14 rfl) rfl 98 rfl <| jm w (oc 15 rfl) rfl rfl 99 rfl <| jF w (Kw hw 56 rfl) Via.refl En.2.1 (od 0 rfl) 102 rfl fun T w => ?_
    refine wP w hEL (cB40 hw) (Kw hw 255 rfl) (Kw hw 72 rfl) rfl (Kw hw 257 rfl) En.1 (rm_eblk G0 h a s0 6 d ks kd bs 2 8 rfl (by omega) (by omega) (by decide) (by decide) hne As Ad0) (allS (mi 0 rfl) all0) (allS (Or.inl (mi 0 rfl)) all0) [.ref s0, .int 0, .int 6, .ref d, .int 0, .int 0] [] rfl rfl rfl (od 1 rfl) hml rfl 0 rfl (by decide) 105 rfl fun u91 N92 T h93 w K94 P95 => ?_
    obtain ⟨rfl, rfl, Ad⟩ := P95
    have En := En.keep K94 n1 n2
    have As := As.keep K94 (ninS hne nin0)
    show Run _ _ _ _ _ (mkF _ _ _ [])
    refine jl w (od 2 rfl) rfl 107 rfl <| jl w (od 3 rfl) rfl 109 rfl <| s_isub w (od 4 rfl) 110 rfl ?_
    rw [show ((6 - 0) : Int32) = 6 from by decide]
    refine jc w 3 (od 5 rfl) rfl 111 rfl <| s_idiv w (od 6 rfl) (by decide) 112 rfl ?_
    rw [show ((6 / 3) : Int32) = 2 from by decide]
    refine jc w 4 (od 7 rfl) rfl 113 rfl <| s_imul w (od 8 rfl) 114 rfl ?_
    rw [show ((2 * 4) : Int32) = 8 from by decide]
    refine js w #[vR a, vR s0, vI 0, vI 6, vR d, vR tba, vI 0, vI 6, vI 6, vI 0, vI 6, vI 8, .unset, .unset, .unset, .unset] (od 9 rfl) rfl 116 rfl <| jl w (od 10 rfl) rfl 118 rfl <| jl w (od 11 rfl) rfl 120 rfl <| jp w (od 12 rfl) 121 rfl ?_
    rw [show ((0 + 8) : Int32) = 8 from by decide]
    refine js w #[vR a, vR s0, vI 0, vI 6, vR d, vR tba, vI 0, vI 6, vI 6, vI 8, vI 6, vI 8, .unset, .unset, .unset, .unset] (od 13 rfl) rfl 123 rfl <| jl w (od 14 rfl) rfl 125 rfl <| js w #[vR a, vR s0, vI 0, vI 6, vR d, vR tba, vI 6, vI 6, vI 6, vI 8, vI 6, vI 8, .unset, .unset, .unset, .unset] (od 15 rfl) rfl 127 rfl <| jl w (oe 0 rfl) rfl 129 rfl <| jm w (oe 1 rfl) rfl rfl 130 rfl <| jF w (Kw hw 60 rfl) Via.refl En.2.2.2.1 (oe 2 rfl) 133 rfl fun T w => ?_
    refine jx w (oe 3 rfl) (by decide) 136 rfl 186 rfl (fun q => absurd q (by decide)) (fun _ => ?_)
    refine jt w (of 13 rfl) (by decide) 69 rfl <| jl w (oc 0 rfl) rfl 71 rfl <| jl w (oc 1 rfl) rfl 73 rfl <| jg w (oc 2 rfl) (by decide) 76 rfl 189 rfl (fun q => absurd q (by decide)) (fun _ => ?_)
    refine jl w (of 14 rfl) rfl 191 rfl <| jn w (of 15 rfl) rfl 192 rfl <| jg w (og 0 rfl) (by decide) 195 rfl 352 rfl (fun q => absurd q (by decide)) (fun _ => ?_)
    refine jl w (ol 10 rfl) rfl 354 rfl ?_
    have eo : (encs bs 2) = b64s bs := by simp [b64s, hn, rem1, rem2]
    rw [eo, room_full el] at Ad
    exact w_ireturn w hEL hs hlk hret rfl (Or.inl rfl) (ol 11 rfl) (by decide) (by decide) ⟨by rw [el]; rfl, by rw [el]; exact Ad⟩
  · obtain rfl : N = 49 := by rw [hN, hn]; rfl
    have el : (b64s bs).length = 69 := by rw [b64s_len, hn]; rfl
    rw [el] at Ad0
    refine jm w (oa 0 rfl) rfl rfl 1 rfl <| jF w (Kw hw 56 rfl) Via.refl En.2.1 (oa 1 rfl) 4 rfl fun T w => ?_
    refine s_if_eq w (oa 2 rfl) (by decide) 7 rfl 13 rfl (fun q => absurd q (by decide)) (fun _ => ?_)
    refine w_getS w (Kw hw 90 rfl) Via.refl (STB.ext w.old) (oa 3 rfl) 16 rfl fun T w => ?_
    refine s_astore w #[vR a, vR s0, vI 0, vI 49, vR d, vR tba, .unset, .unset, .unset, .unset, .unset, .unset, .unset, .unset, .unset, .unset] (oa 4 rfl) rfl rfl 18 rfl <| jn w (oa 5 rfl) rfl 19 rfl <| js w #[vR a, vR s0, vI 0, vI 49, vR d, vR tba, vI 0, .unset, .unset, .unset, .unset, .unset, .unset, .unset, .unset, .unset] (oa 6 rfl) rfl 21 rfl <| jn w (oa 7 rfl) rfl 22 rfl <| jn w (oa 8 rfl) rfl 23 rfl <| s_isub w (oa 9 rfl) 24 rfl ?_
    rw [show ((49 - 0) : Int32) = 49 from by decide]
    refine jc w 3 (oa 10 rfl) rfl 25 rfl <| s_idiv w (oa 11 rfl) (by decide) 26 rfl ?_
    rw [show ((49 / 3) : Int32) = 16 from by decide]
    refine jc w 3 (oa 12 rfl) rfl 27 rfl <| s_imul w (oa 13 rfl) 28 rfl ?_
    rw [show ((16 * 3) : Int32) = 48 from by decide]
    refine js w #[vR a, vR s0, vI 0, vI 49, vR d, vR tba, vI 0, vI 48, .unset, .unset, .unset, .unset, .unset, .unset, .unset, .unset] (oa 14 rfl) rfl 30 rfl <| jn w (oa 15 rfl) rfl 31 rfl <| jl w (ob 0 rfl) rfl 33 rfl <| jp w (ob 1 rfl) 34 rfl ?_
    rw [show ((0 + 48) : Int32) = 48 from by decide]
    refine js w #[vR a, vR s0, vI 0, vI 49, vR d, vR tba, vI 0, vI 48, vI 48, .unset, .unset, .unset, .unset, .unset, .unset, .unset] (ob 2 rfl) rfl 36 rfl <| jm w (ob 3 rfl) rfl rfl 37 rfl <| jF w (Kw hw 60 rfl) Via.refl En.2.2.2.1 (ob 4 rfl) 40 rfl fun T w => ?_
    refine s_if_le w (ob 5 rfl) (by decide) 43 rfl 66 rfl (fun _ => ?_) (fun q => absurd q (by decide))
    refine jl w (ob 6 rfl) rfl 45 rfl <| jm w (ob 7 rfl) rfl rfl 46 rfl <| jF w (Kw hw 60 rfl) Via.refl En.2.2.2.1 (ob 8 rfl) 49 rfl fun T w => ?_
    refine jc w 4 (ob 9 rfl) rfl 50 rfl <| s_idiv w (ob 10 rfl) (by decide) 51 rfl ?_
    rw [show ((64 / 4) : Int32) = 16 from by decide]
    refine jc w 3 (ob 11 rfl) rfl 52 rfl <| s_imul w (ob 12 rfl) 53 rfl ?_
    rw [show ((16 * 3) : Int32) = 48 from by decide]
    refine je w (ob 13 rfl) (by decide) 56 rfl 66 rfl (fun q => absurd q (by decide)) (fun _ => ?_)
    refine jc w 0 (ob 14 rfl) rfl 67 rfl <| js w #[vR a, vR s0, vI 0, vI 49, vR d, vR tba, vI 0, vI 48, vI 48, vI 0, .unset, .unset, .unset, .unset, .unset, .unset] (ob 15 rfl) rfl 69 rfl <| jl w (oc 0 rfl) rfl 71 rfl <| jl w (oc 1 rfl) rfl 73 rfl <| jg w (oc 2 rfl) (by decide) 76 rfl 189 rfl (fun _ => ?_) (fun q => absurd q (by decide))
    refine jl w (oc 3 rfl) rfl 78 rfl <| jl w (oc 4 rfl) rfl 80 rfl <| jp w (oc 5 rfl) 81 rfl ?_
    rw [show ((0 + 48) : Int32) = 48 from by decide]
    refine jl w (oc 6 rfl) rfl 83 rfl <| wS w hEL (cB19 hw) (Kw hw 254 rfl) (rm_min G0 h 48 48) all0 all0 [.int 48, .int 48] [] rfl rfl rfl (oc 7 rfl) hml rfl 0 rfl (by decide) 86 rfl fun u104 N105 T h106 w K107 P108 => ?_
    obtain ⟨rfl, rfl, rfl⟩ := P108
    rw [show (if (48 : Int32) < 48 then (48 : Int32) else 48) = 48 from by decide]
    show Run _ _ _ _ _ (mkF _ _ _ [.int 48])
    refine js w #[vR a, vR s0, vI 0, vI 49, vR d, vR tba, vI 0, vI 48, vI 48, vI 0, vI 48, .unset, .unset, .unset, .unset, .unset] (oc 8 rfl) rfl 88 rfl <| jm w (oc 9 rfl) rfl rfl 89 rfl <| jm w (oc 10 rfl) rfl rfl 90 rfl <| jl w (oc 11 rfl) rfl 92 rfl <| jl w (oc 12 rfl) rfl 94 rfl <| ja w (oc 13 rfl) rfl rfl 96 rfl ?_
    refine jl w (oc 14 rfl) rfl 98 rfl <| jm w (oc 15 rfl) rfl rfl 99 rfl <| jF w (Kw hw 56 rfl) Via.refl En.2.1 (od 0 rfl) 102 rfl fun T w => ?_
    refine wP w hEL (cB40 hw) (Kw hw 255 rfl) (Kw hw 72 rfl) rfl (Kw hw 257 rfl) En.1 (rm_eblk G0 h a s0 48 d ks kd bs 16 69 rfl (by omega) (by omega) (by decide) (by decide) hne As Ad0) (allS (mi 0 rfl) all0) (allS (Or.inl (mi 0 rfl)) all0) [.ref s0, .int 0, .int 48, .ref d, .int 0, .int 0] [] rfl rfl rfl (od 1 rfl) hml rfl 0 rfl (by decide) 105 rfl fun u110 N111 T h112 w K113 P114 => ?_
    obtain ⟨rfl, rfl, Ad⟩ := P114
    have En := En.keep K113 n1 n2
    have As := As.keep K113 (ninS hne nin0)
    show Run _ _ _ _ _ (mkF _ _ _ [])
    refine jl w (od 2 rfl) rfl 107 rfl <| jl w (od 3 rfl) rfl 109 rfl <| s_isub w (od 4 rfl) 110 rfl ?_
    rw [show ((48 - 0) : Int32) = 48 from by decide]
    refine jc w 3 (od 5 rfl) rfl 111 rfl <| s_idiv w (od 6 rfl) (by decide) 112 rfl ?_
    rw [show ((48 / 3) : Int32) = 16 from by decide]
    refine jc w 4 (od 7 rfl) rfl 113 rfl <| s_imul w (od 8 rfl) 114 rfl ?_
    rw [show ((16 * 4) : Int32) = 64 from by decide]
    refine js w #[vR a, vR s0, vI 0, vI 49, vR d, vR tba, vI 0, vI 48, vI 48, vI 0, vI 48, vI 64, .unset, .unset, .unset, .unset] (od 9 rfl) rfl 116 rfl <| jl w (od 10 rfl) rfl 118 rfl <| jl w (od 11 rfl) rfl 120 rfl <| jp w (od 12 rfl) 121 rfl ?_
    rw [show ((0 + 64) : Int32) = 64 from by decide]
    refine js w #[vR a, vR s0, vI 0, vI 49, vR d, vR tba, vI 0, vI 48, vI 48, vI 64, vI 48, vI 64, .unset, .unset, .unset, .unset] (od 13 rfl) rfl 123 rfl <| jl w (od 14 rfl) rfl 125 rfl <| js w #[vR a, vR s0, vI 0, vI 49, vR d, vR tba, vI 48, vI 48, vI 48, vI 64, vI 48, vI 64, .unset, .unset, .unset, .unset] (od 15 rfl) rfl 127 rfl <| jl w (oe 0 rfl) rfl 129 rfl <| jm w (oe 1 rfl) rfl rfl 130 rfl <| jF w (Kw hw 60 rfl) Via.refl En.2.2.2.1 (oe 2 rfl) 133 rfl fun T w => ?_
    refine jx w (oe 3 rfl) (by decide) 136 rfl 186 rfl (fun _ => ?_) (fun q => absurd q (by decide))
    refine jl w (oe 4 rfl) rfl 138 rfl <| jn w (oe 5 rfl) rfl 139 rfl <| jg w (oe 6 rfl) (by decide) 142 rfl 186 rfl (fun _ => ?_) (fun q => absurd q (by decide))
    refine jm w (oe 7 rfl) rfl rfl 143 rfl <| jF w (Kw hw 58 rfl) Via.refl En.2.2.1 (oe 8 rfl) 146 rfl fun T w => ?_
    refine s_astore w #[vR a, vR s0, vI 0, vI 49, vR d, vR tba, vI 48, vI 48, vI 48, vI 64, vI 48, vI 64, vR nl, .unset, .unset, .unset] (oe 9 rfl) rfl rfl 148 rfl <| ja w (oe 10 rfl) rfl rfl 150 rfl <| w_len w En.2.2.2.2.2 (oe 11 rfl) 151 rfl <| js w #[vR a, vR s0, vI 0, vI 49, vR d, vR tba, vI 48, vI 48, vI 48, vI 64, vI 48, vI 64, vR nl, vI 1, .unset, .unset] (oe 12 rfl) rfl 153 rfl <| jc w 0 (oe 13 rfl) rfl 154 rfl <| js w #[vR a, vR s0, vI 0, vI 49, vR d, vR tba, vI 48, vI 48, vI 48, vI 64, vI 48, vI 64, vR nl, vI 1, vI 0, .unset] (oe 14 rfl) rfl 156 rfl ?_
    refine jl w (oe 15 rfl) rfl 158 rfl <| jl w (of 0 rfl) rfl 160 rfl <| jg w (of 1 rfl) (by decide) 163 rfl 186 rfl (fun _ => ?_) (fun q => absurd q (by decide))
    refine ja w (of 2 rfl) rfl rfl 165 rfl <| jl w (of 3 rfl) rfl 167 rfl <| w_ldB w En.2.2.2.2.2 (i := 0) (by decide) rfl (by decide) (v := .int 10) rfl (of 4 rfl) 168 rfl <| js w #[vR a, vR s0, vI 0, vI 49, vR d, vR tba, vI 48, vI 48, vI 48, vI 64, vI 48, vI 64, vR nl, vI 1, vI 0, vI 10] (of 5 rfl) rfl 170 rfl <| ja w (of 6 rfl) rfl rfl 172 rfl <| jl w (of 7 rfl) rfl 174 rfl ?_
    refine ji w #[vR a, vR s0, vI 0, vI 49, vR d, vR tba, vI 48, vI 48, vI 48, vI (64 + 1), vI 48, vI 64, vR nl, vI 1, vI 0, vI 10] (of 8 rfl) (v := 1) rfl rfl rfl 177 rfl ?_
    rw [show ((64 + 1) : Int32) = 65 from by decide]
    refine jl w (of 9 rfl) rfl 179 rfl <| jB w Ad (i := 64) (by decide) rfl (by decide) (by rw [room_len (by simp [encs_len])]; decide) (x' := (10 : Int32).toInt8.toInt32) rfl (of 10 rfl) (Or.inl (List.mem_singleton.mpr rfl)) (List.mem_singleton.mpr rfl) 180 rfl fun T g0 w W0 Ad => ?_
    have As := As.other W0 hne
    have En := En.wr W0 n1 n2
    have Ad := Arv.stp (c := 10) Ad (by simp [encs_len]) (by decide)
    refine ji w #[vR a, vR s0, vI 0, vI 49, vR d, vR tba, vI 48, vI 48, vI 48, vI 65, vI 48, vI 64, vR nl, vI 1, vI (0 + 1), vI 10] (of 11 rfl) (v := 1) rfl rfl rfl 183 rfl ?_
    rw [show ((0 + 1) : Int32) = 1 from by decide]
    refine jt w (of 12 rfl) (by decide) 156 rfl <| jl w (oe 15 rfl) rfl 158 rfl <| jl w (of 0 rfl) rfl 160 rfl <| jg w (of 1 rfl) (by decide) 163 rfl 186 rfl (fun q => absurd q (by decide)) (fun _ => ?_)
    refine jt w (of 13 rfl) (by decide) 69 rfl <| jl w (oc 0 rfl) rfl 71 rfl <| jl w (oc 1 rfl) rfl 73 rfl <| jg w (oc 2 rfl) (by decide) 76 rfl 189 rfl (fun q => absurd q (by decide)) (fun _ => ?_)
    refine jl w (of 14 rfl) rfl 191 rfl <| jn w (of 15 rfl) rfl 192 rfl <| jg w (og 0 rfl) (by decide) 195 rfl 352 rfl (fun _ => ?_) (fun q => absurd q (by decide))
    refine jm w (og 1 rfl) rfl rfl 196 rfl <| jl w (og 2 rfl) rfl 198 rfl <| ji w #[vR a, vR s0, vI 0, vI 49, vR d, vR tba, vI (48 + 1), vI 48, vI 48, vI 65, vI 48, vI 64, vR nl, vI 1, vI 1, vI 10] (og 3 rfl) (v := 1) rfl rfl rfl 201 rfl ?_
    rw [show ((48 + 1) : Int32) = 49 from by decide]
    refine w_ldB w As (i := 48) (by decide) rfl (by rw [hn]; decide) (mapI_getD (by omega)) (og 4 rfl) 202 rfl ?_
    refine s_sipush w 255 (og 5 rfl) rfl 205 rfl <| jw w (og 6 rfl) 206 rfl <| js w #[vR a, vR s0, vI 0, vI 49, vR d, vR tba, vI 49, vI 48, vI 48, vI 65, vI ((bs.getD 48 0) &&& 255), vI 64, vR nl, vI 1, vI 1, vI 10] (og 7 rfl) rfl 208 rfl <| ja w (og 8 rfl) rfl rfl 210 rfl <| jl w (og 9 rfl) rfl 212 rfl <| ji w #[vR a, vR s0, vI 0, vI 49, vR d, vR tba, vI 49, vI 48, vI 48, vI (65 + 1), vI ((bs.getD 48 0) &&& 255), vI 64, vR nl, vI 1, vI 1, vI 10] (og 10 rfl) (v := 1) rfl rfl rfl 215 rfl ?_
    rw [show ((65 + 1) : Int32) = 66 from by decide]
    refine ja w (og 11 rfl) rfl rfl 217 rfl <| jl w (og 12 rfl) rfl 219 rfl <| jc w 2 (og 13 rfl) rfl 220 rfl <| s_ishr w (og 14 rfl) 221 rfl <| w_ldC w (ATB.ext w.old) (ix64 (sh2 _)).1 rfl (ix64 (sh2 _)).2.1 (ix64 (sh2 _)).2.2 (og 15 rfl) 222 rfl <| s_i2b w (oh 0 rfl) 223 rfl ?_
    refine jB w Ad (i := 65) (by decide) rfl (by decide) (by rw [room_len (by simp [encs_len])]; decide) (nar_byte _) (oh 1 rfl) (Or.inl (List.mem_singleton.mpr rfl)) (List.mem_singleton.mpr rfl) 224 rfl fun T g1 w W1 Ad => ?_
    have As := As.other W1 hne
    have En := En.wr W1 n1 n2
    have Ad := Arv.stp (c := (tbl (((bs.getD 48 0) &&& 255) >>> ((2 : Int32) &&& 31)))) Ad (by simp [encs_len]) (by decide)
    refine jl w (oh 2 rfl) rfl 226 rfl <| jn w (oh 3 rfl) rfl 227 rfl <| jx w (oh 4 rfl) (by decide) 230 rfl 279 rfl (fun _ => ?_) (fun q => absurd q (by decide))
    refine ja w (oh 5 rfl) rfl rfl 232 rfl <| jl w (oh 6 rfl) rfl 234 rfl <| ji w #[vR a, vR s0, vI 0, vI 49, vR d, vR tba, vI 49, vI 48, vI 48, vI (66 + 1), vI ((bs.getD 48 0) &&& 255), vI 64, vR nl, vI 1, vI 1, vI 10] (oh 7 rfl) (v := 1) rfl rfl rfl 237 rfl ?_
    rw [show ((66 + 1) : Int32) = 67 from by decide]
    refine ja w (oh 8 rfl) rfl rfl 239 rfl <| jl w (oh 9 rfl) rfl 241 rfl <| jc w 4 (oh 10 rfl) rfl 242 rfl <| s_ishl w (oh 11 rfl) 243 rfl <| jb w 63 (oh 12 rfl) rfl 245 rfl <| jw w (oh 13 rfl) 246 rfl ?_
    refine w_ldC w (ATB.ext w.old) (ix64 (m63 _)).1 rfl (ix64 (m63 _)).2.1 (ix64 (m63 _)).2.2 (oh 14 rfl) 247 rfl ?_
    refine s_i2b w (oh 15 rfl) 248 rfl <| jB w Ad (i := 66) (by decide) rfl (by decide) (by rw [room_len (by simp [encs_len])]; decide) (nar_byte _) (oi 0 rfl) (Or.inl (List.mem_singleton.mpr rfl)) (List.mem_singleton.mpr rfl) 249 rfl fun T g2 w W2 Ad => ?_
    have As := As.other W2 hne
    have En := En.wr W2 n1 n2
    have Ad := Arv.stp (c := (tbl ((((bs.getD 48 0) &&& 255) <<< ((4 : Int32) &&& 31)) &&& 63))) Ad (by simp [encs_len]) (by decide)
    refine jm w (oi 1 rfl) rfl rfl 250 rfl <| jF w (Kw hw 62 rfl) Via.refl En.2.2.2.2.1 (oi 2 rfl) 253 rfl fun T w => ?_
    refine s_if_eq w (oi 3 rfl) (by decide) 256 rfl 352 rfl (fun _ => ?_) (fun q => absurd q (by decide))
    refine ja w (oi 4 rfl) rfl rfl 258 rfl <| jl w (oi 5 rfl) rfl 260 rfl <| ji w #[vR a, vR s0, vI 0, vI 49, vR d, vR tba, vI 49, vI 48, vI 48, vI (67 + 1), vI ((bs.getD 48 0) &&& 255), vI 64, vR nl, vI 1, vI 1, vI 10] (oi 6 rfl) (v := 1) rfl rfl rfl 263 rfl ?_
    rw [show ((67 + 1) : Int32) = 68 from by decide]
    refine jb w 61 (oi 7 rfl) rfl 265 rfl <| jB w Ad (i := 67) (by decide) rfl (by decide) (by rw [room_len (by simp [encs_len])]; decide) (x' := (61 : Int32).toInt8.toInt32) rfl (oi 8 rfl) (Or.inl (List.mem_singleton.mpr rfl)) (List.mem_singleton.mpr rfl) 266 rfl fun T g3 w W3 Ad => ?_
    have As := As.other W3 hne
    have En := En.wr W3 n1 n2
    have Ad := Arv.stp (c := 61) Ad (by simp [encs_len]) (by decide)
    refine ja w (oi 9 rfl) rfl rfl 268 rfl <| jl w (oi 10 rfl) rfl 270 rfl <| ji w #[vR a, vR s0, vI 0, vI 49, vR d, vR tba, vI 49, vI 48, vI 48, vI (68 + 1), vI ((bs.getD 48 0) &&& 255), vI 64, vR nl, vI 1, vI 1, vI 10] (oi 11 rfl) (v := 1) rfl rfl rfl 273 rfl ?_
    rw [show ((68 + 1) : Int32) = 69 from by decide]
    refine jb w 61 (oi 12 rfl) rfl 275 rfl <| jB w Ad (i := 68) (by decide) rfl (by decide) (by rw [room_len (by simp [encs_len])]; decide) (x' := (61 : Int32).toInt8.toInt32) rfl (oi 13 rfl) (Or.inl (List.mem_singleton.mpr rfl)) (List.mem_singleton.mpr rfl) 276 rfl fun T g4 w W4 Ad => ?_
    have As := As.other W4 hne
    have En := En.wr W4 n1 n2
    have Ad := Arv.stp (c := 61) Ad (by simp [encs_len]) (by decide)
    refine jt w (oi 14 rfl) (by decide) 352 rfl <| jl w (ol 10 rfl) rfl 354 rfl ?_
    have eo : ((((((encs bs 16) ++ [10]) ++ [(tbl (((bs.getD 48 0) &&& 255) >>> ((2 : Int32) &&& 31)))]) ++ [(tbl ((((bs.getD 48 0) &&& 255) <<< ((4 : Int32) &&& 31)) &&& 63))]) ++ [61]) ++ [61]) = b64s bs := by simp [b64s, hn, rem1, rem2]
    rw [eo, room_full el] at Ad
    exact w_ireturn w hEL hs hlk hret rfl (Or.inl rfl) (ol 11 rfl) (by decide) (by decide) ⟨by rw [el]; rfl, by rw [el]; exact Ad⟩
open StrChars StrChars.Road

theorem tbl_lat (i : Int32) : Lat (tbl i) := by
  have q : ∀ c ∈ tb64, Lat c := by unfold Lat; decide
  unfold tbl
  by_cases h : i.toNatClampNeg < tb64.length
  · exact q _ (getD_memC h)
  · rw [List.getD_eq_getElem?_getD, List.getElem?_eq_none (Nat.le_of_not_lt h)]; show Lat 0; unfold Lat; decide
theorem encs_lat (bs : List Int32) : ∀ k, ∀ c ∈ encs bs k, Lat c
  | 0, c, h => by simp [encs] at h
  | k + 1, c, h => by
    simp only [encs, List.mem_append, List.mem_singleton] at h
    rcases h with (((h | rfl) | rfl) | rfl) | rfl
    · exact encs_lat bs k c h
    all_goals exact tbl_lat _
theorem l61 : Lat (61 : Int32) := by unfold Lat; decide
theorem b64s_lat (bs : List Int32) : ∀ c ∈ b64s bs, Lat c := by
  intro c h
  unfold b64s at h
  rw [List.mem_append, List.mem_append] at h
  rcases h with (h | h) | h
  · exact encs_lat _ _ _ h
  · split at h
    · rw [List.mem_singleton.mp h]; unfold Lat; decide
    · cases h
  · split at h
    · simp only [rem1, List.mem_cons, List.not_mem_nil, or_false] at h
      rcases h with rfl | rfl | rfl | rfl
      · exact tbl_lat _
      · exact tbl_lat _
      · exact l61
      · exact l61
    · split at h
      · simp only [rem2, List.mem_cons, List.not_mem_nil, or_false] at h
        rcases h with rfl | rfl | rfl | rfl
        · exact tbl_lat _
        · exact tbl_lat _
        · exact tbl_lat _
        · exact l61
      · cases h

theorem eol_eq {bs : List Int32} (hn8 : N8 bs.length) : eolF (Int32.ofNat bs.length) = Int32.ofNat (b64s bs).length := by
  rw [b64s_len]; unfold N8 at hn8
  rcases hn8 with hn | hn | hn | hn | hn | hn | hn | hn <;> rw [hn] <;> decide
theorem n8_int {n : Nat} (hn8 : N8 n) : Int32.ofNat n = 0 ∨ Int32.ofNat n = 1 ∨ Int32.ofNat n = 2 ∨ Int32.ofNat n = 3 ∨ Int32.ofNat n = 4 ∨ Int32.ofNat n = 5 ∨ Int32.ofNat n = 6 ∨ Int32.ofNat n = 49 := by
  unfold N8 at hn8
  rcases hn8 with hn | hn | hn | hn | hn | hn | hn | hn <;> rw [hn] <;> decide

def dL56al : List (Nat × Instr × Nat) := [(0, .aload_n 0, 1), (1, .aload_n 1, 1), (2, .arraylength, 1), (3, .iconst 1, 1), (4, .invokevirtual 42, 3), (7, .istore_n 2, 1), (8, .iload_n 2, 1), (9, .newarray .byte, 2), (11, .astore_n 3, 1), (12, .aload_n 0, 1), (13, .aload_n 1, 1), (14, .iconst 0, 1), (15, .aload_n 1, 1), (16, .arraylength, 1), (17, .aload_n 3, 1), (18, .invokevirtual 46, 3)]
theorem dL56a : ∀ x ∈ dL56al, decode jdk_2452_method_3_code x.1 = .ok x.2 := by decide +kernel
def dL56bl : List (Nat × Instr × Nat) := [(21, .istore 4, 2), (23, .iload 4, 2), (25, .aload_n 3, 1), (26, .arraylength, 1), (27, .if_icmp .eq 10, 3), (37, .aload_n 3, 1), (38, .areturn, 1)]
theorem dL56b : ∀ x ∈ dL56bl, decode jdk_2452_method_3_code x.1 = .ok x.2 := by decide +kernel
theorem rm_enc (G : Gl Z a0 zc fm tba ktb fba kfb) (h : Heap) (a : Addr) (s0 : Addr) (nl : Addr) (kn ks : ClassId) (bs : List Int32) (hn8 : N8 bs.length) (En : Enc Z h a nl kn) (As0 : Arv Z h s0 ks .byte (Int32.ofNat bs.length) (bs.map Value.int) (.int 0)) :
    Met l Z consts_1 mN56 jdk_2452_method_3_code 5 (some (.array .byte)) (mkR 2 1 69 49) #[.ref a, .ref s0] h [] [] (fun v h' => ∃ d kd, v = some (.ref d) ∧ Arv Z h' d kd .byte (Int32.ofNat (b64s bs).length) (low (b64s bs)) (.int 0) ∧ Exa Z h' d "[B") := by
  have G0 := G
  obtain ⟨hw, hEL, -⟩ := G
  refine Met.of (plainFor_of_name pn_8) ?_
  intro p e s m below meth c T hnm hret hlk hby hml hs w; have oa := @dat _ _ dL56a _ hby; have ob := @dat _ _ dL56b _ hby
  refine Run.cast (efL (L := #[vR a, vR s0, .unset, .unset, .unset]) (by simp [argsToLocals, Value.category, vI, vR, vJ])) ?_
  obtain ⟨Ea, Fu, Fn, Fl, Fp, Anl⟩ := id En
  have hM := b64s_M hn8
  refine jm w (oa 0 rfl) rfl rfl 1 rfl <| jm w (oa 1 rfl) rfl rfl 2 rfl <| w_len w As0 (oa 2 rfl) 3 rfl <| jc w 1 (oa 3 rfl) rfl 4 rfl <| w_privateH w hEL (y := mN50) (C := "java/util/Base64$Encoder") (a := a) (Kw hw 74 rfl) (Kw hw 72 rfl) rfl (Kw hw 76 rfl) (Kw hw 75 rfl) (Kw hw 50 rfl) (Kw hw 78 rfl) (by decide) Ea (rm_eol G0 h a _ nl kn (n8_int hn8) En) all0 all0 (argsL := [.int (Int32.ofNat bs.length), .int 1]) (rest := []) (lenOf pD9 rfl) rfl rfl (oa 4 rfl) (by rw [hml]; rfl) (W := 0) (Nat.le_of_eq rfl) (by decide) (by decide) (by decide) (by decide) 7 rfl fun u1 N2 T h3 w K4 P5 => ?_
  obtain ⟨rfl, rfl, rfl⟩ := P5
  rw [eol_eq hn8]
  show Run _ _ _ _ _ (mkF _ _ _ [.int (Int32.ofNat (b64s bs).length)])
  refine s_istore_n w #[vR a, vR s0, vI (Int32.ofNat (b64s bs).length), .unset, .unset] (oa 5 rfl) rfl 8 rfl <| jn w (oa 6 rfl) rfl 9 rfl <| w_newPE w (Kw hw 19 rfl) rfl (dv := .int 0) rfl (ad := "[B") (by first | rfl | decide) (oa 7 rfl) (ofNat_lt (by omega)) (n := (b64s bs).length) (Nat.le_of_eq (ofNat_nat (by omega))) (by omega) 11 rfl (by decide) (by first | omega | (dsimp only [mkR]; omega)) fun T h6 x7 k8 w E9 q10 r11 V12 X13 => ?_
  have w := w.mono (slots' := 69) (Nat.le_refl _) (by first | omega | (dsimp only [mkR]; omega))
  refine s_astore_n w #[vR a, vR s0, vI (Int32.ofNat (b64s bs).length), vR x7, .unset] (oa 8 rfl) rfl rfl 12 rfl <| jm w (oa 9 rfl) rfl rfl 13 rfl <| jm w (oa 10 rfl) rfl rfl 14 rfl <| jc w 0 (oa 11 rfl) rfl 15 rfl <| jm w (oa 12 rfl) rfl rfl 16 rfl <| w_len w (As0.ext E9) (oa 13 rfl) 17 rfl ?_
  refine jm w (oa 14 rfl) rfl rfl 18 rfl <| wP w hEL (cB41 hw) (Kw hw 85 rfl) (Kw hw 72 rfl) rfl (Kw hw 87 rfl) (Ea.ext E9) (rm_en0 G0 h6 a s0 (Int32.ofNat bs.length) x7 nl kn ks k8 bs hn8 rfl (fun z => absurd q10 (by rw [← z]; exact Nat.not_le.mpr As0.lt)) (fun z => absurd q10 (by rw [← z]; exact Nat.not_le.mpr Ea.lt)) (fun z => absurd q10 (by rw [← z]; exact Nat.not_le.mpr Anl.lt)) (En.ext E9) (As0.ext E9) V12) (allS (mi 0 rfl) all0) (allS (Or.inr r11) all0) [.ref s0, .int 0, .int (Int32.ofNat bs.length), .ref x7] [] rfl rfl rfl (oa 15 rfl) hml rfl 0 rfl (by decide) 21 rfl fun u14 N15 T h16 w K17 P18 => ?_
  obtain ⟨rfl, rfl, Ad⟩ := P18
  have Exd := Exa.keep X13 K17
  show Run _ _ _ _ _ (mkF _ _ _ [.int (Int32.ofNat (b64s bs).length)])
  refine js w #[vR a, vR s0, vI (Int32.ofNat (b64s bs).length), vR x7, vI (Int32.ofNat (b64s bs).length)] (ob 0 rfl) rfl 23 rfl <| jl w (ob 1 rfl) rfl 25 rfl <| jm w (ob 2 rfl) rfl rfl 26 rfl <| w_len w Ad (ob 3 rfl) 27 rfl <| s_icmp_eq w (ob 4 rfl) (by decide) 30 rfl 37 rfl (fun ct20 => ?_) (fun ct20 => ?_)
  · exact absurd rfl ct20
  refine jm w (ob 5 rfl) rfl rfl 38 rfl ?_
  exact w_areturn w hEL hs hlk hret rfl rfl (ob 6 rfl) (by decide) (by decide) ⟨x7, k8, rfl, Ad, Exd⟩
theorem rm_crc (G : Gl Z a0 zc fm tba ktb fba kfb) (h : Heap) (t : Addr) (N : Int32) (kt : ClassId) (vs : List Value) (hcap : N.toNatClampNeg ≤ 69) (At : Arv Z h t kt .byte N vs (.int 0)) (Et : Exa Z h t "[B") :
    Met l Z consts_1 mN30 jdk_65_method_132_code 3 (some (.array .byte)) (mkR 1 1 69 14) #[.ref t, .int 0, .int N] h [] [] (fun v h' => ∃ u, v = some (.ref u) ∧ Arv Z h' u kt .byte N vs (.int 0)) := by
  obtain ⟨hw, hEL, -⟩ := G
  refine Met.of (plainFor_of_name pn_6) ?_
  intro p e s m below meth c T hnm hret hlk hby hml hs w; have oa := @dat _ _ dL30a _ hby
  refine Run.cast (efL (L := #[vR t, vI 0, vI N]) (by simp [argsToLocals, Value.category, vI, vR, vJ])) ?_
  refine jn w (oa 0 rfl) rfl 1 rfl <| s_if_ne w (oa 1 rfl) (by decide) 4 rfl 10 rfl (fun _ => ?_) (fun q => absurd q (by decide))
  refine jn w (oa 2 rfl) rfl 5 rfl <| jm w (oa 3 rfl) rfl rfl 6 rfl <| w_len w At (oa 4 rfl) 7 rfl <| s_icmp_eq w (oa 5 rfl) (by decide) 10 rfl 17 rfl (fun ct2 => ?_) (fun ct2 => ?_)
  · exact absurd rfl ct2
  · skip
    refine jm w (oa 11 rfl) rfl rfl 18 rfl <| w_clone w (ad := "[B") (Kw hw 260 rfl) (Kw hw 261 rfl) (Kw hw 265 rfl) (Kw hw 263 rfl) (Kw hw 264 rfl) (Kw hw 266 rfl) At Et (oa 12 rfl) (by rw [hml]; rfl) (by decide) (W := 0) (Nat.le_of_eq rfl) (by decide) (cap := 69) hcap (by decide) (by decide) 21 rfl fun T h3 x4 w E5 A6 X7 => ?_
    refine w_cast w (Kw hw 267 rfl) (Ins.self X7) (oa 13 rfl) 24 rfl fun T w => ?_
    exact w_areturn w hEL hs hlk hret rfl rfl (oa 14 rfl) (by decide) (by decide) ⟨x4, rfl, A6⟩
def dL57al : List (Nat × Instr × Nat) := [(0, .aload_n 0, 1), (1, .invokespecial 1, 3), (4, .iload_n 3, 1), (5, .iload 4, 2), (7, .aload_n 1, 1), (8, .arraylength, 1), (9, .invokestatic 34, 3), (12, .pop, 1), (13, .iload 4, 2), (15, .ifCond .ne 22, 3), (18, .aload_n 0, 1), (19, .ldc 7, 2), (21, .getfield 9, 3), (24, .putfield 9, 3), (27, .aload_n 0, 1), (28, .ldc 7, 2)]
theorem dL57a : ∀ x ∈ dL57al, decode jdk_42_method_7_code x.1 = .ok x.2 := by decide +kernel
def dL57bl : List (Nat × Instr × Nat) := [(30, .getfield 15, 3), (33, .putfield 15, 3), (36, .return_, 1), (37, .getstatic 38, 3), (40, .ifCond .eq 29, 3), (43, .iload_n 2, 1), (44, .i2b, 1), (45, .ifCond .ne 24, 3), (48, .aload_n 0, 1), (49, .aload_n 1, 1), (50, .iload_n 3, 1), (51, .iload_n 3, 1), (52, .iload 4, 2), (54, .iadd, 1), (55, .invokestatic 54, 3), (58, .putfield 9, 3)]
theorem dL57b : ∀ x ∈ dL57bl, decode jdk_42_method_7_code x.1 = .ok x.2 := by decide +kernel
def dL57cl : List (Nat × Instr × Nat) := [(61, .aload_n 0, 1), (62, .iconst 0, 1), (63, .putfield 15, 3), (66, .goto 61, 3), (127, .return_, 1)]
theorem dL57c : ∀ x ∈ dL57cl, decode jdk_42_method_7_code x.1 = .ok x.2 := by decide +kernel
theorem rm_sb3 (G : Gl Z a0 zc fm tba ktb fba kfb) (h : Heap) (x : Addr) (t : Addr) (N : Int32) (kt : ClassId) (cs : List Int32) (v0 v1 : Value) (hN : N = Int32.ofNat cs.length) (h69 : cs.length ≤ 69) (hlat : ∀ c ∈ cs, Lat c) (At : Arv Z h t kt .byte (Int32.ofNat cs.length) (low cs) (.int 0)) (Et : Exa Z h t "[B") (E0 : Exa Z h x ST) (F_v : Fld Z h x ST "value" "[B" v0) (F_c : Fld Z h x ST "coder" "B" v1) :
    Met l Z consts_1 mN57 jdk_42_method_7_code 7 none (mkR 2 4 69 29) #[.ref x, .ref t, .int 0, .int 0, .int N] h [x] [x] (fun v h' => v = none ∧ ∃ u ku, S0 Z h' x u ku cs) := by
  have G0 := G
  obtain ⟨hw, hEL, SC, hz, -⟩ := G
  have hwA := fun d q => hw d (subA d q)
  refine Met.of (plainFor_of_name pn_1) ?_
  intro p e s m below meth c T hnm hret hlk hby hml hs w; have oa := @dat _ _ dL57a _ hby; have ob := @dat _ _ dL57b _ hby; have oc := @dat _ _ dL57c _ hby
  refine Run.cast (efL (L := #[vR x, vR t, vI 0, vI 0, vI N, .unset, .unset]) (by simp [argsToLocals, Value.category, vI, vR, vJ])) ?_
  have sn : Jvm.RoadKit.slotOf Z "java/lang/String" "value" "[B" ≠ Jvm.RoadKit.slotOf Z "java/lang/String" "coder" "B" := slot_ne (Or.inr (Kw hw 29 rfl)) (Or.inr (Kw hw 27 rfl)) (by decide) (t := .array .byte) (t' := .byte) (by decide) (by decide)
  rcases Nat.eq_zero_or_pos cs.length with h0 | h0
  · obtain rfl : N = 0 := by rw [hN, h0]; rfl
    rw [h0] at At
    refine jm w (oa 0 rfl) rfl rfl 1 rfl <| w_objInit w (Kw hw 11 rfl) (Kw hw 12 rfl) (Kw hw 13 rfl) (oa 1 rfl) (by rw [hml]; rfl) (by decide) (W := 0) (Nat.le_of_eq rfl) (by decide) 4 rfl fun T w => ?_
    refine jn w (oa 2 rfl) rfl 5 rfl <| jl w (oa 3 rfl) rfl 7 rfl <| jm w (oa 4 rfl) rfl rfl 8 rfl <| w_len w At (oa 5 rfl) 9 rfl ?_
    show Run _ _ _ _ _ (mkF _ _ _ [.int 0, .int 0, .int 0])
    refine wS w hEL (cB4 hw) (Kw hw 95 rfl) (rm_sbc G0 h 0 0 0 0 cs.length cs.length rfl (by rw [h0]; rfl) (by rw [h0]; rfl) (by omega) (by omega)) all0 all0 [.int 0, .int 0, .int 0] [] rfl rfl rfl (oa 6 rfl) hml rfl 0 rfl (by decide) 12 rfl fun u1 N2 T h3 w K4 P5 => ?_
    obtain ⟨rfl, rfl, rfl⟩ := P5
    show Run _ _ _ _ _ (mkF _ _ _ [.int 0])
    refine s_pop w (oa 7 rfl) rfl 13 rfl <| jl w (oa 8 rfl) rfl 15 rfl <| s_if_ne w (oa 9 rfl) (by decide) 18 rfl 37 rfl (fun _ => ?_) (fun q => absurd q (by decide))
    refine jm w (oa 10 rfl) rfl rfl 19 rfl <| w_ldcS w hEL (text := "") (Kw hw 103 rfl) hwA (by decide) (vs := []) (z := 0) (n := 0) ⟨by decide, by decide⟩ (by decide) rfl (by decide) (by decide) (oa 11 rfl) 21 rfl (by decide) (by decide) fun T h8 x9 t10 kb11 w E12 A13 C14 V15 K16 N17 => ?_
    have F18 : Str Z h8 x9 [] := Str.low A13 V15 C14 rfl rfl K16 (by decide) (by decide)
    refine jF w (Kw hw 28 rfl) Via.refl V15 (oa 12 rfl) 24 rfl fun T w => ?_
    refine w_putF w (Kw hw 28 rfl) Via.refl (F_v.ext E12) (E0.ext E12) (Or.inr ⟨(Kw hw 29 rfl), rfl, hnm⟩) (Kw hw 1 rfl) (ty := (.array .byte)) (by decide) rfl rfl (oa 13 rfl) (Or.inl (List.mem_singleton.mpr rfl)) (Or.inr (List.mem_singleton.mpr rfl)) 27 rfl fun T g1 w W1 F1 Y1 => ?_
    have B1 := K16.other W1 (Exa.neArv (E0.ext E12) K16 (Kw hw 1 rfl)).symm
    have O1 := (F_c.ext E12).other W1 (Or.inr sn.symm)
    refine jm w (oa 14 rfl) rfl rfl 28 rfl <| w_ldcS w hEL (text := "") (Kw hw 103 rfl) hwA (by decide) (vs := []) (z := 0) (n := 0) ⟨by decide, by decide⟩ (by decide) rfl (by decide) (by decide) (oa 15 rfl) 30 rfl (by decide) (by decide) fun T h19 x20 t21 kb22 w E23 A24 C25 V26 K27 N28 => ?_
    have F29 : Str Z h19 x20 [] := Str.low A24 V26 C25 rfl rfl K27 (by decide) (by decide)
    refine jF w (Kw hw 26 rfl) Via.refl C25 (ob 0 rfl) 33 rfl fun T w => ?_
    refine w_putF w (Kw hw 26 rfl) Via.refl (O1.ext E23) (Y1.ext E23) (Or.inr ⟨(Kw hw 27 rfl), rfl, hnm⟩) (Kw hw 1 rfl) (ty := .byte) (by decide) rfl rfl (ob 1 rfl) (Or.inl (List.mem_singleton.mpr rfl)) (Or.inr (List.mem_singleton.mpr rfl)) 36 rfl fun T g2 w W2 F2 Y2 => ?_
    have B2 := (B1.ext E23).other W2 (Exa.neArv (Y1.ext E23) (B1.ext E23) (Kw hw 1 rfl)).symm
    have O2 := (F1.ext E23).other W2 (Or.inr sn)
    exact w_return w hEL hs hlk hret (ob 2 rfl) (by decide) (by decide) ⟨rfl, t10, kb11, Y2, O2, F2, by rw [List.eq_nil_of_length_eq_zero h0]; exact B2, hlat, by omega⟩
  · rw [← hN] at At
    refine jm w (oa 0 rfl) rfl rfl 1 rfl <| w_objInit w (Kw hw 11 rfl) (Kw hw 12 rfl) (Kw hw 13 rfl) (oa 1 rfl) (by rw [hml]; rfl) (by decide) (W := 0) (Nat.le_of_eq rfl) (by decide) 4 rfl fun T w => ?_
    refine jn w (oa 2 rfl) rfl 5 rfl <| jl w (oa 3 rfl) rfl 7 rfl <| jm w (oa 4 rfl) rfl rfl 8 rfl <| w_len w At (oa 5 rfl) 9 rfl ?_
    show Run _ _ _ _ _ (mkF _ _ _ [.int N, .int N, .int 0])
    refine wS w hEL (cB4 hw) (Kw hw 95 rfl) (rm_sbc G0 h 0 N N 0 cs.length cs.length rfl hN hN (by omega) (by omega)) all0 all0 [.int 0, .int N, .int N] [] rfl rfl rfl (oa 6 rfl) hml rfl 0 rfl (by decide) 12 rfl fun u30 N31 T h32 w K33 P34 => ?_
    obtain ⟨rfl, rfl, rfl⟩ := P34
    show Run _ _ _ _ _ (mkF _ _ _ [.int 0])
    refine s_pop w (oa 7 rfl) rfl 13 rfl <| jl w (oa 8 rfl) rfl 15 rfl <| s_if_ne w (oa 9 rfl) (by decide) 18 rfl 37 rfl (fun ct36 => ?_) (fun ct36 => ?_)
    · exact absurd (ofN_inj' (k := 0) (by omega) (by omega) (hN.symm.trans ct36)) (by omega)
    · skip
      refine w_getS w (Kw hw 14 rfl) Via.refl (SC.ext w.old) (ob 3 rfl) 40 rfl fun T w => ?_
      refine s_if_eq w (ob 4 rfl) (by decide) 43 rfl 69 rfl (fun ct37 => ?_) (fun ct37 => ?_)
      · skip
        refine jn w (ob 5 rfl) rfl 44 rfl <| s_i2b w (ob 6 rfl) 45 rfl ?_
        rw [show ((0 : Int32).toInt8.toInt32) = 0 from by decide]
        refine s_if_ne w (ob 7 rfl) (by decide) 48 rfl 69 rfl (fun _ => ?_) (fun q => absurd q (by decide))
        refine jm w (ob 8 rfl) rfl rfl 49 rfl <| jm w (ob 9 rfl) rfl rfl 50 rfl <| jn w (ob 10 rfl) rfl 51 rfl <| jn w (ob 11 rfl) rfl 52 rfl <| jl w (ob 12 rfl) rfl 54 rfl <| jp w (ob 13 rfl) 55 rfl ?_
        rw [Int32.zero_add]
        refine wS w hEL (cB23 hw) (Kw hw 224 rfl) (rm_crc G0 h t N kt _ (by rw [hN, ofNat_nat (by omega)]; omega) At Et) all0 all0 [.ref t, .int 0, .int N] [.ref x] rfl rfl rfl (ob 14 rfl) hml rfl 1 rfl (by decide) 58 rfl fun u39 N40 T h41 w K42 P43 => ?_
        obtain ⟨rfl, u, rfl, Au⟩ := P43
        have E45 := Keep.ext0 K42
        show Run _ _ _ _ _ (mkF _ _ _ [.ref u, .ref x])
        refine w_putF w (Kw hw 28 rfl) Via.refl (F_v.ext E45) (E0.ext E45) (Or.inr ⟨(Kw hw 29 rfl), rfl, hnm⟩) (Kw hw 1 rfl) (ty := (.array .byte)) (by decide) rfl rfl (ob 15 rfl) (Or.inl (List.mem_singleton.mpr rfl)) (Or.inr (List.mem_singleton.mpr rfl)) 61 rfl fun T g1 w W1 F1 Y1 => ?_
        have B1 := Au.other W1 (Exa.neArv (E0.ext E45) Au (Kw hw 1 rfl)).symm
        have O1 := (F_c.ext E45).other W1 (Or.inr sn.symm)
        refine jm w (oc 0 rfl) rfl rfl 62 rfl <| jc w 0 (oc 1 rfl) rfl 63 rfl <| w_putF w (Kw hw 26 rfl) Via.refl O1 Y1 (Or.inr ⟨(Kw hw 27 rfl), rfl, hnm⟩) (Kw hw 1 rfl) (ty := .byte) (by decide) rfl rfl (oc 2 rfl) (Or.inl (List.mem_singleton.mpr rfl)) (Or.inr (List.mem_singleton.mpr rfl)) 66 rfl fun T g2 w W2 F2 Y2 => ?_
        have B2 := B1.other W2 (Exa.neArv Y1 B1 (Kw hw 1 rfl)).symm
        have O2 := F1.other W2 (Or.inr sn)
        refine jt w (oc 3 rfl) (by decide) 127 rfl ?_
        exact w_return w hEL hs hlk hret (oc 4 rfl) (by decide) (by decide) ⟨rfl, u, kt, Y2, O2, F2, by rw [← hN]; exact B2, hlat, by omega⟩
      · exact absurd ct37 hz
def dL58al : List (Nat × Instr × Nat) := [(0, .aload_n 0, 1), (1, .aload_n 1, 1), (2, .invokevirtual 61, 3), (5, .astore_n 2, 1), (6, .new 65, 3), (9, .dup, 1), (10, .aload_n 2, 1), (11, .iconst 0, 1), (12, .iconst 0, 1), (13, .aload_n 2, 1), (14, .arraylength, 1), (15, .invokespecial 67, 3), (18, .areturn, 1)]
theorem dL58a : ∀ x ∈ dL58al, decode jdk_2452_method_5_code x.1 = .ok x.2 := by decide +kernel
theorem rm_ets (G : Gl Z a0 zc fm tba ktb fba kfb) (h : Heap) (a : Addr) (s0 : Addr) (nl : Addr) (kn ks : ClassId) (bs : List Int32) (hn8 : N8 bs.length) (En : Enc Z h a nl kn) (As0 : Arv Z h s0 ks .byte (Int32.ofNat bs.length) (bs.map Value.int) (.int 0)) :
    Met l Z consts_1 mN58 jdk_2452_method_5_code 3 (some (.object "java/lang/String")) (mkR 3 6 142 65) #[.ref a, .ref s0] h [] [] (fun v h' => ∃ x u ku, v = some (.ref x) ∧ S0 Z h' x u ku (b64s bs)) := by
  have G0 := G
  obtain ⟨hw, hEL, -⟩ := G
  refine Met.of (plainFor_of_name pn_8) ?_
  intro p e s m below meth c T hnm hret hlk hby hml hs w; have oa := @dat _ _ dL58a _ hby
  refine Run.cast (efL (L := #[vR a, vR s0, .unset]) (by simp [argsToLocals, Value.category, vI, vR, vJ])) ?_
  obtain ⟨Ea, Fu, Fn, Fl, Fp, Anl⟩ := id En
  have hM := b64s_M hn8
  refine jm w (oa 0 rfl) rfl rfl 1 rfl <| jm w (oa 1 rfl) rfl rfl 2 rfl <| wV w hEL (cB42 hw) (Kw hw 69 rfl) (Kw hw 70 rfl) (Kw hw 72 rfl) (Kw hw 72 rfl) Ea (rm_enc G0 h a s0 nl kn ks bs hn8 En As0) all0 all0 [.ref s0] [] rfl rfl rfl (oa 2 rfl) hml rfl 0 rfl (by decide) 5 rfl fun u1 N2 T h3 w K4 P5 => ?_
  obtain ⟨rfl, d, kd, rfl, Ad, Ed⟩ := P5
  have E7 := Keep.ext0 K4
  show Run _ _ _ _ _ (mkF _ _ _ [.ref d])
  refine s_astore_n w #[vR a, vR s0, vR d] (oa 3 rfl) rfl rfl 6 rfl <| w_new w (Kw hw 91 rfl) (Kw hw 1 rfl) (Kw hw 2 rfl) (oa 4 rfl) 9 rfl (by decide) (by decide) fun T h8 x9 w E10 q11 r12 A13 D14 => ?_
  have F_coder_x9 : Fld Z h8 x9 "java/lang/String" "coder" "B" (.int 0) := D14 (Or.inr (Kw hw 27 rfl)) (ty := .byte) (by decide)
  have F_value_x9 : Fld Z h8 x9 "java/lang/String" "value" "[B" (.null) := D14 (Or.inr (Kw hw 29 rfl)) (ty := (.array .byte)) (by decide)
  refine jd w (oa 5 rfl) rfl 10 rfl <| jm w (oa 6 rfl) rfl rfl 11 rfl <| jc w 0 (oa 7 rfl) rfl 12 rfl <| jc w 0 (oa 8 rfl) rfl 13 rfl <| jm w (oa 9 rfl) rfl rfl 14 rfl <| w_len w (Ad.ext E10) (oa 10 rfl) 15 rfl ?_
  refine wI w hEL (cB43 hw) (Kw hw 92 rfl) rfl (rm_sb3 G0 h8 x9 d _ kd (b64s bs) _ _ rfl (by omega) (b64s_lat bs) (Ad.ext E10) (Ed.ext E10) A13 F_value_x9 F_coder_x9) (allS (mi 0 rfl) all0) (allS (Or.inr r12) all0) x9 [.ref d, .int 0, .int 0, .int (Int32.ofNat (b64s bs).length)] [.ref x9] rfl rfl rfl (oa 11 rfl) hml rfl 1 rfl (by decide) 18 rfl fun u15 N16 T h17 w K18 P19 => ?_
  obtain ⟨rfl, rfl, u, ku, Su⟩ := P19
  show Run _ _ _ _ _ (mkF _ _ _ [.ref x9])
  exact w_areturn w hEL hs hlk hret rfl rfl (oa 12 rfl) (by decide) (by decide) ⟨x9, u, ku, rfl, Su⟩
def pemS (ls es : List Int32) : List Int32 := ((((((([] : List Int32) ++ [45, 45, 45, 45, 45, 66, 69, 71, 73, 78, 32]) ++ ls) ++ [45, 45, 45, 45, 45, 10]) ++ es) ++ [10, 45, 45, 45, 45, 45, 69, 78, 68, 32]) ++ ls) ++ [45, 45, 45, 45, 45, 10]
def SbA (Z : State) (h : Heap) (b t : Addr) (kt : ClassId) (cap : Nat) (cs : List Int32) : Prop := Sb0 Z h b t kt cap cs ∨ Sb1 Z h b t kt cap cs
def SX (Z : State) (h : Heap) (x t : Addr) (kt : ClassId) (ds : List Int32) : Prop := S0 Z h x t kt ds ∨ S1 Z h x t kt ds
theorem SbA.ext {Z : State} {h h' : Heap} {b t : Addr} {kt : ClassId} {cap : Nat} {cs : List Int32} (F : SbA Z h b t kt cap cs) (E : Ext h h') : SbA Z h' b t kt cap cs := F.elim (fun q => Or.inl (q.ext E)) (fun q => Or.inr (q.ext E))
theorem SbA.exa {Z : State} {h : Heap} {b t : Addr} {kt : ClassId} {cap : Nat} {cs : List Int32} (F : SbA Z h b t kt cap cs) : Exa Z h b SBC := F.elim (fun q => q.1) (fun q => q.1)
theorem SX.ext {Z : State} {h h' : Heap} {b t : Addr} {kt : ClassId} {cs : List Int32} (F : SX Z h b t kt cs) (E : Ext h h') : SX Z h' b t kt cs := F.elim (fun q => Or.inl (q.ext E)) (fun q => Or.inr (q.ext E))
theorem SX.lt {Z : State} {h : Heap} {b t : Addr} {kt : ClassId} {cs : List Int32} (F : SX Z h b t kt cs) : t < h.size := F.elim (fun q => q.2.2.2.1.lt) (fun q => q.2.2.2.1.lt)
theorem Str.sx {Z : State} {h : Heap} {x : Addr} {cs : List Int32} (F : Str Z h x cs) (hl : cs.length ≤ 110) : ∃ t kt, SX Z h x t kt cs := (Str.two F hl).elim (fun ⟨t, k, q⟩ => ⟨t, k, Or.inl q⟩) (fun ⟨t, k, q⟩ => ⟨t, k, Or.inr q⟩)
def capOf (cap n : Nat) : Nat := if n ≤ cap then cap else ncap cap n

theorem rm_apA (G : Gl Z a0 zc fm tba ktb fba kfb) (h : Heap) (b : Addr) (x : Addr) {cap : Nat} (t tx : Addr) (kt kx : ClassId) (cs ds : List Int32) (B0 : SbA Z h b t kt cap cs) (X0 : SX Z h x tx kx ds) (h01 : (∀ c ∈ ds, Lat c) ∨ (cs.length + ds.length ≤ cap ∧ cap ≤ 48) ∨ ∀ c ∈ ds, c ∈ cs) (hnt : tx ≠ t) (h0c : 0 < cap) (hn5 : capOf cap (cs.length + ds.length) ≤ 178) :
    MetN l Z consts_1 mN24 jdk_67_method_7_code 2 (some (.object "java/lang/StringBuilder")) (mkR 9 1 356 130) #[.ref b, .ref x] h [t] [b, t] (fun v h' N => v = some (.ref b) ∧ ∃ t1 k1, N = [t1] ∧ (t1 = t ∨ h.size ≤ t1) ∧ SbA Z h' b t1 k1 (capOf cap (cs.length + ds.length)) (cs ++ ds)) := by
  have G0 := G
  obtain ⟨hw, hEL, -⟩ := G
  refine MetN.of (plainFor_of_name pn_5) ?_
  intro p e s m below meth c T hnm hret hlk hby hml hs w; have oa := @dat _ _ dL24a _ hby
  refine Run.cast (efL (L := #[vR b, vR x]) (by simp [argsToLocals, Value.category, vI, vR, vJ])) ?_
  rcases B0 with B0 | B0 <;> rcases X0 with X0 | X0 <;> by_cases hfit : cs.length + ds.length ≤ cap
  · skip
    rw [show capOf cap (cs.length + ds.length) = cap from if_pos hfit]
    refine jm w (oa 0 rfl) rfl rfl 1 rfl <| jm w (oa 1 rfl) rfl rfl 2 rfl <| wU w hEL (cB16 hw) (Kw hw 130 rfl) (Kw hw 133 rfl) (Kw hw 209 rfl) rfl (Kw hw 132 rfl) (by decide) B0.1 (rm_asa00 G0 h b x t tx kt kx cs ds B0 X0 hfit hnt) (allS (mi 0 rfl) all0) (allS (Or.inl (mi 0 rfl)) (allS (Or.inl (mi 1 rfl)) all0)) [.ref x] [] rfl rfl rfl (oa 2 rfl) hml rfl 0 rfl (by decide) 5 rfl fun u1 N2 T h3 w K4 P5 => ?_
    obtain ⟨rfl, t1, k1, rfl, P8, P9⟩ := P5
    show Run _ _ _ _ _ (mkF _ _ _ [.ref b])
    refine s_pop w (oa 3 rfl) rfl 6 rfl <| jm w (oa 4 rfl) rfl rfl 7 rfl ?_
    exact w_areturnN w hEL hs hlk hret rfl rfl (oa 5 rfl) (by decide) (by decide) (N := [t1]) (allP (List.mem_cons_self ..)) ⟨rfl, t1, k1, rfl, P8, Or.inl P9⟩
  · skip
    have ec : capOf cap (cs.length + ds.length) = ncap cap (cs.length + ds.length) := if_neg hfit
    rw [ec] at hn5 ⊢
    refine jm w (oa 0 rfl) rfl rfl 1 rfl <| jm w (oa 1 rfl) rfl rfl 2 rfl <| wU w hEL (cB16 hw) (Kw hw 130 rfl) (Kw hw 133 rfl) (Kw hw 209 rfl) rfl (Kw hw 132 rfl) (by decide) B0.1 (rm_asG178_00 G0 h b x t tx kt kx cs ds B0 X0 (by omega) h0c (by omega) hn5) all0 (allS (Or.inl (mi 0 rfl)) all0) [.ref x] [] rfl rfl rfl (oa 2 rfl) hml rfl 0 rfl (by decide) 5 rfl fun u6 N7 T h8 w K9 P10 => ?_
    obtain ⟨rfl, t1, k1, rfl, P8, P9⟩ := P10
    show Run _ _ _ _ _ (mkF _ _ _ [.ref b])
    refine s_pop w (oa 3 rfl) rfl 6 rfl <| jm w (oa 4 rfl) rfl rfl 7 rfl ?_
    exact w_areturnN w hEL hs hlk hret rfl rfl (oa 5 rfl) (by decide) (by decide) (N := [t1]) (allP (List.mem_cons_self ..)) ⟨rfl, t1, k1, rfl, Or.inr P8, Or.inl P9⟩
  · skip
    have hc48 : cap ≤ 48 := by
      rcases h01 with h01 | h01 | hin
      · obtain ⟨c, q⟩ := X0.2.2.2.2.1.2; exact absurd q.2 (h01 c q.1).2
      · exact h01.2
      · obtain ⟨c, q⟩ := X0.2.2.2.2.1.2; exact absurd q.2 (B0.2.2.2.2.2.2.1 c (hin c q.1)).2
    rw [show capOf cap (cs.length + ds.length) = cap from if_pos hfit]
    refine jm w (oa 0 rfl) rfl rfl 1 rfl <| jm w (oa 1 rfl) rfl rfl 2 rfl <| wU w hEL (cB16 hw) (Kw hw 130 rfl) (Kw hw 133 rfl) (Kw hw 209 rfl) rfl (Kw hw 132 rfl) (by decide) B0.1 (rm_asa01 G0 h b x t tx kt kx cs ds B0 X0 hc48 hfit hnt) (allS (mi 0 rfl) all0) (allS (Or.inl (mi 0 rfl)) (allS (Or.inl (mi 1 rfl)) all0)) [.ref x] [] rfl rfl rfl (oa 2 rfl) hml rfl 0 rfl (by decide) 5 rfl fun u11 N12 T h13 w K14 P15 => ?_
    obtain ⟨rfl, t1, k1, rfl, P8, P9⟩ := P15
    show Run _ _ _ _ _ (mkF _ _ _ [.ref b])
    refine s_pop w (oa 3 rfl) rfl 6 rfl <| jm w (oa 4 rfl) rfl rfl 7 rfl ?_
    exact w_areturnN w hEL hs hlk hret rfl rfl (oa 5 rfl) (by decide) (by decide) (N := [t1]) (allP (List.mem_cons_self ..)) ⟨rfl, t1, k1, rfl, P8, Or.inr P9⟩
  · rcases h01 with h01 | h01 | hin
    · obtain ⟨c, q⟩ := X0.2.2.2.2.1.2; exact absurd q.2 (h01 c q.1).2
    · exact absurd h01.1 hfit
    · obtain ⟨c, q⟩ := X0.2.2.2.2.1.2; exact absurd q.2 (B0.2.2.2.2.2.2.1 c (hin c q.1)).2
  · skip
    rw [show capOf cap (cs.length + ds.length) = cap from if_pos hfit]
    refine jm w (oa 0 rfl) rfl rfl 1 rfl <| jm w (oa 1 rfl) rfl rfl 2 rfl <| wU w hEL (cB16 hw) (Kw hw 130 rfl) (Kw hw 133 rfl) (Kw hw 209 rfl) rfl (Kw hw 132 rfl) (by decide) B0.1 (rm_asa10 G0 h b x t tx kt kx cs ds B0 X0 hfit hnt) (allS (mi 0 rfl) all0) (allS (Or.inl (mi 0 rfl)) (allS (Or.inl (mi 1 rfl)) all0)) [.ref x] [] rfl rfl rfl (oa 2 rfl) hml rfl 0 rfl (by decide) 5 rfl fun u16 N17 T h18 w K19 P20 => ?_
    obtain ⟨rfl, t1, k1, rfl, P8, P9⟩ := P20
    show Run _ _ _ _ _ (mkF _ _ _ [.ref b])
    refine s_pop w (oa 3 rfl) rfl 6 rfl <| jm w (oa 4 rfl) rfl rfl 7 rfl ?_
    exact w_areturnN w hEL hs hlk hret rfl rfl (oa 5 rfl) (by decide) (by decide) (N := [t1]) (allP (List.mem_cons_self ..)) ⟨rfl, t1, k1, rfl, P8, Or.inr P9⟩
  · skip
    have ec : capOf cap (cs.length + ds.length) = ncap cap (cs.length + ds.length) := if_neg hfit
    rw [ec] at hn5 ⊢
    refine jm w (oa 0 rfl) rfl rfl 1 rfl <| jm w (oa 1 rfl) rfl rfl 2 rfl <| wU w hEL (cB16 hw) (Kw hw 130 rfl) (Kw hw 133 rfl) (Kw hw 209 rfl) rfl (Kw hw 132 rfl) (by decide) B0.1 (rm_asG178_10 G0 h b x t tx kt kx cs ds B0 X0 (by omega) h0c (by omega) hn5) all0 (allS (Or.inl (mi 0 rfl)) all0) [.ref x] [] rfl rfl rfl (oa 2 rfl) hml rfl 0 rfl (by decide) 5 rfl fun u21 N22 T h23 w K24 P25 => ?_
    obtain ⟨rfl, t1, k1, rfl, P8, P9⟩ := P25
    show Run _ _ _ _ _ (mkF _ _ _ [.ref b])
    refine s_pop w (oa 3 rfl) rfl 6 rfl <| jm w (oa 4 rfl) rfl rfl 7 rfl ?_
    exact w_areturnN w hEL hs hlk hret rfl rfl (oa 5 rfl) (by decide) (by decide) (N := [t1]) (allP (List.mem_cons_self ..)) ⟨rfl, t1, k1, rfl, Or.inr P8, Or.inr P9⟩
  · skip
    rw [show capOf cap (cs.length + ds.length) = cap from if_pos hfit]
    refine jm w (oa 0 rfl) rfl rfl 1 rfl <| jm w (oa 1 rfl) rfl rfl 2 rfl <| wU w hEL (cB16 hw) (Kw hw 130 rfl) (Kw hw 133 rfl) (Kw hw 209 rfl) rfl (Kw hw 132 rfl) (by decide) B0.1 (rm_asa11 G0 h b x t tx kt kx cs ds B0 X0 hfit hnt) (allS (mi 0 rfl) all0) (allS (Or.inl (mi 0 rfl)) (allS (Or.inl (mi 1 rfl)) all0)) [.ref x] [] rfl rfl rfl (oa 2 rfl) hml rfl 0 rfl (by decide) 5 rfl fun u26 N27 T h28 w K29 P30 => ?_
    obtain ⟨rfl, t1, k1, rfl, P8, P9⟩ := P30
    show Run _ _ _ _ _ (mkF _ _ _ [.ref b])
    refine s_pop w (oa 3 rfl) rfl 6 rfl <| jm w (oa 4 rfl) rfl rfl 7 rfl ?_
    exact w_areturnN w hEL hs hlk hret rfl rfl (oa 5 rfl) (by decide) (by decide) (N := [t1]) (allP (List.mem_cons_self ..)) ⟨rfl, t1, k1, rfl, P8, Or.inr P9⟩
  · skip
    have ec : capOf cap (cs.length + ds.length) = ncap cap (cs.length + ds.length) := if_neg hfit
    rw [ec] at hn5 ⊢
    refine jm w (oa 0 rfl) rfl rfl 1 rfl <| jm w (oa 1 rfl) rfl rfl 2 rfl <| wU w hEL (cB16 hw) (Kw hw 130 rfl) (Kw hw 133 rfl) (Kw hw 209 rfl) rfl (Kw hw 132 rfl) (by decide) B0.1 (rm_asG178_11 G0 h b x t tx kt kx cs ds B0 X0 (by omega) h0c (by omega) hn5) all0 (allS (Or.inl (mi 0 rfl)) all0) [.ref x] [] rfl rfl rfl (oa 2 rfl) hml rfl 0 rfl (by decide) 5 rfl fun u31 N32 T h33 w K34 P35 => ?_
    obtain ⟨rfl, t1, k1, rfl, P8, P9⟩ := P35
    show Run _ _ _ _ _ (mkF _ _ _ [.ref b])
    refine s_pop w (oa 3 rfl) rfl 6 rfl <| jm w (oa 4 rfl) rfl rfl 7 rfl ?_
    exact w_areturnN w hEL hs hlk hret rfl rfl (oa 5 rfl) (by decide) (by decide) (N := [t1]) (allP (List.mem_cons_self ..)) ⟨rfl, t1, k1, rfl, Or.inr P8, Or.inr P9⟩
theorem pn_11 : plainName "com/example/tuikuan/tuikuan/Pem" = true := by first | (simp [plainName, overriddenIn]; done) | decide +kernel
def dL59al : List (Nat × Instr × Nat) := [(0, .bipush 64, 2), (2, .iconst 1, 1), (3, .newarray .byte, 2), (5, .dup, 1), (6, .iconst 0, 1), (7, .bipush 10, 2), (9, .bastore, 1), (10, .invokestatic 82, 3), (13, .aload_n 1, 1), (14, .invokevirtual 86, 3), (17, .astore_n 2, 1), (18, .new 7, 3), (21, .dup, 1), (22, .invokespecial 9, 3), (25, .ldc 10, 2), (27, .invokevirtual 12, 3)]
theorem dL59a : ∀ x ∈ dL59al, decode prog_20_method_3_code x.1 = .ok x.2 := by decide +kernel
def dL59bl : List (Nat × Instr × Nat) := [(30, .aload_n 0, 1), (31, .invokevirtual 12, 3), (34, .ldc 92, 2), (36, .invokevirtual 12, 3), (39, .aload_n 2, 1), (40, .invokevirtual 12, 3), (43, .ldc 94, 2), (45, .invokevirtual 12, 3), (48, .aload_n 0, 1), (49, .invokevirtual 12, 3), (52, .ldc 92, 2), (54, .invokevirtual 12, 3), (57, .invokevirtual 26, 3), (60, .areturn, 1)]
theorem dL59b : ∀ x ∈ dL59bl, decode prog_20_method_3_code x.1 = .ok x.2 := by decide +kernel
theorem rm_pe (G : Gl Z a0 zc fm tba ktb fba kfb) (h : Heap) (x : Addr) (s0 : Addr) (ks : ClassId) (bs ls : List Int32) (hn8 : N8 bs.length) (hl2 : ls.length = 2) (Sx : Str Z h x ls) (As0 : Arv Z h s0 ks .byte (Int32.ofNat bs.length) (bs.map Value.int) (.int 0)) :
    Met l Z consts_1 mN59 prog_20_method_3_code 3 (some (.object "java/lang/String")) (mkR 10 27 3035 143) #[.ref x, .ref s0] h [] [] (fun v h' => ∃ r, v = some (.ref r) ∧ Str Z h' r (pemS ls (b64s bs))) := by
  have G0 := G
  obtain ⟨hw, hEL, -⟩ := G
  have hwA := fun d q => hw d (subA d q)
  refine Met.of (plainFor_of_name pn_11) ?_
  intro p e s m below meth c T hnm hret hlk hby hml hs w; have oa := @dat _ _ dL59a _ hby; have ob := @dat _ _ dL59b _ hby
  refine Run.cast (efL (L := #[vR x, vR s0, .unset]) (by simp [argsToLocals, Value.category, vI, vR, vJ])) ?_
  have hM := b64s_M hn8
  obtain ⟨M, el⟩ : ∃ M, (b64s bs).length = M := ⟨_, rfl⟩
  rw [el] at hM
  refine jb w 64 (oa 0 rfl) rfl 2 rfl <| jc w 1 (oa 1 rfl) rfl 3 rfl <| w_newP w (Kw hw 19 rfl) rfl rfl (oa 2 rfl) (by decide) (n := 1) (by decide) (by decide) 5 rfl (by decide) (by decide) fun T h1 x2 k3 w E4 q5 r6 V7 => ?_
  refine jd w (oa 3 rfl) rfl 6 rfl <| jc w 0 (oa 4 rfl) rfl 7 rfl <| jb w 10 (oa 5 rfl) rfl 9 rfl <| jB w V7 (i := 0) (by decide) rfl (by decide) (by decide) (x' := (10 : Int32)) (by decide) (oa 6 rfl) (Or.inr r6) (mi 0 rfl) 10 rfl fun T h8 w W9 V10 => ?_
  have E11 := Ext.wr' E4 W9 q5
  refine wS w hEL (cB44 hw) (Kw hw 38 rfl) (rm_gme G0 h8 x2 k3 V10) all0 all0 [.int 64, .ref x2] [] rfl rfl rfl (oa 7 rfl) hml rfl 0 rfl (by decide) 13 rfl fun u12 N13 T h14 w K15 P16 => ?_
  obtain ⟨rfl, a, rfl, ha, En⟩ := P16
  have E18 := Keep.ext0 K15
  show Run _ _ _ _ _ (mkF _ _ _ [.ref a])
  refine jm w (oa 8 rfl) rfl rfl 14 rfl <| wV w hEL (cB45 hw) (Kw hw 64 rfl) (Kw hw 65 rfl) (Kw hw 67 rfl) (Kw hw 67 rfl) En.1 (rm_ets G0 h14 a s0 x2 k3 ks bs hn8 En ((As0.ext E11).ext E18)) all0 all0 [.ref s0] [] rfl rfl rfl (oa 9 rfl) hml rfl 0 rfl (by decide) 17 rfl fun u19 N20 T h21 w K22 P23 => ?_
  obtain ⟨rfl, y, ty, ky, rfl, Xe0⟩ := P23
  have Xe : SX Z h21 y ty ky (b64s bs) := Or.inl Xe0
  have E25 := Keep.ext0 K22
  show Run _ _ _ _ _ (mkF _ _ _ [.ref y])
  refine s_astore_n w #[vR x, vR s0, vR y] (oa 10 rfl) rfl rfl 18 rfl ?_
  have EE := (Ext.tr (Ext.tr E11 E18) E25)
  obtain ⟨tl, kl, Xl⟩ := Str.sx (Sx.ext EE) (by omega)
  have hle : h.size ≤ h21.size := EE.1
  refine w_new w (Kw hw 106 rfl) (Kw hw 107 rfl) (Kw hw 108 rfl) (oa 11 rfl) 21 rfl (by decide) (by decide) fun T h26 x27 w E28 q29 r30 A31 D32 => ?_
  have F_value_x27 : Fld Z h26 x27 "java/lang/AbstractStringBuilder" "value" "[B" (.null) := D32 (Or.inl (Kw hw 121 rfl)) (ty := (.array .byte)) (by decide)
  have F_coder_x27 : Fld Z h26 x27 "java/lang/AbstractStringBuilder" "coder" "B" (.int 0) := D32 (Or.inl (Kw hw 123 rfl)) (ty := .byte) (by decide)
  have F_count_x27 : Fld Z h26 x27 "java/lang/AbstractStringBuilder" "count" "I" (.int 0) := D32 (Or.inl (Kw hw 146 rfl)) (ty := .int) (by decide)
  have F_maybeLatin1_x27 : Fld Z h26 x27 "java/lang/AbstractStringBuilder" "maybeLatin1" "Z" (.int 0) := D32 (Or.inl (Kw hw 333 rfl)) (ty := .boolean) (by decide)
  refine jd w (oa 12 rfl) rfl 22 rfl <| wI w hEL (cB46 hw) (Kw hw 109 rfl) rfl (rm_sbi G0 h26 x27 _ _ A31 F_value_x27 F_coder_x27 F_count_x27 F_maybeLatin1_x27) all0 (allS (Or.inr r30) all0) x27 [] [.ref x27] rfl rfl rfl (oa 13 rfl) hml rfl 1 rfl (by decide) 25 rfl fun u33 N34 T h35 w K36 P37 => ?_
  obtain ⟨rfl, t0, k0_, rfl, q0, B00⟩ := P37
  have B0 : SbA Z h35 x27 t0 k0_ 16 [] := Or.inl B00
  have bt0 : h21.size ≤ t0 := Nat.le_trans E28.1 q0
  have E38 := Ext.kp E28 K36 (allS q29 all0)
  show Run _ _ _ _ _ (mkF _ _ _ [.ref x27])
  refine w_ldcS w hEL (text := "-----BEGIN ") (Kw hw 124 rfl) hwA (by decide) (vs := [.int 45, .int 45, .int 45, .int 45, .int 45, .int 66, .int 69, .int 71, .int 73, .int 78, .int 32]) (z := 11) (n := 44) ⟨by decide, by decide⟩ (by decide) rfl (by decide) (by decide) (oa 14 rfl) 27 rfl (by decide) (by decide) fun T h39 x40 t41 kb42 w E43 A44 C45 V46 K47 N48 => ?_
  have F49 : Str Z h39 x40 [45, 45, 45, 45, 45, 66, 69, 71, 73, 78, 32] := Str.low A44 V46 C45 rfl rfl K47 (by decide) (by decide)
  have Xc50 : SX Z h39 x40 t41 kb42 [45, 45, 45, 45, 45, 66, 69, 71, 73, 78, 32] := Or.inl ⟨A44, V46, C45, K47, (by unfold Lat; decide), (by decide)⟩
  have le0 : (([] : List Int32) : List Int32).length + ([45, 45, 45, 45, 45, 66, 69, 71, 73, 78, 32] : List Int32).length = 11 := by simp only [List.length_append, List.length_cons, List.length_nil, hl2, el]
  refine wV w hEL (cB47 hw) (Kw hw 125 rfl) (Kw hw 126 rfl) (Kw hw 128 rfl) (Kw hw 128 rfl) (B0.exa.ext E43) (rm_apA G0 h39 x27 x40 t0 t41 k0_ kb42 ([] : List Int32) [45, 45, 45, 45, 45, 66, 69, 71, 73, 78, 32] (B0.ext E43) Xc50 (Or.inl (by unfold Lat; decide)) (fun z => (N48 t0 (mi 0 rfl)).2 z.symm) (by decide) (by rw [le0]; exact by decide)) (allS (mi 0 rfl) all0) (allS (Or.inr r30) (allS (Or.inr (Nat.le_trans hle bt0)) all0)) [.ref x40] [] rfl rfl rfl (oa 15 rfl) hml rfl 0 rfl (by decide) 30 rfl fun u51 N52 T h53 w K54 P55 => ?_
  obtain ⟨rfl, t1, k1_, rfl, q1, B1⟩ := P55
  rw [le0] at B1
  rw [show capOf 16 11 = 16 from rfl] at B1
  have bt1 : h21.size ≤ t1 := q1.elim (fun z => by rw [z]; exact bt0) (fun z => Nat.le_trans (Ext.tr E38 E43).1 z)
  have E56 := Ext.kp (Ext.tr E38 E43) K54 (allS q29 (allS bt0 all0))
  show Run _ _ _ _ _ (mkF _ _ _ [.ref x27])
  refine jm w (ob 0 rfl) rfl rfl 31 rfl ?_
  have le1 : ((([] : List Int32) ++ [45, 45, 45, 45, 45, 66, 69, 71, 73, 78, 32]) : List Int32).length + (ls : List Int32).length = 13 := by simp only [List.length_append, List.length_cons, List.length_nil, hl2, el]
  refine wV w hEL (cB47 hw) (Kw hw 125 rfl) (Kw hw 126 rfl) (Kw hw 128 rfl) (Kw hw 128 rfl) B1.exa (rm_apA G0 h53 x27 x t1 tl k1_ kl (([] : List Int32) ++ [45, 45, 45, 45, 45, 66, 69, 71, 73, 78, 32]) ls B1 (Xl.ext E56) (Or.inr (Or.inl ⟨by rw [le1]; decide, by decide⟩)) (fun z => absurd bt1 (by rw [← z]; exact Nat.not_le.mpr Xl.lt)) (by decide) (by rw [le1]; exact by decide)) (allS (mi 0 rfl) all0) (allS (Or.inr r30) (allS (Or.inr (Nat.le_trans hle bt1)) all0)) [.ref x] [] rfl rfl rfl (ob 1 rfl) hml rfl 0 rfl (by decide) 34 rfl fun u57 N58 T h59 w K60 P61 => ?_
  obtain ⟨rfl, t2, k2_, rfl, q2, B2⟩ := P61
  rw [le1] at B2
  rw [show capOf 16 13 = 16 from rfl] at B2
  have bt2 : h21.size ≤ t2 := q2.elim (fun z => by rw [z]; exact bt1) (fun z => Nat.le_trans E56.1 z)
  have E62 := Ext.kp E56 K60 (allS q29 (allS bt1 all0))
  show Run _ _ _ _ _ (mkF _ _ _ [.ref x27])
  refine w_ldcS w hEL (text := "-----\n") (Kw hw 172 rfl) hwA (by decide) (vs := [.int 45, .int 45, .int 45, .int 45, .int 45, .int 10]) (z := 6) (n := 24) ⟨by decide, by decide⟩ (by decide) rfl (by decide) (by decide) (ob 2 rfl) 36 rfl (by decide) (by decide) fun T h63 x64 t65 kb66 w E67 A68 C69 V70 K71 N72 => ?_
  have F73 : Str Z h63 x64 [45, 45, 45, 45, 45, 10] := Str.low A68 V70 C69 rfl rfl K71 (by decide) (by decide)
  have Xc74 : SX Z h63 x64 t65 kb66 [45, 45, 45, 45, 45, 10] := Or.inl ⟨A68, V70, C69, K71, (by unfold Lat; decide), (by decide)⟩
  have le2 : (((([] : List Int32) ++ [45, 45, 45, 45, 45, 66, 69, 71, 73, 78, 32]) ++ ls) : List Int32).length + ([45, 45, 45, 45, 45, 10] : List Int32).length = 19 := by simp only [List.length_append, List.length_cons, List.length_nil, hl2, el]
  refine wV w hEL (cB47 hw) (Kw hw 125 rfl) (Kw hw 126 rfl) (Kw hw 128 rfl) (Kw hw 128 rfl) (B2.exa.ext E67) (rm_apA G0 h63 x27 x64 t2 t65 k2_ kb66 ((([] : List Int32) ++ [45, 45, 45, 45, 45, 66, 69, 71, 73, 78, 32]) ++ ls) [45, 45, 45, 45, 45, 10] (B2.ext E67) Xc74 (Or.inl (by unfold Lat; decide)) (fun z => (N72 t2 (mi 0 rfl)).2 z.symm) (by decide) (by rw [le2]; exact by decide)) (allS (mi 0 rfl) all0) (allS (Or.inr r30) (allS (Or.inr (Nat.le_trans hle bt2)) all0)) [.ref x64] [] rfl rfl rfl (ob 3 rfl) hml rfl 0 rfl (by decide) 39 rfl fun u75 N76 T h77 w K78 P79 => ?_
  obtain ⟨rfl, t3, k3_, rfl, q3, B3⟩ := P79
  rw [le2] at B3
  rw [show capOf 16 19 = 34 from rfl] at B3
  have bt3 : h21.size ≤ t3 := q3.elim (fun z => by rw [z]; exact bt2) (fun z => Nat.le_trans (Ext.tr E62 E67).1 z)
  have E80 := Ext.kp (Ext.tr E62 E67) K78 (allS q29 (allS bt2 all0))
  show Run _ _ _ _ _ (mkF _ _ _ [.ref x27])
  refine jm w (ob 4 rfl) rfl rfl 40 rfl ?_
  have le3 : ((((([] : List Int32) ++ [45, 45, 45, 45, 45, 66, 69, 71, 73, 78, 32]) ++ ls) ++ [45, 45, 45, 45, 45, 10]) : List Int32).length + ((b64s bs) : List Int32).length = 19 + M := by simp only [List.length_append, List.length_cons, List.length_nil, hl2, el] <;> omega
  refine wV w hEL (cB47 hw) (Kw hw 125 rfl) (Kw hw 126 rfl) (Kw hw 128 rfl) (Kw hw 128 rfl) B3.exa (rm_apA G0 h77 x27 y t3 ty k3_ ky (((([] : List Int32) ++ [45, 45, 45, 45, 45, 66, 69, 71, 73, 78, 32]) ++ ls) ++ [45, 45, 45, 45, 45, 10]) (b64s bs) B3 (Xe.ext E80) (Or.inl (b64s_lat bs)) (fun z => absurd bt3 (by rw [← z]; exact Nat.not_le.mpr Xe.lt)) (by decide) (by rw [le3]; exact (by rcases hM with h | h | h | h <;> rw [h] <;> decide))) (allS (mi 0 rfl) all0) (allS (Or.inr r30) (allS (Or.inr (Nat.le_trans hle bt3)) all0)) [.ref y] [] rfl rfl rfl (ob 5 rfl) hml rfl 0 rfl (by decide) 43 rfl fun u81 N82 T h83 w K84 P85 => ?_
  obtain ⟨rfl, t4, k4_, rfl, q4, B4⟩ := P85
  rw [le3] at B4
  have bt4 : h21.size ≤ t4 := q4.elim (fun z => by rw [z]; exact bt3) (fun z => Nat.le_trans E80.1 z)
  have E86 := Ext.kp E80 K84 (allS q29 (allS bt3 all0))
  show Run _ _ _ _ _ (mkF _ _ _ [.ref x27])
  refine w_ldcS w hEL (text := "\n-----END ") (Kw hw 193 rfl) hwA (by decide) (vs := [.int 10, .int 45, .int 45, .int 45, .int 45, .int 45, .int 69, .int 78, .int 68, .int 32]) (z := 10) (n := 40) ⟨by decide, by decide⟩ (by decide) rfl (by decide) (by decide) (ob 6 rfl) 45 rfl (by decide) (by decide) fun T h87 x88 t89 kb90 w E91 A92 C93 V94 K95 N96 => ?_
  have F97 : Str Z h87 x88 [10, 45, 45, 45, 45, 45, 69, 78, 68, 32] := Str.low A92 V94 C93 rfl rfl K95 (by decide) (by decide)
  have Xc98 : SX Z h87 x88 t89 kb90 [10, 45, 45, 45, 45, 45, 69, 78, 68, 32] := Or.inl ⟨A92, V94, C93, K95, (by unfold Lat; decide), (by decide)⟩
  have le4 : (((((([] : List Int32) ++ [45, 45, 45, 45, 45, 66, 69, 71, 73, 78, 32]) ++ ls) ++ [45, 45, 45, 45, 45, 10]) ++ (b64s bs)) : List Int32).length + ([10, 45, 45, 45, 45, 45, 69, 78, 68, 32] : List Int32).length = 29 + M := by simp only [List.length_append, List.length_cons, List.length_nil, hl2, el] <;> omega
  refine wV w hEL (cB47 hw) (Kw hw 125 rfl) (Kw hw 126 rfl) (Kw hw 128 rfl) (Kw hw 128 rfl) (B4.exa.ext E91) (rm_apA G0 h87 x27 x88 t4 t89 k4_ kb90 ((((([] : List Int32) ++ [45, 45, 45, 45, 45, 66, 69, 71, 73, 78, 32]) ++ ls) ++ [45, 45, 45, 45, 45, 10]) ++ (b64s bs)) [10, 45, 45, 45, 45, 45, 69, 78, 68, 32] (B4.ext E91) Xc98 (Or.inl (by unfold Lat; decide)) (fun z => (N96 t4 (mi 0 rfl)).2 z.symm) (by rcases hM with h | h | h | h <;> rw [h] <;> decide) (by rw [le4]; exact (by rcases hM with h | h | h | h <;> rw [h] <;> decide))) (allS (mi 0 rfl) all0) (allS (Or.inr r30) (allS (Or.inr (Nat.le_trans hle bt4)) all0)) [.ref x88] [] rfl rfl rfl (ob 7 rfl) hml rfl 0 rfl (by decide) 48 rfl fun u99 N100 T h101 w K102 P103 => ?_
  obtain ⟨rfl, t5, k5_, rfl, q5, B5⟩ := P103
  rw [le4] at B5
  have bt5 : h21.size ≤ t5 := q5.elim (fun z => by rw [z]; exact bt4) (fun z => Nat.le_trans (Ext.tr E86 E91).1 z)
  have E104 := Ext.kp (Ext.tr E86 E91) K102 (allS q29 (allS bt4 all0))
  show Run _ _ _ _ _ (mkF _ _ _ [.ref x27])
  refine jm w (ob 8 rfl) rfl rfl 49 rfl ?_
  have le5 : ((((((([] : List Int32) ++ [45, 45, 45, 45, 45, 66, 69, 71, 73, 78, 32]) ++ ls) ++ [45, 45, 45, 45, 45, 10]) ++ (b64s bs)) ++ [10, 45, 45, 45, 45, 45, 69, 78, 68, 32]) : List Int32).length + (ls : List Int32).length = 31 + M := by simp only [List.length_append, List.length_cons, List.length_nil, hl2, el] <;> omega
  refine wV w hEL (cB47 hw) (Kw hw 125 rfl) (Kw hw 126 rfl) (Kw hw 128 rfl) (Kw hw 128 rfl) B5.exa (rm_apA G0 h101 x27 x t5 tl k5_ kl (((((([] : List Int32) ++ [45, 45, 45, 45, 45, 66, 69, 71, 73, 78, 32]) ++ ls) ++ [45, 45, 45, 45, 45, 10]) ++ (b64s bs)) ++ [10, 45, 45, 45, 45, 45, 69, 78, 68, 32]) ls B5 (Xl.ext E104) (Or.inr (Or.inr (fun c q => (List.mem_append.mpr (Or.inl (List.mem_append.mpr (Or.inl (List.mem_append.mpr (Or.inl (List.mem_append.mpr (Or.inr q))))))))))) (fun z => absurd bt5 (by rw [← z]; exact Nat.not_le.mpr Xl.lt)) (by rcases hM with h | h | h | h <;> rw [h] <;> decide) (by rw [le5]; exact (by rcases hM with h | h | h | h <;> rw [h] <;> decide))) (allS (mi 0 rfl) all0) (allS (Or.inr r30) (allS (Or.inr (Nat.le_trans hle bt5)) all0)) [.ref x] [] rfl rfl rfl (ob 9 rfl) hml rfl 0 rfl (by decide) 52 rfl fun u105 N106 T h107 w K108 P109 => ?_
  obtain ⟨rfl, t6, k6_, rfl, q6, B6⟩ := P109
  rw [le5] at B6
  have bt6 : h21.size ≤ t6 := q6.elim (fun z => by rw [z]; exact bt5) (fun z => Nat.le_trans E104.1 z)
  have E110 := Ext.kp E104 K108 (allS q29 (allS bt5 all0))
  show Run _ _ _ _ _ (mkF _ _ _ [.ref x27])
  refine w_ldcS w hEL (text := "-----\n") (Kw hw 172 rfl) hwA (by decide) (vs := [.int 45, .int 45, .int 45, .int 45, .int 45, .int 10]) (z := 6) (n := 24) ⟨by decide, by decide⟩ (by decide) rfl (by decide) (by decide) (ob 10 rfl) 54 rfl (by decide) (by decide) fun T h111 x112 t113 kb114 w E115 A116 C117 V118 K119 N120 => ?_
  have F121 : Str Z h111 x112 [45, 45, 45, 45, 45, 10] := Str.low A116 V118 C117 rfl rfl K119 (by decide) (by decide)
  have Xc122 : SX Z h111 x112 t113 kb114 [45, 45, 45, 45, 45, 10] := Or.inl ⟨A116, V118, C117, K119, (by unfold Lat; decide), (by decide)⟩
  have le6 : (((((((([] : List Int32) ++ [45, 45, 45, 45, 45, 66, 69, 71, 73, 78, 32]) ++ ls) ++ [45, 45, 45, 45, 45, 10]) ++ (b64s bs)) ++ [10, 45, 45, 45, 45, 45, 69, 78, 68, 32]) ++ ls) : List Int32).length + ([45, 45, 45, 45, 45, 10] : List Int32).length = 37 + M := by simp only [List.length_append, List.length_cons, List.length_nil, hl2, el] <;> omega
  refine wV w hEL (cB47 hw) (Kw hw 125 rfl) (Kw hw 126 rfl) (Kw hw 128 rfl) (Kw hw 128 rfl) (B6.exa.ext E115) (rm_apA G0 h111 x27 x112 t6 t113 k6_ kb114 ((((((([] : List Int32) ++ [45, 45, 45, 45, 45, 66, 69, 71, 73, 78, 32]) ++ ls) ++ [45, 45, 45, 45, 45, 10]) ++ (b64s bs)) ++ [10, 45, 45, 45, 45, 45, 69, 78, 68, 32]) ++ ls) [45, 45, 45, 45, 45, 10] (B6.ext E115) Xc122 (Or.inl (by unfold Lat; decide)) (fun z => (N120 t6 (mi 0 rfl)).2 z.symm) (by rcases hM with h | h | h | h <;> rw [h] <;> decide) (by rw [le6]; exact (by rcases hM with h | h | h | h <;> rw [h] <;> decide))) (allS (mi 0 rfl) all0) (allS (Or.inr r30) (allS (Or.inr (Nat.le_trans hle bt6)) all0)) [.ref x112] [] rfl rfl rfl (ob 11 rfl) hml rfl 0 rfl (by decide) 57 rfl fun u123 N124 T h125 w K126 P127 => ?_
  obtain ⟨rfl, t7, k7_, rfl, q7, B7⟩ := P127
  rw [le6] at B7
  have bt7 : h21.size ≤ t7 := q7.elim (fun z => by rw [z]; exact bt6) (fun z => Nat.le_trans (Ext.tr E110 E115).1 z)
  have E128 := Ext.kp (Ext.tr E110 E115) K126 (allS q29 (allS bt6 all0))
  show Run _ _ _ _ _ (mkF _ _ _ [.ref x27])
  have le9 : ((((((((([] : List Int32) ++ [45, 45, 45, 45, 45, 66, 69, 71, 73, 78, 32]) ++ ls) ++ [45, 45, 45, 45, 45, 10]) ++ (b64s bs)) ++ [10, 45, 45, 45, 45, 45, 69, 78, 68, 32]) ++ ls) ++ [45, 45, 45, 45, 45, 10])).length = 37 + M := by rw [List.length_append]; exact le6
  rcases B7 with Bz | Bz
  · skip
    refine wV w hEL (cB48 hw) (Kw hw 194 rfl) (Kw hw 195 rfl) (Kw hw 197 rfl) (Kw hw 197 rfl) Bz.1 (rm_tos0 G0 h125 x27 t7 k7_ (((((((([] : List Int32) ++ [45, 45, 45, 45, 45, 66, 69, 71, 73, 78, 32]) ++ ls) ++ [45, 45, 45, 45, 45, 10]) ++ (b64s bs)) ++ [10, 45, 45, 45, 45, 45, 69, 78, 68, 32]) ++ ls) ++ [45, 45, 45, 45, 45, 10]) Bz (by rw [le9]; exact (by rcases hM with h | h | h | h <;> rw [h] <;> decide)) (by rw [le9]; exact (by rcases hM with h | h | h | h <;> rw [h] <;> decide))) all0 all0 [] [] rfl rfl rfl (ob 12 rfl) hml rfl 0 rfl (by decide) 60 rfl fun u129 N130 T h131 w K132 P133 => ?_
    obtain ⟨rfl, r0, rfl, S9⟩ := P133
    show Run _ _ _ _ _ (mkF _ _ _ [.ref r0])
    exact w_areturn w hEL hs hlk hret rfl rfl (ob 13 rfl) (by decide) (by decide) ⟨r0, rfl, S9⟩
  · skip
    refine wV w hEL (cB48 hw) (Kw hw 194 rfl) (Kw hw 195 rfl) (Kw hw 197 rfl) (Kw hw 197 rfl) Bz.1 (rm_tos1 G0 h125 x27 t7 k7_ (((((((([] : List Int32) ++ [45, 45, 45, 45, 45, 66, 69, 71, 73, 78, 32]) ++ ls) ++ [45, 45, 45, 45, 45, 10]) ++ (b64s bs)) ++ [10, 45, 45, 45, 45, 45, 69, 78, 68, 32]) ++ ls) ++ [45, 45, 45, 45, 45, 10]) Bz (by rw [le9]; exact (by rcases hM with h | h | h | h <;> rw [h] <;> decide)) (by rw [le9]; exact (by rcases hM with h | h | h | h <;> rw [h] <;> decide))) all0 all0 [] [] rfl rfl rfl (ob 12 rfl) hml rfl 0 rfl (by decide) 60 rfl fun u135 N136 T h137 w K138 P139 => ?_
    obtain ⟨rfl, r0, rfl, S9⟩ := P139
    show Run _ _ _ _ _ (mkF _ _ _ [.ref r0])
    exact w_areturn w hEL hs hlk hret rfl rfl (ob 13 rfl) (by decide) (by decide) ⟨r0, rfl, S9⟩
open StrChars StrChars.Road

def g0 (x0 : Int32) : Int32 := tbl (x0 >>> ((2 : Int32) &&& 31))
def g1 (x0 x1 : Int32) : Int32 := tbl (((x0 &&& 3) <<< ((4 : Int32) &&& 31)) ||| (x1 >>> ((4 : Int32) &&& 31)))
def g2 (x1 x2 : Int32) : Int32 := tbl (((x1 &&& 15) <<< ((2 : Int32) &&& 31)) ||| (x2 >>> ((6 : Int32) &&& 31)))
def g3 (x2 : Int32) : Int32 := tbl (x2 &&& 63)
abbrev By (q : Int32) : Prop := 0 ≤ q.toInt ∧ q.toInt < 256
theorem by0 : By 0 := by decide
theorem ushr_int (x q : Int32) (k : Nat) (hk : q.toBitVec.toNat % 32 = k) (h0 : 0 < k) : (XT.ushr x q).toInt = (x.toInt % 4294967296) / (2 ^ k : Nat) := c_iushr x q k hk h0
theorem eqI {x y : Int32} (h : x.toInt = y.toInt) : x = y := Int32.toInt_inj.mp h
def b64v (v : Int32) : Int32 := if v < 26 then nar .char (65 + v) else if v < 52 then nar .char (97 + (v - 26)) else if v < 62 then nar .char (48 + (v - 52)) else if v = 62 then 43 else 47
theorem b64v_all : ∀ k : Fin 64, b64v (Int32.ofNat k.val) = tbl (Int32.ofNat k.val) := by decide +kernel
theorem b64v_tbl {v : Int32} (h : 0 ≤ v.toInt ∧ v.toInt < 64) : b64v v = tbl v := by
  have e : v = Int32.ofNat v.toInt.toNat := by
    rw [← Int32.toInt_inj, Int32.toInt_ofNat_of_lt (by omega)]; omega
  rw [e]; exact b64v_all ⟨v.toInt.toNat, by omega⟩
theorem ub_rng (x : Int64) : By (x &&& 255).toInt32 := by
  have a := c_maskL x 255 8 (by decide) (by decide)
  have b := c_l2i (x &&& 255)
  have r := rng32 (x &&& 255).toInt32
  unfold By
  omega
theorem lat_by {q : Int32} (h : By q) : Lat q := lat_iff.mpr (by unfold By at h; omega)
theorem ba {q : Int32} (h : By q) : q.toInt8.toInt32 &&& 255 = q := by
  have l := lat_by h
  have e := lo8_mask l.1 l.2
  unfold lo8 at e
  exact e
theorem d0 {q : Int32} : (q >>> ((2 : Int32) &&& 31)).toInt = q.toInt / 4 := by rw [c_ishr _ 2 2 (by decide)]; omega
theorem d4 {q : Int32} : (q >>> ((4 : Int32) &&& 31)).toInt = q.toInt / 16 := by rw [c_ishr _ 4 4 (by decide)]; omega
theorem d6 {q : Int32} : (q >>> ((6 : Int32) &&& 31)).toInt = q.toInt / 64 := by rw [c_ishr _ 6 6 (by decide)]; omega
theorem e3 {q : Int32} : ((q &&& 3) <<< ((4 : Int32) &&& 31)).toInt = q.toInt % 4 * 16 := by
  have a := c_mask q 3 2 (by decide) (by decide)
  have b := c_ishl (q &&& 3) 4 4 (by decide)
  have r := rng32 ((q &&& 3) <<< ((4 : Int32) &&& 31))
  omega
theorem e15 {q : Int32} : ((q &&& 15) <<< ((2 : Int32) &&& 31)).toInt = q.toInt % 16 * 4 := by
  have a := c_mask q 15 4 (by decide) (by decide)
  have b := c_ishl (q &&& 15) 2 2 (by decide)
  have r := rng32 ((q &&& 15) <<< ((2 : Int32) &&& 31))
  omega
theorem v1 {x y : Int32} (hy : By y) : (((x &&& 3) <<< ((4 : Int32) &&& 31)) ||| (y >>> ((4 : Int32) &&& 31))).toInt = x.toInt % 4 * 16 + y.toInt / 16 := by
  have a := c_or ((x &&& 3) <<< ((4 : Int32) &&& 31)) (y >>> ((4 : Int32) &&& 31)) 4 (by decide) 16 (by decide) (by rw [e3]; omega) (by rw [d4]; unfold By at hy; omega) (by rw [d4]; unfold By at hy; omega)
  rw [e3, d4] at a
  have r := rng32 (((x &&& 3) <<< ((4 : Int32) &&& 31)) ||| (y >>> ((4 : Int32) &&& 31)))
  unfold By at hy
  omega
theorem v2 {x y : Int32} (hy : By y) : (((x &&& 15) <<< ((2 : Int32) &&& 31)) ||| (y >>> ((6 : Int32) &&& 31))).toInt = x.toInt % 16 * 4 + y.toInt / 64 := by
  have a := c_or ((x &&& 15) <<< ((2 : Int32) &&& 31)) (y >>> ((6 : Int32) &&& 31)) 2 (by decide) 4 (by decide) (by rw [e15]; omega) (by rw [d6]; unfold By at hy; omega) (by rw [d6]; unfold By at hy; omega)
  rw [e15, d6] at a
  have r := rng32 (((x &&& 15) <<< ((2 : Int32) &&& 31)) ||| (y >>> ((6 : Int32) &&& 31)))
  unfold By at hy
  omega
theorem rg0 {x : Int32} (h : By x) : 0 ≤ (x >>> ((2 : Int32) &&& 31)).toInt ∧ (x >>> ((2 : Int32) &&& 31)).toInt < 64 := by rw [d0]; unfold By at h; omega
theorem rg1 {x y : Int32} (hy : By y) : 0 ≤ (((x &&& 3) <<< ((4 : Int32) &&& 31)) ||| (y >>> ((4 : Int32) &&& 31))).toInt ∧ (((x &&& 3) <<< ((4 : Int32) &&& 31)) ||| (y >>> ((4 : Int32) &&& 31))).toInt < 64 := by rw [v1 hy]; unfold By at hy; omega
theorem rg2 {x y : Int32} (hy : By y) : 0 ≤ (((x &&& 15) <<< ((2 : Int32) &&& 31)) ||| (y >>> ((6 : Int32) &&& 31))).toInt ∧ (((x &&& 15) <<< ((2 : Int32) &&& 31)) ||| (y >>> ((6 : Int32) &&& 31))).toInt < 64 := by rw [v2 hy]; unfold By at hy; omega
theorem bits_int {a b c : Int32} (ha : By a) (hb' : By b) (hc : By c) : (bits3 a.toInt8.toInt32 b.toInt8.toInt32 c.toInt8.toInt32).toInt = a.toInt * 65536 + b.toInt * 256 + c.toInt := by
  unfold bits3
  rw [ba ha, ba hb', ba hc]
  have s1 := c_ishl a 16 16 (by decide)
  have s2 := c_ishl b 8 8 (by decide)
  have r1 := rng32 (a <<< ((16 : Int32) &&& 31))
  have r2 := rng32 (b <<< ((8 : Int32) &&& 31))
  unfold By at ha hb' hc
  have o1 := c_or (a <<< ((16 : Int32) &&& 31)) (b <<< ((8 : Int32) &&& 31)) 16 (by decide) 65536 (by decide) (by omega) (by omega) (by omega)
  have r3 := rng32 ((a <<< ((16 : Int32) &&& 31)) ||| (b <<< ((8 : Int32) &&& 31)))
  have o2 := c_or ((a <<< ((16 : Int32) &&& 31)) ||| (b <<< ((8 : Int32) &&& 31))) c 8 (by decide) 256 (by decide) (by omega) (by omega) (by omega)
  have r4 := rng32 (((a <<< ((16 : Int32) &&& 31)) ||| (b <<< ((8 : Int32) &&& 31))) ||| c)
  omega
theorem j0 {a b c : Int32} (ha : By a) (hb' : By b) (hc : By c) : tbl ((XT.ushr (bits3 a.toInt8.toInt32 b.toInt8.toInt32 c.toInt8.toInt32) 18) &&& 63) = g0 a := by
  refine congrArg tbl (eqI ?_)
  rw [c_mask _ 63 6 (by decide) (by decide), ushr_int _ 18 18 (by decide) (by decide), bits_int ha hb' hc, d0]
  unfold By at ha hb' hc; omega
theorem j1 {a b c : Int32} (ha : By a) (hb' : By b) (hc : By c) : tbl ((XT.ushr (bits3 a.toInt8.toInt32 b.toInt8.toInt32 c.toInt8.toInt32) 12) &&& 63) = g1 a b := by
  refine congrArg tbl (eqI ?_)
  rw [c_mask _ 63 6 (by decide) (by decide), ushr_int _ 12 12 (by decide) (by decide), bits_int ha hb' hc, v1 hb']
  unfold By at ha hb' hc; omega
theorem j2 {a b c : Int32} (ha : By a) (hb' : By b) (hc : By c) : tbl ((XT.ushr (bits3 a.toInt8.toInt32 b.toInt8.toInt32 c.toInt8.toInt32) 6) &&& 63) = g2 b c := by
  refine congrArg tbl (eqI ?_)
  rw [c_mask _ 63 6 (by decide) (by decide), ushr_int _ 6 6 (by decide) (by decide), bits_int ha hb' hc, v2 hc]
  unfold By at ha hb' hc; omega
theorem j3 {a b c : Int32} (ha : By a) (hb' : By b) (hc : By c) : tbl (bits3 a.toInt8.toInt32 b.toInt8.toInt32 c.toInt8.toInt32 &&& 63) = g3 c := by
  refine congrArg tbl (eqI ?_)
  rw [c_mask _ 63 6 (by decide) (by decide), bits_int ha hb' hc, c_mask _ 63 6 (by decide) (by decide)]
  unfold By at ha hb' hc; omega
theorem sl63 {x q : Int32} (k : Nat) (hk : q.toBitVec.toNat % 32 = k) (P : Int) (hP : P = (2 ^ k : Nat)) : ((x <<< (q &&& 31)) &&& 63).toInt = (x.toInt * P) % 64 := by
  have a := c_mask (x <<< (q &&& 31)) 63 6 (by decide) (by decide)
  have b := c_ishl x q k hk
  rw [← hP] at b
  omega
theorem k1 {a : Int32} (ha : By a) : rem1 a.toInt8.toInt32 = [g0 a, g1 a 0, 61, 61] := by
  unfold rem1
  rw [ba ha]
  have e : tbl ((a <<< ((4 : Int32) &&& 31)) &&& 63) = g1 a 0 := by
    refine congrArg tbl (eqI ?_)
    rw [sl63 4 (by decide) 16 (by decide), v1 by0]
    have : (0 : Int32).toInt = 0 := by decide
    unfold By at ha; omega
  rw [e]; rfl
theorem k2 {a b : Int32} (ha : By a) (hb' : By b) : rem2 a.toInt8.toInt32 b.toInt8.toInt32 = [g0 a, g1 a b, g2 b 0, 61] := by
  unfold rem2
  rw [ba ha, ba hb']
  have e1 : tbl (((a <<< ((4 : Int32) &&& 31)) &&& 63) ||| (b >>> ((4 : Int32) &&& 31))) = g1 a b := by
    refine congrArg tbl (eqI ?_)
    have s := sl63 (x := a) (q := 4) 4 (by decide) 16 (by decide)
    have d := d4 (q := b)
    unfold By at ha hb'
    have o := c_or ((a <<< ((4 : Int32) &&& 31)) &&& 63) (b >>> ((4 : Int32) &&& 31)) 4 (by decide) 16 (by decide) (by omega) (by omega) (by omega)
    have r := rng32 (((a <<< ((4 : Int32) &&& 31)) &&& 63) ||| (b >>> ((4 : Int32) &&& 31)))
    rw [v1 hb']
    omega
  have e2 : tbl ((b <<< ((2 : Int32) &&& 31)) &&& 63) = g2 b 0 := by
    refine congrArg tbl (eqI ?_)
    rw [sl63 2 (by decide) 4 (by decide), v2 by0]
    have : (0 : Int32).toInt = 0 := by decide
    unfold By at hb'; omega
  rw [e1, e2]; rfl
theorem grp3 {a b c : Int32} (ha : By a) (hb' : By b) (hc : By c) {P : List Int32} : ((((P ++ [tbl ((XT.ushr (bits3 a.toInt8.toInt32 b.toInt8.toInt32 c.toInt8.toInt32) 18) &&& 63)]) ++ [tbl ((XT.ushr (bits3 a.toInt8.toInt32 b.toInt8.toInt32 c.toInt8.toInt32) 12) &&& 63)]) ++ [tbl ((XT.ushr (bits3 a.toInt8.toInt32 b.toInt8.toInt32 c.toInt8.toInt32) 6) &&& 63)]) ++ [tbl (bits3 a.toInt8.toInt32 b.toInt8.toInt32 c.toInt8.toInt32 &&& 63)]) = P ++ [g0 a, g1 a b, g2 b c, g3 c] := by
  rw [j0 ha hb' hc, j1 ha hb' hc, j2 ha hb' hc, j3 ha hb' hc]; simp

def G2 (k x1 x2 : Int32) : Int32 := if k < 2 then 61 else g2 x1 x2
def G3 (k x2 : Int32) : Int32 := if k = 3 then g3 x2 else 61
theorem G2_lat (k x y : Int32) : Lat (G2 k x y) := by unfold G2; split; exact l61; exact tbl_lat _
theorem G3_lat (k x : Int32) : Lat (G3 k x) := by unfold G3; split; exact tbl_lat _; exact l61
abbrev K3 (k : Int32) : Prop := k = 1 ∨ k = 2 ∨ k = 3

theorem genc {bs : List Int32} {k : Nat} {a b c : Int32} (ha : By a) (hb' : By b) (hc : By c) (h0 : bs.getD (3 * k) 0 = a.toInt8.toInt32) (h1 : bs.getD (3 * k + 1) 0 = b.toInt8.toInt32) (h2 : bs.getD (3 * k + 1 + 1) 0 = c.toInt8.toInt32) : encs bs (k + 1) = encs bs k ++ [g0 a, g1 a b, g2 b c, g3 c] := by
  rw [encs, h0, h1, h2]; exact grp3 ha hb' hc
theorem bs_0 : b64s [] = [] := rfl
theorem bs_1 {q0 : Int32} (rq0 : By q0) : b64s [q0.toInt8.toInt32] = [g0 q0, g1 q0 0, 61, 61] := by
  have hl : ([q0.toInt8.toInt32] : List Int32).length = 1 := rfl
  have e : b64s [q0.toInt8.toInt32] = encs [q0.toInt8.toInt32] 0 ++ [] ++ rem1 (q0.toInt8.toInt32) := by
    unfold b64s
    rw [hl, if_neg (by decide), if_pos (by decide)]; rfl
  rw [e]
  rw [k1 rq0]
  simp only [encs, List.nil_append, List.cons_append, List.append_nil]
theorem bs_2 {q0 : Int32} (rq0 : By q0) {q1 : Int32} (rq1 : By q1) : b64s [q0.toInt8.toInt32, q1.toInt8.toInt32] = [g0 q0, g1 q0 q1, g2 q1 0, 61] := by
  have hl : ([q0.toInt8.toInt32, q1.toInt8.toInt32] : List Int32).length = 2 := rfl
  have e : b64s [q0.toInt8.toInt32, q1.toInt8.toInt32] = encs [q0.toInt8.toInt32, q1.toInt8.toInt32] 0 ++ [] ++ rem2 (q0.toInt8.toInt32) (q1.toInt8.toInt32) := by
    unfold b64s
    rw [hl, if_neg (by decide), if_neg (by decide), if_pos (by decide)]; rfl
  rw [e]
  rw [k2 rq0 rq1]
  simp only [encs, List.nil_append, List.cons_append, List.append_nil]
theorem bs_3 {q0 : Int32} (rq0 : By q0) {q1 : Int32} (rq1 : By q1) {q2 : Int32} (rq2 : By q2) : b64s [q0.toInt8.toInt32, q1.toInt8.toInt32, q2.toInt8.toInt32] = [g0 q0, g1 q0 q1, g2 q1 q2, g3 q2] := by
  have hl : ([q0.toInt8.toInt32, q1.toInt8.toInt32, q2.toInt8.toInt32] : List Int32).length = 3 := rfl
  have e : b64s [q0.toInt8.toInt32, q1.toInt8.toInt32, q2.toInt8.toInt32] = encs [q0.toInt8.toInt32, q1.toInt8.toInt32, q2.toInt8.toInt32] 1 ++ [] ++ [] := by
    unfold b64s
    rw [hl, if_neg (by decide), if_neg (by decide), if_neg (by decide)]
  rw [e]
  rw [genc (k := 0) rq0 rq1 rq2 rfl rfl rfl]
  simp only [encs, List.nil_append, List.cons_append, List.append_nil]
theorem bs_4 {q0 : Int32} (rq0 : By q0) {q1 : Int32} (rq1 : By q1) {q2 : Int32} (rq2 : By q2) {q3 : Int32} (rq3 : By q3) : b64s [q0.toInt8.toInt32, q1.toInt8.toInt32, q2.toInt8.toInt32, q3.toInt8.toInt32] = [g0 q0, g1 q0 q1, g2 q1 q2, g3 q2, g0 q3, g1 q3 0, 61, 61] := by
  have hl : ([q0.toInt8.toInt32, q1.toInt8.toInt32, q2.toInt8.toInt32, q3.toInt8.toInt32] : List Int32).length = 4 := rfl
  have e : b64s [q0.toInt8.toInt32, q1.toInt8.toInt32, q2.toInt8.toInt32, q3.toInt8.toInt32] = encs [q0.toInt8.toInt32, q1.toInt8.toInt32, q2.toInt8.toInt32, q3.toInt8.toInt32] 1 ++ [] ++ rem1 (q3.toInt8.toInt32) := by
    unfold b64s
    rw [hl, if_neg (by decide), if_pos (by decide)]; rfl
  rw [e]
  rw [k1 rq3]
  rw [genc (k := 0) rq0 rq1 rq2 rfl rfl rfl]
  simp only [encs, List.nil_append, List.cons_append, List.append_nil]
theorem bs_5 {q0 : Int32} (rq0 : By q0) {q1 : Int32} (rq1 : By q1) {q2 : Int32} (rq2 : By q2) {q3 : Int32} (rq3 : By q3) {q4 : Int32} (rq4 : By q4) : b64s [q0.toInt8.toInt32, q1.toInt8.toInt32, q2.toInt8.toInt32, q3.toInt8.toInt32, q4.toInt8.toInt32] = [g0 q0, g1 q0 q1, g2 q1 q2, g3 q2, g0 q3, g1 q3 q4, g2 q4 0, 61] := by
  have hl : ([q0.toInt8.toInt32, q1.toInt8.toInt32, q2.toInt8.toInt32, q3.toInt8.toInt32, q4.toInt8.toInt32] : List Int32).length = 5 := rfl
  have e : b64s [q0.toInt8.toInt32, q1.toInt8.toInt32, q2.toInt8.toInt32, q3.toInt8.toInt32, q4.toInt8.toInt32] = encs [q0.toInt8.toInt32, q1.toInt8.toInt32, q2.toInt8.toInt32, q3.toInt8.toInt32, q4.toInt8.toInt32] 1 ++ [] ++ rem2 (q3.toInt8.toInt32) (q4.toInt8.toInt32) := by
    unfold b64s
    rw [hl, if_neg (by decide), if_neg (by decide), if_pos (by decide)]; rfl
  rw [e]
  rw [k2 rq3 rq4]
  rw [genc (k := 0) rq0 rq1 rq2 rfl rfl rfl]
  simp only [encs, List.nil_append, List.cons_append, List.append_nil]
theorem bs_6 {q0 : Int32} (rq0 : By q0) {q1 : Int32} (rq1 : By q1) {q2 : Int32} (rq2 : By q2) {q3 : Int32} (rq3 : By q3) {q4 : Int32} (rq4 : By q4) {q5 : Int32} (rq5 : By q5) : b64s [q0.toInt8.toInt32, q1.toInt8.toInt32, q2.toInt8.toInt32, q3.toInt8.toInt32, q4.toInt8.toInt32, q5.toInt8.toInt32] = [g0 q0, g1 q0 q1, g2 q1 q2, g3 q2, g0 q3, g1 q3 q4, g2 q4 q5, g3 q5] := by
  have hl : ([q0.toInt8.toInt32, q1.toInt8.toInt32, q2.toInt8.toInt32, q3.toInt8.toInt32, q4.toInt8.toInt32, q5.toInt8.toInt32] : List Int32).length = 6 := rfl
  have e : b64s [q0.toInt8.toInt32, q1.toInt8.toInt32, q2.toInt8.toInt32, q3.toInt8.toInt32, q4.toInt8.toInt32, q5.toInt8.toInt32] = encs [q0.toInt8.toInt32, q1.toInt8.toInt32, q2.toInt8.toInt32, q3.toInt8.toInt32, q4.toInt8.toInt32, q5.toInt8.toInt32] 2 ++ [] ++ [] := by
    unfold b64s
    rw [hl, if_neg (by decide), if_neg (by decide), if_neg (by decide)]
  rw [e]
  rw [genc (k := 1) rq3 rq4 rq5 rfl rfl rfl, genc (k := 0) rq0 rq1 rq2 rfl rfl rfl]
  simp only [encs, List.nil_append, List.cons_append, List.append_nil]
def bs49 (a0 a1 a2 b0 b1 b2 c0 : Int32) : List Int32 := [a0, a1, a2, 0, 0, 0, 0, 0, 0, 0, 0, 0, 0, 0, 0, 0, 0, 0, 0, 0, 0, 0, 0, 0, 0, 0, 0, 0, 0, 0, 0, 0, 0, 0, 0, 0, 0, 0, 0, 0, 0, 0, 0, 0, 0, b0, b1, b2, c0]
theorem z65 : [tbl ((XT.ushr (bits3 0 0 0) 18) &&& 63)] = [(65 : Int32)] ∧ [tbl ((XT.ushr (bits3 0 0 0) 12) &&& 63)] = [(65 : Int32)] ∧ [tbl ((XT.ushr (bits3 0 0 0) 6) &&& 63)] = [(65 : Int32)] ∧ [tbl (bits3 0 0 0 &&& 63)] = [(65 : Int32)] := by decide +kernel
theorem zgrp {P : List Int32} : ((((P ++ [tbl ((XT.ushr (bits3 0 0 0) 18) &&& 63)]) ++ [tbl ((XT.ushr (bits3 0 0 0) 12) &&& 63)]) ++ [tbl ((XT.ushr (bits3 0 0 0) 6) &&& 63)]) ++ [tbl (bits3 0 0 0 &&& 63)]) = P ++ [65, 65, 65, 65] := by
  rw [z65.1, z65.2.1, z65.2.2.1, z65.2.2.2]; simp
theorem zenc {bs : List Int32} {k : Nat} (h0 : bs.getD (3 * k) 0 = 0) (h1 : bs.getD (3 * k + 1) 0 = 0) (h2 : bs.getD (3 * k + 1 + 1) 0 = 0) : encs bs (k + 1) = encs bs k ++ [65, 65, 65, 65] := by
  rw [encs, h0, h1, h2]; exact zgrp
theorem bs_49 {a0 : Int32} (ra0 : By a0) {a1 : Int32} (ra1 : By a1) {a2 : Int32} (ra2 : By a2) {b0 : Int32} (rb0 : By b0) {b1 : Int32} (rb1 : By b1) {b2 : Int32} (rb2 : By b2) {c0 : Int32} (rc0 : By c0) : b64s (bs49 a0.toInt8.toInt32 a1.toInt8.toInt32 a2.toInt8.toInt32 b0.toInt8.toInt32 b1.toInt8.toInt32 b2.toInt8.toInt32 c0.toInt8.toInt32) = [g0 a0, g1 a0 a1, g2 a1 a2, g3 a2, 65, 65, 65, 65, 65, 65, 65, 65, 65, 65, 65, 65, 65, 65, 65, 65, 65, 65, 65, 65, 65, 65, 65, 65, 65, 65, 65, 65, 65, 65, 65, 65, 65, 65, 65, 65, 65, 65, 65, 65, 65, 65, 65, 65, 65, 65, 65, 65, 65, 65, 65, 65, 65, 65, 65, 65, g0 b0, g1 b0 b1, g2 b1 b2, g3 b2, 10, g0 c0, g1 c0 0, 61, 61] := by
  have hl : (bs49 a0.toInt8.toInt32 a1.toInt8.toInt32 a2.toInt8.toInt32 b0.toInt8.toInt32 b1.toInt8.toInt32 b2.toInt8.toInt32 c0.toInt8.toInt32).length = 49 := rfl
  have hc : (bs49 a0.toInt8.toInt32 a1.toInt8.toInt32 a2.toInt8.toInt32 b0.toInt8.toInt32 b1.toInt8.toInt32 b2.toInt8.toInt32 c0.toInt8.toInt32).getD 48 0 = c0.toInt8.toInt32 := rfl
  have e : b64s (bs49 a0.toInt8.toInt32 a1.toInt8.toInt32 a2.toInt8.toInt32 b0.toInt8.toInt32 b1.toInt8.toInt32 b2.toInt8.toInt32 c0.toInt8.toInt32) = encs (bs49 a0.toInt8.toInt32 a1.toInt8.toInt32 a2.toInt8.toInt32 b0.toInt8.toInt32 b1.toInt8.toInt32 b2.toInt8.toInt32 c0.toInt8.toInt32) 16 ++ [10] ++ rem1 (c0.toInt8.toInt32) := by
    unfold b64s
    rw [hl, if_pos rfl, if_pos (by decide), show 3 * (49 / 3) = 48 from rfl, hc]
  rw [e, k1 rc0]
  rw [genc (k := 15) rb0 rb1 rb2 rfl rfl rfl, zenc (k := 14) rfl rfl rfl, zenc (k := 13) rfl rfl rfl, zenc (k := 12) rfl rfl rfl, zenc (k := 11) rfl rfl rfl, zenc (k := 10) rfl rfl rfl, zenc (k := 9) rfl rfl rfl, zenc (k := 8) rfl rfl rfl, zenc (k := 7) rfl rfl rfl, zenc (k := 6) rfl rfl rfl, zenc (k := 5) rfl rfl rfl, zenc (k := 4) rfl rfl rfl, zenc (k := 3) rfl rfl rfl, zenc (k := 2) rfl rfl rfl, zenc (k := 1) rfl rfl rfl, genc (k := 0) ra0 ra1 ra2 rfl rfl rfl, encs]
  simp only [List.nil_append, List.cons_append]
theorem pem49 (l0 l1 : Int32) {a0 : Int32} (ra0 : By a0) {a1 : Int32} (ra1 : By a1) {a2 : Int32} (ra2 : By a2) {b0 : Int32} (rb0 : By b0) {b1 : Int32} (rb1 : By b1) {b2 : Int32} (rb2 : By b2) {c0 : Int32} (rc0 : By c0) (cs : List Int32) (hcs : pemS [l0, l1] (b64s (bs49 a0.toInt8.toInt32 a1.toInt8.toInt32 a2.toInt8.toInt32 b0.toInt8.toInt32 b1.toInt8.toInt32 b2.toInt8.toInt32 c0.toInt8.toInt32)) = cs) : cs.length = 106 ∧ cs.getD 0 0 = 45 ∧ cs.getD 5 0 = 66 ∧ cs.getD 10 0 = 32 ∧ cs.getD 11 0 = l0 ∧ cs.getD 12 0 = l1 ∧ cs.getD 17 0 = 45 ∧ cs.getD 18 0 = 10 ∧ cs.getD 19 0 = g0 a0 ∧ cs.getD 20 0 = g1 a0 a1 ∧ cs.getD 21 0 = g2 a1 a2 ∧ cs.getD 22 0 = g3 a2 ∧ cs.getD 23 0 = 65 ∧ cs.getD 78 0 = 65 ∧ cs.getD 79 0 = g0 b0 ∧ cs.getD 80 0 = g1 b0 b1 ∧ cs.getD 81 0 = g2 b1 b2 ∧ cs.getD 82 0 = g3 b2 ∧ cs.getD 83 0 = 10 ∧ cs.getD 84 0 = g0 c0 ∧ cs.getD 85 0 = g1 c0 0 ∧ cs.getD 86 0 = 61 ∧ cs.getD 87 0 = 61 ∧ cs.getD 88 0 = 10 ∧ cs.getD 89 0 = 45 ∧ cs.getD 93 0 = 45 ∧ cs.getD 94 0 = 69 ∧ cs.getD 95 0 = 78 ∧ cs.getD 96 0 = 68 ∧ cs.getD 97 0 = 32 ∧ cs.getD 98 0 = l0 ∧ cs.getD 99 0 = l1 ∧ cs.getD 100 0 = 45 ∧ cs.getD 104 0 = 45 ∧ cs.getD 105 0 = 10 := by
  have e : cs = [45, 45, 45, 45, 45, 66, 69, 71, 73, 78, 32, l0, l1, 45, 45, 45, 45, 45, 10, g0 a0, g1 a0 a1, g2 a1 a2, g3 a2, 65, 65, 65, 65, 65, 65, 65, 65, 65, 65, 65, 65, 65, 65, 65, 65, 65, 65, 65, 65, 65, 65, 65, 65, 65, 65, 65, 65, 65, 65, 65, 65, 65, 65, 65, 65, 65, 65, 65, 65, 65, 65, 65, 65, 65, 65, 65, 65, 65, 65, 65, 65, 65, 65, 65, 65, g0 b0, g1 b0 b1, g2 b1 b2, g3 b2, 10, g0 c0, g1 c0 0, 61, 61, 10, 45, 45, 45, 45, 45, 69, 78, 68, 32, l0, l1, 45, 45, 45, 45, 45, 10] := by
    rw [← hcs, bs_49 ra0 ra1 ra2 rb0 rb1 rb2 rc0]; simp only [pemS, List.nil_append, List.cons_append]
  subst e
  exact ⟨rfl, rfl, rfl, rfl, rfl, rfl, rfl, rfl, rfl, rfl, rfl, rfl, rfl, rfl, rfl, rfl, rfl, rfl, rfl, rfl, rfl, rfl, rfl, rfl, rfl, rfl, rfl, rfl, rfl, rfl, rfl, rfl, rfl, rfl, rfl⟩
theorem i32_65535 : (65535 : Int32).toInt = 65535 := by decide
theorem chr_iff {c : Int32} : Chr c ↔ 0 ≤ c.toInt ∧ c.toInt ≤ 65535 := by
  unfold Chr
  rw [Int32.lt_iff_toInt_lt, Int32.lt_iff_toInt_lt, i32_0, i32_65535]
  omega
theorem Chr.nar {c : Int32} (h : Chr c) : nar .char c = c := nar_id (by have := chr_iff.mp h; omega)
theorem chr_nar (x : Int32) : Chr (nar .char x) := by
  have q := c_i2c x
  rw [← nar_char] at q
  rw [chr_iff]
  omega

def CA (Z : State) (h : Heap) (x : Addr) (k : ClassId) (n : Nat) (cs : List Int32) (i : Nat) : Prop := Arv Z h x k .char (Int32.ofNat n) (cs.map Value.int ++ List.replicate (n - i) (.int 0)) (.int 0) ∧ cs.length = i ∧ n ≤ 1000
theorem CA.new {Z : State} {h : Heap} {x : Addr} {k : ClassId} {n : Nat} (A : Arv Z h x k .char (Int32.ofNat n) (List.replicate n (.int 0)) (.int 0)) (hn : n ≤ 1000) : CA Z h x k n [] 0 := ⟨A, rfl, hn⟩
theorem CA.full {Z : State} {h : Heap} {x : Addr} {k : ClassId} {n : Nat} {cs : List Int32} (A : CA Z h x k n cs n) : Arv Z h x k .char (Int32.ofNat n) (cs.map Value.int) (.int 0) := by
  have q := A.1
  rw [Nat.sub_self, List.replicate_zero, List.append_nil] at q; exact q
theorem CA.ext {Z : State} {h h' : Heap} {x : Addr} {k : ClassId} {n i : Nat} {cs : List Int32} (A : CA Z h x k n cs i) (E : Ext h h') : CA Z h' x k n cs i := ⟨A.1.ext E, A.2⟩
theorem ca_set {cs : List Int32} {n i : Nat} {v : Int32} (hl : cs.length = i) (hin : i < n) : (cs.map Value.int ++ List.replicate (n - i) (Value.int 0)).set i (.int v) = (cs ++ [v]).map Value.int ++ List.replicate (n - (i + 1)) (.int 0) := by
  have hm : (cs.map Value.int).length = i := by rw [List.length_map, hl]
  rw [show n - i = (n - (i + 1)) + 1 from by omega, List.replicate_succ, List.set_append_right _ _ (by rw [hm]; exact Nat.le_refl _), hm, Nat.sub_self]
  simp
theorem w_csC {p : Program} {l : Launch} {e : Env} {R : Room} {s : State} {m : MethodId} {args : Array Value} {below : List Frame} {meth : Method} {c : Code} {Z : State} {EL : List (String × Nat)} {own : String} {h0 : Heap} {ws : List Addr} {T : State} {h : Heap} {cells slots : Nat} {S : List Addr} {Q : Outcome → State → Prop} {pc : Nat} {Ls : Array Slot} {rest : List Value} {x : Addr} {k : ClassId} {n i : Nat} {cs : List Int32} {j v : Int32} (w : Wk p l e R s m args below meth c Z EL own h0 ws T h cells slots S) (A : CA Z h x k n cs i) (cs' : List Int32) (hcs : cs ++ [v] = cs') (hj : j = Int32.ofNat i) (hin : i < n) (hx : nar .char v = v) (hd : decode c.code pc = .ok (.castore, 1)) (q : x ∈ ws ∨ h0.size ≤ x) {hb0 : Heap} (E : Ext hb0 h) (hq : hb0.size ≤ x) (pc' : Nat) (hp : pc + 1 = pc') (i' : Nat) (hi' : i + 1 = i')
    (kk : ∀ T' h', Wk p l e R s m args below meth c Z EL own h0 ws T' h' cells slots S → Ext hb0 h' → CA Z h' x k n cs' i' → Run p e below Q T' (mkF m pc' Ls rest)) : Run p e below Q T (mkF m pc Ls (.int v :: .int j :: .ref x :: rest)) := by
  obtain ⟨V, hl, hn⟩ := A
  subst hcs hj hi'
  refine jC w V (i := i) (ofNat_lt (by omega)) (ofNat_nat (by omega)) (by rw [ofNat_nat (by omega)]; exact hin) (by rw [List.length_append, List.length_map, hl, List.length_replicate]; omega) hx hd q _ hp fun T' h' w' W' V' => ?_
  rw [ca_set hl hin] at V'
  exact kk T' h' w' (Ext.wr' E W' hq) ⟨V', by rw [List.length_append, hl]; rfl, hn⟩
theorem chC {a : Int32} {t : List Int32} (h : Chr a) (ht : ∀ c ∈ t, Chr c) : ∀ c ∈ a :: t, Chr c := fun c q => (List.mem_cons.mp q).elim (fun z => by rw [z]; exact h) (ht c)
theorem chN : ∀ c ∈ ([] : List Int32), Chr c := fun _ q => nomatch q
theorem chA {a b : List Int32} (ha : ∀ c ∈ a, Chr c) (hb' : ∀ c ∈ b, Chr c) : ∀ c ∈ a ++ b, Chr c := fun c q => (List.mem_append.mp q).elim (ha c) (hb' c)
theorem chL1 : ∀ c ∈ ([45, 45, 45, 45, 45, 66, 69, 71, 73, 78, 32] : List Int32), Chr c := by unfold Chr; decide
theorem chL2 : ∀ c ∈ ([45, 45, 45, 45, 45, 10] : List Int32), Chr c := by unfold Chr; decide
theorem chL3 : ∀ c ∈ ([10, 45, 45, 45, 45, 45, 69, 78, 68, 32] : List Int32), Chr c := by unfold Chr; decide
theorem pemS_chr {ls es : List Int32} (h : ∀ c ∈ ls, Chr c) (h' : ∀ c ∈ es, Chr c) : ∀ c ∈ pemS ls es, Chr c := chA (chA (chA (chA (chA (chA (chA chN chL1) h) chL2) h') chL3) h) chL2

theorem pn_12 : plainName "com/example/tuikuan/tuikuan/PemEncodePinLaw" = true := by first | (simp [plainName, overriddenIn]; done) | decide +kernel
def dL60al : List (Nat × Instr × Nat) := [(0, .lload_n 0, 1), (1, .bipush 8, 2), (3, .iload_n 2, 1), (4, .imul, 1), (5, .lushr, 1), (6, .ldc2_w 7, 3), (9, .land, 1), (10, .l2i, 1), (11, .ireturn, 1)]
theorem dL60a : ∀ x ∈ dL60al, decode method_2_code x.1 = .ok x.2 := by decide +kernel
theorem rm_ub (G : Gl Z a0 zc fm tba ktb fba kfb) (h : Heap) (w0 : Int64) (i : Int32)  :
    Met l Z consts_1 mN60 method_2_code 3 (some .int) (mkR 0 0 0 0) #[.long w0, .int i] h [] [] (fun v h' => ∃ q, v = some (.int q) ∧ h = h' ∧ By q) := by
  obtain ⟨hw, hEL, -⟩ := G
  refine Met.of (plainFor_of_name pn_12) ?_
  intro p e s m below meth c T hnm hret hlk hby hml hs w; have oa := @dat _ _ dL60a _ hby
  refine Run.cast (efL (L := #[vJ w0, .second, vI i]) (by simp [argsToLocals, Value.category, vI, vR, vJ])) ?_
  refine s_lload_n w (oa 0 rfl) rfl 1 rfl <| jb w 8 (oa 1 rfl) rfl 3 rfl <| jn w (oa 2 rfl) rfl 4 rfl <| s_imul w (oa 3 rfl) 5 rfl <| s_lushr w (oa 4 rfl) 6 rfl <| w_ldcJ w (v := 255) (Kw hw 247 rfl) (oa 5 rfl) 9 rfl ?_
  refine s_land w (oa 6 rfl) 10 rfl <| s_l2i w (oa 7 rfl) 11 rfl ?_
  exact w_ireturn w hEL hs hlk hret rfl (Or.inl rfl) (oa 8 rfl) (by decide) (by decide) ⟨_, rfl, rfl, ub_rng _⟩
def dL61al : List (Nat × Instr × Nat) := [(0, .iload_n 0, 1), (1, .bipush 26, 2), (3, .if_icmp .ge 9, 3), (6, .bipush 65, 2), (8, .iload_n 0, 1), (9, .iadd, 1), (10, .i2c, 1), (11, .ireturn, 1), (12, .iload_n 0, 1), (13, .bipush 52, 2), (15, .if_icmp .ge 12, 3), (18, .bipush 97, 2), (20, .iload_n 0, 1), (21, .bipush 26, 2), (23, .isub, 1), (24, .iadd, 1)]
theorem dL61a : ∀ x ∈ dL61al, decode method_3_code x.1 = .ok x.2 := by decide +kernel
def dL61bl : List (Nat × Instr × Nat) := [(25, .i2c, 1), (26, .ireturn, 1), (27, .iload_n 0, 1), (28, .bipush 62, 2), (30, .if_icmp .ge 12, 3), (33, .bipush 48, 2), (35, .iload_n 0, 1), (36, .bipush 52, 2), (38, .isub, 1), (39, .iadd, 1), (40, .i2c, 1), (41, .ireturn, 1), (42, .iload_n 0, 1), (43, .bipush 62, 2), (45, .if_icmp .ne 6, 3), (48, .bipush 43, 2)]
theorem dL61b : ∀ x ∈ dL61bl, decode method_3_code x.1 = .ok x.2 := by decide +kernel
def dL61cl : List (Nat × Instr × Nat) := [(50, .ireturn, 1), (51, .bipush 47, 2), (53, .ireturn, 1)]
theorem dL61c : ∀ x ∈ dL61cl, decode method_3_code x.1 = .ok x.2 := by decide +kernel
theorem rm_b64 (G : Gl Z a0 zc fm tba ktb fba kfb) (h : Heap) (v0 : Int32) (hv : 0 ≤ v0.toInt ∧ v0.toInt < 64) :
    Met l Z consts_1 mN61 method_3_code 1 (some .char) (mkR 0 0 0 0) #[.int v0] h [] [] (fun v h' => v = some (.int (tbl v0)) ∧ h = h') := by
  obtain ⟨-, hEL, -⟩ := G
  refine Met.of (plainFor_of_name pn_12) ?_
  intro p e s m below meth c T hnm hret hlk hby hml hs w; have oa := @dat _ _ dL61a _ hby; have ob := @dat _ _ dL61b _ hby; have oc := @dat _ _ dL61c _ hby
  refine Run.cast (efL (L := #[vI v0]) (by simp [argsToLocals, Value.category, vI, vR, vJ])) ?_
  refine jn w (oa 0 rfl) rfl 1 rfl <| jb w 26 (oa 1 rfl) rfl 3 rfl <| jg w (oa 2 rfl) (by decide) 6 rfl 12 rfl (fun ct1 => ?_) (fun ct1 => ?_)
  · -- v0 < 26
    refine jb w 65 (oa 3 rfl) rfl 8 rfl <| jn w (oa 4 rfl) rfl 9 rfl <| jp w (oa 5 rfl) 10 rfl <| s_i2c w (oa 6 rfl) 11 rfl ?_
    have e : ((nar .char (65 + v0)) : Int32) = tbl v0 := by rw [← b64v_tbl hv]; unfold b64v; rw [if_pos ct1]
    rw [e]
    exact w_ireturn w hEL hs hlk hret (congrArg Value.int (tbl_lat _).nar) (Or.inr (Or.inr (Or.inr (Or.inl rfl)))) (oa 7 rfl) (by decide) (by decide) ⟨rfl, rfl⟩
  · -- ¬ (v0 < 26)
    refine jn w (oa 8 rfl) rfl 13 rfl <| jb w 52 (oa 9 rfl) rfl 15 rfl <| jg w (oa 10 rfl) (by decide) 18 rfl 27 rfl (fun ct2 => ?_) (fun ct2 => ?_)
    · -- v0 < 52
      refine jb w 97 (oa 11 rfl) rfl 20 rfl <| jn w (oa 12 rfl) rfl 21 rfl <| jb w 26 (oa 13 rfl) rfl 23 rfl <| s_isub w (oa 14 rfl) 24 rfl <| jp w (oa 15 rfl) 25 rfl <| s_i2c w (ob 0 rfl) 26 rfl ?_
      have e : ((nar .char (97 + (v0 - 26))) : Int32) = tbl v0 := by rw [← b64v_tbl hv]; unfold b64v; rw [if_neg ct1, if_pos ct2]
      rw [e]
      exact w_ireturn w hEL hs hlk hret (congrArg Value.int (tbl_lat _).nar) (Or.inr (Or.inr (Or.inr (Or.inl rfl)))) (ob 1 rfl) (by decide) (by decide) ⟨rfl, rfl⟩
    · -- ¬ (v0 < 52)
      refine jn w (ob 2 rfl) rfl 28 rfl <| jb w 62 (ob 3 rfl) rfl 30 rfl <| jg w (ob 4 rfl) (by decide) 33 rfl 42 rfl (fun ct3 => ?_) (fun ct3 => ?_)
      · -- v0 < 62
        refine jb w 48 (ob 5 rfl) rfl 35 rfl <| jn w (ob 6 rfl) rfl 36 rfl <| jb w 52 (ob 7 rfl) rfl 38 rfl <| s_isub w (ob 8 rfl) 39 rfl <| jp w (ob 9 rfl) 40 rfl <| s_i2c w (ob 10 rfl) 41 rfl ?_
        have e : ((nar .char (48 + (v0 - 52))) : Int32) = tbl v0 := by rw [← b64v_tbl hv]; unfold b64v; rw [if_neg ct1, if_neg ct2, if_pos ct3]
        rw [e]
        exact w_ireturn w hEL hs hlk hret (congrArg Value.int (tbl_lat _).nar) (Or.inr (Or.inr (Or.inr (Or.inl rfl)))) (ob 11 rfl) (by decide) (by decide) ⟨rfl, rfl⟩
      · -- ¬ (v0 < 62)
        refine jn w (ob 12 rfl) rfl 43 rfl <| jb w 62 (ob 13 rfl) rfl 45 rfl <| jx w (ob 14 rfl) (by decide) 48 rfl 51 rfl (fun ct4 => ?_) (fun ct4 => ?_)
        · -- v0 = 62
          refine jb w 43 (ob 15 rfl) rfl 50 rfl ?_
          have e : (43 : Int32) = tbl v0 := by rw [← b64v_tbl hv]; unfold b64v; rw [if_neg ct1, if_neg ct2, if_neg ct3, if_pos ct4]
          rw [e]
          exact w_ireturn w hEL hs hlk hret (congrArg Value.int (tbl_lat _).nar) (Or.inr (Or.inr (Or.inr (Or.inl rfl)))) (oc 0 rfl) (by decide) (by decide) ⟨rfl, rfl⟩
        · -- ¬ (v0 = 62)
          refine jb w 47 (oc 1 rfl) rfl 53 rfl ?_
          have e : (47 : Int32) = tbl v0 := by rw [← b64v_tbl hv]; unfold b64v; rw [if_neg ct1, if_neg ct2, if_neg ct3, if_neg ct4]
          rw [e]
          exact w_ireturn w hEL hs hlk hret (congrArg Value.int (tbl_lat _).nar) (Or.inr (Or.inr (Or.inr (Or.inl rfl)))) (oc 2 rfl) (by decide) (by decide) ⟨rfl, rfl⟩
def dL62al : List (Nat × Instr × Nat) := [(0, .iload 4, 2), (2, .ifCond .ne 10, 3), (5, .iload_n 0, 1), (6, .iconst 2, 1), (7, .ishr, 1), (8, .invokestatic 9, 3), (11, .ireturn, 1), (12, .iload 4, 2), (14, .iconst 1, 1), (15, .if_icmp .ne 16, 3), (18, .iload_n 0, 1), (19, .iconst 3, 1), (20, .iand, 1), (21, .iconst 4, 1), (22, .ishl, 1), (23, .iload_n 1, 1)]
theorem dL62a : ∀ x ∈ dL62al, decode method_4_code x.1 = .ok x.2 := by decide +kernel
def dL62bl : List (Nat × Instr × Nat) := [(24, .iconst 4, 1), (25, .ishr, 1), (26, .ior, 1), (27, .invokestatic 9, 3), (30, .ireturn, 1), (31, .iload 4, 2), (33, .iconst 2, 1), (34, .if_icmp .ne 28, 3), (37, .iload_n 3, 1), (38, .iconst 2, 1), (39, .if_icmp .lt 20, 3), (42, .iload_n 1, 1), (43, .bipush 15, 2), (45, .iand, 1), (46, .iconst 2, 1), (47, .ishl, 1)]
theorem dL62b : ∀ x ∈ dL62bl, decode method_4_code x.1 = .ok x.2 := by decide +kernel
def dL62cl : List (Nat × Instr × Nat) := [(48, .iload_n 2, 1), (49, .bipush 6, 2), (51, .ishr, 1), (52, .ior, 1), (53, .invokestatic 9, 3), (56, .goto 5, 3), (59, .bipush 61, 2), (61, .ireturn, 1), (62, .iload_n 3, 1), (63, .iconst 3, 1), (64, .if_icmp .ne 13, 3), (67, .iload_n 2, 1), (68, .bipush 63, 2), (70, .iand, 1), (71, .invokestatic 9, 3), (74, .goto 5, 3)]
theorem dL62c : ∀ x ∈ dL62cl, decode method_4_code x.1 = .ok x.2 := by decide +kernel
def dL62dl : List (Nat × Instr × Nat) := [(77, .bipush 61, 2), (79, .ireturn, 1)]
theorem dL62d : ∀ x ∈ dL62dl, decode method_4_code x.1 = .ok x.2 := by decide +kernel
theorem rm_grp0 (G : Gl Z a0 zc fm tba ktb fba kfb) (h : Heap) (x0 : Int32) (x1 : Int32) (x2 : Int32) (k0 : Int32) (r0 : By x0) (r1 : By x1) (r2 : By x2) :
    Met l Z consts_1 mN62 method_4_code 5 (some .char) (mkR 1 0 0 12) #[.int x0, .int x1, .int x2, .int k0, .int 0] h [] [] (fun v h' => v = some (.int (g0 x0)) ∧ h = h') := by
  have G0 := G
  obtain ⟨hw, hEL, -⟩ := G
  refine Met.of (plainFor_of_name pn_12) ?_
  intro p e s m below meth c T hnm hret hlk hby hml hs w; have oa := @dat _ _ dL62a _ hby
  refine Run.cast (efL (L := #[vI x0, vI x1, vI x2, vI k0, vI 0]) (by simp [argsToLocals, Value.category, vI, vR, vJ])) ?_
  refine jl w (oa 0 rfl) rfl 2 rfl <| s_if_ne w (oa 1 rfl) (by decide) 5 rfl 12 rfl (fun _ => ?_) (fun q => absurd q (by decide))
  refine jn w (oa 2 rfl) rfl 6 rfl <| jc w 2 (oa 3 rfl) rfl 7 rfl <| s_ishr w (oa 4 rfl) 8 rfl <| wS w hEL (cB49 hw) (Kw hw 251 rfl) (rm_b64 G0 h (x0 >>> ((2 : Int32) &&& 31)) (rg0 r0)) all0 all0 [.int (x0 >>> ((2 : Int32) &&& 31))] [] rfl rfl rfl (oa 5 rfl) hml rfl 0 rfl (by decide) 11 rfl fun u2 N3 T h4 w K5 P6 => ?_
  obtain ⟨rfl, rfl, rfl⟩ := P6
  show Run _ _ _ _ _ (mkF _ _ _ [.int (g0 x0)])
  exact w_ireturn w hEL hs hlk hret (congrArg Value.int (tbl_lat _).nar) (Or.inr (Or.inr (Or.inr (Or.inl rfl)))) (oa 6 rfl) (by decide) (by decide) ⟨rfl, rfl⟩
theorem rm_grp1 (G : Gl Z a0 zc fm tba ktb fba kfb) (h : Heap) (x0 : Int32) (x1 : Int32) (x2 : Int32) (k0 : Int32) (r0 : By x0) (r1 : By x1) (r2 : By x2) :
    Met l Z consts_1 mN62 method_4_code 5 (some .char) (mkR 1 0 0 12) #[.int x0, .int x1, .int x2, .int k0, .int 1] h [] [] (fun v h' => v = some (.int (g1 x0 x1)) ∧ h = h') := by
  have G0 := G
  obtain ⟨hw, hEL, -⟩ := G
  refine Met.of (plainFor_of_name pn_12) ?_
  intro p e s m below meth c T hnm hret hlk hby hml hs w; have oa := @dat _ _ dL62a _ hby; have ob := @dat _ _ dL62b _ hby
  refine Run.cast (efL (L := #[vI x0, vI x1, vI x2, vI k0, vI 1]) (by simp [argsToLocals, Value.category, vI, vR, vJ])) ?_
  refine jl w (oa 0 rfl) rfl 2 rfl <| s_if_ne w (oa 1 rfl) (by decide) 5 rfl 12 rfl (fun q => absurd q (by decide)) (fun _ => ?_)
  refine jl w (oa 7 rfl) rfl 14 rfl <| jc w 1 (oa 8 rfl) rfl 15 rfl <| jx w (oa 9 rfl) (by decide) 18 rfl 31 rfl (fun _ => ?_) (fun q => absurd q (by decide))
  refine jn w (oa 10 rfl) rfl 19 rfl <| jc w 3 (oa 11 rfl) rfl 20 rfl <| jw w (oa 12 rfl) 21 rfl <| jc w 4 (oa 13 rfl) rfl 22 rfl <| s_ishl w (oa 14 rfl) 23 rfl <| jn w (oa 15 rfl) rfl 24 rfl ?_
  refine jc w 4 (ob 0 rfl) rfl 25 rfl <| s_ishr w (ob 1 rfl) 26 rfl <| s_ior w (ob 2 rfl) 27 rfl <| wS w hEL (cB49 hw) (Kw hw 251 rfl) (rm_b64 G0 h (((x0 &&& 3) <<< ((4 : Int32) &&& 31)) ||| (x1 >>> ((4 : Int32) &&& 31))) (rg1 r1)) all0 all0 [.int (((x0 &&& 3) <<< ((4 : Int32) &&& 31)) ||| (x1 >>> ((4 : Int32) &&& 31)))] [] rfl rfl rfl (ob 3 rfl) hml rfl 0 rfl (by decide) 30 rfl fun u3 N4 T h5 w K6 P7 => ?_
  obtain ⟨rfl, rfl, rfl⟩ := P7
  show Run _ _ _ _ _ (mkF _ _ _ [.int (g1 x0 x1)])
  exact w_ireturn w hEL hs hlk hret (congrArg Value.int (tbl_lat _).nar) (Or.inr (Or.inr (Or.inr (Or.inl rfl)))) (ob 4 rfl) (by decide) (by decide) ⟨rfl, rfl⟩
theorem rm_grp2 (G : Gl Z a0 zc fm tba ktb fba kfb) (h : Heap) (x0 : Int32) (x1 : Int32) (x2 : Int32) (k0 : Int32) (r0 : By x0) (r1 : By x1) (r2 : By x2) :
    Met l Z consts_1 mN62 method_4_code 5 (some .char) (mkR 1 0 0 12) #[.int x0, .int x1, .int x2, .int k0, .int 2] h [] [] (fun v h' => v = some (.int (G2 k0 x1 x2)) ∧ h = h') := by
  have G0 := G
  obtain ⟨hw, hEL, -⟩ := G
  refine Met.of (plainFor_of_name pn_12) ?_
  intro p e s m below meth c T hnm hret hlk hby hml hs w; have oa := @dat _ _ dL62a _ hby; have ob := @dat _ _ dL62b _ hby; have oc := @dat _ _ dL62c _ hby
  refine Run.cast (efL (L := #[vI x0, vI x1, vI x2, vI k0, vI 2]) (by simp [argsToLocals, Value.category, vI, vR, vJ])) ?_
  refine jl w (oa 0 rfl) rfl 2 rfl <| s_if_ne w (oa 1 rfl) (by decide) 5 rfl 12 rfl (fun q => absurd q (by decide)) (fun _ => ?_)
  refine jl w (oa 7 rfl) rfl 14 rfl <| jc w 1 (oa 8 rfl) rfl 15 rfl <| jx w (oa 9 rfl) (by decide) 18 rfl 31 rfl (fun q => absurd q (by decide)) (fun _ => ?_)
  refine jl w (ob 5 rfl) rfl 33 rfl <| jc w 2 (ob 6 rfl) rfl 34 rfl <| jx w (ob 7 rfl) (by decide) 37 rfl 62 rfl (fun _ => ?_) (fun q => absurd q (by decide))
  refine jn w (ob 8 rfl) rfl 38 rfl <| jc w 2 (ob 9 rfl) rfl 39 rfl <| s_icmp_lt w (ob 10 rfl) (by decide) 42 rfl 59 rfl (fun ct4 => ?_) (fun ct4 => ?_)
  · -- ¬ (k0 < 2)
    refine jn w (ob 11 rfl) rfl 43 rfl <| jb w 15 (ob 12 rfl) rfl 45 rfl <| jw w (ob 13 rfl) 46 rfl <| jc w 2 (ob 14 rfl) rfl 47 rfl <| s_ishl w (ob 15 rfl) 48 rfl <| jn w (oc 0 rfl) rfl 49 rfl ?_
    refine jb w 6 (oc 1 rfl) rfl 51 rfl <| s_ishr w (oc 2 rfl) 52 rfl <| s_ior w (oc 3 rfl) 53 rfl <| wS w hEL (cB49 hw) (Kw hw 251 rfl) (rm_b64 G0 h (((x1 &&& 15) <<< ((2 : Int32) &&& 31)) ||| (x2 >>> ((6 : Int32) &&& 31))) (rg2 r2)) all0 all0 [.int (((x1 &&& 15) <<< ((2 : Int32) &&& 31)) ||| (x2 >>> ((6 : Int32) &&& 31)))] [] rfl rfl rfl (oc 4 rfl) hml rfl 0 rfl (by decide) 56 rfl fun u5 N6 T h7 w K8 P9 => ?_
    obtain ⟨rfl, rfl, rfl⟩ := P9
    show Run _ _ _ _ _ (mkF _ _ _ [.int (g2 x1 x2)])
    refine jt w (oc 5 rfl) (by decide) 61 rfl ?_
    rw [show ((g2 x1 x2) : Int32) = G2 k0 x1 x2 from (if_neg ct4).symm]
    exact w_ireturn w hEL hs hlk hret (congrArg Value.int (G2_lat _ _ _).nar) (Or.inr (Or.inr (Or.inr (Or.inl rfl)))) (oc 7 rfl) (by decide) (by decide) ⟨rfl, rfl⟩
  · -- k0 < 2
    refine jb w 61 (oc 6 rfl) rfl 61 rfl ?_
    rw [show (61 : Int32) = G2 k0 x1 x2 from (if_pos ct4).symm]
    exact w_ireturn w hEL hs hlk hret (congrArg Value.int (G2_lat _ _ _).nar) (Or.inr (Or.inr (Or.inr (Or.inl rfl)))) (oc 7 rfl) (by decide) (by decide) ⟨rfl, rfl⟩
theorem rm_grp3 (G : Gl Z a0 zc fm tba ktb fba kfb) (h : Heap) (x0 : Int32) (x1 : Int32) (x2 : Int32) (k0 : Int32) (r0 : By x0) (r1 : By x1) (r2 : By x2) :
    Met l Z consts_1 mN62 method_4_code 5 (some .char) (mkR 1 0 0 12) #[.int x0, .int x1, .int x2, .int k0, .int 3] h [] [] (fun v h' => v = some (.int (G3 k0 x2)) ∧ h = h') := by
  have G0 := G
  obtain ⟨hw, hEL, -⟩ := G
  refine Met.of (plainFor_of_name pn_12) ?_
  intro p e s m below meth c T hnm hret hlk hby hml hs w; have oa := @dat _ _ dL62a _ hby; have ob := @dat _ _ dL62b _ hby; have oc := @dat _ _ dL62c _ hby; have od := @dat _ _ dL62d _ hby
  refine Run.cast (efL (L := #[vI x0, vI x1, vI x2, vI k0, vI 3]) (by simp [argsToLocals, Value.category, vI, vR, vJ])) ?_
  refine jl w (oa 0 rfl) rfl 2 rfl <| s_if_ne w (oa 1 rfl) (by decide) 5 rfl 12 rfl (fun q => absurd q (by decide)) (fun _ => ?_)
  refine jl w (oa 7 rfl) rfl 14 rfl <| jc w 1 (oa 8 rfl) rfl 15 rfl <| jx w (oa 9 rfl) (by decide) 18 rfl 31 rfl (fun q => absurd q (by decide)) (fun _ => ?_)
  refine jl w (ob 5 rfl) rfl 33 rfl <| jc w 2 (ob 6 rfl) rfl 34 rfl <| jx w (ob 7 rfl) (by decide) 37 rfl 62 rfl (fun q => absurd q (by decide)) (fun _ => ?_)
  refine jn w (oc 8 rfl) rfl 63 rfl <| jc w 3 (oc 9 rfl) rfl 64 rfl <| jx w (oc 10 rfl) (by decide) 67 rfl 77 rfl (fun ct4 => ?_) (fun ct4 => ?_)
  · -- k0 = 3
    refine jn w (oc 11 rfl) rfl 68 rfl <| jb w 63 (oc 12 rfl) rfl 70 rfl <| jw w (oc 13 rfl) 71 rfl <| wS w hEL (cB49 hw) (Kw hw 251 rfl) (rm_b64 G0 h (x2 &&& 63) (m63 _)) all0 all0 [.int (x2 &&& 63)] [] rfl rfl rfl (oc 14 rfl) hml rfl 0 rfl (by decide) 74 rfl fun u5 N6 T h7 w K8 P9 => ?_
    obtain ⟨rfl, rfl, rfl⟩ := P9
    show Run _ _ _ _ _ (mkF _ _ _ [.int (g3 x2)])
    refine jt w (oc 15 rfl) (by decide) 79 rfl ?_
    rw [show ((g3 x2) : Int32) = G3 k0 x2 from (if_pos ct4).symm]
    exact w_ireturn w hEL hs hlk hret (congrArg Value.int (G3_lat _ _).nar) (Or.inr (Or.inr (Or.inr (Or.inl rfl)))) (od 1 rfl) (by decide) (by decide) ⟨rfl, rfl⟩
  · -- ¬ (k0 = 3)
    refine jb w 61 (od 0 rfl) rfl 79 rfl ?_
    rw [show (61 : Int32) = G3 k0 x2 from (if_neg ct4).symm]
    exact w_ireturn w hEL hs hlk hret (congrArg Value.int (G3_lat _ _).nar) (Or.inr (Or.inr (Or.inr (Or.inl rfl)))) (od 1 rfl) (by decide) (by decide) ⟨rfl, rfl⟩
theorem n8_49 : N8 49 := by unfold N8; decide
def dL63al : List (Nat × Instr × Nat) := [(0, .lload_n 3, 1), (1, .iconst 0, 1), (2, .invokestatic 15, 3), (5, .istore 5, 2), (7, .lload_n 3, 1), (8, .iconst 1, 1), (9, .invokestatic 15, 3), (12, .istore 6, 2), (14, .lload_n 3, 1), (15, .iconst 2, 1), (16, .invokestatic 15, 3), (19, .istore 7, 2), (21, .lload_n 3, 1), (22, .iconst 3, 1), (23, .invokestatic 15, 3), (26, .istore 8, 2)]
theorem dL63a : ∀ x ∈ dL63al, decode method_5_code x.1 = .ok x.2 := by decide +kernel
def dL63bl : List (Nat × Instr × Nat) := [(28, .lload_n 3, 1), (29, .iconst 4, 1), (30, .invokestatic 15, 3), (33, .istore 9, 2), (35, .lload_n 3, 1), (36, .iconst 5, 1), (37, .invokestatic 15, 3), (40, .istore 10, 2), (42, .lload_n 3, 1), (43, .bipush 6, 2), (45, .invokestatic 15, 3), (48, .istore 11, 2), (50, .bipush 49, 2), (52, .newarray .byte, 2), (54, .astore 12, 2), (56, .aload 12, 2)]
theorem dL63b : ∀ x ∈ dL63bl, decode method_5_code x.1 = .ok x.2 := by decide +kernel
def dL63cl : List (Nat × Instr × Nat) := [(58, .iconst 0, 1), (59, .iload 5, 2), (61, .i2b, 1), (62, .bastore, 1), (63, .aload 12, 2), (65, .iconst 1, 1), (66, .iload 6, 2), (68, .i2b, 1), (69, .bastore, 1), (70, .aload 12, 2), (72, .iconst 2, 1), (73, .iload 7, 2), (75, .i2b, 1), (76, .bastore, 1), (77, .aload 12, 2), (79, .bipush 45, 2)]
theorem dL63c : ∀ x ∈ dL63cl, decode method_5_code x.1 = .ok x.2 := by decide +kernel
def dL63dl : List (Nat × Instr × Nat) := [(81, .iload 8, 2), (83, .i2b, 1), (84, .bastore, 1), (85, .aload 12, 2), (87, .bipush 46, 2), (89, .iload 9, 2), (91, .i2b, 1), (92, .bastore, 1), (93, .aload 12, 2), (95, .bipush 47, 2), (97, .iload 10, 2), (99, .i2b, 1), (100, .bastore, 1), (101, .aload 12, 2), (103, .bipush 48, 2), (105, .iload 11, 2)]
theorem dL63d : ∀ x ∈ dL63dl, decode method_5_code x.1 = .ok x.2 := by decide +kernel
def dL63el : List (Nat × Instr × Nat) := [(107, .i2b, 1), (108, .bastore, 1), (109, .aload_n 0, 1), (110, .aload 12, 2), (112, .invokestatic 19, 3), (115, .astore 13, 2), (117, .aload 13, 2), (119, .invokevirtual 25, 3), (122, .bipush 106, 2), (124, .if_icmp .ne 495, 3), (127, .aload 13, 2), (129, .iconst 0, 1), (130, .invokevirtual 31, 3), (133, .bipush 45, 2), (135, .if_icmp .ne 484, 3), (138, .aload 13, 2)]
theorem dL63e : ∀ x ∈ dL63el, decode method_5_code x.1 = .ok x.2 := by decide +kernel
def dL63fl : List (Nat × Instr × Nat) := [(140, .iconst 5, 1), (141, .invokevirtual 31, 3), (144, .bipush 66, 2), (146, .if_icmp .ne 473, 3), (149, .aload 13, 2), (151, .bipush 10, 2), (153, .invokevirtual 31, 3), (156, .bipush 32, 2), (158, .if_icmp .ne 461, 3), (161, .aload 13, 2), (163, .bipush 11, 2), (165, .invokevirtual 31, 3), (168, .iload_n 1, 1), (169, .if_icmp .ne 450, 3), (172, .aload 13, 2), (174, .bipush 12, 2)]
theorem dL63f : ∀ x ∈ dL63fl, decode method_5_code x.1 = .ok x.2 := by decide +kernel
def dL63gl : List (Nat × Instr × Nat) := [(176, .invokevirtual 31, 3), (179, .iload_n 2, 1), (180, .if_icmp .ne 439, 3), (183, .aload 13, 2), (185, .bipush 17, 2), (187, .invokevirtual 31, 3), (190, .bipush 45, 2), (192, .if_icmp .ne 427, 3), (195, .aload 13, 2), (197, .bipush 18, 2), (199, .invokevirtual 31, 3), (202, .bipush 10, 2), (204, .if_icmp .ne 415, 3), (207, .aload 13, 2), (209, .bipush 19, 2), (211, .invokevirtual 31, 3)]
theorem dL63g : ∀ x ∈ dL63gl, decode method_5_code x.1 = .ok x.2 := by decide +kernel
def dL63hl : List (Nat × Instr × Nat) := [(214, .iload 5, 2), (216, .iload 6, 2), (218, .iload 7, 2), (220, .iconst 3, 1), (221, .iconst 0, 1), (222, .invokestatic 34, 3), (225, .if_icmp .ne 394, 3), (228, .aload 13, 2), (230, .bipush 20, 2), (232, .invokevirtual 31, 3), (235, .iload 5, 2), (237, .iload 6, 2), (239, .iload 7, 2), (241, .iconst 3, 1), (242, .iconst 1, 1), (243, .invokestatic 34, 3)]
theorem dL63h : ∀ x ∈ dL63hl, decode method_5_code x.1 = .ok x.2 := by decide +kernel
def dL63il : List (Nat × Instr × Nat) := [(246, .if_icmp .ne 373, 3), (249, .aload 13, 2), (251, .bipush 21, 2), (253, .invokevirtual 31, 3), (256, .iload 5, 2), (258, .iload 6, 2), (260, .iload 7, 2), (262, .iconst 3, 1), (263, .iconst 2, 1), (264, .invokestatic 34, 3), (267, .if_icmp .ne 352, 3), (270, .aload 13, 2), (272, .bipush 22, 2), (274, .invokevirtual 31, 3), (277, .iload 5, 2), (279, .iload 6, 2)]
theorem dL63i : ∀ x ∈ dL63il, decode method_5_code x.1 = .ok x.2 := by decide +kernel
def dL63jl : List (Nat × Instr × Nat) := [(281, .iload 7, 2), (283, .iconst 3, 1), (284, .iconst 3, 1), (285, .invokestatic 34, 3), (288, .if_icmp .ne 331, 3), (291, .aload 13, 2), (293, .bipush 23, 2), (295, .invokevirtual 31, 3), (298, .bipush 65, 2), (300, .if_icmp .ne 319, 3), (303, .aload 13, 2), (305, .bipush 78, 2), (307, .invokevirtual 31, 3), (310, .bipush 65, 2), (312, .if_icmp .ne 307, 3), (315, .aload 13, 2)]
theorem dL63j : ∀ x ∈ dL63jl, decode method_5_code x.1 = .ok x.2 := by decide +kernel
def dL63kl : List (Nat × Instr × Nat) := [(317, .bipush 79, 2), (319, .invokevirtual 31, 3), (322, .iload 8, 2), (324, .iload 9, 2), (326, .iload 10, 2), (328, .iconst 3, 1), (329, .iconst 0, 1), (330, .invokestatic 34, 3), (333, .if_icmp .ne 286, 3), (336, .aload 13, 2), (338, .bipush 80, 2), (340, .invokevirtual 31, 3), (343, .iload 8, 2), (345, .iload 9, 2), (347, .iload 10, 2), (349, .iconst 3, 1)]
theorem dL63k : ∀ x ∈ dL63kl, decode method_5_code x.1 = .ok x.2 := by decide +kernel
def dL63ll : List (Nat × Instr × Nat) := [(350, .iconst 1, 1), (351, .invokestatic 34, 3), (354, .if_icmp .ne 265, 3), (357, .aload 13, 2), (359, .bipush 81, 2), (361, .invokevirtual 31, 3), (364, .iload 8, 2), (366, .iload 9, 2), (368, .iload 10, 2), (370, .iconst 3, 1), (371, .iconst 2, 1), (372, .invokestatic 34, 3), (375, .if_icmp .ne 244, 3), (378, .aload 13, 2), (380, .bipush 82, 2), (382, .invokevirtual 31, 3)]
theorem dL63l : ∀ x ∈ dL63ll, decode method_5_code x.1 = .ok x.2 := by decide +kernel
def dL63ml : List (Nat × Instr × Nat) := [(385, .iload 8, 2), (387, .iload 9, 2), (389, .iload 10, 2), (391, .iconst 3, 1), (392, .iconst 3, 1), (393, .invokestatic 34, 3), (396, .if_icmp .ne 223, 3), (399, .aload 13, 2), (401, .bipush 83, 2), (403, .invokevirtual 31, 3), (406, .bipush 10, 2), (408, .if_icmp .ne 211, 3), (411, .aload 13, 2), (413, .bipush 84, 2), (415, .invokevirtual 31, 3), (418, .iload 11, 2)]
theorem dL63m : ∀ x ∈ dL63ml, decode method_5_code x.1 = .ok x.2 := by decide +kernel
def dL63nl : List (Nat × Instr × Nat) := [(420, .iconst 0, 1), (421, .iconst 0, 1), (422, .iconst 1, 1), (423, .iconst 0, 1), (424, .invokestatic 34, 3), (427, .if_icmp .ne 192, 3), (430, .aload 13, 2), (432, .bipush 85, 2), (434, .invokevirtual 31, 3), (437, .iload 11, 2), (439, .iconst 0, 1), (440, .iconst 0, 1), (441, .iconst 1, 1), (442, .iconst 1, 1), (443, .invokestatic 34, 3), (446, .if_icmp .ne 173, 3)]
theorem dL63n : ∀ x ∈ dL63nl, decode method_5_code x.1 = .ok x.2 := by decide +kernel
def dL63ol : List (Nat × Instr × Nat) := [(449, .aload 13, 2), (451, .bipush 86, 2), (453, .invokevirtual 31, 3), (456, .bipush 61, 2), (458, .if_icmp .ne 161, 3), (461, .aload 13, 2), (463, .bipush 87, 2), (465, .invokevirtual 31, 3), (468, .bipush 61, 2), (470, .if_icmp .ne 149, 3), (473, .aload 13, 2), (475, .bipush 88, 2), (477, .invokevirtual 31, 3), (480, .bipush 10, 2), (482, .if_icmp .ne 137, 3), (485, .aload 13, 2)]
theorem dL63o : ∀ x ∈ dL63ol, decode method_5_code x.1 = .ok x.2 := by decide +kernel
def dL63pl : List (Nat × Instr × Nat) := [(487, .bipush 89, 2), (489, .invokevirtual 31, 3), (492, .bipush 45, 2), (494, .if_icmp .ne 125, 3), (497, .aload 13, 2), (499, .bipush 93, 2), (501, .invokevirtual 31, 3), (504, .bipush 45, 2), (506, .if_icmp .ne 113, 3), (509, .aload 13, 2), (511, .bipush 94, 2), (513, .invokevirtual 31, 3), (516, .bipush 69, 2), (518, .if_icmp .ne 101, 3), (521, .aload 13, 2), (523, .bipush 95, 2)]
theorem dL63p : ∀ x ∈ dL63pl, decode method_5_code x.1 = .ok x.2 := by decide +kernel
def dL63ql : List (Nat × Instr × Nat) := [(525, .invokevirtual 31, 3), (528, .bipush 78, 2), (530, .if_icmp .ne 89, 3), (533, .aload 13, 2), (535, .bipush 96, 2), (537, .invokevirtual 31, 3), (540, .bipush 68, 2), (542, .if_icmp .ne 77, 3), (545, .aload 13, 2), (547, .bipush 97, 2), (549, .invokevirtual 31, 3), (552, .bipush 32, 2), (554, .if_icmp .ne 65, 3), (557, .aload 13, 2), (559, .bipush 98, 2), (561, .invokevirtual 31, 3)]
theorem dL63q : ∀ x ∈ dL63ql, decode method_5_code x.1 = .ok x.2 := by decide +kernel
def dL63rl : List (Nat × Instr × Nat) := [(564, .iload_n 1, 1), (565, .if_icmp .ne 54, 3), (568, .aload 13, 2), (570, .bipush 99, 2), (572, .invokevirtual 31, 3), (575, .iload_n 2, 1), (576, .if_icmp .ne 43, 3), (579, .aload 13, 2), (581, .bipush 100, 2), (583, .invokevirtual 31, 3), (586, .bipush 45, 2), (588, .if_icmp .ne 31, 3), (591, .aload 13, 2), (593, .bipush 104, 2), (595, .invokevirtual 31, 3), (598, .bipush 45, 2)]
theorem dL63r : ∀ x ∈ dL63rl, decode method_5_code x.1 = .ok x.2 := by decide +kernel
def dL63sl : List (Nat × Instr × Nat) := [(600, .if_icmp .ne 19, 3), (603, .aload 13, 2), (605, .bipush 105, 2), (607, .invokevirtual 31, 3), (610, .bipush 10, 2), (612, .if_icmp .ne 7, 3), (615, .iconst 1, 1), (616, .goto 4, 3), (620, .ireturn, 1)]
theorem dL63s : ∀ x ∈ dL63sl, decode method_5_code x.1 = .ok x.2 := by decide +kernel
theorem rm_lng (G : Gl Z a0 zc fm tba ktb fba kfb) (h : Heap) (x : Addr) (l0 : Int32) (l1 : Int32) (w0 : Int64) (Sx : Str Z h x [l0, l1]) :
    Met l Z consts_1 mN63 method_5_code 14 (some .boolean) (mkR 11 28 3084 157) #[.ref x, .int l0, .int l1, .long w0] h [] [] (fun v h' => v = some (.int 1)) := by
  have G0 := G
  obtain ⟨hw, hEL, SC, hz, -⟩ := G
  refine Met.of (plainFor_of_name pn_12) ?_
  intro p e s m below meth c T hnm hret hlk hby hml hs w; have oa := @dat _ _ dL63a _ hby; have ob := @dat _ _ dL63b _ hby; have oc := @dat _ _ dL63c _ hby; have od := @dat _ _ dL63d _ hby; have oe := @dat _ _ dL63e _ hby; have of := @dat _ _ dL63f _ hby; have og := @dat _ _ dL63g _ hby; have oh := @dat _ _ dL63h _ hby; have oi := @dat _ _ dL63i _ hby; have oj := @dat _ _ dL63j _ hby; have ok := @dat _ _ dL63k _ hby; have ol := @dat _ _ dL63l _ hby; have om := @dat _ _ dL63m _ hby; have on := @dat _ _ dL63n _ hby; have oo := @dat _ _ dL63o _ hby; have op := @dat _ _ dL63p _ hby; have oq := @dat _ _ dL63q _ hby; have or := @dat _ _ dL63r _ hby; have os := @dat _ _ dL63s _ hby
  refine Run.cast (efL (L := #[vR x, vI l0, vI l1, vJ w0, .second, .unset, .unset, .unset, .unset, .unset, .unset, .unset, .unset, .unset]) (by simp [argsToLocals, Value.category, vI, vR, vJ])) ?_
  have hwL := fun d q => hw d (subL d q)
  refine s_lload_n w (oa 0 rfl) rfl 1 rfl <| jc w 0 (oa 1 rfl) rfl 2 rfl <| wS w hEL (cB50 hw) (Kw hw 243 rfl) (rm_ub G0 h w0 0) all0 all0 [.long w0, .int 0] [] rfl rfl rfl (oa 2 rfl) hml rfl 0 rfl (by decide) 5 rfl fun u1 N2 T h3 w K4 P5 => ?_
  obtain ⟨rfl, q7, rfl, rfl, rq7⟩ := P5
  show Run _ _ _ _ _ (mkF _ _ _ [.int q7])
  refine js w #[vR x, vI l0, vI l1, vJ w0, .second, vI q7, .unset, .unset, .unset, .unset, .unset, .unset, .unset, .unset] (oa 3 rfl) rfl 7 rfl <| s_lload_n w (oa 4 rfl) rfl 8 rfl <| jc w 1 (oa 5 rfl) rfl 9 rfl <| wS w hEL (cB50 hw) (Kw hw 243 rfl) (rm_ub G0 h w0 1) all0 all0 [.long w0, .int 1] [] rfl rfl rfl (oa 6 rfl) hml rfl 0 rfl (by decide) 12 rfl fun u8 N9 T h10 w K11 P12 => ?_
  obtain ⟨rfl, q14, rfl, rfl, rq14⟩ := P12
  show Run _ _ _ _ _ (mkF _ _ _ [.int q14])
  refine js w #[vR x, vI l0, vI l1, vJ w0, .second, vI q7, vI q14, .unset, .unset, .unset, .unset, .unset, .unset, .unset] (oa 7 rfl) rfl 14 rfl <| s_lload_n w (oa 8 rfl) rfl 15 rfl <| jc w 2 (oa 9 rfl) rfl 16 rfl <| wS w hEL (cB50 hw) (Kw hw 243 rfl) (rm_ub G0 h w0 2) all0 all0 [.long w0, .int 2] [] rfl rfl rfl (oa 10 rfl) hml rfl 0 rfl (by decide) 19 rfl fun u15 N16 T h17 w K18 P19 => ?_
  obtain ⟨rfl, q21, rfl, rfl, rq21⟩ := P19
  show Run _ _ _ _ _ (mkF _ _ _ [.int q21])
  refine js w #[vR x, vI l0, vI l1, vJ w0, .second, vI q7, vI q14, vI q21, .unset, .unset, .unset, .unset, .unset, .unset] (oa 11 rfl) rfl 21 rfl <| s_lload_n w (oa 12 rfl) rfl 22 rfl <| jc w 3 (oa 13 rfl) rfl 23 rfl <| wS w hEL (cB50 hw) (Kw hw 243 rfl) (rm_ub G0 h w0 3) all0 all0 [.long w0, .int 3] [] rfl rfl rfl (oa 14 rfl) hml rfl 0 rfl (by decide) 26 rfl fun u22 N23 T h24 w K25 P26 => ?_
  obtain ⟨rfl, q28, rfl, rfl, rq28⟩ := P26
  show Run _ _ _ _ _ (mkF _ _ _ [.int q28])
  refine js w #[vR x, vI l0, vI l1, vJ w0, .second, vI q7, vI q14, vI q21, vI q28, .unset, .unset, .unset, .unset, .unset] (oa 15 rfl) rfl 28 rfl <| s_lload_n w (ob 0 rfl) rfl 29 rfl <| jc w 4 (ob 1 rfl) rfl 30 rfl <| wS w hEL (cB50 hw) (Kw hw 243 rfl) (rm_ub G0 h w0 4) all0 all0 [.long w0, .int 4] [] rfl rfl rfl (ob 2 rfl) hml rfl 0 rfl (by decide) 33 rfl fun u29 N30 T h31 w K32 P33 => ?_
  obtain ⟨rfl, q35, rfl, rfl, rq35⟩ := P33
  show Run _ _ _ _ _ (mkF _ _ _ [.int q35])
  refine js w #[vR x, vI l0, vI l1, vJ w0, .second, vI q7, vI q14, vI q21, vI q28, vI q35, .unset, .unset, .unset, .unset] (ob 3 rfl) rfl 35 rfl <| s_lload_n w (ob 4 rfl) rfl 36 rfl <| jc w 5 (ob 5 rfl) rfl 37 rfl <| wS w hEL (cB50 hw) (Kw hw 243 rfl) (rm_ub G0 h w0 5) all0 all0 [.long w0, .int 5] [] rfl rfl rfl (ob 6 rfl) hml rfl 0 rfl (by decide) 40 rfl fun u36 N37 T h38 w K39 P40 => ?_
  obtain ⟨rfl, q42, rfl, rfl, rq42⟩ := P40
  show Run _ _ _ _ _ (mkF _ _ _ [.int q42])
  refine js w #[vR x, vI l0, vI l1, vJ w0, .second, vI q7, vI q14, vI q21, vI q28, vI q35, vI q42, .unset, .unset, .unset] (ob 7 rfl) rfl 42 rfl <| s_lload_n w (ob 8 rfl) rfl 43 rfl <| jb w 6 (ob 9 rfl) rfl 45 rfl <| wS w hEL (cB50 hw) (Kw hw 243 rfl) (rm_ub G0 h w0 6) all0 all0 [.long w0, .int 6] [] rfl rfl rfl (ob 10 rfl) hml rfl 0 rfl (by decide) 48 rfl fun u43 N44 T h45 w K46 P47 => ?_
  obtain ⟨rfl, q49, rfl, rfl, rq49⟩ := P47
  show Run _ _ _ _ _ (mkF _ _ _ [.int q49])
  refine js w #[vR x, vI l0, vI l1, vJ w0, .second, vI q7, vI q14, vI q21, vI q28, vI q35, vI q42, vI q49, .unset, .unset] (ob 11 rfl) rfl 50 rfl <| jb w 49 (ob 12 rfl) rfl 52 rfl <| w_newP w (Kw hw 19 rfl) rfl rfl (ob 13 rfl) (by decide) (n := 49) (by decide) (by decide) 54 rfl (by decide) (by decide) fun T h50 x51 k52 w E53 q54 r55 V56 => ?_
  refine s_astore w #[vR x, vI l0, vI l1, vJ w0, .second, vI q7, vI q14, vI q21, vI q28, vI q35, vI q42, vI q49, vR x51, .unset] (ob 14 rfl) rfl rfl 56 rfl <| ja w (ob 15 rfl) rfl rfl 58 rfl <| jc w 0 (oc 0 rfl) rfl 59 rfl <| jl w (oc 1 rfl) rfl 61 rfl <| s_i2b w (oc 2 rfl) 62 rfl <| jB w V56 (i := 0) (by decide) rfl (by decide) (Nat.le_of_ble_eq_true rfl) (nar_byte _) (oc 3 rfl) (Or.inr r55) (mi 0 rfl) 63 rfl fun T h57 w W58 V59 => ?_
  have E60 := Ext.wr' E53 W58 q54
  refine ja w (oc 4 rfl) rfl rfl 65 rfl <| jc w 1 (oc 5 rfl) rfl 66 rfl <| jl w (oc 6 rfl) rfl 68 rfl <| s_i2b w (oc 7 rfl) 69 rfl <| jB w V59 (i := 1) (by decide) rfl (by decide) (Nat.le_of_ble_eq_true rfl) (nar_byte _) (oc 8 rfl) (Or.inr r55) (mi 0 rfl) 70 rfl fun T h61 w W62 V63 => ?_
  have E64 := Ext.wr' E60 W62 q54
  refine ja w (oc 9 rfl) rfl rfl 72 rfl <| jc w 2 (oc 10 rfl) rfl 73 rfl <| jl w (oc 11 rfl) rfl 75 rfl <| s_i2b w (oc 12 rfl) 76 rfl <| jB w V63 (i := 2) (by decide) rfl (by decide) (Nat.le_of_ble_eq_true rfl) (nar_byte _) (oc 13 rfl) (Or.inr r55) (mi 0 rfl) 77 rfl fun T h65 w W66 V67 => ?_
  have E68 := Ext.wr' E64 W66 q54
  refine ja w (oc 14 rfl) rfl rfl 79 rfl <| jb w 45 (oc 15 rfl) rfl 81 rfl <| jl w (od 0 rfl) rfl 83 rfl <| s_i2b w (od 1 rfl) 84 rfl <| jB w V67 (i := 45) (by decide) rfl (by decide) (Nat.le_of_ble_eq_true rfl) (nar_byte _) (od 2 rfl) (Or.inr r55) (mi 0 rfl) 85 rfl fun T h69 w W70 V71 => ?_
  have E72 := Ext.wr' E68 W70 q54
  refine ja w (od 3 rfl) rfl rfl 87 rfl <| jb w 46 (od 4 rfl) rfl 89 rfl <| jl w (od 5 rfl) rfl 91 rfl <| s_i2b w (od 6 rfl) 92 rfl <| jB w V71 (i := 46) (by decide) rfl (by decide) (Nat.le_of_ble_eq_true rfl) (nar_byte _) (od 7 rfl) (Or.inr r55) (mi 0 rfl) 93 rfl fun T h73 w W74 V75 => ?_
  have E76 := Ext.wr' E72 W74 q54
  refine ja w (od 8 rfl) rfl rfl 95 rfl <| jb w 47 (od 9 rfl) rfl 97 rfl <| jl w (od 10 rfl) rfl 99 rfl <| s_i2b w (od 11 rfl) 100 rfl <| jB w V75 (i := 47) (by decide) rfl (by decide) (Nat.le_of_ble_eq_true rfl) (nar_byte _) (od 12 rfl) (Or.inr r55) (mi 0 rfl) 101 rfl fun T h77 w W78 V79 => ?_
  have E80 := Ext.wr' E76 W78 q54
  refine ja w (od 13 rfl) rfl rfl 103 rfl <| jb w 48 (od 14 rfl) rfl 105 rfl <| jl w (od 15 rfl) rfl 107 rfl <| s_i2b w (oe 0 rfl) 108 rfl <| jB w V79 (i := 48) (by decide) rfl (by decide) (Nat.le_of_ble_eq_true rfl) (nar_byte _) (oe 1 rfl) (Or.inr r55) (mi 0 rfl) 109 rfl fun T h81 w W82 V83 => ?_
  have E84 := Ext.wr' E80 W82 q54
  refine jm w (oe 2 rfl) rfl rfl 110 rfl <| ja w (oe 3 rfl) rfl rfl 112 rfl <| wS w hEL (cB51 hw) (Kw hw 34 rfl) (rm_pe G0 h81 x x51 k52 (bs49 q7.toInt8.toInt32 q14.toInt8.toInt32 q21.toInt8.toInt32 q28.toInt8.toInt32 q35.toInt8.toInt32 q42.toInt8.toInt32 q49.toInt8.toInt32) [l0, l1] n8_49 rfl (Sx.ext E84) (show Arv Z h81 x51 k52 .byte (Int32.ofNat 49) ((bs49 q7.toInt8.toInt32 q14.toInt8.toInt32 q21.toInt8.toInt32 q28.toInt8.toInt32 q35.toInt8.toInt32 q42.toInt8.toInt32 q49.toInt8.toInt32).map Value.int) (.int 0) from V83)) all0 all0 [.ref x, .ref x51] [] rfl rfl rfl (oe 4 rfl) hml rfl 0 rfl (by decide) 115 rfl fun u85 N86 T h87 w K88 P89 => ?_
  obtain ⟨rfl, r0, rfl, Sr⟩ := P89
  have E91 := Keep.ext0 K88
  generalize hcs : pemS [l0, l1] (b64s (bs49 q7.toInt8.toInt32 q14.toInt8.toInt32 q21.toInt8.toInt32 q28.toInt8.toInt32 q35.toInt8.toInt32 q42.toInt8.toInt32 q49.toInt8.toInt32)) = cs at Sr
  obtain ⟨Hn, H0, H5, H10, H11, H12, H17, H18, H19, H20, H21, H22, H23, H78, H79, H80, H81, H82, H83, H84, H85, H86, H87, H88, H89, H93, H94, H95, H96, H97, H98, H99, H100, H104, H105⟩ := pem49 l0 l1 rq7 rq14 rq21 rq28 rq35 rq42 rq49 cs hcs
  show Run _ _ _ _ _ (mkF _ _ _ [.ref r0])
  refine s_astore w #[vR x, vI l0, vI l1, vJ w0, .second, vI q7, vI q14, vI q21, vI q28, vI q35, vI q42, vI q49, vR x51, vR r0] (oe 5 rfl) rfl rfl 117 rfl <| ja w (oe 6 rfl) rfl rfl 119 rfl ?_
  obtain ⟨XE, Xt, Xkb, Xcd, XN, Xvs, Xq1, Xq2, Xq3, Xq4, Xq5, Xq6⟩ := id Sr
  refine w_virtB w (y := Len.yN) (y' := Len.yN) (C := ST) (Kw hw 272 rfl) (Kw hw 136 rfl) (Kw hw 138 rfl) (Kw hw 138 rfl) (Kw hw 137 rfl) (by decide) XE (Pv := fun v => v = some (.int (Int32.ofNat (cs).length))) (as' := #[.ref r0]) (W := 0) (fun vm0 hZ => StrChars.Road.lenW hZ hwL (Kw hw 1 rfl) XE Xq1 Xq2 Xq3 Xq4 Xq5 (SC.ext w.old) hz Xq6 (by decide) (by decide)) (argsL := []) (rest := []) (lenOf pD7 rfl) rfl rfl (oe 7 rfl) (by rw [hml]; rfl) (Nat.le_of_eq rfl) (by decide) (by decide) 122 rfl fun u92 T w P93 => ?_
  obtain rfl := P93
  show Run _ _ _ _ _ (mkF _ _ _ [.int (Int32.ofNat (cs).length)])
  rw [Hn]
  show Run _ _ _ _ _ (mkF _ _ _ [.int 106])
  refine jb w 106 (oe 8 rfl) rfl 124 rfl <| jx w (oe 9 rfl) (by decide) 127 rfl 619 rfl (fun _ => ?_) (fun q => absurd q (by decide))
  refine ja w (oe 10 rfl) rfl rfl 129 rfl <| jc w 0 (oe 11 rfl) rfl 130 rfl <| wV w hEL (cB52 hw) (Kw hw 273 rfl) (Kw hw 274 rfl) (Kw hw 276 rfl) (Kw hw 276 rfl) Sr.1 (rm_cha G0 h87 r0 0 0 cs rfl (by rw [Hn]; decide) (by rw [Hn]; decide) Sr) all0 all0 [.int 0] [] rfl rfl rfl (oe 12 rfl) hml rfl 0 rfl (by decide) 133 rfl fun u95 N96 T h97 w K98 P99 => ?_
  obtain ⟨rfl, rfl, rfl⟩ := P99
  rw [H0]
  show Run _ _ _ _ _ (mkF _ _ _ [.int 45])
  refine jb w 45 (oe 13 rfl) rfl 135 rfl <| jx w (oe 14 rfl) (by decide) 138 rfl 619 rfl (fun _ => ?_) (fun q => absurd q (by decide))
  refine ja w (oe 15 rfl) rfl rfl 140 rfl <| jc w 5 (of 0 rfl) rfl 141 rfl <| wV w hEL (cB52 hw) (Kw hw 273 rfl) (Kw hw 274 rfl) (Kw hw 276 rfl) (Kw hw 276 rfl) Sr.1 (rm_cha G0 h87 r0 5 5 cs rfl (by rw [Hn]; decide) (by rw [Hn]; decide) Sr) all0 all0 [.int 5] [] rfl rfl rfl (of 1 rfl) hml rfl 0 rfl (by decide) 144 rfl fun u102 N103 T h104 w K105 P106 => ?_
  obtain ⟨rfl, rfl, rfl⟩ := P106
  rw [H5]
  show Run _ _ _ _ _ (mkF _ _ _ [.int 66])
  refine jb w 66 (of 2 rfl) rfl 146 rfl <| jx w (of 3 rfl) (by decide) 149 rfl 619 rfl (fun _ => ?_) (fun q => absurd q (by decide))
  refine ja w (of 4 rfl) rfl rfl 151 rfl <| jb w 10 (of 5 rfl) rfl 153 rfl <| wV w hEL (cB52 hw) (Kw hw 273 rfl) (Kw hw 274 rfl) (Kw hw 276 rfl) (Kw hw 276 rfl) Sr.1 (rm_cha G0 h87 r0 10 10 cs rfl (by rw [Hn]; decide) (by rw [Hn]; decide) Sr) all0 all0 [.int 10] [] rfl rfl rfl (of 6 rfl) hml rfl 0 rfl (by decide) 156 rfl fun u109 N110 T h111 w K112 P113 => ?_
  obtain ⟨rfl, rfl, rfl⟩ := P113
  rw [H10]
  show Run _ _ _ _ _ (mkF _ _ _ [.int 32])
  refine jb w 32 (of 7 rfl) rfl 158 rfl <| jx w (of 8 rfl) (by decide) 161 rfl 619 rfl (fun _ => ?_) (fun q => absurd q (by decide))
  refine ja w (of 9 rfl) rfl rfl 163 rfl <| jb w 11 (of 10 rfl) rfl 165 rfl <| wV w hEL (cB52 hw) (Kw hw 273 rfl) (Kw hw 274 rfl) (Kw hw 276 rfl) (Kw hw 276 rfl) Sr.1 (rm_cha G0 h87 r0 11 11 cs rfl (by rw [Hn]; decide) (by rw [Hn]; decide) Sr) all0 all0 [.int 11] [] rfl rfl rfl (of 11 rfl) hml rfl 0 rfl (by decide) 168 rfl fun u116 N117 T h118 w K119 P120 => ?_
  obtain ⟨rfl, rfl, rfl⟩ := P120
  rw [H11]
  show Run _ _ _ _ _ (mkF _ _ _ [.int l0])
  refine jn w (of 12 rfl) rfl 169 rfl <| jx w (of 13 rfl) (by decide) 172 rfl 619 rfl (fun ct122 => ?_) (fun ct122 => ?_)
  rotate_left
  · exact absurd rfl ct122
  refine ja w (of 14 rfl) rfl rfl 174 rfl <| jb w 12 (of 15 rfl) rfl 176 rfl <| wV w hEL (cB52 hw) (Kw hw 273 rfl) (Kw hw 274 rfl) (Kw hw 276 rfl) (Kw hw 276 rfl) Sr.1 (rm_cha G0 h87 r0 12 12 cs rfl (by rw [Hn]; decide) (by rw [Hn]; decide) Sr) all0 all0 [.int 12] [] rfl rfl rfl (og 0 rfl) hml rfl 0 rfl (by decide) 179 rfl fun u123 N124 T h125 w K126 P127 => ?_
  obtain ⟨rfl, rfl, rfl⟩ := P127
  rw [H12]
  show Run _ _ _ _ _ (mkF _ _ _ [.int l1])
  refine jn w (og 1 rfl) rfl 180 rfl <| jx w (og 2 rfl) (by decide) 183 rfl 619 rfl (fun ct129 => ?_) (fun ct129 => ?_)
  rotate_left
  · exact absurd rfl ct129
  refine ja w (og 3 rfl) rfl rfl 185 rfl <| jb w 17 (og 4 rfl) rfl 187 rfl <| wV w hEL (cB52 hw) (Kw hw 273 rfl) (Kw hw 274 rfl) (Kw hw 276 rfl) (Kw hw 276 rfl) Sr.1 (rm_cha G0 h87 r0 17 17 cs rfl (by rw [Hn]; decide) (by rw [Hn]; decide) Sr) all0 all0 [.int 17] [] rfl rfl rfl (og 5 rfl) hml rfl 0 rfl (by decide) 190 rfl fun u130 N131 T h132 w K133 P134 => ?_
  obtain ⟨rfl, rfl, rfl⟩ := P134
  rw [H17]
  show Run _ _ _ _ _ (mkF _ _ _ [.int 45])
  refine jb w 45 (og 6 rfl) rfl 192 rfl <| jx w (og 7 rfl) (by decide) 195 rfl 619 rfl (fun _ => ?_) (fun q => absurd q (by decide))
  refine ja w (og 8 rfl) rfl rfl 197 rfl <| jb w 18 (og 9 rfl) rfl 199 rfl <| wV w hEL (cB52 hw) (Kw hw 273 rfl) (Kw hw 274 rfl) (Kw hw 276 rfl) (Kw hw 276 rfl) Sr.1 (rm_cha G0 h87 r0 18 18 cs rfl (by rw [Hn]; decide) (by rw [Hn]; decide) Sr) all0 all0 [.int 18] [] rfl rfl rfl (og 10 rfl) hml rfl 0 rfl (by decide) 202 rfl fun u137 N138 T h139 w K140 P141 => ?_
  obtain ⟨rfl, rfl, rfl⟩ := P141
  rw [H18]
  show Run _ _ _ _ _ (mkF _ _ _ [.int 10])
  refine jb w 10 (og 11 rfl) rfl 204 rfl <| jx w (og 12 rfl) (by decide) 207 rfl 619 rfl (fun _ => ?_) (fun q => absurd q (by decide))
  refine ja w (og 13 rfl) rfl rfl 209 rfl <| jb w 19 (og 14 rfl) rfl 211 rfl <| wV w hEL (cB52 hw) (Kw hw 273 rfl) (Kw hw 274 rfl) (Kw hw 276 rfl) (Kw hw 276 rfl) Sr.1 (rm_cha G0 h87 r0 19 19 cs rfl (by rw [Hn]; decide) (by rw [Hn]; decide) Sr) all0 all0 [.int 19] [] rfl rfl rfl (og 15 rfl) hml rfl 0 rfl (by decide) 214 rfl fun u144 N145 T h146 w K147 P148 => ?_
  obtain ⟨rfl, rfl, rfl⟩ := P148
  rw [H19]
  show Run _ _ _ _ _ (mkF _ _ _ [.int (g0 q7)])
  refine jl w (oh 0 rfl) rfl 216 rfl <| jl w (oh 1 rfl) rfl 218 rfl <| jl w (oh 2 rfl) rfl 220 rfl <| jc w 3 (oh 3 rfl) rfl 221 rfl <| jc w 0 (oh 4 rfl) rfl 222 rfl <| wS w hEL (cB53 hw) (Kw hw 248 rfl) (rm_grp0 G0 h87 q7 q14 q21 3 rq7 rq14 rq21) all0 all0 [.int q7, .int q14, .int q21, .int 3, .int 0] [.int (g0 q7)] rfl rfl rfl (oh 5 rfl) hml rfl 1 rfl (by decide) 225 rfl fun u150 N151 T h152 w K153 P154 => ?_
  obtain ⟨rfl, rfl, rfl⟩ := P154
  show Run _ _ _ _ _ (mkF _ _ _ [.int (g0 q7), .int (g0 q7)])
  refine jx w (oh 6 rfl) (by decide) 228 rfl 619 rfl (fun ct156 => ?_) (fun ct156 => ?_)
  rotate_left
  · exact absurd rfl ct156
  refine ja w (oh 7 rfl) rfl rfl 230 rfl <| jb w 20 (oh 8 rfl) rfl 232 rfl <| wV w hEL (cB52 hw) (Kw hw 273 rfl) (Kw hw 274 rfl) (Kw hw 276 rfl) (Kw hw 276 rfl) Sr.1 (rm_cha G0 h87 r0 20 20 cs rfl (by rw [Hn]; decide) (by rw [Hn]; decide) Sr) all0 all0 [.int 20] [] rfl rfl rfl (oh 9 rfl) hml rfl 0 rfl (by decide) 235 rfl fun u157 N158 T h159 w K160 P161 => ?_
  obtain ⟨rfl, rfl, rfl⟩ := P161
  rw [H20]
  show Run _ _ _ _ _ (mkF _ _ _ [.int (g1 q7 q14)])
  refine jl w (oh 10 rfl) rfl 237 rfl <| jl w (oh 11 rfl) rfl 239 rfl <| jl w (oh 12 rfl) rfl 241 rfl <| jc w 3 (oh 13 rfl) rfl 242 rfl <| jc w 1 (oh 14 rfl) rfl 243 rfl <| wS w hEL (cB53 hw) (Kw hw 248 rfl) (rm_grp1 G0 h87 q7 q14 q21 3 rq7 rq14 rq21) all0 all0 [.int q7, .int q14, .int q21, .int 3, .int 1] [.int (g1 q7 q14)] rfl rfl rfl (oh 15 rfl) hml rfl 1 rfl (by decide) 246 rfl fun u163 N164 T h165 w K166 P167 => ?_
  obtain ⟨rfl, rfl, rfl⟩ := P167
  show Run _ _ _ _ _ (mkF _ _ _ [.int (g1 q7 q14), .int (g1 q7 q14)])
  refine jx w (oi 0 rfl) (by decide) 249 rfl 619 rfl (fun ct169 => ?_) (fun ct169 => ?_)
  rotate_left
  · exact absurd rfl ct169
  refine ja w (oi 1 rfl) rfl rfl 251 rfl <| jb w 21 (oi 2 rfl) rfl 253 rfl <| wV w hEL (cB52 hw) (Kw hw 273 rfl) (Kw hw 274 rfl) (Kw hw 276 rfl) (Kw hw 276 rfl) Sr.1 (rm_cha G0 h87 r0 21 21 cs rfl (by rw [Hn]; decide) (by rw [Hn]; decide) Sr) all0 all0 [.int 21] [] rfl rfl rfl (oi 3 rfl) hml rfl 0 rfl (by decide) 256 rfl fun u170 N171 T h172 w K173 P174 => ?_
  obtain ⟨rfl, rfl, rfl⟩ := P174
  rw [H21]
  show Run _ _ _ _ _ (mkF _ _ _ [.int (G2 3 q14 q21)])
  refine jl w (oi 4 rfl) rfl 258 rfl <| jl w (oi 5 rfl) rfl 260 rfl <| jl w (oi 6 rfl) rfl 262 rfl <| jc w 3 (oi 7 rfl) rfl 263 rfl <| jc w 2 (oi 8 rfl) rfl 264 rfl <| wS w hEL (cB53 hw) (Kw hw 248 rfl) (rm_grp2 G0 h87 q7 q14 q21 3 rq7 rq14 rq21) all0 all0 [.int q7, .int q14, .int q21, .int 3, .int 2] [.int (G2 3 q14 q21)] rfl rfl rfl (oi 9 rfl) hml rfl 1 rfl (by decide) 267 rfl fun u176 N177 T h178 w K179 P180 => ?_
  obtain ⟨rfl, rfl, rfl⟩ := P180
  show Run _ _ _ _ _ (mkF _ _ _ [.int (G2 3 q14 q21), .int (G2 3 q14 q21)])
  refine jx w (oi 10 rfl) (by decide) 270 rfl 619 rfl (fun ct182 => ?_) (fun ct182 => ?_)
  rotate_left
  · exact absurd rfl ct182
  refine ja w (oi 11 rfl) rfl rfl 272 rfl <| jb w 22 (oi 12 rfl) rfl 274 rfl <| wV w hEL (cB52 hw) (Kw hw 273 rfl) (Kw hw 274 rfl) (Kw hw 276 rfl) (Kw hw 276 rfl) Sr.1 (rm_cha G0 h87 r0 22 22 cs rfl (by rw [Hn]; decide) (by rw [Hn]; decide) Sr) all0 all0 [.int 22] [] rfl rfl rfl (oi 13 rfl) hml rfl 0 rfl (by decide) 277 rfl fun u183 N184 T h185 w K186 P187 => ?_
  obtain ⟨rfl, rfl, rfl⟩ := P187
  rw [H22]
  show Run _ _ _ _ _ (mkF _ _ _ [.int (G3 3 q21)])
  refine jl w (oi 14 rfl) rfl 279 rfl <| jl w (oi 15 rfl) rfl 281 rfl <| jl w (oj 0 rfl) rfl 283 rfl <| jc w 3 (oj 1 rfl) rfl 284 rfl <| jc w 3 (oj 2 rfl) rfl 285 rfl <| wS w hEL (cB53 hw) (Kw hw 248 rfl) (rm_grp3 G0 h87 q7 q14 q21 3 rq7 rq14 rq21) all0 all0 [.int q7, .int q14, .int q21, .int 3, .int 3] [.int (G3 3 q21)] rfl rfl rfl (oj 3 rfl) hml rfl 1 rfl (by decide) 288 rfl fun u189 N190 T h191 w K192 P193 => ?_
  obtain ⟨rfl, rfl, rfl⟩ := P193
  show Run _ _ _ _ _ (mkF _ _ _ [.int (G3 3 q21), .int (G3 3 q21)])
  refine jx w (oj 4 rfl) (by decide) 291 rfl 619 rfl (fun ct195 => ?_) (fun ct195 => ?_)
  rotate_left
  · exact absurd rfl ct195
  refine ja w (oj 5 rfl) rfl rfl 293 rfl <| jb w 23 (oj 6 rfl) rfl 295 rfl <| wV w hEL (cB52 hw) (Kw hw 273 rfl) (Kw hw 274 rfl) (Kw hw 276 rfl) (Kw hw 276 rfl) Sr.1 (rm_cha G0 h87 r0 23 23 cs rfl (by rw [Hn]; decide) (by rw [Hn]; decide) Sr) all0 all0 [.int 23] [] rfl rfl rfl (oj 7 rfl) hml rfl 0 rfl (by decide) 298 rfl fun u196 N197 T h198 w K199 P200 => ?_
  obtain ⟨rfl, rfl, rfl⟩ := P200
  rw [H23]
  show Run _ _ _ _ _ (mkF _ _ _ [.int 65])
  refine jb w 65 (oj 8 rfl) rfl 300 rfl <| jx w (oj 9 rfl) (by decide) 303 rfl 619 rfl (fun _ => ?_) (fun q => absurd q (by decide))
  refine ja w (oj 10 rfl) rfl rfl 305 rfl <| jb w 78 (oj 11 rfl) rfl 307 rfl <| wV w hEL (cB52 hw) (Kw hw 273 rfl) (Kw hw 274 rfl) (Kw hw 276 rfl) (Kw hw 276 rfl) Sr.1 (rm_cha G0 h87 r0 78 78 cs rfl (by rw [Hn]; decide) (by rw [Hn]; decide) Sr) all0 all0 [.int 78] [] rfl rfl rfl (oj 12 rfl) hml rfl 0 rfl (by decide) 310 rfl fun u203 N204 T h205 w K206 P207 => ?_
  obtain ⟨rfl, rfl, rfl⟩ := P207
  rw [H78]
  show Run _ _ _ _ _ (mkF _ _ _ [.int 65])
  refine jb w 65 (oj 13 rfl) rfl 312 rfl <| jx w (oj 14 rfl) (by decide) 315 rfl 619 rfl (fun _ => ?_) (fun q => absurd q (by decide))
  refine ja w (oj 15 rfl) rfl rfl 317 rfl <| jb w 79 (ok 0 rfl) rfl 319 rfl <| wV w hEL (cB52 hw) (Kw hw 273 rfl) (Kw hw 274 rfl) (Kw hw 276 rfl) (Kw hw 276 rfl) Sr.1 (rm_cha G0 h87 r0 79 79 cs rfl (by rw [Hn]; decide) (by rw [Hn]; decide) Sr) all0 all0 [.int 79] [] rfl rfl rfl (ok 1 rfl) hml rfl 0 rfl (by decide) 322 rfl fun u210 N211 T h212 w K213 P214 => ?_
  obtain ⟨rfl, rfl, rfl⟩ := P214
  rw [H79]
  show Run _ _ _ _ _ (mkF _ _ _ [.int (g0 q28)])
  refine jl w (ok 2 rfl) rfl 324 rfl <| jl w (ok 3 rfl) rfl 326 rfl <| jl w (ok 4 rfl) rfl 328 rfl <| jc w 3 (ok 5 rfl) rfl 329 rfl <| jc w 0 (ok 6 rfl) rfl 330 rfl <| wS w hEL (cB53 hw) (Kw hw 248 rfl) (rm_grp0 G0 h87 q28 q35 q42 3 rq28 rq35 rq42) all0 all0 [.int q28, .int q35, .int q42, .int 3, .int 0] [.int (g0 q28)] rfl rfl rfl (ok 7 rfl) hml rfl 1 rfl (by decide) 333 rfl fun u216 N217 T h218 w K219 P220 => ?_
  obtain ⟨rfl, rfl, rfl⟩ := P220
  show Run _ _ _ _ _ (mkF _ _ _ [.int (g0 q28), .int (g0 q28)])
  refine jx w (ok 8 rfl) (by decide) 336 rfl 619 rfl (fun ct222 => ?_) (fun ct222 => ?_)
  rotate_left
  · exact absurd rfl ct222
  refine ja w (ok 9 rfl) rfl rfl 338 rfl <| jb w 80 (ok 10 rfl) rfl 340 rfl <| wV w hEL (cB52 hw) (Kw hw 273 rfl) (Kw hw 274 rfl) (Kw hw 276 rfl) (Kw hw 276 rfl) Sr.1 (rm_cha G0 h87 r0 80 80 cs rfl (by rw [Hn]; decide) (by rw [Hn]; decide) Sr) all0 all0 [.int 80] [] rfl rfl rfl (ok 11 rfl) hml rfl 0 rfl (by decide) 343 rfl fun u223 N224 T h225 w K226 P227 => ?_
  obtain ⟨rfl, rfl, rfl⟩ := P227
  rw [H80]
  show Run _ _ _ _ _ (mkF _ _ _ [.int (g1 q28 q35)])
  refine jl w (ok 12 rfl) rfl 345 rfl <| jl w (ok 13 rfl) rfl 347 rfl <| jl w (ok 14 rfl) rfl 349 rfl <| jc w 3 (ok 15 rfl) rfl 350 rfl <| jc w 1 (ol 0 rfl) rfl 351 rfl <| wS w hEL (cB53 hw) (Kw hw 248 rfl) (rm_grp1 G0 h87 q28 q35 q42 3 rq28 rq35 rq42) all0 all0 [.int q28, .int q35, .int q42, .int 3, .int 1] [.int (g1 q28 q35)] rfl rfl rfl (ol 1 rfl) hml rfl 1 rfl (by decide) 354 rfl fun u229 N230 T h231 w K232 P233 => ?_
  obtain ⟨rfl, rfl, rfl⟩ := P233
  show Run _ _ _ _ _ (mkF _ _ _ [.int (g1 q28 q35), .int (g1 q28 q35)])
  refine jx w (ol 2 rfl) (by decide) 357 rfl 619 rfl (fun ct235 => ?_) (fun ct235 => ?_)
  rotate_left
  · exact absurd rfl ct235
  refine ja w (ol 3 rfl) rfl rfl 359 rfl <| jb w 81 (ol 4 rfl) rfl 361 rfl <| wV w hEL (cB52 hw) (Kw hw 273 rfl) (Kw hw 274 rfl) (Kw hw 276 rfl) (Kw hw 276 rfl) Sr.1 (rm_cha G0 h87 r0 81 81 cs rfl (by rw [Hn]; decide) (by rw [Hn]; decide) Sr) all0 all0 [.int 81] [] rfl rfl rfl (ol 5 rfl) hml rfl 0 rfl (by decide) 364 rfl fun u236 N237 T h238 w K239 P240 => ?_
  obtain ⟨rfl, rfl, rfl⟩ := P240
  rw [H81]
  show Run _ _ _ _ _ (mkF _ _ _ [.int (G2 3 q35 q42)])
  refine jl w (ol 6 rfl) rfl 366 rfl <| jl w (ol 7 rfl) rfl 368 rfl <| jl w (ol 8 rfl) rfl 370 rfl <| jc w 3 (ol 9 rfl) rfl 371 rfl <| jc w 2 (ol 10 rfl) rfl 372 rfl <| wS w hEL (cB53 hw) (Kw hw 248 rfl) (rm_grp2 G0 h87 q28 q35 q42 3 rq28 rq35 rq42) all0 all0 [.int q28, .int q35, .int q42, .int 3, .int 2] [.int (G2 3 q35 q42)] rfl rfl rfl (ol 11 rfl) hml rfl 1 rfl (by decide) 375 rfl fun u242 N243 T h244 w K245 P246 => ?_
  obtain ⟨rfl, rfl, rfl⟩ := P246
  show Run _ _ _ _ _ (mkF _ _ _ [.int (G2 3 q35 q42), .int (G2 3 q35 q42)])
  refine jx w (ol 12 rfl) (by decide) 378 rfl 619 rfl (fun ct248 => ?_) (fun ct248 => ?_)
  rotate_left
  · exact absurd rfl ct248
  refine ja w (ol 13 rfl) rfl rfl 380 rfl <| jb w 82 (ol 14 rfl) rfl 382 rfl <| wV w hEL (cB52 hw) (Kw hw 273 rfl) (Kw hw 274 rfl) (Kw hw 276 rfl) (Kw hw 276 rfl) Sr.1 (rm_cha G0 h87 r0 82 82 cs rfl (by rw [Hn]; decide) (by rw [Hn]; decide) Sr) all0 all0 [.int 82] [] rfl rfl rfl (ol 15 rfl) hml rfl 0 rfl (by decide) 385 rfl fun u249 N250 T h251 w K252 P253 => ?_
  obtain ⟨rfl, rfl, rfl⟩ := P253
  rw [H82]
  show Run _ _ _ _ _ (mkF _ _ _ [.int (G3 3 q42)])
  refine jl w (om 0 rfl) rfl 387 rfl <| jl w (om 1 rfl) rfl 389 rfl <| jl w (om 2 rfl) rfl 391 rfl <| jc w 3 (om 3 rfl) rfl 392 rfl <| jc w 3 (om 4 rfl) rfl 393 rfl <| wS w hEL (cB53 hw) (Kw hw 248 rfl) (rm_grp3 G0 h87 q28 q35 q42 3 rq28 rq35 rq42) all0 all0 [.int q28, .int q35, .int q42, .int 3, .int 3] [.int (G3 3 q42)] rfl rfl rfl (om 5 rfl) hml rfl 1 rfl (by decide) 396 rfl fun u255 N256 T h257 w K258 P259 => ?_
  obtain ⟨rfl, rfl, rfl⟩ := P259
  show Run _ _ _ _ _ (mkF _ _ _ [.int (G3 3 q42), .int (G3 3 q42)])
  refine jx w (om 6 rfl) (by decide) 399 rfl 619 rfl (fun ct261 => ?_) (fun ct261 => ?_)
  rotate_left
  · exact absurd rfl ct261
  refine ja w (om 7 rfl) rfl rfl 401 rfl <| jb w 83 (om 8 rfl) rfl 403 rfl <| wV w hEL (cB52 hw) (Kw hw 273 rfl) (Kw hw 274 rfl) (Kw hw 276 rfl) (Kw hw 276 rfl) Sr.1 (rm_cha G0 h87 r0 83 83 cs rfl (by rw [Hn]; decide) (by rw [Hn]; decide) Sr) all0 all0 [.int 83] [] rfl rfl rfl (om 9 rfl) hml rfl 0 rfl (by decide) 406 rfl fun u262 N263 T h264 w K265 P266 => ?_
  obtain ⟨rfl, rfl, rfl⟩ := P266
  rw [H83]
  show Run _ _ _ _ _ (mkF _ _ _ [.int 10])
  refine jb w 10 (om 10 rfl) rfl 408 rfl <| jx w (om 11 rfl) (by decide) 411 rfl 619 rfl (fun _ => ?_) (fun q => absurd q (by decide))
  refine ja w (om 12 rfl) rfl rfl 413 rfl <| jb w 84 (om 13 rfl) rfl 415 rfl <| wV w hEL (cB52 hw) (Kw hw 273 rfl) (Kw hw 274 rfl) (Kw hw 276 rfl) (Kw hw 276 rfl) Sr.1 (rm_cha G0 h87 r0 84 84 cs rfl (by rw [Hn]; decide) (by rw [Hn]; decide) Sr) all0 all0 [.int 84] [] rfl rfl rfl (om 14 rfl) hml rfl 0 rfl (by decide) 418 rfl fun u269 N270 T h271 w K272 P273 => ?_
  obtain ⟨rfl, rfl, rfl⟩ := P273
  rw [H84]
  show Run _ _ _ _ _ (mkF _ _ _ [.int (g0 q49)])
  refine jl w (om 15 rfl) rfl 420 rfl <| jc w 0 (on 0 rfl) rfl 421 rfl <| jc w 0 (on 1 rfl) rfl 422 rfl <| jc w 1 (on 2 rfl) rfl 423 rfl <| jc w 0 (on 3 rfl) rfl 424 rfl <| wS w hEL (cB53 hw) (Kw hw 248 rfl) (rm_grp0 G0 h87 q49 0 0 1 rq49 by0 by0) all0 all0 [.int q49, .int 0, .int 0, .int 1, .int 0] [.int (g0 q49)] rfl rfl rfl (on 4 rfl) hml rfl 1 rfl (by decide) 427 rfl fun u275 N276 T h277 w K278 P279 => ?_
  obtain ⟨rfl, rfl, rfl⟩ := P279
  show Run _ _ _ _ _ (mkF _ _ _ [.int (g0 q49), .int (g0 q49)])
  refine jx w (on 5 rfl) (by decide) 430 rfl 619 rfl (fun ct281 => ?_) (fun ct281 => ?_)
  rotate_left
  · exact absurd rfl ct281
  refine ja w (on 6 rfl) rfl rfl 432 rfl <| jb w 85 (on 7 rfl) rfl 434 rfl <| wV w hEL (cB52 hw) (Kw hw 273 rfl) (Kw hw 274 rfl) (Kw hw 276 rfl) (Kw hw 276 rfl) Sr.1 (rm_cha G0 h87 r0 85 85 cs rfl (by rw [Hn]; decide) (by rw [Hn]; decide) Sr) all0 all0 [.int 85] [] rfl rfl rfl (on 8 rfl) hml rfl 0 rfl (by decide) 437 rfl fun u282 N283 T h284 w K285 P286 => ?_
  obtain ⟨rfl, rfl, rfl⟩ := P286
  rw [H85]
  show Run _ _ _ _ _ (mkF _ _ _ [.int (g1 q49 0)])
  refine jl w (on 9 rfl) rfl 439 rfl <| jc w 0 (on 10 rfl) rfl 440 rfl <| jc w 0 (on 11 rfl) rfl 441 rfl <| jc w 1 (on 12 rfl) rfl 442 rfl <| jc w 1 (on 13 rfl) rfl 443 rfl <| wS w hEL (cB53 hw) (Kw hw 248 rfl) (rm_grp1 G0 h87 q49 0 0 1 rq49 by0 by0) all0 all0 [.int q49, .int 0, .int 0, .int 1, .int 1] [.int (g1 q49 0)] rfl rfl rfl (on 14 rfl) hml rfl 1 rfl (by decide) 446 rfl fun u288 N289 T h290 w K291 P292 => ?_
  obtain ⟨rfl, rfl, rfl⟩ := P292
  show Run _ _ _ _ _ (mkF _ _ _ [.int (g1 q49 0), .int (g1 q49 0)])
  refine jx w (on 15 rfl) (by decide) 449 rfl 619 rfl (fun ct294 => ?_) (fun ct294 => ?_)
  rotate_left
  · exact absurd rfl ct294
  refine ja w (oo 0 rfl) rfl rfl 451 rfl <| jb w 86 (oo 1 rfl) rfl 453 rfl <| wV w hEL (cB52 hw) (Kw hw 273 rfl) (Kw hw 274 rfl) (Kw hw 276 rfl) (Kw hw 276 rfl) Sr.1 (rm_cha G0 h87 r0 86 86 cs rfl (by rw [Hn]; decide) (by rw [Hn]; decide) Sr) all0 all0 [.int 86] [] rfl rfl rfl (oo 2 rfl) hml rfl 0 rfl (by decide) 456 rfl fun u295 N296 T h297 w K298 P299 => ?_
  obtain ⟨rfl, rfl, rfl⟩ := P299
  rw [H86]
  show Run _ _ _ _ _ (mkF _ _ _ [.int 61])
  refine jb w 61 (oo 3 rfl) rfl 458 rfl <| jx w (oo 4 rfl) (by decide) 461 rfl 619 rfl (fun _ => ?_) (fun q => absurd q (by decide))
  refine ja w (oo 5 rfl) rfl rfl 463 rfl <| jb w 87 (oo 6 rfl) rfl 465 rfl <| wV w hEL (cB52 hw) (Kw hw 273 rfl) (Kw hw 274 rfl) (Kw hw 276 rfl) (Kw hw 276 rfl) Sr.1 (rm_cha G0 h87 r0 87 87 cs rfl (by rw [Hn]; decide) (by rw [Hn]; decide) Sr) all0 all0 [.int 87] [] rfl rfl rfl (oo 7 rfl) hml rfl 0 rfl (by decide) 468 rfl fun u302 N303 T h304 w K305 P306 => ?_
  obtain ⟨rfl, rfl, rfl⟩ := P306
  rw [H87]
  show Run _ _ _ _ _ (mkF _ _ _ [.int 61])
  refine jb w 61 (oo 8 rfl) rfl 470 rfl <| jx w (oo 9 rfl) (by decide) 473 rfl 619 rfl (fun _ => ?_) (fun q => absurd q (by decide))
  refine ja w (oo 10 rfl) rfl rfl 475 rfl <| jb w 88 (oo 11 rfl) rfl 477 rfl <| wV w hEL (cB52 hw) (Kw hw 273 rfl) (Kw hw 274 rfl) (Kw hw 276 rfl) (Kw hw 276 rfl) Sr.1 (rm_cha G0 h87 r0 88 88 cs rfl (by rw [Hn]; decide) (by rw [Hn]; decide) Sr) all0 all0 [.int 88] [] rfl rfl rfl (oo 12 rfl) hml rfl 0 rfl (by decide) 480 rfl fun u309 N310 T h311 w K312 P313 => ?_
  obtain ⟨rfl, rfl, rfl⟩ := P313
  rw [H88]
  show Run _ _ _ _ _ (mkF _ _ _ [.int 10])
  refine jb w 10 (oo 13 rfl) rfl 482 rfl <| jx w (oo 14 rfl) (by decide) 485 rfl 619 rfl (fun _ => ?_) (fun q => absurd q (by decide))
  refine ja w (oo 15 rfl) rfl rfl 487 rfl <| jb w 89 (op 0 rfl) rfl 489 rfl <| wV w hEL (cB52 hw) (Kw hw 273 rfl) (Kw hw 274 rfl) (Kw hw 276 rfl) (Kw hw 276 rfl) Sr.1 (rm_cha G0 h87 r0 89 89 cs rfl (by rw [Hn]; decide) (by rw [Hn]; decide) Sr) all0 all0 [.int 89] [] rfl rfl rfl (op 1 rfl) hml rfl 0 rfl (by decide) 492 rfl fun u316 N317 T h318 w K319 P320 => ?_
  obtain ⟨rfl, rfl, rfl⟩ := P320
  rw [H89]
  show Run _ _ _ _ _ (mkF _ _ _ [.int 45])
  refine jb w 45 (op 2 rfl) rfl 494 rfl <| jx w (op 3 rfl) (by decide) 497 rfl 619 rfl (fun _ => ?_) (fun q => absurd q (by decide))
  refine ja w (op 4 rfl) rfl rfl 499 rfl <| jb w 93 (op 5 rfl) rfl 501 rfl <| wV w hEL (cB52 hw) (Kw hw 273 rfl) (Kw hw 274 rfl) (Kw hw 276 rfl) (Kw hw 276 rfl) Sr.1 (rm_cha G0 h87 r0 93 93 cs rfl (by rw [Hn]; decide) (by rw [Hn]; decide) Sr) all0 all0 [.int 93] [] rfl rfl rfl (op 6 rfl) hml rfl 0 rfl (by decide) 504 rfl fun u323 N324 T h325 w K326 P327 => ?_
  obtain ⟨rfl, rfl, rfl⟩ := P327
  rw [H93]
  show Run _ _ _ _ _ (mkF _ _ _ [.int 45])
  refine jb w 45 (op 7 rfl) rfl 506 rfl <| jx w (op 8 rfl) (by decide) 509 rfl 619 rfl (fun _ => ?_) (fun q => absurd q (by decide))
  refine ja w (op 9 rfl) rfl rfl 511 rfl <| jb w 94 (op 10 rfl) rfl 513 rfl <| wV w hEL (cB52 hw) (Kw hw 273 rfl) (Kw hw 274 rfl) (Kw hw 276 rfl) (Kw hw 276 rfl) Sr.1 (rm_cha G0 h87 r0 94 94 cs rfl (by rw [Hn]; decide) (by rw [Hn]; decide) Sr) all0 all0 [.int 94] [] rfl rfl rfl (op 11 rfl) hml rfl 0 rfl (by decide) 516 rfl fun u330 N331 T h332 w K333 P334 => ?_
  obtain ⟨rfl, rfl, rfl⟩ := P334
  rw [H94]
  show Run _ _ _ _ _ (mkF _ _ _ [.int 69])
  refine jb w 69 (op 12 rfl) rfl 518 rfl <| jx w (op 13 rfl) (by decide) 521 rfl 619 rfl (fun _ => ?_) (fun q => absurd q (by decide))
  refine ja w (op 14 rfl) rfl rfl 523 rfl <| jb w 95 (op 15 rfl) rfl 525 rfl <| wV w hEL (cB52 hw) (Kw hw 273 rfl) (Kw hw 274 rfl) (Kw hw 276 rfl) (Kw hw 276 rfl) Sr.1 (rm_cha G0 h87 r0 95 95 cs rfl (by rw [Hn]; decide) (by rw [Hn]; decide) Sr) all0 all0 [.int 95] [] rfl rfl rfl (oq 0 rfl) hml rfl 0 rfl (by decide) 528 rfl fun u337 N338 T h339 w K340 P341 => ?_
  obtain ⟨rfl, rfl, rfl⟩ := P341
  rw [H95]
  show Run _ _ _ _ _ (mkF _ _ _ [.int 78])
  refine jb w 78 (oq 1 rfl) rfl 530 rfl <| jx w (oq 2 rfl) (by decide) 533 rfl 619 rfl (fun _ => ?_) (fun q => absurd q (by decide))
  refine ja w (oq 3 rfl) rfl rfl 535 rfl <| jb w 96 (oq 4 rfl) rfl 537 rfl <| wV w hEL (cB52 hw) (Kw hw 273 rfl) (Kw hw 274 rfl) (Kw hw 276 rfl) (Kw hw 276 rfl) Sr.1 (rm_cha G0 h87 r0 96 96 cs rfl (by rw [Hn]; decide) (by rw [Hn]; decide) Sr) all0 all0 [.int 96] [] rfl rfl rfl (oq 5 rfl) hml rfl 0 rfl (by decide) 540 rfl fun u344 N345 T h346 w K347 P348 => ?_
  obtain ⟨rfl, rfl, rfl⟩ := P348
  rw [H96]
  show Run _ _ _ _ _ (mkF _ _ _ [.int 68])
  refine jb w 68 (oq 6 rfl) rfl 542 rfl <| jx w (oq 7 rfl) (by decide) 545 rfl 619 rfl (fun _ => ?_) (fun q => absurd q (by decide))
  refine ja w (oq 8 rfl) rfl rfl 547 rfl <| jb w 97 (oq 9 rfl) rfl 549 rfl <| wV w hEL (cB52 hw) (Kw hw 273 rfl) (Kw hw 274 rfl) (Kw hw 276 rfl) (Kw hw 276 rfl) Sr.1 (rm_cha G0 h87 r0 97 97 cs rfl (by rw [Hn]; decide) (by rw [Hn]; decide) Sr) all0 all0 [.int 97] [] rfl rfl rfl (oq 10 rfl) hml rfl 0 rfl (by decide) 552 rfl fun u351 N352 T h353 w K354 P355 => ?_
  obtain ⟨rfl, rfl, rfl⟩ := P355
  rw [H97]
  show Run _ _ _ _ _ (mkF _ _ _ [.int 32])
  refine jb w 32 (oq 11 rfl) rfl 554 rfl <| jx w (oq 12 rfl) (by decide) 557 rfl 619 rfl (fun _ => ?_) (fun q => absurd q (by decide))
  refine ja w (oq 13 rfl) rfl rfl 559 rfl <| jb w 98 (oq 14 rfl) rfl 561 rfl <| wV w hEL (cB52 hw) (Kw hw 273 rfl) (Kw hw 274 rfl) (Kw hw 276 rfl) (Kw hw 276 rfl) Sr.1 (rm_cha G0 h87 r0 98 98 cs rfl (by rw [Hn]; decide) (by rw [Hn]; decide) Sr) all0 all0 [.int 98] [] rfl rfl rfl (oq 15 rfl) hml rfl 0 rfl (by decide) 564 rfl fun u358 N359 T h360 w K361 P362 => ?_
  obtain ⟨rfl, rfl, rfl⟩ := P362
  rw [H98]
  show Run _ _ _ _ _ (mkF _ _ _ [.int l0])
  refine jn w (or 0 rfl) rfl 565 rfl <| jx w (or 1 rfl) (by decide) 568 rfl 619 rfl (fun ct364 => ?_) (fun ct364 => ?_)
  rotate_left
  · exact absurd rfl ct364
  refine ja w (or 2 rfl) rfl rfl 570 rfl <| jb w 99 (or 3 rfl) rfl 572 rfl <| wV w hEL (cB52 hw) (Kw hw 273 rfl) (Kw hw 274 rfl) (Kw hw 276 rfl) (Kw hw 276 rfl) Sr.1 (rm_cha G0 h87 r0 99 99 cs rfl (by rw [Hn]; decide) (by rw [Hn]; decide) Sr) all0 all0 [.int 99] [] rfl rfl rfl (or 4 rfl) hml rfl 0 rfl (by decide) 575 rfl fun u365 N366 T h367 w K368 P369 => ?_
  obtain ⟨rfl, rfl, rfl⟩ := P369
  rw [H99]
  show Run _ _ _ _ _ (mkF _ _ _ [.int l1])
  refine jn w (or 5 rfl) rfl 576 rfl <| jx w (or 6 rfl) (by decide) 579 rfl 619 rfl (fun ct371 => ?_) (fun ct371 => ?_)
  rotate_left
  · exact absurd rfl ct371
  refine ja w (or 7 rfl) rfl rfl 581 rfl <| jb w 100 (or 8 rfl) rfl 583 rfl <| wV w hEL (cB52 hw) (Kw hw 273 rfl) (Kw hw 274 rfl) (Kw hw 276 rfl) (Kw hw 276 rfl) Sr.1 (rm_cha G0 h87 r0 100 100 cs rfl (by rw [Hn]; decide) (by rw [Hn]; decide) Sr) all0 all0 [.int 100] [] rfl rfl rfl (or 9 rfl) hml rfl 0 rfl (by decide) 586 rfl fun u372 N373 T h374 w K375 P376 => ?_
  obtain ⟨rfl, rfl, rfl⟩ := P376
  rw [H100]
  show Run _ _ _ _ _ (mkF _ _ _ [.int 45])
  refine jb w 45 (or 10 rfl) rfl 588 rfl <| jx w (or 11 rfl) (by decide) 591 rfl 619 rfl (fun _ => ?_) (fun q => absurd q (by decide))
  refine ja w (or 12 rfl) rfl rfl 593 rfl <| jb w 104 (or 13 rfl) rfl 595 rfl <| wV w hEL (cB52 hw) (Kw hw 273 rfl) (Kw hw 274 rfl) (Kw hw 276 rfl) (Kw hw 276 rfl) Sr.1 (rm_cha G0 h87 r0 104 104 cs rfl (by rw [Hn]; decide) (by rw [Hn]; decide) Sr) all0 all0 [.int 104] [] rfl rfl rfl (or 14 rfl) hml rfl 0 rfl (by decide) 598 rfl fun u379 N380 T h381 w K382 P383 => ?_
  obtain ⟨rfl, rfl, rfl⟩ := P383
  rw [H104]
  show Run _ _ _ _ _ (mkF _ _ _ [.int 45])
  refine jb w 45 (or 15 rfl) rfl 600 rfl <| jx w (os 0 rfl) (by decide) 603 rfl 619 rfl (fun _ => ?_) (fun q => absurd q (by decide))
  refine ja w (os 1 rfl) rfl rfl 605 rfl <| jb w 105 (os 2 rfl) rfl 607 rfl <| wV w hEL (cB52 hw) (Kw hw 273 rfl) (Kw hw 274 rfl) (Kw hw 276 rfl) (Kw hw 276 rfl) Sr.1 (rm_cha G0 h87 r0 105 105 cs rfl (by rw [Hn]; decide) (by rw [Hn]; decide) Sr) all0 all0 [.int 105] [] rfl rfl rfl (os 3 rfl) hml rfl 0 rfl (by decide) 610 rfl fun u386 N387 T h388 w K389 P390 => ?_
  obtain ⟨rfl, rfl, rfl⟩ := P390
  rw [H105]
  show Run _ _ _ _ _ (mkF _ _ _ [.int 10])
  refine jb w 10 (os 4 rfl) rfl 612 rfl <| jx w (os 5 rfl) (by decide) 615 rfl 619 rfl (fun _ => ?_) (fun q => absurd q (by decide))
  refine jc w 1 (os 6 rfl) rfl 616 rfl <| jt w (os 7 rfl) (by decide) 620 rfl ?_
  exact w_ireturn w hEL hs hlk hret rfl (Or.inr (Or.inl rfl)) (os 8 rfl) (by decide) (by decide) rfl
open StrChars StrChars.Road

theorem n8_0 : N8 0 := by unfold N8; decide
theorem n8_1 : N8 1 := by unfold N8; decide
theorem n8_2 : N8 2 := by unfold N8; decide
theorem n8_3 : N8 3 := by unfold N8; decide
theorem n8_4 : N8 4 := by unfold N8; decide
theorem n8_5 : N8 5 := by unfold N8; decide
theorem n8_6 : N8 6 := by unfold N8; decide
theorem rm_law0 (G : Gl Z a0 zc fm tba ktb fba kfb) (h : Heap) (p0 : Int32) (p1 : Int32) (w0 : Int64) (hn : p0 &&& 7 = 0) :
    Met l Z consts_1 x code maxLocals ret room_1 #[.int p0, .int p1, .long w0] h [] [] (fun v h' => v = some (.int 1)) := by
  have G0 := G
  obtain ⟨hw, hEL, SC, hz, -⟩ := G
  have hwE := fun d q => hw d (subE d q)
  refine Met.of (plainFor_of_name pn_12) ?_
  intro p e s m below meth c T hnm hret hlk hby hml hs w; have bq := @hb _ _ hby
  refine Run.cast (efL (L := #[vI p0, vI p1, vJ w0, .second, .unset, .unset, .unset, .unset, .unset, .unset, .unset, .unset, .unset, .unset, .unset, .unset, .unset, .unset, .unset, .unset]) (by simp [argsToLocals, Value.category, vI, vR, vJ, maxLocals])) ?_
  refine jn w (bq at_0) rfl 1 rfl <| s_i2c w (bq at_1) 2 rfl ?_
  generalize hv1 : ((nar .char p1) : Int32) = v1
  refine js w #[vI p0, vI p1, vJ w0, .second, vI v1, .unset, .unset, .unset, .unset, .unset, .unset, .unset, .unset, .unset, .unset, .unset, .unset, .unset, .unset, .unset] (bq at_2) rfl 4 rfl ?_
  have lv1 : Chr v1 := by rw [← hv1]; exact chr_nar _
  refine jn w (bq at_4) rfl 5 rfl <| jb w 16 (bq at_5) rfl 7 rfl <| s_iushr w (bq at_7) 8 rfl <| s_i2c w (bq at_8) 9 rfl ?_
  generalize hv2 : ((nar .char (XT.ushr p1 16)) : Int32) = v2
  refine js w #[vI p0, vI p1, vJ w0, .second, vI v1, vI v2, .unset, .unset, .unset, .unset, .unset, .unset, .unset, .unset, .unset, .unset, .unset, .unset, .unset, .unset] (bq at_9) rfl 11 rfl ?_
  have lv2 : Chr v2 := by rw [← hv2]; exact chr_nar _
  refine w_new w (Kw hw 0 rfl) (Kw hw 1 rfl) (Kw hw 2 rfl) (bq at_11) 14 rfl (by decide) (by decide) fun T h3 x4 w E5 q6 r7 A8 D9 => ?_
  have F_coder_x4 : Fld Z h3 x4 "java/lang/String" "coder" "B" (.int 0) := D9 (Or.inr (Kw hw 27 rfl)) (ty := .byte) (by decide)
  have F_value_x4 : Fld Z h3 x4 "java/lang/String" "value" "[B" (.null) := D9 (Or.inr (Kw hw 29 rfl)) (ty := (.array .byte)) (by decide)
  refine jd w (bq at_14) rfl 15 rfl <| jc w 2 (bq at_15) rfl 16 rfl <| w_newP w (Kw hw 3 rfl) rfl rfl (bq at_16) (by decide) (n := 2) (by decide) (by decide) 18 rfl (by decide) (by decide) fun T h10 x11 k12 w E13 q14 r15 V16 => ?_
  refine jd w (bq at_18) rfl 19 rfl <| jc w 0 (bq at_19) rfl 20 rfl <| jl w (bq at_20) rfl 22 rfl <| jC w V16 (i := 0) (by decide) rfl (by decide) (Nat.le_of_ble_eq_true rfl) lv1.nar (bq at_22) (Or.inr r15) 23 rfl fun T h17 w W18 V19 => ?_
  have E20 := Ext.wr' E13 W18 q14
  refine jd w (bq at_23) rfl 24 rfl <| jc w 1 (bq at_24) rfl 25 rfl <| jl w (bq at_25) rfl 27 rfl <| jC w V19 (i := 1) (by decide) rfl (by decide) (Nat.le_of_ble_eq_true rfl) lv2.nar (bq at_27) (Or.inr r15) 28 rfl fun T h21 w W22 V23 => ?_
  have E24 := Ext.wr' E20 W22 q14
  refine w_special w hEL (y := mN9) (a := x4) rfl (Kw hw 4 rfl) (Kw hw 5 rfl) (Kw hw 2 rfl) (Kw hw 6 rfl) (by decide) (rm_in1 G0 h21 x4 x11 2 k12 [v1, v2] _ _ rfl (Nat.le_of_ble_eq_true rfl) (Nat.le_of_ble_eq_true rfl) (by intro c q; simp only [List.mem_cons, List.not_mem_nil, or_false] at q; rcases q with rfl | rfl <;> first | exact lv1 | exact lv2) (show Arv Z h21 x11 k12 .char 2 (([v1, v2] : List Int32).map Value.int) (.int 0) from V23) (A8.ext E24) (F_value_x4.ext E24) (F_coder_x4.ext E24)) (allS (mi 1 rfl) all0) (allS (Or.inr r7) all0) (argsL := [.ref x11]) (rest := [.ref x4]) (lenOf pD10 rfl) rfl rfl (bq at_28) (by rw [hml]; rfl) (W := 1) (Nat.le_of_eq rfl) (by decide) (by decide) (by decide) (by decide) 31 rfl fun u25 T h26 w K27 P28 => ?_
  obtain ⟨rfl, F29⟩ := P28
  have E30 := Ext.kp (Ext.tr E5 E24) K27 (allS q6 all0)
  show Run _ _ _ _ _ (mkF _ _ _ [.ref x4])
  refine s_astore w #[vI p0, vI p1, vJ w0, .second, vI v1, vI v2, vR x4, .unset, .unset, .unset, .unset, .unset, .unset, .unset, .unset, .unset, .unset, .unset, .unset, .unset] (bq at_31) rfl rfl 33 rfl <| jn w (bq at_33) rfl 34 rfl <| jb w 7 (bq at_34) rfl 36 rfl <| jw w (bq at_36) 37 rfl ?_
  rw [hn]
  refine js w #[vI p0, vI p1, vJ w0, .second, vI v1, vI v2, vR x4, vI 0, .unset, .unset, .unset, .unset, .unset, .unset, .unset, .unset, .unset, .unset, .unset, .unset] (bq at_37) rfl 39 rfl <| jl w (bq at_39) rfl 41 rfl <| jb w 7 (bq at_41) rfl 43 rfl <| jx w (bq at_43) (by decide) 46 rfl 57 rfl (fun q => absurd q (by decide)) (fun _ => ?_)
  refine jl w (bq at_57) rfl 59 rfl <| s_if_le w (bq at_59) (by decide) 62 rfl 70 rfl (fun q => absurd q (by decide)) (fun _ => ?_)
  refine jc w 0 (bq at_70) rfl 71 rfl <| js w #[vI p0, vI p1, vJ w0, .second, vI v1, vI v2, vR x4, vI 0, vI 0, .unset, .unset, .unset, .unset, .unset, .unset, .unset, .unset, .unset, .unset, .unset] (bq at_71) rfl 73 rfl <| jl w (bq at_73) rfl 75 rfl <| jc w 1 (bq at_75) rfl 76 rfl <| je w (bq at_76) (by decide) 79 rfl 87 rfl (fun q => absurd q (by decide)) (fun _ => ?_)
  refine jc w 0 (bq at_87) rfl 88 rfl <| js w #[vI p0, vI p1, vJ w0, .second, vI v1, vI v2, vR x4, vI 0, vI 0, vI 0, .unset, .unset, .unset, .unset, .unset, .unset, .unset, .unset, .unset, .unset] (bq at_88) rfl 90 rfl <| jl w (bq at_90) rfl 92 rfl <| jc w 2 (bq at_92) rfl 93 rfl <| je w (bq at_93) (by decide) 96 rfl 104 rfl (fun q => absurd q (by decide)) (fun _ => ?_)
  refine jc w 0 (bq at_104) rfl 105 rfl <| js w #[vI p0, vI p1, vJ w0, .second, vI v1, vI v2, vR x4, vI 0, vI 0, vI 0, vI 0, .unset, .unset, .unset, .unset, .unset, .unset, .unset, .unset, .unset] (bq at_105) rfl 107 rfl <| jl w (bq at_107) rfl 109 rfl <| jc w 3 (bq at_109) rfl 110 rfl <| je w (bq at_110) (by decide) 113 rfl 121 rfl (fun q => absurd q (by decide)) (fun _ => ?_)
  refine jc w 0 (bq at_121) rfl 122 rfl <| js w #[vI p0, vI p1, vJ w0, .second, vI v1, vI v2, vR x4, vI 0, vI 0, vI 0, vI 0, vI 0, .unset, .unset, .unset, .unset, .unset, .unset, .unset, .unset] (bq at_122) rfl 124 rfl <| jl w (bq at_124) rfl 126 rfl <| jc w 4 (bq at_126) rfl 127 rfl <| je w (bq at_127) (by decide) 130 rfl 138 rfl (fun q => absurd q (by decide)) (fun _ => ?_)
  refine jc w 0 (bq at_138) rfl 139 rfl <| js w #[vI p0, vI p1, vJ w0, .second, vI v1, vI v2, vR x4, vI 0, vI 0, vI 0, vI 0, vI 0, vI 0, .unset, .unset, .unset, .unset, .unset, .unset, .unset] (bq at_139) rfl 141 rfl <| jl w (bq at_141) rfl 143 rfl <| jc w 5 (bq at_143) rfl 144 rfl <| je w (bq at_144) (by decide) 147 rfl 155 rfl (fun q => absurd q (by decide)) (fun _ => ?_)
  refine jc w 0 (bq at_155) rfl 156 rfl <| js w #[vI p0, vI p1, vJ w0, .second, vI v1, vI v2, vR x4, vI 0, vI 0, vI 0, vI 0, vI 0, vI 0, vI 0, .unset, .unset, .unset, .unset, .unset, .unset] (bq at_156) rfl 158 rfl <| jl w (bq at_158) rfl 160 rfl <| w_newP w (Kw hw 19 rfl) rfl rfl (bq at_160) (by decide) (n := 0) (by decide) (by decide) 162 rfl (by decide) (by decide) fun T h38 x39 k40 w E41 q42 r43 V44 => ?_
  refine s_astore w #[vI p0, vI p1, vJ w0, .second, vI v1, vI v2, vR x4, vI 0, vI 0, vI 0, vI 0, vI 0, vI 0, vI 0, vR x39, .unset, .unset, .unset, .unset, .unset] (bq at_162) rfl rfl 164 rfl ?_
  have Ad : Arv Z h38 x39 k40 .byte (Int32.ofNat ([] : List Int32).length) (([] : List Int32).map Value.int) (.int 0) := V44
  refine jl w (bq at_164) rfl 166 rfl <| s_if_le w (bq at_166) (by decide) 169 rfl 176 rfl (fun q => absurd q (by decide)) (fun _ => ?_)
  refine jl w (bq at_176) rfl 178 rfl <| jc w 1 (bq at_178) rfl 179 rfl <| je w (bq at_179) (by decide) 182 rfl 189 rfl (fun q => absurd q (by decide)) (fun _ => ?_)
  refine jl w (bq at_189) rfl 191 rfl <| jc w 2 (bq at_191) rfl 192 rfl <| je w (bq at_192) (by decide) 195 rfl 202 rfl (fun q => absurd q (by decide)) (fun _ => ?_)
  refine jl w (bq at_202) rfl 204 rfl <| jc w 3 (bq at_204) rfl 205 rfl <| je w (bq at_205) (by decide) 208 rfl 215 rfl (fun q => absurd q (by decide)) (fun _ => ?_)
  refine jl w (bq at_215) rfl 217 rfl <| jc w 4 (bq at_217) rfl 218 rfl <| je w (bq at_218) (by decide) 221 rfl 228 rfl (fun q => absurd q (by decide)) (fun _ => ?_)
  refine jl w (bq at_228) rfl 230 rfl <| jc w 5 (bq at_230) rfl 231 rfl <| je w (bq at_231) (by decide) 234 rfl 241 rfl (fun q => absurd q (by decide)) (fun _ => ?_)
  refine jl w (bq at_241) rfl 243 rfl <| jc w 3 (bq at_243) rfl 244 rfl <| wS w hEL (cB19 hw) (Kw hw 30 rfl) (rm_min G0 h38 0 3) all0 all0 [.int 0, .int 3] [] rfl rfl rfl (bq at_244) hml rfl 0 rfl (by decide) 247 rfl fun u51 N52 T h53 w K54 P55 => ?_
  obtain ⟨rfl, rfl, rfl⟩ := P55
  rw [show (if (3 : Int32) < 0 then (3 : Int32) else 0) = 0 from by decide]
  show Run _ _ _ _ _ (mkF _ _ _ [.int 0])
  refine js w #[vI p0, vI p1, vJ w0, .second, vI v1, vI v2, vR x4, vI 0, vI 0, vI 0, vI 0, vI 0, vI 0, vI 0, vR x39, vI 0, .unset, .unset, .unset, .unset] (bq at_247) rfl 249 rfl <| jl w (bq at_249) rfl 251 rfl <| jc w 3 (bq at_251) rfl 252 rfl <| s_isub w (bq at_252) 253 rfl ?_
  rw [show ((0 - 3) : Int32) = (-3) from by decide]
  refine js w #[vI p0, vI p1, vJ w0, .second, vI v1, vI v2, vR x4, vI 0, vI 0, vI 0, vI 0, vI 0, vI 0, vI 0, vR x39, vI 0, vI (-3), .unset, .unset, .unset] (bq at_253) rfl 255 rfl <| jl w (bq at_255) rfl 257 rfl <| s_if_ne w (bq at_257) (by decide) 260 rfl 485 rfl (fun _ => ?_) (fun q => absurd q (by decide))
  refine jb w 37 (bq at_260) rfl 262 rfl <| w_newP w (Kw hw 3 rfl) rfl rfl (bq at_262) (by decide) (n := 37) (by decide) (by decide) 264 rfl (by decide) (by decide) fun T h58 x59 k60 w E61 q62 r63 V64 => ?_
  have x59_c := CA.new (n := 37) V64 (by decide)
  refine jd w (bq at_264) rfl 265 rfl <| jc w 0 (bq at_265) rfl 266 rfl <| jb w 45 (bq at_266) rfl 268 rfl <| w_csC w x59_c [45] rfl rfl (by decide) (show nar .char (45 : Int32) = 45 by decide) (bq at_268) (Or.inr r63) E61 q62 269 rfl 1 rfl fun T h65 w E66 A67 => ?_
  refine jd w (bq at_269) rfl 270 rfl <| jc w 1 (bq at_270) rfl 271 rfl <| jb w 45 (bq at_271) rfl 273 rfl <| w_csC w A67 [45, 45] rfl rfl (by decide) (show nar .char (45 : Int32) = 45 by decide) (bq at_273) (Or.inr r63) E66 q62 274 rfl 2 rfl fun T h68 w E69 A70 => ?_
  refine jd w (bq at_274) rfl 275 rfl <| jc w 2 (bq at_275) rfl 276 rfl <| jb w 45 (bq at_276) rfl 278 rfl <| w_csC w A70 [45, 45, 45] rfl rfl (by decide) (show nar .char (45 : Int32) = 45 by decide) (bq at_278) (Or.inr r63) E69 q62 279 rfl 3 rfl fun T h71 w E72 A73 => ?_
  refine jd w (bq at_279) rfl 280 rfl <| jc w 3 (bq at_280) rfl 281 rfl <| jb w 45 (bq at_281) rfl 283 rfl <| w_csC w A73 [45, 45, 45, 45] rfl rfl (by decide) (show nar .char (45 : Int32) = 45 by decide) (bq at_283) (Or.inr r63) E72 q62 284 rfl 4 rfl fun T h74 w E75 A76 => ?_
  refine jd w (bq at_284) rfl 285 rfl <| jc w 4 (bq at_285) rfl 286 rfl <| jb w 45 (bq at_286) rfl 288 rfl <| w_csC w A76 [45, 45, 45, 45, 45] rfl rfl (by decide) (show nar .char (45 : Int32) = 45 by decide) (bq at_288) (Or.inr r63) E75 q62 289 rfl 5 rfl fun T h77 w E78 A79 => ?_
  refine jd w (bq at_289) rfl 290 rfl <| jc w 5 (bq at_290) rfl 291 rfl <| jb w 66 (bq at_291) rfl 293 rfl <| w_csC w A79 [45, 45, 45, 45, 45, 66] rfl rfl (by decide) (show nar .char (66 : Int32) = 66 by decide) (bq at_293) (Or.inr r63) E78 q62 294 rfl 6 rfl fun T h80 w E81 A82 => ?_
  refine jd w (bq at_294) rfl 295 rfl <| jb w 6 (bq at_295) rfl 297 rfl <| jb w 69 (bq at_297) rfl 299 rfl <| w_csC w A82 [45, 45, 45, 45, 45, 66, 69] rfl rfl (by decide) (show nar .char (69 : Int32) = 69 by decide) (bq at_299) (Or.inr r63) E81 q62 300 rfl 7 rfl fun T h83 w E84 A85 => ?_
  refine jd w (bq at_300) rfl 301 rfl <| jb w 7 (bq at_301) rfl 303 rfl <| jb w 71 (bq at_303) rfl 305 rfl <| w_csC w A85 [45, 45, 45, 45, 45, 66, 69, 71] rfl rfl (by decide) (show nar .char (71 : Int32) = 71 by decide) (bq at_305) (Or.inr r63) E84 q62 306 rfl 8 rfl fun T h86 w E87 A88 => ?_
  refine jd w (bq at_306) rfl 307 rfl <| jb w 8 (bq at_307) rfl 309 rfl <| jb w 73 (bq at_309) rfl 311 rfl <| w_csC w A88 [45, 45, 45, 45, 45, 66, 69, 71, 73] rfl rfl (by decide) (show nar .char (73 : Int32) = 73 by decide) (bq at_311) (Or.inr r63) E87 q62 312 rfl 9 rfl fun T h89 w E90 A91 => ?_
  refine jd w (bq at_312) rfl 313 rfl <| jb w 9 (bq at_313) rfl 315 rfl <| jb w 78 (bq at_315) rfl 317 rfl <| w_csC w A91 [45, 45, 45, 45, 45, 66, 69, 71, 73, 78] rfl rfl (by decide) (show nar .char (78 : Int32) = 78 by decide) (bq at_317) (Or.inr r63) E90 q62 318 rfl 10 rfl fun T h92 w E93 A94 => ?_
  refine jd w (bq at_318) rfl 319 rfl <| jb w 10 (bq at_319) rfl 321 rfl <| jb w 32 (bq at_321) rfl 323 rfl <| w_csC w A94 [45, 45, 45, 45, 45, 66, 69, 71, 73, 78, 32] rfl rfl (by decide) (show nar .char (32 : Int32) = 32 by decide) (bq at_323) (Or.inr r63) E93 q62 324 rfl 11 rfl fun T h95 w E96 A97 => ?_
  refine jd w (bq at_324) rfl 325 rfl <| jb w 11 (bq at_325) rfl 327 rfl <| jl w (bq at_327) rfl 329 rfl <| w_csC w A97 [45, 45, 45, 45, 45, 66, 69, 71, 73, 78, 32, v1] rfl rfl (by decide) lv1.nar (bq at_329) (Or.inr r63) E96 q62 330 rfl 12 rfl fun T h98 w E99 A100 => ?_
  refine jd w (bq at_330) rfl 331 rfl <| jb w 12 (bq at_331) rfl 333 rfl <| jl w (bq at_333) rfl 335 rfl <| w_csC w A100 [45, 45, 45, 45, 45, 66, 69, 71, 73, 78, 32, v1, v2] rfl rfl (by decide) lv2.nar (bq at_335) (Or.inr r63) E99 q62 336 rfl 13 rfl fun T h101 w E102 A103 => ?_
  refine jd w (bq at_336) rfl 337 rfl <| jb w 13 (bq at_337) rfl 339 rfl <| jb w 45 (bq at_339) rfl 341 rfl <| w_csC w A103 [45, 45, 45, 45, 45, 66, 69, 71, 73, 78, 32, v1, v2, 45] rfl rfl (by decide) (show nar .char (45 : Int32) = 45 by decide) (bq at_341) (Or.inr r63) E102 q62 342 rfl 14 rfl fun T h104 w E105 A106 => ?_
  refine jd w (bq at_342) rfl 343 rfl <| jb w 14 (bq at_343) rfl 345 rfl <| jb w 45 (bq at_345) rfl 347 rfl <| w_csC w A106 [45, 45, 45, 45, 45, 66, 69, 71, 73, 78, 32, v1, v2, 45, 45] rfl rfl (by decide) (show nar .char (45 : Int32) = 45 by decide) (bq at_347) (Or.inr r63) E105 q62 348 rfl 15 rfl fun T h107 w E108 A109 => ?_
  refine jd w (bq at_348) rfl 349 rfl <| jb w 15 (bq at_349) rfl 351 rfl <| jb w 45 (bq at_351) rfl 353 rfl <| w_csC w A109 [45, 45, 45, 45, 45, 66, 69, 71, 73, 78, 32, v1, v2, 45, 45, 45] rfl rfl (by decide) (show nar .char (45 : Int32) = 45 by decide) (bq at_353) (Or.inr r63) E108 q62 354 rfl 16 rfl fun T h110 w E111 A112 => ?_
  refine jd w (bq at_354) rfl 355 rfl <| jb w 16 (bq at_355) rfl 357 rfl <| jb w 45 (bq at_357) rfl 359 rfl <| w_csC w A112 [45, 45, 45, 45, 45, 66, 69, 71, 73, 78, 32, v1, v2, 45, 45, 45, 45] rfl rfl (by decide) (show nar .char (45 : Int32) = 45 by decide) (bq at_359) (Or.inr r63) E111 q62 360 rfl 17 rfl fun T h113 w E114 A115 => ?_
  refine jd w (bq at_360) rfl 361 rfl <| jb w 17 (bq at_361) rfl 363 rfl <| jb w 45 (bq at_363) rfl 365 rfl <| w_csC w A115 [45, 45, 45, 45, 45, 66, 69, 71, 73, 78, 32, v1, v2, 45, 45, 45, 45, 45] rfl rfl (by decide) (show nar .char (45 : Int32) = 45 by decide) (bq at_365) (Or.inr r63) E114 q62 366 rfl 18 rfl fun T h116 w E117 A118 => ?_
  refine jd w (bq at_366) rfl 367 rfl <| jb w 18 (bq at_367) rfl 369 rfl <| jb w 10 (bq at_369) rfl 371 rfl <| w_csC w A118 [45, 45, 45, 45, 45, 66, 69, 71, 73, 78, 32, v1, v2, 45, 45, 45, 45, 45, 10] rfl rfl (by decide) (show nar .char (10 : Int32) = 10 by decide) (bq at_371) (Or.inr r63) E117 q62 372 rfl 19 rfl fun T h119 w E120 A121 => ?_
  refine jd w (bq at_372) rfl 373 rfl <| jb w 19 (bq at_373) rfl 375 rfl <| jb w 10 (bq at_375) rfl 377 rfl <| w_csC w A121 [45, 45, 45, 45, 45, 66, 69, 71, 73, 78, 32, v1, v2, 45, 45, 45, 45, 45, 10, 10] rfl rfl (by decide) (show nar .char (10 : Int32) = 10 by decide) (bq at_377) (Or.inr r63) E120 q62 378 rfl 20 rfl fun T h122 w E123 A124 => ?_
  refine jd w (bq at_378) rfl 379 rfl <| jb w 20 (bq at_379) rfl 381 rfl <| jb w 45 (bq at_381) rfl 383 rfl <| w_csC w A124 [45, 45, 45, 45, 45, 66, 69, 71, 73, 78, 32, v1, v2, 45, 45, 45, 45, 45, 10, 10, 45] rfl rfl (by decide) (show nar .char (45 : Int32) = 45 by decide) (bq at_383) (Or.inr r63) E123 q62 384 rfl 21 rfl fun T h125 w E126 A127 => ?_
  refine jd w (bq at_384) rfl 385 rfl <| jb w 21 (bq at_385) rfl 387 rfl <| jb w 45 (bq at_387) rfl 389 rfl <| w_csC w A127 [45, 45, 45, 45, 45, 66, 69, 71, 73, 78, 32, v1, v2, 45, 45, 45, 45, 45, 10, 10, 45, 45] rfl rfl (by decide) (show nar .char (45 : Int32) = 45 by decide) (bq at_389) (Or.inr r63) E126 q62 390 rfl 22 rfl fun T h128 w E129 A130 => ?_
  refine jd w (bq at_390) rfl 391 rfl <| jb w 22 (bq at_391) rfl 393 rfl <| jb w 45 (bq at_393) rfl 395 rfl <| w_csC w A130 [45, 45, 45, 45, 45, 66, 69, 71, 73, 78, 32, v1, v2, 45, 45, 45, 45, 45, 10, 10, 45, 45, 45] rfl rfl (by decide) (show nar .char (45 : Int32) = 45 by decide) (bq at_395) (Or.inr r63) E129 q62 396 rfl 23 rfl fun T h131 w E132 A133 => ?_
  refine jd w (bq at_396) rfl 397 rfl <| jb w 23 (bq at_397) rfl 399 rfl <| jb w 45 (bq at_399) rfl 401 rfl <| w_csC w A133 [45, 45, 45, 45, 45, 66, 69, 71, 73, 78, 32, v1, v2, 45, 45, 45, 45, 45, 10, 10, 45, 45, 45, 45] rfl rfl (by decide) (show nar .char (45 : Int32) = 45 by decide) (bq at_401) (Or.inr r63) E132 q62 402 rfl 24 rfl fun T h134 w E135 A136 => ?_
  refine jd w (bq at_402) rfl 403 rfl <| jb w 24 (bq at_403) rfl 405 rfl <| jb w 45 (bq at_405) rfl 407 rfl <| w_csC w A136 [45, 45, 45, 45, 45, 66, 69, 71, 73, 78, 32, v1, v2, 45, 45, 45, 45, 45, 10, 10, 45, 45, 45, 45, 45] rfl rfl (by decide) (show nar .char (45 : Int32) = 45 by decide) (bq at_407) (Or.inr r63) E135 q62 408 rfl 25 rfl fun T h137 w E138 A139 => ?_
  refine jd w (bq at_408) rfl 409 rfl <| jb w 25 (bq at_409) rfl 411 rfl <| jb w 69 (bq at_411) rfl 413 rfl <| w_csC w A139 [45, 45, 45, 45, 45, 66, 69, 71, 73, 78, 32, v1, v2, 45, 45, 45, 45, 45, 10, 10, 45, 45, 45, 45, 45, 69] rfl rfl (by decide) (show nar .char (69 : Int32) = 69 by decide) (bq at_413) (Or.inr r63) E138 q62 414 rfl 26 rfl fun T h140 w E141 A142 => ?_
  refine jd w (bq at_414) rfl 415 rfl <| jb w 26 (bq at_415) rfl 417 rfl <| jb w 78 (bq at_417) rfl 419 rfl <| w_csC w A142 [45, 45, 45, 45, 45, 66, 69, 71, 73, 78, 32, v1, v2, 45, 45, 45, 45, 45, 10, 10, 45, 45, 45, 45, 45, 69, 78] rfl rfl (by decide) (show nar .char (78 : Int32) = 78 by decide) (bq at_419) (Or.inr r63) E141 q62 420 rfl 27 rfl fun T h143 w E144 A145 => ?_
  refine jd w (bq at_420) rfl 421 rfl <| jb w 27 (bq at_421) rfl 423 rfl <| jb w 68 (bq at_423) rfl 425 rfl <| w_csC w A145 [45, 45, 45, 45, 45, 66, 69, 71, 73, 78, 32, v1, v2, 45, 45, 45, 45, 45, 10, 10, 45, 45, 45, 45, 45, 69, 78, 68] rfl rfl (by decide) (show nar .char (68 : Int32) = 68 by decide) (bq at_425) (Or.inr r63) E144 q62 426 rfl 28 rfl fun T h146 w E147 A148 => ?_
  refine jd w (bq at_426) rfl 427 rfl <| jb w 28 (bq at_427) rfl 429 rfl <| jb w 32 (bq at_429) rfl 431 rfl <| w_csC w A148 [45, 45, 45, 45, 45, 66, 69, 71, 73, 78, 32, v1, v2, 45, 45, 45, 45, 45, 10, 10, 45, 45, 45, 45, 45, 69, 78, 68, 32] rfl rfl (by decide) (show nar .char (32 : Int32) = 32 by decide) (bq at_431) (Or.inr r63) E147 q62 432 rfl 29 rfl fun T h149 w E150 A151 => ?_
  refine jd w (bq at_432) rfl 433 rfl <| jb w 29 (bq at_433) rfl 435 rfl <| jl w (bq at_435) rfl 437 rfl <| w_csC w A151 [45, 45, 45, 45, 45, 66, 69, 71, 73, 78, 32, v1, v2, 45, 45, 45, 45, 45, 10, 10, 45, 45, 45, 45, 45, 69, 78, 68, 32, v1] rfl rfl (by decide) lv1.nar (bq at_437) (Or.inr r63) E150 q62 438 rfl 30 rfl fun T h152 w E153 A154 => ?_
  refine jd w (bq at_438) rfl 439 rfl <| jb w 30 (bq at_439) rfl 441 rfl <| jl w (bq at_441) rfl 443 rfl <| w_csC w A154 [45, 45, 45, 45, 45, 66, 69, 71, 73, 78, 32, v1, v2, 45, 45, 45, 45, 45, 10, 10, 45, 45, 45, 45, 45, 69, 78, 68, 32, v1, v2] rfl rfl (by decide) lv2.nar (bq at_443) (Or.inr r63) E153 q62 444 rfl 31 rfl fun T h155 w E156 A157 => ?_
  refine jd w (bq at_444) rfl 445 rfl <| jb w 31 (bq at_445) rfl 447 rfl <| jb w 45 (bq at_447) rfl 449 rfl <| w_csC w A157 [45, 45, 45, 45, 45, 66, 69, 71, 73, 78, 32, v1, v2, 45, 45, 45, 45, 45, 10, 10, 45, 45, 45, 45, 45, 69, 78, 68, 32, v1, v2, 45] rfl rfl (by decide) (show nar .char (45 : Int32) = 45 by decide) (bq at_449) (Or.inr r63) E156 q62 450 rfl 32 rfl fun T h158 w E159 A160 => ?_
  refine jd w (bq at_450) rfl 451 rfl <| jb w 32 (bq at_451) rfl 453 rfl <| jb w 45 (bq at_453) rfl 455 rfl <| w_csC w A160 [45, 45, 45, 45, 45, 66, 69, 71, 73, 78, 32, v1, v2, 45, 45, 45, 45, 45, 10, 10, 45, 45, 45, 45, 45, 69, 78, 68, 32, v1, v2, 45, 45] rfl rfl (by decide) (show nar .char (45 : Int32) = 45 by decide) (bq at_455) (Or.inr r63) E159 q62 456 rfl 33 rfl fun T h161 w E162 A163 => ?_
  refine jd w (bq at_456) rfl 457 rfl <| jb w 33 (bq at_457) rfl 459 rfl <| jb w 45 (bq at_459) rfl 461 rfl <| w_csC w A163 [45, 45, 45, 45, 45, 66, 69, 71, 73, 78, 32, v1, v2, 45, 45, 45, 45, 45, 10, 10, 45, 45, 45, 45, 45, 69, 78, 68, 32, v1, v2, 45, 45, 45] rfl rfl (by decide) (show nar .char (45 : Int32) = 45 by decide) (bq at_461) (Or.inr r63) E162 q62 462 rfl 34 rfl fun T h164 w E165 A166 => ?_
  refine jd w (bq at_462) rfl 463 rfl <| jb w 34 (bq at_463) rfl 465 rfl <| jb w 45 (bq at_465) rfl 467 rfl <| w_csC w A166 [45, 45, 45, 45, 45, 66, 69, 71, 73, 78, 32, v1, v2, 45, 45, 45, 45, 45, 10, 10, 45, 45, 45, 45, 45, 69, 78, 68, 32, v1, v2, 45, 45, 45, 45] rfl rfl (by decide) (show nar .char (45 : Int32) = 45 by decide) (bq at_467) (Or.inr r63) E165 q62 468 rfl 35 rfl fun T h167 w E168 A169 => ?_
  refine jd w (bq at_468) rfl 469 rfl <| jb w 35 (bq at_469) rfl 471 rfl <| jb w 45 (bq at_471) rfl 473 rfl <| w_csC w A169 [45, 45, 45, 45, 45, 66, 69, 71, 73, 78, 32, v1, v2, 45, 45, 45, 45, 45, 10, 10, 45, 45, 45, 45, 45, 69, 78, 68, 32, v1, v2, 45, 45, 45, 45, 45] rfl rfl (by decide) (show nar .char (45 : Int32) = 45 by decide) (bq at_473) (Or.inr r63) E168 q62 474 rfl 36 rfl fun T h170 w E171 A172 => ?_
  refine jd w (bq at_474) rfl 475 rfl <| jb w 36 (bq at_475) rfl 477 rfl <| jb w 10 (bq at_477) rfl 479 rfl <| w_csC w A172 [45, 45, 45, 45, 45, 66, 69, 71, 73, 78, 32, v1, v2, 45, 45, 45, 45, 45, 10, 10, 45, 45, 45, 45, 45, 69, 78, 68, 32, v1, v2, 45, 45, 45, 45, 45, 10] rfl rfl (by decide) (show nar .char (10 : Int32) = 10 by decide) (bq at_479) (Or.inr r63) E171 q62 480 rfl 37 rfl fun T h173 w E174 A175 => ?_
  refine s_astore w #[vI p0, vI p1, vJ w0, .second, vI v1, vI v2, vR x4, vI 0, vI 0, vI 0, vI 0, vI 0, vI 0, vI 0, vR x39, vI 0, vI (-3), vR x59, .unset, .unset] (bq at_480) rfl rfl 482 rfl <| jt w (bq at_482) (by decide) 1126 rfl <| w_new w (Kw hw 0 rfl) (Kw hw 1 rfl) (Kw hw 2 rfl) (bq at_1126) 1129 rfl (by decide) (by decide) fun T h176 x177 w E178 q179 r180 A181 D182 => ?_
  have F_coder_x177 : Fld Z h176 x177 "java/lang/String" "coder" "B" (.int 0) := D182 (Or.inr (Kw hw 27 rfl)) (ty := .byte) (by decide)
  have F_value_x177 : Fld Z h176 x177 "java/lang/String" "value" "[B" (.null) := D182 (Or.inr (Kw hw 29 rfl)) (ty := (.array .byte)) (by decide)
  refine jd w (bq at_1129) rfl 1130 rfl <| ja w (bq at_1130) rfl rfl 1132 rfl ?_
  have eP : ([45, 45, 45, 45, 45, 66, 69, 71, 73, 78, 32, v1, v2, 45, 45, 45, 45, 45, 10, 10, 45, 45, 45, 45, 45, 69, 78, 68, 32, v1, v2, 45, 45, 45, 45, 45, 10] : List Int32) = pemS [v1, v2] [] := by simp only [pemS, List.nil_append, List.cons_append]
  have hC : ∀ c ∈ ([45, 45, 45, 45, 45, 66, 69, 71, 73, 78, 32, v1, v2, 45, 45, 45, 45, 45, 10, 10, 45, 45, 45, 45, 45, 69, 78, 68, 32, v1, v2, 45, 45, 45, 45, 45, 10] : List Int32), Chr c := by rw [eP]; exact pemS_chr (chC lv1 (chC lv2 chN)) chN
  refine w_special w hEL (y := mN9) (a := x177) rfl (Kw hw 4 rfl) (Kw hw 5 rfl) (Kw hw 2 rfl) (Kw hw 6 rfl) (by decide) (rm_in1 G0 h176 x177 x59 37 k60 [45, 45, 45, 45, 45, 66, 69, 71, 73, 78, 32, v1, v2, 45, 45, 45, 45, 45, 10, 10, 45, 45, 45, 45, 45, 69, 78, 68, 32, v1, v2, 45, 45, 45, 45, 45, 10] _ _ rfl (Nat.le_of_ble_eq_true rfl) (Nat.le_of_ble_eq_true rfl) hC (A175.ext E178).full A181 F_value_x177 F_coder_x177) (allS (mi 0 rfl) all0) (allS (Or.inr r180) all0) (argsL := [.ref x59]) (rest := [.ref x177]) (lenOf pD10 rfl) rfl rfl (bq at_1132) (by rw [hml]; rfl) (W := 1) (Nat.le_of_eq rfl) (by decide) (by decide) (by decide) (by decide) 1135 rfl fun u183 T h184 w K185 P186 => ?_
  obtain ⟨rfl, F187⟩ := P186
  rw [eP] at F187
  have E188 := Ext.kp E178 K185 (allS q179 all0)
  show Run _ _ _ _ _ (mkF _ _ _ [.ref x177])
  refine s_astore w #[vI p0, vI p1, vJ w0, .second, vI v1, vI v2, vR x4, vI 0, vI 0, vI 0, vI 0, vI 0, vI 0, vI 0, vR x39, vI 0, vI (-3), vR x59, vR x177, .unset] (bq at_1135) rfl rfl 1137 rfl <| ja w (bq at_1137) rfl rfl 1139 rfl <| ja w (bq at_1139) rfl rfl 1141 rfl <| wS w hEL (cB51 hw) (Kw hw 34 rfl) (rm_pe G0 h184 x4 x39 k40 [] [v1, v2] n8_0 rfl (((F29.ext E41).ext E174).ext E188) ((Ad.ext E174).ext E188)) all0 all0 [.ref x4, .ref x39] [] rfl rfl rfl (bq at_1141) hml rfl 0 rfl (by decide) 1144 rfl fun u189 N190 T h191 w K192 P193 => ?_
  obtain ⟨rfl, r0, rfl, Sr⟩ := P193
  have E195 := Keep.ext0 K192
  rw [bs_0] at Sr
  show Run _ _ _ _ _ (mkF _ _ _ [.ref r0])
  refine s_astore w #[vI p0, vI p1, vJ w0, .second, vI v1, vI v2, vR x4, vI 0, vI 0, vI 0, vI 0, vI 0, vI 0, vI 0, vR x39, vI 0, vI (-3), vR x59, vR x177, vR r0] (bq at_1144) rfl rfl 1146 rfl <| ja w (bq at_1146) rfl rfl 1148 rfl <| ja w (bq at_1148) rfl rfl 1150 rfl <| w_strEq w hwE (Kw hw 1 rfl) (Kw hw 233 rfl) (Kw hw 234 rfl) (Kw hw 236 rfl) (Kw hw 235 rfl) (F187.ext E195) Sr SC hz (bq at_1150) (by rw [hml]; rfl) (W := 0) (Nat.le_of_eq rfl) (by decide) (by decide) (by decide) (by decide) 1153 rfl fun T z196 w hz197 => ?_
  obtain rfl : z196 = 1 := hz197.elim (fun q => q.1) (fun q => absurd rfl q.2)
  exact w_ireturn w hEL hs hlk hret rfl (Or.inr (Or.inl rfl)) (bq at_1153) (by decide) (by decide) rfl
theorem rm_law4 (G : Gl Z a0 zc fm tba ktb fba kfb) (h : Heap) (p0 : Int32) (p1 : Int32) (w0 : Int64) (hn : p0 &&& 7 = 1 ∨ p0 &&& 7 = 2 ∨ p0 &&& 7 = 3) :
    Met l Z consts_1 x code maxLocals ret room_1 #[.int p0, .int p1, .long w0] h [] [] (fun v h' => v = some (.int 1)) := by
  have G0 := G
  obtain ⟨hw, hEL, SC, hz, -⟩ := G
  have hwE := fun d q => hw d (subE d q)
  refine Met.of (plainFor_of_name pn_12) ?_
  intro p e s m below meth c T hnm hret hlk hby hml hs w; have bq := @hb _ _ hby
  have hZ0 := w.old
  refine Run.cast (efL (L := #[vI p0, vI p1, vJ w0, .second, .unset, .unset, .unset, .unset, .unset, .unset, .unset, .unset, .unset, .unset, .unset, .unset, .unset, .unset, .unset, .unset]) (by simp [argsToLocals, Value.category, vI, vR, vJ, maxLocals])) ?_
  refine jn w (bq at_0) rfl 1 rfl <| s_i2c w (bq at_1) 2 rfl ?_
  generalize hv1 : ((nar .char p1) : Int32) = v1
  refine js w #[vI p0, vI p1, vJ w0, .second, vI v1, .unset, .unset, .unset, .unset, .unset, .unset, .unset, .unset, .unset, .unset, .unset, .unset, .unset, .unset, .unset] (bq at_2) rfl 4 rfl ?_
  have lv1 : Chr v1 := by rw [← hv1]; exact chr_nar _
  refine jn w (bq at_4) rfl 5 rfl <| jb w 16 (bq at_5) rfl 7 rfl <| s_iushr w (bq at_7) 8 rfl <| s_i2c w (bq at_8) 9 rfl ?_
  generalize hv2 : ((nar .char (XT.ushr p1 16)) : Int32) = v2
  refine js w #[vI p0, vI p1, vJ w0, .second, vI v1, vI v2, .unset, .unset, .unset, .unset, .unset, .unset, .unset, .unset, .unset, .unset, .unset, .unset, .unset, .unset] (bq at_9) rfl 11 rfl ?_
  have lv2 : Chr v2 := by rw [← hv2]; exact chr_nar _
  refine w_new w (Kw hw 0 rfl) (Kw hw 1 rfl) (Kw hw 2 rfl) (bq at_11) 14 rfl (by decide) (by decide) fun T h3 x4 w E5 q6 r7 A8 D9 => ?_
  have F_coder_x4 : Fld Z h3 x4 "java/lang/String" "coder" "B" (.int 0) := D9 (Or.inr (Kw hw 27 rfl)) (ty := .byte) (by decide)
  have F_value_x4 : Fld Z h3 x4 "java/lang/String" "value" "[B" (.null) := D9 (Or.inr (Kw hw 29 rfl)) (ty := (.array .byte)) (by decide)
  refine jd w (bq at_14) rfl 15 rfl <| jc w 2 (bq at_15) rfl 16 rfl <| w_newP w (Kw hw 3 rfl) rfl rfl (bq at_16) (by decide) (n := 2) (by decide) (by decide) 18 rfl (by decide) (by decide) fun T h10 x11 k12 w E13 q14 r15 V16 => ?_
  refine jd w (bq at_18) rfl 19 rfl <| jc w 0 (bq at_19) rfl 20 rfl <| jl w (bq at_20) rfl 22 rfl <| jC w V16 (i := 0) (by decide) rfl (by decide) (Nat.le_of_ble_eq_true rfl) lv1.nar (bq at_22) (Or.inr r15) 23 rfl fun T h17 w W18 V19 => ?_
  have E20 := Ext.wr' E13 W18 q14
  refine jd w (bq at_23) rfl 24 rfl <| jc w 1 (bq at_24) rfl 25 rfl <| jl w (bq at_25) rfl 27 rfl <| jC w V19 (i := 1) (by decide) rfl (by decide) (Nat.le_of_ble_eq_true rfl) lv2.nar (bq at_27) (Or.inr r15) 28 rfl fun T h21 w W22 V23 => ?_
  have E24 := Ext.wr' E20 W22 q14
  refine w_special w hEL (y := mN9) (a := x4) rfl (Kw hw 4 rfl) (Kw hw 5 rfl) (Kw hw 2 rfl) (Kw hw 6 rfl) (by decide) (rm_in1 G0 h21 x4 x11 2 k12 [v1, v2] _ _ rfl (Nat.le_of_ble_eq_true rfl) (Nat.le_of_ble_eq_true rfl) (by intro c q; simp only [List.mem_cons, List.not_mem_nil, or_false] at q; rcases q with rfl | rfl <;> first | exact lv1 | exact lv2) (show Arv Z h21 x11 k12 .char 2 (([v1, v2] : List Int32).map Value.int) (.int 0) from V23) (A8.ext E24) (F_value_x4.ext E24) (F_coder_x4.ext E24)) (allS (mi 1 rfl) all0) (allS (Or.inr r7) all0) (argsL := [.ref x11]) (rest := [.ref x4]) (lenOf pD10 rfl) rfl rfl (bq at_28) (by rw [hml]; rfl) (W := 1) (Nat.le_of_eq rfl) (by decide) (by decide) (by decide) (by decide) 31 rfl fun u25 T h26 w K27 P28 => ?_
  obtain ⟨rfl, F29⟩ := P28
  have E30 := Ext.kp (Ext.tr E5 E24) K27 (allS q6 all0)
  show Run _ _ _ _ _ (mkF _ _ _ [.ref x4])
  refine s_astore w #[vI p0, vI p1, vJ w0, .second, vI v1, vI v2, vR x4, .unset, .unset, .unset, .unset, .unset, .unset, .unset, .unset, .unset, .unset, .unset, .unset, .unset] (bq at_31) rfl rfl 33 rfl <| jn w (bq at_33) rfl 34 rfl <| jb w 7 (bq at_34) rfl 36 rfl <| jw w (bq at_36) 37 rfl ?_
  suffices H : ∀ T g (d : Addr) (kd : ClassId) (n0 k2 q0_ q1_ q2_ : Int32) (bs : List Int32), Wk p l e _ s m _ below meth c Z consts_1 _ h [] T g 5 156 [d, x11, x4] → Arv Z g d kd .byte (Int32.ofNat bs.length) (bs.map Value.int) (.int 0) → Str Z g x4 [v1, v2] → N8 bs.length → By q0_ → By q1_ → By q2_ → (n0 = 1 ∨ n0 = 2 ∨ n0 = 3) → b64s bs = [g0 q0_, g1 q0_ q1_, G2 n0 q1_ q2_, G3 n0 q2_] → Run p e below (Qm Z consts_1 s h [] _ _) T (mkF m 255 #[vI p0, vI p1, vJ w0, .second, vI v1, vI v2, vR x4, vI n0, vI q0_, vI q1_, vI q2_, vI 0, vI 0, vI 0, vR d, vI n0, vI k2, .unset, .unset, .unset] []) by
    rcases hn with hn | hn | hn
    · rw [hn]
      refine js w #[vI p0, vI p1, vJ w0, .second, vI v1, vI v2, vR x4, vI 1, .unset, .unset, .unset, .unset, .unset, .unset, .unset, .unset, .unset, .unset, .unset, .unset] (bq at_37) rfl 39 rfl <| jl w (bq at_39) rfl 41 rfl <| jb w 7 (bq at_41) rfl 43 rfl <| jx w (bq at_43) (by decide) 46 rfl 57 rfl (fun q => absurd q (by decide)) (fun _ => ?_)
      refine jl w (bq at_57) rfl 59 rfl <| s_if_le w (bq at_59) (by decide) 62 rfl 70 rfl (fun _ => ?_) (fun q => absurd q (by decide))
      refine s_lload_n w (bq at_62) rfl 63 rfl <| jc w 0 (bq at_63) rfl 64 rfl <| wS w hEL (cB50 hw) (Kw hw 243 rfl) (rm_ub G0 h26 w0 0) all0 all0 [.long w0, .int 0] [] rfl rfl rfl (bq at_64) hml rfl 0 rfl (by decide) 67 rfl fun u33 N34 T h35 w K36 P37 => ?_
      obtain ⟨rfl, q39, rfl, rfl, rq39⟩ := P37
      show Run _ _ _ _ _ (mkF _ _ _ [.int q39])
      refine jt w (bq at_67) (by decide) 71 rfl <| js w #[vI p0, vI p1, vJ w0, .second, vI v1, vI v2, vR x4, vI 1, vI q39, .unset, .unset, .unset, .unset, .unset, .unset, .unset, .unset, .unset, .unset, .unset] (bq at_71) rfl 73 rfl <| jl w (bq at_73) rfl 75 rfl <| jc w 1 (bq at_75) rfl 76 rfl <| je w (bq at_76) (by decide) 79 rfl 87 rfl (fun q => absurd q (by decide)) (fun _ => ?_)
      refine jc w 0 (bq at_87) rfl 88 rfl <| js w #[vI p0, vI p1, vJ w0, .second, vI v1, vI v2, vR x4, vI 1, vI q39, vI 0, .unset, .unset, .unset, .unset, .unset, .unset, .unset, .unset, .unset, .unset] (bq at_88) rfl 90 rfl <| jl w (bq at_90) rfl 92 rfl <| jc w 2 (bq at_92) rfl 93 rfl <| je w (bq at_93) (by decide) 96 rfl 104 rfl (fun q => absurd q (by decide)) (fun _ => ?_)
      refine jc w 0 (bq at_104) rfl 105 rfl <| js w #[vI p0, vI p1, vJ w0, .second, vI v1, vI v2, vR x4, vI 1, vI q39, vI 0, vI 0, .unset, .unset, .unset, .unset, .unset, .unset, .unset, .unset, .unset] (bq at_105) rfl 107 rfl <| jl w (bq at_107) rfl 109 rfl <| jc w 3 (bq at_109) rfl 110 rfl <| je w (bq at_110) (by decide) 113 rfl 121 rfl (fun q => absurd q (by decide)) (fun _ => ?_)
      refine jc w 0 (bq at_121) rfl 122 rfl <| js w #[vI p0, vI p1, vJ w0, .second, vI v1, vI v2, vR x4, vI 1, vI q39, vI 0, vI 0, vI 0, .unset, .unset, .unset, .unset, .unset, .unset, .unset, .unset] (bq at_122) rfl 124 rfl <| jl w (bq at_124) rfl 126 rfl <| jc w 4 (bq at_126) rfl 127 rfl <| je w (bq at_127) (by decide) 130 rfl 138 rfl (fun q => absurd q (by decide)) (fun _ => ?_)
      refine jc w 0 (bq at_138) rfl 139 rfl <| js w #[vI p0, vI p1, vJ w0, .second, vI v1, vI v2, vR x4, vI 1, vI q39, vI 0, vI 0, vI 0, vI 0, .unset, .unset, .unset, .unset, .unset, .unset, .unset] (bq at_139) rfl 141 rfl <| jl w (bq at_141) rfl 143 rfl <| jc w 5 (bq at_143) rfl 144 rfl <| je w (bq at_144) (by decide) 147 rfl 155 rfl (fun q => absurd q (by decide)) (fun _ => ?_)
      refine jc w 0 (bq at_155) rfl 156 rfl <| js w #[vI p0, vI p1, vJ w0, .second, vI v1, vI v2, vR x4, vI 1, vI q39, vI 0, vI 0, vI 0, vI 0, vI 0, .unset, .unset, .unset, .unset, .unset, .unset] (bq at_156) rfl 158 rfl <| jl w (bq at_158) rfl 160 rfl <| w_newP w (Kw hw 19 rfl) rfl rfl (bq at_160) (by decide) (n := 1) (by decide) (by decide) 162 rfl (by decide) (by decide) fun T h45 x46 k47 w E48 q49 r50 V51 => ?_
      refine s_astore w #[vI p0, vI p1, vJ w0, .second, vI v1, vI v2, vR x4, vI 1, vI q39, vI 0, vI 0, vI 0, vI 0, vI 0, vR x46, .unset, .unset, .unset, .unset, .unset] (bq at_162) rfl rfl 164 rfl <| jl w (bq at_164) rfl 166 rfl <| s_if_le w (bq at_166) (by decide) 169 rfl 176 rfl (fun _ => ?_) (fun q => absurd q (by decide))
      refine ja w (bq at_169) rfl rfl 171 rfl <| jc w 0 (bq at_171) rfl 172 rfl <| jl w (bq at_172) rfl 174 rfl <| s_i2b w (bq at_174) 175 rfl <| jB w V51 (i := 0) (by decide) rfl (by decide) (Nat.le_of_ble_eq_true rfl) (nar_byte _) (bq at_175) (Or.inr r50) (mi 0 rfl) 176 rfl fun T h53 w W54 V55 => ?_
      have E56 := Ext.wr' E48 W54 q49
      refine jl w (bq at_176) rfl 178 rfl <| jc w 1 (bq at_178) rfl 179 rfl <| je w (bq at_179) (by decide) 182 rfl 189 rfl (fun q => absurd q (by decide)) (fun _ => ?_)
      refine jl w (bq at_189) rfl 191 rfl <| jc w 2 (bq at_191) rfl 192 rfl <| je w (bq at_192) (by decide) 195 rfl 202 rfl (fun q => absurd q (by decide)) (fun _ => ?_)
      refine jl w (bq at_202) rfl 204 rfl <| jc w 3 (bq at_204) rfl 205 rfl <| je w (bq at_205) (by decide) 208 rfl 215 rfl (fun q => absurd q (by decide)) (fun _ => ?_)
      refine jl w (bq at_215) rfl 217 rfl <| jc w 4 (bq at_217) rfl 218 rfl <| je w (bq at_218) (by decide) 221 rfl 228 rfl (fun q => absurd q (by decide)) (fun _ => ?_)
      refine jl w (bq at_228) rfl 230 rfl <| jc w 5 (bq at_230) rfl 231 rfl <| je w (bq at_231) (by decide) 234 rfl 241 rfl (fun q => absurd q (by decide)) (fun _ => ?_)
      refine jl w (bq at_241) rfl 243 rfl <| jc w 3 (bq at_243) rfl 244 rfl <| wS w hEL (cB19 hw) (Kw hw 30 rfl) (rm_min G0 h53 1 3) all0 all0 [.int 1, .int 3] [] rfl rfl rfl (bq at_244) hml rfl 0 rfl (by decide) 247 rfl fun u62 N63 T h64 w K65 P66 => ?_
      obtain ⟨rfl, rfl, rfl⟩ := P66
      rw [show (if (3 : Int32) < 1 then (3 : Int32) else 1) = 1 from by decide]
      show Run _ _ _ _ _ (mkF _ _ _ [.int 1])
      refine js w #[vI p0, vI p1, vJ w0, .second, vI v1, vI v2, vR x4, vI 1, vI q39, vI 0, vI 0, vI 0, vI 0, vI 0, vR x46, vI 1, .unset, .unset, .unset, .unset] (bq at_247) rfl 249 rfl <| jl w (bq at_249) rfl 251 rfl <| jc w 3 (bq at_251) rfl 252 rfl <| s_isub w (bq at_252) 253 rfl ?_
      rw [show ((1 - 3) : Int32) = (-2) from by decide]
      refine js w #[vI p0, vI p1, vJ w0, .second, vI v1, vI v2, vR x4, vI 1, vI q39, vI 0, vI 0, vI 0, vI 0, vI 0, vR x46, vI 1, vI (-2), .unset, .unset, .unset] (bq at_253) rfl 255 rfl ?_
      have w := w.mono (slots' := 156) (Nat.le_refl _) (by decide)
      exact H _ _ x46 k47 1 (-2) q39 0 0 [q39.toInt8.toInt32] w (show Arv Z h53 x46 k47 .byte (Int32.ofNat 1) (([q39.toInt8.toInt32] : List Int32).map Value.int) (.int 0) from V55) (F29.ext E56) n8_1 rq39 by0 by0 (by decide) (by rw [bs_1 rq39]; rfl)
    · rw [hn]
      refine js w #[vI p0, vI p1, vJ w0, .second, vI v1, vI v2, vR x4, vI 2, .unset, .unset, .unset, .unset, .unset, .unset, .unset, .unset, .unset, .unset, .unset, .unset] (bq at_37) rfl 39 rfl <| jl w (bq at_39) rfl 41 rfl <| jb w 7 (bq at_41) rfl 43 rfl <| jx w (bq at_43) (by decide) 46 rfl 57 rfl (fun q => absurd q (by decide)) (fun _ => ?_)
      refine jl w (bq at_57) rfl 59 rfl <| s_if_le w (bq at_59) (by decide) 62 rfl 70 rfl (fun _ => ?_) (fun q => absurd q (by decide))
      refine s_lload_n w (bq at_62) rfl 63 rfl <| jc w 0 (bq at_63) rfl 64 rfl <| wS w hEL (cB50 hw) (Kw hw 243 rfl) (rm_ub G0 h26 w0 0) all0 all0 [.long w0, .int 0] [] rfl rfl rfl (bq at_64) hml rfl 0 rfl (by decide) 67 rfl fun u70 N71 T h72 w K73 P74 => ?_
      obtain ⟨rfl, q76, rfl, rfl, rq76⟩ := P74
      show Run _ _ _ _ _ (mkF _ _ _ [.int q76])
      refine jt w (bq at_67) (by decide) 71 rfl <| js w #[vI p0, vI p1, vJ w0, .second, vI v1, vI v2, vR x4, vI 2, vI q76, .unset, .unset, .unset, .unset, .unset, .unset, .unset, .unset, .unset, .unset, .unset] (bq at_71) rfl 73 rfl <| jl w (bq at_73) rfl 75 rfl <| jc w 1 (bq at_75) rfl 76 rfl <| je w (bq at_76) (by decide) 79 rfl 87 rfl (fun _ => ?_) (fun q => absurd q (by decide))
      refine s_lload_n w (bq at_79) rfl 80 rfl <| jc w 1 (bq at_80) rfl 81 rfl <| wS w hEL (cB50 hw) (Kw hw 243 rfl) (rm_ub G0 h26 w0 1) all0 all0 [.long w0, .int 1] [] rfl rfl rfl (bq at_81) hml rfl 0 rfl (by decide) 84 rfl fun u78 N79 T h80 w K81 P82 => ?_
      obtain ⟨rfl, q84, rfl, rfl, rq84⟩ := P82
      show Run _ _ _ _ _ (mkF _ _ _ [.int q84])
      refine jt w (bq at_84) (by decide) 88 rfl <| js w #[vI p0, vI p1, vJ w0, .second, vI v1, vI v2, vR x4, vI 2, vI q76, vI q84, .unset, .unset, .unset, .unset, .unset, .unset, .unset, .unset, .unset, .unset] (bq at_88) rfl 90 rfl <| jl w (bq at_90) rfl 92 rfl <| jc w 2 (bq at_92) rfl 93 rfl <| je w (bq at_93) (by decide) 96 rfl 104 rfl (fun q => absurd q (by decide)) (fun _ => ?_)
      refine jc w 0 (bq at_104) rfl 105 rfl <| js w #[vI p0, vI p1, vJ w0, .second, vI v1, vI v2, vR x4, vI 2, vI q76, vI q84, vI 0, .unset, .unset, .unset, .unset, .unset, .unset, .unset, .unset, .unset] (bq at_105) rfl 107 rfl <| jl w (bq at_107) rfl 109 rfl <| jc w 3 (bq at_109) rfl 110 rfl <| je w (bq at_110) (by decide) 113 rfl 121 rfl (fun q => absurd q (by decide)) (fun _ => ?_)
      refine jc w 0 (bq at_121) rfl 122 rfl <| js w #[vI p0, vI p1, vJ w0, .second, vI v1, vI v2, vR x4, vI 2, vI q76, vI q84, vI 0, vI 0, .unset, .unset, .unset, .unset, .unset, .unset, .unset, .unset] (bq at_122) rfl 124 rfl <| jl w (bq at_124) rfl 126 rfl <| jc w 4 (bq at_126) rfl 127 rfl <| je w (bq at_127) (by decide) 130 rfl 138 rfl (fun q => absurd q (by decide)) (fun _ => ?_)
      refine jc w 0 (bq at_138) rfl 139 rfl <| js w #[vI p0, vI p1, vJ w0, .second, vI v1, vI v2, vR x4, vI 2, vI q76, vI q84, vI 0, vI 0, vI 0, .unset, .unset, .unset, .unset, .unset, .unset, .unset] (bq at_139) rfl 141 rfl <| jl w (bq at_141) rfl 143 rfl <| jc w 5 (bq at_143) rfl 144 rfl <| je w (bq at_144) (by decide) 147 rfl 155 rfl (fun q => absurd q (by decide)) (fun _ => ?_)
      refine jc w 0 (bq at_155) rfl 156 rfl <| js w #[vI p0, vI p1, vJ w0, .second, vI v1, vI v2, vR x4, vI 2, vI q76, vI q84, vI 0, vI 0, vI 0, vI 0, .unset, .unset, .unset, .unset, .unset, .unset] (bq at_156) rfl 158 rfl <| jl w (bq at_158) rfl 160 rfl <| w_newP w (Kw hw 19 rfl) rfl rfl (bq at_160) (by decide) (n := 2) (by decide) (by decide) 162 rfl (by decide) (by decide) fun T h89 x90 k91 w E92 q93 r94 V95 => ?_
      refine s_astore w #[vI p0, vI p1, vJ w0, .second, vI v1, vI v2, vR x4, vI 2, vI q76, vI q84, vI 0, vI 0, vI 0, vI 0, vR x90, .unset, .unset, .unset, .unset, .unset] (bq at_162) rfl rfl 164 rfl <| jl w (bq at_164) rfl 166 rfl <| s_if_le w (bq at_166) (by decide) 169 rfl 176 rfl (fun _ => ?_) (fun q => absurd q (by decide))
      refine ja w (bq at_169) rfl rfl 171 rfl <| jc w 0 (bq at_171) rfl 172 rfl <| jl w (bq at_172) rfl 174 rfl <| s_i2b w (bq at_174) 175 rfl <| jB w V95 (i := 0) (by decide) rfl (by decide) (Nat.le_of_ble_eq_true rfl) (nar_byte _) (bq at_175) (Or.inr r94) (mi 0 rfl) 176 rfl fun T h97 w W98 V99 => ?_
      have E100 := Ext.wr' E92 W98 q93
      refine jl w (bq at_176) rfl 178 rfl <| jc w 1 (bq at_178) rfl 179 rfl <| je w (bq at_179) (by decide) 182 rfl 189 rfl (fun _ => ?_) (fun q => absurd q (by decide))
      refine ja w (bq at_182) rfl rfl 184 rfl <| jc w 1 (bq at_184) rfl 185 rfl <| jl w (bq at_185) rfl 187 rfl <| s_i2b w (bq at_187) 188 rfl <| jB w V99 (i := 1) (by decide) rfl (by decide) (Nat.le_of_ble_eq_true rfl) (nar_byte _) (bq at_188) (Or.inr r94) (mi 0 rfl) 189 rfl fun T h102 w W103 V104 => ?_
      have E105 := Ext.wr' E100 W103 q93
      refine jl w (bq at_189) rfl 191 rfl <| jc w 2 (bq at_191) rfl 192 rfl <| je w (bq at_192) (by decide) 195 rfl 202 rfl (fun q => absurd q (by decide)) (fun _ => ?_)
      refine jl w (bq at_202) rfl 204 rfl <| jc w 3 (bq at_204) rfl 205 rfl <| je w (bq at_205) (by decide) 208 rfl 215 rfl (fun q => absurd q (by decide)) (fun _ => ?_)
      refine jl w (bq at_215) rfl 217 rfl <| jc w 4 (bq at_217) rfl 218 rfl <| je w (bq at_218) (by decide) 221 rfl 228 rfl (fun q => absurd q (by decide)) (fun _ => ?_)
      refine jl w (bq at_228) rfl 230 rfl <| jc w 5 (bq at_230) rfl 231 rfl <| je w (bq at_231) (by decide) 234 rfl 241 rfl (fun q => absurd q (by decide)) (fun _ => ?_)
      refine jl w (bq at_241) rfl 243 rfl <| jc w 3 (bq at_243) rfl 244 rfl <| wS w hEL (cB19 hw) (Kw hw 30 rfl) (rm_min G0 h102 2 3) all0 all0 [.int 2, .int 3] [] rfl rfl rfl (bq at_244) hml rfl 0 rfl (by decide) 247 rfl fun u110 N111 T h112 w K113 P114 => ?_
      obtain ⟨rfl, rfl, rfl⟩ := P114
      rw [show (if (3 : Int32) < 2 then (3 : Int32) else 2) = 2 from by decide]
      show Run _ _ _ _ _ (mkF _ _ _ [.int 2])
      refine js w #[vI p0, vI p1, vJ w0, .second, vI v1, vI v2, vR x4, vI 2, vI q76, vI q84, vI 0, vI 0, vI 0, vI 0, vR x90, vI 2, .unset, .unset, .unset, .unset] (bq at_247) rfl 249 rfl <| jl w (bq at_249) rfl 251 rfl <| jc w 3 (bq at_251) rfl 252 rfl <| s_isub w (bq at_252) 253 rfl ?_
      rw [show ((2 - 3) : Int32) = (-1) from by decide]
      refine js w #[vI p0, vI p1, vJ w0, .second, vI v1, vI v2, vR x4, vI 2, vI q76, vI q84, vI 0, vI 0, vI 0, vI 0, vR x90, vI 2, vI (-1), .unset, .unset, .unset] (bq at_253) rfl 255 rfl ?_
      have w := w.mono (slots' := 156) (Nat.le_refl _) (by decide)
      exact H _ _ x90 k91 2 (-1) q76 q84 0 [q76.toInt8.toInt32, q84.toInt8.toInt32] w (show Arv Z h102 x90 k91 .byte (Int32.ofNat 2) (([q76.toInt8.toInt32, q84.toInt8.toInt32] : List Int32).map Value.int) (.int 0) from V104) (F29.ext E105) n8_2 rq76 rq84 by0 (by decide) (by rw [bs_2 rq76 rq84]; rfl)
    · rw [hn]
      refine js w #[vI p0, vI p1, vJ w0, .second, vI v1, vI v2, vR x4, vI 3, .unset, .unset, .unset, .unset, .unset, .unset, .unset, .unset, .unset, .unset, .unset, .unset] (bq at_37) rfl 39 rfl <| jl w (bq at_39) rfl 41 rfl <| jb w 7 (bq at_41) rfl 43 rfl <| jx w (bq at_43) (by decide) 46 rfl 57 rfl (fun q => absurd q (by decide)) (fun _ => ?_)
      refine jl w (bq at_57) rfl 59 rfl <| s_if_le w (bq at_59) (by decide) 62 rfl 70 rfl (fun _ => ?_) (fun q => absurd q (by decide))
      refine s_lload_n w (bq at_62) rfl 63 rfl <| jc w 0 (bq at_63) rfl 64 rfl <| wS w hEL (cB50 hw) (Kw hw 243 rfl) (rm_ub G0 h26 w0 0) all0 all0 [.long w0, .int 0] [] rfl rfl rfl (bq at_64) hml rfl 0 rfl (by decide) 67 rfl fun u118 N119 T h120 w K121 P122 => ?_
      obtain ⟨rfl, q124, rfl, rfl, rq124⟩ := P122
      show Run _ _ _ _ _ (mkF _ _ _ [.int q124])
      refine jt w (bq at_67) (by decide) 71 rfl <| js w #[vI p0, vI p1, vJ w0, .second, vI v1, vI v2, vR x4, vI 3, vI q124, .unset, .unset, .unset, .unset, .unset, .unset, .unset, .unset, .unset, .unset, .unset] (bq at_71) rfl 73 rfl <| jl w (bq at_73) rfl 75 rfl <| jc w 1 (bq at_75) rfl 76 rfl <| je w (bq at_76) (by decide) 79 rfl 87 rfl (fun _ => ?_) (fun q => absurd q (by decide))
      refine s_lload_n w (bq at_79) rfl 80 rfl <| jc w 1 (bq at_80) rfl 81 rfl <| wS w hEL (cB50 hw) (Kw hw 243 rfl) (rm_ub G0 h26 w0 1) all0 all0 [.long w0, .int 1] [] rfl rfl rfl (bq at_81) hml rfl 0 rfl (by decide) 84 rfl fun u126 N127 T h128 w K129 P130 => ?_
      obtain ⟨rfl, q132, rfl, rfl, rq132⟩ := P130
      show Run _ _ _ _ _ (mkF _ _ _ [.int q132])
      refine jt w (bq at_84) (by decide) 88 rfl <| js w #[vI p0, vI p1, vJ w0, .second, vI v1, vI v2, vR x4, vI 3, vI q124, vI q132, .unset, .unset, .unset, .unset, .unset, .unset, .unset, .unset, .unset, .unset] (bq at_88) rfl 90 rfl <| jl w (bq at_90) rfl 92 rfl <| jc w 2 (bq at_92) rfl 93 rfl <| je w (bq at_93) (by decide) 96 rfl 104 rfl (fun _ => ?_) (fun q => absurd q (by decide))
      refine s_lload_n w (bq at_96) rfl 97 rfl <| jc w 2 (bq at_97) rfl 98 rfl <| wS w hEL (cB50 hw) (Kw hw 243 rfl) (rm_ub G0 h26 w0 2) all0 all0 [.long w0, .int 2] [] rfl rfl rfl (bq at_98) hml rfl 0 rfl (by decide) 101 rfl fun u134 N135 T h136 w K137 P138 => ?_
      obtain ⟨rfl, q140, rfl, rfl, rq140⟩ := P138
      show Run _ _ _ _ _ (mkF _ _ _ [.int q140])
      refine jt w (bq at_101) (by decide) 105 rfl <| js w #[vI p0, vI p1, vJ w0, .second, vI v1, vI v2, vR x4, vI 3, vI q124, vI q132, vI q140, .unset, .unset, .unset, .unset, .unset, .unset, .unset, .unset, .unset] (bq at_105) rfl 107 rfl <| jl w (bq at_107) rfl 109 rfl <| jc w 3 (bq at_109) rfl 110 rfl <| je w (bq at_110) (by decide) 113 rfl 121 rfl (fun q => absurd q (by decide)) (fun _ => ?_)
      refine jc w 0 (bq at_121) rfl 122 rfl <| js w #[vI p0, vI p1, vJ w0, .second, vI v1, vI v2, vR x4, vI 3, vI q124, vI q132, vI q140, vI 0, .unset, .unset, .unset, .unset, .unset, .unset, .unset, .unset] (bq at_122) rfl 124 rfl <| jl w (bq at_124) rfl 126 rfl <| jc w 4 (bq at_126) rfl 127 rfl <| je w (bq at_127) (by decide) 130 rfl 138 rfl (fun q => absurd q (by decide)) (fun _ => ?_)
      refine jc w 0 (bq at_138) rfl 139 rfl <| js w #[vI p0, vI p1, vJ w0, .second, vI v1, vI v2, vR x4, vI 3, vI q124, vI q132, vI q140, vI 0, vI 0, .unset, .unset, .unset, .unset, .unset, .unset, .unset] (bq at_139) rfl 141 rfl <| jl w (bq at_141) rfl 143 rfl <| jc w 5 (bq at_143) rfl 144 rfl <| je w (bq at_144) (by decide) 147 rfl 155 rfl (fun q => absurd q (by decide)) (fun _ => ?_)
      refine jc w 0 (bq at_155) rfl 156 rfl <| js w #[vI p0, vI p1, vJ w0, .second, vI v1, vI v2, vR x4, vI 3, vI q124, vI q132, vI q140, vI 0, vI 0, vI 0, .unset, .unset, .unset, .unset, .unset, .unset] (bq at_156) rfl 158 rfl <| jl w (bq at_158) rfl 160 rfl <| w_newP w (Kw hw 19 rfl) rfl rfl (bq at_160) (by decide) (n := 3) (by decide) (by decide) 162 rfl (by decide) (by decide) fun T h144 x145 k146 w E147 q148 r149 V150 => ?_
      refine s_astore w #[vI p0, vI p1, vJ w0, .second, vI v1, vI v2, vR x4, vI 3, vI q124, vI q132, vI q140, vI 0, vI 0, vI 0, vR x145, .unset, .unset, .unset, .unset, .unset] (bq at_162) rfl rfl 164 rfl <| jl w (bq at_164) rfl 166 rfl <| s_if_le w (bq at_166) (by decide) 169 rfl 176 rfl (fun _ => ?_) (fun q => absurd q (by decide))
      refine ja w (bq at_169) rfl rfl 171 rfl <| jc w 0 (bq at_171) rfl 172 rfl <| jl w (bq at_172) rfl 174 rfl <| s_i2b w (bq at_174) 175 rfl <| jB w V150 (i := 0) (by decide) rfl (by decide) (Nat.le_of_ble_eq_true rfl) (nar_byte _) (bq at_175) (Or.inr r149) (mi 0 rfl) 176 rfl fun T h152 w W153 V154 => ?_
      have E155 := Ext.wr' E147 W153 q148
      refine jl w (bq at_176) rfl 178 rfl <| jc w 1 (bq at_178) rfl 179 rfl <| je w (bq at_179) (by decide) 182 rfl 189 rfl (fun _ => ?_) (fun q => absurd q (by decide))
      refine ja w (bq at_182) rfl rfl 184 rfl <| jc w 1 (bq at_184) rfl 185 rfl <| jl w (bq at_185) rfl 187 rfl <| s_i2b w (bq at_187) 188 rfl <| jB w V154 (i := 1) (by decide) rfl (by decide) (Nat.le_of_ble_eq_true rfl) (nar_byte _) (bq at_188) (Or.inr r149) (mi 0 rfl) 189 rfl fun T h157 w W158 V159 => ?_
      have E160 := Ext.wr' E155 W158 q148
      refine jl w (bq at_189) rfl 191 rfl <| jc w 2 (bq at_191) rfl 192 rfl <| je w (bq at_192) (by decide) 195 rfl 202 rfl (fun _ => ?_) (fun q => absurd q (by decide))
      refine ja w (bq at_195) rfl rfl 197 rfl <| jc w 2 (bq at_197) rfl 198 rfl <| jl w (bq at_198) rfl 200 rfl <| s_i2b w (bq at_200) 201 rfl <| jB w V159 (i := 2) (by decide) rfl (by decide) (Nat.le_of_ble_eq_true rfl) (nar_byte _) (bq at_201) (Or.inr r149) (mi 0 rfl) 202 rfl fun T h162 w W163 V164 => ?_
      have E165 := Ext.wr' E160 W163 q148
      refine jl w (bq at_202) rfl 204 rfl <| jc w 3 (bq at_204) rfl 205 rfl <| je w (bq at_205) (by decide) 208 rfl 215 rfl (fun q => absurd q (by decide)) (fun _ => ?_)
      refine jl w (bq at_215) rfl 217 rfl <| jc w 4 (bq at_217) rfl 218 rfl <| je w (bq at_218) (by decide) 221 rfl 228 rfl (fun q => absurd q (by decide)) (fun _ => ?_)
      refine jl w (bq at_228) rfl 230 rfl <| jc w 5 (bq at_230) rfl 231 rfl <| je w (bq at_231) (by decide) 234 rfl 241 rfl (fun q => absurd q (by decide)) (fun _ => ?_)
      refine jl w (bq at_241) rfl 243 rfl <| jc w 3 (bq at_243) rfl 244 rfl <| wS w hEL (cB19 hw) (Kw hw 30 rfl) (rm_min G0 h162 3 3) all0 all0 [.int 3, .int 3] [] rfl rfl rfl (bq at_244) hml rfl 0 rfl (by decide) 247 rfl fun u169 N170 T h171 w K172 P173 => ?_
      obtain ⟨rfl, rfl, rfl⟩ := P173
      rw [show (if (3 : Int32) < 3 then (3 : Int32) else 3) = 3 from by decide]
      show Run _ _ _ _ _ (mkF _ _ _ [.int 3])
      refine js w #[vI p0, vI p1, vJ w0, .second, vI v1, vI v2, vR x4, vI 3, vI q124, vI q132, vI q140, vI 0, vI 0, vI 0, vR x145, vI 3, .unset, .unset, .unset, .unset] (bq at_247) rfl 249 rfl <| jl w (bq at_249) rfl 251 rfl <| jc w 3 (bq at_251) rfl 252 rfl <| s_isub w (bq at_252) 253 rfl ?_
      rw [show ((3 - 3) : Int32) = 0 from by decide]
      refine js w #[vI p0, vI p1, vJ w0, .second, vI v1, vI v2, vR x4, vI 3, vI q124, vI q132, vI q140, vI 0, vI 0, vI 0, vR x145, vI 3, vI 0, .unset, .unset, .unset] (bq at_253) rfl 255 rfl ?_
      have w := w.mono (slots' := 156) (Nat.le_refl _) (by decide)
      exact H _ _ x145 k146 3 0 q124 q132 q140 [q124.toInt8.toInt32, q132.toInt8.toInt32, q140.toInt8.toInt32] w (show Arv Z h162 x145 k146 .byte (Int32.ofNat 3) (([q124.toInt8.toInt32, q132.toInt8.toInt32, q140.toInt8.toInt32] : List Int32).map Value.int) (.int 0) from V164) (F29.ext E165) n8_3 rq124 rq132 rq140 (by decide) (by rw [bs_3 rq124 rq132 rq140]; rfl)
  intro T g d kd n0 k2 q0_ q1_ q2_ bs w Ad Sl hn8 rq0_ rq1_ rq2_ hn0 hbs
  have hZ0 := w.old
  refine jl w (bq at_255) rfl 257 rfl <| s_if_ne w (bq at_257) (by decide) 260 rfl 485 rfl (fun ct175 => ?_) (fun ct175 => ?_)
  · exact absurd ct175 (by rcases hn0 with rfl | rfl | rfl <;> decide)
  refine jl w (bq at_485) rfl 487 rfl <| jc w 3 (bq at_487) rfl 488 rfl <| s_icmp_gt w (bq at_488) (by decide) 491 rfl 780 rfl (fun ct176 => ?_) (fun ct176 => ?_)
  rotate_left
  · exact absurd ct176 (by rcases hn0 with rfl | rfl | rfl <;> decide)
  refine jb w 41 (bq at_491) rfl 493 rfl <| w_newP w (Kw hw 3 rfl) rfl rfl (bq at_493) (by decide) (n := 41) (by decide) (by decide) 495 rfl (by decide) (by decide) fun T h177 x178 k179 w E180 q181 r182 V183 => ?_
  have x178_c := CA.new (n := 41) V183 (by decide)
  refine jd w (bq at_495) rfl 496 rfl <| jc w 0 (bq at_496) rfl 497 rfl <| jb w 45 (bq at_497) rfl 499 rfl <| w_csC w x178_c [45] rfl rfl (by decide) (show nar .char (45 : Int32) = 45 by decide) (bq at_499) (Or.inr r182) E180 q181 500 rfl 1 rfl fun T h184 w E185 A186 => ?_
  refine jd w (bq at_500) rfl 501 rfl <| jc w 1 (bq at_501) rfl 502 rfl <| jb w 45 (bq at_502) rfl 504 rfl <| w_csC w A186 [45, 45] rfl rfl (by decide) (show nar .char (45 : Int32) = 45 by decide) (bq at_504) (Or.inr r182) E185 q181 505 rfl 2 rfl fun T h187 w E188 A189 => ?_
  refine jd w (bq at_505) rfl 506 rfl <| jc w 2 (bq at_506) rfl 507 rfl <| jb w 45 (bq at_507) rfl 509 rfl <| w_csC w A189 [45, 45, 45] rfl rfl (by decide) (show nar .char (45 : Int32) = 45 by decide) (bq at_509) (Or.inr r182) E188 q181 510 rfl 3 rfl fun T h190 w E191 A192 => ?_
  refine jd w (bq at_510) rfl 511 rfl <| jc w 3 (bq at_511) rfl 512 rfl <| jb w 45 (bq at_512) rfl 514 rfl <| w_csC w A192 [45, 45, 45, 45] rfl rfl (by decide) (show nar .char (45 : Int32) = 45 by decide) (bq at_514) (Or.inr r182) E191 q181 515 rfl 4 rfl fun T h193 w E194 A195 => ?_
  refine jd w (bq at_515) rfl 516 rfl <| jc w 4 (bq at_516) rfl 517 rfl <| jb w 45 (bq at_517) rfl 519 rfl <| w_csC w A195 [45, 45, 45, 45, 45] rfl rfl (by decide) (show nar .char (45 : Int32) = 45 by decide) (bq at_519) (Or.inr r182) E194 q181 520 rfl 5 rfl fun T h196 w E197 A198 => ?_
  refine jd w (bq at_520) rfl 521 rfl <| jc w 5 (bq at_521) rfl 522 rfl <| jb w 66 (bq at_522) rfl 524 rfl <| w_csC w A198 [45, 45, 45, 45, 45, 66] rfl rfl (by decide) (show nar .char (66 : Int32) = 66 by decide) (bq at_524) (Or.inr r182) E197 q181 525 rfl 6 rfl fun T h199 w E200 A201 => ?_
  refine jd w (bq at_525) rfl 526 rfl <| jb w 6 (bq at_526) rfl 528 rfl <| jb w 69 (bq at_528) rfl 530 rfl <| w_csC w A201 [45, 45, 45, 45, 45, 66, 69] rfl rfl (by decide) (show nar .char (69 : Int32) = 69 by decide) (bq at_530) (Or.inr r182) E200 q181 531 rfl 7 rfl fun T h202 w E203 A204 => ?_
  refine jd w (bq at_531) rfl 532 rfl <| jb w 7 (bq at_532) rfl 534 rfl <| jb w 71 (bq at_534) rfl 536 rfl <| w_csC w A204 [45, 45, 45, 45, 45, 66, 69, 71] rfl rfl (by decide) (show nar .char (71 : Int32) = 71 by decide) (bq at_536) (Or.inr r182) E203 q181 537 rfl 8 rfl fun T h205 w E206 A207 => ?_
  refine jd w (bq at_537) rfl 538 rfl <| jb w 8 (bq at_538) rfl 540 rfl <| jb w 73 (bq at_540) rfl 542 rfl <| w_csC w A207 [45, 45, 45, 45, 45, 66, 69, 71, 73] rfl rfl (by decide) (show nar .char (73 : Int32) = 73 by decide) (bq at_542) (Or.inr r182) E206 q181 543 rfl 9 rfl fun T h208 w E209 A210 => ?_
  refine jd w (bq at_543) rfl 544 rfl <| jb w 9 (bq at_544) rfl 546 rfl <| jb w 78 (bq at_546) rfl 548 rfl <| w_csC w A210 [45, 45, 45, 45, 45, 66, 69, 71, 73, 78] rfl rfl (by decide) (show nar .char (78 : Int32) = 78 by decide) (bq at_548) (Or.inr r182) E209 q181 549 rfl 10 rfl fun T h211 w E212 A213 => ?_
  refine jd w (bq at_549) rfl 550 rfl <| jb w 10 (bq at_550) rfl 552 rfl <| jb w 32 (bq at_552) rfl 554 rfl <| w_csC w A213 [45, 45, 45, 45, 45, 66, 69, 71, 73, 78, 32] rfl rfl (by decide) (show nar .char (32 : Int32) = 32 by decide) (bq at_554) (Or.inr r182) E212 q181 555 rfl 11 rfl fun T h214 w E215 A216 => ?_
  refine jd w (bq at_555) rfl 556 rfl <| jb w 11 (bq at_556) rfl 558 rfl <| jl w (bq at_558) rfl 560 rfl <| w_csC w A216 [45, 45, 45, 45, 45, 66, 69, 71, 73, 78, 32, v1] rfl rfl (by decide) lv1.nar (bq at_560) (Or.inr r182) E215 q181 561 rfl 12 rfl fun T h217 w E218 A219 => ?_
  refine jd w (bq at_561) rfl 562 rfl <| jb w 12 (bq at_562) rfl 564 rfl <| jl w (bq at_564) rfl 566 rfl <| w_csC w A219 [45, 45, 45, 45, 45, 66, 69, 71, 73, 78, 32, v1, v2] rfl rfl (by decide) lv2.nar (bq at_566) (Or.inr r182) E218 q181 567 rfl 13 rfl fun T h220 w E221 A222 => ?_
  refine jd w (bq at_567) rfl 568 rfl <| jb w 13 (bq at_568) rfl 570 rfl <| jb w 45 (bq at_570) rfl 572 rfl <| w_csC w A222 [45, 45, 45, 45, 45, 66, 69, 71, 73, 78, 32, v1, v2, 45] rfl rfl (by decide) (show nar .char (45 : Int32) = 45 by decide) (bq at_572) (Or.inr r182) E221 q181 573 rfl 14 rfl fun T h223 w E224 A225 => ?_
  refine jd w (bq at_573) rfl 574 rfl <| jb w 14 (bq at_574) rfl 576 rfl <| jb w 45 (bq at_576) rfl 578 rfl <| w_csC w A225 [45, 45, 45, 45, 45, 66, 69, 71, 73, 78, 32, v1, v2, 45, 45] rfl rfl (by decide) (show nar .char (45 : Int32) = 45 by decide) (bq at_578) (Or.inr r182) E224 q181 579 rfl 15 rfl fun T h226 w E227 A228 => ?_
  refine jd w (bq at_579) rfl 580 rfl <| jb w 15 (bq at_580) rfl 582 rfl <| jb w 45 (bq at_582) rfl 584 rfl <| w_csC w A228 [45, 45, 45, 45, 45, 66, 69, 71, 73, 78, 32, v1, v2, 45, 45, 45] rfl rfl (by decide) (show nar .char (45 : Int32) = 45 by decide) (bq at_584) (Or.inr r182) E227 q181 585 rfl 16 rfl fun T h229 w E230 A231 => ?_
  refine jd w (bq at_585) rfl 586 rfl <| jb w 16 (bq at_586) rfl 588 rfl <| jb w 45 (bq at_588) rfl 590 rfl <| w_csC w A231 [45, 45, 45, 45, 45, 66, 69, 71, 73, 78, 32, v1, v2, 45, 45, 45, 45] rfl rfl (by decide) (show nar .char (45 : Int32) = 45 by decide) (bq at_590) (Or.inr r182) E230 q181 591 rfl 17 rfl fun T h232 w E233 A234 => ?_
  refine jd w (bq at_591) rfl 592 rfl <| jb w 17 (bq at_592) rfl 594 rfl <| jb w 45 (bq at_594) rfl 596 rfl <| w_csC w A234 [45, 45, 45, 45, 45, 66, 69, 71, 73, 78, 32, v1, v2, 45, 45, 45, 45, 45] rfl rfl (by decide) (show nar .char (45 : Int32) = 45 by decide) (bq at_596) (Or.inr r182) E233 q181 597 rfl 18 rfl fun T h235 w E236 A237 => ?_
  refine jd w (bq at_597) rfl 598 rfl <| jb w 18 (bq at_598) rfl 600 rfl <| jb w 10 (bq at_600) rfl 602 rfl <| w_csC w A237 [45, 45, 45, 45, 45, 66, 69, 71, 73, 78, 32, v1, v2, 45, 45, 45, 45, 45, 10] rfl rfl (by decide) (show nar .char (10 : Int32) = 10 by decide) (bq at_602) (Or.inr r182) E236 q181 603 rfl 19 rfl fun T h238 w E239 A240 => ?_
  refine jd w (bq at_603) rfl 604 rfl <| jb w 19 (bq at_604) rfl 606 rfl <| jl w (bq at_606) rfl 608 rfl <| jl w (bq at_608) rfl 610 rfl <| jl w (bq at_610) rfl 612 rfl <| jl w (bq at_612) rfl 614 rfl ?_
  refine jc w 0 (bq at_614) rfl 615 rfl <| wS w hEL (cB53 hw) (Kw hw 248 rfl) (rm_grp0 G0 h238 q0_ q1_ q2_ n0 rq0_ rq1_ rq2_) all0 all0 [.int q0_, .int q1_, .int q2_, .int n0, .int 0] [.int 19, .ref x178, .ref x178] rfl rfl rfl (bq at_615) hml rfl 3 rfl (by decide) 618 rfl fun u241 N242 T h243 w K244 P245 => ?_
  obtain ⟨rfl, rfl, rfl⟩ := P245
  show Run _ _ _ _ _ (mkF _ _ _ [.int (g0 q0_), .int 19, .ref x178, .ref x178])
  refine w_csC w A240 [45, 45, 45, 45, 45, 66, 69, 71, 73, 78, 32, v1, v2, 45, 45, 45, 45, 45, 10, (g0 q0_)] rfl rfl (by decide) (tbl_lat _).nar (bq at_618) (Or.inr r182) E239 q181 619 rfl 20 rfl fun T h247 w E248 A249 => ?_
  refine jd w (bq at_619) rfl 620 rfl <| jb w 20 (bq at_620) rfl 622 rfl <| jl w (bq at_622) rfl 624 rfl <| jl w (bq at_624) rfl 626 rfl <| jl w (bq at_626) rfl 628 rfl <| jl w (bq at_628) rfl 630 rfl ?_
  refine jc w 1 (bq at_630) rfl 631 rfl <| wS w hEL (cB53 hw) (Kw hw 248 rfl) (rm_grp1 G0 h247 q0_ q1_ q2_ n0 rq0_ rq1_ rq2_) all0 all0 [.int q0_, .int q1_, .int q2_, .int n0, .int 1] [.int 20, .ref x178, .ref x178] rfl rfl rfl (bq at_631) hml rfl 3 rfl (by decide) 634 rfl fun u250 N251 T h252 w K253 P254 => ?_
  obtain ⟨rfl, rfl, rfl⟩ := P254
  show Run _ _ _ _ _ (mkF _ _ _ [.int (g1 q0_ q1_), .int 20, .ref x178, .ref x178])
  refine w_csC w A249 [45, 45, 45, 45, 45, 66, 69, 71, 73, 78, 32, v1, v2, 45, 45, 45, 45, 45, 10, (g0 q0_), (g1 q0_ q1_)] rfl rfl (by decide) (tbl_lat _).nar (bq at_634) (Or.inr r182) E248 q181 635 rfl 21 rfl fun T h256 w E257 A258 => ?_
  refine jd w (bq at_635) rfl 636 rfl <| jb w 21 (bq at_636) rfl 638 rfl <| jl w (bq at_638) rfl 640 rfl <| jl w (bq at_640) rfl 642 rfl <| jl w (bq at_642) rfl 644 rfl <| jl w (bq at_644) rfl 646 rfl ?_
  refine jc w 2 (bq at_646) rfl 647 rfl <| wS w hEL (cB53 hw) (Kw hw 248 rfl) (rm_grp2 G0 h256 q0_ q1_ q2_ n0 rq0_ rq1_ rq2_) all0 all0 [.int q0_, .int q1_, .int q2_, .int n0, .int 2] [.int 21, .ref x178, .ref x178] rfl rfl rfl (bq at_647) hml rfl 3 rfl (by decide) 650 rfl fun u259 N260 T h261 w K262 P263 => ?_
  obtain ⟨rfl, rfl, rfl⟩ := P263
  show Run _ _ _ _ _ (mkF _ _ _ [.int (G2 n0 q1_ q2_), .int 21, .ref x178, .ref x178])
  refine w_csC w A258 [45, 45, 45, 45, 45, 66, 69, 71, 73, 78, 32, v1, v2, 45, 45, 45, 45, 45, 10, (g0 q0_), (g1 q0_ q1_), (G2 n0 q1_ q2_)] rfl rfl (by decide) (G2_lat _ _ _).nar (bq at_650) (Or.inr r182) E257 q181 651 rfl 22 rfl fun T h265 w E266 A267 => ?_
  refine jd w (bq at_651) rfl 652 rfl <| jb w 22 (bq at_652) rfl 654 rfl <| jl w (bq at_654) rfl 656 rfl <| jl w (bq at_656) rfl 658 rfl <| jl w (bq at_658) rfl 660 rfl <| jl w (bq at_660) rfl 662 rfl ?_
  refine jc w 3 (bq at_662) rfl 663 rfl <| wS w hEL (cB53 hw) (Kw hw 248 rfl) (rm_grp3 G0 h265 q0_ q1_ q2_ n0 rq0_ rq1_ rq2_) all0 all0 [.int q0_, .int q1_, .int q2_, .int n0, .int 3] [.int 22, .ref x178, .ref x178] rfl rfl rfl (bq at_663) hml rfl 3 rfl (by decide) 666 rfl fun u268 N269 T h270 w K271 P272 => ?_
  obtain ⟨rfl, rfl, rfl⟩ := P272
  show Run _ _ _ _ _ (mkF _ _ _ [.int (G3 n0 q2_), .int 22, .ref x178, .ref x178])
  refine w_csC w A267 [45, 45, 45, 45, 45, 66, 69, 71, 73, 78, 32, v1, v2, 45, 45, 45, 45, 45, 10, (g0 q0_), (g1 q0_ q1_), (G2 n0 q1_ q2_), (G3 n0 q2_)] rfl rfl (by decide) (G3_lat _ _).nar (bq at_666) (Or.inr r182) E266 q181 667 rfl 23 rfl fun T h274 w E275 A276 => ?_
  refine jd w (bq at_667) rfl 668 rfl <| jb w 23 (bq at_668) rfl 670 rfl <| jb w 10 (bq at_670) rfl 672 rfl <| w_csC w A276 [45, 45, 45, 45, 45, 66, 69, 71, 73, 78, 32, v1, v2, 45, 45, 45, 45, 45, 10, (g0 q0_), (g1 q0_ q1_), (G2 n0 q1_ q2_), (G3 n0 q2_), 10] rfl rfl (by decide) (show nar .char (10 : Int32) = 10 by decide) (bq at_672) (Or.inr r182) E275 q181 673 rfl 24 rfl fun T h277 w E278 A279 => ?_
  refine jd w (bq at_673) rfl 674 rfl <| jb w 24 (bq at_674) rfl 676 rfl <| jb w 45 (bq at_676) rfl 678 rfl <| w_csC w A279 [45, 45, 45, 45, 45, 66, 69, 71, 73, 78, 32, v1, v2, 45, 45, 45, 45, 45, 10, (g0 q0_), (g1 q0_ q1_), (G2 n0 q1_ q2_), (G3 n0 q2_), 10, 45] rfl rfl (by decide) (show nar .char (45 : Int32) = 45 by decide) (bq at_678) (Or.inr r182) E278 q181 679 rfl 25 rfl fun T h280 w E281 A282 => ?_
  refine jd w (bq at_679) rfl 680 rfl <| jb w 25 (bq at_680) rfl 682 rfl <| jb w 45 (bq at_682) rfl 684 rfl <| w_csC w A282 [45, 45, 45, 45, 45, 66, 69, 71, 73, 78, 32, v1, v2, 45, 45, 45, 45, 45, 10, (g0 q0_), (g1 q0_ q1_), (G2 n0 q1_ q2_), (G3 n0 q2_), 10, 45, 45] rfl rfl (by decide) (show nar .char (45 : Int32) = 45 by decide) (bq at_684) (Or.inr r182) E281 q181 685 rfl 26 rfl fun T h283 w E284 A285 => ?_
  refine jd w (bq at_685) rfl 686 rfl <| jb w 26 (bq at_686) rfl 688 rfl <| jb w 45 (bq at_688) rfl 690 rfl <| w_csC w A285 [45, 45, 45, 45, 45, 66, 69, 71, 73, 78, 32, v1, v2, 45, 45, 45, 45, 45, 10, (g0 q0_), (g1 q0_ q1_), (G2 n0 q1_ q2_), (G3 n0 q2_), 10, 45, 45, 45] rfl rfl (by decide) (show nar .char (45 : Int32) = 45 by decide) (bq at_690) (Or.inr r182) E284 q181 691 rfl 27 rfl fun T h286 w E287 A288 => ?_
  refine jd w (bq at_691) rfl 692 rfl <| jb w 27 (bq at_692) rfl 694 rfl <| jb w 45 (bq at_694) rfl 696 rfl <| w_csC w A288 [45, 45, 45, 45, 45, 66, 69, 71, 73, 78, 32, v1, v2, 45, 45, 45, 45, 45, 10, (g0 q0_), (g1 q0_ q1_), (G2 n0 q1_ q2_), (G3 n0 q2_), 10, 45, 45, 45, 45] rfl rfl (by decide) (show nar .char (45 : Int32) = 45 by decide) (bq at_696) (Or.inr r182) E287 q181 697 rfl 28 rfl fun T h289 w E290 A291 => ?_
  refine jd w (bq at_697) rfl 698 rfl <| jb w 28 (bq at_698) rfl 700 rfl <| jb w 45 (bq at_700) rfl 702 rfl <| w_csC w A291 [45, 45, 45, 45, 45, 66, 69, 71, 73, 78, 32, v1, v2, 45, 45, 45, 45, 45, 10, (g0 q0_), (g1 q0_ q1_), (G2 n0 q1_ q2_), (G3 n0 q2_), 10, 45, 45, 45, 45, 45] rfl rfl (by decide) (show nar .char (45 : Int32) = 45 by decide) (bq at_702) (Or.inr r182) E290 q181 703 rfl 29 rfl fun T h292 w E293 A294 => ?_
  refine jd w (bq at_703) rfl 704 rfl <| jb w 29 (bq at_704) rfl 706 rfl <| jb w 69 (bq at_706) rfl 708 rfl <| w_csC w A294 [45, 45, 45, 45, 45, 66, 69, 71, 73, 78, 32, v1, v2, 45, 45, 45, 45, 45, 10, (g0 q0_), (g1 q0_ q1_), (G2 n0 q1_ q2_), (G3 n0 q2_), 10, 45, 45, 45, 45, 45, 69] rfl rfl (by decide) (show nar .char (69 : Int32) = 69 by decide) (bq at_708) (Or.inr r182) E293 q181 709 rfl 30 rfl fun T h295 w E296 A297 => ?_
  refine jd w (bq at_709) rfl 710 rfl <| jb w 30 (bq at_710) rfl 712 rfl <| jb w 78 (bq at_712) rfl 714 rfl <| w_csC w A297 [45, 45, 45, 45, 45, 66, 69, 71, 73, 78, 32, v1, v2, 45, 45, 45, 45, 45, 10, (g0 q0_), (g1 q0_ q1_), (G2 n0 q1_ q2_), (G3 n0 q2_), 10, 45, 45, 45, 45, 45, 69, 78] rfl rfl (by decide) (show nar .char (78 : Int32) = 78 by decide) (bq at_714) (Or.inr r182) E296 q181 715 rfl 31 rfl fun T h298 w E299 A300 => ?_
  refine jd w (bq at_715) rfl 716 rfl <| jb w 31 (bq at_716) rfl 718 rfl <| jb w 68 (bq at_718) rfl 720 rfl <| w_csC w A300 [45, 45, 45, 45, 45, 66, 69, 71, 73, 78, 32, v1, v2, 45, 45, 45, 45, 45, 10, (g0 q0_), (g1 q0_ q1_), (G2 n0 q1_ q2_), (G3 n0 q2_), 10, 45, 45, 45, 45, 45, 69, 78, 68] rfl rfl (by decide) (show nar .char (68 : Int32) = 68 by decide) (bq at_720) (Or.inr r182) E299 q181 721 rfl 32 rfl fun T h301 w E302 A303 => ?_
  refine jd w (bq at_721) rfl 722 rfl <| jb w 32 (bq at_722) rfl 724 rfl <| jb w 32 (bq at_724) rfl 726 rfl <| w_csC w A303 [45, 45, 45, 45, 45, 66, 69, 71, 73, 78, 32, v1, v2, 45, 45, 45, 45, 45, 10, (g0 q0_), (g1 q0_ q1_), (G2 n0 q1_ q2_), (G3 n0 q2_), 10, 45, 45, 45, 45, 45, 69, 78, 68, 32] rfl rfl (by decide) (show nar .char (32 : Int32) = 32 by decide) (bq at_726) (Or.inr r182) E302 q181 727 rfl 33 rfl fun T h304 w E305 A306 => ?_
  refine jd w (bq at_727) rfl 728 rfl <| jb w 33 (bq at_728) rfl 730 rfl <| jl w (bq at_730) rfl 732 rfl <| w_csC w A306 [45, 45, 45, 45, 45, 66, 69, 71, 73, 78, 32, v1, v2, 45, 45, 45, 45, 45, 10, (g0 q0_), (g1 q0_ q1_), (G2 n0 q1_ q2_), (G3 n0 q2_), 10, 45, 45, 45, 45, 45, 69, 78, 68, 32, v1] rfl rfl (by decide) lv1.nar (bq at_732) (Or.inr r182) E305 q181 733 rfl 34 rfl fun T h307 w E308 A309 => ?_
  refine jd w (bq at_733) rfl 734 rfl <| jb w 34 (bq at_734) rfl 736 rfl <| jl w (bq at_736) rfl 738 rfl <| w_csC w A309 [45, 45, 45, 45, 45, 66, 69, 71, 73, 78, 32, v1, v2, 45, 45, 45, 45, 45, 10, (g0 q0_), (g1 q0_ q1_), (G2 n0 q1_ q2_), (G3 n0 q2_), 10, 45, 45, 45, 45, 45, 69, 78, 68, 32, v1, v2] rfl rfl (by decide) lv2.nar (bq at_738) (Or.inr r182) E308 q181 739 rfl 35 rfl fun T h310 w E311 A312 => ?_
  refine jd w (bq at_739) rfl 740 rfl <| jb w 35 (bq at_740) rfl 742 rfl <| jb w 45 (bq at_742) rfl 744 rfl <| w_csC w A312 [45, 45, 45, 45, 45, 66, 69, 71, 73, 78, 32, v1, v2, 45, 45, 45, 45, 45, 10, (g0 q0_), (g1 q0_ q1_), (G2 n0 q1_ q2_), (G3 n0 q2_), 10, 45, 45, 45, 45, 45, 69, 78, 68, 32, v1, v2, 45] rfl rfl (by decide) (show nar .char (45 : Int32) = 45 by decide) (bq at_744) (Or.inr r182) E311 q181 745 rfl 36 rfl fun T h313 w E314 A315 => ?_
  refine jd w (bq at_745) rfl 746 rfl <| jb w 36 (bq at_746) rfl 748 rfl <| jb w 45 (bq at_748) rfl 750 rfl <| w_csC w A315 [45, 45, 45, 45, 45, 66, 69, 71, 73, 78, 32, v1, v2, 45, 45, 45, 45, 45, 10, (g0 q0_), (g1 q0_ q1_), (G2 n0 q1_ q2_), (G3 n0 q2_), 10, 45, 45, 45, 45, 45, 69, 78, 68, 32, v1, v2, 45, 45] rfl rfl (by decide) (show nar .char (45 : Int32) = 45 by decide) (bq at_750) (Or.inr r182) E314 q181 751 rfl 37 rfl fun T h316 w E317 A318 => ?_
  refine jd w (bq at_751) rfl 752 rfl <| jb w 37 (bq at_752) rfl 754 rfl <| jb w 45 (bq at_754) rfl 756 rfl <| w_csC w A318 [45, 45, 45, 45, 45, 66, 69, 71, 73, 78, 32, v1, v2, 45, 45, 45, 45, 45, 10, (g0 q0_), (g1 q0_ q1_), (G2 n0 q1_ q2_), (G3 n0 q2_), 10, 45, 45, 45, 45, 45, 69, 78, 68, 32, v1, v2, 45, 45, 45] rfl rfl (by decide) (show nar .char (45 : Int32) = 45 by decide) (bq at_756) (Or.inr r182) E317 q181 757 rfl 38 rfl fun T h319 w E320 A321 => ?_
  refine jd w (bq at_757) rfl 758 rfl <| jb w 38 (bq at_758) rfl 760 rfl <| jb w 45 (bq at_760) rfl 762 rfl <| w_csC w A321 [45, 45, 45, 45, 45, 66, 69, 71, 73, 78, 32, v1, v2, 45, 45, 45, 45, 45, 10, (g0 q0_), (g1 q0_ q1_), (G2 n0 q1_ q2_), (G3 n0 q2_), 10, 45, 45, 45, 45, 45, 69, 78, 68, 32, v1, v2, 45, 45, 45, 45] rfl rfl (by decide) (show nar .char (45 : Int32) = 45 by decide) (bq at_762) (Or.inr r182) E320 q181 763 rfl 39 rfl fun T h322 w E323 A324 => ?_
  refine jd w (bq at_763) rfl 764 rfl <| jb w 39 (bq at_764) rfl 766 rfl <| jb w 45 (bq at_766) rfl 768 rfl <| w_csC w A324 [45, 45, 45, 45, 45, 66, 69, 71, 73, 78, 32, v1, v2, 45, 45, 45, 45, 45, 10, (g0 q0_), (g1 q0_ q1_), (G2 n0 q1_ q2_), (G3 n0 q2_), 10, 45, 45, 45, 45, 45, 69, 78, 68, 32, v1, v2, 45, 45, 45, 45, 45] rfl rfl (by decide) (show nar .char (45 : Int32) = 45 by decide) (bq at_768) (Or.inr r182) E323 q181 769 rfl 40 rfl fun T h325 w E326 A327 => ?_
  refine jd w (bq at_769) rfl 770 rfl <| jb w 40 (bq at_770) rfl 772 rfl <| jb w 10 (bq at_772) rfl 774 rfl <| w_csC w A327 [45, 45, 45, 45, 45, 66, 69, 71, 73, 78, 32, v1, v2, 45, 45, 45, 45, 45, 10, (g0 q0_), (g1 q0_ q1_), (G2 n0 q1_ q2_), (G3 n0 q2_), 10, 45, 45, 45, 45, 45, 69, 78, 68, 32, v1, v2, 45, 45, 45, 45, 45, 10] rfl rfl (by decide) (show nar .char (10 : Int32) = 10 by decide) (bq at_774) (Or.inr r182) E326 q181 775 rfl 41 rfl fun T h328 w E329 A330 => ?_
  refine s_astore w #[vI p0, vI p1, vJ w0, .second, vI v1, vI v2, vR x4, vI n0, vI q0_, vI q1_, vI q2_, vI 0, vI 0, vI 0, vR d, vI n0, vI k2, vR x178, .unset, .unset] (bq at_775) rfl rfl 777 rfl <| jt w (bq at_777) (by decide) 1126 rfl <| w_new w (Kw hw 0 rfl) (Kw hw 1 rfl) (Kw hw 2 rfl) (bq at_1126) 1129 rfl (by decide) (by decide) fun T h331 x332 w E333 q334 r335 A336 D337 => ?_
  have F_coder_x332 : Fld Z h331 x332 "java/lang/String" "coder" "B" (.int 0) := D337 (Or.inr (Kw hw 27 rfl)) (ty := .byte) (by decide)
  have F_value_x332 : Fld Z h331 x332 "java/lang/String" "value" "[B" (.null) := D337 (Or.inr (Kw hw 29 rfl)) (ty := (.array .byte)) (by decide)
  refine jd w (bq at_1129) rfl 1130 rfl <| ja w (bq at_1130) rfl rfl 1132 rfl ?_
  have eP : ([45, 45, 45, 45, 45, 66, 69, 71, 73, 78, 32, v1, v2, 45, 45, 45, 45, 45, 10, (g0 q0_), (g1 q0_ q1_), (G2 n0 q1_ q2_), (G3 n0 q2_), 10, 45, 45, 45, 45, 45, 69, 78, 68, 32, v1, v2, 45, 45, 45, 45, 45, 10] : List Int32) = pemS [v1, v2] [g0 q0_, g1 q0_ q1_, G2 n0 q1_ q2_, G3 n0 q2_] := by simp only [pemS, List.nil_append, List.cons_append]
  have hC : ∀ c ∈ ([45, 45, 45, 45, 45, 66, 69, 71, 73, 78, 32, v1, v2, 45, 45, 45, 45, 45, 10, (g0 q0_), (g1 q0_ q1_), (G2 n0 q1_ q2_), (G3 n0 q2_), 10, 45, 45, 45, 45, 45, 69, 78, 68, 32, v1, v2, 45, 45, 45, 45, 45, 10] : List Int32), Chr c := by rw [eP]; exact pemS_chr (chC lv1 (chC lv2 chN)) (chC (lat_chr (tbl_lat _)) (chC (lat_chr (tbl_lat _)) (chC (lat_chr (G2_lat _ _ _)) (chC (lat_chr (G3_lat _ _)) chN))))
  refine w_special w hEL (y := mN9) (a := x332) rfl (Kw hw 4 rfl) (Kw hw 5 rfl) (Kw hw 2 rfl) (Kw hw 6 rfl) (by decide) (rm_in1 G0 h331 x332 x178 41 k179 [45, 45, 45, 45, 45, 66, 69, 71, 73, 78, 32, v1, v2, 45, 45, 45, 45, 45, 10, (g0 q0_), (g1 q0_ q1_), (G2 n0 q1_ q2_), (G3 n0 q2_), 10, 45, 45, 45, 45, 45, 69, 78, 68, 32, v1, v2, 45, 45, 45, 45, 45, 10] _ _ rfl (Nat.le_of_ble_eq_true rfl) (Nat.le_of_ble_eq_true rfl) hC (A330.ext E333).full A336 F_value_x332 F_coder_x332) (allS (mi 0 rfl) all0) (allS (Or.inr r335) all0) (argsL := [.ref x178]) (rest := [.ref x332]) (lenOf pD10 rfl) rfl rfl (bq at_1132) (by rw [hml]; rfl) (W := 1) (Nat.le_of_eq rfl) (by decide) (by decide) (by decide) (by decide) 1135 rfl fun u338 T h339 w K340 P341 => ?_
  obtain ⟨rfl, F342⟩ := P341
  rw [eP] at F342
  have E343 := Ext.kp E333 K340 (allS q334 all0)
  show Run _ _ _ _ _ (mkF _ _ _ [.ref x332])
  refine s_astore w #[vI p0, vI p1, vJ w0, .second, vI v1, vI v2, vR x4, vI n0, vI q0_, vI q1_, vI q2_, vI 0, vI 0, vI 0, vR d, vI n0, vI k2, vR x178, vR x332, .unset] (bq at_1135) rfl rfl 1137 rfl <| ja w (bq at_1137) rfl rfl 1139 rfl <| ja w (bq at_1139) rfl rfl 1141 rfl <| wS w hEL (cB51 hw) (Kw hw 34 rfl) (rm_pe G0 h339 x4 d kd bs [v1, v2] hn8 rfl ((Sl.ext E329).ext E343) ((Ad.ext E329).ext E343)) all0 all0 [.ref x4, .ref d] [] rfl rfl rfl (bq at_1141) hml rfl 0 rfl (by decide) 1144 rfl fun u344 N345 T h346 w K347 P348 => ?_
  obtain ⟨rfl, r0, rfl, Sr⟩ := P348
  have E350 := Keep.ext0 K347
  rw [hbs] at Sr
  show Run _ _ _ _ _ (mkF _ _ _ [.ref r0])
  refine s_astore w #[vI p0, vI p1, vJ w0, .second, vI v1, vI v2, vR x4, vI n0, vI q0_, vI q1_, vI q2_, vI 0, vI 0, vI 0, vR d, vI n0, vI k2, vR x178, vR x332, vR r0] (bq at_1144) rfl rfl 1146 rfl <| ja w (bq at_1146) rfl rfl 1148 rfl <| ja w (bq at_1148) rfl rfl 1150 rfl <| w_strEq w hwE (Kw hw 1 rfl) (Kw hw 233 rfl) (Kw hw 234 rfl) (Kw hw 236 rfl) (Kw hw 235 rfl) (F342.ext E350) Sr SC hz (bq at_1150) (by rw [hml]; rfl) (W := 0) (Nat.le_of_eq rfl) (by decide) (by decide) (by decide) (by decide) 1153 rfl fun T z351 w hz352 => ?_
  obtain rfl : z351 = 1 := hz352.elim (fun q => q.1) (fun q => absurd rfl q.2)
  exact w_ireturn w hEL hs hlk hret rfl (Or.inr (Or.inl rfl)) (bq at_1153) (by decide) (by decide) rfl
open StrChars StrChars.Road

theorem rm_law8 (G : Gl Z a0 zc fm tba ktb fba kfb) (h : Heap) (p0 : Int32) (p1 : Int32) (w0 : Int64) (hn : p0 &&& 7 = 4 ∨ p0 &&& 7 = 5 ∨ p0 &&& 7 = 6) :
    Met l Z consts_1 x code maxLocals ret room_1 #[.int p0, .int p1, .long w0] h [] [] (fun v h' => v = some (.int 1)) := by
  have G0 := G
  obtain ⟨hw, hEL, SC, hz, -⟩ := G
  have hwE := fun d q => hw d (subE d q)
  refine Met.of (plainFor_of_name pn_12) ?_
  intro p e s m below meth c T hnm hret hlk hby hml hs w; have bq := @hb _ _ hby
  have hZ0 := w.old
  refine Run.cast (efL (L := #[vI p0, vI p1, vJ w0, .second, .unset, .unset, .unset, .unset, .unset, .unset, .unset, .unset, .unset, .unset, .unset, .unset, .unset, .unset, .unset, .unset]) (by simp [argsToLocals, Value.category, vI, vR, vJ, maxLocals])) ?_
  refine jn w (bq at_0) rfl 1 rfl <| s_i2c w (bq at_1) 2 rfl ?_
  generalize hv1 : ((nar .char p1) : Int32) = v1
  refine js w #[vI p0, vI p1, vJ w0, .second, vI v1, .unset, .unset, .unset, .unset, .unset, .unset, .unset, .unset, .unset, .unset, .unset, .unset, .unset, .unset, .unset] (bq at_2) rfl 4 rfl ?_
  have lv1 : Chr v1 := by rw [← hv1]; exact chr_nar _
  refine jn w (bq at_4) rfl 5 rfl <| jb w 16 (bq at_5) rfl 7 rfl <| s_iushr w (bq at_7) 8 rfl <| s_i2c w (bq at_8) 9 rfl ?_
  generalize hv2 : ((nar .char (XT.ushr p1 16)) : Int32) = v2
  refine js w #[vI p0, vI p1, vJ w0, .second, vI v1, vI v2, .unset, .unset, .unset, .unset, .unset, .unset, .unset, .unset, .unset, .unset, .unset, .unset, .unset, .unset] (bq at_9) rfl 11 rfl ?_
  have lv2 : Chr v2 := by rw [← hv2]; exact chr_nar _
  refine w_new w (Kw hw 0 rfl) (Kw hw 1 rfl) (Kw hw 2 rfl) (bq at_11) 14 rfl (by decide) (by decide) fun T h3 x4 w E5 q6 r7 A8 D9 => ?_
  have F_coder_x4 : Fld Z h3 x4 "java/lang/String" "coder" "B" (.int 0) := D9 (Or.inr (Kw hw 27 rfl)) (ty := .byte) (by decide)
  have F_value_x4 : Fld Z h3 x4 "java/lang/String" "value" "[B" (.null) := D9 (Or.inr (Kw hw 29 rfl)) (ty := (.array .byte)) (by decide)
  refine jd w (bq at_14) rfl 15 rfl <| jc w 2 (bq at_15) rfl 16 rfl <| w_newP w (Kw hw 3 rfl) rfl rfl (bq at_16) (by decide) (n := 2) (by decide) (by decide) 18 rfl (by decide) (by decide) fun T h10 x11 k12 w E13 q14 r15 V16 => ?_
  refine jd w (bq at_18) rfl 19 rfl <| jc w 0 (bq at_19) rfl 20 rfl <| jl w (bq at_20) rfl 22 rfl <| jC w V16 (i := 0) (by decide) rfl (by decide) (Nat.le_of_ble_eq_true rfl) lv1.nar (bq at_22) (Or.inr r15) 23 rfl fun T h17 w W18 V19 => ?_
  have E20 := Ext.wr' E13 W18 q14
  refine jd w (bq at_23) rfl 24 rfl <| jc w 1 (bq at_24) rfl 25 rfl <| jl w (bq at_25) rfl 27 rfl <| jC w V19 (i := 1) (by decide) rfl (by decide) (Nat.le_of_ble_eq_true rfl) lv2.nar (bq at_27) (Or.inr r15) 28 rfl fun T h21 w W22 V23 => ?_
  have E24 := Ext.wr' E20 W22 q14
  refine w_special w hEL (y := mN9) (a := x4) rfl (Kw hw 4 rfl) (Kw hw 5 rfl) (Kw hw 2 rfl) (Kw hw 6 rfl) (by decide) (rm_in1 G0 h21 x4 x11 2 k12 [v1, v2] _ _ rfl (Nat.le_of_ble_eq_true rfl) (Nat.le_of_ble_eq_true rfl) (by intro c q; simp only [List.mem_cons, List.not_mem_nil, or_false] at q; rcases q with rfl | rfl <;> first | exact lv1 | exact lv2) (show Arv Z h21 x11 k12 .char 2 (([v1, v2] : List Int32).map Value.int) (.int 0) from V23) (A8.ext E24) (F_value_x4.ext E24) (F_coder_x4.ext E24)) (allS (mi 1 rfl) all0) (allS (Or.inr r7) all0) (argsL := [.ref x11]) (rest := [.ref x4]) (lenOf pD10 rfl) rfl rfl (bq at_28) (by rw [hml]; rfl) (W := 1) (Nat.le_of_eq rfl) (by decide) (by decide) (by decide) (by decide) 31 rfl fun u25 T h26 w K27 P28 => ?_
  obtain ⟨rfl, F29⟩ := P28
  have E30 := Ext.kp (Ext.tr E5 E24) K27 (allS q6 all0)
  show Run _ _ _ _ _ (mkF _ _ _ [.ref x4])
  refine s_astore w #[vI p0, vI p1, vJ w0, .second, vI v1, vI v2, vR x4, .unset, .unset, .unset, .unset, .unset, .unset, .unset, .unset, .unset, .unset, .unset, .unset, .unset] (bq at_31) rfl rfl 33 rfl <| jn w (bq at_33) rfl 34 rfl <| jb w 7 (bq at_34) rfl 36 rfl <| jw w (bq at_36) 37 rfl ?_
  suffices H : ∀ T g (d : Addr) (kd : ClassId) (n0 k2 q0_ q1_ q2_ q3_ q4_ q5_ : Int32) (bs : List Int32), Wk p l e _ s m _ below meth c Z consts_1 _ h [] T g 5 156 [d, x11, x4] → Arv Z g d kd .byte (Int32.ofNat bs.length) (bs.map Value.int) (.int 0) → Str Z g x4 [v1, v2] → N8 bs.length → By q0_ → By q1_ → By q2_ → By q3_ → By q4_ → By q5_ → (n0 = 4 ∨ n0 = 5 ∨ n0 = 6) → b64s bs = [g0 q0_, g1 q0_ q1_, G2 3 q1_ q2_, G3 3 q2_, g0 q3_, g1 q3_ q4_, G2 k2 q4_ q5_, G3 k2 q5_] → Run p e below (Qm Z consts_1 s h [] _ _) T (mkF m 255 #[vI p0, vI p1, vJ w0, .second, vI v1, vI v2, vR x4, vI n0, vI q0_, vI q1_, vI q2_, vI q3_, vI q4_, vI q5_, vR d, vI 3, vI k2, .unset, .unset, .unset] []) by
    rcases hn with hn | hn | hn
    · rw [hn]
      refine js w #[vI p0, vI p1, vJ w0, .second, vI v1, vI v2, vR x4, vI 4, .unset, .unset, .unset, .unset, .unset, .unset, .unset, .unset, .unset, .unset, .unset, .unset] (bq at_37) rfl 39 rfl <| jl w (bq at_39) rfl 41 rfl <| jb w 7 (bq at_41) rfl 43 rfl <| jx w (bq at_43) (by decide) 46 rfl 57 rfl (fun q => absurd q (by decide)) (fun _ => ?_)
      refine jl w (bq at_57) rfl 59 rfl <| s_if_le w (bq at_59) (by decide) 62 rfl 70 rfl (fun _ => ?_) (fun q => absurd q (by decide))
      refine s_lload_n w (bq at_62) rfl 63 rfl <| jc w 0 (bq at_63) rfl 64 rfl <| wS w hEL (cB50 hw) (Kw hw 243 rfl) (rm_ub G0 h26 w0 0) all0 all0 [.long w0, .int 0] [] rfl rfl rfl (bq at_64) hml rfl 0 rfl (by decide) 67 rfl fun u33 N34 T h35 w K36 P37 => ?_
      obtain ⟨rfl, q39, rfl, rfl, rq39⟩ := P37
      show Run _ _ _ _ _ (mkF _ _ _ [.int q39])
      refine jt w (bq at_67) (by decide) 71 rfl <| js w #[vI p0, vI p1, vJ w0, .second, vI v1, vI v2, vR x4, vI 4, vI q39, .unset, .unset, .unset, .unset, .unset, .unset, .unset, .unset, .unset, .unset, .unset] (bq at_71) rfl 73 rfl <| jl w (bq at_73) rfl 75 rfl <| jc w 1 (bq at_75) rfl 76 rfl <| je w (bq at_76) (by decide) 79 rfl 87 rfl (fun _ => ?_) (fun q => absurd q (by decide))
      refine s_lload_n w (bq at_79) rfl 80 rfl <| jc w 1 (bq at_80) rfl 81 rfl <| wS w hEL (cB50 hw) (Kw hw 243 rfl) (rm_ub G0 h26 w0 1) all0 all0 [.long w0, .int 1] [] rfl rfl rfl (bq at_81) hml rfl 0 rfl (by decide) 84 rfl fun u41 N42 T h43 w K44 P45 => ?_
      obtain ⟨rfl, q47, rfl, rfl, rq47⟩ := P45
      show Run _ _ _ _ _ (mkF _ _ _ [.int q47])
      refine jt w (bq at_84) (by decide) 88 rfl <| js w #[vI p0, vI p1, vJ w0, .second, vI v1, vI v2, vR x4, vI 4, vI q39, vI q47, .unset, .unset, .unset, .unset, .unset, .unset, .unset, .unset, .unset, .unset] (bq at_88) rfl 90 rfl <| jl w (bq at_90) rfl 92 rfl <| jc w 2 (bq at_92) rfl 93 rfl <| je w (bq at_93) (by decide) 96 rfl 104 rfl (fun _ => ?_) (fun q => absurd q (by decide))
      refine s_lload_n w (bq at_96) rfl 97 rfl <| jc w 2 (bq at_97) rfl 98 rfl <| wS w hEL (cB50 hw) (Kw hw 243 rfl) (rm_ub G0 h26 w0 2) all0 all0 [.long w0, .int 2] [] rfl rfl rfl (bq at_98) hml rfl 0 rfl (by decide) 101 rfl fun u49 N50 T h51 w K52 P53 => ?_
      obtain ⟨rfl, q55, rfl, rfl, rq55⟩ := P53
      show Run _ _ _ _ _ (mkF _ _ _ [.int q55])
      refine jt w (bq at_101) (by decide) 105 rfl <| js w #[vI p0, vI p1, vJ w0, .second, vI v1, vI v2, vR x4, vI 4, vI q39, vI q47, vI q55, .unset, .unset, .unset, .unset, .unset, .unset, .unset, .unset, .unset] (bq at_105) rfl 107 rfl <| jl w (bq at_107) rfl 109 rfl <| jc w 3 (bq at_109) rfl 110 rfl <| je w (bq at_110) (by decide) 113 rfl 121 rfl (fun _ => ?_) (fun q => absurd q (by decide))
      refine s_lload_n w (bq at_113) rfl 114 rfl <| jc w 3 (bq at_114) rfl 115 rfl <| wS w hEL (cB50 hw) (Kw hw 243 rfl) (rm_ub G0 h26 w0 3) all0 all0 [.long w0, .int 3] [] rfl rfl rfl (bq at_115) hml rfl 0 rfl (by decide) 118 rfl fun u57 N58 T h59 w K60 P61 => ?_
      obtain ⟨rfl, q63, rfl, rfl, rq63⟩ := P61
      show Run _ _ _ _ _ (mkF _ _ _ [.int q63])
      refine jt w (bq at_118) (by decide) 122 rfl <| js w #[vI p0, vI p1, vJ w0, .second, vI v1, vI v2, vR x4, vI 4, vI q39, vI q47, vI q55, vI q63, .unset, .unset, .unset, .unset, .unset, .unset, .unset, .unset] (bq at_122) rfl 124 rfl <| jl w (bq at_124) rfl 126 rfl <| jc w 4 (bq at_126) rfl 127 rfl <| je w (bq at_127) (by decide) 130 rfl 138 rfl (fun q => absurd q (by decide)) (fun _ => ?_)
      refine jc w 0 (bq at_138) rfl 139 rfl <| js w #[vI p0, vI p1, vJ w0, .second, vI v1, vI v2, vR x4, vI 4, vI q39, vI q47, vI q55, vI q63, vI 0, .unset, .unset, .unset, .unset, .unset, .unset, .unset] (bq at_139) rfl 141 rfl <| jl w (bq at_141) rfl 143 rfl <| jc w 5 (bq at_143) rfl 144 rfl <| je w (bq at_144) (by decide) 147 rfl 155 rfl (fun q => absurd q (by decide)) (fun _ => ?_)
      refine jc w 0 (bq at_155) rfl 156 rfl <| js w #[vI p0, vI p1, vJ w0, .second, vI v1, vI v2, vR x4, vI 4, vI q39, vI q47, vI q55, vI q63, vI 0, vI 0, .unset, .unset, .unset, .unset, .unset, .unset] (bq at_156) rfl 158 rfl <| jl w (bq at_158) rfl 160 rfl <| w_newP w (Kw hw 19 rfl) rfl rfl (bq at_160) (by decide) (n := 4) (by decide) (by decide) 162 rfl (by decide) (by decide) fun T h66 x67 k68 w E69 q70 r71 V72 => ?_
      refine s_astore w #[vI p0, vI p1, vJ w0, .second, vI v1, vI v2, vR x4, vI 4, vI q39, vI q47, vI q55, vI q63, vI 0, vI 0, vR x67, .unset, .unset, .unset, .unset, .unset] (bq at_162) rfl rfl 164 rfl <| jl w (bq at_164) rfl 166 rfl <| s_if_le w (bq at_166) (by decide) 169 rfl 176 rfl (fun _ => ?_) (fun q => absurd q (by decide))
      refine ja w (bq at_169) rfl rfl 171 rfl <| jc w 0 (bq at_171) rfl 172 rfl <| jl w (bq at_172) rfl 174 rfl <| s_i2b w (bq at_174) 175 rfl <| jB w V72 (i := 0) (by decide) rfl (by decide) (Nat.le_of_ble_eq_true rfl) (nar_byte _) (bq at_175) (Or.inr r71) (mi 0 rfl) 176 rfl fun T h74 w W75 V76 => ?_
      have E77 := Ext.wr' E69 W75 q70
      refine jl w (bq at_176) rfl 178 rfl <| jc w 1 (bq at_178) rfl 179 rfl <| je w (bq at_179) (by decide) 182 rfl 189 rfl (fun _ => ?_) (fun q => absurd q (by decide))
      refine ja w (bq at_182) rfl rfl 184 rfl <| jc w 1 (bq at_184) rfl 185 rfl <| jl w (bq at_185) rfl 187 rfl <| s_i2b w (bq at_187) 188 rfl <| jB w V76 (i := 1) (by decide) rfl (by decide) (Nat.le_of_ble_eq_true rfl) (nar_byte _) (bq at_188) (Or.inr r71) (mi 0 rfl) 189 rfl fun T h79 w W80 V81 => ?_
      have E82 := Ext.wr' E77 W80 q70
      refine jl w (bq at_189) rfl 191 rfl <| jc w 2 (bq at_191) rfl 192 rfl <| je w (bq at_192) (by decide) 195 rfl 202 rfl (fun _ => ?_) (fun q => absurd q (by decide))
      refine ja w (bq at_195) rfl rfl 197 rfl <| jc w 2 (bq at_197) rfl 198 rfl <| jl w (bq at_198) rfl 200 rfl <| s_i2b w (bq at_200) 201 rfl <| jB w V81 (i := 2) (by decide) rfl (by decide) (Nat.le_of_ble_eq_true rfl) (nar_byte _) (bq at_201) (Or.inr r71) (mi 0 rfl) 202 rfl fun T h84 w W85 V86 => ?_
      have E87 := Ext.wr' E82 W85 q70
      refine jl w (bq at_202) rfl 204 rfl <| jc w 3 (bq at_204) rfl 205 rfl <| je w (bq at_205) (by decide) 208 rfl 215 rfl (fun _ => ?_) (fun q => absurd q (by decide))
      refine ja w (bq at_208) rfl rfl 210 rfl <| jc w 3 (bq at_210) rfl 211 rfl <| jl w (bq at_211) rfl 213 rfl <| s_i2b w (bq at_213) 214 rfl <| jB w V86 (i := 3) (by decide) rfl (by decide) (Nat.le_of_ble_eq_true rfl) (nar_byte _) (bq at_214) (Or.inr r71) (mi 0 rfl) 215 rfl fun T h89 w W90 V91 => ?_
      have E92 := Ext.wr' E87 W90 q70
      refine jl w (bq at_215) rfl 217 rfl <| jc w 4 (bq at_217) rfl 218 rfl <| je w (bq at_218) (by decide) 221 rfl 228 rfl (fun q => absurd q (by decide)) (fun _ => ?_)
      refine jl w (bq at_228) rfl 230 rfl <| jc w 5 (bq at_230) rfl 231 rfl <| je w (bq at_231) (by decide) 234 rfl 241 rfl (fun q => absurd q (by decide)) (fun _ => ?_)
      refine jl w (bq at_241) rfl 243 rfl <| jc w 3 (bq at_243) rfl 244 rfl <| wS w hEL (cB19 hw) (Kw hw 30 rfl) (rm_min G0 h89 4 3) all0 all0 [.int 4, .int 3] [] rfl rfl rfl (bq at_244) hml rfl 0 rfl (by decide) 247 rfl fun u95 N96 T h97 w K98 P99 => ?_
      obtain ⟨rfl, rfl, rfl⟩ := P99
      rw [show (if (3 : Int32) < 4 then (3 : Int32) else 4) = 3 from by decide]
      show Run _ _ _ _ _ (mkF _ _ _ [.int 3])
      refine js w #[vI p0, vI p1, vJ w0, .second, vI v1, vI v2, vR x4, vI 4, vI q39, vI q47, vI q55, vI q63, vI 0, vI 0, vR x67, vI 3, .unset, .unset, .unset, .unset] (bq at_247) rfl 249 rfl <| jl w (bq at_249) rfl 251 rfl <| jc w 3 (bq at_251) rfl 252 rfl <| s_isub w (bq at_252) 253 rfl ?_
      rw [show ((4 - 3) : Int32) = 1 from by decide]
      refine js w #[vI p0, vI p1, vJ w0, .second, vI v1, vI v2, vR x4, vI 4, vI q39, vI q47, vI q55, vI q63, vI 0, vI 0, vR x67, vI 3, vI 1, .unset, .unset, .unset] (bq at_253) rfl 255 rfl ?_
      have w := w.mono (slots' := 156) (Nat.le_refl _) (by decide)
      exact H _ _ x67 k68 4 1 q39 q47 q55 q63 0 0 [q39.toInt8.toInt32, q47.toInt8.toInt32, q55.toInt8.toInt32, q63.toInt8.toInt32] w (show Arv Z h89 x67 k68 .byte (Int32.ofNat 4) (([q39.toInt8.toInt32, q47.toInt8.toInt32, q55.toInt8.toInt32, q63.toInt8.toInt32] : List Int32).map Value.int) (.int 0) from V91) (F29.ext E92) n8_4 rq39 rq47 rq55 rq63 by0 by0 (by decide) (by rw [bs_4 rq39 rq47 rq55 rq63]; rfl)
    · rw [hn]
      refine js w #[vI p0, vI p1, vJ w0, .second, vI v1, vI v2, vR x4, vI 5, .unset, .unset, .unset, .unset, .unset, .unset, .unset, .unset, .unset, .unset, .unset, .unset] (bq at_37) rfl 39 rfl <| jl w (bq at_39) rfl 41 rfl <| jb w 7 (bq at_41) rfl 43 rfl <| jx w (bq at_43) (by decide) 46 rfl 57 rfl (fun q => absurd q (by decide)) (fun _ => ?_)
      refine jl w (bq at_57) rfl 59 rfl <| s_if_le w (bq at_59) (by decide) 62 rfl 70 rfl (fun _ => ?_) (fun q => absurd q (by decide))
      refine s_lload_n w (bq at_62) rfl 63 rfl <| jc w 0 (bq at_63) rfl 64 rfl <| wS w hEL (cB50 hw) (Kw hw 243 rfl) (rm_ub G0 h26 w0 0) all0 all0 [.long w0, .int 0] [] rfl rfl rfl (bq at_64) hml rfl 0 rfl (by decide) 67 rfl fun u103 N104 T h105 w K106 P107 => ?_
      obtain ⟨rfl, q109, rfl, rfl, rq109⟩ := P107
      show Run _ _ _ _ _ (mkF _ _ _ [.int q109])
      refine jt w (bq at_67) (by decide) 71 rfl <| js w #[vI p0, vI p1, vJ w0, .second, vI v1, vI v2, vR x4, vI 5, vI q109, .unset, .unset, .unset, .unset, .unset, .unset, .unset, .unset, .unset, .unset, .unset] (bq at_71) rfl 73 rfl <| jl w (bq at_73) rfl 75 rfl <| jc w 1 (bq at_75) rfl 76 rfl <| je w (bq at_76) (by decide) 79 rfl 87 rfl (fun _ => ?_) (fun q => absurd q (by decide))
      refine s_lload_n w (bq at_79) rfl 80 rfl <| jc w 1 (bq at_80) rfl 81 rfl <| wS w hEL (cB50 hw) (Kw hw 243 rfl) (rm_ub G0 h26 w0 1) all0 all0 [.long w0, .int 1] [] rfl rfl rfl (bq at_81) hml rfl 0 rfl (by decide) 84 rfl fun u111 N112 T h113 w K114 P115 => ?_
      obtain ⟨rfl, q117, rfl, rfl, rq117⟩ := P115
      show Run _ _ _ _ _ (mkF _ _ _ [.int q117])
      refine jt w (bq at_84) (by decide) 88 rfl <| js w #[vI p0, vI p1, vJ w0, .second, vI v1, vI v2, vR x4, vI 5, vI q109, vI q117, .unset, .unset, .unset, .unset, .unset, .unset, .unset, .unset, .unset, .unset] (bq at_88) rfl 90 rfl <| jl w (bq at_90) rfl 92 rfl <| jc w 2 (bq at_92) rfl 93 rfl <| je w (bq at_93) (by decide) 96 rfl 104 rfl (fun _ => ?_) (fun q => absurd q (by decide))
      refine s_lload_n w (bq at_96) rfl 97 rfl <| jc w 2 (bq at_97) rfl 98 rfl <| wS w hEL (cB50 hw) (Kw hw 243 rfl) (rm_ub G0 h26 w0 2) all0 all0 [.long w0, .int 2] [] rfl rfl rfl (bq at_98) hml rfl 0 rfl (by decide) 101 rfl fun u119 N120 T h121 w K122 P123 => ?_
      obtain ⟨rfl, q125, rfl, rfl, rq125⟩ := P123
      show Run _ _ _ _ _ (mkF _ _ _ [.int q125])
      refine jt w (bq at_101) (by decide) 105 rfl <| js w #[vI p0, vI p1, vJ w0, .second, vI v1, vI v2, vR x4, vI 5, vI q109, vI q117, vI q125, .unset, .unset, .unset, .unset, .unset, .unset, .unset, .unset, .unset] (bq at_105) rfl 107 rfl <| jl w (bq at_107) rfl 109 rfl <| jc w 3 (bq at_109) rfl 110 rfl <| je w (bq at_110) (by decide) 113 rfl 121 rfl (fun _ => ?_) (fun q => absurd q (by decide))
      refine s_lload_n w (bq at_113) rfl 114 rfl <| jc w 3 (bq at_114) rfl 115 rfl <| wS w hEL (cB50 hw) (Kw hw 243 rfl) (rm_ub G0 h26 w0 3) all0 all0 [.long w0, .int 3] [] rfl rfl rfl (bq at_115) hml rfl 0 rfl (by decide) 118 rfl fun u127 N128 T h129 w K130 P131 => ?_
      obtain ⟨rfl, q133, rfl, rfl, rq133⟩ := P131
      show Run _ _ _ _ _ (mkF _ _ _ [.int q133])
      refine jt w (bq at_118) (by decide) 122 rfl <| js w #[vI p0, vI p1, vJ w0, .second, vI v1, vI v2, vR x4, vI 5, vI q109, vI q117, vI q125, vI q133, .unset, .unset, .unset, .unset, .unset, .unset, .unset, .unset] (bq at_122) rfl 124 rfl <| jl w (bq at_124) rfl 126 rfl <| jc w 4 (bq at_126) rfl 127 rfl <| je w (bq at_127) (by decide) 130 rfl 138 rfl (fun _ => ?_) (fun q => absurd q (by decide))
      refine s_lload_n w (bq at_130) rfl 131 rfl <| jc w 4 (bq at_131) rfl 132 rfl <| wS w hEL (cB50 hw) (Kw hw 243 rfl) (rm_ub G0 h26 w0 4) all0 all0 [.long w0, .int 4] [] rfl rfl rfl (bq at_132) hml rfl 0 rfl (by decide) 135 rfl fun u135 N136 T h137 w K138 P139 => ?_
      obtain ⟨rfl, q141, rfl, rfl, rq141⟩ := P139
      show Run _ _ _ _ _ (mkF _ _ _ [.int q141])
      refine jt w (bq at_135) (by decide) 139 rfl <| js w #[vI p0, vI p1, vJ w0, .second, vI v1, vI v2, vR x4, vI 5, vI q109, vI q117, vI q125, vI q133, vI q141, .unset, .unset, .unset, .unset, .unset, .unset, .unset] (bq at_139) rfl 141 rfl <| jl w (bq at_141) rfl 143 rfl <| jc w 5 (bq at_143) rfl 144 rfl <| je w (bq at_144) (by decide) 147 rfl 155 rfl (fun q => absurd q (by decide)) (fun _ => ?_)
      refine jc w 0 (bq at_155) rfl 156 rfl <| js w #[vI p0, vI p1, vJ w0, .second, vI v1, vI v2, vR x4, vI 5, vI q109, vI q117, vI q125, vI q133, vI q141, vI 0, .unset, .unset, .unset, .unset, .unset, .unset] (bq at_156) rfl 158 rfl <| jl w (bq at_158) rfl 160 rfl <| w_newP w (Kw hw 19 rfl) rfl rfl (bq at_160) (by decide) (n := 5) (by decide) (by decide) 162 rfl (by decide) (by decide) fun T h143 x144 k145 w E146 q147 r148 V149 => ?_
      refine s_astore w #[vI p0, vI p1, vJ w0, .second, vI v1, vI v2, vR x4, vI 5, vI q109, vI q117, vI q125, vI q133, vI q141, vI 0, vR x144, .unset, .unset, .unset, .unset, .unset] (bq at_162) rfl rfl 164 rfl <| jl w (bq at_164) rfl 166 rfl <| s_if_le w (bq at_166) (by decide) 169 rfl 176 rfl (fun _ => ?_) (fun q => absurd q (by decide))
      refine ja w (bq at_169) rfl rfl 171 rfl <| jc w 0 (bq at_171) rfl 172 rfl <| jl w (bq at_172) rfl 174 rfl <| s_i2b w (bq at_174) 175 rfl <| jB w V149 (i := 0) (by decide) rfl (by decide) (Nat.le_of_ble_eq_true rfl) (nar_byte _) (bq at_175) (Or.inr r148) (mi 0 rfl) 176 rfl fun T h151 w W152 V153 => ?_
      have E154 := Ext.wr' E146 W152 q147
      refine jl w (bq at_176) rfl 178 rfl <| jc w 1 (bq at_178) rfl 179 rfl <| je w (bq at_179) (by decide) 182 rfl 189 rfl (fun _ => ?_) (fun q => absurd q (by decide))
      refine ja w (bq at_182) rfl rfl 184 rfl <| jc w 1 (bq at_184) rfl 185 rfl <| jl w (bq at_185) rfl 187 rfl <| s_i2b w (bq at_187) 188 rfl <| jB w V153 (i := 1) (by decide) rfl (by decide) (Nat.le_of_ble_eq_true rfl) (nar_byte _) (bq at_188) (Or.inr r148) (mi 0 rfl) 189 rfl fun T h156 w W157 V158 => ?_
      have E159 := Ext.wr' E154 W157 q147
      refine jl w (bq at_189) rfl 191 rfl <| jc w 2 (bq at_191) rfl 192 rfl <| je w (bq at_192) (by decide) 195 rfl 202 rfl (fun _ => ?_) (fun q => absurd q (by decide))
      refine ja w (bq at_195) rfl rfl 197 rfl <| jc w 2 (bq at_197) rfl 198 rfl <| jl w (bq at_198) rfl 200 rfl <| s_i2b w (bq at_200) 201 rfl <| jB w V158 (i := 2) (by decide) rfl (by decide) (Nat.le_of_ble_eq_true rfl) (nar_byte _) (bq at_201) (Or.inr r148) (mi 0 rfl) 202 rfl fun T h161 w W162 V163 => ?_
      have E164 := Ext.wr' E159 W162 q147
      refine jl w (bq at_202) rfl 204 rfl <| jc w 3 (bq at_204) rfl 205 rfl <| je w (bq at_205) (by decide) 208 rfl 215 rfl (fun _ => ?_) (fun q => absurd q (by decide))
      refine ja w (bq at_208) rfl rfl 210 rfl <| jc w 3 (bq at_210) rfl 211 rfl <| jl w (bq at_211) rfl 213 rfl <| s_i2b w (bq at_213) 214 rfl <| jB w V163 (i := 3) (by decide) rfl (by decide) (Nat.le_of_ble_eq_true rfl) (nar_byte _) (bq at_214) (Or.inr r148) (mi 0 rfl) 215 rfl fun T h166 w W167 V168 => ?_
      have E169 := Ext.wr' E164 W167 q147
      refine jl w (bq at_215) rfl 217 rfl <| jc w 4 (bq at_217) rfl 218 rfl <| je w (bq at_218) (by decide) 221 rfl 228 rfl (fun _ => ?_) (fun q => absurd q (by decide))
      refine ja w (bq at_221) rfl rfl 223 rfl <| jc w 4 (bq at_223) rfl 224 rfl <| jl w (bq at_224) rfl 226 rfl <| s_i2b w (bq at_226) 227 rfl <| jB w V168 (i := 4) (by decide) rfl (by decide) (Nat.le_of_ble_eq_true rfl) (nar_byte _) (bq at_227) (Or.inr r148) (mi 0 rfl) 228 rfl fun T h171 w W172 V173 => ?_
      have E174 := Ext.wr' E169 W172 q147
      refine jl w (bq at_228) rfl 230 rfl <| jc w 5 (bq at_230) rfl 231 rfl <| je w (bq at_231) (by decide) 234 rfl 241 rfl (fun q => absurd q (by decide)) (fun _ => ?_)
      refine jl w (bq at_241) rfl 243 rfl <| jc w 3 (bq at_243) rfl 244 rfl <| wS w hEL (cB19 hw) (Kw hw 30 rfl) (rm_min G0 h171 5 3) all0 all0 [.int 5, .int 3] [] rfl rfl rfl (bq at_244) hml rfl 0 rfl (by decide) 247 rfl fun u176 N177 T h178 w K179 P180 => ?_
      obtain ⟨rfl, rfl, rfl⟩ := P180
      rw [show (if (3 : Int32) < 5 then (3 : Int32) else 5) = 3 from by decide]
      show Run _ _ _ _ _ (mkF _ _ _ [.int 3])
      refine js w #[vI p0, vI p1, vJ w0, .second, vI v1, vI v2, vR x4, vI 5, vI q109, vI q117, vI q125, vI q133, vI q141, vI 0, vR x144, vI 3, .unset, .unset, .unset, .unset] (bq at_247) rfl 249 rfl <| jl w (bq at_249) rfl 251 rfl <| jc w 3 (bq at_251) rfl 252 rfl <| s_isub w (bq at_252) 253 rfl ?_
      rw [show ((5 - 3) : Int32) = 2 from by decide]
      refine js w #[vI p0, vI p1, vJ w0, .second, vI v1, vI v2, vR x4, vI 5, vI q109, vI q117, vI q125, vI q133, vI q141, vI 0, vR x144, vI 3, vI 2, .unset, .unset, .unset] (bq at_253) rfl 255 rfl ?_
      have w := w.mono (slots' := 156) (Nat.le_refl _) (by decide)
      exact H _ _ x144 k145 5 2 q109 q117 q125 q133 q141 0 [q109.toInt8.toInt32, q117.toInt8.toInt32, q125.toInt8.toInt32, q133.toInt8.toInt32, q141.toInt8.toInt32] w (show Arv Z h171 x144 k145 .byte (Int32.ofNat 5) (([q109.toInt8.toInt32, q117.toInt8.toInt32, q125.toInt8.toInt32, q133.toInt8.toInt32, q141.toInt8.toInt32] : List Int32).map Value.int) (.int 0) from V173) (F29.ext E174) n8_5 rq109 rq117 rq125 rq133 rq141 by0 (by decide) (by rw [bs_5 rq109 rq117 rq125 rq133 rq141]; rfl)
    · rw [hn]
      refine js w #[vI p0, vI p1, vJ w0, .second, vI v1, vI v2, vR x4, vI 6, .unset, .unset, .unset, .unset, .unset, .unset, .unset, .unset, .unset, .unset, .unset, .unset] (bq at_37) rfl 39 rfl <| jl w (bq at_39) rfl 41 rfl <| jb w 7 (bq at_41) rfl 43 rfl <| jx w (bq at_43) (by decide) 46 rfl 57 rfl (fun q => absurd q (by decide)) (fun _ => ?_)
      refine jl w (bq at_57) rfl 59 rfl <| s_if_le w (bq at_59) (by decide) 62 rfl 70 rfl (fun _ => ?_) (fun q => absurd q (by decide))
      refine s_lload_n w (bq at_62) rfl 63 rfl <| jc w 0 (bq at_63) rfl 64 rfl <| wS w hEL (cB50 hw) (Kw hw 243 rfl) (rm_ub G0 h26 w0 0) all0 all0 [.long w0, .int 0] [] rfl rfl rfl (bq at_64) hml rfl 0 rfl (by decide) 67 rfl fun u184 N185 T h186 w K187 P188 => ?_
      obtain ⟨rfl, q190, rfl, rfl, rq190⟩ := P188
      show Run _ _ _ _ _ (mkF _ _ _ [.int q190])
      refine jt w (bq at_67) (by decide) 71 rfl <| js w #[vI p0, vI p1, vJ w0, .second, vI v1, vI v2, vR x4, vI 6, vI q190, .unset, .unset, .unset, .unset, .unset, .unset, .unset, .unset, .unset, .unset, .unset] (bq at_71) rfl 73 rfl <| jl w (bq at_73) rfl 75 rfl <| jc w 1 (bq at_75) rfl 76 rfl <| je w (bq at_76) (by decide) 79 rfl 87 rfl (fun _ => ?_) (fun q => absurd q (by decide))
      refine s_lload_n w (bq at_79) rfl 80 rfl <| jc w 1 (bq at_80) rfl 81 rfl <| wS w hEL (cB50 hw) (Kw hw 243 rfl) (rm_ub G0 h26 w0 1) all0 all0 [.long w0, .int 1] [] rfl rfl rfl (bq at_81) hml rfl 0 rfl (by decide) 84 rfl fun u192 N193 T h194 w K195 P196 => ?_
      obtain ⟨rfl, q198, rfl, rfl, rq198⟩ := P196
      show Run _ _ _ _ _ (mkF _ _ _ [.int q198])
      refine jt w (bq at_84) (by decide) 88 rfl <| js w #[vI p0, vI p1, vJ w0, .second, vI v1, vI v2, vR x4, vI 6, vI q190, vI q198, .unset, .unset, .unset, .unset, .unset, .unset, .unset, .unset, .unset, .unset] (bq at_88) rfl 90 rfl <| jl w (bq at_90) rfl 92 rfl <| jc w 2 (bq at_92) rfl 93 rfl <| je w (bq at_93) (by decide) 96 rfl 104 rfl (fun _ => ?_) (fun q => absurd q (by decide))
      refine s_lload_n w (bq at_96) rfl 97 rfl <| jc w 2 (bq at_97) rfl 98 rfl <| wS w hEL (cB50 hw) (Kw hw 243 rfl) (rm_ub G0 h26 w0 2) all0 all0 [.long w0, .int 2] [] rfl rfl rfl (bq at_98) hml rfl 0 rfl (by decide) 101 rfl fun u200 N201 T h202 w K203 P204 => ?_
      obtain ⟨rfl, q206, rfl, rfl, rq206⟩ := P204
      show Run _ _ _ _ _ (mkF _ _ _ [.int q206])
      refine jt w (bq at_101) (by decide) 105 rfl <| js w #[vI p0, vI p1, vJ w0, .second, vI v1, vI v2, vR x4, vI 6, vI q190, vI q198, vI q206, .unset, .unset, .unset, .unset, .unset, .unset, .unset, .unset, .unset] (bq at_105) rfl 107 rfl <| jl w (bq at_107) rfl 109 rfl <| jc w 3 (bq at_109) rfl 110 rfl <| je w (bq at_110) (by decide) 113 rfl 121 rfl (fun _ => ?_) (fun q => absurd q (by decide))
      refine s_lload_n w (bq at_113) rfl 114 rfl <| jc w 3 (bq at_114) rfl 115 rfl <| wS w hEL (cB50 hw) (Kw hw 243 rfl) (rm_ub G0 h26 w0 3) all0 all0 [.long w0, .int 3] [] rfl rfl rfl (bq at_115) hml rfl 0 rfl (by decide) 118 rfl fun u208 N209 T h210 w K211 P212 => ?_
      obtain ⟨rfl, q214, rfl, rfl, rq214⟩ := P212
      show Run _ _ _ _ _ (mkF _ _ _ [.int q214])
      refine jt w (bq at_118) (by decide) 122 rfl <| js w #[vI p0, vI p1, vJ w0, .second, vI v1, vI v2, vR x4, vI 6, vI q190, vI q198, vI q206, vI q214, .unset, .unset, .unset, .unset, .unset, .unset, .unset, .unset] (bq at_122) rfl 124 rfl <| jl w (bq at_124) rfl 126 rfl <| jc w 4 (bq at_126) rfl 127 rfl <| je w (bq at_127) (by decide) 130 rfl 138 rfl (fun _ => ?_) (fun q => absurd q (by decide))
      refine s_lload_n w (bq at_130) rfl 131 rfl <| jc w 4 (bq at_131) rfl 132 rfl <| wS w hEL (cB50 hw) (Kw hw 243 rfl) (rm_ub G0 h26 w0 4) all0 all0 [.long w0, .int 4] [] rfl rfl rfl (bq at_132) hml rfl 0 rfl (by decide) 135 rfl fun u216 N217 T h218 w K219 P220 => ?_
      obtain ⟨rfl, q222, rfl, rfl, rq222⟩ := P220
      show Run _ _ _ _ _ (mkF _ _ _ [.int q222])
      refine jt w (bq at_135) (by decide) 139 rfl <| js w #[vI p0, vI p1, vJ w0, .second, vI v1, vI v2, vR x4, vI 6, vI q190, vI q198, vI q206, vI q214, vI q222, .unset, .unset, .unset, .unset, .unset, .unset, .unset] (bq at_139) rfl 141 rfl <| jl w (bq at_141) rfl 143 rfl <| jc w 5 (bq at_143) rfl 144 rfl <| je w (bq at_144) (by decide) 147 rfl 155 rfl (fun _ => ?_) (fun q => absurd q (by decide))
      refine s_lload_n w (bq at_147) rfl 148 rfl <| jc w 5 (bq at_148) rfl 149 rfl <| wS w hEL (cB50 hw) (Kw hw 243 rfl) (rm_ub G0 h26 w0 5) all0 all0 [.long w0, .int 5] [] rfl rfl rfl (bq at_149) hml rfl 0 rfl (by decide) 152 rfl fun u224 N225 T h226 w K227 P228 => ?_
      obtain ⟨rfl, q230, rfl, rfl, rq230⟩ := P228
      show Run _ _ _ _ _ (mkF _ _ _ [.int q230])
      refine jt w (bq at_152) (by decide) 156 rfl <| js w #[vI p0, vI p1, vJ w0, .second, vI v1, vI v2, vR x4, vI 6, vI q190, vI q198, vI q206, vI q214, vI q222, vI q230, .unset, .unset, .unset, .unset, .unset, .unset] (bq at_156) rfl 158 rfl <| jl w (bq at_158) rfl 160 rfl <| w_newP w (Kw hw 19 rfl) rfl rfl (bq at_160) (by decide) (n := 6) (by decide) (by decide) 162 rfl (by decide) (by decide) fun T h231 x232 k233 w E234 q235 r236 V237 => ?_
      refine s_astore w #[vI p0, vI p1, vJ w0, .second, vI v1, vI v2, vR x4, vI 6, vI q190, vI q198, vI q206, vI q214, vI q222, vI q230, vR x232, .unset, .unset, .unset, .unset, .unset] (bq at_162) rfl rfl 164 rfl <| jl w (bq at_164) rfl 166 rfl <| s_if_le w (bq at_166) (by decide) 169 rfl 176 rfl (fun _ => ?_) (fun q => absurd q (by decide))
      refine ja w (bq at_169) rfl rfl 171 rfl <| jc w 0 (bq at_171) rfl 172 rfl <| jl w (bq at_172) rfl 174 rfl <| s_i2b w (bq at_174) 175 rfl <| jB w V237 (i := 0) (by decide) rfl (by decide) (Nat.le_of_ble_eq_true rfl) (nar_byte _) (bq at_175) (Or.inr r236) (mi 0 rfl) 176 rfl fun T h239 w W240 V241 => ?_
      have E242 := Ext.wr' E234 W240 q235
      refine jl w (bq at_176) rfl 178 rfl <| jc w 1 (bq at_178) rfl 179 rfl <| je w (bq at_179) (by decide) 182 rfl 189 rfl (fun _ => ?_) (fun q => absurd q (by decide))
      refine ja w (bq at_182) rfl rfl 184 rfl <| jc w 1 (bq at_184) rfl 185 rfl <| jl w (bq at_185) rfl 187 rfl <| s_i2b w (bq at_187) 188 rfl <| jB w V241 (i := 1) (by decide) rfl (by decide) (Nat.le_of_ble_eq_true rfl) (nar_byte _) (bq at_188) (Or.inr r236) (mi 0 rfl) 189 rfl fun T h244 w W245 V246 => ?_
      have E247 := Ext.wr' E242 W245 q235
      refine jl w (bq at_189) rfl 191 rfl <| jc w 2 (bq at_191) rfl 192 rfl <| je w (bq at_192) (by decide) 195 rfl 202 rfl (fun _ => ?_) (fun q => absurd q (by decide))
      refine ja w (bq at_195) rfl rfl 197 rfl <| jc w 2 (bq at_197) rfl 198 rfl <| jl w (bq at_198) rfl 200 rfl <| s_i2b w (bq at_200) 201 rfl <| jB w V246 (i := 2) (by decide) rfl (by decide) (Nat.le_of_ble_eq_true rfl) (nar_byte _) (bq at_201) (Or.inr r236) (mi 0 rfl) 202 rfl fun T h249 w W250 V251 => ?_
      have E252 := Ext.wr' E247 W250 q235
      refine jl w (bq at_202) rfl 204 rfl <| jc w 3 (bq at_204) rfl 205 rfl <| je w (bq at_205) (by decide) 208 rfl 215 rfl (fun _ => ?_) (fun q => absurd q (by decide))
      refine ja w (bq at_208) rfl rfl 210 rfl <| jc w 3 (bq at_210) rfl 211 rfl <| jl w (bq at_211) rfl 213 rfl <| s_i2b w (bq at_213) 214 rfl <| jB w V251 (i := 3) (by decide) rfl (by decide) (Nat.le_of_ble_eq_true rfl) (nar_byte _) (bq at_214) (Or.inr r236) (mi 0 rfl) 215 rfl fun T h254 w W255 V256 => ?_
      have E257 := Ext.wr' E252 W255 q235
      refine jl w (bq at_215) rfl 217 rfl <| jc w 4 (bq at_217) rfl 218 rfl <| je w (bq at_218) (by decide) 221 rfl 228 rfl (fun _ => ?_) (fun q => absurd q (by decide))
      refine ja w (bq at_221) rfl rfl 223 rfl <| jc w 4 (bq at_223) rfl 224 rfl <| jl w (bq at_224) rfl 226 rfl <| s_i2b w (bq at_226) 227 rfl <| jB w V256 (i := 4) (by decide) rfl (by decide) (Nat.le_of_ble_eq_true rfl) (nar_byte _) (bq at_227) (Or.inr r236) (mi 0 rfl) 228 rfl fun T h259 w W260 V261 => ?_
      have E262 := Ext.wr' E257 W260 q235
      refine jl w (bq at_228) rfl 230 rfl <| jc w 5 (bq at_230) rfl 231 rfl <| je w (bq at_231) (by decide) 234 rfl 241 rfl (fun _ => ?_) (fun q => absurd q (by decide))
      refine ja w (bq at_234) rfl rfl 236 rfl <| jc w 5 (bq at_236) rfl 237 rfl <| jl w (bq at_237) rfl 239 rfl <| s_i2b w (bq at_239) 240 rfl <| jB w V261 (i := 5) (by decide) rfl (by decide) (Nat.le_of_ble_eq_true rfl) (nar_byte _) (bq at_240) (Or.inr r236) (mi 0 rfl) 241 rfl fun T h264 w W265 V266 => ?_
      have E267 := Ext.wr' E262 W265 q235
      refine jl w (bq at_241) rfl 243 rfl <| jc w 3 (bq at_243) rfl 244 rfl <| wS w hEL (cB19 hw) (Kw hw 30 rfl) (rm_min G0 h264 6 3) all0 all0 [.int 6, .int 3] [] rfl rfl rfl (bq at_244) hml rfl 0 rfl (by decide) 247 rfl fun u268 N269 T h270 w K271 P272 => ?_
      obtain ⟨rfl, rfl, rfl⟩ := P272
      rw [show (if (3 : Int32) < 6 then (3 : Int32) else 6) = 3 from by decide]
      show Run _ _ _ _ _ (mkF _ _ _ [.int 3])
      refine js w #[vI p0, vI p1, vJ w0, .second, vI v1, vI v2, vR x4, vI 6, vI q190, vI q198, vI q206, vI q214, vI q222, vI q230, vR x232, vI 3, .unset, .unset, .unset, .unset] (bq at_247) rfl 249 rfl <| jl w (bq at_249) rfl 251 rfl <| jc w 3 (bq at_251) rfl 252 rfl <| s_isub w (bq at_252) 253 rfl ?_
      rw [show ((6 - 3) : Int32) = 3 from by decide]
      refine js w #[vI p0, vI p1, vJ w0, .second, vI v1, vI v2, vR x4, vI 6, vI q190, vI q198, vI q206, vI q214, vI q222, vI q230, vR x232, vI 3, vI 3, .unset, .unset, .unset] (bq at_253) rfl 255 rfl ?_
      have w := w.mono (slots' := 156) (Nat.le_refl _) (by decide)
      exact H _ _ x232 k233 6 3 q190 q198 q206 q214 q222 q230 [q190.toInt8.toInt32, q198.toInt8.toInt32, q206.toInt8.toInt32, q214.toInt8.toInt32, q222.toInt8.toInt32, q230.toInt8.toInt32] w (show Arv Z h264 x232 k233 .byte (Int32.ofNat 6) (([q190.toInt8.toInt32, q198.toInt8.toInt32, q206.toInt8.toInt32, q214.toInt8.toInt32, q222.toInt8.toInt32, q230.toInt8.toInt32] : List Int32).map Value.int) (.int 0) from V266) (F29.ext E267) n8_6 rq190 rq198 rq206 rq214 rq222 rq230 (by decide) (by rw [bs_6 rq190 rq198 rq206 rq214 rq222 rq230]; rfl)
  intro T g d kd n0 k2 q0_ q1_ q2_ q3_ q4_ q5_ bs w Ad Sl hn8 rq0_ rq1_ rq2_ rq3_ rq4_ rq5_ hn0 hbs
  have hZ0 := w.old
  refine jl w (bq at_255) rfl 257 rfl <| s_if_ne w (bq at_257) (by decide) 260 rfl 485 rfl (fun ct274 => ?_) (fun ct274 => ?_)
  · exact absurd ct274 (by rcases hn0 with rfl | rfl | rfl <;> decide)
  refine jl w (bq at_485) rfl 487 rfl <| jc w 3 (bq at_487) rfl 488 rfl <| s_icmp_gt w (bq at_488) (by decide) 491 rfl 780 rfl (fun ct275 => ?_) (fun ct275 => ?_)
  · exact absurd (by rcases hn0 with rfl | rfl | rfl <;> decide) ct275
  refine jb w 45 (bq at_780) rfl 782 rfl <| w_newP w (Kw hw 3 rfl) rfl rfl (bq at_782) (by decide) (n := 45) (by decide) (by decide) 784 rfl (by decide) (by decide) fun T h276 x277 k278 w E279 q280 r281 V282 => ?_
  have x277_c := CA.new (n := 45) V282 (by decide)
  refine jd w (bq at_784) rfl 785 rfl <| jc w 0 (bq at_785) rfl 786 rfl <| jb w 45 (bq at_786) rfl 788 rfl <| w_csC w x277_c [45] rfl rfl (by decide) (show nar .char (45 : Int32) = 45 by decide) (bq at_788) (Or.inr r281) E279 q280 789 rfl 1 rfl fun T h283 w E284 A285 => ?_
  refine jd w (bq at_789) rfl 790 rfl <| jc w 1 (bq at_790) rfl 791 rfl <| jb w 45 (bq at_791) rfl 793 rfl <| w_csC w A285 [45, 45] rfl rfl (by decide) (show nar .char (45 : Int32) = 45 by decide) (bq at_793) (Or.inr r281) E284 q280 794 rfl 2 rfl fun T h286 w E287 A288 => ?_
  refine jd w (bq at_794) rfl 795 rfl <| jc w 2 (bq at_795) rfl 796 rfl <| jb w 45 (bq at_796) rfl 798 rfl <| w_csC w A288 [45, 45, 45] rfl rfl (by decide) (show nar .char (45 : Int32) = 45 by decide) (bq at_798) (Or.inr r281) E287 q280 799 rfl 3 rfl fun T h289 w E290 A291 => ?_
  refine jd w (bq at_799) rfl 800 rfl <| jc w 3 (bq at_800) rfl 801 rfl <| jb w 45 (bq at_801) rfl 803 rfl <| w_csC w A291 [45, 45, 45, 45] rfl rfl (by decide) (show nar .char (45 : Int32) = 45 by decide) (bq at_803) (Or.inr r281) E290 q280 804 rfl 4 rfl fun T h292 w E293 A294 => ?_
  refine jd w (bq at_804) rfl 805 rfl <| jc w 4 (bq at_805) rfl 806 rfl <| jb w 45 (bq at_806) rfl 808 rfl <| w_csC w A294 [45, 45, 45, 45, 45] rfl rfl (by decide) (show nar .char (45 : Int32) = 45 by decide) (bq at_808) (Or.inr r281) E293 q280 809 rfl 5 rfl fun T h295 w E296 A297 => ?_
  refine jd w (bq at_809) rfl 810 rfl <| jc w 5 (bq at_810) rfl 811 rfl <| jb w 66 (bq at_811) rfl 813 rfl <| w_csC w A297 [45, 45, 45, 45, 45, 66] rfl rfl (by decide) (show nar .char (66 : Int32) = 66 by decide) (bq at_813) (Or.inr r281) E296 q280 814 rfl 6 rfl fun T h298 w E299 A300 => ?_
  refine jd w (bq at_814) rfl 815 rfl <| jb w 6 (bq at_815) rfl 817 rfl <| jb w 69 (bq at_817) rfl 819 rfl <| w_csC w A300 [45, 45, 45, 45, 45, 66, 69] rfl rfl (by decide) (show nar .char (69 : Int32) = 69 by decide) (bq at_819) (Or.inr r281) E299 q280 820 rfl 7 rfl fun T h301 w E302 A303 => ?_
  refine jd w (bq at_820) rfl 821 rfl <| jb w 7 (bq at_821) rfl 823 rfl <| jb w 71 (bq at_823) rfl 825 rfl <| w_csC w A303 [45, 45, 45, 45, 45, 66, 69, 71] rfl rfl (by decide) (show nar .char (71 : Int32) = 71 by decide) (bq at_825) (Or.inr r281) E302 q280 826 rfl 8 rfl fun T h304 w E305 A306 => ?_
  refine jd w (bq at_826) rfl 827 rfl <| jb w 8 (bq at_827) rfl 829 rfl <| jb w 73 (bq at_829) rfl 831 rfl <| w_csC w A306 [45, 45, 45, 45, 45, 66, 69, 71, 73] rfl rfl (by decide) (show nar .char (73 : Int32) = 73 by decide) (bq at_831) (Or.inr r281) E305 q280 832 rfl 9 rfl fun T h307 w E308 A309 => ?_
  refine jd w (bq at_832) rfl 833 rfl <| jb w 9 (bq at_833) rfl 835 rfl <| jb w 78 (bq at_835) rfl 837 rfl <| w_csC w A309 [45, 45, 45, 45, 45, 66, 69, 71, 73, 78] rfl rfl (by decide) (show nar .char (78 : Int32) = 78 by decide) (bq at_837) (Or.inr r281) E308 q280 838 rfl 10 rfl fun T h310 w E311 A312 => ?_
  refine jd w (bq at_838) rfl 839 rfl <| jb w 10 (bq at_839) rfl 841 rfl <| jb w 32 (bq at_841) rfl 843 rfl <| w_csC w A312 [45, 45, 45, 45, 45, 66, 69, 71, 73, 78, 32] rfl rfl (by decide) (show nar .char (32 : Int32) = 32 by decide) (bq at_843) (Or.inr r281) E311 q280 844 rfl 11 rfl fun T h313 w E314 A315 => ?_
  refine jd w (bq at_844) rfl 845 rfl <| jb w 11 (bq at_845) rfl 847 rfl <| jl w (bq at_847) rfl 849 rfl <| w_csC w A315 [45, 45, 45, 45, 45, 66, 69, 71, 73, 78, 32, v1] rfl rfl (by decide) lv1.nar (bq at_849) (Or.inr r281) E314 q280 850 rfl 12 rfl fun T h316 w E317 A318 => ?_
  refine jd w (bq at_850) rfl 851 rfl <| jb w 12 (bq at_851) rfl 853 rfl <| jl w (bq at_853) rfl 855 rfl <| w_csC w A318 [45, 45, 45, 45, 45, 66, 69, 71, 73, 78, 32, v1, v2] rfl rfl (by decide) lv2.nar (bq at_855) (Or.inr r281) E317 q280 856 rfl 13 rfl fun T h319 w E320 A321 => ?_
  refine jd w (bq at_856) rfl 857 rfl <| jb w 13 (bq at_857) rfl 859 rfl <| jb w 45 (bq at_859) rfl 861 rfl <| w_csC w A321 [45, 45, 45, 45, 45, 66, 69, 71, 73, 78, 32, v1, v2, 45] rfl rfl (by decide) (show nar .char (45 : Int32) = 45 by decide) (bq at_861) (Or.inr r281) E320 q280 862 rfl 14 rfl fun T h322 w E323 A324 => ?_
  refine jd w (bq at_862) rfl 863 rfl <| jb w 14 (bq at_863) rfl 865 rfl <| jb w 45 (bq at_865) rfl 867 rfl <| w_csC w A324 [45, 45, 45, 45, 45, 66, 69, 71, 73, 78, 32, v1, v2, 45, 45] rfl rfl (by decide) (show nar .char (45 : Int32) = 45 by decide) (bq at_867) (Or.inr r281) E323 q280 868 rfl 15 rfl fun T h325 w E326 A327 => ?_
  refine jd w (bq at_868) rfl 869 rfl <| jb w 15 (bq at_869) rfl 871 rfl <| jb w 45 (bq at_871) rfl 873 rfl <| w_csC w A327 [45, 45, 45, 45, 45, 66, 69, 71, 73, 78, 32, v1, v2, 45, 45, 45] rfl rfl (by decide) (show nar .char (45 : Int32) = 45 by decide) (bq at_873) (Or.inr r281) E326 q280 874 rfl 16 rfl fun T h328 w E329 A330 => ?_
  refine jd w (bq at_874) rfl 875 rfl <| jb w 16 (bq at_875) rfl 877 rfl <| jb w 45 (bq at_877) rfl 879 rfl <| w_csC w A330 [45, 45, 45, 45, 45, 66, 69, 71, 73, 78, 32, v1, v2, 45, 45, 45, 45] rfl rfl (by decide) (show nar .char (45 : Int32) = 45 by decide) (bq at_879) (Or.inr r281) E329 q280 880 rfl 17 rfl fun T h331 w E332 A333 => ?_
  refine jd w (bq at_880) rfl 881 rfl <| jb w 17 (bq at_881) rfl 883 rfl <| jb w 45 (bq at_883) rfl 885 rfl <| w_csC w A333 [45, 45, 45, 45, 45, 66, 69, 71, 73, 78, 32, v1, v2, 45, 45, 45, 45, 45] rfl rfl (by decide) (show nar .char (45 : Int32) = 45 by decide) (bq at_885) (Or.inr r281) E332 q280 886 rfl 18 rfl fun T h334 w E335 A336 => ?_
  refine jd w (bq at_886) rfl 887 rfl <| jb w 18 (bq at_887) rfl 889 rfl <| jb w 10 (bq at_889) rfl 891 rfl <| w_csC w A336 [45, 45, 45, 45, 45, 66, 69, 71, 73, 78, 32, v1, v2, 45, 45, 45, 45, 45, 10] rfl rfl (by decide) (show nar .char (10 : Int32) = 10 by decide) (bq at_891) (Or.inr r281) E335 q280 892 rfl 19 rfl fun T h337 w E338 A339 => ?_
  refine jd w (bq at_892) rfl 893 rfl <| jb w 19 (bq at_893) rfl 895 rfl <| jl w (bq at_895) rfl 897 rfl <| jl w (bq at_897) rfl 899 rfl <| jl w (bq at_899) rfl 901 rfl <| jc w 3 (bq at_901) rfl 902 rfl ?_
  refine jc w 0 (bq at_902) rfl 903 rfl <| wS w hEL (cB53 hw) (Kw hw 248 rfl) (rm_grp0 G0 h337 q0_ q1_ q2_ 3 rq0_ rq1_ rq2_) all0 all0 [.int q0_, .int q1_, .int q2_, .int 3, .int 0] [.int 19, .ref x277, .ref x277] rfl rfl rfl (bq at_903) hml rfl 3 rfl (by decide) 906 rfl fun u340 N341 T h342 w K343 P344 => ?_
  obtain ⟨rfl, rfl, rfl⟩ := P344
  show Run _ _ _ _ _ (mkF _ _ _ [.int (g0 q0_), .int 19, .ref x277, .ref x277])
  refine w_csC w A339 [45, 45, 45, 45, 45, 66, 69, 71, 73, 78, 32, v1, v2, 45, 45, 45, 45, 45, 10, (g0 q0_)] rfl rfl (by decide) (tbl_lat _).nar (bq at_906) (Or.inr r281) E338 q280 907 rfl 20 rfl fun T h346 w E347 A348 => ?_
  refine jd w (bq at_907) rfl 908 rfl <| jb w 20 (bq at_908) rfl 910 rfl <| jl w (bq at_910) rfl 912 rfl <| jl w (bq at_912) rfl 914 rfl <| jl w (bq at_914) rfl 916 rfl <| jc w 3 (bq at_916) rfl 917 rfl ?_
  refine jc w 1 (bq at_917) rfl 918 rfl <| wS w hEL (cB53 hw) (Kw hw 248 rfl) (rm_grp1 G0 h346 q0_ q1_ q2_ 3 rq0_ rq1_ rq2_) all0 all0 [.int q0_, .int q1_, .int q2_, .int 3, .int 1] [.int 20, .ref x277, .ref x277] rfl rfl rfl (bq at_918) hml rfl 3 rfl (by decide) 921 rfl fun u349 N350 T h351 w K352 P353 => ?_
  obtain ⟨rfl, rfl, rfl⟩ := P353
  show Run _ _ _ _ _ (mkF _ _ _ [.int (g1 q0_ q1_), .int 20, .ref x277, .ref x277])
  refine w_csC w A348 [45, 45, 45, 45, 45, 66, 69, 71, 73, 78, 32, v1, v2, 45, 45, 45, 45, 45, 10, (g0 q0_), (g1 q0_ q1_)] rfl rfl (by decide) (tbl_lat _).nar (bq at_921) (Or.inr r281) E347 q280 922 rfl 21 rfl fun T h355 w E356 A357 => ?_
  refine jd w (bq at_922) rfl 923 rfl <| jb w 21 (bq at_923) rfl 925 rfl <| jl w (bq at_925) rfl 927 rfl <| jl w (bq at_927) rfl 929 rfl <| jl w (bq at_929) rfl 931 rfl <| jc w 3 (bq at_931) rfl 932 rfl ?_
  refine jc w 2 (bq at_932) rfl 933 rfl <| wS w hEL (cB53 hw) (Kw hw 248 rfl) (rm_grp2 G0 h355 q0_ q1_ q2_ 3 rq0_ rq1_ rq2_) all0 all0 [.int q0_, .int q1_, .int q2_, .int 3, .int 2] [.int 21, .ref x277, .ref x277] rfl rfl rfl (bq at_933) hml rfl 3 rfl (by decide) 936 rfl fun u358 N359 T h360 w K361 P362 => ?_
  obtain ⟨rfl, rfl, rfl⟩ := P362
  show Run _ _ _ _ _ (mkF _ _ _ [.int (G2 3 q1_ q2_), .int 21, .ref x277, .ref x277])
  refine w_csC w A357 [45, 45, 45, 45, 45, 66, 69, 71, 73, 78, 32, v1, v2, 45, 45, 45, 45, 45, 10, (g0 q0_), (g1 q0_ q1_), (G2 3 q1_ q2_)] rfl rfl (by decide) (G2_lat _ _ _).nar (bq at_936) (Or.inr r281) E356 q280 937 rfl 22 rfl fun T h364 w E365 A366 => ?_
  refine jd w (bq at_937) rfl 938 rfl <| jb w 22 (bq at_938) rfl 940 rfl <| jl w (bq at_940) rfl 942 rfl <| jl w (bq at_942) rfl 944 rfl <| jl w (bq at_944) rfl 946 rfl <| jc w 3 (bq at_946) rfl 947 rfl ?_
  refine jc w 3 (bq at_947) rfl 948 rfl <| wS w hEL (cB53 hw) (Kw hw 248 rfl) (rm_grp3 G0 h364 q0_ q1_ q2_ 3 rq0_ rq1_ rq2_) all0 all0 [.int q0_, .int q1_, .int q2_, .int 3, .int 3] [.int 22, .ref x277, .ref x277] rfl rfl rfl (bq at_948) hml rfl 3 rfl (by decide) 951 rfl fun u367 N368 T h369 w K370 P371 => ?_
  obtain ⟨rfl, rfl, rfl⟩ := P371
  show Run _ _ _ _ _ (mkF _ _ _ [.int (G3 3 q2_), .int 22, .ref x277, .ref x277])
  refine w_csC w A366 [45, 45, 45, 45, 45, 66, 69, 71, 73, 78, 32, v1, v2, 45, 45, 45, 45, 45, 10, (g0 q0_), (g1 q0_ q1_), (G2 3 q1_ q2_), (G3 3 q2_)] rfl rfl (by decide) (G3_lat _ _).nar (bq at_951) (Or.inr r281) E365 q280 952 rfl 23 rfl fun T h373 w E374 A375 => ?_
  refine jd w (bq at_952) rfl 953 rfl <| jb w 23 (bq at_953) rfl 955 rfl <| jl w (bq at_955) rfl 957 rfl <| jl w (bq at_957) rfl 959 rfl <| jl w (bq at_959) rfl 961 rfl <| jl w (bq at_961) rfl 963 rfl ?_
  refine jc w 0 (bq at_963) rfl 964 rfl <| wS w hEL (cB53 hw) (Kw hw 248 rfl) (rm_grp0 G0 h373 q3_ q4_ q5_ k2 rq3_ rq4_ rq5_) all0 all0 [.int q3_, .int q4_, .int q5_, .int k2, .int 0] [.int 23, .ref x277, .ref x277] rfl rfl rfl (bq at_964) hml rfl 3 rfl (by decide) 967 rfl fun u376 N377 T h378 w K379 P380 => ?_
  obtain ⟨rfl, rfl, rfl⟩ := P380
  show Run _ _ _ _ _ (mkF _ _ _ [.int (g0 q3_), .int 23, .ref x277, .ref x277])
  refine w_csC w A375 [45, 45, 45, 45, 45, 66, 69, 71, 73, 78, 32, v1, v2, 45, 45, 45, 45, 45, 10, (g0 q0_), (g1 q0_ q1_), (G2 3 q1_ q2_), (G3 3 q2_), (g0 q3_)] rfl rfl (by decide) (tbl_lat _).nar (bq at_967) (Or.inr r281) E374 q280 968 rfl 24 rfl fun T h382 w E383 A384 => ?_
  refine jd w (bq at_968) rfl 969 rfl <| jb w 24 (bq at_969) rfl 971 rfl <| jl w (bq at_971) rfl 973 rfl <| jl w (bq at_973) rfl 975 rfl <| jl w (bq at_975) rfl 977 rfl <| jl w (bq at_977) rfl 979 rfl ?_
  refine jc w 1 (bq at_979) rfl 980 rfl <| wS w hEL (cB53 hw) (Kw hw 248 rfl) (rm_grp1 G0 h382 q3_ q4_ q5_ k2 rq3_ rq4_ rq5_) all0 all0 [.int q3_, .int q4_, .int q5_, .int k2, .int 1] [.int 24, .ref x277, .ref x277] rfl rfl rfl (bq at_980) hml rfl 3 rfl (by decide) 983 rfl fun u385 N386 T h387 w K388 P389 => ?_
  obtain ⟨rfl, rfl, rfl⟩ := P389
  show Run _ _ _ _ _ (mkF _ _ _ [.int (g1 q3_ q4_), .int 24, .ref x277, .ref x277])
  refine w_csC w A384 [45, 45, 45, 45, 45, 66, 69, 71, 73, 78, 32, v1, v2, 45, 45, 45, 45, 45, 10, (g0 q0_), (g1 q0_ q1_), (G2 3 q1_ q2_), (G3 3 q2_), (g0 q3_), (g1 q3_ q4_)] rfl rfl (by decide) (tbl_lat _).nar (bq at_983) (Or.inr r281) E383 q280 984 rfl 25 rfl fun T h391 w E392 A393 => ?_
  refine jd w (bq at_984) rfl 985 rfl <| jb w 25 (bq at_985) rfl 987 rfl <| jl w (bq at_987) rfl 989 rfl <| jl w (bq at_989) rfl 991 rfl <| jl w (bq at_991) rfl 993 rfl <| jl w (bq at_993) rfl 995 rfl ?_
  refine jc w 2 (bq at_995) rfl 996 rfl <| wS w hEL (cB53 hw) (Kw hw 248 rfl) (rm_grp2 G0 h391 q3_ q4_ q5_ k2 rq3_ rq4_ rq5_) all0 all0 [.int q3_, .int q4_, .int q5_, .int k2, .int 2] [.int 25, .ref x277, .ref x277] rfl rfl rfl (bq at_996) hml rfl 3 rfl (by decide) 999 rfl fun u394 N395 T h396 w K397 P398 => ?_
  obtain ⟨rfl, rfl, rfl⟩ := P398
  show Run _ _ _ _ _ (mkF _ _ _ [.int (G2 k2 q4_ q5_), .int 25, .ref x277, .ref x277])
  refine w_csC w A393 [45, 45, 45, 45, 45, 66, 69, 71, 73, 78, 32, v1, v2, 45, 45, 45, 45, 45, 10, (g0 q0_), (g1 q0_ q1_), (G2 3 q1_ q2_), (G3 3 q2_), (g0 q3_), (g1 q3_ q4_), (G2 k2 q4_ q5_)] rfl rfl (by decide) (G2_lat _ _ _).nar (bq at_999) (Or.inr r281) E392 q280 1000 rfl 26 rfl fun T h400 w E401 A402 => ?_
  refine jd w (bq at_1000) rfl 1001 rfl <| jb w 26 (bq at_1001) rfl 1003 rfl <| jl w (bq at_1003) rfl 1005 rfl <| jl w (bq at_1005) rfl 1007 rfl <| jl w (bq at_1007) rfl 1009 rfl <| jl w (bq at_1009) rfl 1011 rfl ?_
  refine jc w 3 (bq at_1011) rfl 1012 rfl <| wS w hEL (cB53 hw) (Kw hw 248 rfl) (rm_grp3 G0 h400 q3_ q4_ q5_ k2 rq3_ rq4_ rq5_) all0 all0 [.int q3_, .int q4_, .int q5_, .int k2, .int 3] [.int 26, .ref x277, .ref x277] rfl rfl rfl (bq at_1012) hml rfl 3 rfl (by decide) 1015 rfl fun u403 N404 T h405 w K406 P407 => ?_
  obtain ⟨rfl, rfl, rfl⟩ := P407
  show Run _ _ _ _ _ (mkF _ _ _ [.int (G3 k2 q5_), .int 26, .ref x277, .ref x277])
  refine w_csC w A402 [45, 45, 45, 45, 45, 66, 69, 71, 73, 78, 32, v1, v2, 45, 45, 45, 45, 45, 10, (g0 q0_), (g1 q0_ q1_), (G2 3 q1_ q2_), (G3 3 q2_), (g0 q3_), (g1 q3_ q4_), (G2 k2 q4_ q5_), (G3 k2 q5_)] rfl rfl (by decide) (G3_lat _ _).nar (bq at_1015) (Or.inr r281) E401 q280 1016 rfl 27 rfl fun T h409 w E410 A411 => ?_
  refine jd w (bq at_1016) rfl 1017 rfl <| jb w 27 (bq at_1017) rfl 1019 rfl <| jb w 10 (bq at_1019) rfl 1021 rfl <| w_csC w A411 [45, 45, 45, 45, 45, 66, 69, 71, 73, 78, 32, v1, v2, 45, 45, 45, 45, 45, 10, (g0 q0_), (g1 q0_ q1_), (G2 3 q1_ q2_), (G3 3 q2_), (g0 q3_), (g1 q3_ q4_), (G2 k2 q4_ q5_), (G3 k2 q5_), 10] rfl rfl (by decide) (show nar .char (10 : Int32) = 10 by decide) (bq at_1021) (Or.inr r281) E410 q280 1022 rfl 28 rfl fun T h412 w E413 A414 => ?_
  refine jd w (bq at_1022) rfl 1023 rfl <| jb w 28 (bq at_1023) rfl 1025 rfl <| jb w 45 (bq at_1025) rfl 1027 rfl <| w_csC w A414 [45, 45, 45, 45, 45, 66, 69, 71, 73, 78, 32, v1, v2, 45, 45, 45, 45, 45, 10, (g0 q0_), (g1 q0_ q1_), (G2 3 q1_ q2_), (G3 3 q2_), (g0 q3_), (g1 q3_ q4_), (G2 k2 q4_ q5_), (G3 k2 q5_), 10, 45] rfl rfl (by decide) (show nar .char (45 : Int32) = 45 by decide) (bq at_1027) (Or.inr r281) E413 q280 1028 rfl 29 rfl fun T h415 w E416 A417 => ?_
  refine jd w (bq at_1028) rfl 1029 rfl <| jb w 29 (bq at_1029) rfl 1031 rfl <| jb w 45 (bq at_1031) rfl 1033 rfl <| w_csC w A417 [45, 45, 45, 45, 45, 66, 69, 71, 73, 78, 32, v1, v2, 45, 45, 45, 45, 45, 10, (g0 q0_), (g1 q0_ q1_), (G2 3 q1_ q2_), (G3 3 q2_), (g0 q3_), (g1 q3_ q4_), (G2 k2 q4_ q5_), (G3 k2 q5_), 10, 45, 45] rfl rfl (by decide) (show nar .char (45 : Int32) = 45 by decide) (bq at_1033) (Or.inr r281) E416 q280 1034 rfl 30 rfl fun T h418 w E419 A420 => ?_
  refine jd w (bq at_1034) rfl 1035 rfl <| jb w 30 (bq at_1035) rfl 1037 rfl <| jb w 45 (bq at_1037) rfl 1039 rfl <| w_csC w A420 [45, 45, 45, 45, 45, 66, 69, 71, 73, 78, 32, v1, v2, 45, 45, 45, 45, 45, 10, (g0 q0_), (g1 q0_ q1_), (G2 3 q1_ q2_), (G3 3 q2_), (g0 q3_), (g1 q3_ q4_), (G2 k2 q4_ q5_), (G3 k2 q5_), 10, 45, 45, 45] rfl rfl (by decide) (show nar .char (45 : Int32) = 45 by decide) (bq at_1039) (Or.inr r281) E419 q280 1040 rfl 31 rfl fun T h421 w E422 A423 => ?_
  refine jd w (bq at_1040) rfl 1041 rfl <| jb w 31 (bq at_1041) rfl 1043 rfl <| jb w 45 (bq at_1043) rfl 1045 rfl <| w_csC w A423 [45, 45, 45, 45, 45, 66, 69, 71, 73, 78, 32, v1, v2, 45, 45, 45, 45, 45, 10, (g0 q0_), (g1 q0_ q1_), (G2 3 q1_ q2_), (G3 3 q2_), (g0 q3_), (g1 q3_ q4_), (G2 k2 q4_ q5_), (G3 k2 q5_), 10, 45, 45, 45, 45] rfl rfl (by decide) (show nar .char (45 : Int32) = 45 by decide) (bq at_1045) (Or.inr r281) E422 q280 1046 rfl 32 rfl fun T h424 w E425 A426 => ?_
  refine jd w (bq at_1046) rfl 1047 rfl <| jb w 32 (bq at_1047) rfl 1049 rfl <| jb w 45 (bq at_1049) rfl 1051 rfl <| w_csC w A426 [45, 45, 45, 45, 45, 66, 69, 71, 73, 78, 32, v1, v2, 45, 45, 45, 45, 45, 10, (g0 q0_), (g1 q0_ q1_), (G2 3 q1_ q2_), (G3 3 q2_), (g0 q3_), (g1 q3_ q4_), (G2 k2 q4_ q5_), (G3 k2 q5_), 10, 45, 45, 45, 45, 45] rfl rfl (by decide) (show nar .char (45 : Int32) = 45 by decide) (bq at_1051) (Or.inr r281) E425 q280 1052 rfl 33 rfl fun T h427 w E428 A429 => ?_
  refine jd w (bq at_1052) rfl 1053 rfl <| jb w 33 (bq at_1053) rfl 1055 rfl <| jb w 69 (bq at_1055) rfl 1057 rfl <| w_csC w A429 [45, 45, 45, 45, 45, 66, 69, 71, 73, 78, 32, v1, v2, 45, 45, 45, 45, 45, 10, (g0 q0_), (g1 q0_ q1_), (G2 3 q1_ q2_), (G3 3 q2_), (g0 q3_), (g1 q3_ q4_), (G2 k2 q4_ q5_), (G3 k2 q5_), 10, 45, 45, 45, 45, 45, 69] rfl rfl (by decide) (show nar .char (69 : Int32) = 69 by decide) (bq at_1057) (Or.inr r281) E428 q280 1058 rfl 34 rfl fun T h430 w E431 A432 => ?_
  refine jd w (bq at_1058) rfl 1059 rfl <| jb w 34 (bq at_1059) rfl 1061 rfl <| jb w 78 (bq at_1061) rfl 1063 rfl <| w_csC w A432 [45, 45, 45, 45, 45, 66, 69, 71, 73, 78, 32, v1, v2, 45, 45, 45, 45, 45, 10, (g0 q0_), (g1 q0_ q1_), (G2 3 q1_ q2_), (G3 3 q2_), (g0 q3_), (g1 q3_ q4_), (G2 k2 q4_ q5_), (G3 k2 q5_), 10, 45, 45, 45, 45, 45, 69, 78] rfl rfl (by decide) (show nar .char (78 : Int32) = 78 by decide) (bq at_1063) (Or.inr r281) E431 q280 1064 rfl 35 rfl fun T h433 w E434 A435 => ?_
  refine jd w (bq at_1064) rfl 1065 rfl <| jb w 35 (bq at_1065) rfl 1067 rfl <| jb w 68 (bq at_1067) rfl 1069 rfl <| w_csC w A435 [45, 45, 45, 45, 45, 66, 69, 71, 73, 78, 32, v1, v2, 45, 45, 45, 45, 45, 10, (g0 q0_), (g1 q0_ q1_), (G2 3 q1_ q2_), (G3 3 q2_), (g0 q3_), (g1 q3_ q4_), (G2 k2 q4_ q5_), (G3 k2 q5_), 10, 45, 45, 45, 45, 45, 69, 78, 68] rfl rfl (by decide) (show nar .char (68 : Int32) = 68 by decide) (bq at_1069) (Or.inr r281) E434 q280 1070 rfl 36 rfl fun T h436 w E437 A438 => ?_
  refine jd w (bq at_1070) rfl 1071 rfl <| jb w 36 (bq at_1071) rfl 1073 rfl <| jb w 32 (bq at_1073) rfl 1075 rfl <| w_csC w A438 [45, 45, 45, 45, 45, 66, 69, 71, 73, 78, 32, v1, v2, 45, 45, 45, 45, 45, 10, (g0 q0_), (g1 q0_ q1_), (G2 3 q1_ q2_), (G3 3 q2_), (g0 q3_), (g1 q3_ q4_), (G2 k2 q4_ q5_), (G3 k2 q5_), 10, 45, 45, 45, 45, 45, 69, 78, 68, 32] rfl rfl (by decide) (show nar .char (32 : Int32) = 32 by decide) (bq at_1075) (Or.inr r281) E437 q280 1076 rfl 37 rfl fun T h439 w E440 A441 => ?_
  refine jd w (bq at_1076) rfl 1077 rfl <| jb w 37 (bq at_1077) rfl 1079 rfl <| jl w (bq at_1079) rfl 1081 rfl <| w_csC w A441 [45, 45, 45, 45, 45, 66, 69, 71, 73, 78, 32, v1, v2, 45, 45, 45, 45, 45, 10, (g0 q0_), (g1 q0_ q1_), (G2 3 q1_ q2_), (G3 3 q2_), (g0 q3_), (g1 q3_ q4_), (G2 k2 q4_ q5_), (G3 k2 q5_), 10, 45, 45, 45, 45, 45, 69, 78, 68, 32, v1] rfl rfl (by decide) lv1.nar (bq at_1081) (Or.inr r281) E440 q280 1082 rfl 38 rfl fun T h442 w E443 A444 => ?_
  refine jd w (bq at_1082) rfl 1083 rfl <| jb w 38 (bq at_1083) rfl 1085 rfl <| jl w (bq at_1085) rfl 1087 rfl <| w_csC w A444 [45, 45, 45, 45, 45, 66, 69, 71, 73, 78, 32, v1, v2, 45, 45, 45, 45, 45, 10, (g0 q0_), (g1 q0_ q1_), (G2 3 q1_ q2_), (G3 3 q2_), (g0 q3_), (g1 q3_ q4_), (G2 k2 q4_ q5_), (G3 k2 q5_), 10, 45, 45, 45, 45, 45, 69, 78, 68, 32, v1, v2] rfl rfl (by decide) lv2.nar (bq at_1087) (Or.inr r281) E443 q280 1088 rfl 39 rfl fun T h445 w E446 A447 => ?_
  refine jd w (bq at_1088) rfl 1089 rfl <| jb w 39 (bq at_1089) rfl 1091 rfl <| jb w 45 (bq at_1091) rfl 1093 rfl <| w_csC w A447 [45, 45, 45, 45, 45, 66, 69, 71, 73, 78, 32, v1, v2, 45, 45, 45, 45, 45, 10, (g0 q0_), (g1 q0_ q1_), (G2 3 q1_ q2_), (G3 3 q2_), (g0 q3_), (g1 q3_ q4_), (G2 k2 q4_ q5_), (G3 k2 q5_), 10, 45, 45, 45, 45, 45, 69, 78, 68, 32, v1, v2, 45] rfl rfl (by decide) (show nar .char (45 : Int32) = 45 by decide) (bq at_1093) (Or.inr r281) E446 q280 1094 rfl 40 rfl fun T h448 w E449 A450 => ?_
  refine jd w (bq at_1094) rfl 1095 rfl <| jb w 40 (bq at_1095) rfl 1097 rfl <| jb w 45 (bq at_1097) rfl 1099 rfl <| w_csC w A450 [45, 45, 45, 45, 45, 66, 69, 71, 73, 78, 32, v1, v2, 45, 45, 45, 45, 45, 10, (g0 q0_), (g1 q0_ q1_), (G2 3 q1_ q2_), (G3 3 q2_), (g0 q3_), (g1 q3_ q4_), (G2 k2 q4_ q5_), (G3 k2 q5_), 10, 45, 45, 45, 45, 45, 69, 78, 68, 32, v1, v2, 45, 45] rfl rfl (by decide) (show nar .char (45 : Int32) = 45 by decide) (bq at_1099) (Or.inr r281) E449 q280 1100 rfl 41 rfl fun T h451 w E452 A453 => ?_
  refine jd w (bq at_1100) rfl 1101 rfl <| jb w 41 (bq at_1101) rfl 1103 rfl <| jb w 45 (bq at_1103) rfl 1105 rfl <| w_csC w A453 [45, 45, 45, 45, 45, 66, 69, 71, 73, 78, 32, v1, v2, 45, 45, 45, 45, 45, 10, (g0 q0_), (g1 q0_ q1_), (G2 3 q1_ q2_), (G3 3 q2_), (g0 q3_), (g1 q3_ q4_), (G2 k2 q4_ q5_), (G3 k2 q5_), 10, 45, 45, 45, 45, 45, 69, 78, 68, 32, v1, v2, 45, 45, 45] rfl rfl (by decide) (show nar .char (45 : Int32) = 45 by decide) (bq at_1105) (Or.inr r281) E452 q280 1106 rfl 42 rfl fun T h454 w E455 A456 => ?_
  refine jd w (bq at_1106) rfl 1107 rfl <| jb w 42 (bq at_1107) rfl 1109 rfl <| jb w 45 (bq at_1109) rfl 1111 rfl <| w_csC w A456 [45, 45, 45, 45, 45, 66, 69, 71, 73, 78, 32, v1, v2, 45, 45, 45, 45, 45, 10, (g0 q0_), (g1 q0_ q1_), (G2 3 q1_ q2_), (G3 3 q2_), (g0 q3_), (g1 q3_ q4_), (G2 k2 q4_ q5_), (G3 k2 q5_), 10, 45, 45, 45, 45, 45, 69, 78, 68, 32, v1, v2, 45, 45, 45, 45] rfl rfl (by decide) (show nar .char (45 : Int32) = 45 by decide) (bq at_1111) (Or.inr r281) E455 q280 1112 rfl 43 rfl fun T h457 w E458 A459 => ?_
  refine jd w (bq at_1112) rfl 1113 rfl <| jb w 43 (bq at_1113) rfl 1115 rfl <| jb w 45 (bq at_1115) rfl 1117 rfl <| w_csC w A459 [45, 45, 45, 45, 45, 66, 69, 71, 73, 78, 32, v1, v2, 45, 45, 45, 45, 45, 10, (g0 q0_), (g1 q0_ q1_), (G2 3 q1_ q2_), (G3 3 q2_), (g0 q3_), (g1 q3_ q4_), (G2 k2 q4_ q5_), (G3 k2 q5_), 10, 45, 45, 45, 45, 45, 69, 78, 68, 32, v1, v2, 45, 45, 45, 45, 45] rfl rfl (by decide) (show nar .char (45 : Int32) = 45 by decide) (bq at_1117) (Or.inr r281) E458 q280 1118 rfl 44 rfl fun T h460 w E461 A462 => ?_
  refine jd w (bq at_1118) rfl 1119 rfl <| jb w 44 (bq at_1119) rfl 1121 rfl <| jb w 10 (bq at_1121) rfl 1123 rfl <| w_csC w A462 [45, 45, 45, 45, 45, 66, 69, 71, 73, 78, 32, v1, v2, 45, 45, 45, 45, 45, 10, (g0 q0_), (g1 q0_ q1_), (G2 3 q1_ q2_), (G3 3 q2_), (g0 q3_), (g1 q3_ q4_), (G2 k2 q4_ q5_), (G3 k2 q5_), 10, 45, 45, 45, 45, 45, 69, 78, 68, 32, v1, v2, 45, 45, 45, 45, 45, 10] rfl rfl (by decide) (show nar .char (10 : Int32) = 10 by decide) (bq at_1123) (Or.inr r281) E461 q280 1124 rfl 45 rfl fun T h463 w E464 A465 => ?_
  refine s_astore w #[vI p0, vI p1, vJ w0, .second, vI v1, vI v2, vR x4, vI n0, vI q0_, vI q1_, vI q2_, vI q3_, vI q4_, vI q5_, vR d, vI 3, vI k2, vR x277, .unset, .unset] (bq at_1124) rfl rfl 1126 rfl <| w_new w (Kw hw 0 rfl) (Kw hw 1 rfl) (Kw hw 2 rfl) (bq at_1126) 1129 rfl (by decide) (by decide) fun T h466 x467 w E468 q469 r470 A471 D472 => ?_
  have F_coder_x467 : Fld Z h466 x467 "java/lang/String" "coder" "B" (.int 0) := D472 (Or.inr (Kw hw 27 rfl)) (ty := .byte) (by decide)
  have F_value_x467 : Fld Z h466 x467 "java/lang/String" "value" "[B" (.null) := D472 (Or.inr (Kw hw 29 rfl)) (ty := (.array .byte)) (by decide)
  refine jd w (bq at_1129) rfl 1130 rfl <| ja w (bq at_1130) rfl rfl 1132 rfl ?_
  have eP : ([45, 45, 45, 45, 45, 66, 69, 71, 73, 78, 32, v1, v2, 45, 45, 45, 45, 45, 10, (g0 q0_), (g1 q0_ q1_), (G2 3 q1_ q2_), (G3 3 q2_), (g0 q3_), (g1 q3_ q4_), (G2 k2 q4_ q5_), (G3 k2 q5_), 10, 45, 45, 45, 45, 45, 69, 78, 68, 32, v1, v2, 45, 45, 45, 45, 45, 10] : List Int32) = pemS [v1, v2] [g0 q0_, g1 q0_ q1_, G2 3 q1_ q2_, G3 3 q2_, g0 q3_, g1 q3_ q4_, G2 k2 q4_ q5_, G3 k2 q5_] := by simp only [pemS, List.nil_append, List.cons_append]
  have hC : ∀ c ∈ ([45, 45, 45, 45, 45, 66, 69, 71, 73, 78, 32, v1, v2, 45, 45, 45, 45, 45, 10, (g0 q0_), (g1 q0_ q1_), (G2 3 q1_ q2_), (G3 3 q2_), (g0 q3_), (g1 q3_ q4_), (G2 k2 q4_ q5_), (G3 k2 q5_), 10, 45, 45, 45, 45, 45, 69, 78, 68, 32, v1, v2, 45, 45, 45, 45, 45, 10] : List Int32), Chr c := by rw [eP]; exact pemS_chr (chC lv1 (chC lv2 chN)) (chC (lat_chr (tbl_lat _)) (chC (lat_chr (tbl_lat _)) (chC (lat_chr (G2_lat _ _ _)) (chC (lat_chr (G3_lat _ _)) (chC (lat_chr (tbl_lat _)) (chC (lat_chr (tbl_lat _)) (chC (lat_chr (G2_lat _ _ _)) (chC (lat_chr (G3_lat _ _)) chN))))))))
  refine w_special w hEL (y := mN9) (a := x467) rfl (Kw hw 4 rfl) (Kw hw 5 rfl) (Kw hw 2 rfl) (Kw hw 6 rfl) (by decide) (rm_in1 G0 h466 x467 x277 45 k278 [45, 45, 45, 45, 45, 66, 69, 71, 73, 78, 32, v1, v2, 45, 45, 45, 45, 45, 10, (g0 q0_), (g1 q0_ q1_), (G2 3 q1_ q2_), (G3 3 q2_), (g0 q3_), (g1 q3_ q4_), (G2 k2 q4_ q5_), (G3 k2 q5_), 10, 45, 45, 45, 45, 45, 69, 78, 68, 32, v1, v2, 45, 45, 45, 45, 45, 10] _ _ rfl (Nat.le_of_ble_eq_true rfl) (Nat.le_of_ble_eq_true rfl) hC (A465.ext E468).full A471 F_value_x467 F_coder_x467) (allS (mi 0 rfl) all0) (allS (Or.inr r470) all0) (argsL := [.ref x277]) (rest := [.ref x467]) (lenOf pD10 rfl) rfl rfl (bq at_1132) (by rw [hml]; rfl) (W := 1) (Nat.le_of_eq rfl) (by decide) (by decide) (by decide) (by decide) 1135 rfl fun u473 T h474 w K475 P476 => ?_
  obtain ⟨rfl, F477⟩ := P476
  rw [eP] at F477
  have E478 := Ext.kp E468 K475 (allS q469 all0)
  show Run _ _ _ _ _ (mkF _ _ _ [.ref x467])
  refine s_astore w #[vI p0, vI p1, vJ w0, .second, vI v1, vI v2, vR x4, vI n0, vI q0_, vI q1_, vI q2_, vI q3_, vI q4_, vI q5_, vR d, vI 3, vI k2, vR x277, vR x467, .unset] (bq at_1135) rfl rfl 1137 rfl <| ja w (bq at_1137) rfl rfl 1139 rfl <| ja w (bq at_1139) rfl rfl 1141 rfl <| wS w hEL (cB51 hw) (Kw hw 34 rfl) (rm_pe G0 h474 x4 d kd bs [v1, v2] hn8 rfl ((Sl.ext E464).ext E478) ((Ad.ext E464).ext E478)) all0 all0 [.ref x4, .ref d] [] rfl rfl rfl (bq at_1141) hml rfl 0 rfl (by decide) 1144 rfl fun u479 N480 T h481 w K482 P483 => ?_
  obtain ⟨rfl, r0, rfl, Sr⟩ := P483
  have E485 := Keep.ext0 K482
  rw [hbs] at Sr
  show Run _ _ _ _ _ (mkF _ _ _ [.ref r0])
  refine s_astore w #[vI p0, vI p1, vJ w0, .second, vI v1, vI v2, vR x4, vI n0, vI q0_, vI q1_, vI q2_, vI q3_, vI q4_, vI q5_, vR d, vI 3, vI k2, vR x277, vR x467, vR r0] (bq at_1144) rfl rfl 1146 rfl <| ja w (bq at_1146) rfl rfl 1148 rfl <| ja w (bq at_1148) rfl rfl 1150 rfl <| w_strEq w hwE (Kw hw 1 rfl) (Kw hw 233 rfl) (Kw hw 234 rfl) (Kw hw 236 rfl) (Kw hw 235 rfl) (F477.ext E485) Sr SC hz (bq at_1150) (by rw [hml]; rfl) (W := 0) (Nat.le_of_eq rfl) (by decide) (by decide) (by decide) (by decide) 1153 rfl fun T z486 w hz487 => ?_
  obtain rfl : z486 = 1 := hz487.elim (fun q => q.1) (fun q => absurd rfl q.2)
  exact w_ireturn w hEL hs hlk hret rfl (Or.inr (Or.inl rfl)) (bq at_1153) (by decide) (by decide) rfl
theorem rm_law7 (G : Gl Z a0 zc fm tba ktb fba kfb) (h : Heap) (p0 : Int32) (p1 : Int32) (w0 : Int64) (hn : p0 &&& 7 = 7) :
    Met l Z consts_1 x code maxLocals ret room_1 #[.int p0, .int p1, .long w0] h [] [] (fun v h' => v = some (.int 1)) := by
  have G0 := G
  obtain ⟨hw, hEL, -⟩ := G
  refine Met.of (plainFor_of_name pn_12) ?_
  intro p e s m below meth c T hnm hret hlk hby hml hs w; have bq := @hb _ _ hby
  refine Run.cast (efL (L := #[vI p0, vI p1, vJ w0, .second, .unset, .unset, .unset, .unset, .unset, .unset, .unset, .unset, .unset, .unset, .unset, .unset, .unset, .unset, .unset, .unset]) (by simp [argsToLocals, Value.category, vI, vR, vJ, maxLocals])) ?_
  refine jn w (bq at_0) rfl 1 rfl <| s_i2c w (bq at_1) 2 rfl ?_
  generalize hv1 : ((nar .char p1) : Int32) = v1
  refine js w #[vI p0, vI p1, vJ w0, .second, vI v1, .unset, .unset, .unset, .unset, .unset, .unset, .unset, .unset, .unset, .unset, .unset, .unset, .unset, .unset, .unset] (bq at_2) rfl 4 rfl ?_
  have lv1 : Chr v1 := by rw [← hv1]; exact chr_nar _
  refine jn w (bq at_4) rfl 5 rfl <| jb w 16 (bq at_5) rfl 7 rfl <| s_iushr w (bq at_7) 8 rfl <| s_i2c w (bq at_8) 9 rfl ?_
  generalize hv2 : ((nar .char (XT.ushr p1 16)) : Int32) = v2
  refine js w #[vI p0, vI p1, vJ w0, .second, vI v1, vI v2, .unset, .unset, .unset, .unset, .unset, .unset, .unset, .unset, .unset, .unset, .unset, .unset, .unset, .unset] (bq at_9) rfl 11 rfl ?_
  have lv2 : Chr v2 := by rw [← hv2]; exact chr_nar _
  refine w_new w (Kw hw 0 rfl) (Kw hw 1 rfl) (Kw hw 2 rfl) (bq at_11) 14 rfl (by decide) (by decide) fun T h3 x4 w E5 q6 r7 A8 D9 => ?_
  have F_coder_x4 : Fld Z h3 x4 "java/lang/String" "coder" "B" (.int 0) := D9 (Or.inr (Kw hw 27 rfl)) (ty := .byte) (by decide)
  have F_value_x4 : Fld Z h3 x4 "java/lang/String" "value" "[B" (.null) := D9 (Or.inr (Kw hw 29 rfl)) (ty := (.array .byte)) (by decide)
  refine jd w (bq at_14) rfl 15 rfl <| jc w 2 (bq at_15) rfl 16 rfl <| w_newP w (Kw hw 3 rfl) rfl rfl (bq at_16) (by decide) (n := 2) (by decide) (by decide) 18 rfl (by decide) (by decide) fun T h10 x11 k12 w E13 q14 r15 V16 => ?_
  refine jd w (bq at_18) rfl 19 rfl <| jc w 0 (bq at_19) rfl 20 rfl <| jl w (bq at_20) rfl 22 rfl <| jC w V16 (i := 0) (by decide) rfl (by decide) (Nat.le_of_ble_eq_true rfl) lv1.nar (bq at_22) (Or.inr r15) 23 rfl fun T h17 w W18 V19 => ?_
  have E20 := Ext.wr' E13 W18 q14
  refine jd w (bq at_23) rfl 24 rfl <| jc w 1 (bq at_24) rfl 25 rfl <| jl w (bq at_25) rfl 27 rfl <| jC w V19 (i := 1) (by decide) rfl (by decide) (Nat.le_of_ble_eq_true rfl) lv2.nar (bq at_27) (Or.inr r15) 28 rfl fun T h21 w W22 V23 => ?_
  have E24 := Ext.wr' E20 W22 q14
  refine w_special w hEL (y := mN9) (a := x4) rfl (Kw hw 4 rfl) (Kw hw 5 rfl) (Kw hw 2 rfl) (Kw hw 6 rfl) (by decide) (rm_in1 G0 h21 x4 x11 2 k12 [v1, v2] _ _ rfl (Nat.le_of_ble_eq_true rfl) (Nat.le_of_ble_eq_true rfl) (by intro c q; simp only [List.mem_cons, List.not_mem_nil, or_false] at q; rcases q with rfl | rfl <;> first | exact lv1 | exact lv2) (show Arv Z h21 x11 k12 .char 2 (([v1, v2] : List Int32).map Value.int) (.int 0) from V23) (A8.ext E24) (F_value_x4.ext E24) (F_coder_x4.ext E24)) (allS (mi 1 rfl) all0) (allS (Or.inr r7) all0) (argsL := [.ref x11]) (rest := [.ref x4]) (lenOf pD10 rfl) rfl rfl (bq at_28) (by rw [hml]; rfl) (W := 1) (Nat.le_of_eq rfl) (by decide) (by decide) (by decide) (by decide) 31 rfl fun u25 T h26 w K27 P28 => ?_
  obtain ⟨rfl, F29⟩ := P28
  have E30 := Ext.kp (Ext.tr E5 E24) K27 (allS q6 all0)
  show Run _ _ _ _ _ (mkF _ _ _ [.ref x4])
  refine s_astore w #[vI p0, vI p1, vJ w0, .second, vI v1, vI v2, vR x4, .unset, .unset, .unset, .unset, .unset, .unset, .unset, .unset, .unset, .unset, .unset, .unset, .unset] (bq at_31) rfl rfl 33 rfl <| jn w (bq at_33) rfl 34 rfl <| jb w 7 (bq at_34) rfl 36 rfl <| jw w (bq at_36) 37 rfl ?_
  rw [hn]
  refine js w #[vI p0, vI p1, vJ w0, .second, vI v1, vI v2, vR x4, vI 7, .unset, .unset, .unset, .unset, .unset, .unset, .unset, .unset, .unset, .unset, .unset, .unset] (bq at_37) rfl 39 rfl <| jl w (bq at_39) rfl 41 rfl <| jb w 7 (bq at_41) rfl 43 rfl <| jx w (bq at_43) (by decide) 46 rfl 57 rfl (fun _ => ?_) (fun q => absurd q (by decide))
  refine ja w (bq at_46) rfl rfl 48 rfl <| jl w (bq at_48) rfl 50 rfl <| jl w (bq at_50) rfl 52 rfl <| s_lload_n w (bq at_52) rfl 53 rfl <| wS w hEL (cB54 hw) (Kw hw 269 rfl) (rm_lng G0 h26 x4 v1 v2 w0 F29) all0 all0 [.ref x4, .int v1, .int v2, .long w0] [] rfl rfl rfl (bq at_53) hml rfl 0 rfl (by decide) 56 rfl fun u32 N33 T h34 w K35 P36 => ?_
  obtain ⟨rfl, rfl⟩ := P36
  show Run _ _ _ _ _ (mkF _ _ _ [.int 1])
  exact w_ireturn w hEL hs hlk hret rfl (Or.inr (Or.inl rfl)) (bq at_56) (by decide) (by decide) rfl
open StrChars StrChars.Road

theorem and7 (x : Int32) : x &&& 7 = 0 ∨ x &&& 7 = 1 ∨ x &&& 7 = 2 ∨ x &&& 7 = 3 ∨ x &&& 7 = 4 ∨ x &&& 7 = 5 ∨ x &&& 7 = 6 ∨ x &&& 7 = 7 := by
  have m := mask_le x 7 3 (by decide) (by decide)
  have e : x &&& 7 = Int32.ofNat (x &&& 7).toInt.toNat := by
    rw [← Int32.toInt_inj, Int32.toInt_ofNat_of_lt (by omega)]; omega
  have k : (x &&& 7).toInt.toNat < 8 := by omega
  generalize (x &&& 7).toInt.toNat = n at e k
  rw [e]
  match n, k with
  | 0, _ => decide
  | 1, _ => decide
  | 2, _ => decide
  | 3, _ => decide
  | 4, _ => decide
  | 5, _ => decide
  | 6, _ => decide
  | 7, _ => decide
  | n + 8, h => exact absurd h (by omega)
theorem rm_law (G : Gl Z a0 zc fm tba ktb fba kfb) (h : Heap) (p0 p1 : Int32) (w0 : Int64) : Met l Z consts_1 x code maxLocals ret room_1 #[.int p0, .int p1, .long w0] h [] [] (fun v h' => v = some (.int 1)) := by
  rcases and7 p0 with q | q | q | q | q | q | q | q
  · exact rm_law0 G h p0 p1 w0 q
  · exact rm_law4 G h p0 p1 w0 (Or.inl q)
  · exact rm_law4 G h p0 p1 w0 (Or.inr (Or.inl q))
  · exact rm_law4 G h p0 p1 w0 (Or.inr (Or.inr q))
  · exact rm_law8 G h p0 p1 w0 (Or.inl q)
  · exact rm_law8 G h p0 p1 w0 (Or.inr (Or.inl q))
  · exact rm_law8 G h p0 p1 w0 (Or.inr (Or.inr q))
  · exact rm_law7 G h p0 p1 w0 q
theorem st_fb : ∀ j : Fin 256, jdkStatics_1[14 + j.val]? = some (Jvm.Cond.eq (Jvm.Term.elem (Jvm.Term.static "java/util/Base64$Decoder" "fromBase64" "[I") (Jvm.Term.int (Int32.ofNat j.val))) (Jvm.Term.int (fb256.getD j.val 0))) := by decide +kernel
theorem st_tb : ∀ j : Fin 64, jdkStatics_1[275 + j.val]? = some (Jvm.Cond.eq (Jvm.Term.elem (Jvm.Term.static "java/util/Base64$Encoder" "toBase64" "[C") (Jvm.Term.int (Int32.ofNat j.val))) (Jvm.Term.int (tb64.getD j.val 0))) := by decide +kernel
theorem comes_1 {Post : Tables → Env → Array Value → State → Outcome → State → Prop} (hpost : ∀ tb e args s v u, (limb_1_1.after args s (.returned v) u = true ∧ limb_1_2.after args s (.returned v) u = true ∧ True) → FramedW s (.returned v) u (Jvm.fieldLocs frame_1_writes args s ++ Jvm.arrayLocs frame_1_arrays args s ++ Jvm.staticLocs frame_1_statics s) room_1.cells room_1.slots → Post tb e args s (.returned v) u) :
    ArmFor flags0 classFile x code maxLocals ret World_1 tables_1 room_1 Calls_1 rest_1 Pre_1 Post := by
  intro l hfl _ _ p e ha hc hk s m args below hf hA hF happ hP
  obtain ⟨hcalls, hrest, hpre⟩ := hP
  obtain ⟨-, -, -, hnamed, -, -, -, hat⟩ := (Spec.applies_iff hf).mp happ
  obtain ⟨hg, hn⟩ := and_e (Cond.before_iff.mp (show (Jvm.Cond.and given_1 narrow_1).before args s = true from hpre))
  obtain ⟨hcnt, hg⟩ := and_e hg
  obtain ⟨w0, w1, w2, rfl⟩ : ∃ w0 w1 w2 : Value, args = #[w0, w1, w2] := by
    have hs : args.size = 3 := by simpa [Cond.value, given_1] using hcnt
    obtain ⟨L⟩ := args
    match L, hs with
    | [w0, w1, w2], _ => exact ⟨w0, w1, w2, rfl⟩
  obtain ⟨g0, hg⟩ := and_e hg
  obtain ⟨g1, hg⟩ := and_e hg
  have g2 := hg
  obtain ⟨i0, e0⟩ := is_v g0
  obtain rfl : w0 = .int i0 := Option.some.inj e0
  obtain ⟨i1, e1⟩ := is_v g1
  obtain rfl : w1 = .int i1 := Option.some.inj e1
  obtain ⟨i2, e2⟩ := isL_v g2
  obtain rfl : w2 = .long i2 := Option.some.inj e2
  have hw := fun d (hd : d ∈ tables_1) => atoms_spec (ws := Jvm.Cond.code x code maxLocals ret :: tables_1) hat d (List.mem_cons_of_mem _ hd)
  have hset : ∀ d ∈ jdkStatics_1, d.before _ s = true := (atoms_of jdkStatics_1 (show (jdkStatics_1.foldr Jvm.Cond.and restOwn_1).before _ s = true from hrest)).1
  have hfit : Fit s := fit_of hF
  obtain ⟨fba, vfb⟩ := exa_v (Cond.before_iff.mp (Kv hset 12 rfl))
  have SFB : Sta s s.heap "java/util/Base64$Decoder" "fromBase64" "[I" (.ref fba) := Sta.start vfb (Or.inl (Kv hset 10 rfl))
  obtain ⟨kfb, AFB⟩ := arv_start (vs := fb256.map Value.int) (dv := .int 0) hfit vfb (Cond.before_iff.mp (Kv hset 11 rfl)) (eq_int (Cond.before_iff.mp (Kv hset 13 rfl))) (by decide) (by decide) (by decide) (fun j hj => by
    have hj : j < fb256.length := by simpa using hj
    rw [mapI_getD hj]
    exact eq_int (Cond.before_iff.mp (hset _ (List.mem_of_getElem? (st_fb ⟨j, hj⟩)))))
  obtain ⟨tba, vtb⟩ := exa_v (Cond.before_iff.mp (Kv hset 273 rfl))
  have STB : Sta s s.heap "java/util/Base64$Encoder" "toBase64" "[C" (.ref tba) := Sta.start vtb (Or.inl (Kv hset 271 rfl))
  obtain ⟨ktb, ATB⟩ := arv_start (vs := tb64.map Value.int) (dv := .int 0) hfit vtb (Cond.before_iff.mp (Kv hset 272 rfl)) (eq_int (Cond.before_iff.mp (Kv hset 274 rfl))) (by decide) (by decide) (by decide) (fun j hj => by
    have hj : j < tb64.length := by simpa using hj
    rw [mapI_getD hj]
    exact eq_int (Cond.before_iff.mp (hset _ (List.mem_of_getElem? (st_tb ⟨j, hj⟩)))))
  have hEL : EW s _ consts_1 := (EW.cons (Kw hw 124 rfl) (by decide) (EW.cons (Kw hw 172 rfl) (by decide) (EW.cons (Kw hw 193 rfl) (by decide) (EW.cons (Kw hw 103 rfl) (by decide) EW.nil))))
  obtain ⟨zc, vzc⟩ := is_v (Cond.before_iff.mp (Kv hset 1 rfl))
  have SC : Sta s s.heap ST "COMPACT_STRINGS" "Z" (.int zc) := Sta.start vzc (Or.inl (Kv hset 0 rfl))
  have hz : ¬ zc = 0 := ne_int vzc (Kv hset 2 rfl)
  obtain ⟨fm, vfm, hfm⟩ := isR_v (Cond.before_iff.mp (Kv hset 8 rfl))
  have SF : Sta s s.heap "jdk/internal/util/Preconditions" "SIOOBE_FORMATTER" "Ljava/util/function/BiFunction;" fm := Sta.start vfm (Or.inl (Kv hset 7 rfl))
  have SA : Sta s s.heap "java/lang/StringUTF16" "$assertionsDisabled" "Z" (.int 1) := Sta.start (eq_int (Cond.before_iff.mp (Kv hset 342 rfl))) (Or.inl (Kv hset 341 rfl))
  have SH : Sta s s.heap "java/lang/StringUTF16" "HI_BYTE_SHIFT" "I" (.int 0) := Sta.start (eq_int (Cond.before_iff.mp (Kv hset 345 rfl))) (Or.inl (Kv hset 344 rfl))
  have SL : Sta s s.heap "java/lang/StringUTF16" "LO_BYTE_SHIFT" "I" (.int 8) := Sta.start (eq_int (Cond.before_iff.mp (Kv hset 348 rfl))) (Or.inl (Kv hset 347 rfl))
  have G : Gl s #[.int i0, .int i1, .long i2] zc fm tba ktb fba kfb := ⟨hw, hEL, SC, hz, SF, hfm, SA, SH, SL, SFB, AFB, STB, ATB⟩
  have hCH : CHv s consts_1 s.vm s.heap := CHv.start hEL (fun q hq => hcalls.1 q hq) (Kv hset 2 rfl) (Kw hw 19 rfl) (Kw hw 1 rfl)
  obtain ⟨n, o, h1, h2, h3, v, L, rfl, ⟨N, -, -, ⟨-, rfl⟩, -⟩, -, hq⟩ := (rm_law (l := l) G s.heap i0 i1 i2) tables_1 p e ha hc hk s m _ below hf ((Spec.applies_iff_loose hf).mp happ).1 ⟨rfl, State.Warmed39.refl s, rfl, hCH, Ext.rf _, all0, all0⟩ trivial
  refine ⟨n, _, h1, h2, h3, hpost _ _ _ _ _ _ ⟨Cond.after_iff.mpr rfl, Cond.after_iff.mpr (eq_i res_at (Term.int_eval (1)) rfl), trivial⟩ ⟨hq.1, hq.2.1, hq.2.2.1, hq.2.2.2.sift fun y hy => Or.inr (N y hy)⟩⟩
end Ow
theorem main_1_1 : Claimed_1_1 := Ow.comes_1 fun _ _ _ _ _ _ h hF => ⟨h.1, hF⟩
theorem main_1_2 : Claimed_1_2 := Ow.comes_1 fun _ _ _ _ _ _ h hF => ⟨h.2.1, hF⟩
end Jvm.Pilot.@@N@@
namespace Jvm.Pilot.@@N@@
open Jvm Jvm.ClassFile Sem Op Lib Jvm.Free Jvm.Stand Jvm.Pilot.@@N@@.Jvm.D
/-! MADE BY PROGRAM (witnessworld.py) out of the Statement's table words and the real class files: 30 classes; the members and pool entries that the words name. The judged class is class 1, her method 5. -/
namespace start1
open Jvm.ClassFile
def u (s : String) : CpInfo := .utf8 (stringToUtf16 s)
/-- a pool by its gaps: so many unusable entries, then the entry; so many at the end -/
def gap : Nat → List CpInfo → List CpInfo
  | 0, r => r
  | n + 1, r => .unusable :: gap n r
def poolList (es : List (Nat × CpInfo)) (last : Nat) : List CpInfo := es.foldr (fun e r => gap e.1 (e.2 :: r)) (gap last [])
def pool (es : List (Nat × CpInfo)) (last : Nat) : Array CpInfo := ⟨poolList es last⟩
def fileOf (pool : Array CpInfo) (this : Nat) (attrs : Array Attribute := #[]) (ms : Array MethodInfo := #[]) (fl : Nat := 33) (sup : Nat := 0) (ifs : Array Nat := #[]) (fds : Array FieldInfo := #[]) : ClassFile where
  minorVersion := 0
  majorVersion := 65
  constantPool := pool
  accessFlags := fl
  thisClass := this
  superClass := sup
  interfaces := ifs
  fields := fds
  methods := ms
  attributes := attrs
def plain (name : String) (sup : Option ClassId) : Class where
  name := name
  kind := .ordinary
  loader := none
  accessFlags := 33
  super := sup
  interfaces := #[]
  cf := none
  fields := #[]
  methods := #[]
  instanceTypes := #[]
  staticTypes := #[]
  resolved := #[]
  callSites := []
  init := .initialized
  statics := none
  mirror := none

def pool0 : Array CpInfo := pool [(5, u "<init>"), (0, u "()V"), (1, .class_ 10), (1, u "java/lang/Object"), (85, u "clone"), (0, u "()Ljava/lang/Object;")] 26

def k0c0 : Code := { maxStack := 0, maxLocals := 1, code := object_method_1_code, exceptionTable := #[], attributes := #[] }
def k0m0 : Method := { name := "<init>", desc := "()V", sig := { parameters := [], returnType := none }, accessFlags := 1, code := some k0c0 }
def k0m1 : Method := { name := "clone", desc := "()Ljava/lang/Object;", sig := { parameters := [], returnType := some (.object "java/lang/Object") }, accessFlags := 260, code := none }
/-- java/lang/Object -/
def k0 : Class := { plain "java/lang/Object" none with
  accessFlags := 33
  interfaces := #[]
  cf := some (fileOf pool0 8 #[] #[{ accessFlags := 1, nameIndex := 5, descriptorIndex := 6, attributes := #[] }, { accessFlags := 260, nameIndex := 96, descriptorIndex := 97, attributes := #[] }] 33 0 #[] #[])
  fields := #[]
  methods := #[k0m0, k0m1]
  instanceTypes := #[]
  staticTypes := #[]
  resolved := Array.replicate 124 none
  statics := none }

def pool1 : Array CpInfo := pool [(2, .class_ 4), (1, u "java/lang/Object"), (0, u "<init>"), (0, u "()V"), (0, .long 255), (1, .methodref 10 11), (0, .class_ 12), (0, .nameAndType 13 14), (0, u "com/example/tuikuan/tuikuan/PemEncodePinLaw"), (0, u "b64"), (0, u "(I)C"), (0, .methodref 10 16), (0, .nameAndType 17 18), (0, u "ub"), (0, u "(JI)I"), (0, .methodref 20 21), (0, .class_ 22), (0, .nameAndType 23 24), (0, u "com/example/tuikuan/tuikuan/Pem"), (0, u "encode"), (0, u "(Ljava/lang/String;[B)Ljava/lang/String;"), (0, .methodref 26 27), (0, .class_ 28), (0, .nameAndType 29 30), (0, u "java/lang/String"), (0, u "length"), (0, u "()I"), (0, .methodref 26 32), (0, .nameAndType 33 14), (0, u "charAt"), (0, .methodref 10 35), (0, .nameAndType 36 37), (0, u "grp"), (0, u "(IIIII)C"), (0, .methodref 26 39), (0, .nameAndType 5 40), (0, u "([C)V"), (0, .methodref 10 42), (0, .nameAndType 43 44), (0, u "longCase"), (0, u "(Ljava/lang/String;CCJ)Z"), (0, .methodref 46 47), (0, .class_ 48), (0, .nameAndType 49 50), (0, u "java/lang/Math"), (0, u "min"), (0, u "(II)I"), (0, .methodref 26 52), (0, .nameAndType 53 54), (0, u "equals"), (0, u "(Ljava/lang/Object;)Z"), (5, u "law"), (0, u "(IIJ)Z")] 4

def k1m0 : Method := { name := "<init>", desc := "()V", sig := { parameters := [], returnType := none }, accessFlags := 2, code := none }
def k1c1 : Code := { maxStack := 4, maxLocals := 3, code := method_2_code, exceptionTable := #[], attributes := #[] }
def k1m1 : Method := { name := "ub", desc := "(JI)I", sig := { parameters := [.long, .int], returnType := some .int }, accessFlags := 10, code := some k1c1 }
def k1c2 : Code := { maxStack := 3, maxLocals := 1, code := method_3_code, exceptionTable := #[], attributes := #[] }
def k1m2 : Method := { name := "b64", desc := "(I)C", sig := { parameters := [.int], returnType := some .char }, accessFlags := 10, code := some k1c2 }
def k1c3 : Code := { maxStack := 3, maxLocals := 5, code := method_4_code, exceptionTable := #[], attributes := #[] }
def k1m3 : Method := { name := "grp", desc := "(IIIII)C", sig := { parameters := [.int, .int, .int, .int, .int], returnType := some .char }, accessFlags := 10, code := some k1c3 }
def k1c4 : Code := { maxStack := 6, maxLocals := 14, code := method_5_code, exceptionTable := #[], attributes := #[] }
def k1m4 : Method := { name := "longCase", desc := "(Ljava/lang/String;CCJ)Z", sig := { parameters := [(.object "java/lang/String"), .char, .char, .long], returnType := some .boolean }, accessFlags := 10, code := some k1c4 }
def k1c5 : Code := { maxStack := 8, maxLocals := 20, code := code, exceptionTable := #[], attributes := #[] }
def k1m5 : Method := { name := "law", desc := "(IIJ)Z", sig := { parameters := [.int, .int, .long], returnType := some .boolean }, accessFlags := 9, code := some k1c5 }
/-- com/example/tuikuan/tuikuan/PemEncodePinLaw -/
def k1 : Class := { plain "com/example/tuikuan/tuikuan/PemEncodePinLaw" (some 0) with
  accessFlags := 49
  interfaces := #[]
  cf := some (fileOf pool1 10 #[] #[{ accessFlags := 2, nameIndex := 5, descriptorIndex := 6, attributes := #[] }, { accessFlags := 10, nameIndex := 17, descriptorIndex := 18, attributes := #[] }, { accessFlags := 10, nameIndex := 13, descriptorIndex := 14, attributes := #[] }, { accessFlags := 10, nameIndex := 36, descriptorIndex := 37, attributes := #[] }, { accessFlags := 10, nameIndex := 43, descriptorIndex := 44, attributes := #[] }, { accessFlags := 9, nameIndex := 60, descriptorIndex := 61, attributes := #[] }] 49 2 #[] #[])
  fields := #[]
  methods := #[k1m0, k1m1, k1m2, k1m3, k1m4, k1m5]
  instanceTypes := #[]
  staticTypes := #[]
  resolved := Array.replicate 66 none
  statics := none }

def pool2 : Array CpInfo := pool [(1, .class_ 2), (0, u "java/io/Serializable"), (0, .class_ 4), (0, u "java/lang/Object")] 2

/-- java/io/Serializable -/
def k2 : Class := { plain "java/io/Serializable" (some 0) with
  accessFlags := 1537
  interfaces := #[]
  cf := some (fileOf pool2 1 #[] #[] 1537 3 #[] #[])
  fields := #[]
  methods := #[]
  instanceTypes := #[]
  staticTypes := #[]
  resolved := Array.replicate 7 none
  statics := none }

def pool3 : Array CpInfo := pool [(1, .class_ 2), (0, u "java/lang/Comparable"), (0, .class_ 4), (0, u "java/lang/Object")] 7

/-- java/lang/Comparable -/
def k3 : Class := { plain "java/lang/Comparable" (some 0) with
  accessFlags := 1537
  interfaces := #[]
  cf := some (fileOf pool3 1 #[] #[] 1537 3 #[] #[])
  fields := #[]
  methods := #[]
  instanceTypes := #[]
  staticTypes := #[]
  resolved := Array.replicate 12 none
  statics := none }

def pool4 : Array CpInfo := pool [(2, .class_ 4), (1, u "java/lang/CharSequence"), (42, .class_ 48), (0, u "java/lang/CharSequence$1CodePointIterator"), (10, .class_ 60), (0, u "java/lang/CharSequence$1CharIterator"), (5, .class_ 67), (0, u "java/lang/Object")] 63

/-- java/lang/CharSequence -/
def k4 : Class := { plain "java/lang/CharSequence" (some 0) with
  accessFlags := 1537
  interfaces := #[]
  cf := some (fileOf pool4 2 #[.nestMembers #[47, 59]] #[] 1537 66 #[] #[])
  fields := #[]
  methods := #[]
  instanceTypes := #[]
  staticTypes := #[]
  resolved := Array.replicate 131 none
  statics := none }

def pool5 : Array CpInfo := pool [(1, .class_ 2), (0, u "java/lang/constant/Constable"), (0, .class_ 4), (0, u "java/lang/Object")] 6

/-- java/lang/constant/Constable -/
def k5 : Class := { plain "java/lang/constant/Constable" (some 0) with
  accessFlags := 1537
  interfaces := #[]
  cf := some (fileOf pool5 1 #[] #[] 1537 3 #[] #[])
  fields := #[]
  methods := #[]
  instanceTypes := #[]
  staticTypes := #[]
  resolved := Array.replicate 11 none
  statics := none }

def pool6 : Array CpInfo := pool [(1, .class_ 2), (0, u "java/lang/constant/ConstantDesc"), (0, .class_ 4), (0, u "java/lang/Object")] 32

/-- java/lang/constant/ConstantDesc -/
def k6 : Class := { plain "java/lang/constant/ConstantDesc" (some 0) with
  accessFlags := 1537
  interfaces := #[]
  cf := some (fileOf pool6 1 #[] #[] 1537 3 #[] #[])
  fields := #[]
  methods := #[]
  instanceTypes := #[]
  staticTypes := #[]
  resolved := Array.replicate 37 none
  statics := none }

def pool7 : Array CpInfo := pool [(1, .methodref 2 3), (0, .class_ 4), (0, .nameAndType 5 6), (0, u "java/lang/Object"), (0, u "<init>"), (0, u "()V"), (0, .string 8), (0, u ""), (0, .fieldref 10 11), (0, .class_ 12), (0, .nameAndType 13 14), (0, u "java/lang/String"), (0, u "value"), (0, u "[B"), (0, .fieldref 10 16), (0, .nameAndType 17 18), (0, u "coder"), (0, u "B"), (2, u "hash"), (0, u "I"), (2, u "hashIsZero"), (0, u "Z"), (0, .methodref 10 28), (0, .nameAndType 5 29), (0, u "([CIILjava/lang/Void;)V"), (4, .methodref 10 35), (0, .nameAndType 36 37), (0, u "checkBoundsOffCount"), (0, u "(III)I"), (0, .fieldref 10 39), (0, .nameAndType 40 26), (0, u "COMPACT_STRINGS"), (1, .class_ 44), (1, u "java/lang/StringUTF16"), (0, u "compress"), (1, .methodref 42 48), (0, .nameAndType 49 50), (0, u "coderFromArrayLen"), (0, u "([BI)B"), (3, .methodref 55 56), (0, .class_ 57), (0, .nameAndType 58 59), (0, u "java/util/Arrays"), (0, u "copyOfRange"), (0, u "([BII)[B"), (10, u "([BIII)V"), (35, .methodref 107 108), (0, .class_ 109), (0, .nameAndType 110 111), (0, u "java/lang/StringLatin1"), (0, u "inflate"), (0, u "([BI[BII)V"), (30, u "()Z"), (34, .methodref 42 178), (0, .nameAndType 45 179), (0, u "([CII)[B"), (13, .class_ 195), (1, u "java/lang/System"), (16, .methodref 193 213), (0, .nameAndType 214 215), (0, u "arraycopy"), (0, u "(Ljava/lang/Object;ILjava/lang/Object;II)V"), (118, u "()I"), (0, .methodref 10 336), (0, .nameAndType 17 337), (0, u "()B"), (2, u "()[B"), (22, u "([BI)C"), (27, u "(II)V"), (35, u "(I)C"), (61, .methodref 10 490), (0, .nameAndType 5 491), (0, u "(Ljava/lang/AbstractStringBuilder;Ljava/lang/Void;)V"), (0, .methodref 10 493), (0, .nameAndType 494 142), (0, u "isLatin1"), (0, .methodref 107 496), (0, .nameAndType 497 363), (0, u "charAt"), (0, .methodref 42 496), (2, u "checkIndex"), (4, .nameAndType 507 334), (0, u "length"), (24, u "getBytes"), (8, .methodref 107 542), (0, .nameAndType 543 544), (0, u "equals"), (0, u "([B[B)Z"), (4, .methodref 550 506), (0, .class_ 551), (0, u "java/lang/AbstractStringBuilder"), (0, .methodref 550 553), (0, .nameAndType 554 340), (0, u "getValue"), (18, u "(Ljava/lang/Object;)Z"), (1, .class_ 576), (0, u "java/lang/CharSequence"), (22, u "CASE_INSENSITIVE_ORDER"), (0, u "Ljava/util/Comparator;"), (220, u "([BIB)V"), (188, u "([C)V"), (36, .methodref 550 493), (0, .fieldref 550 1049), (0, .nameAndType 1050 26), (0, u "maybeLatin1"), (2, .fieldref 1054 1055), (0, .class_ 1056), (0, .nameAndType 1057 1058), (0, u "jdk/internal/util/Preconditions"), (0, u "SIOOBE_FORMATTER"), (0, u "Ljava/util/function/BiFunction;"), (0, .methodref 1054 1060), (0, .nameAndType 501 1061), (0, u "(IILjava/util/function/BiFunction;)I"), (2, u "(IIILjava/util/function/BiFunction;)I"), (0, .methodref 1054 1066), (0, .nameAndType 1067 1064), (0, u "checkFromIndexSize"), (33, u "serialPersistentFields"), (0, u "[Ljava/io/ObjectStreamField;"), (0, .class_ 1104), (0, u "java/lang/String$CaseInsensitiveComparator"), (1, .class_ 1107), (0, u "java/io/Serializable"), (0, .class_ 1109), (0, u "java/lang/Comparable"), (0, .class_ 1111), (0, u "java/lang/constant/Constable"), (0, .class_ 1113), (0, u "java/lang/constant/ConstantDesc"), (2, u "serialVersionUID"), (0, u "J"), (3, u "REPL"), (0, u "C"), (2, u "LATIN1"), (1, u "UTF16"), (105, u "(Ljava/lang/StringBuilder;)V")] 217

def k7m0 : Method := { name := "<init>", desc := "()V", sig := { parameters := [], returnType := none }, accessFlags := 1, code := none }
def k7c1 : Code := { maxStack := 5, maxLocals := 2, code := jdk_42_method_3_code, exceptionTable := #[], attributes := #[] }
def k7m1 : Method := { name := "<init>", desc := "([C)V", sig := { parameters := [(.array .char)], returnType := none }, accessFlags := 1, code := some k7c1 }
def k7c2 : Code := { maxStack := 5, maxLocals := 7, code := jdk_42_method_7_code, exceptionTable := #[], attributes := #[] }
def k7m2 : Method := { name := "<init>", desc := "([BIII)V", sig := { parameters := [(.array .byte), .int, .int, .int], returnType := none }, accessFlags := 1, code := some k7c2 }
def k7c3 : Code := { maxStack := 3, maxLocals := 2, code := jdk_42_method_53_code, exceptionTable := #[], attributes := #[] }
def k7m3 : Method := { name := "<init>", desc := "(Ljava/lang/StringBuilder;)V", sig := { parameters := [(.object "java/lang/StringBuilder")], returnType := none }, accessFlags := 1, code := some k7c3 }
def k7c4 : Code := { maxStack := 2, maxLocals := 1, code := jdk_42_method_54_code, exceptionTable := #[], attributes := #[] }
def k7m4 : Method := { name := "length", desc := "()I", sig := { parameters := [], returnType := some .int }, accessFlags := 1, code := some k7c4 }
def k7c5 : Code := { maxStack := 2, maxLocals := 2, code := jdk_42_method_56_code, exceptionTable := #[], attributes := #[] }
def k7m5 : Method := { name := "charAt", desc := "(I)C", sig := { parameters := [.int], returnType := some .char }, accessFlags := 1, code := some k7c5 }
def k7c6 : Code := { maxStack := 2, maxLocals := 3, code := jdk_42_method_66_code, exceptionTable := #[], attributes := #[] }
def k7m6 : Method := { name := "equals", desc := "(Ljava/lang/Object;)Z", sig := { parameters := [(.object "java/lang/Object")], returnType := some .boolean }, accessFlags := 1, code := some k7c6 }
def k7c7 : Code := { maxStack := 5, maxLocals := 4, code := jdk_42_method_147_code, exceptionTable := #[], attributes := #[] }
def k7m7 : Method := { name := "getBytes", desc := "([BIB)V", sig := { parameters := [(.array .byte), .int, .byte], returnType := none }, accessFlags := 0, code := some k7c7 }
def k7c8 : Code := { maxStack := 4, maxLocals := 6, code := jdk_42_method_149_code, exceptionTable := #[], attributes := #[] }
def k7m8 : Method := { name := "<init>", desc := "([CIILjava/lang/Void;)V", sig := { parameters := [(.array .char), .int, .int, (.object "java/lang/Void")], returnType := none }, accessFlags := 2, code := some k7c8 }
def k7c9 : Code := { maxStack := 5, maxLocals := 5, code := jdk_42_method_150_code, exceptionTable := #[], attributes := #[] }
def k7m9 : Method := { name := "<init>", desc := "(Ljava/lang/AbstractStringBuilder;Ljava/lang/Void;)V", sig := { parameters := [(.object "java/lang/AbstractStringBuilder"), (.object "java/lang/Void")], returnType := none }, accessFlags := 0, code := some k7c9 }
def k7c10 : Code := { maxStack := 1, maxLocals := 1, code := jdk_42_method_152_code, exceptionTable := #[], attributes := #[] }
def k7m10 : Method := { name := "coder", desc := "()B", sig := { parameters := [], returnType := some .byte }, accessFlags := 0, code := some k7c10 }
def k7c11 : Code := { maxStack := 1, maxLocals := 1, code := jdk_42_method_154_code, exceptionTable := #[], attributes := #[] }
def k7m11 : Method := { name := "isLatin1", desc := "()Z", sig := { parameters := [], returnType := some .boolean }, accessFlags := 0, code := some k7c11 }
def k7c12 : Code := { maxStack := 3, maxLocals := 2, code := jdk_42_method_155_code, exceptionTable := #[], attributes := #[] }
def k7m12 : Method := { name := "checkIndex", desc := "(II)V", sig := { parameters := [.int, .int], returnType := none }, accessFlags := 8, code := some k7c12 }
def k7c13 : Code := { maxStack := 4, maxLocals := 3, code := jdk_42_method_157_code, exceptionTable := #[], attributes := #[] }
def k7m13 : Method := { name := "checkBoundsOffCount", desc := "(III)I", sig := { parameters := [.int, .int, .int], returnType := some .int }, accessFlags := 8, code := some k7c13 }
/-- java/lang/String -/
def k7 : Class := { plain "java/lang/String" (some 0) with
  accessFlags := 49
  interfaces := #[2, 3, 4, 5, 6]
  cf := some (fileOf pool7 10 #[.nestMembers #[1103]] #[{ accessFlags := 1, nameIndex := 5, descriptorIndex := 6, attributes := #[] }, { accessFlags := 1, nameIndex := 5, descriptorIndex := 1010, attributes := #[] }, { accessFlags := 1, nameIndex := 5, descriptorIndex := 70, attributes := #[] }, { accessFlags := 1, nameIndex := 5, descriptorIndex := 1233, attributes := #[] }, { accessFlags := 1, nameIndex := 507, descriptorIndex := 334, attributes := #[] }, { accessFlags := 1, nameIndex := 497, descriptorIndex := 427, attributes := #[] }, { accessFlags := 1, nameIndex := 543, descriptorIndex := 573, attributes := #[] }, { accessFlags := 0, nameIndex := 532, descriptorIndex := 821, attributes := #[] }, { accessFlags := 2, nameIndex := 5, descriptorIndex := 29, attributes := #[] }, { accessFlags := 0, nameIndex := 5, descriptorIndex := 491, attributes := #[] }, { accessFlags := 0, nameIndex := 17, descriptorIndex := 337, attributes := #[] }, { accessFlags := 0, nameIndex := 494, descriptorIndex := 142, attributes := #[] }, { accessFlags := 8, nameIndex := 501, descriptorIndex := 391, attributes := #[] }, { accessFlags := 8, nameIndex := 36, descriptorIndex := 37, attributes := #[] }] 49 2 #[1106, 1108, 575, 1110, 1112] #[{ accessFlags := 18, nameIndex := 13, descriptorIndex := 14, attributes := #[] }, { accessFlags := 18, nameIndex := 17, descriptorIndex := 18, attributes := #[] }, { accessFlags := 2, nameIndex := 21, descriptorIndex := 22, attributes := #[] }, { accessFlags := 2, nameIndex := 25, descriptorIndex := 26, attributes := #[] }, { accessFlags := 26, nameIndex := 1116, descriptorIndex := 1117, attributes := #[] }, { accessFlags := 24, nameIndex := 40, descriptorIndex := 26, attributes := #[] }, { accessFlags := 26, nameIndex := 1101, descriptorIndex := 1102, attributes := #[] }, { accessFlags := 26, nameIndex := 1121, descriptorIndex := 1122, attributes := #[] }, { accessFlags := 25, nameIndex := 599, descriptorIndex := 600, attributes := #[] }, { accessFlags := 24, nameIndex := 1125, descriptorIndex := 18, attributes := #[] }, { accessFlags := 24, nameIndex := 1127, descriptorIndex := 18, attributes := #[] }])
  fields := #[{ name := "value", type := (.array .byte), accessFlags := 18, slot := 0, constantValue := 0 }, { name := "coder", type := .byte, accessFlags := 18, slot := 1, constantValue := 0 }, { name := "hash", type := .int, accessFlags := 2, slot := 2, constantValue := 0 }, { name := "hashIsZero", type := .boolean, accessFlags := 2, slot := 3, constantValue := 0 }, { name := "serialVersionUID", type := .long, accessFlags := 26, slot := 0, constantValue := 0 }, { name := "COMPACT_STRINGS", type := .boolean, accessFlags := 24, slot := 1, constantValue := 0 }, { name := "serialPersistentFields", type := (.array (.object "java/io/ObjectStreamField")), accessFlags := 26, slot := 2, constantValue := 0 }, { name := "REPL", type := .char, accessFlags := 26, slot := 3, constantValue := 0 }, { name := "CASE_INSENSITIVE_ORDER", type := (.object "java/util/Comparator"), accessFlags := 25, slot := 4, constantValue := 0 }, { name := "LATIN1", type := .byte, accessFlags := 24, slot := 5, constantValue := 0 }, { name := "UTF16", type := .byte, accessFlags := 24, slot := 6, constantValue := 0 }]
  methods := #[k7m0, k7m1, k7m2, k7m3, k7m4, k7m5, k7m6, k7m7, k7m8, k7m9, k7m10, k7m11, k7m12, k7m13]
  instanceTypes := #[(.array .byte), .byte, .int, .boolean]
  staticTypes := #[.long, .boolean, (.array (.object "java/io/ObjectStreamField")), .char, (.object "java/util/Comparator"), .byte, .byte]
  resolved := Array.replicate 1451 none
  statics := some 0 }

def pool8 : Array CpInfo := pool [(3, .class_ 4), (0, u "java/lang/String"), (1, .class_ 8), (1, u "java/lang/Object"), (0, u "<init>"), (0, u "()V"), (0, .methodref 12 13), (0, .class_ 14), (0, .nameAndType 15 16), (0, u "java/lang/StringUTF16"), (0, u "newBytesLength"), (0, u "(I)I"), (3, .integer 1073741823), (23, .fieldref 12 45), (0, .nameAndType 46 47), (0, u "$assertionsDisabled"), (0, u "Z"), (0, .methodref 12 49), (0, .nameAndType 50 51), (0, u "length"), (0, u "([B)I"), (7, .fieldref 12 60), (0, .nameAndType 61 62), (0, u "HI_BYTE_SHIFT"), (0, u "I"), (0, .fieldref 12 64), (0, .nameAndType 65 62), (0, u "LO_BYTE_SHIFT"), (1, .methodref 12 68), (0, .nameAndType 69 70), (0, u "checkIndex"), (0, u "(I[B)V"), (0, .methodref 12 72), (0, .nameAndType 73 74), (0, u "getChar"), (0, u "([BI)C"), (24, u "(II[B)V"), (7, .methodref 12 108), (0, .nameAndType 109 110), (0, u "newBytesFor"), (0, u "(I)[B"), (0, .methodref 12 112), (0, .nameAndType 113 114), (0, u "putChar"), (0, u "([BII)V"), (0, .methodref 12 116), (0, .nameAndType 117 118), (0, u "compress"), (0, u "([CI[BII)I"), (0, .methodref 12 120), (0, .nameAndType 121 122), (0, u "toBytes"), (0, u "([CII)[B"), (17, u "inflate"), (0, u "([BI[BII)V"), (31, .methodref 12 174), (0, .nameAndType 175 99), (0, u "checkBoundsOffCount"), (85, u "coderFromArrayLen"), (0, u "([BI)B"), (18, u "(III)I"), (87, .class_ 371), (1, u "java/lang/StringUTF16$LinesSpliterator"), (20, u "charAt"), (21, .methodref 3 415), (0, .nameAndType 69 416), (0, u "(II)V"), (2, .methodref 3 420), (0, .nameAndType 175 281), (9, u "MAX_LENGTH"), (196, .class_ 628), (0, u "java/lang/StringUTF16$CodePointsSpliterator"), (0, .class_ 630), (0, u "java/lang/StringUTF16$CharsSpliterator")] 4

def k8m0 : Method := { name := "<init>", desc := "()V", sig := { parameters := [], returnType := none }, accessFlags := 0, code := none }
def k8c1 : Code := { maxStack := 1, maxLocals := 1, code := jdk_52_method_2_code, exceptionTable := #[], attributes := #[] }
def k8m1 : Method := { name := "newBytesFor", desc := "(I)[B", sig := { parameters := [.int], returnType := some (.array .byte) }, accessFlags := 9, code := some k8c1 }
def k8c2 : Code := { maxStack := 4, maxLocals := 1, code := jdk_52_method_3_code, exceptionTable := #[], attributes := #[] }
def k8m2 : Method := { name := "newBytesLength", desc := "(I)I", sig := { parameters := [.int], returnType := some .int }, accessFlags := 9, code := some k8c2 }
def k8c3 : Code := { maxStack := 4, maxLocals := 3, code := jdk_52_method_4_code, exceptionTable := #[], attributes := #[] }
def k8m3 : Method := { name := "putChar", desc := "([BII)V", sig := { parameters := [(.array .byte), .int, .int], returnType := none }, accessFlags := 8, code := some k8c3 }
def k8c4 : Code := { maxStack := 3, maxLocals := 2, code := jdk_52_method_5_code, exceptionTable := #[], attributes := #[] }
def k8m4 : Method := { name := "getChar", desc := "([BI)C", sig := { parameters := [(.array .byte), .int], returnType := some .char }, accessFlags := 8, code := some k8c4 }
def k8c5 : Code := { maxStack := 2, maxLocals := 1, code := jdk_52_method_6_code, exceptionTable := #[], attributes := #[] }
def k8m5 : Method := { name := "length", desc := "([B)I", sig := { parameters := [(.array .byte)], returnType := some .int }, accessFlags := 9, code := some k8c5 }
def k8c6 : Code := { maxStack := 4, maxLocals := 5, code := jdk_52_method_14_code, exceptionTable := #[], attributes := #[] }
def k8m6 : Method := { name := "toBytes", desc := "([CII)[B", sig := { parameters := [(.array .char), .int, .int], returnType := some (.array .byte) }, accessFlags := 9, code := some k8c6 }
def k8c7 : Code := { maxStack := 2, maxLocals := 2, code := jdk_52_method_15_code, exceptionTable := #[], attributes := #[] }
def k8m7 : Method := { name := "coderFromArrayLen", desc := "([BI)B", sig := { parameters := [(.array .byte), .int], returnType := some .byte }, accessFlags := 8, code := some k8c7 }
def k8c8 : Code := { maxStack := 5, maxLocals := 6, code := jdk_52_method_16_code, exceptionTable := #[], attributes := #[] }
def k8m8 : Method := { name := "compress", desc := "([CII)[B", sig := { parameters := [(.array .char), .int, .int], returnType := some (.array .byte) }, accessFlags := 9, code := some k8c8 }
def k8c9 : Code := { maxStack := 3, maxLocals := 7, code := jdk_52_method_21_code, exceptionTable := #[], attributes := #[] }
def k8m9 : Method := { name := "compress", desc := "([CI[BII)I", sig := { parameters := [(.array .char), .int, (.array .byte), .int, .int], returnType := some .int }, accessFlags := 9, code := some k8c9 }
def k8c10 : Code := { maxStack := 2, maxLocals := 2, code := jdk_52_method_83_code, exceptionTable := #[], attributes := #[] }
def k8m10 : Method := { name := "charAt", desc := "([BI)C", sig := { parameters := [(.array .byte), .int], returnType := some .char }, accessFlags := 9, code := some k8c10 }
def k8c11 : Code := { maxStack := 4, maxLocals := 6, code := jdk_52_method_86_code, exceptionTable := #[], attributes := #[] }
def k8m11 : Method := { name := "inflate", desc := "([BI[BII)V", sig := { parameters := [(.array .byte), .int, (.array .byte), .int, .int], returnType := none }, accessFlags := 9, code := some k8c11 }
def k8c12 : Code := { maxStack := 2, maxLocals := 2, code := jdk_52_method_91_code, exceptionTable := #[], attributes := #[] }
def k8m12 : Method := { name := "checkIndex", desc := "(I[B)V", sig := { parameters := [.int, (.array .byte)], returnType := none }, accessFlags := 9, code := some k8c12 }
def k8c13 : Code := { maxStack := 3, maxLocals := 3, code := jdk_52_method_94_code, exceptionTable := #[], attributes := #[] }
def k8m13 : Method := { name := "checkBoundsOffCount", desc := "(II[B)V", sig := { parameters := [.int, .int, (.array .byte)], returnType := none }, accessFlags := 9, code := some k8c13 }
/-- java/lang/StringUTF16 -/
def k8 : Class := { plain "java/lang/StringUTF16" (some 0) with
  accessFlags := 48
  interfaces := #[]
  cf := some (fileOf pool8 12 #[.nestMembers #[627, 629, 369]] #[{ accessFlags := 0, nameIndex := 9, descriptorIndex := 10, attributes := #[] }, { accessFlags := 9, nameIndex := 109, descriptorIndex := 110, attributes := #[] }, { accessFlags := 9, nameIndex := 15, descriptorIndex := 16, attributes := #[] }, { accessFlags := 8, nameIndex := 113, descriptorIndex := 114, attributes := #[] }, { accessFlags := 8, nameIndex := 73, descriptorIndex := 74, attributes := #[] }, { accessFlags := 9, nameIndex := 50, descriptorIndex := 51, attributes := #[] }, { accessFlags := 9, nameIndex := 121, descriptorIndex := 122, attributes := #[] }, { accessFlags := 8, nameIndex := 261, descriptorIndex := 262, attributes := #[] }, { accessFlags := 9, nameIndex := 117, descriptorIndex := 122, attributes := #[] }, { accessFlags := 9, nameIndex := 117, descriptorIndex := 118, attributes := #[] }, { accessFlags := 9, nameIndex := 392, descriptorIndex := 74, attributes := #[] }, { accessFlags := 9, nameIndex := 140, descriptorIndex := 141, attributes := #[] }, { accessFlags := 9, nameIndex := 69, descriptorIndex := 70, attributes := #[] }, { accessFlags := 9, nameIndex := 175, descriptorIndex := 99, attributes := #[] }] 48 6 #[] #[{ accessFlags := 26, nameIndex := 61, descriptorIndex := 62, attributes := #[] }, { accessFlags := 26, nameIndex := 65, descriptorIndex := 62, attributes := #[] }, { accessFlags := 24, nameIndex := 430, descriptorIndex := 62, attributes := #[] }, { accessFlags := 4120, nameIndex := 46, descriptorIndex := 47, attributes := #[] }])
  fields := #[{ name := "HI_BYTE_SHIFT", type := .int, accessFlags := 26, slot := 0, constantValue := 0 }, { name := "LO_BYTE_SHIFT", type := .int, accessFlags := 26, slot := 1, constantValue := 0 }, { name := "MAX_LENGTH", type := .int, accessFlags := 24, slot := 2, constantValue := 0 }, { name := "$assertionsDisabled", type := .boolean, accessFlags := 4120, slot := 3, constantValue := 0 }]
  methods := #[k8m0, k8m1, k8m2, k8m3, k8m4, k8m5, k8m6, k8m7, k8m8, k8m9, k8m10, k8m11, k8m12, k8m13]
  instanceTypes := #[]
  staticTypes := #[.int, .int, .int, .boolean]
  resolved := Array.replicate 635 none
  statics := some 1 }

def pool9 : Array CpInfo := pool [(1, .class_ 2), (0, u "java/lang/Math"), (1, .class_ 6), (1, u "java/lang/Object"), (0, u "<init>"), (0, u "()V"), (89, .class_ 100), (1, u "java/lang/Math$RandomNumberGeneratorHolder"), (19, u "multiplyExact"), (51, u "negativeZeroFloatBits"), (0, u "J"), (2, u "negativeZeroDoubleBits"), (21, u "max"), (2, u "min"), (43, u "$assertionsDisabled"), (0, u "Z"), (88, u "(II)I"), (2, u "twoToTheDoubleScaleDown"), (0, u "D"), (4, u "twoToTheDoubleScaleUp"), (9, u "E"), (3, u "PI"), (2, u "TAU"), (2, u "DEGREES_TO_RADIANS"), (0, u "RADIANS_TO_DEGREES"), (27, u "addExact")] 66

def k9m0 : Method := { name := "<init>", desc := "()V", sig := { parameters := [], returnType := none }, accessFlags := 2, code := none }
def k9c1 : Code := { maxStack := 3, maxLocals := 3, code := jdk_29_method_24_code, exceptionTable := #[], attributes := #[] }
def k9m1 : Method := { name := "addExact", desc := "(II)I", sig := { parameters := [.int, .int], returnType := some .int }, accessFlags := 9, code := some k9c1 }
def k9c2 : Code := { maxStack := 4, maxLocals := 4, code := jdk_29_method_28_code, exceptionTable := #[], attributes := #[] }
def k9m2 : Method := { name := "multiplyExact", desc := "(II)I", sig := { parameters := [.int, .int], returnType := some .int }, accessFlags := 9, code := some k9c2 }
def k9c3 : Code := { maxStack := 2, maxLocals := 2, code := jdk_29_method_65_code, exceptionTable := #[], attributes := #[] }
def k9m3 : Method := { name := "max", desc := "(II)I", sig := { parameters := [.int, .int], returnType := some .int }, accessFlags := 9, code := some k9c3 }
def k9c4 : Code := { maxStack := 2, maxLocals := 2, code := jdk_29_method_69_code, exceptionTable := #[], attributes := #[] }
def k9m4 : Method := { name := "min", desc := "(II)I", sig := { parameters := [.int, .int], returnType := some .int }, accessFlags := 9, code := some k9c4 }
/-- java/lang/Math -/
def k9 : Class := { plain "java/lang/Math" (some 0) with
  accessFlags := 49
  interfaces := #[]
  cf := some (fileOf pool9 1 #[.nestMembers #[98]] #[{ accessFlags := 2, nameIndex := 7, descriptorIndex := 8, attributes := #[] }, { accessFlags := 9, nameIndex := 393, descriptorIndex := 335, attributes := #[] }, { accessFlags := 9, nameIndex := 120, descriptorIndex := 335, attributes := #[] }, { accessFlags := 9, nameIndex := 198, descriptorIndex := 335, attributes := #[] }, { accessFlags := 9, nameIndex := 201, descriptorIndex := 335, attributes := #[] }] 49 4 #[] #[{ accessFlags := 25, nameIndex := 354, descriptorIndex := 339, attributes := #[] }, { accessFlags := 25, nameIndex := 358, descriptorIndex := 339, attributes := #[] }, { accessFlags := 25, nameIndex := 361, descriptorIndex := 339, attributes := #[] }, { accessFlags := 26, nameIndex := 364, descriptorIndex := 339, attributes := #[] }, { accessFlags := 26, nameIndex := 365, descriptorIndex := 339, attributes := #[] }, { accessFlags := 26, nameIndex := 172, descriptorIndex := 173, attributes := #[] }, { accessFlags := 26, nameIndex := 176, descriptorIndex := 173, attributes := #[] }, { accessFlags := 8, nameIndex := 344, descriptorIndex := 339, attributes := #[] }, { accessFlags := 8, nameIndex := 338, descriptorIndex := 339, attributes := #[] }, { accessFlags := 4120, nameIndex := 245, descriptorIndex := 246, attributes := #[] }])
  fields := #[{ name := "E", type := .double, accessFlags := 25, slot := 0, constantValue := 0 }, { name := "PI", type := .double, accessFlags := 25, slot := 1, constantValue := 0 }, { name := "TAU", type := .double, accessFlags := 25, slot := 2, constantValue := 0 }, { name := "DEGREES_TO_RADIANS", type := .double, accessFlags := 26, slot := 3, constantValue := 0 }, { name := "RADIANS_TO_DEGREES", type := .double, accessFlags := 26, slot := 4, constantValue := 0 }, { name := "negativeZeroFloatBits", type := .long, accessFlags := 26, slot := 5, constantValue := 0 }, { name := "negativeZeroDoubleBits", type := .long, accessFlags := 26, slot := 6, constantValue := 0 }, { name := "twoToTheDoubleScaleUp", type := .double, accessFlags := 8, slot := 7, constantValue := 0 }, { name := "twoToTheDoubleScaleDown", type := .double, accessFlags := 8, slot := 8, constantValue := 0 }, { name := "$assertionsDisabled", type := .boolean, accessFlags := 4120, slot := 9, constantValue := 0 }]
  methods := #[k9m0, k9m1, k9m2, k9m3, k9m4]
  instanceTypes := #[]
  staticTypes := #[.double, .double, .double, .double, .double, .long, .long, .double, .double, .boolean]
  resolved := Array.replicate 460 none
  statics := none }

def pool10 : Array CpInfo := pool [(2, .class_ 4), (0, .nameAndType 5 6), (0, u "java/lang/Object"), (0, u "<init>"), (0, u "()V"), (0, .class_ 8), (0, u "java/lang/StringBuilder"), (0, .methodref 7 3), (0, .string 11), (0, u "-----BEGIN "), (0, .methodref 7 13), (0, .nameAndType 14 15), (0, u "append"), (0, u "(Ljava/lang/String;)Ljava/lang/StringBuilder;"), (10, .methodref 7 27), (0, .nameAndType 28 29), (0, u "toString"), (0, u "()Ljava/lang/String;"), (21, .class_ 53), (1, u "java/util/Base64"), (26, .class_ 81), (0, u "com/example/tuikuan/tuikuan/Pem"), (0, .methodref 51 83), (0, .nameAndType 84 85), (0, u "getMimeEncoder"), (0, u "(I[B)Ljava/util/Base64$Encoder;"), (0, .methodref 87 88), (0, .class_ 89), (0, .nameAndType 90 91), (0, u "java/util/Base64$Encoder"), (0, u "encodeToString"), (0, u "([B)Ljava/lang/String;"), (0, .string 93), (0, u "-----\n"), (0, .string 95), (0, u "\n-----END "), (0, u "MAX_FILE_BYTES"), (0, u "I"), (2, u "LINE_CHARACTERS"), (7, u "encode"), (0, u "(Ljava/lang/String;[B)Ljava/lang/String;")] 5

def k10m0 : Method := { name := "<init>", desc := "()V", sig := { parameters := [], returnType := none }, accessFlags := 2, code := none }
def k10c1 : Code := { maxStack := 5, maxLocals := 3, code := prog_20_method_3_code, exceptionTable := #[], attributes := #[] }
def k10m1 : Method := { name := "encode", desc := "(Ljava/lang/String;[B)Ljava/lang/String;", sig := { parameters := [(.object "java/lang/String"), (.array .byte)], returnType := some (.object "java/lang/String") }, accessFlags := 8, code := some k10c1 }
/-- com/example/tuikuan/tuikuan/Pem -/
def k10 : Class := { plain "com/example/tuikuan/tuikuan/Pem" (some 0) with
  accessFlags := 32
  interfaces := #[]
  cf := some (fileOf pool10 80 #[] #[{ accessFlags := 2, nameIndex := 5, descriptorIndex := 6, attributes := #[] }, { accessFlags := 8, nameIndex := 108, descriptorIndex := 109, attributes := #[] }] 32 2 #[] #[{ accessFlags := 24, nameIndex := 96, descriptorIndex := 97, attributes := #[] }, { accessFlags := 26, nameIndex := 100, descriptorIndex := 97, attributes := #[] }])
  fields := #[{ name := "MAX_FILE_BYTES", type := .int, accessFlags := 24, slot := 0, constantValue := 0 }, { name := "LINE_CHARACTERS", type := .int, accessFlags := 26, slot := 1, constantValue := 0 }]
  methods := #[k10m0, k10m1]
  instanceTypes := #[]
  staticTypes := #[.int, .int]
  resolved := Array.replicate 115 none
  statics := none }

def pool11 : Array CpInfo := pool [(2, .class_ 4), (1, u "java/lang/Object"), (0, u "<init>"), (0, u "()V"), (1, .class_ 10), (1, u "java/util/Base64$Encoder"), (8, .methodref 20 21), (0, .class_ 22), (0, .nameAndType 23 24), (0, u "java/util/Objects"), (0, u "requireNonNull"), (0, u "(Ljava/lang/Object;)Ljava/lang/Object;"), (0, .fieldref 26 27), (0, .class_ 28), (0, .nameAndType 29 30), (0, u "java/util/Base64$Decoder"), (0, u "fromBase64"), (0, u "[I"), (23, .methodref 8 55), (0, .nameAndType 5 56), (0, u "(Z[BIZ)V"), (7, .class_ 65), (0, u "java/util/Base64"), (8, u "getMimeEncoder"), (0, u "(I[B)Ljava/util/Base64$Encoder;"), (17, .class_ 94), (0, u "java/util/Base64$DecInputStream"), (0, .class_ 96), (0, u "java/util/Base64$EncOutputStream")] 5

def k11m0 : Method := { name := "<init>", desc := "()V", sig := { parameters := [], returnType := none }, accessFlags := 2, code := none }
def k11c1 : Code := { maxStack := 6, maxLocals := 7, code := jdk_2448_method_5_code, exceptionTable := #[], attributes := #[] }
def k11m1 : Method := { name := "getMimeEncoder", desc := "(I[B)Ljava/util/Base64$Encoder;", sig := { parameters := [.int, (.array .byte)], returnType := some (.object "java/util/Base64$Encoder") }, accessFlags := 9, code := some k11c1 }
/-- java/util/Base64 -/
def k11 : Class := { plain "java/util/Base64" (some 0) with
  accessFlags := 33
  interfaces := #[]
  cf := some (fileOf pool11 64 #[.nestMembers #[93, 95, 26, 8]] #[{ accessFlags := 2, nameIndex := 5, descriptorIndex := 6, attributes := #[] }, { accessFlags := 9, nameIndex := 74, descriptorIndex := 75, attributes := #[] }] 33 2 #[] #[])
  fields := #[]
  methods := #[k11m0, k11m1]
  instanceTypes := #[]
  staticTypes := #[]
  resolved := (((Array.replicate 102 none).setIfInBounds 25 (some (.field 13 2))).setIfInBounds 54 (some (.method ⟨14, 0⟩))).setIfInBounds 8 (some (.cls 14))
  statics := none }

def pool12 : Array CpInfo := pool [(2, .class_ 4), (1, u "java/lang/Object"), (0, u "<init>"), (0, u "()V"), (35, .class_ 44), (1, u "java/util/Objects"), (0, u "requireNonNull"), (0, u "(Ljava/lang/Object;)Ljava/lang/Object;")] 137

def k12m0 : Method := { name := "<init>", desc := "()V", sig := { parameters := [], returnType := none }, accessFlags := 2, code := none }
def k12c1 : Code := { maxStack := 2, maxLocals := 1, code := jdk_31_method_10_code, exceptionTable := #[], attributes := #[] }
def k12m1 : Method := { name := "requireNonNull", desc := "(Ljava/lang/Object;)Ljava/lang/Object;", sig := { parameters := [(.object "java/lang/Object")], returnType := some (.object "java/lang/Object") }, accessFlags := 9, code := some k12c1 }
/-- java/util/Objects -/
def k12 : Class := { plain "java/util/Objects" (some 0) with
  accessFlags := 49
  interfaces := #[]
  cf := some (fileOf pool12 42 #[] #[{ accessFlags := 2, nameIndex := 5, descriptorIndex := 6, attributes := #[] }, { accessFlags := 9, nameIndex := 45, descriptorIndex := 46, attributes := #[] }] 49 2 #[] #[])
  fields := #[]
  methods := #[k12m0, k12m1]
  instanceTypes := #[]
  staticTypes := #[]
  resolved := Array.replicate 184 none
  statics := none }

def pool13 : Array CpInfo := pool [(2, .class_ 4), (1, u "java/lang/Object"), (3, .class_ 10), (1, u "java/util/Base64$Decoder"), (0, u "isURL"), (0, u "Z"), (2, u "isMIME"), (81, u "fromBase64URL"), (0, u "[I"), (2, u "fromBase64"), (58, u "RFC4648"), (0, u "Ljava/util/Base64$Decoder;"), (2, u "RFC4648_URLSAFE"), (2, u "RFC2045"), (52, .class_ 221), (0, u "java/util/Base64")] 4

/-- java/util/Base64$Decoder -/
def k13 : Class := { plain "java/util/Base64$Decoder" (some 0) with
  accessFlags := 33
  interfaces := #[]
  cf := some (fileOf pool13 8 #[.nestHost 220] #[] 33 2 #[] #[{ accessFlags := 18, nameIndex := 11, descriptorIndex := 12, attributes := #[] }, { accessFlags := 18, nameIndex := 15, descriptorIndex := 12, attributes := #[] }, { accessFlags := 26, nameIndex := 101, descriptorIndex := 98, attributes := #[] }, { accessFlags := 26, nameIndex := 97, descriptorIndex := 98, attributes := #[] }, { accessFlags := 24, nameIndex := 160, descriptorIndex := 161, attributes := #[] }, { accessFlags := 24, nameIndex := 164, descriptorIndex := 161, attributes := #[] }, { accessFlags := 24, nameIndex := 167, descriptorIndex := 161, attributes := #[] }])
  fields := #[{ name := "isURL", type := .boolean, accessFlags := 18, slot := 0, constantValue := 0 }, { name := "isMIME", type := .boolean, accessFlags := 18, slot := 1, constantValue := 0 }, { name := "fromBase64", type := (.array .int), accessFlags := 26, slot := 0, constantValue := 0 }, { name := "fromBase64URL", type := (.array .int), accessFlags := 26, slot := 1, constantValue := 0 }, { name := "RFC4648", type := (.object "java/util/Base64$Decoder"), accessFlags := 24, slot := 2, constantValue := 0 }, { name := "RFC4648_URLSAFE", type := (.object "java/util/Base64$Decoder"), accessFlags := 24, slot := 3, constantValue := 0 }, { name := "RFC2045", type := (.object "java/util/Base64$Decoder"), accessFlags := 24, slot := 4, constantValue := 0 }]
  methods := #[]
  instanceTypes := #[.boolean, .boolean]
  staticTypes := #[(.array .int), (.array .int), (.object "java/util/Base64$Decoder"), (.object "java/util/Base64$Decoder"), (.object "java/util/Base64$Decoder")]
  resolved := Array.replicate 226 none
  statics := some 2 }

def pool14 : Array CpInfo := pool [(1, .methodref 2 3), (0, .class_ 4), (0, .nameAndType 5 6), (0, u "java/lang/Object"), (0, u "<init>"), (0, u "()V"), (0, .fieldref 8 9), (0, .class_ 10), (0, .nameAndType 11 12), (0, u "java/util/Base64$Encoder"), (0, u "isURL"), (0, u "Z"), (0, .fieldref 8 14), (0, .nameAndType 15 16), (0, u "newline"), (0, u "[B"), (0, .fieldref 8 18), (0, .nameAndType 19 20), (0, u "linemax"), (0, u "I"), (0, .fieldref 8 22), (0, .nameAndType 23 12), (0, u "doPadding"), (0, .methodref 25 26), (0, .class_ 27), (0, .nameAndType 28 29), (0, u "java/lang/Math"), (0, u "addExact"), (0, u "(II)I"), (0, .methodref 25 31), (0, .nameAndType 32 29), (0, u "multiplyExact"), (9, .methodref 8 43), (0, .nameAndType 44 45), (0, u "encodedOutLength"), (0, u "(IZ)I"), (0, .methodref 8 47), (0, .nameAndType 48 49), (0, u "encode0"), (0, u "([BII[B)I"), (11, .methodref 8 62), (0, .nameAndType 63 64), (0, u "encode"), (0, u "([B)[B"), (0, .class_ 66), (0, u "java/lang/String"), (0, .methodref 65 68), (0, .nameAndType 5 69), (0, u "([BIII)V"), (43, u "toBase64URL"), (0, u "[C"), (0, .fieldref 8 116), (0, .nameAndType 117 114), (0, u "toBase64"), (5, u "(Z[BIZ)V"), (0, .methodref 25 125), (0, .nameAndType 126 29), (0, u "min"), (0, .methodref 8 128), (0, .nameAndType 129 130), (0, u "encodeBlock"), (0, u "([BII[BIZ)V"), (2, u "CRLF"), (2, u "RFC4648"), (0, u "Ljava/util/Base64$Encoder;"), (2, u "RFC4648_URLSAFE"), (2, u "RFC2045"), (0, u "MIMELINEMAX"), (18, u "encodeToString"), (0, u "([B)Ljava/lang/String;"), (34, .class_ 200), (0, u "java/util/Base64")] 3

def k14c0 : Code := { maxStack := 2, maxLocals := 5, code := jdk_2452_method_1_code, exceptionTable := #[], attributes := #[] }
def k14m0 : Method := { name := "<init>", desc := "(Z[BIZ)V", sig := { parameters := [.boolean, (.array .byte), .int, .boolean], returnType := none }, accessFlags := 2, code := some k14c0 }
def k14c1 : Code := { maxStack := 3, maxLocals := 5, code := jdk_2452_method_2_code, exceptionTable := #[{ startPc := 2, endPc := 79, handlerPc := 82, catchType := 33 }], attributes := #[] }
def k14m1 : Method := { name := "encodedOutLength", desc := "(IZ)I", sig := { parameters := [.int, .boolean], returnType := some .int }, accessFlags := 18, code := some k14c1 }
def k14c2 : Code := { maxStack := 5, maxLocals := 5, code := jdk_2452_method_3_code, exceptionTable := #[], attributes := #[] }
def k14m2 : Method := { name := "encode", desc := "([B)[B", sig := { parameters := [(.array .byte)], returnType := some (.array .byte) }, accessFlags := 1, code := some k14c2 }
def k14c3 : Code := { maxStack := 6, maxLocals := 3, code := jdk_2452_method_5_code, exceptionTable := #[], attributes := #[] }
def k14m3 : Method := { name := "encodeToString", desc := "([B)Ljava/lang/String;", sig := { parameters := [(.array .byte)], returnType := some (.object "java/lang/String") }, accessFlags := 1, code := some k14c3 }
def k14c4 : Code := { maxStack := 5, maxLocals := 11, code := jdk_2452_method_9_code, exceptionTable := #[], attributes := #[] }
def k14m4 : Method := { name := "encodeBlock", desc := "([BII[BIZ)V", sig := { parameters := [(.array .byte), .int, .int, (.array .byte), .int, .boolean], returnType := none }, accessFlags := 2, code := some k14c4 }
def k14c5 : Code := { maxStack := 7, maxLocals := 16, code := jdk_2452_method_10_code, exceptionTable := #[], attributes := #[] }
def k14m5 : Method := { name := "encode0", desc := "([BII[B)I", sig := { parameters := [(.array .byte), .int, .int, (.array .byte)], returnType := some .int }, accessFlags := 2, code := some k14c5 }
/-- java/util/Base64$Encoder -/
def k14 : Class := { plain "java/util/Base64$Encoder" (some 0) with
  accessFlags := 33
  interfaces := #[]
  cf := some (fileOf pool14 8 #[.nestHost 199] #[{ accessFlags := 2, nameIndex := 5, descriptorIndex := 123, attributes := #[] }, { accessFlags := 18, nameIndex := 44, descriptorIndex := 45, attributes := #[] }, { accessFlags := 1, nameIndex := 63, descriptorIndex := 64, attributes := #[] }, { accessFlags := 1, nameIndex := 163, descriptorIndex := 164, attributes := #[] }, { accessFlags := 2, nameIndex := 129, descriptorIndex := 130, attributes := #[] }, { accessFlags := 2, nameIndex := 48, descriptorIndex := 49, attributes := #[] }] 33 2 #[] #[{ accessFlags := 18, nameIndex := 15, descriptorIndex := 16, attributes := #[] }, { accessFlags := 18, nameIndex := 19, descriptorIndex := 20, attributes := #[] }, { accessFlags := 18, nameIndex := 11, descriptorIndex := 12, attributes := #[] }, { accessFlags := 18, nameIndex := 23, descriptorIndex := 12, attributes := #[] }, { accessFlags := 26, nameIndex := 117, descriptorIndex := 114, attributes := #[] }, { accessFlags := 26, nameIndex := 113, descriptorIndex := 114, attributes := #[] }, { accessFlags := 26, nameIndex := 144, descriptorIndex := 20, attributes := #[] }, { accessFlags := 26, nameIndex := 133, descriptorIndex := 16, attributes := #[] }, { accessFlags := 24, nameIndex := 136, descriptorIndex := 137, attributes := #[] }, { accessFlags := 24, nameIndex := 140, descriptorIndex := 137, attributes := #[] }, { accessFlags := 24, nameIndex := 143, descriptorIndex := 137, attributes := #[] }])
  fields := #[{ name := "newline", type := (.array .byte), accessFlags := 18, slot := 0, constantValue := 0 }, { name := "linemax", type := .int, accessFlags := 18, slot := 1, constantValue := 0 }, { name := "isURL", type := .boolean, accessFlags := 18, slot := 2, constantValue := 0 }, { name := "doPadding", type := .boolean, accessFlags := 18, slot := 3, constantValue := 0 }, { name := "toBase64", type := (.array .char), accessFlags := 26, slot := 0, constantValue := 0 }, { name := "toBase64URL", type := (.array .char), accessFlags := 26, slot := 1, constantValue := 0 }, { name := "MIMELINEMAX", type := .int, accessFlags := 26, slot := 2, constantValue := 0 }, { name := "CRLF", type := (.array .byte), accessFlags := 26, slot := 3, constantValue := 0 }, { name := "RFC4648", type := (.object "java/util/Base64$Encoder"), accessFlags := 24, slot := 4, constantValue := 0 }, { name := "RFC4648_URLSAFE", type := (.object "java/util/Base64$Encoder"), accessFlags := 24, slot := 5, constantValue := 0 }, { name := "RFC2045", type := (.object "java/util/Base64$Encoder"), accessFlags := 24, slot := 6, constantValue := 0 }]
  methods := #[k14m0, k14m1, k14m2, k14m3, k14m4, k14m5]
  instanceTypes := #[(.array .byte), .int, .boolean, .boolean]
  staticTypes := #[(.array .char), (.array .char), .int, (.array .byte), (.object "java/util/Base64$Encoder"), (.object "java/util/Base64$Encoder"), (.object "java/util/Base64$Encoder")]
  resolved := Array.replicate 204 none
  statics := some 3 }

def pool15 : Array CpInfo := pool [(2, .class_ 4), (1, u "java/lang/Object"), (0, u "<init>"), (0, u "()V"), (17, .class_ 26), (1, u "jdk/internal/util/Preconditions"), (6, u "checkIndex"), (15, u "checkFromIndexSize"), (5, .class_ 56), (0, u "jdk/internal/util/Preconditions$4"), (57, .class_ 115), (0, u "jdk/internal/util/Preconditions$1"), (7, u "SIOOBE_FORMATTER"), (0, u "Ljava/util/function/BiFunction;"), (0, .class_ 126), (0, u "jdk/internal/util/Preconditions$2"), (3, u "AIOOBE_FORMATTER"), (0, .class_ 132), (0, u "jdk/internal/util/Preconditions$3"), (3, u "IOOBE_FORMATTER"), (41, u "(IILjava/util/function/BiFunction;)I"), (4, u "(IIILjava/util/function/BiFunction;)I")] 10

def k15m0 : Method := { name := "<init>", desc := "()V", sig := { parameters := [], returnType := none }, accessFlags := 1, code := none }
def k15c1 : Code := { maxStack := 3, maxLocals := 3, code := jdk_41_method_11_code, exceptionTable := #[], attributes := #[] }
def k15m1 : Method := { name := "checkIndex", desc := "(IILjava/util/function/BiFunction;)I", sig := { parameters := [.int, .int, (.object "java/util/function/BiFunction")], returnType := some .int }, accessFlags := 9, code := some k15c1 }
def k15c2 : Code := { maxStack := 4, maxLocals := 4, code := jdk_41_method_13_code, exceptionTable := #[], attributes := #[] }
def k15m2 : Method := { name := "checkFromIndexSize", desc := "(IIILjava/util/function/BiFunction;)I", sig := { parameters := [.int, .int, .int, (.object "java/util/function/BiFunction")], returnType := some .int }, accessFlags := 9, code := some k15c2 }
/-- jdk/internal/util/Preconditions -/
def k15 : Class := { plain "jdk/internal/util/Preconditions" (some 0) with
  accessFlags := 33
  interfaces := #[]
  cf := some (fileOf pool15 24 #[.nestMembers #[55, 131, 125, 114]] #[{ accessFlags := 1, nameIndex := 5, descriptorIndex := 6, attributes := #[] }, { accessFlags := 9, nameIndex := 33, descriptorIndex := 178, attributes := #[] }, { accessFlags := 9, nameIndex := 49, descriptorIndex := 183, attributes := #[] }] 33 2 #[] #[{ accessFlags := 25, nameIndex := 123, descriptorIndex := 124, attributes := #[] }, { accessFlags := 25, nameIndex := 130, descriptorIndex := 124, attributes := #[] }, { accessFlags := 25, nameIndex := 136, descriptorIndex := 124, attributes := #[] }])
  fields := #[{ name := "SIOOBE_FORMATTER", type := (.object "java/util/function/BiFunction"), accessFlags := 25, slot := 0, constantValue := 0 }, { name := "AIOOBE_FORMATTER", type := (.object "java/util/function/BiFunction"), accessFlags := 25, slot := 1, constantValue := 0 }, { name := "IOOBE_FORMATTER", type := (.object "java/util/function/BiFunction"), accessFlags := 25, slot := 2, constantValue := 0 }]
  methods := #[k15m0, k15m1, k15m2]
  instanceTypes := #[]
  staticTypes := #[(.object "java/util/function/BiFunction"), (.object "java/util/function/BiFunction"), (.object "java/util/function/BiFunction")]
  resolved := Array.replicate 194 none
  statics := some 4 }

def pool16 : Array CpInfo := pool [(1, .class_ 2), (0, u "java/lang/Appendable"), (0, .class_ 4), (0, u "java/lang/Object")] 9

/-- java/lang/Appendable -/
def k16 : Class := { plain "java/lang/Appendable" (some 0) with
  accessFlags := 1537
  interfaces := #[]
  cf := some (fileOf pool16 1 #[] #[] 1537 3 #[] #[])
  fields := #[]
  methods := #[]
  instanceTypes := #[]
  staticTypes := #[]
  resolved := Array.replicate 14 none
  statics := none }

def pool17 : Array CpInfo := pool [(1, .class_ 2), (0, u "java/lang/String"), (0, .methodref 4 5), (0, .class_ 6), (0, .nameAndType 7 8), (0, u "java/lang/Object"), (0, u "<init>"), (0, u "()V"), (1, .class_ 12), (1, u "java/lang/AbstractStringBuilder"), (0, u "EMPTYVALUE"), (0, u "[B"), (0, .fieldref 10 16), (0, .nameAndType 17 14), (0, u "value"), (0, .fieldref 1 19), (0, .nameAndType 20 21), (0, u "COMPACT_STRINGS"), (0, u "Z"), (0, .fieldref 10 23), (0, .nameAndType 24 25), (0, u "coder"), (0, u "B"), (0, .methodref 27 28), (0, .class_ 29), (0, .nameAndType 30 31), (0, u "java/lang/StringUTF16"), (0, u "newBytesFor"), (0, u "(I)[B"), (0, .methodref 1 33), (0, .nameAndType 34 35), (0, u "length"), (0, u "()I"), (3, .integer 2147483647), (0, .methodref 1 41), (0, .nameAndType 24 42), (0, u "()B"), (2, u "append"), (0, u "(Ljava/lang/String;)Ljava/lang/AbstractStringBuilder;"), (1, .class_ 49), (0, u "java/lang/CharSequence"), (19, u "(Ljava/lang/String;)V"), (5, u "maybeLatin1"), (3, .fieldref 10 80), (0, .nameAndType 81 82), (0, u "count"), (0, u "I"), (0, .methodref 10 84), (0, .nameAndType 85 86), (0, u "isLatin1"), (0, u "()Z"), (1, .class_ 90), (1, u "java/lang/StringLatin1"), (9, .methodref 10 101), (0, .nameAndType 102 103), (0, u "ensureCapacityInternal"), (0, u "(I)V"), (0, .methodref 10 105), (0, .nameAndType 106 107), (0, u "newCapacity"), (0, u "(I)I"), (0, .methodref 109 110), (0, .class_ 111), (0, .nameAndType 112 113), (0, u "java/util/Arrays"), (0, u "copyOf"), (0, u "([BI)[B"), (0, .methodref 115 116), (0, .class_ 117), (0, .nameAndType 118 119), (0, u "jdk/internal/util/ArraysSupport"), (0, u "newLength"), (0, u "(III)I"), (5, .methodref 88 126), (0, .nameAndType 127 128), (0, u "inflate"), (0, u "([BI[BII)V"), (66, .methodref 10 196), (0, .nameAndType 127 8), (11, .methodref 10 209), (0, .nameAndType 210 211), (0, u "putStringAt"), (0, u "(ILjava/lang/String;)V"), (5, u "inflateIfNeededFor"), (2, .nameAndType 221 222), (0, u "getBytes"), (0, u "([BIB)V"), (174, .methodref 10 398), (0, .nameAndType 217 69), (0, .methodref 1 220), (3, u "()[B"), (40, .class_ 445), (0, u "java/lang/Appendable"), (106, u "getValue")] 56

def k17m0 : Method := { name := "<init>", desc := "()V", sig := { parameters := [], returnType := none }, accessFlags := 0, code := none }
def k17c1 : Code := { maxStack := 2, maxLocals := 2, code := jdk_68_method_2_code, exceptionTable := #[], attributes := #[] }
def k17m1 : Method := { name := "<init>", desc := "(I)V", sig := { parameters := [.int], returnType := none }, accessFlags := 0, code := some k17c1 }
def k17c2 : Code := { maxStack := 1, maxLocals := 1, code := jdk_68_method_6_code, exceptionTable := #[], attributes := #[] }
def k17m2 : Method := { name := "length", desc := "()I", sig := { parameters := [], returnType := some .int }, accessFlags := 1, code := some k17c2 }
def k17c3 : Code := { maxStack := 4, maxLocals := 3, code := jdk_68_method_9_code, exceptionTable := #[], attributes := #[] }
def k17m3 : Method := { name := "ensureCapacityInternal", desc := "(I)V", sig := { parameters := [.int], returnType := none }, accessFlags := 2, code := some k17c3 }
def k17c4 : Code := { maxStack := 5, maxLocals := 6, code := jdk_68_method_10_code, exceptionTable := #[], attributes := #[] }
def k17m4 : Method := { name := "newCapacity", desc := "(I)I", sig := { parameters := [.int], returnType := some .int }, accessFlags := 2, code := some k17c4 }
def k17c5 : Code := { maxStack := 5, maxLocals := 2, code := jdk_68_method_11_code, exceptionTable := #[], attributes := #[] }
def k17m5 : Method := { name := "inflate", desc := "()V", sig := { parameters := [], returnType := none }, accessFlags := 2, code := some k17c5 }
def k17c6 : Code := { maxStack := 3, maxLocals := 3, code := jdk_68_method_22_code, exceptionTable := #[], attributes := #[] }
def k17m6 : Method := { name := "append", desc := "(Ljava/lang/String;)Ljava/lang/AbstractStringBuilder;", sig := { parameters := [(.object "java/lang/String")], returnType := some (.object "java/lang/AbstractStringBuilder") }, accessFlags := 1, code := some k17c6 }
def k17c7 : Code := { maxStack := 1, maxLocals := 1, code := jdk_68_method_64_code, exceptionTable := #[], attributes := #[] }
def k17m7 : Method := { name := "getValue", desc := "()[B", sig := { parameters := [], returnType := some (.array .byte) }, accessFlags := 16, code := some k17c7 }
def k17c8 : Code := { maxStack := 1, maxLocals := 1, code := jdk_68_method_68_code, exceptionTable := #[], attributes := #[] }
def k17m8 : Method := { name := "isLatin1", desc := "()Z", sig := { parameters := [], returnType := some .boolean }, accessFlags := 16, code := some k17c8 }
def k17c9 : Code := { maxStack := 2, maxLocals := 2, code := jdk_68_method_71_code, exceptionTable := #[], attributes := #[] }
def k17m9 : Method := { name := "inflateIfNeededFor", desc := "(Ljava/lang/String;)V", sig := { parameters := [(.object "java/lang/String")], returnType := none }, accessFlags := 2, code := some k17c9 }
def k17c10 : Code := { maxStack := 4, maxLocals := 3, code := jdk_68_method_73_code, exceptionTable := #[], attributes := #[] }
def k17m10 : Method := { name := "putStringAt", desc := "(ILjava/lang/String;)V", sig := { parameters := [.int, (.object "java/lang/String")], returnType := none }, accessFlags := 2, code := some k17c10 }
/-- java/lang/AbstractStringBuilder -/
def k17 : Class := { plain "java/lang/AbstractStringBuilder" (some 0) with
  accessFlags := 1056
  interfaces := #[16, 4]
  cf := some (fileOf pool17 10 #[] #[{ accessFlags := 0, nameIndex := 7, descriptorIndex := 8, attributes := #[] }, { accessFlags := 0, nameIndex := 7, descriptorIndex := 103, attributes := #[] }, { accessFlags := 1, nameIndex := 34, descriptorIndex := 35, attributes := #[] }, { accessFlags := 2, nameIndex := 102, descriptorIndex := 103, attributes := #[] }, { accessFlags := 2, nameIndex := 106, descriptorIndex := 107, attributes := #[] }, { accessFlags := 2, nameIndex := 127, descriptorIndex := 8, attributes := #[] }, { accessFlags := 1, nameIndex := 45, descriptorIndex := 46, attributes := #[] }, { accessFlags := 16, nameIndex := 552, descriptorIndex := 403, attributes := #[] }, { accessFlags := 16, nameIndex := 85, descriptorIndex := 86, attributes := #[] }, { accessFlags := 2, nameIndex := 217, descriptorIndex := 69, attributes := #[] }, { accessFlags := 2, nameIndex := 210, descriptorIndex := 211, attributes := #[] }] 1056 4 #[444, 48] #[{ accessFlags := 0, nameIndex := 17, descriptorIndex := 14, attributes := #[] }, { accessFlags := 0, nameIndex := 24, descriptorIndex := 25, attributes := #[] }, { accessFlags := 0, nameIndex := 75, descriptorIndex := 21, attributes := #[] }, { accessFlags := 0, nameIndex := 81, descriptorIndex := 82, attributes := #[] }, { accessFlags := 26, nameIndex := 13, descriptorIndex := 14, attributes := #[] }])
  fields := #[{ name := "value", type := (.array .byte), accessFlags := 0, slot := 0, constantValue := 0 }, { name := "coder", type := .byte, accessFlags := 0, slot := 1, constantValue := 0 }, { name := "maybeLatin1", type := .boolean, accessFlags := 0, slot := 2, constantValue := 0 }, { name := "count", type := .int, accessFlags := 0, slot := 3, constantValue := 0 }, { name := "EMPTYVALUE", type := (.array .byte), accessFlags := 26, slot := 0, constantValue := 0 }]
  methods := #[k17m0, k17m1, k17m2, k17m3, k17m4, k17m5, k17m6, k17m7, k17m8, k17m9, k17m10]
  instanceTypes := #[(.array .byte), .byte, .boolean, .int]
  staticTypes := #[(.array .byte)]
  resolved := Array.replicate 609 none
  statics := none }

def pool18 : Array CpInfo := pool [(1, .methodref 2 3), (0, .class_ 4), (0, .nameAndType 5 6), (0, u "java/lang/AbstractStringBuilder"), (0, u "<init>"), (0, u "(I)V"), (11, .class_ 20), (1, u "java/lang/String"), (3, .class_ 26), (1, u "java/lang/StringBuilder"), (0, u "append"), (0, u "(Ljava/lang/String;)Ljava/lang/StringBuilder;"), (0, .methodref 2 30), (0, .nameAndType 27 31), (0, u "(Ljava/lang/String;)Ljava/lang/AbstractStringBuilder;"), (105, .methodref 18 138), (0, .nameAndType 5 139), (0, u "(Ljava/lang/StringBuilder;)V"), (5, u "()V"), (10, u "()I"), (186, .methodref 2 344), (0, .nameAndType 345 156), (0, u "length"), (3, .class_ 350), (0, u "java/lang/Appendable"), (0, .class_ 352), (0, u "java/io/Serializable"), (0, .class_ 354), (0, u "java/lang/Comparable"), (0, .class_ 356), (0, u "java/lang/CharSequence"), (0, u "serialVersionUID"), (0, u "J"), (40, u "toString"), (0, u "()Ljava/lang/String;")] 21

def k18c0 : Code := { maxStack := 2, maxLocals := 1, code := jdk_67_method_1_code, exceptionTable := #[], attributes := #[] }
def k18m0 : Method := { name := "<init>", desc := "()V", sig := { parameters := [], returnType := none }, accessFlags := 1, code := some k18c0 }
def k18c1 : Code := { maxStack := 2, maxLocals := 2, code := jdk_67_method_7_code, exceptionTable := #[], attributes := #[] }
def k18m1 : Method := { name := "append", desc := "(Ljava/lang/String;)Ljava/lang/StringBuilder;", sig := { parameters := [(.object "java/lang/String")], returnType := some (.object "java/lang/StringBuilder") }, accessFlags := 1, code := some k18c1 }
def k18c2 : Code := { maxStack := 3, maxLocals := 1, code := jdk_67_method_42_code, exceptionTable := #[], attributes := #[] }
def k18m2 : Method := { name := "toString", desc := "()Ljava/lang/String;", sig := { parameters := [], returnType := some (.object "java/lang/String") }, accessFlags := 1, code := some k18c2 }
def k18c3 : Code := { maxStack := 1, maxLocals := 1, code := jdk_67_method_93_code, exceptionTable := #[], attributes := #[] }
def k18m3 : Method := { name := "length", desc := "()I", sig := { parameters := [], returnType := some .int }, accessFlags := 4161, code := some k18c3 }
/-- java/lang/StringBuilder -/
def k18 : Class := { plain "java/lang/StringBuilder" (some 17) with
  accessFlags := 49
  interfaces := #[16, 2, 3, 4]
  cf := some (fileOf pool18 24 #[] #[{ accessFlags := 1, nameIndex := 5, descriptorIndex := 145, attributes := #[] }, { accessFlags := 1, nameIndex := 27, descriptorIndex := 28, attributes := #[] }, { accessFlags := 1, nameIndex := 399, descriptorIndex := 400, attributes := #[] }, { accessFlags := 4161, nameIndex := 345, descriptorIndex := 156, attributes := #[] }] 49 2 #[349, 351, 353, 355] #[{ accessFlags := 24, nameIndex := 357, descriptorIndex := 358, attributes := #[] }])
  fields := #[{ name := "serialVersionUID", type := .long, accessFlags := 24, slot := 0, constantValue := 0 }]
  methods := #[k18m0, k18m1, k18m2, k18m3]
  instanceTypes := #[(.array .byte), .byte, .boolean, .int]
  staticTypes := #[.long]
  resolved := Array.replicate 422 none
  statics := none }

def pool19 : Array CpInfo := pool [(2, .class_ 4), (1, u "java/lang/Object"), (0, u "<init>"), (0, u "()V"), (1, .class_ 10), (1, u "java/lang/System"), (0, u "allowSecurityManager"), (0, u "I"), (16, u "cons"), (0, u "Ljava/io/Console;"), (77, .class_ 110), (1, u "java/lang/System$CallersHolder"), (43, u "initialErrStream"), (0, u "Ljava/io/PrintStream;"), (19, u "security"), (0, u "Ljava/lang/SecurityManager;"), (31, .class_ 209), (0, u "java/lang/System$1"), (7, u "props"), (0, u "Ljava/util/Properties;"), (2, u "lineSeparator"), (0, u "Ljava/lang/String;"), (96, .class_ 321), (1, u "java/lang/System$LoggerFinder"), (5, .class_ 328), (0, u "java/lang/System$Logger"), (67, u "err"), (2, u "out"), (91, u "notSupportedJnuEncoding"), (15, u "in"), (17, u "initialIn"), (0, u "Ljava/io/InputStream;"), (35, u "bootLayer"), (0, u "Ljava/lang/ModuleLayer;"), (99, .class_ 664), (0, u "java/lang/System$2"), (9, u "NEVER"), (2, u "MAYBE"), (49, u "arraycopy"), (0, u "(Ljava/lang/Object;ILjava/lang/Object;II)V"), (72, .class_ 802), (0, u "java/lang/System$Logger$Level")] 31

def k19m0 : Method := { name := "<init>", desc := "()V", sig := { parameters := [], returnType := none }, accessFlags := 2, code := none }
def k19m1 : Method := { name := "arraycopy", desc := "(Ljava/lang/Object;ILjava/lang/Object;II)V", sig := { parameters := [(.object "java/lang/Object"), .int, (.object "java/lang/Object"), .int, .int], returnType := none }, accessFlags := 265, code := none }
/-- java/lang/System -/
def k19 : Class := { plain "java/lang/System" (some 0) with
  accessFlags := 49
  interfaces := #[]
  cf := some (fileOf pool19 8 #[.nestMembers #[319, 327, 801, 108, 663, 208]] #[{ accessFlags := 2, nameIndex := 5, descriptorIndex := 6, attributes := #[] }, { accessFlags := 265, nameIndex := 727, descriptorIndex := 728, attributes := #[] }] 49 2 #[] #[{ accessFlags := 25, nameIndex := 507, descriptorIndex := 526, attributes := #[] }, { accessFlags := 25, nameIndex := 399, descriptorIndex := 155, attributes := #[] }, { accessFlags := 25, nameIndex := 396, descriptorIndex := 155, attributes := #[] }, { accessFlags := 10, nameIndex := 525, descriptorIndex := 526, attributes := #[] }, { accessFlags := 26, nameIndex := 674, descriptorIndex := 12, attributes := #[] }, { accessFlags := 26, nameIndex := 677, descriptorIndex := 12, attributes := #[] }, { accessFlags := 10, nameIndex := 11, descriptorIndex := 12, attributes := #[] }, { accessFlags := 74, nameIndex := 175, descriptorIndex := 176, attributes := #[] }, { accessFlags := 10, nameIndex := 491, descriptorIndex := 222, attributes := #[] }, { accessFlags := 74, nameIndex := 29, descriptorIndex := 30, attributes := #[] }, { accessFlags := 74, nameIndex := 154, descriptorIndex := 155, attributes := #[] }, { accessFlags := 10, nameIndex := 217, descriptorIndex := 218, attributes := #[] }, { accessFlags := 10, nameIndex := 221, descriptorIndex := 222, attributes := #[] }, { accessFlags := 8, nameIndex := 562, descriptorIndex := 563, attributes := #[] }])
  fields := #[{ name := "in", type := (.object "java/io/InputStream"), accessFlags := 25, slot := 0, constantValue := 0 }, { name := "out", type := (.object "java/io/PrintStream"), accessFlags := 25, slot := 1, constantValue := 0 }, { name := "err", type := (.object "java/io/PrintStream"), accessFlags := 25, slot := 2, constantValue := 0 }, { name := "initialIn", type := (.object "java/io/InputStream"), accessFlags := 10, slot := 3, constantValue := 0 }, { name := "NEVER", type := .int, accessFlags := 26, slot := 4, constantValue := 0 }, { name := "MAYBE", type := .int, accessFlags := 26, slot := 5, constantValue := 0 }, { name := "allowSecurityManager", type := .int, accessFlags := 10, slot := 6, constantValue := 0 }, { name := "security", type := (.object "java/lang/SecurityManager"), accessFlags := 74, slot := 7, constantValue := 0 }, { name := "notSupportedJnuEncoding", type := (.object "java/lang/String"), accessFlags := 10, slot := 8, constantValue := 0 }, { name := "cons", type := (.object "java/io/Console"), accessFlags := 74, slot := 9, constantValue := 0 }, { name := "initialErrStream", type := (.object "java/io/PrintStream"), accessFlags := 74, slot := 10, constantValue := 0 }, { name := "props", type := (.object "java/util/Properties"), accessFlags := 10, slot := 11, constantValue := 0 }, { name := "lineSeparator", type := (.object "java/lang/String"), accessFlags := 10, slot := 12, constantValue := 0 }, { name := "bootLayer", type := (.object "java/lang/ModuleLayer"), accessFlags := 8, slot := 13, constantValue := 0 }]
  methods := #[k19m0, k19m1]
  instanceTypes := #[]
  staticTypes := #[(.object "java/io/InputStream"), (.object "java/io/PrintStream"), (.object "java/io/PrintStream"), (.object "java/io/InputStream"), .int, .int, .int, (.object "java/lang/SecurityManager"), (.object "java/lang/String"), (.object "java/io/Console"), (.object "java/io/PrintStream"), (.object "java/util/Properties"), (.object "java/lang/String"), (.object "java/lang/ModuleLayer")]
  resolved := Array.replicate 834 none
  statics := none }

def pool20 : Array CpInfo := pool [(9, u "<init>"), (6, .class_ 18), (1, u "java/lang/Object"), (0, u "()V"), (1, .class_ 23), (1, u "jdk/internal/util/ArraysSupport"), (0, u "LOG2_ARRAY_LONG_INDEX_SCALE"), (0, u "I"), (2, u "U"), (0, u "Ljdk/internal/misc/Unsafe;"), (8, u "BIG_ENDIAN"), (0, u "Z"), (8, u "LOG2_BYTE_BIT_SIZE"), (4, u "LOG2_ARRAY_INT_INDEX_SCALE"), (54, u "JLA"), (0, u "Ljdk/internal/access/JavaLangAccess;"), (11, u "LOG2_ARRAY_BOOLEAN_INDEX_SCALE"), (9, u "LOG2_ARRAY_BYTE_INDEX_SCALE"), (5, u "LOG2_ARRAY_CHAR_INDEX_SCALE"), (5, u "LOG2_ARRAY_SHORT_INDEX_SCALE"), (18, u "LOG2_ARRAY_FLOAT_INDEX_SCALE"), (24, u "LOG2_ARRAY_DOUBLE_INDEX_SCALE"), (6, .methodref 195 196), (0, .class_ 197), (0, .nameAndType 198 199), (0, u "java/lang/Math"), (0, u "max"), (0, u "(II)I"), (0, .integer 2147483639), (76, u "T_BOOLEAN"), (2, u "T_CHAR"), (1, u "T_FLOAT"), (1, u "T_DOUBLE"), (1, u "T_BYTE"), (1, u "T_SHORT"), (1, u "T_INT"), (1, u "T_LONG"), (1, u "SOFT_MAX_ARRAY_LENGTH"), (56, u "newLength"), (0, u "(III)I")] 25

def k20m0 : Method := { name := "<init>", desc := "()V", sig := { parameters := [], returnType := none }, accessFlags := 2, code := none }
def k20c1 : Code := { maxStack := 3, maxLocals := 4, code := jdk_48_method_27_code, exceptionTable := #[], attributes := #[] }
def k20m1 : Method := { name := "newLength", desc := "(III)I", sig := { parameters := [.int, .int, .int], returnType := some .int }, accessFlags := 9, code := some k20c1 }
/-- jdk/internal/util/ArraysSupport -/
def k20 : Class := { plain "jdk/internal/util/ArraysSupport" (some 0) with
  accessFlags := 33
  interfaces := #[]
  cf := some (fileOf pool20 21 #[] #[{ accessFlags := 2, nameIndex := 9, descriptorIndex := 19, attributes := #[] }, { accessFlags := 9, nameIndex := 351, descriptorIndex := 352, attributes := #[] }] 33 16 #[] #[{ accessFlags := 24, nameIndex := 28, descriptorIndex := 29, attributes := #[] }, { accessFlags := 26, nameIndex := 38, descriptorIndex := 39, attributes := #[] }, { accessFlags := 25, nameIndex := 121, descriptorIndex := 25, attributes := #[] }, { accessFlags := 25, nameIndex := 131, descriptorIndex := 25, attributes := #[] }, { accessFlags := 25, nameIndex := 137, descriptorIndex := 25, attributes := #[] }, { accessFlags := 25, nameIndex := 143, descriptorIndex := 25, attributes := #[] }, { accessFlags := 25, nameIndex := 53, descriptorIndex := 25, attributes := #[] }, { accessFlags := 25, nameIndex := 24, descriptorIndex := 25, attributes := #[] }, { accessFlags := 25, nameIndex := 162, descriptorIndex := 25, attributes := #[] }, { accessFlags := 25, nameIndex := 187, descriptorIndex := 25, attributes := #[] }, { accessFlags := 26, nameIndex := 48, descriptorIndex := 25, attributes := #[] }, { accessFlags := 25, nameIndex := 277, descriptorIndex := 25, attributes := #[] }, { accessFlags := 25, nameIndex := 280, descriptorIndex := 25, attributes := #[] }, { accessFlags := 25, nameIndex := 282, descriptorIndex := 25, attributes := #[] }, { accessFlags := 25, nameIndex := 284, descriptorIndex := 25, attributes := #[] }, { accessFlags := 25, nameIndex := 286, descriptorIndex := 25, attributes := #[] }, { accessFlags := 25, nameIndex := 288, descriptorIndex := 25, attributes := #[] }, { accessFlags := 25, nameIndex := 290, descriptorIndex := 25, attributes := #[] }, { accessFlags := 25, nameIndex := 292, descriptorIndex := 25, attributes := #[] }, { accessFlags := 26, nameIndex := 108, descriptorIndex := 109, attributes := #[] }, { accessFlags := 25, nameIndex := 294, descriptorIndex := 25, attributes := #[] }])
  fields := #[{ name := "U", type := (.object "jdk/internal/misc/Unsafe"), accessFlags := 24, slot := 0, constantValue := 0 }, { name := "BIG_ENDIAN", type := .boolean, accessFlags := 26, slot := 1, constantValue := 0 }, { name := "LOG2_ARRAY_BOOLEAN_INDEX_SCALE", type := .int, accessFlags := 25, slot := 2, constantValue := 0 }, { name := "LOG2_ARRAY_BYTE_INDEX_SCALE", type := .int, accessFlags := 25, slot := 3, constantValue := 0 }, { name := "LOG2_ARRAY_CHAR_INDEX_SCALE", type := .int, accessFlags := 25, slot := 4, constantValue := 0 }, { name := "LOG2_ARRAY_SHORT_INDEX_SCALE", type := .int, accessFlags := 25, slot := 5, constantValue := 0 }, { name := "LOG2_ARRAY_INT_INDEX_SCALE", type := .int, accessFlags := 25, slot := 6, constantValue := 0 }, { name := "LOG2_ARRAY_LONG_INDEX_SCALE", type := .int, accessFlags := 25, slot := 7, constantValue := 0 }, { name := "LOG2_ARRAY_FLOAT_INDEX_SCALE", type := .int, accessFlags := 25, slot := 8, constantValue := 0 }, { name := "LOG2_ARRAY_DOUBLE_INDEX_SCALE", type := .int, accessFlags := 25, slot := 9, constantValue := 0 }, { name := "LOG2_BYTE_BIT_SIZE", type := .int, accessFlags := 26, slot := 10, constantValue := 0 }, { name := "T_BOOLEAN", type := .int, accessFlags := 25, slot := 11, constantValue := 0 }, { name := "T_CHAR", type := .int, accessFlags := 25, slot := 12, constantValue := 0 }, { name := "T_FLOAT", type := .int, accessFlags := 25, slot := 13, constantValue := 0 }, { name := "T_DOUBLE", type := .int, accessFlags := 25, slot := 14, constantValue := 0 }, { name := "T_BYTE", type := .int, accessFlags := 25, slot := 15, constantValue := 0 }, { name := "T_SHORT", type := .int, accessFlags := 25, slot := 16, constantValue := 0 }, { name := "T_INT", type := .int, accessFlags := 25, slot := 17, constantValue := 0 }, { name := "T_LONG", type := .int, accessFlags := 25, slot := 18, constantValue := 0 }, { name := "JLA", type := (.object "jdk/internal/access/JavaLangAccess"), accessFlags := 26, slot := 19, constantValue := 0 }, { name := "SOFT_MAX_ARRAY_LENGTH", type := .int, accessFlags := 25, slot := 20, constantValue := 0 }]
  methods := #[k20m0, k20m1]
  instanceTypes := #[]
  staticTypes := #[(.object "jdk/internal/misc/Unsafe"), .boolean, .int, .int, .int, .int, .int, .int, .int, .int, .int, .int, .int, .int, .int, .int, .int, .int, .int, (.object "jdk/internal/access/JavaLangAccess"), .int]
  resolved := Array.replicate 378 none
  statics := none }

def pool21 : Array CpInfo := pool [(2, .class_ 4), (1, u "java/lang/Object"), (0, u "<init>"), (0, u "()V"), (7, .class_ 16), (1, u "java/util/Arrays"), (57, .class_ 76), (1, u "java/util/Arrays$NaturalOrder"), (32, u "()Ljava/lang/Object;"), (3, .class_ 115), (1, u "java/util/Arrays$LegacyMergeSort"), (1, u "Z"), (10, .nameAndType 129 109), (0, u "clone"), (9, u "copyOfRange"), (10, .methodref 151 152), (0, .class_ 153), (0, .nameAndType 154 155), (0, u "java/lang/System"), (0, u "arraycopy"), (0, u "(Ljava/lang/Object;ILjava/lang/Object;II)V"), (146, u "copyOf"), (1, .methodref 305 306), (0, .class_ 307), (0, .nameAndType 308 309), (0, u "java/lang/Math"), (0, u "min"), (0, u "(II)I"), (0, .methodref 311 128), (0, .class_ 312), (0, u "[B"), (26, .methodref 14 340), (0, .nameAndType 341 342), (0, u "copyOfRangeByte"), (0, u "([BII)[B"), (0, .methodref 14 344), (0, .nameAndType 345 346), (0, u "checkLength"), (0, u "(II)V"), (28, .class_ 376), (0, u "java/util/Arrays$ArrayList"), (68, u "$assertionsDisabled"), (269, u "MIN_ARRAY_SORT_GRAN"), (0, u "I"), (2, u "INSERTIONSORT_THRESHOLD"), (149, u "([BI)[B"), (105, .class_ 976), (0, u "java/util/Arrays$ArrayItr")] 52

def k21m0 : Method := { name := "<init>", desc := "()V", sig := { parameters := [], returnType := none }, accessFlags := 2, code := none }
def k21c1 : Code := { maxStack := 6, maxLocals := 3, code := jdk_65_method_121_code, exceptionTable := #[], attributes := #[] }
def k21m1 : Method := { name := "copyOf", desc := "([BI)[B", sig := { parameters := [(.array .byte), .int], returnType := some (.array .byte) }, accessFlags := 9, code := some k21c1 }
def k21c2 : Code := { maxStack := 4, maxLocals := 2, code := jdk_65_method_131_code, exceptionTable := #[], attributes := #[] }
def k21m2 : Method := { name := "checkLength", desc := "(II)V", sig := { parameters := [.int, .int], returnType := none }, accessFlags := 10, code := some k21c2 }
def k21c3 : Code := { maxStack := 3, maxLocals := 3, code := jdk_65_method_132_code, exceptionTable := #[], attributes := #[] }
def k21m3 : Method := { name := "copyOfRange", desc := "([BII)[B", sig := { parameters := [(.array .byte), .int, .int], returnType := some (.array .byte) }, accessFlags := 9, code := some k21c3 }
def k21c4 : Code := { maxStack := 6, maxLocals := 5, code := jdk_65_method_133_code, exceptionTable := #[], attributes := #[] }
def k21m4 : Method := { name := "copyOfRangeByte", desc := "([BII)[B", sig := { parameters := [(.array .byte), .int, .int], returnType := some (.array .byte) }, accessFlags := 10, code := some k21c4 }
/-- java/util/Arrays -/
def k21 : Class := { plain "java/util/Arrays" (some 0) with
  accessFlags := 49
  interfaces := #[]
  cf := some (fileOf pool21 14 #[.nestMembers #[975, 375, 113, 74]] #[{ accessFlags := 2, nameIndex := 5, descriptorIndex := 6, attributes := #[] }, { accessFlags := 9, nameIndex := 302, descriptorIndex := 869, attributes := #[] }, { accessFlags := 10, nameIndex := 345, descriptorIndex := 346, attributes := #[] }, { accessFlags := 9, nameIndex := 139, descriptorIndex := 342, attributes := #[] }, { accessFlags := 10, nameIndex := 341, descriptorIndex := 342, attributes := #[] }] 49 2 #[] #[{ accessFlags := 26, nameIndex := 715, descriptorIndex := 716, attributes := #[] }, { accessFlags := 26, nameIndex := 719, descriptorIndex := 716, attributes := #[] }, { accessFlags := 4120, nameIndex := 445, descriptorIndex := 117, attributes := #[] }])
  fields := #[{ name := "MIN_ARRAY_SORT_GRAN", type := .int, accessFlags := 26, slot := 0, constantValue := 0 }, { name := "INSERTIONSORT_THRESHOLD", type := .int, accessFlags := 26, slot := 1, constantValue := 0 }, { name := "$assertionsDisabled", type := .boolean, accessFlags := 4120, slot := 2, constantValue := 0 }]
  methods := #[k21m0, k21m1, k21m2, k21m3, k21m4]
  instanceTypes := #[]
  staticTypes := #[.int, .int, .boolean]
  resolved := Array.replicate 1029 none
  statics := none }

def pool22 : Array CpInfo := pool [(1, .class_ 2), (0, u "java/lang/String"), (1, .class_ 6), (1, u "java/lang/Object"), (0, u "<init>"), (0, u "()V"), (0, .methodref 1 10), (0, .nameAndType 11 12), (0, u "checkIndex"), (0, u "(II)V"), (1, .class_ 16), (1, u "java/lang/StringLatin1"), (0, u "inflate"), (2, .class_ 22), (1, u "java/lang/StringUTF16"), (3, .nameAndType 17 27), (0, u "([BI[BII)V"), (25, u "([BI)C"), (67, u "$assertionsDisabled"), (0, u "Z"), (98, .class_ 223), (1, u "java/lang/StringLatin1$LinesSpliterator"), (16, .methodref 20 26), (11, u "charAt"), (28, u "equals"), (0, u "([B[B)Z"), (107, .class_ 391), (0, u "java/lang/StringLatin1$CharsSpliterator")] 3

def k22m0 : Method := { name := "<init>", desc := "()V", sig := { parameters := [], returnType := none }, accessFlags := 0, code := none }
def k22c1 : Code := { maxStack := 2, maxLocals := 2, code := jdk_43_method_2_code, exceptionTable := #[], attributes := #[] }
def k22m1 : Method := { name := "charAt", desc := "([BI)C", sig := { parameters := [(.array .byte), .int], returnType := some .char }, accessFlags := 9, code := some k22c1 }
def k22c2 : Code := { maxStack := 3, maxLocals := 3, code := jdk_43_method_13_code, exceptionTable := #[], attributes := #[] }
def k22m2 : Method := { name := "equals", desc := "([B[B)Z", sig := { parameters := [(.array .byte), (.array .byte)], returnType := some .boolean }, accessFlags := 9, code := some k22c2 }
def k22c3 : Code := { maxStack := 5, maxLocals := 5, code := jdk_43_method_50_code, exceptionTable := #[], attributes := #[] }
def k22m3 : Method := { name := "inflate", desc := "([BI[BII)V", sig := { parameters := [(.array .byte), .int, (.array .byte), .int, .int], returnType := none }, accessFlags := 9, code := some k22c3 }
/-- java/lang/StringLatin1 -/
def k22 : Class := { plain "java/lang/StringLatin1" (some 0) with
  accessFlags := 48
  interfaces := #[]
  cf := some (fileOf pool22 14 #[.nestMembers #[390, 221]] #[{ accessFlags := 0, nameIndex := 7, descriptorIndex := 8, attributes := #[] }, { accessFlags := 9, nameIndex := 252, descriptorIndex := 53, attributes := #[] }, { accessFlags := 9, nameIndex := 281, descriptorIndex := 282, attributes := #[] }, { accessFlags := 9, nameIndex := 17, descriptorIndex := 27, attributes := #[] }] 48 4 #[] #[{ accessFlags := 4120, nameIndex := 121, descriptorIndex := 122, attributes := #[] }])
  fields := #[{ name := "$assertionsDisabled", type := .boolean, accessFlags := 4120, slot := 0, constantValue := 0 }]
  methods := #[k22m0, k22m1, k22m2, k22m3]
  instanceTypes := #[]
  staticTypes := #[.boolean]
  resolved := Array.replicate 395 none
  statics := none }

def pool23 : Array CpInfo := pool [(1, .class_ 2), (0, u "java/lang/Cloneable"), (0, .class_ 4), (0, u "java/lang/Object")] 2

/-- java/lang/Cloneable -/
def k23 : Class := { plain "java/lang/Cloneable" (some 0) with
  accessFlags := 1537
  interfaces := #[]
  cf := some (fileOf pool23 1 #[] #[] 1537 3 #[] #[])
  fields := #[]
  methods := #[]
  instanceTypes := #[]
  staticTypes := #[]
  resolved := Array.replicate 7 none
  statics := none }

/-- the primitive byte -/
def k24 : Class := { plain "byte" none with kind := .primitive 'B', accessFlags := 0x411 }
/-- [B -/
def k25 : Class := { plain "[B" (some 0) with kind := .array 24 .byte, interfaces := #[23, 2], accessFlags := 1041 }

/-- the primitive char -/
def k26 : Class := { plain "char" none with kind := .primitive 'C', accessFlags := 0x411 }
/-- [C -/
def k27 : Class := { plain "[C" (some 0) with kind := .array 26 .char, interfaces := #[23, 2], accessFlags := 1041 }

/-- the primitive int -/
def k28 : Class := { plain "int" none with kind := .primitive 'I', accessFlags := 0x411 }
/-- [I -/
def k29 : Class := { plain "[I" (some 0) with kind := .array 28 .int, interfaces := #[23, 2], accessFlags := 1041 }

def heap : Heap := #[{ cls := 7, slots := #[.long 0, .int 1, .null, .int 0, .null, .int 0, .int 0], vm := .statics 7 },
  { cls := 8, slots := #[.int 0, .int 8, .int 0, .int 1], vm := .statics 8 },
  { cls := 13, slots := #[.ref 5, .null, .null, .null, .null], vm := .statics 13 },
  { cls := 14, slots := #[.ref 6, .null, .int 0, .null, .null, .null, .null], vm := .statics 14 },
  { cls := 15, slots := #[.null, .null, .null], vm := .statics 15 },
  { cls := 29, slots := #[.int (-1), .int (-1), .int (-1), .int (-1), .int (-1), .int (-1), .int (-1), .int (-1), .int (-1), .int (-1), .int (-1), .int (-1), .int (-1), .int (-1), .int (-1), .int (-1), .int (-1), .int (-1), .int (-1), .int (-1), .int (-1), .int (-1), .int (-1), .int (-1), .int (-1), .int (-1), .int (-1), .int (-1), .int (-1), .int (-1), .int (-1), .int (-1), .int (-1), .int (-1), .int (-1), .int (-1), .int (-1), .int (-1), .int (-1), .int (-1), .int (-1), .int (-1), .int (-1), .int 62, .int (-1), .int (-1), .int (-1), .int 63, .int 52, .int 53, .int 54, .int 55, .int 56, .int 57, .int 58, .int 59, .int 60, .int 61, .int (-1), .int (-1), .int (-1), .int (-2), .int (-1), .int (-1), .int (-1), .int 0, .int 1, .int 2, .int 3, .int 4, .int 5, .int 6, .int 7, .int 8, .int 9, .int 10, .int 11, .int 12, .int 13, .int 14, .int 15, .int 16, .int 17, .int 18, .int 19, .int 20, .int 21, .int 22, .int 23, .int 24, .int 25, .int (-1), .int (-1), .int (-1), .int (-1), .int (-1), .int (-1), .int 26, .int 27, .int 28, .int 29, .int 30, .int 31, .int 32, .int 33, .int 34, .int 35, .int 36, .int 37, .int 38, .int 39, .int 40, .int 41, .int 42, .int 43, .int 44, .int 45, .int 46, .int 47, .int 48, .int 49, .int 50, .int 51, .int (-1), .int (-1), .int (-1), .int (-1), .int (-1), .int (-1), .int (-1), .int (-1), .int (-1), .int (-1), .int (-1), .int (-1), .int (-1), .int (-1), .int (-1), .int (-1), .int (-1), .int (-1), .int (-1), .int (-1), .int (-1), .int (-1), .int (-1), .int (-1), .int (-1), .int (-1), .int (-1), .int (-1), .int (-1), .int (-1), .int (-1), .int (-1), .int (-1), .int (-1), .int (-1), .int (-1), .int (-1), .int (-1), .int (-1), .int (-1), .int (-1), .int (-1), .int (-1), .int (-1), .int (-1), .int (-1), .int (-1), .int (-1), .int (-1), .int (-1), .int (-1), .int (-1), .int (-1), .int (-1), .int (-1), .int (-1), .int (-1), .int (-1), .int (-1), .int (-1), .int (-1), .int (-1), .int (-1), .int (-1), .int (-1), .int (-1), .int (-1), .int (-1), .int (-1), .int (-1), .int (-1), .int (-1), .int (-1), .int (-1), .int (-1), .int (-1), .int (-1), .int (-1), .int (-1), .int (-1), .int (-1), .int (-1), .int (-1), .int (-1), .int (-1), .int (-1), .int (-1), .int (-1), .int (-1), .int (-1), .int (-1), .int (-1), .int (-1), .int (-1), .int (-1), .int (-1), .int (-1), .int (-1), .int (-1), .int (-1), .int (-1), .int (-1), .int (-1), .int (-1), .int (-1), .int (-1), .int (-1), .int (-1), .int (-1), .int (-1), .int (-1), .int (-1), .int (-1), .int (-1), .int (-1), .int (-1), .int (-1), .int (-1), .int (-1), .int (-1), .int (-1), .int (-1), .int (-1), .int (-1), .int (-1), .int (-1), .int (-1), .int (-1), .int (-1), .int (-1), .int (-1), .int (-1), .int (-1)], vm := .none },
  { cls := 27, slots := #[.int 65, .int 66, .int 67, .int 68, .int 69, .int 70, .int 71, .int 72, .int 73, .int 74, .int 75, .int 76, .int 77, .int 78, .int 79, .int 80, .int 81, .int 82, .int 83, .int 84, .int 85, .int 86, .int 87, .int 88, .int 89, .int 90, .int 97, .int 98, .int 99, .int 100, .int 101, .int 102, .int 103, .int 104, .int 105, .int 106, .int 107, .int 108, .int 109, .int 110, .int 111, .int 112, .int 113, .int 114, .int 115, .int 116, .int 117, .int 118, .int 119, .int 120, .int 121, .int 122, .int 48, .int 49, .int 50, .int 51, .int 52, .int 53, .int 54, .int 55, .int 56, .int 57, .int 43, .int 47], vm := .none }]
def classes : Array Class := #[k0, k1, k2, k3, k4, k5, k6, k7, k8, k9, k10, k11, k12, k13, k14, k15, k16, k17, k18, k19, k20, k21, k22, k23, k24, k25, k26, k27, k28, k29]
def interned : List (Array UInt16 × Addr) := []
def slotsUsed : Nat := 346
def theMethod : MethodId := ⟨1, 5⟩
def args0 : Array Value := #[.int 7, .int 0, .long 0]
def aboutOver (below : List Frame) : State where
  vm := { classes := classes, interned := interned.toArray }
  heap := heap
  slotsUsed := slotsUsed
  threads := #[{ frames := .invoking theMethod args0 :: below }]
def below0 : List Frame := [.native { method := ⟨0, 0⟩, args := #[] }]
def about1 : State := aboutOver below0
def p0 : Program := .bare "" "" ""
def e0 : Env := launch0.env 0 0 0
theorem w_frames : about1.frames = Frame.invoking theMethod args0 :: below0 := rfl
set_option maxRecDepth 65536 in
theorem w_args : argsFit about1.vm theMethod args0 = true := by decide +kernel
set_option maxRecDepth 65536 in
theorem w_heap : heapFits about1 = true := by decide +kernel
set_option maxRecDepth 65536 in
theorem w_runnable : about1.curStatus? = some .runnable := by decide +kernel
set_option maxRecDepth 65536 in
theorem w_alone : about1.alone = true := by decide +kernel
set_option maxRecDepth 65536 in
theorem w_named : about1.methodNamed? x = some theMethod := by decide +kernel
set_option maxRecDepth 65536 in
theorem w_hears : about1.hears theMethod below0 = true := by decide +kernel
set_option maxRecDepth 65536 in
theorem w_ripe : about1.ripe theMethod args0 below0 = true := by decide +kernel
theorem w_running : about1.status = .running := rfl
set_option maxRecDepth 65536 in
theorem w_room : about1.hasRoom e0.platform room_1 = true :=
  launch0.hasRoom_least _ room_1 (by decide +kernel) (by decide +kernel) (by decide +kernel) (by decide +kernel) (by decide +kernel) (by decide +kernel)
theorem allAtoms_all (ts : List Jvm.Cond) (a : Array Jvm.Value) (st : Jvm.State) : (allAtoms ts).before a st = ts.all (fun c => c.before a st) := by
  induction ts with
  | nil => rfl
  | cons c t ih =>
    show (Jvm.Cond.and c (allAtoms t)).before a st = _
    rw [Jvm.Cond.before_and, ih, List.all_cons]
def words1 : List Jvm.Cond := Jvm.Cond.code x code maxLocals ret :: tables_1
/-- a 'code' word, met by the world's own term for the bytes: nothing is compared byte by byte -/
theorem code_word {y : MethodName} {bytes : ByteArray} {mx : Nat} {rt : Option FieldType} {a : Array Value} {s : State} {m : MethodId} {meth : Method} {c : Code} (h1 : s.methodNamed? y = some m) (h2 : s.vm.method? m = some meth) (h3 : meth.code = some c) (h4 : c.code = bytes)
    (h5 : (c.maxLocals == mx && c.exceptionTable.isEmpty && decide (c.maxStack ≤ mostOperands) && decide (meth.sig.returnType = rt) && !meth.locks && decide (parseMethodDescriptor y.desc = some meth.sig)) = true) : (Jvm.Cond.code y bytes mx rt).before a s = true := by
  simp only [Bool.and_eq_true, beq_iff_eq, Bool.not_eq_true', decide_eq_true_eq] at h5
  obtain ⟨⟨⟨⟨⟨g1, g2⟩, g3⟩, g4⟩, g5⟩, g6⟩ := h5
  simp [Cond.before, Cond.holds, Cond.value, h1, h2, h3, h4, g1, g2, g3, g4, g5, g6]
def isCode : Jvm.Cond → Bool
  | .code _ _ _ _ => true
  | _ => false
theorem all_split {L : List Jvm.Cond} {P : Jvm.Cond → Bool} (h1 : L.all (fun c => isCode c || P c) = true) (h2 : ∀ c ∈ L.filter isCode, P c = true) : L.all P = true := by
  refine List.all_eq_true.mpr fun c hc => ?_
  have h := List.all_eq_true.mp h1 c hc
  rcases Bool.eq_false_or_eq_true (isCode c) with hi | hi
  · exact h2 c (List.mem_filter.mpr ⟨hc, hi⟩)
  · simpa [hi] using h
set_option maxRecDepth 65536 in
theorem w_c0 : (Jvm.Cond.code x code maxLocals ret).before args0 about1 = true := code_word (m := ⟨1, 5⟩) (meth := k1m5) (c := k1c5) (by decide +kernel) rfl rfl rfl (by decide +kernel)
set_option maxRecDepth 65536 in
theorem w_c1 : (Jvm.Cond.code ({ cls := "java/lang/String", name := "<init>", desc := "([C)V" } : Jvm.MethodName) jdk_42_method_3_code (2 : Nat) (Option.none : Option Jvm.ClassFile.FieldType)).before args0 about1 = true := code_word (m := ⟨7, 1⟩) (meth := k7m1) (c := k7c1) (by decide +kernel) rfl rfl rfl (by decide +kernel)
set_option maxRecDepth 65536 in
theorem w_c2 : (Jvm.Cond.code ({ cls := "java/lang/String", name := "<init>", desc := "([CIILjava/lang/Void;)V" } : Jvm.MethodName) jdk_42_method_149_code (6 : Nat) (Option.none : Option Jvm.ClassFile.FieldType)).before args0 about1 = true := code_word (m := ⟨7, 8⟩) (meth := k7m8) (c := k7c8) (by decide +kernel) rfl rfl rfl (by decide +kernel)
set_option maxRecDepth 65536 in
theorem w_c3 : (Jvm.Cond.code ({ cls := "java/lang/Object", name := "<init>", desc := "()V" } : Jvm.MethodName) object_method_1_code (1 : Nat) (Option.none : Option Jvm.ClassFile.FieldType)).before args0 about1 = true := code_word (m := ⟨0, 0⟩) (meth := k0m0) (c := k0c0) (by decide +kernel) rfl rfl rfl (by decide +kernel)
set_option maxRecDepth 65536 in
theorem w_c4 : (Jvm.Cond.code ({ cls := "java/lang/StringUTF16", name := "compress", desc := "([CII)[B" } : Jvm.MethodName) jdk_52_method_16_code (6 : Nat) (Option.some (Jvm.ClassFile.FieldType.array Jvm.ClassFile.FieldType.byte))).before args0 about1 = true := code_word (m := ⟨8, 8⟩) (meth := k8m8) (c := k8c8) (by decide +kernel) rfl rfl rfl (by decide +kernel)
set_option maxRecDepth 65536 in
theorem w_c5 : (Jvm.Cond.code ({ cls := "java/lang/StringUTF16", name := "compress", desc := "([CI[BII)I" } : Jvm.MethodName) jdk_52_method_21_code (7 : Nat) (Option.some Jvm.ClassFile.FieldType.int)).before args0 about1 = true := code_word (m := ⟨8, 9⟩) (meth := k8m9) (c := k8c9) (by decide +kernel) rfl rfl rfl (by decide +kernel)
set_option maxRecDepth 65536 in
theorem w_c6 : (Jvm.Cond.code ({ cls := "java/lang/StringUTF16", name := "coderFromArrayLen", desc := "([BI)B" } : Jvm.MethodName) jdk_52_method_15_code (2 : Nat) (Option.some Jvm.ClassFile.FieldType.byte)).before args0 about1 = true := code_word (m := ⟨8, 7⟩) (meth := k8m7) (c := k8c7) (by decide +kernel) rfl rfl rfl (by decide +kernel)
set_option maxRecDepth 65536 in
theorem w_c7 : (Jvm.Cond.code ({ cls := "java/lang/Math", name := "min", desc := "(II)I" } : Jvm.MethodName) jdk_29_method_69_code (2 : Nat) (Option.some Jvm.ClassFile.FieldType.int)).before args0 about1 = true := code_word (m := ⟨9, 4⟩) (meth := k9m4) (c := k9c4) (by decide +kernel) rfl rfl rfl (by decide +kernel)
set_option maxRecDepth 65536 in
theorem w_c8 : (Jvm.Cond.code ({ cls := "com/example/tuikuan/tuikuan/Pem", name := "encode", desc := "(Ljava/lang/String;[B)Ljava/lang/String;" } : Jvm.MethodName) prog_20_method_3_code (3 : Nat) (Option.some (Jvm.ClassFile.FieldType.object "java/lang/String"))).before args0 about1 = true := code_word (m := ⟨10, 1⟩) (meth := k10m1) (c := k10c1) (by decide +kernel) rfl rfl rfl (by decide +kernel)
set_option maxRecDepth 65536 in
theorem w_c9 : (Jvm.Cond.code ({ cls := "java/util/Base64", name := "getMimeEncoder", desc := "(I[B)Ljava/util/Base64$Encoder;" } : Jvm.MethodName) jdk_2448_method_5_code (7 : Nat) (Option.some (Jvm.ClassFile.FieldType.object "java/util/Base64$Encoder"))).before args0 about1 = true := code_word (m := ⟨11, 1⟩) (meth := k11m1) (c := k11c1) (by decide +kernel) rfl rfl rfl (by decide +kernel)
set_option maxRecDepth 65536 in
theorem w_c10 : (Jvm.Cond.code ({ cls := "java/util/Objects", name := "requireNonNull", desc := "(Ljava/lang/Object;)Ljava/lang/Object;" } : Jvm.MethodName) jdk_31_method_10_code (1 : Nat) (Option.some (Jvm.ClassFile.FieldType.object "java/lang/Object"))).before args0 about1 = true := code_word (m := ⟨12, 1⟩) (meth := k12m1) (c := k12c1) (by decide +kernel) rfl rfl rfl (by decide +kernel)
set_option maxRecDepth 65536 in
theorem w_c11 : (Jvm.Cond.code ({ cls := "java/util/Base64$Encoder", name := "<init>", desc := "(Z[BIZ)V" } : Jvm.MethodName) jdk_2452_method_1_code (5 : Nat) (Option.none : Option Jvm.ClassFile.FieldType)).before args0 about1 = true := code_word (m := ⟨14, 0⟩) (meth := k14m0) (c := k14c0) (by decide +kernel) rfl rfl rfl (by decide +kernel)
set_option maxRecDepth 65536 in
theorem w_c12 : (Jvm.Cond.code ({ cls := "java/util/Base64$Encoder", name := "encodeToString", desc := "([B)Ljava/lang/String;" } : Jvm.MethodName) jdk_2452_method_5_code (3 : Nat) (Option.some (Jvm.ClassFile.FieldType.object "java/lang/String"))).before args0 about1 = true := code_word (m := ⟨14, 3⟩) (meth := k14m3) (c := k14c3) (by decide +kernel) rfl rfl rfl (by decide +kernel)
set_option maxRecDepth 65536 in
theorem w_c13 : (Jvm.Cond.code ({ cls := "java/util/Base64$Encoder", name := "encode", desc := "([B)[B" } : Jvm.MethodName) jdk_2452_method_3_code (5 : Nat) (Option.some (Jvm.ClassFile.FieldType.array Jvm.ClassFile.FieldType.byte))).before args0 about1 = true := code_word (m := ⟨14, 2⟩) (meth := k14m2) (c := k14c2) (by decide +kernel) rfl rfl rfl (by decide +kernel)
set_option maxRecDepth 65536 in
theorem w_c14 : (Jvm.Cond.code ({ cls := "java/lang/Math", name := "addExact", desc := "(II)I" } : Jvm.MethodName) jdk_29_method_24_code (3 : Nat) (Option.some Jvm.ClassFile.FieldType.int)).before args0 about1 = true := code_word (m := ⟨9, 1⟩) (meth := k9m1) (c := k9c1) (by decide +kernel) rfl rfl rfl (by decide +kernel)
set_option maxRecDepth 65536 in
theorem w_c15 : (Jvm.Cond.code ({ cls := "java/lang/Math", name := "multiplyExact", desc := "(II)I" } : Jvm.MethodName) jdk_29_method_28_code (4 : Nat) (Option.some Jvm.ClassFile.FieldType.int)).before args0 about1 = true := code_word (m := ⟨9, 2⟩) (meth := k9m2) (c := k9c2) (by decide +kernel) rfl rfl rfl (by decide +kernel)
set_option maxRecDepth 65536 in
theorem w_c16 : (Jvm.Cond.code ({ cls := "java/util/Base64$Encoder", name := "encode0", desc := "([BII[B)I" } : Jvm.MethodName) jdk_2452_method_10_code (16 : Nat) (Option.some Jvm.ClassFile.FieldType.int)).before args0 about1 = true := code_word (m := ⟨14, 5⟩) (meth := k14m5) (c := k14c5) (by decide +kernel) rfl rfl rfl (by decide +kernel)
set_option maxRecDepth 65536 in
theorem w_c17 : (Jvm.Cond.code ({ cls := "java/lang/String", name := "<init>", desc := "([BIII)V" } : Jvm.MethodName) jdk_42_method_7_code (7 : Nat) (Option.none : Option Jvm.ClassFile.FieldType)).before args0 about1 = true := code_word (m := ⟨7, 2⟩) (meth := k7m2) (c := k7c2) (by decide +kernel) rfl rfl rfl (by decide +kernel)
set_option maxRecDepth 65536 in
theorem w_c18 : (Jvm.Cond.code ({ cls := "java/lang/String", name := "checkBoundsOffCount", desc := "(III)I" } : Jvm.MethodName) jdk_42_method_157_code (3 : Nat) (Option.some Jvm.ClassFile.FieldType.int)).before args0 about1 = true := code_word (m := ⟨7, 13⟩) (meth := k7m13) (c := k7c13) (by decide +kernel) rfl rfl rfl (by decide +kernel)
set_option maxRecDepth 65536 in
theorem w_c19 : (Jvm.Cond.code ({ cls := "jdk/internal/util/Preconditions", name := "checkFromIndexSize", desc := "(IIILjava/util/function/BiFunction;)I" } : Jvm.MethodName) jdk_41_method_13_code (4 : Nat) (Option.some Jvm.ClassFile.FieldType.int)).before args0 about1 = true := code_word (m := ⟨15, 2⟩) (meth := k15m2) (c := k15c2) (by decide +kernel) rfl rfl rfl (by decide +kernel)
set_option maxRecDepth 65536 in
theorem w_c20 : (Jvm.Cond.code ({ cls := "java/lang/StringBuilder", name := "<init>", desc := "()V" } : Jvm.MethodName) jdk_67_method_1_code (1 : Nat) (Option.none : Option Jvm.ClassFile.FieldType)).before args0 about1 = true := code_word (m := ⟨18, 0⟩) (meth := k18m0) (c := k18c0) (by decide +kernel) rfl rfl rfl (by decide +kernel)
set_option maxRecDepth 65536 in
theorem w_c21 : (Jvm.Cond.code ({ cls := "java/lang/AbstractStringBuilder", name := "<init>", desc := "(I)V" } : Jvm.MethodName) jdk_68_method_2_code (2 : Nat) (Option.none : Option Jvm.ClassFile.FieldType)).before args0 about1 = true := code_word (m := ⟨17, 1⟩) (meth := k17m1) (c := k17c1) (by decide +kernel) rfl rfl rfl (by decide +kernel)
set_option maxRecDepth 65536 in
theorem w_c22 : (Jvm.Cond.code ({ cls := "java/lang/StringBuilder", name := "append", desc := "(Ljava/lang/String;)Ljava/lang/StringBuilder;" } : Jvm.MethodName) jdk_67_method_7_code (2 : Nat) (Option.some (Jvm.ClassFile.FieldType.object "java/lang/StringBuilder"))).before args0 about1 = true := code_word (m := ⟨18, 1⟩) (meth := k18m1) (c := k18c1) (by decide +kernel) rfl rfl rfl (by decide +kernel)
set_option maxRecDepth 65536 in
theorem w_c23 : (Jvm.Cond.code ({ cls := "java/lang/AbstractStringBuilder", name := "append", desc := "(Ljava/lang/String;)Ljava/lang/AbstractStringBuilder;" } : Jvm.MethodName) jdk_68_method_22_code (3 : Nat) (Option.some (Jvm.ClassFile.FieldType.object "java/lang/AbstractStringBuilder"))).before args0 about1 = true := code_word (m := ⟨17, 6⟩) (meth := k17m6) (c := k17c6) (by decide +kernel) rfl rfl rfl (by decide +kernel)
set_option maxRecDepth 65536 in
theorem w_c24 : (Jvm.Cond.code ({ cls := "java/lang/String", name := "length", desc := "()I" } : Jvm.MethodName) jdk_42_method_54_code (1 : Nat) (Option.some Jvm.ClassFile.FieldType.int)).before args0 about1 = true := code_word (m := ⟨7, 4⟩) (meth := k7m4) (c := k7c4) (by decide +kernel) rfl rfl rfl (by decide +kernel)
set_option maxRecDepth 65536 in
theorem w_c25 : (Jvm.Cond.code ({ cls := "java/lang/String", name := "coder", desc := "()B" } : Jvm.MethodName) jdk_42_method_152_code (1 : Nat) (Option.some Jvm.ClassFile.FieldType.byte)).before args0 about1 = true := code_word (m := ⟨7, 10⟩) (meth := k7m10) (c := k7c10) (by decide +kernel) rfl rfl rfl (by decide +kernel)
set_option maxRecDepth 65536 in
theorem w_c26 : (Jvm.Cond.code ({ cls := "java/lang/AbstractStringBuilder", name := "ensureCapacityInternal", desc := "(I)V" } : Jvm.MethodName) jdk_68_method_9_code (3 : Nat) (Option.none : Option Jvm.ClassFile.FieldType)).before args0 about1 = true := code_word (m := ⟨17, 3⟩) (meth := k17m3) (c := k17c3) (by decide +kernel) rfl rfl rfl (by decide +kernel)
set_option maxRecDepth 65536 in
theorem w_c27 : (Jvm.Cond.code ({ cls := "java/lang/AbstractStringBuilder", name := "putStringAt", desc := "(ILjava/lang/String;)V" } : Jvm.MethodName) jdk_68_method_73_code (3 : Nat) (Option.none : Option Jvm.ClassFile.FieldType)).before args0 about1 = true := code_word (m := ⟨17, 10⟩) (meth := k17m10) (c := k17c10) (by decide +kernel) rfl rfl rfl (by decide +kernel)
set_option maxRecDepth 65536 in
theorem w_c28 : (Jvm.Cond.code ({ cls := "java/lang/AbstractStringBuilder", name := "inflateIfNeededFor", desc := "(Ljava/lang/String;)V" } : Jvm.MethodName) jdk_68_method_71_code (2 : Nat) (Option.none : Option Jvm.ClassFile.FieldType)).before args0 about1 = true := code_word (m := ⟨17, 9⟩) (meth := k17m9) (c := k17c9) (by decide +kernel) rfl rfl rfl (by decide +kernel)
set_option maxRecDepth 65536 in
theorem w_c29 : (Jvm.Cond.code ({ cls := "java/lang/String", name := "getBytes", desc := "([BIB)V" } : Jvm.MethodName) jdk_42_method_147_code (4 : Nat) (Option.none : Option Jvm.ClassFile.FieldType)).before args0 about1 = true := code_word (m := ⟨7, 7⟩) (meth := k7m7) (c := k7c7) (by decide +kernel) rfl rfl rfl (by decide +kernel)
set_option maxRecDepth 65536 in
theorem w_c30 : (Jvm.Cond.code ({ cls := "java/lang/AbstractStringBuilder", name := "newCapacity", desc := "(I)I" } : Jvm.MethodName) jdk_68_method_10_code (6 : Nat) (Option.some Jvm.ClassFile.FieldType.int)).before args0 about1 = true := code_word (m := ⟨17, 4⟩) (meth := k17m4) (c := k17c4) (by decide +kernel) rfl rfl rfl (by decide +kernel)
set_option maxRecDepth 65536 in
theorem w_c31 : (Jvm.Cond.code ({ cls := "jdk/internal/util/ArraysSupport", name := "newLength", desc := "(III)I" } : Jvm.MethodName) jdk_48_method_27_code (4 : Nat) (Option.some Jvm.ClassFile.FieldType.int)).before args0 about1 = true := code_word (m := ⟨20, 1⟩) (meth := k20m1) (c := k20c1) (by decide +kernel) rfl rfl rfl (by decide +kernel)
set_option maxRecDepth 65536 in
theorem w_c32 : (Jvm.Cond.code ({ cls := "java/lang/Math", name := "max", desc := "(II)I" } : Jvm.MethodName) jdk_29_method_65_code (2 : Nat) (Option.some Jvm.ClassFile.FieldType.int)).before args0 about1 = true := code_word (m := ⟨9, 3⟩) (meth := k9m3) (c := k9c3) (by decide +kernel) rfl rfl rfl (by decide +kernel)
set_option maxRecDepth 65536 in
theorem w_c33 : (Jvm.Cond.code ({ cls := "java/util/Arrays", name := "copyOf", desc := "([BI)[B" } : Jvm.MethodName) jdk_65_method_121_code (3 : Nat) (Option.some (Jvm.ClassFile.FieldType.array Jvm.ClassFile.FieldType.byte))).before args0 about1 = true := code_word (m := ⟨21, 1⟩) (meth := k21m1) (c := k21c1) (by decide +kernel) rfl rfl rfl (by decide +kernel)
set_option maxRecDepth 65536 in
theorem w_c34 : (Jvm.Cond.code ({ cls := "java/lang/StringBuilder", name := "toString", desc := "()Ljava/lang/String;" } : Jvm.MethodName) jdk_67_method_42_code (1 : Nat) (Option.some (Jvm.ClassFile.FieldType.object "java/lang/String"))).before args0 about1 = true := code_word (m := ⟨18, 2⟩) (meth := k18m2) (c := k18c2) (by decide +kernel) rfl rfl rfl (by decide +kernel)
set_option maxRecDepth 65536 in
theorem w_c35 : (Jvm.Cond.code ({ cls := "java/lang/String", name := "<init>", desc := "(Ljava/lang/StringBuilder;)V" } : Jvm.MethodName) jdk_42_method_53_code (2 : Nat) (Option.none : Option Jvm.ClassFile.FieldType)).before args0 about1 = true := code_word (m := ⟨7, 3⟩) (meth := k7m3) (c := k7c3) (by decide +kernel) rfl rfl rfl (by decide +kernel)
set_option maxRecDepth 65536 in
theorem w_c36 : (Jvm.Cond.code ({ cls := "java/lang/String", name := "<init>", desc := "(Ljava/lang/AbstractStringBuilder;Ljava/lang/Void;)V" } : Jvm.MethodName) jdk_42_method_150_code (5 : Nat) (Option.none : Option Jvm.ClassFile.FieldType)).before args0 about1 = true := code_word (m := ⟨7, 9⟩) (meth := k7m9) (c := k7c9) (by decide +kernel) rfl rfl rfl (by decide +kernel)
set_option maxRecDepth 65536 in
theorem w_c37 : (Jvm.Cond.code ({ cls := "java/lang/AbstractStringBuilder", name := "getValue", desc := "()[B" } : Jvm.MethodName) jdk_68_method_64_code (1 : Nat) (Option.some (Jvm.ClassFile.FieldType.array Jvm.ClassFile.FieldType.byte))).before args0 about1 = true := code_word (m := ⟨17, 7⟩) (meth := k17m7) (c := k17c7) (by decide +kernel) rfl rfl rfl (by decide +kernel)
set_option maxRecDepth 65536 in
theorem w_c38 : (Jvm.Cond.code ({ cls := "java/lang/StringBuilder", name := "length", desc := "()I" } : Jvm.MethodName) jdk_67_method_93_code (1 : Nat) (Option.some Jvm.ClassFile.FieldType.int)).before args0 about1 = true := code_word (m := ⟨18, 3⟩) (meth := k18m3) (c := k18c3) (by decide +kernel) rfl rfl rfl (by decide +kernel)
set_option maxRecDepth 65536 in
theorem w_c39 : (Jvm.Cond.code ({ cls := "java/lang/AbstractStringBuilder", name := "length", desc := "()I" } : Jvm.MethodName) jdk_68_method_6_code (1 : Nat) (Option.some Jvm.ClassFile.FieldType.int)).before args0 about1 = true := code_word (m := ⟨17, 2⟩) (meth := k17m2) (c := k17c2) (by decide +kernel) rfl rfl rfl (by decide +kernel)
set_option maxRecDepth 65536 in
theorem w_c40 : (Jvm.Cond.code ({ cls := "java/lang/AbstractStringBuilder", name := "isLatin1", desc := "()Z" } : Jvm.MethodName) jdk_68_method_68_code (1 : Nat) (Option.some Jvm.ClassFile.FieldType.boolean)).before args0 about1 = true := code_word (m := ⟨17, 8⟩) (meth := k17m8) (c := k17c8) (by decide +kernel) rfl rfl rfl (by decide +kernel)
set_option maxRecDepth 65536 in
theorem w_c41 : (Jvm.Cond.code ({ cls := "java/util/Arrays", name := "copyOfRange", desc := "([BII)[B" } : Jvm.MethodName) jdk_65_method_132_code (3 : Nat) (Option.some (Jvm.ClassFile.FieldType.array Jvm.ClassFile.FieldType.byte))).before args0 about1 = true := code_word (m := ⟨21, 3⟩) (meth := k21m3) (c := k21c3) (by decide +kernel) rfl rfl rfl (by decide +kernel)
set_option maxRecDepth 65536 in
theorem w_c42 : (Jvm.Cond.code ({ cls := "java/util/Arrays", name := "copyOfRangeByte", desc := "([BII)[B" } : Jvm.MethodName) jdk_65_method_133_code (5 : Nat) (Option.some (Jvm.ClassFile.FieldType.array Jvm.ClassFile.FieldType.byte))).before args0 about1 = true := code_word (m := ⟨21, 4⟩) (meth := k21m4) (c := k21c4) (by decide +kernel) rfl rfl rfl (by decide +kernel)
set_option maxRecDepth 65536 in
theorem w_c43 : (Jvm.Cond.code ({ cls := "java/util/Arrays", name := "checkLength", desc := "(II)V" } : Jvm.MethodName) jdk_65_method_131_code (2 : Nat) (Option.none : Option Jvm.ClassFile.FieldType)).before args0 about1 = true := code_word (m := ⟨21, 2⟩) (meth := k21m2) (c := k21c2) (by decide +kernel) rfl rfl rfl (by decide +kernel)
set_option maxRecDepth 65536 in
theorem w_c44 : (Jvm.Cond.code ({ cls := "java/lang/String", name := "equals", desc := "(Ljava/lang/Object;)Z" } : Jvm.MethodName) jdk_42_method_66_code (3 : Nat) (Option.some Jvm.ClassFile.FieldType.boolean)).before args0 about1 = true := code_word (m := ⟨7, 6⟩) (meth := k7m6) (c := k7c6) (by decide +kernel) rfl rfl rfl (by decide +kernel)
set_option maxRecDepth 65536 in
theorem w_c45 : (Jvm.Cond.code ({ cls := "java/lang/StringLatin1", name := "equals", desc := "([B[B)Z" } : Jvm.MethodName) jdk_43_method_13_code (3 : Nat) (Option.some Jvm.ClassFile.FieldType.boolean)).before args0 about1 = true := code_word (m := ⟨22, 2⟩) (meth := k22m2) (c := k22c2) (by decide +kernel) rfl rfl rfl (by decide +kernel)
set_option maxRecDepth 65536 in
theorem w_c46 : (Jvm.Cond.code ({ cls := "com/example/tuikuan/tuikuan/PemEncodePinLaw", name := "ub", desc := "(JI)I" } : Jvm.MethodName) method_2_code (3 : Nat) (Option.some Jvm.ClassFile.FieldType.int)).before args0 about1 = true := code_word (m := ⟨1, 1⟩) (meth := k1m1) (c := k1c1) (by decide +kernel) rfl rfl rfl (by decide +kernel)
set_option maxRecDepth 65536 in
theorem w_c47 : (Jvm.Cond.code ({ cls := "com/example/tuikuan/tuikuan/PemEncodePinLaw", name := "grp", desc := "(IIIII)C" } : Jvm.MethodName) method_4_code (5 : Nat) (Option.some Jvm.ClassFile.FieldType.char)).before args0 about1 = true := code_word (m := ⟨1, 3⟩) (meth := k1m3) (c := k1c3) (by decide +kernel) rfl rfl rfl (by decide +kernel)
set_option maxRecDepth 65536 in
theorem w_c48 : (Jvm.Cond.code ({ cls := "com/example/tuikuan/tuikuan/PemEncodePinLaw", name := "b64", desc := "(I)C" } : Jvm.MethodName) method_3_code (1 : Nat) (Option.some Jvm.ClassFile.FieldType.char)).before args0 about1 = true := code_word (m := ⟨1, 2⟩) (meth := k1m2) (c := k1c2) (by decide +kernel) rfl rfl rfl (by decide +kernel)
set_option maxRecDepth 65536 in
theorem w_c49 : (Jvm.Cond.code ({ cls := "java/util/Base64$Encoder", name := "encodeBlock", desc := "([BII[BIZ)V" } : Jvm.MethodName) jdk_2452_method_9_code (11 : Nat) (Option.none : Option Jvm.ClassFile.FieldType)).before args0 about1 = true := code_word (m := ⟨14, 4⟩) (meth := k14m4) (c := k14c4) (by decide +kernel) rfl rfl rfl (by decide +kernel)
set_option maxRecDepth 65536 in
theorem w_c50 : (Jvm.Cond.code ({ cls := "com/example/tuikuan/tuikuan/PemEncodePinLaw", name := "longCase", desc := "(Ljava/lang/String;CCJ)Z" } : Jvm.MethodName) method_5_code (14 : Nat) (Option.some Jvm.ClassFile.FieldType.boolean)).before args0 about1 = true := code_word (m := ⟨1, 4⟩) (meth := k1m4) (c := k1c4) (by decide +kernel) rfl rfl rfl (by decide +kernel)
set_option maxRecDepth 65536 in
theorem w_c51 : (Jvm.Cond.code ({ cls := "java/lang/String", name := "charAt", desc := "(I)C" } : Jvm.MethodName) jdk_42_method_56_code (2 : Nat) (Option.some Jvm.ClassFile.FieldType.char)).before args0 about1 = true := code_word (m := ⟨7, 5⟩) (meth := k7m5) (c := k7c5) (by decide +kernel) rfl rfl rfl (by decide +kernel)
set_option maxRecDepth 65536 in
theorem w_c52 : (Jvm.Cond.code ({ cls := "java/lang/String", name := "isLatin1", desc := "()Z" } : Jvm.MethodName) jdk_42_method_154_code (1 : Nat) (Option.some Jvm.ClassFile.FieldType.boolean)).before args0 about1 = true := code_word (m := ⟨7, 11⟩) (meth := k7m11) (c := k7c11) (by decide +kernel) rfl rfl rfl (by decide +kernel)
set_option maxRecDepth 65536 in
theorem w_c53 : (Jvm.Cond.code ({ cls := "java/lang/StringLatin1", name := "charAt", desc := "([BI)C" } : Jvm.MethodName) jdk_43_method_2_code (2 : Nat) (Option.some Jvm.ClassFile.FieldType.char)).before args0 about1 = true := code_word (m := ⟨22, 1⟩) (meth := k22m1) (c := k22c1) (by decide +kernel) rfl rfl rfl (by decide +kernel)
set_option maxRecDepth 65536 in
theorem w_c54 : (Jvm.Cond.code ({ cls := "java/lang/String", name := "checkIndex", desc := "(II)V" } : Jvm.MethodName) jdk_42_method_155_code (2 : Nat) (Option.none : Option Jvm.ClassFile.FieldType)).before args0 about1 = true := code_word (m := ⟨7, 12⟩) (meth := k7m12) (c := k7c12) (by decide +kernel) rfl rfl rfl (by decide +kernel)
set_option maxRecDepth 65536 in
theorem w_c55 : (Jvm.Cond.code ({ cls := "jdk/internal/util/Preconditions", name := "checkIndex", desc := "(IILjava/util/function/BiFunction;)I" } : Jvm.MethodName) jdk_41_method_11_code (3 : Nat) (Option.some Jvm.ClassFile.FieldType.int)).before args0 about1 = true := code_word (m := ⟨15, 1⟩) (meth := k15m1) (c := k15c1) (by decide +kernel) rfl rfl rfl (by decide +kernel)
set_option maxRecDepth 65536 in
theorem w_c56 : (Jvm.Cond.code ({ cls := "java/lang/StringUTF16", name := "toBytes", desc := "([CII)[B" } : Jvm.MethodName) jdk_52_method_14_code (5 : Nat) (Option.some (Jvm.ClassFile.FieldType.array Jvm.ClassFile.FieldType.byte))).before args0 about1 = true := code_word (m := ⟨8, 6⟩) (meth := k8m6) (c := k8c6) (by decide +kernel) rfl rfl rfl (by decide +kernel)
set_option maxRecDepth 65536 in
theorem w_c57 : (Jvm.Cond.code ({ cls := "java/lang/StringUTF16", name := "newBytesFor", desc := "(I)[B" } : Jvm.MethodName) jdk_52_method_2_code (1 : Nat) (Option.some (Jvm.ClassFile.FieldType.array Jvm.ClassFile.FieldType.byte))).before args0 about1 = true := code_word (m := ⟨8, 1⟩) (meth := k8m1) (c := k8c1) (by decide +kernel) rfl rfl rfl (by decide +kernel)
set_option maxRecDepth 65536 in
theorem w_c58 : (Jvm.Cond.code ({ cls := "java/lang/StringUTF16", name := "newBytesLength", desc := "(I)I" } : Jvm.MethodName) jdk_52_method_3_code (1 : Nat) (Option.some Jvm.ClassFile.FieldType.int)).before args0 about1 = true := code_word (m := ⟨8, 2⟩) (meth := k8m2) (c := k8c2) (by decide +kernel) rfl rfl rfl (by decide +kernel)
set_option maxRecDepth 65536 in
theorem w_c59 : (Jvm.Cond.code ({ cls := "java/lang/StringUTF16", name := "putChar", desc := "([BII)V" } : Jvm.MethodName) jdk_52_method_4_code (3 : Nat) (Option.none : Option Jvm.ClassFile.FieldType)).before args0 about1 = true := code_word (m := ⟨8, 3⟩) (meth := k8m3) (c := k8c3) (by decide +kernel) rfl rfl rfl (by decide +kernel)
set_option maxRecDepth 65536 in
theorem w_c60 : (Jvm.Cond.code ({ cls := "java/lang/StringUTF16", name := "getChar", desc := "([BI)C" } : Jvm.MethodName) jdk_52_method_5_code (2 : Nat) (Option.some Jvm.ClassFile.FieldType.char)).before args0 about1 = true := code_word (m := ⟨8, 4⟩) (meth := k8m4) (c := k8c4) (by decide +kernel) rfl rfl rfl (by decide +kernel)
set_option maxRecDepth 65536 in
theorem w_c61 : (Jvm.Cond.code ({ cls := "java/lang/AbstractStringBuilder", name := "inflate", desc := "()V" } : Jvm.MethodName) jdk_68_method_11_code (2 : Nat) (Option.none : Option Jvm.ClassFile.FieldType)).before args0 about1 = true := code_word (m := ⟨17, 5⟩) (meth := k17m5) (c := k17c5) (by decide +kernel) rfl rfl rfl (by decide +kernel)
set_option maxRecDepth 65536 in
theorem w_c62 : (Jvm.Cond.code ({ cls := "java/lang/StringLatin1", name := "inflate", desc := "([BI[BII)V" } : Jvm.MethodName) jdk_43_method_50_code (5 : Nat) (Option.none : Option Jvm.ClassFile.FieldType)).before args0 about1 = true := code_word (m := ⟨22, 3⟩) (meth := k22m3) (c := k22c3) (by decide +kernel) rfl rfl rfl (by decide +kernel)
set_option maxRecDepth 65536 in
theorem w_c63 : (Jvm.Cond.code ({ cls := "java/lang/StringUTF16", name := "inflate", desc := "([BI[BII)V" } : Jvm.MethodName) jdk_52_method_86_code (6 : Nat) (Option.none : Option Jvm.ClassFile.FieldType)).before args0 about1 = true := code_word (m := ⟨8, 11⟩) (meth := k8m11) (c := k8c11) (by decide +kernel) rfl rfl rfl (by decide +kernel)
set_option maxRecDepth 65536 in
theorem w_c64 : (Jvm.Cond.code ({ cls := "java/lang/StringUTF16", name := "checkBoundsOffCount", desc := "(II[B)V" } : Jvm.MethodName) jdk_52_method_94_code (3 : Nat) (Option.none : Option Jvm.ClassFile.FieldType)).before args0 about1 = true := code_word (m := ⟨8, 13⟩) (meth := k8m13) (c := k8c13) (by decide +kernel) rfl rfl rfl (by decide +kernel)
set_option maxRecDepth 65536 in
theorem w_c65 : (Jvm.Cond.code ({ cls := "java/lang/StringUTF16", name := "length", desc := "([B)I" } : Jvm.MethodName) jdk_52_method_6_code (1 : Nat) (Option.some Jvm.ClassFile.FieldType.int)).before args0 about1 = true := code_word (m := ⟨8, 5⟩) (meth := k8m5) (c := k8c5) (by decide +kernel) rfl rfl rfl (by decide +kernel)
set_option maxRecDepth 65536 in
theorem w_c66 : (Jvm.Cond.code ({ cls := "java/lang/StringUTF16", name := "charAt", desc := "([BI)C" } : Jvm.MethodName) jdk_52_method_83_code (2 : Nat) (Option.some Jvm.ClassFile.FieldType.char)).before args0 about1 = true := code_word (m := ⟨8, 10⟩) (meth := k8m10) (c := k8c10) (by decide +kernel) rfl rfl rfl (by decide +kernel)
set_option maxRecDepth 65536 in
theorem w_c67 : (Jvm.Cond.code ({ cls := "java/lang/StringUTF16", name := "checkIndex", desc := "(I[B)V" } : Jvm.MethodName) jdk_52_method_91_code (2 : Nat) (Option.none : Option Jvm.ClassFile.FieldType)).before args0 about1 = true := code_word (m := ⟨8, 12⟩) (meth := k8m12) (c := k8c12) (by decide +kernel) rfl rfl rfl (by decide +kernel)
def codes1 : List Jvm.Cond := [Jvm.Cond.code x code maxLocals ret, Jvm.Cond.code ({ cls := "java/lang/String", name := "<init>", desc := "([C)V" } : Jvm.MethodName) jdk_42_method_3_code (2 : Nat) (Option.none : Option Jvm.ClassFile.FieldType), Jvm.Cond.code ({ cls := "java/lang/String", name := "<init>", desc := "([CIILjava/lang/Void;)V" } : Jvm.MethodName) jdk_42_method_149_code (6 : Nat) (Option.none : Option Jvm.ClassFile.FieldType), Jvm.Cond.code ({ cls := "java/lang/Object", name := "<init>", desc := "()V" } : Jvm.MethodName) object_method_1_code (1 : Nat) (Option.none : Option Jvm.ClassFile.FieldType), Jvm.Cond.code ({ cls := "java/lang/StringUTF16", name := "compress", desc := "([CII)[B" } : Jvm.MethodName) jdk_52_method_16_code (6 : Nat) (Option.some (Jvm.ClassFile.FieldType.array Jvm.ClassFile.FieldType.byte)), Jvm.Cond.code ({ cls := "java/lang/StringUTF16", name := "compress", desc := "([CI[BII)I" } : Jvm.MethodName) jdk_52_method_21_code (7 : Nat) (Option.some Jvm.ClassFile.FieldType.int), Jvm.Cond.code ({ cls := "java/lang/StringUTF16", name := "coderFromArrayLen", desc := "([BI)B" } : Jvm.MethodName) jdk_52_method_15_code (2 : Nat) (Option.some Jvm.ClassFile.FieldType.byte), Jvm.Cond.code ({ cls := "java/lang/Math", name := "min", desc := "(II)I" } : Jvm.MethodName) jdk_29_method_69_code (2 : Nat) (Option.some Jvm.ClassFile.FieldType.int), Jvm.Cond.code ({ cls := "com/example/tuikuan/tuikuan/Pem", name := "encode", desc := "(Ljava/lang/String;[B)Ljava/lang/String;" } : Jvm.MethodName) prog_20_method_3_code (3 : Nat) (Option.some (Jvm.ClassFile.FieldType.object "java/lang/String")), Jvm.Cond.code ({ cls := "java/util/Base64", name := "getMimeEncoder", desc := "(I[B)Ljava/util/Base64$Encoder;" } : Jvm.MethodName) jdk_2448_method_5_code (7 : Nat) (Option.some (Jvm.ClassFile.FieldType.object "java/util/Base64$Encoder")), Jvm.Cond.code ({ cls := "java/util/Objects", name := "requireNonNull", desc := "(Ljava/lang/Object;)Ljava/lang/Object;" } : Jvm.MethodName) jdk_31_method_10_code (1 : Nat) (Option.some (Jvm.ClassFile.FieldType.object "java/lang/Object")), Jvm.Cond.code ({ cls := "java/util/Base64$Encoder", name := "<init>", desc := "(Z[BIZ)V" } : Jvm.MethodName) jdk_2452_method_1_code (5 : Nat) (Option.none : Option Jvm.ClassFile.FieldType), Jvm.Cond.code ({ cls := "java/util/Base64$Encoder", name := "encodeToString", desc := "([B)Ljava/lang/String;" } : Jvm.MethodName) jdk_2452_method_5_code (3 : Nat) (Option.some (Jvm.ClassFile.FieldType.object "java/lang/String")), Jvm.Cond.code ({ cls := "java/util/Base64$Encoder", name := "encode", desc := "([B)[B" } : Jvm.MethodName) jdk_2452_method_3_code (5 : Nat) (Option.some (Jvm.ClassFile.FieldType.array Jvm.ClassFile.FieldType.byte)), Jvm.Cond.code ({ cls := "java/lang/Math", name := "addExact", desc := "(II)I" } : Jvm.MethodName) jdk_29_method_24_code (3 : Nat) (Option.some Jvm.ClassFile.FieldType.int), Jvm.Cond.code ({ cls := "java/lang/Math", name := "multiplyExact", desc := "(II)I" } : Jvm.MethodName) jdk_29_method_28_code (4 : Nat) (Option.some Jvm.ClassFile.FieldType.int), Jvm.Cond.code ({ cls := "java/util/Base64$Encoder", name := "encode0", desc := "([BII[B)I" } : Jvm.MethodName) jdk_2452_method_10_code (16 : Nat) (Option.some Jvm.ClassFile.FieldType.int), Jvm.Cond.code ({ cls := "java/lang/String", name := "<init>", desc := "([BIII)V" } : Jvm.MethodName) jdk_42_method_7_code (7 : Nat) (Option.none : Option Jvm.ClassFile.FieldType), Jvm.Cond.code ({ cls := "java/lang/String", name := "checkBoundsOffCount", desc := "(III)I" } : Jvm.MethodName) jdk_42_method_157_code (3 : Nat) (Option.some Jvm.ClassFile.FieldType.int), Jvm.Cond.code ({ cls := "jdk/internal/util/Preconditions", name := "checkFromIndexSize", desc := "(IIILjava/util/function/BiFunction;)I" } : Jvm.MethodName) jdk_41_method_13_code (4 : Nat) (Option.some Jvm.ClassFile.FieldType.int), Jvm.Cond.code ({ cls := "java/lang/StringBuilder", name := "<init>", desc := "()V" } : Jvm.MethodName) jdk_67_method_1_code (1 : Nat) (Option.none : Option Jvm.ClassFile.FieldType), Jvm.Cond.code ({ cls := "java/lang/AbstractStringBuilder", name := "<init>", desc := "(I)V" } : Jvm.MethodName) jdk_68_method_2_code (2 : Nat) (Option.none : Option Jvm.ClassFile.FieldType), Jvm.Cond.code ({ cls := "java/lang/StringBuilder", name := "append", desc := "(Ljava/lang/String;)Ljava/lang/StringBuilder;" } : Jvm.MethodName) jdk_67_method_7_code (2 : Nat) (Option.some (Jvm.ClassFile.FieldType.object "java/lang/StringBuilder")), Jvm.Cond.code ({ cls := "java/lang/AbstractStringBuilder", name := "append", desc := "(Ljava/lang/String;)Ljava/lang/AbstractStringBuilder;" } : Jvm.MethodName) jdk_68_method_22_code (3 : Nat) (Option.some (Jvm.ClassFile.FieldType.object "java/lang/AbstractStringBuilder")), Jvm.Cond.code ({ cls := "java/lang/String", name := "length", desc := "()I" } : Jvm.MethodName) jdk_42_method_54_code (1 : Nat) (Option.some Jvm.ClassFile.FieldType.int), Jvm.Cond.code ({ cls := "java/lang/String", name := "coder", desc := "()B" } : Jvm.MethodName) jdk_42_method_152_code (1 : Nat) (Option.some Jvm.ClassFile.FieldType.byte), Jvm.Cond.code ({ cls := "java/lang/AbstractStringBuilder", name := "ensureCapacityInternal", desc := "(I)V" } : Jvm.MethodName) jdk_68_method_9_code (3 : Nat) (Option.none : Option Jvm.ClassFile.FieldType), Jvm.Cond.code ({ cls := "java/lang/AbstractStringBuilder", name := "putStringAt", desc := "(ILjava/lang/String;)V" } : Jvm.MethodName) jdk_68_method_73_code (3 : Nat) (Option.none : Option Jvm.ClassFile.FieldType), Jvm.Cond.code ({ cls := "java/lang/AbstractStringBuilder", name := "inflateIfNeededFor", desc := "(Ljava/lang/String;)V" } : Jvm.MethodName) jdk_68_method_71_code (2 : Nat) (Option.none : Option Jvm.ClassFile.FieldType), Jvm.Cond.code ({ cls := "java/lang/String", name := "getBytes", desc := "([BIB)V" } : Jvm.MethodName) jdk_42_method_147_code (4 : Nat) (Option.none : Option Jvm.ClassFile.FieldType), Jvm.Cond.code ({ cls := "java/lang/AbstractStringBuilder", name := "newCapacity", desc := "(I)I" } : Jvm.MethodName) jdk_68_method_10_code (6 : Nat) (Option.some Jvm.ClassFile.FieldType.int), Jvm.Cond.code ({ cls := "jdk/internal/util/ArraysSupport", name := "newLength", desc := "(III)I" } : Jvm.MethodName) jdk_48_method_27_code (4 : Nat) (Option.some Jvm.ClassFile.FieldType.int), Jvm.Cond.code ({ cls := "java/lang/Math", name := "max", desc := "(II)I" } : Jvm.MethodName) jdk_29_method_65_code (2 : Nat) (Option.some Jvm.ClassFile.FieldType.int), Jvm.Cond.code ({ cls := "java/util/Arrays", name := "copyOf", desc := "([BI)[B" } : Jvm.MethodName) jdk_65_method_121_code (3 : Nat) (Option.some (Jvm.ClassFile.FieldType.array Jvm.ClassFile.FieldType.byte)), Jvm.Cond.code ({ cls := "java/lang/StringBuilder", name := "toString", desc := "()Ljava/lang/String;" } : Jvm.MethodName) jdk_67_method_42_code (1 : Nat) (Option.some (Jvm.ClassFile.FieldType.object "java/lang/String")), Jvm.Cond.code ({ cls := "java/lang/String", name := "<init>", desc := "(Ljava/lang/StringBuilder;)V" } : Jvm.MethodName) jdk_42_method_53_code (2 : Nat) (Option.none : Option Jvm.ClassFile.FieldType), Jvm.Cond.code ({ cls := "java/lang/String", name := "<init>", desc := "(Ljava/lang/AbstractStringBuilder;Ljava/lang/Void;)V" } : Jvm.MethodName) jdk_42_method_150_code (5 : Nat) (Option.none : Option Jvm.ClassFile.FieldType), Jvm.Cond.code ({ cls := "java/lang/AbstractStringBuilder", name := "getValue", desc := "()[B" } : Jvm.MethodName) jdk_68_method_64_code (1 : Nat) (Option.some (Jvm.ClassFile.FieldType.array Jvm.ClassFile.FieldType.byte)), Jvm.Cond.code ({ cls := "java/lang/StringBuilder", name := "length", desc := "()I" } : Jvm.MethodName) jdk_67_method_93_code (1 : Nat) (Option.some Jvm.ClassFile.FieldType.int), Jvm.Cond.code ({ cls := "java/lang/AbstractStringBuilder", name := "length", desc := "()I" } : Jvm.MethodName) jdk_68_method_6_code (1 : Nat) (Option.some Jvm.ClassFile.FieldType.int), Jvm.Cond.code ({ cls := "java/lang/AbstractStringBuilder", name := "isLatin1", desc := "()Z" } : Jvm.MethodName) jdk_68_method_68_code (1 : Nat) (Option.some Jvm.ClassFile.FieldType.boolean), Jvm.Cond.code ({ cls := "java/util/Arrays", name := "copyOfRange", desc := "([BII)[B" } : Jvm.MethodName) jdk_65_method_132_code (3 : Nat) (Option.some (Jvm.ClassFile.FieldType.array Jvm.ClassFile.FieldType.byte)), Jvm.Cond.code ({ cls := "java/util/Arrays", name := "copyOfRangeByte", desc := "([BII)[B" } : Jvm.MethodName) jdk_65_method_133_code (5 : Nat) (Option.some (Jvm.ClassFile.FieldType.array Jvm.ClassFile.FieldType.byte)), Jvm.Cond.code ({ cls := "java/util/Arrays", name := "checkLength", desc := "(II)V" } : Jvm.MethodName) jdk_65_method_131_code (2 : Nat) (Option.none : Option Jvm.ClassFile.FieldType), Jvm.Cond.code ({ cls := "java/lang/String", name := "equals", desc := "(Ljava/lang/Object;)Z" } : Jvm.MethodName) jdk_42_method_66_code (3 : Nat) (Option.some Jvm.ClassFile.FieldType.boolean), Jvm.Cond.code ({ cls := "java/lang/StringLatin1", name := "equals", desc := "([B[B)Z" } : Jvm.MethodName) jdk_43_method_13_code (3 : Nat) (Option.some Jvm.ClassFile.FieldType.boolean), Jvm.Cond.code ({ cls := "com/example/tuikuan/tuikuan/PemEncodePinLaw", name := "ub", desc := "(JI)I" } : Jvm.MethodName) method_2_code (3 : Nat) (Option.some Jvm.ClassFile.FieldType.int), Jvm.Cond.code ({ cls := "com/example/tuikuan/tuikuan/PemEncodePinLaw", name := "grp", desc := "(IIIII)C" } : Jvm.MethodName) method_4_code (5 : Nat) (Option.some Jvm.ClassFile.FieldType.char), Jvm.Cond.code ({ cls := "com/example/tuikuan/tuikuan/PemEncodePinLaw", name := "b64", desc := "(I)C" } : Jvm.MethodName) method_3_code (1 : Nat) (Option.some Jvm.ClassFile.FieldType.char), Jvm.Cond.code ({ cls := "java/util/Base64$Encoder", name := "encodeBlock", desc := "([BII[BIZ)V" } : Jvm.MethodName) jdk_2452_method_9_code (11 : Nat) (Option.none : Option Jvm.ClassFile.FieldType), Jvm.Cond.code ({ cls := "com/example/tuikuan/tuikuan/PemEncodePinLaw", name := "longCase", desc := "(Ljava/lang/String;CCJ)Z" } : Jvm.MethodName) method_5_code (14 : Nat) (Option.some Jvm.ClassFile.FieldType.boolean), Jvm.Cond.code ({ cls := "java/lang/String", name := "charAt", desc := "(I)C" } : Jvm.MethodName) jdk_42_method_56_code (2 : Nat) (Option.some Jvm.ClassFile.FieldType.char), Jvm.Cond.code ({ cls := "java/lang/String", name := "isLatin1", desc := "()Z" } : Jvm.MethodName) jdk_42_method_154_code (1 : Nat) (Option.some Jvm.ClassFile.FieldType.boolean), Jvm.Cond.code ({ cls := "java/lang/StringLatin1", name := "charAt", desc := "([BI)C" } : Jvm.MethodName) jdk_43_method_2_code (2 : Nat) (Option.some Jvm.ClassFile.FieldType.char), Jvm.Cond.code ({ cls := "java/lang/String", name := "checkIndex", desc := "(II)V" } : Jvm.MethodName) jdk_42_method_155_code (2 : Nat) (Option.none : Option Jvm.ClassFile.FieldType), Jvm.Cond.code ({ cls := "jdk/internal/util/Preconditions", name := "checkIndex", desc := "(IILjava/util/function/BiFunction;)I" } : Jvm.MethodName) jdk_41_method_11_code (3 : Nat) (Option.some Jvm.ClassFile.FieldType.int), Jvm.Cond.code ({ cls := "java/lang/StringUTF16", name := "toBytes", desc := "([CII)[B" } : Jvm.MethodName) jdk_52_method_14_code (5 : Nat) (Option.some (Jvm.ClassFile.FieldType.array Jvm.ClassFile.FieldType.byte)), Jvm.Cond.code ({ cls := "java/lang/StringUTF16", name := "newBytesFor", desc := "(I)[B" } : Jvm.MethodName) jdk_52_method_2_code (1 : Nat) (Option.some (Jvm.ClassFile.FieldType.array Jvm.ClassFile.FieldType.byte)), Jvm.Cond.code ({ cls := "java/lang/StringUTF16", name := "newBytesLength", desc := "(I)I" } : Jvm.MethodName) jdk_52_method_3_code (1 : Nat) (Option.some Jvm.ClassFile.FieldType.int), Jvm.Cond.code ({ cls := "java/lang/StringUTF16", name := "putChar", desc := "([BII)V" } : Jvm.MethodName) jdk_52_method_4_code (3 : Nat) (Option.none : Option Jvm.ClassFile.FieldType), Jvm.Cond.code ({ cls := "java/lang/StringUTF16", name := "getChar", desc := "([BI)C" } : Jvm.MethodName) jdk_52_method_5_code (2 : Nat) (Option.some Jvm.ClassFile.FieldType.char), Jvm.Cond.code ({ cls := "java/lang/AbstractStringBuilder", name := "inflate", desc := "()V" } : Jvm.MethodName) jdk_68_method_11_code (2 : Nat) (Option.none : Option Jvm.ClassFile.FieldType), Jvm.Cond.code ({ cls := "java/lang/StringLatin1", name := "inflate", desc := "([BI[BII)V" } : Jvm.MethodName) jdk_43_method_50_code (5 : Nat) (Option.none : Option Jvm.ClassFile.FieldType), Jvm.Cond.code ({ cls := "java/lang/StringUTF16", name := "inflate", desc := "([BI[BII)V" } : Jvm.MethodName) jdk_52_method_86_code (6 : Nat) (Option.none : Option Jvm.ClassFile.FieldType), Jvm.Cond.code ({ cls := "java/lang/StringUTF16", name := "checkBoundsOffCount", desc := "(II[B)V" } : Jvm.MethodName) jdk_52_method_94_code (3 : Nat) (Option.none : Option Jvm.ClassFile.FieldType), Jvm.Cond.code ({ cls := "java/lang/StringUTF16", name := "length", desc := "([B)I" } : Jvm.MethodName) jdk_52_method_6_code (1 : Nat) (Option.some Jvm.ClassFile.FieldType.int), Jvm.Cond.code ({ cls := "java/lang/StringUTF16", name := "charAt", desc := "([BI)C" } : Jvm.MethodName) jdk_52_method_83_code (2 : Nat) (Option.some Jvm.ClassFile.FieldType.char), Jvm.Cond.code ({ cls := "java/lang/StringUTF16", name := "checkIndex", desc := "(I[B)V" } : Jvm.MethodName) jdk_52_method_91_code (2 : Nat) (Option.none : Option Jvm.ClassFile.FieldType)]
set_option maxRecDepth 65536 in
theorem codes_eq : words1.filter isCode = codes1 := rfl
theorem w_codes : ∀ c ∈ words1.filter isCode, c.before args0 about1 = true := by
  rw [codes_eq]
  intro c hc
  simp only [codes1, List.mem_cons, List.not_mem_nil, or_false] at hc
  rcases hc with rfl | rfl | rfl | rfl | rfl | rfl | rfl | rfl | rfl | rfl | rfl | rfl | rfl | rfl | rfl | rfl | rfl | rfl | rfl | rfl | rfl | rfl | rfl | rfl | rfl | rfl | rfl | rfl | rfl | rfl | rfl | rfl | rfl | rfl | rfl | rfl | rfl | rfl | rfl | rfl | rfl | rfl | rfl | rfl | rfl | rfl | rfl | rfl | rfl | rfl | rfl | rfl | rfl | rfl | rfl | rfl | rfl | rfl | rfl | rfl | rfl | rfl | rfl | rfl | rfl | rfl | rfl | rfl
  · exact w_c0
  · exact w_c1
  · exact w_c2
  · exact w_c3
  · exact w_c4
  · exact w_c5
  · exact w_c6
  · exact w_c7
  · exact w_c8
  · exact w_c9
  · exact w_c10
  · exact w_c11
  · exact w_c12
  · exact w_c13
  · exact w_c14
  · exact w_c15
  · exact w_c16
  · exact w_c17
  · exact w_c18
  · exact w_c19
  · exact w_c20
  · exact w_c21
  · exact w_c22
  · exact w_c23
  · exact w_c24
  · exact w_c25
  · exact w_c26
  · exact w_c27
  · exact w_c28
  · exact w_c29
  · exact w_c30
  · exact w_c31
  · exact w_c32
  · exact w_c33
  · exact w_c34
  · exact w_c35
  · exact w_c36
  · exact w_c37
  · exact w_c38
  · exact w_c39
  · exact w_c40
  · exact w_c41
  · exact w_c42
  · exact w_c43
  · exact w_c44
  · exact w_c45
  · exact w_c46
  · exact w_c47
  · exact w_c48
  · exact w_c49
  · exact w_c50
  · exact w_c51
  · exact w_c52
  · exact w_c53
  · exact w_c54
  · exact w_c55
  · exact w_c56
  · exact w_c57
  · exact w_c58
  · exact w_c59
  · exact w_c60
  · exact w_c61
  · exact w_c62
  · exact w_c63
  · exact w_c64
  · exact w_c65
  · exact w_c66
  · exact w_c67
set_option maxRecDepth 65536 in
theorem w_t1 : (words1.take 24).all (fun c => isCode c || c.before args0 about1) = true := by decide +kernel
set_option maxRecDepth 65536 in
theorem w_t2 : ((words1.drop 24).take 24).all (fun c => isCode c || c.before args0 about1) = true := by decide +kernel
set_option maxRecDepth 65536 in
theorem w_t3 : (((words1.drop 24).drop 24).take 24).all (fun c => isCode c || c.before args0 about1) = true := by decide +kernel
set_option maxRecDepth 65536 in
theorem w_t4 : ((((words1.drop 24).drop 24).drop 24).take 24).all (fun c => isCode c || c.before args0 about1) = true := by decide +kernel
set_option maxRecDepth 65536 in
theorem w_t5 : (((((words1.drop 24).drop 24).drop 24).drop 24).take 24).all (fun c => isCode c || c.before args0 about1) = true := by decide +kernel
set_option maxRecDepth 65536 in
theorem w_t6 : ((((((words1.drop 24).drop 24).drop 24).drop 24).drop 24).take 24).all (fun c => isCode c || c.before args0 about1) = true := by decide +kernel
set_option maxRecDepth 65536 in
theorem w_t7 : (((((((words1.drop 24).drop 24).drop 24).drop 24).drop 24).drop 24).take 24).all (fun c => isCode c || c.before args0 about1) = true := by decide +kernel
set_option maxRecDepth 65536 in
theorem w_t8 : ((((((((words1.drop 24).drop 24).drop 24).drop 24).drop 24).drop 24).drop 24).take 24).all (fun c => isCode c || c.before args0 about1) = true := by decide +kernel
set_option maxRecDepth 65536 in
theorem w_t9 : (((((((((words1.drop 24).drop 24).drop 24).drop 24).drop 24).drop 24).drop 24).drop 24).take 24).all (fun c => isCode c || c.before args0 about1) = true := by decide +kernel
set_option maxRecDepth 65536 in
theorem w_t10 : ((((((((((words1.drop 24).drop 24).drop 24).drop 24).drop 24).drop 24).drop 24).drop 24).drop 24).take 24).all (fun c => isCode c || c.before args0 about1) = true := by decide +kernel
set_option maxRecDepth 65536 in
theorem w_t11 : (((((((((((words1.drop 24).drop 24).drop 24).drop 24).drop 24).drop 24).drop 24).drop 24).drop 24).drop 24).take 24).all (fun c => isCode c || c.before args0 about1) = true := by decide +kernel
set_option maxRecDepth 65536 in
theorem w_t12 : ((((((((((((words1.drop 24).drop 24).drop 24).drop 24).drop 24).drop 24).drop 24).drop 24).drop 24).drop 24).drop 24).take 24).all (fun c => isCode c || c.before args0 about1) = true := by decide +kernel
set_option maxRecDepth 65536 in
theorem w_t13 : (((((((((((((words1.drop 24).drop 24).drop 24).drop 24).drop 24).drop 24).drop 24).drop 24).drop 24).drop 24).drop 24).drop 24).take 24).all (fun c => isCode c || c.before args0 about1) = true := by decide +kernel
set_option maxRecDepth 65536 in
theorem w_t14 : ((((((((((((((words1.drop 24).drop 24).drop 24).drop 24).drop 24).drop 24).drop 24).drop 24).drop 24).drop 24).drop 24).drop 24).drop 24).take 24).all (fun c => isCode c || c.before args0 about1) = true := by decide +kernel
set_option maxRecDepth 65536 in
theorem w_t15 : ((((((((((((((words1.drop 24).drop 24).drop 24).drop 24).drop 24).drop 24).drop 24).drop 24).drop 24).drop 24).drop 24).drop 24).drop 24).drop 24).all (fun c => isCode c || c.before args0 about1) = true := by decide +kernel
theorem w_tables : (allAtoms (Jvm.Cond.code x code maxLocals ret :: tables_1)).before args0 about1 = true := by
  rw [allAtoms_all]
  show words1.all (fun c => c.before args0 about1) = true
  refine all_split ?_ w_codes
  rw [← List.take_append_drop 24 words1, List.all_append, w_t1, ← List.take_append_drop 24 (words1.drop 24), List.all_append, w_t2, ← List.take_append_drop 24 ((words1.drop 24).drop 24), List.all_append, w_t3, ← List.take_append_drop 24 (((words1.drop 24).drop 24).drop 24), List.all_append, w_t4, ← List.take_append_drop 24 ((((words1.drop 24).drop 24).drop 24).drop 24), List.all_append, w_t5, ← List.take_append_drop 24 (((((words1.drop 24).drop 24).drop 24).drop 24).drop 24), List.all_append, w_t6, ← List.take_append_drop 24 ((((((words1.drop 24).drop 24).drop 24).drop 24).drop 24).drop 24), List.all_append, w_t7, ← List.take_append_drop 24 (((((((words1.drop 24).drop 24).drop 24).drop 24).drop 24).drop 24).drop 24), List.all_append, w_t8, ← List.take_append_drop 24 ((((((((words1.drop 24).drop 24).drop 24).drop 24).drop 24).drop 24).drop 24).drop 24), List.all_append, w_t9, ← List.take_append_drop 24 (((((((((words1.drop 24).drop 24).drop 24).drop 24).drop 24).drop 24).drop 24).drop 24).drop 24), List.all_append, w_t10, ← List.take_append_drop 24 ((((((((((words1.drop 24).drop 24).drop 24).drop 24).drop 24).drop 24).drop 24).drop 24).drop 24).drop 24), List.all_append, w_t11, ← List.take_append_drop 24 (((((((((((words1.drop 24).drop 24).drop 24).drop 24).drop 24).drop 24).drop 24).drop 24).drop 24).drop 24).drop 24), List.all_append, w_t12, ← List.take_append_drop 24 ((((((((((((words1.drop 24).drop 24).drop 24).drop 24).drop 24).drop 24).drop 24).drop 24).drop 24).drop 24).drop 24).drop 24), List.all_append, w_t13, ← List.take_append_drop 24 (((((((((((((words1.drop 24).drop 24).drop 24).drop 24).drop 24).drop 24).drop 24).drop 24).drop 24).drop 24).drop 24).drop 24).drop 24), List.all_append, w_t14, w_t15]
  rfl
set_option maxRecDepth 65536 in
theorem w_rest : rest_1_c.before args0 about1 = true := by decide +kernel
set_option maxRecDepth 65536 in
theorem w_case : (Jvm.Cond.and given_1 narrow_1).before args0 about1 = true := by decide +kernel
set_option maxRecDepth 65536 in
theorem w_consts : constsHeld consts_1 about1 := Jvm.Lit.constsHeldB_iff.mp (by decide +kernel)
theorem w_applies : (headSpec (Jvm.Cond.code x code maxLocals ret :: tables_1) room_1).applies x e0.platform about1 = true :=
  (Spec.applies_iff w_frames).mpr ⟨w_running, w_runnable, w_alone, w_named, w_hears, w_ripe, w_room, w_tables⟩
theorem atStart : AtStart classFile x code maxLocals ret World_1 tables_1 room_1 Calls_1 rest_1 Pre_1 launch0 p0 e0 about1 theMethod args0 below0 :=
  ⟨lists_1, trivial, launch0.admits_env _ _ _, launch0.least_env, fairChoices_fair.cas, fairChoices_fair.clock, w_frames, w_args, w_heap, w_applies, ⟨w_consts, trivial⟩, w_rest, w_case⟩
end start1
theorem witness_1 : WitnessClaimed_1 := ⟨start1.p0, start1.e0, start1.about1, start1.theMethod, start1.args0, start1.below0, start1.atStart⟩
end Jvm.Pilot.@@N@@
