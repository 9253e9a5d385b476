import JvmDerived
import JvmDerived.Pilot.@@N@@Statement
import JvmDerived.Pilot.@@N@@Code
set_option linter.unusedVariables false
set_option linter.unusedSimpArgs false
/- laws to paste: Road.lenW, Road.eqW, StrChars.lo8_mask, StrChars.pair_says, StrChars.shr0, StrChars.shr1, Road.low_at (cut by pick.py; bodies as the Statement names them) -/
namespace Jvm.Pilot.@@N@@
namespace StrChars
open Jvm Sem ClassFile Op Lib Jvm.Stand Jvm.Free.XT Jvm.Free.ALB Jvm.Free.JM Jvm.Free
open Jvm.Lib.Cold (StaticIs)
/-- the byte that i2b leaves of a char -/
def lo8 (x : Int32) : Int32 := x.toInt8.toInt32
theorem fits_lo8 (y : Int32) : fits .byte (.int (lo8 y)) = true := by
  have h1 := y.toInt8.le_toInt
  have h2 := y.toInt8.toInt_lt
  simp only [lo8, fits, Bool.and_eq_true, decide_eq_true_eq, Int32.le_iff_toInt_le, Int8.toInt_toInt32, show (-128 : Int32).toInt = -128 from by decide, show (127 : Int32).toInt = 127 from by decide]
  omega
def U16 : String := "java/lang/StringUTF16"
namespace Cmp5
def yN : MethodName := ⟨"java/lang/StringUTF16", "compress", "([CI[BII)I"⟩
abbrev yB : ByteArray := jdk_52_method_21_code
end Cmp5
namespace Cmp3
def yN : MethodName := ⟨"java/lang/StringUTF16", "compress", "([CII)[B"⟩
abbrev yB : ByteArray := jdk_52_method_16_code
end Cmp3
namespace CodL
def yN : MethodName := ⟨"java/lang/StringUTF16", "coderFromArrayLen", "([BI)B"⟩
abbrev yB : ByteArray := jdk_52_method_15_code
end CodL
namespace New4
def yN : MethodName := ⟨"java/lang/String", "<init>", "([CIILjava/lang/Void;)V"⟩
abbrev yB : ByteArray := jdk_42_method_149_code
end New4
namespace New1
def yN : MethodName := ⟨"java/lang/String", "<init>", "([C)V"⟩
abbrev yB : ByteArray := jdk_42_method_3_code
end New1
/-- the byte, read back as charAt reads it, is the char -/
theorem lo8_mask {x : Int32} (h0 : ¬ x < 0) (h1 : ¬ 255 < x) : lo8 x &&& 255 = x := by
  have t : ∀ k : Fin 256, lo8 (Int32.ofNat k.val) &&& 255 = Int32.ofNat k.val := by decide +kernel
  rw [Int32.lt_iff_toInt_lt] at h0 h1
  have e0 : (0 : Int32).toInt = 0 := rfl
  have e1 : (255 : Int32).toInt = 255 := rfl
  obtain ⟨k, hk⟩ : ∃ k : Nat, x.toInt = k := ⟨x.toInt.toNat, by omega⟩
  have hx : x = Int32.ofNat k := Int32.toInt_inj.mp (by rw [hk, Int32.toInt_ofNat_small (by omega)])
  rw [hx]
  exact t ⟨k, by omega⟩
end StrChars
namespace StrChars.Road
open Jvm Sem ClassFile Op Lib Jvm.Stand Jvm.Free Jvm.Free.XT
open Jvm.Lib.Cold (StaticIs)
abbrev ST : String := "java/lang/String"
/-- every table word that New1's law asks, flat -/
abbrev words : List Jvm.Cond := [.code New1.yN New1.yB 2 none, .initialized ST, .methodLink ST 27 New4.yN, .instanceMethod New4.yN,
  .code New4.yN New4.yB 6 none, .fieldLink ST 38 ST "COMPACT_STRINGS" "Z", .laysFinal ST ST "value" "[B", .fieldLink ST 9 ST "value" "[B", .laysFinal ST ST "coder" "B", .fieldLink ST 15 ST "coder" "B",
  .methodLink ST 1 Lib.objectInit, .instanceMethod Lib.objectInit, .code Lib.objectInit ⟨#[0xb1]⟩ 1 none, .methodLink ST 177 Cmp3.yN, .static Cmp3.yN, .methodLink ST 47 CodL.yN, .static CodL.yN,
  .code Cmp3.yN Cmp3.yB 6 (some (.array .byte)), .initialized U16, .arrayClass .byte, .methodLink U16 115 Cmp5.yN, .static Cmp5.yN, .code Cmp5.yN Cmp5.yB 7 (some .int), .code CodL.yN CodL.yB 2 (some .byte)]
end StrChars.Road
namespace StrChars
open Jvm Sem ClassFile Op Lib Jvm.Stand Jvm.Free.XT Jvm.Free.ALB Jvm.Free.JM Jvm.Free
open Jvm.Lib.Cold (StaticIs)
def hi8 (x : Int32) : Int32 := lo8 (x >>> ((8 : Int32) &&& 31))
/-- what StringUTF16.getChar makes of two bytes -/
def pairCh (u v : Int32) : Int32 := (((u &&& 255) <<< ((0 : Int32) &&& 31)) ||| ((v &&& 255) <<< ((8 : Int32) &&& 31))).toUInt32.toUInt16.toUInt32.toInt32
theorem shr0 (c : Int32) : c >>> ((0 : Int32) &&& 31) = c := by
  have e : ((0 : Int32) &&& 31) = 0 := by decide
  rw [e]
  apply Int32.toBitVec_inj.mp
  rw [Int32.toBitVec_shiftRight]
  have e1 : ((0 : Int32).toBitVec.smod 32) = 0#32 := by decide
  rw [e1, BitVec.sshiftRight_eq']
  exact BitVec.sshiftRight_zero
theorem lo8_and (x : Int32) : (lo8 x &&& 255).toBitVec.toNat = x.toBitVec.toNat % 256 := by
  have h : (lo8 x).toBitVec = (x.toBitVec.signExtend 8).signExtend 32 := by rw [lo8, Int8.toBitVec_toInt32, Int32.toBitVec_toInt8]
  rw [Int32.toBitVec_and, BitVec.toNat_and, h]
  have e : ((x.toBitVec.signExtend 8).signExtend 32).toNat % 256 = x.toBitVec.toNat % 256 := by
    rw [BitVec.toNat_signExtend]
    have hlt := x.toBitVec.isLt
    simp only [BitVec.toNat_setWidth, BitVec.toNat_signExtend]
    split <;> split <;> omega
  rw [← e]
  exact Nat.and_two_pow_sub_one_eq_mod _ 8
theorem pair_says {c : Int32} (h0 : ¬ c < 0) (h1 : ¬ 65535 < c) : pairCh (lo8 c) (hi8 c) = c := by
  rw [Int32.lt_iff_toInt_lt] at h0 h1
  have e0 : (0 : Int32).toInt = 0 := rfl
  have e1 : (65535 : Int32).toInt = 65535 := rfl
  have hc : c.toInt = c.toBitVec.toNat := by
    have := c.toBitVec.isLt
    have e : c.toInt = c.toBitVec.toInt := rfl
    rw [e] at h0 h1
    rw [e]
    rw [BitVec.toInt_eq_toNat_cond] at h0 h1 ⊢
    split at h0 <;> split <;> omega
  have hn : c.toBitVec.toNat < 65536 := by omega
  have a1 := lo8_and c
  have a2 : (hi8 c &&& 255).toBitVec.toNat = c.toBitVec.toNat / 256 := by
    rw [hi8, lo8_and]
    have e : ((8 : Int32) &&& 31) = 8 := by decide
    rw [e, Int32.toBitVec_shiftRight]
    have e2 : ((8 : Int32).toBitVec.smod 32) = 8#32 := by decide
    rw [e2, BitVec.sshiftRight_eq', BitVec.toNat_sshiftRight_of_msb_false (by rw [BitVec.msb_eq_false_iff_two_mul_lt]; omega)]
    show c.toBitVec.toNat >>> 8 % 256 = _
    rw [Nat.shiftRight_eq_div_pow]
    omega
  unfold pairCh
  apply Int32.toBitVec_inj.mp
  apply BitVec.eq_of_toNat_eq
  have f0 : ((0 : Int32) &&& 31) = 0 := by decide
  have f8 : ((8 : Int32) &&& 31) = 8 := by decide
  rw [f0, f8]
  have g : (((lo8 c &&& 255) <<< (0 : Int32)) ||| ((hi8 c &&& 255) <<< (8 : Int32))).toBitVec.toNat = c.toBitVec.toNat := by
    rw [Int32.toBitVec_or, Int32.toBitVec_shiftLeft, Int32.toBitVec_shiftLeft]
    have s0 : ((0 : Int32).toBitVec.smod 32) = 0#32 := by decide
    have s8 : ((8 : Int32).toBitVec.smod 32) = 8#32 := by decide
    rw [s0, s8, BitVec.toNat_or]
    simp only [BitVec.shiftLeft_eq', BitVec.toNat_shiftLeft, a1, a2]
    show (c.toBitVec.toNat % 256) <<< 0 % 2 ^ 32 ||| (c.toBitVec.toNat / 256) <<< 8 % 2 ^ 32 = _
    rw [Nat.shiftLeft_zero, Nat.mod_eq_of_lt (show c.toBitVec.toNat % 256 < 2 ^ 32 by omega), Nat.mod_eq_of_lt (show (c.toBitVec.toNat / 256) <<< 8 < 2 ^ 32 by rw [Nat.shiftLeft_eq]; omega), Nat.or_comm, ← Nat.shiftLeft_add_eq_or_of_lt (by omega), Nat.shiftLeft_eq]
    omega
  show BitVec.toNat (((((lo8 c &&& 255) <<< (0 : Int32)) ||| ((hi8 c &&& 255) <<< (8 : Int32))).toBitVec.setWidth 16).setWidth 32) = _
  rw [BitVec.toNat_setWidth, BitVec.toNat_setWidth, g]
  omega
end StrChars
namespace StrChars
open Jvm Sem ClassFile Op Lib Jvm.Stand Jvm.Free.XT Jvm.Free.ALB Jvm.Free.JM Jvm.Free
open Jvm.Lib.Cold (StaticIs)
theorem shr1 {n : Nat} (h : 2 * n < 2 ^ 31) : Int32.ofNat (2 * n) >>> ((1 : Int32) &&& 31) = Int32.ofNat n := by
  have e : ((1 : Int32) &&& 31) = 1 := by decide
  rw [e]
  apply Int32.toBitVec_inj.mp
  rw [Int32.toBitVec_shiftRight]
  have e1 : ((1 : Int32).toBitVec.smod 32) = 1#32 := by decide
  have hm : (BitVec.ofNat 32 (2 * n)).toNat = 2 * n := by rw [BitVec.toNat_ofNat, Nat.mod_eq_of_lt (by omega)]
  rw [e1, BitVec.sshiftRight_eq']
  apply BitVec.eq_of_toNat_eq
  show ((BitVec.ofNat 32 (2 * n)).sshiftRight 1).toNat = (BitVec.ofNat 32 n).toNat
  rw [BitVec.toNat_sshiftRight_of_msb_false (by rw [BitVec.msb_eq_false_iff_two_mul_lt, hm]; omega), hm, BitVec.toNat_ofNat, Nat.shiftRight_eq_div_pow]
  omega
/-- the array's cell V codes the n chars f 0 .. f (n - 1) by the coder cd, as the JDK does: coder 1 just where some char is above 255 -/
def Cod (cd : Int32) (n : Nat) (f : Nat → Int32) (V : Cell) : Prop := (cd = 0 ∧ V.slots.size = n ∧ ∀ j, j < n → V.slots[j]? = some (.int (lo8 (f j))) ∧ ¬ 255 < f j) ∨ (cd = 1 ∧ V.slots.size = 2 * n ∧ (∀ j, j < n → V.slots[2 * j]? = some (.int (lo8 (f j))) ∧ V.slots[2 * j + 1]? = some (.int (hi8 (f j)))) ∧ ∃ j, j < n ∧ 255 < f j)
theorem Cod.cd {cd : Int32} {n : Nat} {f : Nat → Int32} {V : Cell} (h : Cod cd n f V) : cd = 0 ∨ cd = 1 := h.imp (fun q => q.1) fun q => q.1
theorem Cod.len {cd : Int32} {n : Nat} {f : Nat → Int32} {V : Cell} (h : Cod cd n f V) (hs : V.slots.size < 2 ^ 31) : Int32.ofNat V.slots.size >>> (cd &&& 31) = Int32.ofNat n := by
  rcases h with ⟨rfl, h, -⟩ | ⟨rfl, h, -⟩
  · rw [shr0, h]
  · rw [h, shr1 (by omega)]
/-- **x is a String of the n chars f 0 .. f (n - 1)**, Latin-1 or UTF-16; its array at t has the cell V -/
def Txt (x t : Addr) (V : Cell) (cd : Int32) (n : Nat) (f : Nat → Int32) (U : State) : Prop := Exact "java/lang/String" x U ∧ Has x "java/lang/String" "value" "[B" (.ref t) U ∧ Has x "java/lang/String" "coder" "B" (.int cd) U ∧ XT.Arr .byte t V U ∧ Cod cd n f V ∧ ∀ j, j < n → ¬ f j < 0 ∧ ¬ 65535 < f j
theorem Txt.mv {x t : Addr} {V : Cell} {cd : Int32} {n : Nat} {f : Nat → Int32} {U U' : State} (h : Txt x t V cd n f U) (hal : U.vm.Alike U'.vm) (hh : U'.heap = U.heap) : Txt x t V cd n f U' := ⟨h.1.mv hal hh, h.2.1.mv hal hh, h.2.2.1.mv hal hh, h.2.2.2.1.mv hal hh, h.2.2.2.2⟩
namespace Cdr
def yN : MethodName := ⟨"java/lang/String", "coder", "()B"⟩
abbrev yB : ByteArray := jdk_42_method_152_code
theorem d0 : decode yB 0 = .ok (.getstatic 38, 3) := by decide +kernel
theorem d3 : decode yB 3 = .ok (.ifCond (.eq) 10, 3) := by decide +kernel
theorem d6 : decode yB 6 = .ok (.aload_n 0, 1) := by decide +kernel
theorem d7 : decode yB 7 = .ok (.getfield 15, 3) := by decide +kernel
theorem d10 : decode yB 10 = .ok (.goto 4, 3) := by decide +kernel
theorem d14 : decode yB 14 = .ok (.ireturn, 1) := by decide +kernel
def site : List Cond := [.fieldLink "java/lang/String" 38 "java/lang/String" "COMPACT_STRINGS" "Z", .fieldLink "java/lang/String" 15 "java/lang/String" "coder" "B"]
def tab : Cond := tabOf yN yB 1 (some .byte) site
def P (x : Addr) (cd z : Int32) (args : Array Value) (s : State) : Prop := args = #[.ref x] ∧ Has x "java/lang/String" "coder" "B" (.int cd) s ∧ (cd = 0 ∨ cd = 1) ∧ StaticIs s "java/lang/String" "COMPACT_STRINGS" "Z" (.int z) ∧ ¬ z = 0
def E (cd : Int32) (r : Option Value) (s u : State) : Prop := XT.PureE (some (.int cd)) r s u
theorem law (l : Launch) (x : Addr) (cd z : Int32) : Law l yN 1 0 0 0 yB 1 (some .byte) site (P x cd z) (E cd) [] 0 0 := by
  refine Law.of_walk (plainFor_of_name (by decide +kernel)) (by decide +kernel) (by decide +kernel) (by decide) (fun _ _ h => by rw [h.1]; rfl) (fun _ U U' hal hh h => ⟨h.1, h.2.1.mv hal hh, h.2.2.1, h.2.2.2.1.there hal hh, h.2.2.2.2⟩) (fun r U U' V V' h1 hal h2 h => XT.PureE.mv r U U' V V' h1 hal h2 h) ?_
  intro p e s m args below meth c s₁ X0 hexec hbytes hml hret hlk hnm hown hh0 W hP
  obtain ⟨rfl, hx, hc, s1, hz⟩ := hP
  have c1 : Steps p.tables e below (s₁.setTop (entryFrame m #[.ref x] 1)) (s₁.setTop (mkF m 0 #[.val (.ref x)] [])) := entry rfl
  obtain ⟨T2, X2, q2, st2⟩ := X0.sget hexec hown (wk W (.fieldLink "java/lang/String" 38 "java/lang/String" "COMPACT_STRINGS" "Z")) s1 (fun _ _ h => by rw [hh0]; exact h) (g := (mkF m 0 #[.val (.ref x)] [])) rfl (hb hbytes d0)
  have hh2 := q2.trans hh0
  have c3 : Steps p.tables e below (s₁.setTop (entryFrame m #[.ref x] 1)) (T2.setTop (mkF m 7 #[.val (.ref x)] [.ref x])) := (c1.trans (st2 _ (Steps.refl _))).trans (by
    refine XS.ifNo X2.here hexec rfl (hb hbytes d3) rfl (i0_eq_f hz) ?_
    refine XS.aloadN X2.here hexec rfl (hb hbytes d6) rfl rfl ?_
    exact Steps.refl _)
  obtain ⟨T4, X4, q4, st4⟩ := X2.hget hexec hown (wk W (.fieldLink "java/lang/String" 15 "java/lang/String" "coder" "B")) (hx.mv X2.warmed.alike hh2) (g := (mkF m 7 #[.val (.ref x)] [.ref x])) rfl (rest := []) rfl (hb hbytes d7)
  have c5 : Steps p.tables e below (s₁.setTop (entryFrame m #[.ref x] 1)) (T4.setTop (mkF m 14 #[.val (.ref x)] [.int cd])) := (c3.trans (st4 _ (Steps.refl _))).trans (by
    refine XS.goto X4.here hexec rfl (pc0 := 10) rfl (hb hbytes d10) (by decide) rfl ?_
    exact Steps.refl _)
  exact ⟨T4, some (.int cd), _, _, _, X4, rfl, rfl, rfl, (fun h => by cases h), ⟨rfl, q4.trans hh2⟩, fun fs hl => c5.trans (X4.ireturnOut hexec hret (by rcases hc with rfl | rfl <;> rfl) (Or.inr (Or.inr (Or.inl rfl))) (hb hbytes d14) hl)⟩
end Cdr
namespace Len
def yN : MethodName := ⟨"java/lang/String", "length", "()I"⟩
abbrev yB : ByteArray := jdk_42_method_54_code
theorem d0 : decode yB 0 = .ok (.aload_n 0, 1) := by decide +kernel
theorem d1 : decode yB 1 = .ok (.getfield 9, 3) := by decide +kernel
theorem d4 : decode yB 4 = .ok (.arraylength, 1) := by decide +kernel
theorem d5 : decode yB 5 = .ok (.aload_n 0, 1) := by decide +kernel
theorem d6 : decode yB 6 = .ok (.invokevirtual 335, 3) := by decide +kernel
theorem d9 : decode yB 9 = .ok (.ishr, 1) := by decide +kernel
theorem d10 : decode yB 10 = .ok (.ireturn, 1) := by decide +kernel
def site : List Cond := [.fieldLink "java/lang/String" 9 "java/lang/String" "value" "[B", Cdr.tab] ++ virtW "java/lang/String" 335 "java/lang/String" Cdr.yN Cdr.yN
def tab : Cond := tabOf yN yB 1 (some .int) site
def P (x t : Addr) (V : Cell) (cd : Int32) (n : Nat) (f : Nat → Int32) (z : Int32) (args : Array Value) (s : State) : Prop := args = #[.ref x] ∧ Txt x t V cd n f s ∧ StaticIs s "java/lang/String" "COMPACT_STRINGS" "Z" (.int z) ∧ ¬ z = 0
def E (n : Nat) (r : Option Value) (s u : State) : Prop := XT.PureE (some (.int (Int32.ofNat n))) r s u
/-- length() of a String of n chars, in either coding -/
theorem law (l : Launch) (x t : Addr) (V : Cell) (cd : Int32) (n : Nat) (f : Nat → Int32) (z : Int32) : Law l yN 1 0 1 13 yB 1 (some .int) site (P x t V cd n f z) (E n) [] 0 0 := by
  refine Law.of_walk (plainFor_of_name (by decide +kernel)) (by decide +kernel) (by decide +kernel) (by decide) (fun _ _ h => by rw [h.1]; rfl) (fun _ U U' hal hh h => ⟨h.1, h.2.1.mv hal hh, h.2.2.1.there hal hh, h.2.2.2⟩) (fun r U U' V V' h1 hal h2 h => XT.PureE.mv r U U' V V' h1 hal h2 h) ?_
  intro p e s m args below meth c s₁ X0 hexec hbytes hml hret hlk hnm hown hh0 W hP
  obtain ⟨rfl, hx, s1, hz⟩ := hP
  have v31 := hx.2.2.2.1.2.2.2
  have c1 : Steps p.tables e below (s₁.setTop (entryFrame m #[.ref x] 1)) (s₁.setTop (mkF m 1 #[.val (.ref x)] [.ref x])) := Steps.trans (entry rfl) (by
    show Steps p.tables e below (s₁.setTop (mkF m 0 #[.val (.ref x)] [])) _
    refine XS.aloadN X0.here hexec rfl (hb hbytes d0) rfl rfl ?_
    exact Steps.refl _)
  obtain ⟨T2, X2, q2, st2⟩ := X0.hget hexec hown (wk W (.fieldLink "java/lang/String" 9 "java/lang/String" "value" "[B")) (hx.mv X0.warmed.alike hh0).2.1 (g := (mkF m 1 #[.val (.ref x)] [.ref x])) rfl (rest := []) rfl (hb hbytes d1)
  have hh2 := q2.trans hh0
  have hx2 := hx.mv X2.warmed.alike hh2
  have c3 : Steps p.tables e below (s₁.setTop (entryFrame m #[.ref x] 1)) (T2.setTop (mkF m 6 #[.val (.ref x)] [.ref x, .int (Int32.ofNat V.slots.size)])) := (c1.trans (st2 _ (Steps.refl _))).trans (by
    refine X2.alen hexec hx2.2.2.2.1 rfl rfl (hb hbytes d4) ?_
    refine XS.aloadN X2.here hexec rfl (hb hbytes d5) rfl rfl ?_
    exact Steps.refl _)
  obtain ⟨v4, T4, X4, E4, g4⟩ := X2.callV hexec (Cdr.law l x cd z) hown (wks W (virtW "java/lang/String" 335 "java/lang/String" Cdr.yN Cdr.yN)) rfl (by decide) (wk W Cdr.tab) (W := 1) (Nat.le_of_ble_eq_true rfl) (Nat.le_of_ble_eq_true rfl) (Nat.le_refl _) (Nat.le_refl _) (hx2.1.fc X2.warmed.alike) hx2.1.is (g := (mkF m 6 #[.val (.ref x)] [.ref x, .int (Int32.ofNat V.slots.size)])) rfl (by rw [hml]; rfl) c3 (argsL := []) (rest := [.int (Int32.ofNat V.slots.size)]) rfl rfl (by show 2 * 0 + (1 + 0) ≤ _; decide) (hb hbytes d6) (⟨rfl, hx2.2.2.1, hx.2.2.2.2.1.cd, s1.there X2.warmed.alike hh2, hz⟩)
  obtain ⟨rfl, q4⟩ := E4
  have c5 : Steps p.tables e below (s₁.setTop (entryFrame m #[.ref x] 1)) (T4.setTop (mkF m 10 #[.val (.ref x)] [.int (Int32.ofNat V.slots.size >>> (cd &&& 31))])) := Steps.trans g4 (by
    refine ishr X4.here hexec rfl (hb hbytes d9) rfl ?_
    exact Steps.refl _)
  rw [hx.2.2.2.2.1.len v31] at c5
  exact ⟨T4, some (.int (Int32.ofNat n)), _, _, _, X4, rfl, rfl, rfl, (fun h => by cases h), ⟨rfl, q4.trans hh2⟩, fun fs hl => c5.trans (X4.ireturnOut hexec hret rfl (Or.inl rfl) (hb hbytes d10) hl)⟩
theorem pays {l : Launch} {R : Room} {p : Program} {e : Env} {below : List Frame} {s : State} {sargs : Array Value} {len W : Nat} (x t : Addr) (V : Cell) (cd : Int32) (n : Nat) (f : Nat → Int32) (z : Int32) (htab : tab.before sargs s = true) (hfr : 2 ≤ R.frames) (hlo : W + 25 ≤ R.locals) :
    Back l R p e below s sargs yN len W (fun A₁ a₁ => A₁.cells + 0 ≤ R.cells ∧ A₁.slots + 0 ≤ R.slots ∧ P x t V cd n f z a₁ A₁.U) (fun A₁ _ v₁ B₁ => E n v₁ A₁.U B₁.U ∧ B₁.locs = A₁.locs ++ [] ∧ B₁.cells = A₁.cells + 0 ∧ B₁.slots = A₁.slots + 0) :=
  (law l x t V cd n f z).pays htab hfr (by omega)
end Len
end StrChars
namespace StrChars.Road
open Jvm Sem ClassFile Op Lib Jvm.Stand Jvm.Free Jvm.Free.XT
open Jvm.Lib.Cold (StaticIs)
theorem consq {a : Array Value} {s : State} {c : Jvm.Cond} {L : List Jvm.Cond} (h0 : c.before a s = true) (h : ∀ w ∈ L, w.before a s = true) : ∀ w ∈ c :: L, w.before a s = true := fun w hw => (List.mem_cons.mp hw).elim (fun e => e ▸ h0) (h w)
/-- the words of String.length(), either coding -/
abbrev wordsLen : List Jvm.Cond := [.code Len.yN Len.yB 1 (some .int), .initialized ST, .fieldLink ST 9 ST "value" "[B", .fieldLink ST 38 ST "COMPACT_STRINGS" "Z", .fieldLink ST 15 ST "coder" "B", .code Cdr.yN Cdr.yB 1 (some .byte), .methodLink ST 335 Cdr.yN, .declares Cdr.yN, .selects ST Cdr.yN Cdr.yN, .instanceMethod Cdr.yN]
theorem tabLen_of {a : Array Value} {s : State} (h : ∀ w ∈ wordsLen, w.before a s = true) : Len.tab.before a s = true := by
  have hc : Cdr.tab.before a s = true := unparts (wk h (.code Cdr.yN Cdr.yB 1 (some .byte))) (wks h (.initialized Cdr.yN.cls :: Cdr.site))
  have q := consq hc h
  exact unparts (wk q (.code Len.yN Len.yB 1 (some .int))) (wks q (.initialized Len.yN.cls :: Len.site))
theorem movedLen {Z s : State} {a0 args : Array Value} (hZ : Z.Warmed39 s.vm) (hw : ∀ d ∈ wordsLen, d.before a0 Z = true) : ∀ d ∈ wordsLen, d.before args s = true := fun d hd => by
  have q := hw d hd
  have t : ∀ d ∈ wordsLen, d = .arrayClass .byte ∨ (d.onTables && d.keepsFace) = true := by decide +kernel
  rcases t d hd with rfl | t
  · exact RoadKit.mvA hZ q
  · exact RoadKit.mv hZ q t
/-- the bytes of the chars cs, low before high -/
def wideBytes : List Int32 → List Value
  | [] => []
  | c :: cs => .int (lo8 c) :: .int (hi8 c) :: wideBytes cs
theorem wide_lo (d : Value) : ∀ (cs : List Int32) (j : Nat), j < cs.length → (wideBytes cs).getD (2 * j) d = .int (lo8 (cs.getD j 0))
  | [], j, h => absurd h (Nat.not_lt_zero j)
  | c :: cs, 0, _ => rfl
  | c :: cs, j + 1, h => by
    have q := wide_lo d cs j (by simpa using h)
    rw [show 2 * (j + 1) = 2 * j + 1 + 1 from by omega]
    simpa [wideBytes] using q
theorem wide_hi (d : Value) : ∀ (cs : List Int32) (j : Nat), j < cs.length → (wideBytes cs).getD (2 * j + 1) d = .int (hi8 (cs.getD j 0))
  | [], j, h => absurd h (Nat.not_lt_zero j)
  | c :: cs, 0, _ => rfl
  | c :: cs, j + 1, h => by
    have q := wide_hi d cs j (by simpa using h)
    rw [show 2 * (j + 1) + 1 = 2 * j + 1 + 1 + 1 from by omega]
    simpa [wideBytes] using q
theorem low_at (d : Value) (cs : List Int32) (j : Nat) (h : j < cs.length) : (cs.map fun c => Value.int (lo8 c)).getD j d = .int (lo8 (cs.getD j 0)) := by
  simp [List.getD_eq_getElem?_getD, h]
/-- an array of N2 bytes vs codes the chars cs by the coder cd -/
def CodA (cs : List Int32) (cd N2 : Int32) (vs : List Value) : Prop := (cd = 0 ∧ N2 = Int32.ofNat cs.length ∧ vs = (cs.map fun c => Value.int (lo8 c)) ∧ ∀ c ∈ cs, ¬ 255 < c) ∨ (cd = 1 ∧ N2 = Int32.ofNat (2 * cs.length) ∧ vs = wideBytes cs ∧ ∃ c ∈ cs, 255 < c)
theorem CodA.cod {cs : List Int32} {cd N2 : Int32} {vs : List Value} {V : Cell} (h : CodA cs cd N2 vs) (hn : 2 * cs.length < 2 ^ 31) (hs : V.slots.size = N2.toNatClampNeg) (hv : RoadKit.Has V vs (.int 0)) : Cod cd cs.length (fun j => cs.getD j 0) V := by
  rcases h with ⟨rfl, rfl, rfl, h⟩ | ⟨rfl, rfl, rfl, c, hc, hw⟩
  · rw [n32 (by omega)] at hs
    exact Or.inl ⟨rfl, hs, fun j hj => ⟨by rw [hv j (by omega), low_at _ _ _ hj], by
      have e : cs.getD j 0 = cs[j] := by simp [List.getD_eq_getElem?_getD, hj]
      show ¬ 255 < cs.getD j 0
      rw [e]; exact h _ (List.getElem_mem _)⟩⟩
  · rw [n32 (by omega)] at hs
    obtain ⟨j, hj, rfl⟩ := List.getElem_of_mem hc
    exact Or.inr ⟨rfl, hs, fun j hj => ⟨by rw [hv _ (by omega), wide_lo _ _ _ hj], by rw [hv _ (by omega), wide_hi _ _ _ hj]⟩, j, hj, by
      have e : cs.getD j 0 = cs[j] := by simp [List.getD_eq_getElem?_getD, hj]
      show 255 < cs.getD j 0
      rw [e]; exact hw⟩
/-- an object of exactly java/lang/String, its two fields found: as the laws ask it -/
theorem strObj {Z U : State} {a0 : Array Value} {kI : Nat} (wi : (Jvm.Cond.instantiable ST kI).before a0 Z = true) (al : Z.vm.Alike U.vm) {x : Addr} {v0 c0 : Value} (E : RoadKit.Exa Z U.heap x ST) (V : RoadKit.Fld Z U.heap x ST "value" "[B" v0) (C : RoadKit.Fld Z U.heap x ST "coder" "B" c0) :
    ∃ (D : Cell) (fV fC : Field), Blank ST x D U ∧ Found ST "value" "[B" fV U ∧ Found ST "coder" "B" fC U ∧ D.slots[fV.slot]? = some v0 ∧ D.slots[fC.slot]? = some c0 ∧ RoadKit.slotOf Z ST "value" "[B" = fV.slot ∧ RoadKit.slotOf Z ST "coder" "B" = fC.slot := by
  obtain ⟨D, cfV, kV, iV, fV, hD, gV, stV, knV, obV, asV, slV⟩ := V
  obtain ⟨D', cfC, kC, iC, fC, hD', gC, stC, -, -, asC, slC⟩ := C
  cases hD.symm.trans hD'
  obtain ⟨D2, kD, e1, e2, e3, e4, e5⟩ := E
  cases hD.symm.trans e1
  obtain ⟨c2, k2, i1, i2, i3, -⟩ := Cond.instantiable_spec wi
  cases e2.symm.trans i1
  cases e3.symm.trans i2
  obtain ⟨kU, u1, u2⟩ := al.2.2 _ _ e3
  exact ⟨D, fV, fC, ⟨hD, ⟨knV, fun q hq => by rw [hq] at obV; cases obV⟩, by rw [al.findClass]; exact e2, kU, u1, by rw [u2]; exact i3, by rw [u2]; exact e5 i3⟩, ⟨SBG.found_only al ⟨cfV, kV, iV, gV⟩, stV⟩, ⟨SBG.found_only al ⟨cfC, kC, iC, gC⟩, stC⟩, slV, slC, by simp [RoadKit.slotOf, gV], by simp [RoadKit.slotOf, gC]⟩
theorem sta_is {Z U : State} (al : Z.vm.Alike U.vm) {C n d : String} {v : Value} (S : RoadKit.Sta Z U.heap C n d v) : StaticIs U C n d v := by
  obtain ⟨cfS, iS, kS, fS, st, cS, t1, t2, t3, t4, t5, t6, t7⟩ := S
  exact StaticIs.there (s := { Z with heap := U.heap }) ⟨cfS, iS, kS, fS, st, cS, t1, t2, t3, t4, t5, (fun q => by rw [q] at t6; cases t6), t7⟩ al rfl
/-- **length() OF SUCH A STRING** -/
theorem lenW {p : Program} {l : Launch} {e : Env} {R : Room} {s : State} {args : Array Value} {below : List Frame} {len W : Nat} {Z : State} {a0 : Array Value} {h : Heap} (hZ : Z.Warmed39 s.vm) (hw : ∀ d ∈ wordsLen, d.before a0 Z = true) {kI : Nat} (wi : (Jvm.Cond.instantiable ST kI).before a0 Z = true)
    {x t : Addr} {kb : ClassId} {cs : List Int32} {cd N2 z : Int32} {vs : List Value} (E : RoadKit.Exa Z h x ST) (V : RoadKit.Fld Z h x ST "value" "[B" (.ref t)) (C : RoadKit.Fld Z h x ST "coder" "B" (.int cd)) (K : RoadKit.Arv Z h t kb .byte N2 vs (.int 0)) (hc : CodA cs cd N2 vs) (hb : ∀ c ∈ cs, ¬ c < 0 ∧ ¬ (65535 : Int32) < c)
    (S : RoadKit.Sta Z h ST "COMPACT_STRINGS" "Z" (.int z)) (hz : ¬ z = 0) (l2 : cs.length ≤ 4000) (hfr : 2 ≤ R.frames) (hlo : W + 25 ≤ R.locals) :
    Back l R p e below s args (⟨"java/lang/String", "length", "()I"⟩ : MethodName) len W (fun P a => a = #[.ref x] ∧ P.U.heap = h ∧ P.cells + 0 ≤ R.cells ∧ P.slots + 0 ≤ R.slots)
      (fun P _ v B => ∃ L, (v = some (.int (Int32.ofNat cs.length)) ∧ L = [] ∧ B.U.heap = h) ∧ B.locs = P.locs ++ L ∧ B.cells = P.cells + 0 ∧ B.slots = P.slots + 0) := by
  obtain ⟨A, K1, K2, K3, K4, K5, K6⟩ := K
  have hcod := hc.cod (by omega) K3 K5
  intro m meth c P g ig mk a X hg hsize hdg hW hn hp'
  obtain ⟨rfl, rfl, r1, r2⟩ := hp'
  have al : Z.vm.Alike P.U.vm := hZ.alike.trans X.warmed.alike
  obtain ⟨D, fV, fC, hB, F1, F2, g1, g2, -, -⟩ := strObj wi al E V C
  have hx : Txt x t A cd cs.length (fun j => cs.getD j 0) P.U := ⟨⟨_, hB.2.2.1, D, hB.1, rfl, by cases q : D.vm <;> first | rfl | exact absurd q (hB.2.1.2 _)⟩, Has.of hB F1 g1, Has.of hB F2 g2, ⟨K1.1, State.isArrayOf_alike al K1.2.1, K1.2.2, by rcases hcod with ⟨-, q, -⟩ | ⟨-, q, -⟩ <;> omega⟩, hcod, fun j hj => by
    have e : cs.getD j 0 = cs[j] := by simp [List.getD_eq_getElem?_getD, hj]
    show ¬ cs.getD j 0 < 0 ∧ ¬ 65535 < cs.getD j 0
    rw [e]; exact hb _ (List.getElem_mem _)⟩
  obtain ⟨v, B, X', ⟨⟨hv, hh⟩, hl, hk, hs⟩, st⟩ := Len.pays x t A cd cs.length (fun j => cs.getD j 0) z (tabLen_of (movedLen hZ hw)) hfr hlo m meth c P g ig mk _ X hg hsize hdg hW hn ⟨r1, r2, rfl, hx, sta_is al S, hz⟩
  exact ⟨v, B, X', ⟨[], ⟨hv, rfl, hh⟩, hl, hk, hs⟩, st⟩
end StrChars.Road
namespace StrChars
open Jvm Sem ClassFile Op Lib Jvm.Stand Jvm.Free.XT Jvm.Free.ALB Jvm.Free.JM Jvm.Free
open Jvm.Lib.Cold (StaticIs)
/-- what place i of a byte[]'s cell holds -/
def yv (A : Cell) (i : Nat) : Int32 := match A.slots[i]? with | some (.int x) => x | _ => 0
theorem yv_get {a : Addr} {A : Cell} {U : State} (h : XT.Arr .byte a A U) (ht : Typed .byte A) {i : Nat} (hi : i < A.slots.size) : A.slots[i]? = some (.int (yv A i)) := by
  have e := Array.getElem?_eq_getElem hi
  have f := ht i _ e
  unfold yv; rw [e]
  generalize A.slots[i] = v at f
  cases v <;> simp [fits] at f ⊢
/-- the two arrays are equal, place for place -/
def EqC (A B : Cell) : Prop := A.slots.size = B.slots.size ∧ ∀ i, i < A.slots.size → yv A i = yv B i
/-- a boolean that says whether p -/
def Says01 (q : Prop) (r : Option Value) (s u : State) : Prop := ∃ v : Int32, r = some (.int v) ∧ u.heap = s.heap ∧ ((v = 1 ∧ q) ∨ (v = 0 ∧ ¬ q))
theorem Says01.mv {q : Prop} : ∀ r (U U' V V' : State), U'.heap = U.heap → V.vm.Alike V'.vm → V'.heap = V.heap → Says01 q r U V → Says01 q r U' V' :=
  fun r U U' V V' h1 _ h2 ⟨v, a, b, c⟩ => ⟨v, a, by rw [h1, h2]; exact b, c⟩
namespace LEq
def yN : MethodName := ⟨"java/lang/StringLatin1", "equals", "([B[B)Z"⟩
abbrev yB : ByteArray := jdk_43_method_13_code
theorem d0 : decode yB 0 = .ok (.aload_n 0, 1) := by decide +kernel
theorem d1 : decode yB 1 = .ok (.arraylength, 1) := by decide +kernel
theorem d2 : decode yB 2 = .ok (.aload_n 1, 1) := by decide +kernel
theorem d3 : decode yB 3 = .ok (.arraylength, 1) := by decide +kernel
theorem d4 : decode yB 4 = .ok (.if_icmp (.ne) 30, 3) := by decide +kernel
theorem d7 : decode yB 7 = .ok (.iconst 0, 1) := by decide +kernel
theorem d8 : decode yB 8 = .ok (.istore_n 2, 1) := by decide +kernel
theorem d9 : decode yB 9 = .ok (.iload_n 2, 1) := by decide +kernel
theorem d10 : decode yB 10 = .ok (.aload_n 0, 1) := by decide +kernel
theorem d11 : decode yB 11 = .ok (.arraylength, 1) := by decide +kernel
theorem d12 : decode yB 12 = .ok (.if_icmp (.ge) 20, 3) := by decide +kernel
theorem d15 : decode yB 15 = .ok (.aload_n 0, 1) := by decide +kernel
theorem d16 : decode yB 16 = .ok (.iload_n 2, 1) := by decide +kernel
theorem d17 : decode yB 17 = .ok (.baload, 1) := by decide +kernel
theorem d18 : decode yB 18 = .ok (.aload_n 1, 1) := by decide +kernel
theorem d19 : decode yB 19 = .ok (.iload_n 2, 1) := by decide +kernel
theorem d20 : decode yB 20 = .ok (.baload, 1) := by decide +kernel
theorem d21 : decode yB 21 = .ok (.if_icmp (.eq) 5, 3) := by decide +kernel
theorem d24 : decode yB 24 = .ok (.iconst 0, 1) := by decide +kernel
theorem d25 : decode yB 25 = .ok (.ireturn, 1) := by decide +kernel
theorem d26 : decode yB 26 = .ok (.iinc 2 1, 3) := by decide +kernel
theorem d29 : decode yB 29 = .ok (.goto (-20), 3) := by decide +kernel
theorem d32 : decode yB 32 = .ok (.iconst 1, 1) := by decide +kernel
theorem d33 : decode yB 33 = .ok (.ireturn, 1) := by decide +kernel
theorem d34 : decode yB 34 = .ok (.iconst 0, 1) := by decide +kernel
theorem d35 : decode yB 35 = .ok (.ireturn, 1) := by decide +kernel
def site : List Cond := []
def tab : Cond := tabOf yN yB 3 (some .boolean) site
def P (a : Addr) (A : Cell) (b : Addr) (B : Cell) (args : Array Value) (s : State) : Prop := args = #[.ref a, .ref b] ∧ XT.Arr .byte a A s ∧ Typed .byte A ∧ XT.Arr .byte b B s ∧ Typed .byte B
/-- whether two byte[] are equal, place for place -/
theorem law (l : Launch) (a : Addr) (A : Cell) (b : Addr) (B : Cell) : Law l yN 2 2 0 0 yB 3 (some .boolean) site (P a A b B) (Says01 (EqC A B)) [] 0 0 := by
  refine Law.of_walk (plainFor_of_name (by decide +kernel)) (by decide +kernel) (by decide +kernel) (by decide) (fun _ _ h => by rw [h.1]; rfl) (fun _ U U' hal hh h => ⟨h.1, h.2.1.mv hal hh, h.2.2.1, h.2.2.2.1.mv hal hh, h.2.2.2.2⟩) (fun r U U' V V' h1 hal h2 h => Says01.mv r U U' V V' h1 hal h2 h) ?_
  intro p e s m args below meth c s₁ X0 hexec hbytes hml hret hlk hnm hown hh0 W hP
  obtain ⟨rfl, hA, tA, hB, tB⟩ := hP
  have a31 := hA.2.2.2
  have b31 := hB.2.2.2
  have hA0 := hA.mv X0.warmed.alike hh0
  have hB0 := hB.mv X0.warmed.alike hh0
  have c1 : Steps p.tables e below (s₁.setTop (entryFrame m #[.ref a, .ref b] 3)) (s₁.setTop (mkF m 0 #[.val (.ref a), .val (.ref b), .unset] [])) := entry rfl
  have c2 : Steps p.tables e below (s₁.setTop (entryFrame m #[.ref a, .ref b] 3)) (s₁.setTop (mkF m 4 #[.val (.ref a), .val (.ref b), .unset] [.int (Int32.ofNat B.slots.size), .int (Int32.ofNat A.slots.size)])) := c1.trans (by
    refine XS.aloadN X0.here hexec rfl (hb hbytes d0) rfl rfl ?_
    refine X0.alen hexec hA0 rfl rfl (hb hbytes d1) ?_
    refine XS.aloadN X0.here hexec rfl (hb hbytes d2) rfl rfl ?_
    refine X0.alen hexec hB0 rfl rfl (hb hbytes d3) ?_
    exact Steps.refl _)
  by_cases hs : A.slots.size = B.slots.size
  · have c3 : Steps p.tables e below (s₁.setTop (entryFrame m #[.ref a, .ref b] 3)) (s₁.setTop (mkF m 9 #[.val (.ref a), .val (.ref b), .val (.int 0)] [])) := c2.trans (by
      refine XS.icmpNo X0.here hexec rfl (hb hbytes d4) rfl (ii_ne_f (by rw [hs])) ?_
      refine iconstV X0.here hexec rfl 0 (hb hbytes d7) (by decide) ?_
      refine XS.istoreN X0.here hexec rfl (hb hbytes d8) rfl rfl ?_
      exact Steps.refl _)
    have loop : ∀ (r i : Nat), i + r = A.slots.size → (∀ j, j < i → yv A j = yv B j) → Steps p.tables e below (s₁.setTop (entryFrame m #[.ref a, .ref b] 3)) (s₁.setTop (mkF m 9 #[.val (.ref a), .val (.ref b), .val (.int (Int32.ofNat i))] [])) → ∃ (pc : Nat) (Ls : Array Slot) (v : Int32), (pc = 25 ∨ pc = 33) ∧ ((v = 1 ∧ EqC A B) ∨ (v = 0 ∧ ¬ EqC A B)) ∧ Steps p.tables e below (s₁.setTop (entryFrame m #[.ref a, .ref b] 3)) (s₁.setTop (mkF m pc Ls [.int v])) := by
      intro r
      induction r with
      | zero =>
        intro i hi he cl
        exact ⟨33, _, 1, Or.inr rfl, Or.inl ⟨rfl, hs, fun j hj => he j (by omega)⟩, cl.trans (by
          refine XS.iloadN X0.here hexec rfl (hb hbytes d9) rfl ?_
          refine XS.aloadN X0.here hexec rfl (hb hbytes d10) rfl rfl ?_
          refine X0.alen hexec hA0 rfl rfl (hb hbytes d11) ?_
          refine XS.icmpYes X0.here hexec rfl (pc0 := 12) rfl (hb hbytes d12) rfl (ii_ge_t (nlt32 (by omega) (by omega))) (by decide) rfl ?_
          refine iconstV X0.here hexec rfl 1 (hb hbytes d32) (by decide) ?_
          exact Steps.refl _)⟩
      | succ r ih =>
        intro i hi he cl
        have c4 : Steps p.tables e below (s₁.setTop (entryFrame m #[.ref a, .ref b] 3)) (s₁.setTop (mkF m 21 #[.val (.ref a), .val (.ref b), .val (.int (Int32.ofNat i))] [.int (yv B i), .int (yv A i)])) := cl.trans (by
          refine XS.iloadN X0.here hexec rfl (hb hbytes d9) rfl ?_
          refine XS.aloadN X0.here hexec rfl (hb hbytes d10) rfl rfl ?_
          refine X0.alen hexec hA0 rfl rfl (hb hbytes d11) ?_
          refine XS.icmpNo X0.here hexec rfl (hb hbytes d12) rfl (ii_ge_f (lt32 (by omega) (by omega))) ?_
          refine XS.aloadN X0.here hexec rfl (hb hbytes d15) rfl rfl ?_
          refine XS.iloadN X0.here hexec rfl (hb hbytes d16) rfl ?_
          refine X0.aget hexec hA0 rfl (yv_get hA tA (i := i) (by omega)) rfl rfl (hb hbytes d17) ?_
          refine XS.aloadN X0.here hexec rfl (hb hbytes d18) rfl rfl ?_
          refine XS.iloadN X0.here hexec rfl (hb hbytes d19) rfl ?_
          refine X0.aget hexec hB0 rfl (yv_get hB tB (i := i) (by omega)) rfl rfl (hb hbytes d20) ?_
          exact Steps.refl _)
        by_cases hv : yv A i = yv B i
        · have c5 : Steps p.tables e below (s₁.setTop (entryFrame m #[.ref a, .ref b] 3)) (s₁.setTop (mkF m 9 #[.val (.ref a), .val (.ref b), .val (.int (Int32.ofNat i + 1))] [])) := c4.trans (by
            refine XS.icmpYes X0.here hexec rfl (pc0 := 21) rfl (hb hbytes d21) rfl (ii_eq_t hv) (by decide) rfl ?_
            refine iincV X0.here hexec rfl 1 (hb hbytes d26) (by decide) rfl rfl ?_
            refine XS.goto X0.here hexec rfl (pc0 := 29) rfl (hb hbytes d29) (by decide) rfl ?_
            exact Steps.refl _)
          rw [succ32] at c5
          exact ih (i + 1) (by omega) (fun j hj => by
            by_cases e : j = i
            · rw [e]; exact hv
            · exact he j (by omega)) c5
        · exact ⟨25, _, 0, Or.inl rfl, Or.inr ⟨rfl, fun q => hv (q.2 i (by omega))⟩, c4.trans (by
            refine XS.icmpNo X0.here hexec rfl (hb hbytes d21) rfl (ii_eq_f hv) ?_
            refine iconstV X0.here hexec rfl 0 (hb hbytes d24) (by decide) ?_
            exact Steps.refl _)⟩
    obtain ⟨pc, Ls, v, hpc, hv, cz⟩ := loop A.slots.size 0 (by omega) (fun j hj => absurd hj (Nat.not_lt_zero j)) c3
    have nv : narrow .boolean (.int v) = .int v := by rcases hv with ⟨rfl, -⟩ | ⟨rfl, -⟩ <;> rfl
    rcases hpc with rfl | rfl
    · exact ⟨s₁, some (.int v), _, _, _, X0, rfl, rfl, rfl, (fun h => by cases h), ⟨v, rfl, hh0, hv⟩, fun fs hl => cz.trans (X0.ireturnOut hexec hret nv (Or.inr (Or.inl rfl)) (hb hbytes d25) hl)⟩
    · exact ⟨s₁, some (.int v), _, _, _, X0, rfl, rfl, rfl, (fun h => by cases h), ⟨v, rfl, hh0, hv⟩, fun fs hl => cz.trans (X0.ireturnOut hexec hret nv (Or.inr (Or.inl rfl)) (hb hbytes d33) hl)⟩
  · have c3 : Steps p.tables e below (s₁.setTop (entryFrame m #[.ref a, .ref b] 3)) (s₁.setTop (mkF m 35 #[.val (.ref a), .val (.ref b), .unset] [.int 0])) := c2.trans (by
      refine XS.icmpYes X0.here hexec rfl (pc0 := 4) rfl (hb hbytes d4) rfl (ii_ne_t (ne32 a31 b31 hs)) (by decide) rfl ?_
      refine iconstV X0.here hexec rfl 0 (hb hbytes d34) (by decide) ?_
      exact Steps.refl _)
    exact ⟨s₁, some (.int 0), _, _, _, X0, rfl, rfl, rfl, (fun h => by cases h), ⟨0, rfl, hh0, Or.inr ⟨rfl, fun q => hs q.1⟩⟩, fun fs hl => c3.trans (X0.ireturnOut hexec hret rfl (Or.inr (Or.inl rfl)) (hb hbytes d35) hl)⟩
end LEq
theorem Cod.ty {cd : Int32} {n : Nat} {f : Nat → Int32} {V : Cell} (h : Cod cd n f V) : Typed .byte V := fun i v hv => by
  have hi : i < V.slots.size := (Array.getElem?_eq_some_iff.mp hv).1
  rcases h with ⟨-, k1, k2⟩ | ⟨-, k1, k2, -⟩
  · rw [(k2 i (by omega)).1] at hv; cases hv; exact fits_lo8 _
  · rcases Nat.mod_two_eq_zero_or_one i with e | e
    · obtain ⟨j, rfl⟩ : ∃ j, i = 2 * j := ⟨i / 2, by omega⟩
      rw [(k2 j (by omega)).1] at hv; cases hv; exact fits_lo8 _
    · obtain ⟨j, rfl⟩ : ∃ j, i = 2 * j + 1 := ⟨i / 2, by omega⟩
      rw [(k2 j (by omega)).2] at hv; cases hv; exact fits_lo8 _
/-- the same text -/
def SameT (n : Nat) (f : Nat → Int32) (k : Nat) (g : Nat → Int32) : Prop := n = k ∧ ∀ j, j < n → f j = g j
theorem lo8_inj {x y : Int32} (h0 : ¬ x < 0) (h1 : ¬ 255 < x) (k0 : ¬ y < 0) (k1 : ¬ 255 < y) (h : lo8 x = lo8 y) : x = y := by
  rw [← lo8_mask h0 h1, ← lo8_mask k0 k1, h]
/-- arrays coded by one coder are equal just where the texts are -/
theorem Cod.eqv {cd : Int32} {n k : Nat} {f g : Nat → Int32} {V V' : Cell} (h : Cod cd n f V) (h' : Cod cd k g V') (hf : ∀ j, j < n → ¬ f j < 0 ∧ ¬ 65535 < f j) (hg : ∀ j, j < k → ¬ g j < 0 ∧ ¬ 65535 < g j) : EqC V V' ↔ SameT n f k g := by
  have yvv : ∀ {W : Cell} {i : Nat} {x : Int32}, W.slots[i]? = some (.int x) → yv W i = x := fun q => by unfold yv; rw [q]
  rcases h with ⟨rfl, k1, k2⟩ | ⟨rfl, k1, k2, -⟩
  · rcases h' with ⟨-, m1, m2⟩ | ⟨e, -⟩
    · constructor
      · rintro ⟨e1, e2⟩
        refine ⟨by omega, fun j hj => ?_⟩
        have q := e2 j (by omega)
        rw [yvv (k2 j hj).1, yvv (m2 j (by omega)).1] at q
        exact lo8_inj (hf j hj).1 (k2 j hj).2 (hg j (by omega)).1 (m2 j (by omega)).2 q
      · rintro ⟨rfl, e2⟩
        refine ⟨by omega, fun j hj => ?_⟩
        rw [yvv (k2 j (by omega)).1, yvv (m2 j (by omega)).1, e2 j (by omega)]
    · exact absurd e (by decide)
  · rcases h' with ⟨e, -⟩ | ⟨-, m1, m2, -⟩
    · exact absurd e (by decide)
    · constructor
      · rintro ⟨e1, e2⟩
        refine ⟨by omega, fun j hj => ?_⟩
        have q1 := e2 (2 * j) (by omega)
        have q2 := e2 (2 * j + 1) (by omega)
        rw [yvv (k2 j hj).1, yvv (m2 j (by omega)).1] at q1
        rw [yvv (k2 j hj).2, yvv (m2 j (by omega)).2] at q2
        rw [← pair_says (hf j hj).1 (hf j hj).2, ← pair_says (hg j (by omega)).1 (hg j (by omega)).2, q1, q2]
      · rintro ⟨rfl, e2⟩
        refine ⟨by omega, fun i hi => ?_⟩
        rcases Nat.mod_two_eq_zero_or_one i with e | e
        · obtain ⟨j, rfl⟩ : ∃ j, i = 2 * j := ⟨i / 2, by omega⟩
          rw [yvv (k2 j (by omega)).1, yvv (m2 j (by omega)).1, e2 j (by omega)]
        · obtain ⟨j, rfl⟩ : ∃ j, i = 2 * j + 1 := ⟨i / 2, by omega⟩
          rw [yvv (k2 j (by omega)).2, yvv (m2 j (by omega)).2, e2 j (by omega)]
/-- two codings differ: so do the texts -/
theorem Cod.dif {cd cd' : Int32} {n k : Nat} {f g : Nat → Int32} {V V' : Cell} (h : Cod cd n f V) (h' : Cod cd' k g V') (hne : ¬ cd = cd') : ¬ SameT n f k g := by
  rintro ⟨rfl, e⟩
  rcases h with ⟨rfl, -, k2⟩ | ⟨rfl, -, -, j, hj, hw⟩
  · rcases h' with ⟨rfl, -⟩ | ⟨-, -, -, j, hj, hw⟩
    · exact hne rfl
    · exact (k2 j hj).2 (by rw [e j hj]; exact hw)
  · rcases h' with ⟨-, -, m2⟩ | ⟨rfl, -⟩
    · exact (m2 j hj).2 (by rw [← e j hj]; exact hw)
    · exact hne rfl
/-- an object of exactly C is an instance of C -/
theorem cinst {p : Program} {l : Launch} {e : Env} {R : Room} {s : State} {m : MethodId} {args : Array Value} {below : List Frame} {meth : Method} {c : Code} {T : State} {locs : List Loc} {cells slots : Nat} (X : Stand p l e R s m args below meth c T locs cells slots) (hexec : p.tables.exec = Jvm.exec) {own C : String} {index : Nat} (hown : s.vm.findClass own = some m.cls) (hlink : (Cond.classLink own index C).before args s = true) {a : Addr} (hE : Exact C a T)
    {g : JFrame} (hg : g.method = m) {rest : List Value} (hstack : g.stack = .ref a :: rest) (hdg : decode c.code g.pc = .ok (.instanceof index, 3)) :
    ∃ T', Stand p l e R s m args below meth c T' locs cells slots ∧ T'.heap = T.heap ∧ ∀ target, Steps p.tables e below (T'.setTop { g with pc := g.pc + 3, stack := .int 1 :: rest }) target → Steps p.tables e below (T.setTop g) target := by
  obtain ⟨cB, h1, D, h2, h3, h4⟩ := hE
  have h1' : s.vm.findClass C = some cB := by rw [← X.warmed.alike.findClass]; exact h1
  obtain ⟨vm', X', st⟩ := X.instanceofYes hexec hown hlink h2 h4 h1' (by rw [h3]; exact Jvm.Free.SB.assignable_self _ _) hg hstack hdg
  exact ⟨_, X', rfl, st⟩
theorem cself {p : Program} {l : Launch} {e : Env} {R : Room} {s : State} {m : MethodId} {args : Array Value} {below : List Frame} {meth : Method} {c : Code} {T : State} {locs : List Loc} {cells slots : Nat} (X : Stand p l e R s m args below meth c T locs cells slots) (hexec : p.tables.exec = Jvm.exec) {own C : String} {index : Nat} (hown : s.vm.findClass own = some m.cls) (hlink : (Cond.classLink own index C).before args s = true) {a : Addr} (hE : Exact C a T)
    {g : JFrame} (hg : g.method = m) {rest : List Value} (hstack : g.stack = .ref a :: rest) (hdg : decode c.code g.pc = .ok (.checkcast index, 3)) :
    ∃ T', Stand p l e R s m args below meth c T' locs cells slots ∧ T'.heap = T.heap ∧ ∀ target, Steps p.tables e below (T'.setTop { g with pc := g.pc + 3, stack := .ref a :: rest }) target → Steps p.tables e below (T.setTop g) target := by
  obtain ⟨cB, h1, D, h2, h3, h4⟩ := hE
  have h1' : s.vm.findClass C = some cB := by rw [← X.warmed.alike.findClass]; exact h1
  obtain ⟨vm', X', st⟩ := X.checkcastYes hexec hown hlink h2 h4 h1' (by rw [h3]; exact Jvm.Free.SB.assignable_self _ _) hg hstack hdg
  exact ⟨_, X', rfl, fun t h => st t (by rw [← hstack] at h; exact h)⟩
namespace SEq
def yN : MethodName := ⟨"java/lang/String", "equals", "(Ljava/lang/Object;)Z"⟩
abbrev yB : ByteArray := jdk_42_method_66_code
theorem d0 : decode yB 0 = .ok (.aload_n 0, 1) := by decide +kernel
theorem d1 : decode yB 1 = .ok (.aload_n 1, 1) := by decide +kernel
theorem d2 : decode yB 2 = .ok (.if_acmp (.ne) 5, 3) := by decide +kernel
theorem d5 : decode yB 5 = .ok (.iconst 1, 1) := by decide +kernel
theorem d6 : decode yB 6 = .ok (.ireturn, 1) := by decide +kernel
theorem d7 : decode yB 7 = .ok (.aload_n 1, 1) := by decide +kernel
theorem d8 : decode yB 8 = .ok (.instanceof 10, 3) := by decide +kernel
theorem d11 : decode yB 11 = .ok (.ifCond (.eq) 43, 3) := by decide +kernel
theorem d14 : decode yB 14 = .ok (.aload_n 1, 1) := by decide +kernel
theorem d15 : decode yB 15 = .ok (.checkcast 10, 3) := by decide +kernel
theorem d18 : decode yB 18 = .ok (.astore_n 2, 1) := by decide +kernel
theorem d19 : decode yB 19 = .ok (.getstatic 38, 3) := by decide +kernel
theorem d22 : decode yB 22 = .ok (.ifCond (.eq) 14, 3) := by decide +kernel
theorem d25 : decode yB 25 = .ok (.aload_n 0, 1) := by decide +kernel
theorem d26 : decode yB 26 = .ok (.getfield 15, 3) := by decide +kernel
theorem d29 : decode yB 29 = .ok (.aload_n 2, 1) := by decide +kernel
theorem d30 : decode yB 30 = .ok (.getfield 15, 3) := by decide +kernel
theorem d33 : decode yB 33 = .ok (.if_icmp (.ne) 21, 3) := by decide +kernel
theorem d36 : decode yB 36 = .ok (.aload_n 0, 1) := by decide +kernel
theorem d37 : decode yB 37 = .ok (.getfield 9, 3) := by decide +kernel
theorem d40 : decode yB 40 = .ok (.aload_n 2, 1) := by decide +kernel
theorem d41 : decode yB 41 = .ok (.getfield 9, 3) := by decide +kernel
theorem d44 : decode yB 44 = .ok (.invokestatic 541, 3) := by decide +kernel
theorem d47 : decode yB 47 = .ok (.ifCond (.eq) 7, 3) := by decide +kernel
theorem d50 : decode yB 50 = .ok (.iconst 1, 1) := by decide +kernel
theorem d51 : decode yB 51 = .ok (.goto 4, 3) := by decide +kernel
theorem d54 : decode yB 54 = .ok (.iconst 0, 1) := by decide +kernel
theorem d55 : decode yB 55 = .ok (.ireturn, 1) := by decide +kernel
def site : List Cond := [.classLink "java/lang/String" 10 "java/lang/String", .fieldLink "java/lang/String" 38 "java/lang/String" "COMPACT_STRINGS" "Z", .fieldLink "java/lang/String" 15 "java/lang/String" "coder" "B", .fieldLink "java/lang/String" 9 "java/lang/String" "value" "[B", LEq.tab] ++ staticW "java/lang/String" 541 LEq.yN
def tab : Cond := tabOf yN yB 3 (some .boolean) site
def P (x t : Addr) (V : Cell) (cd : Int32) (n : Nat) (f : Nat → Int32) (y t' : Addr) (V' : Cell) (cd' : Int32) (k : Nat) (g : Nat → Int32) (z : Int32) (args : Array Value) (s : State) : Prop := args = #[.ref x, .ref y] ∧ Txt x t V cd n f s ∧ Txt y t' V' cd' k g s ∧ StaticIs s "java/lang/String" "COMPACT_STRINGS" "Z" (.int z) ∧ ¬ z = 0
/-- equals(Object) of two Strings: whether the texts are the same -/
theorem law (l : Launch) (x t : Addr) (V : Cell) (cd : Int32) (n : Nat) (f : Nat → Int32) (y t' : Addr) (V' : Cell) (cd' : Int32) (k : Nat) (g : Nat → Int32) (z : Int32) : Law l yN 2 1 1 14 yB 3 (some .boolean) site (P x t V cd n f y t' V' cd' k g z) (Says01 (SameT n f k g)) [] 0 0 := by
  refine Law.of_walk (plainFor_of_name (by decide +kernel)) (by decide +kernel) (by decide +kernel) (by decide) (fun _ _ h => by rw [h.1]; rfl) (fun _ U U' hal hh h => ⟨h.1, h.2.1.mv hal hh, h.2.2.1.mv hal hh, h.2.2.2.1.there hal hh, h.2.2.2.2⟩) (fun r U U' V V' h1 hal h2 h => Says01.mv r U U' V V' h1 hal h2 h) ?_
  intro p e s m args below meth c s₁ X0 hexec hbytes hml hret hlk hnm hown hh0 W hP
  obtain ⟨rfl, hx, hy, s1, hz⟩ := hP
  have c1 : Steps p.tables e below (s₁.setTop (entryFrame m #[.ref x, .ref y] 3)) (s₁.setTop (mkF m 2 #[.val (.ref x), .val (.ref y), .unset] [.ref y, .ref x])) := Steps.trans (entry rfl) (by
    show Steps p.tables e below (s₁.setTop (mkF m 0 #[.val (.ref x), .val (.ref y), .unset] [])) _
    refine XS.aloadN X0.here hexec rfl (hb hbytes d0) rfl rfl ?_
    refine XS.aloadN X0.here hexec rfl (hb hbytes d1) rfl rfl ?_
    exact Steps.refl _)
  by_cases hxy : x = y
  · have c2 : Steps p.tables e below (s₁.setTop (entryFrame m #[.ref x, .ref y] 3)) (s₁.setTop (mkF m 6 #[.val (.ref x), .val (.ref y), .unset] [.int 1])) := c1.trans (by
      refine acmpNo X0.here hexec rfl (hb hbytes d2) rfl rfl rfl (by simp [acmp, hxy]) ?_
      refine iconstV X0.here hexec rfl 1 (hb hbytes d5) (by decide) ?_
      exact Steps.refl _)
    subst hxy
    have ec : cd = cd' := by
      obtain ⟨D, fd, a1, a2, a3⟩ := hx.2.2.1
      obtain ⟨D', fd', b1, b2, b3⟩ := hy.2.2.1
      cases a1.symm.trans b1
      obtain ⟨q1, q2, q3, q4⟩ := a2.1
      obtain ⟨r1, r2, r3, r4⟩ := b2.1
      cases q4.symm.trans r4
      cases a3.symm.trans b3; rfl
    have et : t = t' := by
      obtain ⟨D, fd, a1, a2, a3⟩ := hx.2.1
      obtain ⟨D', fd', b1, b2, b3⟩ := hy.2.1
      cases a1.symm.trans b1
      obtain ⟨q1, q2, q3, q4⟩ := a2.1
      obtain ⟨r1, r2, r3, r4⟩ := b2.1
      cases q4.symm.trans r4
      cases a3.symm.trans b3; rfl
    subst ec et
    have ev : V = V' := by cases hx.2.2.2.1.1.symm.trans hy.2.2.2.1.1; rfl
    subst ev
    have hs : SameT n f k g := (Cod.eqv hx.2.2.2.2.1 hy.2.2.2.2.1 hx.2.2.2.2.2 hy.2.2.2.2.2).mp ⟨rfl, fun _ _ => rfl⟩
    exact ⟨s₁, some (.int 1), _, _, _, X0, rfl, rfl, rfl, (fun h => by cases h), ⟨1, rfl, hh0, Or.inl ⟨rfl, hs⟩⟩, fun fs hl => c2.trans (X0.ireturnOut hexec hret rfl (Or.inr (Or.inl rfl)) (hb hbytes d6) hl)⟩
  · have c2 : Steps p.tables e below (s₁.setTop (entryFrame m #[.ref x, .ref y] 3)) (s₁.setTop (mkF m 8 #[.val (.ref x), .val (.ref y), .unset] [.ref y])) := c1.trans (by
      refine acmpYes X0.here hexec rfl (pc0 := 2) rfl (hb hbytes d2) rfl rfl rfl (by simp [acmp, hxy]) (by decide) rfl ?_
      refine XS.aloadN X0.here hexec rfl (hb hbytes d7) rfl rfl ?_
      exact Steps.refl _)
    obtain ⟨T3, X3, q3, st3⟩ := cinst X0 hexec hown (wk W (.classLink "java/lang/String" 10 "java/lang/String")) (hy.mv X0.warmed.alike hh0).1 (g := (mkF m 8 #[.val (.ref x), .val (.ref y), .unset] [.ref y])) rfl (rest := []) rfl (hb hbytes d8)
    have hh3 := q3.trans hh0
    have c4 : Steps p.tables e below (s₁.setTop (entryFrame m #[.ref x, .ref y] 3)) (T3.setTop (mkF m 15 #[.val (.ref x), .val (.ref y), .unset] [.ref y])) := (c2.trans (st3 _ (Steps.refl _))).trans (by
      refine XS.ifNo X3.here hexec rfl (hb hbytes d11) rfl (i0_eq_f (by decide)) ?_
      refine XS.aloadN X3.here hexec rfl (hb hbytes d14) rfl rfl ?_
      exact Steps.refl _)
    obtain ⟨T5, X5, q5, st5⟩ := cself X3 hexec hown (wk W (.classLink "java/lang/String" 10 "java/lang/String")) (hy.mv X3.warmed.alike hh3).1 (g := (mkF m 15 #[.val (.ref x), .val (.ref y), .unset] [.ref y])) rfl (rest := []) rfl (hb hbytes d15)
    have hh5 := q5.trans hh3
    have c6 : Steps p.tables e below (s₁.setTop (entryFrame m #[.ref x, .ref y] 3)) (T5.setTop (mkF m 19 #[.val (.ref x), .val (.ref y), .val (.ref y)] [])) := (c4.trans (st5 _ (Steps.refl _))).trans (by
      refine XS.astoreN X5.here hexec rfl (hb hbytes d18) rfl rfl rfl ?_
      exact Steps.refl _)
    obtain ⟨T7, X7, q7, st7⟩ := X5.sget hexec hown (wk W (.fieldLink "java/lang/String" 38 "java/lang/String" "COMPACT_STRINGS" "Z")) s1 (fun _ _ h => by rw [hh5]; exact h) (g := (mkF m 19 #[.val (.ref x), .val (.ref y), .val (.ref y)] [])) rfl (hb hbytes d19)
    have hh7 := q7.trans hh5
    have c8 : Steps p.tables e below (s₁.setTop (entryFrame m #[.ref x, .ref y] 3)) (T7.setTop (mkF m 26 #[.val (.ref x), .val (.ref y), .val (.ref y)] [.ref x])) := (c6.trans (st7 _ (Steps.refl _))).trans (by
      refine XS.ifNo X7.here hexec rfl (hb hbytes d22) rfl (i0_eq_f hz) ?_
      refine XS.aloadN X7.here hexec rfl (hb hbytes d25) rfl rfl ?_
      exact Steps.refl _)
    obtain ⟨T9, X9, q9, st9⟩ := X7.hget hexec hown (wk W (.fieldLink "java/lang/String" 15 "java/lang/String" "coder" "B")) (hx.mv X7.warmed.alike hh7).2.2.1 (g := (mkF m 26 #[.val (.ref x), .val (.ref y), .val (.ref y)] [.ref x])) rfl (rest := []) rfl (hb hbytes d26)
    have hh9 := q9.trans hh7
    have c10 : Steps p.tables e below (s₁.setTop (entryFrame m #[.ref x, .ref y] 3)) (T9.setTop (mkF m 30 #[.val (.ref x), .val (.ref y), .val (.ref y)] [.ref y, .int cd])) := (c8.trans (st9 _ (Steps.refl _))).trans (by
      refine XS.aloadN X9.here hexec rfl (hb hbytes d29) rfl rfl ?_
      exact Steps.refl _)
    obtain ⟨T11, X11, q11, st11⟩ := X9.hget hexec hown (wk W (.fieldLink "java/lang/String" 15 "java/lang/String" "coder" "B")) (hy.mv X9.warmed.alike hh9).2.2.1 (g := (mkF m 30 #[.val (.ref x), .val (.ref y), .val (.ref y)] [.ref y, .int cd])) rfl (rest := [.int cd]) rfl (hb hbytes d30)
    have hh11 := q11.trans hh9
    have c12 : Steps p.tables e below (s₁.setTop (entryFrame m #[.ref x, .ref y] 3)) (T11.setTop (mkF m 33 #[.val (.ref x), .val (.ref y), .val (.ref y)] [.int cd', .int cd])) := c10.trans (st11 _ (Steps.refl _))
    by_cases hcd : cd = cd'
    · subst hcd
      have c13 : Steps p.tables e below (s₁.setTop (entryFrame m #[.ref x, .ref y] 3)) (T11.setTop (mkF m 37 #[.val (.ref x), .val (.ref y), .val (.ref y)] [.ref x])) := c12.trans (by
        refine XS.icmpNo X11.here hexec rfl (hb hbytes d33) rfl (ii_ne_f rfl) ?_
        refine XS.aloadN X11.here hexec rfl (hb hbytes d36) rfl rfl ?_
        exact Steps.refl _)
      obtain ⟨T14, X14, q14, st14⟩ := X11.hget hexec hown (wk W (.fieldLink "java/lang/String" 9 "java/lang/String" "value" "[B")) (hx.mv X11.warmed.alike hh11).2.1 (g := (mkF m 37 #[.val (.ref x), .val (.ref y), .val (.ref y)] [.ref x])) rfl (rest := []) rfl (hb hbytes d37)
      have hh14 := q14.trans hh11
      have c15 : Steps p.tables e below (s₁.setTop (entryFrame m #[.ref x, .ref y] 3)) (T14.setTop (mkF m 41 #[.val (.ref x), .val (.ref y), .val (.ref y)] [.ref y, .ref t])) := (c13.trans (st14 _ (Steps.refl _))).trans (by
        refine XS.aloadN X14.here hexec rfl (hb hbytes d40) rfl rfl ?_
        exact Steps.refl _)
      obtain ⟨T16, X16, q16, st16⟩ := X14.hget hexec hown (wk W (.fieldLink "java/lang/String" 9 "java/lang/String" "value" "[B")) (hy.mv X14.warmed.alike hh14).2.1 (g := (mkF m 41 #[.val (.ref x), .val (.ref y), .val (.ref y)] [.ref y, .ref t])) rfl (rest := [.ref t]) rfl (hb hbytes d41)
      have hh16 := q16.trans hh14
      have c17 : Steps p.tables e below (s₁.setTop (entryFrame m #[.ref x, .ref y] 3)) (T16.setTop (mkF m 44 #[.val (.ref x), .val (.ref y), .val (.ref y)] [.ref t', .ref t])) := c15.trans (st16 _ (Steps.refl _))
      obtain ⟨v18, T18, X18, E18, g18⟩ := X16.callS hexec (LEq.law l t V t' V') hown (wks W (staticW "java/lang/String" 541 LEq.yN)) (wk W LEq.tab) (W := 0) (Nat.le_of_ble_eq_true rfl) (Nat.le_of_ble_eq_true rfl) (Nat.le_refl _) (Nat.le_refl _) (g := (mkF m 44 #[.val (.ref x), .val (.ref y), .val (.ref y)] [.ref t', .ref t])) rfl (by rw [hml]; rfl) c17 (argsL := [.ref t, .ref t']) (rest := []) rfl rfl (by show 2 * 0 + 0 ≤ _; decide) (hb hbytes d44) (⟨rfl, hx.2.2.2.1.mv X16.warmed.alike hh16, hx.2.2.2.2.1.ty, hy.2.2.2.1.mv X16.warmed.alike hh16, hy.2.2.2.2.1.ty⟩)
      obtain ⟨v, rfl, q18, hv⟩ := E18
      have iff := Cod.eqv hx.2.2.2.2.1 hy.2.2.2.2.1 hx.2.2.2.2.2 hy.2.2.2.2.2
      rcases hv with ⟨rfl, he⟩ | ⟨rfl, he⟩
      · have c19 : Steps p.tables e below (s₁.setTop (entryFrame m #[.ref x, .ref y] 3)) (T18.setTop (mkF m 55 #[.val (.ref x), .val (.ref y), .val (.ref y)] [.int 1])) := Steps.trans g18 (by
          refine XS.ifNo X18.here hexec rfl (hb hbytes d47) rfl (i0_eq_f (by decide)) ?_
          refine iconstV X18.here hexec rfl 1 (hb hbytes d50) (by decide) ?_
          refine XS.goto X18.here hexec rfl (pc0 := 51) rfl (hb hbytes d51) (by decide) rfl ?_
          exact Steps.refl _)
        exact ⟨T18, some (.int 1), _, _, _, X18, rfl, rfl, rfl, (fun h => by cases h), ⟨1, rfl, q18.trans hh16, Or.inl ⟨rfl, iff.mp he⟩⟩, fun fs hl => c19.trans (X18.ireturnOut hexec hret rfl (Or.inr (Or.inl rfl)) (hb hbytes d55) hl)⟩
      · have c19 : Steps p.tables e below (s₁.setTop (entryFrame m #[.ref x, .ref y] 3)) (T18.setTop (mkF m 55 #[.val (.ref x), .val (.ref y), .val (.ref y)] [.int 0])) := Steps.trans g18 (by
          refine XS.ifYes X18.here hexec rfl (pc0 := 47) rfl (hb hbytes d47) rfl (i0_eq_t rfl) (by decide) rfl ?_
          refine iconstV X18.here hexec rfl 0 (hb hbytes d54) (by decide) ?_
          exact Steps.refl _)
        exact ⟨T18, some (.int 0), _, _, _, X18, rfl, rfl, rfl, (fun h => by cases h), ⟨0, rfl, q18.trans hh16, Or.inr ⟨rfl, fun q => he (iff.mpr q)⟩⟩, fun fs hl => c19.trans (X18.ireturnOut hexec hret rfl (Or.inr (Or.inl rfl)) (hb hbytes d55) hl)⟩
    · have c13 : Steps p.tables e below (s₁.setTop (entryFrame m #[.ref x, .ref y] 3)) (T11.setTop (mkF m 55 #[.val (.ref x), .val (.ref y), .val (.ref y)] [.int 0])) := c12.trans (by
        refine XS.icmpYes X11.here hexec rfl (pc0 := 33) rfl (hb hbytes d33) rfl (ii_ne_t hcd) (by decide) rfl ?_
        refine iconstV X11.here hexec rfl 0 (hb hbytes d54) (by decide) ?_
        exact Steps.refl _)
      exact ⟨T11, some (.int 0), _, _, _, X11, rfl, rfl, rfl, (fun h => by cases h), ⟨0, rfl, hh11, Or.inr ⟨rfl, Cod.dif hx.2.2.2.2.1 hy.2.2.2.2.1 hcd⟩⟩, fun fs hl => c13.trans (X11.ireturnOut hexec hret rfl (Or.inr (Or.inl rfl)) (hb hbytes d55) hl)⟩
theorem pays {l : Launch} {R : Room} {p : Program} {e : Env} {below : List Frame} {s : State} {sargs : Array Value} {len W : Nat} (x t : Addr) (V : Cell) (cd : Int32) (n : Nat) (f : Nat → Int32) (y t' : Addr) (V' : Cell) (cd' : Int32) (k : Nat) (g : Nat → Int32) (z : Int32) (htab : tab.before sargs s = true) (hfr : 2 ≤ R.frames) (hlo : W + 28 ≤ R.locals) :
    Back l R p e below s sargs yN len W (fun A₁ a₁ => A₁.cells + 0 ≤ R.cells ∧ A₁.slots + 0 ≤ R.slots ∧ P x t V cd n f y t' V' cd' k g z a₁ A₁.U) (fun A₁ _ v₁ B₁ => Says01 (SameT n f k g) v₁ A₁.U B₁.U ∧ B₁.locs = A₁.locs ++ [] ∧ B₁.cells = A₁.cells + 0 ∧ B₁.slots = A₁.slots + 0) :=
  (law l x t V cd n f y t' V' cd' k g z).pays htab hfr (by omega)
end SEq
end StrChars
namespace StrChars.Road
open Jvm Sem ClassFile Op Lib Jvm.Stand Jvm.Free Jvm.Free.XT
open Jvm.Lib.Cold (StaticIs)
/-- the words of String.equals(Object) -/
abbrev wordsEq : List Jvm.Cond := [.code SEq.yN SEq.yB 3 (some .boolean), .initialized ST, .classLink ST 10 ST, .fieldLink ST 38 ST "COMPACT_STRINGS" "Z", .fieldLink ST 15 ST "coder" "B", .fieldLink ST 9 ST "value" "[B", .methodLink ST 541 LEq.yN, .static LEq.yN, .code LEq.yN LEq.yB 3 (some .boolean), .initialized "java/lang/StringLatin1"]
theorem tabEq_of {a : Array Value} {s : State} (h : ∀ w ∈ wordsEq, w.before a s = true) : SEq.tab.before a s = true := by
  have hl : LEq.tab.before a s = true := unparts (wk h (.code LEq.yN LEq.yB 3 (some .boolean))) (wks h (.initialized LEq.yN.cls :: LEq.site))
  have q := consq hl h
  exact unparts (wk q (.code SEq.yN SEq.yB 3 (some .boolean))) (wks q (.initialized SEq.yN.cls :: SEq.site))
theorem movedEq {Z s : State} {a0 args : Array Value} (hZ : Z.Warmed39 s.vm) (hw : ∀ d ∈ wordsEq, d.before a0 Z = true) : ∀ d ∈ wordsEq, d.before args s = true := fun d hd => by
  have t : ∀ d ∈ wordsEq, (d.onTables && d.keepsFace) = true := by decide +kernel
  exact RoadKit.mv hZ (hw d hd) (t d hd)
/-- the road's facts of a String, as the laws ask it -/
theorem txt_of {Z U : State} {a0 : Array Value} {kI : Nat} (wi : (Jvm.Cond.instantiable ST kI).before a0 Z = true) (al : Z.vm.Alike U.vm) {x t : Addr} {kb : ClassId} {cs : List Int32} {cd N2 : Int32} {vs : List Value} (E : RoadKit.Exa Z U.heap x ST) (V : RoadKit.Fld Z U.heap x ST "value" "[B" (.ref t)) (C : RoadKit.Fld Z U.heap x ST "coder" "B" (.int cd)) (K : RoadKit.Arv Z U.heap t kb .byte N2 vs (.int 0)) (hc : CodA cs cd N2 vs) (hb : ∀ c ∈ cs, ¬ c < 0 ∧ ¬ (65535 : Int32) < c) (l2 : cs.length ≤ 4000) :
    ∃ A, Txt x t A cd cs.length (fun j => cs.getD j 0) U := by
  obtain ⟨A, K1, K2, K3, K4, K5, K6⟩ := K
  have hcod := hc.cod (by omega) K3 K5
  obtain ⟨D, fV, fC, hB, F1, F2, g1, g2, -, -⟩ := strObj wi al E V C
  exact ⟨A, ⟨_, hB.2.2.1, D, hB.1, rfl, by cases q : D.vm <;> first | rfl | exact absurd q (hB.2.1.2 _)⟩, Has.of hB F1 g1, Has.of hB F2 g2, ⟨K1.1, State.isArrayOf_alike al K1.2.1, K1.2.2, by rcases hcod with ⟨-, q, -⟩ | ⟨-, q, -⟩ <;> omega⟩, hcod, fun j hj => by
    have e : cs.getD j 0 = cs[j] := by simp [List.getD_eq_getElem?_getD, hj]
    show ¬ cs.getD j 0 < 0 ∧ ¬ 65535 < cs.getD j 0
    rw [e]; exact hb _ (List.getElem_mem _)⟩
theorem same_list (cs ds : List Int32) : SameT cs.length (fun j => cs.getD j 0) ds.length (fun j => ds.getD j 0) ↔ cs = ds := by
  constructor
  · rintro ⟨e, q⟩
    refine List.ext_getElem e fun j h1 h2 => ?_
    have := q j h1
    simpa [List.getD_eq_getElem?_getD, h1, h2] using this
  · rintro rfl
    exact ⟨rfl, fun _ _ => rfl⟩
/-- **equals(Object) OF TWO SUCH STRINGS**: 1 just where the chars are the same -/
theorem eqW {p : Program} {l : Launch} {e : Env} {R : Room} {s : State} {args : Array Value} {below : List Frame} {len W : Nat} {Z : State} {a0 : Array Value} {h : Heap} (hZ : Z.Warmed39 s.vm) (hw : ∀ d ∈ wordsEq, d.before a0 Z = true) {kI : Nat} (wi : (Jvm.Cond.instantiable ST kI).before a0 Z = true)
    {x t : Addr} {kb : ClassId} {cs : List Int32} {cd N2 : Int32} {vs : List Value} (E : RoadKit.Exa Z h x ST) (V : RoadKit.Fld Z h x ST "value" "[B" (.ref t)) (C : RoadKit.Fld Z h x ST "coder" "B" (.int cd)) (K : RoadKit.Arv Z h t kb .byte N2 vs (.int 0)) (hc : CodA cs cd N2 vs) (hb : ∀ c ∈ cs, ¬ c < 0 ∧ ¬ (65535 : Int32) < c) (l2 : cs.length ≤ 4000)
    {y t' : Addr} {kb' : ClassId} {ds : List Int32} {cd' N2' : Int32} {vs' : List Value} (E' : RoadKit.Exa Z h y ST) (V' : RoadKit.Fld Z h y ST "value" "[B" (.ref t')) (C' : RoadKit.Fld Z h y ST "coder" "B" (.int cd')) (K' : RoadKit.Arv Z h t' kb' .byte N2' vs' (.int 0)) (hc' : CodA ds cd' N2' vs') (hb' : ∀ c ∈ ds, ¬ c < 0 ∧ ¬ (65535 : Int32) < c) (l2' : ds.length ≤ 4000)
    {z : Int32} (S : RoadKit.Sta Z h ST "COMPACT_STRINGS" "Z" (.int z)) (hz : ¬ z = 0) (hfr : 2 ≤ R.frames) (hlo : W + 28 ≤ R.locals) :
    Back l R p e below s args (⟨"java/lang/String", "equals", "(Ljava/lang/Object;)Z"⟩ : MethodName) len W (fun P a => a = #[.ref x, .ref y] ∧ P.U.heap = h ∧ P.cells + 0 ≤ R.cells ∧ P.slots + 0 ≤ R.slots)
      (fun P _ v B => ∃ L, (((v = some (.int 1) ∧ cs = ds) ∨ (v = some (.int 0) ∧ ¬ cs = ds)) ∧ L = [] ∧ B.U.heap = h) ∧ B.locs = P.locs ++ L ∧ B.cells = P.cells + 0 ∧ B.slots = P.slots + 0) := by
  intro m meth c P g ig mk a X hg hsize hdg hW hn hp'
  obtain ⟨rfl, rfl, r1, r2⟩ := hp'
  have al : Z.vm.Alike P.U.vm := hZ.alike.trans X.warmed.alike
  obtain ⟨A, hx⟩ := txt_of wi al E V C K hc hb l2
  obtain ⟨A', hy⟩ := txt_of wi al E' V' C' K' hc' hb' l2'
  obtain ⟨v, B, X', ⟨⟨w, hv, hh, hq⟩, hl, hk, hs⟩, st⟩ := SEq.pays x t A cd cs.length (fun j => cs.getD j 0) y t' A' cd' ds.length (fun j => ds.getD j 0) z (tabEq_of (movedEq hZ hw)) hfr hlo m meth c P g ig mk _ X hg hsize hdg hW hn ⟨r1, r2, rfl, hx, hy, sta_is al S, hz⟩
  refine ⟨v, B, X', ⟨[], ⟨?_, rfl, hh⟩, hl, hk, hs⟩, st⟩
  rcases hq with ⟨rfl, q⟩ | ⟨rfl, q⟩
  · exact Or.inl ⟨hv, (same_list cs ds).mp q⟩
  · exact Or.inr ⟨hv, fun e => q ((same_list cs ds).mpr e)⟩
end StrChars.Road
end Jvm.Pilot.@@N@@
namespace Jvm.Pilot.@@N@@
open Jvm Jvm.ClassFile Sem Op Lib Jvm.Free Jvm.Stand Jvm.LawKit Jvm.RoadKit Bundle Jvm.Pilot.@@N@@.Jvm.D
section Own
variable {p : Program} {l : Launch} {e : Env} {R : Room} {s : State} {m : MethodId} {args : Array Value} {below : List Frame} {meth : Method} {c : Code} {T : State} {k n : Nat} {Z : State} {a0 : Array Value} {h : Heap} {n0 KK NN : Nat} {Q : Option Value → Heap → Prop}
/-- from T with the top frame g the invocation comes to its end as Q asks -/
def OwG (p : Program) (e : Env) (below : List Frame) (s : State) (n0 KK NN : Nat) (Q : Option Value → Heap → Prop) (T : State) (g : JFrame) : Prop :=
  ∃ s₂ o, Steps p.tables e below (T.setTop g) s₂ ∧ s₂.status = .running ∧ Ended s₂ below o ∧ ∃ v L, o = .returned v ∧ (Q v s₂.heap ∧ Fr n0 L) ∧ FrameEnd s o s₂ L KK NN
/-- where a walk stands: the heap is h, what was written lies at or above n0, k cells and n slots were made at the most -/
def OwP (p : Program) (l : Launch) (e : Env) (R : Room) (s : State) (m : MethodId) (args : Array Value) (below : List Frame) (meth : Method) (c : Code) (n0 : Nat) (T : State) (h : Heap) (k n : Nat) : Prop :=
  ∃ locs, Stand p l e R s m args below meth c T locs k n ∧ T.heap = h ∧ Fr n0 locs
/-- a callee's contract -/
def OwM (l : Launch) (Z : State) (y : MethodName) (bytes : ByteArray) (maxL : Nat) (ret : Option FieldType) (rm : Room) (n0 : Nat) (as' : Array Value) (h0 : Heap) (Q : Option Value → Heap → Prop) : Prop :=
  MetFree l y (head1 [Jvm.Cond.code y bytes maxL ret] rm) (fun a U => a = as' ∧ Z.Warmed39 U.vm ∧ U.heap = h0) (fun _ _ _ _ _ => True) (fun _ U o U' => ∃ v L, o = .returned v ∧ (Q v U'.heap ∧ Fr n0 L) ∧ FrameEnd U o U' L rm.cells rm.slots)
theorem OwG.go {T' : State} {g g' : JFrame} (st : ∀ t, Steps p.tables e below (T'.setTop g') t → Steps p.tables e below (T.setTop g) t) (G : OwG p e below s n0 KK NN Q T' g') : OwG p e below s n0 KK NN Q T g := by
  obtain ⟨s₂, o, h1, r⟩ := G
  exact ⟨s₂, o, st _ h1, r⟩
theorem OwG.ac (g' : JFrame) {g : JFrame} (st : ∀ t, Steps p.tables e below (T.setTop g') t → Steps p.tables e below (T.setTop g) t) (G : OwG p e below s n0 KK NN Q T g') : OwG p e below s n0 KK NN Q T g := G.go st
theorem OwG.cast {g g' : JFrame} (q : g = g') (G : OwG p e below s n0 KK NN Q T g') : OwG p e below s n0 KK NN Q T g := q ▸ G
theorem OwP.here (P : OwP p l e R s m args below meth c n0 T h k n) : At T m c below := by obtain ⟨_, X, _⟩ := P; exact X.here
theorem OwP.wide (P : OwP p l e R s m args below meth c n0 T h k n) {k' n' : Nat} (h1 : k ≤ k') (h2 : n ≤ n') : OwP p l e R s m args below meth c n0 T h k' n' := by
  obtain ⟨L, X, r⟩ := P
  exact ⟨L, Jvm.Stand.wide X (fun x hx _ => hx) h1 h2, r⟩
theorem OwM.of {y : MethodName} {bytes : ByteArray} {maxL : Nat} {ret : Option FieldType} {ws : List Jvm.Cond} {rm : Room} {as' : Array Value} {h0 : Heap} (pn : plainFor y = true)
    (body : ∀ (p : Program) (e : Env) (s : State) (m : MethodId) (below : List Frame) (meth : Method) (c : Code) (T : State), p.tables.exec = Jvm.exec → c.code = bytes → c.maxLocals = maxL → s.vm.findClass y.cls = some m.cls → meth.name = y.name → meth.sig.returnType = ret → meth.locks = false → Z.Warmed39 s.vm → OwP p l e rm s m as' below meth c n0 T h0 0 0 → OwG p e below s n0 KK NN Q T (entryFrame m as' maxL)) :
    MetFree l y (head1 (Jvm.Cond.code y bytes maxL ret :: ws) rm) (fun a U => a = as' ∧ Z.Warmed39 U.vm ∧ U.heap = h0) (fun _ _ _ _ _ => True) (fun _ U o U' => ∃ v L, o = .returned v ∧ (Q v U'.heap ∧ Fr n0 L) ∧ FrameEnd U o U' L KK NN) := by
  refine MetFree.of_bodySF pn hisR ?_
  intro p e s m args below meth c s₁ Bd hml0 hP hK
  obtain ⟨rfl, hZ, hh⟩ := hP
  exact body p e s m below meth c s₁ Bd.exec Bd.bytes hml0 (findClass_of_methodNamed Bd.named) (name_of_methodNamed Bd.named Bd.method).1 Bd.returns Bd.notSynchronized hZ ⟨[], Stand.of_body Bd, by rw [← hh, Bd.state]; rfl, Fr.nil n0⟩
theorem OwM.mk {y : MethodName} {bytes : ByteArray} {maxL : Nat} {ret : Option FieldType} {rm : Room} {as' : Array Value} {h0 : Heap} (pn : plainFor y = true)
    (body : ∀ (p : Program) (e : Env) (s : State) (m : MethodId) (below : List Frame) (meth : Method) (c : Code) (T : State), p.tables.exec = Jvm.exec → c.code = bytes → c.maxLocals = maxL → s.vm.findClass y.cls = some m.cls → meth.name = y.name → meth.sig.returnType = ret → meth.locks = false → Z.Warmed39 s.vm → OwP p l e rm s m as' below meth c n0 T h0 0 0 → OwG p e below s n0 rm.cells rm.slots Q T (entryFrame m as' maxL)) :
    OwM l Z y bytes maxL ret rm n0 as' h0 Q := OwM.of (ws := []) (Q := Q) pn body
theorem OwP.ret (P : OwP p l e R s m args below meth c n0 T h k n) (hx : p.tables.exec = Jvm.exec) (hlk : meth.locks = false) {pc : Nat} {Ls : Array Slot} {w : Value} {t : FieldType} {i : Instr} {rest : List Value} (hret : meth.sig.returnType = some t) (hn : narrow t w = w)
    (hi : (i = .ireturn ∧ (t = .int ∨ t = .boolean ∨ t = .byte ∨ t = .char ∨ t = .short) ∧ ∃ z, w = .int z) ∨ (i = .lreturn ∧ t = .long ∧ ∃ z, w = .long z) ∨ (i = .dreturn ∧ t = .double ∧ ∃ z, w = .double z) ∨ (i = .freturn ∧ t = .float ∧ ∃ z, w = .float z) ∨ (i = .areturn ∧ t.isReference = true ∧ w.isRef = true))
    (hd : decode c.code pc = .ok (i, 1)) (hk : k ≤ KK) (hn' : n ≤ NN) (q : Q (some w) h) : OwG p e below s n0 KK NN Q T (mkF m pc Ls (w :: rest)) := by
  obtain ⟨L, X, e0, N⟩ := P
  obtain ⟨fs, hr, hrun, hended, hW, hsame⟩ := X.leave (v := some w) (fun h => by rw [hret] at h; cases h)
  exact ⟨_, _, retOut X hx hret hn hi hd hr, hrun, hended, _, _, rfl, ⟨by rw [← e0] at q; exact q, N⟩, ⟨_, rfl⟩, hW, hsame.mono hk hn'⟩
theorem OwP.retI (P : OwP p l e R s m args below meth c n0 T h k n) (hx : p.tables.exec = Jvm.exec) (hlk : meth.locks = false) {pc : Nat} {Ls : Array Slot} {z : Int32} {rest : List Value} (hret : meth.sig.returnType = some .int)
    (hd : decode c.code pc = .ok (.ireturn, 1)) (hk : k ≤ KK) (hn' : n ≤ NN) (q : Q (some (.int z)) h) : OwG p e below s n0 KK NN Q T (mkF m pc Ls (.int z :: rest)) :=
  P.ret hx hlk hret rfl (Or.inl ⟨rfl, Or.inl rfl, z, rfl⟩) hd hk hn' q
theorem OwP.retR (P : OwP p l e R s m args below meth c n0 T h k n) (hx : p.tables.exec = Jvm.exec) (hlk : meth.locks = false) {pc : Nat} {Ls : Array Slot} {w : Value} {t : FieldType} {rest : List Value} (hret : meth.sig.returnType = some t) (ht : t.isReference = true) (hw : w.isRef = true)
    (hd : decode c.code pc = .ok (.areturn, 1)) (hk : k ≤ KK) (hn' : n ≤ NN) (q : Q (some w) h) : OwG p e below s n0 KK NN Q T (mkF m pc Ls (w :: rest)) :=
  P.ret hx hlk hret (by cases t <;> first | (cases ht; done) | (cases w <;> rfl)) (Or.inr (Or.inr (Or.inr (Or.inr ⟨rfl, ht, hw⟩)))) hd hk hn' q
theorem OwP.retN (P : OwP p l e R s m args below meth c n0 T h k n) (hx : p.tables.exec = Jvm.exec) (hlk : meth.locks = false) {pc : Nat} {Ls : Array Slot} {z : Int32} {t : FieldType} {rest : List Value} (hret : meth.sig.returnType = some t) (ht : t = .boolean ∨ t = .byte ∨ t = .char ∨ t = .short)
    (hd : decode c.code pc = .ok (.ireturn, 1)) (hk : k ≤ KK) (hn' : n ≤ NN) (q : Q (some (.int (nar t z))) h) : OwG p e below s n0 KK NN Q T (mkF m pc Ls (.int z :: rest)) := by
  obtain ⟨L, X, e0, N⟩ := P
  obtain ⟨fs, hr, hrun, hended, hW, hsame⟩ := X.leave (v := some (.int (nar t z))) (fun h => by rw [hret] at h; cases h)
  exact ⟨_, _, RoadKit.retN X hx hret ht hd hr, hrun, hended, _, _, rfl, ⟨by rw [← e0] at q; exact q, N⟩, ⟨_, rfl⟩, hW, hsame.mono hk hn'⟩
theorem OwP.retV (P : OwP p l e R s m args below meth c n0 T h k n) (hx : p.tables.exec = Jvm.exec) (hlk : meth.locks = false) {pc : Nat} {Ls : Array Slot} (hret : meth.sig.returnType = none)
    (hd : decode c.code pc = .ok (.return_, 1)) (hk : k ≤ KK) (hn' : n ≤ NN) (q : Q none h) : OwG p e below s n0 KK NN Q T (mkF m pc Ls []) := by
  obtain ⟨L, X, e0, N⟩ := P
  obtain ⟨fs, hr, hrun, hended, hW, hsame⟩ := X.leave (v := none) (fun _ => rfl)
  exact ⟨_, _, X.returnOut hx hret hd hr, hrun, hended, _, _, rfl, ⟨by rw [← e0] at q; exact q, N⟩, ⟨_, rfl⟩, hW, hsame.mono hk hn'⟩
theorem OwP.getF (P : OwP p l e R s m args below meth c n0 T h k n) (hx : p.tables.exec = Jvm.exec) (hZ : Z.Warmed39 s.vm) {own R0 O nm d host : String} {index : Nat} (hown : s.vm.findClass own = some m.cls) (w : (Jvm.Cond.fieldLink own index R0 nm d).before a0 Z = true ∨ (Jvm.Cond.fieldLinkNest own index R0 nm d host).before a0 Z = true) (via : Via Z R0 O nm d)
    {a : Addr} {v : Value} (F : Fld Z h a O nm d v) {g : JFrame} (hg : g.method = m) {rest : List Value} (hs : g.stack = .ref a :: rest) (hd : decode c.code g.pc = .ok (.getfield index, 3))
    (K : ∀ T', OwP p l e R s m args below meth c n0 T' h k n → OwG p e below s n0 KK NN Q T' { g with pc := g.pc + 3, stack := v :: rest }) : OwG p e below s n0 KK NN Q T g := by
  obtain ⟨L, X, eT, N⟩ := P
  obtain ⟨T', X', e', st⟩ := RoadKit.getF X hx hZ hown w via eT F hg hs hd
  exact (K T' ⟨L, X', e', N⟩).go st
theorem OwP.getS (P : OwP p l e R s m args below meth c n0 T h k n) (hx : p.tables.exec = Jvm.exec) (hZ : Z.Warmed39 s.vm) {own R0 O nm d host : String} {index : Nat} (hown : s.vm.findClass own = some m.cls) (w : (Jvm.Cond.fieldLink own index R0 nm d).before a0 Z = true ∨ (Jvm.Cond.fieldLinkNest own index R0 nm d host).before a0 Z = true) (via : Via Z R0 O nm d)
    {v : Value} (F : Sta Z h O nm d v) {g : JFrame} (hg : g.method = m) (hd : decode c.code g.pc = .ok (.getstatic index, 3))
    (K : ∀ T', OwP p l e R s m args below meth c n0 T' h k n → OwG p e below s n0 KK NN Q T' { g with pc := g.pc + 3, stack := v :: g.stack }) : OwG p e below s n0 KK NN Q T g := by
  obtain ⟨L, X, eT, N⟩ := P
  obtain ⟨T', X', e', st⟩ := RoadKit.getS2 X hx hZ hown w via eT F hg hd
  exact (K T' ⟨L, X', e', N⟩).go st
theorem OwP.putF (P : OwP p l e R s m args below meth c n0 T h k n) (hx : p.tables.exec = Jvm.exec) (hZ : Z.Warmed39 s.vm) {own R0 O nm d host C : String} {index kk : Nat} {ty : FieldType} (hown : s.vm.findClass own = some m.cls) (w : (Jvm.Cond.fieldLink own index R0 nm d).before a0 Z = true ∨ (Jvm.Cond.fieldLinkNest own index R0 nm d host).before a0 Z = true) (via : Via Z R0 O nm d)
    {a : Addr} {v old : Value} (F : Fld Z h a O nm d old) (E : Exa Z h a C) (L : (Jvm.Cond.lays C O nm d).before a0 Z = true ∨ ((Jvm.Cond.laysFinal C O nm d).before a0 Z = true ∧ own = O ∧ meth.name = "<init>")) (wi : (Jvm.Cond.instantiable C kk).before a0 Z = true)
    (hty : parseFieldDescriptor d = some ty) (hn : narrow ty v = v) (hf : fits ty v = true) {g : JFrame} (hg : g.method = m) {rest : List Value} (hs : g.stack = v :: .ref a :: rest) (hd : decode c.code g.pc = .ok (.putfield index, 3)) (ha : n0 ≤ a)
    (K : ∀ T' h', OwP p l e R s m args below meth c n0 T' h' k n → Wr h h' a (Jvm.RoadKit.slotOf Z O nm d) v → OwG p e below s n0 KK NN Q T' { g with pc := g.pc + 3, stack := rest }) : OwG p e below s n0 KK NN Q T g := by
  obtain ⟨L0, X, eT, N⟩ := P
  obtain ⟨T', h', X', e', W, st⟩ := RoadKit.putF X hx hZ hown w via eT F E L wi hty hn hf hg hs hd
  exact (K T' h' ⟨_, X', e', Fr.snoc X' N ha⟩ W).go st
theorem OwP.putFN (P : OwP p l e R s m args below meth c n0 T h k n) (hx : p.tables.exec = Jvm.exec) (hZ : Z.Warmed39 s.vm) {own R0 O nm d C : String} {index kk : Nat} {ty : FieldType} (hown : s.vm.findClass own = some m.cls) (w : (Jvm.Cond.fieldLink own index R0 nm d).before a0 Z = true) (via : Via Z R0 O nm d)
    {a : Addr} {v v' old : Value} (F : Fld Z h a O nm d old) (E : Exa Z h a C) (L : (Jvm.Cond.lays C O nm d).before a0 Z = true ∨ ((Jvm.Cond.laysFinal C O nm d).before a0 Z = true ∧ own = O ∧ meth.name = "<init>")) (wi : (Jvm.Cond.instantiable C kk).before a0 Z = true)
    (hty : parseFieldDescriptor d = some ty) (hn : narrow ty v = v') (hf : fits ty v' = true) {g : JFrame} (hg : g.method = m) {rest : List Value} (hs : g.stack = v :: .ref a :: rest) (hd : decode c.code g.pc = .ok (.putfield index, 3)) (ha : n0 ≤ a)
    (K : ∀ T' h', OwP p l e R s m args below meth c n0 T' h' k n → Wr h h' a (Jvm.RoadKit.slotOf Z O nm d) v' → OwG p e below s n0 KK NN Q T' { g with pc := g.pc + 3, stack := rest }) : OwG p e below s n0 KK NN Q T g := by
  obtain ⟨L0, X, eT, N⟩ := P
  obtain ⟨T', h', X', e', W, st⟩ := RoadKit.putFN X hx hZ hown w via eT F E L wi hty hn hf hg hs hd
  exact (K T' h' ⟨_, X', e', Fr.snoc X' N ha⟩ W).go st
theorem OwP.newO (P : OwP p l e R s m args below meth c n0 T h k n) (hx : p.tables.exec = Jvm.exec) (hZ : Z.Warmed39 s.vm) {own C : String} {index nn : Nat} (hown : s.vm.findClass own = some m.cls) (w : (Jvm.Cond.classLink own index C).before a0 Z = true) (wi : (Jvm.Cond.instantiable C nn).before a0 Z = true) (wz : (Jvm.Cond.initialized C).before a0 Z = true)
    {g : JFrame} (hg : g.method = m) (hd : decode c.code g.pc = .ok (.new index, 3)) (hc : k + 1 ≤ R.cells) (hl : n + nn ≤ R.slots)
    (K : ∀ T' h' b, b = h.size → OwP p l e R s m args below meth c n0 T' h' (k + 1) (n + nn) → Ext h h' → Exa Z h' b C → (∀ {O nm d : String} {ty : FieldType}, Laid Z a0 C O nm d → parseFieldDescriptor d = some ty → Fld Z h' b O nm d (defaultValue ty)) → OwG p e below s n0 KK NN Q T' { g with pc := g.pc + 3, stack := .ref b :: g.stack }) : OwG p e below s n0 KK NN Q T g := by
  obtain ⟨L, X, eT, N⟩ := P
  obtain ⟨T', h', X', e', E, A, D, -, st⟩ := RoadKit.newO X hx hZ hown w wi wz eT hg hd hc hl
  exact (K T' h' _ rfl ⟨L, X', e', N⟩ E A D).go st
theorem OwP.newP (P : OwP p l e R s m args below meth c n0 T h k n) (hx : p.tables.exec = Jvm.exec) (hZ : Z.Warmed39 s.vm) {aty : ArrayType} (w : (Jvm.Cond.arrayClass (newarray.typeOf aty)).before a0 Z = true) {g : JFrame} (hg : g.method = m) (hd : decode c.code g.pc = .ok (.newarray aty, 2)) {z : Int32} {rest : List Value} (hs : g.stack = .int z :: rest)
    (hn : ¬ z < 0) {cap : Nat} (hcap : z.toNatClampNeg ≤ cap) (hb : cap * 8 ≤ 536870912) (hc : k + 1 ≤ R.cells) (hl : n + cap ≤ R.slots)
    (K : ∀ T' h' b kA, b = h.size → OwP p l e R s m args below meth c n0 T' h' (k + 1) (n + cap) → Ext h h' → Arv Z h' b kA (newarray.typeOf aty) z [] (defaultValue (newarray.typeOf aty)) → OwG p e below s n0 KK NN Q T' { g with pc := g.pc + 2, stack := .ref b :: rest }) : OwG p e below s n0 KK NN Q T g := by
  obtain ⟨L, X, eT, N⟩ := P
  obtain ⟨T', h', kA, X', e', E, A, st⟩ := RoadKit.newP X hx hZ w eT hg hd hs hn hcap hb hc hl
  exact (K T' h' _ kA rfl ⟨L, X', e', N⟩ E (Arv.new A hn)).go st
theorem OwP.initO (P : OwP p l e R s m args below meth c n0 T h k n) (hx : p.tables.exec = Jvm.exec) (hZ : Z.Warmed39 s.vm) {own : String} {idx : Nat} (hown : s.vm.findClass own = some m.cls) (w1 : (Jvm.Cond.methodLink own idx Lib.objectInit).before a0 Z = true) (w2 : (Jvm.Cond.instanceMethod Lib.objectInit).before a0 Z = true)
    (w3 : (Jvm.Cond.code Lib.objectInit ⟨#[0xb1]⟩ 1 none).before a0 Z = true) {g : JFrame} (hg : g.method = m) (hsize : g.locals.size = c.maxLocals) {a : Addr} {rest : List Value} (hs : g.stack = .ref a :: rest) (hd : decode c.code g.pc = .ok (.invokespecial idx, 3))
    (hf : 1 ≤ R.frames) {W : Nat} (hW : 2 * g.monitorRoom + (rest.map fun v => v.category).sum ≤ W) (hl : W + 12 ≤ R.locals)
    (K : ∀ T', OwP p l e R s m args below meth c n0 T' h k n → OwG p e below s n0 KK NN Q T' { g with pc := g.pc + 3, stack := rest }) : OwG p e below s n0 KK NN Q T g := by
  obtain ⟨L, X, eT, N⟩ := P
  obtain ⟨T', X', e', st⟩ := RoadKit.initO X hx hZ hown w1 w2 w3 eT hg hsize hs hd hf hW hl
  exact (K T' ⟨L, X', e', N⟩).go st
theorem OwP.stC (P : OwP p l e R s m args below meth c n0 T h k n) (hx : p.tables.exec = Jvm.exec) (hZ : Z.Warmed39 s.vm) {a : Addr} {kA : ClassId} {z j x : Int32} {vs : List Value} {dv : Value} (A : Arv Z h a kA .char z vs dv) (hj0 : ¬ j < 0) (hj1 : j < z) {i : Nat} (hi : j.toNatClampNeg = i) (hi' : i < vs.length) {g : JFrame} (hg : g.method = m) {rest : List Value} (hs : g.stack = .int x :: .int j :: .ref a :: rest) (hd : decode c.code g.pc = .ok (.castore, 1)) (ha : n0 ≤ a)
    (K : ∀ T' h', OwP p l e R s m args below meth c n0 T' h' k n → Wr h h' a j.toNatClampNeg (.int (nar .char x)) → Arv Z h' a kA .char z (vs.set i (.int (nar .char x))) dv → OwG p e below s n0 KK NN Q T' { g with pc := g.pc + 1, stack := rest }) : OwG p e below s n0 KK NN Q T g := by
  obtain ⟨L, X, eT, N⟩ := P
  obtain ⟨cl, A1, q1, S1, M1, H1, U1⟩ := A
  obtain ⟨T', h', X', e', W, st⟩ := RoadKit.stC X hx hZ eT A1 (inb_of S1 ⟨hj0, hj1⟩) hg hs hd
  exact (K T' h' ⟨_, X', e', Fr.snoc X' N ha⟩ W (Arv.set A1 q1 S1 M1 H1 U1 (fits_nar_char _) W i hi hi')).go st
theorem OwP.special (P : OwP p l e R s m args below meth c n0 T h k n) (hx : p.tables.exec = Jvm.exec) (hZ : Z.Warmed39 s.vm) {own : String} {index : Nat} {y : MethodName} (hy1 : y.name = "<init>") (hown : s.vm.findClass own = some m.cls) (w1 : (Jvm.Cond.methodLink own index y).before a0 Z = true) (w2 : (Jvm.Cond.instanceMethod y).before a0 Z = true)
    {bytes : ByteArray} {maxL : Nat} (w3 : (Jvm.Cond.code y bytes maxL none).before a0 Z = true) (hy : y.cls ≠ "java/lang/invoke/MethodHandle" ∧ y.cls ≠ "java/lang/invoke/VarHandle")
    {W c1 s1 : Nat} {as' : Array Value} {Qc : Option Value → Heap → List Loc → Prop} (hK : Back l R p e below s args y 3 W (fun A a => a = as' ∧ A.U.heap = h ∧ A.cells + c1 ≤ R.cells ∧ A.slots + s1 ≤ R.slots) (fun A _ v B => ∃ L, Qc v B.U.heap L ∧ B.locs = A.locs ++ L ∧ B.cells = A.cells + c1 ∧ B.slots = A.slots + s1))
    (hQ : ∀ v h L, Qc v h L → Fr n0 L) {g : JFrame} (hg : g.method = m) (hsize : g.locals.size = c.maxLocals) {a : Addr} {argsL rest : List Value}
    (hlen : ∀ sig, parseMethodDescriptor y.desc = some sig → argsL.length = sig.parameters.length) (hstack : g.stack = argsL.reverse ++ .ref a :: rest) (hW : 2 * g.monitorRoom + (rest.map fun v => v.category).sum ≤ W)
    (hdg : decode c.code g.pc = .ok (.invokespecial index, 3)) (has : (Value.ref a :: argsL).toArray = as') (hc : k + c1 ≤ R.cells) (hl : n + s1 ≤ R.slots)
    (K : ∀ T' v L h', T'.heap = h' → OwP p l e R s m args below meth c n0 T' h' (k + c1) (n + s1) → Qc v h' L → OwG p e below s n0 KK NN Q T' { g with pc := g.pc + 3, stack := v.toList ++ rest }) : OwG p e below s n0 KK NN Q T g := by
  obtain ⟨L, X, eT, N⟩ := P
  obtain ⟨v, _, ⟨T', L', k', n'⟩, -, X', ⟨Lc, hQc, l', y', z'⟩, st⟩ := X.specialBack hx hy1 hown (mvT hZ w1) (mvT hZ w2) (mvT hZ w3) hy hK hg hsize (Steps.refl _) hlen hstack hW hdg (fun _ _ => ⟨has, eT, hc, hl⟩)
  dsimp only [Pt.U, Pt.locs, Pt.cells, Pt.slots] at X' l' y' z' st hQc
  subst l' y' z'
  exact (K T' v Lc _ rfl ⟨_, X', rfl, Fr.app N (hQ _ _ _ hQc)⟩ hQc).go fun t kt => st.trans kt
theorem OwP.virtual (P : OwP p l e R s m args below meth c n0 T h k n) (hx : p.tables.exec = Jvm.exec) (hZ : Z.Warmed39 s.vm) {own C : String} {index : Nat} {y : MethodName} (hown : s.vm.findClass own = some m.cls) (w1 : (Jvm.Cond.methodLink own index y).before a0 Z = true) (w2 : (Jvm.Cond.declares y).before a0 Z = true)
    (w3 : (Jvm.Cond.selects C y y).before a0 Z = true) (w4 : (Jvm.Cond.instanceMethod y).before a0 Z = true) (hy : y.cls ≠ "java/lang/invoke/MethodHandle" ∧ y.cls ≠ "java/lang/invoke/VarHandle")
    {W c1 s1 : Nat} {as' : Array Value} {Qc : Option Value → Heap → List Loc → Prop} (hK : Back l R p e below s args y 3 W (fun A a => a = as' ∧ A.U.heap = h ∧ A.cells + c1 ≤ R.cells ∧ A.slots + s1 ≤ R.slots) (fun A _ v B => ∃ L, Qc v B.U.heap L ∧ B.locs = A.locs ++ L ∧ B.cells = A.cells + c1 ∧ B.slots = A.slots + s1))
    (hQ : ∀ v h L, Qc v h L → Fr n0 L) {b : Addr} (E : Exa Z h b C) {g : JFrame} (hg : g.method = m) (hsize : g.locals.size = c.maxLocals) {argsL rest : List Value}
    (hlen : ∀ sig, parseMethodDescriptor y.desc = some sig → argsL.length = sig.parameters.length) (hstack : g.stack = argsL.reverse ++ .ref b :: rest) (hW : 2 * g.monitorRoom + (rest.map fun v => v.category).sum ≤ W)
    (hdg : decode c.code g.pc = .ok (.invokevirtual index, 3)) (has : (Value.ref b :: argsL).toArray = as') (hc : k + c1 ≤ R.cells) (hl : n + s1 ≤ R.slots)
    (K : ∀ T' v L h', T'.heap = h' → OwP p l e R s m args below meth c n0 T' h' (k + c1) (n + s1) → Qc v h' L → OwG p e below s n0 KK NN Q T' { g with pc := g.pc + 3, stack := v.toList ++ rest }) : OwG p e below s n0 KK NN Q T g := by
  obtain ⟨L, X, eT, N⟩ := P
  obtain ⟨cq, kq, qa, qb, qc⟩ := isOf hZ eT E
  obtain ⟨v, _, ⟨T', L', k', n'⟩, -, X', ⟨Lc, hQc, l', y', z'⟩, st⟩ := X.virtualBack hx hown (mvT hZ w1) (mvT hZ w2) (notFace_of_selects (args := #[]) (mvT hZ w3)) (mvT hZ w3) (mvT hZ w4) hy hK qa qc hg hsize (Steps.refl _) hlen hstack hW hdg (fun _ _ => ⟨has, eT, hc, hl⟩)
  dsimp only [Pt.U, Pt.locs, Pt.cells, Pt.slots] at X' l' y' z' st hQc
  subst l' y' z'
  exact (K T' v Lc _ rfl ⟨_, X', rfl, Fr.app N (hQ _ _ _ hQc)⟩ hQc).go fun t kt => st.trans kt
theorem OwP.stat (P : OwP p l e R s m args below meth c n0 T h k n) (hx : p.tables.exec = Jvm.exec) (hZ : Z.Warmed39 s.vm) {own : String} {index : Nat} {y : MethodName} {bytes : ByteArray} {maxL : Nat} {ret : Option FieldType} (hown : s.vm.findClass own = some m.cls) (w1 : (Jvm.Cond.methodLink own index y).before a0 Z = true) (w2 : (Jvm.Cond.static y).before a0 Z = true) (w3 : (Jvm.Cond.initialized y.cls).before a0 Z = true)
    (w4 : (Jvm.Cond.code y bytes maxL ret).before a0 Z = true) (hy : y.cls ≠ "java/lang/invoke/MethodHandle" ∧ y.cls ≠ "java/lang/invoke/VarHandle")
    {W c1 s1 : Nat} {as' : Array Value} {Qc : Option Value → Heap → List Loc → Prop} (hK : Back l R p e below s args y 3 W (fun A a => a = as' ∧ A.U.heap = h ∧ A.cells + c1 ≤ R.cells ∧ A.slots + s1 ≤ R.slots) (fun A _ v B => ∃ L, Qc v B.U.heap L ∧ B.locs = A.locs ++ L ∧ B.cells = A.cells + c1 ∧ B.slots = A.slots + s1))
    (hQ : ∀ v h L, Qc v h L → Fr n0 L) {g : JFrame} (hg : g.method = m) (hsize : g.locals.size = c.maxLocals) {argsL rest : List Value}
    (hlen : ∀ sig, parseMethodDescriptor y.desc = some sig → argsL.length = sig.parameters.length) (hstack : g.stack = argsL.reverse ++ rest) (hW : 2 * g.monitorRoom + (rest.map fun v => v.category).sum ≤ W)
    (hdg : decode c.code g.pc = .ok (.invokestatic index, 3)) (has : argsL.toArray = as') (hc : k + c1 ≤ R.cells) (hl : n + s1 ≤ R.slots)
    (K : ∀ T' v L h', T'.heap = h' → OwP p l e R s m args below meth c n0 T' h' (k + c1) (n + s1) → Qc v h' L → OwG p e below s n0 KK NN Q T' { g with pc := g.pc + 3, stack := v.toList ++ rest }) : OwG p e below s n0 KK NN Q T g := by
  obtain ⟨L, X, eT, N⟩ := P
  obtain ⟨v, _, ⟨T', L', k', n'⟩, -, X', ⟨Lc, hQc, l', y', z'⟩, st⟩ := Jvm.LawKit.callS X hx hown (mvT hZ w1) (mvT hZ w2) (mvT hZ w3) (mvT hZ w4) hy hK hg hsize hlen hstack hW hdg (fun _ _ => ⟨has, eT, hc, hl⟩)
  dsimp only [Pt.U, Pt.locs, Pt.cells, Pt.slots] at X' l' y' z' st hQc
  subst l' y' z'
  exact (K T' v Lc _ rfl ⟨_, X', rfl, Fr.app N (hQ _ _ _ hQc)⟩ hQc).go st
theorem own_a0 {α : Type} {P : α → Prop} : ∀ x ∈ ([] : List α), P x := fun _ q => nomatch q
theorem own_le {a b : Nat} (h : Nat.ble a b = true) : a ≤ b := Nat.le_of_ble_eq_true h
theorem own_cI (z : Int32) : (Value.int z).category = 1 := rfl
theorem own_cL (z : Int64) : (Value.long z).category = 2 := rfl
theorem own_cR (z : Addr) : (Value.ref z).category = 1 := rfl
theorem own_cN : Value.null.category = 1 := rfl
theorem own_cat {v : Value} (h : v.isRef = true) : v.category = 1 := by cases v <;> first | rfl | (cases h; done)
def OwQ (Qc : Option Value → Heap → Prop) (n0 : Nat) (v : Option Value) (h : Heap) (L : List Loc) : Prop := Qc v h ∧ Fr n0 L
/-- a contract made a payer -/
theorem OwM.back {y : MethodName} {bytes : ByteArray} {maxL : Nat} {ret : Option FieldType} {rm : Room} {W : Nat} {as' : Array Value} {Qc : Option Value → Heap → Prop} (hM : OwM l Z y bytes maxL ret rm n0 as' h Qc)
    (hZ : Z.Warmed39 s.vm) (wc : (Jvm.Cond.code y bytes maxL ret).before a0 Z = true) (wz : (Jvm.Cond.initialized y.cls).before a0 Z = true) (hf : rm.frames + 1 ≤ R.frames) (hl : W + (maxL + 11) + rm.locals ≤ R.locals) :
    Back l R p e below s args y 3 W (fun A a => a = as' ∧ A.U.heap = h ∧ A.cells + rm.cells ≤ R.cells ∧ A.slots + rm.slots ≤ R.slots)
      (fun A _ v B => ∃ L, OwQ Qc n0 v B.U.heap L ∧ B.locs = A.locs ++ L ∧ B.cells = A.cells + rm.cells ∧ B.slots = A.slots + rm.slots) :=
  backOf (Q := OwQ Qc n0) hM hZ wc wz hf hl
end Own
end Jvm.Pilot.@@N@@
namespace Jvm.Pilot.@@N@@
open Jvm Jvm.ClassFile Sem Op Lib Jvm.Free Jvm.Stand Jvm.LawKit Jvm.RoadKit Bundle Jvm.Pilot.@@N@@.Jvm.D
section Own3
variable {p : Program} {l : Launch} {e : Env} {R : Room} {s : State} {m : MethodId} {args : Array Value} {below : List Frame} {meth : Method} {c : Code} {T : State} {k n : Nat} {Z : State} {a0 : Array Value} {h : Heap} {n0 KK NN : Nat} {Q : Option Value → Heap → Prop}
theorem own_i2b2 (x : Int32) : x.toInt8.toInt32.toInt8.toInt32 = x.toInt8.toInt32 := by simp
theorem OwP.stB (P : OwP p l e R s m args below meth c n0 T h k n) (hx : p.tables.exec = Jvm.exec) (hZ : Z.Warmed39 s.vm) {a : Addr} {kA : ClassId} {z j x : Int32} {vs : List Value} {dv : Value} (A : Arv Z h a kA .byte z vs dv) (hj0 : ¬ j < 0) (hj1 : j < z) {i : Nat} (hi : j.toNatClampNeg = i) (hi' : i < vs.length) {g : JFrame} (hg : g.method = m) {rest : List Value} (hs : g.stack = .int x :: .int j :: .ref a :: rest) (hd : decode c.code g.pc = .ok (.bastore, 1)) (ha : n0 ≤ a)
    (K : ∀ T' h', OwP p l e R s m args below meth c n0 T' h' k n → Wr h h' a j.toNatClampNeg (.int x.toInt8.toInt32) → Arv Z h' a kA .byte z (vs.set i (.int x.toInt8.toInt32)) dv → OwG p e below s n0 KK NN Q T' { g with pc := g.pc + 1, stack := rest }) : OwG p e below s n0 KK NN Q T g := by
  obtain ⟨L, X, eT, N⟩ := P
  obtain ⟨cl, A1, q1, S1, M1, H1, U1⟩ := A
  obtain ⟨T', h', X', e', W, st⟩ := RoadKit.stB X hx hZ eT A1 (inb_of S1 ⟨hj0, hj1⟩) hg hs hd
  exact (K T' h' ⟨_, X', e', Fr.snoc X' N ha⟩ W (Arv.set A1 q1 S1 M1 H1 U1 (fits_nar_byte _) W i hi hi')).go st
end Own3
end Jvm.Pilot.@@N@@
namespace Jvm.Pilot.@@N@@
open Jvm Jvm.ClassFile Sem Op Lib Jvm.Free Jvm.Stand Jvm.LawKit Jvm.RoadKit Bundle Jvm.Pilot.@@N@@.Jvm.D
section Own4
variable {p : Program} {l : Launch} {e : Env} {R : Room} {s : State} {m : MethodId} {args : Array Value} {below : List Frame} {meth : Method} {c : Code} {T : State} {k n : Nat} {Z : State} {a0 : Array Value} {h : Heap} {n0 KK NN : Nat} {Q : Option Value → Heap → Prop}
/-- a method that isn't static and has this code: it is declared -/
theorem own_declares {y : MethodName} {bytes : ByteArray} {maxL : Nat} {ret : Option FieldType} (w1 : (Jvm.Cond.instanceMethod y).before a0 Z = true) (w2 : (Jvm.Cond.code y bytes maxL ret).before a0 Z = true) : (Jvm.Cond.declares y).before a0 Z = true := by
  obtain ⟨mk, me, hn, hm, hs, -⟩ := Cond.instanceMethod_spec w1
  obtain ⟨me', cc, hm', -, -, -, -, -, -, hsig⟩ := Cond.code_spec hn w2
  cases hm.symm.trans hm'
  simp [Cond.before, Cond.holds, Cond.value, hn, hm, hs, hsig]
/-- no interface: told of one method of the class, it holds of another -/
theorem own_nf {C : String} {y y' : MethodName} (w : (Jvm.Cond.selects C y' y').before a0 Z = true) (hc : y'.cls = y.cls) : NotFace Z y := fun r0 h0 => by
  obtain ⟨c2, r2, m2, q1, q2, q3, q4, kP, hkP, hkPi⟩ := Cond.selects_spec w
  have e1 := findClass_of_methodNamed h0
  have e2 := findClass_of_methodNamed q3
  rw [hc] at e2
  have e3 := Option.some.inj (e1.symm.trans e2)
  exact ⟨kP, by rw [e3]; exact hkP, hkPi⟩
/-- the class's own method is the one that the lookup finds -/
theorem own_same {C : String} {y y' : MethodName} (w1 : (Jvm.Cond.instanceMethod y).before a0 Z = true) (w : (Jvm.Cond.selects C y' y').before a0 Z = true) (hc : y'.cls = y.cls) (hy : y.cls ≠ "java/lang/invoke/MethodHandle" ∧ y.cls ≠ "java/lang/invoke/VarHandle") : (Jvm.Cond.sameMethod y.cls y.cls y.name y.desc).before a0 Z = true := by
  obtain ⟨mk, me, hn, hm, hs, -⟩ := Cond.instanceMethod_spec w1
  obtain ⟨kr, hkr, hni⟩ := own_nf w hc mk hn
  have e1 := findClass_of_methodNamed hn
  have e2 := State.methodFound?_of_named hn hy
  simp [Cond.before, Cond.holds, Cond.value, e1, e2, hn, hkr, hni]
theorem OwP.superc (P : OwP p l e R s m args below meth c n0 T h k n) (hx : p.tables.exec = Jvm.exec) (hZ : Z.Warmed39 s.vm) {own KK' : String} {index : Nat} {y : MethodName} (hown : s.vm.findClass own = some m.cls) (w1 : (Jvm.Cond.methodLink own index y).before a0 Z = true) (w2 : (Jvm.Cond.sameMethod y.cls y.cls y.name y.desc).before a0 Z = true)
    (w3 : (Jvm.Cond.instanceMethod y).before a0 Z = true) (w4 : (Jvm.Cond.superclass own y.cls).before a0 Z = true) (hn : y.name ≠ "<init>")
    {W c1 s1 : Nat} {as' : Array Value} {Qc : Option Value → Heap → List Loc → Prop} (hK : Back l R p e below s args y 3 W (fun A a => a = as' ∧ A.U.heap = h ∧ A.cells + c1 ≤ R.cells ∧ A.slots + s1 ≤ R.slots) (fun A _ v B => ∃ L, Qc v B.U.heap L ∧ B.locs = A.locs ++ L ∧ B.cells = A.cells + c1 ∧ B.slots = A.slots + s1))
    (hQ : ∀ v h L, Qc v h L → Fr n0 L) {a : Addr} (F : Exa Z h a KK') {g : JFrame} (hg : g.method = m) (hsize : g.locals.size = c.maxLocals) {bytes : ByteArray} {maxL : Nat} {ret : Option FieldType} (wc : (Jvm.Cond.code y bytes maxL ret).before a0 Z = true) {argsL rest : List Value}
    (hlen : ∀ sig, parseMethodDescriptor y.desc = some sig → argsL.length = sig.parameters.length) (hstack : g.stack = argsL.reverse ++ .ref a :: rest) (hW : 2 * g.monitorRoom + (rest.map fun v => v.category).sum ≤ W)
    (hdg : decode c.code g.pc = .ok (.invokespecial index, 3)) (has : (Value.ref a :: argsL).toArray = as') (hc : k + c1 ≤ R.cells) (hl : n + s1 ≤ R.slots)
    (K : ∀ T' v L h', T'.heap = h' → OwP p l e R s m args below meth c n0 T' h' (k + c1) (n + s1) → Qc v h' L → OwG p e below s n0 KK NN Q T' { g with pc := g.pc + 3, stack := v.toList ++ rest }) : OwG p e below s n0 KK NN Q T g := by
  obtain ⟨L, X, eT, N⟩ := P
  obtain ⟨v, _, ⟨T', L', k', n'⟩, -, X', ⟨Lc, hQc, l', y', z'⟩, st⟩ := superBack X hx hZ hown w1 w2 w3 w4 hn hK eT (Ins.self F) hg hsize wc hlen hstack hW hdg (fun _ _ => ⟨has, eT, hc, hl⟩)
  dsimp only [Pt.U, Pt.locs, Pt.cells, Pt.slots] at X' l' y' z' st hQc
  subst l' y' z'
  exact (K T' v Lc _ rfl ⟨_, X', rfl, Fr.app N (hQ _ _ _ hQc)⟩ hQc).go fun t kt => st.trans kt
/-- invokevirtual where what selects isn't what is named -/
theorem OwP.virtualN (P : OwP p l e R s m args below meth c n0 T h k n) (hx : p.tables.exec = Jvm.exec) (hZ : Z.Warmed39 s.vm) {own C : String} {index : Nat} {y z : MethodName} (hown : s.vm.findClass own = some m.cls) (w1 : (Jvm.Cond.methodLink own index y).before a0 Z = true) (w2 : (Jvm.Cond.declares y).before a0 Z = true) (nf : NotFace Z y)
    (w3 : (Jvm.Cond.selects C y z).before a0 Z = true) (w4 : (Jvm.Cond.instanceMethod z).before a0 Z = true) (hy : y.cls ≠ "java/lang/invoke/MethodHandle" ∧ y.cls ≠ "java/lang/invoke/VarHandle")
    {W c1 s1 : Nat} {as' : Array Value} {Qc : Option Value → Heap → List Loc → Prop} (hK : Back l R p e below s args z 3 W (fun A a => a = as' ∧ A.U.heap = h ∧ A.cells + c1 ≤ R.cells ∧ A.slots + s1 ≤ R.slots) (fun A _ v B => ∃ L, Qc v B.U.heap L ∧ B.locs = A.locs ++ L ∧ B.cells = A.cells + c1 ∧ B.slots = A.slots + s1))
    (hQ : ∀ v h L, Qc v h L → Fr n0 L) {b : Addr} (E : Exa Z h b C) {g : JFrame} (hg : g.method = m) (hsize : g.locals.size = c.maxLocals) {argsL rest : List Value}
    (hlen : ∀ sig, parseMethodDescriptor y.desc = some sig → argsL.length = sig.parameters.length) (hstack : g.stack = argsL.reverse ++ .ref b :: rest) (hW : 2 * g.monitorRoom + (rest.map fun v => v.category).sum ≤ W)
    (hdg : decode c.code g.pc = .ok (.invokevirtual index, 3)) (has : (Value.ref b :: argsL).toArray = as') (hc : k + c1 ≤ R.cells) (hl : n + s1 ≤ R.slots)
    (K : ∀ T' v L h', T'.heap = h' → OwP p l e R s m args below meth c n0 T' h' (k + c1) (n + s1) → Qc v h' L → OwG p e below s n0 KK NN Q T' { g with pc := g.pc + 3, stack := v.toList ++ rest }) : OwG p e below s n0 KK NN Q T g := by
  obtain ⟨L, X, eT, N⟩ := P
  obtain ⟨cq, kq, qa, qb, qc⟩ := isOf hZ eT E
  have nf' : NotFace s y := fun r0 h0 => by
    have h0' : Z.methodNamed? y = some r0 := by
      have q := State.methodNamed?_setVm (s := Z) hZ.alike (x := y)
      have e1 : (Z.setVm s.vm).methodNamed? y = s.methodNamed? y := rfl
      rw [← q, e1]; exact h0
    obtain ⟨kr, hkr, hni⟩ := nf r0 h0'
    obtain ⟨k', hk', ek⟩ := hZ.alike.2.2 _ _ hkr
    exact ⟨k', hk', by rw [ek]; exact hni⟩
  obtain ⟨v, _, ⟨T', L', k', n'⟩, -, X', ⟨Lc, hQc, l', y', z'⟩, st⟩ := X.virtualBack hx hown (mvT hZ w1) (mvT hZ w2) nf' (mvT hZ w3) (mvT hZ w4) hy hK qa qc hg hsize (Steps.refl _) hlen hstack hW hdg (fun _ _ => ⟨has, eT, hc, hl⟩)
  dsimp only [Pt.U, Pt.locs, Pt.cells, Pt.slots] at X' l' y' z' st hQc
  subst l' y' z'
  exact (K T' v Lc _ rfl ⟨_, X', rfl, Fr.app N (hQ _ _ _ hQc)⟩ hQc).go fun t kt => st.trans kt
end Own4
end Jvm.Pilot.@@N@@
namespace Jvm.Pilot.@@N@@
open Jvm Jvm.ClassFile Sem Op Lib Jvm.Free Jvm.Stand Jvm.LawKit Jvm.RoadKit Bundle Jvm.Pilot.@@N@@.Jvm.D
section Own2
variable {p : Program} {l : Launch} {e : Env} {R : Room} {s : State} {m : MethodId} {args : Array Value} {below : List Frame} {meth : Method} {c : Code} {T : State} {k n : Nat} {Z : State} {a0 : Array Value} {h : Heap} {n0 KK NN : Nat} {Q : Option Value → Heap → Prop} {EL : List (String × Nat)} {sf : List Addr} {own : String}
/-- as OwG, of a walk that may load String constants cold -/
def OwH (p : Program) (e : Env) (below : List Frame) (s Z : State) (EL : List (String × Nat)) (n0 KK NN : Nat) (Q : Option Value → Heap → Prop) (T : State) (g : JFrame) : Prop :=
  ∃ s₂ o, Steps p.tables e below (T.setTop g) s₂ ∧ s₂.status = .running ∧ Ended s₂ below o ∧ ∃ v L, o = .returned v ∧ (Q v s₂.heap ∧ Fr n0 L) ∧ CHr Z EL s.vm s.heap s₂.vm s₂.heap ∧ ReturnedEndW s o s₂ L KK NN
/-- where such a walk stands: the tables at hand are hidden; sf: the places of its own that no constant books -/
def OwC (p : Program) (l : Launch) (e : Env) (R : Room) (s : State) (m : MethodId) (args : Array Value) (below : List Frame) (meth : Method) (c : Code) (Z : State) (own : String) (EL : List (String × Nat)) (sf : List Addr) (n0 : Nat) (T : State) (h : Heap) (k n : Nat) : Prop :=
  ∃ (vm0 : Vm) (k0 : Nat) (locs : List Loc), Stand p l e R (s.setVm vm0) m args below meth c T locs k n ∧ T.heap = h ∧ Fr n0 locs ∧ s.Since vm0 k0 ∧ k0 ≤ h.size ∧ Z.Warmed39 vm0 ∧ vm0.findClass own = some m.cls ∧ CHr Z EL s.vm s.heap vm0 h ∧ ∀ x ∈ sf, x < h.size ∧ Safe Z EL vm0 h x
/-- a contract of a callee that may load String constants cold -/
def OwS (l : Launch) (Z : State) (EL : List (String × Nat)) (sf : List Addr) (y : MethodName) (bytes : ByteArray) (maxL : Nat) (ret : Option FieldType) (rm : Room) (n0 : Nat) (as' : Array Value) (h0 : Heap) (Q : Option Value → Heap → Prop) : Prop :=
  MetFree l y (head1 [Jvm.Cond.code y bytes maxL ret] rm) (fun a U => a = as' ∧ Z.Warmed39 U.vm ∧ U.heap = h0 ∧ CHv Z EL U.vm h0 ∧ ∀ x ∈ sf, x < h0.size ∧ Safe Z EL U.vm h0 x) (fun _ _ _ _ _ => True)
    (fun _ U o U' => ∃ v L, o = .returned v ∧ (Q v U'.heap ∧ Fr n0 L) ∧ CHr Z EL U.vm U.heap U'.vm U'.heap ∧ ReturnedEndW U o U' L rm.cells rm.slots)
theorem OwH.go {T' : State} {g g' : JFrame} (st : ∀ t, Steps p.tables e below (T'.setTop g') t → Steps p.tables e below (T.setTop g) t) (G : OwH p e below s Z EL n0 KK NN Q T' g') : OwH p e below s Z EL n0 KK NN Q T g := by
  obtain ⟨s₂, o, h1, r⟩ := G
  exact ⟨s₂, o, st _ h1, r⟩
theorem OwH.ac (g' : JFrame) {g : JFrame} (st : ∀ t, Steps p.tables e below (T.setTop g') t → Steps p.tables e below (T.setTop g) t) (G : OwH p e below s Z EL n0 KK NN Q T g') : OwH p e below s Z EL n0 KK NN Q T g := G.go st
theorem OwH.cast {g g' : JFrame} (q : g = g') (G : OwH p e below s Z EL n0 KK NN Q T g') : OwH p e below s Z EL n0 KK NN Q T g := q ▸ G
theorem OwC.here (P : OwC p l e R s m args below meth c Z own EL sf n0 T h k n) : At T m c below := by obtain ⟨_, _, _, X, _⟩ := P; exact X.here
theorem OwC.wide (P : OwC p l e R s m args below meth c Z own EL sf n0 T h k n) {k' n' : Nat} {sf' : List Addr} (h1 : k ≤ k') (h2 : n ≤ n') (h3 : ∀ x ∈ sf', x ∈ sf) : OwC p l e R s m args below meth c Z own EL sf' n0 T h k' n' := by
  obtain ⟨vm0, k0, L, X, a1, a2, a3, a4, a5, a6, a7, a8⟩ := P
  exact ⟨vm0, k0, L, Jvm.Stand.wide X (fun x hx _ => hx) h1 h2, a1, a2, a3, a4, a5, a6, a7, fun x hx => a8 x (h3 x hx)⟩
theorem OwS.of {y : MethodName} {bytes : ByteArray} {maxL : Nat} {ret : Option FieldType} {ws : List Jvm.Cond} {rm : Room} {as' : Array Value} {h0 : Heap} (pn : plainFor y = true)
    (body : ∀ (p : Program) (e : Env) (s : State) (m : MethodId) (below : List Frame) (meth : Method) (c : Code) (T : State), p.tables.exec = Jvm.exec → c.code = bytes → c.maxLocals = maxL → meth.name = y.name → meth.sig.returnType = ret → meth.locks = false → OwC p l e rm s m as' below meth c Z y.cls EL sf n0 T h0 0 0 → OwH p e below s Z EL n0 KK NN Q T (entryFrame m as' maxL)) :
    MetFree l y (head1 (Jvm.Cond.code y bytes maxL ret :: ws) rm) (fun a U => a = as' ∧ Z.Warmed39 U.vm ∧ U.heap = h0 ∧ CHv Z EL U.vm h0 ∧ ∀ x ∈ sf, x < h0.size ∧ Safe Z EL U.vm h0 x) (fun _ _ _ _ _ => True)
      (fun _ U o U' => ∃ v L, o = .returned v ∧ (Q v U'.heap ∧ Fr n0 L) ∧ CHr Z EL U.vm U.heap U'.vm U'.heap ∧ ReturnedEndW U o U' L KK NN) := by
  refine MetFree.of_bodySF pn hisR ?_
  intro p e s m args below meth c s₁ Bd hml0 hP hK
  obtain ⟨rfl, hZ, hh, hC, hsf⟩ := hP
  have X0 := Stand.of_body Bd
  have hW : s.WarmedH s.vm := by have q := X0.warmed; rw [Bd.state] at q; exact q
  refine body p e s m below meth c s₁ Bd.exec Bd.bytes hml0 (name_of_methodNamed Bd.named Bd.method).1 Bd.returns Bd.notSynchronized ⟨s.vm, 0, [], X0, by rw [← hh, Bd.state]; rfl, Fr.nil n0, hW.since 0, Nat.zero_le _, hZ, findClass_of_methodNamed Bd.named, ?_, hsf⟩
  subst hh
  exact CHr.refl hC
theorem OwS.mk {y : MethodName} {bytes : ByteArray} {maxL : Nat} {ret : Option FieldType} {rm : Room} {as' : Array Value} {h0 : Heap} (pn : plainFor y = true)
    (body : ∀ (p : Program) (e : Env) (s : State) (m : MethodId) (below : List Frame) (meth : Method) (c : Code) (T : State), p.tables.exec = Jvm.exec → c.code = bytes → c.maxLocals = maxL → meth.name = y.name → meth.sig.returnType = ret → meth.locks = false → OwC p l e rm s m as' below meth c Z y.cls EL sf n0 T h0 0 0 → OwH p e below s Z EL n0 rm.cells rm.slots Q T (entryFrame m as' maxL)) :
    OwS l Z EL sf y bytes maxL ret rm n0 as' h0 Q := OwS.of (ws := []) (Q := Q) pn body
theorem OwC.leave (P : OwC p l e R s m args below meth c Z own EL sf n0 T h k n) (hEL : EW Z a0 EL) (hlk : meth.locks = false) {v : Option Value} (hv : meth.sig.returnType = none → v = none) (hk : k ≤ KK) (hn' : n ≤ NN) (q : Q v h) :
    ∃ fs, (∀ (f : JFrame) (acts : List Action), f.method = m → f.locked = none → f.entered = [] → (doReturn e (T.setTop f) acts v).1 = T.setFrames fs) ∧ ((∀ g, Steps p.tables e below (T.setTop g) (T.setFrames fs) → OwH p e below s Z EL n0 KK NN Q T g)) := by
  obtain ⟨vm0, k0, L, X, e0, N, hS, hk0, hZ, hown, hC, hsf⟩ := P
  have X2 := Jvm.Stand.wide X (fun x hx _ => hx) hk hn'
  obtain ⟨fs, hr, hrun, hended, hW⟩ := X2.leaveW hS (by rw [e0]; exact hk0) hv
  refine ⟨fs, hr, fun g st => ⟨_, _, st, hrun, hended, _, _, rfl, ⟨by rw [← e0] at q; exact q, N⟩, ?_, hW⟩⟩
  have A := CHv.at X hZ hEL hC.1
  have B := hC.trans A
  rw [← e0] at B
  exact B
theorem OwC.ret (P : OwC p l e R s m args below meth c Z own EL sf n0 T h k n) (hEL : EW Z a0 EL) (hx : p.tables.exec = Jvm.exec) (hlk : meth.locks = false) {pc : Nat} {Ls : Array Slot} {w : Value} {t : FieldType} {i : Instr} {rest : List Value} (hret : meth.sig.returnType = some t) (hn : narrow t w = w)
    (hi : (i = .ireturn ∧ (t = .int ∨ t = .boolean ∨ t = .byte ∨ t = .char ∨ t = .short) ∧ ∃ z, w = .int z) ∨ (i = .lreturn ∧ t = .long ∧ ∃ z, w = .long z) ∨ (i = .dreturn ∧ t = .double ∧ ∃ z, w = .double z) ∨ (i = .freturn ∧ t = .float ∧ ∃ z, w = .float z) ∨ (i = .areturn ∧ t.isReference = true ∧ w.isRef = true))
    (hd : decode c.code pc = .ok (i, 1)) (hk : k ≤ KK) (hn' : n ≤ NN) (q : Q (some w) h) : OwH p e below s Z EL n0 KK NN Q T (mkF m pc Ls (w :: rest)) := by
  obtain ⟨fs, hr, G⟩ := P.leave hEL hlk (v := some w) (fun h => by rw [hret] at h; cases h) hk hn' q
  obtain ⟨vm0, k0, L, X, _⟩ := P
  exact G _ (retOut X hx hret hn hi hd hr)
theorem OwC.retI (P : OwC p l e R s m args below meth c Z own EL sf n0 T h k n) (hEL : EW Z a0 EL) (hx : p.tables.exec = Jvm.exec) (hlk : meth.locks = false) {pc : Nat} {Ls : Array Slot} {z : Int32} {rest : List Value} (hret : meth.sig.returnType = some .int)
    (hd : decode c.code pc = .ok (.ireturn, 1)) (hk : k ≤ KK) (hn' : n ≤ NN) (q : Q (some (.int z)) h) : OwH p e below s Z EL n0 KK NN Q T (mkF m pc Ls (.int z :: rest)) :=
  P.ret hEL hx hlk hret rfl (Or.inl ⟨rfl, Or.inl rfl, z, rfl⟩) hd hk hn' q
theorem OwC.retR (P : OwC p l e R s m args below meth c Z own EL sf n0 T h k n) (hEL : EW Z a0 EL) (hx : p.tables.exec = Jvm.exec) (hlk : meth.locks = false) {pc : Nat} {Ls : Array Slot} {w : Value} {t : FieldType} {rest : List Value} (hret : meth.sig.returnType = some t) (ht : t.isReference = true) (hw : w.isRef = true)
    (hd : decode c.code pc = .ok (.areturn, 1)) (hk : k ≤ KK) (hn' : n ≤ NN) (q : Q (some w) h) : OwH p e below s Z EL n0 KK NN Q T (mkF m pc Ls (w :: rest)) :=
  P.ret hEL hx hlk hret (by cases t <;> first | (cases ht; done) | (cases w <;> rfl)) (Or.inr (Or.inr (Or.inr (Or.inr ⟨rfl, ht, hw⟩)))) hd hk hn' q
theorem OwC.retN (P : OwC p l e R s m args below meth c Z own EL sf n0 T h k n) (hEL : EW Z a0 EL) (hx : p.tables.exec = Jvm.exec) (hlk : meth.locks = false) {pc : Nat} {Ls : Array Slot} {z : Int32} {t : FieldType} {rest : List Value} (hret : meth.sig.returnType = some t) (ht : t = .boolean ∨ t = .byte ∨ t = .char ∨ t = .short)
    (hd : decode c.code pc = .ok (.ireturn, 1)) (hk : k ≤ KK) (hn' : n ≤ NN) (q : Q (some (.int (nar t z))) h) : OwH p e below s Z EL n0 KK NN Q T (mkF m pc Ls (.int z :: rest)) := by
  obtain ⟨fs, hr, G⟩ := P.leave hEL hlk (v := some (.int (nar t z))) (fun h => by rw [hret] at h; cases h) hk hn' q
  obtain ⟨vm0, k0, L, X, _⟩ := P
  exact G _ (RoadKit.retN X hx hret ht hd hr)
theorem OwC.retV (P : OwC p l e R s m args below meth c Z own EL sf n0 T h k n) (hEL : EW Z a0 EL) (hx : p.tables.exec = Jvm.exec) (hlk : meth.locks = false) {pc : Nat} {Ls : Array Slot} (hret : meth.sig.returnType = none)
    (hd : decode c.code pc = .ok (.return_, 1)) (hk : k ≤ KK) (hn' : n ≤ NN) (q : Q none h) : OwH p e below s Z EL n0 KK NN Q T (mkF m pc Ls []) := by
  obtain ⟨fs, hr, G⟩ := P.leave hEL hlk (v := none) (fun _ => rfl) hk hn' q
  obtain ⟨vm0, k0, L, X, _⟩ := P
  exact G _ (X.returnOut hx hret hd hr)
theorem OwC.getF (P : OwC p l e R s m args below meth c Z own EL sf n0 T h k n) (hx : p.tables.exec = Jvm.exec) {R0 O nm d host : String} {index : Nat} (w : (Jvm.Cond.fieldLink own index R0 nm d).before a0 Z = true ∨ (Jvm.Cond.fieldLinkNest own index R0 nm d host).before a0 Z = true) (via : Via Z R0 O nm d)
    {a : Addr} {v : Value} (F : Fld Z h a O nm d v) {g : JFrame} (hg : g.method = m) {rest : List Value} (hs : g.stack = .ref a :: rest) (hd : decode c.code g.pc = .ok (.getfield index, 3))
    (K : ∀ T', OwC p l e R s m args below meth c Z own EL sf n0 T' h k n → OwH p e below s Z EL n0 KK NN Q T' { g with pc := g.pc + 3, stack := v :: rest }) : OwH p e below s Z EL n0 KK NN Q T g := by
  obtain ⟨vm0, k0, L, X, eT, N, hS, hk0, hZ, hown, hC, hsf⟩ := P
  obtain ⟨T', X', e', st⟩ := RoadKit.getF X hx hZ hown w via eT F hg hs hd
  exact (K T' ⟨vm0, k0, L, X', e', N, hS, hk0, hZ, hown, hC, hsf⟩).go st
theorem OwC.getS (P : OwC p l e R s m args below meth c Z own EL sf n0 T h k n) (hx : p.tables.exec = Jvm.exec) {R0 O nm d host : String} {index : Nat} (w : (Jvm.Cond.fieldLink own index R0 nm d).before a0 Z = true ∨ (Jvm.Cond.fieldLinkNest own index R0 nm d host).before a0 Z = true) (via : Via Z R0 O nm d)
    {v : Value} (F : Sta Z h O nm d v) {g : JFrame} (hg : g.method = m) (hd : decode c.code g.pc = .ok (.getstatic index, 3))
    (K : ∀ T', OwC p l e R s m args below meth c Z own EL sf n0 T' h k n → OwH p e below s Z EL n0 KK NN Q T' { g with pc := g.pc + 3, stack := v :: g.stack }) : OwH p e below s Z EL n0 KK NN Q T g := by
  obtain ⟨vm0, k0, L, X, eT, N, hS, hk0, hZ, hown, hC, hsf⟩ := P
  obtain ⟨T', X', e', st⟩ := RoadKit.getS2 X hx hZ hown w via eT F hg hd
  exact (K T' ⟨vm0, k0, L, X', e', N, hS, hk0, hZ, hown, hC, hsf⟩).go st
theorem OwC.putF (P : OwC p l e R s m args below meth c Z own EL sf n0 T h k n) (hx : p.tables.exec = Jvm.exec) {R0 O nm d host C : String} {index kk : Nat} {ty : FieldType} (w : (Jvm.Cond.fieldLink own index R0 nm d).before a0 Z = true ∨ (Jvm.Cond.fieldLinkNest own index R0 nm d host).before a0 Z = true) (via : Via Z R0 O nm d)
    {a : Addr} {v old : Value} (F : Fld Z h a O nm d old) (E : Exa Z h a C) (L : (Jvm.Cond.lays C O nm d).before a0 Z = true ∨ ((Jvm.Cond.laysFinal C O nm d).before a0 Z = true ∧ own = O ∧ meth.name = "<init>")) (wi : (Jvm.Cond.instantiable C kk).before a0 Z = true)
    (hty : parseFieldDescriptor d = some ty) (hn : narrow ty v = v) (hf : fits ty v = true) {g : JFrame} (hg : g.method = m) {rest : List Value} (hs : g.stack = v :: .ref a :: rest) (hd : decode c.code g.pc = .ok (.putfield index, 3)) (ha : n0 ≤ a) (hsa : a ∈ sf ∨ (C ≠ "java/lang/String" ∧ C ≠ "[B"))
    (K : ∀ T' h', OwC p l e R s m args below meth c Z own EL sf n0 T' h' k n → Wr h h' a (Jvm.RoadKit.slotOf Z O nm d) v → OwH p e below s Z EL n0 KK NN Q T' { g with pc := g.pc + 3, stack := rest }) : OwH p e below s Z EL n0 KK NN Q T g := by
  obtain ⟨vm0, k0, L0, X, eT, N, hS, hk0, hZ, hown, hC, hsf⟩ := P
  obtain ⟨T', h', X', e', W, st⟩ := RoadKit.putF X hx hZ hown w via eT F E L wi hty hn hf hg hs hd
  have S : Safe Z EL vm0 h a := hsa.elim (fun q => (hsf a q).2) (fun q => Safe.exa hZ.alike E q.1 q.2)
  exact (K T' h' ⟨vm0, k0, _, X', e', Fr.snoc X' N ha, hS, Nat.le_trans hk0 (Keep.of_wr W).1, hZ, hown, hC.trans (CHr.wr W S hC.1), fun x hx => ⟨Nat.lt_of_lt_of_le (hsf x hx).1 (Keep.of_wr W).1, Safe.wr W S hC.1 (hsf x hx).2⟩⟩ W).go st
theorem OwC.putFN (P : OwC p l e R s m args below meth c Z own EL sf n0 T h k n) (hx : p.tables.exec = Jvm.exec) {R0 O nm d C : String} {index kk : Nat} {ty : FieldType} (w : (Jvm.Cond.fieldLink own index R0 nm d).before a0 Z = true) (via : Via Z R0 O nm d)
    {a : Addr} {v v' old : Value} (F : Fld Z h a O nm d old) (E : Exa Z h a C) (L : (Jvm.Cond.lays C O nm d).before a0 Z = true ∨ ((Jvm.Cond.laysFinal C O nm d).before a0 Z = true ∧ own = O ∧ meth.name = "<init>")) (wi : (Jvm.Cond.instantiable C kk).before a0 Z = true)
    (hty : parseFieldDescriptor d = some ty) (hn : narrow ty v = v') (hf : fits ty v' = true) {g : JFrame} (hg : g.method = m) {rest : List Value} (hs : g.stack = v :: .ref a :: rest) (hd : decode c.code g.pc = .ok (.putfield index, 3)) (ha : n0 ≤ a) (hsa : a ∈ sf ∨ (C ≠ "java/lang/String" ∧ C ≠ "[B"))
    (K : ∀ T' h', OwC p l e R s m args below meth c Z own EL sf n0 T' h' k n → Wr h h' a (Jvm.RoadKit.slotOf Z O nm d) v' → OwH p e below s Z EL n0 KK NN Q T' { g with pc := g.pc + 3, stack := rest }) : OwH p e below s Z EL n0 KK NN Q T g := by
  obtain ⟨vm0, k0, L0, X, eT, N, hS, hk0, hZ, hown, hC, hsf⟩ := P
  obtain ⟨T', h', X', e', W, st⟩ := RoadKit.putFN X hx hZ hown w via eT F E L wi hty hn hf hg hs hd
  have S : Safe Z EL vm0 h a := hsa.elim (fun q => (hsf a q).2) (fun q => Safe.exa hZ.alike E q.1 q.2)
  exact (K T' h' ⟨vm0, k0, _, X', e', Fr.snoc X' N ha, hS, Nat.le_trans hk0 (Keep.of_wr W).1, hZ, hown, hC.trans (CHr.wr W S hC.1), fun x hx => ⟨Nat.lt_of_lt_of_le (hsf x hx).1 (Keep.of_wr W).1, Safe.wr W S hC.1 (hsf x hx).2⟩⟩ W).go st
theorem OwC.newO (P : OwC p l e R s m args below meth c Z own EL sf n0 T h k n) (hx : p.tables.exec = Jvm.exec) {C : String} {index nn : Nat} (w : (Jvm.Cond.classLink own index C).before a0 Z = true) (wi : (Jvm.Cond.instantiable C nn).before a0 Z = true) (wz : (Jvm.Cond.initialized C).before a0 Z = true)
    {g : JFrame} (hg : g.method = m) (hd : decode c.code g.pc = .ok (.new index, 3)) (hc : k + 1 ≤ R.cells) (hl : n + nn ≤ R.slots)
    (K : ∀ T' h' b, b = h.size → OwC p l e R s m args below meth c Z own EL (b :: sf) n0 T' h' (k + 1) (n + nn) → Ext h h' → Exa Z h' b C → (∀ {O nm d : String} {ty : FieldType}, Laid Z a0 C O nm d → parseFieldDescriptor d = some ty → Fld Z h' b O nm d (defaultValue ty)) → OwH p e below s Z EL n0 KK NN Q T' { g with pc := g.pc + 3, stack := .ref b :: g.stack }) : OwH p e below s Z EL n0 KK NN Q T g := by
  obtain ⟨vm0, k0, L, X, eT, N, hS, hk0, hZ, hown, hC, hsf⟩ := P
  obtain ⟨T', h', X', e', E, A, D, -, st⟩ := RoadKit.newO X hx hZ hown w wi wz eT hg hd hc hl
  refine (K T' h' _ rfl ⟨vm0, k0, L, X', e', N, hS, Nat.le_trans hk0 E.1, hZ, hown, hC.trans (CHr.ext E hC.1), fun x hx => ?_⟩ E A D).go st
  rcases List.mem_cons.mp hx with rfl | hx
  · exact ⟨A.lt, Safe.ext E hC.1 (Safe.new (Nat.le_refl _))⟩
  · exact ⟨Nat.lt_of_lt_of_le (hsf x hx).1 E.1, Safe.ext E hC.1 (hsf x hx).2⟩
theorem OwC.newP (P : OwC p l e R s m args below meth c Z own EL sf n0 T h k n) (hx : p.tables.exec = Jvm.exec) {aty : ArrayType} (w : (Jvm.Cond.arrayClass (newarray.typeOf aty)).before a0 Z = true) {g : JFrame} (hg : g.method = m) (hd : decode c.code g.pc = .ok (.newarray aty, 2)) {z : Int32} {rest : List Value} (hs : g.stack = .int z :: rest)
    (hn : ¬ z < 0) {cap : Nat} (hcap : z.toNatClampNeg ≤ cap) (hb : cap * 8 ≤ 536870912) (hc : k + 1 ≤ R.cells) (hl : n + cap ≤ R.slots)
    (K : ∀ T' h' b kA, b = h.size → OwC p l e R s m args below meth c Z own EL (b :: sf) n0 T' h' (k + 1) (n + cap) → Ext h h' → Arv Z h' b kA (newarray.typeOf aty) z [] (defaultValue (newarray.typeOf aty)) → OwH p e below s Z EL n0 KK NN Q T' { g with pc := g.pc + 2, stack := .ref b :: rest }) : OwH p e below s Z EL n0 KK NN Q T g := by
  obtain ⟨vm0, k0, L, X, eT, N, hS, hk0, hZ, hown, hC, hsf⟩ := P
  obtain ⟨T', h', kA, X', e', E, A, st⟩ := RoadKit.newP X hx hZ w eT hg hd hs hn hcap hb hc hl
  refine (K T' h' _ kA rfl ⟨vm0, k0, L, X', e', N, hS, Nat.le_trans hk0 E.1, hZ, hown, hC.trans (CHr.ext E hC.1), fun x hx => ?_⟩ E (Arv.new A hn)).go st
  rcases List.mem_cons.mp hx with rfl | hx
  · exact ⟨A.lt, Safe.ext E hC.1 (Safe.new (Nat.le_refl _))⟩
  · exact ⟨Nat.lt_of_lt_of_le (hsf x hx).1 E.1, Safe.ext E hC.1 (hsf x hx).2⟩
theorem OwC.initO (P : OwC p l e R s m args below meth c Z own EL sf n0 T h k n) (hx : p.tables.exec = Jvm.exec) {idx : Nat} (w1 : (Jvm.Cond.methodLink own idx Lib.objectInit).before a0 Z = true) (w2 : (Jvm.Cond.instanceMethod Lib.objectInit).before a0 Z = true)
    (w3 : (Jvm.Cond.code Lib.objectInit ⟨#[0xb1]⟩ 1 none).before a0 Z = true) {g : JFrame} (hg : g.method = m) (hsize : g.locals.size = c.maxLocals) {a : Addr} {rest : List Value} (hs : g.stack = .ref a :: rest) (hd : decode c.code g.pc = .ok (.invokespecial idx, 3))
    (hf : 1 ≤ R.frames) {W : Nat} (hW : 2 * g.monitorRoom + (rest.map fun v => v.category).sum ≤ W) (hl : W + 12 ≤ R.locals)
    (K : ∀ T', OwC p l e R s m args below meth c Z own EL sf n0 T' h k n → OwH p e below s Z EL n0 KK NN Q T' { g with pc := g.pc + 3, stack := rest }) : OwH p e below s Z EL n0 KK NN Q T g := by
  obtain ⟨vm0, k0, L, X, eT, N, hS, hk0, hZ, hown, hC, hsf⟩ := P
  obtain ⟨T', X', e', st⟩ := RoadKit.initO X hx hZ hown w1 w2 w3 eT hg hsize hs hd hf hW hl
  exact (K T' ⟨vm0, k0, L, X', e', N, hS, hk0, hZ, hown, hC, hsf⟩).go st
theorem OwC.stC (P : OwC p l e R s m args below meth c Z own EL sf n0 T h k n) (hx : p.tables.exec = Jvm.exec) {a : Addr} {kA : ClassId} {z j x : Int32} {vs : List Value} {dv : Value} (A : Arv Z h a kA .char z vs dv) (hj0 : ¬ j < 0) (hj1 : j < z) {i : Nat} (hi : j.toNatClampNeg = i) (hi' : i < vs.length) {g : JFrame} (hg : g.method = m) {rest : List Value} (hs : g.stack = .int x :: .int j :: .ref a :: rest) (hd : decode c.code g.pc = .ok (.castore, 1)) (ha : n0 ≤ a)
    (K : ∀ T' h', OwC p l e R s m args below meth c Z own EL sf n0 T' h' k n → Wr h h' a j.toNatClampNeg (.int (nar .char x)) → Arv Z h' a kA .char z (vs.set i (.int (nar .char x))) dv → OwH p e below s Z EL n0 KK NN Q T' { g with pc := g.pc + 1, stack := rest }) : OwH p e below s Z EL n0 KK NN Q T g := by
  obtain ⟨vm0, k0, L, X, eT, N, hS, hk0, hZ, hown, hC, hsf⟩ := P
  obtain ⟨cl, A1, q1, S1, M1, H1, U1⟩ := A
  obtain ⟨T', h', X', e', W, st⟩ := RoadKit.stC X hx hZ eT A1 (inb_of S1 ⟨hj0, hj1⟩) hg hs hd
  have S : Safe Z EL vm0 h a := Safe.arr hZ.alike A1 (by decide)
  exact (K T' h' ⟨vm0, k0, _, X', e', Fr.snoc X' N ha, hS, Nat.le_trans hk0 (Keep.of_wr W).1, hZ, hown, hC.trans (CHr.wr W S hC.1), fun x hx => ⟨Nat.lt_of_lt_of_le (hsf x hx).1 (Keep.of_wr W).1, Safe.wr W S hC.1 (hsf x hx).2⟩⟩ W (Arv.set A1 q1 S1 M1 H1 U1 (fits_nar_char _) W i hi hi')).go st
/-- behind a call of a callee that loads no constant -/
theorem OwC.after {vm0 : Vm} {k0 : Nat} {L Lc : List Loc} {T' : State} {h' : Heap} {c1 s1 : Nat} {ws : List Addr} (X' : Stand p l e R (s.setVm vm0) m args below meth c T' (L ++ Lc) (k + c1) (n + s1)) (e' : T'.heap = h') (N : Fr n0 L) (N' : Fr n0 Lc) (hS : s.Since vm0 k0) (hk0 : k0 ≤ h.size) (hZ : Z.Warmed39 vm0) (hown : vm0.findClass own = some m.cls) (hC : CHr Z EL s.vm s.heap vm0 h) (hsf : ∀ x ∈ sf, x < h.size ∧ Safe Z EL vm0 h x)
    (Kp : Keep h h' ws) (hws : ∀ x ∈ ws, x ∈ sf ∨ ∃ C, Exa Z h x C ∧ C ≠ "java/lang/String" ∧ C ≠ "[B") : OwC p l e R s m args below meth c Z own EL sf n0 T' h' (k + c1) (n + s1) := by
  have hs : ∀ x ∈ ws, Safe Z EL vm0 h x := fun x hx => (hws x hx).elim (fun q => (hsf x q).2) (fun ⟨C, E, q1, q2⟩ => Safe.exa hZ.alike E q1 q2)
  exact ⟨vm0, k0, _, X', e', Fr.app N N', hS, Nat.le_trans hk0 Kp.1, hZ, hown, hC.trans (CHr.keep Kp hs hC.1), fun x hx => ⟨Nat.lt_of_lt_of_le (hsf x hx).1 Kp.1, Safe.keep Kp hs hC.1 (hsf x hx).2⟩⟩
/-- behind a call of a callee that may have loaded some -/
theorem OwC.afterS {vm0 : Vm} {k0 : Nat} {L Lc : List Loc} {T' : State} {h' : Heap} {c1 s1 : Nat} (X' : Stand p l e R (s.setVm T'.vm) m args below meth c T' (L ++ Lc) (k + c1) (n + s1)) (e' : T'.heap = h') (N : Fr n0 L) (N' : Fr n0 Lc) (hS : s.Since vm0 k0) (hk0 : k0 ≤ h.size) (hZ : Z.Warmed39 vm0) (hown : vm0.findClass own = some m.cls) (hC : CHr Z EL s.vm s.heap vm0 h) (hsf : ∀ x ∈ sf, x < h.size ∧ Safe Z EL vm0 h x)
    (h2 : (s.setVm vm0).Since T'.vm T'.heap.size) (hgr : h.size ≤ T'.heap.size) (hC2 : CHr Z EL vm0 h T'.vm h') : OwC p l e R s m args below meth c Z own EL sf n0 T' h' (k + c1) (n + s1) := by
  subst e'
  exact ⟨T'.vm, _, _, X', rfl, Fr.app N N', hS.trans h2 (Nat.le_trans hk0 hgr), Nat.le_refl _, State.Warmed39.trans (t := s.setVm vm0) hZ h2.1, (h2.1.alike.findClass _ _).trans hown, hC.trans hC2, fun x hx => ⟨Nat.lt_of_lt_of_le (hsf x hx).1 hgr, hC2.safe (hsf x hx).1 (hsf x hx).2⟩⟩
theorem OwC.special (P : OwC p l e R s m args below meth c Z own EL sf n0 T h k n) (hx : p.tables.exec = Jvm.exec) {index : Nat} {y : MethodName} (hy1 : y.name = "<init>") (w1 : (Jvm.Cond.methodLink own index y).before a0 Z = true) (w2 : (Jvm.Cond.instanceMethod y).before a0 Z = true)
    {bytes : ByteArray} {maxL : Nat} (w3 : (Jvm.Cond.code y bytes maxL none).before a0 Z = true) (hy : y.cls ≠ "java/lang/invoke/MethodHandle" ∧ y.cls ≠ "java/lang/invoke/VarHandle")
    {W c1 s1 : Nat} {as' : Array Value} {Qc : Option Value → Heap → List Loc → Prop} (hK : ∀ vm0, Z.Warmed39 vm0 → Back l R p e below (s.setVm vm0) args y 3 W (fun A a => a = as' ∧ A.U.heap = h ∧ A.cells + c1 ≤ R.cells ∧ A.slots + s1 ≤ R.slots) (fun A _ v B => ∃ L, Qc v B.U.heap L ∧ B.locs = A.locs ++ L ∧ B.cells = A.cells + c1 ∧ B.slots = A.slots + s1))
    (hQ : ∀ v h L, Qc v h L → Fr n0 L) {ws : List Addr} (hKp : ∀ v h' L, Qc v h' L → Keep h h' ws) (hws : ∀ x ∈ ws, x ∈ sf ∨ ∃ C, Exa Z h x C ∧ C ≠ "java/lang/String" ∧ C ≠ "[B") {g : JFrame} (hg : g.method = m) (hsize : g.locals.size = c.maxLocals) {a : Addr} {argsL rest : List Value}
    (hlen : ∀ sig, parseMethodDescriptor y.desc = some sig → argsL.length = sig.parameters.length) (hstack : g.stack = argsL.reverse ++ .ref a :: rest) (hW : 2 * g.monitorRoom + (rest.map fun v => v.category).sum ≤ W)
    (hdg : decode c.code g.pc = .ok (.invokespecial index, 3)) (has : (Value.ref a :: argsL).toArray = as') (hc : k + c1 ≤ R.cells) (hl : n + s1 ≤ R.slots)
    (K : ∀ T' v L h', T'.heap = h' → OwC p l e R s m args below meth c Z own EL sf n0 T' h' (k + c1) (n + s1) → Qc v h' L → OwH p e below s Z EL n0 KK NN Q T' { g with pc := g.pc + 3, stack := v.toList ++ rest }) : OwH p e below s Z EL n0 KK NN Q T g := by
  obtain ⟨vm0, k0, L, X, eT, N, hS, hk0, hZ, hown, hC, hsf⟩ := P
  obtain ⟨v, _, ⟨T', L', k', n'⟩, -, X', ⟨Lc, hQc, l', y', z'⟩, st⟩ := X.specialBack hx hy1 hown (mvT (s := s.setVm vm0) hZ w1) (mvT (s := s.setVm vm0) hZ w2) (mvT (s := s.setVm vm0) hZ w3) hy (hK vm0 hZ) hg hsize (Steps.refl _) hlen hstack hW hdg (fun _ _ => ⟨has, eT, hc, hl⟩)
  dsimp only [Pt.U, Pt.locs, Pt.cells, Pt.slots] at X' l' y' z' st hQc
  subst l' y' z'
  exact (K T' v Lc _ rfl (OwC.after X' rfl N (hQ _ _ _ hQc) hS hk0 hZ hown hC hsf (hKp _ _ _ hQc) hws) hQc).go fun t kt => st.trans kt
theorem OwC.virtual (P : OwC p l e R s m args below meth c Z own EL sf n0 T h k n) (hx : p.tables.exec = Jvm.exec) {C : String} {index : Nat} {y z : MethodName} (w1 : (Jvm.Cond.methodLink own index y).before a0 Z = true) (w2 : (Jvm.Cond.declares y).before a0 Z = true) (nf : ∀ vm0, Z.Warmed39 vm0 → NotFace (s.setVm vm0) y)
    (w3 : (Jvm.Cond.selects C y z).before a0 Z = true) (w4 : (Jvm.Cond.instanceMethod z).before a0 Z = true) (hy : y.cls ≠ "java/lang/invoke/MethodHandle" ∧ y.cls ≠ "java/lang/invoke/VarHandle")
    {W c1 s1 : Nat} {as' : Array Value} {Qc : Option Value → Heap → List Loc → Prop} (hK : ∀ vm0, Z.Warmed39 vm0 → Back l R p e below (s.setVm vm0) args z 3 W (fun A a => a = as' ∧ A.U.heap = h ∧ A.cells + c1 ≤ R.cells ∧ A.slots + s1 ≤ R.slots) (fun A _ v B => ∃ L, Qc v B.U.heap L ∧ B.locs = A.locs ++ L ∧ B.cells = A.cells + c1 ∧ B.slots = A.slots + s1))
    (hQ : ∀ v h L, Qc v h L → Fr n0 L) {ws : List Addr} (hKp : ∀ v h' L, Qc v h' L → Keep h h' ws) (hws : ∀ x ∈ ws, x ∈ sf ∨ ∃ C, Exa Z h x C ∧ C ≠ "java/lang/String" ∧ C ≠ "[B") {b : Addr} (E : Exa Z h b C) {g : JFrame} (hg : g.method = m) (hsize : g.locals.size = c.maxLocals) {argsL rest : List Value}
    (hlen : ∀ sig, parseMethodDescriptor y.desc = some sig → argsL.length = sig.parameters.length) (hstack : g.stack = argsL.reverse ++ .ref b :: rest) (hW : 2 * g.monitorRoom + (rest.map fun v => v.category).sum ≤ W)
    (hdg : decode c.code g.pc = .ok (.invokevirtual index, 3)) (has : (Value.ref b :: argsL).toArray = as') (hc : k + c1 ≤ R.cells) (hl : n + s1 ≤ R.slots)
    (K : ∀ T' v L h', T'.heap = h' → OwC p l e R s m args below meth c Z own EL sf n0 T' h' (k + c1) (n + s1) → Qc v h' L → OwH p e below s Z EL n0 KK NN Q T' { g with pc := g.pc + 3, stack := v.toList ++ rest }) : OwH p e below s Z EL n0 KK NN Q T g := by
  obtain ⟨vm0, k0, L, X, eT, N, hS, hk0, hZ, hown, hC, hsf⟩ := P
  obtain ⟨cq, kq, qa, qb, qc⟩ := isOf (s := s.setVm vm0) hZ eT E
  obtain ⟨v, _, ⟨T', L', k', n'⟩, -, X', ⟨Lc, hQc, l', y', z'⟩, st⟩ := X.virtualBack hx hown (mvT (s := s.setVm vm0) hZ w1) (mvT (s := s.setVm vm0) hZ w2) (nf vm0 hZ) (mvT (s := s.setVm vm0) hZ w3) (mvT (s := s.setVm vm0) hZ w4) hy (hK vm0 hZ) qa qc hg hsize (Steps.refl _) hlen hstack hW hdg (fun _ _ => ⟨has, eT, hc, hl⟩)
  dsimp only [Pt.U, Pt.locs, Pt.cells, Pt.slots] at X' l' y' z' st hQc
  subst l' y' z'
  exact (K T' v Lc _ rfl (OwC.after X' rfl N (hQ _ _ _ hQc) hS hk0 hZ hown hC hsf (hKp _ _ _ hQc) hws) hQc).go fun t kt => st.trans kt
theorem OwC.stat (P : OwC p l e R s m args below meth c Z own EL sf n0 T h k n) (hx : p.tables.exec = Jvm.exec) {index : Nat} {y : MethodName} {bytes : ByteArray} {maxL : Nat} {ret : Option FieldType} (w1 : (Jvm.Cond.methodLink own index y).before a0 Z = true) (w2 : (Jvm.Cond.static y).before a0 Z = true) (w3 : (Jvm.Cond.initialized y.cls).before a0 Z = true)
    (w4 : (Jvm.Cond.code y bytes maxL ret).before a0 Z = true) (hy : y.cls ≠ "java/lang/invoke/MethodHandle" ∧ y.cls ≠ "java/lang/invoke/VarHandle")
    {W c1 s1 : Nat} {as' : Array Value} {Qc : Option Value → Heap → List Loc → Prop} (hK : ∀ vm0, Z.Warmed39 vm0 → Back l R p e below (s.setVm vm0) args y 3 W (fun A a => a = as' ∧ A.U.heap = h ∧ A.cells + c1 ≤ R.cells ∧ A.slots + s1 ≤ R.slots) (fun A _ v B => ∃ L, Qc v B.U.heap L ∧ B.locs = A.locs ++ L ∧ B.cells = A.cells + c1 ∧ B.slots = A.slots + s1))
    (hQ : ∀ v h L, Qc v h L → Fr n0 L) {ws : List Addr} (hKp : ∀ v h' L, Qc v h' L → Keep h h' ws) (hws : ∀ x ∈ ws, x ∈ sf ∨ ∃ C, Exa Z h x C ∧ C ≠ "java/lang/String" ∧ C ≠ "[B") {g : JFrame} (hg : g.method = m) (hsize : g.locals.size = c.maxLocals) {argsL rest : List Value}
    (hlen : ∀ sig, parseMethodDescriptor y.desc = some sig → argsL.length = sig.parameters.length) (hstack : g.stack = argsL.reverse ++ rest) (hW : 2 * g.monitorRoom + (rest.map fun v => v.category).sum ≤ W)
    (hdg : decode c.code g.pc = .ok (.invokestatic index, 3)) (has : argsL.toArray = as') (hc : k + c1 ≤ R.cells) (hl : n + s1 ≤ R.slots)
    (K : ∀ T' v L h', T'.heap = h' → OwC p l e R s m args below meth c Z own EL sf n0 T' h' (k + c1) (n + s1) → Qc v h' L → OwH p e below s Z EL n0 KK NN Q T' { g with pc := g.pc + 3, stack := v.toList ++ rest }) : OwH p e below s Z EL n0 KK NN Q T g := by
  obtain ⟨vm0, k0, L, X, eT, N, hS, hk0, hZ, hown, hC, hsf⟩ := P
  obtain ⟨v, _, ⟨T', L', k', n'⟩, -, X', ⟨Lc, hQc, l', y', z'⟩, st⟩ := Jvm.LawKit.callS X hx hown (mvT (s := s.setVm vm0) hZ w1) (mvT (s := s.setVm vm0) hZ w2) (mvT (s := s.setVm vm0) hZ w3) (mvT (s := s.setVm vm0) hZ w4) hy (hK vm0 hZ) hg hsize hlen hstack hW hdg (fun _ _ => ⟨has, eT, hc, hl⟩)
  dsimp only [Pt.U, Pt.locs, Pt.cells, Pt.slots] at X' l' y' z' st hQc
  subst l' y' z'
  exact (K T' v Lc _ rfl (OwC.after X' rfl N (hQ _ _ _ hQc) hS hk0 hZ hown hC hsf (hKp _ _ _ hQc) hws) hQc).go st
/-- a cold contract made a payer -/
theorem OwS.back {y : MethodName} {bytes : ByteArray} {maxL : Nat} {ret : Option FieldType} {rm : Room} {W : Nat} {as' : Array Value} {Qc : Option Value → Heap → Prop} {vm0 : Vm} (hM : OwS l Z EL sf y bytes maxL ret rm n0 as' h Qc)
    (hZ : Z.Warmed39 vm0) (wc : (Jvm.Cond.code y bytes maxL ret).before a0 Z = true) (wz : (Jvm.Cond.initialized y.cls).before a0 Z = true) (hf : rm.frames + 1 ≤ R.frames) (hl : W + (maxL + 11) + rm.locals ≤ R.locals) (hEL : EW Z a0 EL) (H : CHv Z EL vm0 h) (hsf : ∀ x ∈ sf, x < h.size ∧ Safe Z EL vm0 h x) :
    BackS l R p e below (s.setVm vm0) args y 3 W (fun A a => a = as' ∧ A.U.heap = h ∧ A.cells + rm.cells ≤ R.cells ∧ A.slots + rm.slots ≤ R.slots)
      (fun A _ v B => ∃ L, OwQ Qc n0 v B.U.heap L ∧ B.locs = A.locs ++ L ∧ B.cells = A.cells + rm.cells ∧ B.slots = A.slots + rm.slots ∧ CHr Z EL vm0 h B.U.vm B.U.heap) :=
  BackS.of_freeW (bytes := bytes) (maxL := maxL) (ret := ret) (E := fun _ first o t L k n => k = rm.cells ∧ n = rm.slots ∧ (∃ v, o = .returned v ∧ Qc v t.heap ∧ Fr n0 L) ∧ CHr Z EL first.vm first.heap t.vm t.heap) hM hf hl
    (fun m meth c A a Y hp => have hU : Z.Warmed39 A.U.vm := wtrans (s := s.setVm vm0) hZ Y.warmed
      ⟨by show (Cond.and _ .tt).before a A.U = true; rw [Cond.before_and, mv hU wc]; rfl, mv hU wc, mv hU wz, hp.2.2.1, hp.2.2.2⟩)
    (fun m meth c A a g mk Y hp => ⟨hp.1, wtrans (s := s.setVm vm0) hZ Y.warmed, hp.2.1, (CHv.at Y hZ hEL H).1, fun x hx => ⟨(hsf x hx).1, (CHv.at Y hZ hEL H).safe (hsf x hx).1 (hsf x hx).2⟩⟩) (fun _ _ _ _ _ _ _ _ _ => trivial)
    (fun _ _ _ _ ⟨v, L, h1, h2, h3, h4⟩ => ⟨L, _, _, h4, rfl, rfl, ⟨v, h1, h2⟩, h3⟩)
    (fun m meth c A a g mk v t L k n Y hp _ _ ⟨e1, e2, ⟨v', e3, e4⟩, e5⟩ => by
      cases e3; subst e1 e2
      refine ⟨L, e4, rfl, rfl, rfl, (CHv.at Y hZ hEL H).trans ?_⟩
      rw [← hp.2.1]; exact e5)
theorem OwC.specialS (P : OwC p l e R s m args below meth c Z own EL sf n0 T h k n) (hx : p.tables.exec = Jvm.exec) {index : Nat} {y : MethodName} (hy1 : y.name = "<init>") (w1 : (Jvm.Cond.methodLink own index y).before a0 Z = true) (w2 : (Jvm.Cond.instanceMethod y).before a0 Z = true)
    {bytes : ByteArray} {maxL : Nat} (w3 : (Jvm.Cond.code y bytes maxL none).before a0 Z = true) (hy : y.cls ≠ "java/lang/invoke/MethodHandle" ∧ y.cls ≠ "java/lang/invoke/VarHandle")
    {W c1 s1 : Nat} {as' : Array Value} {Qc : Option Value → Heap → List Loc → Prop} {sf' : List Addr} (hK : ∀ vm0, Z.Warmed39 vm0 → CHv Z EL vm0 h → (∀ x ∈ sf', x < h.size ∧ Safe Z EL vm0 h x) → BackS l R p e below (s.setVm vm0) args y 3 W (fun A a => a = as' ∧ A.U.heap = h ∧ A.cells + c1 ≤ R.cells ∧ A.slots + s1 ≤ R.slots) (fun A _ v B => ∃ L, Qc v B.U.heap L ∧ B.locs = A.locs ++ L ∧ B.cells = A.cells + c1 ∧ B.slots = A.slots + s1 ∧ CHr Z EL vm0 h B.U.vm B.U.heap))
    (hQ : ∀ v h L, Qc v h L → Fr n0 L) (hsf' : ∀ x ∈ sf', x ∈ sf) {g : JFrame} (hg : g.method = m) (hsize : g.locals.size = c.maxLocals) {a : Addr} {argsL rest : List Value}
    (hlen : ∀ sig, parseMethodDescriptor y.desc = some sig → argsL.length = sig.parameters.length) (hstack : g.stack = argsL.reverse ++ .ref a :: rest) (hW : 2 * g.monitorRoom + (rest.map fun v => v.category).sum ≤ W)
    (hdg : decode c.code g.pc = .ok (.invokespecial index, 3)) (has : (Value.ref a :: argsL).toArray = as') (hc : k + c1 ≤ R.cells) (hl : n + s1 ≤ R.slots)
    (K : ∀ T' v L h', T'.heap = h' → OwC p l e R s m args below meth c Z own EL sf n0 T' h' (k + c1) (n + s1) → Qc v h' L → OwH p e below s Z EL n0 KK NN Q T' { g with pc := g.pc + 3, stack := v.toList ++ rest }) : OwH p e below s Z EL n0 KK NN Q T g := by
  obtain ⟨vm0, k0, L, X, eT, N, hS, hk0, hZ, hown, hC, hsf⟩ := P
  obtain ⟨v, _, ⟨T', L', k', n'⟩, -, X', h2, hgr, ⟨Lc, hQc, l', y', z', hC2⟩, st⟩ := X.specialBackS hx hy1 hown (mvT (s := s.setVm vm0) hZ w1) (mvT (s := s.setVm vm0) hZ w2) (mvT (s := s.setVm vm0) hZ w3) hy (hK vm0 hZ hC.1 fun x hx => hsf x (hsf' x hx)) hg hsize (Steps.refl _) hlen hstack hW hdg (fun _ _ => ⟨has, eT, hc, hl⟩)
  dsimp only [Pt.U, Pt.locs, Pt.cells, Pt.slots] at X' l' y' z' st hQc hC2 h2 hgr
  subst l' y' z'
  exact (K T' v Lc _ rfl (OwC.afterS X' rfl N (hQ _ _ _ hQc) hS hk0 hZ hown hC hsf h2 (by rw [← eT]; exact hgr) hC2) hQc).go fun t kt => st.trans kt
theorem OwC.statS (P : OwC p l e R s m args below meth c Z own EL sf n0 T h k n) (hx : p.tables.exec = Jvm.exec) {index : Nat} {y : MethodName} {bytes : ByteArray} {maxL : Nat} {ret : Option FieldType} (w1 : (Jvm.Cond.methodLink own index y).before a0 Z = true) (w2 : (Jvm.Cond.static y).before a0 Z = true) (w3 : (Jvm.Cond.initialized y.cls).before a0 Z = true)
    (w4 : (Jvm.Cond.code y bytes maxL ret).before a0 Z = true) (hy : y.cls ≠ "java/lang/invoke/MethodHandle" ∧ y.cls ≠ "java/lang/invoke/VarHandle")
    {W c1 s1 : Nat} {as' : Array Value} {Qc : Option Value → Heap → List Loc → Prop} {sf' : List Addr} (hK : ∀ vm0, Z.Warmed39 vm0 → CHv Z EL vm0 h → (∀ x ∈ sf', x < h.size ∧ Safe Z EL vm0 h x) → BackS l R p e below (s.setVm vm0) args y 3 W (fun A a => a = as' ∧ A.U.heap = h ∧ A.cells + c1 ≤ R.cells ∧ A.slots + s1 ≤ R.slots) (fun A _ v B => ∃ L, Qc v B.U.heap L ∧ B.locs = A.locs ++ L ∧ B.cells = A.cells + c1 ∧ B.slots = A.slots + s1 ∧ CHr Z EL vm0 h B.U.vm B.U.heap))
    (hQ : ∀ v h L, Qc v h L → Fr n0 L) (hsf' : ∀ x ∈ sf', x ∈ sf) {g : JFrame} (hg : g.method = m) (hsize : g.locals.size = c.maxLocals) {argsL rest : List Value}
    (hlen : ∀ sig, parseMethodDescriptor y.desc = some sig → argsL.length = sig.parameters.length) (hstack : g.stack = argsL.reverse ++ rest) (hW : 2 * g.monitorRoom + (rest.map fun v => v.category).sum ≤ W)
    (hdg : decode c.code g.pc = .ok (.invokestatic index, 3)) (has : argsL.toArray = as') (hc : k + c1 ≤ R.cells) (hl : n + s1 ≤ R.slots)
    (K : ∀ T' v L h', T'.heap = h' → OwC p l e R s m args below meth c Z own EL sf n0 T' h' (k + c1) (n + s1) → Qc v h' L → OwH p e below s Z EL n0 KK NN Q T' { g with pc := g.pc + 3, stack := v.toList ++ rest }) : OwH p e below s Z EL n0 KK NN Q T g := by
  obtain ⟨vm0, k0, L, X, eT, N, hS, hk0, hZ, hown, hC, hsf⟩ := P
  obtain ⟨v, _, ⟨T', L', k', n'⟩, -, X', h2, hgr, ⟨Lc, hQc, l', y', z', hC2⟩, st⟩ := Jvm.RoadKit.callSS X hx hown (mvT (s := s.setVm vm0) hZ w1) (mvT (s := s.setVm vm0) hZ w2) (mvT (s := s.setVm vm0) hZ w3) (mvT (s := s.setVm vm0) hZ w4) hy (hK vm0 hZ hC.1 fun x hx => hsf x (hsf' x hx)) hg hsize hlen hstack hW hdg (fun _ _ => ⟨has, eT, hc, hl⟩)
  dsimp only [Pt.U, Pt.locs, Pt.cells, Pt.slots] at X' l' y' z' st hQc hC2 h2 hgr
  subst l' y' z'
  exact (K T' v Lc _ rfl (OwC.afterS X' rfl N (hQ _ _ _ hQc) hS hk0 hZ hown hC hsf h2 (by rw [← eT]; exact hgr) hC2) hQc).go fun t kt => st.trans kt
/-- ldc of a String constant, read -/
theorem OwC.ldcR (P : OwC p l e R s m args below meth c Z own EL sf n0 T h k n) (hx : p.tables.exec = Jvm.exec) (hEL : EW Z a0 EL) {text : String} {index : Nat} (hmem : (own, index) ∈ EL) (w : (Jvm.Cond.stringLink own index text).before a0 Z = true) (wS : ∀ a ∈ Bundle.stringAtoms, a.before a0 Z = true)
    {vs : List Value} {z : Int32} (ht : (∀ c ∈ text.toList, c.toNat < 256) ∧ text.toList.map (fun c => Value.int (Jvm.Lit.byteI c.toNat.toUInt16)) = vs) (hz : ¬ z < 0) (hlz : z.toNatClampNeg = vs.length)
    {g : JFrame} (hg : g.method = m) (hd : decode c.code g.pc = .ok (.ldc index, 2)) {nn : Nat} (hn : 4 * text.toList.length ≤ nn) (hbig : nn ≤ 536870912) (hc : k + 2 ≤ R.cells) (hl' : n + (nn + 4) ≤ R.slots)
    (K : ∀ T' h' a b kb, OwC p l e R s m args below meth c Z own EL sf n0 T' h' (k + 2) (n + (nn + 4)) → Ext h h' → Exa Z h' a "java/lang/String" → Fld Z h' a "java/lang/String" "coder" "B" (.int 0) → Fld Z h' a "java/lang/String" "value" "[B" (.ref b) → Arv Z h' b kb .byte z vs (.int 0) → (∀ x ∈ sf, x ≠ a ∧ x ≠ b) → OwH p e below s Z EL n0 KK NN Q T' { g with pc := g.pc + 2, stack := .ref a :: g.stack }) : OwH p e below s Z EL n0 KK NN Q T g := by
  obtain ⟨vm0, k0, L, X, eT, N, hS, hk0, hZ, hown, hC, hsf⟩ := P
  obtain ⟨a, T', h', k1, b, kb, X', e', E, hS', hk', hZ', hown', f1, f2, f3, f4, -, -, hC2, -, hne, st⟩ := ldcCH X hx hZ hown w wS eT hS hk0 hEL hmem hC.1 ht hz hlz hg hd hn hbig hc hl'
  exact (K T' h' a b kb ⟨T'.vm, k1, L, X', e', N, hS', hk', hZ', hown', hC.trans hC2, fun x hx => ⟨Nat.lt_of_lt_of_le (hsf x hx).1 E.1, hC2.safe (hsf x hx).1 (hsf x hx).2⟩⟩ E f1 f2 f3 f4 fun x hx => hne x (hC2.safe (hsf x hx).1 (hsf x hx).2)).go st
end Own2
end Jvm.Pilot.@@N@@
namespace Jvm.Pilot.@@N@@
open Jvm Jvm.ClassFile Sem Op Lib Jvm.Free Jvm.Stand Jvm.LawKit Jvm.RoadKit Bundle Jvm.Pilot.@@N@@.Jvm.D
section Own5
variable {p : Program} {l : Launch} {e : Env} {R : Room} {s : State} {m : MethodId} {args : Array Value} {below : List Frame} {meth : Method} {c : Code} {T : State} {k n : Nat} {Z : State} {a0 : Array Value} {h : Heap} {n0 KK NN : Nat} {Q : Option Value → Heap → Prop}
theorem own_stretch {vs : List Value} {dv : Value} {sp nn : Nat} (h : sp + nn ≤ vs.length) : (vs.drop sp).take nn = (List.range nn).map fun i => vs.getD (sp + i) dv := by
  apply List.ext_getElem
  · simp; omega
  · intro i h1 h2
    have h3 : sp + i < vs.length := by simp at h1; omega
    simp [List.getD_eq_getElem?_getD, h3]
theorem own_acw : nativeFrameWords "java/lang/System" "arraycopy" 5 = 7 := by decide +kernel
/-- System.arraycopy between byte arrays -/
theorem OwP.cpN (P : OwP p l e R s m args below meth c n0 T h k n) (hx : p.tables.exec = Jvm.exec) (hZ : Z.Warmed39 s.vm) {own : String} {index : Nat} (hown : s.vm.findClass own = some m.cls)
    (w1 : (Jvm.Cond.methodLink own index Jvm.Stand.acN).before a0 Z = true) (w2 : (Jvm.Cond.native Jvm.Stand.acN).before a0 Z = true) (w3 : (Jvm.Cond.static Jvm.Stand.acN).before a0 Z = true) (w4 : (Jvm.Cond.initialized "java/lang/System").before a0 Z = true)
    {a b : Addr} {ka kb : ClassId} {N M sp dp nn : Nat} {vs vd r : List Value} {dv dd : Value} (A : Arv Z h a ka .byte (Int32.ofNat N) vs dv) (B : Arv Z h b kb .byte (Int32.ofNat M) vd dd) (hN : N < 2 ^ 31) (hM : M < 2 ^ 31) (lN : vs.length = N) (lM : vd.length = M) (h4 : sp + nn ≤ N) (h5 : dp + nn ≤ M)
    (hr : vd.take dp ++ (vs.drop sp).take nn ++ vd.drop (dp + nn) = r) (ge : n0 ≤ b)
    {g : JFrame} (hg : g.method = m) (hsize : g.locals.size = c.maxLocals) {rest : List Value} (hs : g.stack = .int (Int32.ofNat nn) :: .int (Int32.ofNat dp) :: .ref b :: .int (Int32.ofNat sp) :: .ref a :: rest) (hd : decode c.code g.pc = .ok (.invokestatic index, 3))
    (hf : 1 ≤ R.frames) {W : Nat} (hW : 2 * g.monitorRoom + (rest.map fun v => v.category).sum ≤ W) (hlo : W + 18 ≤ R.locals)
    (K : ∀ T' h', OwP p l e R s m args below meth c n0 T' h' k n → Keep h h' [b] → Arv Z h' b kb .byte (Int32.ofNat M) r dd → OwG p e below s n0 KK NN Q T' { g with pc := g.pc + 3, stack := rest }) : OwG p e below s n0 KK NN Q T g := by
  obtain ⟨L, X, eT, N0⟩ := P
  have tc : ∀ {i : Nat}, i < 2 ^ 31 → (Int32.ofNat i).toNatClampNeg = i := fun q => Int32.toNatClampNeg_ofNat_of_lt q
  have ng : ∀ {i : Nat}, i < 2 ^ 31 → ¬ Int32.ofNat i < 0 := fun {i} q => by
    rw [Int32.lt_iff_toInt_lt, Int32.toInt_ofNat_of_lt q, show (0 : Int32).toInt = 0 from rfl]; omega
  have t1 := tc (i := sp) (by omega)
  have t2 := tc (i := dp) (by omega)
  have t3 := tc (i := nn) (by omega)
  obtain ⟨T', h', L', X', e', N', Kp, B', st⟩ := Jvm.RoadKit.cpA (us := (vs.drop sp).take nn) X hx hZ hown w1 w2 w3 w4 eT A B (Or.inl ⟨rfl, rfl⟩) (ng (by omega)) (ng (by omega)) (ng (by omega)) (by rw [t1, t3, tc hN]; exact h4) (by rw [t2, t3, tc hM]; exact h5) (by rw [t1, t3]; exact own_stretch (by omega)) (by rw [t2, t3]; omega) N0 ge hg hsize hs hd hf hW (by rw [own_acw]; exact hlo)
  rw [t2, t3, hr] at B'
  exact (K T' h' ⟨L', X', e', N'⟩ Kp B').go st
theorem own_nx {a t t2 N : Nat} (l : a < N) (h : a ≠ t) (q : t2 = t ∨ N ≤ t2) : a ≠ t2 := q.elim (fun q => by rw [q]; exact h) (fun q => Nat.ne_of_lt (Nat.lt_of_lt_of_le l q))
end Own5
end Jvm.Pilot.@@N@@
namespace Jvm.Pilot.@@N@@
open Jvm Jvm.ClassFile Sem Op Lib Jvm.Free Jvm.Stand Jvm.LawKit Jvm.RoadKit Bundle Jvm.Pilot.@@N@@.Jvm.D
section Own6
variable {p : Program} {l : Launch} {e : Env} {R : Room} {s : State} {m : MethodId} {args : Array Value} {below : List Frame} {meth : Method} {c : Code} {T : State} {k n : Nat} {Z : State} {a0 : Array Value} {h : Heap} {n0 KK NN : Nat} {Q : Option Value → Heap → Prop} {EL : List (String × Nat)} {sf : List Addr} {own : String}
theorem OwC.afterF {sf2 : List Addr} {vm0 : Vm} {k0 : Nat} {L Lc : List Loc} {T' : State} {h' : Heap} {c1 s1 : Nat} {ws : List Addr} (X' : Stand p l e R (s.setVm vm0) m args below meth c T' (L ++ Lc) (k + c1) (n + s1)) (e' : T'.heap = h') (N : Fr n0 L) (N' : Fr n0 Lc) (hS : s.Since vm0 k0) (hk0 : k0 ≤ h.size) (hZ : Z.Warmed39 vm0) (hown : vm0.findClass own = some m.cls) (hC : CHr Z EL s.vm s.heap vm0 h) (hsf : ∀ x ∈ sf, x < h.size ∧ Safe Z EL vm0 h x)
    (Kp : Keep h h' ws) (hws : ∀ x ∈ ws, x ∈ sf ∨ ∃ C, Exa Z h x C ∧ C ≠ "java/lang/String" ∧ C ≠ "[B") (h2 : ∀ x ∈ sf2, x ∈ sf ∨ (h.size ≤ x ∧ x < h'.size)) : OwC p l e R s m args below meth c Z own EL sf2 n0 T' h' (k + c1) (n + s1) := by
  have hs : ∀ x ∈ ws, Safe Z EL vm0 h x := fun x hx => (hws x hx).elim (fun q => (hsf x q).2) (fun ⟨C, E, q1, q2⟩ => Safe.exa hZ.alike E q1 q2)
  exact ⟨vm0, k0, _, X', e', Fr.app N N', hS, Nat.le_trans hk0 Kp.1, hZ, hown, hC.trans (CHr.keep Kp hs hC.1), fun x hx => (h2 x hx).elim (fun q => ⟨Nat.lt_of_lt_of_le (hsf x q).1 Kp.1, Safe.keep Kp hs hC.1 (hsf x q).2⟩) (fun q => ⟨q.2, Safe.keep Kp hs hC.1 (Safe.new q.1)⟩)⟩
theorem OwC.specialF (P : OwC p l e R s m args below meth c Z own EL sf n0 T h k n) (hx : p.tables.exec = Jvm.exec) {index : Nat} {y : MethodName} (hy1 : y.name = "<init>") (w1 : (Jvm.Cond.methodLink own index y).before a0 Z = true) (w2 : (Jvm.Cond.instanceMethod y).before a0 Z = true)
    {bytes : ByteArray} {maxL : Nat} (w3 : (Jvm.Cond.code y bytes maxL none).before a0 Z = true) (hy : y.cls ≠ "java/lang/invoke/MethodHandle" ∧ y.cls ≠ "java/lang/invoke/VarHandle")
    {W c1 s1 : Nat} {as' : Array Value} {Qc : Option Value → Heap → List Loc → Prop} (hK : ∀ vm0, Z.Warmed39 vm0 → Back l R p e below (s.setVm vm0) args y 3 W (fun A a => a = as' ∧ A.U.heap = h ∧ A.cells + c1 ≤ R.cells ∧ A.slots + s1 ≤ R.slots) (fun A _ v B => ∃ L, Qc v B.U.heap L ∧ B.locs = A.locs ++ L ∧ B.cells = A.cells + c1 ∧ B.slots = A.slots + s1))
    (hQ : ∀ v h L, Qc v h L → Fr n0 L) {ws : List Addr} (hKp : ∀ v h' L, Qc v h' L → Keep h h' ws) (hws : ∀ x ∈ ws, x ∈ sf ∨ ∃ C, Exa Z h x C ∧ C ≠ "java/lang/String" ∧ C ≠ "[B") {g : JFrame} (hg : g.method = m) (hsize : g.locals.size = c.maxLocals) {a : Addr} {argsL rest : List Value}
    (hlen : ∀ sig, parseMethodDescriptor y.desc = some sig → argsL.length = sig.parameters.length) (hstack : g.stack = argsL.reverse ++ .ref a :: rest) (hW : 2 * g.monitorRoom + (rest.map fun v => v.category).sum ≤ W)
    (hdg : decode c.code g.pc = .ok (.invokespecial index, 3)) (has : (Value.ref a :: argsL).toArray = as') (hc : k + c1 ≤ R.cells) (hl : n + s1 ≤ R.slots)
    (K : ∀ T' v L h', T'.heap = h' → (∀ sf2 : List Addr, (∀ x ∈ sf2, x ∈ sf ∨ (h.size ≤ x ∧ x < h'.size)) → OwC p l e R s m args below meth c Z own EL sf2 n0 T' h' (k + c1) (n + s1)) → Qc v h' L → OwH p e below s Z EL n0 KK NN Q T' { g with pc := g.pc + 3, stack := v.toList ++ rest }) : OwH p e below s Z EL n0 KK NN Q T g := by
  obtain ⟨vm0, k0, L, X, eT, N, hS, hk0, hZ, hown, hC, hsf⟩ := P
  obtain ⟨v, _, ⟨T', L', k', n'⟩, -, X', ⟨Lc, hQc, l', y', z'⟩, st⟩ := X.specialBack hx hy1 hown (mvT (s := s.setVm vm0) hZ w1) (mvT (s := s.setVm vm0) hZ w2) (mvT (s := s.setVm vm0) hZ w3) hy (hK vm0 hZ) hg hsize (Steps.refl _) hlen hstack hW hdg (fun _ _ => ⟨has, eT, hc, hl⟩)
  dsimp only [Pt.U, Pt.locs, Pt.cells, Pt.slots] at X' l' y' z' st hQc
  subst l' y' z'
  exact (K T' v Lc _ rfl (fun sf2 h2 => OwC.afterF X' rfl N (hQ _ _ _ hQc) hS hk0 hZ hown hC hsf (hKp _ _ _ hQc) hws h2) hQc).go fun t kt => st.trans kt
theorem OwC.virtualF (P : OwC p l e R s m args below meth c Z own EL sf n0 T h k n) (hx : p.tables.exec = Jvm.exec) {C : String} {index : Nat} {y z : MethodName} (w1 : (Jvm.Cond.methodLink own index y).before a0 Z = true) (w2 : (Jvm.Cond.declares y).before a0 Z = true) (nf : ∀ vm0, Z.Warmed39 vm0 → NotFace (s.setVm vm0) y)
    (w3 : (Jvm.Cond.selects C y z).before a0 Z = true) (w4 : (Jvm.Cond.instanceMethod z).before a0 Z = true) (hy : y.cls ≠ "java/lang/invoke/MethodHandle" ∧ y.cls ≠ "java/lang/invoke/VarHandle")
    {W c1 s1 : Nat} {as' : Array Value} {Qc : Option Value → Heap → List Loc → Prop} (hK : ∀ vm0, Z.Warmed39 vm0 → Back l R p e below (s.setVm vm0) args z 3 W (fun A a => a = as' ∧ A.U.heap = h ∧ A.cells + c1 ≤ R.cells ∧ A.slots + s1 ≤ R.slots) (fun A _ v B => ∃ L, Qc v B.U.heap L ∧ B.locs = A.locs ++ L ∧ B.cells = A.cells + c1 ∧ B.slots = A.slots + s1))
    (hQ : ∀ v h L, Qc v h L → Fr n0 L) {ws : List Addr} (hKp : ∀ v h' L, Qc v h' L → Keep h h' ws) (hws : ∀ x ∈ ws, x ∈ sf ∨ ∃ C, Exa Z h x C ∧ C ≠ "java/lang/String" ∧ C ≠ "[B") {b : Addr} (E : Exa Z h b C) {g : JFrame} (hg : g.method = m) (hsize : g.locals.size = c.maxLocals) {argsL rest : List Value}
    (hlen : ∀ sig, parseMethodDescriptor y.desc = some sig → argsL.length = sig.parameters.length) (hstack : g.stack = argsL.reverse ++ .ref b :: rest) (hW : 2 * g.monitorRoom + (rest.map fun v => v.category).sum ≤ W)
    (hdg : decode c.code g.pc = .ok (.invokevirtual index, 3)) (has : (Value.ref b :: argsL).toArray = as') (hc : k + c1 ≤ R.cells) (hl : n + s1 ≤ R.slots)
    (K : ∀ T' v L h', T'.heap = h' → (∀ sf2 : List Addr, (∀ x ∈ sf2, x ∈ sf ∨ (h.size ≤ x ∧ x < h'.size)) → OwC p l e R s m args below meth c Z own EL sf2 n0 T' h' (k + c1) (n + s1)) → Qc v h' L → OwH p e below s Z EL n0 KK NN Q T' { g with pc := g.pc + 3, stack := v.toList ++ rest }) : OwH p e below s Z EL n0 KK NN Q T g := by
  obtain ⟨vm0, k0, L, X, eT, N, hS, hk0, hZ, hown, hC, hsf⟩ := P
  obtain ⟨cq, kq, qa, qb, qc⟩ := isOf (s := s.setVm vm0) hZ eT E
  obtain ⟨v, _, ⟨T', L', k', n'⟩, -, X', ⟨Lc, hQc, l', y', z'⟩, st⟩ := X.virtualBack hx hown (mvT (s := s.setVm vm0) hZ w1) (mvT (s := s.setVm vm0) hZ w2) (nf vm0 hZ) (mvT (s := s.setVm vm0) hZ w3) (mvT (s := s.setVm vm0) hZ w4) hy (hK vm0 hZ) qa qc hg hsize (Steps.refl _) hlen hstack hW hdg (fun _ _ => ⟨has, eT, hc, hl⟩)
  dsimp only [Pt.U, Pt.locs, Pt.cells, Pt.slots] at X' l' y' z' st hQc
  subst l' y' z'
  exact (K T' v Lc _ rfl (fun sf2 h2 => OwC.afterF X' rfl N (hQ _ _ _ hQc) hS hk0 hZ hown hC hsf (hKp _ _ _ hQc) hws h2) hQc).go fun t kt => st.trans kt
end Own6
end Jvm.Pilot.@@N@@
namespace Jvm.Pilot.@@N@@
open Jvm Jvm.ClassFile Sem Op Lib Jvm.Free Jvm.Stand Jvm.LawKit Jvm.RoadKit Bundle Jvm.Pilot.@@N@@.Jvm.D
theorem own_w {Z : State} {a0 : Array Value} (hw : ∀ d ∈ tables_1, d.before a0 Z = true) (i : Nat) {d : Jvm.Cond} (h : tables_1[i]? = some d) : d.before a0 Z = true := hw d (List.mem_of_getElem? h)
def own_EL : List (String × Nat) := [("java/lang/String", 7), ("com/example/background_task_queue/backgroundtaskqueue/NameRule", 134), ("com/example/background_task_queue/backgroundtaskqueue/NameRule", 140), ("com/example/background_task_queue/backgroundtaskqueue/NameRule", 142)]
theorem own_EW {Z : State} {a0 : Array Value} (hw : ∀ d ∈ tables_1, d.before a0 Z = true) : EW Z a0 own_EL := (EW.cons (text := "") (own_w hw 14 rfl) (by decide) (EW.cons (text := "\"") (own_w hw 55 rfl) (by decide) (EW.cons (text := "...\" (") (own_w hw 207 rfl) (by decide) (EW.cons (text := " characters)") (own_w hw 227 rfl) (by decide) EW.nil))))
theorem own_wS {Z : State} {a0 : Array Value} (hw : ∀ d ∈ tables_1, d.before a0 Z = true) : ∀ a ∈ Bundle.stringAtoms, a.before a0 Z = true := fun a ha => hw a ((by decide +kernel : ∀ d ∈ Bundle.stringAtoms, d ∈ tables_1) a ha)
open StrChars in
theorem own_shl1 {i : Nat} (h : 2 * i < 2 ^ 31) : Int32.ofNat i <<< ((1 : Int32) &&& 31) = Int32.ofNat (2 * i) := by
  rw [shlm (m := 2) (by decide), Nat.mul_comm, Int32.ofNat_mul]; rfl
theorem own_irr (x : Int32) : ¬ x < x := Int32.lt_irrefl
theorem own_succ (i : Nat) : Int32.ofNat i + (1 : Int32) = Int32.ofNat (i + 1) := by rw [Int32.ofNat_add]; rfl
theorem own_ti {i : Nat} (h : i < 2 ^ 31) : (Int32.ofNat i).toInt = i := Int32.toInt_ofNat_of_lt h
theorem own_tc {i : Nat} (h : i < 2 ^ 31) : (Int32.ofNat i).toNatClampNeg = i := Int32.toNatClampNeg_ofNat_of_lt h
theorem own_nn {i : Nat} (h : i < 2 ^ 31) : ¬ Int32.ofNat i < 0 := by
  rw [Int32.lt_iff_toInt_lt, own_ti h, show (0 : Int32).toInt = 0 from rfl]; omega
theorem own_lt {i n : Nat} (h : i < n) (hn : n < 2 ^ 31) : Int32.ofNat i < Int32.ofNat n := by
  rw [Int32.lt_iff_toInt_lt, own_ti (by omega), own_ti hn]; omega
theorem own_nlt {i n : Nat} (h : n ≤ i) (hn : i < 2 ^ 31) : ¬ Int32.ofNat i < Int32.ofNat n := by
  rw [Int32.lt_iff_toInt_lt, own_ti (by omega), own_ti (by omega)]; omega
theorem own_ne32 {i n : Nat} (h : i ≠ n) (hi : i < 2 ^ 31) (hn : n < 2 ^ 31) : ¬ Int32.ofNat i = Int32.ofNat n := fun q => h (by
  have r := congrArg Int32.toInt q
  rw [own_ti hi, own_ti hn] at r; omega)
theorem own_narc {c : Int32} (h0 : ¬ c < 0) (h1 : ¬ (65535 : Int32) < c) : nar .char c = c := by
  apply Int32.toInt_inj.mp
  have q := c_i2c c
  rw [Int32.lt_iff_toInt_lt] at h0 h1
  have e0 : (0 : Int32).toInt = 0 := rfl
  have e1 : (65535 : Int32).toInt = 65535 := rfl
  show (c.toUInt32.toUInt16.toUInt32.toInt32).toInt = _
  omega
theorem own_char (c : Int32) : ¬ nar .char c < 0 ∧ ¬ (65535 : Int32) < nar .char c := by
  have q := c_i2c c
  rw [Int32.lt_iff_toInt_lt, Int32.lt_iff_toInt_lt]
  have e0 : (0 : Int32).toInt = 0 := rfl
  have e1 : (65535 : Int32).toInt = 65535 := rfl
  show ¬ (c.toUInt32.toUInt16.toUInt32.toInt32).toInt < _ ∧ ¬ _ < (c.toUInt32.toUInt16.toUInt32.toInt32).toInt
  omega
theorem own_chat {cs : List Int32} {d : Value} {i : Nat} (h : i < cs.length) (hb : i < 2 ^ 31) : (cs.map Value.int).getD (Int32.ofNat i).toNatClampNeg d = .int (cs.getD i 0) := by
  rw [own_tc hb]; simp [List.getD_eq_getElem?_getD, h]
/-- the first i chars as wide bytes, zeros behind -/
def own_wb (cs : List Int32) (n i : Nat) : List Value := StrChars.Road.wideBytes (cs.take i) ++ List.replicate (2 * (n - i)) (.int 0)
theorem own_wlen (cs : List Int32) : (StrChars.Road.wideBytes cs).length = 2 * cs.length := by
  induction cs with
  | nil => rfl
  | cons c cs ih => simp [StrChars.Road.wideBytes, ih]; omega
theorem own_wapp (cs ds : List Int32) : StrChars.Road.wideBytes (cs ++ ds) = StrChars.Road.wideBytes cs ++ StrChars.Road.wideBytes ds := by
  induction cs with
  | nil => rfl
  | cons c cs ih => simp [StrChars.Road.wideBytes, ih]
theorem own_wb_len {cs : List Int32} {n i : Nat} (hn : cs.length = n) (hi : i ≤ n) : (own_wb cs n i).length = 2 * n := by
  simp [own_wb, own_wlen, hn]; omega
theorem own_wb_end {cs : List Int32} {n : Nat} (hn : cs.length = n) : own_wb cs n n = StrChars.Road.wideBytes cs := by simp [own_wb, ← hn]
theorem own_take {cs : List Int32} {i : Nat} (h : i < cs.length) : cs.take (i + 1) = cs.take i ++ [cs.getD i 0] := by
  rw [List.take_add_one]; simp [List.getD_eq_getElem?_getD, h]
theorem own_wb_step {cs : List Int32} {n i : Nat} (hn : cs.length = n) (hi : i < n) : ((own_wb cs n i).set (2 * i) (.int (StrChars.lo8 (cs.getD i 0)))).set (2 * i + 1) (.int (StrChars.hi8 (cs.getD i 0))) = own_wb cs n (i + 1) := by
  have e1 : (StrChars.Road.wideBytes (cs.take i)).length = 2 * i := by rw [own_wlen]; simp; omega
  obtain ⟨r, hr⟩ : ∃ r, n - i = r + 1 := ⟨n - i - 1, by omega⟩
  have hr' : n - (i + 1) = r := by omega
  unfold own_wb
  rw [own_take (by omega), own_wapp, hr, hr', show 2 * (r + 1) = 2 * r + 1 + 1 from by omega, List.replicate_succ, List.replicate_succ]
  rw [List.set_append_right _ _ (by omega), e1, Nat.sub_self, List.set_cons_zero, List.set_append_right _ _ (by omega), e1, show 2 * i + 1 - 2 * i = 1 from by omega]
  simp [StrChars.Road.wideBytes]
/-- the first i chars as low bytes, zeros behind -/
def own_lb (cs : List Int32) (n i : Nat) : List Value := ((cs.take i).map fun c => Value.int (StrChars.lo8 c)) ++ List.replicate (n - i) (.int 0)
theorem own_lb_len {cs : List Int32} {n i : Nat} (hn : cs.length = n) (hi : i ≤ n) : (own_lb cs n i).length = n := by
  simp [own_lb, hn]; omega
theorem own_lb_end {cs : List Int32} {n : Nat} (hn : cs.length = n) : own_lb cs n n = cs.map fun c => Value.int (StrChars.lo8 c) := by simp [own_lb, ← hn]
theorem own_lb_step {cs : List Int32} {n i : Nat} (hn : cs.length = n) (hi : i < n) : (own_lb cs n i).set i (.int (StrChars.lo8 (cs.getD i 0))) = own_lb cs n (i + 1) := by
  have e1 : ((cs.take i).map fun c => Value.int (StrChars.lo8 c)).length = i := by simp; omega
  obtain ⟨r, hr⟩ : ∃ r, n - i = r + 1 := ⟨n - i - 1, by omega⟩
  have hr' : n - (i + 1) = r := by omega
  unfold own_lb
  rw [own_take (by omega), hr, hr', List.replicate_succ, List.set_append_right _ _ (by omega), e1, Nat.sub_self, List.set_cons_zero]
  simp
theorem own_all {cs : List Int32} {n : Nat} (hn : cs.length = n) (h : ∀ j, j < n → ¬ (255 : Int32) < cs.getD j 0) : ∀ c ∈ cs, ¬ (255 : Int32) < c := fun c hc => by
  obtain ⟨j, hj, rfl⟩ := List.mem_iff_getElem.mp hc
  have q := h j (by omega)
  simpa [List.getD_eq_getElem?_getD, hj] using q
theorem own_gm {cs : List Int32} {i : Nat} (h : i < cs.length) : cs.getD i 0 ∈ cs := by simp [List.getD_eq_getElem?_getD, h]
theorem own_wide {cs : List Int32} {i n : Nat} (hn : cs.length = n) (hi : i < n) (h : (255 : Int32) < cs.getD i 0) : StrChars.Road.CodA cs 1 (Int32.ofNat (2 * n)) (StrChars.Road.wideBytes cs) :=
  Or.inr ⟨rfl, by rw [hn], rfl, cs.getD i 0, own_gm (by omega), h⟩
theorem own_cod0 (x : Int32) : ((x - x).toUInt32 >>> ((31 : Int32) &&& 31).toUInt32).toInt32.toInt8.toInt32 = 0 := by rw [Int32.sub_self]; decide
theorem own_cod1 {n : Nat} (h0 : 0 < n) (h1 : n ≤ 4000) : ((Int32.ofNat n - Int32.ofNat (2 * n)).toUInt32 >>> ((31 : Int32) &&& 31).toUInt32).toInt32.toInt8.toInt32 = 1 := by
  have e : ((Int32.ofNat n - Int32.ofNat (2 * n)).toUInt32 >>> ((31 : Int32) &&& 31).toUInt32).toInt32 = 1 := by
    apply Int32.toInt_inj.mp
    rw [c_iushr _ 31 31 (by decide) (by decide)]
    have q := c_isub (Int32.ofNat n) (Int32.ofNat (2 * n))
    rw [own_ti (by omega), own_ti (by omega)] at q
    have r := rng32 (Int32.ofNat n - Int32.ofNat (2 * n))
    show _ = 1
    omega
  rw [e]; decide
theorem own_codN {cs : List Int32} {n : Nat} {cd N2 : Int32} {vs : List Value} (hn : cs.length = n) (h0 : 0 < n) (h1 : n ≤ 4000) (hc : StrChars.Road.CodA cs cd N2 vs) : ((Int32.ofNat n - N2).toUInt32 >>> ((31 : Int32) &&& 31).toUInt32).toInt32.toInt8.toInt32 = cd := by
  rcases hc with ⟨rfl, rfl, -⟩ | ⟨rfl, rfl, -⟩
  · rw [hn]; exact own_cod0 _
  · rw [hn]; exact own_cod1 h0 h1
theorem own_cd {cs : List Int32} {cd N2 : Int32} {vs : List Value} (hc : StrChars.Road.CodA cs cd N2 vs) : cd = 0 ∨ cd = 1 := hc.imp (fun q => q.1) fun q => q.1
theorem own_whi {cs : List Int32} {d : Value} {i : Nat} (h : i < cs.length) (hb : 2 * i + 1 < 2 ^ 31) : (StrChars.Road.wideBytes cs).getD (Int32.ofNat (2 * i + 1)).toNatClampNeg d = .int (StrChars.hi8 (cs.getD i 0)) := by rw [own_tc hb]; exact StrChars.Road.wide_hi _ _ _ h
theorem own_wlo {cs : List Int32} {d : Value} {i : Nat} (h : i < cs.length) (hb : 2 * i < 2 ^ 31) : (StrChars.Road.wideBytes cs).getD (Int32.ofNat (2 * i)).toNatClampNeg d = .int (StrChars.lo8 (cs.getD i 0)) := by rw [own_tc hb]; exact StrChars.Road.wide_lo _ _ _ h
theorem own_bd {cs : List Int32} {i : Nat} (h : i < cs.length) (hp : ∀ c ∈ cs, ¬ c < 0 ∧ ¬ (65535 : Int32) < c) : ¬ cs.getD i 0 < 0 ∧ ¬ (65535 : Int32) < cs.getD i 0 := hp _ (by simp [List.getD_eq_getElem?_getD, h])
abbrev bo49 := jdk_52_method_4_code
theorem d49_0 : decode bo49 0 = .ok (.getstatic 44, 3) := by decide +kernel
theorem d49_3 : decode bo49 3 = .ok (.ifCond .ne 25, 3) := by decide +kernel
theorem d49_28 : decode bo49 28 = .ok (.iload_n 1, 1) := by decide +kernel
theorem d49_29 : decode bo49 29 = .ok (.iconst 1, 1) := by decide +kernel
theorem d49_30 : decode bo49 30 = .ok (.ishl, 1) := by decide +kernel
theorem d49_31 : decode bo49 31 = .ok (.istore_n 1, 1) := by decide +kernel
theorem d49_32 : decode bo49 32 = .ok (.aload_n 0, 1) := by decide +kernel
theorem d49_33 : decode bo49 33 = .ok (.iload_n 1, 1) := by decide +kernel
theorem d49_34 : decode bo49 34 = .ok (.iinc 1 1, 3) := by decide +kernel
theorem d49_37 : decode bo49 37 = .ok (.iload_n 2, 1) := by decide +kernel
theorem d49_38 : decode bo49 38 = .ok (.getstatic 59, 3) := by decide +kernel
theorem d49_41 : decode bo49 41 = .ok (.ishr, 1) := by decide +kernel
theorem d49_42 : decode bo49 42 = .ok (.i2b, 1) := by decide +kernel
theorem d49_43 : decode bo49 43 = .ok (.bastore, 1) := by decide +kernel
theorem d49_44 : decode bo49 44 = .ok (.aload_n 0, 1) := by decide +kernel
theorem d49_45 : decode bo49 45 = .ok (.iload_n 1, 1) := by decide +kernel
theorem d49_46 : decode bo49 46 = .ok (.iload_n 2, 1) := by decide +kernel
theorem d49_47 : decode bo49 47 = .ok (.getstatic 63, 3) := by decide +kernel
theorem d49_50 : decode bo49 50 = .ok (.ishr, 1) := by decide +kernel
theorem d49_51 : decode bo49 51 = .ok (.i2b, 1) := by decide +kernel
theorem d49_52 : decode bo49 52 = .ok (.bastore, 1) := by decide +kernel
theorem d49_53 : decode bo49 53 = .ok (.return_, 1) := by decide +kernel
theorem pn_java_lang_StringUTF16 : plainName "java/lang/StringUTF16" = true := by first | (simp [plainName, overriddenIn]; done) | decide +kernel
set_option maxRecDepth 65536 in
set_option maxHeartbeats 40000000 in
theorem rmPut (l : Launch) (Z : State) (a0 : Array Value) (hw : ∀ d ∈ tables_1, d.before a0 Z = true) (d : Addr) (kd : ClassId) (L i : Nat) (c : Int32) (vs : List Value) (h0 : Heap) (n0 : Nat) (Z0 : n0 ≤ h0.size) (SA : Sta Z Z.heap "java/lang/StringUTF16" "$assertionsDisabled" "Z" (.int 1)) (SH : Sta Z Z.heap "java/lang/StringUTF16" "HI_BYTE_SHIFT" "I" (.int 0)) (SL : Sta Z Z.heap "java/lang/StringUTF16" "LO_BYTE_SHIFT" "I" (.int 8)) (OL : Old Z n0 h0) (g_d : n0 ≤ d) (V_d : Arv Z h0 d kd .byte (Int32.ofNat L) vs (.int 0)) (hL : vs.length = L) (hLb : L < 2 ^ 31) (hi : 2 * i + 1 < L) :
    OwM l Z (⟨"java/lang/StringUTF16", "putChar", "([BII)V"⟩ : MethodName) jdk_52_method_4_code 3 none ({ frames := 0, cells := 0, slots := 0, locals := 0 } : Room) n0 #[(.ref d), (.int (Int32.ofNat i)), (.int c)] h0 (fun v h => v = none ∧ Keep h0 h [d] ∧ Arv Z h d kd .byte (Int32.ofNat L) ((vs.set (2 * i) (.int (StrChars.lo8 c))).set (2 * i + 1) (.int (StrChars.hi8 c))) (.int 0)) := by
  refine OwM.mk (plainFor_of_name pn_java_lang_StringUTF16) ?_
  intro p e s m below meth cD T hx hby hml hown hnm hret hlk hZ P
  have dc := @Jvm.hb cD _ hby
  refine OwG.cast (g' := mkF m 0 #[.val (.ref d), .val (.int (Int32.ofNat i)), .val (.int c)] []) (by first | (simp [entryFrame, mkF, argsToLocals, Value.category]; done) | rfl) ?_
  have KP := Keep.refl h0 [d]
  refine P.getS hx hZ hown (host := "") (Or.inl (own_w hw 241 rfl)) Via.refl (SA.ext OL.2) rfl (dc d49_0) fun T P => ?_
  show OwG p e below s _ _ _ _ T (mkF m 3 #[.val (.ref d), .val (.int (Int32.ofNat i)), .val (.int c)] [(.int 1)])
  refine OwG.ac (mkF m 32 #[.val (.ref d), .val (.int ((Int32.ofNat i) <<< ((1 : Int32) &&& 31))), .val (.int c)] []) (fun tQ kQ => ?_) ?_
  · refine XS.ifYes P.here hx rfl (pc0 := 3) (pc' := 28) rfl (dc d49_3) rfl ((if0 _ _).trans (feq (by decide : ¬ (1 : Int32) = 0)).2) (by decide) (by decide) ?_
    refine XS.iloadN P.here hx rfl (dc d49_28) rfl ?_
    refine XS.iconst P.here hx rfl (dc d49_29) ?_
    refine XS.ishl P.here hx rfl (dc d49_30) rfl ?_
    exact XS.istoreN P.here hx rfl (dc d49_31) rfl (l' := #[.val (.ref d), .val (.int ((Int32.ofNat i) <<< ((1 : Int32) &&& 31))), .val (.int c)]) rfl kQ
  rw [show ((Int32.ofNat i) <<< ((1 : Int32) &&& 31)) = (Int32.ofNat (2 * i)) from own_shl1 (by omega)]
  refine OwG.ac (mkF m 38 #[.val (.ref d), .val (.int ((Int32.ofNat (2 * i)) + (1 : Int32))), .val (.int c)] [(.int c), (.int (Int32.ofNat (2 * i))), (.ref d)]) (fun tQ kQ => ?_) ?_
  · refine XS.aloadN P.here hx rfl (dc d49_32) rfl rfl ?_
    refine XS.iloadN P.here hx rfl (dc d49_33) rfl ?_
    refine XS.iinc P.here hx rfl (dc d49_34) rfl (l' := #[.val (.ref d), .val (.int ((Int32.ofNat (2 * i)) + (1 : Int32))), .val (.int c)]) rfl ?_
    exact XS.iloadN P.here hx rfl (dc d49_37) rfl kQ
  refine P.getS hx hZ hown (host := "") (Or.inl (own_w hw 242 rfl)) Via.refl (SH.ext OL.2) rfl (dc d49_38) fun T P => ?_
  show OwG p e below s _ _ _ _ T (mkF m 41 #[.val (.ref d), .val (.int ((Int32.ofNat (2 * i)) + (1 : Int32))), .val (.int c)] [(.int 0), (.int c), (.int (Int32.ofNat (2 * i))), (.ref d)])
  refine OwG.ac (mkF m 43 #[.val (.ref d), .val (.int ((Int32.ofNat (2 * i)) + (1 : Int32))), .val (.int c)] [(.int ((c >>> ((0 : Int32) &&& 31)).toInt8.toInt32)), (.int (Int32.ofNat (2 * i))), (.ref d)]) (fun tQ kQ => ?_) ?_
  · refine XS.ishr P.here hx rfl (dc d49_41) rfl ?_
    exact XS.i2b P.here hx rfl (dc d49_42) rfl kQ
  refine P.stB hx hZ V_d (j := (Int32.ofNat (2 * i))) (own_nn (by omega)) (own_lt (by omega) (by omega)) (i := (2 * i)) (own_tc (by omega)) (by omega) rfl rfl (dc d49_43) g_d fun T h1 P W V' => ?_
  replace Z0 := Nat.le_trans Z0 (Keep.of_wr W).1
  replace OL := OL.wr W g_d
  replace KP := KP.wr W (Or.inl (List.mem_of_getElem? (i := 0) rfl))
  replace V_d := V'
  clear W V'
  show OwG p e below s _ _ _ _ T (mkF m 44 #[.val (.ref d), .val (.int ((Int32.ofNat (2 * i)) + (1 : Int32))), .val (.int c)] [])
  rw [show ((Int32.ofNat (2 * i)) + (1 : Int32)) = (Int32.ofNat (2 * i + 1)) from own_succ _]
  refine OwG.ac (mkF m 47 #[.val (.ref d), .val (.int (Int32.ofNat (2 * i + 1))), .val (.int c)] [(.int c), (.int (Int32.ofNat (2 * i + 1))), (.ref d)]) (fun tQ kQ => ?_) ?_
  · refine XS.aloadN P.here hx rfl (dc d49_44) rfl rfl ?_
    refine XS.iloadN P.here hx rfl (dc d49_45) rfl ?_
    exact XS.iloadN P.here hx rfl (dc d49_46) rfl kQ
  refine P.getS hx hZ hown (host := "") (Or.inl (own_w hw 243 rfl)) Via.refl (SL.ext OL.2) rfl (dc d49_47) fun T P => ?_
  show OwG p e below s _ _ _ _ T (mkF m 50 #[.val (.ref d), .val (.int (Int32.ofNat (2 * i + 1))), .val (.int c)] [(.int 8), (.int c), (.int (Int32.ofNat (2 * i + 1))), (.ref d)])
  refine OwG.ac (mkF m 52 #[.val (.ref d), .val (.int (Int32.ofNat (2 * i + 1))), .val (.int c)] [(.int ((c >>> ((8 : Int32) &&& 31)).toInt8.toInt32)), (.int (Int32.ofNat (2 * i + 1))), (.ref d)]) (fun tQ kQ => ?_) ?_
  · refine XS.ishr P.here hx rfl (dc d49_50) rfl ?_
    exact XS.i2b P.here hx rfl (dc d49_51) rfl kQ
  refine P.stB hx hZ V_d (j := (Int32.ofNat (2 * i + 1))) (own_nn (by omega)) (own_lt (by omega) (by omega)) (i := (2 * i + 1)) (own_tc (by omega)) (by rw [List.length_set]; omega) rfl rfl (dc d49_52) g_d fun T h2 P W V' => ?_
  replace Z0 := Nat.le_trans Z0 (Keep.of_wr W).1
  replace OL := OL.wr W g_d
  replace KP := KP.wr W (Or.inl (List.mem_of_getElem? (i := 0) rfl))
  replace V_d := V'
  clear W V'
  show OwG p e below s _ _ _ _ T (mkF m 53 #[.val (.ref d), .val (.int (Int32.ofNat (2 * i + 1))), .val (.int c)] [])
  rw [own_i2b2, own_i2b2, StrChars.shr0] at V_d
  exact P.retV hx hlk hret (dc d49_53) (own_le rfl) (own_le rfl) ⟨rfl, KP, V_d⟩
abbrev bo50 := jdk_52_method_5_code
theorem d50_0 : decode bo50 0 = .ok (.getstatic 44, 3) := by decide +kernel
theorem d50_3 : decode bo50 3 = .ok (.ifCond .ne 25, 3) := by decide +kernel
theorem d50_28 : decode bo50 28 = .ok (.iload_n 1, 1) := by decide +kernel
theorem d50_29 : decode bo50 29 = .ok (.iconst 1, 1) := by decide +kernel
theorem d50_30 : decode bo50 30 = .ok (.ishl, 1) := by decide +kernel
theorem d50_31 : decode bo50 31 = .ok (.istore_n 1, 1) := by decide +kernel
theorem d50_32 : decode bo50 32 = .ok (.aload_n 0, 1) := by decide +kernel
theorem d50_33 : decode bo50 33 = .ok (.iload_n 1, 1) := by decide +kernel
theorem d50_34 : decode bo50 34 = .ok (.iinc 1 1, 3) := by decide +kernel
theorem d50_37 : decode bo50 37 = .ok (.baload, 1) := by decide +kernel
theorem d50_38 : decode bo50 38 = .ok (.sipush 255, 3) := by decide +kernel
theorem d50_41 : decode bo50 41 = .ok (.iand, 1) := by decide +kernel
theorem d50_42 : decode bo50 42 = .ok (.getstatic 59, 3) := by decide +kernel
theorem d50_45 : decode bo50 45 = .ok (.ishl, 1) := by decide +kernel
theorem d50_46 : decode bo50 46 = .ok (.aload_n 0, 1) := by decide +kernel
theorem d50_47 : decode bo50 47 = .ok (.iload_n 1, 1) := by decide +kernel
theorem d50_48 : decode bo50 48 = .ok (.baload, 1) := by decide +kernel
theorem d50_49 : decode bo50 49 = .ok (.sipush 255, 3) := by decide +kernel
theorem d50_52 : decode bo50 52 = .ok (.iand, 1) := by decide +kernel
theorem d50_53 : decode bo50 53 = .ok (.getstatic 63, 3) := by decide +kernel
theorem d50_56 : decode bo50 56 = .ok (.ishl, 1) := by decide +kernel
theorem d50_57 : decode bo50 57 = .ok (.ior, 1) := by decide +kernel
theorem d50_58 : decode bo50 58 = .ok (.i2c, 1) := by decide +kernel
theorem d50_59 : decode bo50 59 = .ok (.ireturn, 1) := by decide +kernel
set_option maxRecDepth 65536 in
set_option maxHeartbeats 40000000 in
theorem rmGet (l : Launch) (Z : State) (a0 : Array Value) (hw : ∀ d ∈ tables_1, d.before a0 Z = true) (d : Addr) (kd : ClassId) (n i : Nat) (cs : List Int32) (h0 : Heap) (n0 : Nat) (Z0 : n0 ≤ h0.size) (SA : Sta Z Z.heap "java/lang/StringUTF16" "$assertionsDisabled" "Z" (.int 1)) (SH : Sta Z Z.heap "java/lang/StringUTF16" "HI_BYTE_SHIFT" "I" (.int 0)) (SL : Sta Z Z.heap "java/lang/StringUTF16" "LO_BYTE_SHIFT" "I" (.int 8)) (OL : Old Z n0 h0) (V_d : Arv Z h0 d kd .byte (Int32.ofNat (2 * n)) (StrChars.Road.wideBytes cs) (.int 0)) (hn : cs.length = n) (hb : n ≤ 4000) (hi : i < n) (hp : ∀ c ∈ cs, ¬ c < 0 ∧ ¬ (65535 : Int32) < c) :
    OwM l Z (⟨"java/lang/StringUTF16", "getChar", "([BI)C"⟩ : MethodName) jdk_52_method_5_code 2 (some .char) ({ frames := 0, cells := 0, slots := 0, locals := 0 } : Room) n0 #[(.ref d), (.int (Int32.ofNat i))] h0 (fun v h => v = some (.int (cs.getD i 0)) ∧ h = h0) := by
  refine OwM.mk (plainFor_of_name pn_java_lang_StringUTF16) ?_
  intro p e s m below meth cD T hx hby hml hown hnm hret hlk hZ P
  have dc := @Jvm.hb cD _ hby
  refine OwG.cast (g' := mkF m 0 #[.val (.ref d), .val (.int (Int32.ofNat i))] []) (by first | (simp [entryFrame, mkF, argsToLocals, Value.category]; done) | rfl) ?_
  refine P.getS hx hZ hown (host := "") (Or.inl (own_w hw 241 rfl)) Via.refl (SA.ext OL.2) rfl (dc d50_0) fun T P => ?_
  show OwG p e below s _ _ _ _ T (mkF m 3 #[.val (.ref d), .val (.int (Int32.ofNat i))] [(.int 1)])
  refine OwG.ac (mkF m 32 #[.val (.ref d), .val (.int ((Int32.ofNat i) <<< ((1 : Int32) &&& 31)))] []) (fun tQ kQ => ?_) ?_
  · refine XS.ifYes P.here hx rfl (pc0 := 3) (pc' := 28) rfl (dc d50_3) rfl ((if0 _ _).trans (feq (by decide : ¬ (1 : Int32) = 0)).2) (by decide) (by decide) ?_
    refine XS.iloadN P.here hx rfl (dc d50_28) rfl ?_
    refine XS.iconst P.here hx rfl (dc d50_29) ?_
    refine XS.ishl P.here hx rfl (dc d50_30) rfl ?_
    exact XS.istoreN P.here hx rfl (dc d50_31) rfl (l' := #[.val (.ref d), .val (.int ((Int32.ofNat i) <<< ((1 : Int32) &&& 31)))]) rfl kQ
  rw [show ((Int32.ofNat i) <<< ((1 : Int32) &&& 31)) = (Int32.ofNat (2 * i)) from own_shl1 (by omega)]
  refine OwG.ac (mkF m 37 #[.val (.ref d), .val (.int ((Int32.ofNat (2 * i)) + (1 : Int32)))] [(.int (Int32.ofNat (2 * i))), (.ref d)]) (fun tQ kQ => ?_) ?_
  · refine XS.aloadN P.here hx rfl (dc d50_32) rfl rfl ?_
    refine XS.iloadN P.here hx rfl (dc d50_33) rfl ?_
    exact XS.iinc P.here hx rfl (dc d50_34) rfl (l' := #[.val (.ref d), .val (.int ((Int32.ofNat (2 * i)) + (1 : Int32)))]) rfl kQ
  obtain ⟨own_cl, own_A, own_q1, own_S, own_M, own_H, own_U⟩ := id V_d
  obtain ⟨own_L, own_X, own_e, own_N⟩ := id P
  have own_Z := hZ
  have own_in := inb_of own_S (j := (Int32.ofNat (2 * i))) ⟨own_nn (by omega), own_lt (by omega) (by omega)⟩
  refine OwG.ac (mkF m 42 #[.val (.ref d), .val (.int ((Int32.ofNat (2 * i)) + (1 : Int32)))] [(.int ((StrChars.lo8 (cs.getD i 0)) &&& (255 : Int32)))]) (fun tQ kQ => ?_) ?_
  · refine own_X.baloadBytes hx (j := (Int32.ofNat (2 * i))) (v := (.int (StrChars.lo8 (cs.getD i 0)))) (by rw [own_e]; exact own_A.1) (State.isArrayOf_alike own_Z.alike own_A.2.1) own_A.2.2 own_in (Has.at own_H own_in (own_wlo (by omega) (by omega))) (g := (mkF m 37 #[.val (.ref d), .val (.int ((Int32.ofNat (2 * i)) + (1 : Int32)))] [(.int (Int32.ofNat (2 * i))), (.ref d)])) rfl rfl (dc d50_37) _ ?_
    refine XS.sipush P.here hx rfl (dc d50_38) ?_
    exact XS.iand P.here hx rfl (dc d50_41) rfl kQ
  refine P.getS hx hZ hown (host := "") (Or.inl (own_w hw 242 rfl)) Via.refl (SH.ext OL.2) rfl (dc d50_42) fun T P => ?_
  show OwG p e below s _ _ _ _ T (mkF m 45 #[.val (.ref d), .val (.int ((Int32.ofNat (2 * i)) + (1 : Int32)))] [(.int 0), (.int ((StrChars.lo8 (cs.getD i 0)) &&& (255 : Int32)))])
  refine OwG.ac (mkF m 48 #[.val (.ref d), .val (.int ((Int32.ofNat (2 * i)) + (1 : Int32)))] [(.int ((Int32.ofNat (2 * i)) + (1 : Int32))), (.ref d), (.int (((StrChars.lo8 (cs.getD i 0)) &&& (255 : Int32)) <<< ((0 : Int32) &&& 31)))]) (fun tQ kQ => ?_) ?_
  · refine XS.ishl P.here hx rfl (dc d50_45) rfl ?_
    refine XS.aloadN P.here hx rfl (dc d50_46) rfl rfl ?_
    exact XS.iloadN P.here hx rfl (dc d50_47) rfl kQ
  rw [show ((Int32.ofNat (2 * i)) + (1 : Int32)) = (Int32.ofNat (2 * i + 1)) from own_succ _]
  obtain ⟨own_cl, own_A, own_q1, own_S, own_M, own_H, own_U⟩ := id V_d
  obtain ⟨own_L, own_X, own_e, own_N⟩ := id P
  have own_Z := hZ
  have own_in := inb_of own_S (j := (Int32.ofNat (2 * i + 1))) ⟨own_nn (by omega), own_lt (by omega) (by omega)⟩
  refine OwG.ac (mkF m 53 #[.val (.ref d), .val (.int (Int32.ofNat (2 * i + 1)))] [(.int ((StrChars.hi8 (cs.getD i 0)) &&& (255 : Int32))), (.int (((StrChars.lo8 (cs.getD i 0)) &&& (255 : Int32)) <<< ((0 : Int32) &&& 31)))]) (fun tQ kQ => ?_) ?_
  · refine own_X.baloadBytes hx (j := (Int32.ofNat (2 * i + 1))) (v := (.int (StrChars.hi8 (cs.getD i 0)))) (by rw [own_e]; exact own_A.1) (State.isArrayOf_alike own_Z.alike own_A.2.1) own_A.2.2 own_in (Has.at own_H own_in (own_whi (by omega) (by omega))) (g := (mkF m 48 #[.val (.ref d), .val (.int (Int32.ofNat (2 * i + 1)))] [(.int (Int32.ofNat (2 * i + 1))), (.ref d), (.int (((StrChars.lo8 (cs.getD i 0)) &&& (255 : Int32)) <<< ((0 : Int32) &&& 31)))])) rfl rfl (dc d50_48) _ ?_
    refine XS.sipush P.here hx rfl (dc d50_49) ?_
    exact XS.iand P.here hx rfl (dc d50_52) rfl kQ
  refine P.getS hx hZ hown (host := "") (Or.inl (own_w hw 243 rfl)) Via.refl (SL.ext OL.2) rfl (dc d50_53) fun T P => ?_
  show OwG p e below s _ _ _ _ T (mkF m 56 #[.val (.ref d), .val (.int (Int32.ofNat (2 * i + 1)))] [(.int 8), (.int ((StrChars.hi8 (cs.getD i 0)) &&& (255 : Int32))), (.int (((StrChars.lo8 (cs.getD i 0)) &&& (255 : Int32)) <<< ((0 : Int32) &&& 31)))])
  refine OwG.ac (mkF m 59 #[.val (.ref d), .val (.int (Int32.ofNat (2 * i + 1)))] [(.int (((((StrChars.lo8 (cs.getD i 0)) &&& (255 : Int32)) <<< ((0 : Int32) &&& 31)) ||| (((StrChars.hi8 (cs.getD i 0)) &&& (255 : Int32)) <<< ((8 : Int32) &&& 31))).toUInt32.toUInt16.toUInt32.toInt32))]) (fun tQ kQ => ?_) ?_
  · refine XS.ishl P.here hx rfl (dc d50_56) rfl ?_
    refine XS.ior P.here hx rfl (dc d50_57) rfl ?_
    exact XS.i2c P.here hx rfl (dc d50_58) rfl kQ
  have own_b := own_bd (i := i) (by omega) hp
  rw [show (((((StrChars.lo8 (cs.getD i 0)) &&& (255 : Int32)) <<< ((0 : Int32) &&& 31)) ||| (((StrChars.hi8 (cs.getD i 0)) &&& (255 : Int32)) <<< ((8 : Int32) &&& 31))).toUInt32.toUInt16.toUInt32.toInt32) = (cs.getD i 0) from StrChars.pair_says own_b.1 own_b.2]
  exact P.retN hx hlk (t := .char) hret (by simp) (dc d50_59) (own_le rfl) (own_le rfl) ⟨by rw [own_narc own_b.1 own_b.2], rfl⟩
abbrev bo48 := jdk_52_method_3_code
theorem d48_0 : decode bo48 0 = .ok (.iload_n 0, 1) := by decide +kernel
theorem d48_1 : decode bo48 1 = .ok (.ifCond .ge 11, 3) := by decide +kernel
theorem d48_12 : decode bo48 12 = .ok (.iload_n 0, 1) := by decide +kernel
theorem d48_13 : decode bo48 13 = .ok (.ldc 20, 2) := by decide +kernel
theorem d48_15 : decode bo48 15 = .ok (.if_icmp .lt 40, 3) := by decide +kernel
theorem d48_55 : decode bo48 55 = .ok (.iload_n 0, 1) := by decide +kernel
theorem d48_56 : decode bo48 56 = .ok (.iconst 1, 1) := by decide +kernel
theorem d48_57 : decode bo48 57 = .ok (.ishl, 1) := by decide +kernel
theorem d48_58 : decode bo48 58 = .ok (.ireturn, 1) := by decide +kernel
set_option maxRecDepth 65536 in
set_option maxHeartbeats 40000000 in
theorem rmNbl (l : Launch) (Z : State) (a0 : Array Value) (hw : ∀ d ∈ tables_1, d.before a0 Z = true) (n : Nat) (h0 : Heap) (n0 : Nat) (Z0 : n0 ≤ h0.size) (hb : n ≤ 4000) :
    OwM l Z (⟨"java/lang/StringUTF16", "newBytesLength", "(I)I"⟩ : MethodName) jdk_52_method_3_code 1 (some .int) ({ frames := 0, cells := 0, slots := 0, locals := 0 } : Room) n0 #[(.int (Int32.ofNat n))] h0 (fun v h => v = some (.int (Int32.ofNat (2 * n))) ∧ h = h0) := by
  refine OwM.mk (plainFor_of_name pn_java_lang_StringUTF16) ?_
  intro p e s m below meth cD T hx hby hml hown hnm hret hlk hZ P
  have dc := @Jvm.hb cD _ hby
  refine OwG.cast (g' := mkF m 0 #[.val (.int (Int32.ofNat n))] []) (by first | (simp [entryFrame, mkF, argsToLocals, Value.category]; done) | rfl) ?_
  refine OwG.ac (mkF m 13 #[.val (.int (Int32.ofNat n))] [(.int (Int32.ofNat n))]) (fun tQ kQ => ?_) ?_
  · refine XS.iloadN P.here hx rfl (dc d48_0) rfl ?_
    refine XS.ifYes P.here hx rfl (pc0 := 1) (pc' := 12) rfl (dc d48_1) rfl ((if0 _ _).trans (flt (own_nn (by omega))).2.1) (by decide) (by decide) ?_
    exact XS.iloadN P.here hx rfl (dc d48_12) rfl kQ
  obtain ⟨own_L, own_X, own_rest⟩ := id P
  refine OwG.ac (mkF m 58 #[.val (.int (Int32.ofNat n))] [(.int ((Int32.ofNat n) <<< ((1 : Int32) &&& 31)))]) (fun tQ kQ => ?_) ?_
  · refine own_X.ldcInt hx hown (mvT hZ (own_w hw 237 rfl)) (g := (mkF m 13 #[.val (.int (Int32.ofNat n))] [(.int (Int32.ofNat n))])) rfl (dc d48_13) _ ?_
    refine XS.icmpYes P.here hx rfl (pc0 := 15) (pc' := 55) rfl (dc d48_15) rfl (tlt (own_lt (n := 1073741823) (by omega) (by omega))).1 (by decide) (by decide) ?_
    refine XS.iloadN P.here hx rfl (dc d48_55) rfl ?_
    refine XS.iconst P.here hx rfl (dc d48_56) ?_
    exact XS.ishl P.here hx rfl (dc d48_57) rfl kQ
  rw [show ((Int32.ofNat n) <<< ((1 : Int32) &&& 31)) = (Int32.ofNat (2 * n)) from own_shl1 (by omega)]
  exact P.retI hx hlk hret (dc d48_58) (own_le rfl) (own_le rfl) ⟨rfl, rfl⟩
abbrev bo47 := jdk_52_method_2_code
theorem d47_0 : decode bo47 0 = .ok (.iload_n 0, 1) := by decide +kernel
theorem d47_1 : decode bo47 1 = .ok (.invokestatic 11, 3) := by decide +kernel
theorem pd__I_I : parseMethodDescriptor "(I)I" = some ⟨[.int], some .int⟩ := by decide +kernel
theorem d47_4 : decode bo47 4 = .ok (.newarray .byte, 2) := by decide +kernel
theorem d47_6 : decode bo47 6 = .ok (.areturn, 1) := by decide +kernel
set_option maxRecDepth 65536 in
set_option maxHeartbeats 40000000 in
theorem rmNbf (l : Launch) (Z : State) (a0 : Array Value) (hw : ∀ d ∈ tables_1, d.before a0 Z = true) (n : Nat) (h0 : Heap) (n0 : Nat) (Z0 : n0 ≤ h0.size) (hb : n ≤ 4000) :
    OwM l Z (⟨"java/lang/StringUTF16", "newBytesFor", "(I)[B"⟩ : MethodName) jdk_52_method_2_code 1 (some (.array .byte)) ({ frames := 1, cells := 1, slots := 2 * n, locals := 12 } : Room) n0 #[(.int (Int32.ofNat n))] h0 (fun v h => ∃ (b : Addr) (kb : ClassId), v = some (.ref b) ∧ b = h0.size ∧ Keep h0 h [] ∧ Arv Z h b kb .byte (Int32.ofNat (2 * n)) (List.replicate (2 * n) (.int 0)) (.int 0)) := by
  refine OwM.mk (plainFor_of_name pn_java_lang_StringUTF16) ?_
  intro p e s m below meth cD T hx hby hml hown hnm hret hlk hZ P
  have dc := @Jvm.hb cD _ hby
  refine OwG.cast (g' := mkF m 0 #[.val (.int (Int32.ofNat n))] []) (by first | (simp [entryFrame, mkF, argsToLocals, Value.category]; done) | rfl) ?_
  have KP := Keep.refl h0 []
  refine OwG.ac (mkF m 1 #[.val (.int (Int32.ofNat n))] [(.int (Int32.ofNat n))]) (fun tQ kQ => ?_) ?_
  · exact XS.iloadN P.here hx rfl (dc d47_0) rfl kQ
  refine P.stat hx hZ hown (own_w hw 234 rfl) (own_w hw 235 rfl) (own_w hw 145 rfl) (own_w hw 236 rfl) (by decide) (OwM.back (W := 0) (rmNbl l Z a0 hw n h0 n0 Z0 hb) hZ (own_w hw 236 rfl) (own_w hw 145 rfl) (own_le rfl) (own_le rfl)) (fun _ _ _ q => q.2) rfl (by rw [hml]; rfl) (argsL := [(.int (Int32.ofNat n))]) (rest := []) (lenOf pd__I_I rfl) rfl (own_le rfl) (dc d47_1) rfl (by first | omega | (dsimp only [room_1] <;> omega)) (by first | omega | (dsimp only [room_1] <;> omega)) fun T own_v own_L h1 own_e P own_q => ?_
  obtain ⟨⟨rfl, own_hh⟩, -⟩ := own_q
  rw [own_hh] at P
  clear own_e own_hh
  show OwG p e below s _ _ _ _ T (mkF m 4 #[.val (.int (Int32.ofNat n))] [(.int (Int32.ofNat (2 * n)))])
  refine P.newP hx hZ (own_w hw 15 rfl) rfl (dc d47_4) rfl (own_nn (by omega)) (cap := (2 * n)) (Nat.le_of_eq (own_tc (by omega))) (by omega) (by first | omega | (dsimp only [room_1] <;> omega)) (by first | omega | (dsimp only [room_1] <;> omega)) fun T h2 b kb gb P E V_b => ?_
  have sz_b : h0.size ≤ b := Nat.le_trans KP.1 (Nat.le_of_eq gb.symm)
  replace KP := KP.ext E
  clear E
  replace V_b : Arv Z h2 b kb .byte (Int32.ofNat (2 * n)) (List.replicate (2 * n) (.int 0)) (.int 0) := V_b.pad (pad_rep [] (.int 0) (2 * n))
  show OwG p e below s _ _ _ _ T (mkF m 6 #[.val (.int (Int32.ofNat n))] [(.ref b)])
  exact P.retR hx hlk hret rfl rfl (dc d47_6) (by first | omega | (dsimp only [room_1] <;> omega)) (by first | omega | (dsimp only [room_1] <;> omega)) ⟨b, kb, rfl, gb, KP, V_b⟩
abbrev bo46 := jdk_52_method_14_code
theorem d46_0 : decode bo46 0 = .ok (.iload_n 2, 1) := by decide +kernel
theorem d46_1 : decode bo46 1 = .ok (.invokestatic 107, 3) := by decide +kernel
theorem pd__I__B : parseMethodDescriptor "(I)[B" = some ⟨[.int], some (.array .byte)⟩ := by decide +kernel
theorem d46_4 : decode bo46 4 = .ok (.astore_n 3, 1) := by decide +kernel
theorem d46_5 : decode bo46 5 = .ok (.iconst 0, 1) := by decide +kernel
theorem d46_6 : decode bo46 6 = .ok (.istore 4, 2) := by decide +kernel
theorem d46_8 : decode bo46 8 = .ok (.iload 4, 2) := by decide +kernel
theorem d46_10 : decode bo46 10 = .ok (.iload_n 2, 1) := by decide +kernel
theorem d46_11 : decode bo46 11 = .ok (.if_icmp .ge 21, 3) := by decide +kernel
theorem d46_32 : decode bo46 32 = .ok (.aload_n 3, 1) := by decide +kernel
theorem d46_33 : decode bo46 33 = .ok (.areturn, 1) := by decide +kernel
theorem d46_14 : decode bo46 14 = .ok (.aload_n 3, 1) := by decide +kernel
theorem d46_15 : decode bo46 15 = .ok (.iload 4, 2) := by decide +kernel
theorem d46_17 : decode bo46 17 = .ok (.aload_n 0, 1) := by decide +kernel
theorem d46_18 : decode bo46 18 = .ok (.iload_n 1, 1) := by decide +kernel
theorem d46_19 : decode bo46 19 = .ok (.caload, 1) := by decide +kernel
theorem d46_20 : decode bo46 20 = .ok (.invokestatic 111, 3) := by decide +kernel
theorem pd___BII_V : parseMethodDescriptor "([BII)V" = some ⟨[(.array .byte), .int, .int], none⟩ := by decide +kernel
theorem d46_23 : decode bo46 23 = .ok (.iinc 1 1, 3) := by decide +kernel
theorem d46_26 : decode bo46 26 = .ok (.iinc 4 1, 3) := by decide +kernel
theorem d46_29 : decode bo46 29 = .ok (.goto (-21), 3) := by decide +kernel
set_option maxRecDepth 65536 in
set_option maxHeartbeats 40000000 in
theorem rmTob (l : Launch) (Z : State) (a0 : Array Value) (hw : ∀ d ∈ tables_1, d.before a0 Z = true) (a : Addr) (ka : ClassId) (da : Value) (n : Nat) (cs : List Int32) (h0 : Heap) (n0 : Nat) (Z0 : n0 ≤ h0.size) (SA : Sta Z Z.heap "java/lang/StringUTF16" "$assertionsDisabled" "Z" (.int 1)) (SH : Sta Z Z.heap "java/lang/StringUTF16" "HI_BYTE_SHIFT" "I" (.int 0)) (SL : Sta Z Z.heap "java/lang/StringUTF16" "LO_BYTE_SHIFT" "I" (.int 8)) (OL : Old Z n0 h0) (V_a : Arv Z h0 a ka .char (Int32.ofNat n) (cs.map Value.int) da) (hn : cs.length = n) (hb : n ≤ 4000) :
    OwM l Z (⟨"java/lang/StringUTF16", "toBytes", "([CII)[B"⟩ : MethodName) jdk_52_method_14_code 5 (some (.array .byte)) ({ frames := 2, cells := 1, slots := 2 * n, locals := 26 } : Room) n0 #[(.ref a), (.int 0), (.int (Int32.ofNat n))] h0 (fun v h => ∃ (b : Addr) (kb : ClassId), v = some (.ref b) ∧ b = h0.size ∧ Keep h0 h [] ∧ Arv Z h b kb .byte (Int32.ofNat (2 * n)) (StrChars.Road.wideBytes cs) (.int 0)) := by
  refine OwM.mk (plainFor_of_name pn_java_lang_StringUTF16) ?_
  intro p e s m below meth cD T hx hby hml hown hnm hret hlk hZ P
  have dc := @Jvm.hb cD _ hby
  refine OwG.cast (g' := mkF m 0 #[.val (.ref a), .val (.int 0), .val (.int (Int32.ofNat n)), .unset, .unset] []) (by first | (simp [entryFrame, mkF, argsToLocals, Value.category]; done) | rfl) ?_
  have KP := Keep.refl h0 []
  refine OwG.ac (mkF m 1 #[.val (.ref a), .val (.int 0), .val (.int (Int32.ofNat n)), .unset, .unset] [(.int (Int32.ofNat n))]) (fun tQ kQ => ?_) ?_
  · exact XS.iloadN P.here hx rfl (dc d46_0) rfl kQ
  refine P.stat hx hZ hown (own_w hw 231 rfl) (own_w hw 232 rfl) (own_w hw 145 rfl) (own_w hw 233 rfl) (by decide) (OwM.back (W := 0) (rmNbf l Z a0 hw n h0 n0 Z0 hb) hZ (own_w hw 233 rfl) (own_w hw 145 rfl) (own_le rfl) (own_le rfl)) (fun _ _ _ q => q.2) rfl (by rw [hml]; rfl) (argsL := [(.int (Int32.ofNat n))]) (rest := []) (lenOf pd__I__B rfl) rfl (own_le rfl) (dc d46_1) rfl (by first | omega | (dsimp only [room_1] <;> omega)) (by first | omega | (dsimp only [room_1] <;> omega)) fun T own_v own_L h1 own_e P own_q => ?_
  obtain ⟨⟨b, kb, rfl, gb, K, V_b⟩, -⟩ := own_q
  show OwG p e below s _ _ _ _ T (mkF m 4 #[.val (.ref a), .val (.int 0), .val (.int (Int32.ofNat n)), .unset, .unset] [(.ref b)])
  clear own_e
  have ne_a_b : a ≠ b := Nat.ne_of_lt (Nat.lt_of_lt_of_le V_a.lt (Nat.le_of_eq gb.symm))
  have ne_b_a := Ne.symm ne_a_b
  have g_b : n0 ≤ b := Nat.le_trans Z0 (Nat.le_of_eq gb.symm)
  have sz_b : h0.size ≤ b := Nat.le_trans KP.1 (Nat.le_of_eq gb.symm)
  replace V_a := V_a.keep K nin0
  replace Z0 := Nat.le_trans Z0 K.1
  replace OL := OL.keep K all0
  replace KP := KP.trans K all0
  refine OwG.ac (mkF m 8 #[.val (.ref a), .val (.int 0), .val (.int (Int32.ofNat n)), .val (.ref b), .val (.int 0)] []) (fun tQ kQ => ?_) ?_
  · refine XS.astoreN P.here hx rfl (dc d46_4) rfl rfl (l' := #[.val (.ref a), .val (.int 0), .val (.int (Int32.ofNat n)), .val (.ref b), .unset]) rfl ?_
    refine XS.iconst P.here hx rfl (dc d46_5) ?_
    exact XS.istore P.here hx rfl (dc d46_6) rfl (l' := #[.val (.ref a), .val (.int 0), .val (.int (Int32.ofNat n)), .val (.ref b), .val (.int 0)]) rfl kQ
  have lp : ∀ (k i : Nat) (T : State) (hL_lp : Heap), i + k = n → OwP p l e ({ frames := 2, cells := 1, slots := 2 * n, locals := 26 } : Room) s m #[(.ref a), (.int 0), (.int (Int32.ofNat n))] below meth cD n0 T hL_lp 1 (0 + (2 * n)) → (n0 ≤ hL_lp.size) → (Old Z n0 hL_lp) → (Keep h0 hL_lp []) → (Arv Z hL_lp a ka .char (Int32.ofNat n) (cs.map Value.int) da) → (Arv Z hL_lp b kb .byte (Int32.ofNat (2 * n)) (own_wb cs n i) (.int 0)) → OwG p e below s n0 ({ frames := 2, cells := 1, slots := 2 * n, locals := 26 } : Room).cells ({ frames := 2, cells := 1, slots := 2 * n, locals := 26 } : Room).slots (fun v h => ∃ (b : Addr) (kb : ClassId), v = some (.ref b) ∧ b = h0.size ∧ Keep h0 h [] ∧ Arv Z h b kb .byte (Int32.ofNat (2 * n)) (StrChars.Road.wideBytes cs) (.int 0)) T (mkF m 8 #[.val (.ref a), .val (.int (Int32.ofNat i)), .val (.int (Int32.ofNat n)), .val (.ref b), .val (.int (Int32.ofNat i))] []) := by
   intro k
   induction k with
   | zero =>
    intro i T hL_lp  hik P Z0 OL KP V_a V_b
    refine OwG.ac (mkF m 11 #[.val (.ref a), .val (.int (Int32.ofNat i)), .val (.int (Int32.ofNat n)), .val (.ref b), .val (.int (Int32.ofNat i))] [(.int (Int32.ofNat n)), (.int (Int32.ofNat i))]) (fun tQ kQ => ?_) ?_
    · refine XS.iload P.here hx rfl (dc d46_8) rfl ?_
      exact XS.iloadN P.here hx rfl (dc d46_10) rfl kQ
    have own_i : i = n := by omega
    refine OwG.ac (mkF m 33 #[.val (.ref a), .val (.int (Int32.ofNat i)), .val (.int (Int32.ofNat n)), .val (.ref b), .val (.int (Int32.ofNat i))] [(.ref b)]) (fun tQ kQ => ?_) ?_
    · refine XS.icmpYes P.here hx rfl (pc0 := 11) (pc' := 32) rfl (dc d46_11) rfl (flt (own_nlt (by omega) (by omega))).2.1 (by decide) (by decide) ?_
      exact XS.aloadN P.here hx rfl (dc d46_32) rfl rfl kQ
    rw [own_i, own_wb_end hn] at V_b
    exact P.retR hx hlk hret rfl rfl (dc d46_33) (by first | omega | (dsimp only [room_1] <;> omega)) (by first | omega | (dsimp only [room_1] <;> omega)) ⟨b, kb, rfl, gb, KP, V_b⟩
   | succ k ih =>
    intro i T hL_lp  hik P Z0 OL KP V_a V_b
    refine OwG.ac (mkF m 19 #[.val (.ref a), .val (.int (Int32.ofNat i)), .val (.int (Int32.ofNat n)), .val (.ref b), .val (.int (Int32.ofNat i))] [(.int (Int32.ofNat i)), (.ref a), (.int (Int32.ofNat i)), (.ref b)]) (fun tQ kQ => ?_) ?_
    · refine XS.iload P.here hx rfl (dc d46_8) rfl ?_
      refine XS.iloadN P.here hx rfl (dc d46_10) rfl ?_
      refine XS.icmpNo P.here hx rfl (dc d46_11) rfl (tlt (own_lt (by omega) (by omega))).2.1 ?_
      refine XS.aloadN P.here hx rfl (dc d46_14) rfl rfl ?_
      refine XS.iload P.here hx rfl (dc d46_15) rfl ?_
      refine XS.aloadN P.here hx rfl (dc d46_17) rfl rfl ?_
      exact XS.iloadN P.here hx rfl (dc d46_18) rfl kQ
    obtain ⟨own_cl, own_A, own_q1, own_S, own_M, own_H, own_U⟩ := id V_a
    obtain ⟨own_L, own_X, own_e, own_N⟩ := id P
    have own_Z := hZ
    have own_in := inb_of own_S (j := (Int32.ofNat i)) ⟨own_nn (by omega), own_lt (by omega) (by omega)⟩
    refine OwG.ac (mkF m 20 #[.val (.ref a), .val (.int (Int32.ofNat i)), .val (.int (Int32.ofNat n)), .val (.ref b), .val (.int (Int32.ofNat i))] [(.int (cs.getD i 0)), (.int (Int32.ofNat i)), (.ref b)]) (fun tQ kQ => ?_) ?_
    · exact own_X.caload hx (j := (Int32.ofNat i)) (v := (.int (cs.getD i 0))) (by rw [own_e]; exact own_A.1) (State.isArrayOf_alike own_Z.alike own_A.2.1) own_A.2.2 own_in (Has.at own_H own_in (own_chat (by omega) (by omega))) (g := (mkF m 19 #[.val (.ref a), .val (.int (Int32.ofNat i)), .val (.int (Int32.ofNat n)), .val (.ref b), .val (.int (Int32.ofNat i))] [(.int (Int32.ofNat i)), (.ref a), (.int (Int32.ofNat i)), (.ref b)])) rfl rfl (dc d46_19) _ kQ
    refine P.stat hx hZ hown (own_w hw 238 rfl) (own_w hw 239 rfl) (own_w hw 145 rfl) (own_w hw 240 rfl) (by decide) (OwM.back (W := 0) (rmPut l Z a0 hw b kb (2 * n) i (cs.getD i 0) _ hL_lp n0 Z0 SA SH SL OL g_b V_b (own_wb_len hn (by omega)) (by omega) (by omega)) hZ (own_w hw 240 rfl) (own_w hw 145 rfl) (own_le rfl) (own_le rfl)) (fun _ _ _ q => q.2) rfl (by rw [hml]; rfl) (argsL := [(.ref b), (.int (Int32.ofNat i)), (.int (cs.getD i 0))]) (rest := []) (lenOf pd___BII_V rfl) rfl (own_le rfl) (dc d46_20) rfl (by first | omega | (dsimp only [room_1] <;> omega)) (by first | omega | (dsimp only [room_1] <;> omega)) fun T own_v own_L h2 own_e P own_q => ?_
    obtain ⟨⟨rfl, K, V_b'⟩, -⟩ := own_q
    clear own_e
    replace V_a := V_a.keep K (ninS ne_a_b nin0)
    replace Z0 := Nat.le_trans Z0 K.1
    replace OL := OL.keep K (allS g_b all0)
    replace KP := KP.trans K (allS (Or.inr sz_b) all0)
    show OwG p e below s _ _ _ _ T (mkF m 23 #[.val (.ref a), .val (.int (Int32.ofNat i)), .val (.int (Int32.ofNat n)), .val (.ref b), .val (.int (Int32.ofNat i))] [])
    rw [own_wb_step hn (by omega)] at V_b'
    have V_b := V_b'
    refine OwG.ac (mkF m 8 #[.val (.ref a), .val (.int ((Int32.ofNat i) + (1 : Int32))), .val (.int (Int32.ofNat n)), .val (.ref b), .val (.int ((Int32.ofNat i) + (1 : Int32)))] []) (fun tQ kQ => ?_) ?_
    · refine XS.iinc P.here hx rfl (dc d46_23) rfl (l' := #[.val (.ref a), .val (.int ((Int32.ofNat i) + (1 : Int32))), .val (.int (Int32.ofNat n)), .val (.ref b), .val (.int (Int32.ofNat i))]) rfl ?_
      refine XS.iinc P.here hx rfl (dc d46_26) rfl (l' := #[.val (.ref a), .val (.int ((Int32.ofNat i) + (1 : Int32))), .val (.int (Int32.ofNat n)), .val (.ref b), .val (.int ((Int32.ofNat i) + (1 : Int32)))]) rfl ?_
      exact XS.goto P.here hx rfl (pc0 := 29) (pc' := 8) rfl (dc d46_29) (by decide) (by decide) kQ
    rw [show ((Int32.ofNat i) + (1 : Int32)) = (Int32.ofNat (i + 1)) from own_succ _]
    exact ih (i + 1) T h2 (by omega) P Z0 OL KP V_a V_b
  exact lp n 0 T h1 (by omega) P Z0 OL KP V_a V_b
abbrev bo28 := jdk_52_method_21_code
theorem d28_0 : decode bo28 0 = .ok (.iconst 0, 1) := by decide +kernel
theorem d28_1 : decode bo28 1 = .ok (.istore 5, 2) := by decide +kernel
theorem d28_3 : decode bo28 3 = .ok (.iload 5, 2) := by decide +kernel
theorem d28_5 : decode bo28 5 = .ok (.iload 4, 2) := by decide +kernel
theorem d28_7 : decode bo28 7 = .ok (.if_icmp .ge 37, 3) := by decide +kernel
theorem d28_44 : decode bo28 44 = .ok (.iload 4, 2) := by decide +kernel
theorem d28_46 : decode bo28 46 = .ok (.ireturn, 1) := by decide +kernel
theorem d28_10 : decode bo28 10 = .ok (.aload_n 0, 1) := by decide +kernel
theorem d28_11 : decode bo28 11 = .ok (.iload_n 1, 1) := by decide +kernel
theorem d28_12 : decode bo28 12 = .ok (.caload, 1) := by decide +kernel
theorem d28_13 : decode bo28 13 = .ok (.istore 6, 2) := by decide +kernel
theorem d28_15 : decode bo28 15 = .ok (.iload 6, 2) := by decide +kernel
theorem d28_17 : decode bo28 17 = .ok (.sipush 255, 3) := by decide +kernel
theorem d28_20 : decode bo28 20 = .ok (.if_icmp .le 6, 3) := by decide +kernel
theorem d28_23 : decode bo28 23 = .ok (.iload 5, 2) := by decide +kernel
theorem d28_25 : decode bo28 25 = .ok (.ireturn, 1) := by decide +kernel
theorem d28_26 : decode bo28 26 = .ok (.aload_n 2, 1) := by decide +kernel
theorem d28_27 : decode bo28 27 = .ok (.iload_n 3, 1) := by decide +kernel
theorem d28_28 : decode bo28 28 = .ok (.iload 6, 2) := by decide +kernel
theorem d28_30 : decode bo28 30 = .ok (.i2b, 1) := by decide +kernel
theorem d28_31 : decode bo28 31 = .ok (.bastore, 1) := by decide +kernel
theorem d28_32 : decode bo28 32 = .ok (.iinc 1 1, 3) := by decide +kernel
theorem d28_35 : decode bo28 35 = .ok (.iinc 3 1, 3) := by decide +kernel
theorem d28_38 : decode bo28 38 = .ok (.iinc 5 1, 3) := by decide +kernel
theorem d28_41 : decode bo28 41 = .ok (.goto (-38), 3) := by decide +kernel
set_option maxRecDepth 65536 in
set_option maxHeartbeats 40000000 in
theorem rmC5 (l : Launch) (Z : State) (a0 : Array Value) (hw : ∀ d ∈ tables_1, d.before a0 Z = true) (a : Addr) (ka : ClassId) (da : Value) (n : Nat) (cs : List Int32) (d : Addr) (kd : ClassId) (h0 : Heap) (n0 : Nat) (Z0 : n0 ≤ h0.size) (V_a : Arv Z h0 a ka .char (Int32.ofNat n) (cs.map Value.int) da) (hn : cs.length = n) (hb : n ≤ 4000) (g_d : n0 ≤ d) (ne_a_d : a ≠ d) (V_d : Arv Z h0 d kd .byte (Int32.ofNat n) (own_lb cs n 0) (.int 0)) :
    OwM l Z (⟨"java/lang/StringUTF16", "compress", "([CI[BII)I"⟩ : MethodName) jdk_52_method_21_code 7 (some .int) ({ frames := 0, cells := 0, slots := 0, locals := 0 } : Room) n0 #[(.ref a), (.int 0), (.ref d), (.int 0), (.int (Int32.ofNat n))] h0 (fun v h => ∃ r : Nat, v = some (.int (Int32.ofNat r)) ∧ Keep h0 h [d] ∧ ((r = n ∧ (∀ c ∈ cs, ¬ (255 : Int32) < c) ∧ Arv Z h d kd .byte (Int32.ofNat n) (cs.map fun c => Value.int (StrChars.lo8 c)) (.int 0)) ∨ (r < n ∧ (255 : Int32) < cs.getD r 0))) := by
  refine OwM.mk (plainFor_of_name pn_java_lang_StringUTF16) ?_
  intro p e s m below meth cD T hx hby hml hown hnm hret hlk hZ P
  have dc := @Jvm.hb cD _ hby
  refine OwG.cast (g' := mkF m 0 #[.val (.ref a), .val (.int 0), .val (.ref d), .val (.int 0), .val (.int (Int32.ofNat n)), .unset, .unset] []) (by first | (simp [entryFrame, mkF, argsToLocals, Value.category]; done) | rfl) ?_
  have KP := Keep.refl h0 [d]
  refine OwG.ac (mkF m 3 #[.val (.ref a), .val (.int 0), .val (.ref d), .val (.int 0), .val (.int (Int32.ofNat n)), .val (.int 0), .unset] []) (fun tQ kQ => ?_) ?_
  · refine XS.iconst P.here hx rfl (dc d28_0) ?_
    exact XS.istore P.here hx rfl (dc d28_1) rfl (l' := #[.val (.ref a), .val (.int 0), .val (.ref d), .val (.int 0), .val (.int (Int32.ofNat n)), .val (.int 0), .unset]) rfl kQ
  have lp : ∀ (k i : Nat) (T : State) (hL_lp : Heap) (s6 : Slot), i + k = n → OwP p l e ({ frames := 0, cells := 0, slots := 0, locals := 0 } : Room) s m #[(.ref a), (.int 0), (.ref d), (.int 0), (.int (Int32.ofNat n))] below meth cD n0 T hL_lp 0 0 → (n0 ≤ hL_lp.size) → (Keep h0 hL_lp [d]) → (Arv Z hL_lp a ka .char (Int32.ofNat n) (cs.map Value.int) da) → (Arv Z hL_lp d kd .byte (Int32.ofNat n) (own_lb cs n i) (.int 0)) → (s6 = .unset ∨ ∃ w, s6 = .val w ∧ w.category = 1) → (∀ j, j < i → ¬ (255 : Int32) < cs.getD j 0) → OwG p e below s n0 ({ frames := 0, cells := 0, slots := 0, locals := 0 } : Room).cells ({ frames := 0, cells := 0, slots := 0, locals := 0 } : Room).slots (fun v h => ∃ r : Nat, v = some (.int (Int32.ofNat r)) ∧ Keep h0 h [d] ∧ ((r = n ∧ (∀ c ∈ cs, ¬ (255 : Int32) < c) ∧ Arv Z h d kd .byte (Int32.ofNat n) (cs.map fun c => Value.int (StrChars.lo8 c)) (.int 0)) ∨ (r < n ∧ (255 : Int32) < cs.getD r 0))) T (mkF m 3 #[.val (.ref a), .val (.int (Int32.ofNat i)), .val (.ref d), .val (.int (Int32.ofNat i)), .val (.int (Int32.ofNat n)), .val (.int (Int32.ofNat i)), s6] []) := by
   intro k
   induction k with
   | zero =>
    intro i T hL_lp s6 hik P Z0 KP V_a V_d hs6 hle
    refine OwG.ac (mkF m 7 #[.val (.ref a), .val (.int (Int32.ofNat i)), .val (.ref d), .val (.int (Int32.ofNat i)), .val (.int (Int32.ofNat n)), .val (.int (Int32.ofNat i)), s6] [(.int (Int32.ofNat n)), (.int (Int32.ofNat i))]) (fun tQ kQ => ?_) ?_
    · refine XS.iload P.here hx rfl (dc d28_3) rfl ?_
      exact XS.iload P.here hx rfl (dc d28_5) rfl kQ
    have own_i : i = n := by omega
    refine OwG.ac (mkF m 46 #[.val (.ref a), .val (.int (Int32.ofNat i)), .val (.ref d), .val (.int (Int32.ofNat i)), .val (.int (Int32.ofNat n)), .val (.int (Int32.ofNat i)), s6] [(.int (Int32.ofNat n))]) (fun tQ kQ => ?_) ?_
    · refine XS.icmpYes P.here hx rfl (pc0 := 7) (pc' := 44) rfl (dc d28_7) rfl (flt (own_nlt (by omega) (by omega))).2.1 (by decide) (by decide) ?_
      exact XS.iload P.here hx rfl (dc d28_44) rfl kQ
    rw [own_i, own_lb_end hn] at V_d
    exact P.retI hx hlk hret (dc d28_46) (own_le rfl) (own_le rfl) ⟨n, rfl, KP, Or.inl ⟨rfl, own_all hn (fun j hj => hle j (by omega)), V_d⟩⟩
   | succ k ih =>
    intro i T hL_lp s6 hik P Z0 KP V_a V_d hs6 hle
    refine OwG.ac (mkF m 12 #[.val (.ref a), .val (.int (Int32.ofNat i)), .val (.ref d), .val (.int (Int32.ofNat i)), .val (.int (Int32.ofNat n)), .val (.int (Int32.ofNat i)), s6] [(.int (Int32.ofNat i)), (.ref a)]) (fun tQ kQ => ?_) ?_
    · refine XS.iload P.here hx rfl (dc d28_3) rfl ?_
      refine XS.iload P.here hx rfl (dc d28_5) rfl ?_
      refine XS.icmpNo P.here hx rfl (dc d28_7) rfl (tlt (own_lt (by omega) (by omega))).2.1 ?_
      refine XS.aloadN P.here hx rfl (dc d28_10) rfl rfl ?_
      exact XS.iloadN P.here hx rfl (dc d28_11) rfl kQ
    obtain ⟨own_cl, own_A, own_q1, own_S, own_M, own_H, own_U⟩ := id V_a
    obtain ⟨own_L, own_X, own_e, own_N⟩ := id P
    have own_Z := hZ
    have own_in := inb_of own_S (j := (Int32.ofNat i)) ⟨own_nn (by omega), own_lt (by omega) (by omega)⟩
    refine OwG.ac (mkF m 20 #[.val (.ref a), .val (.int (Int32.ofNat i)), .val (.ref d), .val (.int (Int32.ofNat i)), .val (.int (Int32.ofNat n)), .val (.int (Int32.ofNat i)), .val (.int (cs.getD i 0))] [(.int 255), (.int (cs.getD i 0))]) (fun tQ kQ => ?_) ?_
    · refine own_X.caload hx (j := (Int32.ofNat i)) (v := (.int (cs.getD i 0))) (by rw [own_e]; exact own_A.1) (State.isArrayOf_alike own_Z.alike own_A.2.1) own_A.2.2 own_in (Has.at own_H own_in (own_chat (by omega) (by omega))) (g := (mkF m 12 #[.val (.ref a), .val (.int (Int32.ofNat i)), .val (.ref d), .val (.int (Int32.ofNat i)), .val (.int (Int32.ofNat n)), .val (.int (Int32.ofNat i)), s6] [(.int (Int32.ofNat i)), (.ref a)])) rfl rfl (dc d28_12) _ ?_
      refine XS.istore P.here hx rfl (dc d28_13) rfl (l' := #[.val (.ref a), .val (.int (Int32.ofNat i)), .val (.ref d), .val (.int (Int32.ofNat i)), .val (.int (Int32.ofNat n)), .val (.int (Int32.ofNat i)), .val (.int (cs.getD i 0))]) (XS.store1 rfl hs6 rfl) ?_
      refine XS.iload P.here hx rfl (dc d28_15) rfl ?_
      exact XS.sipush P.here hx rfl (dc d28_17) kQ
    by_cases hc20 : (255 : Int32) < (cs.getD i 0)
    ·skip
     refine OwG.ac (mkF m 25 #[.val (.ref a), .val (.int (Int32.ofNat i)), .val (.ref d), .val (.int (Int32.ofNat i)), .val (.int (Int32.ofNat n)), .val (.int (Int32.ofNat i)), .val (.int (cs.getD i 0))] [(.int (Int32.ofNat i))]) (fun tQ kQ => ?_) ?_
     · refine XS.icmpNo P.here hx rfl (dc d28_20) rfl (tlt hc20).2.2.2 ?_
       exact XS.iload P.here hx rfl (dc d28_23) rfl kQ
     exact P.retI hx hlk hret (dc d28_25) (own_le rfl) (own_le rfl) ⟨i, rfl, KP, Or.inr ⟨by omega, hc20⟩⟩
    ·skip
     refine OwG.ac (mkF m 31 #[.val (.ref a), .val (.int (Int32.ofNat i)), .val (.ref d), .val (.int (Int32.ofNat i)), .val (.int (Int32.ofNat n)), .val (.int (Int32.ofNat i)), .val (.int (cs.getD i 0))] [(.int ((cs.getD i 0).toInt8.toInt32)), (.int (Int32.ofNat i)), (.ref d)]) (fun tQ kQ => ?_) ?_
     · refine XS.icmpYes P.here hx rfl (pc0 := 20) (pc' := 26) rfl (dc d28_20) rfl (flt hc20).2.2.2 (by decide) (by decide) ?_
       refine XS.aloadN P.here hx rfl (dc d28_26) rfl rfl ?_
       refine XS.iloadN P.here hx rfl (dc d28_27) rfl ?_
       refine XS.iload P.here hx rfl (dc d28_28) rfl ?_
       exact XS.i2b P.here hx rfl (dc d28_30) rfl kQ
     refine P.stB hx hZ V_d (j := (Int32.ofNat i)) (own_nn (by omega)) (own_lt (by omega) (by omega)) (i := i) (own_tc (by omega)) (by rw [own_lb_len hn (by omega)]; omega) rfl rfl (dc d28_31) g_d fun T h1 P W V' => ?_
     replace V_a := V_a.other W ne_a_d
     replace Z0 := Nat.le_trans Z0 (Keep.of_wr W).1
     replace KP := KP.wr W (Or.inl (List.mem_of_getElem? (i := 0) rfl))
     replace V_d := V'
     clear W V'
     show OwG p e below s _ _ _ _ T (mkF m 32 #[.val (.ref a), .val (.int (Int32.ofNat i)), .val (.ref d), .val (.int (Int32.ofNat i)), .val (.int (Int32.ofNat n)), .val (.int (Int32.ofNat i)), .val (.int (cs.getD i 0))] [])
     rw [own_i2b2] at V_d
     replace V_d : Arv Z h1 d kd .byte (Int32.ofNat n) ((own_lb cs n i).set i (.int (StrChars.lo8 (cs.getD i 0)))) (.int 0) := V_d
     rw [own_lb_step hn (by omega)] at V_d
     refine OwG.ac (mkF m 3 #[.val (.ref a), .val (.int ((Int32.ofNat i) + (1 : Int32))), .val (.ref d), .val (.int ((Int32.ofNat i) + (1 : Int32))), .val (.int (Int32.ofNat n)), .val (.int ((Int32.ofNat i) + (1 : Int32))), .val (.int (cs.getD i 0))] []) (fun tQ kQ => ?_) ?_
     · refine XS.iinc P.here hx rfl (dc d28_32) rfl (l' := #[.val (.ref a), .val (.int ((Int32.ofNat i) + (1 : Int32))), .val (.ref d), .val (.int (Int32.ofNat i)), .val (.int (Int32.ofNat n)), .val (.int (Int32.ofNat i)), .val (.int (cs.getD i 0))]) rfl ?_
       refine XS.iinc P.here hx rfl (dc d28_35) rfl (l' := #[.val (.ref a), .val (.int ((Int32.ofNat i) + (1 : Int32))), .val (.ref d), .val (.int ((Int32.ofNat i) + (1 : Int32))), .val (.int (Int32.ofNat n)), .val (.int (Int32.ofNat i)), .val (.int (cs.getD i 0))]) rfl ?_
       refine XS.iinc P.here hx rfl (dc d28_38) rfl (l' := #[.val (.ref a), .val (.int ((Int32.ofNat i) + (1 : Int32))), .val (.ref d), .val (.int ((Int32.ofNat i) + (1 : Int32))), .val (.int (Int32.ofNat n)), .val (.int ((Int32.ofNat i) + (1 : Int32))), .val (.int (cs.getD i 0))]) rfl ?_
       exact XS.goto P.here hx rfl (pc0 := 41) (pc' := 3) rfl (dc d28_41) (by decide) (by decide) kQ
     rw [show ((Int32.ofNat i) + (1 : Int32)) = (Int32.ofNat (i + 1)) from own_succ _]
     exact ih (i + 1) T h1 _ (by omega) P Z0 KP V_a V_d (Or.inr ⟨_, rfl, rfl⟩) (fun j hj => (Nat.lt_succ_iff_lt_or_eq.mp hj).elim (hle j) (fun q => by rw [q]; exact hc20))
  exact lp n 0 T h0 _ (by omega) P Z0 KP V_a V_d (Or.inl rfl) (fun j hj => absurd hj (Nat.not_lt_zero j))
abbrev bo27 := jdk_52_method_16_code
theorem d27_0 : decode bo27 0 = .ok (.iload_n 2, 1) := by decide +kernel
theorem d27_1 : decode bo27 1 = .ok (.newarray .byte, 2) := by decide +kernel
theorem d27_3 : decode bo27 3 = .ok (.astore_n 3, 1) := by decide +kernel
theorem d27_4 : decode bo27 4 = .ok (.aload_n 0, 1) := by decide +kernel
theorem d27_5 : decode bo27 5 = .ok (.iload_n 1, 1) := by decide +kernel
theorem d27_6 : decode bo27 6 = .ok (.aload_n 3, 1) := by decide +kernel
theorem d27_7 : decode bo27 7 = .ok (.iconst 0, 1) := by decide +kernel
theorem d27_8 : decode bo27 8 = .ok (.iload_n 2, 1) := by decide +kernel
theorem d27_9 : decode bo27 9 = .ok (.invokestatic 115, 3) := by decide +kernel
theorem pd___CI_BII_I : parseMethodDescriptor "([CI[BII)I" = some ⟨[(.array .char), .int, (.array .byte), .int, .int], some .int⟩ := by decide +kernel
theorem d27_12 : decode bo27 12 = .ok (.istore 4, 2) := by decide +kernel
theorem d27_14 : decode bo27 14 = .ok (.iload 4, 2) := by decide +kernel
theorem d27_16 : decode bo27 16 = .ok (.iload_n 2, 1) := by decide +kernel
theorem d27_17 : decode bo27 17 = .ok (.if_icmp .eq 40, 3) := by decide +kernel
theorem d27_57 : decode bo27 57 = .ok (.aload_n 3, 1) := by decide +kernel
theorem d27_58 : decode bo27 58 = .ok (.areturn, 1) := by decide +kernel
theorem d27_20 : decode bo27 20 = .ok (.aload_n 0, 1) := by decide +kernel
theorem d27_21 : decode bo27 21 = .ok (.iload_n 1, 1) := by decide +kernel
theorem d27_22 : decode bo27 22 = .ok (.iload_n 2, 1) := by decide +kernel
theorem d27_23 : decode bo27 23 = .ok (.invokestatic 119, 3) := by decide +kernel
theorem pd___CII__B : parseMethodDescriptor "([CII)[B" = some ⟨[(.array .char), .int, .int], some (.array .byte)⟩ := by decide +kernel
theorem d27_26 : decode bo27 26 = .ok (.astore 5, 2) := by decide +kernel
theorem d27_28 : decode bo27 28 = .ok (.aload 5, 2) := by decide +kernel
theorem d27_30 : decode bo27 30 = .ok (.iload 4, 2) := by decide +kernel
theorem d27_32 : decode bo27 32 = .ok (.invokestatic 71, 3) := by decide +kernel
theorem pd___BI_C : parseMethodDescriptor "([BI)C" = some ⟨[(.array .byte), .int], some .char⟩ := by decide +kernel
theorem d27_35 : decode bo27 35 = .ok (.sipush 255, 3) := by decide +kernel
theorem d27_38 : decode bo27 38 = .ok (.if_icmp .gt 16, 3) := by decide +kernel
theorem d27_54 : decode bo27 54 = .ok (.aload 5, 2) := by decide +kernel
theorem d27_56 : decode bo27 56 = .ok (.areturn, 1) := by decide +kernel
set_option maxRecDepth 65536 in
set_option maxHeartbeats 40000000 in
theorem rmC3 (l : Launch) (Z : State) (a0 : Array Value) (hw : ∀ d ∈ tables_1, d.before a0 Z = true) (a : Addr) (ka : ClassId) (da : Value) (n : Nat) (cs : List Int32) (h0 : Heap) (n0 : Nat) (Z0 : n0 ≤ h0.size) (SA : Sta Z Z.heap "java/lang/StringUTF16" "$assertionsDisabled" "Z" (.int 1)) (SH : Sta Z Z.heap "java/lang/StringUTF16" "HI_BYTE_SHIFT" "I" (.int 0)) (SL : Sta Z Z.heap "java/lang/StringUTF16" "LO_BYTE_SHIFT" "I" (.int 8)) (OL : Old Z n0 h0) (V_a : Arv Z h0 a ka .char (Int32.ofNat n) (cs.map Value.int) da) (hn : cs.length = n) (hb : n ≤ 4000) (h0n : 0 < n) (hp : ∀ c ∈ cs, ¬ c < 0 ∧ ¬ (65535 : Int32) < c) :
    OwM l Z (⟨"java/lang/StringUTF16", "compress", "([CII)[B"⟩ : MethodName) jdk_52_method_16_code 6 (some (.array .byte)) ({ frames := 3, cells := 2, slots := 3 * n, locals := 42 } : Room) n0 #[(.ref a), (.int 0), (.int (Int32.ofNat n))] h0 (fun v h => ∃ (t : Addr) (kt : ClassId) (cd N2 : Int32) (vs : List Value), v = some (.ref t) ∧ h0.size ≤ t ∧ Keep h0 h [] ∧ Arv Z h t kt .byte N2 vs (.int 0) ∧ StrChars.Road.CodA cs cd N2 vs) := by
  refine OwM.mk (plainFor_of_name pn_java_lang_StringUTF16) ?_
  intro p e s m below meth cD T hx hby hml hown hnm hret hlk hZ P
  have dc := @Jvm.hb cD _ hby
  refine OwG.cast (g' := mkF m 0 #[.val (.ref a), .val (.int 0), .val (.int (Int32.ofNat n)), .unset, .unset, .unset] []) (by first | (simp [entryFrame, mkF, argsToLocals, Value.category]; done) | rfl) ?_
  have KP := Keep.refl h0 []
  refine OwG.ac (mkF m 1 #[.val (.ref a), .val (.int 0), .val (.int (Int32.ofNat n)), .unset, .unset, .unset] [(.int (Int32.ofNat n))]) (fun tQ kQ => ?_) ?_
  · exact XS.iloadN P.here hx rfl (dc d27_0) rfl kQ
  refine P.newP hx hZ (own_w hw 15 rfl) rfl (dc d27_1) rfl (own_nn (by omega)) (cap := n) (Nat.le_of_eq (own_tc (by omega))) (by omega) (by first | omega | (dsimp only [room_1] <;> omega)) (by first | omega | (dsimp only [room_1] <;> omega)) fun T h1 b kb gb P E V_b => ?_
  have ne_a_b : a ≠ b := Nat.ne_of_lt (Nat.lt_of_lt_of_le V_a.lt (Nat.le_of_eq gb.symm))
  have ne_b_a := Ne.symm ne_a_b
  have g_b : n0 ≤ b := Nat.le_trans Z0 (Nat.le_of_eq gb.symm)
  have sz_b : h0.size ≤ b := Nat.le_trans KP.1 (Nat.le_of_eq gb.symm)
  replace V_a := V_a.ext E
  replace Z0 := Nat.le_trans Z0 E.1
  replace OL := OL.ext E
  replace KP := KP.ext E
  clear E
  replace V_b : Arv Z h1 b kb .byte (Int32.ofNat n) (List.replicate n (.int 0)) (.int 0) := V_b.pad (pad_rep [] (.int 0) n)
  show OwG p e below s _ _ _ _ T (mkF m 3 #[.val (.ref a), .val (.int 0), .val (.int (Int32.ofNat n)), .unset, .unset, .unset] [(.ref b)])
  refine OwG.ac (mkF m 9 #[.val (.ref a), .val (.int 0), .val (.int (Int32.ofNat n)), .val (.ref b), .unset, .unset] [(.int (Int32.ofNat n)), (.int 0), (.ref b), (.int 0), (.ref a)]) (fun tQ kQ => ?_) ?_
  · refine XS.astoreN P.here hx rfl (dc d27_3) rfl rfl (l' := #[.val (.ref a), .val (.int 0), .val (.int (Int32.ofNat n)), .val (.ref b), .unset, .unset]) rfl ?_
    refine XS.aloadN P.here hx rfl (dc d27_4) rfl rfl ?_
    refine XS.iloadN P.here hx rfl (dc d27_5) rfl ?_
    refine XS.aloadN P.here hx rfl (dc d27_6) rfl rfl ?_
    refine XS.iconst P.here hx rfl (dc d27_7) ?_
    exact XS.iloadN P.here hx rfl (dc d27_8) rfl kQ
  refine P.stat hx hZ hown (own_w hw 147 rfl) (own_w hw 148 rfl) (own_w hw 145 rfl) (own_w hw 149 rfl) (by decide) (OwM.back (W := 0) (rmC5 l Z a0 hw a ka da n cs b kb h1 n0 Z0 V_a hn hb g_b ne_a_b V_b) hZ (own_w hw 149 rfl) (own_w hw 145 rfl) (own_le rfl) (own_le rfl)) (fun _ _ _ q => q.2) rfl (by rw [hml]; rfl) (argsL := [(.ref a), (.int 0), (.ref b), (.int 0), (.int (Int32.ofNat n))]) (rest := []) (lenOf pd___CI_BII_I rfl) rfl (own_le rfl) (dc d27_9) rfl (by first | omega | (dsimp only [room_1] <;> omega)) (by first | omega | (dsimp only [room_1] <;> omega)) fun T own_v own_L h2 own_e P own_q => ?_
  obtain ⟨⟨r, rfl, K, hr⟩, -⟩ := own_q
  clear own_e
  replace V_a := V_a.keep K (ninS ne_a_b nin0)
  replace Z0 := Nat.le_trans Z0 K.1
  replace OL := OL.keep K (allS g_b all0)
  replace KP := KP.trans K (allS (Or.inr sz_b) all0)
  show OwG p e below s _ _ _ _ T (mkF m 12 #[.val (.ref a), .val (.int 0), .val (.int (Int32.ofNat n)), .val (.ref b), .unset, .unset] [(.int (Int32.ofNat r))])
  refine OwG.ac (mkF m 17 #[.val (.ref a), .val (.int 0), .val (.int (Int32.ofNat n)), .val (.ref b), .val (.int (Int32.ofNat r)), .unset] [(.int (Int32.ofNat n)), (.int (Int32.ofNat r))]) (fun tQ kQ => ?_) ?_
  · refine XS.istore P.here hx rfl (dc d27_12) rfl (l' := #[.val (.ref a), .val (.int 0), .val (.int (Int32.ofNat n)), .val (.ref b), .val (.int (Int32.ofNat r)), .unset]) rfl ?_
    refine XS.iload P.here hx rfl (dc d27_14) rfl ?_
    exact XS.iloadN P.here hx rfl (dc d27_16) rfl kQ
  rcases hr with ⟨rfl, hall, V_b'⟩ | ⟨hr, hbig⟩
  ·skip
   refine OwG.ac (mkF m 58 #[.val (.ref a), .val (.int 0), .val (.int (Int32.ofNat r)), .val (.ref b), .val (.int (Int32.ofNat r)), .unset] [(.ref b)]) (fun tQ kQ => ?_) ?_
   · refine XS.icmpYes P.here hx rfl (pc0 := 17) (pc' := 57) rfl (dc d27_17) rfl (teq rfl).1 (by decide) (by decide) ?_
     exact XS.aloadN P.here hx rfl (dc d27_57) rfl rfl kQ
   exact P.retR hx hlk hret rfl rfl (dc d27_58) (by first | omega | (dsimp only [room_1] <;> omega)) (by first | omega | (dsimp only [room_1] <;> omega)) ⟨b, kb, 0, _, _, rfl, sz_b, KP, V_b', Or.inl ⟨rfl, by rw [hn], rfl, hall⟩⟩
  ·skip
   refine OwG.ac (mkF m 23 #[.val (.ref a), .val (.int 0), .val (.int (Int32.ofNat n)), .val (.ref b), .val (.int (Int32.ofNat r)), .unset] [(.int (Int32.ofNat n)), (.int 0), (.ref a)]) (fun tQ kQ => ?_) ?_
   · refine XS.icmpNo P.here hx rfl (dc d27_17) rfl (feq (own_ne32 (by omega) (by omega) (by omega))).1 ?_
     refine XS.aloadN P.here hx rfl (dc d27_20) rfl rfl ?_
     refine XS.iloadN P.here hx rfl (dc d27_21) rfl ?_
     exact XS.iloadN P.here hx rfl (dc d27_22) rfl kQ
   refine P.stat hx hZ hown (own_w hw 228 rfl) (own_w hw 229 rfl) (own_w hw 145 rfl) (own_w hw 230 rfl) (by decide) (OwM.back (W := 0) (rmTob l Z a0 hw a ka da n cs h2 n0 Z0 SA SH SL OL V_a hn hb) hZ (own_w hw 230 rfl) (own_w hw 145 rfl) (own_le rfl) (own_le rfl)) (fun _ _ _ q => q.2) rfl (by rw [hml]; rfl) (argsL := [(.ref a), (.int 0), (.int (Int32.ofNat n))]) (rest := []) (lenOf pd___CII__B rfl) rfl (own_le rfl) (dc d27_23) rfl (by first | omega | (dsimp only [room_1] <;> omega)) (by first | omega | (dsimp only [room_1] <;> omega)) fun T own_v own_L h3 own_e P own_q => ?_
   obtain ⟨⟨t, kt, rfl, gt, K, V_t⟩, -⟩ := own_q
   show OwG p e below s _ _ _ _ T (mkF m 26 #[.val (.ref a), .val (.int 0), .val (.int (Int32.ofNat n)), .val (.ref b), .val (.int (Int32.ofNat r)), .unset] [(.ref t)])
   clear own_e
   have ne_a_t : a ≠ t := Nat.ne_of_lt (Nat.lt_of_lt_of_le V_a.lt (Nat.le_of_eq gt.symm))
   have ne_t_a := Ne.symm ne_a_t
   have g_t : n0 ≤ t := Nat.le_trans Z0 (Nat.le_of_eq gt.symm)
   have sz_t : h0.size ≤ t := Nat.le_trans KP.1 (Nat.le_of_eq gt.symm)
   replace V_a := V_a.keep K nin0
   replace Z0 := Nat.le_trans Z0 K.1
   replace OL := OL.keep K all0
   replace KP := KP.trans K all0
   refine OwG.ac (mkF m 32 #[.val (.ref a), .val (.int 0), .val (.int (Int32.ofNat n)), .val (.ref b), .val (.int (Int32.ofNat r)), .val (.ref t)] [(.int (Int32.ofNat r)), (.ref t)]) (fun tQ kQ => ?_) ?_
   · refine XS.astore P.here hx rfl (dc d27_26) rfl rfl (l' := #[.val (.ref a), .val (.int 0), .val (.int (Int32.ofNat n)), .val (.ref b), .val (.int (Int32.ofNat r)), .val (.ref t)]) rfl ?_
     refine XS.aload P.here hx rfl (dc d27_28) rfl rfl ?_
     exact XS.iload P.here hx rfl (dc d27_30) rfl kQ
   refine P.stat hx hZ hown (own_w hw 244 rfl) (own_w hw 245 rfl) (own_w hw 145 rfl) (own_w hw 246 rfl) (by decide) (OwM.back (W := 0) (rmGet l Z a0 hw t kt n r cs h3 n0 Z0 SA SH SL OL V_t hn hb hr hp) hZ (own_w hw 246 rfl) (own_w hw 145 rfl) (own_le rfl) (own_le rfl)) (fun _ _ _ q => q.2) rfl (by rw [hml]; rfl) (argsL := [(.ref t), (.int (Int32.ofNat r))]) (rest := []) (lenOf pd___BI_C rfl) rfl (own_le rfl) (dc d27_32) rfl (by first | omega | (dsimp only [room_1] <;> omega)) (by first | omega | (dsimp only [room_1] <;> omega)) fun T own_v own_L h4 own_e P own_q => ?_
   obtain ⟨⟨rfl, own_hh⟩, -⟩ := own_q
   rw [own_hh] at P
   clear own_e own_hh
   show OwG p e below s _ _ _ _ T (mkF m 35 #[.val (.ref a), .val (.int 0), .val (.int (Int32.ofNat n)), .val (.ref b), .val (.int (Int32.ofNat r)), .val (.ref t)] [(.int (cs.getD r 0))])
   refine OwG.ac (mkF m 56 #[.val (.ref a), .val (.int 0), .val (.int (Int32.ofNat n)), .val (.ref b), .val (.int (Int32.ofNat r)), .val (.ref t)] [(.ref t)]) (fun tQ kQ => ?_) ?_
   · refine XS.sipush P.here hx rfl (dc d27_35) ?_
     refine XS.icmpYes P.here hx rfl (pc0 := 38) (pc' := 54) rfl (dc d27_38) rfl (tlt hbig).2.2.1 (by decide) (by decide) ?_
     exact XS.aload P.here hx rfl (dc d27_54) rfl rfl kQ
   exact P.retR hx hlk hret rfl rfl (dc d27_56) (by first | omega | (dsimp only [room_1] <;> omega)) (by first | omega | (dsimp only [room_1] <;> omega)) ⟨t, kt, 1, _, _, rfl, sz_t, KP, V_t, own_wide hn hr hbig⟩
abbrev bo29 := jdk_52_method_15_code
theorem d29_0 : decode bo29 0 = .ok (.iload_n 1, 1) := by decide +kernel
theorem d29_1 : decode bo29 1 = .ok (.aload_n 0, 1) := by decide +kernel
theorem d29_2 : decode bo29 2 = .ok (.arraylength, 1) := by decide +kernel
theorem d29_3 : decode bo29 3 = .ok (.isub, 1) := by decide +kernel
theorem d29_4 : decode bo29 4 = .ok (.bipush 31, 2) := by decide +kernel
theorem d29_6 : decode bo29 6 = .ok (.iushr, 1) := by decide +kernel
theorem d29_7 : decode bo29 7 = .ok (.i2b, 1) := by decide +kernel
theorem d29_8 : decode bo29 8 = .ok (.ireturn, 1) := by decide +kernel
set_option maxRecDepth 65536 in
set_option maxHeartbeats 40000000 in
theorem rmCl (l : Launch) (Z : State) (a0 : Array Value) (hw : ∀ d ∈ tables_1, d.before a0 Z = true) (t : Addr) (kt : ClassId) (cd N2 : Int32) (vs : List Value) (n : Nat) (cs : List Int32) (h0 : Heap) (n0 : Nat) (Z0 : n0 ≤ h0.size) (V_t : Arv Z h0 t kt .byte N2 vs (.int 0)) (hcod : StrChars.Road.CodA cs cd N2 vs) (hn : cs.length = n) (h0n : 0 < n) (hb : n ≤ 4000) :
    OwM l Z (⟨"java/lang/StringUTF16", "coderFromArrayLen", "([BI)B"⟩ : MethodName) jdk_52_method_15_code 2 (some .byte) ({ frames := 0, cells := 0, slots := 0, locals := 0 } : Room) n0 #[(.ref t), (.int (Int32.ofNat n))] h0 (fun v h => v = some (.int cd) ∧ h = h0) := by
  refine OwM.mk (plainFor_of_name pn_java_lang_StringUTF16) ?_
  intro p e s m below meth cD T hx hby hml hown hnm hret hlk hZ P
  have dc := @Jvm.hb cD _ hby
  refine OwG.cast (g' := mkF m 0 #[.val (.ref t), .val (.int (Int32.ofNat n))] []) (by first | (simp [entryFrame, mkF, argsToLocals, Value.category]; done) | rfl) ?_
  refine OwG.ac (mkF m 2 #[.val (.ref t), .val (.int (Int32.ofNat n))] [(.ref t), (.int (Int32.ofNat n))]) (fun tQ kQ => ?_) ?_
  · refine XS.iloadN P.here hx rfl (dc d29_0) rfl ?_
    exact XS.aloadN P.here hx rfl (dc d29_1) rfl rfl kQ
  obtain ⟨own_cl, own_A, own_q1, own_S, own_M, own_H, own_U⟩ := id V_t
  obtain ⟨own_L, own_X, own_e, own_N⟩ := id P
  have own_Z := hZ
  refine OwG.ac (mkF m 8 #[.val (.ref t), .val (.int (Int32.ofNat n))] [(.int (((((Int32.ofNat n) - N2).toUInt32 >>> ((31 : Int32) &&& 31).toUInt32).toInt32).toInt8.toInt32))]) (fun tQ kQ => ?_) ?_
  · refine own_X.arraylength hx (by rw [own_e]; exact own_A.1) (State.isArrayOf_alike own_Z.alike own_A.2.1) (g := (mkF m 2 #[.val (.ref t), .val (.int (Int32.ofNat n))] [(.ref t), (.int (Int32.ofNat n))])) rfl rfl (dc d29_2) _ ?_
    rw [len_of own_S own_M]
    refine XS.isub P.here hx rfl (dc d29_3) rfl ?_
    refine XS.bipush P.here hx rfl (dc d29_4) ?_
    refine XS.iushr P.here hx rfl (dc d29_6) rfl ?_
    exact XS.i2b P.here hx rfl (dc d29_7) rfl kQ
  rw [show (((((Int32.ofNat n) - N2).toUInt32 >>> ((31 : Int32) &&& 31).toUInt32).toInt32).toInt8.toInt32) = cd from own_codN hn h0n hb hcod]
  have own_c := own_cd hcod
  exact P.retN hx hlk (t := .byte) hret (by simp) (dc d29_8) (own_le rfl) (own_le rfl) ⟨by rcases own_c with rfl | rfl <;> rfl, rfl⟩
abbrev bo2 := jdk_42_method_149_code
theorem d2_0 : decode bo2 0 = .ok (.aload_n 0, 1) := by decide +kernel
theorem d2_1 : decode bo2 1 = .ok (.invokespecial 1, 3) := by decide +kernel
theorem d2_4 : decode bo2 4 = .ok (.iload_n 3, 1) := by decide +kernel
theorem d2_5 : decode bo2 5 = .ok (.ifCond .ne 22, 3) := by decide +kernel
theorem d2_27 : decode bo2 27 = .ok (.getstatic 38, 3) := by decide +kernel
theorem d2_30 : decode bo2 30 = .ok (.ifCond .eq 28, 3) := by decide +kernel
theorem d2_33 : decode bo2 33 = .ok (.aload_n 1, 1) := by decide +kernel
theorem d2_34 : decode bo2 34 = .ok (.iload_n 2, 1) := by decide +kernel
theorem d2_35 : decode bo2 35 = .ok (.iload_n 3, 1) := by decide +kernel
theorem d2_36 : decode bo2 36 = .ok (.invokestatic 177, 3) := by decide +kernel
theorem d2_39 : decode bo2 39 = .ok (.astore 5, 2) := by decide +kernel
theorem d2_41 : decode bo2 41 = .ok (.aload_n 0, 1) := by decide +kernel
theorem d2_42 : decode bo2 42 = .ok (.aload 5, 2) := by decide +kernel
theorem d2_44 : decode bo2 44 = .ok (.iload_n 3, 1) := by decide +kernel
theorem d2_45 : decode bo2 45 = .ok (.invokestatic 47, 3) := by decide +kernel
theorem pd___BI_B : parseMethodDescriptor "([BI)B" = some ⟨[(.array .byte), .int], some .byte⟩ := by decide +kernel
theorem d2_48 : decode bo2 48 = .ok (.putfield 15, 3) := by decide +kernel
theorem d2_51 : decode bo2 51 = .ok (.aload_n 0, 1) := by decide +kernel
theorem d2_52 : decode bo2 52 = .ok (.aload 5, 2) := by decide +kernel
theorem d2_54 : decode bo2 54 = .ok (.putfield 9, 3) := by decide +kernel
theorem d2_57 : decode bo2 57 = .ok (.return_, 1) := by decide +kernel
theorem pn_java_lang_String : plainName "java/lang/String" = true := by first | (simp [plainName, overriddenIn]; done) | decide +kernel
set_option maxRecDepth 65536 in
set_option maxHeartbeats 40000000 in
theorem rmN4 (l : Launch) (Z : State) (a0 : Array Value) (hw : ∀ d ∈ tables_1, d.before a0 Z = true) (x : Addr) (a : Addr) (ka : ClassId) (da : Value) (n : Nat) (cs : List Int32) (zC : Int32) (h0 : Heap) (n0 : Nat) (Z0 : n0 ≤ h0.size) (SA : Sta Z Z.heap "java/lang/StringUTF16" "$assertionsDisabled" "Z" (.int 1)) (SH : Sta Z Z.heap "java/lang/StringUTF16" "HI_BYTE_SHIFT" "I" (.int 0)) (SL : Sta Z Z.heap "java/lang/StringUTF16" "LO_BYTE_SHIFT" "I" (.int 8)) (S2 : Sta Z Z.heap "java/lang/String" "COMPACT_STRINGS" "Z" (.int zC)) (hzC : ¬ zC = 0) (OL : Old Z n0 h0) (V_a : Arv Z h0 a ka .char (Int32.ofNat n) (cs.map Value.int) da) (hn : cs.length = n) (hb : n ≤ 4000) (h0n : 0 < n) (hp : ∀ c ∈ cs, ¬ c < 0 ∧ ¬ (65535 : Int32) < c) (g_x : n0 ≤ x) (E_x : Exa Z h0 x "java/lang/String") (F_coder_x : Fld Z h0 x "java/lang/String" "coder" "B" (.int 0)) (F_value_x : Fld Z h0 x "java/lang/String" "value" "[B" .null) (ne_x_a : x ≠ a) :
    OwM l Z (⟨"java/lang/String", "<init>", "([CIILjava/lang/Void;)V"⟩ : MethodName) jdk_42_method_149_code 6 none ({ frames := 4, cells := 2, slots := 3 * n, locals := 59 } : Room) n0 #[(.ref x), (.ref a), (.int 0), (.int (Int32.ofNat n)), .null] h0 (fun v h => v = none ∧ Keep h0 h [x] ∧ ∃ (t : Addr) (kt : ClassId) (cd N2 : Int32) (vs : List Value), h0.size ≤ t ∧ Fld Z h x "java/lang/String" "value" "[B" (.ref t) ∧ Fld Z h x "java/lang/String" "coder" "B" (.int cd) ∧ Arv Z h t kt .byte N2 vs (.int 0) ∧ StrChars.Road.CodA cs cd N2 vs) := by
  refine OwM.mk (plainFor_of_name pn_java_lang_String) ?_
  intro p e s m below meth cD T hx hby hml hown hnm hret hlk hZ P
  have dc := @Jvm.hb cD _ hby
  refine OwG.cast (g' := mkF m 0 #[.val (.ref x), .val (.ref a), .val (.int 0), .val (.int (Int32.ofNat n)), .val .null, .unset] []) (by first | (simp [entryFrame, mkF, argsToLocals, Value.category]; done) | rfl) ?_
  have own_x := E_x.lt
  have KP := Keep.refl h0 [x]
  refine OwG.ac (mkF m 1 #[.val (.ref x), .val (.ref a), .val (.int 0), .val (.int (Int32.ofNat n)), .val .null, .unset] [(.ref x)]) (fun tQ kQ => ?_) ?_
  · exact XS.aloadN P.here hx rfl (dc d2_0) rfl rfl kQ
  refine P.initO hx hZ hown (own_w hw 11 rfl) (own_w hw 12 rfl) (own_w hw 13 rfl) rfl (by rw [hml]; rfl) rfl (dc d2_1) (own_le rfl) (W := 0) (own_le rfl) (own_le rfl) fun T P => ?_
  show OwG p e below s _ _ _ _ T (mkF m 4 #[.val (.ref x), .val (.ref a), .val (.int 0), .val (.int (Int32.ofNat n)), .val .null, .unset] [])
  refine OwG.ac (mkF m 27 #[.val (.ref x), .val (.ref a), .val (.int 0), .val (.int (Int32.ofNat n)), .val .null, .unset] []) (fun tQ kQ => ?_) ?_
  · refine XS.iloadN P.here hx rfl (dc d2_4) rfl ?_
    exact XS.ifYes P.here hx rfl (pc0 := 5) (pc' := 27) rfl (dc d2_5) rfl ((if0 _ _).trans (feq (own_ne32 (n := 0) (by omega) (by omega) (by omega))).2) (by decide) (by decide) kQ
  refine P.getS hx hZ hown (host := "") (Or.inl (own_w hw 36 rfl)) Via.refl (S2.ext OL.2) rfl (dc d2_27) fun T P => ?_
  show OwG p e below s _ _ _ _ T (mkF m 30 #[.val (.ref x), .val (.ref a), .val (.int 0), .val (.int (Int32.ofNat n)), .val .null, .unset] [(.int zC)])
  refine OwG.ac (mkF m 36 #[.val (.ref x), .val (.ref a), .val (.int 0), .val (.int (Int32.ofNat n)), .val .null, .unset] [(.int (Int32.ofNat n)), (.int 0), (.ref a)]) (fun tQ kQ => ?_) ?_
  · refine XS.ifNo P.here hx rfl (dc d2_30) rfl ((if0 _ _).trans (feq hzC).1) ?_
    refine XS.aloadN P.here hx rfl (dc d2_33) rfl rfl ?_
    refine XS.iloadN P.here hx rfl (dc d2_34) rfl ?_
    exact XS.iloadN P.here hx rfl (dc d2_35) rfl kQ
  refine P.stat hx hZ hown (own_w hw 143 rfl) (own_w hw 144 rfl) (own_w hw 145 rfl) (own_w hw 146 rfl) (by decide) (OwM.back (W := 0) (rmC3 l Z a0 hw a ka da n cs h0 n0 Z0 SA SH SL OL V_a hn hb h0n hp) hZ (own_w hw 146 rfl) (own_w hw 145 rfl) (own_le rfl) (own_le rfl)) (fun _ _ _ q => q.2) rfl (by rw [hml]; rfl) (argsL := [(.ref a), (.int 0), (.int (Int32.ofNat n))]) (rest := []) (lenOf pd___CII__B rfl) rfl (own_le rfl) (dc d2_36) rfl (by first | omega | (dsimp only [room_1] <;> omega)) (by first | omega | (dsimp only [room_1] <;> omega)) fun T own_v own_L h1 own_e P own_q => ?_
  obtain ⟨⟨t, kt, cd, N2, vs, rfl, sz_t, K, V_t, hcod⟩, -⟩ := own_q
  clear own_e
  replace E_x := E_x.keep K
  replace F_coder_x := F_coder_x.keep K nin0
  replace F_value_x := F_value_x.keep K nin0
  replace Z0 := Nat.le_trans Z0 K.1
  replace OL := OL.keep K all0
  replace KP := KP.trans K all0
  show OwG p e below s _ _ _ _ T (mkF m 39 #[.val (.ref x), .val (.ref a), .val (.int 0), .val (.int (Int32.ofNat n)), .val .null, .unset] [(.ref t)])
  have ne_t_x : t ≠ x := Nat.ne_of_gt (Nat.lt_of_lt_of_le (show x < h0.size from own_x) sz_t)
  refine OwG.ac (mkF m 45 #[.val (.ref x), .val (.ref a), .val (.int 0), .val (.int (Int32.ofNat n)), .val .null, .val (.ref t)] [(.int (Int32.ofNat n)), (.ref t), (.ref x)]) (fun tQ kQ => ?_) ?_
  · refine XS.astore P.here hx rfl (dc d2_39) rfl rfl (l' := #[.val (.ref x), .val (.ref a), .val (.int 0), .val (.int (Int32.ofNat n)), .val .null, .val (.ref t)]) rfl ?_
    refine XS.aloadN P.here hx rfl (dc d2_41) rfl rfl ?_
    refine XS.aload P.here hx rfl (dc d2_42) rfl rfl ?_
    exact XS.iloadN P.here hx rfl (dc d2_44) rfl kQ
  refine P.stat hx hZ hown (own_w hw 150 rfl) (own_w hw 151 rfl) (own_w hw 145 rfl) (own_w hw 152 rfl) (by decide) (OwM.back (W := 1) (rmCl l Z a0 hw t kt cd N2 vs n cs h1 n0 Z0 V_t hcod hn h0n hb) hZ (own_w hw 152 rfl) (own_w hw 145 rfl) (own_le rfl) (own_le rfl)) (fun _ _ _ q => q.2) rfl (by rw [hml]; rfl) (argsL := [(.ref t), (.int (Int32.ofNat n))]) (rest := [(.ref x)]) (lenOf pd___BI_B rfl) rfl (own_le rfl) (dc d2_45) rfl (by first | omega | (dsimp only [room_1] <;> omega)) (by first | omega | (dsimp only [room_1] <;> omega)) fun T own_v own_L h2 own_e P own_q => ?_
  obtain ⟨⟨rfl, own_hh⟩, -⟩ := own_q
  rw [own_hh] at P
  clear own_e own_hh
  show OwG p e below s _ _ _ _ T (mkF m 48 #[.val (.ref x), .val (.ref a), .val (.int 0), .val (.int (Int32.ofNat n)), .val .null, .val (.ref t)] [(.int cd), (.ref x)])
  have own_c := own_cd hcod
  refine P.putFN hx hZ hown (own_w hw 21 rfl) Via.refl F_coder_x E_x (Or.inr ⟨(own_w hw 17 rfl), rfl, hnm⟩) (own_w hw 2 rfl) (ty := .byte) (v' := (.int cd)) (by decide) (by rcases own_c with rfl | rfl <;> rfl) (by rcases own_c with rfl | rfl <;> rfl) rfl rfl (dc d2_48) g_x fun T h3 P W => ?_
  replace E_x := E_x.wr W
  replace F_coder_x := F_coder_x.same W
  replace F_value_x := F_value_x.other W (Or.inr (slot_ne (Or.inr (own_w hw 16 rfl)) (Or.inr (own_w hw 17 rfl)) (by decide) (t := (.array .byte)) (t' := .byte) (by decide) (by decide)))
  replace V_t := V_t.other W ne_t_x
  replace Z0 := Nat.le_trans Z0 (Keep.of_wr W).1
  replace OL := OL.wr W g_x
  replace KP := KP.wr W (Or.inl (List.mem_of_getElem? (i := 0) rfl))
  clear W
  show OwG p e below s _ _ _ _ T (mkF m 51 #[.val (.ref x), .val (.ref a), .val (.int 0), .val (.int (Int32.ofNat n)), .val .null, .val (.ref t)] [])
  refine OwG.ac (mkF m 54 #[.val (.ref x), .val (.ref a), .val (.int 0), .val (.int (Int32.ofNat n)), .val .null, .val (.ref t)] [(.ref t), (.ref x)]) (fun tQ kQ => ?_) ?_
  · refine XS.aloadN P.here hx rfl (dc d2_51) rfl rfl ?_
    exact XS.aload P.here hx rfl (dc d2_52) rfl rfl kQ
  refine P.putF hx hZ hown (host := "") (Or.inl (own_w hw 20 rfl)) Via.refl F_value_x E_x (Or.inr ⟨(own_w hw 16 rfl), rfl, hnm⟩) (own_w hw 2 rfl) (ty := (.array .byte)) (by decide) rfl rfl rfl rfl (dc d2_54) g_x fun T h4 P W => ?_
  replace E_x := E_x.wr W
  replace F_coder_x := F_coder_x.other W (Or.inr (slot_ne (Or.inr (own_w hw 17 rfl)) (Or.inr (own_w hw 16 rfl)) (by decide) (t := .byte) (t' := (.array .byte)) (by decide) (by decide)))
  replace F_value_x := F_value_x.same W
  replace V_t := V_t.other W ne_t_x
  replace Z0 := Nat.le_trans Z0 (Keep.of_wr W).1
  replace OL := OL.wr W g_x
  replace KP := KP.wr W (Or.inl (List.mem_of_getElem? (i := 0) rfl))
  clear W
  show OwG p e below s _ _ _ _ T (mkF m 57 #[.val (.ref x), .val (.ref a), .val (.int 0), .val (.int (Int32.ofNat n)), .val .null, .val (.ref t)] [])
  exact P.retV hx hlk hret (dc d2_57) (by first | omega | (dsimp only [room_1] <;> omega)) (by first | omega | (dsimp only [room_1] <;> omega)) ⟨rfl, KP, t, kt, cd, N2, vs, sz_t, F_value_x, F_coder_x, V_t, hcod⟩
abbrev bo1 := jdk_42_method_3_code
theorem d1_0 : decode bo1 0 = .ok (.aload_n 0, 1) := by decide +kernel
theorem d1_1 : decode bo1 1 = .ok (.aload_n 1, 1) := by decide +kernel
theorem d1_2 : decode bo1 2 = .ok (.iconst 0, 1) := by decide +kernel
theorem d1_3 : decode bo1 3 = .ok (.aload_n 1, 1) := by decide +kernel
theorem d1_4 : decode bo1 4 = .ok (.arraylength, 1) := by decide +kernel
theorem d1_5 : decode bo1 5 = .ok (.aconst_null, 1) := by decide +kernel
theorem d1_6 : decode bo1 6 = .ok (.invokespecial 27, 3) := by decide +kernel
theorem pd___CIILjava_lang_Void__V : parseMethodDescriptor "([CIILjava/lang/Void;)V" = some ⟨[(.array .char), .int, .int, (.object "java/lang/Void")], none⟩ := by decide +kernel
theorem d1_9 : decode bo1 9 = .ok (.return_, 1) := by decide +kernel
set_option maxRecDepth 65536 in
set_option maxHeartbeats 40000000 in
theorem rmN1 (l : Launch) (Z : State) (a0 : Array Value) (hw : ∀ d ∈ tables_1, d.before a0 Z = true) (x : Addr) (a : Addr) (ka : ClassId) (da : Value) (n : Nat) (cs : List Int32) (zC : Int32) (h0 : Heap) (n0 : Nat) (Z0 : n0 ≤ h0.size) (SA : Sta Z Z.heap "java/lang/StringUTF16" "$assertionsDisabled" "Z" (.int 1)) (SH : Sta Z Z.heap "java/lang/StringUTF16" "HI_BYTE_SHIFT" "I" (.int 0)) (SL : Sta Z Z.heap "java/lang/StringUTF16" "LO_BYTE_SHIFT" "I" (.int 8)) (S2 : Sta Z Z.heap "java/lang/String" "COMPACT_STRINGS" "Z" (.int zC)) (hzC : ¬ zC = 0) (OL : Old Z n0 h0) (V_a : Arv Z h0 a ka .char (Int32.ofNat n) (cs.map Value.int) da) (hn : cs.length = n) (hb : n ≤ 4000) (h0n : 0 < n) (hp : ∀ c ∈ cs, ¬ c < 0 ∧ ¬ (65535 : Int32) < c) (g_x : n0 ≤ x) (E_x : Exa Z h0 x "java/lang/String") (F_coder_x : Fld Z h0 x "java/lang/String" "coder" "B" (.int 0)) (F_value_x : Fld Z h0 x "java/lang/String" "value" "[B" .null) (ne_x_a : x ≠ a) :
    OwM l Z (⟨"java/lang/String", "<init>", "([C)V"⟩ : MethodName) jdk_42_method_3_code 2 none ({ frames := 5, cells := 2, slots := 3 * n, locals := 76 } : Room) n0 #[(.ref x), (.ref a)] h0 (fun v h => v = none ∧ Keep h0 h [x] ∧ ∃ (t : Addr) (kt : ClassId) (cd N2 : Int32) (vs : List Value), h0.size ≤ t ∧ Fld Z h x "java/lang/String" "value" "[B" (.ref t) ∧ Fld Z h x "java/lang/String" "coder" "B" (.int cd) ∧ Arv Z h t kt .byte N2 vs (.int 0) ∧ StrChars.Road.CodA cs cd N2 vs) := by
  refine OwM.mk (plainFor_of_name pn_java_lang_String) ?_
  intro p e s m below meth cD T hx hby hml hown hnm hret hlk hZ P
  have dc := @Jvm.hb cD _ hby
  refine OwG.cast (g' := mkF m 0 #[.val (.ref x), .val (.ref a)] []) (by first | (simp [entryFrame, mkF, argsToLocals, Value.category]; done) | rfl) ?_
  refine OwG.ac (mkF m 4 #[.val (.ref x), .val (.ref a)] [(.ref a), (.int 0), (.ref a), (.ref x)]) (fun tQ kQ => ?_) ?_
  · refine XS.aloadN P.here hx rfl (dc d1_0) rfl rfl ?_
    refine XS.aloadN P.here hx rfl (dc d1_1) rfl rfl ?_
    refine XS.iconst P.here hx rfl (dc d1_2) ?_
    exact XS.aloadN P.here hx rfl (dc d1_3) rfl rfl kQ
  obtain ⟨own_cl, own_A, own_q1, own_S, own_M, own_H, own_U⟩ := id V_a
  obtain ⟨own_L, own_X, own_e, own_N⟩ := id P
  have own_Z := hZ
  refine OwG.ac (mkF m 6 #[.val (.ref x), .val (.ref a)] [.null, (.int (Int32.ofNat n)), (.int 0), (.ref a), (.ref x)]) (fun tQ kQ => ?_) ?_
  · refine own_X.arraylength hx (by rw [own_e]; exact own_A.1) (State.isArrayOf_alike own_Z.alike own_A.2.1) (g := (mkF m 4 #[.val (.ref x), .val (.ref a)] [(.ref a), (.int 0), (.ref a), (.ref x)])) rfl rfl (dc d1_4) _ ?_
    rw [len_of own_S own_M]
    exact XS.aconstNull P.here hx rfl (dc d1_5) kQ
  refine P.special hx hZ rfl hown (own_w hw 7 rfl) (own_w hw 8 rfl) (own_w hw 10 rfl) (by decide) (OwM.back (W := 0) (rmN4 l Z a0 hw x a ka da n cs zC h0 n0 Z0 SA SH SL S2 hzC OL V_a hn hb h0n hp g_x E_x F_coder_x F_value_x ne_x_a) hZ (own_w hw 10 rfl) (own_w hw 3 rfl) (own_le rfl) (own_le rfl)) (fun _ _ _ q => q.2) rfl (by rw [hml]; rfl) (a := x) (argsL := [(.ref a), (.int 0), (.int (Int32.ofNat n)), .null]) (rest := []) (lenOf pd___CIILjava_lang_Void__V rfl) rfl (own_le rfl) (dc d1_6) rfl (by first | omega | (dsimp only [room_1] <;> omega)) (by first | omega | (dsimp only [room_1] <;> omega)) fun T own_v own_L h1 own_e P own_q => ?_
  obtain ⟨⟨rfl, own_r⟩, -⟩ := own_q
  show OwG p e below s _ _ _ _ T (mkF m 9 #[.val (.ref x), .val (.ref a)] [])
  exact P.retV hx hlk hret (dc d1_9) (by first | omega | (dsimp only [room_1] <;> omega)) (by first | omega | (dsimp only [room_1] <;> omega)) ⟨rfl, own_r⟩
theorem own_lo {cs : List Int32} {d : Value} {i : Nat} (h : i < cs.length) (hb : i < 2 ^ 31) : (cs.map fun c => Value.int (StrChars.lo8 c)).getD (Int32.ofNat i).toNatClampNeg d = .int (StrChars.lo8 (cs.getD i 0)) := by rw [own_tc hb]; exact StrChars.Road.low_at _ _ _ h
theorem own_bd8 {cs : List Int32} {i : Nat} (h : i < cs.length) (hp : ∀ c ∈ cs, ¬ c < 0 ∧ ¬ (65535 : Int32) < c) (ha : ∀ c ∈ cs, ¬ (255 : Int32) < c) : ¬ cs.getD i 0 < 0 ∧ ¬ (255 : Int32) < cs.getD i 0 := ⟨(own_bd h hp).1, ha _ (by simp [List.getD_eq_getElem?_getD, h])⟩
abbrev bo35 := jdk_42_method_154_code
theorem d35_0 : decode bo35 0 = .ok (.getstatic 38, 3) := by decide +kernel
theorem d35_3 : decode bo35 3 = .ok (.ifCond .eq 14, 3) := by decide +kernel
theorem d35_6 : decode bo35 6 = .ok (.aload_n 0, 1) := by decide +kernel
theorem d35_7 : decode bo35 7 = .ok (.getfield 15, 3) := by decide +kernel
theorem d35_10 : decode bo35 10 = .ok (.ifCond .ne 7, 3) := by decide +kernel
theorem d35_13 : decode bo35 13 = .ok (.iconst 1, 1) := by decide +kernel
theorem d35_14 : decode bo35 14 = .ok (.goto 4, 3) := by decide +kernel
theorem d35_18 : decode bo35 18 = .ok (.ireturn, 1) := by decide +kernel
theorem d35_17 : decode bo35 17 = .ok (.iconst 0, 1) := by decide +kernel
set_option maxRecDepth 65536 in
set_option maxHeartbeats 40000000 in
theorem rmIsL (l : Launch) (Z : State) (a0 : Array Value) (hw : ∀ d ∈ tables_1, d.before a0 Z = true) (x : Addr) (cd zC : Int32) (h0 : Heap) (n0 : Nat) (Z0 : n0 ≤ h0.size) (S2 : Sta Z Z.heap "java/lang/String" "COMPACT_STRINGS" "Z" (.int zC)) (hzC : ¬ zC = 0) (OL : Old Z n0 h0) (C_x : Fld Z h0 x "java/lang/String" "coder" "B" (.int cd)) :
    OwM l Z (⟨"java/lang/String", "isLatin1", "()Z"⟩ : MethodName) jdk_42_method_154_code 1 (some .boolean) ({ frames := 0, cells := 0, slots := 0, locals := 0 } : Room) n0 #[(.ref x)] h0 (fun v h => v = some (.int (if cd = 0 then 1 else 0)) ∧ h = h0) := by
  refine OwM.mk (plainFor_of_name pn_java_lang_String) ?_
  intro p e s m below meth cD T hx hby hml hown hnm hret hlk hZ P
  have dc := @Jvm.hb cD _ hby
  refine OwG.cast (g' := mkF m 0 #[.val (.ref x)] []) (by first | (simp [entryFrame, mkF, argsToLocals, Value.category]; done) | rfl) ?_
  refine P.getS hx hZ hown (host := "") (Or.inl (own_w hw 36 rfl)) Via.refl (S2.ext OL.2) rfl (dc d35_0) fun T P => ?_
  show OwG p e below s _ _ _ _ T (mkF m 3 #[.val (.ref x)] [(.int zC)])
  refine OwG.ac (mkF m 7 #[.val (.ref x)] [(.ref x)]) (fun tQ kQ => ?_) ?_
  · refine XS.ifNo P.here hx rfl (dc d35_3) rfl ((if0 _ _).trans (feq hzC).1) ?_
    exact XS.aloadN P.here hx rfl (dc d35_6) rfl rfl kQ
  refine P.getF hx hZ hown (host := "") (Or.inl (own_w hw 21 rfl)) Via.refl C_x rfl rfl (dc d35_7) fun T P => ?_
  show OwG p e below s _ _ _ _ T (mkF m 10 #[.val (.ref x)] [(.int cd)])
  by_cases hc10 : cd = (0 : Int32)
  ·skip
   refine OwG.ac (mkF m 18 #[.val (.ref x)] [(.int 1)]) (fun tQ kQ => ?_) ?_
   · refine XS.ifNo P.here hx rfl (dc d35_10) rfl ((if0 _ _).trans (teq hc10).2) ?_
     refine XS.iconst P.here hx rfl (dc d35_13) ?_
     exact XS.goto P.here hx rfl (pc0 := 14) (pc' := 18) rfl (dc d35_14) (by decide) (by decide) kQ
   exact P.retN hx hlk (t := .boolean) hret (by simp) (dc d35_18) (own_le rfl) (own_le rfl) ⟨by rw [if_pos hc10]; rfl, rfl⟩
  ·skip
   refine OwG.ac (mkF m 18 #[.val (.ref x)] [(.int 0)]) (fun tQ kQ => ?_) ?_
   · refine XS.ifYes P.here hx rfl (pc0 := 10) (pc' := 17) rfl (dc d35_10) rfl ((if0 _ _).trans (feq hc10).2) (by decide) (by decide) ?_
     exact XS.iconst P.here hx rfl (dc d35_17) kQ
   exact P.retN hx hlk (t := .boolean) hret (by simp) (dc d35_18) (own_le rfl) (own_le rfl) ⟨by rw [if_neg hc10]; rfl, rfl⟩
abbrev bo55 := jdk_52_method_6_code
theorem d55_0 : decode bo55 0 = .ok (.aload_n 0, 1) := by decide +kernel
theorem d55_1 : decode bo55 1 = .ok (.arraylength, 1) := by decide +kernel
theorem d55_2 : decode bo55 2 = .ok (.iconst 1, 1) := by decide +kernel
theorem d55_3 : decode bo55 3 = .ok (.ishr, 1) := by decide +kernel
theorem d55_4 : decode bo55 4 = .ok (.ireturn, 1) := by decide +kernel
set_option maxRecDepth 65536 in
set_option maxHeartbeats 40000000 in
theorem rmUln (l : Launch) (Z : State) (a0 : Array Value) (hw : ∀ d ∈ tables_1, d.before a0 Z = true) (t : Addr) (kt : ClassId) (vs : List Value) (n : Nat) (h0 : Heap) (n0 : Nat) (Z0 : n0 ≤ h0.size) (A_t : Arv Z h0 t kt .byte (Int32.ofNat (2 * n)) vs (.int 0)) (hb : n ≤ 4000) :
    OwM l Z (⟨"java/lang/StringUTF16", "length", "([B)I"⟩ : MethodName) jdk_52_method_6_code 1 (some .int) ({ frames := 0, cells := 0, slots := 0, locals := 0 } : Room) n0 #[(.ref t)] h0 (fun v h => v = some (.int (Int32.ofNat n)) ∧ h = h0) := by
  refine OwM.mk (plainFor_of_name pn_java_lang_StringUTF16) ?_
  intro p e s m below meth cD T hx hby hml hown hnm hret hlk hZ P
  have dc := @Jvm.hb cD _ hby
  refine OwG.cast (g' := mkF m 0 #[.val (.ref t)] []) (by first | (simp [entryFrame, mkF, argsToLocals, Value.category]; done) | rfl) ?_
  refine OwG.ac (mkF m 1 #[.val (.ref t)] [(.ref t)]) (fun tQ kQ => ?_) ?_
  · exact XS.aloadN P.here hx rfl (dc d55_0) rfl rfl kQ
  obtain ⟨own_cl, own_A, own_q1, own_S, own_M, own_H, own_U⟩ := id A_t
  obtain ⟨own_L, own_X, own_e, own_N⟩ := id P
  have own_Z := hZ
  refine OwG.ac (mkF m 4 #[.val (.ref t)] [(.int ((Int32.ofNat (2 * n)) >>> ((1 : Int32) &&& 31)))]) (fun tQ kQ => ?_) ?_
  · refine own_X.arraylength hx (by rw [own_e]; exact own_A.1) (State.isArrayOf_alike own_Z.alike own_A.2.1) (g := (mkF m 1 #[.val (.ref t)] [(.ref t)])) rfl rfl (dc d55_1) _ ?_
    rw [len_of own_S own_M]
    refine XS.iconst P.here hx rfl (dc d55_2) ?_
    exact XS.ishr P.here hx rfl (dc d55_3) rfl kQ
  rw [show ((Int32.ofNat (2 * n)) >>> ((1 : Int32) &&& 31)) = (Int32.ofNat n) from StrChars.shr1 (by omega)]
  exact P.retI hx hlk hret (dc d55_4) (own_le rfl) (own_le rfl) ⟨rfl, rfl⟩
theorem d2_8 : decode bo2 8 = .ok (.aload_n 0, 1) := by decide +kernel
theorem d2_9 : decode bo2 9 = .ok (.ldc 7, 2) := by decide +kernel
theorem d2_11 : decode bo2 11 = .ok (.getfield 9, 3) := by decide +kernel
theorem d2_14 : decode bo2 14 = .ok (.putfield 9, 3) := by decide +kernel
theorem d2_17 : decode bo2 17 = .ok (.aload_n 0, 1) := by decide +kernel
theorem d2_18 : decode bo2 18 = .ok (.ldc 7, 2) := by decide +kernel
theorem d2_20 : decode bo2 20 = .ok (.getfield 15, 3) := by decide +kernel
theorem d2_23 : decode bo2 23 = .ok (.putfield 15, 3) := by decide +kernel
theorem d2_26 : decode bo2 26 = .ok (.return_, 1) := by decide +kernel
set_option maxRecDepth 65536 in
set_option maxHeartbeats 40000000 in
theorem rmN4e (l : Launch) (Z : State) (a0 : Array Value) (hw : ∀ d ∈ tables_1, d.before a0 Z = true) (a1 a2 : Addr) (h0 : Heap) (n0 : Nat) (Z0 : n0 ≤ h0.size) (g_a1 : n0 ≤ a1) (E_a1 : Exa Z h0 a1 "java/lang/String") (F_coder_a1 : Fld Z h0 a1 "java/lang/String" "coder" "B" (.int 0)) (F_value_a1 : Fld Z h0 a1 "java/lang/String" "value" "[B" .null) :
    OwS l Z own_EL [a1] (⟨"java/lang/String", "<init>", "([CIILjava/lang/Void;)V"⟩ : MethodName) jdk_42_method_149_code 6 none ({ frames := 1, cells := 4, slots := 8, locals := 12 } : Room) n0 #[(.ref a1), (.ref a2), (.int 0), (.int 0), .null] h0 (fun v h => v = none ∧ Keep h0 h [a1] ∧ ∃ (t : Addr) (kt : ClassId), Fld Z h a1 "java/lang/String" "value" "[B" (.ref t) ∧ Fld Z h a1 "java/lang/String" "coder" "B" (.int 0) ∧ Arv Z h t kt .byte (0 : Int32) [] (.int 0)) := by
  have hEL := own_EW hw
  refine OwS.mk (plainFor_of_name pn_java_lang_String) ?_
  intro p e s m below meth cD T hx hby hml hnm hret hlk P
  have dc := @Jvm.hb cD _ hby
  refine OwH.cast (g' := mkF m 0 #[.val (.ref a1), .val (.ref a2), .val (.int 0), .val (.int 0), .val .null, .unset] []) (by first | (simp [entryFrame, mkF, argsToLocals, Value.category]; done) | rfl) ?_
  have KP := Keep.refl h0 [a1]
  refine OwH.ac (mkF m 1 #[.val (.ref a1), .val (.ref a2), .val (.int 0), .val (.int 0), .val .null, .unset] [(.ref a1)]) (fun tQ kQ => ?_) ?_
  · exact XS.aloadN P.here hx rfl (dc d2_0) rfl rfl kQ
  refine P.initO hx (own_w hw 11 rfl) (own_w hw 12 rfl) (own_w hw 13 rfl) rfl (by rw [hml]; rfl) rfl (dc d2_1) (own_le rfl) (W := 0) (own_le rfl) (own_le rfl) fun T P => ?_
  show OwH p e below s _ _ _ _ _ _ T (mkF m 4 #[.val (.ref a1), .val (.ref a2), .val (.int 0), .val (.int 0), .val .null, .unset] [])
  refine OwH.ac (mkF m 9 #[.val (.ref a1), .val (.ref a2), .val (.int 0), .val (.int 0), .val .null, .unset] [(.ref a1)]) (fun tQ kQ => ?_) ?_
  · refine XS.iloadN P.here hx rfl (dc d2_4) rfl ?_
    refine XS.ifNo P.here hx rfl (dc d2_5) rfl ((if0 _ _).trans (teq rfl).2) ?_
    exact XS.aloadN P.here hx rfl (dc d2_8) rfl rfl kQ
  refine P.ldcR hx hEL (by decide) (own_w hw 14 rfl) (own_wS hw) (vs := []) (z := (0 : Int32)) (by decide) (by decide) (by decide) rfl (dc d2_9) (nn := 0) (by decide) (by decide) (own_le rfl) (own_le rfl) fun T h1 s1 t1 kt1 P E E_s1 F_coder_s1 F_value_s1 V_t1 ne_s1 => ?_
  replace E_a1 := E_a1.ext E
  replace F_coder_a1 := F_coder_a1.ext E
  replace F_value_a1 := F_value_a1.ext E
  replace Z0 := Nat.le_trans Z0 E.1
  replace KP := KP.ext E
  clear E
  have ne_a1_s1 := (ne_s1 a1 (by simp)).1
  have ne_s1_a1 := Ne.symm ne_a1_s1
  have ne_a1_t1 := (ne_s1 a1 (by simp)).2
  have ne_t1_a1 := Ne.symm ne_a1_t1
  show OwH p e below s _ _ _ _ _ _ T (mkF m 11 #[.val (.ref a1), .val (.ref a2), .val (.int 0), .val (.int 0), .val .null, .unset] [(.ref s1), (.ref a1)])
  refine P.getF hx (host := "") (Or.inl (own_w hw 20 rfl)) Via.refl F_value_s1 rfl rfl (dc d2_11) fun T P => ?_
  show OwH p e below s _ _ _ _ _ _ T (mkF m 14 #[.val (.ref a1), .val (.ref a2), .val (.int 0), .val (.int 0), .val .null, .unset] [(.ref t1), (.ref a1)])
  refine P.putF hx (host := "") (Or.inl (own_w hw 20 rfl)) Via.refl F_value_a1 E_a1 (Or.inr ⟨(own_w hw 16 rfl), rfl, hnm⟩) (own_w hw 2 rfl) (ty := (.array .byte)) (by decide) rfl rfl rfl rfl (dc d2_14) g_a1 (Or.inl (by simp)) fun T h2 P W => ?_
  replace E_a1 := E_a1.wr W
  replace F_coder_a1 := F_coder_a1.other W (Or.inr (slot_ne (Or.inr (own_w hw 17 rfl)) (Or.inr (own_w hw 16 rfl)) (by decide) (t := .byte) (t' := (.array .byte)) (by decide) (by decide)))
  replace F_value_a1 := F_value_a1.same W
  replace E_s1 := E_s1.wr W
  replace F_coder_s1 := F_coder_s1.other W (Or.inl ne_s1_a1)
  replace F_value_s1 := F_value_s1.other W (Or.inl ne_s1_a1)
  replace V_t1 := V_t1.other W ne_t1_a1
  replace Z0 := Nat.le_trans Z0 (Keep.of_wr W).1
  replace KP := KP.wr W (Or.inl (List.mem_of_getElem? (i := 0) rfl))
  clear W
  show OwH p e below s _ _ _ _ _ _ T (mkF m 17 #[.val (.ref a1), .val (.ref a2), .val (.int 0), .val (.int 0), .val .null, .unset] [])
  refine OwH.ac (mkF m 18 #[.val (.ref a1), .val (.ref a2), .val (.int 0), .val (.int 0), .val .null, .unset] [(.ref a1)]) (fun tQ kQ => ?_) ?_
  · exact XS.aloadN P.here hx rfl (dc d2_17) rfl rfl kQ
  refine P.ldcR hx hEL (by decide) (own_w hw 14 rfl) (own_wS hw) (vs := []) (z := (0 : Int32)) (by decide) (by decide) (by decide) rfl (dc d2_18) (nn := 0) (by decide) (by decide) (own_le rfl) (own_le rfl) fun T h3 s2 t2 kt2 P E E_s2 F_coder_s2 F_value_s2 V_t2 ne_s2 => ?_
  replace E_a1 := E_a1.ext E
  replace F_coder_a1 := F_coder_a1.ext E
  replace F_value_a1 := F_value_a1.ext E
  replace E_s1 := E_s1.ext E
  replace F_coder_s1 := F_coder_s1.ext E
  replace F_value_s1 := F_value_s1.ext E
  replace V_t1 := V_t1.ext E
  replace Z0 := Nat.le_trans Z0 E.1
  replace KP := KP.ext E
  clear E
  have ne_a1_s2 := (ne_s2 a1 (by simp)).1
  have ne_s2_a1 := Ne.symm ne_a1_s2
  have ne_a1_t2 := (ne_s2 a1 (by simp)).2
  have ne_t2_a1 := Ne.symm ne_a1_t2
  show OwH p e below s _ _ _ _ _ _ T (mkF m 20 #[.val (.ref a1), .val (.ref a2), .val (.int 0), .val (.int 0), .val .null, .unset] [(.ref s2), (.ref a1)])
  refine P.getF hx (host := "") (Or.inl (own_w hw 21 rfl)) Via.refl F_coder_s2 rfl rfl (dc d2_20) fun T P => ?_
  show OwH p e below s _ _ _ _ _ _ T (mkF m 23 #[.val (.ref a1), .val (.ref a2), .val (.int 0), .val (.int 0), .val .null, .unset] [(.int 0), (.ref a1)])
  refine P.putFN hx (own_w hw 21 rfl) Via.refl F_coder_a1 E_a1 (Or.inr ⟨(own_w hw 17 rfl), rfl, hnm⟩) (own_w hw 2 rfl) (ty := .byte) (v' := (.int 0)) (by decide) rfl rfl rfl rfl (dc d2_23) g_a1 (Or.inl (by simp)) fun T h4 P W => ?_
  replace E_a1 := E_a1.wr W
  replace F_coder_a1 := F_coder_a1.same W
  replace F_value_a1 := F_value_a1.other W (Or.inr (slot_ne (Or.inr (own_w hw 16 rfl)) (Or.inr (own_w hw 17 rfl)) (by decide) (t := (.array .byte)) (t' := .byte) (by decide) (by decide)))
  replace E_s1 := E_s1.wr W
  replace F_coder_s1 := F_coder_s1.other W (Or.inl ne_s1_a1)
  replace F_value_s1 := F_value_s1.other W (Or.inl ne_s1_a1)
  replace V_t1 := V_t1.other W ne_t1_a1
  replace E_s2 := E_s2.wr W
  replace F_coder_s2 := F_coder_s2.other W (Or.inl ne_s2_a1)
  replace F_value_s2 := F_value_s2.other W (Or.inl ne_s2_a1)
  replace V_t2 := V_t2.other W ne_t2_a1
  replace Z0 := Nat.le_trans Z0 (Keep.of_wr W).1
  replace KP := KP.wr W (Or.inl (List.mem_of_getElem? (i := 0) rfl))
  clear W
  show OwH p e below s _ _ _ _ _ _ T (mkF m 26 #[.val (.ref a1), .val (.ref a2), .val (.int 0), .val (.int 0), .val .null, .unset] [])
  exact P.retV hEL hx hlk hret (dc d2_26) (own_le rfl) (own_le rfl) ⟨rfl, KP, t1, kt1, F_value_a1, F_coder_a1, V_t1⟩
set_option maxRecDepth 65536 in
set_option maxHeartbeats 40000000 in
theorem rmN1e (l : Launch) (Z : State) (a0 : Array Value) (hw : ∀ d ∈ tables_1, d.before a0 Z = true) (a1 a2 : Addr) (k2 : ClassId) (d2 : Value) (h0 : Heap) (n0 : Nat) (Z0 : n0 ≤ h0.size) (g_a1 : n0 ≤ a1) (E_a1 : Exa Z h0 a1 "java/lang/String") (F_coder_a1 : Fld Z h0 a1 "java/lang/String" "coder" "B" (.int 0)) (F_value_a1 : Fld Z h0 a1 "java/lang/String" "value" "[B" .null) (V_a2 : Arv Z h0 a2 k2 .char (0 : Int32) [] d2) :
    OwS l Z own_EL [a1] (⟨"java/lang/String", "<init>", "([C)V"⟩ : MethodName) jdk_42_method_3_code 2 none ({ frames := 2, cells := 4, slots := 8, locals := 29 } : Room) n0 #[(.ref a1), (.ref a2)] h0 (fun v h => v = none ∧ Keep h0 h [a1] ∧ ∃ (t : Addr) (kt : ClassId), Fld Z h a1 "java/lang/String" "value" "[B" (.ref t) ∧ Fld Z h a1 "java/lang/String" "coder" "B" (.int 0) ∧ Arv Z h t kt .byte (0 : Int32) [] (.int 0)) := by
  have hEL := own_EW hw
  refine OwS.mk (plainFor_of_name pn_java_lang_String) ?_
  intro p e s m below meth cD T hx hby hml hnm hret hlk P
  have dc := @Jvm.hb cD _ hby
  refine OwH.cast (g' := mkF m 0 #[.val (.ref a1), .val (.ref a2)] []) (by first | (simp [entryFrame, mkF, argsToLocals, Value.category]; done) | rfl) ?_
  refine OwH.ac (mkF m 4 #[.val (.ref a1), .val (.ref a2)] [(.ref a2), (.int 0), (.ref a2), (.ref a1)]) (fun tQ kQ => ?_) ?_
  · refine XS.aloadN P.here hx rfl (dc d1_0) rfl rfl ?_
    refine XS.aloadN P.here hx rfl (dc d1_1) rfl rfl ?_
    refine XS.iconst P.here hx rfl (dc d1_2) ?_
    exact XS.aloadN P.here hx rfl (dc d1_3) rfl rfl kQ
  obtain ⟨own_cl, own_A, own_q1, own_S, own_M, own_H, own_U⟩ := id V_a2
  obtain ⟨_, _, own_L, own_X, own_e, own_N, _, _, own_Z, _⟩ := id P
  refine OwH.ac (mkF m 6 #[.val (.ref a1), .val (.ref a2)] [.null, (.int 0), (.int 0), (.ref a2), (.ref a1)]) (fun tQ kQ => ?_) ?_
  · refine own_X.arraylength hx (by rw [own_e]; exact own_A.1) (State.isArrayOf_alike own_Z.alike own_A.2.1) (g := (mkF m 4 #[.val (.ref a1), .val (.ref a2)] [(.ref a2), (.int 0), (.ref a2), (.ref a1)])) rfl rfl (dc d1_4) _ ?_
    rw [len_of own_S own_M]
    exact XS.aconstNull P.here hx rfl (dc d1_5) kQ
  refine P.specialS hx rfl (own_w hw 7 rfl) (own_w hw 8 rfl) (own_w hw 10 rfl) (by decide) (fun vm0 hZ hCv hsf => OwS.back (s := s.setVm vm0) (W := 0) (rmN4e l Z a0 hw a1 a2 h0 n0 Z0 g_a1 E_a1 F_coder_a1 F_value_a1) hZ (own_w hw 10 rfl) (own_w hw 3 rfl) (own_le rfl) (own_le rfl) hEL hCv hsf) (sf' := [a1]) (fun _ _ _ q => q.2) (allS (List.mem_of_getElem? (i := 0) rfl) all0) rfl (by rw [hml]; rfl) (a := a1) (argsL := [(.ref a2), (.int 0), (.int 0), .null]) (rest := []) (lenOf pd___CIILjava_lang_Void__V rfl) rfl (own_le rfl) (dc d1_6) rfl (own_le rfl) (own_le rfl) fun T own_v own_L h1 own_e P own_q => ?_
  obtain ⟨⟨rfl, own_K, own_t, own_k, own_F1, own_F2, own_V⟩, -⟩ := own_q
  show OwH p e below s _ _ _ _ _ _ T (mkF m 9 #[.val (.ref a1), .val (.ref a2)] [])
  exact P.retV hEL hx hlk hret (dc d1_9) (own_le rfl) (own_le rfl) ⟨rfl, own_K, own_t, own_k, own_F1, own_F2, own_V⟩
def own_EQ (cs ds : List Int32) (h : Heap) (n0 : Nat) (v : Option Value) (h' : Heap) (L : List Loc) : Prop := (∃ i : Int32, v = some (.int i) ∧ ((i = 1 ∧ cs = ds) ∨ (i = 0 ∧ ¬ cs = ds))) ∧ h' = h ∧ Fr n0 L
theorem own_wEq : ∀ d ∈ StrChars.Road.wordsEq, d ∈ tables_1 := by decide +kernel
/-- equals of two Strings, as one int -/
theorem own_eqB {p : Program} {l : Launch} {e : Env} {R : Room} {s : State} {args : Array Value} {below : List Frame} {W : Nat} {Z : State} {a0 : Array Value} {h : Heap} {n0 : Nat} (hZ : Z.Warmed39 s.vm) (hw : ∀ d ∈ tables_1, d.before a0 Z = true)
    {x t : Addr} {kb : ClassId} {cs : List Int32} {cd N2 : Int32} {vs : List Value} (E : Exa Z h x "java/lang/String") (V : Fld Z h x "java/lang/String" "value" "[B" (.ref t)) (C : Fld Z h x "java/lang/String" "coder" "B" (.int cd)) (K : Arv Z h t kb .byte N2 vs (.int 0)) (hc : StrChars.Road.CodA cs cd N2 vs) (hb : ∀ c ∈ cs, ¬ c < 0 ∧ ¬ (65535 : Int32) < c) (l2 : cs.length ≤ 4000)
    {y t' : Addr} {kb' : ClassId} {ds : List Int32} {cd' N2' : Int32} {vs' : List Value} (E' : Exa Z h y "java/lang/String") (V' : Fld Z h y "java/lang/String" "value" "[B" (.ref t')) (C' : Fld Z h y "java/lang/String" "coder" "B" (.int cd')) (K' : Arv Z h t' kb' .byte N2' vs' (.int 0)) (hc' : StrChars.Road.CodA ds cd' N2' vs') (hb' : ∀ c ∈ ds, ¬ c < 0 ∧ ¬ (65535 : Int32) < c) (l2' : ds.length ≤ 4000)
    {z : Int32} (S : Sta Z h "java/lang/String" "COMPACT_STRINGS" "Z" (.int z)) (hz : ¬ z = 0) (hfr : 2 ≤ R.frames) (hlo : W + 28 ≤ R.locals) :
    Back l R p e below s args (⟨"java/lang/String", "equals", "(Ljava/lang/Object;)Z"⟩ : MethodName) 3 W (fun P a => a = #[.ref x, .ref y] ∧ P.U.heap = h ∧ P.cells + 0 ≤ R.cells ∧ P.slots + 0 ≤ R.slots)
      (fun P _ v B => ∃ L, own_EQ cs ds h n0 v B.U.heap L ∧ B.locs = P.locs ++ L ∧ B.cells = P.cells + 0 ∧ B.slots = P.slots + 0) :=
  Back.mono (StrChars.Road.eqW hZ (fun d hd => hw d (own_wEq d hd)) (kI := 4) (own_w hw 2 rfl) E V C K hc hb l2 E' V' C' K' hc' hb' l2' S hz hfr hlo) (fun _ _ q => q) (fun P a v B _ hq => by
    obtain ⟨L, ⟨q1, q2, q3⟩, r⟩ := hq
    refine ⟨L, ⟨?_, q3, by rw [q2]; exact Fr.nil _⟩, r⟩
    rcases q1 with ⟨rfl, q⟩ | ⟨rfl, q⟩
    · exact ⟨1, rfl, Or.inl ⟨rfl, q⟩⟩
    · exact ⟨0, rfl, Or.inr ⟨rfl, q⟩⟩)
def own_LN (n : Nat) (h : Heap) (n0 : Nat) (v : Option Value) (h' : Heap) (L : List Loc) : Prop := v = some (.int (Int32.ofNat n)) ∧ h' = h ∧ Fr n0 L
theorem own_wLen : ∀ d ∈ StrChars.Road.wordsLen, d ∈ tables_1 := by decide +kernel
theorem own_lenB {p : Program} {l : Launch} {e : Env} {R : Room} {s : State} {args : Array Value} {below : List Frame} {W : Nat} {Z : State} {a0 : Array Value} {h : Heap} {n0 : Nat} (hZ : Z.Warmed39 s.vm) (hw : ∀ d ∈ tables_1, d.before a0 Z = true)
    {x t : Addr} {kb : ClassId} {cs : List Int32} {cd N2 z : Int32} {vs : List Value} {n : Nat} (E : Exa Z h x "java/lang/String") (V : Fld Z h x "java/lang/String" "value" "[B" (.ref t)) (C : Fld Z h x "java/lang/String" "coder" "B" (.int cd)) (K : Arv Z h t kb .byte N2 vs (.int 0)) (hc : StrChars.Road.CodA cs cd N2 vs) (hb : ∀ c ∈ cs, ¬ c < 0 ∧ ¬ (65535 : Int32) < c)
    (S : Sta Z h "java/lang/String" "COMPACT_STRINGS" "Z" (.int z)) (hz : ¬ z = 0) (hn : cs.length = n) (l2 : n ≤ 4000) (hfr : 2 ≤ R.frames) (hlo : W + 25 ≤ R.locals) :
    Back l R p e below s args (⟨"java/lang/String", "length", "()I"⟩ : MethodName) 3 W (fun P a => a = #[.ref x] ∧ P.U.heap = h ∧ P.cells + 0 ≤ R.cells ∧ P.slots + 0 ≤ R.slots)
      (fun P _ v B => ∃ L, own_LN n h n0 v B.U.heap L ∧ B.locs = P.locs ++ L ∧ B.cells = P.cells + 0 ∧ B.slots = P.slots + 0) :=
  Back.mono (StrChars.Road.lenW hZ (fun d hd => hw d (own_wLen d hd)) (kI := 4) (own_w hw 2 rfl) E V C K hc hb S hz (by omega) hfr hlo) (fun _ _ q => q) (fun P a v B _ hq => by
    obtain ⟨L, ⟨q1, q2, q3⟩, r⟩ := hq
    exact ⟨L, ⟨by rw [q1, hn], q3, by rw [q2]; exact Fr.nil _⟩, r⟩)
theorem own_eqv {args : Array Value} {first s : State} {o : Option Outcome} {idx : List Nat} {t : Term} {z : Int32} (h : (Jvm.Cond.eq t (.int z)).value args first o s idx = some true) : t.eval args first o idx s = some (.int z) := by
  simp only [Cond.value, Term.eval] at h
  cases ht : t.eval args first o idx s with
  | none => simp [ht] at h
  | some v => cases v <;> simp_all
theorem own_addn (i j : Nat) : Int32.ofNat i + Int32.ofNat j = Int32.ofNat (i + j) := (Int32.ofNat_add i j).symm
theorem own_subN {i j : Nat} (h : i ≤ j) (hj : j ≤ 8000) : Int32.ofNat j - Int32.ofNat i = Int32.ofNat (j - i) := by
  apply Int32.toInt_inj.mp
  have q := c_isub (Int32.ofNat j) (Int32.ofNat i)
  have r := rng32 (Int32.ofNat j - Int32.ofNat i)
  rw [own_ti (by omega), own_ti (by omega)] at q
  rw [own_ti (by omega)]
  omega
theorem own_sub0 (x : Int32) : x - (0 : Int32) = x := by
  apply Int32.toInt_inj.mp
  have q := c_isub x 0
  have r := rng32 (x - 0)
  have r2 := rng32 x
  have e : (0 : Int32).toInt = 0 := rfl
  omega
theorem own_zadd (x : Int32) : (0 : Int32) + x = x := by
  apply Int32.toInt_inj.mp
  have q := c_iadd 0 x
  have r := rng32 (0 + x)
  have r2 := rng32 x
  have e : (0 : Int32).toInt = 0 := rfl
  omega
theorem own_shl0 (x : Int32) : x <<< ((0 : Int32) &&& 31) = x := by
  apply Int32.toInt_inj.mp
  have q := c_ishl x 0 0 (by decide)
  have r := rng32 (x <<< ((0 : Int32) &&& 31))
  have r2 := rng32 x
  omega
theorem own_pred (k : Nat) : Int32.ofNat (k + 1) + (-1 : Int32) = Int32.ofNat k := by
  rw [← own_succ]
  apply Int32.toInt_inj.mp
  have q := c_iadd (Int32.ofNat k + 1) (-1)
  have q2 := c_iadd (Int32.ofNat k) 1
  have r := rng32 (Int32.ofNat k + 1 + -1)
  have r2 := rng32 (Int32.ofNat k)
  have e : (1 : Int32).toInt = 1 := rfl
  have e2 : (-1 : Int32).toInt = -1 := rfl
  omega
theorem own_subp {k N : Nat} (h : N < k) (hN : k ≤ 4000) : (0 : Int32) < Int32.ofNat k - Int32.ofNat N := by
  rw [own_subN (by omega) (by omega)]
  exact own_lt (i := 0) (by omega) (by omega)
theorem own_subn {k N : Nat} (h : k ≤ N) (hN : N ≤ 4000) : ¬ (0 : Int32) < Int32.ofNat k - Int32.ofNat N := by
  have q := c_isub (Int32.ofNat k) (Int32.ofNat N)
  have r := rng32 (Int32.ofNat k - Int32.ofNat N)
  rw [own_ti (by omega), own_ti (by omega)] at q
  rw [Int32.lt_iff_toInt_lt, show (0 : Int32).toInt = 0 from rfl]; omega
theorem own_or3 {i j k : Nat} (hi : i < 2 ^ 31) (hj : j < 2 ^ 31) (hk : k < 2 ^ 31) : ¬ ((Int32.ofNat i ||| Int32.ofNat j) ||| Int32.ofNat k) < 0 := by
  have a := (c_orS (Int32.ofNat i) (Int32.ofNat j)).1 (by rw [own_ti hi]; omega) (by rw [own_ti hj]; omega)
  have b := (c_orS (Int32.ofNat i ||| Int32.ofNat j) (Int32.ofNat k)).1 a (by rw [own_ti hk]; omega)
  rw [Int32.lt_iff_toInt_lt, show (0 : Int32).toInt = 0 from rfl]; omega
theorem own_mx {g pn : Nat} (hg : g < 2 ^ 31) (hp : pn < 2 ^ 31) : (if Int32.ofNat g < Int32.ofNat pn then Int32.ofNat pn else Int32.ofNat g) = Int32.ofNat (if g < pn then pn else g) := by
  by_cases q : g < pn
  · rw [if_pos (own_lt q hp), if_pos q]
  · rw [if_neg (own_nlt (by omega) hg), if_neg q]
def own_cap (M k : Nat) : Nat := if M < k then (if k < 2 * M + 2 then 2 * M + 2 else k) else M
theorem own_cap0 {M k : Nat} (h : M < k) : M + (if k - M < M + 2 then M + 2 else k - M) = own_cap M k := by
  unfold own_cap; rw [if_pos h]
  by_cases q : k < 2 * M + 2
  · rw [if_pos q, if_pos (by omega)]; omega
  · rw [if_neg q, if_neg (by omega)]; omega
theorem own_cap1 {M k : Nat} (h : M < k) : 2 * M + (if 2 * k - 2 * M < 2 * M + 4 then 2 * M + 4 else 2 * k - 2 * M) = 2 * own_cap M k := by
  unfold own_cap; rw [if_pos h]
  by_cases q : k < 2 * M + 2
  · rw [if_pos q, if_pos (by omega)]; omega
  · rw [if_neg q, if_neg (by omega)]; omega
theorem own_capn {M k : Nat} (h : ¬ M < k) : own_cap M k = M := by unfold own_cap; rw [if_neg h]
theorem own_cap_ge {M k : Nat} : k ≤ own_cap M k ∧ M ≤ own_cap M k := by
  unfold own_cap
  by_cases h : M < k
  · rw [if_pos h]
    by_cases q : k < 2 * M + 2
    · rw [if_pos q]; omega
    · rw [if_neg q]; omega
  · rw [if_neg h]; omega
theorem own_cap_gt {M k : Nat} (h : M < k) : M < own_cap M k := Nat.lt_of_lt_of_le h own_cap_ge.1
/-- chars as low bytes, zeros behind, M places -/
def own_pl (cs : List Int32) (M : Nat) : List Value := (cs.map fun c => Value.int (StrChars.lo8 c)) ++ List.replicate (M - cs.length) (.int 0)
def own_pw (cs : List Int32) (M : Nat) : List Value := StrChars.Road.wideBytes cs ++ List.replicate (2 * (M - cs.length)) (.int 0)
/-- what a builder of M places holds -/
def own_BC (cs : List Int32) (M : Nat) (cd NB : Int32) (vs : List Value) : Prop := (cd = 0 ∧ NB = Int32.ofNat M ∧ vs = own_pl cs M ∧ ∀ c ∈ cs, ¬ (255 : Int32) < c) ∨ (cd = 1 ∧ NB = Int32.ofNat (2 * M) ∧ vs = own_pw cs M ∧ ∃ c ∈ cs, (255 : Int32) < c)
theorem own_pl_len {cs : List Int32} {M : Nat} (h : cs.length ≤ M) : (own_pl cs M).length = M := by simp [own_pl]; omega
theorem own_pw_len {cs : List Int32} {M : Nat} (h : cs.length ≤ M) : (own_pw cs M).length = 2 * M := by simp [own_pw, own_wlen]; omega
theorem own_BCn {cs : List Int32} {M : Nat} {cd NB : Int32} {vs : List Value} (h : own_BC cs M cd NB vs) (hM : M ≤ 4000) : NB >>> (cd &&& 31) = Int32.ofNat M := by
  rcases h with ⟨rfl, rfl, -⟩ | ⟨rfl, rfl, -⟩
  · exact StrChars.shr0 _
  · exact StrChars.shr1 (by omega)
theorem own_plg {cs : List Int32} {M c : Nat} (h1 : cs.length ≤ M) (h2 : M ≤ c) : own_pl cs M ++ List.replicate (c - M) (.int 0) = own_pl cs c := by
  unfold own_pl
  rw [List.append_assoc, List.replicate_append_replicate, show M - cs.length + (c - M) = c - cs.length from by omega]
theorem own_pwg {cs : List Int32} {M c : Nat} (h1 : cs.length ≤ M) (h2 : M ≤ c) : own_pw cs M ++ List.replicate (2 * c - 2 * M) (.int 0) = own_pw cs c := by
  unfold own_pw
  rw [List.append_assoc, List.replicate_append_replicate, show 2 * (M - cs.length) + (2 * c - 2 * M) = 2 * (c - cs.length) from by omega]
theorem own_grow {vs : List Value} {N M : Nat} (h : vs.length = N) : List.take 0 (List.replicate M (Value.int (0 : Int32))) ++ (vs.drop 0).take N ++ (List.replicate M (Value.int (0 : Int32))).drop (0 + N) = vs ++ List.replicate (M - N) (.int 0) := by
  simp [← h]
theorem own_head {vs : List Value} {mm : Nat} : List.take 0 (List.replicate mm (Value.int (0 : Int32))) ++ (vs.drop 0).take mm ++ (List.replicate mm (Value.int (0 : Int32))).drop (0 + mm) = vs.take mm := by
  simp
theorem own_mid {α : Type} {as bs : List α} {z : α} {pn q r : Nat} (h1 : as.length = pn) (h2 : bs.length = q) (hr : q ≤ r) : (as ++ List.replicate r z).take pn ++ (bs.drop 0).take q ++ (as ++ List.replicate r z).drop (pn + q) = as ++ bs ++ List.replicate (r - q) z := by
  subst h1 h2
  rw [List.drop_zero, List.take_length, List.take_left', List.drop_append, List.drop_eq_nil_of_le (by omega), List.nil_append, List.drop_replicate]
  · congr 2; omega
  · rfl
theorem own_cpl {cs ds : List Int32} {pn q M : Nat} (h1 : cs.length = pn) (h2 : ds.length = q) (h : pn + q ≤ M) : (own_pl cs M).take pn ++ ((ds.map fun c => Value.int (StrChars.lo8 c)).drop 0).take q ++ (own_pl cs M).drop (pn + q) = own_pl (cs ++ ds) M := by
  unfold own_pl
  rw [own_mid (by simpa using h1) (by simpa using h2) (by omega), List.map_append, List.length_append, h1, h2, show M - pn - q = M - (pn + q) from by omega]
theorem own_cpw {cs ds : List Int32} {pn q M : Nat} (h1 : cs.length = pn) (h2 : ds.length = q) (h : pn + q ≤ M) : (own_pw cs M).take (2 * pn) ++ ((StrChars.Road.wideBytes ds).drop 0).take (2 * q) ++ (own_pw cs M).drop (2 * pn + 2 * q) = own_pw (cs ++ ds) M := by
  unfold own_pw
  rw [own_mid (by rw [own_wlen, h1]) (by rw [own_wlen, h2]) (by omega), own_wapp, List.length_append, h1, h2, show 2 * (M - pn) - 2 * q = 2 * (M - (pn + q)) from by omega]
theorem own_pw_step {cs : List Int32} {M pn : Nat} {c : Int32} (hp : cs.length = pn) (h : pn < M) : ((own_pw cs M).set (2 * pn) (.int (StrChars.lo8 c))).set (2 * pn + 1) (.int (StrChars.hi8 c)) = own_pw (cs ++ [c]) M := by
  have e1 : (StrChars.Road.wideBytes cs).length = 2 * pn := by rw [own_wlen, hp]
  obtain ⟨r, hr⟩ : ∃ r, M - pn = r + 1 := ⟨M - pn - 1, by omega⟩
  unfold own_pw
  rw [own_wapp, List.length_append, hp, hr, show M - (pn + [c].length) = r from by simp; omega, show 2 * (r + 1) = 2 * r + 1 + 1 from by omega, List.replicate_succ, List.replicate_succ]
  rw [List.set_append_right _ _ (by omega), e1, Nat.sub_self, List.set_cons_zero, List.set_append_right _ _ (by omega), e1, show 2 * pn + 1 - 2 * pn = 1 from by omega]
  simp [StrChars.Road.wideBytes]
theorem own_pw_ds {cs ds : List Int32} {M pn q i : Nat} (hp : cs.length = pn) (hq : ds.length = q) (h : pn + q ≤ M) (hi : i < q) : ((own_pw (cs ++ ds.take i) M).set (2 * (pn + i)) (.int (StrChars.lo8 (ds.getD i 0)))).set (2 * (pn + i) + 1) (.int (StrChars.hi8 (ds.getD i 0))) = own_pw (cs ++ ds.take (i + 1)) M := by
  rw [own_pw_step (by simp; omega) (by omega), List.append_assoc, own_take (by omega)]
theorem own_pw_dl {cs ds : List Int32} {M pn q i : Nat} (hp : cs.length = pn) (hq : ds.length = q) (h : pn + q ≤ M) (hi : i < q) : (own_pw (cs ++ ds.take i) M).length = 2 * M := own_pw_len (by simp; omega)
theorem own_pl2 {cs : List Int32} {M pn : Nat} {a b : Int32} (hp : cs.length = pn) (h : pn + 2 ≤ M) : ((own_pl cs M).set (pn + 1) (.int (StrChars.lo8 b))).set pn (.int (StrChars.lo8 a)) = own_pl (cs ++ [a, b]) M := by
  have e1 : (cs.map fun c => Value.int (StrChars.lo8 c)).length = pn := by simpa using hp
  obtain ⟨r, hr⟩ : ∃ r, M - pn = r + 1 + 1 := ⟨M - pn - 2, by omega⟩
  unfold own_pl
  rw [List.map_append, List.length_append, hp, hr, show M - (pn + [a, b].length) = r from by simp; omega, List.replicate_succ, List.replicate_succ]
  rw [List.set_append_right _ _ (by omega), e1, show pn + 1 - pn = 1 from by omega, List.set_append_right _ _ (by omega), e1, Nat.sub_self]
  simp
theorem own_pw2 {cs : List Int32} {M pn : Nat} {a b : Int32} (hp : cs.length = pn) (h : pn + 2 ≤ M) : ((((own_pw cs M).set (2 * (pn + 1)) (.int (StrChars.lo8 b))).set (2 * (pn + 1) + 1) (.int (StrChars.hi8 b))).set (2 * pn) (.int (StrChars.lo8 a))).set (2 * pn + 1) (.int (StrChars.hi8 a)) = own_pw (cs ++ [a, b]) M := by
  have e1 : (StrChars.Road.wideBytes cs).length = 2 * pn := by rw [own_wlen, hp]
  obtain ⟨r, hr⟩ : ∃ r, M - pn = r + 2 := ⟨M - pn - 2, by omega⟩
  unfold own_pw
  rw [own_wapp, List.length_append, hp, hr, show M - (pn + [a, b].length) = r from by simp; omega, show 2 * (r + 2) = 2 * r + 1 + 1 + 1 + 1 from by omega, List.replicate_succ, List.replicate_succ, List.replicate_succ, List.replicate_succ]
  rw [List.set_append_right _ _ (by omega), e1, show 2 * (pn + 1) - 2 * pn = 2 from by omega, List.set_append_right _ _ (by omega), e1, show 2 * (pn + 1) + 1 - 2 * pn = 3 from by omega, List.set_append_right _ _ (by omega), e1, Nat.sub_self, List.set_append_right _ _ (by omega), e1, show 2 * pn + 1 - 2 * pn = 1 from by omega]
  simp [StrChars.Road.wideBytes]
theorem own_plt {cs : List Int32} {M pn : Nat} (hp : cs.length = pn) : (own_pl cs M).take pn = cs.map fun c => Value.int (StrChars.lo8 c) := by
  unfold own_pl; rw [List.take_left']; simpa using hp
theorem own_pwt {cs : List Int32} {M pn : Nat} (hp : cs.length = pn) : (own_pw cs M).take (2 * pn) = StrChars.Road.wideBytes cs := by
  unfold own_pw; rw [List.take_left']; rw [own_wlen, hp]
theorem own_wtake (cs : List Int32) (mm : Nat) : (StrChars.Road.wideBytes cs).take (2 * mm) = StrChars.Road.wideBytes (cs.take mm) := by
  by_cases h : mm ≤ cs.length
  · have e : cs = cs.take mm ++ cs.drop mm := (List.take_append_drop mm cs).symm
    conv => lhs; rw [e]
    rw [own_wapp, List.take_left']; rw [own_wlen]; simp; omega
  · rw [List.take_of_length_le (by omega : cs.length ≤ mm), List.take_of_length_le (by rw [own_wlen]; omega)]
theorem own_lbs {cs : List Int32} {mm i : Nat} (hm : mm ≤ cs.length) (hi : i < mm) : (own_lb cs mm i).set i (.int (StrChars.lo8 (cs.getD i 0))) = own_lb cs mm (i + 1) := by
  have e1 : ((cs.take i).map fun c => Value.int (StrChars.lo8 c)).length = i := by simp; omega
  obtain ⟨r, hr⟩ : ∃ r, mm - i = r + 1 := ⟨mm - i - 1, by omega⟩
  have hr' : mm - (i + 1) = r := by omega
  unfold own_lb
  rw [own_take (by omega), hr, hr', List.replicate_succ, List.set_append_right _ _ (by omega), e1, Nat.sub_self, List.set_cons_zero]
  simp
theorem own_lbl {cs : List Int32} {mm i : Nat} (hm : mm ≤ cs.length) (hi : i ≤ mm) : (own_lb cs mm i).length = mm := by simp [own_lb]; omega
theorem own_lbe (cs : List Int32) (mm : Nat) : own_lb cs mm mm = (cs.take mm).map fun c => Value.int (StrChars.lo8 c) := by simp [own_lb]
theorem own_tg {cs : List Int32} {mm i : Nat} (hi : i < mm) : (cs.take mm).getD i 0 = cs.getD i 0 := by
  simp [List.getD_eq_getElem?_getD, List.getElem?_take_of_lt hi]
theorem own_allm {cs : List Int32} {mm : Nat} (hm : mm ≤ cs.length) (h : ∀ j, j < mm → ¬ (255 : Int32) < cs.getD j 0) : ∀ c ∈ cs.take mm, ¬ (255 : Int32) < c := own_all (n := mm) (by simp; omega) (fun j hj => by rw [own_tg hj]; exact h j hj)
theorem own_xlo {xs : List Value} {ds : List Int32} {q i : Nat} {d : Value} (h : ∀ j, j < q → xs.getD j d = .int (StrChars.lo8 (ds.getD j 0))) (hi : i < q) (hq : q ≤ 4000) : xs.getD (Int32.ofNat i).toNatClampNeg d = .int (StrChars.lo8 (ds.getD i 0)) := by rw [own_tc (by omega)]; exact h i hi
theorem own_pla {cs : List Int32} {M : Nat} {d : Value} : ∀ j, j < cs.length → (own_pl cs M).getD j d = .int (StrChars.lo8 (cs.getD j 0)) := fun j hj => by
  unfold own_pl
  rw [List.getD_eq_getElem?_getD, List.getElem?_append_left (by simpa using hj), ← List.getD_eq_getElem?_getD]
  exact StrChars.Road.low_at _ _ _ hj
theorem own_bd8' {ds : List Int32} {i : Nat} (h : i < ds.length) (hp : ∀ c ∈ ds, ¬ c < 0 ∧ ¬ (255 : Int32) < c) : ¬ ds.getD i 0 < 0 ∧ ¬ (255 : Int32) < ds.getD i 0 := hp _ (own_gm h)
theorem own_qt {t t1 t2 N0 N1 : Nat} (q2 : t2 = t1 ∨ N1 ≤ t2) (q1 : t1 = t ∨ N0 ≤ t1) (h : N0 ≤ N1) : t2 = t ∨ N0 ≤ t2 := by
  rcases q2 with q | q
  · rw [q]; exact q1
  · exact Or.inr (Nat.le_trans h q)
theorem own_kp {sb t t2 : Addr} {N : Nat} (q : t2 = t ∨ N ≤ t2) : t2 ∈ [sb, t] ∨ N ≤ t2 := q.imp (fun e => by simp [e]) id
def own_dz (z : Int32) : Int32 := 48 + (z - 60)
def own_i1 : List Int32 := (List.range 100).map fun j => 48 + Int32.ofNat (j % 10)
def own_i2 : List Int32 := (List.range 100).map fun j => 48 + Int32.ofNat (j / 10)
def own_g1 : List Value := own_i1.map Value.int
def own_g2 : List Value := own_i2.map Value.int
theorem own_gat {cs : List Int32} {d : Value} {j c : Int32} {i : Nat} (hi : j.toNatClampNeg = i) (h : i < cs.length) (e : cs.getD i 0 = c) : (cs.map Value.int).getD j.toNatClampNeg d = .int c := by
  rw [hi, ← e]; simp [List.getD_eq_getElem?_getD, h]
abbrev bo6 := jdk_42_method_152_code
theorem d6_0 : decode bo6 0 = .ok (.getstatic 38, 3) := by decide +kernel
theorem d6_3 : decode bo6 3 = .ok (.ifCond .eq 10, 3) := by decide +kernel
theorem d6_6 : decode bo6 6 = .ok (.aload_n 0, 1) := by decide +kernel
theorem d6_7 : decode bo6 7 = .ok (.getfield 15, 3) := by decide +kernel
theorem d6_10 : decode bo6 10 = .ok (.goto 4, 3) := by decide +kernel
theorem d6_14 : decode bo6 14 = .ok (.ireturn, 1) := by decide +kernel
set_option maxRecDepth 65536 in
set_option maxHeartbeats 40000000 in
theorem rmCod (l : Launch) (Z : State) (a0 : Array Value) (hw : ∀ d ∈ tables_1, d.before a0 Z = true) (x : Addr) (cx zC : Int32) (h0 : Heap) (n0 : Nat) (Z0 : n0 ≤ h0.size) (S2 : Sta Z Z.heap "java/lang/String" "COMPACT_STRINGS" "Z" (.int zC)) (hzC : ¬ zC = 0) (OL : Old Z n0 h0) (C_x : Fld Z h0 x "java/lang/String" "coder" "B" (.int cx)) (hcx : cx = 0 ∨ cx = 1) :
    OwM l Z (⟨"java/lang/String", "coder", "()B"⟩ : MethodName) jdk_42_method_152_code 1 (some .byte) ({ frames := 0, cells := 0, slots := 0, locals := 0 } : Room) n0 #[(.ref x)] h0 (fun v h => v = some (.int cx) ∧ h = h0) := by
  refine OwM.mk (plainFor_of_name pn_java_lang_String) ?_
  intro p e s m below meth cD T hx hby hml hown hnm hret hlk hZ P
  have dc := @Jvm.hb cD _ hby
  refine OwG.cast (g' := mkF m 0 #[.val (.ref x)] []) (by first | (simp [entryFrame, mkF, argsToLocals, Value.category]; done) | rfl) ?_
  refine P.getS hx hZ hown (host := "") (Or.inl (own_w hw 36 rfl)) Via.refl (S2.ext OL.2) rfl (dc d6_0) fun T P => ?_
  show OwG p e below s _ _ _ _ T (mkF m 3 #[.val (.ref x)] [(.int zC)])
  refine OwG.ac (mkF m 7 #[.val (.ref x)] [(.ref x)]) (fun tQ kQ => ?_) ?_
  · refine XS.ifNo P.here hx rfl (dc d6_3) rfl ((if0 _ _).trans (feq hzC).1) ?_
    exact XS.aloadN P.here hx rfl (dc d6_6) rfl rfl kQ
  refine P.getF hx hZ hown (host := "") (Or.inl (own_w hw 21 rfl)) Via.refl C_x rfl rfl (dc d6_7) fun T P => ?_
  show OwG p e below s _ _ _ _ T (mkF m 10 #[.val (.ref x)] [(.int cx)])
  refine OwG.ac (mkF m 14 #[.val (.ref x)] [(.int cx)]) (fun tQ kQ => ?_) ?_
  · exact XS.goto P.here hx rfl (pc0 := 10) (pc' := 14) rfl (dc d6_10) (by decide) (by decide) kQ
  exact P.retN hx hlk (t := .byte) hret (by simp) (dc d6_14) (own_le rfl) (own_le rfl) ⟨by rcases hcx with rfl | rfl <;> rfl, rfl⟩
abbrev bo25 := jdk_29_method_69_code
theorem d25_0 : decode bo25 0 = .ok (.iload_n 0, 1) := by decide +kernel
theorem d25_1 : decode bo25 1 = .ok (.iload_n 1, 1) := by decide +kernel
theorem d25_2 : decode bo25 2 = .ok (.if_icmp .gt 7, 3) := by decide +kernel
theorem d25_9 : decode bo25 9 = .ok (.iload_n 1, 1) := by decide +kernel
theorem d25_10 : decode bo25 10 = .ok (.ireturn, 1) := by decide +kernel
theorem d25_5 : decode bo25 5 = .ok (.iload_n 0, 1) := by decide +kernel
theorem d25_6 : decode bo25 6 = .ok (.goto 4, 3) := by decide +kernel
set_option maxRecDepth 65536 in
set_option maxHeartbeats 40000000 in
theorem rmMin (l : Launch) (Z : State) (a0 : Array Value) (hw : ∀ d ∈ tables_1, d.before a0 Z = true) (x y : Int32) (h0 : Heap) (n0 : Nat) (Z0 : n0 ≤ h0.size)  :
    OwM l Z (⟨"java/lang/Math", "min", "(II)I"⟩ : MethodName) jdk_29_method_69_code 2 (some .int) ({ frames := 0, cells := 0, slots := 0, locals := 0 } : Room) n0 #[(.int x), (.int y)] h0 (fun v h => v = some (.int (if y < x then y else x)) ∧ h = h0) := by
  refine OwM.mk (Jvm.Free.JP.mathPlain rfl (by decide +kernel)) ?_
  intro p e s m below meth cD T hx hby hml hown hnm hret hlk hZ P
  have dc := @Jvm.hb cD _ hby
  refine OwG.cast (g' := mkF m 0 #[.val (.int x), .val (.int y)] []) (by first | (simp [entryFrame, mkF, argsToLocals, Value.category]; done) | rfl) ?_
  refine OwG.ac (mkF m 2 #[.val (.int x), .val (.int y)] [(.int y), (.int x)]) (fun tQ kQ => ?_) ?_
  · refine XS.iloadN P.here hx rfl (dc d25_0) rfl ?_
    exact XS.iloadN P.here hx rfl (dc d25_1) rfl kQ
  by_cases hc2 : y < x
  ·skip
   refine OwG.ac (mkF m 10 #[.val (.int x), .val (.int y)] [(.int y)]) (fun tQ kQ => ?_) ?_
   · refine XS.icmpYes P.here hx rfl (pc0 := 2) (pc' := 9) rfl (dc d25_2) rfl (tlt hc2).2.2.1 (by decide) (by decide) ?_
     exact XS.iloadN P.here hx rfl (dc d25_9) rfl kQ
   exact P.retI hx hlk hret (dc d25_10) (own_le rfl) (own_le rfl) ⟨by rw [if_pos hc2], rfl⟩
  ·skip
   refine OwG.ac (mkF m 10 #[.val (.int x), .val (.int y)] [(.int x)]) (fun tQ kQ => ?_) ?_
   · refine XS.icmpNo P.here hx rfl (dc d25_2) rfl (flt hc2).2.2.1 ?_
     refine XS.iloadN P.here hx rfl (dc d25_5) rfl ?_
     exact XS.goto P.here hx rfl (pc0 := 6) (pc' := 10) rfl (dc d25_6) (by decide) (by decide) kQ
   exact P.retI hx hlk hret (dc d25_10) (own_le rfl) (own_le rfl) ⟨by rw [if_neg hc2], rfl⟩
abbrev bo40 := jdk_29_method_65_code
theorem d40_0 : decode bo40 0 = .ok (.iload_n 0, 1) := by decide +kernel
theorem d40_1 : decode bo40 1 = .ok (.iload_n 1, 1) := by decide +kernel
theorem d40_2 : decode bo40 2 = .ok (.if_icmp .lt 7, 3) := by decide +kernel
theorem d40_9 : decode bo40 9 = .ok (.iload_n 1, 1) := by decide +kernel
theorem d40_10 : decode bo40 10 = .ok (.ireturn, 1) := by decide +kernel
theorem d40_5 : decode bo40 5 = .ok (.iload_n 0, 1) := by decide +kernel
theorem d40_6 : decode bo40 6 = .ok (.goto 4, 3) := by decide +kernel
set_option maxRecDepth 65536 in
set_option maxHeartbeats 40000000 in
theorem rmMax (l : Launch) (Z : State) (a0 : Array Value) (hw : ∀ d ∈ tables_1, d.before a0 Z = true) (x y : Int32) (h0 : Heap) (n0 : Nat) (Z0 : n0 ≤ h0.size)  :
    OwM l Z (⟨"java/lang/Math", "max", "(II)I"⟩ : MethodName) jdk_29_method_65_code 2 (some .int) ({ frames := 0, cells := 0, slots := 0, locals := 0 } : Room) n0 #[(.int x), (.int y)] h0 (fun v h => v = some (.int (if x < y then y else x)) ∧ h = h0) := by
  refine OwM.mk (Jvm.Free.JP.mathPlain rfl (by decide +kernel)) ?_
  intro p e s m below meth cD T hx hby hml hown hnm hret hlk hZ P
  have dc := @Jvm.hb cD _ hby
  refine OwG.cast (g' := mkF m 0 #[.val (.int x), .val (.int y)] []) (by first | (simp [entryFrame, mkF, argsToLocals, Value.category]; done) | rfl) ?_
  refine OwG.ac (mkF m 2 #[.val (.int x), .val (.int y)] [(.int y), (.int x)]) (fun tQ kQ => ?_) ?_
  · refine XS.iloadN P.here hx rfl (dc d40_0) rfl ?_
    exact XS.iloadN P.here hx rfl (dc d40_1) rfl kQ
  by_cases hc2 : x < y
  ·skip
   refine OwG.ac (mkF m 10 #[.val (.int x), .val (.int y)] [(.int y)]) (fun tQ kQ => ?_) ?_
   · refine XS.icmpYes P.here hx rfl (pc0 := 2) (pc' := 9) rfl (dc d40_2) rfl (tlt hc2).1 (by decide) (by decide) ?_
     exact XS.iloadN P.here hx rfl (dc d40_9) rfl kQ
   exact P.retI hx hlk hret (dc d40_10) (own_le rfl) (own_le rfl) ⟨by rw [if_pos hc2], rfl⟩
  ·skip
   refine OwG.ac (mkF m 10 #[.val (.int x), .val (.int y)] [(.int x)]) (fun tQ kQ => ?_) ?_
   · refine XS.icmpNo P.here hx rfl (dc d40_2) rfl (flt hc2).1 ?_
     refine XS.iloadN P.here hx rfl (dc d40_5) rfl ?_
     exact XS.goto P.here hx rfl (pc0 := 6) (pc' := 10) rfl (dc d40_6) (by decide) (by decide) kQ
   exact P.retI hx hlk hret (dc d40_10) (own_le rfl) (own_le rfl) ⟨by rw [if_neg hc2], rfl⟩
abbrev bo39 := jdk_48_method_27_code
theorem d39_0 : decode bo39 0 = .ok (.iload_n 0, 1) := by decide +kernel
theorem d39_1 : decode bo39 1 = .ok (.iload_n 1, 1) := by decide +kernel
theorem d39_2 : decode bo39 2 = .ok (.iload_n 2, 1) := by decide +kernel
theorem d39_3 : decode bo39 3 = .ok (.invokestatic 194, 3) := by decide +kernel
theorem pd__II_I : parseMethodDescriptor "(II)I" = some ⟨[.int, .int], some .int⟩ := by decide +kernel
theorem d39_6 : decode bo39 6 = .ok (.iadd, 1) := by decide +kernel
theorem d39_7 : decode bo39 7 = .ok (.istore_n 3, 1) := by decide +kernel
theorem d39_8 : decode bo39 8 = .ok (.iconst 0, 1) := by decide +kernel
theorem d39_9 : decode bo39 9 = .ok (.iload_n 3, 1) := by decide +kernel
theorem d39_10 : decode bo39 10 = .ok (.if_icmp .ge 11, 3) := by decide +kernel
theorem d39_13 : decode bo39 13 = .ok (.iload_n 3, 1) := by decide +kernel
theorem d39_14 : decode bo39 14 = .ok (.ldc 200, 2) := by decide +kernel
theorem d39_16 : decode bo39 16 = .ok (.if_icmp .gt 5, 3) := by decide +kernel
theorem d39_19 : decode bo39 19 = .ok (.iload_n 3, 1) := by decide +kernel
theorem d39_20 : decode bo39 20 = .ok (.ireturn, 1) := by decide +kernel
theorem pn_jdk_internal_util_ArraysSupport : plainName "jdk/internal/util/ArraysSupport" = true := by first | (simp [plainName, overriddenIn]; done) | decide +kernel
set_option maxRecDepth 65536 in
set_option maxHeartbeats 40000000 in
theorem rmNl (l : Launch) (Z : State) (a0 : Array Value) (hw : ∀ d ∈ tables_1, d.before a0 Z = true) (o g pn : Nat) (h0 : Heap) (n0 : Nat) (Z0 : n0 ≤ h0.size) (ho : 0 < o) (hob : o ≤ 4000) (hg : g ≤ 4000) (hpp : pn ≤ 4000) (hr0 : o + (if g < pn then pn else g) ≤ 8000) :
    OwM l Z (⟨"jdk/internal/util/ArraysSupport", "newLength", "(III)I"⟩ : MethodName) jdk_48_method_27_code 4 (some .int) ({ frames := 1, cells := 0, slots := 0, locals := 14 } : Room) n0 #[(.int (Int32.ofNat o)), (.int (Int32.ofNat g)), (.int (Int32.ofNat pn))] h0 (fun v h => v = some (.int (Int32.ofNat (o + (if g < pn then pn else g)))) ∧ h = h0) := by
  refine OwM.mk (plainFor_of_name pn_jdk_internal_util_ArraysSupport) ?_
  intro p e s m below meth cD T hx hby hml hown hnm hret hlk hZ P
  have dc := @Jvm.hb cD _ hby
  refine OwG.cast (g' := mkF m 0 #[.val (.int (Int32.ofNat o)), .val (.int (Int32.ofNat g)), .val (.int (Int32.ofNat pn)), .unset] []) (by first | (simp [entryFrame, mkF, argsToLocals, Value.category]; done) | rfl) ?_
  refine OwG.ac (mkF m 3 #[.val (.int (Int32.ofNat o)), .val (.int (Int32.ofNat g)), .val (.int (Int32.ofNat pn)), .unset] [(.int (Int32.ofNat pn)), (.int (Int32.ofNat g)), (.int (Int32.ofNat o))]) (fun tQ kQ => ?_) ?_
  · refine XS.iloadN P.here hx rfl (dc d39_0) rfl ?_
    refine XS.iloadN P.here hx rfl (dc d39_1) rfl ?_
    exact XS.iloadN P.here hx rfl (dc d39_2) rfl kQ
  refine P.stat hx hZ hown (own_w hw 199 rfl) (own_w hw 200 rfl) (own_w hw 136 rfl) (own_w hw 201 rfl) (by decide) (OwM.back (W := 1) (rmMax l Z a0 hw (Int32.ofNat g) (Int32.ofNat pn) h0 n0 Z0) hZ (own_w hw 201 rfl) (own_w hw 136 rfl) (own_le rfl) (own_le rfl)) (fun _ _ _ q => q.2) rfl (by rw [hml]; rfl) (argsL := [(.int (Int32.ofNat g)), (.int (Int32.ofNat pn))]) (rest := [(.int (Int32.ofNat o))]) (lenOf pd__II_I rfl) rfl (own_le rfl) (dc d39_3) rfl (own_le rfl) (own_le rfl) fun T own_v own_L h1 own_e P own_q => ?_
  obtain ⟨⟨rfl, own_hh⟩, -⟩ := own_q
  rw [own_hh] at P
  clear own_e own_hh
  show OwG p e below s _ _ _ _ T (mkF m 6 #[.val (.int (Int32.ofNat o)), .val (.int (Int32.ofNat g)), .val (.int (Int32.ofNat pn)), .unset] [(.int (if (Int32.ofNat g) < (Int32.ofNat pn) then (Int32.ofNat pn) else (Int32.ofNat g))), (.int (Int32.ofNat o))])
  rw [show (if (Int32.ofNat g) < (Int32.ofNat pn) then (Int32.ofNat pn) else (Int32.ofNat g)) = (Int32.ofNat (if g < pn then pn else g)) from own_mx (by omega) (by omega)]
  obtain ⟨r, hr⟩ : ∃ r, (if g < pn then pn else g) = r := ⟨_, rfl⟩
  rw [hr] at hr0 ⊢
  show OwG p e below s _ _ _ _ T (mkF m 6 #[.val (.int (Int32.ofNat o)), .val (.int (Int32.ofNat g)), .val (.int (Int32.ofNat pn)), .unset] [(.int (Int32.ofNat r)), (.int (Int32.ofNat o))])
  refine OwG.ac (mkF m 7 #[.val (.int (Int32.ofNat o)), .val (.int (Int32.ofNat g)), .val (.int (Int32.ofNat pn)), .unset] [(.int ((Int32.ofNat o) + (Int32.ofNat r)))]) (fun tQ kQ => ?_) ?_
  · exact XS.iadd P.here hx rfl (dc d39_6) rfl kQ
  rw [show ((Int32.ofNat o) + (Int32.ofNat r)) = (Int32.ofNat (o + r)) from own_addn _ _]
  refine OwG.ac (mkF m 14 #[.val (.int (Int32.ofNat o)), .val (.int (Int32.ofNat g)), .val (.int (Int32.ofNat pn)), .val (.int (Int32.ofNat (o + r)))] [(.int (Int32.ofNat (o + r)))]) (fun tQ kQ => ?_) ?_
  · refine XS.istoreN P.here hx rfl (dc d39_7) rfl (l' := #[.val (.int (Int32.ofNat o)), .val (.int (Int32.ofNat g)), .val (.int (Int32.ofNat pn)), .val (.int (Int32.ofNat (o + r)))]) rfl ?_
    refine XS.iconst P.here hx rfl (dc d39_8) ?_
    refine XS.iloadN P.here hx rfl (dc d39_9) rfl ?_
    refine XS.icmpNo P.here hx rfl (dc d39_10) rfl (tlt (own_lt (i := 0) (by omega) (by omega))).2.1 ?_
    exact XS.iloadN P.here hx rfl (dc d39_13) rfl kQ
  obtain ⟨own_L, own_X, own_rest⟩ := id P
  refine OwG.ac (mkF m 20 #[.val (.int (Int32.ofNat o)), .val (.int (Int32.ofNat g)), .val (.int (Int32.ofNat pn)), .val (.int (Int32.ofNat (o + r)))] [(.int (Int32.ofNat (o + r)))]) (fun tQ kQ => ?_) ?_
  · refine own_X.ldcInt hx hown (mvT hZ (own_w hw 202 rfl)) (g := (mkF m 14 #[.val (.int (Int32.ofNat o)), .val (.int (Int32.ofNat g)), .val (.int (Int32.ofNat pn)), .val (.int (Int32.ofNat (o + r)))] [(.int (Int32.ofNat (o + r)))])) rfl (dc d39_14) _ ?_
    refine XS.icmpNo P.here hx rfl (dc d39_16) rfl (flt (own_nlt (i := 2147483639) (by omega) (by omega))).2.2.1 ?_
    exact XS.iloadN P.here hx rfl (dc d39_19) rfl kQ
  exact P.retI hx hlk hret (dc d39_20) (own_le rfl) (own_le rfl) ⟨rfl, rfl⟩
abbrev bo8 := jdk_68_method_2_code
theorem d8_0 : decode bo8 0 = .ok (.aload_n 0, 1) := by decide +kernel
theorem d8_1 : decode bo8 1 = .ok (.invokespecial 3, 3) := by decide +kernel
theorem d8_4 : decode bo8 4 = .ok (.getstatic 18, 3) := by decide +kernel
theorem d8_7 : decode bo8 7 = .ok (.ifCond .eq 18, 3) := by decide +kernel
theorem d8_10 : decode bo8 10 = .ok (.aload_n 0, 1) := by decide +kernel
theorem d8_11 : decode bo8 11 = .ok (.iload_n 1, 1) := by decide +kernel
theorem d8_12 : decode bo8 12 = .ok (.newarray .byte, 2) := by decide +kernel
theorem d8_14 : decode bo8 14 = .ok (.putfield 15, 3) := by decide +kernel
theorem d8_17 : decode bo8 17 = .ok (.aload_n 0, 1) := by decide +kernel
theorem d8_18 : decode bo8 18 = .ok (.iconst 0, 1) := by decide +kernel
theorem d8_19 : decode bo8 19 = .ok (.putfield 22, 3) := by decide +kernel
theorem d8_22 : decode bo8 22 = .ok (.goto 16, 3) := by decide +kernel
theorem d8_38 : decode bo8 38 = .ok (.return_, 1) := by decide +kernel
theorem pn_java_lang_AbstractStringBuilder : plainName "java/lang/AbstractStringBuilder" = true := by first | (simp [plainName, overriddenIn]; done) | decide +kernel
set_option maxRecDepth 65536 in
set_option maxHeartbeats 40000000 in
theorem rmAi (l : Launch) (Z : State) (a0 : Array Value) (hw : ∀ d ∈ tables_1, d.before a0 Z = true) (sb : Addr) (zC : Int32) (h0 : Heap) (n0 : Nat) (Z0 : n0 ≤ h0.size) (S2 : Sta Z Z.heap "java/lang/String" "COMPACT_STRINGS" "Z" (.int zC)) (hzC : ¬ zC = 0) (OL : Old Z n0 h0) (g_sb : n0 ≤ sb) (E_sb : Exa Z h0 sb "java/lang/StringBuilder") (F_value_sb : Fld Z h0 sb "java/lang/AbstractStringBuilder" "value" "[B" .null) (F_coder_sb : Fld Z h0 sb "java/lang/AbstractStringBuilder" "coder" "B" (.int 0)) (F_count_sb : Fld Z h0 sb "java/lang/AbstractStringBuilder" "count" "I" (.int 0)) (F_mb_sb : Fld Z h0 sb "java/lang/AbstractStringBuilder" "maybeLatin1" "Z" (.int 0)) :
    OwM l Z (⟨"java/lang/AbstractStringBuilder", "<init>", "(I)V"⟩ : MethodName) jdk_68_method_2_code 2 none ({ frames := 1, cells := 1, slots := 16, locals := 12 } : Room) n0 #[(.ref sb), (.int 16)] h0 (fun v h => v = none ∧ Keep h0 h [sb] ∧ ∃ (t : Addr) (kt : ClassId), t = h0.size ∧ Fld Z h sb "java/lang/AbstractStringBuilder" "value" "[B" (.ref t) ∧ Fld Z h sb "java/lang/AbstractStringBuilder" "coder" "B" (.int 0) ∧ Fld Z h sb "java/lang/AbstractStringBuilder" "count" "I" (.int (Int32.ofNat 0)) ∧ Fld Z h sb "java/lang/AbstractStringBuilder" "maybeLatin1" "Z" (.int 0) ∧ Arv Z h t kt .byte (16 : Int32) (List.replicate 16 (.int 0)) (.int 0)) := by
  refine OwM.mk (plainFor_of_name pn_java_lang_AbstractStringBuilder) ?_
  intro p e s m below meth cD T hx hby hml hown hnm hret hlk hZ P
  have dc := @Jvm.hb cD _ hby
  refine OwG.cast (g' := mkF m 0 #[.val (.ref sb), .val (.int 16)] []) (by first | (simp [entryFrame, mkF, argsToLocals, Value.category]; done) | rfl) ?_
  have KP := Keep.refl h0 [sb]
  refine OwG.ac (mkF m 1 #[.val (.ref sb), .val (.int 16)] [(.ref sb)]) (fun tQ kQ => ?_) ?_
  · exact XS.aloadN P.here hx rfl (dc d8_0) rfl rfl kQ
  refine P.initO hx hZ hown (own_w hw 49 rfl) (own_w hw 12 rfl) (own_w hw 13 rfl) rfl (by rw [hml]; rfl) rfl (dc d8_1) (own_le rfl) (W := 0) (own_le rfl) (own_le rfl) fun T P => ?_
  show OwG p e below s _ _ _ _ T (mkF m 4 #[.val (.ref sb), .val (.int 16)] [])
  refine P.getS hx hZ hown (host := "") (Or.inl (own_w hw 50 rfl)) Via.refl (S2.ext OL.2) rfl (dc d8_4) fun T P => ?_
  show OwG p e below s _ _ _ _ T (mkF m 7 #[.val (.ref sb), .val (.int 16)] [(.int zC)])
  refine OwG.ac (mkF m 12 #[.val (.ref sb), .val (.int 16)] [(.int 16), (.ref sb)]) (fun tQ kQ => ?_) ?_
  · refine XS.ifNo P.here hx rfl (dc d8_7) rfl ((if0 _ _).trans (feq hzC).1) ?_
    refine XS.aloadN P.here hx rfl (dc d8_10) rfl rfl ?_
    exact XS.iloadN P.here hx rfl (dc d8_11) rfl kQ
  refine P.newP hx hZ (own_w hw 15 rfl) rfl (dc d8_12) rfl (by decide) (cap := 16) (by decide) (by decide) (own_le rfl) (own_le rfl) fun T h1 t kt gt P E V_t => ?_
  have ne_sb_t : sb ≠ t := Nat.ne_of_lt (Nat.lt_of_lt_of_le E_sb.lt (Nat.le_of_eq gt.symm))
  have ne_t_sb := Ne.symm ne_sb_t
  have g_t : n0 ≤ t := Nat.le_trans Z0 (Nat.le_of_eq gt.symm)
  have sz_t : h0.size ≤ t := Nat.le_trans KP.1 (Nat.le_of_eq gt.symm)
  replace E_sb := E_sb.ext E
  replace F_value_sb := F_value_sb.ext E
  replace F_coder_sb := F_coder_sb.ext E
  replace F_count_sb := F_count_sb.ext E
  replace F_mb_sb := F_mb_sb.ext E
  replace Z0 := Nat.le_trans Z0 E.1
  replace OL := OL.ext E
  replace KP := KP.ext E
  clear E
  replace V_t : Arv Z h1 t kt .byte (16 : Int32) (List.replicate 16 (.int 0)) (.int 0) := V_t.pad (pad_rep [] (.int 0) 16)
  show OwG p e below s _ _ _ _ T (mkF m 14 #[.val (.ref sb), .val (.int 16)] [(.ref t), (.ref sb)])
  refine P.putF hx hZ hown (host := "") (Or.inl (own_w hw 51 rfl)) Via.refl F_value_sb E_sb (Or.inl (own_w hw 52 rfl)) (own_w hw 38 rfl) (ty := (.array .byte)) (by decide) rfl rfl rfl rfl (dc d8_14) g_sb fun T h2 P W => ?_
  replace E_sb := E_sb.wr W
  replace F_value_sb := F_value_sb.same W
  replace F_coder_sb := F_coder_sb.other W (Or.inr (slot_ne (Or.inl (own_w hw 54 rfl)) (Or.inl (own_w hw 52 rfl)) (by decide) (t := .byte) (t' := (.array .byte)) (by decide) (by decide)))
  replace F_count_sb := F_count_sb.other W (Or.inr (slot_ne (Or.inl (own_w hw 68 rfl)) (Or.inl (own_w hw 52 rfl)) (by decide) (t := .int) (t' := (.array .byte)) (by decide) (by decide)))
  replace F_mb_sb := F_mb_sb.other W (Or.inr (slot_ne (Or.inl (own_w hw 273 rfl)) (Or.inl (own_w hw 52 rfl)) (by decide) (t := .boolean) (t' := (.array .byte)) (by decide) (by decide)))
  replace V_t := V_t.other W ne_t_sb
  replace Z0 := Nat.le_trans Z0 (Keep.of_wr W).1
  replace OL := OL.wr W g_sb
  replace KP := KP.wr W (Or.inl (List.mem_of_getElem? (i := 0) rfl))
  clear W
  show OwG p e below s _ _ _ _ T (mkF m 17 #[.val (.ref sb), .val (.int 16)] [])
  refine OwG.ac (mkF m 19 #[.val (.ref sb), .val (.int 16)] [(.int 0), (.ref sb)]) (fun tQ kQ => ?_) ?_
  · refine XS.aloadN P.here hx rfl (dc d8_17) rfl rfl ?_
    exact XS.iconst P.here hx rfl (dc d8_18) kQ
  refine P.putFN hx hZ hown (own_w hw 53 rfl) Via.refl F_coder_sb E_sb (Or.inl (own_w hw 54 rfl)) (own_w hw 38 rfl) (ty := .byte) (v' := (.int 0)) (by decide) rfl rfl rfl rfl (dc d8_19) g_sb fun T h3 P W => ?_
  replace E_sb := E_sb.wr W
  replace F_value_sb := F_value_sb.other W (Or.inr (slot_ne (Or.inl (own_w hw 52 rfl)) (Or.inl (own_w hw 54 rfl)) (by decide) (t := (.array .byte)) (t' := .byte) (by decide) (by decide)))
  replace F_coder_sb := F_coder_sb.same W
  replace F_count_sb := F_count_sb.other W (Or.inr (slot_ne (Or.inl (own_w hw 68 rfl)) (Or.inl (own_w hw 54 rfl)) (by decide) (t := .int) (t' := .byte) (by decide) (by decide)))
  replace F_mb_sb := F_mb_sb.other W (Or.inr (slot_ne (Or.inl (own_w hw 273 rfl)) (Or.inl (own_w hw 54 rfl)) (by decide) (t := .boolean) (t' := .byte) (by decide) (by decide)))
  replace V_t := V_t.other W ne_t_sb
  replace Z0 := Nat.le_trans Z0 (Keep.of_wr W).1
  replace OL := OL.wr W g_sb
  replace KP := KP.wr W (Or.inl (List.mem_of_getElem? (i := 0) rfl))
  clear W
  show OwG p e below s _ _ _ _ T (mkF m 22 #[.val (.ref sb), .val (.int 16)] [])
  refine OwG.ac (mkF m 38 #[.val (.ref sb), .val (.int 16)] []) (fun tQ kQ => ?_) ?_
  · exact XS.goto P.here hx rfl (pc0 := 22) (pc' := 38) rfl (dc d8_22) (by decide) (by decide) kQ
  exact P.retV hx hlk hret (dc d8_38) (own_le rfl) (own_le rfl) ⟨rfl, KP, t, kt, gt, F_value_sb, F_coder_sb, F_count_sb, F_mb_sb, V_t⟩
abbrev bo7 := jdk_67_method_1_code
theorem d7_0 : decode bo7 0 = .ok (.aload_n 0, 1) := by decide +kernel
theorem d7_1 : decode bo7 1 = .ok (.bipush 16, 2) := by decide +kernel
theorem d7_3 : decode bo7 3 = .ok (.invokespecial 1, 3) := by decide +kernel
theorem pd__I_V : parseMethodDescriptor "(I)V" = some ⟨[.int], none⟩ := by decide +kernel
theorem d7_6 : decode bo7 6 = .ok (.return_, 1) := by decide +kernel
theorem pn_java_lang_StringBuilder : plainName "java/lang/StringBuilder" = true := by first | (simp [plainName, overriddenIn]; done) | decide +kernel
set_option maxRecDepth 65536 in
set_option maxHeartbeats 40000000 in
theorem rmSi (l : Launch) (Z : State) (a0 : Array Value) (hw : ∀ d ∈ tables_1, d.before a0 Z = true) (sb : Addr) (zC : Int32) (h0 : Heap) (n0 : Nat) (Z0 : n0 ≤ h0.size) (S2 : Sta Z Z.heap "java/lang/String" "COMPACT_STRINGS" "Z" (.int zC)) (hzC : ¬ zC = 0) (OL : Old Z n0 h0) (g_sb : n0 ≤ sb) (E_sb : Exa Z h0 sb "java/lang/StringBuilder") (F_value_sb : Fld Z h0 sb "java/lang/AbstractStringBuilder" "value" "[B" .null) (F_coder_sb : Fld Z h0 sb "java/lang/AbstractStringBuilder" "coder" "B" (.int 0)) (F_count_sb : Fld Z h0 sb "java/lang/AbstractStringBuilder" "count" "I" (.int 0)) (F_mb_sb : Fld Z h0 sb "java/lang/AbstractStringBuilder" "maybeLatin1" "Z" (.int 0)) :
    OwM l Z (⟨"java/lang/StringBuilder", "<init>", "()V"⟩ : MethodName) jdk_67_method_1_code 1 none ({ frames := 2, cells := 1, slots := 16, locals := 25 } : Room) n0 #[(.ref sb)] h0 (fun v h => v = none ∧ Keep h0 h [sb] ∧ ∃ (t : Addr) (kt : ClassId), t = h0.size ∧ Fld Z h sb "java/lang/AbstractStringBuilder" "value" "[B" (.ref t) ∧ Fld Z h sb "java/lang/AbstractStringBuilder" "coder" "B" (.int 0) ∧ Fld Z h sb "java/lang/AbstractStringBuilder" "count" "I" (.int (Int32.ofNat 0)) ∧ Fld Z h sb "java/lang/AbstractStringBuilder" "maybeLatin1" "Z" (.int 0) ∧ Arv Z h t kt .byte (16 : Int32) (List.replicate 16 (.int 0)) (.int 0)) := by
  refine OwM.mk (plainFor_of_name pn_java_lang_StringBuilder) ?_
  intro p e s m below meth cD T hx hby hml hown hnm hret hlk hZ P
  have dc := @Jvm.hb cD _ hby
  refine OwG.cast (g' := mkF m 0 #[.val (.ref sb)] []) (by first | (simp [entryFrame, mkF, argsToLocals, Value.category]; done) | rfl) ?_
  refine OwG.ac (mkF m 3 #[.val (.ref sb)] [(.int 16), (.ref sb)]) (fun tQ kQ => ?_) ?_
  · refine XS.aloadN P.here hx rfl (dc d7_0) rfl rfl ?_
    exact XS.bipush P.here hx rfl (dc d7_1) kQ
  refine P.special hx hZ rfl hown (own_w hw 43 rfl) (own_w hw 44 rfl) (own_w hw 48 rfl) (by decide) (OwM.back (W := 0) (rmAi l Z a0 hw sb zC h0 n0 Z0 S2 hzC OL g_sb E_sb F_value_sb F_coder_sb F_count_sb F_mb_sb) hZ (own_w hw 48 rfl) (own_w hw 47 rfl) (own_le rfl) (own_le rfl)) (fun _ _ _ q => q.2) rfl (by rw [hml]; rfl) (a := sb) (argsL := [(.int 16)]) (rest := []) (lenOf pd__I_V rfl) rfl (own_le rfl) (dc d7_3) rfl (own_le rfl) (own_le rfl) fun T own_v own_L h1 own_e P own_q => ?_
  obtain ⟨⟨rfl, own_r⟩, -⟩ := own_q
  show OwG p e below s _ _ _ _ T (mkF m 6 #[.val (.ref sb)] [])
  exact P.retV hx hlk hret (dc d7_6) (own_le rfl) (own_le rfl) ⟨rfl, own_r⟩
abbrev bo38 := jdk_68_method_10_code
theorem d38_0 : decode bo38 0 = .ok (.aload_n 0, 1) := by decide +kernel
theorem d38_1 : decode bo38 1 = .ok (.getfield 15, 3) := by decide +kernel
theorem d38_4 : decode bo38 4 = .ok (.arraylength, 1) := by decide +kernel
theorem d38_5 : decode bo38 5 = .ok (.istore_n 2, 1) := by decide +kernel
theorem d38_6 : decode bo38 6 = .ok (.iload_n 1, 1) := by decide +kernel
theorem d38_7 : decode bo38 7 = .ok (.aload_n 0, 1) := by decide +kernel
theorem d38_8 : decode bo38 8 = .ok (.getfield 22, 3) := by decide +kernel
theorem d38_11 : decode bo38 11 = .ok (.ishl, 1) := by decide +kernel
theorem d38_12 : decode bo38 12 = .ok (.istore_n 3, 1) := by decide +kernel
theorem d38_13 : decode bo38 13 = .ok (.iload_n 3, 1) := by decide +kernel
theorem d38_14 : decode bo38 14 = .ok (.iload_n 2, 1) := by decide +kernel
theorem d38_15 : decode bo38 15 = .ok (.isub, 1) := by decide +kernel
theorem d38_16 : decode bo38 16 = .ok (.istore 4, 2) := by decide +kernel
theorem d38_18 : decode bo38 18 = .ok (.iload_n 2, 1) := by decide +kernel
theorem d38_19 : decode bo38 19 = .ok (.iload 4, 2) := by decide +kernel
theorem d38_21 : decode bo38 21 = .ok (.iload_n 2, 1) := by decide +kernel
theorem d38_22 : decode bo38 22 = .ok (.iconst 2, 1) := by decide +kernel
theorem d38_23 : decode bo38 23 = .ok (.aload_n 0, 1) := by decide +kernel
theorem d38_24 : decode bo38 24 = .ok (.getfield 22, 3) := by decide +kernel
theorem d38_27 : decode bo38 27 = .ok (.ishl, 1) := by decide +kernel
theorem d38_28 : decode bo38 28 = .ok (.iadd, 1) := by decide +kernel
theorem d38_29 : decode bo38 29 = .ok (.invokestatic 114, 3) := by decide +kernel
theorem pd__III_I : parseMethodDescriptor "(III)I" = some ⟨[.int, .int, .int], some .int⟩ := by decide +kernel
theorem d38_32 : decode bo38 32 = .ok (.istore 5, 2) := by decide +kernel
theorem d38_34 : decode bo38 34 = .ok (.iload 5, 2) := by decide +kernel
theorem d38_36 : decode bo38 36 = .ok (.ldc 39, 2) := by decide +kernel
theorem d38_38 : decode bo38 38 = .ok (.if_icmp .ne 13, 3) := by decide +kernel
theorem d38_51 : decode bo38 51 = .ok (.iload 5, 2) := by decide +kernel
theorem d38_53 : decode bo38 53 = .ok (.aload_n 0, 1) := by decide +kernel
theorem d38_54 : decode bo38 54 = .ok (.getfield 22, 3) := by decide +kernel
theorem d38_57 : decode bo38 57 = .ok (.ishr, 1) := by decide +kernel
theorem d38_58 : decode bo38 58 = .ok (.ireturn, 1) := by decide +kernel
set_option maxRecDepth 65536 in
set_option maxHeartbeats 40000000 in
theorem rmNc (l : Launch) (Z : State) (a0 : Array Value) (hw : ∀ d ∈ tables_1, d.before a0 Z = true) (sb t : Addr) (kt : ClassId) (cs : List Int32) (M pn : Nat) (cd NB : Int32) (vs : List Value) (k : Nat) (h0 : Heap) (n0 : Nat) (Z0 : n0 ≤ h0.size) (E_sb : Exa Z h0 sb "java/lang/StringBuilder") (F_value_sb : Fld Z h0 sb "java/lang/AbstractStringBuilder" "value" "[B" (.ref t)) (F_coder_sb : Fld Z h0 sb "java/lang/AbstractStringBuilder" "coder" "B" (.int cd)) (F_count_sb : Fld Z h0 sb "java/lang/AbstractStringBuilder" "count" "I" (.int (Int32.ofNat pn))) (F_mb_sb : Fld Z h0 sb "java/lang/AbstractStringBuilder" "maybeLatin1" "Z" (.int 0)) (V_t : Arv Z h0 t kt .byte NB vs (.int 0)) (hB : own_BC cs M cd NB vs) (hp0 : cs.length = pn) (hpM : pn ≤ M) (hM : M ≤ 140) (g_sb : n0 ≤ sb) (g_t : n0 ≤ t) (hM0 : 0 < M) (hk : M < k) (hkb : own_cap M k ≤ 140) (hk4 : k ≤ 140) :
    OwM l Z (⟨"java/lang/AbstractStringBuilder", "newCapacity", "(I)I"⟩ : MethodName) jdk_68_method_10_code 6 (some .int) ({ frames := 2, cells := 0, slots := 0, locals := 29 } : Room) n0 #[(.ref sb), (.int (Int32.ofNat k))] h0 (fun v h => v = some (.int (Int32.ofNat (own_cap M k))) ∧ h = h0) := by
  refine OwM.mk (plainFor_of_name pn_java_lang_AbstractStringBuilder) ?_
  intro p e s m below meth cD T hx hby hml hown hnm hret hlk hZ P
  have dc := @Jvm.hb cD _ hby
  refine OwG.cast (g' := mkF m 0 #[.val (.ref sb), .val (.int (Int32.ofNat k)), .unset, .unset, .unset, .unset] []) (by first | (simp [entryFrame, mkF, argsToLocals, Value.category]; done) | rfl) ?_
  rcases hB with ⟨rfl, rfl, rfl, ha⟩ | ⟨rfl, rfl, rfl, ha⟩
  ·skip
   refine OwG.ac (mkF m 1 #[.val (.ref sb), .val (.int (Int32.ofNat k)), .unset, .unset, .unset, .unset] [(.ref sb)]) (fun tQ kQ => ?_) ?_
   · exact XS.aloadN P.here hx rfl (dc d38_0) rfl rfl kQ
   refine P.getF hx hZ hown (host := "") (Or.inl (own_w hw 51 rfl)) Via.refl F_value_sb rfl rfl (dc d38_1) fun T P => ?_
   show OwG p e below s _ _ _ _ T (mkF m 4 #[.val (.ref sb), .val (.int (Int32.ofNat k)), .unset, .unset, .unset, .unset] [(.ref t)])
   obtain ⟨own_cl, own_A, own_q1, own_S, own_M, own_H, own_U⟩ := id V_t
   obtain ⟨own_L, own_X, own_e, own_N⟩ := id P
   have own_Z := hZ
   refine OwG.ac (mkF m 8 #[.val (.ref sb), .val (.int (Int32.ofNat k)), .val (.int (Int32.ofNat M)), .unset, .unset, .unset] [(.ref sb), (.int (Int32.ofNat k))]) (fun tQ kQ => ?_) ?_
   · refine own_X.arraylength hx (by rw [own_e]; exact own_A.1) (State.isArrayOf_alike own_Z.alike own_A.2.1) (g := (mkF m 4 #[.val (.ref sb), .val (.int (Int32.ofNat k)), .unset, .unset, .unset, .unset] [(.ref t)])) rfl rfl (dc d38_4) _ ?_
     rw [len_of own_S own_M]
     refine XS.istoreN P.here hx rfl (dc d38_5) rfl (l' := #[.val (.ref sb), .val (.int (Int32.ofNat k)), .val (.int (Int32.ofNat M)), .unset, .unset, .unset]) rfl ?_
     refine XS.iloadN P.here hx rfl (dc d38_6) rfl ?_
     exact XS.aloadN P.here hx rfl (dc d38_7) rfl rfl kQ
   refine P.getF hx hZ hown (host := "") (Or.inl (own_w hw 53 rfl)) Via.refl F_coder_sb rfl rfl (dc d38_8) fun T P => ?_
   show OwG p e below s _ _ _ _ T (mkF m 11 #[.val (.ref sb), .val (.int (Int32.ofNat k)), .val (.int (Int32.ofNat M)), .unset, .unset, .unset] [(.int 0), (.int (Int32.ofNat k))])
   refine OwG.ac (mkF m 12 #[.val (.ref sb), .val (.int (Int32.ofNat k)), .val (.int (Int32.ofNat M)), .unset, .unset, .unset] [(.int ((Int32.ofNat k) <<< ((0 : Int32) &&& 31)))]) (fun tQ kQ => ?_) ?_
   · exact XS.ishl P.here hx rfl (dc d38_11) rfl kQ
   rw [show ((Int32.ofNat k) <<< ((0 : Int32) &&& 31)) = (Int32.ofNat k) from own_shl0 _]
   refine OwG.ac (mkF m 16 #[.val (.ref sb), .val (.int (Int32.ofNat k)), .val (.int (Int32.ofNat M)), .val (.int (Int32.ofNat k)), .unset, .unset] [(.int ((Int32.ofNat k) - (Int32.ofNat M)))]) (fun tQ kQ => ?_) ?_
   · refine XS.istoreN P.here hx rfl (dc d38_12) rfl (l' := #[.val (.ref sb), .val (.int (Int32.ofNat k)), .val (.int (Int32.ofNat M)), .val (.int (Int32.ofNat k)), .unset, .unset]) rfl ?_
     refine XS.iloadN P.here hx rfl (dc d38_13) rfl ?_
     refine XS.iloadN P.here hx rfl (dc d38_14) rfl ?_
     exact XS.isub P.here hx rfl (dc d38_15) rfl kQ
   rw [show ((Int32.ofNat k) - (Int32.ofNat M)) = (Int32.ofNat (k - M)) from own_subN (by omega) (by omega)]
   refine OwG.ac (mkF m 24 #[.val (.ref sb), .val (.int (Int32.ofNat k)), .val (.int (Int32.ofNat M)), .val (.int (Int32.ofNat k)), .val (.int (Int32.ofNat (k - M))), .unset] [(.ref sb), (.int 2), (.int (Int32.ofNat M)), (.int (Int32.ofNat (k - M))), (.int (Int32.ofNat M))]) (fun tQ kQ => ?_) ?_
   · refine XS.istore P.here hx rfl (dc d38_16) rfl (l' := #[.val (.ref sb), .val (.int (Int32.ofNat k)), .val (.int (Int32.ofNat M)), .val (.int (Int32.ofNat k)), .val (.int (Int32.ofNat (k - M))), .unset]) rfl ?_
     refine XS.iloadN P.here hx rfl (dc d38_18) rfl ?_
     refine XS.iload P.here hx rfl (dc d38_19) rfl ?_
     refine XS.iloadN P.here hx rfl (dc d38_21) rfl ?_
     refine XS.iconst P.here hx rfl (dc d38_22) ?_
     exact XS.aloadN P.here hx rfl (dc d38_23) rfl rfl kQ
   refine P.getF hx hZ hown (host := "") (Or.inl (own_w hw 53 rfl)) Via.refl F_coder_sb rfl rfl (dc d38_24) fun T P => ?_
   show OwG p e below s _ _ _ _ T (mkF m 27 #[.val (.ref sb), .val (.int (Int32.ofNat k)), .val (.int (Int32.ofNat M)), .val (.int (Int32.ofNat k)), .val (.int (Int32.ofNat (k - M))), .unset] [(.int 0), (.int 2), (.int (Int32.ofNat M)), (.int (Int32.ofNat (k - M))), (.int (Int32.ofNat M))])
   refine OwG.ac (mkF m 28 #[.val (.ref sb), .val (.int (Int32.ofNat k)), .val (.int (Int32.ofNat M)), .val (.int (Int32.ofNat k)), .val (.int (Int32.ofNat (k - M))), .unset] [(.int ((2 : Int32) <<< ((0 : Int32) &&& 31))), (.int (Int32.ofNat M)), (.int (Int32.ofNat (k - M))), (.int (Int32.ofNat M))]) (fun tQ kQ => ?_) ?_
   · exact XS.ishl P.here hx rfl (dc d38_27) rfl kQ
   rw [show ((2 : Int32) <<< ((0 : Int32) &&& 31)) = (Int32.ofNat 2) from by decide]
   refine OwG.ac (mkF m 29 #[.val (.ref sb), .val (.int (Int32.ofNat k)), .val (.int (Int32.ofNat M)), .val (.int (Int32.ofNat k)), .val (.int (Int32.ofNat (k - M))), .unset] [(.int ((Int32.ofNat M) + (Int32.ofNat 2))), (.int (Int32.ofNat (k - M))), (.int (Int32.ofNat M))]) (fun tQ kQ => ?_) ?_
   · exact XS.iadd P.here hx rfl (dc d38_28) rfl kQ
   rw [show ((Int32.ofNat M) + (Int32.ofNat 2)) = (Int32.ofNat (M + 2)) from own_addn _ _]
   have own_c := own_cap0 hk
   refine P.stat hx hZ hown (own_w hw 195 rfl) (own_w hw 196 rfl) (own_w hw 197 rfl) (own_w hw 198 rfl) (by decide) (OwM.back (W := 0) (rmNl l Z a0 hw M (k - M) (M + 2) h0 n0 Z0 (by omega) (by omega) (by omega) (by omega) (by rw [own_c]; omega)) hZ (own_w hw 198 rfl) (own_w hw 197 rfl) (own_le rfl) (own_le rfl)) (fun _ _ _ q => q.2) rfl (by rw [hml]; rfl) (argsL := [(.int (Int32.ofNat M)), (.int (Int32.ofNat (k - M))), (.int (Int32.ofNat (M + 2)))]) (rest := []) (lenOf pd__III_I rfl) rfl (own_le rfl) (dc d38_29) rfl (own_le rfl) (own_le rfl) fun T own_v own_L h1 own_e P own_q => ?_
   obtain ⟨⟨rfl, own_hh⟩, -⟩ := own_q
   rw [own_hh] at P
   clear own_e own_hh
   show OwG p e below s _ _ _ _ T (mkF m 32 #[.val (.ref sb), .val (.int (Int32.ofNat k)), .val (.int (Int32.ofNat M)), .val (.int (Int32.ofNat k)), .val (.int (Int32.ofNat (k - M))), .unset] [(.int (Int32.ofNat (M + (if k - M < M + 2 then M + 2 else k - M))))])
   rw [show (Int32.ofNat (M + (if k - M < M + 2 then M + 2 else k - M))) = (Int32.ofNat (own_cap M k)) from by rw [own_c]]
   refine OwG.ac (mkF m 36 #[.val (.ref sb), .val (.int (Int32.ofNat k)), .val (.int (Int32.ofNat M)), .val (.int (Int32.ofNat k)), .val (.int (Int32.ofNat (k - M))), .val (.int (Int32.ofNat (own_cap M k)))] [(.int (Int32.ofNat (own_cap M k)))]) (fun tQ kQ => ?_) ?_
   · refine XS.istore P.here hx rfl (dc d38_32) rfl (l' := #[.val (.ref sb), .val (.int (Int32.ofNat k)), .val (.int (Int32.ofNat M)), .val (.int (Int32.ofNat k)), .val (.int (Int32.ofNat (k - M))), .val (.int (Int32.ofNat (own_cap M k)))]) rfl ?_
     exact XS.iload P.here hx rfl (dc d38_34) rfl kQ
   obtain ⟨own_L, own_X, own_rest⟩ := id P
   refine OwG.ac (mkF m 54 #[.val (.ref sb), .val (.int (Int32.ofNat k)), .val (.int (Int32.ofNat M)), .val (.int (Int32.ofNat k)), .val (.int (Int32.ofNat (k - M))), .val (.int (Int32.ofNat (own_cap M k)))] [(.ref sb), (.int (Int32.ofNat (own_cap M k)))]) (fun tQ kQ => ?_) ?_
   · refine own_X.ldcInt hx hown (mvT hZ (own_w hw 203 rfl)) (g := (mkF m 36 #[.val (.ref sb), .val (.int (Int32.ofNat k)), .val (.int (Int32.ofNat M)), .val (.int (Int32.ofNat k)), .val (.int (Int32.ofNat (k - M))), .val (.int (Int32.ofNat (own_cap M k)))] [(.int (Int32.ofNat (own_cap M k)))])) rfl (dc d38_36) _ ?_
     refine XS.icmpYes P.here hx rfl (pc0 := 38) (pc' := 51) rfl (dc d38_38) rfl (feq (own_ne32 (n := 2147483647) (by omega) (by omega) (by omega))).2 (by decide) (by decide) ?_
     refine XS.iload P.here hx rfl (dc d38_51) rfl ?_
     exact XS.aloadN P.here hx rfl (dc d38_53) rfl rfl kQ
   refine P.getF hx hZ hown (host := "") (Or.inl (own_w hw 53 rfl)) Via.refl F_coder_sb rfl rfl (dc d38_54) fun T P => ?_
   show OwG p e below s _ _ _ _ T (mkF m 57 #[.val (.ref sb), .val (.int (Int32.ofNat k)), .val (.int (Int32.ofNat M)), .val (.int (Int32.ofNat k)), .val (.int (Int32.ofNat (k - M))), .val (.int (Int32.ofNat (own_cap M k)))] [(.int 0), (.int (Int32.ofNat (own_cap M k)))])
   refine OwG.ac (mkF m 58 #[.val (.ref sb), .val (.int (Int32.ofNat k)), .val (.int (Int32.ofNat M)), .val (.int (Int32.ofNat k)), .val (.int (Int32.ofNat (k - M))), .val (.int (Int32.ofNat (own_cap M k)))] [(.int ((Int32.ofNat (own_cap M k)) >>> ((0 : Int32) &&& 31)))]) (fun tQ kQ => ?_) ?_
   · exact XS.ishr P.here hx rfl (dc d38_57) rfl kQ
   rw [show ((Int32.ofNat (own_cap M k)) >>> ((0 : Int32) &&& 31)) = (Int32.ofNat (own_cap M k)) from StrChars.shr0 _]
   exact P.retI hx hlk hret (dc d38_58) (own_le rfl) (own_le rfl) ⟨rfl, rfl⟩
  ·skip
   refine OwG.ac (mkF m 1 #[.val (.ref sb), .val (.int (Int32.ofNat k)), .unset, .unset, .unset, .unset] [(.ref sb)]) (fun tQ kQ => ?_) ?_
   · exact XS.aloadN P.here hx rfl (dc d38_0) rfl rfl kQ
   refine P.getF hx hZ hown (host := "") (Or.inl (own_w hw 51 rfl)) Via.refl F_value_sb rfl rfl (dc d38_1) fun T P => ?_
   show OwG p e below s _ _ _ _ T (mkF m 4 #[.val (.ref sb), .val (.int (Int32.ofNat k)), .unset, .unset, .unset, .unset] [(.ref t)])
   obtain ⟨own_cl, own_A, own_q1, own_S, own_M, own_H, own_U⟩ := id V_t
   obtain ⟨own_L, own_X, own_e, own_N⟩ := id P
   have own_Z := hZ
   refine OwG.ac (mkF m 8 #[.val (.ref sb), .val (.int (Int32.ofNat k)), .val (.int (Int32.ofNat (2 * M))), .unset, .unset, .unset] [(.ref sb), (.int (Int32.ofNat k))]) (fun tQ kQ => ?_) ?_
   · refine own_X.arraylength hx (by rw [own_e]; exact own_A.1) (State.isArrayOf_alike own_Z.alike own_A.2.1) (g := (mkF m 4 #[.val (.ref sb), .val (.int (Int32.ofNat k)), .unset, .unset, .unset, .unset] [(.ref t)])) rfl rfl (dc d38_4) _ ?_
     rw [len_of own_S own_M]
     refine XS.istoreN P.here hx rfl (dc d38_5) rfl (l' := #[.val (.ref sb), .val (.int (Int32.ofNat k)), .val (.int (Int32.ofNat (2 * M))), .unset, .unset, .unset]) rfl ?_
     refine XS.iloadN P.here hx rfl (dc d38_6) rfl ?_
     exact XS.aloadN P.here hx rfl (dc d38_7) rfl rfl kQ
   refine P.getF hx hZ hown (host := "") (Or.inl (own_w hw 53 rfl)) Via.refl F_coder_sb rfl rfl (dc d38_8) fun T P => ?_
   show OwG p e below s _ _ _ _ T (mkF m 11 #[.val (.ref sb), .val (.int (Int32.ofNat k)), .val (.int (Int32.ofNat (2 * M))), .unset, .unset, .unset] [(.int 1), (.int (Int32.ofNat k))])
   refine OwG.ac (mkF m 12 #[.val (.ref sb), .val (.int (Int32.ofNat k)), .val (.int (Int32.ofNat (2 * M))), .unset, .unset, .unset] [(.int ((Int32.ofNat k) <<< ((1 : Int32) &&& 31)))]) (fun tQ kQ => ?_) ?_
   · exact XS.ishl P.here hx rfl (dc d38_11) rfl kQ
   rw [show ((Int32.ofNat k) <<< ((1 : Int32) &&& 31)) = (Int32.ofNat (2 * k)) from own_shl1 (by omega)]
   refine OwG.ac (mkF m 16 #[.val (.ref sb), .val (.int (Int32.ofNat k)), .val (.int (Int32.ofNat (2 * M))), .val (.int (Int32.ofNat (2 * k))), .unset, .unset] [(.int ((Int32.ofNat (2 * k)) - (Int32.ofNat (2 * M))))]) (fun tQ kQ => ?_) ?_
   · refine XS.istoreN P.here hx rfl (dc d38_12) rfl (l' := #[.val (.ref sb), .val (.int (Int32.ofNat k)), .val (.int (Int32.ofNat (2 * M))), .val (.int (Int32.ofNat (2 * k))), .unset, .unset]) rfl ?_
     refine XS.iloadN P.here hx rfl (dc d38_13) rfl ?_
     refine XS.iloadN P.here hx rfl (dc d38_14) rfl ?_
     exact XS.isub P.here hx rfl (dc d38_15) rfl kQ
   rw [show ((Int32.ofNat (2 * k)) - (Int32.ofNat (2 * M))) = (Int32.ofNat ((2 * k) - (2 * M))) from own_subN (by omega) (by omega)]
   refine OwG.ac (mkF m 24 #[.val (.ref sb), .val (.int (Int32.ofNat k)), .val (.int (Int32.ofNat (2 * M))), .val (.int (Int32.ofNat (2 * k))), .val (.int (Int32.ofNat ((2 * k) - (2 * M)))), .unset] [(.ref sb), (.int 2), (.int (Int32.ofNat (2 * M))), (.int (Int32.ofNat ((2 * k) - (2 * M)))), (.int (Int32.ofNat (2 * M)))]) (fun tQ kQ => ?_) ?_
   · refine XS.istore P.here hx rfl (dc d38_16) rfl (l' := #[.val (.ref sb), .val (.int (Int32.ofNat k)), .val (.int (Int32.ofNat (2 * M))), .val (.int (Int32.ofNat (2 * k))), .val (.int (Int32.ofNat ((2 * k) - (2 * M)))), .unset]) rfl ?_
     refine XS.iloadN P.here hx rfl (dc d38_18) rfl ?_
     refine XS.iload P.here hx rfl (dc d38_19) rfl ?_
     refine XS.iloadN P.here hx rfl (dc d38_21) rfl ?_
     refine XS.iconst P.here hx rfl (dc d38_22) ?_
     exact XS.aloadN P.here hx rfl (dc d38_23) rfl rfl kQ
   refine P.getF hx hZ hown (host := "") (Or.inl (own_w hw 53 rfl)) Via.refl F_coder_sb rfl rfl (dc d38_24) fun T P => ?_
   show OwG p e below s _ _ _ _ T (mkF m 27 #[.val (.ref sb), .val (.int (Int32.ofNat k)), .val (.int (Int32.ofNat (2 * M))), .val (.int (Int32.ofNat (2 * k))), .val (.int (Int32.ofNat ((2 * k) - (2 * M)))), .unset] [(.int 1), (.int 2), (.int (Int32.ofNat (2 * M))), (.int (Int32.ofNat ((2 * k) - (2 * M)))), (.int (Int32.ofNat (2 * M)))])
   refine OwG.ac (mkF m 28 #[.val (.ref sb), .val (.int (Int32.ofNat k)), .val (.int (Int32.ofNat (2 * M))), .val (.int (Int32.ofNat (2 * k))), .val (.int (Int32.ofNat ((2 * k) - (2 * M)))), .unset] [(.int ((2 : Int32) <<< ((1 : Int32) &&& 31))), (.int (Int32.ofNat (2 * M))), (.int (Int32.ofNat ((2 * k) - (2 * M)))), (.int (Int32.ofNat (2 * M)))]) (fun tQ kQ => ?_) ?_
   · exact XS.ishl P.here hx rfl (dc d38_27) rfl kQ
   rw [show ((2 : Int32) <<< ((1 : Int32) &&& 31)) = (Int32.ofNat 4) from by decide]
   refine OwG.ac (mkF m 29 #[.val (.ref sb), .val (.int (Int32.ofNat k)), .val (.int (Int32.ofNat (2 * M))), .val (.int (Int32.ofNat (2 * k))), .val (.int (Int32.ofNat ((2 * k) - (2 * M)))), .unset] [(.int ((Int32.ofNat (2 * M)) + (Int32.ofNat 4))), (.int (Int32.ofNat ((2 * k) - (2 * M)))), (.int (Int32.ofNat (2 * M)))]) (fun tQ kQ => ?_) ?_
   · exact XS.iadd P.here hx rfl (dc d38_28) rfl kQ
   rw [show ((Int32.ofNat (2 * M)) + (Int32.ofNat 4)) = (Int32.ofNat ((2 * M) + 4)) from own_addn _ _]
   have own_c := own_cap1 hk
   refine P.stat hx hZ hown (own_w hw 195 rfl) (own_w hw 196 rfl) (own_w hw 197 rfl) (own_w hw 198 rfl) (by decide) (OwM.back (W := 0) (rmNl l Z a0 hw (2 * M) ((2 * k) - (2 * M)) ((2 * M) + 4) h0 n0 Z0 (by omega) (by omega) (by omega) (by omega) (by rw [own_c]; omega)) hZ (own_w hw 198 rfl) (own_w hw 197 rfl) (own_le rfl) (own_le rfl)) (fun _ _ _ q => q.2) rfl (by rw [hml]; rfl) (argsL := [(.int (Int32.ofNat (2 * M))), (.int (Int32.ofNat ((2 * k) - (2 * M)))), (.int (Int32.ofNat ((2 * M) + 4)))]) (rest := []) (lenOf pd__III_I rfl) rfl (own_le rfl) (dc d38_29) rfl (own_le rfl) (own_le rfl) fun T own_v own_L h1 own_e P own_q => ?_
   obtain ⟨⟨rfl, own_hh⟩, -⟩ := own_q
   rw [own_hh] at P
   clear own_e own_hh
   show OwG p e below s _ _ _ _ T (mkF m 32 #[.val (.ref sb), .val (.int (Int32.ofNat k)), .val (.int (Int32.ofNat (2 * M))), .val (.int (Int32.ofNat (2 * k))), .val (.int (Int32.ofNat ((2 * k) - (2 * M)))), .unset] [(.int (Int32.ofNat ((2 * M) + (if (2 * k) - (2 * M) < (2 * M) + 4 then (2 * M) + 4 else (2 * k) - (2 * M)))))])
   rw [show (Int32.ofNat ((2 * M) + (if (2 * k) - (2 * M) < (2 * M) + 4 then (2 * M) + 4 else (2 * k) - (2 * M)))) = (Int32.ofNat (2 * own_cap M k)) from by rw [own_c]]
   refine OwG.ac (mkF m 36 #[.val (.ref sb), .val (.int (Int32.ofNat k)), .val (.int (Int32.ofNat (2 * M))), .val (.int (Int32.ofNat (2 * k))), .val (.int (Int32.ofNat ((2 * k) - (2 * M)))), .val (.int (Int32.ofNat (2 * own_cap M k)))] [(.int (Int32.ofNat (2 * own_cap M k)))]) (fun tQ kQ => ?_) ?_
   · refine XS.istore P.here hx rfl (dc d38_32) rfl (l' := #[.val (.ref sb), .val (.int (Int32.ofNat k)), .val (.int (Int32.ofNat (2 * M))), .val (.int (Int32.ofNat (2 * k))), .val (.int (Int32.ofNat ((2 * k) - (2 * M)))), .val (.int (Int32.ofNat (2 * own_cap M k)))]) rfl ?_
     exact XS.iload P.here hx rfl (dc d38_34) rfl kQ
   obtain ⟨own_L, own_X, own_rest⟩ := id P
   refine OwG.ac (mkF m 54 #[.val (.ref sb), .val (.int (Int32.ofNat k)), .val (.int (Int32.ofNat (2 * M))), .val (.int (Int32.ofNat (2 * k))), .val (.int (Int32.ofNat ((2 * k) - (2 * M)))), .val (.int (Int32.ofNat (2 * own_cap M k)))] [(.ref sb), (.int (Int32.ofNat (2 * own_cap M k)))]) (fun tQ kQ => ?_) ?_
   · refine own_X.ldcInt hx hown (mvT hZ (own_w hw 203 rfl)) (g := (mkF m 36 #[.val (.ref sb), .val (.int (Int32.ofNat k)), .val (.int (Int32.ofNat (2 * M))), .val (.int (Int32.ofNat (2 * k))), .val (.int (Int32.ofNat ((2 * k) - (2 * M)))), .val (.int (Int32.ofNat (2 * own_cap M k)))] [(.int (Int32.ofNat (2 * own_cap M k)))])) rfl (dc d38_36) _ ?_
     refine XS.icmpYes P.here hx rfl (pc0 := 38) (pc' := 51) rfl (dc d38_38) rfl (feq (own_ne32 (n := 2147483647) (by omega) (by omega) (by omega))).2 (by decide) (by decide) ?_
     refine XS.iload P.here hx rfl (dc d38_51) rfl ?_
     exact XS.aloadN P.here hx rfl (dc d38_53) rfl rfl kQ
   refine P.getF hx hZ hown (host := "") (Or.inl (own_w hw 53 rfl)) Via.refl F_coder_sb rfl rfl (dc d38_54) fun T P => ?_
   show OwG p e below s _ _ _ _ T (mkF m 57 #[.val (.ref sb), .val (.int (Int32.ofNat k)), .val (.int (Int32.ofNat (2 * M))), .val (.int (Int32.ofNat (2 * k))), .val (.int (Int32.ofNat ((2 * k) - (2 * M)))), .val (.int (Int32.ofNat (2 * own_cap M k)))] [(.int 1), (.int (Int32.ofNat (2 * own_cap M k)))])
   refine OwG.ac (mkF m 58 #[.val (.ref sb), .val (.int (Int32.ofNat k)), .val (.int (Int32.ofNat (2 * M))), .val (.int (Int32.ofNat (2 * k))), .val (.int (Int32.ofNat ((2 * k) - (2 * M)))), .val (.int (Int32.ofNat (2 * own_cap M k)))] [(.int ((Int32.ofNat (2 * own_cap M k)) >>> ((1 : Int32) &&& 31)))]) (fun tQ kQ => ?_) ?_
   · exact XS.ishr P.here hx rfl (dc d38_57) rfl kQ
   rw [show ((Int32.ofNat (2 * own_cap M k)) >>> ((1 : Int32) &&& 31)) = (Int32.ofNat (own_cap M k)) from StrChars.shr1 (by omega)]
   exact P.retI hx hlk hret (dc d38_58) (own_le rfl) (own_le rfl) ⟨rfl, rfl⟩
abbrev bo41 := jdk_65_method_121_code
theorem d41_0 : decode bo41 0 = .ok (.iload_n 1, 1) := by decide +kernel
theorem d41_1 : decode bo41 1 = .ok (.aload_n 0, 1) := by decide +kernel
theorem d41_2 : decode bo41 2 = .ok (.arraylength, 1) := by decide +kernel
theorem d41_3 : decode bo41 3 = .ok (.if_icmp .ne 11, 3) := by decide +kernel
theorem d41_14 : decode bo41 14 = .ok (.iload_n 1, 1) := by decide +kernel
theorem d41_15 : decode bo41 15 = .ok (.newarray .byte, 2) := by decide +kernel
theorem d41_17 : decode bo41 17 = .ok (.astore_n 2, 1) := by decide +kernel
theorem d41_18 : decode bo41 18 = .ok (.aload_n 0, 1) := by decide +kernel
theorem d41_19 : decode bo41 19 = .ok (.iconst 0, 1) := by decide +kernel
theorem d41_20 : decode bo41 20 = .ok (.aload_n 2, 1) := by decide +kernel
theorem d41_21 : decode bo41 21 = .ok (.iconst 0, 1) := by decide +kernel
theorem d41_22 : decode bo41 22 = .ok (.aload_n 0, 1) := by decide +kernel
theorem d41_23 : decode bo41 23 = .ok (.arraylength, 1) := by decide +kernel
theorem d41_24 : decode bo41 24 = .ok (.iload_n 1, 1) := by decide +kernel
theorem d41_25 : decode bo41 25 = .ok (.invokestatic 304, 3) := by decide +kernel
theorem d41_28 : decode bo41 28 = .ok (.invokestatic 150, 3) := by decide +kernel
theorem d41_31 : decode bo41 31 = .ok (.aload_n 2, 1) := by decide +kernel
theorem d41_32 : decode bo41 32 = .ok (.areturn, 1) := by decide +kernel
theorem pn_java_util_Arrays : plainName "java/util/Arrays" = true := by first | (simp [plainName, overriddenIn]; done) | decide +kernel
set_option maxRecDepth 65536 in
set_option maxHeartbeats 40000000 in
theorem rmCpo (l : Launch) (Z : State) (a0 : Array Value) (hw : ∀ d ∈ tables_1, d.before a0 Z = true) (t : Addr) (kt : ClassId) (N N2 : Nat) (vs : List Value) (h0 : Heap) (n0 : Nat) (Z0 : n0 ≤ h0.size) (V_t : Arv Z h0 t kt .byte (Int32.ofNat N) vs (.int 0)) (hvs : vs.length = N) (hlt : N < N2) (hN : N2 ≤ 280) :
    OwM l Z (⟨"java/util/Arrays", "copyOf", "([BI)[B"⟩ : MethodName) jdk_65_method_121_code 3 (some (.array .byte)) ({ frames := 1, cells := 1, slots := 280, locals := 18 } : Room) n0 #[(.ref t), (.int (Int32.ofNat N2))] h0 (fun v h => Keep h0 h [] ∧ ∃ (b : Addr) (kb : ClassId), v = some (.ref b) ∧ b = h0.size ∧ Arv Z h b kb .byte (Int32.ofNat N2) (vs ++ List.replicate (N2 - N) (.int 0)) (.int 0)) := by
  refine OwM.mk (plainFor_of_name pn_java_util_Arrays) ?_
  intro p e s m below meth cD T hx hby hml hown hnm hret hlk hZ P
  have dc := @Jvm.hb cD _ hby
  refine OwG.cast (g' := mkF m 0 #[.val (.ref t), .val (.int (Int32.ofNat N2)), .unset] []) (by first | (simp [entryFrame, mkF, argsToLocals, Value.category]; done) | rfl) ?_
  have KP := Keep.refl h0 []
  refine OwG.ac (mkF m 2 #[.val (.ref t), .val (.int (Int32.ofNat N2)), .unset] [(.ref t), (.int (Int32.ofNat N2))]) (fun tQ kQ => ?_) ?_
  · refine XS.iloadN P.here hx rfl (dc d41_0) rfl ?_
    exact XS.aloadN P.here hx rfl (dc d41_1) rfl rfl kQ
  obtain ⟨own_cl, own_A, own_q1, own_S, own_M, own_H, own_U⟩ := id V_t
  obtain ⟨own_L, own_X, own_e, own_N⟩ := id P
  have own_Z := hZ
  refine OwG.ac (mkF m 15 #[.val (.ref t), .val (.int (Int32.ofNat N2)), .unset] [(.int (Int32.ofNat N2))]) (fun tQ kQ => ?_) ?_
  · refine own_X.arraylength hx (by rw [own_e]; exact own_A.1) (State.isArrayOf_alike own_Z.alike own_A.2.1) (g := (mkF m 2 #[.val (.ref t), .val (.int (Int32.ofNat N2)), .unset] [(.ref t), (.int (Int32.ofNat N2))])) rfl rfl (dc d41_2) _ ?_
    rw [len_of own_S own_M]
    refine XS.icmpYes P.here hx rfl (pc0 := 3) (pc' := 14) rfl (dc d41_3) rfl (feq (own_ne32 (by omega) (by omega) (by omega))).2 (by decide) (by decide) ?_
    exact XS.iloadN P.here hx rfl (dc d41_14) rfl kQ
  refine P.newP hx hZ (own_w hw 15 rfl) rfl (dc d41_15) rfl (own_nn (by omega)) (cap := 280) (by rw [own_tc (by omega)]; omega) (by decide) (own_le rfl) (own_le rfl) fun T h1 b kb gb P E V_b => ?_
  have ne_t_b : t ≠ b := Nat.ne_of_lt (Nat.lt_of_lt_of_le V_t.lt (Nat.le_of_eq gb.symm))
  have ne_b_t := Ne.symm ne_t_b
  have g_b : n0 ≤ b := Nat.le_trans Z0 (Nat.le_of_eq gb.symm)
  have sz_b : h0.size ≤ b := Nat.le_trans KP.1 (Nat.le_of_eq gb.symm)
  replace V_t := V_t.ext E
  replace Z0 := Nat.le_trans Z0 E.1
  replace KP := KP.ext E
  clear E
  replace V_b : Arv Z h1 b kb .byte (Int32.ofNat N2) (List.replicate N2 (.int 0)) (.int 0) := V_b.pad (pad_rep [] (.int 0) N2)
  show OwG p e below s _ _ _ _ T (mkF m 17 #[.val (.ref t), .val (.int (Int32.ofNat N2)), .unset] [(.ref b)])
  refine OwG.ac (mkF m 23 #[.val (.ref t), .val (.int (Int32.ofNat N2)), .val (.ref b)] [(.ref t), (.int 0), (.ref b), (.int 0), (.ref t)]) (fun tQ kQ => ?_) ?_
  · refine XS.astoreN P.here hx rfl (dc d41_17) rfl rfl (l' := #[.val (.ref t), .val (.int (Int32.ofNat N2)), .val (.ref b)]) rfl ?_
    refine XS.aloadN P.here hx rfl (dc d41_18) rfl rfl ?_
    refine XS.iconst P.here hx rfl (dc d41_19) ?_
    refine XS.aloadN P.here hx rfl (dc d41_20) rfl rfl ?_
    refine XS.iconst P.here hx rfl (dc d41_21) ?_
    exact XS.aloadN P.here hx rfl (dc d41_22) rfl rfl kQ
  obtain ⟨own_cl, own_A, own_q1, own_S, own_M, own_H, own_U⟩ := id V_t
  obtain ⟨own_L, own_X, own_e, own_N⟩ := id P
  have own_Z := hZ
  refine OwG.ac (mkF m 25 #[.val (.ref t), .val (.int (Int32.ofNat N2)), .val (.ref b)] [(.int (Int32.ofNat N2)), (.int (Int32.ofNat N)), (.int 0), (.ref b), (.int 0), (.ref t)]) (fun tQ kQ => ?_) ?_
  · refine own_X.arraylength hx (by rw [own_e]; exact own_A.1) (State.isArrayOf_alike own_Z.alike own_A.2.1) (g := (mkF m 23 #[.val (.ref t), .val (.int (Int32.ofNat N2)), .val (.ref b)] [(.ref t), (.int 0), (.ref b), (.int 0), (.ref t)])) rfl rfl (dc d41_23) _ ?_
    rw [len_of own_S own_M]
    exact XS.iloadN P.here hx rfl (dc d41_24) rfl kQ
  refine P.stat hx hZ hown (own_w hw 134 rfl) (own_w hw 135 rfl) (own_w hw 136 rfl) (own_w hw 137 rfl) (by decide) (OwM.back (W := 4) (rmMin l Z a0 hw (Int32.ofNat N) (Int32.ofNat N2) h1 n0 Z0) hZ (own_w hw 137 rfl) (own_w hw 136 rfl) (own_le rfl) (own_le rfl)) (fun _ _ _ q => q.2) rfl (by rw [hml]; rfl) (argsL := [(.int (Int32.ofNat N)), (.int (Int32.ofNat N2))]) (rest := [(.int 0), (.ref b), (.int 0), (.ref t)]) (lenOf pd__II_I rfl) rfl (own_le rfl) (dc d41_25) rfl (own_le rfl) (own_le rfl) fun T own_v own_L h2 own_e P own_q => ?_
  obtain ⟨⟨rfl, own_hh⟩, -⟩ := own_q
  rw [own_hh] at P
  clear own_e own_hh
  show OwG p e below s _ _ _ _ T (mkF m 28 #[.val (.ref t), .val (.int (Int32.ofNat N2)), .val (.ref b)] [(.int (if (Int32.ofNat N2) < (Int32.ofNat N) then (Int32.ofNat N2) else (Int32.ofNat N))), (.int 0), (.ref b), (.int 0), (.ref t)])
  rw [show (if (Int32.ofNat N2) < (Int32.ofNat N) then (Int32.ofNat N2) else (Int32.ofNat N)) = (Int32.ofNat N) from if_neg (own_nlt (by omega) (by omega))]
  refine P.cpN hx hZ hown (own_w hw 138 rfl) (own_w hw 93 rfl) (own_w hw 91 rfl) (own_w hw 92 rfl) V_t V_b (N := N) (M := N2) (sp := 0) (dp := 0) (nn := N) (r := (vs ++ List.replicate (N2 - N) (.int 0))) (by omega) (by omega) hvs List.length_replicate (by omega) (by omega) (own_grow hvs) g_b rfl (by rw [hml]; rfl) rfl (dc d41_28) (own_le rfl) (W := 0) (own_le rfl) (own_le rfl) fun T h3 P K V' => ?_
  replace V_t := V_t.keep K (ninS ne_t_b nin0)
  replace Z0 := Nat.le_trans Z0 K.1
  replace KP := KP.trans K (allS (Or.inr sz_b) all0)
  have V_b := V'
  clear K V'
  show OwG p e below s _ _ _ _ T (mkF m 31 #[.val (.ref t), .val (.int (Int32.ofNat N2)), .val (.ref b)] [])
  refine OwG.ac (mkF m 32 #[.val (.ref t), .val (.int (Int32.ofNat N2)), .val (.ref b)] [(.ref b)]) (fun tQ kQ => ?_) ?_
  · exact XS.aloadN P.here hx rfl (dc d41_31) rfl rfl kQ
  exact P.retR hx hlk hret rfl rfl (dc d41_32) (own_le rfl) (own_le rfl) ⟨KP, b, kb, rfl, gb, V_b⟩
abbrev bo11 := jdk_68_method_9_code
theorem d11_0 : decode bo11 0 = .ok (.aload_n 0, 1) := by decide +kernel
theorem d11_1 : decode bo11 1 = .ok (.getfield 15, 3) := by decide +kernel
theorem d11_4 : decode bo11 4 = .ok (.arraylength, 1) := by decide +kernel
theorem d11_5 : decode bo11 5 = .ok (.aload_n 0, 1) := by decide +kernel
theorem d11_6 : decode bo11 6 = .ok (.getfield 22, 3) := by decide +kernel
theorem d11_9 : decode bo11 9 = .ok (.ishr, 1) := by decide +kernel
theorem d11_10 : decode bo11 10 = .ok (.istore_n 2, 1) := by decide +kernel
theorem d11_11 : decode bo11 11 = .ok (.iload_n 1, 1) := by decide +kernel
theorem d11_12 : decode bo11 12 = .ok (.iload_n 2, 1) := by decide +kernel
theorem d11_13 : decode bo11 13 = .ok (.isub, 1) := by decide +kernel
theorem d11_14 : decode bo11 14 = .ok (.ifCond .le 24, 3) := by decide +kernel
theorem d11_17 : decode bo11 17 = .ok (.aload_n 0, 1) := by decide +kernel
theorem d11_18 : decode bo11 18 = .ok (.aload_n 0, 1) := by decide +kernel
theorem d11_19 : decode bo11 19 = .ok (.getfield 15, 3) := by decide +kernel
theorem d11_22 : decode bo11 22 = .ok (.aload_n 0, 1) := by decide +kernel
theorem d11_23 : decode bo11 23 = .ok (.iload_n 1, 1) := by decide +kernel
theorem d11_24 : decode bo11 24 = .ok (.invokevirtual 104, 3) := by decide +kernel
theorem d11_27 : decode bo11 27 = .ok (.aload_n 0, 1) := by decide +kernel
theorem d11_28 : decode bo11 28 = .ok (.getfield 22, 3) := by decide +kernel
theorem d11_31 : decode bo11 31 = .ok (.ishl, 1) := by decide +kernel
theorem d11_32 : decode bo11 32 = .ok (.invokestatic 108, 3) := by decide +kernel
theorem pd___BI__B : parseMethodDescriptor "([BI)[B" = some ⟨[(.array .byte), .int], some (.array .byte)⟩ := by decide +kernel
theorem d11_35 : decode bo11 35 = .ok (.putfield 15, 3) := by decide +kernel
theorem d11_38 : decode bo11 38 = .ok (.return_, 1) := by decide +kernel
set_option maxRecDepth 65536 in
set_option maxHeartbeats 40000000 in
theorem rmEc (l : Launch) (Z : State) (a0 : Array Value) (hw : ∀ d ∈ tables_1, d.before a0 Z = true) (sb t : Addr) (kt : ClassId) (cs : List Int32) (M pn : Nat) (cd NB : Int32) (vs : List Value) (k : Nat) (h0 : Heap) (n0 : Nat) (Z0 : n0 ≤ h0.size) (OL : Old Z n0 h0) (E_sb : Exa Z h0 sb "java/lang/StringBuilder") (F_value_sb : Fld Z h0 sb "java/lang/AbstractStringBuilder" "value" "[B" (.ref t)) (F_coder_sb : Fld Z h0 sb "java/lang/AbstractStringBuilder" "coder" "B" (.int cd)) (F_count_sb : Fld Z h0 sb "java/lang/AbstractStringBuilder" "count" "I" (.int (Int32.ofNat pn))) (F_mb_sb : Fld Z h0 sb "java/lang/AbstractStringBuilder" "maybeLatin1" "Z" (.int 0)) (V_t : Arv Z h0 t kt .byte NB vs (.int 0)) (hB : own_BC cs M cd NB vs) (hp0 : cs.length = pn) (hpM : pn ≤ M) (hM : M ≤ 140) (g_sb : n0 ≤ sb) (g_t : n0 ≤ t) (hM0 : 0 < M) (hk4 : k ≤ 140) (hkb : own_cap M k ≤ 140) :
    OwM l Z (⟨"java/lang/AbstractStringBuilder", "ensureCapacityInternal", "(I)V"⟩ : MethodName) jdk_68_method_9_code 3 none ({ frames := 3, cells := 1, slots := 280, locals := 48 } : Room) n0 #[(.ref sb), (.int (Int32.ofNat k))] h0 (fun v h => v = none ∧ Keep h0 h [sb] ∧ ∃ (t2 : Addr) (kt2 : ClassId) (NB2 : Int32) (vs2 : List Value), (t2 = t ∨ h0.size ≤ t2) ∧ n0 ≤ t2 ∧ Fld Z h sb "java/lang/AbstractStringBuilder" "value" "[B" (.ref t2) ∧ Fld Z h sb "java/lang/AbstractStringBuilder" "coder" "B" (.int cd) ∧ Fld Z h sb "java/lang/AbstractStringBuilder" "count" "I" (.int (Int32.ofNat pn)) ∧ Fld Z h sb "java/lang/AbstractStringBuilder" "maybeLatin1" "Z" (.int 0) ∧ Arv Z h t2 kt2 .byte NB2 vs2 (.int 0) ∧ own_BC cs (own_cap M k) cd NB2 vs2) := by
  refine OwM.mk (plainFor_of_name pn_java_lang_AbstractStringBuilder) ?_
  intro p e s m below meth cD T hx hby hml hown hnm hret hlk hZ P
  have dc := @Jvm.hb cD _ hby
  refine OwG.cast (g' := mkF m 0 #[.val (.ref sb), .val (.int (Int32.ofNat k)), .unset] []) (by first | (simp [entryFrame, mkF, argsToLocals, Value.category]; done) | rfl) ?_
  have KP := Keep.refl h0 [sb]
  have ne_sb_t := Exa.neArv E_sb V_t (own_w hw 38 rfl)
  have ne_t_sb := Ne.symm ne_sb_t
  have own_n := own_BCn hB (by omega)
  refine OwG.ac (mkF m 1 #[.val (.ref sb), .val (.int (Int32.ofNat k)), .unset] [(.ref sb)]) (fun tQ kQ => ?_) ?_
  · exact XS.aloadN P.here hx rfl (dc d11_0) rfl rfl kQ
  refine P.getF hx hZ hown (host := "") (Or.inl (own_w hw 51 rfl)) Via.refl F_value_sb rfl rfl (dc d11_1) fun T P => ?_
  show OwG p e below s _ _ _ _ T (mkF m 4 #[.val (.ref sb), .val (.int (Int32.ofNat k)), .unset] [(.ref t)])
  obtain ⟨own_cl, own_A, own_q1, own_S, own_M, own_H, own_U⟩ := id V_t
  obtain ⟨own_L, own_X, own_e, own_N⟩ := id P
  have own_Z := hZ
  refine OwG.ac (mkF m 6 #[.val (.ref sb), .val (.int (Int32.ofNat k)), .unset] [(.ref sb), (.int NB)]) (fun tQ kQ => ?_) ?_
  · refine own_X.arraylength hx (by rw [own_e]; exact own_A.1) (State.isArrayOf_alike own_Z.alike own_A.2.1) (g := (mkF m 4 #[.val (.ref sb), .val (.int (Int32.ofNat k)), .unset] [(.ref t)])) rfl rfl (dc d11_4) _ ?_
    rw [len_of own_S own_M]
    exact XS.aloadN P.here hx rfl (dc d11_5) rfl rfl kQ
  refine P.getF hx hZ hown (host := "") (Or.inl (own_w hw 53 rfl)) Via.refl F_coder_sb rfl rfl (dc d11_6) fun T P => ?_
  show OwG p e below s _ _ _ _ T (mkF m 9 #[.val (.ref sb), .val (.int (Int32.ofNat k)), .unset] [(.int cd), (.int NB)])
  refine OwG.ac (mkF m 10 #[.val (.ref sb), .val (.int (Int32.ofNat k)), .unset] [(.int (NB >>> (cd &&& 31)))]) (fun tQ kQ => ?_) ?_
  · exact XS.ishr P.here hx rfl (dc d11_9) rfl kQ
  rw [show (NB >>> (cd &&& 31)) = (Int32.ofNat M) from own_n]
  refine OwG.ac (mkF m 14 #[.val (.ref sb), .val (.int (Int32.ofNat k)), .val (.int (Int32.ofNat M))] [(.int ((Int32.ofNat k) - (Int32.ofNat M)))]) (fun tQ kQ => ?_) ?_
  · refine XS.istoreN P.here hx rfl (dc d11_10) rfl (l' := #[.val (.ref sb), .val (.int (Int32.ofNat k)), .val (.int (Int32.ofNat M))]) rfl ?_
    refine XS.iloadN P.here hx rfl (dc d11_11) rfl ?_
    refine XS.iloadN P.here hx rfl (dc d11_12) rfl ?_
    exact XS.isub P.here hx rfl (dc d11_13) rfl kQ
  by_cases hk : M < k
  ·skip
   refine OwG.ac (mkF m 19 #[.val (.ref sb), .val (.int (Int32.ofNat k)), .val (.int (Int32.ofNat M))] [(.ref sb), (.ref sb)]) (fun tQ kQ => ?_) ?_
   · refine XS.ifNo P.here hx rfl (dc d11_14) rfl ((if0 _ _).trans (tlt (own_subp hk (by omega))).2.2.2) ?_
     refine XS.aloadN P.here hx rfl (dc d11_17) rfl rfl ?_
     exact XS.aloadN P.here hx rfl (dc d11_18) rfl rfl kQ
   refine P.getF hx hZ hown (host := "") (Or.inl (own_w hw 51 rfl)) Via.refl F_value_sb rfl rfl (dc d11_19) fun T P => ?_
   show OwG p e below s _ _ _ _ T (mkF m 22 #[.val (.ref sb), .val (.int (Int32.ofNat k)), .val (.int (Int32.ofNat M))] [(.ref t), (.ref sb)])
   refine OwG.ac (mkF m 24 #[.val (.ref sb), .val (.int (Int32.ofNat k)), .val (.int (Int32.ofNat M))] [(.int (Int32.ofNat k)), (.ref sb), (.ref t), (.ref sb)]) (fun tQ kQ => ?_) ?_
   · refine XS.aloadN P.here hx rfl (dc d11_22) rfl rfl ?_
     exact XS.iloadN P.here hx rfl (dc d11_23) rfl kQ
   refine P.virtualN hx hZ hown (own_w hw 190 rfl) (own_declares (own_w hw 191 rfl) (own_w hw 194 rfl)) (own_nf (y := (⟨"java/lang/AbstractStringBuilder", "newCapacity", "(I)I"⟩ : MethodName)) (y' := (⟨"java/lang/AbstractStringBuilder", "isLatin1", "()Z"⟩ : MethodName)) (own_w hw 122 rfl) rfl) (own_w hw 193 rfl) (own_w hw 191 rfl) (by decide) (OwM.back (W := 2) (rmNc l Z a0 hw sb t kt cs M pn cd NB vs k h0 n0 Z0 E_sb F_value_sb F_coder_sb F_count_sb F_mb_sb V_t hB hp0 hpM hM g_sb g_t hM0 hk hkb hk4) hZ (own_w hw 194 rfl) (own_w hw 47 rfl) (own_le rfl) (own_le rfl)) (fun _ _ _ q => q.2) E_sb rfl (by rw [hml]; rfl) (argsL := [(.int (Int32.ofNat k))]) (rest := [(.ref t), (.ref sb)]) (lenOf pd__I_I rfl) rfl (own_le rfl) (dc d11_24) rfl (own_le rfl) (own_le rfl) fun T own_v own_L h1 own_e P own_q => ?_
   obtain ⟨⟨rfl, own_hh⟩, -⟩ := own_q
   rw [own_hh] at P
   clear own_e own_hh
   show OwG p e below s _ _ _ _ T (mkF m 27 #[.val (.ref sb), .val (.int (Int32.ofNat k)), .val (.int (Int32.ofNat M))] [(.int (Int32.ofNat (own_cap M k))), (.ref t), (.ref sb)])
   refine OwG.ac (mkF m 28 #[.val (.ref sb), .val (.int (Int32.ofNat k)), .val (.int (Int32.ofNat M))] [(.ref sb), (.int (Int32.ofNat (own_cap M k))), (.ref t), (.ref sb)]) (fun tQ kQ => ?_) ?_
   · exact XS.aloadN P.here hx rfl (dc d11_27) rfl rfl kQ
   refine P.getF hx hZ hown (host := "") (Or.inl (own_w hw 53 rfl)) Via.refl F_coder_sb rfl rfl (dc d11_28) fun T P => ?_
   show OwG p e below s _ _ _ _ T (mkF m 31 #[.val (.ref sb), .val (.int (Int32.ofNat k)), .val (.int (Int32.ofNat M))] [(.int cd), (.int (Int32.ofNat (own_cap M k))), (.ref t), (.ref sb)])
   rcases hB with ⟨rfl, rfl, rfl, ha⟩ | ⟨rfl, rfl, rfl, ha⟩
   all_goals have own_g := own_cap_gt hk
   ·skip
    refine OwG.ac (mkF m 32 #[.val (.ref sb), .val (.int (Int32.ofNat k)), .val (.int (Int32.ofNat M))] [(.int ((Int32.ofNat (own_cap M k)) <<< ((0 : Int32) &&& 31))), (.ref t), (.ref sb)]) (fun tQ kQ => ?_) ?_
    · exact XS.ishl P.here hx rfl (dc d11_31) rfl kQ
    rw [show ((Int32.ofNat (own_cap M k)) <<< ((0 : Int32) &&& 31)) = (Int32.ofNat (own_cap M k)) from own_shl0 _]
    refine P.stat hx hZ hown (own_w hw 204 rfl) (own_w hw 205 rfl) (own_w hw 126 rfl) (own_w hw 206 rfl) (by decide) (OwM.back (W := 1) (rmCpo l Z a0 hw t kt M (own_cap M k) _ h0 n0 Z0 V_t (own_pl_len (by omega)) (by omega) (by omega)) hZ (own_w hw 206 rfl) (own_w hw 126 rfl) (own_le rfl) (own_le rfl)) (fun _ _ _ q => q.2) rfl (by rw [hml]; rfl) (argsL := [(.ref t), (.int (Int32.ofNat (own_cap M k)))]) (rest := [(.ref sb)]) (lenOf pd___BI__B rfl) rfl (own_le rfl) (dc d11_32) rfl (own_le rfl) (own_le rfl) fun T own_v own_L h2 own_e P own_q => ?_
    obtain ⟨⟨K, b, kb, rfl, gb, V_b⟩, -⟩ := own_q
    show OwG p e below s _ _ _ _ T (mkF m 35 #[.val (.ref sb), .val (.int (Int32.ofNat k)), .val (.int (Int32.ofNat M))] [(.ref b), (.ref sb)])
    clear own_e
    have ne_sb_b : sb ≠ b := Nat.ne_of_lt (Nat.lt_of_lt_of_le E_sb.lt (Nat.le_of_eq gb.symm))
    have ne_b_sb := Ne.symm ne_sb_b
    have ne_t_b : t ≠ b := Nat.ne_of_lt (Nat.lt_of_lt_of_le V_t.lt (Nat.le_of_eq gb.symm))
    have ne_b_t := Ne.symm ne_t_b
    have g_b : n0 ≤ b := Nat.le_trans Z0 (Nat.le_of_eq gb.symm)
    have sz_b : h0.size ≤ b := Nat.le_trans KP.1 (Nat.le_of_eq gb.symm)
    replace E_sb := E_sb.keep K
    replace F_value_sb := F_value_sb.keep K nin0
    replace F_coder_sb := F_coder_sb.keep K nin0
    replace F_count_sb := F_count_sb.keep K nin0
    replace F_mb_sb := F_mb_sb.keep K nin0
    replace V_t := V_t.keep K nin0
    replace Z0 := Nat.le_trans Z0 K.1
    replace OL := OL.keep K all0
    replace KP := KP.trans K all0
    refine P.putF hx hZ hown (host := "") (Or.inl (own_w hw 51 rfl)) Via.refl F_value_sb E_sb (Or.inl (own_w hw 52 rfl)) (own_w hw 38 rfl) (ty := (.array .byte)) (by decide) rfl rfl rfl rfl (dc d11_35) g_sb fun T h3 P W => ?_
    replace E_sb := E_sb.wr W
    replace F_value_sb := F_value_sb.same W
    replace F_coder_sb := F_coder_sb.other W (Or.inr (slot_ne (Or.inl (own_w hw 54 rfl)) (Or.inl (own_w hw 52 rfl)) (by decide) (t := .byte) (t' := (.array .byte)) (by decide) (by decide)))
    replace F_count_sb := F_count_sb.other W (Or.inr (slot_ne (Or.inl (own_w hw 68 rfl)) (Or.inl (own_w hw 52 rfl)) (by decide) (t := .int) (t' := (.array .byte)) (by decide) (by decide)))
    replace F_mb_sb := F_mb_sb.other W (Or.inr (slot_ne (Or.inl (own_w hw 273 rfl)) (Or.inl (own_w hw 52 rfl)) (by decide) (t := .boolean) (t' := (.array .byte)) (by decide) (by decide)))
    replace V_t := V_t.other W ne_t_sb
    replace V_b := V_b.other W ne_b_sb
    replace Z0 := Nat.le_trans Z0 (Keep.of_wr W).1
    replace OL := OL.wr W g_sb
    replace KP := KP.wr W (Or.inl (List.mem_of_getElem? (i := 0) rfl))
    clear W
    show OwG p e below s _ _ _ _ T (mkF m 38 #[.val (.ref sb), .val (.int (Int32.ofNat k)), .val (.int (Int32.ofNat M))] [])
    rw [own_plg (by omega) (by omega)] at V_b
    exact P.retV hx hlk hret (dc d11_38) (own_le rfl) (own_le rfl) ⟨rfl, KP, b, kb, _, _, Or.inr (Nat.le_of_eq gb.symm), g_b, F_value_sb, F_coder_sb, F_count_sb, F_mb_sb, V_b, Or.inl ⟨rfl, rfl, rfl, ha⟩⟩
   ·skip
    refine OwG.ac (mkF m 32 #[.val (.ref sb), .val (.int (Int32.ofNat k)), .val (.int (Int32.ofNat M))] [(.int ((Int32.ofNat (own_cap M k)) <<< ((1 : Int32) &&& 31))), (.ref t), (.ref sb)]) (fun tQ kQ => ?_) ?_
    · exact XS.ishl P.here hx rfl (dc d11_31) rfl kQ
    rw [show ((Int32.ofNat (own_cap M k)) <<< ((1 : Int32) &&& 31)) = (Int32.ofNat (2 * own_cap M k)) from own_shl1 (by omega)]
    refine P.stat hx hZ hown (own_w hw 204 rfl) (own_w hw 205 rfl) (own_w hw 126 rfl) (own_w hw 206 rfl) (by decide) (OwM.back (W := 1) (rmCpo l Z a0 hw t kt (2 * M) (2 * own_cap M k) _ h0 n0 Z0 V_t (own_pw_len (by omega)) (by omega) (by omega)) hZ (own_w hw 206 rfl) (own_w hw 126 rfl) (own_le rfl) (own_le rfl)) (fun _ _ _ q => q.2) rfl (by rw [hml]; rfl) (argsL := [(.ref t), (.int (Int32.ofNat (2 * own_cap M k)))]) (rest := [(.ref sb)]) (lenOf pd___BI__B rfl) rfl (own_le rfl) (dc d11_32) rfl (own_le rfl) (own_le rfl) fun T own_v own_L h4 own_e P own_q => ?_
    obtain ⟨⟨K, b, kb, rfl, gb, V_b⟩, -⟩ := own_q
    show OwG p e below s _ _ _ _ T (mkF m 35 #[.val (.ref sb), .val (.int (Int32.ofNat k)), .val (.int (Int32.ofNat M))] [(.ref b), (.ref sb)])
    clear own_e
    have ne_sb_b : sb ≠ b := Nat.ne_of_lt (Nat.lt_of_lt_of_le E_sb.lt (Nat.le_of_eq gb.symm))
    have ne_b_sb := Ne.symm ne_sb_b
    have ne_t_b : t ≠ b := Nat.ne_of_lt (Nat.lt_of_lt_of_le V_t.lt (Nat.le_of_eq gb.symm))
    have ne_b_t := Ne.symm ne_t_b
    have g_b : n0 ≤ b := Nat.le_trans Z0 (Nat.le_of_eq gb.symm)
    have sz_b : h0.size ≤ b := Nat.le_trans KP.1 (Nat.le_of_eq gb.symm)
    replace E_sb := E_sb.keep K
    replace F_value_sb := F_value_sb.keep K nin0
    replace F_coder_sb := F_coder_sb.keep K nin0
    replace F_count_sb := F_count_sb.keep K nin0
    replace F_mb_sb := F_mb_sb.keep K nin0
    replace V_t := V_t.keep K nin0
    replace Z0 := Nat.le_trans Z0 K.1
    replace OL := OL.keep K all0
    replace KP := KP.trans K all0
    refine P.putF hx hZ hown (host := "") (Or.inl (own_w hw 51 rfl)) Via.refl F_value_sb E_sb (Or.inl (own_w hw 52 rfl)) (own_w hw 38 rfl) (ty := (.array .byte)) (by decide) rfl rfl rfl rfl (dc d11_35) g_sb fun T h5 P W => ?_
    replace E_sb := E_sb.wr W
    replace F_value_sb := F_value_sb.same W
    replace F_coder_sb := F_coder_sb.other W (Or.inr (slot_ne (Or.inl (own_w hw 54 rfl)) (Or.inl (own_w hw 52 rfl)) (by decide) (t := .byte) (t' := (.array .byte)) (by decide) (by decide)))
    replace F_count_sb := F_count_sb.other W (Or.inr (slot_ne (Or.inl (own_w hw 68 rfl)) (Or.inl (own_w hw 52 rfl)) (by decide) (t := .int) (t' := (.array .byte)) (by decide) (by decide)))
    replace F_mb_sb := F_mb_sb.other W (Or.inr (slot_ne (Or.inl (own_w hw 273 rfl)) (Or.inl (own_w hw 52 rfl)) (by decide) (t := .boolean) (t' := (.array .byte)) (by decide) (by decide)))
    replace V_t := V_t.other W ne_t_sb
    replace V_b := V_b.other W ne_b_sb
    replace Z0 := Nat.le_trans Z0 (Keep.of_wr W).1
    replace OL := OL.wr W g_sb
    replace KP := KP.wr W (Or.inl (List.mem_of_getElem? (i := 0) rfl))
    clear W
    show OwG p e below s _ _ _ _ T (mkF m 38 #[.val (.ref sb), .val (.int (Int32.ofNat k)), .val (.int (Int32.ofNat M))] [])
    rw [own_pwg (by omega) (by omega)] at V_b
    exact P.retV hx hlk hret (dc d11_38) (own_le rfl) (own_le rfl) ⟨rfl, KP, b, kb, _, _, Or.inr (Nat.le_of_eq gb.symm), g_b, F_value_sb, F_coder_sb, F_count_sb, F_mb_sb, V_b, Or.inr ⟨rfl, rfl, rfl, ha⟩⟩
  ·skip
   refine OwG.ac (mkF m 38 #[.val (.ref sb), .val (.int (Int32.ofNat k)), .val (.int (Int32.ofNat M))] []) (fun tQ kQ => ?_) ?_
   · exact XS.ifYes P.here hx rfl (pc0 := 14) (pc' := 38) rfl (dc d11_14) rfl ((if0 _ _).trans (flt (own_subn (by omega) (by omega))).2.2.2) (by decide) (by decide) kQ
   rw [own_capn hk]
   exact P.retV hx hlk hret (dc d11_38) (own_le rfl) (own_le rfl) ⟨rfl, KP, t, kt, _, _, Or.inl rfl, g_t, F_value_sb, F_coder_sb, F_count_sb, F_mb_sb, V_t, hB⟩
abbrev bo57 := jdk_41_method_13_code
theorem d57_0 : decode bo57 0 = .ok (.iload_n 2, 1) := by decide +kernel
theorem d57_1 : decode bo57 1 = .ok (.iload_n 0, 1) := by decide +kernel
theorem d57_2 : decode bo57 2 = .ok (.ior, 1) := by decide +kernel
theorem d57_3 : decode bo57 3 = .ok (.iload_n 1, 1) := by decide +kernel
theorem d57_4 : decode bo57 4 = .ok (.ior, 1) := by decide +kernel
theorem d57_5 : decode bo57 5 = .ok (.ifCond .lt 10, 3) := by decide +kernel
theorem d57_8 : decode bo57 8 = .ok (.iload_n 1, 1) := by decide +kernel
theorem d57_9 : decode bo57 9 = .ok (.iload_n 2, 1) := by decide +kernel
theorem d57_10 : decode bo57 10 = .ok (.iload_n 0, 1) := by decide +kernel
theorem d57_11 : decode bo57 11 = .ok (.isub, 1) := by decide +kernel
theorem d57_12 : decode bo57 12 = .ok (.if_icmp .le 11, 3) := by decide +kernel
theorem d57_23 : decode bo57 23 = .ok (.iload_n 0, 1) := by decide +kernel
theorem d57_24 : decode bo57 24 = .ok (.ireturn, 1) := by decide +kernel
theorem pn_jdk_internal_util_Preconditions : plainName "jdk/internal/util/Preconditions" = true := by first | (simp [plainName, overriddenIn]; done) | decide +kernel
set_option maxRecDepth 65536 in
set_option maxHeartbeats 40000000 in
theorem rmPfs (l : Launch) (Z : State) (a0 : Array Value) (hw : ∀ d ∈ tables_1, d.before a0 Z = true) (i j n : Nat) (fm : Value) (h0 : Heap) (n0 : Nat) (Z0 : n0 ≤ h0.size) (rf : fm.isRef = true) (hij : i + j ≤ n) (hb : n ≤ 4000) :
    OwM l Z (⟨"jdk/internal/util/Preconditions", "checkFromIndexSize", "(IIILjava/util/function/BiFunction;)I"⟩ : MethodName) jdk_41_method_13_code 4 (some .int) ({ frames := 0, cells := 0, slots := 0, locals := 0 } : Room) n0 #[(.int (Int32.ofNat i)), (.int (Int32.ofNat j)), (.int (Int32.ofNat n)), fm] h0 (fun v h => v = some (.int (Int32.ofNat i)) ∧ h = h0) := by
  refine OwM.mk (plainFor_of_name pn_jdk_internal_util_Preconditions) ?_
  intro p e s m below meth cD T hx hby hml hown hnm hret hlk hZ P
  have dc := @Jvm.hb cD _ hby
  refine OwG.cast (g' := mkF m 0 #[.val (.int (Int32.ofNat i)), .val (.int (Int32.ofNat j)), .val (.int (Int32.ofNat n)), .val fm] []) (by first | (simp [entryFrame, mkF, argsToLocals, own_cI, own_cL, own_cR, own_cN, own_cat rf]; done) | rfl) ?_
  refine OwG.ac (mkF m 12 #[.val (.int (Int32.ofNat i)), .val (.int (Int32.ofNat j)), .val (.int (Int32.ofNat n)), .val fm] [(.int ((Int32.ofNat n) - (Int32.ofNat i))), (.int (Int32.ofNat j))]) (fun tQ kQ => ?_) ?_
  · refine XS.iloadN P.here hx rfl (dc d57_0) rfl ?_
    refine XS.iloadN P.here hx rfl (dc d57_1) rfl ?_
    refine XS.ior P.here hx rfl (dc d57_2) rfl ?_
    refine XS.iloadN P.here hx rfl (dc d57_3) rfl ?_
    refine XS.ior P.here hx rfl (dc d57_4) rfl ?_
    refine XS.ifNo P.here hx rfl (dc d57_5) rfl ((if0 _ _).trans (flt (own_or3 (by omega) (by omega) (by omega))).1) ?_
    refine XS.iloadN P.here hx rfl (dc d57_8) rfl ?_
    refine XS.iloadN P.here hx rfl (dc d57_9) rfl ?_
    refine XS.iloadN P.here hx rfl (dc d57_10) rfl ?_
    exact XS.isub P.here hx rfl (dc d57_11) rfl kQ
  rw [show ((Int32.ofNat n) - (Int32.ofNat i)) = (Int32.ofNat (n - i)) from own_subN (by omega) (by omega)]
  refine OwG.ac (mkF m 24 #[.val (.int (Int32.ofNat i)), .val (.int (Int32.ofNat j)), .val (.int (Int32.ofNat n)), .val fm] [(.int (Int32.ofNat i))]) (fun tQ kQ => ?_) ?_
  · refine XS.icmpYes P.here hx rfl (pc0 := 12) (pc' := 23) rfl (dc d57_12) rfl (flt (own_nlt (by omega) (by omega))).2.2.2 (by decide) (by decide) ?_
    exact XS.iloadN P.here hx rfl (dc d57_23) rfl kQ
  exact P.retI hx hlk hret (dc d57_24) (own_le rfl) (own_le rfl) ⟨rfl, rfl⟩
abbrev bo56 := jdk_42_method_157_code
theorem d56_0 : decode bo56 0 = .ok (.iload_n 0, 1) := by decide +kernel
theorem d56_1 : decode bo56 1 = .ok (.iload_n 1, 1) := by decide +kernel
theorem d56_2 : decode bo56 2 = .ok (.iload_n 2, 1) := by decide +kernel
theorem d56_3 : decode bo56 3 = .ok (.getstatic 1053, 3) := by decide +kernel
theorem d56_6 : decode bo56 6 = .ok (.invokestatic 1065, 3) := by decide +kernel
theorem pd__IIILjava_util_function_BiFunction__I : parseMethodDescriptor "(IIILjava/util/function/BiFunction;)I" = some ⟨[.int, .int, .int, (.object "java/util/function/BiFunction")], some .int⟩ := by decide +kernel
theorem d56_9 : decode bo56 9 = .ok (.ireturn, 1) := by decide +kernel
set_option maxRecDepth 65536 in
set_option maxHeartbeats 40000000 in
theorem rmScb (l : Launch) (Z : State) (a0 : Array Value) (hw : ∀ d ∈ tables_1, d.before a0 Z = true) (i j n : Nat) (fm : Value) (h0 : Heap) (n0 : Nat) (Z0 : n0 ≤ h0.size) (SF : Sta Z Z.heap "jdk/internal/util/Preconditions" "SIOOBE_FORMATTER" "Ljava/util/function/BiFunction;" fm) (rf : fm.isRef = true) (OL : Old Z n0 h0) (hij : i + j ≤ n) (hb : n ≤ 4000) :
    OwM l Z (⟨"java/lang/String", "checkBoundsOffCount", "(III)I"⟩ : MethodName) jdk_42_method_157_code 3 (some .int) ({ frames := 1, cells := 0, slots := 0, locals := 15 } : Room) n0 #[(.int (Int32.ofNat i)), (.int (Int32.ofNat j)), (.int (Int32.ofNat n))] h0 (fun v h => v = some (.int (Int32.ofNat i)) ∧ h = h0) := by
  refine OwM.mk (plainFor_of_name pn_java_lang_String) ?_
  intro p e s m below meth cD T hx hby hml hown hnm hret hlk hZ P
  have dc := @Jvm.hb cD _ hby
  refine OwG.cast (g' := mkF m 0 #[.val (.int (Int32.ofNat i)), .val (.int (Int32.ofNat j)), .val (.int (Int32.ofNat n))] []) (by first | (simp [entryFrame, mkF, argsToLocals, Value.category]; done) | rfl) ?_
  refine OwG.ac (mkF m 3 #[.val (.int (Int32.ofNat i)), .val (.int (Int32.ofNat j)), .val (.int (Int32.ofNat n))] [(.int (Int32.ofNat n)), (.int (Int32.ofNat j)), (.int (Int32.ofNat i))]) (fun tQ kQ => ?_) ?_
  · refine XS.iloadN P.here hx rfl (dc d56_0) rfl ?_
    refine XS.iloadN P.here hx rfl (dc d56_1) rfl ?_
    exact XS.iloadN P.here hx rfl (dc d56_2) rfl kQ
  refine P.getS hx hZ hown (host := "") (Or.inl (own_w hw 172 rfl)) Via.refl (SF.ext OL.2) rfl (dc d56_3) fun T P => ?_
  show OwG p e below s _ _ _ _ T (mkF m 6 #[.val (.int (Int32.ofNat i)), .val (.int (Int32.ofNat j)), .val (.int (Int32.ofNat n))] [fm, (.int (Int32.ofNat n)), (.int (Int32.ofNat j)), (.int (Int32.ofNat i))])
  refine P.stat hx hZ hown (own_w hw 268 rfl) (own_w hw 269 rfl) (own_w hw 173 rfl) (own_w hw 270 rfl) (by decide) (OwM.back (W := 0) (rmPfs l Z a0 hw i j n fm h0 n0 Z0 rf hij hb) hZ (own_w hw 270 rfl) (own_w hw 173 rfl) (own_le rfl) (own_le rfl)) (fun _ _ _ q => q.2) rfl (by rw [hml]; rfl) (argsL := [(.int (Int32.ofNat i)), (.int (Int32.ofNat j)), (.int (Int32.ofNat n)), fm]) (rest := []) (lenOf pd__IIILjava_util_function_BiFunction__I rfl) rfl (own_le rfl) (dc d56_6) rfl (own_le rfl) (own_le rfl) fun T own_v own_L h1 own_e P own_q => ?_
  obtain ⟨⟨rfl, own_hh⟩, -⟩ := own_q
  rw [own_hh] at P
  clear own_e own_hh
  show OwG p e below s _ _ _ _ T (mkF m 9 #[.val (.int (Int32.ofNat i)), .val (.int (Int32.ofNat j)), .val (.int (Int32.ofNat n))] [(.int (Int32.ofNat i))])
  exact P.retI hx hlk hret (dc d56_9) (own_le rfl) (own_le rfl) ⟨rfl, rfl⟩
abbrev bo54 := jdk_52_method_94_code
theorem d54_0 : decode bo54 0 = .ok (.iload_n 0, 1) := by decide +kernel
theorem d54_1 : decode bo54 1 = .ok (.iload_n 1, 1) := by decide +kernel
theorem d54_2 : decode bo54 2 = .ok (.aload_n 2, 1) := by decide +kernel
theorem d54_3 : decode bo54 3 = .ok (.invokestatic 48, 3) := by decide +kernel
theorem pd___B_I : parseMethodDescriptor "([B)I" = some ⟨[(.array .byte)], some .int⟩ := by decide +kernel
theorem d54_6 : decode bo54 6 = .ok (.invokestatic 419, 3) := by decide +kernel
theorem d54_9 : decode bo54 9 = .ok (.pop, 1) := by decide +kernel
theorem d54_10 : decode bo54 10 = .ok (.return_, 1) := by decide +kernel
set_option maxRecDepth 65536 in
set_option maxHeartbeats 40000000 in
theorem rmUcb (l : Launch) (Z : State) (a0 : Array Value) (hw : ∀ d ∈ tables_1, d.before a0 Z = true) (t : Addr) (kt : ClassId) (vs : List Value) (i j n : Nat) (fm : Value) (h0 : Heap) (n0 : Nat) (Z0 : n0 ≤ h0.size) (SF : Sta Z Z.heap "jdk/internal/util/Preconditions" "SIOOBE_FORMATTER" "Ljava/util/function/BiFunction;" fm) (rf : fm.isRef = true) (OL : Old Z n0 h0) (A_t : Arv Z h0 t kt .byte (Int32.ofNat (2 * n)) vs (.int 0)) (hb : n ≤ 4000) (hij : i + j ≤ n) :
    OwM l Z (⟨"java/lang/StringUTF16", "checkBoundsOffCount", "(II[B)V"⟩ : MethodName) jdk_52_method_94_code 3 none ({ frames := 2, cells := 0, slots := 0, locals := 29 } : Room) n0 #[(.int (Int32.ofNat i)), (.int (Int32.ofNat j)), (.ref t)] h0 (fun v h => v = none ∧ h = h0) := by
  refine OwM.mk (plainFor_of_name pn_java_lang_StringUTF16) ?_
  intro p e s m below meth cD T hx hby hml hown hnm hret hlk hZ P
  have dc := @Jvm.hb cD _ hby
  refine OwG.cast (g' := mkF m 0 #[.val (.int (Int32.ofNat i)), .val (.int (Int32.ofNat j)), .val (.ref t)] []) (by first | (simp [entryFrame, mkF, argsToLocals, Value.category]; done) | rfl) ?_
  refine OwG.ac (mkF m 3 #[.val (.int (Int32.ofNat i)), .val (.int (Int32.ofNat j)), .val (.ref t)] [(.ref t), (.int (Int32.ofNat j)), (.int (Int32.ofNat i))]) (fun tQ kQ => ?_) ?_
  · refine XS.iloadN P.here hx rfl (dc d54_0) rfl ?_
    refine XS.iloadN P.here hx rfl (dc d54_1) rfl ?_
    exact XS.aloadN P.here hx rfl (dc d54_2) rfl rfl kQ
  refine P.stat hx hZ hown (own_w hw 262 rfl) (own_w hw 263 rfl) (own_w hw 145 rfl) (own_w hw 264 rfl) (by decide) (OwM.back (W := 2) (rmUln l Z a0 hw t kt vs n h0 n0 Z0 A_t hb) hZ (own_w hw 264 rfl) (own_w hw 145 rfl) (own_le rfl) (own_le rfl)) (fun _ _ _ q => q.2) rfl (by rw [hml]; rfl) (argsL := [(.ref t)]) (rest := [(.int (Int32.ofNat j)), (.int (Int32.ofNat i))]) (lenOf pd___B_I rfl) rfl (own_le rfl) (dc d54_3) rfl (own_le rfl) (own_le rfl) fun T own_v own_L h1 own_e P own_q => ?_
  obtain ⟨⟨rfl, own_hh⟩, -⟩ := own_q
  rw [own_hh] at P
  clear own_e own_hh
  show OwG p e below s _ _ _ _ T (mkF m 6 #[.val (.int (Int32.ofNat i)), .val (.int (Int32.ofNat j)), .val (.ref t)] [(.int (Int32.ofNat n)), (.int (Int32.ofNat j)), (.int (Int32.ofNat i))])
  refine P.stat hx hZ hown (own_w hw 265 rfl) (own_w hw 266 rfl) (own_w hw 3 rfl) (own_w hw 267 rfl) (by decide) (OwM.back (W := 0) (rmScb l Z a0 hw i j n fm h0 n0 Z0 SF rf OL hij hb) hZ (own_w hw 267 rfl) (own_w hw 3 rfl) (own_le rfl) (own_le rfl)) (fun _ _ _ q => q.2) rfl (by rw [hml]; rfl) (argsL := [(.int (Int32.ofNat i)), (.int (Int32.ofNat j)), (.int (Int32.ofNat n))]) (rest := []) (lenOf pd__III_I rfl) rfl (own_le rfl) (dc d54_6) rfl (own_le rfl) (own_le rfl) fun T own_v own_L h2 own_e P own_q => ?_
  obtain ⟨⟨rfl, own_hh⟩, -⟩ := own_q
  rw [own_hh] at P
  clear own_e own_hh
  show OwG p e below s _ _ _ _ T (mkF m 9 #[.val (.int (Int32.ofNat i)), .val (.int (Int32.ofNat j)), .val (.ref t)] [(.int (Int32.ofNat i))])
  refine OwG.ac (mkF m 10 #[.val (.int (Int32.ofNat i)), .val (.int (Int32.ofNat j)), .val (.ref t)] []) (fun tQ kQ => ?_) ?_
  · exact XS.pop P.here hx rfl (dc d54_9) rfl rfl kQ
  exact P.retV hx hlk hret (dc d54_10) (own_le rfl) (own_le rfl) ⟨rfl, rfl⟩
abbrev bo34 := jdk_41_method_12_code
theorem d34_0 : decode bo34 0 = .ok (.iload_n 0, 1) := by decide +kernel
theorem d34_1 : decode bo34 1 = .ok (.ifCond .lt 13, 3) := by decide +kernel
theorem d34_4 : decode bo34 4 = .ok (.iload_n 0, 1) := by decide +kernel
theorem d34_5 : decode bo34 5 = .ok (.iload_n 1, 1) := by decide +kernel
theorem d34_6 : decode bo34 6 = .ok (.if_icmp .gt 8, 3) := by decide +kernel
theorem d34_9 : decode bo34 9 = .ok (.iload_n 1, 1) := by decide +kernel
theorem d34_10 : decode bo34 10 = .ok (.iload_n 2, 1) := by decide +kernel
theorem d34_11 : decode bo34 11 = .ok (.if_icmp .le 11, 3) := by decide +kernel
theorem d34_22 : decode bo34 22 = .ok (.iload_n 0, 1) := by decide +kernel
theorem d34_23 : decode bo34 23 = .ok (.ireturn, 1) := by decide +kernel
set_option maxRecDepth 65536 in
set_option maxHeartbeats 40000000 in
theorem rmPft (l : Launch) (Z : State) (a0 : Array Value) (hw : ∀ d ∈ tables_1, d.before a0 Z = true) (i j n : Nat) (fm : Value) (h0 : Heap) (n0 : Nat) (Z0 : n0 ≤ h0.size) (rf : fm.isRef = true) (hij : i ≤ j) (hjn : j ≤ n) (hb : n ≤ 4000) :
    OwM l Z (⟨"jdk/internal/util/Preconditions", "checkFromToIndex", "(IIILjava/util/function/BiFunction;)I"⟩ : MethodName) jdk_41_method_12_code 4 (some .int) ({ frames := 0, cells := 0, slots := 0, locals := 0 } : Room) n0 #[(.int (Int32.ofNat i)), (.int (Int32.ofNat j)), (.int (Int32.ofNat n)), fm] h0 (fun v h => v = some (.int (Int32.ofNat i)) ∧ h = h0) := by
  refine OwM.mk (plainFor_of_name pn_jdk_internal_util_Preconditions) ?_
  intro p e s m below meth cD T hx hby hml hown hnm hret hlk hZ P
  have dc := @Jvm.hb cD _ hby
  refine OwG.cast (g' := mkF m 0 #[.val (.int (Int32.ofNat i)), .val (.int (Int32.ofNat j)), .val (.int (Int32.ofNat n)), .val fm] []) (by first | (simp [entryFrame, mkF, argsToLocals, own_cI, own_cL, own_cR, own_cN, own_cat rf]; done) | rfl) ?_
  refine OwG.ac (mkF m 23 #[.val (.int (Int32.ofNat i)), .val (.int (Int32.ofNat j)), .val (.int (Int32.ofNat n)), .val fm] [(.int (Int32.ofNat i))]) (fun tQ kQ => ?_) ?_
  · refine XS.iloadN P.here hx rfl (dc d34_0) rfl ?_
    refine XS.ifNo P.here hx rfl (dc d34_1) rfl ((if0 _ _).trans (flt (own_nn (by omega))).1) ?_
    refine XS.iloadN P.here hx rfl (dc d34_4) rfl ?_
    refine XS.iloadN P.here hx rfl (dc d34_5) rfl ?_
    refine XS.icmpNo P.here hx rfl (dc d34_6) rfl (flt (own_nlt (by omega) (by omega))).2.2.1 ?_
    refine XS.iloadN P.here hx rfl (dc d34_9) rfl ?_
    refine XS.iloadN P.here hx rfl (dc d34_10) rfl ?_
    refine XS.icmpYes P.here hx rfl (pc0 := 11) (pc' := 22) rfl (dc d34_11) rfl (flt (own_nlt (by omega) (by omega))).2.2.2 (by decide) (by decide) ?_
    exact XS.iloadN P.here hx rfl (dc d34_22) rfl kQ
  exact P.retI hx hlk hret (dc d34_23) (own_le rfl) (own_le rfl) ⟨rfl, rfl⟩
abbrev bo33 := jdk_42_method_158_code
theorem d33_0 : decode bo33 0 = .ok (.iload_n 0, 1) := by decide +kernel
theorem d33_1 : decode bo33 1 = .ok (.iload_n 1, 1) := by decide +kernel
theorem d33_2 : decode bo33 2 = .ok (.iload_n 2, 1) := by decide +kernel
theorem d33_3 : decode bo33 3 = .ok (.getstatic 1053, 3) := by decide +kernel
theorem d33_6 : decode bo33 6 = .ok (.invokestatic 1062, 3) := by decide +kernel
theorem d33_9 : decode bo33 9 = .ok (.pop, 1) := by decide +kernel
theorem d33_10 : decode bo33 10 = .ok (.return_, 1) := by decide +kernel
set_option maxRecDepth 65536 in
set_option maxHeartbeats 40000000 in
theorem rmCbe (l : Launch) (Z : State) (a0 : Array Value) (hw : ∀ d ∈ tables_1, d.before a0 Z = true) (i j n : Nat) (fm : Value) (h0 : Heap) (n0 : Nat) (Z0 : n0 ≤ h0.size) (SF : Sta Z Z.heap "jdk/internal/util/Preconditions" "SIOOBE_FORMATTER" "Ljava/util/function/BiFunction;" fm) (rf : fm.isRef = true) (OL : Old Z n0 h0) (hij : i ≤ j) (hjn : j ≤ n) (hb : n ≤ 4000) :
    OwM l Z (⟨"java/lang/String", "checkBoundsBeginEnd", "(III)V"⟩ : MethodName) jdk_42_method_158_code 3 none ({ frames := 1, cells := 0, slots := 0, locals := 15 } : Room) n0 #[(.int (Int32.ofNat i)), (.int (Int32.ofNat j)), (.int (Int32.ofNat n))] h0 (fun v h => v = none ∧ h = h0) := by
  refine OwM.mk (plainFor_of_name pn_java_lang_String) ?_
  intro p e s m below meth cD T hx hby hml hown hnm hret hlk hZ P
  have dc := @Jvm.hb cD _ hby
  refine OwG.cast (g' := mkF m 0 #[.val (.int (Int32.ofNat i)), .val (.int (Int32.ofNat j)), .val (.int (Int32.ofNat n))] []) (by first | (simp [entryFrame, mkF, argsToLocals, Value.category]; done) | rfl) ?_
  refine OwG.ac (mkF m 3 #[.val (.int (Int32.ofNat i)), .val (.int (Int32.ofNat j)), .val (.int (Int32.ofNat n))] [(.int (Int32.ofNat n)), (.int (Int32.ofNat j)), (.int (Int32.ofNat i))]) (fun tQ kQ => ?_) ?_
  · refine XS.iloadN P.here hx rfl (dc d33_0) rfl ?_
    refine XS.iloadN P.here hx rfl (dc d33_1) rfl ?_
    exact XS.iloadN P.here hx rfl (dc d33_2) rfl kQ
  refine P.getS hx hZ hown (host := "") (Or.inl (own_w hw 172 rfl)) Via.refl (SF.ext OL.2) rfl (dc d33_3) fun T P => ?_
  show OwG p e below s _ _ _ _ T (mkF m 6 #[.val (.int (Int32.ofNat i)), .val (.int (Int32.ofNat j)), .val (.int (Int32.ofNat n))] [fm, (.int (Int32.ofNat n)), (.int (Int32.ofNat j)), (.int (Int32.ofNat i))])
  refine P.stat hx hZ hown (own_w hw 174 rfl) (own_w hw 175 rfl) (own_w hw 173 rfl) (own_w hw 176 rfl) (by decide) (OwM.back (W := 0) (rmPft l Z a0 hw i j n fm h0 n0 Z0 rf hij hjn hb) hZ (own_w hw 176 rfl) (own_w hw 173 rfl) (own_le rfl) (own_le rfl)) (fun _ _ _ q => q.2) rfl (by rw [hml]; rfl) (argsL := [(.int (Int32.ofNat i)), (.int (Int32.ofNat j)), (.int (Int32.ofNat n)), fm]) (rest := []) (lenOf pd__IIILjava_util_function_BiFunction__I rfl) rfl (own_le rfl) (dc d33_6) rfl (own_le rfl) (own_le rfl) fun T own_v own_L h1 own_e P own_q => ?_
  obtain ⟨⟨rfl, own_hh⟩, -⟩ := own_q
  rw [own_hh] at P
  clear own_e own_hh
  show OwG p e below s _ _ _ _ T (mkF m 9 #[.val (.int (Int32.ofNat i)), .val (.int (Int32.ofNat j)), .val (.int (Int32.ofNat n))] [(.int (Int32.ofNat i))])
  refine OwG.ac (mkF m 10 #[.val (.int (Int32.ofNat i)), .val (.int (Int32.ofNat j)), .val (.int (Int32.ofNat n))] []) (fun tQ kQ => ?_) ?_
  · exact XS.pop P.here hx rfl (dc d33_9) rfl rfl kQ
  exact P.retV hx hlk hret (dc d33_10) (own_le rfl) (own_le rfl) ⟨rfl, rfl⟩
abbrev bo62 := jdk_52_method_93_code
theorem d62_0 : decode bo62 0 = .ok (.iload_n 0, 1) := by decide +kernel
theorem d62_1 : decode bo62 1 = .ok (.iload_n 1, 1) := by decide +kernel
theorem d62_2 : decode bo62 2 = .ok (.aload_n 2, 1) := by decide +kernel
theorem d62_3 : decode bo62 3 = .ok (.invokestatic 48, 3) := by decide +kernel
theorem d62_6 : decode bo62 6 = .ok (.invokestatic 241, 3) := by decide +kernel
theorem pd__III_V : parseMethodDescriptor "(III)V" = some ⟨[.int, .int, .int], none⟩ := by decide +kernel
theorem d62_9 : decode bo62 9 = .ok (.return_, 1) := by decide +kernel
set_option maxRecDepth 65536 in
set_option maxHeartbeats 40000000 in
theorem rmUbe (l : Launch) (Z : State) (a0 : Array Value) (hw : ∀ d ∈ tables_1, d.before a0 Z = true) (t : Addr) (kt : ClassId) (vs : List Value) (i j n : Nat) (fm : Value) (h0 : Heap) (n0 : Nat) (Z0 : n0 ≤ h0.size) (SF : Sta Z Z.heap "jdk/internal/util/Preconditions" "SIOOBE_FORMATTER" "Ljava/util/function/BiFunction;" fm) (rf : fm.isRef = true) (OL : Old Z n0 h0) (A_t : Arv Z h0 t kt .byte (Int32.ofNat (2 * n)) vs (.int 0)) (hb : n ≤ 4000) (hij : i ≤ j) (hjn : j ≤ n) :
    OwM l Z (⟨"java/lang/StringUTF16", "checkBoundsBeginEnd", "(II[B)V"⟩ : MethodName) jdk_52_method_93_code 3 none ({ frames := 2, cells := 0, slots := 0, locals := 29 } : Room) n0 #[(.int (Int32.ofNat i)), (.int (Int32.ofNat j)), (.ref t)] h0 (fun v h => v = none ∧ h = h0) := by
  refine OwM.mk (plainFor_of_name pn_java_lang_StringUTF16) ?_
  intro p e s m below meth cD T hx hby hml hown hnm hret hlk hZ P
  have dc := @Jvm.hb cD _ hby
  refine OwG.cast (g' := mkF m 0 #[.val (.int (Int32.ofNat i)), .val (.int (Int32.ofNat j)), .val (.ref t)] []) (by first | (simp [entryFrame, mkF, argsToLocals, Value.category]; done) | rfl) ?_
  refine OwG.ac (mkF m 3 #[.val (.int (Int32.ofNat i)), .val (.int (Int32.ofNat j)), .val (.ref t)] [(.ref t), (.int (Int32.ofNat j)), (.int (Int32.ofNat i))]) (fun tQ kQ => ?_) ?_
  · refine XS.iloadN P.here hx rfl (dc d62_0) rfl ?_
    refine XS.iloadN P.here hx rfl (dc d62_1) rfl ?_
    exact XS.aloadN P.here hx rfl (dc d62_2) rfl rfl kQ
  refine P.stat hx hZ hown (own_w hw 262 rfl) (own_w hw 263 rfl) (own_w hw 145 rfl) (own_w hw 264 rfl) (by decide) (OwM.back (W := 2) (rmUln l Z a0 hw t kt vs n h0 n0 Z0 A_t hb) hZ (own_w hw 264 rfl) (own_w hw 145 rfl) (own_le rfl) (own_le rfl)) (fun _ _ _ q => q.2) rfl (by rw [hml]; rfl) (argsL := [(.ref t)]) (rest := [(.int (Int32.ofNat j)), (.int (Int32.ofNat i))]) (lenOf pd___B_I rfl) rfl (own_le rfl) (dc d62_3) rfl (own_le rfl) (own_le rfl) fun T own_v own_L h1 own_e P own_q => ?_
  obtain ⟨⟨rfl, own_hh⟩, -⟩ := own_q
  rw [own_hh] at P
  clear own_e own_hh
  show OwG p e below s _ _ _ _ T (mkF m 6 #[.val (.int (Int32.ofNat i)), .val (.int (Int32.ofNat j)), .val (.ref t)] [(.int (Int32.ofNat n)), (.int (Int32.ofNat j)), (.int (Int32.ofNat i))])
  refine P.stat hx hZ hown (own_w hw 294 rfl) (own_w hw 170 rfl) (own_w hw 3 rfl) (own_w hw 171 rfl) (by decide) (OwM.back (W := 0) (rmCbe l Z a0 hw i j n fm h0 n0 Z0 SF rf OL hij hjn hb) hZ (own_w hw 171 rfl) (own_w hw 3 rfl) (own_le rfl) (own_le rfl)) (fun _ _ _ q => q.2) rfl (by rw [hml]; rfl) (argsL := [(.int (Int32.ofNat i)), (.int (Int32.ofNat j)), (.int (Int32.ofNat n))]) (rest := []) (lenOf pd__III_V rfl) rfl (own_le rfl) (dc d62_6) rfl (own_le rfl) (own_le rfl) fun T own_v own_L h2 own_e P own_q => ?_
  obtain ⟨⟨rfl, own_hh⟩, -⟩ := own_q
  rw [own_hh] at P
  clear own_e own_hh
  show OwG p e below s _ _ _ _ T (mkF m 9 #[.val (.int (Int32.ofNat i)), .val (.int (Int32.ofNat j)), .val (.ref t)] [])
  exact P.retV hx hlk hret (dc d62_9) (own_le rfl) (own_le rfl) ⟨rfl, rfl⟩
abbrev bo53 := jdk_52_method_86_code
theorem d53_0 : decode bo53 0 = .ok (.iload_n 3, 1) := by decide +kernel
theorem d53_1 : decode bo53 1 = .ok (.iload 4, 2) := by decide +kernel
theorem d53_3 : decode bo53 3 = .ok (.aload_n 2, 1) := by decide +kernel
theorem d53_4 : decode bo53 4 = .ok (.invokestatic 173, 3) := by decide +kernel
theorem pd__II_B_V : parseMethodDescriptor "(II[B)V" = some ⟨[.int, .int, (.array .byte)], none⟩ := by decide +kernel
theorem d53_7 : decode bo53 7 = .ok (.iconst 0, 1) := by decide +kernel
theorem d53_8 : decode bo53 8 = .ok (.istore 5, 2) := by decide +kernel
theorem d53_10 : decode bo53 10 = .ok (.iload 5, 2) := by decide +kernel
theorem d53_12 : decode bo53 12 = .ok (.iload 4, 2) := by decide +kernel
theorem d53_14 : decode bo53 14 = .ok (.if_icmp .ge 27, 3) := by decide +kernel
theorem d53_41 : decode bo53 41 = .ok (.return_, 1) := by decide +kernel
theorem d53_17 : decode bo53 17 = .ok (.aload_n 2, 1) := by decide +kernel
theorem d53_18 : decode bo53 18 = .ok (.iload_n 3, 1) := by decide +kernel
theorem d53_19 : decode bo53 19 = .ok (.iinc 3 1, 3) := by decide +kernel
theorem d53_22 : decode bo53 22 = .ok (.aload_n 0, 1) := by decide +kernel
theorem d53_23 : decode bo53 23 = .ok (.iload_n 1, 1) := by decide +kernel
theorem d53_24 : decode bo53 24 = .ok (.iinc 1 1, 3) := by decide +kernel
theorem d53_27 : decode bo53 27 = .ok (.baload, 1) := by decide +kernel
theorem d53_28 : decode bo53 28 = .ok (.sipush 255, 3) := by decide +kernel
theorem d53_31 : decode bo53 31 = .ok (.iand, 1) := by decide +kernel
theorem d53_32 : decode bo53 32 = .ok (.invokestatic 111, 3) := by decide +kernel
theorem d53_35 : decode bo53 35 = .ok (.iinc 5 1, 3) := by decide +kernel
theorem d53_38 : decode bo53 38 = .ok (.goto (-28), 3) := by decide +kernel
set_option maxRecDepth 65536 in
set_option maxHeartbeats 40000000 in
theorem rmInf (l : Launch) (Z : State) (a0 : Array Value) (hw : ∀ d ∈ tables_1, d.before a0 Z = true) (a d : Addr) (ka kd : ClassId) (NA M pn q : Nat) (xs : List Value) (cs ds : List Int32) (fm : Value) (h0 : Heap) (n0 : Nat) (Z0 : n0 ≤ h0.size) (SA : Sta Z Z.heap "java/lang/StringUTF16" "$assertionsDisabled" "Z" (.int 1)) (SH : Sta Z Z.heap "java/lang/StringUTF16" "HI_BYTE_SHIFT" "I" (.int 0)) (SL : Sta Z Z.heap "java/lang/StringUTF16" "LO_BYTE_SHIFT" "I" (.int 8)) (SF : Sta Z Z.heap "jdk/internal/util/Preconditions" "SIOOBE_FORMATTER" "Ljava/util/function/BiFunction;" fm) (rf : fm.isRef = true) (OL : Old Z n0 h0) (V_a : Arv Z h0 a ka .byte (Int32.ofNat NA) xs (.int 0)) (hxs : ∀ j, j < q → xs.getD j (.int 0) = .int (StrChars.lo8 (ds.getD j 0))) (hNA : q ≤ NA) (hNb : NA ≤ 4000) (V_d : Arv Z h0 d kd .byte (Int32.ofNat (2 * M)) (own_pw cs M) (.int 0)) (hM : M ≤ 4000) (hcs : cs.length = pn) (hds : ds.length = q) (hpq : pn + q ≤ M) (hp8 : ∀ c ∈ ds, ¬ c < 0 ∧ ¬ (255 : Int32) < c) (g_d : n0 ≤ d) (ne_a_d : a ≠ d) :
    OwM l Z (⟨"java/lang/StringUTF16", "inflate", "([BI[BII)V"⟩ : MethodName) jdk_52_method_86_code 6 none ({ frames := 3, cells := 0, slots := 0, locals := 43 } : Room) n0 #[(.ref a), (.int 0), (.ref d), (.int (Int32.ofNat pn)), (.int (Int32.ofNat q))] h0 (fun v h => v = none ∧ Keep h0 h [d] ∧ Arv Z h d kd .byte (Int32.ofNat (2 * M)) (own_pw (cs ++ ds) M) (.int 0)) := by
  refine OwM.mk (plainFor_of_name pn_java_lang_StringUTF16) ?_
  intro p e s m below meth cD T hx hby hml hown hnm hret hlk hZ P
  have dc := @Jvm.hb cD _ hby
  refine OwG.cast (g' := mkF m 0 #[.val (.ref a), .val (.int 0), .val (.ref d), .val (.int (Int32.ofNat pn)), .val (.int (Int32.ofNat q)), .unset] []) (by first | (simp [entryFrame, mkF, argsToLocals, Value.category]; done) | rfl) ?_
  have KP := Keep.refl h0 [d]
  refine OwG.ac (mkF m 4 #[.val (.ref a), .val (.int 0), .val (.ref d), .val (.int (Int32.ofNat pn)), .val (.int (Int32.ofNat q)), .unset] [(.ref d), (.int (Int32.ofNat q)), (.int (Int32.ofNat pn))]) (fun tQ kQ => ?_) ?_
  · refine XS.iloadN P.here hx rfl (dc d53_0) rfl ?_
    refine XS.iload P.here hx rfl (dc d53_1) rfl ?_
    exact XS.aloadN P.here hx rfl (dc d53_3) rfl rfl kQ
  refine P.stat hx hZ hown (own_w hw 259 rfl) (own_w hw 260 rfl) (own_w hw 145 rfl) (own_w hw 261 rfl) (by decide) (OwM.back (W := 0) (rmUcb l Z a0 hw d kd _ pn q M fm h0 n0 Z0 SF rf OL V_d hM hpq) hZ (own_w hw 261 rfl) (own_w hw 145 rfl) (own_le rfl) (own_le rfl)) (fun _ _ _ q => q.2) rfl (by rw [hml]; rfl) (argsL := [(.int (Int32.ofNat pn)), (.int (Int32.ofNat q)), (.ref d)]) (rest := []) (lenOf pd__II_B_V rfl) rfl (own_le rfl) (dc d53_4) rfl (own_le rfl) (own_le rfl) fun T own_v own_L h1 own_e P own_q => ?_
  obtain ⟨⟨rfl, own_hh⟩, -⟩ := own_q
  rw [own_hh] at P
  clear own_e own_hh
  show OwG p e below s _ _ _ _ T (mkF m 7 #[.val (.ref a), .val (.int 0), .val (.ref d), .val (.int (Int32.ofNat pn)), .val (.int (Int32.ofNat q)), .unset] [])
  refine OwG.ac (mkF m 10 #[.val (.ref a), .val (.int 0), .val (.ref d), .val (.int (Int32.ofNat pn)), .val (.int (Int32.ofNat q)), .val (.int 0)] []) (fun tQ kQ => ?_) ?_
  · refine XS.iconst P.here hx rfl (dc d53_7) ?_
    exact XS.istore P.here hx rfl (dc d53_8) rfl (l' := #[.val (.ref a), .val (.int 0), .val (.ref d), .val (.int (Int32.ofNat pn)), .val (.int (Int32.ofNat q)), .val (.int 0)]) rfl kQ
  have lp : ∀ (k i : Nat) (T : State) (hL_lp : Heap), i + k = q → OwP p l e ({ frames := 3, cells := 0, slots := 0, locals := 43 } : Room) s m #[(.ref a), (.int 0), (.ref d), (.int (Int32.ofNat pn)), (.int (Int32.ofNat q))] below meth cD n0 T hL_lp 0 0 → (n0 ≤ hL_lp.size) → (Old Z n0 hL_lp) → (Keep h0 hL_lp [d]) → (Arv Z hL_lp a ka .byte (Int32.ofNat NA) xs (.int 0)) → (Arv Z hL_lp d kd .byte (Int32.ofNat (2 * M)) (own_pw (cs ++ ds.take i) M) (.int 0)) → OwG p e below s n0 ({ frames := 3, cells := 0, slots := 0, locals := 43 } : Room).cells ({ frames := 3, cells := 0, slots := 0, locals := 43 } : Room).slots (fun v h => v = none ∧ Keep h0 h [d] ∧ Arv Z h d kd .byte (Int32.ofNat (2 * M)) (own_pw (cs ++ ds) M) (.int 0)) T (mkF m 10 #[.val (.ref a), .val (.int (Int32.ofNat i)), .val (.ref d), .val (.int (Int32.ofNat (pn + i))), .val (.int (Int32.ofNat q)), .val (.int (Int32.ofNat i))] []) := by
   intro k
   induction k with
   | zero =>
    intro i T hL_lp  hik P Z0 OL KP V_a V_d
    refine OwG.ac (mkF m 14 #[.val (.ref a), .val (.int (Int32.ofNat i)), .val (.ref d), .val (.int (Int32.ofNat (pn + i))), .val (.int (Int32.ofNat q)), .val (.int (Int32.ofNat i))] [(.int (Int32.ofNat q)), (.int (Int32.ofNat i))]) (fun tQ kQ => ?_) ?_
    · refine XS.iload P.here hx rfl (dc d53_10) rfl ?_
      exact XS.iload P.here hx rfl (dc d53_12) rfl kQ
    have own_i : i = q := by omega
    refine OwG.ac (mkF m 41 #[.val (.ref a), .val (.int (Int32.ofNat i)), .val (.ref d), .val (.int (Int32.ofNat (pn + i))), .val (.int (Int32.ofNat q)), .val (.int (Int32.ofNat i))] []) (fun tQ kQ => ?_) ?_
    · exact XS.icmpYes P.here hx rfl (pc0 := 14) (pc' := 41) rfl (dc d53_14) rfl (flt (own_nlt (by omega) (by omega))).2.1 (by decide) (by decide) kQ
    rw [own_i, ← hds, List.take_length] at V_d
    exact P.retV hx hlk hret (dc d53_41) (own_le rfl) (own_le rfl) ⟨rfl, KP, V_d⟩
   | succ k ih =>
    intro i T hL_lp  hik P Z0 OL KP V_a V_d
    refine OwG.ac (mkF m 27 #[.val (.ref a), .val (.int ((Int32.ofNat i) + (1 : Int32))), .val (.ref d), .val (.int ((Int32.ofNat (pn + i)) + (1 : Int32))), .val (.int (Int32.ofNat q)), .val (.int (Int32.ofNat i))] [(.int (Int32.ofNat i)), (.ref a), (.int (Int32.ofNat (pn + i))), (.ref d)]) (fun tQ kQ => ?_) ?_
    · refine XS.iload P.here hx rfl (dc d53_10) rfl ?_
      refine XS.iload P.here hx rfl (dc d53_12) rfl ?_
      refine XS.icmpNo P.here hx rfl (dc d53_14) rfl (tlt (own_lt (by omega) (by omega))).2.1 ?_
      refine XS.aloadN P.here hx rfl (dc d53_17) rfl rfl ?_
      refine XS.iloadN P.here hx rfl (dc d53_18) rfl ?_
      refine XS.iinc P.here hx rfl (dc d53_19) rfl (l' := #[.val (.ref a), .val (.int (Int32.ofNat i)), .val (.ref d), .val (.int ((Int32.ofNat (pn + i)) + (1 : Int32))), .val (.int (Int32.ofNat q)), .val (.int (Int32.ofNat i))]) rfl ?_
      refine XS.aloadN P.here hx rfl (dc d53_22) rfl rfl ?_
      refine XS.iloadN P.here hx rfl (dc d53_23) rfl ?_
      exact XS.iinc P.here hx rfl (dc d53_24) rfl (l' := #[.val (.ref a), .val (.int ((Int32.ofNat i) + (1 : Int32))), .val (.ref d), .val (.int ((Int32.ofNat (pn + i)) + (1 : Int32))), .val (.int (Int32.ofNat q)), .val (.int (Int32.ofNat i))]) rfl kQ
    obtain ⟨own_cl, own_A, own_q1, own_S, own_M, own_H, own_U⟩ := id V_a
    obtain ⟨own_L, own_X, own_e, own_N⟩ := id P
    have own_Z := hZ
    have own_in := inb_of own_S (j := (Int32.ofNat i)) ⟨own_nn (by omega), own_lt (by omega) (by omega)⟩
    refine OwG.ac (mkF m 28 #[.val (.ref a), .val (.int ((Int32.ofNat i) + (1 : Int32))), .val (.ref d), .val (.int ((Int32.ofNat (pn + i)) + (1 : Int32))), .val (.int (Int32.ofNat q)), .val (.int (Int32.ofNat i))] [(.int (StrChars.lo8 (ds.getD i 0))), (.int (Int32.ofNat (pn + i))), (.ref d)]) (fun tQ kQ => ?_) ?_
    · exact own_X.baloadBytes hx (j := (Int32.ofNat i)) (v := (.int (StrChars.lo8 (ds.getD i 0)))) (by rw [own_e]; exact own_A.1) (State.isArrayOf_alike own_Z.alike own_A.2.1) own_A.2.2 own_in (Has.at own_H own_in (own_xlo hxs (by omega) (by omega))) (g := (mkF m 27 #[.val (.ref a), .val (.int ((Int32.ofNat i) + (1 : Int32))), .val (.ref d), .val (.int ((Int32.ofNat (pn + i)) + (1 : Int32))), .val (.int (Int32.ofNat q)), .val (.int (Int32.ofNat i))] [(.int (Int32.ofNat i)), (.ref a), (.int (Int32.ofNat (pn + i))), (.ref d)])) rfl rfl (dc d53_27) _ kQ
    have own_b := own_bd8' (i := i) (by omega) hp8
    refine OwG.ac (mkF m 32 #[.val (.ref a), .val (.int ((Int32.ofNat i) + (1 : Int32))), .val (.ref d), .val (.int ((Int32.ofNat (pn + i)) + (1 : Int32))), .val (.int (Int32.ofNat q)), .val (.int (Int32.ofNat i))] [(.int ((StrChars.lo8 (ds.getD i 0)) &&& (255 : Int32))), (.int (Int32.ofNat (pn + i))), (.ref d)]) (fun tQ kQ => ?_) ?_
    · refine XS.sipush P.here hx rfl (dc d53_28) ?_
      exact XS.iand P.here hx rfl (dc d53_31) rfl kQ
    rw [show ((StrChars.lo8 (ds.getD i 0)) &&& (255 : Int32)) = (ds.getD i 0) from StrChars.lo8_mask own_b.1 own_b.2]
    refine P.stat hx hZ hown (own_w hw 238 rfl) (own_w hw 239 rfl) (own_w hw 145 rfl) (own_w hw 240 rfl) (by decide) (OwM.back (W := 0) (rmPut l Z a0 hw d kd (2 * M) (pn + i) (ds.getD i 0) _ hL_lp n0 Z0 SA SH SL OL g_d V_d (own_pw_dl hcs hds hpq (by omega)) (by omega) (by omega)) hZ (own_w hw 240 rfl) (own_w hw 145 rfl) (own_le rfl) (own_le rfl)) (fun _ _ _ q => q.2) rfl (by rw [hml]; rfl) (argsL := [(.ref d), (.int (Int32.ofNat (pn + i))), (.int (ds.getD i 0))]) (rest := []) (lenOf pd___BII_V rfl) rfl (own_le rfl) (dc d53_32) rfl (own_le rfl) (own_le rfl) fun T own_v own_L h2 own_e P own_q => ?_
    obtain ⟨⟨rfl, K, V_d'⟩, -⟩ := own_q
    clear own_e
    replace V_a := V_a.keep K (ninS ne_a_d nin0)
    replace Z0 := Nat.le_trans Z0 K.1
    replace OL := OL.keep K (allS g_d all0)
    replace KP := KP.trans K (allS (Or.inl (List.mem_of_getElem? (i := 0) rfl)) all0)
    show OwG p e below s _ _ _ _ T (mkF m 35 #[.val (.ref a), .val (.int ((Int32.ofNat i) + (1 : Int32))), .val (.ref d), .val (.int ((Int32.ofNat (pn + i)) + (1 : Int32))), .val (.int (Int32.ofNat q)), .val (.int (Int32.ofNat i))] [])
    rw [own_pw_ds hcs hds hpq (by omega)] at V_d'
    have V_d := V_d'
    refine OwG.ac (mkF m 10 #[.val (.ref a), .val (.int ((Int32.ofNat i) + (1 : Int32))), .val (.ref d), .val (.int ((Int32.ofNat (pn + i)) + (1 : Int32))), .val (.int (Int32.ofNat q)), .val (.int ((Int32.ofNat i) + (1 : Int32)))] []) (fun tQ kQ => ?_) ?_
    · refine XS.iinc P.here hx rfl (dc d53_35) rfl (l' := #[.val (.ref a), .val (.int ((Int32.ofNat i) + (1 : Int32))), .val (.ref d), .val (.int ((Int32.ofNat (pn + i)) + (1 : Int32))), .val (.int (Int32.ofNat q)), .val (.int ((Int32.ofNat i) + (1 : Int32)))]) rfl ?_
      exact XS.goto P.here hx rfl (pc0 := 38) (pc' := 10) rfl (dc d53_38) (by decide) (by decide) kQ
    rw [show ((Int32.ofNat i) + (1 : Int32)) = (Int32.ofNat (i + 1)) from own_succ _]
    rw [show ((Int32.ofNat (pn + i)) + (1 : Int32)) = (Int32.ofNat (pn + (i + 1))) from own_succ _]
    exact ih (i + 1) T h2 (by omega) P Z0 OL KP V_a V_d
  exact lp q 0 T h0 (by omega) P Z0 OL KP V_a (by rw [List.take_zero, List.append_nil]; exact V_d)
abbrev bo52 := jdk_43_method_50_code
theorem d52_0 : decode bo52 0 = .ok (.aload_n 0, 1) := by decide +kernel
theorem d52_1 : decode bo52 1 = .ok (.iload_n 1, 1) := by decide +kernel
theorem d52_2 : decode bo52 2 = .ok (.aload_n 2, 1) := by decide +kernel
theorem d52_3 : decode bo52 3 = .ok (.iload_n 3, 1) := by decide +kernel
theorem d52_4 : decode bo52 4 = .ok (.iload 4, 2) := by decide +kernel
theorem d52_6 : decode bo52 6 = .ok (.invokestatic 240, 3) := by decide +kernel
theorem pd___BI_BII_V : parseMethodDescriptor "([BI[BII)V" = some ⟨[(.array .byte), .int, (.array .byte), .int, .int], none⟩ := by decide +kernel
theorem d52_9 : decode bo52 9 = .ok (.return_, 1) := by decide +kernel
theorem pn_java_lang_StringLatin1 : plainName "java/lang/StringLatin1" = true := by first | (simp [plainName, overriddenIn]; done) | decide +kernel
set_option maxRecDepth 65536 in
set_option maxHeartbeats 40000000 in
theorem rmLi (l : Launch) (Z : State) (a0 : Array Value) (hw : ∀ d ∈ tables_1, d.before a0 Z = true) (a d : Addr) (ka kd : ClassId) (NA M pn q : Nat) (xs : List Value) (cs ds : List Int32) (fm : Value) (h0 : Heap) (n0 : Nat) (Z0 : n0 ≤ h0.size) (SA : Sta Z Z.heap "java/lang/StringUTF16" "$assertionsDisabled" "Z" (.int 1)) (SH : Sta Z Z.heap "java/lang/StringUTF16" "HI_BYTE_SHIFT" "I" (.int 0)) (SL : Sta Z Z.heap "java/lang/StringUTF16" "LO_BYTE_SHIFT" "I" (.int 8)) (SF : Sta Z Z.heap "jdk/internal/util/Preconditions" "SIOOBE_FORMATTER" "Ljava/util/function/BiFunction;" fm) (rf : fm.isRef = true) (OL : Old Z n0 h0) (V_a : Arv Z h0 a ka .byte (Int32.ofNat NA) xs (.int 0)) (hxs : ∀ j, j < q → xs.getD j (.int 0) = .int (StrChars.lo8 (ds.getD j 0))) (hNA : q ≤ NA) (hNb : NA ≤ 4000) (V_d : Arv Z h0 d kd .byte (Int32.ofNat (2 * M)) (own_pw cs M) (.int 0)) (hM : M ≤ 4000) (hcs : cs.length = pn) (hds : ds.length = q) (hpq : pn + q ≤ M) (hp8 : ∀ c ∈ ds, ¬ c < 0 ∧ ¬ (255 : Int32) < c) (g_d : n0 ≤ d) (ne_a_d : a ≠ d) :
    OwM l Z (⟨"java/lang/StringLatin1", "inflate", "([BI[BII)V"⟩ : MethodName) jdk_43_method_50_code 5 none ({ frames := 4, cells := 0, slots := 0, locals := 60 } : Room) n0 #[(.ref a), (.int 0), (.ref d), (.int (Int32.ofNat pn)), (.int (Int32.ofNat q))] h0 (fun v h => v = none ∧ Keep h0 h [d] ∧ Arv Z h d kd .byte (Int32.ofNat (2 * M)) (own_pw (cs ++ ds) M) (.int 0)) := by
  refine OwM.mk (plainFor_of_name pn_java_lang_StringLatin1) ?_
  intro p e s m below meth cD T hx hby hml hown hnm hret hlk hZ P
  have dc := @Jvm.hb cD _ hby
  refine OwG.cast (g' := mkF m 0 #[.val (.ref a), .val (.int 0), .val (.ref d), .val (.int (Int32.ofNat pn)), .val (.int (Int32.ofNat q))] []) (by first | (simp [entryFrame, mkF, argsToLocals, Value.category]; done) | rfl) ?_
  refine OwG.ac (mkF m 6 #[.val (.ref a), .val (.int 0), .val (.ref d), .val (.int (Int32.ofNat pn)), .val (.int (Int32.ofNat q))] [(.int (Int32.ofNat q)), (.int (Int32.ofNat pn)), (.ref d), (.int 0), (.ref a)]) (fun tQ kQ => ?_) ?_
  · refine XS.aloadN P.here hx rfl (dc d52_0) rfl rfl ?_
    refine XS.iloadN P.here hx rfl (dc d52_1) rfl ?_
    refine XS.aloadN P.here hx rfl (dc d52_2) rfl rfl ?_
    refine XS.iloadN P.here hx rfl (dc d52_3) rfl ?_
    exact XS.iload P.here hx rfl (dc d52_4) rfl kQ
  refine P.stat hx hZ hown (own_w hw 256 rfl) (own_w hw 257 rfl) (own_w hw 145 rfl) (own_w hw 258 rfl) (by decide) (OwM.back (W := 0) (rmInf l Z a0 hw a d ka kd NA M pn q xs cs ds fm h0 n0 Z0 SA SH SL SF rf OL V_a hxs hNA hNb V_d hM hcs hds hpq hp8 g_d ne_a_d) hZ (own_w hw 258 rfl) (own_w hw 145 rfl) (own_le rfl) (own_le rfl)) (fun _ _ _ q => q.2) rfl (by rw [hml]; rfl) (argsL := [(.ref a), (.int 0), (.ref d), (.int (Int32.ofNat pn)), (.int (Int32.ofNat q))]) (rest := []) (lenOf pd___BI_BII_V rfl) rfl (own_le rfl) (dc d52_6) rfl (own_le rfl) (own_le rfl) fun T own_v own_L h1 own_e P own_q => ?_
  obtain ⟨⟨rfl, own_r⟩, -⟩ := own_q
  show OwG p e below s _ _ _ _ T (mkF m 9 #[.val (.ref a), .val (.int 0), .val (.ref d), .val (.int (Int32.ofNat pn)), .val (.int (Int32.ofNat q))] [])
  exact P.retV hx hlk hret (dc d52_9) (own_le rfl) (own_le rfl) ⟨rfl, own_r⟩
abbrev bo21 := jdk_68_method_68_code
theorem d21_0 : decode bo21 0 = .ok (.getstatic 18, 3) := by decide +kernel
theorem d21_3 : decode bo21 3 = .ok (.ifCond .eq 14, 3) := by decide +kernel
theorem d21_6 : decode bo21 6 = .ok (.aload_n 0, 1) := by decide +kernel
theorem d21_7 : decode bo21 7 = .ok (.getfield 22, 3) := by decide +kernel
theorem d21_10 : decode bo21 10 = .ok (.ifCond .ne 7, 3) := by decide +kernel
theorem d21_13 : decode bo21 13 = .ok (.iconst 1, 1) := by decide +kernel
theorem d21_14 : decode bo21 14 = .ok (.goto 4, 3) := by decide +kernel
theorem d21_18 : decode bo21 18 = .ok (.ireturn, 1) := by decide +kernel
theorem d21_17 : decode bo21 17 = .ok (.iconst 0, 1) := by decide +kernel
set_option maxRecDepth 65536 in
set_option maxHeartbeats 40000000 in
theorem rmIl (l : Launch) (Z : State) (a0 : Array Value) (hw : ∀ d ∈ tables_1, d.before a0 Z = true) (sb : Addr) (cd zC : Int32) (h0 : Heap) (n0 : Nat) (Z0 : n0 ≤ h0.size) (S2 : Sta Z Z.heap "java/lang/String" "COMPACT_STRINGS" "Z" (.int zC)) (hzC : ¬ zC = 0) (OL : Old Z n0 h0) (F_coder_sb : Fld Z h0 sb "java/lang/AbstractStringBuilder" "coder" "B" (.int cd)) :
    OwM l Z (⟨"java/lang/AbstractStringBuilder", "isLatin1", "()Z"⟩ : MethodName) jdk_68_method_68_code 1 (some .boolean) ({ frames := 0, cells := 0, slots := 0, locals := 0 } : Room) n0 #[(.ref sb)] h0 (fun v h => v = some (.int (if cd = 0 then 1 else 0)) ∧ h = h0) := by
  refine OwM.mk (plainFor_of_name pn_java_lang_AbstractStringBuilder) ?_
  intro p e s m below meth cD T hx hby hml hown hnm hret hlk hZ P
  have dc := @Jvm.hb cD _ hby
  refine OwG.cast (g' := mkF m 0 #[.val (.ref sb)] []) (by first | (simp [entryFrame, mkF, argsToLocals, Value.category]; done) | rfl) ?_
  refine P.getS hx hZ hown (host := "") (Or.inl (own_w hw 50 rfl)) Via.refl (S2.ext OL.2) rfl (dc d21_0) fun T P => ?_
  show OwG p e below s _ _ _ _ T (mkF m 3 #[.val (.ref sb)] [(.int zC)])
  refine OwG.ac (mkF m 7 #[.val (.ref sb)] [(.ref sb)]) (fun tQ kQ => ?_) ?_
  · refine XS.ifNo P.here hx rfl (dc d21_3) rfl ((if0 _ _).trans (feq hzC).1) ?_
    exact XS.aloadN P.here hx rfl (dc d21_6) rfl rfl kQ
  refine P.getF hx hZ hown (host := "") (Or.inl (own_w hw 53 rfl)) Via.refl F_coder_sb rfl rfl (dc d21_7) fun T P => ?_
  show OwG p e below s _ _ _ _ T (mkF m 10 #[.val (.ref sb)] [(.int cd)])
  by_cases hc10 : cd = (0 : Int32)
  ·skip
   refine OwG.ac (mkF m 18 #[.val (.ref sb)] [(.int 1)]) (fun tQ kQ => ?_) ?_
   · refine XS.ifNo P.here hx rfl (dc d21_10) rfl ((if0 _ _).trans (teq hc10).2) ?_
     refine XS.iconst P.here hx rfl (dc d21_13) ?_
     exact XS.goto P.here hx rfl (pc0 := 14) (pc' := 18) rfl (dc d21_14) (by decide) (by decide) kQ
   exact P.retN hx hlk (t := .boolean) hret (by simp) (dc d21_18) (own_le rfl) (own_le rfl) ⟨by rw [if_pos hc10]; rfl, rfl⟩
  ·skip
   refine OwG.ac (mkF m 18 #[.val (.ref sb)] [(.int 0)]) (fun tQ kQ => ?_) ?_
   · refine XS.ifYes P.here hx rfl (pc0 := 10) (pc' := 17) rfl (dc d21_10) rfl ((if0 _ _).trans (feq hc10).2) (by decide) (by decide) ?_
     exact XS.iconst P.here hx rfl (dc d21_17) kQ
   exact P.retN hx hlk (t := .boolean) hret (by simp) (dc d21_18) (own_le rfl) (own_le rfl) ⟨by rw [if_neg hc10]; rfl, rfl⟩
abbrev bo51 := jdk_68_method_11_code
theorem d51_0 : decode bo51 0 = .ok (.aload_n 0, 1) := by decide +kernel
theorem d51_1 : decode bo51 1 = .ok (.invokevirtual 83, 3) := by decide +kernel
theorem pd___Z : parseMethodDescriptor "()Z" = some ⟨[], some .boolean⟩ := by decide +kernel
theorem d51_4 : decode bo51 4 = .ok (.ifCond .ne 4, 3) := by decide +kernel
theorem d51_8 : decode bo51 8 = .ok (.aload_n 0, 1) := by decide +kernel
theorem d51_9 : decode bo51 9 = .ok (.getfield 15, 3) := by decide +kernel
theorem d51_12 : decode bo51 12 = .ok (.arraylength, 1) := by decide +kernel
theorem d51_13 : decode bo51 13 = .ok (.invokestatic 26, 3) := by decide +kernel
theorem d51_16 : decode bo51 16 = .ok (.astore_n 1, 1) := by decide +kernel
theorem d51_17 : decode bo51 17 = .ok (.aload_n 0, 1) := by decide +kernel
theorem d51_18 : decode bo51 18 = .ok (.getfield 15, 3) := by decide +kernel
theorem d51_21 : decode bo51 21 = .ok (.iconst 0, 1) := by decide +kernel
theorem d51_22 : decode bo51 22 = .ok (.aload_n 1, 1) := by decide +kernel
theorem d51_23 : decode bo51 23 = .ok (.iconst 0, 1) := by decide +kernel
theorem d51_24 : decode bo51 24 = .ok (.aload_n 0, 1) := by decide +kernel
theorem d51_25 : decode bo51 25 = .ok (.getfield 79, 3) := by decide +kernel
theorem d51_28 : decode bo51 28 = .ok (.invokestatic 125, 3) := by decide +kernel
theorem d51_31 : decode bo51 31 = .ok (.aload_n 0, 1) := by decide +kernel
theorem d51_32 : decode bo51 32 = .ok (.aload_n 1, 1) := by decide +kernel
theorem d51_33 : decode bo51 33 = .ok (.putfield 15, 3) := by decide +kernel
theorem d51_36 : decode bo51 36 = .ok (.aload_n 0, 1) := by decide +kernel
theorem d51_37 : decode bo51 37 = .ok (.iconst 1, 1) := by decide +kernel
theorem d51_38 : decode bo51 38 = .ok (.putfield 22, 3) := by decide +kernel
theorem d51_41 : decode bo51 41 = .ok (.return_, 1) := by decide +kernel
set_option maxRecDepth 65536 in
set_option maxHeartbeats 40000000 in
theorem rmAf (l : Launch) (Z : State) (a0 : Array Value) (hw : ∀ d ∈ tables_1, d.before a0 Z = true) (sb t : Addr) (kt : ClassId) (cs : List Int32) (M pn : Nat) (zC : Int32) (fm : Value) (h0 : Heap) (n0 : Nat) (Z0 : n0 ≤ h0.size) (SA : Sta Z Z.heap "java/lang/StringUTF16" "$assertionsDisabled" "Z" (.int 1)) (SH : Sta Z Z.heap "java/lang/StringUTF16" "HI_BYTE_SHIFT" "I" (.int 0)) (SL : Sta Z Z.heap "java/lang/StringUTF16" "LO_BYTE_SHIFT" "I" (.int 8)) (SF : Sta Z Z.heap "jdk/internal/util/Preconditions" "SIOOBE_FORMATTER" "Ljava/util/function/BiFunction;" fm) (rf : fm.isRef = true) (S2 : Sta Z Z.heap "java/lang/String" "COMPACT_STRINGS" "Z" (.int zC)) (hzC : ¬ zC = 0) (OL : Old Z n0 h0) (E_sb : Exa Z h0 sb "java/lang/StringBuilder") (F_value_sb : Fld Z h0 sb "java/lang/AbstractStringBuilder" "value" "[B" (.ref t)) (F_coder_sb : Fld Z h0 sb "java/lang/AbstractStringBuilder" "coder" "B" (.int 0)) (F_count_sb : Fld Z h0 sb "java/lang/AbstractStringBuilder" "count" "I" (.int (Int32.ofNat pn))) (F_mb_sb : Fld Z h0 sb "java/lang/AbstractStringBuilder" "maybeLatin1" "Z" (.int 0)) (V_t : Arv Z h0 t kt .byte (Int32.ofNat M) (own_pl cs M) (.int 0)) (hp0 : cs.length = pn) (hpM : pn ≤ M) (hM : M ≤ 140) (h8 : ∀ c ∈ cs, ¬ c < 0 ∧ ¬ (255 : Int32) < c) (g_sb : n0 ≤ sb) :
    OwM l Z (⟨"java/lang/AbstractStringBuilder", "inflate", "()V"⟩ : MethodName) jdk_68_method_11_code 2 none ({ frames := 5, cells := 1, slots := 280, locals := 76 } : Room) n0 #[(.ref sb)] h0 (fun v h => v = none ∧ Keep h0 h [sb] ∧ ∃ (t2 : Addr) (kt2 : ClassId), h0.size ≤ t2 ∧ Fld Z h sb "java/lang/AbstractStringBuilder" "value" "[B" (.ref t2) ∧ Fld Z h sb "java/lang/AbstractStringBuilder" "coder" "B" (.int 1) ∧ Fld Z h sb "java/lang/AbstractStringBuilder" "count" "I" (.int (Int32.ofNat pn)) ∧ Fld Z h sb "java/lang/AbstractStringBuilder" "maybeLatin1" "Z" (.int 0) ∧ Arv Z h t2 kt2 .byte (Int32.ofNat (2 * M)) (own_pw cs M) (.int 0)) := by
  refine OwM.mk (plainFor_of_name pn_java_lang_AbstractStringBuilder) ?_
  intro p e s m below meth cD T hx hby hml hown hnm hret hlk hZ P
  have dc := @Jvm.hb cD _ hby
  refine OwG.cast (g' := mkF m 0 #[.val (.ref sb), .unset] []) (by first | (simp [entryFrame, mkF, argsToLocals, Value.category]; done) | rfl) ?_
  have KP := Keep.refl h0 [sb]
  have ne_sb_t := Exa.neArv E_sb V_t (own_w hw 38 rfl)
  have ne_t_sb := Ne.symm ne_sb_t
  refine OwG.ac (mkF m 1 #[.val (.ref sb), .unset] [(.ref sb)]) (fun tQ kQ => ?_) ?_
  · exact XS.aloadN P.here hx rfl (dc d51_0) rfl rfl kQ
  refine P.virtual hx hZ hown (own_w hw 221 rfl) (own_w hw 120 rfl) (own_w hw 122 rfl) (own_w hw 121 rfl) (by decide) (OwM.back (W := 0) (rmIl l Z a0 hw sb (0 : Int32) zC h0 n0 Z0 S2 hzC OL F_coder_sb) hZ (own_w hw 123 rfl) (own_w hw 47 rfl) (own_le rfl) (own_le rfl)) (fun _ _ _ q => q.2) E_sb rfl (by rw [hml]; rfl) (argsL := []) (rest := []) (lenOf pd___Z rfl) rfl (own_le rfl) (dc d51_1) rfl (own_le rfl) (own_le rfl) fun T own_v own_L h1 own_e P own_q => ?_
  obtain ⟨⟨rfl, own_hh⟩, -⟩ := own_q
  rw [own_hh] at P
  clear own_e own_hh
  show OwG p e below s _ _ _ _ T (mkF m 4 #[.val (.ref sb), .unset] [(.int (if (0 : Int32) = 0 then 1 else 0))])
  refine OwG.ac (mkF m 9 #[.val (.ref sb), .unset] [(.ref sb)]) (fun tQ kQ => ?_) ?_
  · refine XS.ifYes P.here hx rfl (pc0 := 4) (pc' := 8) rfl (dc d51_4) rfl ((if0 _ _).trans (feq (by decide)).2) (by decide) (by decide) ?_
    exact XS.aloadN P.here hx rfl (dc d51_8) rfl rfl kQ
  refine P.getF hx hZ hown (host := "") (Or.inl (own_w hw 51 rfl)) Via.refl F_value_sb rfl rfl (dc d51_9) fun T P => ?_
  show OwG p e below s _ _ _ _ T (mkF m 12 #[.val (.ref sb), .unset] [(.ref t)])
  obtain ⟨own_cl, own_A, own_q1, own_S, own_M, own_H, own_U⟩ := id V_t
  obtain ⟨own_L, own_X, own_e, own_N⟩ := id P
  have own_Z := hZ
  refine OwG.ac (mkF m 13 #[.val (.ref sb), .unset] [(.int (Int32.ofNat M))]) (fun tQ kQ => ?_) ?_
  · refine own_X.arraylength hx (by rw [own_e]; exact own_A.1) (State.isArrayOf_alike own_Z.alike own_A.2.1) (g := (mkF m 12 #[.val (.ref sb), .unset] [(.ref t)])) rfl rfl (dc d51_12) _ ?_
    rw [len_of own_S own_M]
    exact kQ
  refine P.stat hx hZ hown (own_w hw 252 rfl) (own_w hw 232 rfl) (own_w hw 145 rfl) (own_w hw 233 rfl) (by decide) (OwM.back (W := 0) (rmNbf l Z a0 hw M h0 n0 Z0 (by omega)) hZ (own_w hw 233 rfl) (own_w hw 145 rfl) (own_le rfl) (own_le rfl)) (fun _ _ _ q => q.2) rfl (by rw [hml]; rfl) (argsL := [(.int (Int32.ofNat M))]) (rest := []) (lenOf pd__I__B rfl) rfl (own_le rfl) (dc d51_13) rfl (by first | omega | (dsimp only [room_1] <;> omega)) (by first | omega | (dsimp only [room_1] <;> omega)) fun T own_v own_L h2 own_e P own_q => ?_
  obtain ⟨⟨b, kb, rfl, gb, K, V_b⟩, -⟩ := own_q
  show OwG p e below s _ _ _ _ T (mkF m 16 #[.val (.ref sb), .unset] [(.ref b)])
  clear own_e
  have ne_sb_b : sb ≠ b := Nat.ne_of_lt (Nat.lt_of_lt_of_le E_sb.lt (Nat.le_of_eq gb.symm))
  have ne_b_sb := Ne.symm ne_sb_b
  have ne_t_b : t ≠ b := Nat.ne_of_lt (Nat.lt_of_lt_of_le V_t.lt (Nat.le_of_eq gb.symm))
  have ne_b_t := Ne.symm ne_t_b
  have g_b : n0 ≤ b := Nat.le_trans Z0 (Nat.le_of_eq gb.symm)
  have sz_b : h0.size ≤ b := Nat.le_trans KP.1 (Nat.le_of_eq gb.symm)
  replace E_sb := E_sb.keep K
  replace F_value_sb := F_value_sb.keep K nin0
  replace F_coder_sb := F_coder_sb.keep K nin0
  replace F_count_sb := F_count_sb.keep K nin0
  replace F_mb_sb := F_mb_sb.keep K nin0
  replace V_t := V_t.keep K nin0
  replace Z0 := Nat.le_trans Z0 K.1
  replace OL := OL.keep K all0
  replace KP := KP.trans K all0
  replace V_b : Arv Z h2 b kb .byte (Int32.ofNat (2 * M)) (own_pw [] M) (.int 0) := V_b
  refine OwG.ac (mkF m 18 #[.val (.ref sb), .val (.ref b)] [(.ref sb)]) (fun tQ kQ => ?_) ?_
  · refine XS.astoreN P.here hx rfl (dc d51_16) rfl rfl (l' := #[.val (.ref sb), .val (.ref b)]) rfl ?_
    exact XS.aloadN P.here hx rfl (dc d51_17) rfl rfl kQ
  refine P.getF hx hZ hown (host := "") (Or.inl (own_w hw 51 rfl)) Via.refl F_value_sb rfl rfl (dc d51_18) fun T P => ?_
  show OwG p e below s _ _ _ _ T (mkF m 21 #[.val (.ref sb), .val (.ref b)] [(.ref t)])
  refine OwG.ac (mkF m 25 #[.val (.ref sb), .val (.ref b)] [(.ref sb), (.int 0), (.ref b), (.int 0), (.ref t)]) (fun tQ kQ => ?_) ?_
  · refine XS.iconst P.here hx rfl (dc d51_21) ?_
    refine XS.aloadN P.here hx rfl (dc d51_22) rfl rfl ?_
    refine XS.iconst P.here hx rfl (dc d51_23) ?_
    exact XS.aloadN P.here hx rfl (dc d51_24) rfl rfl kQ
  refine P.getF hx hZ hown (host := "") (Or.inl (own_w hw 67 rfl)) Via.refl F_count_sb rfl rfl (dc d51_25) fun T P => ?_
  show OwG p e below s _ _ _ _ T (mkF m 28 #[.val (.ref sb), .val (.ref b)] [(.int (Int32.ofNat pn)), (.int 0), (.ref b), (.int 0), (.ref t)])
  refine P.stat hx hZ hown (own_w hw 253 rfl) (own_w hw 254 rfl) (own_w hw 161 rfl) (own_w hw 255 rfl) (by decide) (OwM.back (W := 0) (rmLi l Z a0 hw t b kt kb M M 0 pn _ [] cs fm h2 n0 Z0 SA SH SL SF rf OL V_t (fun j hj => own_pla j (by omega)) (by omega) (by omega) V_b (by omega) rfl hp0 (by omega) h8 g_b ne_t_b) hZ (own_w hw 255 rfl) (own_w hw 161 rfl) (own_le rfl) (own_le rfl)) (fun _ _ _ q => q.2) rfl (by rw [hml]; rfl) (argsL := [(.ref t), (.int 0), (.ref b), (.int 0), (.int (Int32.ofNat pn))]) (rest := []) (lenOf pd___BI_BII_V rfl) rfl (own_le rfl) (dc d51_28) rfl (by first | omega | (dsimp only [room_1] <;> omega)) (by first | omega | (dsimp only [room_1] <;> omega)) fun T own_v own_L h3 own_e P own_q => ?_
  obtain ⟨⟨rfl, K, V_b'⟩, -⟩ := own_q
  clear own_e
  replace E_sb := E_sb.keep K
  replace F_value_sb := F_value_sb.keep K (ninS ne_sb_b nin0)
  replace F_coder_sb := F_coder_sb.keep K (ninS ne_sb_b nin0)
  replace F_count_sb := F_count_sb.keep K (ninS ne_sb_b nin0)
  replace F_mb_sb := F_mb_sb.keep K (ninS ne_sb_b nin0)
  replace V_t := V_t.keep K (ninS ne_t_b nin0)
  replace Z0 := Nat.le_trans Z0 K.1
  replace OL := OL.keep K (allS g_b all0)
  replace KP := KP.trans K (allS (Or.inr sz_b) all0)
  show OwG p e below s _ _ _ _ T (mkF m 31 #[.val (.ref sb), .val (.ref b)] [])
  have V_b := V_b'
  refine OwG.ac (mkF m 33 #[.val (.ref sb), .val (.ref b)] [(.ref b), (.ref sb)]) (fun tQ kQ => ?_) ?_
  · refine XS.aloadN P.here hx rfl (dc d51_31) rfl rfl ?_
    exact XS.aloadN P.here hx rfl (dc d51_32) rfl rfl kQ
  refine P.putF hx hZ hown (host := "") (Or.inl (own_w hw 51 rfl)) Via.refl F_value_sb E_sb (Or.inl (own_w hw 52 rfl)) (own_w hw 38 rfl) (ty := (.array .byte)) (by decide) rfl rfl rfl rfl (dc d51_33) g_sb fun T h4 P W => ?_
  replace E_sb := E_sb.wr W
  replace F_value_sb := F_value_sb.same W
  replace F_coder_sb := F_coder_sb.other W (Or.inr (slot_ne (Or.inl (own_w hw 54 rfl)) (Or.inl (own_w hw 52 rfl)) (by decide) (t := .byte) (t' := (.array .byte)) (by decide) (by decide)))
  replace F_count_sb := F_count_sb.other W (Or.inr (slot_ne (Or.inl (own_w hw 68 rfl)) (Or.inl (own_w hw 52 rfl)) (by decide) (t := .int) (t' := (.array .byte)) (by decide) (by decide)))
  replace F_mb_sb := F_mb_sb.other W (Or.inr (slot_ne (Or.inl (own_w hw 273 rfl)) (Or.inl (own_w hw 52 rfl)) (by decide) (t := .boolean) (t' := (.array .byte)) (by decide) (by decide)))
  replace V_t := V_t.other W ne_t_sb
  replace V_b := V_b.other W ne_b_sb
  replace Z0 := Nat.le_trans Z0 (Keep.of_wr W).1
  replace OL := OL.wr W g_sb
  replace KP := KP.wr W (Or.inl (List.mem_of_getElem? (i := 0) rfl))
  clear W
  show OwG p e below s _ _ _ _ T (mkF m 36 #[.val (.ref sb), .val (.ref b)] [])
  refine OwG.ac (mkF m 38 #[.val (.ref sb), .val (.ref b)] [(.int 1), (.ref sb)]) (fun tQ kQ => ?_) ?_
  · refine XS.aloadN P.here hx rfl (dc d51_36) rfl rfl ?_
    exact XS.iconst P.here hx rfl (dc d51_37) kQ
  refine P.putFN hx hZ hown (own_w hw 53 rfl) Via.refl F_coder_sb E_sb (Or.inl (own_w hw 54 rfl)) (own_w hw 38 rfl) (ty := .byte) (v' := (.int 1)) (by decide) rfl rfl rfl rfl (dc d51_38) g_sb fun T h5 P W => ?_
  replace E_sb := E_sb.wr W
  replace F_value_sb := F_value_sb.other W (Or.inr (slot_ne (Or.inl (own_w hw 52 rfl)) (Or.inl (own_w hw 54 rfl)) (by decide) (t := (.array .byte)) (t' := .byte) (by decide) (by decide)))
  replace F_coder_sb := F_coder_sb.same W
  replace F_count_sb := F_count_sb.other W (Or.inr (slot_ne (Or.inl (own_w hw 68 rfl)) (Or.inl (own_w hw 54 rfl)) (by decide) (t := .int) (t' := .byte) (by decide) (by decide)))
  replace F_mb_sb := F_mb_sb.other W (Or.inr (slot_ne (Or.inl (own_w hw 273 rfl)) (Or.inl (own_w hw 54 rfl)) (by decide) (t := .boolean) (t' := .byte) (by decide) (by decide)))
  replace V_t := V_t.other W ne_t_sb
  replace V_b := V_b.other W ne_b_sb
  replace Z0 := Nat.le_trans Z0 (Keep.of_wr W).1
  replace OL := OL.wr W g_sb
  replace KP := KP.wr W (Or.inl (List.mem_of_getElem? (i := 0) rfl))
  clear W
  show OwG p e below s _ _ _ _ T (mkF m 41 #[.val (.ref sb), .val (.ref b)] [])
  exact P.retV hx hlk hret (dc d51_41) (by first | omega | (dsimp only [room_1] <;> omega)) (by first | omega | (dsimp only [room_1] <;> omega)) ⟨rfl, KP, b, kb, Nat.le_of_eq gb.symm, F_value_sb, F_coder_sb, F_count_sb, F_mb_sb, V_b⟩
theorem d51_7 : decode bo51 7 = .ok (.return_, 1) := by decide +kernel
set_option maxRecDepth 65536 in
set_option maxHeartbeats 40000000 in
theorem rmAf1 (l : Launch) (Z : State) (a0 : Array Value) (hw : ∀ d ∈ tables_1, d.before a0 Z = true) (sb : Addr) (zC : Int32) (h0 : Heap) (n0 : Nat) (Z0 : n0 ≤ h0.size) (S2 : Sta Z Z.heap "java/lang/String" "COMPACT_STRINGS" "Z" (.int zC)) (hzC : ¬ zC = 0) (OL : Old Z n0 h0) (E_sb : Exa Z h0 sb "java/lang/StringBuilder") (F_coder_sb : Fld Z h0 sb "java/lang/AbstractStringBuilder" "coder" "B" (.int 1)) :
    OwM l Z (⟨"java/lang/AbstractStringBuilder", "inflate", "()V"⟩ : MethodName) jdk_68_method_11_code 2 none ({ frames := 1, cells := 0, slots := 0, locals := 12 } : Room) n0 #[(.ref sb)] h0 (fun v h => v = none ∧ h = h0) := by
  refine OwM.mk (plainFor_of_name pn_java_lang_AbstractStringBuilder) ?_
  intro p e s m below meth cD T hx hby hml hown hnm hret hlk hZ P
  have dc := @Jvm.hb cD _ hby
  refine OwG.cast (g' := mkF m 0 #[.val (.ref sb), .unset] []) (by first | (simp [entryFrame, mkF, argsToLocals, Value.category]; done) | rfl) ?_
  refine OwG.ac (mkF m 1 #[.val (.ref sb), .unset] [(.ref sb)]) (fun tQ kQ => ?_) ?_
  · exact XS.aloadN P.here hx rfl (dc d51_0) rfl rfl kQ
  refine P.virtual hx hZ hown (own_w hw 221 rfl) (own_w hw 120 rfl) (own_w hw 122 rfl) (own_w hw 121 rfl) (by decide) (OwM.back (W := 0) (rmIl l Z a0 hw sb (1 : Int32) zC h0 n0 Z0 S2 hzC OL F_coder_sb) hZ (own_w hw 123 rfl) (own_w hw 47 rfl) (own_le rfl) (own_le rfl)) (fun _ _ _ q => q.2) E_sb rfl (by rw [hml]; rfl) (argsL := []) (rest := []) (lenOf pd___Z rfl) rfl (own_le rfl) (dc d51_1) rfl (own_le rfl) (own_le rfl) fun T own_v own_L h1 own_e P own_q => ?_
  obtain ⟨⟨rfl, own_hh⟩, -⟩ := own_q
  rw [own_hh] at P
  clear own_e own_hh
  show OwG p e below s _ _ _ _ T (mkF m 4 #[.val (.ref sb), .unset] [(.int (if (1 : Int32) = 0 then 1 else 0))])
  refine OwG.ac (mkF m 7 #[.val (.ref sb), .unset] []) (fun tQ kQ => ?_) ?_
  · exact XS.ifNo P.here hx rfl (dc d51_4) rfl ((if0 _ _).trans (teq (by decide)).2) kQ
  exact P.retV hx hlk hret (dc d51_7) (own_le rfl) (own_le rfl) ⟨rfl, rfl⟩
abbrev bo13 := jdk_68_method_71_code
theorem d13_0 : decode bo13 0 = .ok (.getstatic 18, 3) := by decide +kernel
theorem d13_3 : decode bo13 3 = .ok (.ifCond .eq 18, 3) := by decide +kernel
theorem d13_6 : decode bo13 6 = .ok (.aload_n 0, 1) := by decide +kernel
theorem d13_7 : decode bo13 7 = .ok (.getfield 22, 3) := by decide +kernel
theorem d13_10 : decode bo13 10 = .ok (.aload_n 1, 1) := by decide +kernel
theorem d13_11 : decode bo13 11 = .ok (.invokevirtual 40, 3) := by decide +kernel
theorem pd___B : parseMethodDescriptor "()B" = some ⟨[], some .byte⟩ := by decide +kernel
theorem d13_14 : decode bo13 14 = .ok (.if_icmp .eq 7, 3) := by decide +kernel
theorem d13_21 : decode bo13 21 = .ok (.return_, 1) := by decide +kernel
set_option maxRecDepth 65536 in
set_option maxHeartbeats 40000000 in
theorem rmIfs (l : Launch) (Z : State) (a0 : Array Value) (hw : ∀ d ∈ tables_1, d.before a0 Z = true) (sb x : Addr) (cx zC : Int32) (h0 : Heap) (n0 : Nat) (Z0 : n0 ≤ h0.size) (S2 : Sta Z Z.heap "java/lang/String" "COMPACT_STRINGS" "Z" (.int zC)) (hzC : ¬ zC = 0) (OL : Old Z n0 h0) (E_sb : Exa Z h0 sb "java/lang/StringBuilder") (F_coder_sb : Fld Z h0 sb "java/lang/AbstractStringBuilder" "coder" "B" (.int cx)) (E_x : Exa Z h0 x "java/lang/String") (C_x : Fld Z h0 x "java/lang/String" "coder" "B" (.int cx)) (hcx : cx = 0 ∨ cx = 1) :
    OwM l Z (⟨"java/lang/AbstractStringBuilder", "inflateIfNeededFor", "(Ljava/lang/String;)V"⟩ : MethodName) jdk_68_method_71_code 2 none ({ frames := 1, cells := 0, slots := 0, locals := 13 } : Room) n0 #[(.ref sb), (.ref x)] h0 (fun v h => v = none ∧ h = h0) := by
  refine OwM.mk (plainFor_of_name pn_java_lang_AbstractStringBuilder) ?_
  intro p e s m below meth cD T hx hby hml hown hnm hret hlk hZ P
  have dc := @Jvm.hb cD _ hby
  refine OwG.cast (g' := mkF m 0 #[.val (.ref sb), .val (.ref x)] []) (by first | (simp [entryFrame, mkF, argsToLocals, Value.category]; done) | rfl) ?_
  refine P.getS hx hZ hown (host := "") (Or.inl (own_w hw 50 rfl)) Via.refl (S2.ext OL.2) rfl (dc d13_0) fun T P => ?_
  show OwG p e below s _ _ _ _ T (mkF m 3 #[.val (.ref sb), .val (.ref x)] [(.int zC)])
  refine OwG.ac (mkF m 7 #[.val (.ref sb), .val (.ref x)] [(.ref sb)]) (fun tQ kQ => ?_) ?_
  · refine XS.ifNo P.here hx rfl (dc d13_3) rfl ((if0 _ _).trans (feq hzC).1) ?_
    exact XS.aloadN P.here hx rfl (dc d13_6) rfl rfl kQ
  refine P.getF hx hZ hown (host := "") (Or.inl (own_w hw 53 rfl)) Via.refl F_coder_sb rfl rfl (dc d13_7) fun T P => ?_
  show OwG p e below s _ _ _ _ T (mkF m 10 #[.val (.ref sb), .val (.ref x)] [(.int cx)])
  refine OwG.ac (mkF m 11 #[.val (.ref sb), .val (.ref x)] [(.ref x), (.int cx)]) (fun tQ kQ => ?_) ?_
  · exact XS.aloadN P.here hx rfl (dc d13_10) rfl rfl kQ
  refine P.virtual hx hZ hown (own_w hw 84 rfl) (own_w hw 32 rfl) (own_w hw 34 rfl) (own_w hw 33 rfl) (by decide) (OwM.back (W := 1) (rmCod l Z a0 hw x cx zC h0 n0 Z0 S2 hzC OL C_x hcx) hZ (own_w hw 35 rfl) (own_w hw 3 rfl) (own_le rfl) (own_le rfl)) (fun _ _ _ q => q.2) E_x rfl (by rw [hml]; rfl) (argsL := []) (rest := [(.int cx)]) (lenOf pd___B rfl) rfl (own_le rfl) (dc d13_11) rfl (own_le rfl) (own_le rfl) fun T own_v own_L h1 own_e P own_q => ?_
  obtain ⟨⟨rfl, own_hh⟩, -⟩ := own_q
  rw [own_hh] at P
  clear own_e own_hh
  show OwG p e below s _ _ _ _ T (mkF m 14 #[.val (.ref sb), .val (.ref x)] [(.int cx), (.int cx)])
  refine OwG.ac (mkF m 21 #[.val (.ref sb), .val (.ref x)] []) (fun tQ kQ => ?_) ?_
  · exact XS.icmpYes P.here hx rfl (pc0 := 14) (pc' := 21) rfl (dc d13_14) rfl (teq rfl).1 (by decide) (by decide) kQ
  exact P.retV hx hlk hret (dc d13_21) (own_le rfl) (own_le rfl) ⟨rfl, rfl⟩
theorem d13_17 : decode bo13 17 = .ok (.aload_n 0, 1) := by decide +kernel
theorem d13_18 : decode bo13 18 = .ok (.invokevirtual 195, 3) := by decide +kernel
theorem pd___V : parseMethodDescriptor "()V" = some ⟨[], none⟩ := by decide +kernel
set_option maxRecDepth 65536 in
set_option maxHeartbeats 40000000 in
theorem rmIfd (l : Launch) (Z : State) (a0 : Array Value) (hw : ∀ d ∈ tables_1, d.before a0 Z = true) (sb x : Addr) (zC : Int32) (h0 : Heap) (n0 : Nat) (Z0 : n0 ≤ h0.size) (S2 : Sta Z Z.heap "java/lang/String" "COMPACT_STRINGS" "Z" (.int zC)) (hzC : ¬ zC = 0) (OL : Old Z n0 h0) (E_sb : Exa Z h0 sb "java/lang/StringBuilder") (F_coder_sb : Fld Z h0 sb "java/lang/AbstractStringBuilder" "coder" "B" (.int 1)) (E_x : Exa Z h0 x "java/lang/String") (C_x : Fld Z h0 x "java/lang/String" "coder" "B" (.int 0)) :
    OwM l Z (⟨"java/lang/AbstractStringBuilder", "inflateIfNeededFor", "(Ljava/lang/String;)V"⟩ : MethodName) jdk_68_method_71_code 2 none ({ frames := 2, cells := 0, slots := 0, locals := 25 } : Room) n0 #[(.ref sb), (.ref x)] h0 (fun v h => v = none ∧ h = h0) := by
  refine OwM.mk (plainFor_of_name pn_java_lang_AbstractStringBuilder) ?_
  intro p e s m below meth cD T hx hby hml hown hnm hret hlk hZ P
  have dc := @Jvm.hb cD _ hby
  refine OwG.cast (g' := mkF m 0 #[.val (.ref sb), .val (.ref x)] []) (by first | (simp [entryFrame, mkF, argsToLocals, Value.category]; done) | rfl) ?_
  refine P.getS hx hZ hown (host := "") (Or.inl (own_w hw 50 rfl)) Via.refl (S2.ext OL.2) rfl (dc d13_0) fun T P => ?_
  show OwG p e below s _ _ _ _ T (mkF m 3 #[.val (.ref sb), .val (.ref x)] [(.int zC)])
  refine OwG.ac (mkF m 7 #[.val (.ref sb), .val (.ref x)] [(.ref sb)]) (fun tQ kQ => ?_) ?_
  · refine XS.ifNo P.here hx rfl (dc d13_3) rfl ((if0 _ _).trans (feq hzC).1) ?_
    exact XS.aloadN P.here hx rfl (dc d13_6) rfl rfl kQ
  refine P.getF hx hZ hown (host := "") (Or.inl (own_w hw 53 rfl)) Via.refl F_coder_sb rfl rfl (dc d13_7) fun T P => ?_
  show OwG p e below s _ _ _ _ T (mkF m 10 #[.val (.ref sb), .val (.ref x)] [(.int 1)])
  refine OwG.ac (mkF m 11 #[.val (.ref sb), .val (.ref x)] [(.ref x), (.int 1)]) (fun tQ kQ => ?_) ?_
  · exact XS.aloadN P.here hx rfl (dc d13_10) rfl rfl kQ
  refine P.virtual hx hZ hown (own_w hw 84 rfl) (own_w hw 32 rfl) (own_w hw 34 rfl) (own_w hw 33 rfl) (by decide) (OwM.back (W := 1) (rmCod l Z a0 hw x (0 : Int32) zC h0 n0 Z0 S2 hzC OL C_x (by decide)) hZ (own_w hw 35 rfl) (own_w hw 3 rfl) (own_le rfl) (own_le rfl)) (fun _ _ _ q => q.2) E_x rfl (by rw [hml]; rfl) (argsL := []) (rest := [(.int 1)]) (lenOf pd___B rfl) rfl (own_le rfl) (dc d13_11) rfl (own_le rfl) (own_le rfl) fun T own_v own_L h1 own_e P own_q => ?_
  obtain ⟨⟨rfl, own_hh⟩, -⟩ := own_q
  rw [own_hh] at P
  clear own_e own_hh
  show OwG p e below s _ _ _ _ T (mkF m 14 #[.val (.ref sb), .val (.ref x)] [(.int 0), (.int 1)])
  refine OwG.ac (mkF m 18 #[.val (.ref sb), .val (.ref x)] [(.ref sb)]) (fun tQ kQ => ?_) ?_
  · refine XS.icmpNo P.here hx rfl (dc d13_14) rfl (feq (by decide)).1 ?_
    exact XS.aloadN P.here hx rfl (dc d13_17) rfl rfl kQ
  refine P.virtualN hx hZ hown (own_w hw 247 rfl) (own_declares (own_w hw 248 rfl) (own_w hw 251 rfl)) (own_nf (y := (⟨"java/lang/AbstractStringBuilder", "inflate", "()V"⟩ : MethodName)) (y' := (⟨"java/lang/AbstractStringBuilder", "isLatin1", "()Z"⟩ : MethodName)) (own_w hw 122 rfl) rfl) (own_w hw 250 rfl) (own_w hw 248 rfl) (by decide) (OwM.back (W := 0) (rmAf1 l Z a0 hw sb zC h0 n0 Z0 S2 hzC OL E_sb F_coder_sb) hZ (own_w hw 251 rfl) (own_w hw 47 rfl) (own_le rfl) (own_le rfl)) (fun _ _ _ q => q.2) E_sb rfl (by rw [hml]; rfl) (argsL := []) (rest := []) (lenOf pd___V rfl) rfl (own_le rfl) (dc d13_18) rfl (own_le rfl) (own_le rfl) fun T own_v own_L h2 own_e P own_q => ?_
  obtain ⟨⟨rfl, own_hh⟩, -⟩ := own_q
  rw [own_hh] at P
  clear own_e own_hh
  show OwG p e below s _ _ _ _ T (mkF m 21 #[.val (.ref sb), .val (.ref x)] [])
  exact P.retV hx hlk hret (dc d13_21) (own_le rfl) (own_le rfl) ⟨rfl, rfl⟩
set_option maxRecDepth 65536 in
set_option maxHeartbeats 40000000 in
theorem rmIfu (l : Launch) (Z : State) (a0 : Array Value) (hw : ∀ d ∈ tables_1, d.before a0 Z = true) (sb t : Addr) (kt : ClassId) (cs : List Int32) (M pn : Nat) (zC : Int32) (fm : Value) (x : Addr) (h0 : Heap) (n0 : Nat) (Z0 : n0 ≤ h0.size) (SA : Sta Z Z.heap "java/lang/StringUTF16" "$assertionsDisabled" "Z" (.int 1)) (SH : Sta Z Z.heap "java/lang/StringUTF16" "HI_BYTE_SHIFT" "I" (.int 0)) (SL : Sta Z Z.heap "java/lang/StringUTF16" "LO_BYTE_SHIFT" "I" (.int 8)) (SF : Sta Z Z.heap "jdk/internal/util/Preconditions" "SIOOBE_FORMATTER" "Ljava/util/function/BiFunction;" fm) (rf : fm.isRef = true) (S2 : Sta Z Z.heap "java/lang/String" "COMPACT_STRINGS" "Z" (.int zC)) (hzC : ¬ zC = 0) (OL : Old Z n0 h0) (E_sb : Exa Z h0 sb "java/lang/StringBuilder") (F_value_sb : Fld Z h0 sb "java/lang/AbstractStringBuilder" "value" "[B" (.ref t)) (F_coder_sb : Fld Z h0 sb "java/lang/AbstractStringBuilder" "coder" "B" (.int 0)) (F_count_sb : Fld Z h0 sb "java/lang/AbstractStringBuilder" "count" "I" (.int (Int32.ofNat pn))) (F_mb_sb : Fld Z h0 sb "java/lang/AbstractStringBuilder" "maybeLatin1" "Z" (.int 0)) (V_t : Arv Z h0 t kt .byte (Int32.ofNat M) (own_pl cs M) (.int 0)) (hp0 : cs.length = pn) (hpM : pn ≤ M) (hM : M ≤ 140) (h8 : ∀ c ∈ cs, ¬ c < 0 ∧ ¬ (255 : Int32) < c) (g_sb : n0 ≤ sb) (E_x : Exa Z h0 x "java/lang/String") (C_x : Fld Z h0 x "java/lang/String" "coder" "B" (.int 1)) :
    OwM l Z (⟨"java/lang/AbstractStringBuilder", "inflateIfNeededFor", "(Ljava/lang/String;)V"⟩ : MethodName) jdk_68_method_71_code 2 none ({ frames := 6, cells := 1, slots := 280, locals := 89 } : Room) n0 #[(.ref sb), (.ref x)] h0 (fun v h => v = none ∧ Keep h0 h [sb] ∧ ∃ (t2 : Addr) (kt2 : ClassId), h0.size ≤ t2 ∧ Fld Z h sb "java/lang/AbstractStringBuilder" "value" "[B" (.ref t2) ∧ Fld Z h sb "java/lang/AbstractStringBuilder" "coder" "B" (.int 1) ∧ Fld Z h sb "java/lang/AbstractStringBuilder" "count" "I" (.int (Int32.ofNat pn)) ∧ Fld Z h sb "java/lang/AbstractStringBuilder" "maybeLatin1" "Z" (.int 0) ∧ Arv Z h t2 kt2 .byte (Int32.ofNat (2 * M)) (own_pw cs M) (.int 0)) := by
  refine OwM.mk (plainFor_of_name pn_java_lang_AbstractStringBuilder) ?_
  intro p e s m below meth cD T hx hby hml hown hnm hret hlk hZ P
  have dc := @Jvm.hb cD _ hby
  refine OwG.cast (g' := mkF m 0 #[.val (.ref sb), .val (.ref x)] []) (by first | (simp [entryFrame, mkF, argsToLocals, Value.category]; done) | rfl) ?_
  refine P.getS hx hZ hown (host := "") (Or.inl (own_w hw 50 rfl)) Via.refl (S2.ext OL.2) rfl (dc d13_0) fun T P => ?_
  show OwG p e below s _ _ _ _ T (mkF m 3 #[.val (.ref sb), .val (.ref x)] [(.int zC)])
  refine OwG.ac (mkF m 7 #[.val (.ref sb), .val (.ref x)] [(.ref sb)]) (fun tQ kQ => ?_) ?_
  · refine XS.ifNo P.here hx rfl (dc d13_3) rfl ((if0 _ _).trans (feq hzC).1) ?_
    exact XS.aloadN P.here hx rfl (dc d13_6) rfl rfl kQ
  refine P.getF hx hZ hown (host := "") (Or.inl (own_w hw 53 rfl)) Via.refl F_coder_sb rfl rfl (dc d13_7) fun T P => ?_
  show OwG p e below s _ _ _ _ T (mkF m 10 #[.val (.ref sb), .val (.ref x)] [(.int 0)])
  refine OwG.ac (mkF m 11 #[.val (.ref sb), .val (.ref x)] [(.ref x), (.int 0)]) (fun tQ kQ => ?_) ?_
  · exact XS.aloadN P.here hx rfl (dc d13_10) rfl rfl kQ
  refine P.virtual hx hZ hown (own_w hw 84 rfl) (own_w hw 32 rfl) (own_w hw 34 rfl) (own_w hw 33 rfl) (by decide) (OwM.back (W := 1) (rmCod l Z a0 hw x (1 : Int32) zC h0 n0 Z0 S2 hzC OL C_x (by decide)) hZ (own_w hw 35 rfl) (own_w hw 3 rfl) (own_le rfl) (own_le rfl)) (fun _ _ _ q => q.2) E_x rfl (by rw [hml]; rfl) (argsL := []) (rest := [(.int 0)]) (lenOf pd___B rfl) rfl (own_le rfl) (dc d13_11) rfl (own_le rfl) (own_le rfl) fun T own_v own_L h1 own_e P own_q => ?_
  obtain ⟨⟨rfl, own_hh⟩, -⟩ := own_q
  rw [own_hh] at P
  clear own_e own_hh
  show OwG p e below s _ _ _ _ T (mkF m 14 #[.val (.ref sb), .val (.ref x)] [(.int 1), (.int 0)])
  refine OwG.ac (mkF m 18 #[.val (.ref sb), .val (.ref x)] [(.ref sb)]) (fun tQ kQ => ?_) ?_
  · refine XS.icmpNo P.here hx rfl (dc d13_14) rfl (feq (by decide)).1 ?_
    exact XS.aloadN P.here hx rfl (dc d13_17) rfl rfl kQ
  refine P.virtualN hx hZ hown (own_w hw 247 rfl) (own_declares (own_w hw 248 rfl) (own_w hw 251 rfl)) (own_nf (y := (⟨"java/lang/AbstractStringBuilder", "inflate", "()V"⟩ : MethodName)) (y' := (⟨"java/lang/AbstractStringBuilder", "isLatin1", "()Z"⟩ : MethodName)) (own_w hw 122 rfl) rfl) (own_w hw 250 rfl) (own_w hw 248 rfl) (by decide) (OwM.back (W := 0) (rmAf l Z a0 hw sb t kt cs M pn zC fm h0 n0 Z0 SA SH SL SF rf S2 hzC OL E_sb F_value_sb F_coder_sb F_count_sb F_mb_sb V_t hp0 hpM hM h8 g_sb) hZ (own_w hw 251 rfl) (own_w hw 47 rfl) (own_le rfl) (own_le rfl)) (fun _ _ _ q => q.2) E_sb rfl (by rw [hml]; rfl) (argsL := []) (rest := []) (lenOf pd___V rfl) rfl (own_le rfl) (dc d13_18) rfl (own_le rfl) (own_le rfl) fun T own_v own_L h2 own_e P own_q => ?_
  obtain ⟨⟨rfl, own_r⟩, -⟩ := own_q
  show OwG p e below s _ _ _ _ T (mkF m 21 #[.val (.ref sb), .val (.ref x)] [])
  exact P.retV hx hlk hret (dc d13_21) (own_le rfl) (own_le rfl) ⟨rfl, own_r⟩
abbrev bo14 := jdk_42_method_147_code
theorem d14_0 : decode bo14 0 = .ok (.aload_n 0, 1) := by decide +kernel
theorem d14_1 : decode bo14 1 = .ok (.invokevirtual 335, 3) := by decide +kernel
theorem d14_4 : decode bo14 4 = .ok (.iload_n 3, 1) := by decide +kernel
theorem d14_5 : decode bo14 5 = .ok (.if_icmp .ne 23, 3) := by decide +kernel
theorem d14_8 : decode bo14 8 = .ok (.aload_n 0, 1) := by decide +kernel
theorem d14_9 : decode bo14 9 = .ok (.getfield 9, 3) := by decide +kernel
theorem d14_12 : decode bo14 12 = .ok (.iconst 0, 1) := by decide +kernel
theorem d14_13 : decode bo14 13 = .ok (.aload_n 1, 1) := by decide +kernel
theorem d14_14 : decode bo14 14 = .ok (.iload_n 2, 1) := by decide +kernel
theorem d14_15 : decode bo14 15 = .ok (.iload_n 3, 1) := by decide +kernel
theorem d14_16 : decode bo14 16 = .ok (.ishl, 1) := by decide +kernel
theorem d14_17 : decode bo14 17 = .ok (.aload_n 0, 1) := by decide +kernel
theorem d14_18 : decode bo14 18 = .ok (.getfield 9, 3) := by decide +kernel
theorem d14_21 : decode bo14 21 = .ok (.arraylength, 1) := by decide +kernel
theorem d14_22 : decode bo14 22 = .ok (.invokestatic 212, 3) := by decide +kernel
theorem d14_25 : decode bo14 25 = .ok (.goto 18, 3) := by decide +kernel
theorem d14_43 : decode bo14 43 = .ok (.return_, 1) := by decide +kernel
set_option maxRecDepth 65536 in
set_option maxHeartbeats 40000000 in
theorem rmGbL (l : Launch) (Z : State) (a0 : Array Value) (hw : ∀ d ∈ tables_1, d.before a0 Z = true) (x tx d : Addr) (kx kd : ClassId) (cs ds : List Int32) (M pn q : Nat) (zC : Int32) (fm : Value) (h0 : Heap) (n0 : Nat) (Z0 : n0 ≤ h0.size) (SA : Sta Z Z.heap "java/lang/StringUTF16" "$assertionsDisabled" "Z" (.int 1)) (SH : Sta Z Z.heap "java/lang/StringUTF16" "HI_BYTE_SHIFT" "I" (.int 0)) (SL : Sta Z Z.heap "java/lang/StringUTF16" "LO_BYTE_SHIFT" "I" (.int 8)) (SF : Sta Z Z.heap "jdk/internal/util/Preconditions" "SIOOBE_FORMATTER" "Ljava/util/function/BiFunction;" fm) (rf : fm.isRef = true) (S2 : Sta Z Z.heap "java/lang/String" "COMPACT_STRINGS" "Z" (.int zC)) (hzC : ¬ zC = 0) (OL : Old Z n0 h0) (E_x : Exa Z h0 x "java/lang/String") (V_x : Fld Z h0 x "java/lang/String" "value" "[B" (.ref tx)) (C_x : Fld Z h0 x "java/lang/String" "coder" "B" (.int 0)) (A_x : Arv Z h0 tx kx .byte (Int32.ofNat q) (ds.map fun c => Value.int (StrChars.lo8 c)) (.int 0)) (V_d : Arv Z h0 d kd .byte (Int32.ofNat M) (own_pl cs M) (.int 0)) (hp0 : cs.length = pn) (hq0 : ds.length = q) (hpq : pn + q ≤ M) (hM : M ≤ 140) (g_d : n0 ≤ d) (ne_tx_d : tx ≠ d) :
    OwM l Z (⟨"java/lang/String", "getBytes", "([BIB)V"⟩ : MethodName) jdk_42_method_147_code 4 none ({ frames := 1, cells := 0, slots := 0, locals := 18 } : Room) n0 #[(.ref x), (.ref d), (.int (Int32.ofNat pn)), (.int 0)] h0 (fun v h => v = none ∧ Keep h0 h [d] ∧ Arv Z h d kd .byte (Int32.ofNat M) (own_pl (cs ++ ds) M) (.int 0)) := by
  refine OwM.mk (plainFor_of_name pn_java_lang_String) ?_
  intro p e s m below meth cD T hx hby hml hown hnm hret hlk hZ P
  have dc := @Jvm.hb cD _ hby
  refine OwG.cast (g' := mkF m 0 #[.val (.ref x), .val (.ref d), .val (.int (Int32.ofNat pn)), .val (.int 0)] []) (by first | (simp [entryFrame, mkF, argsToLocals, Value.category]; done) | rfl) ?_
  have KP := Keep.refl h0 [d]
  refine OwG.ac (mkF m 1 #[.val (.ref x), .val (.ref d), .val (.int (Int32.ofNat pn)), .val (.int 0)] [(.ref x)]) (fun tQ kQ => ?_) ?_
  · exact XS.aloadN P.here hx rfl (dc d14_0) rfl rfl kQ
  refine P.virtual hx hZ hown (own_w hw 31 rfl) (own_w hw 32 rfl) (own_w hw 34 rfl) (own_w hw 33 rfl) (by decide) (OwM.back (W := 0) (rmCod l Z a0 hw x (0 : Int32) zC h0 n0 Z0 S2 hzC OL C_x (by decide)) hZ (own_w hw 35 rfl) (own_w hw 3 rfl) (own_le rfl) (own_le rfl)) (fun _ _ _ q => q.2) E_x rfl (by rw [hml]; rfl) (argsL := []) (rest := []) (lenOf pd___B rfl) rfl (own_le rfl) (dc d14_1) rfl (own_le rfl) (own_le rfl) fun T own_v own_L h1 own_e P own_q => ?_
  obtain ⟨⟨rfl, own_hh⟩, -⟩ := own_q
  rw [own_hh] at P
  clear own_e own_hh
  show OwG p e below s _ _ _ _ T (mkF m 4 #[.val (.ref x), .val (.ref d), .val (.int (Int32.ofNat pn)), .val (.int 0)] [(.int 0)])
  refine OwG.ac (mkF m 9 #[.val (.ref x), .val (.ref d), .val (.int (Int32.ofNat pn)), .val (.int 0)] [(.ref x)]) (fun tQ kQ => ?_) ?_
  · refine XS.iloadN P.here hx rfl (dc d14_4) rfl ?_
    refine XS.icmpNo P.here hx rfl (dc d14_5) rfl (teq rfl).2 ?_
    exact XS.aloadN P.here hx rfl (dc d14_8) rfl rfl kQ
  refine P.getF hx hZ hown (host := "") (Or.inl (own_w hw 20 rfl)) Via.refl V_x rfl rfl (dc d14_9) fun T P => ?_
  show OwG p e below s _ _ _ _ T (mkF m 12 #[.val (.ref x), .val (.ref d), .val (.int (Int32.ofNat pn)), .val (.int 0)] [(.ref tx)])
  refine OwG.ac (mkF m 17 #[.val (.ref x), .val (.ref d), .val (.int (Int32.ofNat pn)), .val (.int 0)] [(.int ((Int32.ofNat pn) <<< ((0 : Int32) &&& 31))), (.ref d), (.int 0), (.ref tx)]) (fun tQ kQ => ?_) ?_
  · refine XS.iconst P.here hx rfl (dc d14_12) ?_
    refine XS.aloadN P.here hx rfl (dc d14_13) rfl rfl ?_
    refine XS.iloadN P.here hx rfl (dc d14_14) rfl ?_
    refine XS.iloadN P.here hx rfl (dc d14_15) rfl ?_
    exact XS.ishl P.here hx rfl (dc d14_16) rfl kQ
  rw [show ((Int32.ofNat pn) <<< ((0 : Int32) &&& 31)) = (Int32.ofNat pn) from own_shl0 _]
  refine OwG.ac (mkF m 18 #[.val (.ref x), .val (.ref d), .val (.int (Int32.ofNat pn)), .val (.int 0)] [(.ref x), (.int (Int32.ofNat pn)), (.ref d), (.int 0), (.ref tx)]) (fun tQ kQ => ?_) ?_
  · exact XS.aloadN P.here hx rfl (dc d14_17) rfl rfl kQ
  refine P.getF hx hZ hown (host := "") (Or.inl (own_w hw 20 rfl)) Via.refl V_x rfl rfl (dc d14_18) fun T P => ?_
  show OwG p e below s _ _ _ _ T (mkF m 21 #[.val (.ref x), .val (.ref d), .val (.int (Int32.ofNat pn)), .val (.int 0)] [(.ref tx), (.int (Int32.ofNat pn)), (.ref d), (.int 0), (.ref tx)])
  obtain ⟨own_cl, own_A, own_q1, own_S, own_M, own_H, own_U⟩ := id A_x
  obtain ⟨own_L, own_X, own_e, own_N⟩ := id P
  have own_Z := hZ
  refine OwG.ac (mkF m 22 #[.val (.ref x), .val (.ref d), .val (.int (Int32.ofNat pn)), .val (.int 0)] [(.int (Int32.ofNat q)), (.int (Int32.ofNat pn)), (.ref d), (.int 0), (.ref tx)]) (fun tQ kQ => ?_) ?_
  · refine own_X.arraylength hx (by rw [own_e]; exact own_A.1) (State.isArrayOf_alike own_Z.alike own_A.2.1) (g := (mkF m 21 #[.val (.ref x), .val (.ref d), .val (.int (Int32.ofNat pn)), .val (.int 0)] [(.ref tx), (.int (Int32.ofNat pn)), (.ref d), (.int 0), (.ref tx)])) rfl rfl (dc d14_21) _ ?_
    rw [len_of own_S own_M]
    exact kQ
  refine P.cpN hx hZ hown (own_w hw 90 rfl) (own_w hw 93 rfl) (own_w hw 91 rfl) (own_w hw 92 rfl) A_x V_d (N := q) (M := M) (sp := 0) (dp := pn) (nn := q) (r := (own_pl (cs ++ ds) M)) (by omega) (by omega) (by simpa using hq0) (own_pl_len (by omega)) (by omega) (by omega) (own_cpl hp0 hq0 hpq) g_d rfl (by rw [hml]; rfl) rfl (dc d14_22) (own_le rfl) (W := 0) (own_le rfl) (own_le rfl) fun T h2 P K V' => ?_
  replace E_x := E_x.keep K
  replace A_x := A_x.keep K (ninS ne_tx_d nin0)
  replace Z0 := Nat.le_trans Z0 K.1
  replace OL := OL.keep K (allS g_d all0)
  replace KP := KP.trans K (allS (Or.inl (List.mem_of_getElem? (i := 0) rfl)) all0)
  have V_d := V'
  clear K V'
  show OwG p e below s _ _ _ _ T (mkF m 25 #[.val (.ref x), .val (.ref d), .val (.int (Int32.ofNat pn)), .val (.int 0)] [])
  refine OwG.ac (mkF m 43 #[.val (.ref x), .val (.ref d), .val (.int (Int32.ofNat pn)), .val (.int 0)] []) (fun tQ kQ => ?_) ?_
  · exact XS.goto P.here hx rfl (pc0 := 25) (pc' := 43) rfl (dc d14_25) (by decide) (by decide) kQ
  exact P.retV hx hlk hret (dc d14_43) (own_le rfl) (own_le rfl) ⟨rfl, KP, V_d⟩
set_option maxRecDepth 65536 in
set_option maxHeartbeats 40000000 in
theorem rmGbW (l : Launch) (Z : State) (a0 : Array Value) (hw : ∀ d ∈ tables_1, d.before a0 Z = true) (x tx d : Addr) (kx kd : ClassId) (cs ds : List Int32) (M pn q : Nat) (zC : Int32) (fm : Value) (h0 : Heap) (n0 : Nat) (Z0 : n0 ≤ h0.size) (SA : Sta Z Z.heap "java/lang/StringUTF16" "$assertionsDisabled" "Z" (.int 1)) (SH : Sta Z Z.heap "java/lang/StringUTF16" "HI_BYTE_SHIFT" "I" (.int 0)) (SL : Sta Z Z.heap "java/lang/StringUTF16" "LO_BYTE_SHIFT" "I" (.int 8)) (SF : Sta Z Z.heap "jdk/internal/util/Preconditions" "SIOOBE_FORMATTER" "Ljava/util/function/BiFunction;" fm) (rf : fm.isRef = true) (S2 : Sta Z Z.heap "java/lang/String" "COMPACT_STRINGS" "Z" (.int zC)) (hzC : ¬ zC = 0) (OL : Old Z n0 h0) (E_x : Exa Z h0 x "java/lang/String") (V_x : Fld Z h0 x "java/lang/String" "value" "[B" (.ref tx)) (C_x : Fld Z h0 x "java/lang/String" "coder" "B" (.int 1)) (A_x : Arv Z h0 tx kx .byte (Int32.ofNat (2 * q)) (StrChars.Road.wideBytes ds) (.int 0)) (V_d : Arv Z h0 d kd .byte (Int32.ofNat (2 * M)) (own_pw cs M) (.int 0)) (hp0 : cs.length = pn) (hq0 : ds.length = q) (hpq : pn + q ≤ M) (hM : M ≤ 140) (g_d : n0 ≤ d) (ne_tx_d : tx ≠ d) :
    OwM l Z (⟨"java/lang/String", "getBytes", "([BIB)V"⟩ : MethodName) jdk_42_method_147_code 4 none ({ frames := 1, cells := 0, slots := 0, locals := 18 } : Room) n0 #[(.ref x), (.ref d), (.int (Int32.ofNat pn)), (.int 1)] h0 (fun v h => v = none ∧ Keep h0 h [d] ∧ Arv Z h d kd .byte (Int32.ofNat (2 * M)) (own_pw (cs ++ ds) M) (.int 0)) := by
  refine OwM.mk (plainFor_of_name pn_java_lang_String) ?_
  intro p e s m below meth cD T hx hby hml hown hnm hret hlk hZ P
  have dc := @Jvm.hb cD _ hby
  refine OwG.cast (g' := mkF m 0 #[.val (.ref x), .val (.ref d), .val (.int (Int32.ofNat pn)), .val (.int 1)] []) (by first | (simp [entryFrame, mkF, argsToLocals, Value.category]; done) | rfl) ?_
  have KP := Keep.refl h0 [d]
  refine OwG.ac (mkF m 1 #[.val (.ref x), .val (.ref d), .val (.int (Int32.ofNat pn)), .val (.int 1)] [(.ref x)]) (fun tQ kQ => ?_) ?_
  · exact XS.aloadN P.here hx rfl (dc d14_0) rfl rfl kQ
  refine P.virtual hx hZ hown (own_w hw 31 rfl) (own_w hw 32 rfl) (own_w hw 34 rfl) (own_w hw 33 rfl) (by decide) (OwM.back (W := 0) (rmCod l Z a0 hw x (1 : Int32) zC h0 n0 Z0 S2 hzC OL C_x (by decide)) hZ (own_w hw 35 rfl) (own_w hw 3 rfl) (own_le rfl) (own_le rfl)) (fun _ _ _ q => q.2) E_x rfl (by rw [hml]; rfl) (argsL := []) (rest := []) (lenOf pd___B rfl) rfl (own_le rfl) (dc d14_1) rfl (own_le rfl) (own_le rfl) fun T own_v own_L h1 own_e P own_q => ?_
  obtain ⟨⟨rfl, own_hh⟩, -⟩ := own_q
  rw [own_hh] at P
  clear own_e own_hh
  show OwG p e below s _ _ _ _ T (mkF m 4 #[.val (.ref x), .val (.ref d), .val (.int (Int32.ofNat pn)), .val (.int 1)] [(.int 1)])
  refine OwG.ac (mkF m 9 #[.val (.ref x), .val (.ref d), .val (.int (Int32.ofNat pn)), .val (.int 1)] [(.ref x)]) (fun tQ kQ => ?_) ?_
  · refine XS.iloadN P.here hx rfl (dc d14_4) rfl ?_
    refine XS.icmpNo P.here hx rfl (dc d14_5) rfl (teq rfl).2 ?_
    exact XS.aloadN P.here hx rfl (dc d14_8) rfl rfl kQ
  refine P.getF hx hZ hown (host := "") (Or.inl (own_w hw 20 rfl)) Via.refl V_x rfl rfl (dc d14_9) fun T P => ?_
  show OwG p e below s _ _ _ _ T (mkF m 12 #[.val (.ref x), .val (.ref d), .val (.int (Int32.ofNat pn)), .val (.int 1)] [(.ref tx)])
  refine OwG.ac (mkF m 17 #[.val (.ref x), .val (.ref d), .val (.int (Int32.ofNat pn)), .val (.int 1)] [(.int ((Int32.ofNat pn) <<< ((1 : Int32) &&& 31))), (.ref d), (.int 0), (.ref tx)]) (fun tQ kQ => ?_) ?_
  · refine XS.iconst P.here hx rfl (dc d14_12) ?_
    refine XS.aloadN P.here hx rfl (dc d14_13) rfl rfl ?_
    refine XS.iloadN P.here hx rfl (dc d14_14) rfl ?_
    refine XS.iloadN P.here hx rfl (dc d14_15) rfl ?_
    exact XS.ishl P.here hx rfl (dc d14_16) rfl kQ
  rw [show ((Int32.ofNat pn) <<< ((1 : Int32) &&& 31)) = (Int32.ofNat (2 * pn)) from own_shl1 (by omega)]
  refine OwG.ac (mkF m 18 #[.val (.ref x), .val (.ref d), .val (.int (Int32.ofNat pn)), .val (.int 1)] [(.ref x), (.int (Int32.ofNat (2 * pn))), (.ref d), (.int 0), (.ref tx)]) (fun tQ kQ => ?_) ?_
  · exact XS.aloadN P.here hx rfl (dc d14_17) rfl rfl kQ
  refine P.getF hx hZ hown (host := "") (Or.inl (own_w hw 20 rfl)) Via.refl V_x rfl rfl (dc d14_18) fun T P => ?_
  show OwG p e below s _ _ _ _ T (mkF m 21 #[.val (.ref x), .val (.ref d), .val (.int (Int32.ofNat pn)), .val (.int 1)] [(.ref tx), (.int (Int32.ofNat (2 * pn))), (.ref d), (.int 0), (.ref tx)])
  obtain ⟨own_cl, own_A, own_q1, own_S, own_M, own_H, own_U⟩ := id A_x
  obtain ⟨own_L, own_X, own_e, own_N⟩ := id P
  have own_Z := hZ
  refine OwG.ac (mkF m 22 #[.val (.ref x), .val (.ref d), .val (.int (Int32.ofNat pn)), .val (.int 1)] [(.int (Int32.ofNat (2 * q))), (.int (Int32.ofNat (2 * pn))), (.ref d), (.int 0), (.ref tx)]) (fun tQ kQ => ?_) ?_
  · refine own_X.arraylength hx (by rw [own_e]; exact own_A.1) (State.isArrayOf_alike own_Z.alike own_A.2.1) (g := (mkF m 21 #[.val (.ref x), .val (.ref d), .val (.int (Int32.ofNat pn)), .val (.int 1)] [(.ref tx), (.int (Int32.ofNat (2 * pn))), (.ref d), (.int 0), (.ref tx)])) rfl rfl (dc d14_21) _ ?_
    rw [len_of own_S own_M]
    exact kQ
  refine P.cpN hx hZ hown (own_w hw 90 rfl) (own_w hw 93 rfl) (own_w hw 91 rfl) (own_w hw 92 rfl) A_x V_d (N := (2 * q)) (M := (2 * M)) (sp := 0) (dp := (2 * pn)) (nn := (2 * q)) (r := (own_pw (cs ++ ds) M)) (by omega) (by omega) (by rw [own_wlen, hq0]) (own_pw_len (by omega)) (by omega) (by omega) (own_cpw hp0 hq0 hpq) g_d rfl (by rw [hml]; rfl) rfl (dc d14_22) (own_le rfl) (W := 0) (own_le rfl) (own_le rfl) fun T h2 P K V' => ?_
  replace E_x := E_x.keep K
  replace A_x := A_x.keep K (ninS ne_tx_d nin0)
  replace Z0 := Nat.le_trans Z0 K.1
  replace OL := OL.keep K (allS g_d all0)
  replace KP := KP.trans K (allS (Or.inl (List.mem_of_getElem? (i := 0) rfl)) all0)
  have V_d := V'
  clear K V'
  show OwG p e below s _ _ _ _ T (mkF m 25 #[.val (.ref x), .val (.ref d), .val (.int (Int32.ofNat pn)), .val (.int 1)] [])
  refine OwG.ac (mkF m 43 #[.val (.ref x), .val (.ref d), .val (.int (Int32.ofNat pn)), .val (.int 1)] []) (fun tQ kQ => ?_) ?_
  · exact XS.goto P.here hx rfl (pc0 := 25) (pc' := 43) rfl (dc d14_25) (by decide) (by decide) kQ
  exact P.retV hx hlk hret (dc d14_43) (own_le rfl) (own_le rfl) ⟨rfl, KP, V_d⟩
theorem d14_28 : decode bo14 28 = .ok (.aload_n 0, 1) := by decide +kernel
theorem d14_29 : decode bo14 29 = .ok (.getfield 9, 3) := by decide +kernel
theorem d14_32 : decode bo14 32 = .ok (.iconst 0, 1) := by decide +kernel
theorem d14_33 : decode bo14 33 = .ok (.aload_n 1, 1) := by decide +kernel
theorem d14_34 : decode bo14 34 = .ok (.iload_n 2, 1) := by decide +kernel
theorem d14_35 : decode bo14 35 = .ok (.aload_n 0, 1) := by decide +kernel
theorem d14_36 : decode bo14 36 = .ok (.getfield 9, 3) := by decide +kernel
theorem d14_39 : decode bo14 39 = .ok (.arraylength, 1) := by decide +kernel
theorem d14_40 : decode bo14 40 = .ok (.invokestatic 106, 3) := by decide +kernel
set_option maxRecDepth 65536 in
set_option maxHeartbeats 40000000 in
theorem rmGbI (l : Launch) (Z : State) (a0 : Array Value) (hw : ∀ d ∈ tables_1, d.before a0 Z = true) (x tx d : Addr) (kx kd : ClassId) (cs ds : List Int32) (M pn q : Nat) (zC : Int32) (fm : Value) (h0 : Heap) (n0 : Nat) (Z0 : n0 ≤ h0.size) (SA : Sta Z Z.heap "java/lang/StringUTF16" "$assertionsDisabled" "Z" (.int 1)) (SH : Sta Z Z.heap "java/lang/StringUTF16" "HI_BYTE_SHIFT" "I" (.int 0)) (SL : Sta Z Z.heap "java/lang/StringUTF16" "LO_BYTE_SHIFT" "I" (.int 8)) (SF : Sta Z Z.heap "jdk/internal/util/Preconditions" "SIOOBE_FORMATTER" "Ljava/util/function/BiFunction;" fm) (rf : fm.isRef = true) (S2 : Sta Z Z.heap "java/lang/String" "COMPACT_STRINGS" "Z" (.int zC)) (hzC : ¬ zC = 0) (OL : Old Z n0 h0) (E_x : Exa Z h0 x "java/lang/String") (V_x : Fld Z h0 x "java/lang/String" "value" "[B" (.ref tx)) (C_x : Fld Z h0 x "java/lang/String" "coder" "B" (.int 0)) (A_x : Arv Z h0 tx kx .byte (Int32.ofNat q) (ds.map fun c => Value.int (StrChars.lo8 c)) (.int 0)) (V_d : Arv Z h0 d kd .byte (Int32.ofNat (2 * M)) (own_pw cs M) (.int 0)) (hp0 : cs.length = pn) (hq0 : ds.length = q) (hpq : pn + q ≤ M) (hM : M ≤ 140) (g_d : n0 ≤ d) (ne_tx_d : tx ≠ d) (h8 : ∀ c ∈ ds, ¬ c < 0 ∧ ¬ (255 : Int32) < c) :
    OwM l Z (⟨"java/lang/String", "getBytes", "([BIB)V"⟩ : MethodName) jdk_42_method_147_code 4 none ({ frames := 5, cells := 0, slots := 0, locals := 76 } : Room) n0 #[(.ref x), (.ref d), (.int (Int32.ofNat pn)), (.int 1)] h0 (fun v h => v = none ∧ Keep h0 h [d] ∧ Arv Z h d kd .byte (Int32.ofNat (2 * M)) (own_pw (cs ++ ds) M) (.int 0)) := by
  refine OwM.mk (plainFor_of_name pn_java_lang_String) ?_
  intro p e s m below meth cD T hx hby hml hown hnm hret hlk hZ P
  have dc := @Jvm.hb cD _ hby
  refine OwG.cast (g' := mkF m 0 #[.val (.ref x), .val (.ref d), .val (.int (Int32.ofNat pn)), .val (.int 1)] []) (by first | (simp [entryFrame, mkF, argsToLocals, Value.category]; done) | rfl) ?_
  have KP := Keep.refl h0 [d]
  refine OwG.ac (mkF m 1 #[.val (.ref x), .val (.ref d), .val (.int (Int32.ofNat pn)), .val (.int 1)] [(.ref x)]) (fun tQ kQ => ?_) ?_
  · exact XS.aloadN P.here hx rfl (dc d14_0) rfl rfl kQ
  refine P.virtual hx hZ hown (own_w hw 31 rfl) (own_w hw 32 rfl) (own_w hw 34 rfl) (own_w hw 33 rfl) (by decide) (OwM.back (W := 0) (rmCod l Z a0 hw x (0 : Int32) zC h0 n0 Z0 S2 hzC OL C_x (by decide)) hZ (own_w hw 35 rfl) (own_w hw 3 rfl) (own_le rfl) (own_le rfl)) (fun _ _ _ q => q.2) E_x rfl (by rw [hml]; rfl) (argsL := []) (rest := []) (lenOf pd___B rfl) rfl (own_le rfl) (dc d14_1) rfl (own_le rfl) (own_le rfl) fun T own_v own_L h1 own_e P own_q => ?_
  obtain ⟨⟨rfl, own_hh⟩, -⟩ := own_q
  rw [own_hh] at P
  clear own_e own_hh
  show OwG p e below s _ _ _ _ T (mkF m 4 #[.val (.ref x), .val (.ref d), .val (.int (Int32.ofNat pn)), .val (.int 1)] [(.int 0)])
  refine OwG.ac (mkF m 29 #[.val (.ref x), .val (.ref d), .val (.int (Int32.ofNat pn)), .val (.int 1)] [(.ref x)]) (fun tQ kQ => ?_) ?_
  · refine XS.iloadN P.here hx rfl (dc d14_4) rfl ?_
    refine XS.icmpYes P.here hx rfl (pc0 := 5) (pc' := 28) rfl (dc d14_5) rfl (feq (by decide)).2 (by decide) (by decide) ?_
    exact XS.aloadN P.here hx rfl (dc d14_28) rfl rfl kQ
  refine P.getF hx hZ hown (host := "") (Or.inl (own_w hw 20 rfl)) Via.refl V_x rfl rfl (dc d14_29) fun T P => ?_
  show OwG p e below s _ _ _ _ T (mkF m 32 #[.val (.ref x), .val (.ref d), .val (.int (Int32.ofNat pn)), .val (.int 1)] [(.ref tx)])
  refine OwG.ac (mkF m 36 #[.val (.ref x), .val (.ref d), .val (.int (Int32.ofNat pn)), .val (.int 1)] [(.ref x), (.int (Int32.ofNat pn)), (.ref d), (.int 0), (.ref tx)]) (fun tQ kQ => ?_) ?_
  · refine XS.iconst P.here hx rfl (dc d14_32) ?_
    refine XS.aloadN P.here hx rfl (dc d14_33) rfl rfl ?_
    refine XS.iloadN P.here hx rfl (dc d14_34) rfl ?_
    exact XS.aloadN P.here hx rfl (dc d14_35) rfl rfl kQ
  refine P.getF hx hZ hown (host := "") (Or.inl (own_w hw 20 rfl)) Via.refl V_x rfl rfl (dc d14_36) fun T P => ?_
  show OwG p e below s _ _ _ _ T (mkF m 39 #[.val (.ref x), .val (.ref d), .val (.int (Int32.ofNat pn)), .val (.int 1)] [(.ref tx), (.int (Int32.ofNat pn)), (.ref d), (.int 0), (.ref tx)])
  obtain ⟨own_cl, own_A, own_q1, own_S, own_M, own_H, own_U⟩ := id A_x
  obtain ⟨own_L, own_X, own_e, own_N⟩ := id P
  have own_Z := hZ
  refine OwG.ac (mkF m 40 #[.val (.ref x), .val (.ref d), .val (.int (Int32.ofNat pn)), .val (.int 1)] [(.int (Int32.ofNat q)), (.int (Int32.ofNat pn)), (.ref d), (.int 0), (.ref tx)]) (fun tQ kQ => ?_) ?_
  · refine own_X.arraylength hx (by rw [own_e]; exact own_A.1) (State.isArrayOf_alike own_Z.alike own_A.2.1) (g := (mkF m 39 #[.val (.ref x), .val (.ref d), .val (.int (Int32.ofNat pn)), .val (.int 1)] [(.ref tx), (.int (Int32.ofNat pn)), (.ref d), (.int 0), (.ref tx)])) rfl rfl (dc d14_39) _ ?_
    rw [len_of own_S own_M]
    exact kQ
  refine P.stat hx hZ hown (own_w hw 271 rfl) (own_w hw 254 rfl) (own_w hw 161 rfl) (own_w hw 255 rfl) (by decide) (OwM.back (W := 0) (rmLi l Z a0 hw tx d kx kd q M pn q _ cs ds fm h0 n0 Z0 SA SH SL SF rf OL A_x (fun j hj => StrChars.Road.low_at _ _ _ (by omega)) (by omega) (by omega) V_d (by omega) hp0 hq0 hpq h8 g_d ne_tx_d) hZ (own_w hw 255 rfl) (own_w hw 161 rfl) (own_le rfl) (own_le rfl)) (fun _ _ _ q => q.2) rfl (by rw [hml]; rfl) (argsL := [(.ref tx), (.int 0), (.ref d), (.int (Int32.ofNat pn)), (.int (Int32.ofNat q))]) (rest := []) (lenOf pd___BI_BII_V rfl) rfl (own_le rfl) (dc d14_40) rfl (own_le rfl) (own_le rfl) fun T own_v own_L h2 own_e P own_q => ?_
  obtain ⟨⟨rfl, own_r⟩, -⟩ := own_q
  show OwG p e below s _ _ _ _ T (mkF m 43 #[.val (.ref x), .val (.ref d), .val (.int (Int32.ofNat pn)), .val (.int 1)] [])
  exact P.retV hx hlk hret (dc d14_43) (own_le rfl) (own_le rfl) ⟨rfl, own_r⟩
theorem own_an {as bs : List Int32} (h1 : ∀ c ∈ as, ¬ (255 : Int32) < c) (h2 : ∀ c ∈ bs, ¬ (255 : Int32) < c) : ∀ c ∈ as ++ bs, ¬ (255 : Int32) < c := fun c hc => (List.mem_append.mp hc).elim (h1 c) (h2 c)
theorem own_ab {as bs : List Int32} (h1 : ∀ c ∈ as, ¬ c < 0 ∧ ¬ (65535 : Int32) < c) (h2 : ∀ c ∈ bs, ¬ c < 0 ∧ ¬ (65535 : Int32) < c) : ∀ c ∈ as ++ bs, ¬ c < 0 ∧ ¬ (65535 : Int32) < c := fun c hc => (List.mem_append.mp hc).elim (h1 c) (h2 c)
theorem own_al {as bs : List Int32} (h : ∃ c ∈ as, (255 : Int32) < c) : ∃ c ∈ as ++ bs, (255 : Int32) < c := h.elim fun c q => ⟨c, List.mem_append.mpr (Or.inl q.1), q.2⟩
theorem own_ar {as bs : List Int32} (h : ∃ c ∈ bs, (255 : Int32) < c) : ∃ c ∈ as ++ bs, (255 : Int32) < c := h.elim fun c q => ⟨c, List.mem_append.mpr (Or.inr q.1), q.2⟩
theorem own_a8 {as : List Int32} (h1 : ∀ c ∈ as, ¬ c < 0 ∧ ¬ (65535 : Int32) < c) (h2 : ∀ c ∈ as, ¬ (255 : Int32) < c) : ∀ c ∈ as, ¬ c < 0 ∧ ¬ (255 : Int32) < c := fun c hc => ⟨(h1 c hc).1, h2 c hc⟩
abbrev bo12 := jdk_68_method_73_code
theorem d12_0 : decode bo12 0 = .ok (.aload_n 0, 1) := by decide +kernel
theorem d12_1 : decode bo12 1 = .ok (.aload_n 2, 1) := by decide +kernel
theorem d12_2 : decode bo12 2 = .ok (.invokevirtual 397, 3) := by decide +kernel
theorem pd__Ljava_lang_String__V : parseMethodDescriptor "(Ljava/lang/String;)V" = some ⟨[(.object "java/lang/String")], none⟩ := by decide +kernel
theorem d12_5 : decode bo12 5 = .ok (.aload_n 2, 1) := by decide +kernel
theorem d12_6 : decode bo12 6 = .ok (.aload_n 0, 1) := by decide +kernel
theorem d12_7 : decode bo12 7 = .ok (.getfield 15, 3) := by decide +kernel
theorem d12_10 : decode bo12 10 = .ok (.iload_n 1, 1) := by decide +kernel
theorem d12_11 : decode bo12 11 = .ok (.aload_n 0, 1) := by decide +kernel
theorem d12_12 : decode bo12 12 = .ok (.getfield 22, 3) := by decide +kernel
theorem d12_15 : decode bo12 15 = .ok (.invokevirtual 399, 3) := by decide +kernel
theorem pd___BIB_V : parseMethodDescriptor "([BIB)V" = some ⟨[(.array .byte), .int, .byte], none⟩ := by decide +kernel
theorem d12_18 : decode bo12 18 = .ok (.return_, 1) := by decide +kernel
set_option maxRecDepth 65536 in
set_option maxHeartbeats 40000000 in
theorem rmPs (l : Launch) (Z : State) (a0 : Array Value) (hw : ∀ d ∈ tables_1, d.before a0 Z = true) (sb t : Addr) (kt : ClassId) (cs : List Int32) (M pn : Nat) (cd NB : Int32) (vs : List Value) (x tx : Addr) (kx : ClassId) (ds : List Int32) (q : Nat) (cx N2 : Int32) (ws : List Value) (zC : Int32) (fm : Value) (h0 : Heap) (n0 : Nat) (Z0 : n0 ≤ h0.size) (SA : Sta Z Z.heap "java/lang/StringUTF16" "$assertionsDisabled" "Z" (.int 1)) (SH : Sta Z Z.heap "java/lang/StringUTF16" "HI_BYTE_SHIFT" "I" (.int 0)) (SL : Sta Z Z.heap "java/lang/StringUTF16" "LO_BYTE_SHIFT" "I" (.int 8)) (SF : Sta Z Z.heap "jdk/internal/util/Preconditions" "SIOOBE_FORMATTER" "Ljava/util/function/BiFunction;" fm) (rf : fm.isRef = true) (S2 : Sta Z Z.heap "java/lang/String" "COMPACT_STRINGS" "Z" (.int zC)) (hzC : ¬ zC = 0) (OL : Old Z n0 h0) (E_sb : Exa Z h0 sb "java/lang/StringBuilder") (F_value_sb : Fld Z h0 sb "java/lang/AbstractStringBuilder" "value" "[B" (.ref t)) (F_coder_sb : Fld Z h0 sb "java/lang/AbstractStringBuilder" "coder" "B" (.int cd)) (F_count_sb : Fld Z h0 sb "java/lang/AbstractStringBuilder" "count" "I" (.int (Int32.ofNat pn))) (F_mb_sb : Fld Z h0 sb "java/lang/AbstractStringBuilder" "maybeLatin1" "Z" (.int 0)) (V_t : Arv Z h0 t kt .byte NB vs (.int 0)) (hB : own_BC cs M cd NB vs) (hp0 : cs.length = pn) (hpM : pn ≤ M) (hM : M ≤ 140) (g_sb : n0 ≤ sb) (g_t : n0 ≤ t) (E_x : Exa Z h0 x "java/lang/String") (V_x : Fld Z h0 x "java/lang/String" "value" "[B" (.ref tx)) (C_x : Fld Z h0 x "java/lang/String" "coder" "B" (.int cx)) (A_x : Arv Z h0 tx kx .byte N2 ws (.int 0)) (hc : StrChars.Road.CodA ds cx N2 ws) (hq0 : ds.length = q) (hpd : ∀ c ∈ ds, ¬ c < 0 ∧ ¬ (65535 : Int32) < c) (hpc : ∀ c ∈ cs, ¬ c < 0 ∧ ¬ (65535 : Int32) < c) (ne_tx_t : tx ≠ t) (hpq : pn + q ≤ M) :
    OwM l Z (⟨"java/lang/AbstractStringBuilder", "putStringAt", "(ILjava/lang/String;)V"⟩ : MethodName) jdk_68_method_73_code 3 none ({ frames := 7, cells := 1, slots := 280, locals := 102 } : Room) n0 #[(.ref sb), (.int (Int32.ofNat pn)), (.ref x)] h0 (fun v h => v = none ∧ Keep h0 h [sb, t] ∧ ∃ (t2 : Addr) (kt2 : ClassId) (cd2 NB2 : Int32) (vs2 : List Value), (t2 = t ∨ h0.size ≤ t2) ∧ n0 ≤ t2 ∧ Fld Z h sb "java/lang/AbstractStringBuilder" "value" "[B" (.ref t2) ∧ Fld Z h sb "java/lang/AbstractStringBuilder" "coder" "B" (.int cd2) ∧ Fld Z h sb "java/lang/AbstractStringBuilder" "count" "I" (.int (Int32.ofNat pn)) ∧ Fld Z h sb "java/lang/AbstractStringBuilder" "maybeLatin1" "Z" (.int 0) ∧ Arv Z h t2 kt2 .byte NB2 vs2 (.int 0) ∧ own_BC (cs ++ ds) M cd2 NB2 vs2) := by
  refine OwM.mk (plainFor_of_name pn_java_lang_AbstractStringBuilder) ?_
  intro p e s m below meth cD T hx hby hml hown hnm hret hlk hZ P
  have dc := @Jvm.hb cD _ hby
  refine OwG.cast (g' := mkF m 0 #[.val (.ref sb), .val (.int (Int32.ofNat pn)), .val (.ref x)] []) (by first | (simp [entryFrame, mkF, argsToLocals, Value.category]; done) | rfl) ?_
  have KP := Keep.refl h0 [sb, t]
  have ne_sb_t := Exa.neArv E_sb V_t (own_w hw 38 rfl)
  have ne_t_sb := Ne.symm ne_sb_t
  have ne_t_tx := Ne.symm ne_tx_t
  have ne_x_sb := ne_exa E_x E_sb (by decide)
  have ne_sb_x := Ne.symm ne_x_sb
  have ne_sb_tx := Exa.neArv E_sb A_x (own_w hw 38 rfl)
  have ne_tx_sb := Ne.symm ne_sb_tx
  have ne_x_t := Exa.neArv E_x V_t (own_w hw 2 rfl)
  have ne_t_x := Ne.symm ne_x_t
  refine OwG.ac (mkF m 2 #[.val (.ref sb), .val (.int (Int32.ofNat pn)), .val (.ref x)] [(.ref x), (.ref sb)]) (fun tQ kQ => ?_) ?_
  · refine XS.aloadN P.here hx rfl (dc d12_0) rfl rfl ?_
    exact XS.aloadN P.here hx rfl (dc d12_1) rfl rfl kQ
  rcases hB with ⟨rfl, rfl, rfl, ha⟩ | ⟨rfl, rfl, rfl, ha⟩ <;> rcases hc with ⟨rfl, rfl, rfl, hb⟩ | ⟨rfl, rfl, rfl, hb⟩
  ·skip
   rw [hq0] at A_x
   refine P.virtualN hx hZ hown (own_w hw 79 rfl) (own_declares (own_w hw 80 rfl) (own_w hw 83 rfl)) (own_nf (y := (⟨"java/lang/AbstractStringBuilder", "inflateIfNeededFor", "(Ljava/lang/String;)V"⟩ : MethodName)) (y' := (⟨"java/lang/AbstractStringBuilder", "isLatin1", "()Z"⟩ : MethodName)) (own_w hw 122 rfl) rfl) (own_w hw 82 rfl) (own_w hw 80 rfl) (by decide) (OwM.back (W := 0) (rmIfs l Z a0 hw sb x (0 : Int32) zC h0 n0 Z0 S2 hzC OL E_sb F_coder_sb E_x C_x (by decide)) hZ (own_w hw 83 rfl) (own_w hw 47 rfl) (own_le rfl) (own_le rfl)) (fun _ _ _ q => q.2) E_sb rfl (by rw [hml]; rfl) (argsL := [(.ref x)]) (rest := []) (lenOf pd__Ljava_lang_String__V rfl) rfl (own_le rfl) (dc d12_2) rfl (own_le rfl) (own_le rfl) fun T own_v own_L h1 own_e P own_q => ?_
   obtain ⟨⟨rfl, own_hh⟩, -⟩ := own_q
   rw [own_hh] at P
   clear own_e own_hh
   show OwG p e below s _ _ _ _ T (mkF m 5 #[.val (.ref sb), .val (.int (Int32.ofNat pn)), .val (.ref x)] [])
   refine OwG.ac (mkF m 7 #[.val (.ref sb), .val (.int (Int32.ofNat pn)), .val (.ref x)] [(.ref sb), (.ref x)]) (fun tQ kQ => ?_) ?_
   · refine XS.aloadN P.here hx rfl (dc d12_5) rfl rfl ?_
     exact XS.aloadN P.here hx rfl (dc d12_6) rfl rfl kQ
   refine P.getF hx hZ hown (host := "") (Or.inl (own_w hw 51 rfl)) Via.refl F_value_sb rfl rfl (dc d12_7) fun T P => ?_
   show OwG p e below s _ _ _ _ T (mkF m 10 #[.val (.ref sb), .val (.int (Int32.ofNat pn)), .val (.ref x)] [(.ref t), (.ref x)])
   refine OwG.ac (mkF m 12 #[.val (.ref sb), .val (.int (Int32.ofNat pn)), .val (.ref x)] [(.ref sb), (.int (Int32.ofNat pn)), (.ref t), (.ref x)]) (fun tQ kQ => ?_) ?_
   · refine XS.iloadN P.here hx rfl (dc d12_10) rfl ?_
     exact XS.aloadN P.here hx rfl (dc d12_11) rfl rfl kQ
   refine P.getF hx hZ hown (host := "") (Or.inl (own_w hw 53 rfl)) Via.refl F_coder_sb rfl rfl (dc d12_12) fun T P => ?_
   show OwG p e below s _ _ _ _ T (mkF m 15 #[.val (.ref sb), .val (.int (Int32.ofNat pn)), .val (.ref x)] [(.int 0), (.int (Int32.ofNat pn)), (.ref t), (.ref x)])
   refine P.virtual hx hZ hown (own_w hw 85 rfl) (own_w hw 86 rfl) (own_w hw 88 rfl) (own_w hw 87 rfl) (by decide) (OwM.back (W := 0) (rmGbL l Z a0 hw x tx t kx kt cs ds M pn q zC fm h0 n0 Z0 SA SH SL SF rf S2 hzC OL E_x V_x C_x A_x V_t hp0 hq0 hpq hM g_t ne_tx_t) hZ (own_w hw 89 rfl) (own_w hw 3 rfl) (own_le rfl) (own_le rfl)) (fun _ _ _ q => q.2) E_x rfl (by rw [hml]; rfl) (argsL := [(.ref t), (.int (Int32.ofNat pn)), (.int 0)]) (rest := []) (lenOf pd___BIB_V rfl) rfl (own_le rfl) (dc d12_15) rfl (own_le rfl) (own_le rfl) fun T own_v own_L h2 own_e P own_q => ?_
   obtain ⟨⟨rfl, K, V_n⟩, -⟩ := own_q
   clear own_e
   replace E_sb := E_sb.keep K
   replace F_value_sb := F_value_sb.keep K (ninS ne_sb_t nin0)
   replace F_coder_sb := F_coder_sb.keep K (ninS ne_sb_t nin0)
   replace F_count_sb := F_count_sb.keep K (ninS ne_sb_t nin0)
   replace F_mb_sb := F_mb_sb.keep K (ninS ne_sb_t nin0)
   replace E_x := E_x.keep K
   replace V_x := V_x.keep K (ninS ne_x_t nin0)
   replace C_x := C_x.keep K (ninS ne_x_t nin0)
   replace A_x := A_x.keep K (ninS ne_tx_t nin0)
   replace Z0 := Nat.le_trans Z0 K.1
   replace OL := OL.keep K (allS g_t all0)
   replace KP := KP.trans K (allS (Or.inl (List.mem_of_getElem? (i := 1) rfl)) all0)
   show OwG p e below s _ _ _ _ T (mkF m 18 #[.val (.ref sb), .val (.int (Int32.ofNat pn)), .val (.ref x)] [])
   exact P.retV hx hlk hret (dc d12_18) (own_le rfl) (own_le rfl) ⟨rfl, KP, t, kt, _, _, _, Or.inl rfl, g_t, F_value_sb, F_coder_sb, F_count_sb, F_mb_sb, V_n, Or.inl ⟨rfl, rfl, rfl, own_an ha hb⟩⟩
  ·skip
   rw [hq0] at A_x
   refine P.virtualN hx hZ hown (own_w hw 79 rfl) (own_declares (own_w hw 80 rfl) (own_w hw 83 rfl)) (own_nf (y := (⟨"java/lang/AbstractStringBuilder", "inflateIfNeededFor", "(Ljava/lang/String;)V"⟩ : MethodName)) (y' := (⟨"java/lang/AbstractStringBuilder", "isLatin1", "()Z"⟩ : MethodName)) (own_w hw 122 rfl) rfl) (own_w hw 82 rfl) (own_w hw 80 rfl) (by decide) (OwM.back (W := 0) (rmIfu l Z a0 hw sb t kt cs M pn zC fm x h0 n0 Z0 SA SH SL SF rf S2 hzC OL E_sb F_value_sb F_coder_sb F_count_sb F_mb_sb V_t hp0 hpM hM (own_a8 hpc ha) g_sb E_x C_x) hZ (own_w hw 83 rfl) (own_w hw 47 rfl) (own_le rfl) (own_le rfl)) (fun _ _ _ q => q.2) E_sb rfl (by rw [hml]; rfl) (argsL := [(.ref x)]) (rest := []) (lenOf pd__Ljava_lang_String__V rfl) rfl (own_le rfl) (dc d12_2) rfl (own_le rfl) (own_le rfl) fun T own_v own_L h3 own_e P own_q => ?_
   obtain ⟨⟨rfl, K, t2, kt2, sz2, F_value_sb, F_coder_sb, F_count_sb, F_mb_sb, V_t2⟩, -⟩ := own_q
   show OwG p e below s _ _ _ _ T (mkF m 5 #[.val (.ref sb), .val (.int (Int32.ofNat pn)), .val (.ref x)] [])
   clear own_e
   have ne_sb_t2 : sb ≠ t2 := Nat.ne_of_lt (Nat.lt_of_lt_of_le E_sb.lt sz2)
   have ne_t2_sb := Ne.symm ne_sb_t2
   have ne_t_t2 : t ≠ t2 := Nat.ne_of_lt (Nat.lt_of_lt_of_le V_t.lt sz2)
   have ne_t2_t := Ne.symm ne_t_t2
   have ne_x_t2 : x ≠ t2 := Nat.ne_of_lt (Nat.lt_of_lt_of_le E_x.lt sz2)
   have ne_t2_x := Ne.symm ne_x_t2
   have ne_tx_t2 : tx ≠ t2 := Nat.ne_of_lt (Nat.lt_of_lt_of_le A_x.lt sz2)
   have ne_t2_tx := Ne.symm ne_tx_t2
   have g_t2 : n0 ≤ t2 := Nat.le_trans Z0 sz2
   have sz_t2 : h0.size ≤ t2 := Nat.le_trans KP.1 sz2
   replace E_sb := E_sb.keep K
   replace V_t := V_t.keep K (ninS ne_t_sb nin0)
   replace E_x := E_x.keep K
   replace V_x := V_x.keep K (ninS ne_x_sb nin0)
   replace C_x := C_x.keep K (ninS ne_x_sb nin0)
   replace A_x := A_x.keep K (ninS ne_tx_sb nin0)
   replace Z0 := Nat.le_trans Z0 K.1
   replace OL := OL.keep K (allS g_sb all0)
   replace KP := KP.trans K (allS (Or.inl (List.mem_of_getElem? (i := 0) rfl)) all0)
   refine OwG.ac (mkF m 7 #[.val (.ref sb), .val (.int (Int32.ofNat pn)), .val (.ref x)] [(.ref sb), (.ref x)]) (fun tQ kQ => ?_) ?_
   · refine XS.aloadN P.here hx rfl (dc d12_5) rfl rfl ?_
     exact XS.aloadN P.here hx rfl (dc d12_6) rfl rfl kQ
   refine P.getF hx hZ hown (host := "") (Or.inl (own_w hw 51 rfl)) Via.refl F_value_sb rfl rfl (dc d12_7) fun T P => ?_
   show OwG p e below s _ _ _ _ T (mkF m 10 #[.val (.ref sb), .val (.int (Int32.ofNat pn)), .val (.ref x)] [(.ref t2), (.ref x)])
   refine OwG.ac (mkF m 12 #[.val (.ref sb), .val (.int (Int32.ofNat pn)), .val (.ref x)] [(.ref sb), (.int (Int32.ofNat pn)), (.ref t2), (.ref x)]) (fun tQ kQ => ?_) ?_
   · refine XS.iloadN P.here hx rfl (dc d12_10) rfl ?_
     exact XS.aloadN P.here hx rfl (dc d12_11) rfl rfl kQ
   refine P.getF hx hZ hown (host := "") (Or.inl (own_w hw 53 rfl)) Via.refl F_coder_sb rfl rfl (dc d12_12) fun T P => ?_
   show OwG p e below s _ _ _ _ T (mkF m 15 #[.val (.ref sb), .val (.int (Int32.ofNat pn)), .val (.ref x)] [(.int 1), (.int (Int32.ofNat pn)), (.ref t2), (.ref x)])
   refine P.virtual hx hZ hown (own_w hw 85 rfl) (own_w hw 86 rfl) (own_w hw 88 rfl) (own_w hw 87 rfl) (by decide) (OwM.back (W := 0) (rmGbW l Z a0 hw x tx t2 kx kt2 cs ds M pn q zC fm h3 n0 Z0 SA SH SL SF rf S2 hzC OL E_x V_x C_x A_x V_t2 hp0 hq0 hpq hM g_t2 ne_tx_t2) hZ (own_w hw 89 rfl) (own_w hw 3 rfl) (own_le rfl) (own_le rfl)) (fun _ _ _ q => q.2) E_x rfl (by rw [hml]; rfl) (argsL := [(.ref t2), (.int (Int32.ofNat pn)), (.int 1)]) (rest := []) (lenOf pd___BIB_V rfl) rfl (own_le rfl) (dc d12_15) rfl (own_le rfl) (own_le rfl) fun T own_v own_L h4 own_e P own_q => ?_
   obtain ⟨⟨rfl, K, V_n⟩, -⟩ := own_q
   clear own_e
   replace E_sb := E_sb.keep K
   replace V_t := V_t.keep K (ninS ne_t_t2 nin0)
   replace E_x := E_x.keep K
   replace V_x := V_x.keep K (ninS ne_x_t2 nin0)
   replace C_x := C_x.keep K (ninS ne_x_t2 nin0)
   replace A_x := A_x.keep K (ninS ne_tx_t2 nin0)
   replace F_value_sb := F_value_sb.keep K (ninS ne_sb_t2 nin0)
   replace F_coder_sb := F_coder_sb.keep K (ninS ne_sb_t2 nin0)
   replace F_count_sb := F_count_sb.keep K (ninS ne_sb_t2 nin0)
   replace F_mb_sb := F_mb_sb.keep K (ninS ne_sb_t2 nin0)
   replace Z0 := Nat.le_trans Z0 K.1
   replace OL := OL.keep K (allS g_t2 all0)
   replace KP := KP.trans K (allS (Or.inr sz_t2) all0)
   show OwG p e below s _ _ _ _ T (mkF m 18 #[.val (.ref sb), .val (.int (Int32.ofNat pn)), .val (.ref x)] [])
   exact P.retV hx hlk hret (dc d12_18) (own_le rfl) (own_le rfl) ⟨rfl, KP, t2, kt2, _, _, _, Or.inr sz2, g_t2, F_value_sb, F_coder_sb, F_count_sb, F_mb_sb, V_n, Or.inr ⟨rfl, rfl, rfl, own_ar hb⟩⟩
  ·skip
   rw [hq0] at A_x
   refine P.virtualN hx hZ hown (own_w hw 79 rfl) (own_declares (own_w hw 80 rfl) (own_w hw 83 rfl)) (own_nf (y := (⟨"java/lang/AbstractStringBuilder", "inflateIfNeededFor", "(Ljava/lang/String;)V"⟩ : MethodName)) (y' := (⟨"java/lang/AbstractStringBuilder", "isLatin1", "()Z"⟩ : MethodName)) (own_w hw 122 rfl) rfl) (own_w hw 82 rfl) (own_w hw 80 rfl) (by decide) (OwM.back (W := 0) (rmIfd l Z a0 hw sb x zC h0 n0 Z0 S2 hzC OL E_sb F_coder_sb E_x C_x) hZ (own_w hw 83 rfl) (own_w hw 47 rfl) (own_le rfl) (own_le rfl)) (fun _ _ _ q => q.2) E_sb rfl (by rw [hml]; rfl) (argsL := [(.ref x)]) (rest := []) (lenOf pd__Ljava_lang_String__V rfl) rfl (own_le rfl) (dc d12_2) rfl (own_le rfl) (own_le rfl) fun T own_v own_L h5 own_e P own_q => ?_
   obtain ⟨⟨rfl, own_hh⟩, -⟩ := own_q
   rw [own_hh] at P
   clear own_e own_hh
   show OwG p e below s _ _ _ _ T (mkF m 5 #[.val (.ref sb), .val (.int (Int32.ofNat pn)), .val (.ref x)] [])
   refine OwG.ac (mkF m 7 #[.val (.ref sb), .val (.int (Int32.ofNat pn)), .val (.ref x)] [(.ref sb), (.ref x)]) (fun tQ kQ => ?_) ?_
   · refine XS.aloadN P.here hx rfl (dc d12_5) rfl rfl ?_
     exact XS.aloadN P.here hx rfl (dc d12_6) rfl rfl kQ
   refine P.getF hx hZ hown (host := "") (Or.inl (own_w hw 51 rfl)) Via.refl F_value_sb rfl rfl (dc d12_7) fun T P => ?_
   show OwG p e below s _ _ _ _ T (mkF m 10 #[.val (.ref sb), .val (.int (Int32.ofNat pn)), .val (.ref x)] [(.ref t), (.ref x)])
   refine OwG.ac (mkF m 12 #[.val (.ref sb), .val (.int (Int32.ofNat pn)), .val (.ref x)] [(.ref sb), (.int (Int32.ofNat pn)), (.ref t), (.ref x)]) (fun tQ kQ => ?_) ?_
   · refine XS.iloadN P.here hx rfl (dc d12_10) rfl ?_
     exact XS.aloadN P.here hx rfl (dc d12_11) rfl rfl kQ
   refine P.getF hx hZ hown (host := "") (Or.inl (own_w hw 53 rfl)) Via.refl F_coder_sb rfl rfl (dc d12_12) fun T P => ?_
   show OwG p e below s _ _ _ _ T (mkF m 15 #[.val (.ref sb), .val (.int (Int32.ofNat pn)), .val (.ref x)] [(.int 1), (.int (Int32.ofNat pn)), (.ref t), (.ref x)])
   refine P.virtual hx hZ hown (own_w hw 85 rfl) (own_w hw 86 rfl) (own_w hw 88 rfl) (own_w hw 87 rfl) (by decide) (OwM.back (W := 0) (rmGbI l Z a0 hw x tx t kx kt cs ds M pn q zC fm h0 n0 Z0 SA SH SL SF rf S2 hzC OL E_x V_x C_x A_x V_t hp0 hq0 hpq hM g_t ne_tx_t (own_a8 hpd hb)) hZ (own_w hw 89 rfl) (own_w hw 3 rfl) (own_le rfl) (own_le rfl)) (fun _ _ _ q => q.2) E_x rfl (by rw [hml]; rfl) (argsL := [(.ref t), (.int (Int32.ofNat pn)), (.int 1)]) (rest := []) (lenOf pd___BIB_V rfl) rfl (own_le rfl) (dc d12_15) rfl (own_le rfl) (own_le rfl) fun T own_v own_L h6 own_e P own_q => ?_
   obtain ⟨⟨rfl, K, V_n⟩, -⟩ := own_q
   clear own_e
   replace E_sb := E_sb.keep K
   replace F_value_sb := F_value_sb.keep K (ninS ne_sb_t nin0)
   replace F_coder_sb := F_coder_sb.keep K (ninS ne_sb_t nin0)
   replace F_count_sb := F_count_sb.keep K (ninS ne_sb_t nin0)
   replace F_mb_sb := F_mb_sb.keep K (ninS ne_sb_t nin0)
   replace E_x := E_x.keep K
   replace V_x := V_x.keep K (ninS ne_x_t nin0)
   replace C_x := C_x.keep K (ninS ne_x_t nin0)
   replace A_x := A_x.keep K (ninS ne_tx_t nin0)
   replace Z0 := Nat.le_trans Z0 K.1
   replace OL := OL.keep K (allS g_t all0)
   replace KP := KP.trans K (allS (Or.inl (List.mem_of_getElem? (i := 1) rfl)) all0)
   show OwG p e below s _ _ _ _ T (mkF m 18 #[.val (.ref sb), .val (.int (Int32.ofNat pn)), .val (.ref x)] [])
   exact P.retV hx hlk hret (dc d12_18) (own_le rfl) (own_le rfl) ⟨rfl, KP, t, kt, _, _, _, Or.inl rfl, g_t, F_value_sb, F_coder_sb, F_count_sb, F_mb_sb, V_n, Or.inr ⟨rfl, rfl, rfl, own_al ha⟩⟩
  ·skip
   rw [hq0] at A_x
   refine P.virtualN hx hZ hown (own_w hw 79 rfl) (own_declares (own_w hw 80 rfl) (own_w hw 83 rfl)) (own_nf (y := (⟨"java/lang/AbstractStringBuilder", "inflateIfNeededFor", "(Ljava/lang/String;)V"⟩ : MethodName)) (y' := (⟨"java/lang/AbstractStringBuilder", "isLatin1", "()Z"⟩ : MethodName)) (own_w hw 122 rfl) rfl) (own_w hw 82 rfl) (own_w hw 80 rfl) (by decide) (OwM.back (W := 0) (rmIfs l Z a0 hw sb x (1 : Int32) zC h0 n0 Z0 S2 hzC OL E_sb F_coder_sb E_x C_x (by decide)) hZ (own_w hw 83 rfl) (own_w hw 47 rfl) (own_le rfl) (own_le rfl)) (fun _ _ _ q => q.2) E_sb rfl (by rw [hml]; rfl) (argsL := [(.ref x)]) (rest := []) (lenOf pd__Ljava_lang_String__V rfl) rfl (own_le rfl) (dc d12_2) rfl (own_le rfl) (own_le rfl) fun T own_v own_L h7 own_e P own_q => ?_
   obtain ⟨⟨rfl, own_hh⟩, -⟩ := own_q
   rw [own_hh] at P
   clear own_e own_hh
   show OwG p e below s _ _ _ _ T (mkF m 5 #[.val (.ref sb), .val (.int (Int32.ofNat pn)), .val (.ref x)] [])
   refine OwG.ac (mkF m 7 #[.val (.ref sb), .val (.int (Int32.ofNat pn)), .val (.ref x)] [(.ref sb), (.ref x)]) (fun tQ kQ => ?_) ?_
   · refine XS.aloadN P.here hx rfl (dc d12_5) rfl rfl ?_
     exact XS.aloadN P.here hx rfl (dc d12_6) rfl rfl kQ
   refine P.getF hx hZ hown (host := "") (Or.inl (own_w hw 51 rfl)) Via.refl F_value_sb rfl rfl (dc d12_7) fun T P => ?_
   show OwG p e below s _ _ _ _ T (mkF m 10 #[.val (.ref sb), .val (.int (Int32.ofNat pn)), .val (.ref x)] [(.ref t), (.ref x)])
   refine OwG.ac (mkF m 12 #[.val (.ref sb), .val (.int (Int32.ofNat pn)), .val (.ref x)] [(.ref sb), (.int (Int32.ofNat pn)), (.ref t), (.ref x)]) (fun tQ kQ => ?_) ?_
   · refine XS.iloadN P.here hx rfl (dc d12_10) rfl ?_
     exact XS.aloadN P.here hx rfl (dc d12_11) rfl rfl kQ
   refine P.getF hx hZ hown (host := "") (Or.inl (own_w hw 53 rfl)) Via.refl F_coder_sb rfl rfl (dc d12_12) fun T P => ?_
   show OwG p e below s _ _ _ _ T (mkF m 15 #[.val (.ref sb), .val (.int (Int32.ofNat pn)), .val (.ref x)] [(.int 1), (.int (Int32.ofNat pn)), (.ref t), (.ref x)])
   refine P.virtual hx hZ hown (own_w hw 85 rfl) (own_w hw 86 rfl) (own_w hw 88 rfl) (own_w hw 87 rfl) (by decide) (OwM.back (W := 0) (rmGbW l Z a0 hw x tx t kx kt cs ds M pn q zC fm h0 n0 Z0 SA SH SL SF rf S2 hzC OL E_x V_x C_x A_x V_t hp0 hq0 hpq hM g_t ne_tx_t) hZ (own_w hw 89 rfl) (own_w hw 3 rfl) (own_le rfl) (own_le rfl)) (fun _ _ _ q => q.2) E_x rfl (by rw [hml]; rfl) (argsL := [(.ref t), (.int (Int32.ofNat pn)), (.int 1)]) (rest := []) (lenOf pd___BIB_V rfl) rfl (own_le rfl) (dc d12_15) rfl (own_le rfl) (own_le rfl) fun T own_v own_L h8 own_e P own_q => ?_
   obtain ⟨⟨rfl, K, V_n⟩, -⟩ := own_q
   clear own_e
   replace E_sb := E_sb.keep K
   replace F_value_sb := F_value_sb.keep K (ninS ne_sb_t nin0)
   replace F_coder_sb := F_coder_sb.keep K (ninS ne_sb_t nin0)
   replace F_count_sb := F_count_sb.keep K (ninS ne_sb_t nin0)
   replace F_mb_sb := F_mb_sb.keep K (ninS ne_sb_t nin0)
   replace E_x := E_x.keep K
   replace V_x := V_x.keep K (ninS ne_x_t nin0)
   replace C_x := C_x.keep K (ninS ne_x_t nin0)
   replace A_x := A_x.keep K (ninS ne_tx_t nin0)
   replace Z0 := Nat.le_trans Z0 K.1
   replace OL := OL.keep K (allS g_t all0)
   replace KP := KP.trans K (allS (Or.inl (List.mem_of_getElem? (i := 1) rfl)) all0)
   show OwG p e below s _ _ _ _ T (mkF m 18 #[.val (.ref sb), .val (.int (Int32.ofNat pn)), .val (.ref x)] [])
   exact P.retV hx hlk hret (dc d12_18) (own_le rfl) (own_le rfl) ⟨rfl, KP, t, kt, _, _, _, Or.inl rfl, g_t, F_value_sb, F_coder_sb, F_count_sb, F_mb_sb, V_n, Or.inr ⟨rfl, rfl, rfl, own_al ha⟩⟩
abbrev bo10 := jdk_68_method_22_code
theorem d10_0 : decode bo10 0 = .ok (.aload_n 1, 1) := by decide +kernel
theorem d10_1 : decode bo10 1 = .ok (.ifnonnull 8, 3) := by decide +kernel
theorem d10_9 : decode bo10 9 = .ok (.aload_n 1, 1) := by decide +kernel
theorem d10_10 : decode bo10 10 = .ok (.invokevirtual 32, 3) := by decide +kernel
theorem pd___I : parseMethodDescriptor "()I" = some ⟨[], some .int⟩ := by decide +kernel
theorem d10_13 : decode bo10 13 = .ok (.istore_n 2, 1) := by decide +kernel
theorem d10_14 : decode bo10 14 = .ok (.aload_n 0, 1) := by decide +kernel
theorem d10_15 : decode bo10 15 = .ok (.aload_n 0, 1) := by decide +kernel
theorem d10_16 : decode bo10 16 = .ok (.getfield 79, 3) := by decide +kernel
theorem d10_19 : decode bo10 19 = .ok (.iload_n 2, 1) := by decide +kernel
theorem d10_20 : decode bo10 20 = .ok (.iadd, 1) := by decide +kernel
theorem d10_21 : decode bo10 21 = .ok (.invokevirtual 100, 3) := by decide +kernel
theorem d10_24 : decode bo10 24 = .ok (.aload_n 0, 1) := by decide +kernel
theorem d10_25 : decode bo10 25 = .ok (.aload_n 0, 1) := by decide +kernel
theorem d10_26 : decode bo10 26 = .ok (.getfield 79, 3) := by decide +kernel
theorem d10_29 : decode bo10 29 = .ok (.aload_n 1, 1) := by decide +kernel
theorem d10_30 : decode bo10 30 = .ok (.invokevirtual 208, 3) := by decide +kernel
theorem pd__ILjava_lang_String__V : parseMethodDescriptor "(ILjava/lang/String;)V" = some ⟨[.int, (.object "java/lang/String")], none⟩ := by decide +kernel
theorem d10_33 : decode bo10 33 = .ok (.aload_n 0, 1) := by decide +kernel
theorem d10_34 : decode bo10 34 = .ok (.dup, 1) := by decide +kernel
theorem d10_35 : decode bo10 35 = .ok (.getfield 79, 3) := by decide +kernel
theorem d10_38 : decode bo10 38 = .ok (.iload_n 2, 1) := by decide +kernel
theorem d10_39 : decode bo10 39 = .ok (.iadd, 1) := by decide +kernel
theorem d10_40 : decode bo10 40 = .ok (.putfield 79, 3) := by decide +kernel
theorem d10_43 : decode bo10 43 = .ok (.aload_n 0, 1) := by decide +kernel
theorem d10_44 : decode bo10 44 = .ok (.areturn, 1) := by decide +kernel
set_option maxRecDepth 65536 in
set_option maxHeartbeats 40000000 in
theorem rmAs (l : Launch) (Z : State) (a0 : Array Value) (hw : ∀ d ∈ tables_1, d.before a0 Z = true) (sb t : Addr) (kt : ClassId) (cs : List Int32) (M pn : Nat) (cd NB : Int32) (vs : List Value) (x tx : Addr) (kx : ClassId) (ds : List Int32) (q : Nat) (cx N2 : Int32) (ws : List Value) (zC : Int32) (fm : Value) (h0 : Heap) (n0 : Nat) (Z0 : n0 ≤ h0.size) (SA : Sta Z Z.heap "java/lang/StringUTF16" "$assertionsDisabled" "Z" (.int 1)) (SH : Sta Z Z.heap "java/lang/StringUTF16" "HI_BYTE_SHIFT" "I" (.int 0)) (SL : Sta Z Z.heap "java/lang/StringUTF16" "LO_BYTE_SHIFT" "I" (.int 8)) (SF : Sta Z Z.heap "jdk/internal/util/Preconditions" "SIOOBE_FORMATTER" "Ljava/util/function/BiFunction;" fm) (rf : fm.isRef = true) (S2 : Sta Z Z.heap "java/lang/String" "COMPACT_STRINGS" "Z" (.int zC)) (hzC : ¬ zC = 0) (OL : Old Z n0 h0) (E_sb : Exa Z h0 sb "java/lang/StringBuilder") (F_value_sb : Fld Z h0 sb "java/lang/AbstractStringBuilder" "value" "[B" (.ref t)) (F_coder_sb : Fld Z h0 sb "java/lang/AbstractStringBuilder" "coder" "B" (.int cd)) (F_count_sb : Fld Z h0 sb "java/lang/AbstractStringBuilder" "count" "I" (.int (Int32.ofNat pn))) (F_mb_sb : Fld Z h0 sb "java/lang/AbstractStringBuilder" "maybeLatin1" "Z" (.int 0)) (V_t : Arv Z h0 t kt .byte NB vs (.int 0)) (hB : own_BC cs M cd NB vs) (hp0 : cs.length = pn) (hpM : pn ≤ M) (hM : M ≤ 140) (g_sb : n0 ≤ sb) (g_t : n0 ≤ t) (E_x : Exa Z h0 x "java/lang/String") (V_x : Fld Z h0 x "java/lang/String" "value" "[B" (.ref tx)) (C_x : Fld Z h0 x "java/lang/String" "coder" "B" (.int cx)) (A_x : Arv Z h0 tx kx .byte N2 ws (.int 0)) (hc : StrChars.Road.CodA ds cx N2 ws) (hq0 : ds.length = q) (hpd : ∀ c ∈ ds, ¬ c < 0 ∧ ¬ (65535 : Int32) < c) (hpc : ∀ c ∈ cs, ¬ c < 0 ∧ ¬ (65535 : Int32) < c) (ne_tx_t : tx ≠ t) (hM0 : 0 < M) (hk4 : pn + q ≤ 140) (hkb : own_cap M (pn + q) ≤ 140) :
    OwM l Z (⟨"java/lang/AbstractStringBuilder", "append", "(Ljava/lang/String;)Ljava/lang/AbstractStringBuilder;"⟩ : MethodName) jdk_68_method_22_code 3 (some (.object "java/lang/AbstractStringBuilder")) ({ frames := 8, cells := 2, slots := 560, locals := 116 } : Room) n0 #[(.ref sb), (.ref x)] h0 (fun v h => v = some (.ref sb) ∧ Keep h0 h [sb, t] ∧ ∃ (t2 : Addr) (kt2 : ClassId) (cd2 NB2 : Int32) (vs2 : List Value), (t2 = t ∨ h0.size ≤ t2) ∧ n0 ≤ t2 ∧ Fld Z h sb "java/lang/AbstractStringBuilder" "value" "[B" (.ref t2) ∧ Fld Z h sb "java/lang/AbstractStringBuilder" "coder" "B" (.int cd2) ∧ Fld Z h sb "java/lang/AbstractStringBuilder" "count" "I" (.int (Int32.ofNat (pn + q))) ∧ Fld Z h sb "java/lang/AbstractStringBuilder" "maybeLatin1" "Z" (.int 0) ∧ Arv Z h t2 kt2 .byte NB2 vs2 (.int 0) ∧ own_BC (cs ++ ds) (own_cap M (pn + q)) cd2 NB2 vs2) := by
  refine OwM.mk (plainFor_of_name pn_java_lang_AbstractStringBuilder) ?_
  intro p e s m below meth cD T hx hby hml hown hnm hret hlk hZ P
  have dc := @Jvm.hb cD _ hby
  refine OwG.cast (g' := mkF m 0 #[.val (.ref sb), .val (.ref x), .unset] []) (by first | (simp [entryFrame, mkF, argsToLocals, Value.category]; done) | rfl) ?_
  have KP := Keep.refl h0 [sb, t]
  have ne_sb_t := Exa.neArv E_sb V_t (own_w hw 38 rfl)
  have ne_t_sb := Ne.symm ne_sb_t
  have ne_t_tx := Ne.symm ne_tx_t
  have ne_x_sb := ne_exa E_x E_sb (by decide)
  have ne_sb_x := Ne.symm ne_x_sb
  have ne_sb_tx := Exa.neArv E_sb A_x (own_w hw 38 rfl)
  have ne_tx_sb := Ne.symm ne_sb_tx
  have ne_x_t := Exa.neArv E_x V_t (own_w hw 2 rfl)
  have ne_t_x := Ne.symm ne_x_t
  refine OwG.ac (mkF m 10 #[.val (.ref sb), .val (.ref x), .unset] [(.ref x)]) (fun tQ kQ => ?_) ?_
  · refine XS.aloadN P.here hx rfl (dc d10_0) rfl rfl ?_
    refine XS.ifnonnullYes P.here hx rfl (pc0 := 1) (pc' := 9) rfl (dc d10_1) rfl (by decide) (by decide) ?_
    exact XS.aloadN P.here hx rfl (dc d10_9) rfl rfl kQ
  refine P.virtual hx hZ hown (own_w hw 66 rfl) (own_w hw 27 rfl) (own_w hw 29 rfl) (own_w hw 28 rfl) (by decide) (own_lenB (W := 0) hZ hw E_x V_x C_x A_x hc hpd (S2.ext OL.2) hzC hq0 (by omega) (own_le rfl) (own_le rfl)) (fun _ _ _ q => q.2.2) E_x rfl (by rw [hml]; rfl) (argsL := []) (rest := []) (lenOf pd___I rfl) rfl (own_le rfl) (dc d10_10) rfl (own_le rfl) (own_le rfl) fun T own_v own_L h1 own_e P own_q => ?_
  obtain ⟨rfl, own_hh, -⟩ := own_q
  rw [own_hh] at P
  clear own_e own_hh
  show OwG p e below s _ _ _ _ T (mkF m 13 #[.val (.ref sb), .val (.ref x), .unset] [(.int (Int32.ofNat q))])
  refine OwG.ac (mkF m 16 #[.val (.ref sb), .val (.ref x), .val (.int (Int32.ofNat q))] [(.ref sb), (.ref sb)]) (fun tQ kQ => ?_) ?_
  · refine XS.istoreN P.here hx rfl (dc d10_13) rfl (l' := #[.val (.ref sb), .val (.ref x), .val (.int (Int32.ofNat q))]) rfl ?_
    refine XS.aloadN P.here hx rfl (dc d10_14) rfl rfl ?_
    exact XS.aloadN P.here hx rfl (dc d10_15) rfl rfl kQ
  refine P.getF hx hZ hown (host := "") (Or.inl (own_w hw 67 rfl)) Via.refl F_count_sb rfl rfl (dc d10_16) fun T P => ?_
  show OwG p e below s _ _ _ _ T (mkF m 19 #[.val (.ref sb), .val (.ref x), .val (.int (Int32.ofNat q))] [(.int (Int32.ofNat pn)), (.ref sb)])
  refine OwG.ac (mkF m 21 #[.val (.ref sb), .val (.ref x), .val (.int (Int32.ofNat q))] [(.int ((Int32.ofNat pn) + (Int32.ofNat q))), (.ref sb)]) (fun tQ kQ => ?_) ?_
  · refine XS.iloadN P.here hx rfl (dc d10_19) rfl ?_
    exact XS.iadd P.here hx rfl (dc d10_20) rfl kQ
  rw [show ((Int32.ofNat pn) + (Int32.ofNat q)) = (Int32.ofNat (pn + q)) from own_addn _ _]
  refine P.virtualN hx hZ hown (own_w hw 69 rfl) (own_declares (own_w hw 70 rfl) (own_w hw 73 rfl)) (own_nf (y := (⟨"java/lang/AbstractStringBuilder", "ensureCapacityInternal", "(I)V"⟩ : MethodName)) (y' := (⟨"java/lang/AbstractStringBuilder", "isLatin1", "()Z"⟩ : MethodName)) (own_w hw 122 rfl) rfl) (own_w hw 72 rfl) (own_w hw 70 rfl) (by decide) (OwM.back (W := 0) (rmEc l Z a0 hw sb t kt cs M pn cd NB vs (pn + q) h0 n0 Z0 OL E_sb F_value_sb F_coder_sb F_count_sb F_mb_sb V_t hB hp0 hpM hM g_sb g_t hM0 hk4 hkb) hZ (own_w hw 73 rfl) (own_w hw 47 rfl) (own_le rfl) (own_le rfl)) (fun _ _ _ q => q.2) E_sb rfl (by rw [hml]; rfl) (argsL := [(.int (Int32.ofNat (pn + q)))]) (rest := []) (lenOf pd__I_V rfl) rfl (own_le rfl) (dc d10_21) rfl (own_le rfl) (own_le rfl) fun T own_v own_L h2 own_e P own_q => ?_
  obtain ⟨⟨rfl, K, t1, kt1, NB_t1, vs_t1, h_t1, g_t1, F_value_sb, F_coder_sb, F_count_sb, F_mb_sb, V_t1, hB_t1⟩, -⟩ := own_q
  show OwG p e below s _ _ _ _ T (mkF m 24 #[.val (.ref sb), .val (.ref x), .val (.int (Int32.ofNat q))] [])
  clear own_e
  have ne_sb_t1 : sb ≠ t1 := own_nx E_sb.lt ne_sb_t h_t1
  have ne_t1_sb := Ne.symm ne_sb_t1
  have ne_x_t1 : x ≠ t1 := own_nx E_x.lt ne_x_t h_t1
  have ne_t1_x := Ne.symm ne_x_t1
  have ne_tx_t1 : tx ≠ t1 := own_nx A_x.lt ne_tx_t h_t1
  have ne_t1_tx := Ne.symm ne_tx_t1
  have q_t1 : t1 = t ∨ h0.size ≤ t1 := own_qt h_t1 (Or.inl rfl : t = t ∨ h0.size ≤ t) KP.1
  have kp_t1 := own_kp (sb := sb) q_t1
  replace E_sb := E_sb.keep K
  replace E_x := E_x.keep K
  replace V_x := V_x.keep K (ninS ne_x_sb nin0)
  replace C_x := C_x.keep K (ninS ne_x_sb nin0)
  replace A_x := A_x.keep K (ninS ne_tx_sb nin0)
  replace Z0 := Nat.le_trans Z0 K.1
  replace OL := OL.keep K (allS g_sb all0)
  replace KP := KP.trans K (allS (Or.inl (List.mem_of_getElem? (i := 0) rfl)) all0)
  have own_g := own_cap_ge (M := M) (k := pn + q)
  refine OwG.ac (mkF m 26 #[.val (.ref sb), .val (.ref x), .val (.int (Int32.ofNat q))] [(.ref sb), (.ref sb)]) (fun tQ kQ => ?_) ?_
  · refine XS.aloadN P.here hx rfl (dc d10_24) rfl rfl ?_
    exact XS.aloadN P.here hx rfl (dc d10_25) rfl rfl kQ
  refine P.getF hx hZ hown (host := "") (Or.inl (own_w hw 67 rfl)) Via.refl F_count_sb rfl rfl (dc d10_26) fun T P => ?_
  show OwG p e below s _ _ _ _ T (mkF m 29 #[.val (.ref sb), .val (.ref x), .val (.int (Int32.ofNat q))] [(.int (Int32.ofNat pn)), (.ref sb)])
  refine OwG.ac (mkF m 30 #[.val (.ref sb), .val (.ref x), .val (.int (Int32.ofNat q))] [(.ref x), (.int (Int32.ofNat pn)), (.ref sb)]) (fun tQ kQ => ?_) ?_
  · exact XS.aloadN P.here hx rfl (dc d10_29) rfl rfl kQ
  refine P.virtualN hx hZ hown (own_w hw 74 rfl) (own_declares (own_w hw 75 rfl) (own_w hw 78 rfl)) (own_nf (y := (⟨"java/lang/AbstractStringBuilder", "putStringAt", "(ILjava/lang/String;)V"⟩ : MethodName)) (y' := (⟨"java/lang/AbstractStringBuilder", "isLatin1", "()Z"⟩ : MethodName)) (own_w hw 122 rfl) rfl) (own_w hw 77 rfl) (own_w hw 75 rfl) (by decide) (OwM.back (W := 0) (rmPs l Z a0 hw sb t1 kt1 cs (own_cap M (pn + q)) pn cd NB_t1 vs_t1 x tx kx ds q cx N2 ws zC fm h2 n0 Z0 SA SH SL SF rf S2 hzC OL E_sb F_value_sb F_coder_sb F_count_sb F_mb_sb V_t1 hB_t1 hp0 (by omega) (by omega) g_sb g_t1 E_x V_x C_x A_x hc hq0 hpd hpc ne_tx_t1 (by omega)) hZ (own_w hw 78 rfl) (own_w hw 47 rfl) (own_le rfl) (own_le rfl)) (fun _ _ _ q => q.2) E_sb rfl (by rw [hml]; rfl) (argsL := [(.int (Int32.ofNat pn)), (.ref x)]) (rest := []) (lenOf pd__ILjava_lang_String__V rfl) rfl (own_le rfl) (dc d10_30) rfl (own_le rfl) (own_le rfl) fun T own_v own_L h3 own_e P own_q => ?_
  obtain ⟨⟨rfl, K, t2, kt2, cd2, NB_t2, vs_t2, h_t2, g_t2, F_value_sb, F_coder_sb, F_count_sb, F_mb_sb, V_t2, hB_t2⟩, -⟩ := own_q
  show OwG p e below s _ _ _ _ T (mkF m 33 #[.val (.ref sb), .val (.ref x), .val (.int (Int32.ofNat q))] [])
  clear own_e
  have ne_sb_t2 : sb ≠ t2 := own_nx E_sb.lt ne_sb_t1 h_t2
  have ne_t2_sb := Ne.symm ne_sb_t2
  have ne_x_t2 : x ≠ t2 := own_nx E_x.lt ne_x_t1 h_t2
  have ne_t2_x := Ne.symm ne_x_t2
  have ne_tx_t2 : tx ≠ t2 := own_nx A_x.lt ne_tx_t1 h_t2
  have ne_t2_tx := Ne.symm ne_tx_t2
  have q_t2 : t2 = t ∨ h0.size ≤ t2 := own_qt h_t2 q_t1 KP.1
  have kp_t2 := own_kp (sb := sb) q_t2
  replace E_sb := E_sb.keep K
  replace E_x := E_x.keep K
  replace V_x := V_x.keep K (ninS ne_x_sb (ninS ne_x_t1 nin0))
  replace C_x := C_x.keep K (ninS ne_x_sb (ninS ne_x_t1 nin0))
  replace A_x := A_x.keep K (ninS ne_tx_sb (ninS ne_tx_t1 nin0))
  replace Z0 := Nat.le_trans Z0 K.1
  replace OL := OL.keep K (allS g_sb (allS g_t1 all0))
  replace KP := KP.trans K (allS (Or.inl (List.mem_of_getElem? (i := 0) rfl)) (allS kp_t1 all0))
  refine OwG.ac (mkF m 35 #[.val (.ref sb), .val (.ref x), .val (.int (Int32.ofNat q))] [(.ref sb), (.ref sb)]) (fun tQ kQ => ?_) ?_
  · refine XS.aloadN P.here hx rfl (dc d10_33) rfl rfl ?_
    exact XS.dup P.here hx rfl (dc d10_34) rfl rfl kQ
  refine P.getF hx hZ hown (host := "") (Or.inl (own_w hw 67 rfl)) Via.refl F_count_sb rfl rfl (dc d10_35) fun T P => ?_
  show OwG p e below s _ _ _ _ T (mkF m 38 #[.val (.ref sb), .val (.ref x), .val (.int (Int32.ofNat q))] [(.int (Int32.ofNat pn)), (.ref sb)])
  refine OwG.ac (mkF m 40 #[.val (.ref sb), .val (.ref x), .val (.int (Int32.ofNat q))] [(.int ((Int32.ofNat pn) + (Int32.ofNat q))), (.ref sb)]) (fun tQ kQ => ?_) ?_
  · refine XS.iloadN P.here hx rfl (dc d10_38) rfl ?_
    exact XS.iadd P.here hx rfl (dc d10_39) rfl kQ
  rw [show ((Int32.ofNat pn) + (Int32.ofNat q)) = (Int32.ofNat (pn + q)) from own_addn _ _]
  refine P.putF hx hZ hown (host := "") (Or.inl (own_w hw 67 rfl)) Via.refl F_count_sb E_sb (Or.inl (own_w hw 68 rfl)) (own_w hw 38 rfl) (ty := .int) (by decide) rfl rfl rfl rfl (dc d10_40) g_sb fun T h4 P W => ?_
  replace E_sb := E_sb.wr W
  replace E_x := E_x.wr W
  replace V_x := V_x.other W (Or.inl ne_x_sb)
  replace C_x := C_x.other W (Or.inl ne_x_sb)
  replace A_x := A_x.other W ne_tx_sb
  replace F_value_sb := F_value_sb.other W (Or.inr (slot_ne (Or.inl (own_w hw 52 rfl)) (Or.inl (own_w hw 68 rfl)) (by decide) (t := (.array .byte)) (t' := .int) (by decide) (by decide)))
  replace F_coder_sb := F_coder_sb.other W (Or.inr (slot_ne (Or.inl (own_w hw 54 rfl)) (Or.inl (own_w hw 68 rfl)) (by decide) (t := .byte) (t' := .int) (by decide) (by decide)))
  replace F_count_sb := F_count_sb.same W
  replace F_mb_sb := F_mb_sb.other W (Or.inr (slot_ne (Or.inl (own_w hw 273 rfl)) (Or.inl (own_w hw 68 rfl)) (by decide) (t := .boolean) (t' := .int) (by decide) (by decide)))
  replace V_t2 := V_t2.other W ne_t2_sb
  replace Z0 := Nat.le_trans Z0 (Keep.of_wr W).1
  replace OL := OL.wr W g_sb
  replace KP := KP.wr W (Or.inl (List.mem_of_getElem? (i := 0) rfl))
  clear W
  show OwG p e below s _ _ _ _ T (mkF m 43 #[.val (.ref sb), .val (.ref x), .val (.int (Int32.ofNat q))] [])
  refine OwG.ac (mkF m 44 #[.val (.ref sb), .val (.ref x), .val (.int (Int32.ofNat q))] [(.ref sb)]) (fun tQ kQ => ?_) ?_
  · exact XS.aloadN P.here hx rfl (dc d10_43) rfl rfl kQ
  exact P.retR hx hlk hret rfl rfl (dc d10_44) (own_le rfl) (own_le rfl) ⟨rfl, KP, t2, kt2, cd2, NB_t2, vs_t2, q_t2, g_t2, F_value_sb, F_coder_sb, F_count_sb, F_mb_sb, V_t2, hB_t2⟩
abbrev bo9 := jdk_67_method_7_code
theorem d9_0 : decode bo9 0 = .ok (.aload_n 0, 1) := by decide +kernel
theorem d9_1 : decode bo9 1 = .ok (.aload_n 1, 1) := by decide +kernel
theorem d9_2 : decode bo9 2 = .ok (.invokespecial 29, 3) := by decide +kernel
theorem pd__Ljava_lang_String__Ljava_lang_AbstractStringBuilder_ : parseMethodDescriptor "(Ljava/lang/String;)Ljava/lang/AbstractStringBuilder;" = some ⟨[(.object "java/lang/String")], some (.object "java/lang/AbstractStringBuilder")⟩ := by decide +kernel
theorem d9_5 : decode bo9 5 = .ok (.pop, 1) := by decide +kernel
theorem d9_6 : decode bo9 6 = .ok (.aload_n 0, 1) := by decide +kernel
theorem d9_7 : decode bo9 7 = .ok (.areturn, 1) := by decide +kernel
set_option maxRecDepth 65536 in
set_option maxHeartbeats 40000000 in
theorem rmBs (l : Launch) (Z : State) (a0 : Array Value) (hw : ∀ d ∈ tables_1, d.before a0 Z = true) (sb t : Addr) (kt : ClassId) (cs : List Int32) (M pn : Nat) (cd NB : Int32) (vs : List Value) (x tx : Addr) (kx : ClassId) (ds : List Int32) (q : Nat) (cx N2 : Int32) (ws : List Value) (zC : Int32) (fm : Value) (h0 : Heap) (n0 : Nat) (Z0 : n0 ≤ h0.size) (SA : Sta Z Z.heap "java/lang/StringUTF16" "$assertionsDisabled" "Z" (.int 1)) (SH : Sta Z Z.heap "java/lang/StringUTF16" "HI_BYTE_SHIFT" "I" (.int 0)) (SL : Sta Z Z.heap "java/lang/StringUTF16" "LO_BYTE_SHIFT" "I" (.int 8)) (SF : Sta Z Z.heap "jdk/internal/util/Preconditions" "SIOOBE_FORMATTER" "Ljava/util/function/BiFunction;" fm) (rf : fm.isRef = true) (S2 : Sta Z Z.heap "java/lang/String" "COMPACT_STRINGS" "Z" (.int zC)) (hzC : ¬ zC = 0) (OL : Old Z n0 h0) (E_sb : Exa Z h0 sb "java/lang/StringBuilder") (F_value_sb : Fld Z h0 sb "java/lang/AbstractStringBuilder" "value" "[B" (.ref t)) (F_coder_sb : Fld Z h0 sb "java/lang/AbstractStringBuilder" "coder" "B" (.int cd)) (F_count_sb : Fld Z h0 sb "java/lang/AbstractStringBuilder" "count" "I" (.int (Int32.ofNat pn))) (F_mb_sb : Fld Z h0 sb "java/lang/AbstractStringBuilder" "maybeLatin1" "Z" (.int 0)) (V_t : Arv Z h0 t kt .byte NB vs (.int 0)) (hB : own_BC cs M cd NB vs) (hp0 : cs.length = pn) (hpM : pn ≤ M) (hM : M ≤ 140) (g_sb : n0 ≤ sb) (g_t : n0 ≤ t) (E_x : Exa Z h0 x "java/lang/String") (V_x : Fld Z h0 x "java/lang/String" "value" "[B" (.ref tx)) (C_x : Fld Z h0 x "java/lang/String" "coder" "B" (.int cx)) (A_x : Arv Z h0 tx kx .byte N2 ws (.int 0)) (hc : StrChars.Road.CodA ds cx N2 ws) (hq0 : ds.length = q) (hpd : ∀ c ∈ ds, ¬ c < 0 ∧ ¬ (65535 : Int32) < c) (hpc : ∀ c ∈ cs, ¬ c < 0 ∧ ¬ (65535 : Int32) < c) (ne_tx_t : tx ≠ t) (hM0 : 0 < M) (hk4 : pn + q ≤ 140) (hkb : own_cap M (pn + q) ≤ 140) :
    OwM l Z (⟨"java/lang/StringBuilder", "append", "(Ljava/lang/String;)Ljava/lang/StringBuilder;"⟩ : MethodName) jdk_67_method_7_code 2 (some (.object "java/lang/StringBuilder")) ({ frames := 9, cells := 2, slots := 560, locals := 130 } : Room) n0 #[(.ref sb), (.ref x)] h0 (fun v h => v = some (.ref sb) ∧ Keep h0 h [sb, t] ∧ ∃ (t2 : Addr) (kt2 : ClassId) (cd2 NB2 : Int32) (vs2 : List Value), (t2 = t ∨ h0.size ≤ t2) ∧ n0 ≤ t2 ∧ Fld Z h sb "java/lang/AbstractStringBuilder" "value" "[B" (.ref t2) ∧ Fld Z h sb "java/lang/AbstractStringBuilder" "coder" "B" (.int cd2) ∧ Fld Z h sb "java/lang/AbstractStringBuilder" "count" "I" (.int (Int32.ofNat (pn + q))) ∧ Fld Z h sb "java/lang/AbstractStringBuilder" "maybeLatin1" "Z" (.int 0) ∧ Arv Z h t2 kt2 .byte NB2 vs2 (.int 0) ∧ own_BC (cs ++ ds) (own_cap M (pn + q)) cd2 NB2 vs2) := by
  refine OwM.mk (plainFor_of_name pn_java_lang_StringBuilder) ?_
  intro p e s m below meth cD T hx hby hml hown hnm hret hlk hZ P
  have dc := @Jvm.hb cD _ hby
  refine OwG.cast (g' := mkF m 0 #[.val (.ref sb), .val (.ref x)] []) (by first | (simp [entryFrame, mkF, argsToLocals, Value.category]; done) | rfl) ?_
  refine OwG.ac (mkF m 2 #[.val (.ref sb), .val (.ref x)] [(.ref x), (.ref sb)]) (fun tQ kQ => ?_) ?_
  · refine XS.aloadN P.here hx rfl (dc d9_0) rfl rfl ?_
    exact XS.aloadN P.here hx rfl (dc d9_1) rfl rfl kQ
  refine P.superc hx hZ hown (own_w hw 61 rfl) (own_same (y := (⟨"java/lang/AbstractStringBuilder", "append", "(Ljava/lang/String;)Ljava/lang/AbstractStringBuilder;"⟩ : MethodName)) (y' := (⟨"java/lang/AbstractStringBuilder", "isLatin1", "()Z"⟩ : MethodName)) (own_w hw 62 rfl) (own_w hw 122 rfl) rfl (by decide)) (own_w hw 62 rfl) (own_w hw 63 rfl) (by decide) (OwM.back (W := 0) (rmAs l Z a0 hw sb t kt cs M pn cd NB vs x tx kx ds q cx N2 ws zC fm h0 n0 Z0 SA SH SL SF rf S2 hzC OL E_sb F_value_sb F_coder_sb F_count_sb F_mb_sb V_t hB hp0 hpM hM g_sb g_t E_x V_x C_x A_x hc hq0 hpd hpc ne_tx_t hM0 hk4 hkb) hZ (own_w hw 65 rfl) (own_w hw 47 rfl) (own_le rfl) (own_le rfl)) (fun _ _ _ q => q.2) E_sb rfl (by rw [hml]; rfl) (own_w hw 65 rfl) (argsL := [(.ref x)]) (rest := []) (lenOf pd__Ljava_lang_String__Ljava_lang_AbstractStringBuilder_ rfl) rfl (own_le rfl) (dc d9_2) rfl (own_le rfl) (own_le rfl) fun T own_v own_L h1 own_e P own_q => ?_
  obtain ⟨⟨rfl, own_r⟩, -⟩ := own_q
  show OwG p e below s _ _ _ _ T (mkF m 5 #[.val (.ref sb), .val (.ref x)] [(.ref sb)])
  refine OwG.ac (mkF m 7 #[.val (.ref sb), .val (.ref x)] [(.ref sb)]) (fun tQ kQ => ?_) ?_
  · refine XS.pop P.here hx rfl (dc d9_5) rfl rfl ?_
    exact XS.aloadN P.here hx rfl (dc d9_6) rfl rfl kQ
  exact P.retR hx hlk hret rfl rfl (dc d9_7) (own_le rfl) (own_le rfl) ⟨rfl, own_r⟩
abbrev bo44 := jdk_33_method_13_code
theorem d44_0 : decode bo44 0 = .ok (.iconst 1, 1) := by decide +kernel
theorem d44_1 : decode bo44 1 = .ok (.istore_n 1, 1) := by decide +kernel
theorem d44_2 : decode bo44 2 = .ok (.iload_n 0, 1) := by decide +kernel
theorem d44_3 : decode bo44 3 = .ok (.ifCond .lt 8, 3) := by decide +kernel
theorem d44_6 : decode bo44 6 = .ok (.iconst 0, 1) := by decide +kernel
theorem d44_7 : decode bo44 7 = .ok (.istore_n 1, 1) := by decide +kernel
theorem d44_8 : decode bo44 8 = .ok (.iload_n 0, 1) := by decide +kernel
theorem d44_9 : decode bo44 9 = .ok (.ineg, 1) := by decide +kernel
theorem d44_10 : decode bo44 10 = .ok (.istore_n 0, 1) := by decide +kernel
theorem d44_11 : decode bo44 11 = .ok (.bipush (-10), 2) := by decide +kernel
theorem d44_13 : decode bo44 13 = .ok (.istore_n 2, 1) := by decide +kernel
theorem d44_14 : decode bo44 14 = .ok (.iconst 1, 1) := by decide +kernel
theorem d44_15 : decode bo44 15 = .ok (.istore_n 3, 1) := by decide +kernel
theorem d44_16 : decode bo44 16 = .ok (.iload_n 3, 1) := by decide +kernel
theorem d44_17 : decode bo44 17 = .ok (.bipush 10, 2) := by decide +kernel
theorem d44_19 : decode bo44 19 = .ok (.if_icmp .ge 23, 3) := by decide +kernel
theorem d44_22 : decode bo44 22 = .ok (.iload_n 0, 1) := by decide +kernel
theorem d44_23 : decode bo44 23 = .ok (.iload_n 2, 1) := by decide +kernel
theorem d44_24 : decode bo44 24 = .ok (.if_icmp .le 7, 3) := by decide +kernel
theorem d44_31 : decode bo44 31 = .ok (.bipush 10, 2) := by decide +kernel
theorem d44_33 : decode bo44 33 = .ok (.iload_n 2, 1) := by decide +kernel
theorem d44_34 : decode bo44 34 = .ok (.imul, 1) := by decide +kernel
theorem d44_35 : decode bo44 35 = .ok (.istore_n 2, 1) := by decide +kernel
theorem d44_36 : decode bo44 36 = .ok (.iinc 3 1, 3) := by decide +kernel
theorem d44_39 : decode bo44 39 = .ok (.goto (-23), 3) := by decide +kernel
theorem d44_27 : decode bo44 27 = .ok (.iload_n 3, 1) := by decide +kernel
theorem d44_28 : decode bo44 28 = .ok (.iload_n 1, 1) := by decide +kernel
theorem d44_29 : decode bo44 29 = .ok (.iadd, 1) := by decide +kernel
theorem d44_30 : decode bo44 30 = .ok (.ireturn, 1) := by decide +kernel
theorem pn_java_lang_Integer : plainName "java/lang/Integer" = true := by first | (simp [plainName, overriddenIn]; done) | decide +kernel
set_option maxRecDepth 65536 in
set_option maxHeartbeats 40000000 in
theorem rmSz (l : Launch) (Z : State) (a0 : Array Value) (hw : ∀ d ∈ tables_1, d.before a0 Z = true) (z : Int32) (h0 : Heap) (n0 : Nat) (Z0 : n0 ≤ h0.size) (hz : z = 65 ∨ z = 66 ∨ z = 67) :
    OwM l Z (⟨"java/lang/Integer", "stringSize", "(I)I"⟩ : MethodName) jdk_33_method_13_code 4 (some .int) ({ frames := 0, cells := 0, slots := 0, locals := 0 } : Room) n0 #[(.int z)] h0 (fun v h => v = some (.int 2) ∧ h = h0) := by
  refine OwM.mk (plainFor_of_name pn_java_lang_Integer) ?_
  intro p e s m below meth cD T hx hby hml hown hnm hret hlk hZ P
  have dc := @Jvm.hb cD _ hby
  refine OwG.cast (g' := mkF m 0 #[.val (.int z), .unset, .unset, .unset] []) (by first | (simp [entryFrame, mkF, argsToLocals, Value.category]; done) | rfl) ?_
  refine OwG.ac (mkF m 30 #[.val (.int (-z)), .val (.int 0), .val (.int ((10 : Int32) * (-10 : Int32))), .val (.int ((1 : Int32) + (1 : Int32)))] [(.int (((1 : Int32) + (1 : Int32)) + (0 : Int32)))]) (fun tQ kQ => ?_) ?_
  · refine XS.iconst P.here hx rfl (dc d44_0) ?_
    refine XS.istoreN P.here hx rfl (dc d44_1) rfl (l' := #[.val (.int z), .val (.int 1), .unset, .unset]) rfl ?_
    refine XS.iloadN P.here hx rfl (dc d44_2) rfl ?_
    refine XS.ifNo P.here hx rfl (dc d44_3) rfl ((if0 _ _).trans (flt (by rcases hz with rfl | rfl | rfl <;> decide)).1) ?_
    refine XS.iconst P.here hx rfl (dc d44_6) ?_
    refine XS.istoreN P.here hx rfl (dc d44_7) rfl (l' := #[.val (.int z), .val (.int 0), .unset, .unset]) rfl ?_
    refine XS.iloadN P.here hx rfl (dc d44_8) rfl ?_
    refine XS.ineg P.here hx rfl (dc d44_9) rfl ?_
    refine XS.istoreN P.here hx rfl (dc d44_10) rfl (l' := #[.val (.int (-z)), .val (.int 0), .unset, .unset]) rfl ?_
    refine XS.bipush P.here hx rfl (dc d44_11) ?_
    refine XS.istoreN P.here hx rfl (dc d44_13) rfl (l' := #[.val (.int (-z)), .val (.int 0), .val (.int (-10 : Int32)), .unset]) rfl ?_
    refine XS.iconst P.here hx rfl (dc d44_14) ?_
    refine XS.istoreN P.here hx rfl (dc d44_15) rfl (l' := #[.val (.int (-z)), .val (.int 0), .val (.int (-10 : Int32)), .val (.int 1)]) rfl ?_
    refine XS.iloadN P.here hx rfl (dc d44_16) rfl ?_
    refine XS.bipush P.here hx rfl (dc d44_17) ?_
    refine XS.icmpNo P.here hx rfl (dc d44_19) rfl (tlt (by decide)).2.1 ?_
    refine XS.iloadN P.here hx rfl (dc d44_22) rfl ?_
    refine XS.iloadN P.here hx rfl (dc d44_23) rfl ?_
    refine XS.icmpYes P.here hx rfl (pc0 := 24) (pc' := 31) rfl (dc d44_24) rfl (flt (by rcases hz with rfl | rfl | rfl <;> decide)).2.2.2 (by decide) (by decide) ?_
    refine XS.bipush P.here hx rfl (dc d44_31) ?_
    refine XS.iloadN P.here hx rfl (dc d44_33) rfl ?_
    refine XS.imul P.here hx rfl (dc d44_34) rfl ?_
    refine XS.istoreN P.here hx rfl (dc d44_35) rfl (l' := #[.val (.int (-z)), .val (.int 0), .val (.int ((10 : Int32) * (-10 : Int32))), .val (.int 1)]) rfl ?_
    refine XS.iinc P.here hx rfl (dc d44_36) rfl (l' := #[.val (.int (-z)), .val (.int 0), .val (.int ((10 : Int32) * (-10 : Int32))), .val (.int ((1 : Int32) + (1 : Int32)))]) rfl ?_
    refine XS.goto P.here hx rfl (pc0 := 39) (pc' := 16) rfl (dc d44_39) (by decide) (by decide) ?_
    refine XS.iloadN P.here hx rfl (dc d44_16) rfl ?_
    refine XS.bipush P.here hx rfl (dc d44_17) ?_
    refine XS.icmpNo P.here hx rfl (dc d44_19) rfl (tlt (by decide)).2.1 ?_
    refine XS.iloadN P.here hx rfl (dc d44_22) rfl ?_
    refine XS.iloadN P.here hx rfl (dc d44_23) rfl ?_
    refine XS.icmpNo P.here hx rfl (dc d44_24) rfl (tlt (by rcases hz with rfl | rfl | rfl <;> decide)).2.2.2 ?_
    refine XS.iloadN P.here hx rfl (dc d44_27) rfl ?_
    refine XS.iloadN P.here hx rfl (dc d44_28) rfl ?_
    exact XS.iadd P.here hx rfl (dc d44_29) rfl kQ
  rw [show (((1 : Int32) + (1 : Int32)) + (0 : Int32)) = (2 : Int32) from by decide]
  exact P.retI hx hlk hret (dc d44_30) (own_le rfl) (own_le rfl) ⟨rfl, rfl⟩
theorem own_gz1 {z : Int32} {d : Value} (hz : z = 65 ∨ z = 66 ∨ z = 67) : own_g1.getD z.toNatClampNeg d = .int (own_dz z) := by
  rcases hz with rfl | rfl | rfl
  · exact own_gat (cs := own_i1) (i := 65) (by decide) (by decide +kernel) (by decide +kernel)
  · exact own_gat (cs := own_i1) (i := 66) (by decide) (by decide +kernel) (by decide +kernel)
  · exact own_gat (cs := own_i1) (i := 67) (by decide) (by decide +kernel) (by decide +kernel)
theorem own_gz2 {z : Int32} {d : Value} (hz : z = 65 ∨ z = 66 ∨ z = 67) : own_g2.getD z.toNatClampNeg d = .int (54 : Int32) := by
  rcases hz with rfl | rfl | rfl
  · exact own_gat (cs := own_i2) (i := 65) (by decide) (by decide +kernel) (by decide +kernel)
  · exact own_gat (cs := own_i2) (i := 66) (by decide) (by decide +kernel) (by decide +kernel)
  · exact own_gat (cs := own_i2) (i := 67) (by decide) (by decide +kernel) (by decide +kernel)
theorem own_neg2 {z : Int32} (hz : z = 65 ∨ z = 66 ∨ z = 67) : -(-z) = z := by rcases hz with rfl | rfl | rfl <;> decide
abbrev bo45 := jdk_33_method_12_code
theorem d45_0 : decode bo45 0 = .ok (.iload_n 1, 1) := by decide +kernel
theorem d45_1 : decode bo45 1 = .ok (.istore 5, 2) := by decide +kernel
theorem d45_3 : decode bo45 3 = .ok (.iload_n 0, 1) := by decide +kernel
theorem d45_4 : decode bo45 4 = .ok (.ifCond .ge 7, 3) := by decide +kernel
theorem d45_11 : decode bo45 11 = .ok (.iconst 0, 1) := by decide +kernel
theorem d45_12 : decode bo45 12 = .ok (.istore 6, 2) := by decide +kernel
theorem d45_14 : decode bo45 14 = .ok (.iload 6, 2) := by decide +kernel
theorem d45_16 : decode bo45 16 = .ok (.ifCond .ne 6, 3) := by decide +kernel
theorem d45_19 : decode bo45 19 = .ok (.iload_n 0, 1) := by decide +kernel
theorem d45_20 : decode bo45 20 = .ok (.ineg, 1) := by decide +kernel
theorem d45_21 : decode bo45 21 = .ok (.istore_n 0, 1) := by decide +kernel
theorem d45_22 : decode bo45 22 = .ok (.iload_n 0, 1) := by decide +kernel
theorem d45_23 : decode bo45 23 = .ok (.bipush (-100), 2) := by decide +kernel
theorem d45_25 : decode bo45 25 = .ok (.if_icmp .gt 47, 3) := by decide +kernel
theorem d45_72 : decode bo45 72 = .ok (.aload_n 2, 1) := by decide +kernel
theorem d45_73 : decode bo45 73 = .ok (.iinc 5 (-1), 3) := by decide +kernel
theorem d45_76 : decode bo45 76 = .ok (.iload 5, 2) := by decide +kernel
theorem d45_78 : decode bo45 78 = .ok (.getstatic 83, 3) := by decide +kernel
theorem d45_81 : decode bo45 81 = .ok (.iload_n 0, 1) := by decide +kernel
theorem d45_82 : decode bo45 82 = .ok (.ineg, 1) := by decide +kernel
theorem d45_83 : decode bo45 83 = .ok (.baload, 1) := by decide +kernel
theorem d45_84 : decode bo45 84 = .ok (.bastore, 1) := by decide +kernel
theorem d45_85 : decode bo45 85 = .ok (.iload_n 0, 1) := by decide +kernel
theorem d45_86 : decode bo45 86 = .ok (.bipush (-9), 2) := by decide +kernel
theorem d45_88 : decode bo45 88 = .ok (.if_icmp .ge 16, 3) := by decide +kernel
theorem d45_91 : decode bo45 91 = .ok (.aload_n 2, 1) := by decide +kernel
theorem d45_92 : decode bo45 92 = .ok (.iinc 5 (-1), 3) := by decide +kernel
theorem d45_95 : decode bo45 95 = .ok (.iload 5, 2) := by decide +kernel
theorem d45_97 : decode bo45 97 = .ok (.getstatic 87, 3) := by decide +kernel
theorem d45_100 : decode bo45 100 = .ok (.iload_n 0, 1) := by decide +kernel
theorem d45_101 : decode bo45 101 = .ok (.ineg, 1) := by decide +kernel
theorem d45_102 : decode bo45 102 = .ok (.baload, 1) := by decide +kernel
theorem d45_103 : decode bo45 103 = .ok (.bastore, 1) := by decide +kernel
theorem d45_104 : decode bo45 104 = .ok (.iload 6, 2) := by decide +kernel
theorem d45_106 : decode bo45 106 = .ok (.ifCond .eq 12, 3) := by decide +kernel
theorem d45_118 : decode bo45 118 = .ok (.iload 5, 2) := by decide +kernel
theorem d45_120 : decode bo45 120 = .ok (.ireturn, 1) := by decide +kernel
set_option maxRecDepth 65536 in
set_option maxHeartbeats 40000000 in
theorem rmGc (l : Launch) (Z : State) (a0 : Array Value) (hw : ∀ d ∈ tables_1, d.before a0 Z = true) (z : Int32) (t : Addr) (kt : ClassId) (cs : List Int32) (M pn : Nat) (d1 d2 : Addr) (k1 k2 : ClassId) (h0 : Heap) (n0 : Nat) (Z0 : n0 ≤ h0.size) (OL : Old Z n0 h0) (SD1 : Sta Z Z.heap "java/lang/Integer" "DigitOnes" "[B" (.ref d1)) (VD1 : Arv Z Z.heap d1 k1 .byte (100 : Int32) own_g1 (.int 0)) (SD2 : Sta Z Z.heap "java/lang/Integer" "DigitTens" "[B" (.ref d2)) (VD2 : Arv Z Z.heap d2 k2 .byte (100 : Int32) own_g2 (.int 0)) (hz : z = 65 ∨ z = 66 ∨ z = 67) (hp0 : cs.length = pn) (hpM : pn + 2 ≤ M) (hM : M ≤ 140) (g_t : n0 ≤ t) (V_t : Arv Z h0 t kt .byte (Int32.ofNat M) (own_pl cs M) (.int 0)) :
    OwM l Z (⟨"java/lang/Integer", "getChars", "(II[B)I"⟩ : MethodName) jdk_33_method_12_code 7 (some .int) ({ frames := 0, cells := 0, slots := 0, locals := 0 } : Room) n0 #[(.int z), (.int (Int32.ofNat (pn + 2))), (.ref t)] h0 (fun v h => v = some (.int (Int32.ofNat pn)) ∧ Keep h0 h [t] ∧ Arv Z h t kt .byte (Int32.ofNat M) (own_pl (cs ++ [54, own_dz z]) M) (.int 0)) := by
  refine OwM.mk (plainFor_of_name pn_java_lang_Integer) ?_
  intro p e s m below meth cD T hx hby hml hown hnm hret hlk hZ P
  have dc := @Jvm.hb cD _ hby
  refine OwG.cast (g' := mkF m 0 #[.val (.int z), .val (.int (Int32.ofNat (pn + 2))), .val (.ref t), .unset, .unset, .unset, .unset] []) (by first | (simp [entryFrame, mkF, argsToLocals, Value.category]; done) | rfl) ?_
  have KP := Keep.refl h0 [t]
  refine OwG.ac (mkF m 78 #[.val (.int (-z)), .val (.int (Int32.ofNat (pn + 2))), .val (.ref t), .unset, .unset, .val (.int ((Int32.ofNat (pn + 2)) + (-1 : Int32))), .val (.int 0)] [(.int ((Int32.ofNat (pn + 2)) + (-1 : Int32))), (.ref t)]) (fun tQ kQ => ?_) ?_
  · refine XS.iloadN P.here hx rfl (dc d45_0) rfl ?_
    refine XS.istore P.here hx rfl (dc d45_1) rfl (l' := #[.val (.int z), .val (.int (Int32.ofNat (pn + 2))), .val (.ref t), .unset, .unset, .val (.int (Int32.ofNat (pn + 2))), .unset]) rfl ?_
    refine XS.iloadN P.here hx rfl (dc d45_3) rfl ?_
    refine XS.ifYes P.here hx rfl (pc0 := 4) (pc' := 11) rfl (dc d45_4) rfl ((if0 _ _).trans (flt (by rcases hz with rfl | rfl | rfl <;> decide)).2.1) (by decide) (by decide) ?_
    refine XS.iconst P.here hx rfl (dc d45_11) ?_
    refine XS.istore P.here hx rfl (dc d45_12) rfl (l' := #[.val (.int z), .val (.int (Int32.ofNat (pn + 2))), .val (.ref t), .unset, .unset, .val (.int (Int32.ofNat (pn + 2))), .val (.int 0)]) rfl ?_
    refine XS.iload P.here hx rfl (dc d45_14) rfl ?_
    refine XS.ifNo P.here hx rfl (dc d45_16) rfl ((if0 _ _).trans (teq rfl).2) ?_
    refine XS.iloadN P.here hx rfl (dc d45_19) rfl ?_
    refine XS.ineg P.here hx rfl (dc d45_20) rfl ?_
    refine XS.istoreN P.here hx rfl (dc d45_21) rfl (l' := #[.val (.int (-z)), .val (.int (Int32.ofNat (pn + 2))), .val (.ref t), .unset, .unset, .val (.int (Int32.ofNat (pn + 2))), .val (.int 0)]) rfl ?_
    refine XS.iloadN P.here hx rfl (dc d45_22) rfl ?_
    refine XS.bipush P.here hx rfl (dc d45_23) ?_
    refine XS.icmpYes P.here hx rfl (pc0 := 25) (pc' := 72) rfl (dc d45_25) rfl (tlt (by rcases hz with rfl | rfl | rfl <;> decide)).2.2.1 (by decide) (by decide) ?_
    refine XS.aloadN P.here hx rfl (dc d45_72) rfl rfl ?_
    refine XS.iinc P.here hx rfl (dc d45_73) rfl (l' := #[.val (.int (-z)), .val (.int (Int32.ofNat (pn + 2))), .val (.ref t), .unset, .unset, .val (.int ((Int32.ofNat (pn + 2)) + (-1 : Int32))), .val (.int 0)]) rfl ?_
    exact XS.iload P.here hx rfl (dc d45_76) rfl kQ
  rw [show ((Int32.ofNat (pn + 2)) + (-1 : Int32)) = (Int32.ofNat (pn + 1)) from own_pred _]
  refine P.getS hx hZ hown (host := "") (Or.inl (own_w hw 225 rfl)) Via.refl (SD1.ext OL.2) rfl (dc d45_78) fun T P => ?_
  show OwG p e below s _ _ _ _ T (mkF m 81 #[.val (.int (-z)), .val (.int (Int32.ofNat (pn + 2))), .val (.ref t), .unset, .unset, .val (.int (Int32.ofNat (pn + 1))), .val (.int 0)] [(.ref d1), (.int (Int32.ofNat (pn + 1))), (.ref t)])
  refine OwG.ac (mkF m 83 #[.val (.int (-z)), .val (.int (Int32.ofNat (pn + 2))), .val (.ref t), .unset, .unset, .val (.int (Int32.ofNat (pn + 1))), .val (.int 0)] [(.int (-(-z))), (.ref d1), (.int (Int32.ofNat (pn + 1))), (.ref t)]) (fun tQ kQ => ?_) ?_
  · refine XS.iloadN P.here hx rfl (dc d45_81) rfl ?_
    exact XS.ineg P.here hx rfl (dc d45_82) rfl kQ
  rw [show (-(-z)) = z from own_neg2 hz]
  obtain ⟨own_cl, own_A, own_q1, own_S, own_M, own_H, own_U⟩ := id (VD1.ext OL.2)
  obtain ⟨own_L, own_X, own_e, own_N⟩ := id P
  have own_Z := hZ
  have own_in := inb_of own_S (j := z) ⟨(by rcases hz with rfl | rfl | rfl <;> decide), (by rcases hz with rfl | rfl | rfl <;> decide)⟩
  refine OwG.ac (mkF m 84 #[.val (.int (-z)), .val (.int (Int32.ofNat (pn + 2))), .val (.ref t), .unset, .unset, .val (.int (Int32.ofNat (pn + 1))), .val (.int 0)] [(.int (own_dz z)), (.int (Int32.ofNat (pn + 1))), (.ref t)]) (fun tQ kQ => ?_) ?_
  · exact own_X.baloadBytes hx (j := z) (v := (.int (own_dz z))) (by rw [own_e]; exact own_A.1) (State.isArrayOf_alike own_Z.alike own_A.2.1) own_A.2.2 own_in (Has.at own_H own_in (own_gz1 hz)) (g := (mkF m 83 #[.val (.int (-z)), .val (.int (Int32.ofNat (pn + 2))), .val (.ref t), .unset, .unset, .val (.int (Int32.ofNat (pn + 1))), .val (.int 0)] [(.int z), (.ref d1), (.int (Int32.ofNat (pn + 1))), (.ref t)])) rfl rfl (dc d45_83) _ kQ
  refine P.stB hx hZ V_t (j := (Int32.ofNat (pn + 1))) (own_nn (by omega)) (own_lt (by omega) (by omega)) (i := (pn + 1)) (own_tc (by omega)) (by rw [own_pl_len (by omega)]; omega) rfl rfl (dc d45_84) g_t fun T h1 P W V' => ?_
  replace Z0 := Nat.le_trans Z0 (Keep.of_wr W).1
  replace OL := OL.wr W g_t
  replace KP := KP.wr W (Or.inl (List.mem_of_getElem? (i := 0) rfl))
  replace V_t := V'
  clear W V'
  show OwG p e below s _ _ _ _ T (mkF m 85 #[.val (.int (-z)), .val (.int (Int32.ofNat (pn + 2))), .val (.ref t), .unset, .unset, .val (.int (Int32.ofNat (pn + 1))), .val (.int 0)] [])
  refine OwG.ac (mkF m 97 #[.val (.int (-z)), .val (.int (Int32.ofNat (pn + 2))), .val (.ref t), .unset, .unset, .val (.int ((Int32.ofNat (pn + 1)) + (-1 : Int32))), .val (.int 0)] [(.int ((Int32.ofNat (pn + 1)) + (-1 : Int32))), (.ref t)]) (fun tQ kQ => ?_) ?_
  · refine XS.iloadN P.here hx rfl (dc d45_85) rfl ?_
    refine XS.bipush P.here hx rfl (dc d45_86) ?_
    refine XS.icmpNo P.here hx rfl (dc d45_88) rfl (tlt (by rcases hz with rfl | rfl | rfl <;> decide)).2.1 ?_
    refine XS.aloadN P.here hx rfl (dc d45_91) rfl rfl ?_
    refine XS.iinc P.here hx rfl (dc d45_92) rfl (l' := #[.val (.int (-z)), .val (.int (Int32.ofNat (pn + 2))), .val (.ref t), .unset, .unset, .val (.int ((Int32.ofNat (pn + 1)) + (-1 : Int32))), .val (.int 0)]) rfl ?_
    exact XS.iload P.here hx rfl (dc d45_95) rfl kQ
  rw [show ((Int32.ofNat (pn + 1)) + (-1 : Int32)) = (Int32.ofNat pn) from own_pred _]
  refine P.getS hx hZ hown (host := "") (Or.inl (own_w hw 226 rfl)) Via.refl (SD2.ext OL.2) rfl (dc d45_97) fun T P => ?_
  show OwG p e below s _ _ _ _ T (mkF m 100 #[.val (.int (-z)), .val (.int (Int32.ofNat (pn + 2))), .val (.ref t), .unset, .unset, .val (.int (Int32.ofNat pn)), .val (.int 0)] [(.ref d2), (.int (Int32.ofNat pn)), (.ref t)])
  refine OwG.ac (mkF m 102 #[.val (.int (-z)), .val (.int (Int32.ofNat (pn + 2))), .val (.ref t), .unset, .unset, .val (.int (Int32.ofNat pn)), .val (.int 0)] [(.int (-(-z))), (.ref d2), (.int (Int32.ofNat pn)), (.ref t)]) (fun tQ kQ => ?_) ?_
  · refine XS.iloadN P.here hx rfl (dc d45_100) rfl ?_
    exact XS.ineg P.here hx rfl (dc d45_101) rfl kQ
  rw [show (-(-z)) = z from own_neg2 hz]
  obtain ⟨own_cl, own_A, own_q1, own_S, own_M, own_H, own_U⟩ := id (VD2.ext OL.2)
  obtain ⟨own_L, own_X, own_e, own_N⟩ := id P
  have own_Z := hZ
  have own_in := inb_of own_S (j := z) ⟨(by rcases hz with rfl | rfl | rfl <;> decide), (by rcases hz with rfl | rfl | rfl <;> decide)⟩
  refine OwG.ac (mkF m 103 #[.val (.int (-z)), .val (.int (Int32.ofNat (pn + 2))), .val (.ref t), .unset, .unset, .val (.int (Int32.ofNat pn)), .val (.int 0)] [(.int 54), (.int (Int32.ofNat pn)), (.ref t)]) (fun tQ kQ => ?_) ?_
  · exact own_X.baloadBytes hx (j := z) (v := (.int 54)) (by rw [own_e]; exact own_A.1) (State.isArrayOf_alike own_Z.alike own_A.2.1) own_A.2.2 own_in (Has.at own_H own_in (own_gz2 hz)) (g := (mkF m 102 #[.val (.int (-z)), .val (.int (Int32.ofNat (pn + 2))), .val (.ref t), .unset, .unset, .val (.int (Int32.ofNat pn)), .val (.int 0)] [(.int z), (.ref d2), (.int (Int32.ofNat pn)), (.ref t)])) rfl rfl (dc d45_102) _ kQ
  refine P.stB hx hZ V_t (j := (Int32.ofNat pn)) (own_nn (by omega)) (own_lt (by omega) (by omega)) (i := pn) (own_tc (by omega)) (by rw [List.length_set, own_pl_len (by omega)]; omega) rfl rfl (dc d45_103) g_t fun T h2 P W V' => ?_
  replace Z0 := Nat.le_trans Z0 (Keep.of_wr W).1
  replace OL := OL.wr W g_t
  replace KP := KP.wr W (Or.inl (List.mem_of_getElem? (i := 0) rfl))
  replace V_t := V'
  clear W V'
  show OwG p e below s _ _ _ _ T (mkF m 104 #[.val (.int (-z)), .val (.int (Int32.ofNat (pn + 2))), .val (.ref t), .unset, .unset, .val (.int (Int32.ofNat pn)), .val (.int 0)] [])
  replace V_t : Arv Z h2 t kt .byte (Int32.ofNat M) (own_pl (cs ++ [54, own_dz z]) M) (.int 0) := by
    have q := V_t
    rw [← own_pl2 hp0 (by omega)]
    exact q
  refine OwG.ac (mkF m 120 #[.val (.int (-z)), .val (.int (Int32.ofNat (pn + 2))), .val (.ref t), .unset, .unset, .val (.int (Int32.ofNat pn)), .val (.int 0)] [(.int (Int32.ofNat pn))]) (fun tQ kQ => ?_) ?_
  · refine XS.iload P.here hx rfl (dc d45_104) rfl ?_
    refine XS.ifYes P.here hx rfl (pc0 := 106) (pc' := 118) rfl (dc d45_106) rfl ((if0 _ _).trans (teq rfl).1) (by decide) (by decide) ?_
    exact XS.iload P.here hx rfl (dc d45_118) rfl kQ
  exact P.retI hx hlk hret (dc d45_120) (own_le rfl) (own_le rfl) ⟨rfl, KP, V_t⟩
abbrev bo63 := jdk_52_method_89_code
theorem d63_0 : decode bo63 0 = .ok (.iload_n 1, 1) := by decide +kernel
theorem d63_1 : decode bo63 1 = .ok (.istore 5, 2) := by decide +kernel
theorem d63_3 : decode bo63 3 = .ok (.iload_n 0, 1) := by decide +kernel
theorem d63_4 : decode bo63 4 = .ok (.ifCond .ge 7, 3) := by decide +kernel
theorem d63_11 : decode bo63 11 = .ok (.iconst 0, 1) := by decide +kernel
theorem d63_12 : decode bo63 12 = .ok (.istore 6, 2) := by decide +kernel
theorem d63_14 : decode bo63 14 = .ok (.iload 6, 2) := by decide +kernel
theorem d63_16 : decode bo63 16 = .ok (.ifCond .ne 6, 3) := by decide +kernel
theorem d63_19 : decode bo63 19 = .ok (.iload_n 0, 1) := by decide +kernel
theorem d63_20 : decode bo63 20 = .ok (.ineg, 1) := by decide +kernel
theorem d63_21 : decode bo63 21 = .ok (.istore_n 0, 1) := by decide +kernel
theorem d63_22 : decode bo63 22 = .ok (.iload_n 0, 1) := by decide +kernel
theorem d63_23 : decode bo63 23 = .ok (.bipush (-100), 2) := by decide +kernel
theorem d63_25 : decode bo63 25 = .ok (.if_icmp .gt 51, 3) := by decide +kernel
theorem d63_76 : decode bo63 76 = .ok (.aload_n 2, 1) := by decide +kernel
theorem d63_77 : decode bo63 77 = .ok (.iinc 5 (-1), 3) := by decide +kernel
theorem d63_80 : decode bo63 80 = .ok (.iload 5, 2) := by decide +kernel
theorem d63_82 : decode bo63 82 = .ok (.getstatic 403, 3) := by decide +kernel
theorem d63_85 : decode bo63 85 = .ok (.iload_n 0, 1) := by decide +kernel
theorem d63_86 : decode bo63 86 = .ok (.ineg, 1) := by decide +kernel
theorem d63_87 : decode bo63 87 = .ok (.baload, 1) := by decide +kernel
theorem d63_88 : decode bo63 88 = .ok (.invokestatic 111, 3) := by decide +kernel
theorem d63_91 : decode bo63 91 = .ok (.iload_n 0, 1) := by decide +kernel
theorem d63_92 : decode bo63 92 = .ok (.bipush (-9), 2) := by decide +kernel
theorem d63_94 : decode bo63 94 = .ok (.if_icmp .ge 18, 3) := by decide +kernel
theorem d63_97 : decode bo63 97 = .ok (.aload_n 2, 1) := by decide +kernel
theorem d63_98 : decode bo63 98 = .ok (.iinc 5 (-1), 3) := by decide +kernel
theorem d63_101 : decode bo63 101 = .ok (.iload 5, 2) := by decide +kernel
theorem d63_103 : decode bo63 103 = .ok (.getstatic 407, 3) := by decide +kernel
theorem d63_106 : decode bo63 106 = .ok (.iload_n 0, 1) := by decide +kernel
theorem d63_107 : decode bo63 107 = .ok (.ineg, 1) := by decide +kernel
theorem d63_108 : decode bo63 108 = .ok (.baload, 1) := by decide +kernel
theorem d63_109 : decode bo63 109 = .ok (.invokestatic 111, 3) := by decide +kernel
theorem d63_112 : decode bo63 112 = .ok (.iload 6, 2) := by decide +kernel
theorem d63_114 : decode bo63 114 = .ok (.ifCond .eq 14, 3) := by decide +kernel
theorem d63_128 : decode bo63 128 = .ok (.iload 5, 2) := by decide +kernel
theorem d63_130 : decode bo63 130 = .ok (.ireturn, 1) := by decide +kernel
set_option maxRecDepth 65536 in
set_option maxHeartbeats 40000000 in
theorem rmGw (l : Launch) (Z : State) (a0 : Array Value) (hw : ∀ d ∈ tables_1, d.before a0 Z = true) (z : Int32) (t : Addr) (kt : ClassId) (cs : List Int32) (M pn : Nat) (d1 d2 : Addr) (k1 k2 : ClassId) (h0 : Heap) (n0 : Nat) (Z0 : n0 ≤ h0.size) (SA : Sta Z Z.heap "java/lang/StringUTF16" "$assertionsDisabled" "Z" (.int 1)) (SH : Sta Z Z.heap "java/lang/StringUTF16" "HI_BYTE_SHIFT" "I" (.int 0)) (SL : Sta Z Z.heap "java/lang/StringUTF16" "LO_BYTE_SHIFT" "I" (.int 8)) (OL : Old Z n0 h0) (SD1 : Sta Z Z.heap "java/lang/Integer" "DigitOnes" "[B" (.ref d1)) (VD1 : Arv Z Z.heap d1 k1 .byte (100 : Int32) own_g1 (.int 0)) (SD2 : Sta Z Z.heap "java/lang/Integer" "DigitTens" "[B" (.ref d2)) (VD2 : Arv Z Z.heap d2 k2 .byte (100 : Int32) own_g2 (.int 0)) (hz : z = 65 ∨ z = 66 ∨ z = 67) (hp0 : cs.length = pn) (hpM : pn + 2 ≤ M) (hM : M ≤ 140) (g_t : n0 ≤ t) (V_t : Arv Z h0 t kt .byte (Int32.ofNat (2 * M)) (own_pw cs M) (.int 0)) :
    OwM l Z (⟨"java/lang/StringUTF16", "getChars", "(II[B)I"⟩ : MethodName) jdk_52_method_89_code 7 (some .int) ({ frames := 1, cells := 0, slots := 0, locals := 14 } : Room) n0 #[(.int z), (.int (Int32.ofNat (pn + 2))), (.ref t)] h0 (fun v h => v = some (.int (Int32.ofNat pn)) ∧ Keep h0 h [t] ∧ Arv Z h t kt .byte (Int32.ofNat (2 * M)) (own_pw (cs ++ [54, own_dz z]) M) (.int 0)) := by
  refine OwM.mk (plainFor_of_name pn_java_lang_StringUTF16) ?_
  intro p e s m below meth cD T hx hby hml hown hnm hret hlk hZ P
  have dc := @Jvm.hb cD _ hby
  refine OwG.cast (g' := mkF m 0 #[.val (.int z), .val (.int (Int32.ofNat (pn + 2))), .val (.ref t), .unset, .unset, .unset, .unset] []) (by first | (simp [entryFrame, mkF, argsToLocals, Value.category]; done) | rfl) ?_
  have KP := Keep.refl h0 [t]
  refine OwG.ac (mkF m 82 #[.val (.int (-z)), .val (.int (Int32.ofNat (pn + 2))), .val (.ref t), .unset, .unset, .val (.int ((Int32.ofNat (pn + 2)) + (-1 : Int32))), .val (.int 0)] [(.int ((Int32.ofNat (pn + 2)) + (-1 : Int32))), (.ref t)]) (fun tQ kQ => ?_) ?_
  · refine XS.iloadN P.here hx rfl (dc d63_0) rfl ?_
    refine XS.istore P.here hx rfl (dc d63_1) rfl (l' := #[.val (.int z), .val (.int (Int32.ofNat (pn + 2))), .val (.ref t), .unset, .unset, .val (.int (Int32.ofNat (pn + 2))), .unset]) rfl ?_
    refine XS.iloadN P.here hx rfl (dc d63_3) rfl ?_
    refine XS.ifYes P.here hx rfl (pc0 := 4) (pc' := 11) rfl (dc d63_4) rfl ((if0 _ _).trans (flt (by rcases hz with rfl | rfl | rfl <;> decide)).2.1) (by decide) (by decide) ?_
    refine XS.iconst P.here hx rfl (dc d63_11) ?_
    refine XS.istore P.here hx rfl (dc d63_12) rfl (l' := #[.val (.int z), .val (.int (Int32.ofNat (pn + 2))), .val (.ref t), .unset, .unset, .val (.int (Int32.ofNat (pn + 2))), .val (.int 0)]) rfl ?_
    refine XS.iload P.here hx rfl (dc d63_14) rfl ?_
    refine XS.ifNo P.here hx rfl (dc d63_16) rfl ((if0 _ _).trans (teq rfl).2) ?_
    refine XS.iloadN P.here hx rfl (dc d63_19) rfl ?_
    refine XS.ineg P.here hx rfl (dc d63_20) rfl ?_
    refine XS.istoreN P.here hx rfl (dc d63_21) rfl (l' := #[.val (.int (-z)), .val (.int (Int32.ofNat (pn + 2))), .val (.ref t), .unset, .unset, .val (.int (Int32.ofNat (pn + 2))), .val (.int 0)]) rfl ?_
    refine XS.iloadN P.here hx rfl (dc d63_22) rfl ?_
    refine XS.bipush P.here hx rfl (dc d63_23) ?_
    refine XS.icmpYes P.here hx rfl (pc0 := 25) (pc' := 76) rfl (dc d63_25) rfl (tlt (by rcases hz with rfl | rfl | rfl <;> decide)).2.2.1 (by decide) (by decide) ?_
    refine XS.aloadN P.here hx rfl (dc d63_76) rfl rfl ?_
    refine XS.iinc P.here hx rfl (dc d63_77) rfl (l' := #[.val (.int (-z)), .val (.int (Int32.ofNat (pn + 2))), .val (.ref t), .unset, .unset, .val (.int ((Int32.ofNat (pn + 2)) + (-1 : Int32))), .val (.int 0)]) rfl ?_
    exact XS.iload P.here hx rfl (dc d63_80) rfl kQ
  rw [show ((Int32.ofNat (pn + 2)) + (-1 : Int32)) = (Int32.ofNat (pn + 1)) from own_pred _]
  refine P.getS hx hZ hown (host := "") (Or.inl (own_w hw 298 rfl)) Via.refl (SD1.ext OL.2) rfl (dc d63_82) fun T P => ?_
  show OwG p e below s _ _ _ _ T (mkF m 85 #[.val (.int (-z)), .val (.int (Int32.ofNat (pn + 2))), .val (.ref t), .unset, .unset, .val (.int (Int32.ofNat (pn + 1))), .val (.int 0)] [(.ref d1), (.int (Int32.ofNat (pn + 1))), (.ref t)])
  refine OwG.ac (mkF m 87 #[.val (.int (-z)), .val (.int (Int32.ofNat (pn + 2))), .val (.ref t), .unset, .unset, .val (.int (Int32.ofNat (pn + 1))), .val (.int 0)] [(.int (-(-z))), (.ref d1), (.int (Int32.ofNat (pn + 1))), (.ref t)]) (fun tQ kQ => ?_) ?_
  · refine XS.iloadN P.here hx rfl (dc d63_85) rfl ?_
    exact XS.ineg P.here hx rfl (dc d63_86) rfl kQ
  rw [show (-(-z)) = z from own_neg2 hz]
  obtain ⟨own_cl, own_A, own_q1, own_S, own_M, own_H, own_U⟩ := id (VD1.ext OL.2)
  obtain ⟨own_L, own_X, own_e, own_N⟩ := id P
  have own_Z := hZ
  have own_in := inb_of own_S (j := z) ⟨(by rcases hz with rfl | rfl | rfl <;> decide), (by rcases hz with rfl | rfl | rfl <;> decide)⟩
  refine OwG.ac (mkF m 88 #[.val (.int (-z)), .val (.int (Int32.ofNat (pn + 2))), .val (.ref t), .unset, .unset, .val (.int (Int32.ofNat (pn + 1))), .val (.int 0)] [(.int (own_dz z)), (.int (Int32.ofNat (pn + 1))), (.ref t)]) (fun tQ kQ => ?_) ?_
  · exact own_X.baloadBytes hx (j := z) (v := (.int (own_dz z))) (by rw [own_e]; exact own_A.1) (State.isArrayOf_alike own_Z.alike own_A.2.1) own_A.2.2 own_in (Has.at own_H own_in (own_gz1 hz)) (g := (mkF m 87 #[.val (.int (-z)), .val (.int (Int32.ofNat (pn + 2))), .val (.ref t), .unset, .unset, .val (.int (Int32.ofNat (pn + 1))), .val (.int 0)] [(.int z), (.ref d1), (.int (Int32.ofNat (pn + 1))), (.ref t)])) rfl rfl (dc d63_87) _ kQ
  refine P.stat hx hZ hown (own_w hw 238 rfl) (own_w hw 239 rfl) (own_w hw 145 rfl) (own_w hw 240 rfl) (by decide) (OwM.back (W := 0) (rmPut l Z a0 hw t kt (2 * M) (pn + 1) (own_dz z) _ h0 n0 Z0 SA SH SL OL g_t V_t (by rw [own_pw_len (by omega)]) (by omega) (by omega)) hZ (own_w hw 240 rfl) (own_w hw 145 rfl) (own_le rfl) (own_le rfl)) (fun _ _ _ q => q.2) rfl (by rw [hml]; rfl) (argsL := [(.ref t), (.int (Int32.ofNat (pn + 1))), (.int (own_dz z))]) (rest := []) (lenOf pd___BII_V rfl) rfl (own_le rfl) (dc d63_88) rfl (own_le rfl) (own_le rfl) fun T own_v own_L h1 own_e P own_q => ?_
  obtain ⟨⟨rfl, K, V_t'⟩, -⟩ := own_q
  clear own_e
  replace Z0 := Nat.le_trans Z0 K.1
  replace OL := OL.keep K (allS g_t all0)
  replace KP := KP.trans K (allS (Or.inl (List.mem_of_getElem? (i := 0) rfl)) all0)
  show OwG p e below s _ _ _ _ T (mkF m 91 #[.val (.int (-z)), .val (.int (Int32.ofNat (pn + 2))), .val (.ref t), .unset, .unset, .val (.int (Int32.ofNat (pn + 1))), .val (.int 0)] [])
  have V_t := V_t'
  refine OwG.ac (mkF m 103 #[.val (.int (-z)), .val (.int (Int32.ofNat (pn + 2))), .val (.ref t), .unset, .unset, .val (.int ((Int32.ofNat (pn + 1)) + (-1 : Int32))), .val (.int 0)] [(.int ((Int32.ofNat (pn + 1)) + (-1 : Int32))), (.ref t)]) (fun tQ kQ => ?_) ?_
  · refine XS.iloadN P.here hx rfl (dc d63_91) rfl ?_
    refine XS.bipush P.here hx rfl (dc d63_92) ?_
    refine XS.icmpNo P.here hx rfl (dc d63_94) rfl (tlt (by rcases hz with rfl | rfl | rfl <;> decide)).2.1 ?_
    refine XS.aloadN P.here hx rfl (dc d63_97) rfl rfl ?_
    refine XS.iinc P.here hx rfl (dc d63_98) rfl (l' := #[.val (.int (-z)), .val (.int (Int32.ofNat (pn + 2))), .val (.ref t), .unset, .unset, .val (.int ((Int32.ofNat (pn + 1)) + (-1 : Int32))), .val (.int 0)]) rfl ?_
    exact XS.iload P.here hx rfl (dc d63_101) rfl kQ
  rw [show ((Int32.ofNat (pn + 1)) + (-1 : Int32)) = (Int32.ofNat pn) from own_pred _]
  refine P.getS hx hZ hown (host := "") (Or.inl (own_w hw 299 rfl)) Via.refl (SD2.ext OL.2) rfl (dc d63_103) fun T P => ?_
  show OwG p e below s _ _ _ _ T (mkF m 106 #[.val (.int (-z)), .val (.int (Int32.ofNat (pn + 2))), .val (.ref t), .unset, .unset, .val (.int (Int32.ofNat pn)), .val (.int 0)] [(.ref d2), (.int (Int32.ofNat pn)), (.ref t)])
  refine OwG.ac (mkF m 108 #[.val (.int (-z)), .val (.int (Int32.ofNat (pn + 2))), .val (.ref t), .unset, .unset, .val (.int (Int32.ofNat pn)), .val (.int 0)] [(.int (-(-z))), (.ref d2), (.int (Int32.ofNat pn)), (.ref t)]) (fun tQ kQ => ?_) ?_
  · refine XS.iloadN P.here hx rfl (dc d63_106) rfl ?_
    exact XS.ineg P.here hx rfl (dc d63_107) rfl kQ
  rw [show (-(-z)) = z from own_neg2 hz]
  obtain ⟨own_cl, own_A, own_q1, own_S, own_M, own_H, own_U⟩ := id (VD2.ext OL.2)
  obtain ⟨own_L, own_X, own_e, own_N⟩ := id P
  have own_Z := hZ
  have own_in := inb_of own_S (j := z) ⟨(by rcases hz with rfl | rfl | rfl <;> decide), (by rcases hz with rfl | rfl | rfl <;> decide)⟩
  refine OwG.ac (mkF m 109 #[.val (.int (-z)), .val (.int (Int32.ofNat (pn + 2))), .val (.ref t), .unset, .unset, .val (.int (Int32.ofNat pn)), .val (.int 0)] [(.int 54), (.int (Int32.ofNat pn)), (.ref t)]) (fun tQ kQ => ?_) ?_
  · exact own_X.baloadBytes hx (j := z) (v := (.int 54)) (by rw [own_e]; exact own_A.1) (State.isArrayOf_alike own_Z.alike own_A.2.1) own_A.2.2 own_in (Has.at own_H own_in (own_gz2 hz)) (g := (mkF m 108 #[.val (.int (-z)), .val (.int (Int32.ofNat (pn + 2))), .val (.ref t), .unset, .unset, .val (.int (Int32.ofNat pn)), .val (.int 0)] [(.int z), (.ref d2), (.int (Int32.ofNat pn)), (.ref t)])) rfl rfl (dc d63_108) _ kQ
  refine P.stat hx hZ hown (own_w hw 238 rfl) (own_w hw 239 rfl) (own_w hw 145 rfl) (own_w hw 240 rfl) (by decide) (OwM.back (W := 0) (rmPut l Z a0 hw t kt (2 * M) pn (54 : Int32) _ h1 n0 Z0 SA SH SL OL g_t V_t (by rw [List.length_set, List.length_set, own_pw_len (by omega)]) (by omega) (by omega)) hZ (own_w hw 240 rfl) (own_w hw 145 rfl) (own_le rfl) (own_le rfl)) (fun _ _ _ q => q.2) rfl (by rw [hml]; rfl) (argsL := [(.ref t), (.int (Int32.ofNat pn)), (.int 54)]) (rest := []) (lenOf pd___BII_V rfl) rfl (own_le rfl) (dc d63_109) rfl (own_le rfl) (own_le rfl) fun T own_v own_L h2 own_e P own_q => ?_
  obtain ⟨⟨rfl, K, V_t'⟩, -⟩ := own_q
  clear own_e
  replace Z0 := Nat.le_trans Z0 K.1
  replace OL := OL.keep K (allS g_t all0)
  replace KP := KP.trans K (allS (Or.inl (List.mem_of_getElem? (i := 0) rfl)) all0)
  show OwG p e below s _ _ _ _ T (mkF m 112 #[.val (.int (-z)), .val (.int (Int32.ofNat (pn + 2))), .val (.ref t), .unset, .unset, .val (.int (Int32.ofNat pn)), .val (.int 0)] [])
  have V_t := V_t'
  rw [own_pw2 hp0 (by omega)] at V_t
  refine OwG.ac (mkF m 130 #[.val (.int (-z)), .val (.int (Int32.ofNat (pn + 2))), .val (.ref t), .unset, .unset, .val (.int (Int32.ofNat pn)), .val (.int 0)] [(.int (Int32.ofNat pn))]) (fun tQ kQ => ?_) ?_
  · refine XS.iload P.here hx rfl (dc d63_112) rfl ?_
    refine XS.ifYes P.here hx rfl (pc0 := 114) (pc' := 128) rfl (dc d63_114) rfl ((if0 _ _).trans (teq rfl).1) (by decide) (by decide) ?_
    exact XS.iload P.here hx rfl (dc d63_128) rfl kQ
  exact P.retI hx hlk hret (dc d63_130) (own_le rfl) (own_le rfl) ⟨rfl, KP, V_t⟩
abbrev bo61 := jdk_52_method_77_code
theorem d61_0 : decode bo61 0 = .ok (.iload_n 1, 1) := by decide +kernel
theorem d61_1 : decode bo61 1 = .ok (.iload_n 2, 1) := by decide +kernel
theorem d61_2 : decode bo61 2 = .ok (.aload_n 3, 1) := by decide +kernel
theorem d61_3 : decode bo61 3 = .ok (.invokestatic 96, 3) := by decide +kernel
theorem d61_6 : decode bo61 6 = .ok (.iload_n 0, 1) := by decide +kernel
theorem d61_7 : decode bo61 7 = .ok (.iload_n 2, 1) := by decide +kernel
theorem d61_8 : decode bo61 8 = .ok (.aload_n 3, 1) := by decide +kernel
theorem d61_9 : decode bo61 9 = .ok (.invokestatic 393, 3) := by decide +kernel
theorem pd__II_B_I : parseMethodDescriptor "(II[B)I" = some ⟨[.int, .int, (.array .byte)], some .int⟩ := by decide +kernel
theorem d61_12 : decode bo61 12 = .ok (.istore 4, 2) := by decide +kernel
theorem d61_14 : decode bo61 14 = .ok (.getstatic 44, 3) := by decide +kernel
theorem d61_17 : decode bo61 17 = .ok (.ifCond .ne 17, 3) := by decide +kernel
theorem d61_34 : decode bo61 34 = .ok (.iload 4, 2) := by decide +kernel
theorem d61_36 : decode bo61 36 = .ok (.ireturn, 1) := by decide +kernel
set_option maxRecDepth 65536 in
set_option maxHeartbeats 40000000 in
theorem rmGw3 (l : Launch) (Z : State) (a0 : Array Value) (hw : ∀ d ∈ tables_1, d.before a0 Z = true) (z : Int32) (t : Addr) (kt : ClassId) (cs : List Int32) (M pn : Nat) (d1 d2 : Addr) (k1 k2 : ClassId) (fm : Value) (h0 : Heap) (n0 : Nat) (Z0 : n0 ≤ h0.size) (SA : Sta Z Z.heap "java/lang/StringUTF16" "$assertionsDisabled" "Z" (.int 1)) (SH : Sta Z Z.heap "java/lang/StringUTF16" "HI_BYTE_SHIFT" "I" (.int 0)) (SL : Sta Z Z.heap "java/lang/StringUTF16" "LO_BYTE_SHIFT" "I" (.int 8)) (SF : Sta Z Z.heap "jdk/internal/util/Preconditions" "SIOOBE_FORMATTER" "Ljava/util/function/BiFunction;" fm) (rf : fm.isRef = true) (OL : Old Z n0 h0) (SD1 : Sta Z Z.heap "java/lang/Integer" "DigitOnes" "[B" (.ref d1)) (VD1 : Arv Z Z.heap d1 k1 .byte (100 : Int32) own_g1 (.int 0)) (SD2 : Sta Z Z.heap "java/lang/Integer" "DigitTens" "[B" (.ref d2)) (VD2 : Arv Z Z.heap d2 k2 .byte (100 : Int32) own_g2 (.int 0)) (hz : z = 65 ∨ z = 66 ∨ z = 67) (hp0 : cs.length = pn) (hpM : pn + 2 ≤ M) (hM : M ≤ 140) (g_t : n0 ≤ t) (V_t : Arv Z h0 t kt .byte (Int32.ofNat (2 * M)) (own_pw cs M) (.int 0)) :
    OwM l Z (⟨"java/lang/StringUTF16", "getChars", "(III[B)I"⟩ : MethodName) jdk_52_method_77_code 5 (some .int) ({ frames := 3, cells := 0, slots := 0, locals := 43 } : Room) n0 #[(.int z), (.int (Int32.ofNat pn)), (.int (Int32.ofNat (pn + 2))), (.ref t)] h0 (fun v h => v = some (.int (Int32.ofNat pn)) ∧ Keep h0 h [t] ∧ Arv Z h t kt .byte (Int32.ofNat (2 * M)) (own_pw (cs ++ [54, own_dz z]) M) (.int 0)) := by
  refine OwM.mk (plainFor_of_name pn_java_lang_StringUTF16) ?_
  intro p e s m below meth cD T hx hby hml hown hnm hret hlk hZ P
  have dc := @Jvm.hb cD _ hby
  refine OwG.cast (g' := mkF m 0 #[.val (.int z), .val (.int (Int32.ofNat pn)), .val (.int (Int32.ofNat (pn + 2))), .val (.ref t), .unset] []) (by first | (simp [entryFrame, mkF, argsToLocals, Value.category]; done) | rfl) ?_
  have KP := Keep.refl h0 [t]
  refine OwG.ac (mkF m 3 #[.val (.int z), .val (.int (Int32.ofNat pn)), .val (.int (Int32.ofNat (pn + 2))), .val (.ref t), .unset] [(.ref t), (.int (Int32.ofNat (pn + 2))), (.int (Int32.ofNat pn))]) (fun tQ kQ => ?_) ?_
  · refine XS.iloadN P.here hx rfl (dc d61_0) rfl ?_
    refine XS.iloadN P.here hx rfl (dc d61_1) rfl ?_
    exact XS.aloadN P.here hx rfl (dc d61_2) rfl rfl kQ
  refine P.stat hx hZ hown (own_w hw 291 rfl) (own_w hw 292 rfl) (own_w hw 145 rfl) (own_w hw 293 rfl) (by decide) (OwM.back (W := 0) (rmUbe l Z a0 hw t kt _ pn (pn + 2) M fm h0 n0 Z0 SF rf OL V_t (by omega) (by omega) (by omega)) hZ (own_w hw 293 rfl) (own_w hw 145 rfl) (own_le rfl) (own_le rfl)) (fun _ _ _ q => q.2) rfl (by rw [hml]; rfl) (argsL := [(.int (Int32.ofNat pn)), (.int (Int32.ofNat (pn + 2))), (.ref t)]) (rest := []) (lenOf pd__II_B_V rfl) rfl (own_le rfl) (dc d61_3) rfl (own_le rfl) (own_le rfl) fun T own_v own_L h1 own_e P own_q => ?_
  obtain ⟨⟨rfl, own_hh⟩, -⟩ := own_q
  rw [own_hh] at P
  clear own_e own_hh
  show OwG p e below s _ _ _ _ T (mkF m 6 #[.val (.int z), .val (.int (Int32.ofNat pn)), .val (.int (Int32.ofNat (pn + 2))), .val (.ref t), .unset] [])
  refine OwG.ac (mkF m 9 #[.val (.int z), .val (.int (Int32.ofNat pn)), .val (.int (Int32.ofNat (pn + 2))), .val (.ref t), .unset] [(.ref t), (.int (Int32.ofNat (pn + 2))), (.int z)]) (fun tQ kQ => ?_) ?_
  · refine XS.iloadN P.here hx rfl (dc d61_6) rfl ?_
    refine XS.iloadN P.here hx rfl (dc d61_7) rfl ?_
    exact XS.aloadN P.here hx rfl (dc d61_8) rfl rfl kQ
  refine P.stat hx hZ hown (own_w hw 295 rfl) (own_w hw 296 rfl) (own_w hw 145 rfl) (own_w hw 297 rfl) (by decide) (OwM.back (W := 0) (rmGw l Z a0 hw z t kt cs M pn d1 d2 k1 k2 h0 n0 Z0 SA SH SL OL SD1 VD1 SD2 VD2 hz hp0 hpM hM g_t V_t) hZ (own_w hw 297 rfl) (own_w hw 145 rfl) (own_le rfl) (own_le rfl)) (fun _ _ _ q => q.2) rfl (by rw [hml]; rfl) (argsL := [(.int z), (.int (Int32.ofNat (pn + 2))), (.ref t)]) (rest := []) (lenOf pd__II_B_I rfl) rfl (own_le rfl) (dc d61_9) rfl (own_le rfl) (own_le rfl) fun T own_v own_L h2 own_e P own_q => ?_
  obtain ⟨⟨rfl, K, V_n⟩, -⟩ := own_q
  clear own_e
  replace Z0 := Nat.le_trans Z0 K.1
  replace OL := OL.keep K (allS g_t all0)
  replace KP := KP.trans K (allS (Or.inl (List.mem_of_getElem? (i := 0) rfl)) all0)
  show OwG p e below s _ _ _ _ T (mkF m 12 #[.val (.int z), .val (.int (Int32.ofNat pn)), .val (.int (Int32.ofNat (pn + 2))), .val (.ref t), .unset] [(.int (Int32.ofNat pn))])
  refine OwG.ac (mkF m 14 #[.val (.int z), .val (.int (Int32.ofNat pn)), .val (.int (Int32.ofNat (pn + 2))), .val (.ref t), .val (.int (Int32.ofNat pn))] []) (fun tQ kQ => ?_) ?_
  · exact XS.istore P.here hx rfl (dc d61_12) rfl (l' := #[.val (.int z), .val (.int (Int32.ofNat pn)), .val (.int (Int32.ofNat (pn + 2))), .val (.ref t), .val (.int (Int32.ofNat pn))]) rfl kQ
  refine P.getS hx hZ hown (host := "") (Or.inl (own_w hw 241 rfl)) Via.refl (SA.ext OL.2) rfl (dc d61_14) fun T P => ?_
  show OwG p e below s _ _ _ _ T (mkF m 17 #[.val (.int z), .val (.int (Int32.ofNat pn)), .val (.int (Int32.ofNat (pn + 2))), .val (.ref t), .val (.int (Int32.ofNat pn))] [(.int 1)])
  refine OwG.ac (mkF m 36 #[.val (.int z), .val (.int (Int32.ofNat pn)), .val (.int (Int32.ofNat (pn + 2))), .val (.ref t), .val (.int (Int32.ofNat pn))] [(.int (Int32.ofNat pn))]) (fun tQ kQ => ?_) ?_
  · refine XS.ifYes P.here hx rfl (pc0 := 17) (pc' := 34) rfl (dc d61_17) rfl ((if0 _ _).trans (feq (by decide : ¬ (1 : Int32) = 0)).2) (by decide) (by decide) ?_
    exact XS.iload P.here hx rfl (dc d61_34) rfl kQ
  exact P.retI hx hlk hret (dc d61_36) (own_le rfl) (own_le rfl) ⟨rfl, KP, V_n⟩
theorem own_dz8 {z : Int32} (hz : z = 65 ∨ z = 66 ∨ z = 67) : ∀ c ∈ [54, own_dz z], ¬ (255 : Int32) < c := by
  rcases hz with rfl | rfl | rfl <;> decide
abbrev bo43 := jdk_68_method_32_code
theorem d43_0 : decode bo43 0 = .ok (.aload_n 0, 1) := by decide +kernel
theorem d43_1 : decode bo43 1 = .ok (.getfield 79, 3) := by decide +kernel
theorem d43_4 : decode bo43 4 = .ok (.istore_n 2, 1) := by decide +kernel
theorem d43_5 : decode bo43 5 = .ok (.iload_n 2, 1) := by decide +kernel
theorem d43_6 : decode bo43 6 = .ok (.iload_n 1, 1) := by decide +kernel
theorem d43_7 : decode bo43 7 = .ok (.invokestatic 245, 3) := by decide +kernel
theorem d43_10 : decode bo43 10 = .ok (.iadd, 1) := by decide +kernel
theorem d43_11 : decode bo43 11 = .ok (.istore_n 3, 1) := by decide +kernel
theorem d43_12 : decode bo43 12 = .ok (.aload_n 0, 1) := by decide +kernel
theorem d43_13 : decode bo43 13 = .ok (.iload_n 3, 1) := by decide +kernel
theorem d43_14 : decode bo43 14 = .ok (.invokevirtual 100, 3) := by decide +kernel
theorem d43_17 : decode bo43 17 = .ok (.aload_n 0, 1) := by decide +kernel
theorem d43_18 : decode bo43 18 = .ok (.invokevirtual 83, 3) := by decide +kernel
theorem d43_21 : decode bo43 21 = .ok (.ifCond .eq 16, 3) := by decide +kernel
theorem d43_24 : decode bo43 24 = .ok (.iload_n 1, 1) := by decide +kernel
theorem d43_25 : decode bo43 25 = .ok (.iload_n 3, 1) := by decide +kernel
theorem d43_26 : decode bo43 26 = .ok (.aload_n 0, 1) := by decide +kernel
theorem d43_27 : decode bo43 27 = .ok (.getfield 15, 3) := by decide +kernel
theorem d43_30 : decode bo43 30 = .ok (.invokestatic 248, 3) := by decide +kernel
theorem d43_33 : decode bo43 33 = .ok (.pop, 1) := by decide +kernel
theorem d43_34 : decode bo43 34 = .ok (.goto 14, 3) := by decide +kernel
theorem d43_48 : decode bo43 48 = .ok (.aload_n 0, 1) := by decide +kernel
theorem d43_49 : decode bo43 49 = .ok (.iload_n 3, 1) := by decide +kernel
theorem d43_50 : decode bo43 50 = .ok (.putfield 79, 3) := by decide +kernel
theorem d43_53 : decode bo43 53 = .ok (.aload_n 0, 1) := by decide +kernel
theorem d43_54 : decode bo43 54 = .ok (.areturn, 1) := by decide +kernel
theorem d43_37 : decode bo43 37 = .ok (.iload_n 1, 1) := by decide +kernel
theorem d43_38 : decode bo43 38 = .ok (.iload_n 2, 1) := by decide +kernel
theorem d43_39 : decode bo43 39 = .ok (.iload_n 3, 1) := by decide +kernel
theorem d43_40 : decode bo43 40 = .ok (.aload_n 0, 1) := by decide +kernel
theorem d43_41 : decode bo43 41 = .ok (.getfield 15, 3) := by decide +kernel
theorem d43_44 : decode bo43 44 = .ok (.invokestatic 251, 3) := by decide +kernel
theorem pd__III_B_I : parseMethodDescriptor "(III[B)I" = some ⟨[.int, .int, .int, (.array .byte)], some .int⟩ := by decide +kernel
theorem d43_47 : decode bo43 47 = .ok (.pop, 1) := by decide +kernel
set_option maxRecDepth 65536 in
set_option maxHeartbeats 40000000 in
theorem rmAn (l : Launch) (Z : State) (a0 : Array Value) (hw : ∀ d ∈ tables_1, d.before a0 Z = true) (sb t : Addr) (kt : ClassId) (cs : List Int32) (M pn : Nat) (cd NB : Int32) (vs : List Value) (z zC : Int32) (fm : Value) (d1 d2 : Addr) (k1 k2 : ClassId) (h0 : Heap) (n0 : Nat) (Z0 : n0 ≤ h0.size) (SA : Sta Z Z.heap "java/lang/StringUTF16" "$assertionsDisabled" "Z" (.int 1)) (SH : Sta Z Z.heap "java/lang/StringUTF16" "HI_BYTE_SHIFT" "I" (.int 0)) (SL : Sta Z Z.heap "java/lang/StringUTF16" "LO_BYTE_SHIFT" "I" (.int 8)) (SF : Sta Z Z.heap "jdk/internal/util/Preconditions" "SIOOBE_FORMATTER" "Ljava/util/function/BiFunction;" fm) (rf : fm.isRef = true) (S2 : Sta Z Z.heap "java/lang/String" "COMPACT_STRINGS" "Z" (.int zC)) (hzC : ¬ zC = 0) (OL : Old Z n0 h0) (SD1 : Sta Z Z.heap "java/lang/Integer" "DigitOnes" "[B" (.ref d1)) (VD1 : Arv Z Z.heap d1 k1 .byte (100 : Int32) own_g1 (.int 0)) (SD2 : Sta Z Z.heap "java/lang/Integer" "DigitTens" "[B" (.ref d2)) (VD2 : Arv Z Z.heap d2 k2 .byte (100 : Int32) own_g2 (.int 0)) (hz : z = 65 ∨ z = 66 ∨ z = 67) (E_sb : Exa Z h0 sb "java/lang/StringBuilder") (F_value_sb : Fld Z h0 sb "java/lang/AbstractStringBuilder" "value" "[B" (.ref t)) (F_coder_sb : Fld Z h0 sb "java/lang/AbstractStringBuilder" "coder" "B" (.int cd)) (F_count_sb : Fld Z h0 sb "java/lang/AbstractStringBuilder" "count" "I" (.int (Int32.ofNat pn))) (F_mb_sb : Fld Z h0 sb "java/lang/AbstractStringBuilder" "maybeLatin1" "Z" (.int 0)) (V_t : Arv Z h0 t kt .byte NB vs (.int 0)) (hB : own_BC cs M cd NB vs) (hp0 : cs.length = pn) (hpM : pn ≤ M) (hM : M ≤ 140) (g_sb : n0 ≤ sb) (g_t : n0 ≤ t) (hM0 : 0 < M) (hk4 : pn + 2 ≤ 140) (hkb : own_cap M (pn + 2) ≤ 140) :
    OwM l Z (⟨"java/lang/AbstractStringBuilder", "append", "(I)Ljava/lang/AbstractStringBuilder;"⟩ : MethodName) jdk_68_method_32_code 4 (some (.object "java/lang/AbstractStringBuilder")) ({ frames := 4, cells := 1, slots := 280, locals := 62 } : Room) n0 #[(.ref sb), (.int z)] h0 (fun v h => v = some (.ref sb) ∧ Keep h0 h [sb, t] ∧ ∃ (t2 : Addr) (kt2 : ClassId) (NB2 : Int32) (vs2 : List Value), (t2 = t ∨ h0.size ≤ t2) ∧ n0 ≤ t2 ∧ Fld Z h sb "java/lang/AbstractStringBuilder" "value" "[B" (.ref t2) ∧ Fld Z h sb "java/lang/AbstractStringBuilder" "coder" "B" (.int cd) ∧ Fld Z h sb "java/lang/AbstractStringBuilder" "count" "I" (.int (Int32.ofNat (pn + 2))) ∧ Fld Z h sb "java/lang/AbstractStringBuilder" "maybeLatin1" "Z" (.int 0) ∧ Arv Z h t2 kt2 .byte NB2 vs2 (.int 0) ∧ own_BC (cs ++ [54, own_dz z]) (own_cap M (pn + 2)) cd NB2 vs2) := by
  refine OwM.mk (plainFor_of_name pn_java_lang_AbstractStringBuilder) ?_
  intro p e s m below meth cD T hx hby hml hown hnm hret hlk hZ P
  have dc := @Jvm.hb cD _ hby
  refine OwG.cast (g' := mkF m 0 #[.val (.ref sb), .val (.int z), .unset, .unset] []) (by first | (simp [entryFrame, mkF, argsToLocals, Value.category]; done) | rfl) ?_
  have KP := Keep.refl h0 [sb, t]
  have ne_sb_t := Exa.neArv E_sb V_t (own_w hw 38 rfl)
  have ne_t_sb := Ne.symm ne_sb_t
  refine OwG.ac (mkF m 1 #[.val (.ref sb), .val (.int z), .unset, .unset] [(.ref sb)]) (fun tQ kQ => ?_) ?_
  · exact XS.aloadN P.here hx rfl (dc d43_0) rfl rfl kQ
  refine P.getF hx hZ hown (host := "") (Or.inl (own_w hw 67 rfl)) Via.refl F_count_sb rfl rfl (dc d43_1) fun T P => ?_
  show OwG p e below s _ _ _ _ T (mkF m 4 #[.val (.ref sb), .val (.int z), .unset, .unset] [(.int (Int32.ofNat pn))])
  refine OwG.ac (mkF m 7 #[.val (.ref sb), .val (.int z), .val (.int (Int32.ofNat pn)), .unset] [(.int z), (.int (Int32.ofNat pn))]) (fun tQ kQ => ?_) ?_
  · refine XS.istoreN P.here hx rfl (dc d43_4) rfl (l' := #[.val (.ref sb), .val (.int z), .val (.int (Int32.ofNat pn)), .unset]) rfl ?_
    refine XS.iloadN P.here hx rfl (dc d43_5) rfl ?_
    exact XS.iloadN P.here hx rfl (dc d43_6) rfl kQ
  refine P.stat hx hZ hown (own_w hw 217 rfl) (own_w hw 218 rfl) (own_w hw 219 rfl) (own_w hw 220 rfl) (by decide) (OwM.back (W := 1) (rmSz l Z a0 hw z h0 n0 Z0 hz) hZ (own_w hw 220 rfl) (own_w hw 219 rfl) (own_le rfl) (own_le rfl)) (fun _ _ _ q => q.2) rfl (by rw [hml]; rfl) (argsL := [(.int z)]) (rest := [(.int (Int32.ofNat pn))]) (lenOf pd__I_I rfl) rfl (own_le rfl) (dc d43_7) rfl (own_le rfl) (own_le rfl) fun T own_v own_L h1 own_e P own_q => ?_
  obtain ⟨⟨rfl, own_hh⟩, -⟩ := own_q
  rw [own_hh] at P
  clear own_e own_hh
  show OwG p e below s _ _ _ _ T (mkF m 10 #[.val (.ref sb), .val (.int z), .val (.int (Int32.ofNat pn)), .unset] [(.int 2), (.int (Int32.ofNat pn))])
  refine OwG.ac (mkF m 11 #[.val (.ref sb), .val (.int z), .val (.int (Int32.ofNat pn)), .unset] [(.int ((Int32.ofNat pn) + (2 : Int32)))]) (fun tQ kQ => ?_) ?_
  · exact XS.iadd P.here hx rfl (dc d43_10) rfl kQ
  rw [show ((Int32.ofNat pn) + (2 : Int32)) = (Int32.ofNat (pn + 2)) from own_addn pn 2]
  refine OwG.ac (mkF m 14 #[.val (.ref sb), .val (.int z), .val (.int (Int32.ofNat pn)), .val (.int (Int32.ofNat (pn + 2)))] [(.int (Int32.ofNat (pn + 2))), (.ref sb)]) (fun tQ kQ => ?_) ?_
  · refine XS.istoreN P.here hx rfl (dc d43_11) rfl (l' := #[.val (.ref sb), .val (.int z), .val (.int (Int32.ofNat pn)), .val (.int (Int32.ofNat (pn + 2)))]) rfl ?_
    refine XS.aloadN P.here hx rfl (dc d43_12) rfl rfl ?_
    exact XS.iloadN P.here hx rfl (dc d43_13) rfl kQ
  refine P.virtualN hx hZ hown (own_w hw 69 rfl) (own_declares (own_w hw 70 rfl) (own_w hw 73 rfl)) (own_nf (y := (⟨"java/lang/AbstractStringBuilder", "ensureCapacityInternal", "(I)V"⟩ : MethodName)) (y' := (⟨"java/lang/AbstractStringBuilder", "isLatin1", "()Z"⟩ : MethodName)) (own_w hw 122 rfl) rfl) (own_w hw 72 rfl) (own_w hw 70 rfl) (by decide) (OwM.back (W := 0) (rmEc l Z a0 hw sb t kt cs M pn cd NB vs (pn + 2) h0 n0 Z0 OL E_sb F_value_sb F_coder_sb F_count_sb F_mb_sb V_t hB hp0 hpM hM g_sb g_t hM0 hk4 hkb) hZ (own_w hw 73 rfl) (own_w hw 47 rfl) (own_le rfl) (own_le rfl)) (fun _ _ _ q => q.2) E_sb rfl (by rw [hml]; rfl) (argsL := [(.int (Int32.ofNat (pn + 2)))]) (rest := []) (lenOf pd__I_V rfl) rfl (own_le rfl) (dc d43_14) rfl (own_le rfl) (own_le rfl) fun T own_v own_L h2 own_e P own_q => ?_
  obtain ⟨⟨rfl, K, t1, kt1, NB_t1, vs_t1, h_t1, g_t1, F_value_sb, F_coder_sb, F_count_sb, F_mb_sb, V_t1, hB_t1⟩, -⟩ := own_q
  show OwG p e below s _ _ _ _ T (mkF m 17 #[.val (.ref sb), .val (.int z), .val (.int (Int32.ofNat pn)), .val (.int (Int32.ofNat (pn + 2)))] [])
  clear own_e
  have ne_sb_t1 : sb ≠ t1 := own_nx E_sb.lt ne_sb_t h_t1
  have ne_t1_sb := Ne.symm ne_sb_t1
  have q_t1 : t1 = t ∨ h0.size ≤ t1 := own_qt h_t1 (Or.inl rfl : t = t ∨ h0.size ≤ t) KP.1
  have kp_t1 := own_kp (sb := sb) q_t1
  replace E_sb := E_sb.keep K
  replace Z0 := Nat.le_trans Z0 K.1
  replace OL := OL.keep K (allS g_sb all0)
  replace KP := KP.trans K (allS (Or.inl (List.mem_of_getElem? (i := 0) rfl)) all0)
  have own_g := own_cap_ge (M := M) (k := pn + 2)
  have ne_t1_sb := Ne.symm (Exa.neArv E_sb V_t1 (own_w hw 38 rfl))
  have ne_sb_t1 := Ne.symm ne_t1_sb
  refine OwG.ac (mkF m 18 #[.val (.ref sb), .val (.int z), .val (.int (Int32.ofNat pn)), .val (.int (Int32.ofNat (pn + 2)))] [(.ref sb)]) (fun tQ kQ => ?_) ?_
  · exact XS.aloadN P.here hx rfl (dc d43_17) rfl rfl kQ
  rcases hB_t1 with ⟨rfl, rfl, rfl, ha⟩ | ⟨rfl, rfl, rfl, ha⟩
  ·skip
   refine P.virtual hx hZ hown (own_w hw 221 rfl) (own_w hw 120 rfl) (own_w hw 122 rfl) (own_w hw 121 rfl) (by decide) (OwM.back (W := 0) (rmIl l Z a0 hw sb (0 : Int32) zC h2 n0 Z0 S2 hzC OL F_coder_sb) hZ (own_w hw 123 rfl) (own_w hw 47 rfl) (own_le rfl) (own_le rfl)) (fun _ _ _ q => q.2) E_sb rfl (by rw [hml]; rfl) (argsL := []) (rest := []) (lenOf pd___Z rfl) rfl (own_le rfl) (dc d43_18) rfl (own_le rfl) (own_le rfl) fun T own_v own_L h3 own_e P own_q => ?_
   obtain ⟨⟨rfl, own_hh⟩, -⟩ := own_q
   rw [own_hh] at P
   clear own_e own_hh
   show OwG p e below s _ _ _ _ T (mkF m 21 #[.val (.ref sb), .val (.int z), .val (.int (Int32.ofNat pn)), .val (.int (Int32.ofNat (pn + 2)))] [(.int (if (0 : Int32) = 0 then 1 else 0))])
   refine OwG.ac (mkF m 27 #[.val (.ref sb), .val (.int z), .val (.int (Int32.ofNat pn)), .val (.int (Int32.ofNat (pn + 2)))] [(.ref sb), (.int (Int32.ofNat (pn + 2))), (.int z)]) (fun tQ kQ => ?_) ?_
   · refine XS.ifNo P.here hx rfl (dc d43_21) rfl ((if0 _ _).trans (feq (by decide)).1) ?_
     refine XS.iloadN P.here hx rfl (dc d43_24) rfl ?_
     refine XS.iloadN P.here hx rfl (dc d43_25) rfl ?_
     exact XS.aloadN P.here hx rfl (dc d43_26) rfl rfl kQ
   refine P.getF hx hZ hown (host := "") (Or.inl (own_w hw 51 rfl)) Via.refl F_value_sb rfl rfl (dc d43_27) fun T P => ?_
   show OwG p e below s _ _ _ _ T (mkF m 30 #[.val (.ref sb), .val (.int z), .val (.int (Int32.ofNat pn)), .val (.int (Int32.ofNat (pn + 2)))] [(.ref t1), (.int (Int32.ofNat (pn + 2))), (.int z)])
   refine P.stat hx hZ hown (own_w hw 222 rfl) (own_w hw 223 rfl) (own_w hw 219 rfl) (own_w hw 224 rfl) (by decide) (OwM.back (W := 0) (rmGc l Z a0 hw z t1 kt1 cs (own_cap M (pn + 2)) pn d1 d2 k1 k2 h2 n0 Z0 OL SD1 VD1 SD2 VD2 hz hp0 (by omega) (by omega) g_t1 V_t1) hZ (own_w hw 224 rfl) (own_w hw 219 rfl) (own_le rfl) (own_le rfl)) (fun _ _ _ q => q.2) rfl (by rw [hml]; rfl) (argsL := [(.int z), (.int (Int32.ofNat (pn + 2))), (.ref t1)]) (rest := []) (lenOf pd__II_B_I rfl) rfl (own_le rfl) (dc d43_30) rfl (own_le rfl) (own_le rfl) fun T own_v own_L h4 own_e P own_q => ?_
   obtain ⟨⟨rfl, K, V_n⟩, -⟩ := own_q
   clear own_e
   replace E_sb := E_sb.keep K
   replace F_value_sb := F_value_sb.keep K (ninS ne_sb_t1 nin0)
   replace F_coder_sb := F_coder_sb.keep K (ninS ne_sb_t1 nin0)
   replace F_count_sb := F_count_sb.keep K (ninS ne_sb_t1 nin0)
   replace F_mb_sb := F_mb_sb.keep K (ninS ne_sb_t1 nin0)
   replace Z0 := Nat.le_trans Z0 K.1
   replace OL := OL.keep K (allS g_t1 all0)
   replace KP := KP.trans K (allS kp_t1 all0)
   show OwG p e below s _ _ _ _ T (mkF m 33 #[.val (.ref sb), .val (.int z), .val (.int (Int32.ofNat pn)), .val (.int (Int32.ofNat (pn + 2)))] [(.int (Int32.ofNat pn))])
   refine OwG.ac (mkF m 50 #[.val (.ref sb), .val (.int z), .val (.int (Int32.ofNat pn)), .val (.int (Int32.ofNat (pn + 2)))] [(.int (Int32.ofNat (pn + 2))), (.ref sb)]) (fun tQ kQ => ?_) ?_
   · refine XS.pop P.here hx rfl (dc d43_33) rfl rfl ?_
     refine XS.goto P.here hx rfl (pc0 := 34) (pc' := 48) rfl (dc d43_34) (by decide) (by decide) ?_
     refine XS.aloadN P.here hx rfl (dc d43_48) rfl rfl ?_
     exact XS.iloadN P.here hx rfl (dc d43_49) rfl kQ
   refine P.putF hx hZ hown (host := "") (Or.inl (own_w hw 67 rfl)) Via.refl F_count_sb E_sb (Or.inl (own_w hw 68 rfl)) (own_w hw 38 rfl) (ty := .int) (by decide) rfl rfl rfl rfl (dc d43_50) g_sb fun T h5 P W => ?_
   replace E_sb := E_sb.wr W
   replace F_value_sb := F_value_sb.other W (Or.inr (slot_ne (Or.inl (own_w hw 52 rfl)) (Or.inl (own_w hw 68 rfl)) (by decide) (t := (.array .byte)) (t' := .int) (by decide) (by decide)))
   replace F_coder_sb := F_coder_sb.other W (Or.inr (slot_ne (Or.inl (own_w hw 54 rfl)) (Or.inl (own_w hw 68 rfl)) (by decide) (t := .byte) (t' := .int) (by decide) (by decide)))
   replace F_count_sb := F_count_sb.same W
   replace F_mb_sb := F_mb_sb.other W (Or.inr (slot_ne (Or.inl (own_w hw 273 rfl)) (Or.inl (own_w hw 68 rfl)) (by decide) (t := .boolean) (t' := .int) (by decide) (by decide)))
   replace V_n := V_n.other W ne_t1_sb
   replace Z0 := Nat.le_trans Z0 (Keep.of_wr W).1
   replace OL := OL.wr W g_sb
   replace KP := KP.wr W (Or.inl (List.mem_of_getElem? (i := 0) rfl))
   clear W
   show OwG p e below s _ _ _ _ T (mkF m 53 #[.val (.ref sb), .val (.int z), .val (.int (Int32.ofNat pn)), .val (.int (Int32.ofNat (pn + 2)))] [])
   refine OwG.ac (mkF m 54 #[.val (.ref sb), .val (.int z), .val (.int (Int32.ofNat pn)), .val (.int (Int32.ofNat (pn + 2)))] [(.ref sb)]) (fun tQ kQ => ?_) ?_
   · exact XS.aloadN P.here hx rfl (dc d43_53) rfl rfl kQ
   exact P.retR hx hlk hret rfl rfl (dc d43_54) (own_le rfl) (own_le rfl) ⟨rfl, KP, t1, kt1, _, _, q_t1, g_t1, F_value_sb, F_coder_sb, F_count_sb, F_mb_sb, V_n, Or.inl ⟨rfl, rfl, rfl, own_an ha (own_dz8 hz)⟩⟩
  ·skip
   refine P.virtual hx hZ hown (own_w hw 221 rfl) (own_w hw 120 rfl) (own_w hw 122 rfl) (own_w hw 121 rfl) (by decide) (OwM.back (W := 0) (rmIl l Z a0 hw sb (1 : Int32) zC h2 n0 Z0 S2 hzC OL F_coder_sb) hZ (own_w hw 123 rfl) (own_w hw 47 rfl) (own_le rfl) (own_le rfl)) (fun _ _ _ q => q.2) E_sb rfl (by rw [hml]; rfl) (argsL := []) (rest := []) (lenOf pd___Z rfl) rfl (own_le rfl) (dc d43_18) rfl (own_le rfl) (own_le rfl) fun T own_v own_L h6 own_e P own_q => ?_
   obtain ⟨⟨rfl, own_hh⟩, -⟩ := own_q
   rw [own_hh] at P
   clear own_e own_hh
   show OwG p e below s _ _ _ _ T (mkF m 21 #[.val (.ref sb), .val (.int z), .val (.int (Int32.ofNat pn)), .val (.int (Int32.ofNat (pn + 2)))] [(.int (if (1 : Int32) = 0 then 1 else 0))])
   refine OwG.ac (mkF m 41 #[.val (.ref sb), .val (.int z), .val (.int (Int32.ofNat pn)), .val (.int (Int32.ofNat (pn + 2)))] [(.ref sb), (.int (Int32.ofNat (pn + 2))), (.int (Int32.ofNat pn)), (.int z)]) (fun tQ kQ => ?_) ?_
   · refine XS.ifYes P.here hx rfl (pc0 := 21) (pc' := 37) rfl (dc d43_21) rfl ((if0 _ _).trans (teq (by decide)).1) (by decide) (by decide) ?_
     refine XS.iloadN P.here hx rfl (dc d43_37) rfl ?_
     refine XS.iloadN P.here hx rfl (dc d43_38) rfl ?_
     refine XS.iloadN P.here hx rfl (dc d43_39) rfl ?_
     exact XS.aloadN P.here hx rfl (dc d43_40) rfl rfl kQ
   refine P.getF hx hZ hown (host := "") (Or.inl (own_w hw 51 rfl)) Via.refl F_value_sb rfl rfl (dc d43_41) fun T P => ?_
   show OwG p e below s _ _ _ _ T (mkF m 44 #[.val (.ref sb), .val (.int z), .val (.int (Int32.ofNat pn)), .val (.int (Int32.ofNat (pn + 2)))] [(.ref t1), (.int (Int32.ofNat (pn + 2))), (.int (Int32.ofNat pn)), (.int z)])
   refine P.stat hx hZ hown (own_w hw 288 rfl) (own_w hw 289 rfl) (own_w hw 145 rfl) (own_w hw 290 rfl) (by decide) (OwM.back (W := 0) (rmGw3 l Z a0 hw z t1 kt1 cs (own_cap M (pn + 2)) pn d1 d2 k1 k2 fm h2 n0 Z0 SA SH SL SF rf OL SD1 VD1 SD2 VD2 hz hp0 (by omega) (by omega) g_t1 V_t1) hZ (own_w hw 290 rfl) (own_w hw 145 rfl) (own_le rfl) (own_le rfl)) (fun _ _ _ q => q.2) rfl (by rw [hml]; rfl) (argsL := [(.int z), (.int (Int32.ofNat pn)), (.int (Int32.ofNat (pn + 2))), (.ref t1)]) (rest := []) (lenOf pd__III_B_I rfl) rfl (own_le rfl) (dc d43_44) rfl (own_le rfl) (own_le rfl) fun T own_v own_L h7 own_e P own_q => ?_
   obtain ⟨⟨rfl, K, V_n⟩, -⟩ := own_q
   clear own_e
   replace E_sb := E_sb.keep K
   replace F_value_sb := F_value_sb.keep K (ninS ne_sb_t1 nin0)
   replace F_coder_sb := F_coder_sb.keep K (ninS ne_sb_t1 nin0)
   replace F_count_sb := F_count_sb.keep K (ninS ne_sb_t1 nin0)
   replace F_mb_sb := F_mb_sb.keep K (ninS ne_sb_t1 nin0)
   replace Z0 := Nat.le_trans Z0 K.1
   replace OL := OL.keep K (allS g_t1 all0)
   replace KP := KP.trans K (allS kp_t1 all0)
   show OwG p e below s _ _ _ _ T (mkF m 47 #[.val (.ref sb), .val (.int z), .val (.int (Int32.ofNat pn)), .val (.int (Int32.ofNat (pn + 2)))] [(.int (Int32.ofNat pn))])
   refine OwG.ac (mkF m 50 #[.val (.ref sb), .val (.int z), .val (.int (Int32.ofNat pn)), .val (.int (Int32.ofNat (pn + 2)))] [(.int (Int32.ofNat (pn + 2))), (.ref sb)]) (fun tQ kQ => ?_) ?_
   · refine XS.pop P.here hx rfl (dc d43_47) rfl rfl ?_
     refine XS.aloadN P.here hx rfl (dc d43_48) rfl rfl ?_
     exact XS.iloadN P.here hx rfl (dc d43_49) rfl kQ
   refine P.putF hx hZ hown (host := "") (Or.inl (own_w hw 67 rfl)) Via.refl F_count_sb E_sb (Or.inl (own_w hw 68 rfl)) (own_w hw 38 rfl) (ty := .int) (by decide) rfl rfl rfl rfl (dc d43_50) g_sb fun T h8 P W => ?_
   replace E_sb := E_sb.wr W
   replace F_value_sb := F_value_sb.other W (Or.inr (slot_ne (Or.inl (own_w hw 52 rfl)) (Or.inl (own_w hw 68 rfl)) (by decide) (t := (.array .byte)) (t' := .int) (by decide) (by decide)))
   replace F_coder_sb := F_coder_sb.other W (Or.inr (slot_ne (Or.inl (own_w hw 54 rfl)) (Or.inl (own_w hw 68 rfl)) (by decide) (t := .byte) (t' := .int) (by decide) (by decide)))
   replace F_count_sb := F_count_sb.same W
   replace F_mb_sb := F_mb_sb.other W (Or.inr (slot_ne (Or.inl (own_w hw 273 rfl)) (Or.inl (own_w hw 68 rfl)) (by decide) (t := .boolean) (t' := .int) (by decide) (by decide)))
   replace V_n := V_n.other W ne_t1_sb
   replace Z0 := Nat.le_trans Z0 (Keep.of_wr W).1
   replace OL := OL.wr W g_sb
   replace KP := KP.wr W (Or.inl (List.mem_of_getElem? (i := 0) rfl))
   clear W
   show OwG p e below s _ _ _ _ T (mkF m 53 #[.val (.ref sb), .val (.int z), .val (.int (Int32.ofNat pn)), .val (.int (Int32.ofNat (pn + 2)))] [])
   refine OwG.ac (mkF m 54 #[.val (.ref sb), .val (.int z), .val (.int (Int32.ofNat pn)), .val (.int (Int32.ofNat (pn + 2)))] [(.ref sb)]) (fun tQ kQ => ?_) ?_
   · exact XS.aloadN P.here hx rfl (dc d43_53) rfl rfl kQ
   exact P.retR hx hlk hret rfl rfl (dc d43_54) (own_le rfl) (own_le rfl) ⟨rfl, KP, t1, kt1, _, _, q_t1, g_t1, F_value_sb, F_coder_sb, F_count_sb, F_mb_sb, V_n, Or.inr ⟨rfl, rfl, rfl, own_al ha⟩⟩
abbrev bo42 := jdk_67_method_15_code
theorem d42_0 : decode bo42 0 = .ok (.aload_n 0, 1) := by decide +kernel
theorem d42_1 : decode bo42 1 = .ok (.iload_n 1, 1) := by decide +kernel
theorem d42_2 : decode bo42 2 = .ok (.invokespecial 53, 3) := by decide +kernel
theorem pd__I_Ljava_lang_AbstractStringBuilder_ : parseMethodDescriptor "(I)Ljava/lang/AbstractStringBuilder;" = some ⟨[.int], some (.object "java/lang/AbstractStringBuilder")⟩ := by decide +kernel
theorem d42_5 : decode bo42 5 = .ok (.pop, 1) := by decide +kernel
theorem d42_6 : decode bo42 6 = .ok (.aload_n 0, 1) := by decide +kernel
theorem d42_7 : decode bo42 7 = .ok (.areturn, 1) := by decide +kernel
set_option maxRecDepth 65536 in
set_option maxHeartbeats 40000000 in
theorem rmBn (l : Launch) (Z : State) (a0 : Array Value) (hw : ∀ d ∈ tables_1, d.before a0 Z = true) (sb t : Addr) (kt : ClassId) (cs : List Int32) (M pn : Nat) (cd NB : Int32) (vs : List Value) (z zC : Int32) (fm : Value) (d1 d2 : Addr) (k1 k2 : ClassId) (h0 : Heap) (n0 : Nat) (Z0 : n0 ≤ h0.size) (SA : Sta Z Z.heap "java/lang/StringUTF16" "$assertionsDisabled" "Z" (.int 1)) (SH : Sta Z Z.heap "java/lang/StringUTF16" "HI_BYTE_SHIFT" "I" (.int 0)) (SL : Sta Z Z.heap "java/lang/StringUTF16" "LO_BYTE_SHIFT" "I" (.int 8)) (SF : Sta Z Z.heap "jdk/internal/util/Preconditions" "SIOOBE_FORMATTER" "Ljava/util/function/BiFunction;" fm) (rf : fm.isRef = true) (S2 : Sta Z Z.heap "java/lang/String" "COMPACT_STRINGS" "Z" (.int zC)) (hzC : ¬ zC = 0) (OL : Old Z n0 h0) (SD1 : Sta Z Z.heap "java/lang/Integer" "DigitOnes" "[B" (.ref d1)) (VD1 : Arv Z Z.heap d1 k1 .byte (100 : Int32) own_g1 (.int 0)) (SD2 : Sta Z Z.heap "java/lang/Integer" "DigitTens" "[B" (.ref d2)) (VD2 : Arv Z Z.heap d2 k2 .byte (100 : Int32) own_g2 (.int 0)) (hz : z = 65 ∨ z = 66 ∨ z = 67) (E_sb : Exa Z h0 sb "java/lang/StringBuilder") (F_value_sb : Fld Z h0 sb "java/lang/AbstractStringBuilder" "value" "[B" (.ref t)) (F_coder_sb : Fld Z h0 sb "java/lang/AbstractStringBuilder" "coder" "B" (.int cd)) (F_count_sb : Fld Z h0 sb "java/lang/AbstractStringBuilder" "count" "I" (.int (Int32.ofNat pn))) (F_mb_sb : Fld Z h0 sb "java/lang/AbstractStringBuilder" "maybeLatin1" "Z" (.int 0)) (V_t : Arv Z h0 t kt .byte NB vs (.int 0)) (hB : own_BC cs M cd NB vs) (hp0 : cs.length = pn) (hpM : pn ≤ M) (hM : M ≤ 140) (g_sb : n0 ≤ sb) (g_t : n0 ≤ t) (hM0 : 0 < M) (hk4 : pn + 2 ≤ 140) (hkb : own_cap M (pn + 2) ≤ 140) :
    OwM l Z (⟨"java/lang/StringBuilder", "append", "(I)Ljava/lang/StringBuilder;"⟩ : MethodName) jdk_67_method_15_code 2 (some (.object "java/lang/StringBuilder")) ({ frames := 5, cells := 1, slots := 280, locals := 77 } : Room) n0 #[(.ref sb), (.int z)] h0 (fun v h => v = some (.ref sb) ∧ Keep h0 h [sb, t] ∧ ∃ (t2 : Addr) (kt2 : ClassId) (NB2 : Int32) (vs2 : List Value), (t2 = t ∨ h0.size ≤ t2) ∧ n0 ≤ t2 ∧ Fld Z h sb "java/lang/AbstractStringBuilder" "value" "[B" (.ref t2) ∧ Fld Z h sb "java/lang/AbstractStringBuilder" "coder" "B" (.int cd) ∧ Fld Z h sb "java/lang/AbstractStringBuilder" "count" "I" (.int (Int32.ofNat (pn + 2))) ∧ Fld Z h sb "java/lang/AbstractStringBuilder" "maybeLatin1" "Z" (.int 0) ∧ Arv Z h t2 kt2 .byte NB2 vs2 (.int 0) ∧ own_BC (cs ++ [54, own_dz z]) (own_cap M (pn + 2)) cd NB2 vs2) := by
  refine OwM.mk (plainFor_of_name pn_java_lang_StringBuilder) ?_
  intro p e s m below meth cD T hx hby hml hown hnm hret hlk hZ P
  have dc := @Jvm.hb cD _ hby
  refine OwG.cast (g' := mkF m 0 #[.val (.ref sb), .val (.int z)] []) (by first | (simp [entryFrame, mkF, argsToLocals, Value.category]; done) | rfl) ?_
  refine OwG.ac (mkF m 2 #[.val (.ref sb), .val (.int z)] [(.int z), (.ref sb)]) (fun tQ kQ => ?_) ?_
  · refine XS.aloadN P.here hx rfl (dc d42_0) rfl rfl ?_
    exact XS.iloadN P.here hx rfl (dc d42_1) rfl kQ
  refine P.superc hx hZ hown (own_w hw 213 rfl) (own_same (y := (⟨"java/lang/AbstractStringBuilder", "append", "(I)Ljava/lang/AbstractStringBuilder;"⟩ : MethodName)) (y' := (⟨"java/lang/AbstractStringBuilder", "isLatin1", "()Z"⟩ : MethodName)) (own_w hw 214 rfl) (own_w hw 122 rfl) rfl (by decide)) (own_w hw 214 rfl) (own_w hw 63 rfl) (by decide) (OwM.back (W := 0) (rmAn l Z a0 hw sb t kt cs M pn cd NB vs z zC fm d1 d2 k1 k2 h0 n0 Z0 SA SH SL SF rf S2 hzC OL SD1 VD1 SD2 VD2 hz E_sb F_value_sb F_coder_sb F_count_sb F_mb_sb V_t hB hp0 hpM hM g_sb g_t hM0 hk4 hkb) hZ (own_w hw 216 rfl) (own_w hw 47 rfl) (own_le rfl) (own_le rfl)) (fun _ _ _ q => q.2) E_sb rfl (by rw [hml]; rfl) (own_w hw 216 rfl) (argsL := [(.int z)]) (rest := []) (lenOf pd__I_Ljava_lang_AbstractStringBuilder_ rfl) rfl (own_le rfl) (dc d42_2) rfl (own_le rfl) (own_le rfl) fun T own_v own_L h1 own_e P own_q => ?_
  obtain ⟨⟨rfl, own_r⟩, -⟩ := own_q
  show OwG p e below s _ _ _ _ T (mkF m 5 #[.val (.ref sb), .val (.int z)] [(.ref sb)])
  refine OwG.ac (mkF m 7 #[.val (.ref sb), .val (.int z)] [(.ref sb)]) (fun tQ kQ => ?_) ?_
  · refine XS.pop P.here hx rfl (dc d42_5) rfl rfl ?_
    exact XS.aloadN P.here hx rfl (dc d42_6) rfl rfl kQ
  exact P.retR hx hlk hret rfl rfl (dc d42_7) (own_le rfl) (own_le rfl) ⟨rfl, own_r⟩
abbrev bo24 := jdk_65_method_131_code
theorem d24_0 : decode bo24 0 = .ok (.iload_n 1, 1) := by decide +kernel
theorem d24_1 : decode bo24 1 = .ok (.iload_n 0, 1) := by decide +kernel
theorem d24_2 : decode bo24 2 = .ok (.if_icmp .ge 35, 3) := by decide +kernel
theorem d24_37 : decode bo24 37 = .ok (.return_, 1) := by decide +kernel
set_option maxRecDepth 65536 in
set_option maxHeartbeats 40000000 in
theorem rmCk (l : Launch) (Z : State) (a0 : Array Value) (hw : ∀ d ∈ tables_1, d.before a0 Z = true) (mm : Nat) (h0 : Heap) (n0 : Nat) (Z0 : n0 ≤ h0.size) (hm : mm ≤ 4000) :
    OwM l Z (⟨"java/util/Arrays", "checkLength", "(II)V"⟩ : MethodName) jdk_65_method_131_code 2 none ({ frames := 0, cells := 0, slots := 0, locals := 0 } : Room) n0 #[(.int 0), (.int (Int32.ofNat mm))] h0 (fun v h => v = none ∧ h = h0) := by
  refine OwM.mk (plainFor_of_name pn_java_util_Arrays) ?_
  intro p e s m below meth cD T hx hby hml hown hnm hret hlk hZ P
  have dc := @Jvm.hb cD _ hby
  refine OwG.cast (g' := mkF m 0 #[.val (.int 0), .val (.int (Int32.ofNat mm))] []) (by first | (simp [entryFrame, mkF, argsToLocals, Value.category]; done) | rfl) ?_
  refine OwG.ac (mkF m 37 #[.val (.int 0), .val (.int (Int32.ofNat mm))] []) (fun tQ kQ => ?_) ?_
  · refine XS.iloadN P.here hx rfl (dc d24_0) rfl ?_
    refine XS.iloadN P.here hx rfl (dc d24_1) rfl ?_
    exact XS.icmpYes P.here hx rfl (pc0 := 2) (pc' := 37) rfl (dc d24_2) rfl (flt (own_nn (by omega))).2.1 (by decide) (by decide) kQ
  exact P.retV hx hlk hret (dc d24_37) (own_le rfl) (own_le rfl) ⟨rfl, rfl⟩
abbrev bo23 := jdk_65_method_133_code
theorem d23_0 : decode bo23 0 = .ok (.iload_n 1, 1) := by decide +kernel
theorem d23_1 : decode bo23 1 = .ok (.iload_n 2, 1) := by decide +kernel
theorem d23_2 : decode bo23 2 = .ok (.invokestatic 343, 3) := by decide +kernel
theorem pd__II_V : parseMethodDescriptor "(II)V" = some ⟨[.int, .int], none⟩ := by decide +kernel
theorem d23_5 : decode bo23 5 = .ok (.iload_n 2, 1) := by decide +kernel
theorem d23_6 : decode bo23 6 = .ok (.iload_n 1, 1) := by decide +kernel
theorem d23_7 : decode bo23 7 = .ok (.isub, 1) := by decide +kernel
theorem d23_8 : decode bo23 8 = .ok (.istore_n 3, 1) := by decide +kernel
theorem d23_9 : decode bo23 9 = .ok (.iload_n 3, 1) := by decide +kernel
theorem d23_10 : decode bo23 10 = .ok (.newarray .byte, 2) := by decide +kernel
theorem d23_12 : decode bo23 12 = .ok (.astore 4, 2) := by decide +kernel
theorem d23_14 : decode bo23 14 = .ok (.aload_n 0, 1) := by decide +kernel
theorem d23_15 : decode bo23 15 = .ok (.iload_n 1, 1) := by decide +kernel
theorem d23_16 : decode bo23 16 = .ok (.aload 4, 2) := by decide +kernel
theorem d23_18 : decode bo23 18 = .ok (.iconst 0, 1) := by decide +kernel
theorem d23_19 : decode bo23 19 = .ok (.aload_n 0, 1) := by decide +kernel
theorem d23_20 : decode bo23 20 = .ok (.arraylength, 1) := by decide +kernel
theorem d23_21 : decode bo23 21 = .ok (.iload_n 1, 1) := by decide +kernel
theorem d23_22 : decode bo23 22 = .ok (.isub, 1) := by decide +kernel
theorem d23_23 : decode bo23 23 = .ok (.iload_n 3, 1) := by decide +kernel
theorem d23_24 : decode bo23 24 = .ok (.invokestatic 304, 3) := by decide +kernel
theorem d23_27 : decode bo23 27 = .ok (.invokestatic 150, 3) := by decide +kernel
theorem d23_30 : decode bo23 30 = .ok (.aload 4, 2) := by decide +kernel
theorem d23_32 : decode bo23 32 = .ok (.areturn, 1) := by decide +kernel
set_option maxRecDepth 65536 in
set_option maxHeartbeats 40000000 in
theorem rmCb (l : Launch) (Z : State) (a0 : Array Value) (hw : ∀ d ∈ tables_1, d.before a0 Z = true) (t : Addr) (kt : ClassId) (N mm : Nat) (vs : List Value) (h0 : Heap) (n0 : Nat) (Z0 : n0 ≤ h0.size) (V_t : Arv Z h0 t kt .byte (Int32.ofNat N) vs (.int 0)) (hvs : vs.length = N) (hm : mm < N) (hm2 : mm ≤ 280) (hN : N ≤ 4000) :
    OwM l Z (⟨"java/util/Arrays", "copyOfRangeByte", "([BII)[B"⟩ : MethodName) jdk_65_method_133_code 5 (some (.array .byte)) ({ frames := 1, cells := 1, slots := 280, locals := 18 } : Room) n0 #[(.ref t), (.int 0), (.int (Int32.ofNat mm))] h0 (fun v h => Keep h0 h [] ∧ ∃ (b : Addr) (kb : ClassId), v = some (.ref b) ∧ b = h0.size ∧ Arv Z h b kb .byte (Int32.ofNat mm) (vs.take mm) (.int 0)) := by
  refine OwM.mk (plainFor_of_name pn_java_util_Arrays) ?_
  intro p e s m below meth cD T hx hby hml hown hnm hret hlk hZ P
  have dc := @Jvm.hb cD _ hby
  refine OwG.cast (g' := mkF m 0 #[.val (.ref t), .val (.int 0), .val (.int (Int32.ofNat mm)), .unset, .unset] []) (by first | (simp [entryFrame, mkF, argsToLocals, Value.category]; done) | rfl) ?_
  have KP := Keep.refl h0 []
  refine OwG.ac (mkF m 2 #[.val (.ref t), .val (.int 0), .val (.int (Int32.ofNat mm)), .unset, .unset] [(.int (Int32.ofNat mm)), (.int 0)]) (fun tQ kQ => ?_) ?_
  · refine XS.iloadN P.here hx rfl (dc d23_0) rfl ?_
    exact XS.iloadN P.here hx rfl (dc d23_1) rfl kQ
  refine P.stat hx hZ hown (own_w hw 131 rfl) (own_w hw 132 rfl) (own_w hw 126 rfl) (own_w hw 133 rfl) (by decide) (OwM.back (W := 0) (rmCk l Z a0 hw mm h0 n0 Z0 (by omega)) hZ (own_w hw 133 rfl) (own_w hw 126 rfl) (own_le rfl) (own_le rfl)) (fun _ _ _ q => q.2) rfl (by rw [hml]; rfl) (argsL := [(.int 0), (.int (Int32.ofNat mm))]) (rest := []) (lenOf pd__II_V rfl) rfl (own_le rfl) (dc d23_2) rfl (own_le rfl) (own_le rfl) fun T own_v own_L h1 own_e P own_q => ?_
  obtain ⟨⟨rfl, own_hh⟩, -⟩ := own_q
  rw [own_hh] at P
  clear own_e own_hh
  show OwG p e below s _ _ _ _ T (mkF m 5 #[.val (.ref t), .val (.int 0), .val (.int (Int32.ofNat mm)), .unset, .unset] [])
  refine OwG.ac (mkF m 8 #[.val (.ref t), .val (.int 0), .val (.int (Int32.ofNat mm)), .unset, .unset] [(.int ((Int32.ofNat mm) - (0 : Int32)))]) (fun tQ kQ => ?_) ?_
  · refine XS.iloadN P.here hx rfl (dc d23_5) rfl ?_
    refine XS.iloadN P.here hx rfl (dc d23_6) rfl ?_
    exact XS.isub P.here hx rfl (dc d23_7) rfl kQ
  rw [show ((Int32.ofNat mm) - (0 : Int32)) = (Int32.ofNat mm) from own_sub0 _]
  refine OwG.ac (mkF m 10 #[.val (.ref t), .val (.int 0), .val (.int (Int32.ofNat mm)), .val (.int (Int32.ofNat mm)), .unset] [(.int (Int32.ofNat mm))]) (fun tQ kQ => ?_) ?_
  · refine XS.istoreN P.here hx rfl (dc d23_8) rfl (l' := #[.val (.ref t), .val (.int 0), .val (.int (Int32.ofNat mm)), .val (.int (Int32.ofNat mm)), .unset]) rfl ?_
    exact XS.iloadN P.here hx rfl (dc d23_9) rfl kQ
  refine P.newP hx hZ (own_w hw 15 rfl) rfl (dc d23_10) rfl (own_nn (by omega)) (cap := 280) (by rw [own_tc (by omega)]; omega) (by decide) (own_le rfl) (own_le rfl) fun T h2 b kb gb P E V_b => ?_
  have ne_t_b : t ≠ b := Nat.ne_of_lt (Nat.lt_of_lt_of_le V_t.lt (Nat.le_of_eq gb.symm))
  have ne_b_t := Ne.symm ne_t_b
  have g_b : n0 ≤ b := Nat.le_trans Z0 (Nat.le_of_eq gb.symm)
  have sz_b : h0.size ≤ b := Nat.le_trans KP.1 (Nat.le_of_eq gb.symm)
  replace V_t := V_t.ext E
  replace Z0 := Nat.le_trans Z0 E.1
  replace KP := KP.ext E
  clear E
  replace V_b : Arv Z h2 b kb .byte (Int32.ofNat mm) (List.replicate mm (.int 0)) (.int 0) := V_b.pad (pad_rep [] (.int 0) mm)
  show OwG p e below s _ _ _ _ T (mkF m 12 #[.val (.ref t), .val (.int 0), .val (.int (Int32.ofNat mm)), .val (.int (Int32.ofNat mm)), .unset] [(.ref b)])
  refine OwG.ac (mkF m 20 #[.val (.ref t), .val (.int 0), .val (.int (Int32.ofNat mm)), .val (.int (Int32.ofNat mm)), .val (.ref b)] [(.ref t), (.int 0), (.ref b), (.int 0), (.ref t)]) (fun tQ kQ => ?_) ?_
  · refine XS.astore P.here hx rfl (dc d23_12) rfl rfl (l' := #[.val (.ref t), .val (.int 0), .val (.int (Int32.ofNat mm)), .val (.int (Int32.ofNat mm)), .val (.ref b)]) rfl ?_
    refine XS.aloadN P.here hx rfl (dc d23_14) rfl rfl ?_
    refine XS.iloadN P.here hx rfl (dc d23_15) rfl ?_
    refine XS.aload P.here hx rfl (dc d23_16) rfl rfl ?_
    refine XS.iconst P.here hx rfl (dc d23_18) ?_
    exact XS.aloadN P.here hx rfl (dc d23_19) rfl rfl kQ
  obtain ⟨own_cl, own_A, own_q1, own_S, own_M, own_H, own_U⟩ := id V_t
  obtain ⟨own_L, own_X, own_e, own_N⟩ := id P
  have own_Z := hZ
  refine OwG.ac (mkF m 23 #[.val (.ref t), .val (.int 0), .val (.int (Int32.ofNat mm)), .val (.int (Int32.ofNat mm)), .val (.ref b)] [(.int ((Int32.ofNat N) - (0 : Int32))), (.int 0), (.ref b), (.int 0), (.ref t)]) (fun tQ kQ => ?_) ?_
  · refine own_X.arraylength hx (by rw [own_e]; exact own_A.1) (State.isArrayOf_alike own_Z.alike own_A.2.1) (g := (mkF m 20 #[.val (.ref t), .val (.int 0), .val (.int (Int32.ofNat mm)), .val (.int (Int32.ofNat mm)), .val (.ref b)] [(.ref t), (.int 0), (.ref b), (.int 0), (.ref t)])) rfl rfl (dc d23_20) _ ?_
    rw [len_of own_S own_M]
    refine XS.iloadN P.here hx rfl (dc d23_21) rfl ?_
    exact XS.isub P.here hx rfl (dc d23_22) rfl kQ
  rw [show ((Int32.ofNat N) - (0 : Int32)) = (Int32.ofNat N) from own_sub0 _]
  refine OwG.ac (mkF m 24 #[.val (.ref t), .val (.int 0), .val (.int (Int32.ofNat mm)), .val (.int (Int32.ofNat mm)), .val (.ref b)] [(.int (Int32.ofNat mm)), (.int (Int32.ofNat N)), (.int 0), (.ref b), (.int 0), (.ref t)]) (fun tQ kQ => ?_) ?_
  · exact XS.iloadN P.here hx rfl (dc d23_23) rfl kQ
  refine P.stat hx hZ hown (own_w hw 134 rfl) (own_w hw 135 rfl) (own_w hw 136 rfl) (own_w hw 137 rfl) (by decide) (OwM.back (W := 4) (rmMin l Z a0 hw (Int32.ofNat N) (Int32.ofNat mm) h2 n0 Z0) hZ (own_w hw 137 rfl) (own_w hw 136 rfl) (own_le rfl) (own_le rfl)) (fun _ _ _ q => q.2) rfl (by rw [hml]; rfl) (argsL := [(.int (Int32.ofNat N)), (.int (Int32.ofNat mm))]) (rest := [(.int 0), (.ref b), (.int 0), (.ref t)]) (lenOf pd__II_I rfl) rfl (own_le rfl) (dc d23_24) rfl (own_le rfl) (own_le rfl) fun T own_v own_L h3 own_e P own_q => ?_
  obtain ⟨⟨rfl, own_hh⟩, -⟩ := own_q
  rw [own_hh] at P
  clear own_e own_hh
  show OwG p e below s _ _ _ _ T (mkF m 27 #[.val (.ref t), .val (.int 0), .val (.int (Int32.ofNat mm)), .val (.int (Int32.ofNat mm)), .val (.ref b)] [(.int (if (Int32.ofNat mm) < (Int32.ofNat N) then (Int32.ofNat mm) else (Int32.ofNat N))), (.int 0), (.ref b), (.int 0), (.ref t)])
  rw [show (if (Int32.ofNat mm) < (Int32.ofNat N) then (Int32.ofNat mm) else (Int32.ofNat N)) = (Int32.ofNat mm) from if_pos (own_lt (by omega) (by omega))]
  refine P.cpN hx hZ hown (own_w hw 138 rfl) (own_w hw 93 rfl) (own_w hw 91 rfl) (own_w hw 92 rfl) V_t V_b (N := N) (M := mm) (sp := 0) (dp := 0) (nn := mm) (r := (vs.take mm)) (by omega) (by omega) hvs List.length_replicate (by omega) (by omega) own_head g_b rfl (by rw [hml]; rfl) rfl (dc d23_27) (own_le rfl) (W := 0) (own_le rfl) (own_le rfl) fun T h4 P K V' => ?_
  replace V_t := V_t.keep K (ninS ne_t_b nin0)
  replace Z0 := Nat.le_trans Z0 K.1
  replace KP := KP.trans K (allS (Or.inr sz_b) all0)
  have V_b := V'
  clear K V'
  show OwG p e below s _ _ _ _ T (mkF m 30 #[.val (.ref t), .val (.int 0), .val (.int (Int32.ofNat mm)), .val (.int (Int32.ofNat mm)), .val (.ref b)] [])
  refine OwG.ac (mkF m 32 #[.val (.ref t), .val (.int 0), .val (.int (Int32.ofNat mm)), .val (.int (Int32.ofNat mm)), .val (.ref b)] [(.ref b)]) (fun tQ kQ => ?_) ?_
  · exact XS.aload P.here hx rfl (dc d23_30) rfl rfl kQ
  exact P.retR hx hlk hret rfl rfl (dc d23_32) (own_le rfl) (own_le rfl) ⟨KP, b, kb, rfl, gb, V_b⟩
abbrev bo22 := jdk_65_method_132_code
theorem d22_0 : decode bo22 0 = .ok (.iload_n 1, 1) := by decide +kernel
theorem d22_1 : decode bo22 1 = .ok (.ifCond .ne 9, 3) := by decide +kernel
theorem d22_4 : decode bo22 4 = .ok (.iload_n 2, 1) := by decide +kernel
theorem d22_5 : decode bo22 5 = .ok (.aload_n 0, 1) := by decide +kernel
theorem d22_6 : decode bo22 6 = .ok (.arraylength, 1) := by decide +kernel
theorem d22_7 : decode bo22 7 = .ok (.if_icmp .eq 10, 3) := by decide +kernel
theorem d22_10 : decode bo22 10 = .ok (.aload_n 0, 1) := by decide +kernel
theorem d22_11 : decode bo22 11 = .ok (.iload_n 1, 1) := by decide +kernel
theorem d22_12 : decode bo22 12 = .ok (.iload_n 2, 1) := by decide +kernel
theorem d22_13 : decode bo22 13 = .ok (.invokestatic 339, 3) := by decide +kernel
theorem pd___BII__B : parseMethodDescriptor "([BII)[B" = some ⟨[(.array .byte), .int, .int], some (.array .byte)⟩ := by decide +kernel
theorem d22_16 : decode bo22 16 = .ok (.areturn, 1) := by decide +kernel
set_option maxRecDepth 65536 in
set_option maxHeartbeats 40000000 in
theorem rmCr (l : Launch) (Z : State) (a0 : Array Value) (hw : ∀ d ∈ tables_1, d.before a0 Z = true) (t : Addr) (kt : ClassId) (N mm : Nat) (vs : List Value) (h0 : Heap) (n0 : Nat) (Z0 : n0 ≤ h0.size) (V_t : Arv Z h0 t kt .byte (Int32.ofNat N) vs (.int 0)) (hvs : vs.length = N) (hm : mm < N) (hm2 : mm ≤ 280) (hN : N ≤ 4000) :
    OwM l Z (⟨"java/util/Arrays", "copyOfRange", "([BII)[B"⟩ : MethodName) jdk_65_method_132_code 3 (some (.array .byte)) ({ frames := 2, cells := 1, slots := 280, locals := 34 } : Room) n0 #[(.ref t), (.int 0), (.int (Int32.ofNat mm))] h0 (fun v h => Keep h0 h [] ∧ ∃ (b : Addr) (kb : ClassId), v = some (.ref b) ∧ b = h0.size ∧ Arv Z h b kb .byte (Int32.ofNat mm) (vs.take mm) (.int 0)) := by
  refine OwM.mk (plainFor_of_name pn_java_util_Arrays) ?_
  intro p e s m below meth cD T hx hby hml hown hnm hret hlk hZ P
  have dc := @Jvm.hb cD _ hby
  refine OwG.cast (g' := mkF m 0 #[.val (.ref t), .val (.int 0), .val (.int (Int32.ofNat mm))] []) (by first | (simp [entryFrame, mkF, argsToLocals, Value.category]; done) | rfl) ?_
  refine OwG.ac (mkF m 6 #[.val (.ref t), .val (.int 0), .val (.int (Int32.ofNat mm))] [(.ref t), (.int (Int32.ofNat mm))]) (fun tQ kQ => ?_) ?_
  · refine XS.iloadN P.here hx rfl (dc d22_0) rfl ?_
    refine XS.ifNo P.here hx rfl (dc d22_1) rfl ((if0 _ _).trans (teq rfl).2) ?_
    refine XS.iloadN P.here hx rfl (dc d22_4) rfl ?_
    exact XS.aloadN P.here hx rfl (dc d22_5) rfl rfl kQ
  obtain ⟨own_cl, own_A, own_q1, own_S, own_M, own_H, own_U⟩ := id V_t
  obtain ⟨own_L, own_X, own_e, own_N⟩ := id P
  have own_Z := hZ
  refine OwG.ac (mkF m 13 #[.val (.ref t), .val (.int 0), .val (.int (Int32.ofNat mm))] [(.int (Int32.ofNat mm)), (.int 0), (.ref t)]) (fun tQ kQ => ?_) ?_
  · refine own_X.arraylength hx (by rw [own_e]; exact own_A.1) (State.isArrayOf_alike own_Z.alike own_A.2.1) (g := (mkF m 6 #[.val (.ref t), .val (.int 0), .val (.int (Int32.ofNat mm))] [(.ref t), (.int (Int32.ofNat mm))])) rfl rfl (dc d22_6) _ ?_
    rw [len_of own_S own_M]
    refine XS.icmpNo P.here hx rfl (dc d22_7) rfl (feq (own_ne32 (by omega) (by omega) (by omega))).1 ?_
    refine XS.aloadN P.here hx rfl (dc d22_10) rfl rfl ?_
    refine XS.iloadN P.here hx rfl (dc d22_11) rfl ?_
    exact XS.iloadN P.here hx rfl (dc d22_12) rfl kQ
  refine P.stat hx hZ hown (own_w hw 128 rfl) (own_w hw 129 rfl) (own_w hw 126 rfl) (own_w hw 130 rfl) (by decide) (OwM.back (W := 0) (rmCb l Z a0 hw t kt N mm vs h0 n0 Z0 V_t hvs hm hm2 hN) hZ (own_w hw 130 rfl) (own_w hw 126 rfl) (own_le rfl) (own_le rfl)) (fun _ _ _ q => q.2) rfl (by rw [hml]; rfl) (argsL := [(.ref t), (.int 0), (.int (Int32.ofNat mm))]) (rest := []) (lenOf pd___BII__B rfl) rfl (own_le rfl) (dc d22_13) rfl (own_le rfl) (own_le rfl) fun T own_v own_L h1 own_e P own_q => ?_
  obtain ⟨⟨K, b, kb, rfl, own_r⟩, -⟩ := own_q
  show OwG p e below s _ _ _ _ T (mkF m 16 #[.val (.ref t), .val (.int 0), .val (.int (Int32.ofNat mm))] [(.ref b)])
  exact P.retR hx hlk hret rfl rfl (dc d22_16) (own_le rfl) (own_le rfl) ⟨K, b, kb, rfl, own_r⟩
abbrev bo18 := jdk_68_method_64_code
theorem d18_0 : decode bo18 0 = .ok (.aload_n 0, 1) := by decide +kernel
theorem d18_1 : decode bo18 1 = .ok (.getfield 15, 3) := by decide +kernel
theorem d18_4 : decode bo18 4 = .ok (.areturn, 1) := by decide +kernel
set_option maxRecDepth 65536 in
set_option maxHeartbeats 40000000 in
theorem rmGv (l : Launch) (Z : State) (a0 : Array Value) (hw : ∀ d ∈ tables_1, d.before a0 Z = true) (sb t : Addr) (h0 : Heap) (n0 : Nat) (Z0 : n0 ≤ h0.size) (F_value_sb : Fld Z h0 sb "java/lang/AbstractStringBuilder" "value" "[B" (.ref t)) :
    OwM l Z (⟨"java/lang/AbstractStringBuilder", "getValue", "()[B"⟩ : MethodName) jdk_68_method_64_code 1 (some (.array .byte)) ({ frames := 0, cells := 0, slots := 0, locals := 0 } : Room) n0 #[(.ref sb)] h0 (fun v h => v = some (.ref t) ∧ h = h0) := by
  refine OwM.mk (plainFor_of_name pn_java_lang_AbstractStringBuilder) ?_
  intro p e s m below meth cD T hx hby hml hown hnm hret hlk hZ P
  have dc := @Jvm.hb cD _ hby
  refine OwG.cast (g' := mkF m 0 #[.val (.ref sb)] []) (by first | (simp [entryFrame, mkF, argsToLocals, Value.category]; done) | rfl) ?_
  refine OwG.ac (mkF m 1 #[.val (.ref sb)] [(.ref sb)]) (fun tQ kQ => ?_) ?_
  · exact XS.aloadN P.here hx rfl (dc d18_0) rfl rfl kQ
  refine P.getF hx hZ hown (host := "") (Or.inl (own_w hw 51 rfl)) Via.refl F_value_sb rfl rfl (dc d18_1) fun T P => ?_
  show OwG p e below s _ _ _ _ T (mkF m 4 #[.val (.ref sb)] [(.ref t)])
  exact P.retR hx hlk hret rfl rfl (dc d18_4) (own_le rfl) (own_le rfl) ⟨rfl, rfl⟩
abbrev bo20 := jdk_68_method_6_code
theorem d20_0 : decode bo20 0 = .ok (.aload_n 0, 1) := by decide +kernel
theorem d20_1 : decode bo20 1 = .ok (.getfield 79, 3) := by decide +kernel
theorem d20_4 : decode bo20 4 = .ok (.ireturn, 1) := by decide +kernel
set_option maxRecDepth 65536 in
set_option maxHeartbeats 40000000 in
theorem rmLn (l : Launch) (Z : State) (a0 : Array Value) (hw : ∀ d ∈ tables_1, d.before a0 Z = true) (sb : Addr) (z : Int32) (h0 : Heap) (n0 : Nat) (Z0 : n0 ≤ h0.size) (F : Fld Z h0 sb "java/lang/AbstractStringBuilder" "count" "I" (.int z)) :
    OwM l Z (⟨"java/lang/AbstractStringBuilder", "length", "()I"⟩ : MethodName) jdk_68_method_6_code 1 (some .int) ({ frames := 0, cells := 0, slots := 0, locals := 0 } : Room) n0 #[(.ref sb)] h0 (fun v h => v = some (.int z) ∧ h = h0) := by
  refine OwM.mk (plainFor_of_name pn_java_lang_AbstractStringBuilder) ?_
  intro p e s m below meth cD T hx hby hml hown hnm hret hlk hZ P
  have dc := @Jvm.hb cD _ hby
  refine OwG.cast (g' := mkF m 0 #[.val (.ref sb)] []) (by first | (simp [entryFrame, mkF, argsToLocals, Value.category]; done) | rfl) ?_
  refine OwG.ac (mkF m 1 #[.val (.ref sb)] [(.ref sb)]) (fun tQ kQ => ?_) ?_
  · exact XS.aloadN P.here hx rfl (dc d20_0) rfl rfl kQ
  refine P.getF hx hZ hown (host := "") (Or.inl (own_w hw 67 rfl)) Via.refl F rfl rfl (dc d20_1) fun T P => ?_
  show OwG p e below s _ _ _ _ T (mkF m 4 #[.val (.ref sb)] [(.int z)])
  exact P.retI hx hlk hret (dc d20_4) (own_le rfl) (own_le rfl) ⟨rfl, rfl⟩
abbrev bo19 := jdk_67_method_93_code
theorem d19_0 : decode bo19 0 = .ok (.aload_n 0, 1) := by decide +kernel
theorem d19_1 : decode bo19 1 = .ok (.invokespecial 343, 3) := by decide +kernel
theorem d19_4 : decode bo19 4 = .ok (.ireturn, 1) := by decide +kernel
set_option maxRecDepth 65536 in
set_option maxHeartbeats 40000000 in
theorem rmSl (l : Launch) (Z : State) (a0 : Array Value) (hw : ∀ d ∈ tables_1, d.before a0 Z = true) (sb : Addr) (z : Int32) (h0 : Heap) (n0 : Nat) (Z0 : n0 ≤ h0.size) (E_sb : Exa Z h0 sb "java/lang/StringBuilder") (F : Fld Z h0 sb "java/lang/AbstractStringBuilder" "count" "I" (.int z)) :
    OwM l Z (⟨"java/lang/StringBuilder", "length", "()I"⟩ : MethodName) jdk_67_method_93_code 1 (some .int) ({ frames := 1, cells := 0, slots := 0, locals := 12 } : Room) n0 #[(.ref sb)] h0 (fun v h => v = some (.int z) ∧ h = h0) := by
  refine OwM.mk (plainFor_of_name pn_java_lang_StringBuilder) ?_
  intro p e s m below meth cD T hx hby hml hown hnm hret hlk hZ P
  have dc := @Jvm.hb cD _ hby
  refine OwG.cast (g' := mkF m 0 #[.val (.ref sb)] []) (by first | (simp [entryFrame, mkF, argsToLocals, Value.category]; done) | rfl) ?_
  refine OwG.ac (mkF m 1 #[.val (.ref sb)] [(.ref sb)]) (fun tQ kQ => ?_) ?_
  · exact XS.aloadN P.here hx rfl (dc d19_0) rfl rfl kQ
  refine P.superc hx hZ hown (own_w hw 117 rfl) (own_same (y := (⟨"java/lang/AbstractStringBuilder", "length", "()I"⟩ : MethodName)) (y' := (⟨"java/lang/AbstractStringBuilder", "isLatin1", "()Z"⟩ : MethodName)) (own_w hw 113 rfl) (own_w hw 122 rfl) rfl (by decide)) (own_w hw 113 rfl) (own_w hw 63 rfl) (by decide) (OwM.back (W := 0) (rmLn l Z a0 hw sb z h0 n0 Z0 F) hZ (own_w hw 118 rfl) (own_w hw 47 rfl) (own_le rfl) (own_le rfl)) (fun _ _ _ q => q.2) E_sb rfl (by rw [hml]; rfl) (own_w hw 118 rfl) (argsL := []) (rest := []) (lenOf pd___I rfl) rfl (own_le rfl) (dc d19_1) rfl (own_le rfl) (own_le rfl) fun T own_v own_L h1 own_e P own_q => ?_
  obtain ⟨⟨rfl, own_hh⟩, -⟩ := own_q
  rw [own_hh] at P
  clear own_e own_hh
  show OwG p e below s _ _ _ _ T (mkF m 4 #[.val (.ref sb)] [(.int z)])
  exact P.retI hx hlk hret (dc d19_4) (own_le rfl) (own_le rfl) ⟨rfl, rfl⟩
abbrev bo17 := jdk_42_method_150_code
theorem d17_0 : decode bo17 0 = .ok (.aload_n 0, 1) := by decide +kernel
theorem d17_1 : decode bo17 1 = .ok (.invokespecial 1, 3) := by decide +kernel
theorem d17_4 : decode bo17 4 = .ok (.aload_n 1, 1) := by decide +kernel
theorem d17_5 : decode bo17 5 = .ok (.invokevirtual 552, 3) := by decide +kernel
theorem pd____B : parseMethodDescriptor "()[B" = some ⟨[], some (.array .byte)⟩ := by decide +kernel
theorem d17_8 : decode bo17 8 = .ok (.astore_n 3, 1) := by decide +kernel
theorem d17_9 : decode bo17 9 = .ok (.aload_n 1, 1) := by decide +kernel
theorem d17_10 : decode bo17 10 = .ok (.invokevirtual 549, 3) := by decide +kernel
theorem d17_13 : decode bo17 13 = .ok (.istore 4, 2) := by decide +kernel
theorem d17_15 : decode bo17 15 = .ok (.aload_n 1, 1) := by decide +kernel
theorem d17_16 : decode bo17 16 = .ok (.invokevirtual 1047, 3) := by decide +kernel
theorem d17_19 : decode bo17 19 = .ok (.ifCond .eq 22, 3) := by decide +kernel
theorem d17_22 : decode bo17 22 = .ok (.aload_n 0, 1) := by decide +kernel
theorem d17_23 : decode bo17 23 = .ok (.iconst 0, 1) := by decide +kernel
theorem d17_24 : decode bo17 24 = .ok (.putfield 15, 3) := by decide +kernel
theorem d17_27 : decode bo17 27 = .ok (.aload_n 0, 1) := by decide +kernel
theorem d17_28 : decode bo17 28 = .ok (.aload_n 3, 1) := by decide +kernel
theorem d17_29 : decode bo17 29 = .ok (.iconst 0, 1) := by decide +kernel
theorem d17_30 : decode bo17 30 = .ok (.iload 4, 2) := by decide +kernel
theorem d17_32 : decode bo17 32 = .ok (.invokestatic 54, 3) := by decide +kernel
theorem d17_35 : decode bo17 35 = .ok (.putfield 9, 3) := by decide +kernel
theorem d17_38 : decode bo17 38 = .ok (.goto 59, 3) := by decide +kernel
theorem d17_97 : decode bo17 97 = .ok (.return_, 1) := by decide +kernel
theorem d17_41 : decode bo17 41 = .ok (.getstatic 38, 3) := by decide +kernel
theorem d17_44 : decode bo17 44 = .ok (.ifCond .eq 35, 3) := by decide +kernel
theorem d17_47 : decode bo17 47 = .ok (.aload_n 1, 1) := by decide +kernel
theorem d17_48 : decode bo17 48 = .ok (.getfield 1048, 3) := by decide +kernel
theorem d17_51 : decode bo17 51 = .ok (.ifCond .eq 28, 3) := by decide +kernel
theorem d17_79 : decode bo17 79 = .ok (.aload_n 0, 1) := by decide +kernel
theorem d17_80 : decode bo17 80 = .ok (.iconst 1, 1) := by decide +kernel
theorem d17_81 : decode bo17 81 = .ok (.putfield 15, 3) := by decide +kernel
theorem d17_84 : decode bo17 84 = .ok (.aload_n 0, 1) := by decide +kernel
theorem d17_85 : decode bo17 85 = .ok (.aload_n 3, 1) := by decide +kernel
theorem d17_86 : decode bo17 86 = .ok (.iconst 0, 1) := by decide +kernel
theorem d17_87 : decode bo17 87 = .ok (.iload 4, 2) := by decide +kernel
theorem d17_89 : decode bo17 89 = .ok (.iconst 1, 1) := by decide +kernel
theorem d17_90 : decode bo17 90 = .ok (.ishl, 1) := by decide +kernel
theorem d17_91 : decode bo17 91 = .ok (.invokestatic 54, 3) := by decide +kernel
theorem d17_94 : decode bo17 94 = .ok (.putfield 9, 3) := by decide +kernel
set_option maxRecDepth 65536 in
set_option maxHeartbeats 40000000 in
theorem rmT2 (l : Launch) (Z : State) (a0 : Array Value) (hw : ∀ d ∈ tables_1, d.before a0 Z = true) (sb t : Addr) (kt : ClassId) (cs : List Int32) (M pn : Nat) (cd NB : Int32) (vs : List Value) (x : Addr) (zC : Int32) (h0 : Heap) (n0 : Nat) (Z0 : n0 ≤ h0.size) (S2 : Sta Z Z.heap "java/lang/String" "COMPACT_STRINGS" "Z" (.int zC)) (hzC : ¬ zC = 0) (OL : Old Z n0 h0) (E_sb : Exa Z h0 sb "java/lang/StringBuilder") (F_value_sb : Fld Z h0 sb "java/lang/AbstractStringBuilder" "value" "[B" (.ref t)) (F_coder_sb : Fld Z h0 sb "java/lang/AbstractStringBuilder" "coder" "B" (.int cd)) (F_count_sb : Fld Z h0 sb "java/lang/AbstractStringBuilder" "count" "I" (.int (Int32.ofNat pn))) (F_mb_sb : Fld Z h0 sb "java/lang/AbstractStringBuilder" "maybeLatin1" "Z" (.int 0)) (V_t : Arv Z h0 t kt .byte NB vs (.int 0)) (hB : own_BC cs M cd NB vs) (hp0 : cs.length = pn) (hpM : pn < M) (hM : M ≤ 140) (g_x : n0 ≤ x) (E_x : Exa Z h0 x "java/lang/String") (F_coder_x : Fld Z h0 x "java/lang/String" "coder" "B" (.int 0)) (F_value_x : Fld Z h0 x "java/lang/String" "value" "[B" .null) :
    OwM l Z (⟨"java/lang/String", "<init>", "(Ljava/lang/AbstractStringBuilder;Ljava/lang/Void;)V"⟩ : MethodName) jdk_42_method_150_code 5 none ({ frames := 3, cells := 1, slots := 280, locals := 49 } : Room) n0 #[(.ref x), (.ref sb), .null] h0 (fun v h => v = none ∧ Keep h0 h [x] ∧ ∃ (u : Addr) (ku : ClassId) (N2 : Int32) (ws : List Value), h0.size ≤ u ∧ Fld Z h x "java/lang/String" "value" "[B" (.ref u) ∧ Fld Z h x "java/lang/String" "coder" "B" (.int cd) ∧ Arv Z h u ku .byte N2 ws (.int 0) ∧ StrChars.Road.CodA cs cd N2 ws) := by
  refine OwM.mk (plainFor_of_name pn_java_lang_String) ?_
  intro p e s m below meth cD T hx hby hml hown hnm hret hlk hZ P
  have dc := @Jvm.hb cD _ hby
  refine OwG.cast (g' := mkF m 0 #[.val (.ref x), .val (.ref sb), .val .null, .unset, .unset] []) (by first | (simp [entryFrame, mkF, argsToLocals, Value.category]; done) | rfl) ?_
  have KP := Keep.refl h0 [x]
  have ne_x_t := Exa.neArv E_x V_t (own_w hw 2 rfl)
  have ne_t_x := Ne.symm ne_x_t
  have own_x := E_x.lt
  refine OwG.ac (mkF m 1 #[.val (.ref x), .val (.ref sb), .val .null, .unset, .unset] [(.ref x)]) (fun tQ kQ => ?_) ?_
  · exact XS.aloadN P.here hx rfl (dc d17_0) rfl rfl kQ
  refine P.initO hx hZ hown (own_w hw 11 rfl) (own_w hw 12 rfl) (own_w hw 13 rfl) rfl (by rw [hml]; rfl) rfl (dc d17_1) (own_le rfl) (W := 0) (own_le rfl) (own_le rfl) fun T P => ?_
  show OwG p e below s _ _ _ _ T (mkF m 4 #[.val (.ref x), .val (.ref sb), .val .null, .unset, .unset] [])
  refine OwG.ac (mkF m 5 #[.val (.ref x), .val (.ref sb), .val .null, .unset, .unset] [(.ref sb)]) (fun tQ kQ => ?_) ?_
  · exact XS.aloadN P.here hx rfl (dc d17_4) rfl rfl kQ
  refine P.virtual hx hZ hown (own_w hw 106 rfl) (own_w hw 107 rfl) (own_w hw 109 rfl) (own_w hw 108 rfl) (by decide) (OwM.back (W := 0) (rmGv l Z a0 hw sb t h0 n0 Z0 F_value_sb) hZ (own_w hw 110 rfl) (own_w hw 47 rfl) (own_le rfl) (own_le rfl)) (fun _ _ _ q => q.2) E_sb rfl (by rw [hml]; rfl) (argsL := []) (rest := []) (lenOf pd____B rfl) rfl (own_le rfl) (dc d17_5) rfl (own_le rfl) (own_le rfl) fun T own_v own_L h1 own_e P own_q => ?_
  obtain ⟨⟨rfl, own_hh⟩, -⟩ := own_q
  rw [own_hh] at P
  clear own_e own_hh
  show OwG p e below s _ _ _ _ T (mkF m 8 #[.val (.ref x), .val (.ref sb), .val .null, .unset, .unset] [(.ref t)])
  refine OwG.ac (mkF m 10 #[.val (.ref x), .val (.ref sb), .val .null, .val (.ref t), .unset] [(.ref sb)]) (fun tQ kQ => ?_) ?_
  · refine XS.astoreN P.here hx rfl (dc d17_8) rfl rfl (l' := #[.val (.ref x), .val (.ref sb), .val .null, .val (.ref t), .unset]) rfl ?_
    exact XS.aloadN P.here hx rfl (dc d17_9) rfl rfl kQ
  refine P.virtualN hx hZ hown (own_w hw 111 rfl) (own_w hw 112 rfl) (own_nf (y := (⟨"java/lang/AbstractStringBuilder", "length", "()I"⟩ : MethodName)) (y' := (⟨"java/lang/AbstractStringBuilder", "isLatin1", "()Z"⟩ : MethodName)) (own_w hw 122 rfl) rfl) (own_w hw 114 rfl) (own_w hw 115 rfl) (by decide) (OwM.back (W := 0) (rmSl l Z a0 hw sb (Int32.ofNat pn) h0 n0 Z0 E_sb F_count_sb) hZ (own_w hw 116 rfl) (own_w hw 39 rfl) (own_le rfl) (own_le rfl)) (fun _ _ _ q => q.2) E_sb rfl (by rw [hml]; rfl) (argsL := []) (rest := []) (lenOf pd___I rfl) rfl (own_le rfl) (dc d17_10) rfl (own_le rfl) (own_le rfl) fun T own_v own_L h2 own_e P own_q => ?_
  obtain ⟨⟨rfl, own_hh⟩, -⟩ := own_q
  rw [own_hh] at P
  clear own_e own_hh
  show OwG p e below s _ _ _ _ T (mkF m 13 #[.val (.ref x), .val (.ref sb), .val .null, .val (.ref t), .unset] [(.int (Int32.ofNat pn))])
  refine OwG.ac (mkF m 16 #[.val (.ref x), .val (.ref sb), .val .null, .val (.ref t), .val (.int (Int32.ofNat pn))] [(.ref sb)]) (fun tQ kQ => ?_) ?_
  · refine XS.istore P.here hx rfl (dc d17_13) rfl (l' := #[.val (.ref x), .val (.ref sb), .val .null, .val (.ref t), .val (.int (Int32.ofNat pn))]) rfl ?_
    exact XS.aloadN P.here hx rfl (dc d17_15) rfl rfl kQ
  rcases hB with ⟨rfl, rfl, rfl, ha⟩ | ⟨rfl, rfl, rfl, ha⟩
  ·skip
   refine P.virtual hx hZ hown (own_w hw 119 rfl) (own_w hw 120 rfl) (own_w hw 122 rfl) (own_w hw 121 rfl) (by decide) (OwM.back (W := 0) (rmIl l Z a0 hw sb (0 : Int32) zC h0 n0 Z0 S2 hzC OL F_coder_sb) hZ (own_w hw 123 rfl) (own_w hw 47 rfl) (own_le rfl) (own_le rfl)) (fun _ _ _ q => q.2) E_sb rfl (by rw [hml]; rfl) (argsL := []) (rest := []) (lenOf pd___Z rfl) rfl (own_le rfl) (dc d17_16) rfl (own_le rfl) (own_le rfl) fun T own_v own_L h3 own_e P own_q => ?_
   obtain ⟨⟨rfl, own_hh⟩, -⟩ := own_q
   rw [own_hh] at P
   clear own_e own_hh
   show OwG p e below s _ _ _ _ T (mkF m 19 #[.val (.ref x), .val (.ref sb), .val .null, .val (.ref t), .val (.int (Int32.ofNat pn))] [(.int (if (0 : Int32) = 0 then 1 else 0))])
   refine OwG.ac (mkF m 24 #[.val (.ref x), .val (.ref sb), .val .null, .val (.ref t), .val (.int (Int32.ofNat pn))] [(.int 0), (.ref x)]) (fun tQ kQ => ?_) ?_
   · refine XS.ifNo P.here hx rfl (dc d17_19) rfl ((if0 _ _).trans (feq (by decide)).1) ?_
     refine XS.aloadN P.here hx rfl (dc d17_22) rfl rfl ?_
     exact XS.iconst P.here hx rfl (dc d17_23) kQ
   refine P.putFN hx hZ hown (own_w hw 21 rfl) Via.refl F_coder_x E_x (Or.inr ⟨(own_w hw 17 rfl), rfl, hnm⟩) (own_w hw 2 rfl) (ty := .byte) (v' := (.int 0)) (by decide) rfl rfl rfl rfl (dc d17_24) g_x fun T h4 P W => ?_
   replace E_x := E_x.wr W
   replace F_coder_x := F_coder_x.same W
   replace F_value_x := F_value_x.other W (Or.inr (slot_ne (Or.inr (own_w hw 16 rfl)) (Or.inr (own_w hw 17 rfl)) (by decide) (t := (.array .byte)) (t' := .byte) (by decide) (by decide)))
   replace V_t := V_t.other W ne_t_x
   replace Z0 := Nat.le_trans Z0 (Keep.of_wr W).1
   replace OL := OL.wr W g_x
   replace KP := KP.wr W (Or.inl (List.mem_of_getElem? (i := 0) rfl))
   clear W
   show OwG p e below s _ _ _ _ T (mkF m 27 #[.val (.ref x), .val (.ref sb), .val .null, .val (.ref t), .val (.int (Int32.ofNat pn))] [])
   refine OwG.ac (mkF m 32 #[.val (.ref x), .val (.ref sb), .val .null, .val (.ref t), .val (.int (Int32.ofNat pn))] [(.int (Int32.ofNat pn)), (.int 0), (.ref t), (.ref x)]) (fun tQ kQ => ?_) ?_
   · refine XS.aloadN P.here hx rfl (dc d17_27) rfl rfl ?_
     refine XS.aloadN P.here hx rfl (dc d17_28) rfl rfl ?_
     refine XS.iconst P.here hx rfl (dc d17_29) ?_
     exact XS.iload P.here hx rfl (dc d17_30) rfl kQ
   refine P.stat hx hZ hown (own_w hw 124 rfl) (own_w hw 125 rfl) (own_w hw 126 rfl) (own_w hw 127 rfl) (by decide) (OwM.back (W := 1) (rmCr l Z a0 hw t kt M pn _ h4 n0 Z0 V_t (own_pl_len (by omega)) (by omega) (by omega) (by omega)) hZ (own_w hw 127 rfl) (own_w hw 126 rfl) (own_le rfl) (own_le rfl)) (fun _ _ _ q => q.2) rfl (by rw [hml]; rfl) (argsL := [(.ref t), (.int 0), (.int (Int32.ofNat pn))]) (rest := [(.ref x)]) (lenOf pd___BII__B rfl) rfl (own_le rfl) (dc d17_32) rfl (own_le rfl) (own_le rfl) fun T own_v own_L h5 own_e P own_q => ?_
   obtain ⟨⟨K, u, ku, rfl, gu, V_u⟩, -⟩ := own_q
   show OwG p e below s _ _ _ _ T (mkF m 35 #[.val (.ref x), .val (.ref sb), .val .null, .val (.ref t), .val (.int (Int32.ofNat pn))] [(.ref u), (.ref x)])
   clear own_e
   have ne_x_u : x ≠ u := Nat.ne_of_lt (Nat.lt_of_lt_of_le E_x.lt (Nat.le_of_eq gu.symm))
   have ne_u_x := Ne.symm ne_x_u
   have ne_t_u : t ≠ u := Nat.ne_of_lt (Nat.lt_of_lt_of_le V_t.lt (Nat.le_of_eq gu.symm))
   have ne_u_t := Ne.symm ne_t_u
   have g_u : n0 ≤ u := Nat.le_trans Z0 (Nat.le_of_eq gu.symm)
   have sz_u : h0.size ≤ u := Nat.le_trans KP.1 (Nat.le_of_eq gu.symm)
   replace E_x := E_x.keep K
   replace F_coder_x := F_coder_x.keep K nin0
   replace F_value_x := F_value_x.keep K nin0
   replace V_t := V_t.keep K nin0
   replace Z0 := Nat.le_trans Z0 K.1
   replace OL := OL.keep K all0
   replace KP := KP.trans K all0
   refine P.putF hx hZ hown (host := "") (Or.inl (own_w hw 20 rfl)) Via.refl F_value_x E_x (Or.inr ⟨(own_w hw 16 rfl), rfl, hnm⟩) (own_w hw 2 rfl) (ty := (.array .byte)) (by decide) rfl rfl rfl rfl (dc d17_35) g_x fun T h6 P W => ?_
   replace E_x := E_x.wr W
   replace F_coder_x := F_coder_x.other W (Or.inr (slot_ne (Or.inr (own_w hw 17 rfl)) (Or.inr (own_w hw 16 rfl)) (by decide) (t := .byte) (t' := (.array .byte)) (by decide) (by decide)))
   replace F_value_x := F_value_x.same W
   replace V_t := V_t.other W ne_t_x
   replace V_u := V_u.other W ne_u_x
   replace Z0 := Nat.le_trans Z0 (Keep.of_wr W).1
   replace OL := OL.wr W g_x
   replace KP := KP.wr W (Or.inl (List.mem_of_getElem? (i := 0) rfl))
   clear W
   show OwG p e below s _ _ _ _ T (mkF m 38 #[.val (.ref x), .val (.ref sb), .val .null, .val (.ref t), .val (.int (Int32.ofNat pn))] [])
   refine OwG.ac (mkF m 97 #[.val (.ref x), .val (.ref sb), .val .null, .val (.ref t), .val (.int (Int32.ofNat pn))] []) (fun tQ kQ => ?_) ?_
   · exact XS.goto P.here hx rfl (pc0 := 38) (pc' := 97) rfl (dc d17_38) (by decide) (by decide) kQ
   rw [own_plt hp0] at V_u
   exact P.retV hx hlk hret (dc d17_97) (own_le rfl) (own_le rfl) ⟨rfl, KP, u, ku, _, _, sz_u, F_value_x, F_coder_x, V_u, Or.inl ⟨rfl, by rw [hp0], rfl, ha⟩⟩
  ·skip
   refine P.virtual hx hZ hown (own_w hw 119 rfl) (own_w hw 120 rfl) (own_w hw 122 rfl) (own_w hw 121 rfl) (by decide) (OwM.back (W := 0) (rmIl l Z a0 hw sb (1 : Int32) zC h0 n0 Z0 S2 hzC OL F_coder_sb) hZ (own_w hw 123 rfl) (own_w hw 47 rfl) (own_le rfl) (own_le rfl)) (fun _ _ _ q => q.2) E_sb rfl (by rw [hml]; rfl) (argsL := []) (rest := []) (lenOf pd___Z rfl) rfl (own_le rfl) (dc d17_16) rfl (own_le rfl) (own_le rfl) fun T own_v own_L h7 own_e P own_q => ?_
   obtain ⟨⟨rfl, own_hh⟩, -⟩ := own_q
   rw [own_hh] at P
   clear own_e own_hh
   show OwG p e below s _ _ _ _ T (mkF m 19 #[.val (.ref x), .val (.ref sb), .val .null, .val (.ref t), .val (.int (Int32.ofNat pn))] [(.int (if (1 : Int32) = 0 then 1 else 0))])
   refine OwG.ac (mkF m 41 #[.val (.ref x), .val (.ref sb), .val .null, .val (.ref t), .val (.int (Int32.ofNat pn))] []) (fun tQ kQ => ?_) ?_
   · exact XS.ifYes P.here hx rfl (pc0 := 19) (pc' := 41) rfl (dc d17_19) rfl ((if0 _ _).trans (teq (by decide)).1) (by decide) (by decide) kQ
   refine P.getS hx hZ hown (host := "") (Or.inl (own_w hw 36 rfl)) Via.refl (S2.ext OL.2) rfl (dc d17_41) fun T P => ?_
   show OwG p e below s _ _ _ _ T (mkF m 44 #[.val (.ref x), .val (.ref sb), .val .null, .val (.ref t), .val (.int (Int32.ofNat pn))] [(.int zC)])
   refine OwG.ac (mkF m 48 #[.val (.ref x), .val (.ref sb), .val .null, .val (.ref t), .val (.int (Int32.ofNat pn))] [(.ref sb)]) (fun tQ kQ => ?_) ?_
   · refine XS.ifNo P.here hx rfl (dc d17_44) rfl ((if0 _ _).trans (feq hzC).1) ?_
     exact XS.aloadN P.here hx rfl (dc d17_47) rfl rfl kQ
   refine P.getF hx hZ hown (host := "") (Or.inl (own_w hw 272 rfl)) Via.refl F_mb_sb rfl rfl (dc d17_48) fun T P => ?_
   show OwG p e below s _ _ _ _ T (mkF m 51 #[.val (.ref x), .val (.ref sb), .val .null, .val (.ref t), .val (.int (Int32.ofNat pn))] [(.int 0)])
   refine OwG.ac (mkF m 81 #[.val (.ref x), .val (.ref sb), .val .null, .val (.ref t), .val (.int (Int32.ofNat pn))] [(.int 1), (.ref x)]) (fun tQ kQ => ?_) ?_
   · refine XS.ifYes P.here hx rfl (pc0 := 51) (pc' := 79) rfl (dc d17_51) rfl ((if0 _ _).trans (teq rfl).1) (by decide) (by decide) ?_
     refine XS.aloadN P.here hx rfl (dc d17_79) rfl rfl ?_
     exact XS.iconst P.here hx rfl (dc d17_80) kQ
   refine P.putFN hx hZ hown (own_w hw 21 rfl) Via.refl F_coder_x E_x (Or.inr ⟨(own_w hw 17 rfl), rfl, hnm⟩) (own_w hw 2 rfl) (ty := .byte) (v' := (.int 1)) (by decide) rfl rfl rfl rfl (dc d17_81) g_x fun T h8 P W => ?_
   replace E_x := E_x.wr W
   replace F_coder_x := F_coder_x.same W
   replace F_value_x := F_value_x.other W (Or.inr (slot_ne (Or.inr (own_w hw 16 rfl)) (Or.inr (own_w hw 17 rfl)) (by decide) (t := (.array .byte)) (t' := .byte) (by decide) (by decide)))
   replace V_t := V_t.other W ne_t_x
   replace Z0 := Nat.le_trans Z0 (Keep.of_wr W).1
   replace OL := OL.wr W g_x
   replace KP := KP.wr W (Or.inl (List.mem_of_getElem? (i := 0) rfl))
   clear W
   show OwG p e below s _ _ _ _ T (mkF m 84 #[.val (.ref x), .val (.ref sb), .val .null, .val (.ref t), .val (.int (Int32.ofNat pn))] [])
   refine OwG.ac (mkF m 91 #[.val (.ref x), .val (.ref sb), .val .null, .val (.ref t), .val (.int (Int32.ofNat pn))] [(.int ((Int32.ofNat pn) <<< ((1 : Int32) &&& 31))), (.int 0), (.ref t), (.ref x)]) (fun tQ kQ => ?_) ?_
   · refine XS.aloadN P.here hx rfl (dc d17_84) rfl rfl ?_
     refine XS.aloadN P.here hx rfl (dc d17_85) rfl rfl ?_
     refine XS.iconst P.here hx rfl (dc d17_86) ?_
     refine XS.iload P.here hx rfl (dc d17_87) rfl ?_
     refine XS.iconst P.here hx rfl (dc d17_89) ?_
     exact XS.ishl P.here hx rfl (dc d17_90) rfl kQ
   rw [show ((Int32.ofNat pn) <<< ((1 : Int32) &&& 31)) = (Int32.ofNat (2 * pn)) from own_shl1 (by omega)]
   refine P.stat hx hZ hown (own_w hw 124 rfl) (own_w hw 125 rfl) (own_w hw 126 rfl) (own_w hw 127 rfl) (by decide) (OwM.back (W := 1) (rmCr l Z a0 hw t kt (2 * M) (2 * pn) _ h8 n0 Z0 V_t (own_pw_len (by omega)) (by omega) (by omega) (by omega)) hZ (own_w hw 127 rfl) (own_w hw 126 rfl) (own_le rfl) (own_le rfl)) (fun _ _ _ q => q.2) rfl (by rw [hml]; rfl) (argsL := [(.ref t), (.int 0), (.int (Int32.ofNat (2 * pn)))]) (rest := [(.ref x)]) (lenOf pd___BII__B rfl) rfl (own_le rfl) (dc d17_91) rfl (own_le rfl) (own_le rfl) fun T own_v own_L h9 own_e P own_q => ?_
   obtain ⟨⟨K, u, ku, rfl, gu, V_u⟩, -⟩ := own_q
   show OwG p e below s _ _ _ _ T (mkF m 94 #[.val (.ref x), .val (.ref sb), .val .null, .val (.ref t), .val (.int (Int32.ofNat pn))] [(.ref u), (.ref x)])
   clear own_e
   have ne_x_u : x ≠ u := Nat.ne_of_lt (Nat.lt_of_lt_of_le E_x.lt (Nat.le_of_eq gu.symm))
   have ne_u_x := Ne.symm ne_x_u
   have ne_t_u : t ≠ u := Nat.ne_of_lt (Nat.lt_of_lt_of_le V_t.lt (Nat.le_of_eq gu.symm))
   have ne_u_t := Ne.symm ne_t_u
   have g_u : n0 ≤ u := Nat.le_trans Z0 (Nat.le_of_eq gu.symm)
   have sz_u : h0.size ≤ u := Nat.le_trans KP.1 (Nat.le_of_eq gu.symm)
   replace E_x := E_x.keep K
   replace F_coder_x := F_coder_x.keep K nin0
   replace F_value_x := F_value_x.keep K nin0
   replace V_t := V_t.keep K nin0
   replace Z0 := Nat.le_trans Z0 K.1
   replace OL := OL.keep K all0
   replace KP := KP.trans K all0
   refine P.putF hx hZ hown (host := "") (Or.inl (own_w hw 20 rfl)) Via.refl F_value_x E_x (Or.inr ⟨(own_w hw 16 rfl), rfl, hnm⟩) (own_w hw 2 rfl) (ty := (.array .byte)) (by decide) rfl rfl rfl rfl (dc d17_94) g_x fun T h10 P W => ?_
   replace E_x := E_x.wr W
   replace F_coder_x := F_coder_x.other W (Or.inr (slot_ne (Or.inr (own_w hw 17 rfl)) (Or.inr (own_w hw 16 rfl)) (by decide) (t := .byte) (t' := (.array .byte)) (by decide) (by decide)))
   replace F_value_x := F_value_x.same W
   replace V_t := V_t.other W ne_t_x
   replace V_u := V_u.other W ne_u_x
   replace Z0 := Nat.le_trans Z0 (Keep.of_wr W).1
   replace OL := OL.wr W g_x
   replace KP := KP.wr W (Or.inl (List.mem_of_getElem? (i := 0) rfl))
   clear W
   show OwG p e below s _ _ _ _ T (mkF m 97 #[.val (.ref x), .val (.ref sb), .val .null, .val (.ref t), .val (.int (Int32.ofNat pn))] [])
   rw [own_pwt hp0] at V_u
   exact P.retV hx hlk hret (dc d17_97) (own_le rfl) (own_le rfl) ⟨rfl, KP, u, ku, _, _, sz_u, F_value_x, F_coder_x, V_u, Or.inr ⟨rfl, by rw [hp0], rfl, ha⟩⟩
abbrev bo16 := jdk_42_method_53_code
theorem d16_0 : decode bo16 0 = .ok (.aload_n 0, 1) := by decide +kernel
theorem d16_1 : decode bo16 1 = .ok (.aload_n 1, 1) := by decide +kernel
theorem d16_2 : decode bo16 2 = .ok (.aconst_null, 1) := by decide +kernel
theorem d16_3 : decode bo16 3 = .ok (.invokespecial 489, 3) := by decide +kernel
theorem pd__Ljava_lang_AbstractStringBuilder_Ljava_lang_Void__V : parseMethodDescriptor "(Ljava/lang/AbstractStringBuilder;Ljava/lang/Void;)V" = some ⟨[(.object "java/lang/AbstractStringBuilder"), (.object "java/lang/Void")], none⟩ := by decide +kernel
theorem d16_6 : decode bo16 6 = .ok (.return_, 1) := by decide +kernel
set_option maxRecDepth 65536 in
set_option maxHeartbeats 40000000 in
theorem rmT1 (l : Launch) (Z : State) (a0 : Array Value) (hw : ∀ d ∈ tables_1, d.before a0 Z = true) (sb t : Addr) (kt : ClassId) (cs : List Int32) (M pn : Nat) (cd NB : Int32) (vs : List Value) (x : Addr) (zC : Int32) (h0 : Heap) (n0 : Nat) (Z0 : n0 ≤ h0.size) (S2 : Sta Z Z.heap "java/lang/String" "COMPACT_STRINGS" "Z" (.int zC)) (hzC : ¬ zC = 0) (OL : Old Z n0 h0) (E_sb : Exa Z h0 sb "java/lang/StringBuilder") (F_value_sb : Fld Z h0 sb "java/lang/AbstractStringBuilder" "value" "[B" (.ref t)) (F_coder_sb : Fld Z h0 sb "java/lang/AbstractStringBuilder" "coder" "B" (.int cd)) (F_count_sb : Fld Z h0 sb "java/lang/AbstractStringBuilder" "count" "I" (.int (Int32.ofNat pn))) (F_mb_sb : Fld Z h0 sb "java/lang/AbstractStringBuilder" "maybeLatin1" "Z" (.int 0)) (V_t : Arv Z h0 t kt .byte NB vs (.int 0)) (hB : own_BC cs M cd NB vs) (hp0 : cs.length = pn) (hpM : pn < M) (hM : M ≤ 140) (g_x : n0 ≤ x) (E_x : Exa Z h0 x "java/lang/String") (F_coder_x : Fld Z h0 x "java/lang/String" "coder" "B" (.int 0)) (F_value_x : Fld Z h0 x "java/lang/String" "value" "[B" .null) :
    OwM l Z (⟨"java/lang/String", "<init>", "(Ljava/lang/StringBuilder;)V"⟩ : MethodName) jdk_42_method_53_code 2 none ({ frames := 4, cells := 1, slots := 280, locals := 65 } : Room) n0 #[(.ref x), (.ref sb)] h0 (fun v h => v = none ∧ Keep h0 h [x] ∧ ∃ (u : Addr) (ku : ClassId) (N2 : Int32) (ws : List Value), h0.size ≤ u ∧ Fld Z h x "java/lang/String" "value" "[B" (.ref u) ∧ Fld Z h x "java/lang/String" "coder" "B" (.int cd) ∧ Arv Z h u ku .byte N2 ws (.int 0) ∧ StrChars.Road.CodA cs cd N2 ws) := by
  refine OwM.mk (plainFor_of_name pn_java_lang_String) ?_
  intro p e s m below meth cD T hx hby hml hown hnm hret hlk hZ P
  have dc := @Jvm.hb cD _ hby
  refine OwG.cast (g' := mkF m 0 #[.val (.ref x), .val (.ref sb)] []) (by first | (simp [entryFrame, mkF, argsToLocals, Value.category]; done) | rfl) ?_
  refine OwG.ac (mkF m 3 #[.val (.ref x), .val (.ref sb)] [.null, (.ref sb), (.ref x)]) (fun tQ kQ => ?_) ?_
  · refine XS.aloadN P.here hx rfl (dc d16_0) rfl rfl ?_
    refine XS.aloadN P.here hx rfl (dc d16_1) rfl rfl ?_
    exact XS.aconstNull P.here hx rfl (dc d16_2) kQ
  refine P.special hx hZ rfl hown (own_w hw 103 rfl) (own_w hw 104 rfl) (own_w hw 105 rfl) (by decide) (OwM.back (W := 0) (rmT2 l Z a0 hw sb t kt cs M pn cd NB vs x zC h0 n0 Z0 S2 hzC OL E_sb F_value_sb F_coder_sb F_count_sb F_mb_sb V_t hB hp0 hpM hM g_x E_x F_coder_x F_value_x) hZ (own_w hw 105 rfl) (own_w hw 3 rfl) (own_le rfl) (own_le rfl)) (fun _ _ _ q => q.2) rfl (by rw [hml]; rfl) (a := x) (argsL := [(.ref sb), .null]) (rest := []) (lenOf pd__Ljava_lang_AbstractStringBuilder_Ljava_lang_Void__V rfl) rfl (own_le rfl) (dc d16_3) rfl (own_le rfl) (own_le rfl) fun T own_v own_L h1 own_e P own_q => ?_
  obtain ⟨⟨rfl, own_r⟩, -⟩ := own_q
  show OwG p e below s _ _ _ _ T (mkF m 6 #[.val (.ref x), .val (.ref sb)] [])
  exact P.retV hx hlk hret (dc d16_6) (own_le rfl) (own_le rfl) ⟨rfl, own_r⟩
abbrev bo15 := jdk_67_method_42_code
theorem d15_0 : decode bo15 0 = .ok (.new 18, 3) := by decide +kernel
theorem d15_3 : decode bo15 3 = .ok (.dup, 1) := by decide +kernel
theorem d15_4 : decode bo15 4 = .ok (.aload_n 0, 1) := by decide +kernel
theorem d15_5 : decode bo15 5 = .ok (.invokespecial 137, 3) := by decide +kernel
theorem pd__Ljava_lang_StringBuilder__V : parseMethodDescriptor "(Ljava/lang/StringBuilder;)V" = some ⟨[(.object "java/lang/StringBuilder")], none⟩ := by decide +kernel
theorem d15_8 : decode bo15 8 = .ok (.areturn, 1) := by decide +kernel
set_option maxRecDepth 65536 in
set_option maxHeartbeats 40000000 in
theorem rmTs (l : Launch) (Z : State) (a0 : Array Value) (hw : ∀ d ∈ tables_1, d.before a0 Z = true) (sb t : Addr) (kt : ClassId) (cs : List Int32) (M pn : Nat) (cd NB : Int32) (vs : List Value) (zC : Int32) (h0 : Heap) (n0 : Nat) (Z0 : n0 ≤ h0.size) (S2 : Sta Z Z.heap "java/lang/String" "COMPACT_STRINGS" "Z" (.int zC)) (hzC : ¬ zC = 0) (OL : Old Z n0 h0) (E_sb : Exa Z h0 sb "java/lang/StringBuilder") (F_value_sb : Fld Z h0 sb "java/lang/AbstractStringBuilder" "value" "[B" (.ref t)) (F_coder_sb : Fld Z h0 sb "java/lang/AbstractStringBuilder" "coder" "B" (.int cd)) (F_count_sb : Fld Z h0 sb "java/lang/AbstractStringBuilder" "count" "I" (.int (Int32.ofNat pn))) (F_mb_sb : Fld Z h0 sb "java/lang/AbstractStringBuilder" "maybeLatin1" "Z" (.int 0)) (V_t : Arv Z h0 t kt .byte NB vs (.int 0)) (hB : own_BC cs M cd NB vs) (hp0 : cs.length = pn) (hpM : pn < M) (hM : M ≤ 140) :
    OwM l Z (⟨"java/lang/StringBuilder", "toString", "()Ljava/lang/String;"⟩ : MethodName) jdk_67_method_42_code 1 (some (.object "java/lang/String")) ({ frames := 5, cells := 2, slots := 284, locals := 79 } : Room) n0 #[(.ref sb)] h0 (fun v h => Keep h0 h [] ∧ ∃ (y u : Addr) (ku : ClassId) (cy N2 : Int32) (ws : List Value), v = some (.ref y) ∧ h0.size ≤ u ∧ Exa Z h y "java/lang/String" ∧ Fld Z h y "java/lang/String" "value" "[B" (.ref u) ∧ Fld Z h y "java/lang/String" "coder" "B" (.int cy) ∧ Arv Z h u ku .byte N2 ws (.int 0) ∧ StrChars.Road.CodA cs cy N2 ws) := by
  refine OwM.mk (plainFor_of_name pn_java_lang_StringBuilder) ?_
  intro p e s m below meth cD T hx hby hml hown hnm hret hlk hZ P
  have dc := @Jvm.hb cD _ hby
  refine OwG.cast (g' := mkF m 0 #[.val (.ref sb)] []) (by first | (simp [entryFrame, mkF, argsToLocals, Value.category]; done) | rfl) ?_
  have KP := Keep.refl h0 []
  refine P.newO hx hZ hown (own_w hw 99 rfl) (own_w hw 2 rfl) (own_w hw 3 rfl) rfl (dc d15_0) (own_le rfl) (own_le rfl) fun T h1 x gx P E A D => ?_
  have ne_sb_x : sb ≠ x := Nat.ne_of_lt (Nat.lt_of_lt_of_le E_sb.lt (Nat.le_of_eq gx.symm))
  have ne_x_sb := Ne.symm ne_sb_x
  have ne_t_x : t ≠ x := Nat.ne_of_lt (Nat.lt_of_lt_of_le V_t.lt (Nat.le_of_eq gx.symm))
  have ne_x_t := Ne.symm ne_t_x
  have g_x : n0 ≤ x := Nat.le_trans Z0 (Nat.le_of_eq gx.symm)
  have sz_x : h0.size ≤ x := Nat.le_trans KP.1 (Nat.le_of_eq gx.symm)
  replace E_sb := E_sb.ext E
  replace F_value_sb := F_value_sb.ext E
  replace F_coder_sb := F_coder_sb.ext E
  replace F_count_sb := F_count_sb.ext E
  replace F_mb_sb := F_mb_sb.ext E
  replace V_t := V_t.ext E
  replace Z0 := Nat.le_trans Z0 E.1
  replace OL := OL.ext E
  replace KP := KP.ext E
  have E_x := A
  have F_value_x : Fld Z h1 x "java/lang/String" "value" "[B" .null := D (Or.inr (own_w hw 16 rfl)) (ty := (.array .byte)) (by decide)
  have F_coder_x : Fld Z h1 x "java/lang/String" "coder" "B" (.int 0) := D (Or.inr (own_w hw 17 rfl)) (ty := .byte) (by decide)
  clear A D E
  show OwG p e below s _ _ _ _ T (mkF m 3 #[.val (.ref sb)] [(.ref x)])
  refine OwG.ac (mkF m 5 #[.val (.ref sb)] [(.ref sb), (.ref x), (.ref x)]) (fun tQ kQ => ?_) ?_
  · refine XS.dup P.here hx rfl (dc d15_3) rfl rfl ?_
    exact XS.aloadN P.here hx rfl (dc d15_4) rfl rfl kQ
  refine P.special hx hZ rfl hown (own_w hw 100 rfl) (own_w hw 101 rfl) (own_w hw 102 rfl) (by decide) (OwM.back (W := 1) (rmT1 l Z a0 hw sb t kt cs M pn cd NB vs x zC h1 n0 Z0 S2 hzC OL E_sb F_value_sb F_coder_sb F_count_sb F_mb_sb V_t hB hp0 hpM hM g_x E_x F_coder_x F_value_x) hZ (own_w hw 102 rfl) (own_w hw 3 rfl) (own_le rfl) (own_le rfl)) (fun _ _ _ q => q.2) rfl (by rw [hml]; rfl) (a := x) (argsL := [(.ref sb)]) (rest := [(.ref x)]) (lenOf pd__Ljava_lang_StringBuilder__V rfl) rfl (own_le rfl) (dc d15_5) rfl (own_le rfl) (own_le rfl) fun T own_v own_L h2 own_e P own_q => ?_
  obtain ⟨⟨rfl, K, u, ku, N2, ws, szu, F1, F2, V_u, hcod⟩, -⟩ := own_q
  show OwG p e below s _ _ _ _ T (mkF m 8 #[.val (.ref sb)] [(.ref x)])
  clear own_e
  have sz_u := Nat.le_trans KP.1 szu
  replace E_sb := E_sb.keep K
  replace F_value_sb := F_value_sb.keep K (ninS ne_sb_x nin0)
  replace F_coder_sb := F_coder_sb.keep K (ninS ne_sb_x nin0)
  replace F_count_sb := F_count_sb.keep K (ninS ne_sb_x nin0)
  replace F_mb_sb := F_mb_sb.keep K (ninS ne_sb_x nin0)
  replace V_t := V_t.keep K (ninS ne_t_x nin0)
  replace E_x := E_x.keep K
  replace Z0 := Nat.le_trans Z0 K.1
  replace OL := OL.keep K (allS g_x all0)
  replace KP := KP.trans K (allS (Or.inr sz_x) all0)
  exact P.retR hx hlk hret rfl rfl (dc d15_8) (own_le rfl) (own_le rfl) ⟨KP, x, u, ku, cd, N2, ws, rfl, sz_u, E_x, F1, F2, V_u, hcod⟩
abbrev bo37 := jdk_42_method_151_code
theorem d37_0 : decode bo37 0 = .ok (.aload_n 0, 1) := by decide +kernel
theorem d37_1 : decode bo37 1 = .ok (.invokespecial 1, 3) := by decide +kernel
theorem d37_4 : decode bo37 4 = .ok (.aload_n 0, 1) := by decide +kernel
theorem d37_5 : decode bo37 5 = .ok (.aload_n 1, 1) := by decide +kernel
theorem d37_6 : decode bo37 6 = .ok (.putfield 9, 3) := by decide +kernel
theorem d37_9 : decode bo37 9 = .ok (.aload_n 0, 1) := by decide +kernel
theorem d37_10 : decode bo37 10 = .ok (.iload_n 2, 1) := by decide +kernel
theorem d37_11 : decode bo37 11 = .ok (.putfield 15, 3) := by decide +kernel
theorem d37_14 : decode bo37 14 = .ok (.return_, 1) := by decide +kernel
set_option maxRecDepth 65536 in
set_option maxHeartbeats 40000000 in
theorem rmIb (l : Launch) (Z : State) (a0 : Array Value) (hw : ∀ d ∈ tables_1, d.before a0 Z = true) (x u : Addr) (cd : Int32) (h0 : Heap) (n0 : Nat) (Z0 : n0 ≤ h0.size) (OL : Old Z n0 h0) (g_x : n0 ≤ x) (E_x : Exa Z h0 x "java/lang/String") (F_coder_x : Fld Z h0 x "java/lang/String" "coder" "B" (.int 0)) (F_value_x : Fld Z h0 x "java/lang/String" "value" "[B" .null) (hcd : cd = 0 ∨ cd = 1) :
    OwM l Z (⟨"java/lang/String", "<init>", "([BB)V"⟩ : MethodName) jdk_42_method_151_code 3 none ({ frames := 1, cells := 0, slots := 0, locals := 12 } : Room) n0 #[(.ref x), (.ref u), (.int cd)] h0 (fun v h => v = none ∧ Keep h0 h [x] ∧ Fld Z h x "java/lang/String" "value" "[B" (.ref u) ∧ Fld Z h x "java/lang/String" "coder" "B" (.int cd)) := by
  refine OwM.mk (plainFor_of_name pn_java_lang_String) ?_
  intro p e s m below meth cD T hx hby hml hown hnm hret hlk hZ P
  have dc := @Jvm.hb cD _ hby
  refine OwG.cast (g' := mkF m 0 #[.val (.ref x), .val (.ref u), .val (.int cd)] []) (by first | (simp [entryFrame, mkF, argsToLocals, Value.category]; done) | rfl) ?_
  have KP := Keep.refl h0 [x]
  have own_x := E_x.lt
  refine OwG.ac (mkF m 1 #[.val (.ref x), .val (.ref u), .val (.int cd)] [(.ref x)]) (fun tQ kQ => ?_) ?_
  · exact XS.aloadN P.here hx rfl (dc d37_0) rfl rfl kQ
  refine P.initO hx hZ hown (own_w hw 11 rfl) (own_w hw 12 rfl) (own_w hw 13 rfl) rfl (by rw [hml]; rfl) rfl (dc d37_1) (own_le rfl) (W := 0) (own_le rfl) (own_le rfl) fun T P => ?_
  show OwG p e below s _ _ _ _ T (mkF m 4 #[.val (.ref x), .val (.ref u), .val (.int cd)] [])
  refine OwG.ac (mkF m 6 #[.val (.ref x), .val (.ref u), .val (.int cd)] [(.ref u), (.ref x)]) (fun tQ kQ => ?_) ?_
  · refine XS.aloadN P.here hx rfl (dc d37_4) rfl rfl ?_
    exact XS.aloadN P.here hx rfl (dc d37_5) rfl rfl kQ
  refine P.putF hx hZ hown (host := "") (Or.inl (own_w hw 20 rfl)) Via.refl F_value_x E_x (Or.inr ⟨(own_w hw 16 rfl), rfl, hnm⟩) (own_w hw 2 rfl) (ty := (.array .byte)) (by decide) rfl rfl rfl rfl (dc d37_6) g_x fun T h1 P W => ?_
  replace E_x := E_x.wr W
  replace F_coder_x := F_coder_x.other W (Or.inr (slot_ne (Or.inr (own_w hw 17 rfl)) (Or.inr (own_w hw 16 rfl)) (by decide) (t := .byte) (t' := (.array .byte)) (by decide) (by decide)))
  replace F_value_x := F_value_x.same W
  replace Z0 := Nat.le_trans Z0 (Keep.of_wr W).1
  replace OL := OL.wr W g_x
  replace KP := KP.wr W (Or.inl (List.mem_of_getElem? (i := 0) rfl))
  clear W
  show OwG p e below s _ _ _ _ T (mkF m 9 #[.val (.ref x), .val (.ref u), .val (.int cd)] [])
  refine OwG.ac (mkF m 11 #[.val (.ref x), .val (.ref u), .val (.int cd)] [(.int cd), (.ref x)]) (fun tQ kQ => ?_) ?_
  · refine XS.aloadN P.here hx rfl (dc d37_9) rfl rfl ?_
    exact XS.iloadN P.here hx rfl (dc d37_10) rfl kQ
  refine P.putFN hx hZ hown (own_w hw 21 rfl) Via.refl F_coder_x E_x (Or.inr ⟨(own_w hw 17 rfl), rfl, hnm⟩) (own_w hw 2 rfl) (ty := .byte) (v' := (.int cd)) (by decide) (by rcases hcd with rfl | rfl <;> rfl) (by rcases hcd with rfl | rfl <;> rfl) rfl rfl (dc d37_11) g_x fun T h2 P W => ?_
  replace E_x := E_x.wr W
  replace F_coder_x := F_coder_x.same W
  replace F_value_x := F_value_x.other W (Or.inr (slot_ne (Or.inr (own_w hw 16 rfl)) (Or.inr (own_w hw 17 rfl)) (by decide) (t := (.array .byte)) (t' := .byte) (by decide) (by decide)))
  replace Z0 := Nat.le_trans Z0 (Keep.of_wr W).1
  replace OL := OL.wr W g_x
  replace KP := KP.wr W (Or.inl (List.mem_of_getElem? (i := 0) rfl))
  clear W
  show OwG p e below s _ _ _ _ T (mkF m 14 #[.val (.ref x), .val (.ref u), .val (.int cd)] [])
  exact P.retV hx hlk hret (dc d37_14) (own_le rfl) (own_le rfl) ⟨rfl, KP, F_value_x, F_coder_x⟩
abbrev bo36 := jdk_43_method_47_code
theorem d36_0 : decode bo36 0 = .ok (.iload_n 2, 1) := by decide +kernel
theorem d36_1 : decode bo36 1 = .ok (.ifCond .ne 6, 3) := by decide +kernel
theorem d36_7 : decode bo36 7 = .ok (.new 1, 3) := by decide +kernel
theorem d36_10 : decode bo36 10 = .ok (.dup, 1) := by decide +kernel
theorem d36_11 : decode bo36 11 = .ok (.aload_n 0, 1) := by decide +kernel
theorem d36_12 : decode bo36 12 = .ok (.iload_n 1, 1) := by decide +kernel
theorem d36_13 : decode bo36 13 = .ok (.iload_n 1, 1) := by decide +kernel
theorem d36_14 : decode bo36 14 = .ok (.iload_n 2, 1) := by decide +kernel
theorem d36_15 : decode bo36 15 = .ok (.iadd, 1) := by decide +kernel
theorem d36_16 : decode bo36 16 = .ok (.invokestatic 232, 3) := by decide +kernel
theorem d36_19 : decode bo36 19 = .ok (.iconst 0, 1) := by decide +kernel
theorem d36_20 : decode bo36 20 = .ok (.invokespecial 112, 3) := by decide +kernel
theorem pd___BB_V : parseMethodDescriptor "([BB)V" = some ⟨[(.array .byte), .byte], none⟩ := by decide +kernel
theorem d36_23 : decode bo36 23 = .ok (.areturn, 1) := by decide +kernel
set_option maxRecDepth 65536 in
set_option maxHeartbeats 40000000 in
theorem rmNsL (l : Launch) (Z : State) (a0 : Array Value) (hw : ∀ d ∈ tables_1, d.before a0 Z = true) (t : Addr) (kt : ClassId) (cs : List Int32) (n mm : Nat) (h0 : Heap) (n0 : Nat) (Z0 : n0 ≤ h0.size) (OL : Old Z n0 h0) (V_t : Arv Z h0 t kt .byte (Int32.ofNat n) (cs.map fun c => Value.int (StrChars.lo8 c)) (.int 0)) (hn : cs.length = n) (hm0 : 0 < mm) (hmn : mm < n) (hm2 : mm ≤ 64) (hb : n ≤ 2000) (hp : ∀ c ∈ cs, ¬ c < 0 ∧ ¬ (65535 : Int32) < c) (h8 : ∀ c ∈ cs, ¬ (255 : Int32) < c) :
    OwM l Z (⟨"java/lang/StringLatin1", "newString", "([BII)Ljava/lang/String;"⟩ : MethodName) jdk_43_method_47_code 3 (some (.object "java/lang/String")) ({ frames := 3, cells := 2, slots := 284, locals := 50 } : Room) n0 #[(.ref t), (.int 0), (.int (Int32.ofNat mm))] h0 (fun v h => Keep h0 h [] ∧ ∃ (y u : Addr) (ku : ClassId) (cy N2 : Int32) (ws : List Value), v = some (.ref y) ∧ h0.size ≤ u ∧ Exa Z h y "java/lang/String" ∧ Fld Z h y "java/lang/String" "value" "[B" (.ref u) ∧ Fld Z h y "java/lang/String" "coder" "B" (.int cy) ∧ Arv Z h u ku .byte N2 ws (.int 0) ∧ StrChars.Road.CodA (cs.take mm) cy N2 ws) := by
  refine OwM.mk (plainFor_of_name pn_java_lang_StringLatin1) ?_
  intro p e s m below meth cD T hx hby hml hown hnm hret hlk hZ P
  have dc := @Jvm.hb cD _ hby
  refine OwG.cast (g' := mkF m 0 #[.val (.ref t), .val (.int 0), .val (.int (Int32.ofNat mm))] []) (by first | (simp [entryFrame, mkF, argsToLocals, Value.category]; done) | rfl) ?_
  have KP := Keep.refl h0 []
  refine OwG.ac (mkF m 7 #[.val (.ref t), .val (.int 0), .val (.int (Int32.ofNat mm))] []) (fun tQ kQ => ?_) ?_
  · refine XS.iloadN P.here hx rfl (dc d36_0) rfl ?_
    exact XS.ifYes P.here hx rfl (pc0 := 1) (pc' := 7) rfl (dc d36_1) rfl ((if0 _ _).trans (feq (own_ne32 (n := 0) (by omega) (by omega) (by omega))).2) (by decide) (by decide) kQ
  refine P.newO hx hZ hown (own_w hw 185 rfl) (own_w hw 2 rfl) (own_w hw 3 rfl) rfl (dc d36_7) (own_le rfl) (own_le rfl) fun T h1 x gx P E A D => ?_
  have ne_t_x : t ≠ x := Nat.ne_of_lt (Nat.lt_of_lt_of_le V_t.lt (Nat.le_of_eq gx.symm))
  have ne_x_t := Ne.symm ne_t_x
  have g_x : n0 ≤ x := Nat.le_trans Z0 (Nat.le_of_eq gx.symm)
  have sz_x : h0.size ≤ x := Nat.le_trans KP.1 (Nat.le_of_eq gx.symm)
  replace V_t := V_t.ext E
  replace Z0 := Nat.le_trans Z0 E.1
  replace OL := OL.ext E
  replace KP := KP.ext E
  have E_x := A
  have F_value_x : Fld Z h1 x "java/lang/String" "value" "[B" .null := D (Or.inr (own_w hw 16 rfl)) (ty := (.array .byte)) (by decide)
  have F_coder_x : Fld Z h1 x "java/lang/String" "coder" "B" (.int 0) := D (Or.inr (own_w hw 17 rfl)) (ty := .byte) (by decide)
  clear A D E
  show OwG p e below s _ _ _ _ T (mkF m 10 #[.val (.ref t), .val (.int 0), .val (.int (Int32.ofNat mm))] [(.ref x)])
  refine OwG.ac (mkF m 16 #[.val (.ref t), .val (.int 0), .val (.int (Int32.ofNat mm))] [(.int ((0 : Int32) + (Int32.ofNat mm))), (.int 0), (.ref t), (.ref x), (.ref x)]) (fun tQ kQ => ?_) ?_
  · refine XS.dup P.here hx rfl (dc d36_10) rfl rfl ?_
    refine XS.aloadN P.here hx rfl (dc d36_11) rfl rfl ?_
    refine XS.iloadN P.here hx rfl (dc d36_12) rfl ?_
    refine XS.iloadN P.here hx rfl (dc d36_13) rfl ?_
    refine XS.iloadN P.here hx rfl (dc d36_14) rfl ?_
    exact XS.iadd P.here hx rfl (dc d36_15) rfl kQ
  rw [show ((0 : Int32) + (Int32.ofNat mm)) = (Int32.ofNat mm) from own_zadd _]
  refine P.stat hx hZ hown (own_w hw 186 rfl) (own_w hw 125 rfl) (own_w hw 126 rfl) (own_w hw 127 rfl) (by decide) (OwM.back (W := 2) (rmCr l Z a0 hw t kt n mm _ h1 n0 Z0 V_t (by simpa using hn) (by omega) (by omega) (by omega)) hZ (own_w hw 127 rfl) (own_w hw 126 rfl) (own_le rfl) (own_le rfl)) (fun _ _ _ q => q.2) rfl (by rw [hml]; rfl) (argsL := [(.ref t), (.int 0), (.int (Int32.ofNat mm))]) (rest := [(.ref x), (.ref x)]) (lenOf pd___BII__B rfl) rfl (own_le rfl) (dc d36_16) rfl (own_le rfl) (own_le rfl) fun T own_v own_L h2 own_e P own_q => ?_
  obtain ⟨⟨K, u, ku, rfl, gu, V_u⟩, -⟩ := own_q
  show OwG p e below s _ _ _ _ T (mkF m 19 #[.val (.ref t), .val (.int 0), .val (.int (Int32.ofNat mm))] [(.ref u), (.ref x), (.ref x)])
  clear own_e
  have ne_t_u : t ≠ u := Nat.ne_of_lt (Nat.lt_of_lt_of_le V_t.lt (Nat.le_of_eq gu.symm))
  have ne_u_t := Ne.symm ne_t_u
  have ne_x_u : x ≠ u := Nat.ne_of_lt (Nat.lt_of_lt_of_le E_x.lt (Nat.le_of_eq gu.symm))
  have ne_u_x := Ne.symm ne_x_u
  have g_u : n0 ≤ u := Nat.le_trans Z0 (Nat.le_of_eq gu.symm)
  have sz_u : h0.size ≤ u := Nat.le_trans KP.1 (Nat.le_of_eq gu.symm)
  replace V_t := V_t.keep K nin0
  replace E_x := E_x.keep K
  replace F_value_x := F_value_x.keep K nin0
  replace F_coder_x := F_coder_x.keep K nin0
  replace Z0 := Nat.le_trans Z0 K.1
  replace OL := OL.keep K all0
  replace KP := KP.trans K all0
  refine OwG.ac (mkF m 20 #[.val (.ref t), .val (.int 0), .val (.int (Int32.ofNat mm))] [(.int 0), (.ref u), (.ref x), (.ref x)]) (fun tQ kQ => ?_) ?_
  · exact XS.iconst P.here hx rfl (dc d36_19) kQ
  refine P.special hx hZ rfl hown (own_w hw 187 rfl) (own_w hw 188 rfl) (own_w hw 189 rfl) (by decide) (OwM.back (W := 1) (rmIb l Z a0 hw x u (0 : Int32) h2 n0 Z0 OL g_x E_x F_coder_x F_value_x (by decide)) hZ (own_w hw 189 rfl) (own_w hw 3 rfl) (own_le rfl) (own_le rfl)) (fun _ _ _ q => q.2) rfl (by rw [hml]; rfl) (a := x) (argsL := [(.ref u), (.int 0)]) (rest := [(.ref x)]) (lenOf pd___BB_V rfl) rfl (own_le rfl) (dc d36_20) rfl (own_le rfl) (own_le rfl) fun T own_v own_L h3 own_e P own_q => ?_
  obtain ⟨⟨rfl, K, F1, F2⟩, -⟩ := own_q
  clear own_e
  replace V_t := V_t.keep K (ninS ne_t_x nin0)
  replace E_x := E_x.keep K
  replace V_u := V_u.keep K (ninS ne_u_x nin0)
  replace Z0 := Nat.le_trans Z0 K.1
  replace OL := OL.keep K (allS g_x all0)
  replace KP := KP.trans K (allS (Or.inr sz_x) all0)
  show OwG p e below s _ _ _ _ T (mkF m 23 #[.val (.ref t), .val (.int 0), .val (.int (Int32.ofNat mm))] [(.ref x)])
  rw [← List.map_take] at V_u
  exact P.retR hx hlk hret rfl rfl (dc d36_23) (own_le rfl) (own_le rfl) ⟨KP, x, u, ku, 0, _, _, rfl, sz_u, E_x, F1, F2, V_u, Or.inl ⟨rfl, by rw [List.length_take, hn, Nat.min_eq_left (Nat.le_of_lt hmn)], rfl, fun c hc => h8 c (List.mem_of_mem_take hc)⟩⟩
abbrev bo60 := jdk_52_method_22_code
theorem d60_0 : decode bo60 0 = .ok (.iload_n 1, 1) := by decide +kernel
theorem d60_1 : decode bo60 1 = .ok (.iload 4, 2) := by decide +kernel
theorem d60_3 : decode bo60 3 = .ok (.aload_n 0, 1) := by decide +kernel
theorem d60_4 : decode bo60 4 = .ok (.invokestatic 173, 3) := by decide +kernel
theorem d60_7 : decode bo60 7 = .ok (.iconst 0, 1) := by decide +kernel
theorem d60_8 : decode bo60 8 = .ok (.istore 5, 2) := by decide +kernel
theorem d60_10 : decode bo60 10 = .ok (.iload 5, 2) := by decide +kernel
theorem d60_12 : decode bo60 12 = .ok (.iload 4, 2) := by decide +kernel
theorem d60_14 : decode bo60 14 = .ok (.if_icmp .ge 39, 3) := by decide +kernel
theorem d60_53 : decode bo60 53 = .ok (.iload 4, 2) := by decide +kernel
theorem d60_55 : decode bo60 55 = .ok (.ireturn, 1) := by decide +kernel
theorem d60_17 : decode bo60 17 = .ok (.aload_n 0, 1) := by decide +kernel
theorem d60_18 : decode bo60 18 = .ok (.iload_n 1, 1) := by decide +kernel
theorem d60_19 : decode bo60 19 = .ok (.invokestatic 71, 3) := by decide +kernel
theorem d60_22 : decode bo60 22 = .ok (.istore 6, 2) := by decide +kernel
theorem d60_24 : decode bo60 24 = .ok (.iload 6, 2) := by decide +kernel
theorem d60_26 : decode bo60 26 = .ok (.sipush 255, 3) := by decide +kernel
theorem d60_29 : decode bo60 29 = .ok (.if_icmp .le 6, 3) := by decide +kernel
theorem d60_32 : decode bo60 32 = .ok (.iload 5, 2) := by decide +kernel
theorem d60_34 : decode bo60 34 = .ok (.ireturn, 1) := by decide +kernel
theorem d60_35 : decode bo60 35 = .ok (.aload_n 2, 1) := by decide +kernel
theorem d60_36 : decode bo60 36 = .ok (.iload_n 3, 1) := by decide +kernel
theorem d60_37 : decode bo60 37 = .ok (.iload 6, 2) := by decide +kernel
theorem d60_39 : decode bo60 39 = .ok (.i2b, 1) := by decide +kernel
theorem d60_40 : decode bo60 40 = .ok (.bastore, 1) := by decide +kernel
theorem d60_41 : decode bo60 41 = .ok (.iinc 1 1, 3) := by decide +kernel
theorem d60_44 : decode bo60 44 = .ok (.iinc 3 1, 3) := by decide +kernel
theorem d60_47 : decode bo60 47 = .ok (.iinc 5 1, 3) := by decide +kernel
theorem d60_50 : decode bo60 50 = .ok (.goto (-40), 3) := by decide +kernel
set_option maxRecDepth 65536 in
set_option maxHeartbeats 40000000 in
theorem rmC6 (l : Launch) (Z : State) (a0 : Array Value) (hw : ∀ d ∈ tables_1, d.before a0 Z = true) (t : Addr) (kt : ClassId) (cs : List Int32) (n mm : Nat) (d : Addr) (kd : ClassId) (fm : Value) (h0 : Heap) (n0 : Nat) (Z0 : n0 ≤ h0.size) (SA : Sta Z Z.heap "java/lang/StringUTF16" "$assertionsDisabled" "Z" (.int 1)) (SH : Sta Z Z.heap "java/lang/StringUTF16" "HI_BYTE_SHIFT" "I" (.int 0)) (SL : Sta Z Z.heap "java/lang/StringUTF16" "LO_BYTE_SHIFT" "I" (.int 8)) (SF : Sta Z Z.heap "jdk/internal/util/Preconditions" "SIOOBE_FORMATTER" "Ljava/util/function/BiFunction;" fm) (rf : fm.isRef = true) (OL : Old Z n0 h0) (V_t : Arv Z h0 t kt .byte (Int32.ofNat (2 * n)) (StrChars.Road.wideBytes cs) (.int 0)) (hn : cs.length = n) (hm0 : 0 < mm) (hmn : mm < n) (hm2 : mm ≤ 64) (hb : n ≤ 2000) (hp : ∀ c ∈ cs, ¬ c < 0 ∧ ¬ (65535 : Int32) < c) (V_d : Arv Z h0 d kd .byte (Int32.ofNat mm) (own_lb cs mm 0) (.int 0)) (g_d : n0 ≤ d) (ne_t_d : t ≠ d) :
    OwM l Z (⟨"java/lang/StringUTF16", "compress", "([BI[BII)I"⟩ : MethodName) jdk_52_method_22_code 7 (some .int) ({ frames := 3, cells := 0, slots := 0, locals := 43 } : Room) n0 #[(.ref t), (.int 0), (.ref d), (.int 0), (.int (Int32.ofNat mm))] h0 (fun v h => Keep h0 h [d] ∧ ∃ r : Nat, v = some (.int (Int32.ofNat r)) ∧ ((r = mm ∧ (∀ c ∈ cs.take mm, ¬ (255 : Int32) < c) ∧ Arv Z h d kd .byte (Int32.ofNat mm) ((cs.take mm).map fun c => Value.int (StrChars.lo8 c)) (.int 0)) ∨ (r < mm ∧ (255 : Int32) < cs.getD r 0))) := by
  refine OwM.mk (plainFor_of_name pn_java_lang_StringUTF16) ?_
  intro p e s m below meth cD T hx hby hml hown hnm hret hlk hZ P
  have dc := @Jvm.hb cD _ hby
  refine OwG.cast (g' := mkF m 0 #[.val (.ref t), .val (.int 0), .val (.ref d), .val (.int 0), .val (.int (Int32.ofNat mm)), .unset, .unset] []) (by first | (simp [entryFrame, mkF, argsToLocals, Value.category]; done) | rfl) ?_
  have KP := Keep.refl h0 [d]
  refine OwG.ac (mkF m 4 #[.val (.ref t), .val (.int 0), .val (.ref d), .val (.int 0), .val (.int (Int32.ofNat mm)), .unset, .unset] [(.ref t), (.int (Int32.ofNat mm)), (.int 0)]) (fun tQ kQ => ?_) ?_
  · refine XS.iloadN P.here hx rfl (dc d60_0) rfl ?_
    refine XS.iload P.here hx rfl (dc d60_1) rfl ?_
    exact XS.aloadN P.here hx rfl (dc d60_3) rfl rfl kQ
  refine P.stat hx hZ hown (own_w hw 259 rfl) (own_w hw 260 rfl) (own_w hw 145 rfl) (own_w hw 261 rfl) (by decide) (OwM.back (W := 0) (rmUcb l Z a0 hw t kt _ 0 mm n fm h0 n0 Z0 SF rf OL V_t (by omega) (by omega)) hZ (own_w hw 261 rfl) (own_w hw 145 rfl) (own_le rfl) (own_le rfl)) (fun _ _ _ q => q.2) rfl (by rw [hml]; rfl) (argsL := [(.int 0), (.int (Int32.ofNat mm)), (.ref t)]) (rest := []) (lenOf pd__II_B_V rfl) rfl (own_le rfl) (dc d60_4) rfl (own_le rfl) (own_le rfl) fun T own_v own_L h1 own_e P own_q => ?_
  obtain ⟨⟨rfl, own_hh⟩, -⟩ := own_q
  rw [own_hh] at P
  clear own_e own_hh
  show OwG p e below s _ _ _ _ T (mkF m 7 #[.val (.ref t), .val (.int 0), .val (.ref d), .val (.int 0), .val (.int (Int32.ofNat mm)), .unset, .unset] [])
  refine OwG.ac (mkF m 10 #[.val (.ref t), .val (.int 0), .val (.ref d), .val (.int 0), .val (.int (Int32.ofNat mm)), .val (.int 0), .unset] []) (fun tQ kQ => ?_) ?_
  · refine XS.iconst P.here hx rfl (dc d60_7) ?_
    exact XS.istore P.here hx rfl (dc d60_8) rfl (l' := #[.val (.ref t), .val (.int 0), .val (.ref d), .val (.int 0), .val (.int (Int32.ofNat mm)), .val (.int 0), .unset]) rfl kQ
  have lp : ∀ (k i : Nat) (T : State) (hL_lp : Heap) (s6 : Slot), i + k = mm → OwP p l e ({ frames := 3, cells := 0, slots := 0, locals := 43 } : Room) s m #[(.ref t), (.int 0), (.ref d), (.int 0), (.int (Int32.ofNat mm))] below meth cD n0 T hL_lp 0 0 → (n0 ≤ hL_lp.size) → (Old Z n0 hL_lp) → (Keep h0 hL_lp [d]) → (Arv Z hL_lp t kt .byte (Int32.ofNat (2 * n)) (StrChars.Road.wideBytes cs) (.int 0)) → (Arv Z hL_lp d kd .byte (Int32.ofNat mm) (own_lb cs mm i) (.int 0)) → (s6 = .unset ∨ ∃ w, s6 = .val w ∧ w.category = 1) → (∀ j, j < i → ¬ (255 : Int32) < cs.getD j 0) → OwG p e below s n0 ({ frames := 3, cells := 0, slots := 0, locals := 43 } : Room).cells ({ frames := 3, cells := 0, slots := 0, locals := 43 } : Room).slots (fun v h => Keep h0 h [d] ∧ ∃ r : Nat, v = some (.int (Int32.ofNat r)) ∧ ((r = mm ∧ (∀ c ∈ cs.take mm, ¬ (255 : Int32) < c) ∧ Arv Z h d kd .byte (Int32.ofNat mm) ((cs.take mm).map fun c => Value.int (StrChars.lo8 c)) (.int 0)) ∨ (r < mm ∧ (255 : Int32) < cs.getD r 0))) T (mkF m 10 #[.val (.ref t), .val (.int (Int32.ofNat i)), .val (.ref d), .val (.int (Int32.ofNat i)), .val (.int (Int32.ofNat mm)), .val (.int (Int32.ofNat i)), s6] []) := by
   intro k
   induction k with
   | zero =>
    intro i T hL_lp s6 hik P Z0 OL KP V_t V_d hs6 hle
    refine OwG.ac (mkF m 14 #[.val (.ref t), .val (.int (Int32.ofNat i)), .val (.ref d), .val (.int (Int32.ofNat i)), .val (.int (Int32.ofNat mm)), .val (.int (Int32.ofNat i)), s6] [(.int (Int32.ofNat mm)), (.int (Int32.ofNat i))]) (fun tQ kQ => ?_) ?_
    · refine XS.iload P.here hx rfl (dc d60_10) rfl ?_
      exact XS.iload P.here hx rfl (dc d60_12) rfl kQ
    have own_i : i = mm := by omega
    refine OwG.ac (mkF m 55 #[.val (.ref t), .val (.int (Int32.ofNat i)), .val (.ref d), .val (.int (Int32.ofNat i)), .val (.int (Int32.ofNat mm)), .val (.int (Int32.ofNat i)), s6] [(.int (Int32.ofNat mm))]) (fun tQ kQ => ?_) ?_
    · refine XS.icmpYes P.here hx rfl (pc0 := 14) (pc' := 53) rfl (dc d60_14) rfl (flt (own_nlt (by omega) (by omega))).2.1 (by decide) (by decide) ?_
      exact XS.iload P.here hx rfl (dc d60_53) rfl kQ
    rw [own_i, own_lbe] at V_d
    exact P.retI hx hlk hret (dc d60_55) (own_le rfl) (own_le rfl) ⟨KP, mm, rfl, Or.inl ⟨rfl, own_allm (by omega) (fun j hj => hle j (by omega)), V_d⟩⟩
   | succ k ih =>
    intro i T hL_lp s6 hik P Z0 OL KP V_t V_d hs6 hle
    refine OwG.ac (mkF m 19 #[.val (.ref t), .val (.int (Int32.ofNat i)), .val (.ref d), .val (.int (Int32.ofNat i)), .val (.int (Int32.ofNat mm)), .val (.int (Int32.ofNat i)), s6] [(.int (Int32.ofNat i)), (.ref t)]) (fun tQ kQ => ?_) ?_
    · refine XS.iload P.here hx rfl (dc d60_10) rfl ?_
      refine XS.iload P.here hx rfl (dc d60_12) rfl ?_
      refine XS.icmpNo P.here hx rfl (dc d60_14) rfl (tlt (own_lt (by omega) (by omega))).2.1 ?_
      refine XS.aloadN P.here hx rfl (dc d60_17) rfl rfl ?_
      exact XS.iloadN P.here hx rfl (dc d60_18) rfl kQ
    refine P.stat hx hZ hown (own_w hw 244 rfl) (own_w hw 245 rfl) (own_w hw 145 rfl) (own_w hw 246 rfl) (by decide) (OwM.back (W := 0) (rmGet l Z a0 hw t kt n i cs hL_lp n0 Z0 SA SH SL OL V_t hn (by omega) (by omega) hp) hZ (own_w hw 246 rfl) (own_w hw 145 rfl) (own_le rfl) (own_le rfl)) (fun _ _ _ q => q.2) rfl (by rw [hml]; rfl) (argsL := [(.ref t), (.int (Int32.ofNat i))]) (rest := []) (lenOf pd___BI_C rfl) rfl (own_le rfl) (dc d60_19) rfl (own_le rfl) (own_le rfl) fun T own_v own_L h2 own_e P own_q => ?_
    obtain ⟨⟨rfl, own_hh⟩, -⟩ := own_q
    rw [own_hh] at P
    clear own_e own_hh
    show OwG p e below s _ _ _ _ T (mkF m 22 #[.val (.ref t), .val (.int (Int32.ofNat i)), .val (.ref d), .val (.int (Int32.ofNat i)), .val (.int (Int32.ofNat mm)), .val (.int (Int32.ofNat i)), s6] [(.int (cs.getD i 0))])
    refine OwG.ac (mkF m 29 #[.val (.ref t), .val (.int (Int32.ofNat i)), .val (.ref d), .val (.int (Int32.ofNat i)), .val (.int (Int32.ofNat mm)), .val (.int (Int32.ofNat i)), .val (.int (cs.getD i 0))] [(.int 255), (.int (cs.getD i 0))]) (fun tQ kQ => ?_) ?_
    · refine XS.istore P.here hx rfl (dc d60_22) rfl (l' := #[.val (.ref t), .val (.int (Int32.ofNat i)), .val (.ref d), .val (.int (Int32.ofNat i)), .val (.int (Int32.ofNat mm)), .val (.int (Int32.ofNat i)), .val (.int (cs.getD i 0))]) (XS.store1 rfl hs6 rfl) ?_
      refine XS.iload P.here hx rfl (dc d60_24) rfl ?_
      exact XS.sipush P.here hx rfl (dc d60_26) kQ
    by_cases hc29 : (255 : Int32) < (cs.getD i 0)
    ·skip
     refine OwG.ac (mkF m 34 #[.val (.ref t), .val (.int (Int32.ofNat i)), .val (.ref d), .val (.int (Int32.ofNat i)), .val (.int (Int32.ofNat mm)), .val (.int (Int32.ofNat i)), .val (.int (cs.getD i 0))] [(.int (Int32.ofNat i))]) (fun tQ kQ => ?_) ?_
     · refine XS.icmpNo P.here hx rfl (dc d60_29) rfl (tlt hc29).2.2.2 ?_
       exact XS.iload P.here hx rfl (dc d60_32) rfl kQ
     exact P.retI hx hlk hret (dc d60_34) (own_le rfl) (own_le rfl) ⟨KP, i, rfl, Or.inr ⟨by omega, hc29⟩⟩
    ·skip
     refine OwG.ac (mkF m 40 #[.val (.ref t), .val (.int (Int32.ofNat i)), .val (.ref d), .val (.int (Int32.ofNat i)), .val (.int (Int32.ofNat mm)), .val (.int (Int32.ofNat i)), .val (.int (cs.getD i 0))] [(.int ((cs.getD i 0).toInt8.toInt32)), (.int (Int32.ofNat i)), (.ref d)]) (fun tQ kQ => ?_) ?_
     · refine XS.icmpYes P.here hx rfl (pc0 := 29) (pc' := 35) rfl (dc d60_29) rfl (flt hc29).2.2.2 (by decide) (by decide) ?_
       refine XS.aloadN P.here hx rfl (dc d60_35) rfl rfl ?_
       refine XS.iloadN P.here hx rfl (dc d60_36) rfl ?_
       refine XS.iload P.here hx rfl (dc d60_37) rfl ?_
       exact XS.i2b P.here hx rfl (dc d60_39) rfl kQ
     refine P.stB hx hZ V_d (j := (Int32.ofNat i)) (own_nn (by omega)) (own_lt (by omega) (by omega)) (i := i) (own_tc (by omega)) (by rw [own_lbl (by omega) (by omega)]; omega) rfl rfl (dc d60_40) g_d fun T h3 P W V' => ?_
     replace V_t := V_t.other W ne_t_d
     replace Z0 := Nat.le_trans Z0 (Keep.of_wr W).1
     replace OL := OL.wr W g_d
     replace KP := KP.wr W (Or.inl (List.mem_of_getElem? (i := 0) rfl))
     replace V_d := V'
     clear W V'
     show OwG p e below s _ _ _ _ T (mkF m 41 #[.val (.ref t), .val (.int (Int32.ofNat i)), .val (.ref d), .val (.int (Int32.ofNat i)), .val (.int (Int32.ofNat mm)), .val (.int (Int32.ofNat i)), .val (.int (cs.getD i 0))] [])
     rw [own_i2b2] at V_d
     replace V_d : Arv Z h3 d kd .byte (Int32.ofNat mm) ((own_lb cs mm i).set i (.int (StrChars.lo8 (cs.getD i 0)))) (.int 0) := V_d
     rw [own_lbs (by omega) (by omega)] at V_d
     refine OwG.ac (mkF m 10 #[.val (.ref t), .val (.int ((Int32.ofNat i) + (1 : Int32))), .val (.ref d), .val (.int ((Int32.ofNat i) + (1 : Int32))), .val (.int (Int32.ofNat mm)), .val (.int ((Int32.ofNat i) + (1 : Int32))), .val (.int (cs.getD i 0))] []) (fun tQ kQ => ?_) ?_
     · refine XS.iinc P.here hx rfl (dc d60_41) rfl (l' := #[.val (.ref t), .val (.int ((Int32.ofNat i) + (1 : Int32))), .val (.ref d), .val (.int (Int32.ofNat i)), .val (.int (Int32.ofNat mm)), .val (.int (Int32.ofNat i)), .val (.int (cs.getD i 0))]) rfl ?_
       refine XS.iinc P.here hx rfl (dc d60_44) rfl (l' := #[.val (.ref t), .val (.int ((Int32.ofNat i) + (1 : Int32))), .val (.ref d), .val (.int ((Int32.ofNat i) + (1 : Int32))), .val (.int (Int32.ofNat mm)), .val (.int (Int32.ofNat i)), .val (.int (cs.getD i 0))]) rfl ?_
       refine XS.iinc P.here hx rfl (dc d60_47) rfl (l' := #[.val (.ref t), .val (.int ((Int32.ofNat i) + (1 : Int32))), .val (.ref d), .val (.int ((Int32.ofNat i) + (1 : Int32))), .val (.int (Int32.ofNat mm)), .val (.int ((Int32.ofNat i) + (1 : Int32))), .val (.int (cs.getD i 0))]) rfl ?_
       exact XS.goto P.here hx rfl (pc0 := 50) (pc' := 10) rfl (dc d60_50) (by decide) (by decide) kQ
     rw [show ((Int32.ofNat i) + (1 : Int32)) = (Int32.ofNat (i + 1)) from own_succ _]
     exact ih (i + 1) T h3 _ (by omega) P Z0 OL KP V_t V_d (Or.inr ⟨_, rfl, rfl⟩) (fun j hj => (Nat.lt_succ_iff_lt_or_eq.mp hj).elim (hle j) (fun q => by rw [q]; exact hc29))
  exact lp mm 0 T h0 _ (by omega) P Z0 OL KP V_t V_d (Or.inl rfl) (fun j hj => absurd hj (Nat.not_lt_zero j))
abbrev bo59 := jdk_52_method_17_code
theorem d59_0 : decode bo59 0 = .ok (.iload_n 2, 1) := by decide +kernel
theorem d59_1 : decode bo59 1 = .ok (.newarray .byte, 2) := by decide +kernel
theorem d59_3 : decode bo59 3 = .ok (.astore_n 3, 1) := by decide +kernel
theorem d59_4 : decode bo59 4 = .ok (.aload_n 0, 1) := by decide +kernel
theorem d59_5 : decode bo59 5 = .ok (.iload_n 1, 1) := by decide +kernel
theorem d59_6 : decode bo59 6 = .ok (.aload_n 3, 1) := by decide +kernel
theorem d59_7 : decode bo59 7 = .ok (.iconst 0, 1) := by decide +kernel
theorem d59_8 : decode bo59 8 = .ok (.iload_n 2, 1) := by decide +kernel
theorem d59_9 : decode bo59 9 = .ok (.invokestatic 123, 3) := by decide +kernel
theorem pd___BI_BII_I : parseMethodDescriptor "([BI[BII)I" = some ⟨[(.array .byte), .int, (.array .byte), .int, .int], some .int⟩ := by decide +kernel
theorem d59_12 : decode bo59 12 = .ok (.istore 4, 2) := by decide +kernel
theorem d59_14 : decode bo59 14 = .ok (.iload 4, 2) := by decide +kernel
theorem d59_16 : decode bo59 16 = .ok (.iload_n 2, 1) := by decide +kernel
theorem d59_17 : decode bo59 17 = .ok (.if_icmp .eq 47, 3) := by decide +kernel
theorem d59_64 : decode bo59 64 = .ok (.aload_n 3, 1) := by decide +kernel
theorem d59_65 : decode bo59 65 = .ok (.areturn, 1) := by decide +kernel
theorem d59_20 : decode bo59 20 = .ok (.aload_n 0, 1) := by decide +kernel
theorem d59_21 : decode bo59 21 = .ok (.iload_n 1, 1) := by decide +kernel
theorem d59_22 : decode bo59 22 = .ok (.iconst 1, 1) := by decide +kernel
theorem d59_23 : decode bo59 23 = .ok (.ishl, 1) := by decide +kernel
theorem d59_24 : decode bo59 24 = .ok (.iload_n 1, 1) := by decide +kernel
theorem d59_25 : decode bo59 25 = .ok (.iload_n 2, 1) := by decide +kernel
theorem d59_26 : decode bo59 26 = .ok (.iadd, 1) := by decide +kernel
theorem d59_27 : decode bo59 27 = .ok (.invokestatic 11, 3) := by decide +kernel
theorem d59_30 : decode bo59 30 = .ok (.invokestatic 126, 3) := by decide +kernel
theorem d59_33 : decode bo59 33 = .ok (.astore 5, 2) := by decide +kernel
theorem d59_35 : decode bo59 35 = .ok (.aload 5, 2) := by decide +kernel
theorem d59_37 : decode bo59 37 = .ok (.iload 4, 2) := by decide +kernel
theorem d59_39 : decode bo59 39 = .ok (.invokestatic 71, 3) := by decide +kernel
theorem d59_42 : decode bo59 42 = .ok (.sipush 255, 3) := by decide +kernel
theorem d59_45 : decode bo59 45 = .ok (.if_icmp .gt 16, 3) := by decide +kernel
theorem d59_61 : decode bo59 61 = .ok (.aload 5, 2) := by decide +kernel
theorem d59_63 : decode bo59 63 = .ok (.areturn, 1) := by decide +kernel
set_option maxRecDepth 65536 in
set_option maxHeartbeats 40000000 in
theorem rmC7 (l : Launch) (Z : State) (a0 : Array Value) (hw : ∀ d ∈ tables_1, d.before a0 Z = true) (t : Addr) (kt : ClassId) (cs : List Int32) (n mm : Nat) (fm : Value) (h0 : Heap) (n0 : Nat) (Z0 : n0 ≤ h0.size) (SA : Sta Z Z.heap "java/lang/StringUTF16" "$assertionsDisabled" "Z" (.int 1)) (SH : Sta Z Z.heap "java/lang/StringUTF16" "HI_BYTE_SHIFT" "I" (.int 0)) (SL : Sta Z Z.heap "java/lang/StringUTF16" "LO_BYTE_SHIFT" "I" (.int 8)) (SF : Sta Z Z.heap "jdk/internal/util/Preconditions" "SIOOBE_FORMATTER" "Ljava/util/function/BiFunction;" fm) (rf : fm.isRef = true) (OL : Old Z n0 h0) (V_t : Arv Z h0 t kt .byte (Int32.ofNat (2 * n)) (StrChars.Road.wideBytes cs) (.int 0)) (hn : cs.length = n) (hm0 : 0 < mm) (hmn : mm < n) (hm2 : mm ≤ 64) (hb : n ≤ 2000) (hp : ∀ c ∈ cs, ¬ c < 0 ∧ ¬ (65535 : Int32) < c) :
    OwM l Z (⟨"java/lang/StringUTF16", "compress", "([BII)[B"⟩ : MethodName) jdk_52_method_17_code 6 (some (.array .byte)) ({ frames := 4, cells := 2, slots := 420, locals := 61 } : Room) n0 #[(.ref t), (.int 0), (.int (Int32.ofNat mm))] h0 (fun v h => Keep h0 h [] ∧ ∃ (u : Addr) (ku : ClassId) (cd N2 : Int32) (ws : List Value), v = some (.ref u) ∧ h0.size ≤ u ∧ Arv Z h u ku .byte N2 ws (.int 0) ∧ StrChars.Road.CodA (cs.take mm) cd N2 ws) := by
  refine OwM.mk (plainFor_of_name pn_java_lang_StringUTF16) ?_
  intro p e s m below meth cD T hx hby hml hown hnm hret hlk hZ P
  have dc := @Jvm.hb cD _ hby
  refine OwG.cast (g' := mkF m 0 #[.val (.ref t), .val (.int 0), .val (.int (Int32.ofNat mm)), .unset, .unset, .unset] []) (by first | (simp [entryFrame, mkF, argsToLocals, Value.category]; done) | rfl) ?_
  have KP := Keep.refl h0 []
  refine OwG.ac (mkF m 1 #[.val (.ref t), .val (.int 0), .val (.int (Int32.ofNat mm)), .unset, .unset, .unset] [(.int (Int32.ofNat mm))]) (fun tQ kQ => ?_) ?_
  · exact XS.iloadN P.here hx rfl (dc d59_0) rfl kQ
  refine P.newP hx hZ (own_w hw 15 rfl) rfl (dc d59_1) rfl (own_nn (by omega)) (cap := 140) (by rw [own_tc (by omega)]; omega) (by decide) (own_le rfl) (own_le rfl) fun T h1 b kb gb P E V_b => ?_
  have ne_t_b : t ≠ b := Nat.ne_of_lt (Nat.lt_of_lt_of_le V_t.lt (Nat.le_of_eq gb.symm))
  have ne_b_t := Ne.symm ne_t_b
  have g_b : n0 ≤ b := Nat.le_trans Z0 (Nat.le_of_eq gb.symm)
  have sz_b : h0.size ≤ b := Nat.le_trans KP.1 (Nat.le_of_eq gb.symm)
  replace V_t := V_t.ext E
  replace Z0 := Nat.le_trans Z0 E.1
  replace OL := OL.ext E
  replace KP := KP.ext E
  clear E
  replace V_b : Arv Z h1 b kb .byte (Int32.ofNat mm) (List.replicate mm (.int 0)) (.int 0) := V_b.pad (pad_rep [] (.int 0) mm)
  show OwG p e below s _ _ _ _ T (mkF m 3 #[.val (.ref t), .val (.int 0), .val (.int (Int32.ofNat mm)), .unset, .unset, .unset] [(.ref b)])
  refine OwG.ac (mkF m 9 #[.val (.ref t), .val (.int 0), .val (.int (Int32.ofNat mm)), .val (.ref b), .unset, .unset] [(.int (Int32.ofNat mm)), (.int 0), (.ref b), (.int 0), (.ref t)]) (fun tQ kQ => ?_) ?_
  · refine XS.astoreN P.here hx rfl (dc d59_3) rfl rfl (l' := #[.val (.ref t), .val (.int 0), .val (.int (Int32.ofNat mm)), .val (.ref b), .unset, .unset]) rfl ?_
    refine XS.aloadN P.here hx rfl (dc d59_4) rfl rfl ?_
    refine XS.iloadN P.here hx rfl (dc d59_5) rfl ?_
    refine XS.aloadN P.here hx rfl (dc d59_6) rfl rfl ?_
    refine XS.iconst P.here hx rfl (dc d59_7) ?_
    exact XS.iloadN P.here hx rfl (dc d59_8) rfl kQ
  refine P.stat hx hZ hown (own_w hw 281 rfl) (own_w hw 282 rfl) (own_w hw 145 rfl) (own_w hw 283 rfl) (by decide) (OwM.back (W := 0) (rmC6 l Z a0 hw t kt cs n mm b kb fm h1 n0 Z0 SA SH SL SF rf OL V_t hn hm0 hmn hm2 hb hp V_b g_b ne_t_b) hZ (own_w hw 283 rfl) (own_w hw 145 rfl) (own_le rfl) (own_le rfl)) (fun _ _ _ q => q.2) rfl (by rw [hml]; rfl) (argsL := [(.ref t), (.int 0), (.ref b), (.int 0), (.int (Int32.ofNat mm))]) (rest := []) (lenOf pd___BI_BII_I rfl) rfl (own_le rfl) (dc d59_9) rfl (own_le rfl) (own_le rfl) fun T own_v own_L h2 own_e P own_q => ?_
  obtain ⟨⟨K, r, rfl, hr⟩, -⟩ := own_q
  clear own_e
  replace V_t := V_t.keep K (ninS ne_t_b nin0)
  replace Z0 := Nat.le_trans Z0 K.1
  replace OL := OL.keep K (allS g_b all0)
  replace KP := KP.trans K (allS (Or.inr sz_b) all0)
  show OwG p e below s _ _ _ _ T (mkF m 12 #[.val (.ref t), .val (.int 0), .val (.int (Int32.ofNat mm)), .val (.ref b), .unset, .unset] [(.int (Int32.ofNat r))])
  refine OwG.ac (mkF m 17 #[.val (.ref t), .val (.int 0), .val (.int (Int32.ofNat mm)), .val (.ref b), .val (.int (Int32.ofNat r)), .unset] [(.int (Int32.ofNat mm)), (.int (Int32.ofNat r))]) (fun tQ kQ => ?_) ?_
  · refine XS.istore P.here hx rfl (dc d59_12) rfl (l' := #[.val (.ref t), .val (.int 0), .val (.int (Int32.ofNat mm)), .val (.ref b), .val (.int (Int32.ofNat r)), .unset]) rfl ?_
    refine XS.iload P.here hx rfl (dc d59_14) rfl ?_
    exact XS.iloadN P.here hx rfl (dc d59_16) rfl kQ
  rcases hr with ⟨rfl, hall, V_b'⟩ | ⟨hr, hbig⟩
  ·skip
   refine OwG.ac (mkF m 65 #[.val (.ref t), .val (.int 0), .val (.int (Int32.ofNat r)), .val (.ref b), .val (.int (Int32.ofNat r)), .unset] [(.ref b)]) (fun tQ kQ => ?_) ?_
   · refine XS.icmpYes P.here hx rfl (pc0 := 17) (pc' := 64) rfl (dc d59_17) rfl (teq rfl).1 (by decide) (by decide) ?_
     exact XS.aloadN P.here hx rfl (dc d59_64) rfl rfl kQ
   exact P.retR hx hlk hret rfl rfl (dc d59_65) (own_le rfl) (own_le rfl) ⟨KP, b, kb, 0, _, _, rfl, sz_b, V_b', Or.inl ⟨rfl, by rw [List.length_take, hn, Nat.min_eq_left (Nat.le_of_lt hmn)], rfl, hall⟩⟩
  ·skip
   refine OwG.ac (mkF m 24 #[.val (.ref t), .val (.int 0), .val (.int (Int32.ofNat mm)), .val (.ref b), .val (.int (Int32.ofNat r)), .unset] [(.int ((0 : Int32) <<< ((1 : Int32) &&& 31))), (.ref t)]) (fun tQ kQ => ?_) ?_
   · refine XS.icmpNo P.here hx rfl (dc d59_17) rfl (feq (own_ne32 (by omega) (by omega) (by omega))).1 ?_
     refine XS.aloadN P.here hx rfl (dc d59_20) rfl rfl ?_
     refine XS.iloadN P.here hx rfl (dc d59_21) rfl ?_
     refine XS.iconst P.here hx rfl (dc d59_22) ?_
     exact XS.ishl P.here hx rfl (dc d59_23) rfl kQ
   rw [show ((0 : Int32) <<< ((1 : Int32) &&& 31)) = (0 : Int32) from by decide]
   refine OwG.ac (mkF m 27 #[.val (.ref t), .val (.int 0), .val (.int (Int32.ofNat mm)), .val (.ref b), .val (.int (Int32.ofNat r)), .unset] [(.int ((0 : Int32) + (Int32.ofNat mm))), (.int 0), (.ref t)]) (fun tQ kQ => ?_) ?_
   · refine XS.iloadN P.here hx rfl (dc d59_24) rfl ?_
     refine XS.iloadN P.here hx rfl (dc d59_25) rfl ?_
     exact XS.iadd P.here hx rfl (dc d59_26) rfl kQ
   rw [show ((0 : Int32) + (Int32.ofNat mm)) = (Int32.ofNat mm) from own_zadd _]
   refine P.stat hx hZ hown (own_w hw 234 rfl) (own_w hw 235 rfl) (own_w hw 145 rfl) (own_w hw 236 rfl) (by decide) (OwM.back (W := 2) (rmNbl l Z a0 hw mm h2 n0 Z0 (by omega)) hZ (own_w hw 236 rfl) (own_w hw 145 rfl) (own_le rfl) (own_le rfl)) (fun _ _ _ q => q.2) rfl (by rw [hml]; rfl) (argsL := [(.int (Int32.ofNat mm))]) (rest := [(.int 0), (.ref t)]) (lenOf pd__I_I rfl) rfl (own_le rfl) (dc d59_27) rfl (own_le rfl) (own_le rfl) fun T own_v own_L h3 own_e P own_q => ?_
   obtain ⟨⟨rfl, own_hh⟩, -⟩ := own_q
   rw [own_hh] at P
   clear own_e own_hh
   show OwG p e below s _ _ _ _ T (mkF m 30 #[.val (.ref t), .val (.int 0), .val (.int (Int32.ofNat mm)), .val (.ref b), .val (.int (Int32.ofNat r)), .unset] [(.int (Int32.ofNat (2 * mm))), (.int 0), (.ref t)])
   refine P.stat hx hZ hown (own_w hw 287 rfl) (own_w hw 125 rfl) (own_w hw 126 rfl) (own_w hw 127 rfl) (by decide) (OwM.back (W := 0) (rmCr l Z a0 hw t kt (2 * n) (2 * mm) _ h2 n0 Z0 V_t (by rw [own_wlen, hn]) (by omega) (by omega) (by omega)) hZ (own_w hw 127 rfl) (own_w hw 126 rfl) (own_le rfl) (own_le rfl)) (fun _ _ _ q => q.2) rfl (by rw [hml]; rfl) (argsL := [(.ref t), (.int 0), (.int (Int32.ofNat (2 * mm)))]) (rest := []) (lenOf pd___BII__B rfl) rfl (own_le rfl) (dc d59_30) rfl (own_le rfl) (own_le rfl) fun T own_v own_L h4 own_e P own_q => ?_
   obtain ⟨⟨K, c, kc, rfl, gc, V_c⟩, -⟩ := own_q
   show OwG p e below s _ _ _ _ T (mkF m 33 #[.val (.ref t), .val (.int 0), .val (.int (Int32.ofNat mm)), .val (.ref b), .val (.int (Int32.ofNat r)), .unset] [(.ref c)])
   clear own_e
   have ne_t_c : t ≠ c := Nat.ne_of_lt (Nat.lt_of_lt_of_le V_t.lt (Nat.le_of_eq gc.symm))
   have ne_c_t := Ne.symm ne_t_c
   have g_c : n0 ≤ c := Nat.le_trans Z0 (Nat.le_of_eq gc.symm)
   have sz_c : h0.size ≤ c := Nat.le_trans KP.1 (Nat.le_of_eq gc.symm)
   replace V_t := V_t.keep K nin0
   replace Z0 := Nat.le_trans Z0 K.1
   replace OL := OL.keep K all0
   replace KP := KP.trans K all0
   rw [own_wtake] at V_c
   have hnm : (cs.take mm).length = mm := by rw [List.length_take, hn]; exact Nat.min_eq_left (Nat.le_of_lt hmn)
   have hpm : ∀ c ∈ cs.take mm, ¬ c < 0 ∧ ¬ (65535 : Int32) < c := fun c hc => hp c (List.mem_of_mem_take hc)
   refine OwG.ac (mkF m 39 #[.val (.ref t), .val (.int 0), .val (.int (Int32.ofNat mm)), .val (.ref b), .val (.int (Int32.ofNat r)), .val (.ref c)] [(.int (Int32.ofNat r)), (.ref c)]) (fun tQ kQ => ?_) ?_
   · refine XS.astore P.here hx rfl (dc d59_33) rfl rfl (l' := #[.val (.ref t), .val (.int 0), .val (.int (Int32.ofNat mm)), .val (.ref b), .val (.int (Int32.ofNat r)), .val (.ref c)]) rfl ?_
     refine XS.aload P.here hx rfl (dc d59_35) rfl rfl ?_
     exact XS.iload P.here hx rfl (dc d59_37) rfl kQ
   refine P.stat hx hZ hown (own_w hw 244 rfl) (own_w hw 245 rfl) (own_w hw 145 rfl) (own_w hw 246 rfl) (by decide) (OwM.back (W := 0) (rmGet l Z a0 hw c kc mm r (cs.take mm) h4 n0 Z0 SA SH SL OL V_c hnm (by omega) hr hpm) hZ (own_w hw 246 rfl) (own_w hw 145 rfl) (own_le rfl) (own_le rfl)) (fun _ _ _ q => q.2) rfl (by rw [hml]; rfl) (argsL := [(.ref c), (.int (Int32.ofNat r))]) (rest := []) (lenOf pd___BI_C rfl) rfl (own_le rfl) (dc d59_39) rfl (own_le rfl) (own_le rfl) fun T own_v own_L h5 own_e P own_q => ?_
   obtain ⟨⟨rfl, own_hh⟩, -⟩ := own_q
   rw [own_hh] at P
   clear own_e own_hh
   show OwG p e below s _ _ _ _ T (mkF m 42 #[.val (.ref t), .val (.int 0), .val (.int (Int32.ofNat mm)), .val (.ref b), .val (.int (Int32.ofNat r)), .val (.ref c)] [(.int ((cs.take mm).getD r 0))])
   refine OwG.ac (mkF m 63 #[.val (.ref t), .val (.int 0), .val (.int (Int32.ofNat mm)), .val (.ref b), .val (.int (Int32.ofNat r)), .val (.ref c)] [(.ref c)]) (fun tQ kQ => ?_) ?_
   · refine XS.sipush P.here hx rfl (dc d59_42) ?_
     refine XS.icmpYes P.here hx rfl (pc0 := 45) (pc' := 61) rfl (dc d59_45) rfl (tlt (by rw [own_tg hr]; exact hbig)).2.2.1 (by decide) (by decide) ?_
     exact XS.aload P.here hx rfl (dc d59_61) rfl rfl kQ
   exact P.retR hx hlk hret rfl rfl (dc d59_63) (own_le rfl) (own_le rfl) ⟨KP, c, kc, 1, _, _, rfl, sz_c, V_c, own_wide hnm hr (by rw [own_tg hr]; exact hbig)⟩
abbrev bo58 := jdk_52_method_69_code
theorem d58_0 : decode bo58 0 = .ok (.iload_n 2, 1) := by decide +kernel
theorem d58_1 : decode bo58 1 = .ok (.ifCond .ne 7, 3) := by decide +kernel
theorem d58_8 : decode bo58 8 = .ok (.getstatic 251, 3) := by decide +kernel
theorem d58_11 : decode bo58 11 = .ok (.ifCond .eq 28, 3) := by decide +kernel
theorem d58_14 : decode bo58 14 = .ok (.aload_n 0, 1) := by decide +kernel
theorem d58_15 : decode bo58 15 = .ok (.iload_n 1, 1) := by decide +kernel
theorem d58_16 : decode bo58 16 = .ok (.iload_n 2, 1) := by decide +kernel
theorem d58_17 : decode bo58 17 = .ok (.invokestatic 257, 3) := by decide +kernel
theorem d58_20 : decode bo58 20 = .ok (.astore_n 3, 1) := by decide +kernel
theorem d58_21 : decode bo58 21 = .ok (.aload_n 3, 1) := by decide +kernel
theorem d58_22 : decode bo58 22 = .ok (.iload_n 2, 1) := by decide +kernel
theorem d58_23 : decode bo58 23 = .ok (.invokestatic 259, 3) := by decide +kernel
theorem d58_26 : decode bo58 26 = .ok (.istore 4, 2) := by decide +kernel
theorem d58_28 : decode bo58 28 = .ok (.new 3, 3) := by decide +kernel
theorem d58_31 : decode bo58 31 = .ok (.dup, 1) := by decide +kernel
theorem d58_32 : decode bo58 32 = .ok (.aload_n 3, 1) := by decide +kernel
theorem d58_33 : decode bo58 33 = .ok (.iload 4, 2) := by decide +kernel
theorem d58_35 : decode bo58 35 = .ok (.invokespecial 263, 3) := by decide +kernel
theorem d58_38 : decode bo58 38 = .ok (.areturn, 1) := by decide +kernel
set_option maxRecDepth 65536 in
set_option maxHeartbeats 40000000 in
theorem rmNsW (l : Launch) (Z : State) (a0 : Array Value) (hw : ∀ d ∈ tables_1, d.before a0 Z = true) (t : Addr) (kt : ClassId) (cs : List Int32) (n mm : Nat) (zC : Int32) (fm : Value) (h0 : Heap) (n0 : Nat) (Z0 : n0 ≤ h0.size) (SA : Sta Z Z.heap "java/lang/StringUTF16" "$assertionsDisabled" "Z" (.int 1)) (SH : Sta Z Z.heap "java/lang/StringUTF16" "HI_BYTE_SHIFT" "I" (.int 0)) (SL : Sta Z Z.heap "java/lang/StringUTF16" "LO_BYTE_SHIFT" "I" (.int 8)) (SF : Sta Z Z.heap "jdk/internal/util/Preconditions" "SIOOBE_FORMATTER" "Ljava/util/function/BiFunction;" fm) (rf : fm.isRef = true) (S2 : Sta Z Z.heap "java/lang/String" "COMPACT_STRINGS" "Z" (.int zC)) (hzC : ¬ zC = 0) (OL : Old Z n0 h0) (V_t : Arv Z h0 t kt .byte (Int32.ofNat (2 * n)) (StrChars.Road.wideBytes cs) (.int 0)) (hn : cs.length = n) (hm0 : 0 < mm) (hmn : mm < n) (hm2 : mm ≤ 64) (hb : n ≤ 2000) (hp : ∀ c ∈ cs, ¬ c < 0 ∧ ¬ (65535 : Int32) < c) :
    OwM l Z (⟨"java/lang/StringUTF16", "newString", "([BII)Ljava/lang/String;"⟩ : MethodName) jdk_52_method_69_code 5 (some (.object "java/lang/String")) ({ frames := 5, cells := 3, slots := 424, locals := 78 } : Room) n0 #[(.ref t), (.int 0), (.int (Int32.ofNat mm))] h0 (fun v h => Keep h0 h [] ∧ ∃ (y u : Addr) (ku : ClassId) (cy N2 : Int32) (ws : List Value), v = some (.ref y) ∧ h0.size ≤ u ∧ Exa Z h y "java/lang/String" ∧ Fld Z h y "java/lang/String" "value" "[B" (.ref u) ∧ Fld Z h y "java/lang/String" "coder" "B" (.int cy) ∧ Arv Z h u ku .byte N2 ws (.int 0) ∧ StrChars.Road.CodA (cs.take mm) cy N2 ws) := by
  refine OwM.mk (plainFor_of_name pn_java_lang_StringUTF16) ?_
  intro p e s m below meth cD T hx hby hml hown hnm hret hlk hZ P
  have dc := @Jvm.hb cD _ hby
  refine OwG.cast (g' := mkF m 0 #[.val (.ref t), .val (.int 0), .val (.int (Int32.ofNat mm)), .unset, .unset] []) (by first | (simp [entryFrame, mkF, argsToLocals, Value.category]; done) | rfl) ?_
  have KP := Keep.refl h0 []
  refine OwG.ac (mkF m 8 #[.val (.ref t), .val (.int 0), .val (.int (Int32.ofNat mm)), .unset, .unset] []) (fun tQ kQ => ?_) ?_
  · refine XS.iloadN P.here hx rfl (dc d58_0) rfl ?_
    exact XS.ifYes P.here hx rfl (pc0 := 1) (pc' := 8) rfl (dc d58_1) rfl ((if0 _ _).trans (feq (own_ne32 (n := 0) (by omega) (by omega) (by omega))).2) (by decide) (by decide) kQ
  refine P.getS hx hZ hown (host := "") (Or.inl (own_w hw 277 rfl)) Via.refl (S2.ext OL.2) rfl (dc d58_8) fun T P => ?_
  show OwG p e below s _ _ _ _ T (mkF m 11 #[.val (.ref t), .val (.int 0), .val (.int (Int32.ofNat mm)), .unset, .unset] [(.int zC)])
  refine OwG.ac (mkF m 17 #[.val (.ref t), .val (.int 0), .val (.int (Int32.ofNat mm)), .unset, .unset] [(.int (Int32.ofNat mm)), (.int 0), (.ref t)]) (fun tQ kQ => ?_) ?_
  · refine XS.ifNo P.here hx rfl (dc d58_11) rfl ((if0 _ _).trans (feq hzC).1) ?_
    refine XS.aloadN P.here hx rfl (dc d58_14) rfl rfl ?_
    refine XS.iloadN P.here hx rfl (dc d58_15) rfl ?_
    exact XS.iloadN P.here hx rfl (dc d58_16) rfl kQ
  have hnm : (cs.take mm).length = mm := by rw [List.length_take, hn]; exact Nat.min_eq_left (Nat.le_of_lt hmn)
  refine P.stat hx hZ hown (own_w hw 278 rfl) (own_w hw 279 rfl) (own_w hw 145 rfl) (own_w hw 280 rfl) (by decide) (OwM.back (W := 0) (rmC7 l Z a0 hw t kt cs n mm fm h0 n0 Z0 SA SH SL SF rf OL V_t hn hm0 hmn hm2 hb hp) hZ (own_w hw 280 rfl) (own_w hw 145 rfl) (own_le rfl) (own_le rfl)) (fun _ _ _ q => q.2) rfl (by rw [hml]; rfl) (argsL := [(.ref t), (.int 0), (.int (Int32.ofNat mm))]) (rest := []) (lenOf pd___BII__B rfl) rfl (own_le rfl) (dc d58_17) rfl (own_le rfl) (own_le rfl) fun T own_v own_L h1 own_e P own_q => ?_
  obtain ⟨⟨K, u, ku, cd, N2, ws, rfl, szu, V_u, hcod⟩, -⟩ := own_q
  show OwG p e below s _ _ _ _ T (mkF m 20 #[.val (.ref t), .val (.int 0), .val (.int (Int32.ofNat mm)), .unset, .unset] [(.ref u)])
  clear own_e
  have ne_t_u : t ≠ u := Nat.ne_of_lt (Nat.lt_of_lt_of_le V_t.lt szu)
  have ne_u_t := Ne.symm ne_t_u
  have g_u : n0 ≤ u := Nat.le_trans Z0 szu
  have sz_u : h0.size ≤ u := Nat.le_trans KP.1 szu
  replace V_t := V_t.keep K nin0
  replace Z0 := Nat.le_trans Z0 K.1
  replace OL := OL.keep K all0
  replace KP := KP.trans K all0
  refine OwG.ac (mkF m 23 #[.val (.ref t), .val (.int 0), .val (.int (Int32.ofNat mm)), .val (.ref u), .unset] [(.int (Int32.ofNat mm)), (.ref u)]) (fun tQ kQ => ?_) ?_
  · refine XS.astoreN P.here hx rfl (dc d58_20) rfl rfl (l' := #[.val (.ref t), .val (.int 0), .val (.int (Int32.ofNat mm)), .val (.ref u), .unset]) rfl ?_
    refine XS.aloadN P.here hx rfl (dc d58_21) rfl rfl ?_
    exact XS.iloadN P.here hx rfl (dc d58_22) rfl kQ
  refine P.stat hx hZ hown (own_w hw 284 rfl) (own_w hw 151 rfl) (own_w hw 145 rfl) (own_w hw 152 rfl) (by decide) (OwM.back (W := 0) (rmCl l Z a0 hw u ku cd N2 ws mm (cs.take mm) h1 n0 Z0 V_u hcod hnm hm0 (by omega)) hZ (own_w hw 152 rfl) (own_w hw 145 rfl) (own_le rfl) (own_le rfl)) (fun _ _ _ q => q.2) rfl (by rw [hml]; rfl) (argsL := [(.ref u), (.int (Int32.ofNat mm))]) (rest := []) (lenOf pd___BI_B rfl) rfl (own_le rfl) (dc d58_23) rfl (own_le rfl) (own_le rfl) fun T own_v own_L h2 own_e P own_q => ?_
  obtain ⟨⟨rfl, own_hh⟩, -⟩ := own_q
  rw [own_hh] at P
  clear own_e own_hh
  show OwG p e below s _ _ _ _ T (mkF m 26 #[.val (.ref t), .val (.int 0), .val (.int (Int32.ofNat mm)), .val (.ref u), .unset] [(.int cd)])
  refine OwG.ac (mkF m 28 #[.val (.ref t), .val (.int 0), .val (.int (Int32.ofNat mm)), .val (.ref u), .val (.int cd)] []) (fun tQ kQ => ?_) ?_
  · exact XS.istore P.here hx rfl (dc d58_26) rfl (l' := #[.val (.ref t), .val (.int 0), .val (.int (Int32.ofNat mm)), .val (.ref u), .val (.int cd)]) rfl kQ
  refine P.newO hx hZ hown (own_w hw 285 rfl) (own_w hw 2 rfl) (own_w hw 3 rfl) rfl (dc d58_28) (own_le rfl) (own_le rfl) fun T h3 x gx P E A D => ?_
  have ne_t_x : t ≠ x := Nat.ne_of_lt (Nat.lt_of_lt_of_le V_t.lt (Nat.le_of_eq gx.symm))
  have ne_x_t := Ne.symm ne_t_x
  have ne_u_x : u ≠ x := Nat.ne_of_lt (Nat.lt_of_lt_of_le V_u.lt (Nat.le_of_eq gx.symm))
  have ne_x_u := Ne.symm ne_u_x
  have g_x : n0 ≤ x := Nat.le_trans Z0 (Nat.le_of_eq gx.symm)
  have sz_x : h0.size ≤ x := Nat.le_trans KP.1 (Nat.le_of_eq gx.symm)
  replace V_t := V_t.ext E
  replace V_u := V_u.ext E
  replace Z0 := Nat.le_trans Z0 E.1
  replace OL := OL.ext E
  replace KP := KP.ext E
  have E_x := A
  have F_value_x : Fld Z h3 x "java/lang/String" "value" "[B" .null := D (Or.inr (own_w hw 16 rfl)) (ty := (.array .byte)) (by decide)
  have F_coder_x : Fld Z h3 x "java/lang/String" "coder" "B" (.int 0) := D (Or.inr (own_w hw 17 rfl)) (ty := .byte) (by decide)
  clear A D E
  show OwG p e below s _ _ _ _ T (mkF m 31 #[.val (.ref t), .val (.int 0), .val (.int (Int32.ofNat mm)), .val (.ref u), .val (.int cd)] [(.ref x)])
  refine OwG.ac (mkF m 35 #[.val (.ref t), .val (.int 0), .val (.int (Int32.ofNat mm)), .val (.ref u), .val (.int cd)] [(.int cd), (.ref u), (.ref x), (.ref x)]) (fun tQ kQ => ?_) ?_
  · refine XS.dup P.here hx rfl (dc d58_31) rfl rfl ?_
    refine XS.aloadN P.here hx rfl (dc d58_32) rfl rfl ?_
    exact XS.iload P.here hx rfl (dc d58_33) rfl kQ
  refine P.special hx hZ rfl hown (own_w hw 286 rfl) (own_w hw 188 rfl) (own_w hw 189 rfl) (by decide) (OwM.back (W := 1) (rmIb l Z a0 hw x u cd h3 n0 Z0 OL g_x E_x F_coder_x F_value_x (own_cd hcod)) hZ (own_w hw 189 rfl) (own_w hw 3 rfl) (own_le rfl) (own_le rfl)) (fun _ _ _ q => q.2) rfl (by rw [hml]; rfl) (a := x) (argsL := [(.ref u), (.int cd)]) (rest := [(.ref x)]) (lenOf pd___BB_V rfl) rfl (own_le rfl) (dc d58_35) rfl (own_le rfl) (own_le rfl) fun T own_v own_L h4 own_e P own_q => ?_
  obtain ⟨⟨rfl, K, F1, F2⟩, -⟩ := own_q
  clear own_e
  replace V_t := V_t.keep K (ninS ne_t_x nin0)
  replace V_u := V_u.keep K (ninS ne_u_x nin0)
  replace E_x := E_x.keep K
  replace Z0 := Nat.le_trans Z0 K.1
  replace OL := OL.keep K (allS g_x all0)
  replace KP := KP.trans K (allS (Or.inr sz_x) all0)
  show OwG p e below s _ _ _ _ T (mkF m 38 #[.val (.ref t), .val (.int 0), .val (.int (Int32.ofNat mm)), .val (.ref u), .val (.int cd)] [(.ref x)])
  exact P.retR hx hlk hret rfl rfl (dc d58_38) (own_le rfl) (own_le rfl) ⟨KP, x, u, ku, cd, N2, ws, rfl, sz_u, E_x, F1, F2, V_u, hcod⟩
abbrev bo32 := jdk_42_method_92_code
theorem d32_0 : decode bo32 0 = .ok (.aload_n 0, 1) := by decide +kernel
theorem d32_1 : decode bo32 1 = .ok (.invokevirtual 505, 3) := by decide +kernel
theorem d32_4 : decode bo32 4 = .ok (.istore_n 3, 1) := by decide +kernel
theorem d32_5 : decode bo32 5 = .ok (.iload_n 1, 1) := by decide +kernel
theorem d32_6 : decode bo32 6 = .ok (.iload_n 2, 1) := by decide +kernel
theorem d32_7 : decode bo32 7 = .ok (.iload_n 3, 1) := by decide +kernel
theorem d32_8 : decode bo32 8 = .ok (.invokestatic 521, 3) := by decide +kernel
theorem d32_11 : decode bo32 11 = .ok (.iload_n 1, 1) := by decide +kernel
theorem d32_12 : decode bo32 12 = .ok (.ifCond .ne 10, 3) := by decide +kernel
theorem d32_15 : decode bo32 15 = .ok (.iload_n 2, 1) := by decide +kernel
theorem d32_16 : decode bo32 16 = .ok (.iload_n 3, 1) := by decide +kernel
theorem d32_17 : decode bo32 17 = .ok (.if_icmp .ne 5, 3) := by decide +kernel
theorem d32_22 : decode bo32 22 = .ok (.iload_n 2, 1) := by decide +kernel
theorem d32_23 : decode bo32 23 = .ok (.iload_n 1, 1) := by decide +kernel
theorem d32_24 : decode bo32 24 = .ok (.isub, 1) := by decide +kernel
theorem d32_25 : decode bo32 25 = .ok (.istore 4, 2) := by decide +kernel
theorem d32_27 : decode bo32 27 = .ok (.aload_n 0, 1) := by decide +kernel
theorem d32_28 : decode bo32 28 = .ok (.invokevirtual 492, 3) := by decide +kernel
theorem d32_31 : decode bo32 31 = .ok (.ifCond .eq 16, 3) := by decide +kernel
theorem d32_34 : decode bo32 34 = .ok (.aload_n 0, 1) := by decide +kernel
theorem d32_35 : decode bo32 35 = .ok (.getfield 9, 3) := by decide +kernel
theorem d32_38 : decode bo32 38 = .ok (.iload_n 1, 1) := by decide +kernel
theorem d32_39 : decode bo32 39 = .ok (.iload 4, 2) := by decide +kernel
theorem d32_41 : decode bo32 41 = .ok (.invokestatic 685, 3) := by decide +kernel
theorem pd___BII_Ljava_lang_String_ : parseMethodDescriptor "([BII)Ljava/lang/String;" = some ⟨[(.array .byte), .int, .int], some (.object "java/lang/String")⟩ := by decide +kernel
theorem d32_44 : decode bo32 44 = .ok (.goto 13, 3) := by decide +kernel
theorem d32_57 : decode bo32 57 = .ok (.areturn, 1) := by decide +kernel
theorem d32_47 : decode bo32 47 = .ok (.aload_n 0, 1) := by decide +kernel
theorem d32_48 : decode bo32 48 = .ok (.getfield 9, 3) := by decide +kernel
theorem d32_51 : decode bo32 51 = .ok (.iload_n 1, 1) := by decide +kernel
theorem d32_52 : decode bo32 52 = .ok (.iload 4, 2) := by decide +kernel
theorem d32_54 : decode bo32 54 = .ok (.invokestatic 689, 3) := by decide +kernel
set_option maxRecDepth 65536 in
set_option maxHeartbeats 40000000 in
theorem rmSub (l : Launch) (Z : State) (a0 : Array Value) (hw : ∀ d ∈ tables_1, d.before a0 Z = true) (x : Addr) (t : Addr) (kt : ClassId) (cs : List Int32) (n mm : Nat) (cx N2 : Int32) (vs : List Value) (zC : Int32) (fm : Value) (h0 : Heap) (n0 : Nat) (Z0 : n0 ≤ h0.size) (SA : Sta Z Z.heap "java/lang/StringUTF16" "$assertionsDisabled" "Z" (.int 1)) (SH : Sta Z Z.heap "java/lang/StringUTF16" "HI_BYTE_SHIFT" "I" (.int 0)) (SL : Sta Z Z.heap "java/lang/StringUTF16" "LO_BYTE_SHIFT" "I" (.int 8)) (SF : Sta Z Z.heap "jdk/internal/util/Preconditions" "SIOOBE_FORMATTER" "Ljava/util/function/BiFunction;" fm) (rf : fm.isRef = true) (S2 : Sta Z Z.heap "java/lang/String" "COMPACT_STRINGS" "Z" (.int zC)) (hzC : ¬ zC = 0) (OL : Old Z n0 h0) (E_x : Exa Z h0 x "java/lang/String") (V_x : Fld Z h0 x "java/lang/String" "value" "[B" (.ref t)) (C_x : Fld Z h0 x "java/lang/String" "coder" "B" (.int cx)) (V_t : Arv Z h0 t kt .byte N2 vs (.int 0)) (hc : StrChars.Road.CodA cs cx N2 vs) (hn : cs.length = n) (hm0 : 0 < mm) (hmn : mm < n) (hm2 : mm ≤ 64) (hb : n ≤ 2000) (hp : ∀ c ∈ cs, ¬ c < 0 ∧ ¬ (65535 : Int32) < c) :
    OwM l Z (⟨"java/lang/String", "substring", "(II)Ljava/lang/String;"⟩ : MethodName) jdk_42_method_92_code 5 (some (.object "java/lang/String")) ({ frames := 6, cells := 3, slots := 424, locals := 94 } : Room) n0 #[(.ref x), (.int 0), (.int (Int32.ofNat mm))] h0 (fun v h => Keep h0 h [] ∧ ∃ (y u : Addr) (ku : ClassId) (cy N2 : Int32) (ws : List Value), v = some (.ref y) ∧ h0.size ≤ u ∧ Exa Z h y "java/lang/String" ∧ Fld Z h y "java/lang/String" "value" "[B" (.ref u) ∧ Fld Z h y "java/lang/String" "coder" "B" (.int cy) ∧ Arv Z h u ku .byte N2 ws (.int 0) ∧ StrChars.Road.CodA (cs.take mm) cy N2 ws) := by
  refine OwM.mk (plainFor_of_name pn_java_lang_String) ?_
  intro p e s m below meth cD T hx hby hml hown hnm hret hlk hZ P
  have dc := @Jvm.hb cD _ hby
  refine OwG.cast (g' := mkF m 0 #[.val (.ref x), .val (.int 0), .val (.int (Int32.ofNat mm)), .unset, .unset] []) (by first | (simp [entryFrame, mkF, argsToLocals, Value.category]; done) | rfl) ?_
  refine OwG.ac (mkF m 1 #[.val (.ref x), .val (.int 0), .val (.int (Int32.ofNat mm)), .unset, .unset] [(.ref x)]) (fun tQ kQ => ?_) ?_
  · exact XS.aloadN P.here hx rfl (dc d32_0) rfl rfl kQ
  refine P.virtual hx hZ hown (own_w hw 168 rfl) (own_w hw 27 rfl) (own_w hw 29 rfl) (own_w hw 28 rfl) (by decide) (own_lenB (W := 0) hZ hw E_x V_x C_x V_t hc hp (S2.ext OL.2) hzC hn (by omega) (own_le rfl) (own_le rfl)) (fun _ _ _ q => q.2.2) E_x rfl (by rw [hml]; rfl) (argsL := []) (rest := []) (lenOf pd___I rfl) rfl (own_le rfl) (dc d32_1) rfl (own_le rfl) (own_le rfl) fun T own_v own_L h1 own_e P own_q => ?_
  obtain ⟨rfl, own_hh, -⟩ := own_q
  rw [own_hh] at P
  clear own_e own_hh
  show OwG p e below s _ _ _ _ T (mkF m 4 #[.val (.ref x), .val (.int 0), .val (.int (Int32.ofNat mm)), .unset, .unset] [(.int (Int32.ofNat n))])
  refine OwG.ac (mkF m 8 #[.val (.ref x), .val (.int 0), .val (.int (Int32.ofNat mm)), .val (.int (Int32.ofNat n)), .unset] [(.int (Int32.ofNat n)), (.int (Int32.ofNat mm)), (.int 0)]) (fun tQ kQ => ?_) ?_
  · refine XS.istoreN P.here hx rfl (dc d32_4) rfl (l' := #[.val (.ref x), .val (.int 0), .val (.int (Int32.ofNat mm)), .val (.int (Int32.ofNat n)), .unset]) rfl ?_
    refine XS.iloadN P.here hx rfl (dc d32_5) rfl ?_
    refine XS.iloadN P.here hx rfl (dc d32_6) rfl ?_
    exact XS.iloadN P.here hx rfl (dc d32_7) rfl kQ
  refine P.stat hx hZ hown (own_w hw 169 rfl) (own_w hw 170 rfl) (own_w hw 3 rfl) (own_w hw 171 rfl) (by decide) (OwM.back (W := 0) (rmCbe l Z a0 hw 0 mm n fm h0 n0 Z0 SF rf OL (by omega) (by omega) (by omega)) hZ (own_w hw 171 rfl) (own_w hw 3 rfl) (own_le rfl) (own_le rfl)) (fun _ _ _ q => q.2) rfl (by rw [hml]; rfl) (argsL := [(.int 0), (.int (Int32.ofNat mm)), (.int (Int32.ofNat n))]) (rest := []) (lenOf pd__III_V rfl) rfl (own_le rfl) (dc d32_8) rfl (own_le rfl) (own_le rfl) fun T own_v own_L h2 own_e P own_q => ?_
  obtain ⟨⟨rfl, own_hh⟩, -⟩ := own_q
  rw [own_hh] at P
  clear own_e own_hh
  show OwG p e below s _ _ _ _ T (mkF m 11 #[.val (.ref x), .val (.int 0), .val (.int (Int32.ofNat mm)), .val (.int (Int32.ofNat n)), .unset] [])
  refine OwG.ac (mkF m 25 #[.val (.ref x), .val (.int 0), .val (.int (Int32.ofNat mm)), .val (.int (Int32.ofNat n)), .unset] [(.int ((Int32.ofNat mm) - (0 : Int32)))]) (fun tQ kQ => ?_) ?_
  · refine XS.iloadN P.here hx rfl (dc d32_11) rfl ?_
    refine XS.ifNo P.here hx rfl (dc d32_12) rfl ((if0 _ _).trans (teq rfl).2) ?_
    refine XS.iloadN P.here hx rfl (dc d32_15) rfl ?_
    refine XS.iloadN P.here hx rfl (dc d32_16) rfl ?_
    refine XS.icmpYes P.here hx rfl (pc0 := 17) (pc' := 22) rfl (dc d32_17) rfl (feq (own_ne32 (by omega) (by omega) (by omega))).2 (by decide) (by decide) ?_
    refine XS.iloadN P.here hx rfl (dc d32_22) rfl ?_
    refine XS.iloadN P.here hx rfl (dc d32_23) rfl ?_
    exact XS.isub P.here hx rfl (dc d32_24) rfl kQ
  rw [show ((Int32.ofNat mm) - (0 : Int32)) = (Int32.ofNat mm) from own_sub0 _]
  refine OwG.ac (mkF m 28 #[.val (.ref x), .val (.int 0), .val (.int (Int32.ofNat mm)), .val (.int (Int32.ofNat n)), .val (.int (Int32.ofNat mm))] [(.ref x)]) (fun tQ kQ => ?_) ?_
  · refine XS.istore P.here hx rfl (dc d32_25) rfl (l' := #[.val (.ref x), .val (.int 0), .val (.int (Int32.ofNat mm)), .val (.int (Int32.ofNat n)), .val (.int (Int32.ofNat mm))]) rfl ?_
    exact XS.aloadN P.here hx rfl (dc d32_27) rfl rfl kQ
  rcases hc with ⟨rfl, rfl, rfl, ha⟩ | ⟨rfl, rfl, rfl, ha⟩
  ·skip
   rw [hn] at V_t
   refine P.virtual hx hZ hown (own_w hw 177 rfl) (own_w hw 178 rfl) (own_w hw 180 rfl) (own_w hw 179 rfl) (by decide) (OwM.back (W := 0) (rmIsL l Z a0 hw x (0 : Int32) zC h0 n0 Z0 S2 hzC OL C_x) hZ (own_w hw 181 rfl) (own_w hw 3 rfl) (own_le rfl) (own_le rfl)) (fun _ _ _ q => q.2) E_x rfl (by rw [hml]; rfl) (argsL := []) (rest := []) (lenOf pd___Z rfl) rfl (own_le rfl) (dc d32_28) rfl (own_le rfl) (own_le rfl) fun T own_v own_L h3 own_e P own_q => ?_
   obtain ⟨⟨rfl, own_hh⟩, -⟩ := own_q
   rw [own_hh] at P
   clear own_e own_hh
   show OwG p e below s _ _ _ _ T (mkF m 31 #[.val (.ref x), .val (.int 0), .val (.int (Int32.ofNat mm)), .val (.int (Int32.ofNat n)), .val (.int (Int32.ofNat mm))] [(.int (if (0 : Int32) = 0 then 1 else 0))])
   refine OwG.ac (mkF m 35 #[.val (.ref x), .val (.int 0), .val (.int (Int32.ofNat mm)), .val (.int (Int32.ofNat n)), .val (.int (Int32.ofNat mm))] [(.ref x)]) (fun tQ kQ => ?_) ?_
   · refine XS.ifNo P.here hx rfl (dc d32_31) rfl ((if0 _ _).trans (feq (by decide)).1) ?_
     exact XS.aloadN P.here hx rfl (dc d32_34) rfl rfl kQ
   refine P.getF hx hZ hown (host := "") (Or.inl (own_w hw 20 rfl)) Via.refl V_x rfl rfl (dc d32_35) fun T P => ?_
   show OwG p e below s _ _ _ _ T (mkF m 38 #[.val (.ref x), .val (.int 0), .val (.int (Int32.ofNat mm)), .val (.int (Int32.ofNat n)), .val (.int (Int32.ofNat mm))] [(.ref t)])
   refine OwG.ac (mkF m 41 #[.val (.ref x), .val (.int 0), .val (.int (Int32.ofNat mm)), .val (.int (Int32.ofNat n)), .val (.int (Int32.ofNat mm))] [(.int (Int32.ofNat mm)), (.int 0), (.ref t)]) (fun tQ kQ => ?_) ?_
   · refine XS.iloadN P.here hx rfl (dc d32_38) rfl ?_
     exact XS.iload P.here hx rfl (dc d32_39) rfl kQ
   refine P.stat hx hZ hown (own_w hw 182 rfl) (own_w hw 183 rfl) (own_w hw 161 rfl) (own_w hw 184 rfl) (by decide) (OwM.back (W := 0) (rmNsL l Z a0 hw t kt cs n mm h0 n0 Z0 OL V_t hn hm0 hmn hm2 hb hp ha) hZ (own_w hw 184 rfl) (own_w hw 161 rfl) (own_le rfl) (own_le rfl)) (fun _ _ _ q => q.2) rfl (by rw [hml]; rfl) (argsL := [(.ref t), (.int 0), (.int (Int32.ofNat mm))]) (rest := []) (lenOf pd___BII_Ljava_lang_String_ rfl) rfl (own_le rfl) (dc d32_41) rfl (own_le rfl) (own_le rfl) fun T own_v own_L h4 own_e P own_q => ?_
   obtain ⟨⟨K, y, u, ku, cy, N2, ws, rfl, own_r⟩, -⟩ := own_q
   show OwG p e below s _ _ _ _ T (mkF m 44 #[.val (.ref x), .val (.int 0), .val (.int (Int32.ofNat mm)), .val (.int (Int32.ofNat n)), .val (.int (Int32.ofNat mm))] [(.ref y)])
   refine OwG.ac (mkF m 57 #[.val (.ref x), .val (.int 0), .val (.int (Int32.ofNat mm)), .val (.int (Int32.ofNat n)), .val (.int (Int32.ofNat mm))] [(.ref y)]) (fun tQ kQ => ?_) ?_
   · exact XS.goto P.here hx rfl (pc0 := 44) (pc' := 57) rfl (dc d32_44) (by decide) (by decide) kQ
   exact P.retR hx hlk hret rfl rfl (dc d32_57) (own_le rfl) (own_le rfl) ⟨K, y, u, ku, cy, N2, ws, rfl, own_r⟩
  ·skip
   rw [hn] at V_t
   refine P.virtual hx hZ hown (own_w hw 177 rfl) (own_w hw 178 rfl) (own_w hw 180 rfl) (own_w hw 179 rfl) (by decide) (OwM.back (W := 0) (rmIsL l Z a0 hw x (1 : Int32) zC h0 n0 Z0 S2 hzC OL C_x) hZ (own_w hw 181 rfl) (own_w hw 3 rfl) (own_le rfl) (own_le rfl)) (fun _ _ _ q => q.2) E_x rfl (by rw [hml]; rfl) (argsL := []) (rest := []) (lenOf pd___Z rfl) rfl (own_le rfl) (dc d32_28) rfl (own_le rfl) (own_le rfl) fun T own_v own_L h5 own_e P own_q => ?_
   obtain ⟨⟨rfl, own_hh⟩, -⟩ := own_q
   rw [own_hh] at P
   clear own_e own_hh
   show OwG p e below s _ _ _ _ T (mkF m 31 #[.val (.ref x), .val (.int 0), .val (.int (Int32.ofNat mm)), .val (.int (Int32.ofNat n)), .val (.int (Int32.ofNat mm))] [(.int (if (1 : Int32) = 0 then 1 else 0))])
   refine OwG.ac (mkF m 48 #[.val (.ref x), .val (.int 0), .val (.int (Int32.ofNat mm)), .val (.int (Int32.ofNat n)), .val (.int (Int32.ofNat mm))] [(.ref x)]) (fun tQ kQ => ?_) ?_
   · refine XS.ifYes P.here hx rfl (pc0 := 31) (pc' := 47) rfl (dc d32_31) rfl ((if0 _ _).trans (teq (by decide)).1) (by decide) (by decide) ?_
     exact XS.aloadN P.here hx rfl (dc d32_47) rfl rfl kQ
   refine P.getF hx hZ hown (host := "") (Or.inl (own_w hw 20 rfl)) Via.refl V_x rfl rfl (dc d32_48) fun T P => ?_
   show OwG p e below s _ _ _ _ T (mkF m 51 #[.val (.ref x), .val (.int 0), .val (.int (Int32.ofNat mm)), .val (.int (Int32.ofNat n)), .val (.int (Int32.ofNat mm))] [(.ref t)])
   refine OwG.ac (mkF m 54 #[.val (.ref x), .val (.int 0), .val (.int (Int32.ofNat mm)), .val (.int (Int32.ofNat n)), .val (.int (Int32.ofNat mm))] [(.int (Int32.ofNat mm)), (.int 0), (.ref t)]) (fun tQ kQ => ?_) ?_
   · refine XS.iloadN P.here hx rfl (dc d32_51) rfl ?_
     exact XS.iload P.here hx rfl (dc d32_52) rfl kQ
   refine P.stat hx hZ hown (own_w hw 274 rfl) (own_w hw 275 rfl) (own_w hw 145 rfl) (own_w hw 276 rfl) (by decide) (OwM.back (W := 0) (rmNsW l Z a0 hw t kt cs n mm zC fm h0 n0 Z0 SA SH SL SF rf S2 hzC OL V_t hn hm0 hmn hm2 hb hp) hZ (own_w hw 276 rfl) (own_w hw 145 rfl) (own_le rfl) (own_le rfl)) (fun _ _ _ q => q.2) rfl (by rw [hml]; rfl) (argsL := [(.ref t), (.int 0), (.int (Int32.ofNat mm))]) (rest := []) (lenOf pd___BII_Ljava_lang_String_ rfl) rfl (own_le rfl) (dc d32_54) rfl (own_le rfl) (own_le rfl) fun T own_v own_L h6 own_e P own_q => ?_
   obtain ⟨⟨K, y, u, ku, cy, N2, ws, rfl, own_r⟩, -⟩ := own_q
   show OwG p e below s _ _ _ _ T (mkF m 57 #[.val (.ref x), .val (.int 0), .val (.int (Int32.ofNat mm)), .val (.int (Int32.ofNat n)), .val (.int (Int32.ofNat mm))] [(.ref y)])
   exact P.retR hx hlk hret rfl rfl (dc d32_57) (own_le rfl) (own_le rfl) ⟨K, y, u, ku, cy, N2, ws, rfl, own_r⟩
theorem own_cst {cs : List Int32} (h1 : ∀ c ∈ cs, StrChars.lo8 c = c) (h2 : ∀ c ∈ cs, ¬ (255 : Int32) < c) : StrChars.Road.CodA cs 0 (Int32.ofNat cs.length) (cs.map Value.int) := Or.inl ⟨rfl, rfl, List.map_congr_left fun c hc => by rw [h1 c hc], h2⟩
theorem own_B0 : own_BC [] 16 (0 : Int32) (16 : Int32) (List.replicate 16 (.int 0)) := Or.inl ⟨rfl, rfl, rfl, fun c hc => nomatch hc⟩
theorem own_capS {n : Nat} (h : n ≤ 7 ∨ (60 ≤ n ∧ n ≤ 64)) : own_cap (own_cap 16 (0 + 1)) (0 + 1 + n) ≤ 140 ∧ 0 < own_cap (own_cap 16 (0 + 1)) (0 + 1 + n) ∧ 0 + 1 + n ≤ own_cap (own_cap 16 (0 + 1)) (0 + 1 + n) ∧ own_cap (own_cap (own_cap 16 (0 + 1)) (0 + 1 + n)) (0 + 1 + n + 1) ≤ 140 ∧ 0 + 1 + n + 1 < own_cap (own_cap (own_cap 16 (0 + 1)) (0 + 1 + n)) (0 + 1 + n + 1) := by
  rcases (by omega : n = 0 ∨ n = 1 ∨ n = 2 ∨ n = 3 ∨ n = 4 ∨ n = 5 ∨ n = 6 ∨ n = 7 ∨ n = 60 ∨ n = 61 ∨ n = 62 ∨ n = 63 ∨ n = 64) with rfl | rfl | rfl | rfl | rfl | rfl | rfl | rfl | rfl | rfl | rfl | rfl | rfl <;> decide
theorem own_hz {n : Nat} (h : 65 ≤ n) (h2 : n ≤ 67) : Int32.ofNat n = 65 ∨ Int32.ofNat n = 66 ∨ Int32.ofNat n = 67 := by
  rcases (by omega : n = 65 ∨ n = 66 ∨ n = 67) with rfl | rfl | rfl
  · exact Or.inl rfl
  · exact Or.inr (Or.inl rfl)
  · exact Or.inr (Or.inr rfl)
theorem own_dzb {z : Int32} (hz : z = 65 ∨ z = 66 ∨ z = 67) : ∀ c ∈ [54, own_dz z], ¬ c < 0 ∧ ¬ (65535 : Int32) < c := by
  rcases hz with rfl | rfl | rfl <;> decide
abbrev bo4 := prog_7_method_6_code
theorem d4_0 : decode bo4 0 = .ok (.aload_n 0, 1) := by decide +kernel
theorem d4_1 : decode bo4 1 = .ok (.invokevirtual 130, 3) := by decide +kernel
theorem d4_4 : decode bo4 4 = .ok (.bipush 64, 2) := by decide +kernel
theorem d4_6 : decode bo4 6 = .ok (.if_icmp .gt 28, 3) := by decide +kernel
theorem d4_9 : decode bo4 9 = .ok (.new 36, 3) := by decide +kernel
theorem d4_12 : decode bo4 12 = .ok (.dup, 1) := by decide +kernel
theorem d4_13 : decode bo4 13 = .ok (.invokespecial 43, 3) := by decide +kernel
theorem d4_16 : decode bo4 16 = .ok (.ldc 134, 2) := by decide +kernel
theorem d4_18 : decode bo4 18 = .ok (.invokevirtual 64, 3) := by decide +kernel
theorem pd__Ljava_lang_String__Ljava_lang_StringBuilder_ : parseMethodDescriptor "(Ljava/lang/String;)Ljava/lang/StringBuilder;" = some ⟨[(.object "java/lang/String")], some (.object "java/lang/StringBuilder")⟩ := by decide +kernel
theorem d4_21 : decode bo4 21 = .ok (.aload_n 0, 1) := by decide +kernel
theorem d4_22 : decode bo4 22 = .ok (.invokevirtual 64, 3) := by decide +kernel
theorem d4_25 : decode bo4 25 = .ok (.ldc 134, 2) := by decide +kernel
theorem d4_27 : decode bo4 27 = .ok (.invokevirtual 64, 3) := by decide +kernel
theorem d4_30 : decode bo4 30 = .ok (.invokevirtual 79, 3) := by decide +kernel
theorem pd___Ljava_lang_String_ : parseMethodDescriptor "()Ljava/lang/String;" = some ⟨[], some (.object "java/lang/String")⟩ := by decide +kernel
theorem d4_33 : decode bo4 33 = .ok (.areturn, 1) := by decide +kernel
theorem pn_com_example_background_task_queue_backgroundtaskqueue_NameRule : plainName "com/example/background_task_queue/backgroundtaskqueue/NameRule" = true := by first | (simp [plainName, overriddenIn]; done) | decide +kernel
set_option maxRecDepth 65536 in
set_option maxHeartbeats 40000000 in
theorem rmQs (l : Launch) (Z : State) (a0 : Array Value) (hw : ∀ d ∈ tables_1, d.before a0 Z = true) (x tx : Addr) (kx : ClassId) (cx N2 : Int32) (ws : List Value) (cs : List Int32) (n : Nat) (zC : Int32) (fm : Value) (h0 : Heap) (n0 : Nat) (Z0 : n0 ≤ h0.size) (SA : Sta Z Z.heap "java/lang/StringUTF16" "$assertionsDisabled" "Z" (.int 1)) (SH : Sta Z Z.heap "java/lang/StringUTF16" "HI_BYTE_SHIFT" "I" (.int 0)) (SL : Sta Z Z.heap "java/lang/StringUTF16" "LO_BYTE_SHIFT" "I" (.int 8)) (SF : Sta Z Z.heap "jdk/internal/util/Preconditions" "SIOOBE_FORMATTER" "Ljava/util/function/BiFunction;" fm) (rf : fm.isRef = true) (S2 : Sta Z Z.heap "java/lang/String" "COMPACT_STRINGS" "Z" (.int zC)) (hzC : ¬ zC = 0) (OL : Old Z n0 h0) (E_x : Exa Z h0 x "java/lang/String") (V_x : Fld Z h0 x "java/lang/String" "value" "[B" (.ref tx)) (C_x : Fld Z h0 x "java/lang/String" "coder" "B" (.int cx)) (A_x : Arv Z h0 tx kx .byte N2 ws (.int 0)) (hc : StrChars.Road.CodA cs cx N2 ws) (hn : cs.length = n) (hpx : ∀ c ∈ cs, ¬ c < 0 ∧ ¬ (65535 : Int32) < c) (hn64 : n ≤ 7 ∨ (60 ≤ n ∧ n ≤ 64)) :
    OwS l Z own_EL [] (⟨"com/example/background_task_queue/backgroundtaskqueue/NameRule", "quote", "(Ljava/lang/String;)Ljava/lang/String;"⟩ : MethodName) prog_7_method_6_code 1 (some (.object "java/lang/String")) ({ frames := 10, cells := 14, slots := 2000, locals := 143 } : Room) n0 #[(.ref x)] h0 (fun v h => Keep h0 h [] ∧ ∃ (y u : Addr) (ku : ClassId) (cy N2 : Int32) (ws : List Value), v = some (.ref y) ∧ Exa Z h y "java/lang/String" ∧ Fld Z h y "java/lang/String" "value" "[B" (.ref u) ∧ Fld Z h y "java/lang/String" "coder" "B" (.int cy) ∧ Arv Z h u ku .byte N2 ws (.int 0) ∧ StrChars.Road.CodA ((([] ++ ([34] : List Int32)) ++ cs) ++ ([34] : List Int32)) cy N2 ws) := by
  have hEL := own_EW hw
  refine OwS.mk (plainFor_of_name pn_com_example_background_task_queue_backgroundtaskqueue_NameRule) ?_
  intro p e s m below meth cD T hx hby hml hnm hret hlk P
  have dc := @Jvm.hb cD _ hby
  refine OwH.cast (g' := mkF m 0 #[.val (.ref x)] []) (by first | (simp [entryFrame, mkF, argsToLocals, Value.category]; done) | rfl) ?_
  have KP := Keep.refl h0 []
  refine OwH.ac (mkF m 1 #[.val (.ref x)] [(.ref x)]) (fun tQ kQ => ?_) ?_
  · exact XS.aloadN P.here hx rfl (dc d4_0) rfl rfl kQ
  refine P.virtual hx (own_w hw 26 rfl) (own_w hw 27 rfl) (fun vm0 hZ => notFace_of_selects (args := #[]) (mvT (s := s.setVm vm0) hZ (own_w hw 29 rfl))) (own_w hw 29 rfl) (own_w hw 28 rfl) (by decide) (fun vm0 hZ => own_lenB (s := s.setVm vm0) (W := 0) (n0 := n0) hZ hw E_x V_x C_x A_x hc hpx (S2.ext OL.2) hzC hn (by omega) (own_le rfl) (own_le rfl)) (fun _ _ _ q => q.2.2) (ws := []) (fun _ _ _ q => by rw [q.2.1]; exact Keep.refl _ _) all0 E_x rfl (by rw [hml]; rfl) (argsL := []) (rest := []) (lenOf pd___I rfl) rfl (own_le rfl) (dc d4_1) rfl (own_le rfl) (own_le rfl) fun T own_v own_L h1 own_e P own_q => ?_
  obtain ⟨rfl, own_hh, -⟩ := own_q
  rw [own_hh] at P
  clear own_e own_hh
  show OwH p e below s _ _ _ _ _ _ T (mkF m 4 #[.val (.ref x)] [(.int (Int32.ofNat n))])
  refine OwH.ac (mkF m 9 #[.val (.ref x)] []) (fun tQ kQ => ?_) ?_
  · refine XS.bipush P.here hx rfl (dc d4_4) ?_
    exact XS.icmpNo P.here hx rfl (dc d4_6) rfl (flt (own_nlt (i := 64) (by omega) (by omega))).2.2.1 kQ
  refine P.newO hx (own_w hw 37 rfl) (own_w hw 38 rfl) (own_w hw 39 rfl) rfl (dc d4_9) (own_le rfl) (own_le rfl) fun T h2 sb gsb P E A D => ?_
  have ne_x_sb : x ≠ sb := Nat.ne_of_lt (Nat.lt_of_lt_of_le E_x.lt (Nat.le_of_eq gsb.symm))
  have ne_sb_x := Ne.symm ne_x_sb
  have ne_tx_sb : tx ≠ sb := Nat.ne_of_lt (Nat.lt_of_lt_of_le A_x.lt (Nat.le_of_eq gsb.symm))
  have ne_sb_tx := Ne.symm ne_tx_sb
  have g_sb : n0 ≤ sb := Nat.le_trans Z0 (Nat.le_of_eq gsb.symm)
  have sz_sb : h0.size ≤ sb := Nat.le_trans KP.1 (Nat.le_of_eq gsb.symm)
  replace E_x := E_x.ext E
  replace V_x := V_x.ext E
  replace C_x := C_x.ext E
  replace A_x := A_x.ext E
  replace Z0 := Nat.le_trans Z0 E.1
  replace OL := OL.ext E
  replace KP := KP.ext E
  have E_sb := A
  have F_value_sb : Fld Z h2 sb "java/lang/AbstractStringBuilder" "value" "[B" .null := D (Or.inl (own_w hw 52 rfl)) (ty := (.array .byte)) (by decide)
  have F_coder_sb : Fld Z h2 sb "java/lang/AbstractStringBuilder" "coder" "B" (.int 0) := D (Or.inl (own_w hw 54 rfl)) (ty := .byte) (by decide)
  have F_count_sb : Fld Z h2 sb "java/lang/AbstractStringBuilder" "count" "I" (.int 0) := D (Or.inl (own_w hw 68 rfl)) (ty := .int) (by decide)
  have F_maybeLatin1_sb : Fld Z h2 sb "java/lang/AbstractStringBuilder" "maybeLatin1" "Z" (.int 0) := D (Or.inl (own_w hw 273 rfl)) (ty := .boolean) (by decide)
  clear A D E
  show OwH p e below s _ _ _ _ _ _ T (mkF m 12 #[.val (.ref x)] [(.ref sb)])
  have F_mb_sb := F_maybeLatin1_sb
  refine OwH.ac (mkF m 13 #[.val (.ref x)] [(.ref sb), (.ref sb)]) (fun tQ kQ => ?_) ?_
  · exact XS.dup P.here hx rfl (dc d4_12) rfl rfl kQ
  refine P.specialF hx rfl (own_w hw 40 rfl) (own_w hw 41 rfl) (own_w hw 42 rfl) (by decide) (fun vm0 hZ => OwM.back (s := s.setVm vm0) (W := 1) (rmSi l Z a0 hw sb zC h2 n0 Z0 S2 hzC OL g_sb E_sb F_value_sb F_coder_sb F_count_sb F_mb_sb) hZ (own_w hw 42 rfl) (own_w hw 39 rfl) (own_le rfl) (own_le rfl)) (fun _ _ _ q => q.2) (ws := [sb]) (fun _ _ _ q => q.1.2.1) (allS (Or.inl (List.mem_of_getElem? (i := 0) rfl)) all0) rfl (by rw [hml]; rfl) (a := sb) (argsL := []) (rest := [(.ref sb)]) (lenOf pd___V rfl) rfl (own_le rfl) (dc d4_13) rfl (own_le rfl) (own_le rfl) fun T own_v own_L h3 own_e P own_q => ?_
  obtain ⟨⟨rfl, K, t, kt, gt, F_value_sb, F_coder_sb, F_count_sb, F_mb_sb, V_t⟩, -⟩ := own_q
  replace P := P [t, sb] (allS (Or.inr ⟨Nat.le_of_eq gt.symm, V_t.lt⟩) (allS (Or.inl (List.mem_of_getElem? (i := 0) rfl)) all0))
  show OwH p e below s _ _ _ _ _ _ T (mkF m 16 #[.val (.ref x)] [(.ref sb)])
  clear own_e
  have ne_x_t : x ≠ t := Nat.ne_of_lt (Nat.lt_of_lt_of_le E_x.lt (Nat.le_of_eq gt.symm))
  have ne_t_x := Ne.symm ne_x_t
  have ne_tx_t : tx ≠ t := Nat.ne_of_lt (Nat.lt_of_lt_of_le A_x.lt (Nat.le_of_eq gt.symm))
  have ne_t_tx := Ne.symm ne_tx_t
  have ne_sb_t : sb ≠ t := Nat.ne_of_lt (Nat.lt_of_lt_of_le E_sb.lt (Nat.le_of_eq gt.symm))
  have ne_t_sb := Ne.symm ne_sb_t
  have g_t : n0 ≤ t := Nat.le_trans Z0 (Nat.le_of_eq gt.symm)
  have sz_t : h0.size ≤ t := Nat.le_trans KP.1 (Nat.le_of_eq gt.symm)
  replace E_x := E_x.keep K
  replace V_x := V_x.keep K (ninS ne_x_sb nin0)
  replace C_x := C_x.keep K (ninS ne_x_sb nin0)
  replace A_x := A_x.keep K (ninS ne_tx_sb nin0)
  replace E_sb := E_sb.keep K
  replace Z0 := Nat.le_trans Z0 K.1
  replace OL := OL.keep K (allS g_sb all0)
  replace KP := KP.trans K (allS (Or.inr sz_sb) all0)
  have hB_t := own_B0
  have hl_t : ([] : List Int32).length = 0 := rfl
  have hp_t : ∀ c ∈ ([] : List Int32), ¬ c < 0 ∧ ¬ (65535 : Int32) < c := own_a0
  have own_q := own_capS hn64
  refine P.ldcR hx hEL (by decide) (own_w hw 55 rfl) (own_wS hw) (vs := [(.int 34)]) (z := (1 : Int32)) (by decide) (by decide) (by decide) rfl (dc d4_16) (nn := 4) (by decide) (by decide) (own_le rfl) (own_le rfl) fun T h4 s1 b1 kb1 P E E_s1 F_coder_s1 F_value_s1 V_b1 ne_s1 => ?_
  replace E_x := E_x.ext E
  replace V_x := V_x.ext E
  replace C_x := C_x.ext E
  replace A_x := A_x.ext E
  replace E_sb := E_sb.ext E
  replace F_value_sb := F_value_sb.ext E
  replace F_coder_sb := F_coder_sb.ext E
  replace F_count_sb := F_count_sb.ext E
  replace F_mb_sb := F_mb_sb.ext E
  replace V_t := V_t.ext E
  replace Z0 := Nat.le_trans Z0 E.1
  replace OL := OL.ext E
  replace KP := KP.ext E
  clear E
  have ne_t_s1 := (ne_s1 t (by simp)).1
  have ne_s1_t := Ne.symm ne_t_s1
  have ne_t_b1 := (ne_s1 t (by simp)).2
  have ne_b1_t := Ne.symm ne_t_b1
  have ne_sb_s1 := (ne_s1 sb (by simp)).1
  have ne_s1_sb := Ne.symm ne_sb_s1
  have ne_sb_b1 := (ne_s1 sb (by simp)).2
  have ne_b1_sb := Ne.symm ne_sb_b1
  show OwH p e below s _ _ _ _ _ _ T (mkF m 18 #[.val (.ref x)] [(.ref s1), (.ref sb)])
  refine P.virtualF hx (own_w hw 56 rfl) (own_w hw 57 rfl) (fun vm0 hZ => notFace_of_selects (args := #[]) (mvT (s := s.setVm vm0) hZ (own_w hw 59 rfl))) (own_w hw 59 rfl) (own_w hw 58 rfl) (by decide) (fun vm0 hZ => OwM.back (s := s.setVm vm0) (W := 0) (rmBs l Z a0 hw sb t kt [] 16 0 (0 : Int32) (16 : Int32) (List.replicate 16 (.int 0)) s1 b1 kb1 ([34] : List Int32) 1 (0 : Int32) (1 : Int32) [(.int 34)] zC fm h4 n0 Z0 SA SH SL SF rf S2 hzC OL E_sb F_value_sb F_coder_sb F_count_sb F_mb_sb V_t hB_t hl_t (by decide) (by decide) g_sb g_t E_s1 F_value_s1 F_coder_s1 V_b1 (own_cst (cs := ([34] : List Int32)) (by decide) (by decide)) rfl (by decide) hp_t ne_b1_t (by decide) (by decide) (by decide)) hZ (own_w hw 60 rfl) (own_w hw 39 rfl) (own_le rfl) (own_le rfl)) (fun _ _ _ q => q.2) (ws := [sb, t]) (fun _ _ _ q => q.1.2.1) (allS (Or.inl (List.mem_of_getElem? (i := 1) rfl)) (allS (Or.inl (List.mem_of_getElem? (i := 0) rfl)) all0)) E_sb rfl (by rw [hml]; rfl) (argsL := [(.ref s1)]) (rest := []) (lenOf pd__Ljava_lang_String__Ljava_lang_StringBuilder_ rfl) rfl (own_le rfl) (dc d4_18) rfl (own_le rfl) (own_le rfl) fun T own_v own_L h5 own_e P own_q => ?_
  obtain ⟨⟨rfl, K, ta, kta, cd_ta, NB_ta, vs_ta, h_ta, g_ta, F_value_sb, F_coder_sb, F_count_sb, F_mb_sb, V_ta, hB_ta⟩, -⟩ := own_q
  replace P := P [ta, sb] (allS (h_ta.elim (fun q => Or.inl (by rw [q]; exact (List.mem_of_getElem? (i := 0) rfl))) (fun q => Or.inr ⟨q, V_ta.lt⟩)) (allS (Or.inl (List.mem_of_getElem? (i := 1) rfl)) all0))
  show OwH p e below s _ _ _ _ _ _ T (mkF m 21 #[.val (.ref x)] [(.ref sb)])
  clear own_e
  have ne_x_ta : x ≠ ta := own_nx E_x.lt ne_x_t h_ta
  have ne_ta_x := Ne.symm ne_x_ta
  have ne_tx_ta : tx ≠ ta := own_nx A_x.lt ne_tx_t h_ta
  have ne_ta_tx := Ne.symm ne_tx_ta
  have ne_sb_ta : sb ≠ ta := own_nx E_sb.lt ne_sb_t h_ta
  have ne_ta_sb := Ne.symm ne_sb_ta
  have sz_ta : h0.size ≤ ta := h_ta.elim (fun q => by rw [q]; exact sz_t) (fun q => Nat.le_trans KP.1 q)
  replace E_x := E_x.keep K
  replace V_x := V_x.keep K (ninS ne_x_sb (ninS ne_x_t nin0))
  replace C_x := C_x.keep K (ninS ne_x_sb (ninS ne_x_t nin0))
  replace A_x := A_x.keep K (ninS ne_tx_sb (ninS ne_tx_t nin0))
  replace E_sb := E_sb.keep K
  replace Z0 := Nat.le_trans Z0 K.1
  replace OL := OL.keep K (allS g_sb (allS g_t all0))
  replace KP := KP.trans K (allS (Or.inr sz_sb) (allS (Or.inr sz_t) all0))
  have hl_ta : (([] ++ ([34] : List Int32)) : List Int32).length = (0 + 1) := by rw [List.length_append, hl_t, show (([34] : List Int32) : List Int32).length = 1 from rfl]
  have hp_ta := own_ab (bs := ([34] : List Int32)) hp_t (by decide)
  refine OwH.ac (mkF m 22 #[.val (.ref x)] [(.ref x), (.ref sb)]) (fun tQ kQ => ?_) ?_
  · exact XS.aloadN P.here hx rfl (dc d4_21) rfl rfl kQ
  refine P.virtualF hx (own_w hw 56 rfl) (own_w hw 57 rfl) (fun vm0 hZ => notFace_of_selects (args := #[]) (mvT (s := s.setVm vm0) hZ (own_w hw 59 rfl))) (own_w hw 59 rfl) (own_w hw 58 rfl) (by decide) (fun vm0 hZ => OwM.back (s := s.setVm vm0) (W := 0) (rmBs l Z a0 hw sb ta kta ([] ++ ([34] : List Int32)) (own_cap 16 (0 + 1)) (0 + 1) cd_ta NB_ta vs_ta x tx kx cs n cx N2 ws zC fm h5 n0 Z0 SA SH SL SF rf S2 hzC OL E_sb F_value_sb F_coder_sb F_count_sb F_mb_sb V_ta hB_ta hl_ta (by decide) (by decide) g_sb g_ta E_x V_x C_x A_x hc hn hpx hp_ta ne_tx_ta (by decide) (by omega) own_q.1) hZ (own_w hw 60 rfl) (own_w hw 39 rfl) (own_le rfl) (own_le rfl)) (fun _ _ _ q => q.2) (ws := [sb, ta]) (fun _ _ _ q => q.1.2.1) (allS (Or.inl (List.mem_of_getElem? (i := 1) rfl)) (allS (Or.inl (List.mem_of_getElem? (i := 0) rfl)) all0)) E_sb rfl (by rw [hml]; rfl) (argsL := [(.ref x)]) (rest := []) (lenOf pd__Ljava_lang_String__Ljava_lang_StringBuilder_ rfl) rfl (own_le rfl) (dc d4_22) rfl (own_le rfl) (own_le rfl) fun T own_v own_L h6 own_e P own_q => ?_
  obtain ⟨⟨rfl, K, tb, ktb, cd_tb, NB_tb, vs_tb, h_tb, g_tb, F_value_sb, F_coder_sb, F_count_sb, F_mb_sb, V_tb, hB_tb⟩, -⟩ := own_q
  replace P := P [tb, sb] (allS (h_tb.elim (fun q => Or.inl (by rw [q]; exact (List.mem_of_getElem? (i := 0) rfl))) (fun q => Or.inr ⟨q, V_tb.lt⟩)) (allS (Or.inl (List.mem_of_getElem? (i := 1) rfl)) all0))
  show OwH p e below s _ _ _ _ _ _ T (mkF m 25 #[.val (.ref x)] [(.ref sb)])
  clear own_e
  have ne_x_tb : x ≠ tb := own_nx E_x.lt ne_x_ta h_tb
  have ne_tb_x := Ne.symm ne_x_tb
  have ne_tx_tb : tx ≠ tb := own_nx A_x.lt ne_tx_ta h_tb
  have ne_tb_tx := Ne.symm ne_tx_tb
  have ne_sb_tb : sb ≠ tb := own_nx E_sb.lt ne_sb_ta h_tb
  have ne_tb_sb := Ne.symm ne_sb_tb
  have sz_tb : h0.size ≤ tb := h_tb.elim (fun q => by rw [q]; exact sz_ta) (fun q => Nat.le_trans KP.1 q)
  replace E_x := E_x.keep K
  replace V_x := V_x.keep K (ninS ne_x_sb (ninS ne_x_ta nin0))
  replace C_x := C_x.keep K (ninS ne_x_sb (ninS ne_x_ta nin0))
  replace A_x := A_x.keep K (ninS ne_tx_sb (ninS ne_tx_ta nin0))
  replace E_sb := E_sb.keep K
  replace Z0 := Nat.le_trans Z0 K.1
  replace OL := OL.keep K (allS g_sb (allS g_ta all0))
  replace KP := KP.trans K (allS (Or.inr sz_sb) (allS (Or.inr sz_ta) all0))
  have hl_tb : ((([] ++ ([34] : List Int32)) ++ cs) : List Int32).length = ((0 + 1) + n) := by rw [List.length_append, hl_ta, show (cs : List Int32).length = n from hn]
  have hp_tb := own_ab (bs := cs) hp_ta hpx
  refine P.ldcR hx hEL (by decide) (own_w hw 55 rfl) (own_wS hw) (vs := [(.int 34)]) (z := (1 : Int32)) (by decide) (by decide) (by decide) rfl (dc d4_25) (nn := 4) (by decide) (by decide) (own_le rfl) (own_le rfl) fun T h7 s2 b2 kb2 P E E_s2 F_coder_s2 F_value_s2 V_b2 ne_s2 => ?_
  replace E_x := E_x.ext E
  replace V_x := V_x.ext E
  replace C_x := C_x.ext E
  replace A_x := A_x.ext E
  replace E_sb := E_sb.ext E
  replace F_value_sb := F_value_sb.ext E
  replace F_coder_sb := F_coder_sb.ext E
  replace F_count_sb := F_count_sb.ext E
  replace F_mb_sb := F_mb_sb.ext E
  replace V_tb := V_tb.ext E
  replace Z0 := Nat.le_trans Z0 E.1
  replace OL := OL.ext E
  replace KP := KP.ext E
  clear E
  have ne_tb_s2 := (ne_s2 tb (by simp)).1
  have ne_s2_tb := Ne.symm ne_tb_s2
  have ne_tb_b2 := (ne_s2 tb (by simp)).2
  have ne_b2_tb := Ne.symm ne_tb_b2
  have ne_sb_s2 := (ne_s2 sb (by simp)).1
  have ne_s2_sb := Ne.symm ne_sb_s2
  have ne_sb_b2 := (ne_s2 sb (by simp)).2
  have ne_b2_sb := Ne.symm ne_sb_b2
  show OwH p e below s _ _ _ _ _ _ T (mkF m 27 #[.val (.ref x)] [(.ref s2), (.ref sb)])
  refine P.virtualF hx (own_w hw 56 rfl) (own_w hw 57 rfl) (fun vm0 hZ => notFace_of_selects (args := #[]) (mvT (s := s.setVm vm0) hZ (own_w hw 59 rfl))) (own_w hw 59 rfl) (own_w hw 58 rfl) (by decide) (fun vm0 hZ => OwM.back (s := s.setVm vm0) (W := 0) (rmBs l Z a0 hw sb tb ktb (([] ++ ([34] : List Int32)) ++ cs) (own_cap (own_cap 16 (0 + 1)) ((0 + 1) + n)) ((0 + 1) + n) cd_tb NB_tb vs_tb s2 b2 kb2 ([34] : List Int32) 1 (0 : Int32) (1 : Int32) [(.int 34)] zC fm h7 n0 Z0 SA SH SL SF rf S2 hzC OL E_sb F_value_sb F_coder_sb F_count_sb F_mb_sb V_tb hB_tb hl_tb own_q.2.2.1 own_q.1 g_sb g_tb E_s2 F_value_s2 F_coder_s2 V_b2 (own_cst (cs := ([34] : List Int32)) (by decide) (by decide)) rfl (by decide) hp_tb ne_b2_tb own_q.2.1 (by omega) own_q.2.2.2.1) hZ (own_w hw 60 rfl) (own_w hw 39 rfl) (own_le rfl) (own_le rfl)) (fun _ _ _ q => q.2) (ws := [sb, tb]) (fun _ _ _ q => q.1.2.1) (allS (Or.inl (List.mem_of_getElem? (i := 1) rfl)) (allS (Or.inl (List.mem_of_getElem? (i := 0) rfl)) all0)) E_sb rfl (by rw [hml]; rfl) (argsL := [(.ref s2)]) (rest := []) (lenOf pd__Ljava_lang_String__Ljava_lang_StringBuilder_ rfl) rfl (own_le rfl) (dc d4_27) rfl (own_le rfl) (own_le rfl) fun T own_v own_L h8 own_e P own_q => ?_
  obtain ⟨⟨rfl, K, tc, ktc, cd_tc, NB_tc, vs_tc, h_tc, g_tc, F_value_sb, F_coder_sb, F_count_sb, F_mb_sb, V_tc, hB_tc⟩, -⟩ := own_q
  replace P := P [tc, sb] (allS (h_tc.elim (fun q => Or.inl (by rw [q]; exact (List.mem_of_getElem? (i := 0) rfl))) (fun q => Or.inr ⟨q, V_tc.lt⟩)) (allS (Or.inl (List.mem_of_getElem? (i := 1) rfl)) all0))
  show OwH p e below s _ _ _ _ _ _ T (mkF m 30 #[.val (.ref x)] [(.ref sb)])
  clear own_e
  have ne_x_tc : x ≠ tc := own_nx E_x.lt ne_x_tb h_tc
  have ne_tc_x := Ne.symm ne_x_tc
  have ne_tx_tc : tx ≠ tc := own_nx A_x.lt ne_tx_tb h_tc
  have ne_tc_tx := Ne.symm ne_tx_tc
  have ne_sb_tc : sb ≠ tc := own_nx E_sb.lt ne_sb_tb h_tc
  have ne_tc_sb := Ne.symm ne_sb_tc
  have sz_tc : h0.size ≤ tc := h_tc.elim (fun q => by rw [q]; exact sz_tb) (fun q => Nat.le_trans KP.1 q)
  replace E_x := E_x.keep K
  replace V_x := V_x.keep K (ninS ne_x_sb (ninS ne_x_tb nin0))
  replace C_x := C_x.keep K (ninS ne_x_sb (ninS ne_x_tb nin0))
  replace A_x := A_x.keep K (ninS ne_tx_sb (ninS ne_tx_tb nin0))
  replace E_sb := E_sb.keep K
  replace Z0 := Nat.le_trans Z0 K.1
  replace OL := OL.keep K (allS g_sb (allS g_tb all0))
  replace KP := KP.trans K (allS (Or.inr sz_sb) (allS (Or.inr sz_tb) all0))
  have hl_tc : (((([] ++ ([34] : List Int32)) ++ cs) ++ ([34] : List Int32)) : List Int32).length = (((0 + 1) + n) + 1) := by rw [List.length_append, hl_tb, show (([34] : List Int32) : List Int32).length = 1 from rfl]
  have hp_tc := own_ab (bs := ([34] : List Int32)) hp_tb (by decide)
  refine P.virtual hx (own_w hw 94 rfl) (own_w hw 95 rfl) (fun vm0 hZ => notFace_of_selects (args := #[]) (mvT (s := s.setVm vm0) hZ (own_w hw 97 rfl))) (own_w hw 97 rfl) (own_w hw 96 rfl) (by decide) (fun vm0 hZ => OwM.back (s := s.setVm vm0) (W := 0) (rmTs l Z a0 hw sb tc ktc ((([] ++ ([34] : List Int32)) ++ cs) ++ ([34] : List Int32)) (own_cap (own_cap (own_cap 16 (0 + 1)) ((0 + 1) + n)) (((0 + 1) + n) + 1)) (((0 + 1) + n) + 1) cd_tc NB_tc vs_tc zC h8 n0 Z0 S2 hzC OL E_sb F_value_sb F_coder_sb F_count_sb F_mb_sb V_tc hB_tc hl_tc own_q.2.2.2.2 own_q.2.2.2.1) hZ (own_w hw 98 rfl) (own_w hw 39 rfl) (own_le rfl) (own_le rfl)) (fun _ _ _ q => q.2) (ws := []) (fun _ _ _ q => q.1.1) all0 E_sb rfl (by rw [hml]; rfl) (argsL := []) (rest := []) (lenOf pd___Ljava_lang_String_ rfl) rfl (own_le rfl) (dc d4_30) rfl (own_le rfl) (own_le rfl) fun T own_v own_L h9 own_e P own_q => ?_
  obtain ⟨⟨K, y, u, ku, cy, N2y, wsy, rfl, szu, E_y, V_y, C_y, A_y, hcy⟩, -⟩ := own_q
  clear own_e
  replace E_x := E_x.keep K
  replace V_x := V_x.keep K nin0
  replace C_x := C_x.keep K nin0
  replace A_x := A_x.keep K nin0
  replace E_sb := E_sb.keep K
  replace F_value_sb := F_value_sb.keep K nin0
  replace F_coder_sb := F_coder_sb.keep K nin0
  replace F_count_sb := F_count_sb.keep K nin0
  replace F_mb_sb := F_mb_sb.keep K nin0
  replace V_tc := V_tc.keep K nin0
  replace Z0 := Nat.le_trans Z0 K.1
  replace OL := OL.keep K all0
  replace KP := KP.trans K all0
  show OwH p e below s _ _ _ _ _ _ T (mkF m 33 #[.val (.ref x)] [(.ref y)])
  exact P.retR hEL hx hlk hret rfl rfl (dc d4_33) (own_le rfl) (own_le rfl) ⟨KP, y, u, ku, cy, N2y, wsy, rfl, E_y, V_y, C_y, A_y, hcy⟩
theorem d4_34 : decode bo4 34 = .ok (.new 36, 3) := by decide +kernel
theorem d4_37 : decode bo4 37 = .ok (.dup, 1) := by decide +kernel
theorem d4_38 : decode bo4 38 = .ok (.invokespecial 43, 3) := by decide +kernel
theorem d4_41 : decode bo4 41 = .ok (.ldc 134, 2) := by decide +kernel
theorem d4_43 : decode bo4 43 = .ok (.invokevirtual 64, 3) := by decide +kernel
theorem d4_46 : decode bo4 46 = .ok (.aload_n 0, 1) := by decide +kernel
theorem d4_47 : decode bo4 47 = .ok (.iconst 0, 1) := by decide +kernel
theorem d4_48 : decode bo4 48 = .ok (.bipush 64, 2) := by decide +kernel
theorem d4_50 : decode bo4 50 = .ok (.invokevirtual 136, 3) := by decide +kernel
theorem pd__II_Ljava_lang_String_ : parseMethodDescriptor "(II)Ljava/lang/String;" = some ⟨[.int, .int], some (.object "java/lang/String")⟩ := by decide +kernel
theorem d4_53 : decode bo4 53 = .ok (.invokevirtual 64, 3) := by decide +kernel
theorem d4_56 : decode bo4 56 = .ok (.ldc 140, 2) := by decide +kernel
theorem d4_58 : decode bo4 58 = .ok (.invokevirtual 64, 3) := by decide +kernel
theorem d4_61 : decode bo4 61 = .ok (.aload_n 0, 1) := by decide +kernel
theorem d4_62 : decode bo4 62 = .ok (.invokevirtual 130, 3) := by decide +kernel
theorem d4_65 : decode bo4 65 = .ok (.invokevirtual 74, 3) := by decide +kernel
theorem pd__I_Ljava_lang_StringBuilder_ : parseMethodDescriptor "(I)Ljava/lang/StringBuilder;" = some ⟨[.int], some (.object "java/lang/StringBuilder")⟩ := by decide +kernel
theorem d4_68 : decode bo4 68 = .ok (.ldc 142, 2) := by decide +kernel
theorem d4_70 : decode bo4 70 = .ok (.invokevirtual 64, 3) := by decide +kernel
theorem d4_73 : decode bo4 73 = .ok (.invokevirtual 79, 3) := by decide +kernel
theorem d4_76 : decode bo4 76 = .ok (.areturn, 1) := by decide +kernel
set_option maxRecDepth 65536 in
set_option maxHeartbeats 40000000 in
theorem rmQl (l : Launch) (Z : State) (a0 : Array Value) (hw : ∀ d ∈ tables_1, d.before a0 Z = true) (x tx : Addr) (kx : ClassId) (cx N2 : Int32) (ws : List Value) (cs : List Int32) (n : Nat) (zC : Int32) (fm : Value) (d1 d2 : Addr) (k1 k2 : ClassId) (h0 : Heap) (n0 : Nat) (Z0 : n0 ≤ h0.size) (SA : Sta Z Z.heap "java/lang/StringUTF16" "$assertionsDisabled" "Z" (.int 1)) (SH : Sta Z Z.heap "java/lang/StringUTF16" "HI_BYTE_SHIFT" "I" (.int 0)) (SL : Sta Z Z.heap "java/lang/StringUTF16" "LO_BYTE_SHIFT" "I" (.int 8)) (SF : Sta Z Z.heap "jdk/internal/util/Preconditions" "SIOOBE_FORMATTER" "Ljava/util/function/BiFunction;" fm) (rf : fm.isRef = true) (S2 : Sta Z Z.heap "java/lang/String" "COMPACT_STRINGS" "Z" (.int zC)) (hzC : ¬ zC = 0) (OL : Old Z n0 h0) (E_x : Exa Z h0 x "java/lang/String") (V_x : Fld Z h0 x "java/lang/String" "value" "[B" (.ref tx)) (C_x : Fld Z h0 x "java/lang/String" "coder" "B" (.int cx)) (A_x : Arv Z h0 tx kx .byte N2 ws (.int 0)) (hc : StrChars.Road.CodA cs cx N2 ws) (hn : cs.length = n) (hpx : ∀ c ∈ cs, ¬ c < 0 ∧ ¬ (65535 : Int32) < c) (SD1 : Sta Z Z.heap "java/lang/Integer" "DigitOnes" "[B" (.ref d1)) (VD1 : Arv Z Z.heap d1 k1 .byte (100 : Int32) own_g1 (.int 0)) (SD2 : Sta Z Z.heap "java/lang/Integer" "DigitTens" "[B" (.ref d2)) (VD2 : Arv Z Z.heap d2 k2 .byte (100 : Int32) own_g2 (.int 0)) (hn64 : 65 ≤ n ∧ n ≤ 67) :
    OwS l Z own_EL [] (⟨"com/example/background_task_queue/backgroundtaskqueue/NameRule", "quote", "(Ljava/lang/String;)Ljava/lang/String;"⟩ : MethodName) prog_7_method_6_code 1 (some (.object "java/lang/String")) ({ frames := 10, cells := 22, slots := 3340, locals := 143 } : Room) n0 #[(.ref x)] h0 (fun v h => Keep h0 h [] ∧ ∃ (y u : Addr) (ku : ClassId) (cy N2 : Int32) (ws : List Value), v = some (.ref y) ∧ Exa Z h y "java/lang/String" ∧ Fld Z h y "java/lang/String" "value" "[B" (.ref u) ∧ Fld Z h y "java/lang/String" "coder" "B" (.int cy) ∧ Arv Z h u ku .byte N2 ws (.int 0) ∧ StrChars.Road.CodA ((((([] ++ ([34] : List Int32)) ++ (cs.take 64)) ++ ([46, 46, 46, 34, 32, 40] : List Int32)) ++ [54, own_dz (Int32.ofNat n)]) ++ ([32, 99, 104, 97, 114, 97, 99, 116, 101, 114, 115, 41] : List Int32)) cy N2 ws) := by
  have hEL := own_EW hw
  refine OwS.mk (plainFor_of_name pn_com_example_background_task_queue_backgroundtaskqueue_NameRule) ?_
  intro p e s m below meth cD T hx hby hml hnm hret hlk P
  have dc := @Jvm.hb cD _ hby
  refine OwH.cast (g' := mkF m 0 #[.val (.ref x)] []) (by first | (simp [entryFrame, mkF, argsToLocals, Value.category]; done) | rfl) ?_
  have KP := Keep.refl h0 []
  refine OwH.ac (mkF m 1 #[.val (.ref x)] [(.ref x)]) (fun tQ kQ => ?_) ?_
  · exact XS.aloadN P.here hx rfl (dc d4_0) rfl rfl kQ
  refine P.virtual hx (own_w hw 26 rfl) (own_w hw 27 rfl) (fun vm0 hZ => notFace_of_selects (args := #[]) (mvT (s := s.setVm vm0) hZ (own_w hw 29 rfl))) (own_w hw 29 rfl) (own_w hw 28 rfl) (by decide) (fun vm0 hZ => own_lenB (s := s.setVm vm0) (W := 0) (n0 := n0) hZ hw E_x V_x C_x A_x hc hpx (S2.ext OL.2) hzC hn (by omega) (own_le rfl) (own_le rfl)) (fun _ _ _ q => q.2.2) (ws := []) (fun _ _ _ q => by rw [q.2.1]; exact Keep.refl _ _) all0 E_x rfl (by rw [hml]; rfl) (argsL := []) (rest := []) (lenOf pd___I rfl) rfl (own_le rfl) (dc d4_1) rfl (own_le rfl) (own_le rfl) fun T own_v own_L h1 own_e P own_q => ?_
  obtain ⟨rfl, own_hh, -⟩ := own_q
  rw [own_hh] at P
  clear own_e own_hh
  show OwH p e below s _ _ _ _ _ _ T (mkF m 4 #[.val (.ref x)] [(.int (Int32.ofNat n))])
  refine OwH.ac (mkF m 34 #[.val (.ref x)] []) (fun tQ kQ => ?_) ?_
  · refine XS.bipush P.here hx rfl (dc d4_4) ?_
    exact XS.icmpYes P.here hx rfl (pc0 := 6) (pc' := 34) rfl (dc d4_6) rfl (tlt (own_lt (i := 64) (by omega) (by omega))).2.2.1 (by decide) (by decide) kQ
  refine P.newO hx (own_w hw 37 rfl) (own_w hw 38 rfl) (own_w hw 39 rfl) rfl (dc d4_34) (own_le rfl) (own_le rfl) fun T h2 sb gsb P E A D => ?_
  have ne_x_sb : x ≠ sb := Nat.ne_of_lt (Nat.lt_of_lt_of_le E_x.lt (Nat.le_of_eq gsb.symm))
  have ne_sb_x := Ne.symm ne_x_sb
  have ne_tx_sb : tx ≠ sb := Nat.ne_of_lt (Nat.lt_of_lt_of_le A_x.lt (Nat.le_of_eq gsb.symm))
  have ne_sb_tx := Ne.symm ne_tx_sb
  have g_sb : n0 ≤ sb := Nat.le_trans Z0 (Nat.le_of_eq gsb.symm)
  have sz_sb : h0.size ≤ sb := Nat.le_trans KP.1 (Nat.le_of_eq gsb.symm)
  replace E_x := E_x.ext E
  replace V_x := V_x.ext E
  replace C_x := C_x.ext E
  replace A_x := A_x.ext E
  replace Z0 := Nat.le_trans Z0 E.1
  replace OL := OL.ext E
  replace KP := KP.ext E
  have E_sb := A
  have F_value_sb : Fld Z h2 sb "java/lang/AbstractStringBuilder" "value" "[B" .null := D (Or.inl (own_w hw 52 rfl)) (ty := (.array .byte)) (by decide)
  have F_coder_sb : Fld Z h2 sb "java/lang/AbstractStringBuilder" "coder" "B" (.int 0) := D (Or.inl (own_w hw 54 rfl)) (ty := .byte) (by decide)
  have F_count_sb : Fld Z h2 sb "java/lang/AbstractStringBuilder" "count" "I" (.int 0) := D (Or.inl (own_w hw 68 rfl)) (ty := .int) (by decide)
  have F_maybeLatin1_sb : Fld Z h2 sb "java/lang/AbstractStringBuilder" "maybeLatin1" "Z" (.int 0) := D (Or.inl (own_w hw 273 rfl)) (ty := .boolean) (by decide)
  clear A D E
  show OwH p e below s _ _ _ _ _ _ T (mkF m 37 #[.val (.ref x)] [(.ref sb)])
  have F_mb_sb := F_maybeLatin1_sb
  refine OwH.ac (mkF m 38 #[.val (.ref x)] [(.ref sb), (.ref sb)]) (fun tQ kQ => ?_) ?_
  · exact XS.dup P.here hx rfl (dc d4_37) rfl rfl kQ
  refine P.specialF hx rfl (own_w hw 40 rfl) (own_w hw 41 rfl) (own_w hw 42 rfl) (by decide) (fun vm0 hZ => OwM.back (s := s.setVm vm0) (W := 1) (rmSi l Z a0 hw sb zC h2 n0 Z0 S2 hzC OL g_sb E_sb F_value_sb F_coder_sb F_count_sb F_mb_sb) hZ (own_w hw 42 rfl) (own_w hw 39 rfl) (own_le rfl) (own_le rfl)) (fun _ _ _ q => q.2) (ws := [sb]) (fun _ _ _ q => q.1.2.1) (allS (Or.inl (List.mem_of_getElem? (i := 0) rfl)) all0) rfl (by rw [hml]; rfl) (a := sb) (argsL := []) (rest := [(.ref sb)]) (lenOf pd___V rfl) rfl (own_le rfl) (dc d4_38) rfl (own_le rfl) (own_le rfl) fun T own_v own_L h3 own_e P own_q => ?_
  obtain ⟨⟨rfl, K, t, kt, gt, F_value_sb, F_coder_sb, F_count_sb, F_mb_sb, V_t⟩, -⟩ := own_q
  replace P := P [t, sb] (allS (Or.inr ⟨Nat.le_of_eq gt.symm, V_t.lt⟩) (allS (Or.inl (List.mem_of_getElem? (i := 0) rfl)) all0))
  show OwH p e below s _ _ _ _ _ _ T (mkF m 41 #[.val (.ref x)] [(.ref sb)])
  clear own_e
  have ne_x_t : x ≠ t := Nat.ne_of_lt (Nat.lt_of_lt_of_le E_x.lt (Nat.le_of_eq gt.symm))
  have ne_t_x := Ne.symm ne_x_t
  have ne_tx_t : tx ≠ t := Nat.ne_of_lt (Nat.lt_of_lt_of_le A_x.lt (Nat.le_of_eq gt.symm))
  have ne_t_tx := Ne.symm ne_tx_t
  have ne_sb_t : sb ≠ t := Nat.ne_of_lt (Nat.lt_of_lt_of_le E_sb.lt (Nat.le_of_eq gt.symm))
  have ne_t_sb := Ne.symm ne_sb_t
  have g_t : n0 ≤ t := Nat.le_trans Z0 (Nat.le_of_eq gt.symm)
  have sz_t : h0.size ≤ t := Nat.le_trans KP.1 (Nat.le_of_eq gt.symm)
  replace E_x := E_x.keep K
  replace V_x := V_x.keep K (ninS ne_x_sb nin0)
  replace C_x := C_x.keep K (ninS ne_x_sb nin0)
  replace A_x := A_x.keep K (ninS ne_tx_sb nin0)
  replace E_sb := E_sb.keep K
  replace Z0 := Nat.le_trans Z0 K.1
  replace OL := OL.keep K (allS g_sb all0)
  replace KP := KP.trans K (allS (Or.inr sz_sb) all0)
  have hB_t := own_B0
  have hl_t : ([] : List Int32).length = 0 := rfl
  have hp_t : ∀ c ∈ ([] : List Int32), ¬ c < 0 ∧ ¬ (65535 : Int32) < c := own_a0
  have own_z := own_hz (n := n) (by omega) (by omega)
  refine P.ldcR hx hEL (by decide) (own_w hw 55 rfl) (own_wS hw) (vs := [(.int 34)]) (z := (1 : Int32)) (by decide) (by decide) (by decide) rfl (dc d4_41) (nn := 4) (by decide) (by decide) (own_le rfl) (own_le rfl) fun T h4 s1 b1 kb1 P E E_s1 F_coder_s1 F_value_s1 V_b1 ne_s1 => ?_
  replace E_x := E_x.ext E
  replace V_x := V_x.ext E
  replace C_x := C_x.ext E
  replace A_x := A_x.ext E
  replace E_sb := E_sb.ext E
  replace F_value_sb := F_value_sb.ext E
  replace F_coder_sb := F_coder_sb.ext E
  replace F_count_sb := F_count_sb.ext E
  replace F_mb_sb := F_mb_sb.ext E
  replace V_t := V_t.ext E
  replace Z0 := Nat.le_trans Z0 E.1
  replace OL := OL.ext E
  replace KP := KP.ext E
  clear E
  have ne_t_s1 := (ne_s1 t (by simp)).1
  have ne_s1_t := Ne.symm ne_t_s1
  have ne_t_b1 := (ne_s1 t (by simp)).2
  have ne_b1_t := Ne.symm ne_t_b1
  have ne_sb_s1 := (ne_s1 sb (by simp)).1
  have ne_s1_sb := Ne.symm ne_sb_s1
  have ne_sb_b1 := (ne_s1 sb (by simp)).2
  have ne_b1_sb := Ne.symm ne_sb_b1
  show OwH p e below s _ _ _ _ _ _ T (mkF m 43 #[.val (.ref x)] [(.ref s1), (.ref sb)])
  refine P.virtualF hx (own_w hw 56 rfl) (own_w hw 57 rfl) (fun vm0 hZ => notFace_of_selects (args := #[]) (mvT (s := s.setVm vm0) hZ (own_w hw 59 rfl))) (own_w hw 59 rfl) (own_w hw 58 rfl) (by decide) (fun vm0 hZ => OwM.back (s := s.setVm vm0) (W := 0) (rmBs l Z a0 hw sb t kt [] 16 0 (0 : Int32) (16 : Int32) (List.replicate 16 (.int 0)) s1 b1 kb1 ([34] : List Int32) 1 (0 : Int32) (1 : Int32) [(.int 34)] zC fm h4 n0 Z0 SA SH SL SF rf S2 hzC OL E_sb F_value_sb F_coder_sb F_count_sb F_mb_sb V_t hB_t hl_t (by decide) (by decide) g_sb g_t E_s1 F_value_s1 F_coder_s1 V_b1 (own_cst (cs := ([34] : List Int32)) (by decide) (by decide)) rfl (by decide) hp_t ne_b1_t (by decide) (by decide) (by decide)) hZ (own_w hw 60 rfl) (own_w hw 39 rfl) (own_le rfl) (own_le rfl)) (fun _ _ _ q => q.2) (ws := [sb, t]) (fun _ _ _ q => q.1.2.1) (allS (Or.inl (List.mem_of_getElem? (i := 1) rfl)) (allS (Or.inl (List.mem_of_getElem? (i := 0) rfl)) all0)) E_sb rfl (by rw [hml]; rfl) (argsL := [(.ref s1)]) (rest := []) (lenOf pd__Ljava_lang_String__Ljava_lang_StringBuilder_ rfl) rfl (own_le rfl) (dc d4_43) rfl (own_le rfl) (own_le rfl) fun T own_v own_L h5 own_e P own_q => ?_
  obtain ⟨⟨rfl, K, ta, kta, cd_ta, NB_ta, vs_ta, h_ta, g_ta, F_value_sb, F_coder_sb, F_count_sb, F_mb_sb, V_ta, hB_ta⟩, -⟩ := own_q
  replace P := P [ta, sb] (allS (h_ta.elim (fun q => Or.inl (by rw [q]; exact (List.mem_of_getElem? (i := 0) rfl))) (fun q => Or.inr ⟨q, V_ta.lt⟩)) (allS (Or.inl (List.mem_of_getElem? (i := 1) rfl)) all0))
  show OwH p e below s _ _ _ _ _ _ T (mkF m 46 #[.val (.ref x)] [(.ref sb)])
  clear own_e
  have ne_x_ta : x ≠ ta := own_nx E_x.lt ne_x_t h_ta
  have ne_ta_x := Ne.symm ne_x_ta
  have ne_tx_ta : tx ≠ ta := own_nx A_x.lt ne_tx_t h_ta
  have ne_ta_tx := Ne.symm ne_tx_ta
  have ne_sb_ta : sb ≠ ta := own_nx E_sb.lt ne_sb_t h_ta
  have ne_ta_sb := Ne.symm ne_sb_ta
  have sz_ta : h0.size ≤ ta := h_ta.elim (fun q => by rw [q]; exact sz_t) (fun q => Nat.le_trans KP.1 q)
  replace E_x := E_x.keep K
  replace V_x := V_x.keep K (ninS ne_x_sb (ninS ne_x_t nin0))
  replace C_x := C_x.keep K (ninS ne_x_sb (ninS ne_x_t nin0))
  replace A_x := A_x.keep K (ninS ne_tx_sb (ninS ne_tx_t nin0))
  replace E_sb := E_sb.keep K
  replace Z0 := Nat.le_trans Z0 K.1
  replace OL := OL.keep K (allS g_sb (allS g_t all0))
  replace KP := KP.trans K (allS (Or.inr sz_sb) (allS (Or.inr sz_t) all0))
  have hl_ta : (([] ++ ([34] : List Int32)) : List Int32).length = (0 + 1) := by rw [List.length_append, hl_t, show (([34] : List Int32) : List Int32).length = 1 from rfl]
  have hp_ta := own_ab (bs := ([34] : List Int32)) hp_t (by decide)
  refine OwH.ac (mkF m 50 #[.val (.ref x)] [(.int 64), (.int 0), (.ref x), (.ref sb)]) (fun tQ kQ => ?_) ?_
  · refine XS.aloadN P.here hx rfl (dc d4_46) rfl rfl ?_
    refine XS.iconst P.here hx rfl (dc d4_47) ?_
    exact XS.bipush P.here hx rfl (dc d4_48) kQ
  refine P.virtual hx (own_w hw 163 rfl) (own_w hw 164 rfl) (fun vm0 hZ => notFace_of_selects (args := #[]) (mvT (s := s.setVm vm0) hZ (own_w hw 166 rfl))) (own_w hw 166 rfl) (own_w hw 165 rfl) (by decide) (fun vm0 hZ => OwM.back (s := s.setVm vm0) (W := 1) (rmSub l Z a0 hw x tx kx cs n 64 cx N2 ws zC fm h5 n0 Z0 SA SH SL SF rf S2 hzC OL E_x V_x C_x A_x hc hn (by decide) (by omega) (by decide) (by omega) hpx) hZ (own_w hw 167 rfl) (own_w hw 3 rfl) (own_le rfl) (own_le rfl)) (fun _ _ _ q => q.2) (ws := []) (fun _ _ _ q => q.1.1) all0 E_x rfl (by rw [hml]; rfl) (argsL := [(.int 0), (.int 64)]) (rest := [(.ref sb)]) (lenOf pd__II_Ljava_lang_String_ rfl) rfl (own_le rfl) (dc d4_50) rfl (own_le rfl) (own_le rfl) fun T own_v own_L h6 own_e P own_q => ?_
  obtain ⟨⟨K, y, uy, kuy, cy, Ny, wy, rfl, szuy, E_y, V_y, C_y, A_y, hcy⟩, -⟩ := own_q
  show OwH p e below s _ _ _ _ _ _ T (mkF m 53 #[.val (.ref x)] [(.ref y), (.ref sb)])
  clear own_e
  have ne_ta_uy : ta ≠ uy := Nat.ne_of_lt (Nat.lt_of_lt_of_le V_ta.lt szuy)
  have ne_uy_ta := Ne.symm ne_ta_uy
  replace E_x := E_x.keep K
  replace V_x := V_x.keep K nin0
  replace C_x := C_x.keep K nin0
  replace A_x := A_x.keep K nin0
  replace E_sb := E_sb.keep K
  replace F_value_sb := F_value_sb.keep K nin0
  replace F_coder_sb := F_coder_sb.keep K nin0
  replace F_count_sb := F_count_sb.keep K nin0
  replace F_mb_sb := F_mb_sb.keep K nin0
  replace V_ta := V_ta.keep K nin0
  replace Z0 := Nat.le_trans Z0 K.1
  replace OL := OL.keep K all0
  replace KP := KP.trans K all0
  have hny : (cs.take 64).length = 64 := by rw [List.length_take, hn]; exact Nat.min_eq_left (by omega)
  have hpy : ∀ c ∈ cs.take 64, ¬ c < 0 ∧ ¬ (65535 : Int32) < c := fun c hc => hpx c (List.mem_of_mem_take hc)
  refine P.virtualF hx (own_w hw 56 rfl) (own_w hw 57 rfl) (fun vm0 hZ => notFace_of_selects (args := #[]) (mvT (s := s.setVm vm0) hZ (own_w hw 59 rfl))) (own_w hw 59 rfl) (own_w hw 58 rfl) (by decide) (fun vm0 hZ => OwM.back (s := s.setVm vm0) (W := 0) (rmBs l Z a0 hw sb ta kta ([] ++ ([34] : List Int32)) (own_cap 16 (0 + 1)) (0 + 1) cd_ta NB_ta vs_ta y uy kuy (cs.take 64) 64 cy Ny wy zC fm h6 n0 Z0 SA SH SL SF rf S2 hzC OL E_sb F_value_sb F_coder_sb F_count_sb F_mb_sb V_ta hB_ta hl_ta (by decide) (by decide) g_sb g_ta E_y V_y C_y A_y hcy hny hpy hp_ta ne_uy_ta (by decide) (by decide) (by decide)) hZ (own_w hw 60 rfl) (own_w hw 39 rfl) (own_le rfl) (own_le rfl)) (fun _ _ _ q => q.2) (ws := [sb, ta]) (fun _ _ _ q => q.1.2.1) (allS (Or.inl (List.mem_of_getElem? (i := 1) rfl)) (allS (Or.inl (List.mem_of_getElem? (i := 0) rfl)) all0)) E_sb rfl (by rw [hml]; rfl) (argsL := [(.ref y)]) (rest := []) (lenOf pd__Ljava_lang_String__Ljava_lang_StringBuilder_ rfl) rfl (own_le rfl) (dc d4_53) rfl (own_le rfl) (own_le rfl) fun T own_v own_L h7 own_e P own_q => ?_
  obtain ⟨⟨rfl, K, tb, ktb, cd_tb, NB_tb, vs_tb, h_tb, g_tb, F_value_sb, F_coder_sb, F_count_sb, F_mb_sb, V_tb, hB_tb⟩, -⟩ := own_q
  replace P := P [tb, sb] (allS (h_tb.elim (fun q => Or.inl (by rw [q]; exact (List.mem_of_getElem? (i := 0) rfl))) (fun q => Or.inr ⟨q, V_tb.lt⟩)) (allS (Or.inl (List.mem_of_getElem? (i := 1) rfl)) all0))
  show OwH p e below s _ _ _ _ _ _ T (mkF m 56 #[.val (.ref x)] [(.ref sb)])
  clear own_e
  have ne_x_tb : x ≠ tb := own_nx E_x.lt ne_x_ta h_tb
  have ne_tb_x := Ne.symm ne_x_tb
  have ne_tx_tb : tx ≠ tb := own_nx A_x.lt ne_tx_ta h_tb
  have ne_tb_tx := Ne.symm ne_tx_tb
  have ne_sb_tb : sb ≠ tb := own_nx E_sb.lt ne_sb_ta h_tb
  have ne_tb_sb := Ne.symm ne_sb_tb
  have sz_tb : h0.size ≤ tb := h_tb.elim (fun q => by rw [q]; exact sz_ta) (fun q => Nat.le_trans KP.1 q)
  replace E_x := E_x.keep K
  replace V_x := V_x.keep K (ninS ne_x_sb (ninS ne_x_ta nin0))
  replace C_x := C_x.keep K (ninS ne_x_sb (ninS ne_x_ta nin0))
  replace A_x := A_x.keep K (ninS ne_tx_sb (ninS ne_tx_ta nin0))
  replace E_sb := E_sb.keep K
  replace Z0 := Nat.le_trans Z0 K.1
  replace OL := OL.keep K (allS g_sb (allS g_ta all0))
  replace KP := KP.trans K (allS (Or.inr sz_sb) (allS (Or.inr sz_ta) all0))
  have hl_tb : ((([] ++ ([34] : List Int32)) ++ (cs.take 64)) : List Int32).length = ((0 + 1) + 64) := by rw [List.length_append, hl_ta, show ((cs.take 64) : List Int32).length = 64 from hny]
  have hp_tb := own_ab (bs := (cs.take 64)) hp_ta hpy
  refine P.ldcR hx hEL (by decide) (own_w hw 207 rfl) (own_wS hw) (vs := [(.int 46), (.int 46), (.int 46), (.int 34), (.int 32), (.int 40)]) (z := (6 : Int32)) (by decide) (by decide) (by decide) rfl (dc d4_56) (nn := 24) (by decide) (by decide) (own_le rfl) (own_le rfl) fun T h8 s2 b2 kb2 P E E_s2 F_coder_s2 F_value_s2 V_b2 ne_s2 => ?_
  replace E_x := E_x.ext E
  replace V_x := V_x.ext E
  replace C_x := C_x.ext E
  replace A_x := A_x.ext E
  replace E_sb := E_sb.ext E
  replace F_value_sb := F_value_sb.ext E
  replace F_coder_sb := F_coder_sb.ext E
  replace F_count_sb := F_count_sb.ext E
  replace F_mb_sb := F_mb_sb.ext E
  replace V_tb := V_tb.ext E
  replace Z0 := Nat.le_trans Z0 E.1
  replace OL := OL.ext E
  replace KP := KP.ext E
  clear E
  have ne_tb_s2 := (ne_s2 tb (by simp)).1
  have ne_s2_tb := Ne.symm ne_tb_s2
  have ne_tb_b2 := (ne_s2 tb (by simp)).2
  have ne_b2_tb := Ne.symm ne_tb_b2
  have ne_sb_s2 := (ne_s2 sb (by simp)).1
  have ne_s2_sb := Ne.symm ne_sb_s2
  have ne_sb_b2 := (ne_s2 sb (by simp)).2
  have ne_b2_sb := Ne.symm ne_sb_b2
  show OwH p e below s _ _ _ _ _ _ T (mkF m 58 #[.val (.ref x)] [(.ref s2), (.ref sb)])
  refine P.virtualF hx (own_w hw 56 rfl) (own_w hw 57 rfl) (fun vm0 hZ => notFace_of_selects (args := #[]) (mvT (s := s.setVm vm0) hZ (own_w hw 59 rfl))) (own_w hw 59 rfl) (own_w hw 58 rfl) (by decide) (fun vm0 hZ => OwM.back (s := s.setVm vm0) (W := 0) (rmBs l Z a0 hw sb tb ktb (([] ++ ([34] : List Int32)) ++ (cs.take 64)) (own_cap (own_cap 16 (0 + 1)) ((0 + 1) + 64)) ((0 + 1) + 64) cd_tb NB_tb vs_tb s2 b2 kb2 ([46, 46, 46, 34, 32, 40] : List Int32) 6 (0 : Int32) (6 : Int32) [(.int 46), (.int 46), (.int 46), (.int 34), (.int 32), (.int 40)] zC fm h8 n0 Z0 SA SH SL SF rf S2 hzC OL E_sb F_value_sb F_coder_sb F_count_sb F_mb_sb V_tb hB_tb hl_tb (by decide) (by decide) g_sb g_tb E_s2 F_value_s2 F_coder_s2 V_b2 (own_cst (cs := ([46, 46, 46, 34, 32, 40] : List Int32)) (by decide) (by decide)) rfl (by decide) hp_tb ne_b2_tb (by decide) (by decide) (by decide)) hZ (own_w hw 60 rfl) (own_w hw 39 rfl) (own_le rfl) (own_le rfl)) (fun _ _ _ q => q.2) (ws := [sb, tb]) (fun _ _ _ q => q.1.2.1) (allS (Or.inl (List.mem_of_getElem? (i := 1) rfl)) (allS (Or.inl (List.mem_of_getElem? (i := 0) rfl)) all0)) E_sb rfl (by rw [hml]; rfl) (argsL := [(.ref s2)]) (rest := []) (lenOf pd__Ljava_lang_String__Ljava_lang_StringBuilder_ rfl) rfl (own_le rfl) (dc d4_58) rfl (own_le rfl) (own_le rfl) fun T own_v own_L h9 own_e P own_q => ?_
  obtain ⟨⟨rfl, K, tc, ktc, cd_tc, NB_tc, vs_tc, h_tc, g_tc, F_value_sb, F_coder_sb, F_count_sb, F_mb_sb, V_tc, hB_tc⟩, -⟩ := own_q
  replace P := P [tc, sb] (allS (h_tc.elim (fun q => Or.inl (by rw [q]; exact (List.mem_of_getElem? (i := 0) rfl))) (fun q => Or.inr ⟨q, V_tc.lt⟩)) (allS (Or.inl (List.mem_of_getElem? (i := 1) rfl)) all0))
  show OwH p e below s _ _ _ _ _ _ T (mkF m 61 #[.val (.ref x)] [(.ref sb)])
  clear own_e
  have ne_x_tc : x ≠ tc := own_nx E_x.lt ne_x_tb h_tc
  have ne_tc_x := Ne.symm ne_x_tc
  have ne_tx_tc : tx ≠ tc := own_nx A_x.lt ne_tx_tb h_tc
  have ne_tc_tx := Ne.symm ne_tx_tc
  have ne_sb_tc : sb ≠ tc := own_nx E_sb.lt ne_sb_tb h_tc
  have ne_tc_sb := Ne.symm ne_sb_tc
  have sz_tc : h0.size ≤ tc := h_tc.elim (fun q => by rw [q]; exact sz_tb) (fun q => Nat.le_trans KP.1 q)
  replace E_x := E_x.keep K
  replace V_x := V_x.keep K (ninS ne_x_sb (ninS ne_x_tb nin0))
  replace C_x := C_x.keep K (ninS ne_x_sb (ninS ne_x_tb nin0))
  replace A_x := A_x.keep K (ninS ne_tx_sb (ninS ne_tx_tb nin0))
  replace E_sb := E_sb.keep K
  replace Z0 := Nat.le_trans Z0 K.1
  replace OL := OL.keep K (allS g_sb (allS g_tb all0))
  replace KP := KP.trans K (allS (Or.inr sz_sb) (allS (Or.inr sz_tb) all0))
  have hl_tc : (((([] ++ ([34] : List Int32)) ++ (cs.take 64)) ++ ([46, 46, 46, 34, 32, 40] : List Int32)) : List Int32).length = (((0 + 1) + 64) + 6) := by rw [List.length_append, hl_tb, show (([46, 46, 46, 34, 32, 40] : List Int32) : List Int32).length = 6 from rfl]
  have hp_tc := own_ab (bs := ([46, 46, 46, 34, 32, 40] : List Int32)) hp_tb (by decide)
  refine OwH.ac (mkF m 62 #[.val (.ref x)] [(.ref x), (.ref sb)]) (fun tQ kQ => ?_) ?_
  · exact XS.aloadN P.here hx rfl (dc d4_61) rfl rfl kQ
  refine P.virtual hx (own_w hw 26 rfl) (own_w hw 27 rfl) (fun vm0 hZ => notFace_of_selects (args := #[]) (mvT (s := s.setVm vm0) hZ (own_w hw 29 rfl))) (own_w hw 29 rfl) (own_w hw 28 rfl) (by decide) (fun vm0 hZ => own_lenB (s := s.setVm vm0) (W := 1) (n0 := n0) hZ hw E_x V_x C_x A_x hc hpx (S2.ext OL.2) hzC hn (by omega) (own_le rfl) (own_le rfl)) (fun _ _ _ q => q.2.2) (ws := []) (fun _ _ _ q => by rw [q.2.1]; exact Keep.refl _ _) all0 E_x rfl (by rw [hml]; rfl) (argsL := []) (rest := [(.ref sb)]) (lenOf pd___I rfl) rfl (own_le rfl) (dc d4_62) rfl (own_le rfl) (own_le rfl) fun T own_v own_L h10 own_e P own_q => ?_
  obtain ⟨rfl, own_hh, -⟩ := own_q
  rw [own_hh] at P
  clear own_e own_hh
  show OwH p e below s _ _ _ _ _ _ T (mkF m 65 #[.val (.ref x)] [(.int (Int32.ofNat n)), (.ref sb)])
  refine P.virtualF hx (own_w hw 208 rfl) (own_w hw 209 rfl) (fun vm0 hZ => notFace_of_selects (args := #[]) (mvT (s := s.setVm vm0) hZ (own_w hw 211 rfl))) (own_w hw 211 rfl) (own_w hw 210 rfl) (by decide) (fun vm0 hZ => OwM.back (s := s.setVm vm0) (W := 0) (rmBn l Z a0 hw sb tc ktc ((([] ++ ([34] : List Int32)) ++ (cs.take 64)) ++ ([46, 46, 46, 34, 32, 40] : List Int32)) (own_cap (own_cap (own_cap 16 (0 + 1)) ((0 + 1) + 64)) (((0 + 1) + 64) + 6)) (((0 + 1) + 64) + 6) cd_tc NB_tc vs_tc (Int32.ofNat n) zC fm d1 d2 k1 k2 h9 n0 Z0 SA SH SL SF rf S2 hzC OL SD1 VD1 SD2 VD2 own_z E_sb F_value_sb F_coder_sb F_count_sb F_mb_sb V_tc hB_tc hl_tc (by decide) (by decide) g_sb g_tc (by decide) (by decide) (by decide)) hZ (own_w hw 212 rfl) (own_w hw 39 rfl) (own_le rfl) (own_le rfl)) (fun _ _ _ q => q.2) (ws := [sb, tc]) (fun _ _ _ q => q.1.2.1) (allS (Or.inl (List.mem_of_getElem? (i := 1) rfl)) (allS (Or.inl (List.mem_of_getElem? (i := 0) rfl)) all0)) E_sb rfl (by rw [hml]; rfl) (argsL := [(.int (Int32.ofNat n))]) (rest := []) (lenOf pd__I_Ljava_lang_StringBuilder_ rfl) rfl (own_le rfl) (dc d4_65) rfl (own_le rfl) (own_le rfl) fun T own_v own_L h11 own_e P own_q => ?_
  obtain ⟨⟨rfl, K, td, ktd, NB_td, vs_td, h_td, g_td, F_value_sb, F_coder_sb, F_count_sb, F_mb_sb, V_td, hB_td⟩, -⟩ := own_q
  replace P := P [td, sb] (allS (h_td.elim (fun q => Or.inl (by rw [q]; exact (List.mem_of_getElem? (i := 0) rfl))) (fun q => Or.inr ⟨q, V_td.lt⟩)) (allS (Or.inl (List.mem_of_getElem? (i := 1) rfl)) all0))
  show OwH p e below s _ _ _ _ _ _ T (mkF m 68 #[.val (.ref x)] [(.ref sb)])
  clear own_e
  have ne_x_td : x ≠ td := own_nx E_x.lt ne_x_tc h_td
  have ne_td_x := Ne.symm ne_x_td
  have ne_tx_td : tx ≠ td := own_nx A_x.lt ne_tx_tc h_td
  have ne_td_tx := Ne.symm ne_tx_td
  have ne_sb_td : sb ≠ td := own_nx E_sb.lt ne_sb_tc h_td
  have ne_td_sb := Ne.symm ne_sb_td
  have sz_td : h0.size ≤ td := h_td.elim (fun q => by rw [q]; exact sz_tc) (fun q => Nat.le_trans KP.1 q)
  replace E_x := E_x.keep K
  replace V_x := V_x.keep K (ninS ne_x_sb (ninS ne_x_tc nin0))
  replace C_x := C_x.keep K (ninS ne_x_sb (ninS ne_x_tc nin0))
  replace A_x := A_x.keep K (ninS ne_tx_sb (ninS ne_tx_tc nin0))
  replace E_sb := E_sb.keep K
  replace Z0 := Nat.le_trans Z0 K.1
  replace OL := OL.keep K (allS g_sb (allS g_tc all0))
  replace KP := KP.trans K (allS (Or.inr sz_sb) (allS (Or.inr sz_tc) all0))
  have hl_td : ((((([] ++ ([34] : List Int32)) ++ (cs.take 64)) ++ ([46, 46, 46, 34, 32, 40] : List Int32)) ++ [54, own_dz (Int32.ofNat n)]) : List Int32).length = ((((0 + 1) + 64) + 6) + 2) := by rw [List.length_append, hl_tc, show ([54, own_dz (Int32.ofNat n)] : List Int32).length = 2 from rfl]
  have hp_td := own_ab (bs := [54, own_dz (Int32.ofNat n)]) hp_tc (own_dzb own_z)
  refine P.ldcR hx hEL (by decide) (own_w hw 227 rfl) (own_wS hw) (vs := [(.int 32), (.int 99), (.int 104), (.int 97), (.int 114), (.int 97), (.int 99), (.int 116), (.int 101), (.int 114), (.int 115), (.int 41)]) (z := (12 : Int32)) (by decide) (by decide) (by decide) rfl (dc d4_68) (nn := 48) (by decide) (by decide) (own_le rfl) (own_le rfl) fun T h12 s3 b3 kb3 P E E_s3 F_coder_s3 F_value_s3 V_b3 ne_s3 => ?_
  replace E_x := E_x.ext E
  replace V_x := V_x.ext E
  replace C_x := C_x.ext E
  replace A_x := A_x.ext E
  replace E_sb := E_sb.ext E
  replace F_value_sb := F_value_sb.ext E
  replace F_coder_sb := F_coder_sb.ext E
  replace F_count_sb := F_count_sb.ext E
  replace F_mb_sb := F_mb_sb.ext E
  replace V_td := V_td.ext E
  replace Z0 := Nat.le_trans Z0 E.1
  replace OL := OL.ext E
  replace KP := KP.ext E
  clear E
  have ne_td_s3 := (ne_s3 td (by simp)).1
  have ne_s3_td := Ne.symm ne_td_s3
  have ne_td_b3 := (ne_s3 td (by simp)).2
  have ne_b3_td := Ne.symm ne_td_b3
  have ne_sb_s3 := (ne_s3 sb (by simp)).1
  have ne_s3_sb := Ne.symm ne_sb_s3
  have ne_sb_b3 := (ne_s3 sb (by simp)).2
  have ne_b3_sb := Ne.symm ne_sb_b3
  show OwH p e below s _ _ _ _ _ _ T (mkF m 70 #[.val (.ref x)] [(.ref s3), (.ref sb)])
  refine P.virtualF hx (own_w hw 56 rfl) (own_w hw 57 rfl) (fun vm0 hZ => notFace_of_selects (args := #[]) (mvT (s := s.setVm vm0) hZ (own_w hw 59 rfl))) (own_w hw 59 rfl) (own_w hw 58 rfl) (by decide) (fun vm0 hZ => OwM.back (s := s.setVm vm0) (W := 0) (rmBs l Z a0 hw sb td ktd (((([] ++ ([34] : List Int32)) ++ (cs.take 64)) ++ ([46, 46, 46, 34, 32, 40] : List Int32)) ++ [54, own_dz (Int32.ofNat n)]) (own_cap (own_cap (own_cap (own_cap 16 (0 + 1)) ((0 + 1) + 64)) (((0 + 1) + 64) + 6)) ((((0 + 1) + 64) + 6) + 2)) ((((0 + 1) + 64) + 6) + 2) cd_tc NB_td vs_td s3 b3 kb3 ([32, 99, 104, 97, 114, 97, 99, 116, 101, 114, 115, 41] : List Int32) 12 (0 : Int32) (12 : Int32) [(.int 32), (.int 99), (.int 104), (.int 97), (.int 114), (.int 97), (.int 99), (.int 116), (.int 101), (.int 114), (.int 115), (.int 41)] zC fm h12 n0 Z0 SA SH SL SF rf S2 hzC OL E_sb F_value_sb F_coder_sb F_count_sb F_mb_sb V_td hB_td hl_td (by decide) (by decide) g_sb g_td E_s3 F_value_s3 F_coder_s3 V_b3 (own_cst (cs := ([32, 99, 104, 97, 114, 97, 99, 116, 101, 114, 115, 41] : List Int32)) (by decide) (by decide)) rfl (by decide) hp_td ne_b3_td (by decide) (by decide) (by decide)) hZ (own_w hw 60 rfl) (own_w hw 39 rfl) (own_le rfl) (own_le rfl)) (fun _ _ _ q => q.2) (ws := [sb, td]) (fun _ _ _ q => q.1.2.1) (allS (Or.inl (List.mem_of_getElem? (i := 1) rfl)) (allS (Or.inl (List.mem_of_getElem? (i := 0) rfl)) all0)) E_sb rfl (by rw [hml]; rfl) (argsL := [(.ref s3)]) (rest := []) (lenOf pd__Ljava_lang_String__Ljava_lang_StringBuilder_ rfl) rfl (own_le rfl) (dc d4_70) rfl (own_le rfl) (own_le rfl) fun T own_v own_L h13 own_e P own_q => ?_
  obtain ⟨⟨rfl, K, te, kte, cd_te, NB_te, vs_te, h_te, g_te, F_value_sb, F_coder_sb, F_count_sb, F_mb_sb, V_te, hB_te⟩, -⟩ := own_q
  replace P := P [te, sb] (allS (h_te.elim (fun q => Or.inl (by rw [q]; exact (List.mem_of_getElem? (i := 0) rfl))) (fun q => Or.inr ⟨q, V_te.lt⟩)) (allS (Or.inl (List.mem_of_getElem? (i := 1) rfl)) all0))
  show OwH p e below s _ _ _ _ _ _ T (mkF m 73 #[.val (.ref x)] [(.ref sb)])
  clear own_e
  have ne_x_te : x ≠ te := own_nx E_x.lt ne_x_td h_te
  have ne_te_x := Ne.symm ne_x_te
  have ne_tx_te : tx ≠ te := own_nx A_x.lt ne_tx_td h_te
  have ne_te_tx := Ne.symm ne_tx_te
  have ne_sb_te : sb ≠ te := own_nx E_sb.lt ne_sb_td h_te
  have ne_te_sb := Ne.symm ne_sb_te
  have sz_te : h0.size ≤ te := h_te.elim (fun q => by rw [q]; exact sz_td) (fun q => Nat.le_trans KP.1 q)
  replace E_x := E_x.keep K
  replace V_x := V_x.keep K (ninS ne_x_sb (ninS ne_x_td nin0))
  replace C_x := C_x.keep K (ninS ne_x_sb (ninS ne_x_td nin0))
  replace A_x := A_x.keep K (ninS ne_tx_sb (ninS ne_tx_td nin0))
  replace E_sb := E_sb.keep K
  replace Z0 := Nat.le_trans Z0 K.1
  replace OL := OL.keep K (allS g_sb (allS g_td all0))
  replace KP := KP.trans K (allS (Or.inr sz_sb) (allS (Or.inr sz_td) all0))
  have hl_te : (((((([] ++ ([34] : List Int32)) ++ (cs.take 64)) ++ ([46, 46, 46, 34, 32, 40] : List Int32)) ++ [54, own_dz (Int32.ofNat n)]) ++ ([32, 99, 104, 97, 114, 97, 99, 116, 101, 114, 115, 41] : List Int32)) : List Int32).length = (((((0 + 1) + 64) + 6) + 2) + 12) := by rw [List.length_append, hl_td, show (([32, 99, 104, 97, 114, 97, 99, 116, 101, 114, 115, 41] : List Int32) : List Int32).length = 12 from rfl]
  have hp_te := own_ab (bs := ([32, 99, 104, 97, 114, 97, 99, 116, 101, 114, 115, 41] : List Int32)) hp_td (by decide)
  refine P.virtual hx (own_w hw 94 rfl) (own_w hw 95 rfl) (fun vm0 hZ => notFace_of_selects (args := #[]) (mvT (s := s.setVm vm0) hZ (own_w hw 97 rfl))) (own_w hw 97 rfl) (own_w hw 96 rfl) (by decide) (fun vm0 hZ => OwM.back (s := s.setVm vm0) (W := 0) (rmTs l Z a0 hw sb te kte ((((([] ++ ([34] : List Int32)) ++ (cs.take 64)) ++ ([46, 46, 46, 34, 32, 40] : List Int32)) ++ [54, own_dz (Int32.ofNat n)]) ++ ([32, 99, 104, 97, 114, 97, 99, 116, 101, 114, 115, 41] : List Int32)) (own_cap (own_cap (own_cap (own_cap (own_cap 16 (0 + 1)) ((0 + 1) + 64)) (((0 + 1) + 64) + 6)) ((((0 + 1) + 64) + 6) + 2)) (((((0 + 1) + 64) + 6) + 2) + 12)) (((((0 + 1) + 64) + 6) + 2) + 12) cd_te NB_te vs_te zC h13 n0 Z0 S2 hzC OL E_sb F_value_sb F_coder_sb F_count_sb F_mb_sb V_te hB_te hl_te (by decide) (by decide)) hZ (own_w hw 98 rfl) (own_w hw 39 rfl) (own_le rfl) (own_le rfl)) (fun _ _ _ q => q.2) (ws := []) (fun _ _ _ q => q.1.1) all0 E_sb rfl (by rw [hml]; rfl) (argsL := []) (rest := []) (lenOf pd___Ljava_lang_String_ rfl) rfl (own_le rfl) (dc d4_73) rfl (own_le rfl) (own_le rfl) fun T own_v own_L h14 own_e P own_q => ?_
  obtain ⟨⟨K, y, u, ku, cy, N2y, wsy, rfl, szu, E_y, V_y, C_y, A_y, hcy⟩, -⟩ := own_q
  clear own_e
  replace E_x := E_x.keep K
  replace V_x := V_x.keep K nin0
  replace C_x := C_x.keep K nin0
  replace A_x := A_x.keep K nin0
  replace E_sb := E_sb.keep K
  replace F_value_sb := F_value_sb.keep K nin0
  replace F_coder_sb := F_coder_sb.keep K nin0
  replace F_count_sb := F_count_sb.keep K nin0
  replace F_mb_sb := F_mb_sb.keep K nin0
  replace V_te := V_te.keep K nin0
  replace Z0 := Nat.le_trans Z0 K.1
  replace OL := OL.keep K all0
  replace KP := KP.trans K all0
  show OwH p e below s _ _ _ _ _ _ T (mkF m 76 #[.val (.ref x)] [(.ref y)])
  exact P.retR hEL hx hlk hret rfl rfl (dc d4_76) (own_le rfl) (own_le rfl) ⟨KP, y, u, ku, cy, N2y, wsy, rfl, E_y, V_y, C_y, A_y, hcy⟩
def own_cy (cs xs : List Int32) (j : Nat) : List Int32 := if j < cs.length ∧ j < 64 then xs.set (1 + j) (cs.getD j 0) else xs
theorem own_cyl (cs xs : List Int32) (j : Nat) : (own_cy cs xs j).length = xs.length := by unfold own_cy; split <;> simp
def own_n3 (n : Nat) (a b c : Int32) : List Int32 := if 30 < n then (((List.replicate n (0 : Int32)).set 0 a).set (n - 1) b).set 30 c else ((List.replicate n (0 : Int32)).set 0 a).set (n - 1) b
def own_n4 (n : Nat) (a b c d : Int32) : List Int32 := if 63 < n then (own_n3 n a b c).set 63 d else own_n3 n a b c
def own_n5 (n : Nat) (a b c d e : Int32) : List Int32 := if 64 < n then (own_n4 n a b c d).set 64 e else own_n4 n a b c d
theorem own_n3l (n : Nat) (a b c : Int32) : (own_n3 n a b c).length = n := by unfold own_n3; split <;> simp
theorem own_n4l (n : Nat) (a b c d : Int32) : (own_n4 n a b c d).length = n := by unfold own_n4; split <;> simp [own_n3l]
theorem own_n5l (n : Nat) (a b c d e : Int32) : (own_n5 n a b c d e).length = n := by unfold own_n5; split <;> simp [own_n4l]
def own_ok (c : Int32) : Prop := ¬ c < 0 ∧ ¬ (65535 : Int32) < c
theorem own_sok {l : List Int32} {i : Nat} {c : Int32} (h : ∀ z ∈ l, own_ok z) (hc : own_ok c) : ∀ z ∈ l.set i c, own_ok z := fun z hz => (List.mem_or_eq_of_mem_set hz).elim (h z) (fun q => q ▸ hc)
theorem own_n5b {n : Nat} {a b c d e : Int32} (ha : own_ok a) (hb : own_ok b) (hc : own_ok c) (hd : own_ok d) (he : own_ok e) : ∀ z ∈ own_n5 n a b c d e, own_ok z := by
  have h0 : ∀ z ∈ ((List.replicate n (0 : Int32)).set 0 a).set (n - 1) b, own_ok z := own_sok (own_sok (fun z hz => by rw [(List.mem_replicate.mp hz).2]; unfold own_ok; decide) ha) hb
  have h3 : ∀ z ∈ own_n3 n a b c, own_ok z := by
    unfold own_n3; split
    · exact own_sok h0 hc
    · exact h0
  have h4 : ∀ z ∈ own_n4 n a b c d, own_ok z := by
    unfold own_n4; split
    · exact own_sok h3 hd
    · exact h3
  unfold own_n5; split
  · exact own_sok h4 he
  · exact h4
theorem own_and7 (x : Int32) : ∃ j : Nat, j ≤ 7 ∧ (x &&& (7 : Int32)) = Int32.ofNat j := by
  have h := c_mask x 7 3 (by decide) (by decide)
  refine ⟨(x &&& (7 : Int32)).toInt.toNat, by omega, ?_⟩
  apply Int32.toInt_inj.mp
  rw [own_ti (by omega)]; omega
theorem own_sub1 {n : Nat} (h0 : 0 < n) (h : n ≤ 4000) : Int32.ofNat n - (1 : Int32) = Int32.ofNat (n - 1) := own_subN (i := 1) h0 (by omega)
theorem own_dzc {z : Int32} (hz : z = 65 ∨ z = 66 ∨ z = 67) : (own_dz z).toUInt32.toUInt16.toUInt32.toInt32 = own_dz z := by
  rcases hz with rfl | rfl | rfl <;> decide
theorem own_dzo {z : Int32} (hz : z = 65 ∨ z = 66 ∨ z = 67) : own_ok (own_dz z) := by
  rcases hz with rfl | rfl | rfl <;> (unfold own_ok; decide)
def own_xS (cs : List Int32) (n : Nat) : List Int32 := (own_cy cs (own_cy cs (own_cy cs (own_cy cs ((List.replicate (n + 2) (0 : Int32)).set 0 34) 0) (n - 1)) 30) 63).set (n + 1) 34
theorem own_xs {n : Nat} {a b c d e : Int32} (h0 : 0 < n) (hn : n ≤ 7 ∨ (60 ≤ n ∧ n ≤ 64)) : own_xS (own_n5 n a b c d e) n = ((([] ++ ([34] : List Int32)) ++ own_n5 n a b c d e) ++ ([34] : List Int32)) := by
  rcases (by omega : n = 1 ∨ n = 2 ∨ n = 3 ∨ n = 4 ∨ n = 5 ∨ n = 6 ∨ n = 7 ∨ n = 60 ∨ n = 61 ∨ n = 62 ∨ n = 63 ∨ n = 64) with rfl | rfl | rfl | rfl | rfl | rfl | rfl | rfl | rfl | rfl | rfl | rfl <;> simp [own_xS, own_cy, own_n5, own_n4, own_n3, List.replicate_succ]
def own_xL (cs : List Int32) (n : Nat) : List Int32 := (((((((((((((((((((((own_cy cs (own_cy cs (own_cy cs (own_cy cs ((List.replicate 85 (0 : Int32)).set 0 34) 0) (n - 1)) 30) 63).set 65 46).set 66 46).set 67 46).set 68 34).set 69 32).set 70 40).set 71 54).set 72 (own_dz (Int32.ofNat n))).set 73 32).set 74 99).set 75 104).set 76 97).set 77 114).set 78 97).set 79 99).set 80 116).set 81 101).set 82 114).set 83 115).set 84 41)
theorem own_xl {n : Nat} {a b c d e : Int32} (h1 : 65 ≤ n) (h2 : n ≤ 67) : own_xL (own_n5 n a b c d e) n = ((((([] ++ ([34] : List Int32)) ++ ((own_n5 n a b c d e).take 64)) ++ ([46, 46, 46, 34, 32, 40] : List Int32)) ++ [54, own_dz (Int32.ofNat n)]) ++ ([32, 99, 104, 97, 114, 97, 99, 116, 101, 114, 115, 41] : List Int32)) := by
  rcases (by omega : n = 65 ∨ n = 66 ∨ n = 67) with rfl | rfl | rfl <;> simp [own_xL, own_cy, own_n5, own_n4, own_n3, List.replicate_succ]
abbrev bo26 := method_3_code
theorem d26_0 : decode bo26 0 = .ok (.iload_n 2, 1) := by decide +kernel
theorem d26_1 : decode bo26 1 = .ok (.ifCond .lt 23, 3) := by decide +kernel
theorem d26_4 : decode bo26 4 = .ok (.iload_n 2, 1) := by decide +kernel
theorem d26_5 : decode bo26 5 = .ok (.aload_n 0, 1) := by decide +kernel
theorem d26_6 : decode bo26 6 = .ok (.arraylength, 1) := by decide +kernel
theorem d26_7 : decode bo26 7 = .ok (.if_icmp .ge 17, 3) := by decide +kernel
theorem d26_10 : decode bo26 10 = .ok (.iload_n 2, 1) := by decide +kernel
theorem d26_11 : decode bo26 11 = .ok (.bipush 64, 2) := by decide +kernel
theorem d26_13 : decode bo26 13 = .ok (.if_icmp .ge 11, 3) := by decide +kernel
theorem d26_16 : decode bo26 16 = .ok (.aload_n 1, 1) := by decide +kernel
theorem d26_17 : decode bo26 17 = .ok (.iconst 1, 1) := by decide +kernel
theorem d26_18 : decode bo26 18 = .ok (.iload_n 2, 1) := by decide +kernel
theorem d26_19 : decode bo26 19 = .ok (.iadd, 1) := by decide +kernel
theorem d26_20 : decode bo26 20 = .ok (.aload_n 0, 1) := by decide +kernel
theorem d26_21 : decode bo26 21 = .ok (.iload_n 2, 1) := by decide +kernel
theorem d26_22 : decode bo26 22 = .ok (.caload, 1) := by decide +kernel
theorem d26_23 : decode bo26 23 = .ok (.castore, 1) := by decide +kernel
theorem d26_24 : decode bo26 24 = .ok (.return_, 1) := by decide +kernel
theorem pn_com_example_background_task_queue_backgroundtaskqueue_NameRuleQuotePinLaw : plainName "com/example/background_task_queue/backgroundtaskqueue/NameRuleQuotePinLaw" = true := by first | (simp [plainName, overriddenIn]; done) | decide +kernel
set_option maxRecDepth 65536 in
set_option maxHeartbeats 40000000 in
theorem rmCy (l : Launch) (Z : State) (a0 : Array Value) (hw : ∀ d ∈ tables_1, d.before a0 Z = true) (a x : Addr) (ka kx : ClassId) (da dx : Value) (cs xs : List Int32) (n X j : Nat) (h0 : Heap) (n0 : Nat) (Z0 : n0 ≤ h0.size) (OL : Old Z n0 h0) (V_a : Arv Z h0 a ka .char (Int32.ofNat n) (cs.map Value.int) da) (V_x : Arv Z h0 x kx .char (Int32.ofNat X) (xs.map Value.int) dx) (hn : cs.length = n) (hX : xs.length = X) (hb : n ≤ 4000) (hXb : X ≤ 4000) (hj : j ≤ 4000) (hjx : j < n → j < 64 → 1 + j < X) (hpx : ∀ c ∈ cs, ¬ c < 0 ∧ ¬ (65535 : Int32) < c) (g_x : n0 ≤ x) (ne_a_x : a ≠ x) :
    OwM l Z (⟨"com/example/background_task_queue/backgroundtaskqueue/NameRuleQuotePinLaw", "copy", "([C[CI)V"⟩ : MethodName) method_3_code 3 none ({ frames := 0, cells := 0, slots := 0, locals := 0 } : Room) n0 #[(.ref a), (.ref x), (.int (Int32.ofNat j))] h0 (fun v h => v = none ∧ Keep h0 h [x] ∧ Arv Z h x kx .char (Int32.ofNat X) ((own_cy cs xs j).map Value.int) dx) := by
  refine OwM.mk (plainFor_of_name pn_com_example_background_task_queue_backgroundtaskqueue_NameRuleQuotePinLaw) ?_
  intro p e s m below meth cD T hx hby hml hown hnm hret hlk hZ P
  have dc := @Jvm.hb cD _ hby
  refine OwG.cast (g' := mkF m 0 #[.val (.ref a), .val (.ref x), .val (.int (Int32.ofNat j))] []) (by first | (simp [entryFrame, mkF, argsToLocals, Value.category]; done) | rfl) ?_
  have KP := Keep.refl h0 [x]
  have ne_x_a := Ne.symm ne_a_x
  refine OwG.ac (mkF m 6 #[.val (.ref a), .val (.ref x), .val (.int (Int32.ofNat j))] [(.ref a), (.int (Int32.ofNat j))]) (fun tQ kQ => ?_) ?_
  · refine XS.iloadN P.here hx rfl (dc d26_0) rfl ?_
    refine XS.ifNo P.here hx rfl (dc d26_1) rfl ((if0 _ _).trans (flt (own_nn (by omega))).1) ?_
    refine XS.iloadN P.here hx rfl (dc d26_4) rfl ?_
    exact XS.aloadN P.here hx rfl (dc d26_5) rfl rfl kQ
  obtain ⟨own_cl, own_A, own_q1, own_S, own_M, own_H, own_U⟩ := id V_a
  obtain ⟨own_L, own_X, own_e, own_N⟩ := id P
  have own_Z := hZ
  refine OwG.ac (mkF m 7 #[.val (.ref a), .val (.ref x), .val (.int (Int32.ofNat j))] [(.int (Int32.ofNat n)), (.int (Int32.ofNat j))]) (fun tQ kQ => ?_) ?_
  · refine own_X.arraylength hx (by rw [own_e]; exact own_A.1) (State.isArrayOf_alike own_Z.alike own_A.2.1) (g := (mkF m 6 #[.val (.ref a), .val (.ref x), .val (.int (Int32.ofNat j))] [(.ref a), (.int (Int32.ofNat j))])) rfl rfl (dc d26_6) _ ?_
    rw [len_of own_S own_M]
    exact kQ
  by_cases hjn : j < n
  ·skip
   refine OwG.ac (mkF m 13 #[.val (.ref a), .val (.ref x), .val (.int (Int32.ofNat j))] [(.int 64), (.int (Int32.ofNat j))]) (fun tQ kQ => ?_) ?_
   · refine XS.icmpNo P.here hx rfl (dc d26_7) rfl (tlt (own_lt hjn (by omega))).2.1 ?_
     refine XS.iloadN P.here hx rfl (dc d26_10) rfl ?_
     exact XS.bipush P.here hx rfl (dc d26_11) kQ
   by_cases h64 : j < 64
   ·skip
    refine OwG.ac (mkF m 22 #[.val (.ref a), .val (.ref x), .val (.int (Int32.ofNat j))] [(.int (Int32.ofNat j)), (.ref a), (.int ((1 : Int32) + (Int32.ofNat j))), (.ref x)]) (fun tQ kQ => ?_) ?_
    · refine XS.icmpNo P.here hx rfl (dc d26_13) rfl (tlt (own_lt (n := 64) h64 (by omega))).2.1 ?_
      refine XS.aloadN P.here hx rfl (dc d26_16) rfl rfl ?_
      refine XS.iconst P.here hx rfl (dc d26_17) ?_
      refine XS.iloadN P.here hx rfl (dc d26_18) rfl ?_
      refine XS.iadd P.here hx rfl (dc d26_19) rfl ?_
      refine XS.aloadN P.here hx rfl (dc d26_20) rfl rfl ?_
      exact XS.iloadN P.here hx rfl (dc d26_21) rfl kQ
    obtain ⟨own_cl, own_A, own_q1, own_S, own_M, own_H, own_U⟩ := id V_a
    obtain ⟨own_L, own_X, own_e, own_N⟩ := id P
    have own_Z := hZ
    have own_in := inb_of own_S (j := (Int32.ofNat j)) ⟨own_nn (by omega), own_lt (by omega) (by omega)⟩
    refine OwG.ac (mkF m 23 #[.val (.ref a), .val (.ref x), .val (.int (Int32.ofNat j))] [(.int (cs.getD j 0)), (.int ((1 : Int32) + (Int32.ofNat j))), (.ref x)]) (fun tQ kQ => ?_) ?_
    · exact own_X.caload hx (j := (Int32.ofNat j)) (v := (.int (cs.getD j 0))) (by rw [own_e]; exact own_A.1) (State.isArrayOf_alike own_Z.alike own_A.2.1) own_A.2.2 own_in (Has.at own_H own_in (own_chat (by omega) (by omega))) (g := (mkF m 22 #[.val (.ref a), .val (.ref x), .val (.int (Int32.ofNat j))] [(.int (Int32.ofNat j)), (.ref a), (.int ((1 : Int32) + (Int32.ofNat j))), (.ref x)])) rfl rfl (dc d26_22) _ kQ
    rw [show ((1 : Int32) + (Int32.ofNat j)) = (Int32.ofNat (1 + j)) from own_addn 1 j]
    have own_1 := hjx hjn h64
    refine P.stC hx hZ V_x (j := (Int32.ofNat (1 + j))) (own_nn (by omega)) (own_lt (by omega) (by omega)) (i := (1 + j)) (own_tc (by omega)) (by rw [List.length_map]; omega) rfl rfl (dc d26_23) g_x fun T h1 P W V' => ?_
    replace V_a := V_a.other W ne_a_x
    replace Z0 := Nat.le_trans Z0 (Keep.of_wr W).1
    replace OL := OL.wr W g_x
    replace KP := KP.wr W (Or.inl (List.mem_of_getElem? (i := 0) rfl))
    replace V_x := V'
    clear W V'
    show OwG p e below s _ _ _ _ T (mkF m 24 #[.val (.ref a), .val (.ref x), .val (.int (Int32.ofNat j))] [])
    have own_b := own_bd (i := j) (by omega) hpx
    rw [own_narc own_b.1 own_b.2] at V_x
    exact P.retV hx hlk hret (dc d26_24) (own_le rfl) (own_le rfl) ⟨rfl, KP, by unfold own_cy; rw [if_pos ⟨by omega, h64⟩, List.map_set]; exact V_x⟩
   ·skip
    refine OwG.ac (mkF m 24 #[.val (.ref a), .val (.ref x), .val (.int (Int32.ofNat j))] []) (fun tQ kQ => ?_) ?_
    · exact XS.icmpYes P.here hx rfl (pc0 := 13) (pc' := 24) rfl (dc d26_13) rfl (flt (own_nlt (n := 64) (by omega) (by omega))).2.1 (by decide) (by decide) kQ
    exact P.retV hx hlk hret (dc d26_24) (own_le rfl) (own_le rfl) ⟨rfl, KP, by unfold own_cy; rw [if_neg (fun q => h64 q.2)]; exact V_x⟩
  ·skip
   refine OwG.ac (mkF m 24 #[.val (.ref a), .val (.ref x), .val (.int (Int32.ofNat j))] []) (fun tQ kQ => ?_) ?_
   · exact XS.icmpYes P.here hx rfl (pc0 := 7) (pc' := 24) rfl (dc d26_7) rfl (flt (own_nlt (by omega) (by omega))).2.1 (by decide) (by decide) kQ
   exact P.retV hx hlk hret (dc d26_24) (own_le rfl) (own_le rfl) ⟨rfl, KP, by unfold own_cy; rw [if_neg (fun q => hjn (by omega))]; exact V_x⟩
set_option maxRecDepth 65536 in
set_option maxHeartbeats 40000000 in
theorem rmCm (l : Launch) (Z : State) (a0 : Array Value) (hw : ∀ d ∈ tables_1, d.before a0 Z = true) (a x : Addr) (h0 : Heap) (n0 : Nat) (Z0 : n0 ≤ h0.size)  :
    OwM l Z (⟨"com/example/background_task_queue/backgroundtaskqueue/NameRuleQuotePinLaw", "copy", "([C[CI)V"⟩ : MethodName) method_3_code 3 none ({ frames := 0, cells := 0, slots := 0, locals := 0 } : Room) n0 #[(.ref a), (.ref x), (.int (-1 : Int32))] h0 (fun v h => v = none ∧ h = h0) := by
  refine OwM.mk (plainFor_of_name pn_com_example_background_task_queue_backgroundtaskqueue_NameRuleQuotePinLaw) ?_
  intro p e s m below meth cD T hx hby hml hown hnm hret hlk hZ P
  have dc := @Jvm.hb cD _ hby
  refine OwG.cast (g' := mkF m 0 #[.val (.ref a), .val (.ref x), .val (.int (-1 : Int32))] []) (by first | (simp [entryFrame, mkF, argsToLocals, Value.category]; done) | rfl) ?_
  refine OwG.ac (mkF m 24 #[.val (.ref a), .val (.ref x), .val (.int (-1 : Int32))] []) (fun tQ kQ => ?_) ?_
  · refine XS.iloadN P.here hx rfl (dc d26_0) rfl ?_
    exact XS.ifYes P.here hx rfl (pc0 := 1) (pc' := 24) rfl (dc d26_1) rfl ((if0 _ _).trans (tlt (by decide)).1) (by decide) (by decide) kQ
  exact P.retV hx hlk hret (dc d26_24) (own_le rfl) (own_le rfl) ⟨rfl, rfl⟩
theorem pd___C_V : parseMethodDescriptor "([C)V" = some ⟨[(.array .char)], none⟩ := by decide +kernel
theorem pd__Ljava_lang_String__Ljava_lang_String_ : parseMethodDescriptor "(Ljava/lang/String;)Ljava/lang/String;" = some ⟨[(.object "java/lang/String")], some (.object "java/lang/String")⟩ := by decide +kernel
theorem pd___C_CI_V : parseMethodDescriptor "([C[CI)V" = some ⟨[(.array .char), (.array .char), .int], none⟩ := by decide +kernel
theorem pd__Ljava_lang_Object__Z : parseMethodDescriptor "(Ljava/lang/Object;)Z" = some ⟨[(.object "java/lang/Object")], some .boolean⟩ := by decide +kernel
theorem own_tab {args a0 : Array Value} {s : State} {f : String} {t1 : Term} {cs : List Int32} (hcs : cs.length = 100) (wa : (Jvm.Cond.arrayClass .byte).before a0 s = true) (a1 : (Jvm.Cond.exactly (.static "java/lang/Integer" f "[B") "[B").before args s = true) (a2 : (Jvm.Cond.eq (.length (.static "java/lang/Integer" f "[B")) (.int 100)).before args s = true) (a3 : (Jvm.Cond.all (.static "java/lang/Integer" f "[B") (.eq (.elem (.static "java/lang/Integer" f "[B") (.index 0)) t1)).before args s = true) (h1 : ∀ k, k < 100 → t1.eval args s none [k] s = some (.int (cs.getD k 0))) (h2 : ∀ k : Fin 100, fits .byte (.int (cs.getD k.val 0)) = true) :
    ∃ (al : Addr) (kal : ClassId), (Term.static "java/lang/Integer" f "[B").eval args s none [] s = some (.ref al) ∧ Arv s s.heap al kal .byte (100 : Int32) (cs.map Value.int) (.int 0) := by
  obtain ⟨d, cB, D, kB, hev, hfcB, hcellD, hkB, hstatD, hclsD, -⟩ := Cond.exactly_spec a1
  have hl := own_eqv (Cond.before_iff.mp a2)
  obtain ⟨d', D', hev', harrAt, hlen⟩ := Term.length_spec hl
  cases hev.symm.trans hev'
  obtain ⟨hcellD', hknD, -, -⟩ := State.arrayAt?_spec harrAt
  cases hcellD.symm.trans hcellD'
  have hsz : D.slots.size = 100 := by
    by_cases q : D.slots.size < 2 ^ 31
    · rw [len_f hev harrAt q] at hl
      have e1 : D.slots.size.toInt32 = 100 := by simpa using hl
      have e2 := congrArg Int32.toInt e1
      have e3 : D.slots.size.toInt32.toInt = D.slots.size := Int32.toInt_ofNat_of_lt q
      rw [e3, show (100 : Int32).toInt = 100 from rfl] at e2
      omega
    · exfalso
      rw [Term.eval, hev] at hl
      simp [harrAt, q] at hl
  obtain ⟨cB', kB', comp, hnameB, hkB', hkindB⟩ := Cond.arrayClass_spec wa
  have eBA : ("[" ++ FieldType.toString .byte) = "[B" := by decide
  rw [eBA] at hnameB
  cases hfcB.symm.trans hnameB
  cases hkB.symm.trans hkB'
  have A : Arr s s.heap d D .byte := ⟨hcellD, ⟨(fun q h => by rw [h] at hstatD; cases hstatD), kB, (by rw [hclsD]; exact hkB), comp, hkindB⟩, hknD⟩
  have key : ∀ k, k < 100 → D.slots[k]? = some (.int (cs.getD k 0)) := by
    intro k hk
    have ek : (Term.static "java/lang/Integer" f "[B").eval args s none [k] s = some (.ref d) := hev
    have r := Cond.all_elim hev harrAt (Cond.before_iff.mp a3) k (by omega)
    have e1 := eqv_i (h1 k hk) r
    have nn : ¬ Int32.ofNat k < 0 := own_nn (by omega)
    have ck := own_tc (i := k) (by omega)
    have ei : (Term.index 0).eval args s none [k] s = some (.int (Int32.ofNat k)) := by
      have q := idx_at (s := s) (args := args) (first := s) (o := none) nn
      rw [ck] at q; exact q
    have e2 := elem_f ek ei harrAt nn
    rw [ck] at e2
    rw [← e2]; exact e1
  have ed : ∀ k, k < 100 → (cs.map Value.int).getD k (.int 0) = .int (cs.getD k 0) := fun k hk => by
    have h3 : k < cs.length := by omega
    simp [List.getD_eq_getElem?_getD, h3]
  refine ⟨d, D.cls, hev, D, A, rfl, by rw [hsz]; rfl, by decide, fun k hk => ?_, fun k hk => ?_⟩
  · rw [hsz] at hk
    rw [key k hk, ed k hk]
  · rw [hsz] at hk
    rw [ed k hk]; exact h2 ⟨k, hk⟩
theorem own_h1 {args : Array Value} {s : State} : ∀ k, k < 100 → (Term.add (.int 48) (.rem (.index 0) (.int 10))).eval args s none [k] s = some (.int (own_i1.getD k 0)) := fun k hk => by
  have t : ∀ k : Fin 100, (48 : Int32) + Int32.ofNat k.val % 10 = own_i1.getD k.val 0 := by decide +kernel
  have q : (Term.add (.int 48) (.rem (.index 0) (.int 10))).eval args s none [k] s = some (.int (48 + Int32.ofNat k % 10)) := by first | rfl | (simp [Term.eval]; done) | (simp [Term.eval]; rfl)
  rw [q, t ⟨k, hk⟩]
theorem own_h2 {args : Array Value} {s : State} : ∀ k, k < 100 → (Term.add (.int 48) (.div (.index 0) (.int 10))).eval args s none [k] s = some (.int (own_i2.getD k 0)) := fun k hk => by
  have t : ∀ k : Fin 100, (48 : Int32) + Int32.ofNat k.val / 10 = own_i2.getD k.val 0 := by decide +kernel
  have q : (Term.add (.int 48) (.div (.index 0) (.int 10))).eval args s none [k] s = some (.int (48 + Int32.ofNat k / 10)) := by first | rfl | (simp [Term.eval]; done) | (simp [Term.eval]; rfl)
  rw [q, t ⟨k, hk⟩]
set_option maxRecDepth 65536 in
set_option maxHeartbeats 40000000 in
theorem rm0 (l : Launch) (Z : State) (a0 : Array Value) (hw : ∀ d ∈ tables_1, d.before a0 Z = true) (ws : List Jvm.Cond) (p0 : Int32) (p1 : Int32) (p2 : Int32) (p3 : Int32) (p4 : Int32) (p5 : Int32) (zC : Int32) (fm : Value) (d1 d2 : Addr) (k1 k2 : ClassId) (h0 : Heap) (n0 : Nat) (Z0 : n0 ≤ h0.size) (SA : Sta Z Z.heap "java/lang/StringUTF16" "$assertionsDisabled" "Z" (.int 1)) (SH : Sta Z Z.heap "java/lang/StringUTF16" "HI_BYTE_SHIFT" "I" (.int 0)) (SL : Sta Z Z.heap "java/lang/StringUTF16" "LO_BYTE_SHIFT" "I" (.int 8)) (SF : Sta Z Z.heap "jdk/internal/util/Preconditions" "SIOOBE_FORMATTER" "Ljava/util/function/BiFunction;" fm) (rf : fm.isRef = true) (S2 : Sta Z Z.heap "java/lang/String" "COMPACT_STRINGS" "Z" (.int zC)) (hzC : ¬ zC = 0) (OL : Old Z n0 h0) (SD1 : Sta Z Z.heap "java/lang/Integer" "DigitOnes" "[B" (.ref d1)) (VD1 : Arv Z Z.heap d1 k1 .byte (100 : Int32) own_g1 (.int 0)) (SD2 : Sta Z Z.heap "java/lang/Integer" "DigitTens" "[B" (.ref d2)) (VD2 : Arv Z Z.heap d2 k2 .byte (100 : Int32) own_g2 (.int 0)) :
    MetFree l x (head1 (Jvm.Cond.code x code maxLocals ret :: ws) room_1) (fun a U => a = #[(.int p0), (.int p1), (.int p2), (.int p3), (.int p4), (.int p5)] ∧ Z.Warmed39 U.vm ∧ U.heap = h0 ∧ CHv Z own_EL U.vm h0 ∧ ∀ x ∈ ([] : List Addr), x < h0.size ∧ Safe Z own_EL U.vm h0 x) (fun _ _ _ _ _ => True) (fun _ U o U' => ∃ v L, o = .returned v ∧ ((fun v h => v = some (Value.int (1 : Int32))) v U'.heap ∧ Fr n0 L) ∧ CHr Z own_EL U.vm U.heap U'.vm U'.heap ∧ ReturnedEndW U o U' L room_1.cells room_1.slots) := by
  have hEL := own_EW hw
  refine OwS.of (EL := own_EL) (sf := []) (Q := fun v h => v = some (Value.int (1 : Int32))) (plainFor_of_name pn_com_example_background_task_queue_backgroundtaskqueue_NameRuleQuotePinLaw) ?_
  intro p e s m below meth cD T hx hby hml hnm hret hlk P
  have dc := @Jvm.hb cD _ hby
  replace hml : cD.maxLocals = 12 := hml
  replace P : OwC p l e room_1 s m #[(.int p0), (.int p1), (.int p2), (.int p3), (.int p4), (.int p5)] below meth cD Z "com/example/background_task_queue/backgroundtaskqueue/NameRuleQuotePinLaw" own_EL [] n0 T h0 0 0 := P
  refine OwH.cast (show entryFrame m #[(.int p0), (.int p1), (.int p2), (.int p3), (.int p4), (.int p5)] maxLocals = mkF m 0 #[.val (.int p0), .val (.int p1), .val (.int p2), .val (.int p3), .val (.int p4), .val (.int p5), .unset, .unset, .unset, .unset, .unset, .unset] [] from by first | (simp [entryFrame, mkF, argsToLocals, Value.category, maxLocals]; done) | rfl) ?_
  obtain ⟨q1, own_c1⟩ : ∃ z : Int32, (p1.toUInt32.toUInt16.toUInt32.toInt32) = z := ⟨_, rfl⟩
  have hq1 : own_ok q1 := own_c1 ▸ own_char p1
  obtain ⟨q2, own_c2⟩ : ∃ z : Int32, (p2.toUInt32.toUInt16.toUInt32.toInt32) = z := ⟨_, rfl⟩
  have hq2 : own_ok q2 := own_c2 ▸ own_char p2
  obtain ⟨q3, own_c3⟩ : ∃ z : Int32, (p3.toUInt32.toUInt16.toUInt32.toInt32) = z := ⟨_, rfl⟩
  have hq3 : own_ok q3 := own_c3 ▸ own_char p3
  obtain ⟨q4, own_c4⟩ : ∃ z : Int32, (p4.toUInt32.toUInt16.toUInt32.toInt32) = z := ⟨_, rfl⟩
  have hq4 : own_ok q4 := own_c4 ▸ own_char p4
  obtain ⟨q5, own_c5⟩ : ∃ z : Int32, (p5.toUInt32.toUInt16.toUInt32.toInt32) = z := ⟨_, rfl⟩
  have hq5 : own_ok q5 := own_c5 ▸ own_char p5
  refine OwH.ac (mkF m 6 #[.val (.int p0), .val (.int p1), .val (.int p2), .val (.int p3), .val (.int p4), .val (.int p5), .unset, .unset, .unset, .unset, .unset, .unset] [(.int (((p0.toUInt32 >>> ((1 : Int32) &&& 31).toUInt32).toInt32) &&& (7 : Int32)))]) (fun tQ kQ => ?_) ?_
  · refine XS.iloadN P.here hx rfl (dc at_0) rfl ?_
    refine XS.iconst P.here hx rfl (dc at_1) ?_
    refine XS.iushr P.here hx rfl (dc at_2) rfl ?_
    refine XS.bipush P.here hx rfl (dc at_3) ?_
    exact XS.iand P.here hx rfl (dc at_5) rfl kQ
  obtain ⟨j, hj, own_j⟩ := own_and7 ((p0.toUInt32 >>> ((1 : Int32) &&& 31).toUInt32).toInt32)
  rw [show (((p0.toUInt32 >>> ((1 : Int32) &&& 31).toUInt32).toInt32) &&& (7 : Int32)) = (Int32.ofNat j) from own_j]
  refine OwH.ac (mkF m 11 #[.val (.int p0), .val (.int p1), .val (.int p2), .val (.int p3), .val (.int p4), .val (.int p5), .val (.int (Int32.ofNat j)), .unset, .unset, .unset, .unset, .unset] [(.int (p0 &&& (1 : Int32)))]) (fun tQ kQ => ?_) ?_
  · refine XS.istore P.here hx rfl (dc at_6) rfl (l' := #[.val (.int p0), .val (.int p1), .val (.int p2), .val (.int p3), .val (.int p4), .val (.int p5), .val (.int (Int32.ofNat j)), .unset, .unset, .unset, .unset, .unset]) rfl ?_
    refine XS.iloadN P.here hx rfl (dc at_8) rfl ?_
    refine XS.iconst P.here hx rfl (dc at_9) ?_
    exact XS.iand P.here hx rfl (dc at_10) rfl kQ
  have k24 : ∀ (T : State) (hJ_k24 : Heap) (n : Nat), OwC p l e room_1 s m #[(.int p0), (.int p1), (.int p2), (.int p3), (.int p4), (.int p5)] below meth cD Z "com/example/background_task_queue/backgroundtaskqueue/NameRuleQuotePinLaw" own_EL [] n0 T hJ_k24 0 0 → (n0 ≤ hJ_k24.size) → (Old Z n0 hJ_k24) → (n ≤ 7 ∨ (60 ≤ n ∧ n ≤ 67)) → OwH p e below s Z own_EL n0 room_1.cells room_1.slots (fun v h => v = some (Value.int (1 : Int32))) T (mkF m 24 #[.val (.int p0), .val (.int p1), .val (.int p2), .val (.int p3), .val (.int p4), .val (.int p5), .val (.int (Int32.ofNat j)), .unset, .unset, .unset, .unset, .unset] [(.int (Int32.ofNat n))]) := by
   intro T hJ_k24 n P Z0 OL hn
   refine OwH.ac (mkF m 28 #[.val (.int p0), .val (.int p1), .val (.int p2), .val (.int p3), .val (.int p4), .val (.int p5), .val (.int (Int32.ofNat j)), .val (.int (Int32.ofNat n)), .unset, .unset, .unset, .unset] [(.int (Int32.ofNat n))]) (fun tQ kQ => ?_) ?_
   · refine XS.istore P.here hx rfl (dc at_24) rfl (l' := #[.val (.int p0), .val (.int p1), .val (.int p2), .val (.int p3), .val (.int p4), .val (.int p5), .val (.int (Int32.ofNat j)), .val (.int (Int32.ofNat n)), .unset, .unset, .unset, .unset]) rfl ?_
     exact XS.iload P.here hx rfl (dc at_26) rfl kQ
   refine P.newP hx (own_w hw 0 rfl) rfl (dc at_28) rfl (own_nn (by omega)) (cap := 67) (by rw [own_tc (by omega)]; omega) (by decide) (own_le rfl) (own_le rfl) fun T h1 b8 kb8 gb8 P E V_b8 => ?_
   have g_b8 : n0 ≤ b8 := Nat.le_trans Z0 (Nat.le_of_eq gb8.symm)
   replace Z0 := Nat.le_trans Z0 E.1
   replace OL := OL.ext E
   clear E
   replace V_b8 : Arv Z h1 b8 kb8 .char (Int32.ofNat n) (List.replicate n (.int 0)) (.int 0) := V_b8.pad (pad_rep [] (.int 0) n)
   show OwH p e below s _ _ _ _ _ _ T (mkF m 30 #[.val (.int p0), .val (.int p1), .val (.int p2), .val (.int p3), .val (.int p4), .val (.int p5), .val (.int (Int32.ofNat j)), .val (.int (Int32.ofNat n)), .unset, .unset, .unset, .unset] [(.ref b8)])
   refine OwH.ac (mkF m 34 #[.val (.int p0), .val (.int p1), .val (.int p2), .val (.int p3), .val (.int p4), .val (.int p5), .val (.int (Int32.ofNat j)), .val (.int (Int32.ofNat n)), .val (.ref b8), .unset, .unset, .unset] [(.int (Int32.ofNat n))]) (fun tQ kQ => ?_) ?_
   · refine XS.astore P.here hx rfl (dc at_30) rfl rfl (l' := #[.val (.int p0), .val (.int p1), .val (.int p2), .val (.int p3), .val (.int p4), .val (.int p5), .val (.int (Int32.ofNat j)), .val (.int (Int32.ofNat n)), .val (.ref b8), .unset, .unset, .unset]) rfl ?_
     exact XS.iload P.here hx rfl (dc at_32) rfl kQ
   rcases Nat.eq_zero_or_pos n with hz | h0n
   ·skip
    subst hz
    show OwH p e below s _ _ _ _ _ _ T (mkF m 34 #[.val (.int p0), .val (.int p1), .val (.int p2), .val (.int p3), .val (.int p4), .val (.int p5), .val (.int (Int32.ofNat j)), .val (.int (Int32.ofNat 0)), .val (.ref b8), .unset, .unset, .unset] [(.int (Int32.ofNat 0))])
    refine OwH.ac (mkF m 96 #[.val (.int p0), .val (.int p1), .val (.int p2), .val (.int p3), .val (.int p4), .val (.int p5), .val (.int (Int32.ofNat j)), .val (.int (Int32.ofNat 0)), .val (.ref b8), .unset, .unset, .unset] []) (fun tQ kQ => ?_) ?_
    · refine XS.ifYes P.here hx rfl (pc0 := 34) (pc' := 52) rfl (dc at_34) rfl ((if0 _ _).trans (flt (by decide)).2.2.2) (by decide) (by decide) ?_
      refine XS.iload P.here hx rfl (dc at_52) rfl ?_
      refine XS.bipush P.here hx rfl (dc at_54) ?_
      refine XS.icmpYes P.here hx rfl (pc0 := 56) (pc' := 66) rfl (dc at_56) rfl (flt (by decide)).2.2.2 (by decide) (by decide) ?_
      refine XS.iload P.here hx rfl (dc at_66) rfl ?_
      refine XS.bipush P.here hx rfl (dc at_68) ?_
      refine XS.icmpYes P.here hx rfl (pc0 := 70) (pc' := 81) rfl (dc at_70) rfl (flt (by decide)).2.2.2 (by decide) (by decide) ?_
      refine XS.iload P.here hx rfl (dc at_81) rfl ?_
      refine XS.bipush P.here hx rfl (dc at_83) ?_
      exact XS.icmpYes P.here hx rfl (pc0 := 85) (pc' := 96) rfl (dc at_85) rfl (flt (by decide)).2.2.2 (by decide) (by decide) kQ
    refine P.newO hx (own_w hw 1 rfl) (own_w hw 2 rfl) (own_w hw 3 rfl) rfl (dc at_96) (own_le rfl) (own_le rfl) fun T h2 b9 gb9 P E A D => ?_
    have ne_b8_b9 : b8 ≠ b9 := Nat.ne_of_lt (Nat.lt_of_lt_of_le V_b8.lt (Nat.le_of_eq gb9.symm))
    have ne_b9_b8 := Ne.symm ne_b8_b9
    have g_b9 : n0 ≤ b9 := Nat.le_trans Z0 (Nat.le_of_eq gb9.symm)
    replace V_b8 := V_b8.ext E
    replace Z0 := Nat.le_trans Z0 E.1
    replace OL := OL.ext E
    have E_b9 := A
    have F_value_b9 : Fld Z h2 b9 "java/lang/String" "value" "[B" .null := D (Or.inr (own_w hw 16 rfl)) (ty := (.array .byte)) (by decide)
    have F_coder_b9 : Fld Z h2 b9 "java/lang/String" "coder" "B" (.int 0) := D (Or.inr (own_w hw 17 rfl)) (ty := .byte) (by decide)
    clear A D E
    show OwH p e below s _ _ _ _ _ _ T (mkF m 99 #[.val (.int p0), .val (.int p1), .val (.int p2), .val (.int p3), .val (.int p4), .val (.int p5), .val (.int (Int32.ofNat j)), .val (.int (Int32.ofNat 0)), .val (.ref b8), .unset, .unset, .unset] [(.ref b9)])
    refine OwH.ac (mkF m 102 #[.val (.int p0), .val (.int p1), .val (.int p2), .val (.int p3), .val (.int p4), .val (.int p5), .val (.int (Int32.ofNat j)), .val (.int (Int32.ofNat 0)), .val (.ref b8), .unset, .unset, .unset] [(.ref b8), (.ref b9), (.ref b9)]) (fun tQ kQ => ?_) ?_
    · refine XS.dup P.here hx rfl (dc at_99) rfl rfl ?_
      exact XS.aload P.here hx rfl (dc at_100) rfl rfl kQ
    refine P.specialS hx rfl (own_w hw 4 rfl) (own_w hw 5 rfl) (own_w hw 6 rfl) (by decide) (fun vm0 hZ hCv hsf => OwS.back (s := s.setVm vm0) (W := 1) (rmN1e l Z a0 hw b9 b8 kb8 _ h2 n0 Z0 g_b9 E_b9 F_coder_b9 F_value_b9 V_b8) hZ (own_w hw 6 rfl) (own_w hw 3 rfl) (own_le rfl) (own_le rfl) hEL hCv hsf) (sf' := [b9]) (fun _ _ _ q => q.2) (allS (List.mem_of_getElem? (i := 0) rfl) all0) rfl (by rw [hml]; rfl) (a := b9) (argsL := [(.ref b8)]) (rest := [(.ref b9)]) (lenOf pd___C_V rfl) rfl (own_le rfl) (dc at_102) rfl (own_le rfl) (own_le rfl) fun T own_v own_L h3 own_e P own_q => ?_
    obtain ⟨⟨rfl, K, t9, kt9, V_x, C_x, A_x⟩, -⟩ := own_q
    clear own_e
    replace V_b8 := V_b8.keep K (ninS ne_b8_b9 nin0)
    replace E_b9 := E_b9.keep K
    replace Z0 := Nat.le_trans Z0 K.1
    replace OL := OL.keep K (allS g_b9 all0)
    show OwH p e below s _ _ _ _ _ _ T (mkF m 105 #[.val (.int p0), .val (.int p1), .val (.int p2), .val (.int p3), .val (.int p4), .val (.int p5), .val (.int (Int32.ofNat j)), .val (.int (Int32.ofNat 0)), .val (.ref b8), .unset, .unset, .unset] [(.ref b9)])
    refine OwH.ac (mkF m 109 #[.val (.int p0), .val (.int p1), .val (.int p2), .val (.int p3), .val (.int p4), .val (.int p5), .val (.int (Int32.ofNat j)), .val (.int (Int32.ofNat 0)), .val (.ref b8), .val (.ref b9), .unset, .unset] [(.ref b9)]) (fun tQ kQ => ?_) ?_
    · refine XS.astore P.here hx rfl (dc at_105) rfl rfl (l' := #[.val (.int p0), .val (.int p1), .val (.int p2), .val (.int p3), .val (.int p4), .val (.int p5), .val (.int (Int32.ofNat j)), .val (.int (Int32.ofNat 0)), .val (.ref b8), .val (.ref b9), .unset, .unset]) rfl ?_
      exact XS.aload P.here hx rfl (dc at_107) rfl rfl kQ
    have hc : StrChars.Road.CodA [] 0 (0 : Int32) [] := Or.inl ⟨rfl, rfl, rfl, own_a0⟩
    have hp0 : ∀ c ∈ ([] : List Int32), ¬ c < 0 ∧ ¬ (65535 : Int32) < c := own_a0
    replace V_b8 : Arv Z h3 b8 kb8 .char (Int32.ofNat 0) (([] : List Int32).map Value.int) (.int 0) := V_b8
    refine P.statS hx (own_w hw 22 rfl) (own_w hw 23 rfl) (own_w hw 24 rfl) (own_w hw 25 rfl) (by decide) (fun vm0 hZ hCv hsf => OwS.back (s := s.setVm vm0) (W := 0) (rmQs l Z a0 hw b9 t9 kt9 (0 : Int32) (0 : Int32) [] [] 0 zC fm h3 n0 Z0 SA SH SL SF rf S2 hzC OL E_b9 V_x C_x A_x hc rfl hp0 (by omega)) hZ (own_w hw 25 rfl) (own_w hw 24 rfl) (own_le rfl) (own_le rfl) hEL hCv hsf) (sf' := []) (fun _ _ _ q => q.2) all0 rfl (by rw [hml]; rfl) (argsL := [(.ref b9)]) (rest := []) (lenOf pd__Ljava_lang_String__Ljava_lang_String_ rfl) rfl (own_le rfl) (dc at_109) rfl (own_le rfl) (own_le rfl) fun T own_v own_L h4 own_e P own_q => ?_
    obtain ⟨⟨K, y, u, ku, cy, N2y, wsy, rfl, E_y, V_y, C_y, A_y, hcy⟩, -⟩ := own_q
    clear own_e
    replace V_b8 := V_b8.keep K nin0
    replace E_b9 := E_b9.keep K
    replace Z0 := Nat.le_trans Z0 K.1
    replace OL := OL.keep K all0
    show OwH p e below s _ _ _ _ _ _ T (mkF m 112 #[.val (.int p0), .val (.int p1), .val (.int p2), .val (.int p3), .val (.int p4), .val (.int p5), .val (.int (Int32.ofNat j)), .val (.int (Int32.ofNat 0)), .val (.ref b8), .val (.ref b9), .unset, .unset] [(.ref y)])
    refine OwH.ac (mkF m 125 #[.val (.int p0), .val (.int p1), .val (.int p2), .val (.int p3), .val (.int p4), .val (.int p5), .val (.int (Int32.ofNat j)), .val (.int (Int32.ofNat 0)), .val (.ref b8), .val (.ref b9), .val (.ref y), .unset] [(.int ((Int32.ofNat 0) + (2 : Int32)))]) (fun tQ kQ => ?_) ?_
    · refine XS.astore P.here hx rfl (dc at_112) rfl rfl (l' := #[.val (.int p0), .val (.int p1), .val (.int p2), .val (.int p3), .val (.int p4), .val (.int p5), .val (.int (Int32.ofNat j)), .val (.int (Int32.ofNat 0)), .val (.ref b8), .val (.ref b9), .val (.ref y), .unset]) rfl ?_
      refine XS.iload P.here hx rfl (dc at_114) rfl ?_
      refine XS.bipush P.here hx rfl (dc at_116) ?_
      refine XS.icmpNo P.here hx rfl (dc at_118) rfl (flt (own_nlt (i := 64) (by omega) (by omega))).2.2.1 ?_
      refine XS.iload P.here hx rfl (dc at_121) rfl ?_
      refine XS.iconst P.here hx rfl (dc at_123) ?_
      exact XS.iadd P.here hx rfl (dc at_124) rfl kQ
    rw [show ((Int32.ofNat 0) + (2 : Int32)) = (Int32.ofNat (0 + 2)) from own_addn 0 2]
    refine P.newP hx (own_w hw 0 rfl) rfl (dc at_125) rfl (own_nn (by omega)) (cap := 66) (by rw [own_tc (by omega)]; omega) (by decide) (own_le rfl) (own_le rfl) fun T h5 b11 kb11 gb11 P E V_b11 => ?_
    have ne_b8_b11 : b8 ≠ b11 := Nat.ne_of_lt (Nat.lt_of_lt_of_le V_b8.lt (Nat.le_of_eq gb11.symm))
    have ne_b11_b8 := Ne.symm ne_b8_b11
    have ne_b9_b11 : b9 ≠ b11 := Nat.ne_of_lt (Nat.lt_of_lt_of_le E_b9.lt (Nat.le_of_eq gb11.symm))
    have ne_b11_b9 := Ne.symm ne_b9_b11
    have ne_y_b11 : y ≠ b11 := Nat.ne_of_lt (Nat.lt_of_lt_of_le E_y.lt (Nat.le_of_eq gb11.symm))
    have ne_b11_y := Ne.symm ne_y_b11
    have ne_u_b11 : u ≠ b11 := Nat.ne_of_lt (Nat.lt_of_lt_of_le A_y.lt (Nat.le_of_eq gb11.symm))
    have ne_b11_u := Ne.symm ne_u_b11
    have g_b11 : n0 ≤ b11 := Nat.le_trans Z0 (Nat.le_of_eq gb11.symm)
    replace V_b8 := V_b8.ext E
    replace E_b9 := E_b9.ext E
    replace E_y := E_y.ext E
    replace V_y := V_y.ext E
    replace C_y := C_y.ext E
    replace A_y := A_y.ext E
    replace Z0 := Nat.le_trans Z0 E.1
    replace OL := OL.ext E
    clear E
    replace V_b11 : Arv Z h5 b11 kb11 .char (Int32.ofNat (0 + 2)) (List.replicate (0 + 2) (.int 0)) (.int 0) := V_b11.pad (pad_rep [] (.int 0) (0 + 2))
    show OwH p e below s _ _ _ _ _ _ T (mkF m 127 #[.val (.int p0), .val (.int p1), .val (.int p2), .val (.int p3), .val (.int p4), .val (.int p5), .val (.int (Int32.ofNat j)), .val (.int (Int32.ofNat 0)), .val (.ref b8), .val (.ref b9), .val (.ref y), .unset] [(.ref b11)])
    replace V_b11 : Arv Z h5 b11 kb11 .char (Int32.ofNat (0 + 2)) ((List.replicate (0 + 2) (0 : Int32)).map Value.int) (.int 0) := by rw [List.map_replicate]; exact V_b11
    obtain ⟨xs1, e_xs1⟩ : ∃ z : List Int32, z = (List.replicate (0 + 2) (0 : Int32)) := ⟨_, rfl⟩
    have h_xs1 : xs1.length = (0 + 2) := by rw [e_xs1, List.length_replicate]
    rw [← e_xs1] at V_b11
    refine OwH.ac (mkF m 134 #[.val (.int p0), .val (.int p1), .val (.int p2), .val (.int p3), .val (.int p4), .val (.int p5), .val (.int (Int32.ofNat j)), .val (.int (Int32.ofNat 0)), .val (.ref b8), .val (.ref b9), .val (.ref y), .val (.ref b11)] [(.int 34), (.int 0), (.ref b11)]) (fun tQ kQ => ?_) ?_
    · refine XS.astore P.here hx rfl (dc at_127) rfl rfl (l' := #[.val (.int p0), .val (.int p1), .val (.int p2), .val (.int p3), .val (.int p4), .val (.int p5), .val (.int (Int32.ofNat j)), .val (.int (Int32.ofNat 0)), .val (.ref b8), .val (.ref b9), .val (.ref y), .val (.ref b11)]) rfl ?_
      refine XS.aload P.here hx rfl (dc at_129) rfl rfl ?_
      refine XS.iconst P.here hx rfl (dc at_131) ?_
      exact XS.bipush P.here hx rfl (dc at_132) kQ
    refine P.stC hx V_b11 (j := (0 : Int32)) (by decide) (own_lt (i := 0) (by omega) (by omega)) (i := 0) (by decide) (by rw [List.length_map, h_xs1]; omega) rfl rfl (dc at_134) g_b11 fun T h6 P W V' => ?_
    replace V_b8 := V_b8.other W ne_b8_b11
    replace E_b9 := E_b9.wr W
    replace E_y := E_y.wr W
    replace V_y := V_y.other W (Or.inl ne_y_b11)
    replace C_y := C_y.other W (Or.inl ne_y_b11)
    replace A_y := A_y.other W ne_u_b11
    replace Z0 := Nat.le_trans Z0 (Keep.of_wr W).1
    replace OL := OL.wr W g_b11
    replace V_b11 := V'
    clear W V'
    show OwH p e below s _ _ _ _ _ _ T (mkF m 135 #[.val (.int p0), .val (.int p1), .val (.int p2), .val (.int p3), .val (.int p4), .val (.int p5), .val (.int (Int32.ofNat j)), .val (.int (Int32.ofNat 0)), .val (.ref b8), .val (.ref b9), .val (.ref y), .val (.ref b11)] [])
    replace V_b11 : Arv Z h6 b11 kb11 .char (Int32.ofNat (0 + 2)) ((xs1.set 0 34).map Value.int) (.int 0) := by
      have q := V_b11
      rw [own_narc ((by unfold own_ok; decide) : own_ok _).1 ((by unfold own_ok; decide) : own_ok _).2] at q
      rw [List.map_set]; exact q
    obtain ⟨xs2, e_xs2⟩ : ∃ z : List Int32, z = (xs1.set 0 34) := ⟨_, rfl⟩
    have h_xs2 : xs2.length = (0 + 2) := by rw [e_xs2, List.length_set]; exact h_xs1
    rw [← e_xs2] at V_b11
    refine OwH.ac (mkF m 140 #[.val (.int p0), .val (.int p1), .val (.int p2), .val (.int p3), .val (.int p4), .val (.int p5), .val (.int (Int32.ofNat j)), .val (.int (Int32.ofNat 0)), .val (.ref b8), .val (.ref b9), .val (.ref y), .val (.ref b11)] [(.int 0), (.ref b11), (.ref b8)]) (fun tQ kQ => ?_) ?_
    · refine XS.aload P.here hx rfl (dc at_135) rfl rfl ?_
      refine XS.aload P.here hx rfl (dc at_137) rfl rfl ?_
      exact XS.iconst P.here hx rfl (dc at_139) kQ
    refine P.stat hx (own_w hw 139 rfl) (own_w hw 140 rfl) (own_w hw 141 rfl) (own_w hw 142 rfl) (by decide) (fun vm0 hZ => OwM.back (s := s.setVm vm0) (W := 0) (rmCy l Z a0 hw b8 b11 kb8 kb11 _ _ [] xs2 0 (0 + 2) 0 h6 n0 Z0 OL V_b8 V_b11 rfl h_xs2 (by omega) (by omega) (by omega) (fun _ _ => by omega) hp0 g_b11 ne_b8_b11) hZ (own_w hw 142 rfl) (own_w hw 141 rfl) (own_le rfl) (own_le rfl)) (fun _ _ _ q => q.2) (ws := [b11]) (fun _ _ _ q => q.1.2.1) (allS (Or.inl (by simp)) all0) rfl (by rw [hml]; rfl) (argsL := [(.ref b8), (.ref b11), (.int 0)]) (rest := []) (lenOf pd___C_CI_V rfl) rfl (own_le rfl) (dc at_140) rfl (own_le rfl) (own_le rfl) fun T own_v own_L h7 own_e P own_q => ?_
    obtain ⟨⟨rfl, K, V_b11⟩, -⟩ := own_q
    clear own_e
    replace V_b8 := V_b8.keep K (ninS ne_b8_b11 nin0)
    replace E_b9 := E_b9.keep K
    replace E_y := E_y.keep K
    replace V_y := V_y.keep K (ninS ne_y_b11 nin0)
    replace C_y := C_y.keep K (ninS ne_y_b11 nin0)
    replace A_y := A_y.keep K (ninS ne_u_b11 nin0)
    replace Z0 := Nat.le_trans Z0 K.1
    replace OL := OL.keep K (allS g_b11 all0)
    show OwH p e below s _ _ _ _ _ _ T (mkF m 143 #[.val (.int p0), .val (.int p1), .val (.int p2), .val (.int p3), .val (.int p4), .val (.int p5), .val (.int (Int32.ofNat j)), .val (.int (Int32.ofNat 0)), .val (.ref b8), .val (.ref b9), .val (.ref y), .val (.ref b11)] [])
    obtain ⟨xs3, e_xs3⟩ : ∃ z : List Int32, z = own_cy [] xs2 0 := ⟨_, rfl⟩
    have h_xs3 : xs3.length = (0 + 2) := by rw [e_xs3, own_cyl]; exact h_xs2
    rw [← e_xs3] at V_b11
    refine OwH.ac (mkF m 151 #[.val (.int p0), .val (.int p1), .val (.int p2), .val (.int p3), .val (.int p4), .val (.int p5), .val (.int (Int32.ofNat j)), .val (.int (Int32.ofNat 0)), .val (.ref b8), .val (.ref b9), .val (.ref y), .val (.ref b11)] [(.int ((Int32.ofNat 0) - (1 : Int32))), (.ref b11), (.ref b8)]) (fun tQ kQ => ?_) ?_
    · refine XS.aload P.here hx rfl (dc at_143) rfl rfl ?_
      refine XS.aload P.here hx rfl (dc at_145) rfl rfl ?_
      refine XS.iload P.here hx rfl (dc at_147) rfl ?_
      refine XS.iconst P.here hx rfl (dc at_149) ?_
      exact XS.isub P.here hx rfl (dc at_150) rfl kQ
    rw [show ((Int32.ofNat 0) - (1 : Int32)) = (-1 : Int32) from by decide]
    refine P.stat hx (own_w hw 139 rfl) (own_w hw 140 rfl) (own_w hw 141 rfl) (own_w hw 142 rfl) (by decide) (fun vm0 hZ => OwM.back (s := s.setVm vm0) (W := 0) (rmCm l Z a0 hw b8 b11 h7 n0 Z0) hZ (own_w hw 142 rfl) (own_w hw 141 rfl) (own_le rfl) (own_le rfl)) (fun _ _ _ q => q.2) (ws := []) (fun _ _ _ q => by rw [q.1.2]; exact Keep.refl _ _) all0 rfl (by rw [hml]; rfl) (argsL := [(.ref b8), (.ref b11), (.int (-1 : Int32))]) (rest := []) (lenOf pd___C_CI_V rfl) rfl (own_le rfl) (dc at_151) rfl (own_le rfl) (own_le rfl) fun T own_v own_L h8 own_e P own_q => ?_
    obtain ⟨⟨rfl, own_hh⟩, -⟩ := own_q
    rw [own_hh] at P
    clear own_e own_hh
    show OwH p e below s _ _ _ _ _ _ T (mkF m 154 #[.val (.int p0), .val (.int p1), .val (.int p2), .val (.int p3), .val (.int p4), .val (.int p5), .val (.int (Int32.ofNat j)), .val (.int (Int32.ofNat 0)), .val (.ref b8), .val (.ref b9), .val (.ref y), .val (.ref b11)] [])
    refine OwH.ac (mkF m 160 #[.val (.int p0), .val (.int p1), .val (.int p2), .val (.int p3), .val (.int p4), .val (.int p5), .val (.int (Int32.ofNat j)), .val (.int (Int32.ofNat 0)), .val (.ref b8), .val (.ref b9), .val (.ref y), .val (.ref b11)] [(.int 30), (.ref b11), (.ref b8)]) (fun tQ kQ => ?_) ?_
    · refine XS.aload P.here hx rfl (dc at_154) rfl rfl ?_
      refine XS.aload P.here hx rfl (dc at_156) rfl rfl ?_
      exact XS.bipush P.here hx rfl (dc at_158) kQ
    refine P.stat hx (own_w hw 139 rfl) (own_w hw 140 rfl) (own_w hw 141 rfl) (own_w hw 142 rfl) (by decide) (fun vm0 hZ => OwM.back (s := s.setVm vm0) (W := 0) (rmCy l Z a0 hw b8 b11 kb8 kb11 _ _ [] xs3 0 (0 + 2) 30 h7 n0 Z0 OL V_b8 V_b11 rfl h_xs3 (by omega) (by omega) (by omega) (fun _ _ => by omega) hp0 g_b11 ne_b8_b11) hZ (own_w hw 142 rfl) (own_w hw 141 rfl) (own_le rfl) (own_le rfl)) (fun _ _ _ q => q.2) (ws := [b11]) (fun _ _ _ q => q.1.2.1) (allS (Or.inl (by simp)) all0) rfl (by rw [hml]; rfl) (argsL := [(.ref b8), (.ref b11), (.int 30)]) (rest := []) (lenOf pd___C_CI_V rfl) rfl (own_le rfl) (dc at_160) rfl (own_le rfl) (own_le rfl) fun T own_v own_L h9 own_e P own_q => ?_
    obtain ⟨⟨rfl, K, V_b11⟩, -⟩ := own_q
    clear own_e
    replace V_b8 := V_b8.keep K (ninS ne_b8_b11 nin0)
    replace E_b9 := E_b9.keep K
    replace E_y := E_y.keep K
    replace V_y := V_y.keep K (ninS ne_y_b11 nin0)
    replace C_y := C_y.keep K (ninS ne_y_b11 nin0)
    replace A_y := A_y.keep K (ninS ne_u_b11 nin0)
    replace Z0 := Nat.le_trans Z0 K.1
    replace OL := OL.keep K (allS g_b11 all0)
    show OwH p e below s _ _ _ _ _ _ T (mkF m 163 #[.val (.int p0), .val (.int p1), .val (.int p2), .val (.int p3), .val (.int p4), .val (.int p5), .val (.int (Int32.ofNat j)), .val (.int (Int32.ofNat 0)), .val (.ref b8), .val (.ref b9), .val (.ref y), .val (.ref b11)] [])
    obtain ⟨xs4, e_xs4⟩ : ∃ z : List Int32, z = own_cy [] xs3 30 := ⟨_, rfl⟩
    have h_xs4 : xs4.length = (0 + 2) := by rw [e_xs4, own_cyl]; exact h_xs3
    rw [← e_xs4] at V_b11
    refine OwH.ac (mkF m 169 #[.val (.int p0), .val (.int p1), .val (.int p2), .val (.int p3), .val (.int p4), .val (.int p5), .val (.int (Int32.ofNat j)), .val (.int (Int32.ofNat 0)), .val (.ref b8), .val (.ref b9), .val (.ref y), .val (.ref b11)] [(.int 63), (.ref b11), (.ref b8)]) (fun tQ kQ => ?_) ?_
    · refine XS.aload P.here hx rfl (dc at_163) rfl rfl ?_
      refine XS.aload P.here hx rfl (dc at_165) rfl rfl ?_
      exact XS.bipush P.here hx rfl (dc at_167) kQ
    refine P.stat hx (own_w hw 139 rfl) (own_w hw 140 rfl) (own_w hw 141 rfl) (own_w hw 142 rfl) (by decide) (fun vm0 hZ => OwM.back (s := s.setVm vm0) (W := 0) (rmCy l Z a0 hw b8 b11 kb8 kb11 _ _ [] xs4 0 (0 + 2) 63 h9 n0 Z0 OL V_b8 V_b11 rfl h_xs4 (by omega) (by omega) (by omega) (fun _ _ => by omega) hp0 g_b11 ne_b8_b11) hZ (own_w hw 142 rfl) (own_w hw 141 rfl) (own_le rfl) (own_le rfl)) (fun _ _ _ q => q.2) (ws := [b11]) (fun _ _ _ q => q.1.2.1) (allS (Or.inl (by simp)) all0) rfl (by rw [hml]; rfl) (argsL := [(.ref b8), (.ref b11), (.int 63)]) (rest := []) (lenOf pd___C_CI_V rfl) rfl (own_le rfl) (dc at_169) rfl (own_le rfl) (own_le rfl) fun T own_v own_L h10 own_e P own_q => ?_
    obtain ⟨⟨rfl, K, V_b11⟩, -⟩ := own_q
    clear own_e
    replace V_b8 := V_b8.keep K (ninS ne_b8_b11 nin0)
    replace E_b9 := E_b9.keep K
    replace E_y := E_y.keep K
    replace V_y := V_y.keep K (ninS ne_y_b11 nin0)
    replace C_y := C_y.keep K (ninS ne_y_b11 nin0)
    replace A_y := A_y.keep K (ninS ne_u_b11 nin0)
    replace Z0 := Nat.le_trans Z0 K.1
    replace OL := OL.keep K (allS g_b11 all0)
    show OwH p e below s _ _ _ _ _ _ T (mkF m 172 #[.val (.int p0), .val (.int p1), .val (.int p2), .val (.int p3), .val (.int p4), .val (.int p5), .val (.int (Int32.ofNat j)), .val (.int (Int32.ofNat 0)), .val (.ref b8), .val (.ref b9), .val (.ref y), .val (.ref b11)] [])
    obtain ⟨xs5, e_xs5⟩ : ∃ z : List Int32, z = own_cy [] xs4 63 := ⟨_, rfl⟩
    have h_xs5 : xs5.length = (0 + 2) := by rw [e_xs5, own_cyl]; exact h_xs4
    rw [← e_xs5] at V_b11
    refine OwH.ac (mkF m 180 #[.val (.int p0), .val (.int p1), .val (.int p2), .val (.int p3), .val (.int p4), .val (.int p5), .val (.int (Int32.ofNat j)), .val (.int (Int32.ofNat 0)), .val (.ref b8), .val (.ref b9), .val (.ref y), .val (.ref b11)] [(.int 34), (.int ((Int32.ofNat 0) + (1 : Int32))), (.ref b11)]) (fun tQ kQ => ?_) ?_
    · refine XS.aload P.here hx rfl (dc at_172) rfl rfl ?_
      refine XS.iload P.here hx rfl (dc at_174) rfl ?_
      refine XS.iconst P.here hx rfl (dc at_176) ?_
      refine XS.iadd P.here hx rfl (dc at_177) rfl ?_
      exact XS.bipush P.here hx rfl (dc at_178) kQ
    rw [show ((Int32.ofNat 0) + (1 : Int32)) = (Int32.ofNat (0 + 1)) from own_succ 0]
    refine P.stC hx V_b11 (j := (Int32.ofNat (0 + 1))) (own_nn (by omega)) (own_lt (by omega) (by omega)) (i := (0 + 1)) (own_tc (by omega)) (by rw [List.length_map, h_xs5]; omega) rfl rfl (dc at_180) g_b11 fun T h11 P W V' => ?_
    replace V_b8 := V_b8.other W ne_b8_b11
    replace E_b9 := E_b9.wr W
    replace E_y := E_y.wr W
    replace V_y := V_y.other W (Or.inl ne_y_b11)
    replace C_y := C_y.other W (Or.inl ne_y_b11)
    replace A_y := A_y.other W ne_u_b11
    replace Z0 := Nat.le_trans Z0 (Keep.of_wr W).1
    replace OL := OL.wr W g_b11
    replace V_b11 := V'
    clear W V'
    show OwH p e below s _ _ _ _ _ _ T (mkF m 181 #[.val (.int p0), .val (.int p1), .val (.int p2), .val (.int p3), .val (.int p4), .val (.int p5), .val (.int (Int32.ofNat j)), .val (.int (Int32.ofNat 0)), .val (.ref b8), .val (.ref b9), .val (.ref y), .val (.ref b11)] [])
    replace V_b11 : Arv Z h11 b11 kb11 .char (Int32.ofNat (0 + 2)) ((xs5.set (0 + 1) 34).map Value.int) (.int 0) := by
      have q := V_b11
      rw [own_narc ((by unfold own_ok; decide) : own_ok _).1 ((by unfold own_ok; decide) : own_ok _).2] at q
      rw [List.map_set]; exact q
    obtain ⟨xs6, e_xs6⟩ : ∃ z : List Int32, z = (xs5.set (0 + 1) 34) := ⟨_, rfl⟩
    have h_xs6 : xs6.length = (0 + 2) := by rw [e_xs6, List.length_set]; exact h_xs5
    rw [← e_xs6] at V_b11
    have own_x : xs6 = ((([] ++ ([34] : List Int32)) ++ []) ++ ([34] : List Int32)) := by rw [e_xs6, e_xs5, e_xs4, e_xs3, e_xs2, e_xs1]; decide
    refine OwH.ac (mkF m 382 #[.val (.int p0), .val (.int p1), .val (.int p2), .val (.int p3), .val (.int p4), .val (.int p5), .val (.int (Int32.ofNat j)), .val (.int (Int32.ofNat 0)), .val (.ref b8), .val (.ref b9), .val (.ref y), .val (.ref b11)] [(.ref y)]) (fun tQ kQ => ?_) ?_
    · refine XS.goto P.here hx rfl (pc0 := 181) (pc' := 380) rfl (dc at_181) (by decide) (by decide) ?_
      exact XS.aload P.here hx rfl (dc at_380) rfl rfl kQ
    refine P.newO hx (own_w hw 1 rfl) (own_w hw 2 rfl) (own_w hw 3 rfl) rfl (dc at_382) (own_le rfl) (own_le rfl) fun T h12 b12 gb12 P E A D => ?_
    have ne_b8_b12 : b8 ≠ b12 := Nat.ne_of_lt (Nat.lt_of_lt_of_le V_b8.lt (Nat.le_of_eq gb12.symm))
    have ne_b12_b8 := Ne.symm ne_b8_b12
    have ne_b9_b12 : b9 ≠ b12 := Nat.ne_of_lt (Nat.lt_of_lt_of_le E_b9.lt (Nat.le_of_eq gb12.symm))
    have ne_b12_b9 := Ne.symm ne_b9_b12
    have ne_y_b12 : y ≠ b12 := Nat.ne_of_lt (Nat.lt_of_lt_of_le E_y.lt (Nat.le_of_eq gb12.symm))
    have ne_b12_y := Ne.symm ne_y_b12
    have ne_u_b12 : u ≠ b12 := Nat.ne_of_lt (Nat.lt_of_lt_of_le A_y.lt (Nat.le_of_eq gb12.symm))
    have ne_b12_u := Ne.symm ne_u_b12
    have ne_b11_b12 : b11 ≠ b12 := Nat.ne_of_lt (Nat.lt_of_lt_of_le V_b11.lt (Nat.le_of_eq gb12.symm))
    have ne_b12_b11 := Ne.symm ne_b11_b12
    have g_b12 : n0 ≤ b12 := Nat.le_trans Z0 (Nat.le_of_eq gb12.symm)
    replace V_b8 := V_b8.ext E
    replace E_b9 := E_b9.ext E
    replace E_y := E_y.ext E
    replace V_y := V_y.ext E
    replace C_y := C_y.ext E
    replace A_y := A_y.ext E
    replace V_b11 := V_b11.ext E
    replace Z0 := Nat.le_trans Z0 E.1
    replace OL := OL.ext E
    have E_b12 := A
    have F_value_b12 : Fld Z h12 b12 "java/lang/String" "value" "[B" .null := D (Or.inr (own_w hw 16 rfl)) (ty := (.array .byte)) (by decide)
    have F_coder_b12 : Fld Z h12 b12 "java/lang/String" "coder" "B" (.int 0) := D (Or.inr (own_w hw 17 rfl)) (ty := .byte) (by decide)
    clear A D E
    show OwH p e below s _ _ _ _ _ _ T (mkF m 385 #[.val (.int p0), .val (.int p1), .val (.int p2), .val (.int p3), .val (.int p4), .val (.int p5), .val (.int (Int32.ofNat j)), .val (.int (Int32.ofNat 0)), .val (.ref b8), .val (.ref b9), .val (.ref y), .val (.ref b11)] [(.ref b12), (.ref y)])
    refine OwH.ac (mkF m 388 #[.val (.int p0), .val (.int p1), .val (.int p2), .val (.int p3), .val (.int p4), .val (.int p5), .val (.int (Int32.ofNat j)), .val (.int (Int32.ofNat 0)), .val (.ref b8), .val (.ref b9), .val (.ref y), .val (.ref b11)] [(.ref b11), (.ref b12), (.ref b12), (.ref y)]) (fun tQ kQ => ?_) ?_
    · refine XS.dup P.here hx rfl (dc at_385) rfl rfl ?_
      exact XS.aload P.here hx rfl (dc at_386) rfl rfl kQ
    have hpX : ∀ c ∈ xs6, ¬ c < 0 ∧ ¬ (65535 : Int32) < c := by rw [own_x]; exact (own_ab (own_ab (own_ab own_a0 (by decide)) hp0) (by decide))
    refine P.special hx rfl (own_w hw 4 rfl) (own_w hw 5 rfl) (own_w hw 6 rfl) (by decide) (fun vm0 hZ => OwM.back (s := s.setVm vm0) (W := 2) (rmN1 l Z a0 hw b12 b11 kb11 _ (0 + 2) xs6 zC h12 n0 Z0 SA SH SL S2 hzC OL V_b11 h_xs6 (by omega) (by omega) hpX g_b12 E_b12 F_coder_b12 F_value_b12 ne_b12_b11) hZ (own_w hw 6 rfl) (own_w hw 3 rfl) (own_le rfl) (own_le rfl)) (fun _ _ _ q => q.2) (ws := [b12]) (fun _ _ _ q => q.1.2.1) (allS (Or.inl (by simp)) all0) rfl (by rw [hml]; rfl) (a := b12) (argsL := [(.ref b11)]) (rest := [(.ref b12), (.ref y)]) (lenOf pd___C_V rfl) rfl (own_le rfl) (dc at_388) rfl (by first | omega | (dsimp only [room_1] <;> omega)) (by first | omega | (dsimp only [room_1] <;> omega)) fun T own_v own_L h13 own_e P own_q => ?_
    obtain ⟨⟨rfl, K, t12, kt12, cd12, N12, ws12, -, V_12, C_12, A_12, hc12⟩, -⟩ := own_q
    clear own_e
    replace V_b8 := V_b8.keep K (ninS ne_b8_b12 nin0)
    replace E_b9 := E_b9.keep K
    replace E_y := E_y.keep K
    replace V_y := V_y.keep K (ninS ne_y_b12 nin0)
    replace C_y := C_y.keep K (ninS ne_y_b12 nin0)
    replace A_y := A_y.keep K (ninS ne_u_b12 nin0)
    replace V_b11 := V_b11.keep K (ninS ne_b11_b12 nin0)
    replace E_b12 := E_b12.keep K
    replace Z0 := Nat.le_trans Z0 K.1
    replace OL := OL.keep K (allS g_b12 all0)
    show OwH p e below s _ _ _ _ _ _ T (mkF m 391 #[.val (.int p0), .val (.int p1), .val (.int p2), .val (.int p3), .val (.int p4), .val (.int p5), .val (.int (Int32.ofNat j)), .val (.int (Int32.ofNat 0)), .val (.ref b8), .val (.ref b9), .val (.ref y), .val (.ref b11)] [(.ref b12), (.ref y)])
    refine P.virtual hx (own_w hw 153 rfl) (own_w hw 154 rfl) (fun vm0 hZ => notFace_of_selects (args := #[]) (mvT (s := s.setVm vm0) hZ (own_w hw 156 rfl))) (own_w hw 156 rfl) (own_w hw 155 rfl) (by decide) (fun vm0 hZ => own_eqB (s := s.setVm vm0) (W := 0) (n0 := n0) hZ hw E_y V_y C_y A_y hcy (own_ab (own_ab (own_ab own_a0 (by decide)) hp0) (by decide)) (by rw [← own_x, h_xs6]; omega) E_b12 V_12 C_12 A_12 hc12 hpX (by rw [h_xs6]; omega) (S2.ext OL.2) hzC (own_le rfl) (own_le rfl)) (fun _ _ _ q => q.2.2) (ws := []) (fun _ _ _ q => by rw [q.2.1]; exact Keep.refl _ _) all0 E_y rfl (by rw [hml]; rfl) (argsL := [(.ref b12)]) (rest := []) (lenOf pd__Ljava_lang_Object__Z rfl) rfl (own_le rfl) (dc at_391) rfl (by first | omega | (dsimp only [room_1] <;> omega)) (by first | omega | (dsimp only [room_1] <;> omega)) fun T own_v own_L h14 own_e P own_q => ?_
    obtain ⟨⟨i17, rfl, h17⟩, own_hh, -⟩ := own_q
    rw [own_hh] at P
    clear own_e own_hh
    show OwH p e below s _ _ _ _ _ _ T (mkF m 394 #[.val (.int p0), .val (.int p1), .val (.int p2), .val (.int p3), .val (.int p4), .val (.int p5), .val (.int (Int32.ofNat j)), .val (.int (Int32.ofNat 0)), .val (.ref b8), .val (.ref b9), .val (.ref y), .val (.ref b11)] [(.int i17)])
    obtain rfl : i17 = 1 := h17.elim (fun q => q.1) (fun q => absurd own_x.symm q.2)
    show OwH p e below s _ _ _ _ _ _ T (mkF m 394 #[.val (.int p0), .val (.int p1), .val (.int p2), .val (.int p3), .val (.int p4), .val (.int p5), .val (.int (Int32.ofNat j)), .val (.int (Int32.ofNat 0)), .val (.ref b8), .val (.ref b9), .val (.ref y), .val (.ref b11)] [(.int 1)])
    exact P.retN hEL hx hlk (t := .boolean) hret (by simp) (dc at_394) (by first | omega | (dsimp only [room_1] <;> omega)) (by first | omega | (dsimp only [room_1] <;> omega)) rfl
   ·skip
    refine OwH.ac (mkF m 37 #[.val (.int p0), .val (.int p1), .val (.int p2), .val (.int p3), .val (.int p4), .val (.int p5), .val (.int (Int32.ofNat j)), .val (.int (Int32.ofNat n)), .val (.ref b8), .unset, .unset, .unset] []) (fun tQ kQ => ?_) ?_
    · exact XS.ifNo P.here hx rfl (dc at_34) rfl ((if0 _ _).trans (tlt (own_lt (i := 0) h0n (by omega))).2.2.2) kQ
    replace V_b8 : Arv Z h1 b8 kb8 .char (Int32.ofNat n) ((List.replicate n (0 : Int32)).map Value.int) (.int 0) := by rw [List.map_replicate]; exact V_b8
    refine OwH.ac (mkF m 42 #[.val (.int p0), .val (.int p1), .val (.int p2), .val (.int p3), .val (.int p4), .val (.int p5), .val (.int (Int32.ofNat j)), .val (.int (Int32.ofNat n)), .val (.ref b8), .unset, .unset, .unset] [(.int (p1.toUInt32.toUInt16.toUInt32.toInt32)), (.int 0), (.ref b8)]) (fun tQ kQ => ?_) ?_
    · refine XS.aload P.here hx rfl (dc at_37) rfl rfl ?_
      refine XS.iconst P.here hx rfl (dc at_39) ?_
      refine XS.iloadN P.here hx rfl (dc at_40) rfl ?_
      exact XS.i2c P.here hx rfl (dc at_41) rfl kQ
    rw [show (p1.toUInt32.toUInt16.toUInt32.toInt32) = q1 from own_c1]
    refine P.stC hx V_b8 (j := (0 : Int32)) (by decide) (own_lt (i := 0) (by omega) (by omega)) (i := 0) (by decide) (by rw [List.length_map, List.length_replicate]; omega) rfl rfl (dc at_42) g_b8 fun T h15 P W V' => ?_
    replace Z0 := Nat.le_trans Z0 (Keep.of_wr W).1
    replace OL := OL.wr W g_b8
    replace V_b8 := V'
    clear W V'
    show OwH p e below s _ _ _ _ _ _ T (mkF m 43 #[.val (.int p0), .val (.int p1), .val (.int p2), .val (.int p3), .val (.int p4), .val (.int p5), .val (.int (Int32.ofNat j)), .val (.int (Int32.ofNat n)), .val (.ref b8), .unset, .unset, .unset] [])
    replace V_b8 : Arv Z h15 b8 kb8 .char (Int32.ofNat n) (((List.replicate n (0 : Int32)).set 0 q1).map Value.int) (.int 0) := by
      have q := V_b8
      rw [own_narc (hq1 : own_ok _).1 (hq1 : own_ok _).2] at q
      rw [List.map_set]; exact q
    refine OwH.ac (mkF m 51 #[.val (.int p0), .val (.int p1), .val (.int p2), .val (.int p3), .val (.int p4), .val (.int p5), .val (.int (Int32.ofNat j)), .val (.int (Int32.ofNat n)), .val (.ref b8), .unset, .unset, .unset] [(.int (p2.toUInt32.toUInt16.toUInt32.toInt32)), (.int ((Int32.ofNat n) - (1 : Int32))), (.ref b8)]) (fun tQ kQ => ?_) ?_
    · refine XS.aload P.here hx rfl (dc at_43) rfl rfl ?_
      refine XS.iload P.here hx rfl (dc at_45) rfl ?_
      refine XS.iconst P.here hx rfl (dc at_47) ?_
      refine XS.isub P.here hx rfl (dc at_48) rfl ?_
      refine XS.iloadN P.here hx rfl (dc at_49) rfl ?_
      exact XS.i2c P.here hx rfl (dc at_50) rfl kQ
    rw [show (p2.toUInt32.toUInt16.toUInt32.toInt32) = q2 from own_c2]
    rw [show ((Int32.ofNat n) - (1 : Int32)) = (Int32.ofNat (n - 1)) from own_sub1 h0n (by omega)]
    refine P.stC hx V_b8 (j := (Int32.ofNat (n - 1))) (own_nn (by omega)) (own_lt (by omega) (by omega)) (i := (n - 1)) (own_tc (by omega)) (by rw [List.length_map, List.length_set, List.length_replicate]; omega) rfl rfl (dc at_51) g_b8 fun T h16 P W V' => ?_
    replace Z0 := Nat.le_trans Z0 (Keep.of_wr W).1
    replace OL := OL.wr W g_b8
    replace V_b8 := V'
    clear W V'
    show OwH p e below s _ _ _ _ _ _ T (mkF m 52 #[.val (.int p0), .val (.int p1), .val (.int p2), .val (.int p3), .val (.int p4), .val (.int p5), .val (.int (Int32.ofNat j)), .val (.int (Int32.ofNat n)), .val (.ref b8), .unset, .unset, .unset] [])
    replace V_b8 : Arv Z h16 b8 kb8 .char (Int32.ofNat n) ((((List.replicate n (0 : Int32)).set 0 q1).set (n - 1) q2).map Value.int) (.int 0) := by
      have q := V_b8
      rw [own_narc (hq2 : own_ok _).1 (hq2 : own_ok _).2] at q
      rw [List.map_set]; exact q
    refine OwH.ac (mkF m 56 #[.val (.int p0), .val (.int p1), .val (.int p2), .val (.int p3), .val (.int p4), .val (.int p5), .val (.int (Int32.ofNat j)), .val (.int (Int32.ofNat n)), .val (.ref b8), .unset, .unset, .unset] [(.int 30), (.int (Int32.ofNat n))]) (fun tQ kQ => ?_) ?_
    · refine XS.iload P.here hx rfl (dc at_52) rfl ?_
      exact XS.bipush P.here hx rfl (dc at_54) kQ
    have k66 : ∀ (T : State) (hJ_k66 : Heap), OwC p l e room_1 s m #[(.int p0), (.int p1), (.int p2), (.int p3), (.int p4), (.int p5)] below meth cD Z "com/example/background_task_queue/backgroundtaskqueue/NameRuleQuotePinLaw" own_EL [b8] n0 T hJ_k66 1 67 → (n0 ≤ hJ_k66.size) → (Old Z n0 hJ_k66) → (Arv Z hJ_k66 b8 kb8 .char (Int32.ofNat n) ((own_n3 n q1 q2 q3).map Value.int) (.int 0)) → OwH p e below s Z own_EL n0 room_1.cells room_1.slots (fun v h => v = some (Value.int (1 : Int32))) T (mkF m 66 #[.val (.int p0), .val (.int p1), .val (.int p2), .val (.int p3), .val (.int p4), .val (.int p5), .val (.int (Int32.ofNat j)), .val (.int (Int32.ofNat n)), .val (.ref b8), .unset, .unset, .unset] []) := by
     intro T hJ_k66  P Z0 OL V_b8
     refine OwH.ac (mkF m 70 #[.val (.int p0), .val (.int p1), .val (.int p2), .val (.int p3), .val (.int p4), .val (.int p5), .val (.int (Int32.ofNat j)), .val (.int (Int32.ofNat n)), .val (.ref b8), .unset, .unset, .unset] [(.int 63), (.int (Int32.ofNat n))]) (fun tQ kQ => ?_) ?_
     · refine XS.iload P.here hx rfl (dc at_66) rfl ?_
       exact XS.bipush P.here hx rfl (dc at_68) kQ
     have k81 : ∀ (T : State) (hJ_k81 : Heap), OwC p l e room_1 s m #[(.int p0), (.int p1), (.int p2), (.int p3), (.int p4), (.int p5)] below meth cD Z "com/example/background_task_queue/backgroundtaskqueue/NameRuleQuotePinLaw" own_EL [b8] n0 T hJ_k81 1 67 → (n0 ≤ hJ_k81.size) → (Old Z n0 hJ_k81) → (Arv Z hJ_k81 b8 kb8 .char (Int32.ofNat n) ((own_n4 n q1 q2 q3 q4).map Value.int) (.int 0)) → OwH p e below s Z own_EL n0 room_1.cells room_1.slots (fun v h => v = some (Value.int (1 : Int32))) T (mkF m 81 #[.val (.int p0), .val (.int p1), .val (.int p2), .val (.int p3), .val (.int p4), .val (.int p5), .val (.int (Int32.ofNat j)), .val (.int (Int32.ofNat n)), .val (.ref b8), .unset, .unset, .unset] []) := by
      intro T hJ_k81  P Z0 OL V_b8
      refine OwH.ac (mkF m 85 #[.val (.int p0), .val (.int p1), .val (.int p2), .val (.int p3), .val (.int p4), .val (.int p5), .val (.int (Int32.ofNat j)), .val (.int (Int32.ofNat n)), .val (.ref b8), .unset, .unset, .unset] [(.int 64), (.int (Int32.ofNat n))]) (fun tQ kQ => ?_) ?_
      · refine XS.iload P.here hx rfl (dc at_81) rfl ?_
        exact XS.bipush P.here hx rfl (dc at_83) kQ
      have k96 : ∀ (T : State) (hJ_k96 : Heap), OwC p l e room_1 s m #[(.int p0), (.int p1), (.int p2), (.int p3), (.int p4), (.int p5)] below meth cD Z "com/example/background_task_queue/backgroundtaskqueue/NameRuleQuotePinLaw" own_EL [b8] n0 T hJ_k96 1 67 → (n0 ≤ hJ_k96.size) → (Old Z n0 hJ_k96) → (Arv Z hJ_k96 b8 kb8 .char (Int32.ofNat n) ((own_n5 n q1 q2 q3 q4 q5).map Value.int) (.int 0)) → OwH p e below s Z own_EL n0 room_1.cells room_1.slots (fun v h => v = some (Value.int (1 : Int32))) T (mkF m 96 #[.val (.int p0), .val (.int p1), .val (.int p2), .val (.int p3), .val (.int p4), .val (.int p5), .val (.int (Int32.ofNat j)), .val (.int (Int32.ofNat n)), .val (.ref b8), .unset, .unset, .unset] []) := by
       intro T hJ_k96  P Z0 OL V_b8
       refine P.newO hx (own_w hw 1 rfl) (own_w hw 2 rfl) (own_w hw 3 rfl) rfl (dc at_96) (own_le rfl) (own_le rfl) fun T h17 b9 gb9 P E A D => ?_
       have ne_b8_b9 : b8 ≠ b9 := Nat.ne_of_lt (Nat.lt_of_lt_of_le V_b8.lt (Nat.le_of_eq gb9.symm))
       have ne_b9_b8 := Ne.symm ne_b8_b9
       have g_b9 : n0 ≤ b9 := Nat.le_trans Z0 (Nat.le_of_eq gb9.symm)
       replace V_b8 := V_b8.ext E
       replace Z0 := Nat.le_trans Z0 E.1
       replace OL := OL.ext E
       have E_b9 := A
       have F_value_b9 : Fld Z h17 b9 "java/lang/String" "value" "[B" .null := D (Or.inr (own_w hw 16 rfl)) (ty := (.array .byte)) (by decide)
       have F_coder_b9 : Fld Z h17 b9 "java/lang/String" "coder" "B" (.int 0) := D (Or.inr (own_w hw 17 rfl)) (ty := .byte) (by decide)
       clear A D E
       show OwH p e below s _ _ _ _ _ _ T (mkF m 99 #[.val (.int p0), .val (.int p1), .val (.int p2), .val (.int p3), .val (.int p4), .val (.int p5), .val (.int (Int32.ofNat j)), .val (.int (Int32.ofNat n)), .val (.ref b8), .unset, .unset, .unset] [(.ref b9)])
       refine OwH.ac (mkF m 102 #[.val (.int p0), .val (.int p1), .val (.int p2), .val (.int p3), .val (.int p4), .val (.int p5), .val (.int (Int32.ofNat j)), .val (.int (Int32.ofNat n)), .val (.ref b8), .unset, .unset, .unset] [(.ref b8), (.ref b9), (.ref b9)]) (fun tQ kQ => ?_) ?_
       · refine XS.dup P.here hx rfl (dc at_99) rfl rfl ?_
         exact XS.aload P.here hx rfl (dc at_100) rfl rfl kQ
       have hlen := own_n5l n q1 q2 q3 q4 q5
       have hpN : ∀ c ∈ (own_n5 n q1 q2 q3 q4 q5), ¬ c < 0 ∧ ¬ (65535 : Int32) < c := own_n5b hq1 hq2 hq3 hq4 hq5
       refine P.special hx rfl (own_w hw 4 rfl) (own_w hw 5 rfl) (own_w hw 6 rfl) (by decide) (fun vm0 hZ => OwM.back (s := s.setVm vm0) (W := 1) (rmN1 l Z a0 hw b9 b8 kb8 _ n (own_n5 n q1 q2 q3 q4 q5) zC h17 n0 Z0 SA SH SL S2 hzC OL V_b8 hlen (by omega) h0n hpN g_b9 E_b9 F_coder_b9 F_value_b9 ne_b9_b8) hZ (own_w hw 6 rfl) (own_w hw 3 rfl) (own_le rfl) (own_le rfl)) (fun _ _ _ q => q.2) (ws := [b9]) (fun _ _ _ q => q.1.2.1) (allS (Or.inl (by simp)) all0) rfl (by rw [hml]; rfl) (a := b9) (argsL := [(.ref b8)]) (rest := [(.ref b9)]) (lenOf pd___C_V rfl) rfl (own_le rfl) (dc at_102) rfl (by first | omega | (dsimp only [room_1] <;> omega)) (by first | omega | (dsimp only [room_1] <;> omega)) fun T own_v own_L h18 own_e P own_q => ?_
       obtain ⟨⟨rfl, K, t9, kt9, cx, N2, ws, -, V_x, C_x, A_x, hc⟩, -⟩ := own_q
       clear own_e
       replace V_b8 := V_b8.keep K (ninS ne_b8_b9 nin0)
       replace E_b9 := E_b9.keep K
       replace Z0 := Nat.le_trans Z0 K.1
       replace OL := OL.keep K (allS g_b9 all0)
       show OwH p e below s _ _ _ _ _ _ T (mkF m 105 #[.val (.int p0), .val (.int p1), .val (.int p2), .val (.int p3), .val (.int p4), .val (.int p5), .val (.int (Int32.ofNat j)), .val (.int (Int32.ofNat n)), .val (.ref b8), .unset, .unset, .unset] [(.ref b9)])
       refine OwH.ac (mkF m 109 #[.val (.int p0), .val (.int p1), .val (.int p2), .val (.int p3), .val (.int p4), .val (.int p5), .val (.int (Int32.ofNat j)), .val (.int (Int32.ofNat n)), .val (.ref b8), .val (.ref b9), .unset, .unset] [(.ref b9)]) (fun tQ kQ => ?_) ?_
       · refine XS.astore P.here hx rfl (dc at_105) rfl rfl (l' := #[.val (.int p0), .val (.int p1), .val (.int p2), .val (.int p3), .val (.int p4), .val (.int p5), .val (.int (Int32.ofNat j)), .val (.int (Int32.ofNat n)), .val (.ref b8), .val (.ref b9), .unset, .unset]) rfl ?_
         exact XS.aload P.here hx rfl (dc at_107) rfl rfl kQ
       by_cases h64 : n ≤ 64
       ·skip
        refine P.statS hx (own_w hw 22 rfl) (own_w hw 23 rfl) (own_w hw 24 rfl) (own_w hw 25 rfl) (by decide) (fun vm0 hZ hCv hsf => OwS.back (s := s.setVm vm0) (W := 0) (rmQs l Z a0 hw b9 t9 kt9 cx N2 ws (own_n5 n q1 q2 q3 q4 q5) n zC fm h18 n0 Z0 SA SH SL SF rf S2 hzC OL E_b9 V_x C_x A_x hc hlen hpN (by omega)) hZ (own_w hw 25 rfl) (own_w hw 24 rfl) (own_le rfl) (own_le rfl) hEL hCv hsf) (sf' := []) (fun _ _ _ q => q.2) all0 rfl (by rw [hml]; rfl) (argsL := [(.ref b9)]) (rest := []) (lenOf pd__Ljava_lang_String__Ljava_lang_String_ rfl) rfl (own_le rfl) (dc at_109) rfl (by first | omega | (dsimp only [room_1] <;> omega)) (by first | omega | (dsimp only [room_1] <;> omega)) fun T own_v own_L h19 own_e P own_q => ?_
        obtain ⟨⟨K, y, u, ku, cy, N2y, wsy, rfl, E_y, V_y, C_y, A_y, hcy⟩, -⟩ := own_q
        clear own_e
        replace V_b8 := V_b8.keep K nin0
        replace E_b9 := E_b9.keep K
        replace Z0 := Nat.le_trans Z0 K.1
        replace OL := OL.keep K all0
        show OwH p e below s _ _ _ _ _ _ T (mkF m 112 #[.val (.int p0), .val (.int p1), .val (.int p2), .val (.int p3), .val (.int p4), .val (.int p5), .val (.int (Int32.ofNat j)), .val (.int (Int32.ofNat n)), .val (.ref b8), .val (.ref b9), .unset, .unset] [(.ref y)])
        refine OwH.ac (mkF m 125 #[.val (.int p0), .val (.int p1), .val (.int p2), .val (.int p3), .val (.int p4), .val (.int p5), .val (.int (Int32.ofNat j)), .val (.int (Int32.ofNat n)), .val (.ref b8), .val (.ref b9), .val (.ref y), .unset] [(.int ((Int32.ofNat n) + (2 : Int32)))]) (fun tQ kQ => ?_) ?_
        · refine XS.astore P.here hx rfl (dc at_112) rfl rfl (l' := #[.val (.int p0), .val (.int p1), .val (.int p2), .val (.int p3), .val (.int p4), .val (.int p5), .val (.int (Int32.ofNat j)), .val (.int (Int32.ofNat n)), .val (.ref b8), .val (.ref b9), .val (.ref y), .unset]) rfl ?_
          refine XS.iload P.here hx rfl (dc at_114) rfl ?_
          refine XS.bipush P.here hx rfl (dc at_116) ?_
          refine XS.icmpNo P.here hx rfl (dc at_118) rfl (flt (own_nlt (i := 64) (by omega) (by omega))).2.2.1 ?_
          refine XS.iload P.here hx rfl (dc at_121) rfl ?_
          refine XS.iconst P.here hx rfl (dc at_123) ?_
          exact XS.iadd P.here hx rfl (dc at_124) rfl kQ
        rw [show ((Int32.ofNat n) + (2 : Int32)) = (Int32.ofNat (n + 2)) from own_addn n 2]
        refine P.newP hx (own_w hw 0 rfl) rfl (dc at_125) rfl (own_nn (by omega)) (cap := 66) (by rw [own_tc (by omega)]; omega) (by decide) (by first | omega | (dsimp only [room_1] <;> omega)) (by first | omega | (dsimp only [room_1] <;> omega)) fun T h20 b11 kb11 gb11 P E V_b11 => ?_
        have ne_b8_b11 : b8 ≠ b11 := Nat.ne_of_lt (Nat.lt_of_lt_of_le V_b8.lt (Nat.le_of_eq gb11.symm))
        have ne_b11_b8 := Ne.symm ne_b8_b11
        have ne_b9_b11 : b9 ≠ b11 := Nat.ne_of_lt (Nat.lt_of_lt_of_le E_b9.lt (Nat.le_of_eq gb11.symm))
        have ne_b11_b9 := Ne.symm ne_b9_b11
        have ne_y_b11 : y ≠ b11 := Nat.ne_of_lt (Nat.lt_of_lt_of_le E_y.lt (Nat.le_of_eq gb11.symm))
        have ne_b11_y := Ne.symm ne_y_b11
        have ne_u_b11 : u ≠ b11 := Nat.ne_of_lt (Nat.lt_of_lt_of_le A_y.lt (Nat.le_of_eq gb11.symm))
        have ne_b11_u := Ne.symm ne_u_b11
        have g_b11 : n0 ≤ b11 := Nat.le_trans Z0 (Nat.le_of_eq gb11.symm)
        replace V_b8 := V_b8.ext E
        replace E_b9 := E_b9.ext E
        replace E_y := E_y.ext E
        replace V_y := V_y.ext E
        replace C_y := C_y.ext E
        replace A_y := A_y.ext E
        replace Z0 := Nat.le_trans Z0 E.1
        replace OL := OL.ext E
        clear E
        replace V_b11 : Arv Z h20 b11 kb11 .char (Int32.ofNat (n + 2)) (List.replicate (n + 2) (.int 0)) (.int 0) := V_b11.pad (pad_rep [] (.int 0) (n + 2))
        show OwH p e below s _ _ _ _ _ _ T (mkF m 127 #[.val (.int p0), .val (.int p1), .val (.int p2), .val (.int p3), .val (.int p4), .val (.int p5), .val (.int (Int32.ofNat j)), .val (.int (Int32.ofNat n)), .val (.ref b8), .val (.ref b9), .val (.ref y), .unset] [(.ref b11)])
        replace V_b11 : Arv Z h20 b11 kb11 .char (Int32.ofNat (n + 2)) ((List.replicate (n + 2) (0 : Int32)).map Value.int) (.int 0) := by rw [List.map_replicate]; exact V_b11
        obtain ⟨xs7, e_xs7⟩ : ∃ z : List Int32, z = (List.replicate (n + 2) (0 : Int32)) := ⟨_, rfl⟩
        have h_xs7 : xs7.length = (n + 2) := by rw [e_xs7, List.length_replicate]
        rw [← e_xs7] at V_b11
        refine OwH.ac (mkF m 134 #[.val (.int p0), .val (.int p1), .val (.int p2), .val (.int p3), .val (.int p4), .val (.int p5), .val (.int (Int32.ofNat j)), .val (.int (Int32.ofNat n)), .val (.ref b8), .val (.ref b9), .val (.ref y), .val (.ref b11)] [(.int 34), (.int 0), (.ref b11)]) (fun tQ kQ => ?_) ?_
        · refine XS.astore P.here hx rfl (dc at_127) rfl rfl (l' := #[.val (.int p0), .val (.int p1), .val (.int p2), .val (.int p3), .val (.int p4), .val (.int p5), .val (.int (Int32.ofNat j)), .val (.int (Int32.ofNat n)), .val (.ref b8), .val (.ref b9), .val (.ref y), .val (.ref b11)]) rfl ?_
          refine XS.aload P.here hx rfl (dc at_129) rfl rfl ?_
          refine XS.iconst P.here hx rfl (dc at_131) ?_
          exact XS.bipush P.here hx rfl (dc at_132) kQ
        refine P.stC hx V_b11 (j := (0 : Int32)) (by decide) (own_lt (i := 0) (by omega) (by omega)) (i := 0) (by decide) (by rw [List.length_map, h_xs7]; omega) rfl rfl (dc at_134) g_b11 fun T h21 P W V' => ?_
        replace V_b8 := V_b8.other W ne_b8_b11
        replace E_b9 := E_b9.wr W
        replace E_y := E_y.wr W
        replace V_y := V_y.other W (Or.inl ne_y_b11)
        replace C_y := C_y.other W (Or.inl ne_y_b11)
        replace A_y := A_y.other W ne_u_b11
        replace Z0 := Nat.le_trans Z0 (Keep.of_wr W).1
        replace OL := OL.wr W g_b11
        replace V_b11 := V'
        clear W V'
        show OwH p e below s _ _ _ _ _ _ T (mkF m 135 #[.val (.int p0), .val (.int p1), .val (.int p2), .val (.int p3), .val (.int p4), .val (.int p5), .val (.int (Int32.ofNat j)), .val (.int (Int32.ofNat n)), .val (.ref b8), .val (.ref b9), .val (.ref y), .val (.ref b11)] [])
        replace V_b11 : Arv Z h21 b11 kb11 .char (Int32.ofNat (n + 2)) ((xs7.set 0 34).map Value.int) (.int 0) := by
          have q := V_b11
          rw [own_narc ((by unfold own_ok; decide) : own_ok _).1 ((by unfold own_ok; decide) : own_ok _).2] at q
          rw [List.map_set]; exact q
        obtain ⟨xs8, e_xs8⟩ : ∃ z : List Int32, z = (xs7.set 0 34) := ⟨_, rfl⟩
        have h_xs8 : xs8.length = (n + 2) := by rw [e_xs8, List.length_set]; exact h_xs7
        rw [← e_xs8] at V_b11
        refine OwH.ac (mkF m 140 #[.val (.int p0), .val (.int p1), .val (.int p2), .val (.int p3), .val (.int p4), .val (.int p5), .val (.int (Int32.ofNat j)), .val (.int (Int32.ofNat n)), .val (.ref b8), .val (.ref b9), .val (.ref y), .val (.ref b11)] [(.int 0), (.ref b11), (.ref b8)]) (fun tQ kQ => ?_) ?_
        · refine XS.aload P.here hx rfl (dc at_135) rfl rfl ?_
          refine XS.aload P.here hx rfl (dc at_137) rfl rfl ?_
          exact XS.iconst P.here hx rfl (dc at_139) kQ
        refine P.stat hx (own_w hw 139 rfl) (own_w hw 140 rfl) (own_w hw 141 rfl) (own_w hw 142 rfl) (by decide) (fun vm0 hZ => OwM.back (s := s.setVm vm0) (W := 0) (rmCy l Z a0 hw b8 b11 kb8 kb11 _ _ (own_n5 n q1 q2 q3 q4 q5) xs8 n (n + 2) 0 h21 n0 Z0 OL V_b8 V_b11 hlen h_xs8 (by omega) (by omega) (by omega) (fun _ _ => by omega) hpN g_b11 ne_b8_b11) hZ (own_w hw 142 rfl) (own_w hw 141 rfl) (own_le rfl) (own_le rfl)) (fun _ _ _ q => q.2) (ws := [b11]) (fun _ _ _ q => q.1.2.1) (allS (Or.inl (by simp)) all0) rfl (by rw [hml]; rfl) (argsL := [(.ref b8), (.ref b11), (.int 0)]) (rest := []) (lenOf pd___C_CI_V rfl) rfl (own_le rfl) (dc at_140) rfl (by first | omega | (dsimp only [room_1] <;> omega)) (by first | omega | (dsimp only [room_1] <;> omega)) fun T own_v own_L h22 own_e P own_q => ?_
        obtain ⟨⟨rfl, K, V_b11⟩, -⟩ := own_q
        clear own_e
        replace V_b8 := V_b8.keep K (ninS ne_b8_b11 nin0)
        replace E_b9 := E_b9.keep K
        replace E_y := E_y.keep K
        replace V_y := V_y.keep K (ninS ne_y_b11 nin0)
        replace C_y := C_y.keep K (ninS ne_y_b11 nin0)
        replace A_y := A_y.keep K (ninS ne_u_b11 nin0)
        replace Z0 := Nat.le_trans Z0 K.1
        replace OL := OL.keep K (allS g_b11 all0)
        show OwH p e below s _ _ _ _ _ _ T (mkF m 143 #[.val (.int p0), .val (.int p1), .val (.int p2), .val (.int p3), .val (.int p4), .val (.int p5), .val (.int (Int32.ofNat j)), .val (.int (Int32.ofNat n)), .val (.ref b8), .val (.ref b9), .val (.ref y), .val (.ref b11)] [])
        obtain ⟨xs9, e_xs9⟩ : ∃ z : List Int32, z = own_cy (own_n5 n q1 q2 q3 q4 q5) xs8 0 := ⟨_, rfl⟩
        have h_xs9 : xs9.length = (n + 2) := by rw [e_xs9, own_cyl]; exact h_xs8
        rw [← e_xs9] at V_b11
        refine OwH.ac (mkF m 151 #[.val (.int p0), .val (.int p1), .val (.int p2), .val (.int p3), .val (.int p4), .val (.int p5), .val (.int (Int32.ofNat j)), .val (.int (Int32.ofNat n)), .val (.ref b8), .val (.ref b9), .val (.ref y), .val (.ref b11)] [(.int ((Int32.ofNat n) - (1 : Int32))), (.ref b11), (.ref b8)]) (fun tQ kQ => ?_) ?_
        · refine XS.aload P.here hx rfl (dc at_143) rfl rfl ?_
          refine XS.aload P.here hx rfl (dc at_145) rfl rfl ?_
          refine XS.iload P.here hx rfl (dc at_147) rfl ?_
          refine XS.iconst P.here hx rfl (dc at_149) ?_
          exact XS.isub P.here hx rfl (dc at_150) rfl kQ
        rw [show ((Int32.ofNat n) - (1 : Int32)) = (Int32.ofNat (n - 1)) from own_sub1 (by omega) (by omega)]
        refine P.stat hx (own_w hw 139 rfl) (own_w hw 140 rfl) (own_w hw 141 rfl) (own_w hw 142 rfl) (by decide) (fun vm0 hZ => OwM.back (s := s.setVm vm0) (W := 0) (rmCy l Z a0 hw b8 b11 kb8 kb11 _ _ (own_n5 n q1 q2 q3 q4 q5) xs9 n (n + 2) (n - 1) h22 n0 Z0 OL V_b8 V_b11 hlen h_xs9 (by omega) (by omega) (by omega) (fun _ _ => by omega) hpN g_b11 ne_b8_b11) hZ (own_w hw 142 rfl) (own_w hw 141 rfl) (own_le rfl) (own_le rfl)) (fun _ _ _ q => q.2) (ws := [b11]) (fun _ _ _ q => q.1.2.1) (allS (Or.inl (by simp)) all0) rfl (by rw [hml]; rfl) (argsL := [(.ref b8), (.ref b11), (.int (Int32.ofNat (n - 1)))]) (rest := []) (lenOf pd___C_CI_V rfl) rfl (own_le rfl) (dc at_151) rfl (by first | omega | (dsimp only [room_1] <;> omega)) (by first | omega | (dsimp only [room_1] <;> omega)) fun T own_v own_L h23 own_e P own_q => ?_
        obtain ⟨⟨rfl, K, V_b11⟩, -⟩ := own_q
        clear own_e
        replace V_b8 := V_b8.keep K (ninS ne_b8_b11 nin0)
        replace E_b9 := E_b9.keep K
        replace E_y := E_y.keep K
        replace V_y := V_y.keep K (ninS ne_y_b11 nin0)
        replace C_y := C_y.keep K (ninS ne_y_b11 nin0)
        replace A_y := A_y.keep K (ninS ne_u_b11 nin0)
        replace Z0 := Nat.le_trans Z0 K.1
        replace OL := OL.keep K (allS g_b11 all0)
        show OwH p e below s _ _ _ _ _ _ T (mkF m 154 #[.val (.int p0), .val (.int p1), .val (.int p2), .val (.int p3), .val (.int p4), .val (.int p5), .val (.int (Int32.ofNat j)), .val (.int (Int32.ofNat n)), .val (.ref b8), .val (.ref b9), .val (.ref y), .val (.ref b11)] [])
        obtain ⟨xs10, e_xs10⟩ : ∃ z : List Int32, z = own_cy (own_n5 n q1 q2 q3 q4 q5) xs9 (n - 1) := ⟨_, rfl⟩
        have h_xs10 : xs10.length = (n + 2) := by rw [e_xs10, own_cyl]; exact h_xs9
        rw [← e_xs10] at V_b11
        refine OwH.ac (mkF m 160 #[.val (.int p0), .val (.int p1), .val (.int p2), .val (.int p3), .val (.int p4), .val (.int p5), .val (.int (Int32.ofNat j)), .val (.int (Int32.ofNat n)), .val (.ref b8), .val (.ref b9), .val (.ref y), .val (.ref b11)] [(.int 30), (.ref b11), (.ref b8)]) (fun tQ kQ => ?_) ?_
        · refine XS.aload P.here hx rfl (dc at_154) rfl rfl ?_
          refine XS.aload P.here hx rfl (dc at_156) rfl rfl ?_
          exact XS.bipush P.here hx rfl (dc at_158) kQ
        refine P.stat hx (own_w hw 139 rfl) (own_w hw 140 rfl) (own_w hw 141 rfl) (own_w hw 142 rfl) (by decide) (fun vm0 hZ => OwM.back (s := s.setVm vm0) (W := 0) (rmCy l Z a0 hw b8 b11 kb8 kb11 _ _ (own_n5 n q1 q2 q3 q4 q5) xs10 n (n + 2) 30 h23 n0 Z0 OL V_b8 V_b11 hlen h_xs10 (by omega) (by omega) (by omega) (fun _ _ => by omega) hpN g_b11 ne_b8_b11) hZ (own_w hw 142 rfl) (own_w hw 141 rfl) (own_le rfl) (own_le rfl)) (fun _ _ _ q => q.2) (ws := [b11]) (fun _ _ _ q => q.1.2.1) (allS (Or.inl (by simp)) all0) rfl (by rw [hml]; rfl) (argsL := [(.ref b8), (.ref b11), (.int 30)]) (rest := []) (lenOf pd___C_CI_V rfl) rfl (own_le rfl) (dc at_160) rfl (by first | omega | (dsimp only [room_1] <;> omega)) (by first | omega | (dsimp only [room_1] <;> omega)) fun T own_v own_L h24 own_e P own_q => ?_
        obtain ⟨⟨rfl, K, V_b11⟩, -⟩ := own_q
        clear own_e
        replace V_b8 := V_b8.keep K (ninS ne_b8_b11 nin0)
        replace E_b9 := E_b9.keep K
        replace E_y := E_y.keep K
        replace V_y := V_y.keep K (ninS ne_y_b11 nin0)
        replace C_y := C_y.keep K (ninS ne_y_b11 nin0)
        replace A_y := A_y.keep K (ninS ne_u_b11 nin0)
        replace Z0 := Nat.le_trans Z0 K.1
        replace OL := OL.keep K (allS g_b11 all0)
        show OwH p e below s _ _ _ _ _ _ T (mkF m 163 #[.val (.int p0), .val (.int p1), .val (.int p2), .val (.int p3), .val (.int p4), .val (.int p5), .val (.int (Int32.ofNat j)), .val (.int (Int32.ofNat n)), .val (.ref b8), .val (.ref b9), .val (.ref y), .val (.ref b11)] [])
        obtain ⟨xs11, e_xs11⟩ : ∃ z : List Int32, z = own_cy (own_n5 n q1 q2 q3 q4 q5) xs10 30 := ⟨_, rfl⟩
        have h_xs11 : xs11.length = (n + 2) := by rw [e_xs11, own_cyl]; exact h_xs10
        rw [← e_xs11] at V_b11
        refine OwH.ac (mkF m 169 #[.val (.int p0), .val (.int p1), .val (.int p2), .val (.int p3), .val (.int p4), .val (.int p5), .val (.int (Int32.ofNat j)), .val (.int (Int32.ofNat n)), .val (.ref b8), .val (.ref b9), .val (.ref y), .val (.ref b11)] [(.int 63), (.ref b11), (.ref b8)]) (fun tQ kQ => ?_) ?_
        · refine XS.aload P.here hx rfl (dc at_163) rfl rfl ?_
          refine XS.aload P.here hx rfl (dc at_165) rfl rfl ?_
          exact XS.bipush P.here hx rfl (dc at_167) kQ
        refine P.stat hx (own_w hw 139 rfl) (own_w hw 140 rfl) (own_w hw 141 rfl) (own_w hw 142 rfl) (by decide) (fun vm0 hZ => OwM.back (s := s.setVm vm0) (W := 0) (rmCy l Z a0 hw b8 b11 kb8 kb11 _ _ (own_n5 n q1 q2 q3 q4 q5) xs11 n (n + 2) 63 h24 n0 Z0 OL V_b8 V_b11 hlen h_xs11 (by omega) (by omega) (by omega) (fun _ _ => by omega) hpN g_b11 ne_b8_b11) hZ (own_w hw 142 rfl) (own_w hw 141 rfl) (own_le rfl) (own_le rfl)) (fun _ _ _ q => q.2) (ws := [b11]) (fun _ _ _ q => q.1.2.1) (allS (Or.inl (by simp)) all0) rfl (by rw [hml]; rfl) (argsL := [(.ref b8), (.ref b11), (.int 63)]) (rest := []) (lenOf pd___C_CI_V rfl) rfl (own_le rfl) (dc at_169) rfl (by first | omega | (dsimp only [room_1] <;> omega)) (by first | omega | (dsimp only [room_1] <;> omega)) fun T own_v own_L h25 own_e P own_q => ?_
        obtain ⟨⟨rfl, K, V_b11⟩, -⟩ := own_q
        clear own_e
        replace V_b8 := V_b8.keep K (ninS ne_b8_b11 nin0)
        replace E_b9 := E_b9.keep K
        replace E_y := E_y.keep K
        replace V_y := V_y.keep K (ninS ne_y_b11 nin0)
        replace C_y := C_y.keep K (ninS ne_y_b11 nin0)
        replace A_y := A_y.keep K (ninS ne_u_b11 nin0)
        replace Z0 := Nat.le_trans Z0 K.1
        replace OL := OL.keep K (allS g_b11 all0)
        show OwH p e below s _ _ _ _ _ _ T (mkF m 172 #[.val (.int p0), .val (.int p1), .val (.int p2), .val (.int p3), .val (.int p4), .val (.int p5), .val (.int (Int32.ofNat j)), .val (.int (Int32.ofNat n)), .val (.ref b8), .val (.ref b9), .val (.ref y), .val (.ref b11)] [])
        obtain ⟨xs12, e_xs12⟩ : ∃ z : List Int32, z = own_cy (own_n5 n q1 q2 q3 q4 q5) xs11 63 := ⟨_, rfl⟩
        have h_xs12 : xs12.length = (n + 2) := by rw [e_xs12, own_cyl]; exact h_xs11
        rw [← e_xs12] at V_b11
        refine OwH.ac (mkF m 180 #[.val (.int p0), .val (.int p1), .val (.int p2), .val (.int p3), .val (.int p4), .val (.int p5), .val (.int (Int32.ofNat j)), .val (.int (Int32.ofNat n)), .val (.ref b8), .val (.ref b9), .val (.ref y), .val (.ref b11)] [(.int 34), (.int ((Int32.ofNat n) + (1 : Int32))), (.ref b11)]) (fun tQ kQ => ?_) ?_
        · refine XS.aload P.here hx rfl (dc at_172) rfl rfl ?_
          refine XS.iload P.here hx rfl (dc at_174) rfl ?_
          refine XS.iconst P.here hx rfl (dc at_176) ?_
          refine XS.iadd P.here hx rfl (dc at_177) rfl ?_
          exact XS.bipush P.here hx rfl (dc at_178) kQ
        rw [show ((Int32.ofNat n) + (1 : Int32)) = (Int32.ofNat (n + 1)) from own_succ n]
        refine P.stC hx V_b11 (j := (Int32.ofNat (n + 1))) (own_nn (by omega)) (own_lt (by omega) (by omega)) (i := (n + 1)) (own_tc (by omega)) (by rw [List.length_map, h_xs12]; omega) rfl rfl (dc at_180) g_b11 fun T h26 P W V' => ?_
        replace V_b8 := V_b8.other W ne_b8_b11
        replace E_b9 := E_b9.wr W
        replace E_y := E_y.wr W
        replace V_y := V_y.other W (Or.inl ne_y_b11)
        replace C_y := C_y.other W (Or.inl ne_y_b11)
        replace A_y := A_y.other W ne_u_b11
        replace Z0 := Nat.le_trans Z0 (Keep.of_wr W).1
        replace OL := OL.wr W g_b11
        replace V_b11 := V'
        clear W V'
        show OwH p e below s _ _ _ _ _ _ T (mkF m 181 #[.val (.int p0), .val (.int p1), .val (.int p2), .val (.int p3), .val (.int p4), .val (.int p5), .val (.int (Int32.ofNat j)), .val (.int (Int32.ofNat n)), .val (.ref b8), .val (.ref b9), .val (.ref y), .val (.ref b11)] [])
        replace V_b11 : Arv Z h26 b11 kb11 .char (Int32.ofNat (n + 2)) ((xs12.set (n + 1) 34).map Value.int) (.int 0) := by
          have q := V_b11
          rw [own_narc ((by unfold own_ok; decide) : own_ok _).1 ((by unfold own_ok; decide) : own_ok _).2] at q
          rw [List.map_set]; exact q
        obtain ⟨xs13, e_xs13⟩ : ∃ z : List Int32, z = (xs12.set (n + 1) 34) := ⟨_, rfl⟩
        have h_xs13 : xs13.length = (n + 2) := by rw [e_xs13, List.length_set]; exact h_xs12
        rw [← e_xs13] at V_b11
        have own_x : xs13 = ((([] ++ ([34] : List Int32)) ++ (own_n5 n q1 q2 q3 q4 q5)) ++ ([34] : List Int32)) := by rw [e_xs13, e_xs12, e_xs11, e_xs10, e_xs9, e_xs8, e_xs7]; exact own_xs h0n (by omega)
        refine OwH.ac (mkF m 382 #[.val (.int p0), .val (.int p1), .val (.int p2), .val (.int p3), .val (.int p4), .val (.int p5), .val (.int (Int32.ofNat j)), .val (.int (Int32.ofNat n)), .val (.ref b8), .val (.ref b9), .val (.ref y), .val (.ref b11)] [(.ref y)]) (fun tQ kQ => ?_) ?_
        · refine XS.goto P.here hx rfl (pc0 := 181) (pc' := 380) rfl (dc at_181) (by decide) (by decide) ?_
          exact XS.aload P.here hx rfl (dc at_380) rfl rfl kQ
        refine P.newO hx (own_w hw 1 rfl) (own_w hw 2 rfl) (own_w hw 3 rfl) rfl (dc at_382) (by first | omega | (dsimp only [room_1] <;> omega)) (by first | omega | (dsimp only [room_1] <;> omega)) fun T h27 b12 gb12 P E A D => ?_
        have ne_b8_b12 : b8 ≠ b12 := Nat.ne_of_lt (Nat.lt_of_lt_of_le V_b8.lt (Nat.le_of_eq gb12.symm))
        have ne_b12_b8 := Ne.symm ne_b8_b12
        have ne_b9_b12 : b9 ≠ b12 := Nat.ne_of_lt (Nat.lt_of_lt_of_le E_b9.lt (Nat.le_of_eq gb12.symm))
        have ne_b12_b9 := Ne.symm ne_b9_b12
        have ne_y_b12 : y ≠ b12 := Nat.ne_of_lt (Nat.lt_of_lt_of_le E_y.lt (Nat.le_of_eq gb12.symm))
        have ne_b12_y := Ne.symm ne_y_b12
        have ne_u_b12 : u ≠ b12 := Nat.ne_of_lt (Nat.lt_of_lt_of_le A_y.lt (Nat.le_of_eq gb12.symm))
        have ne_b12_u := Ne.symm ne_u_b12
        have ne_b11_b12 : b11 ≠ b12 := Nat.ne_of_lt (Nat.lt_of_lt_of_le V_b11.lt (Nat.le_of_eq gb12.symm))
        have ne_b12_b11 := Ne.symm ne_b11_b12
        have g_b12 : n0 ≤ b12 := Nat.le_trans Z0 (Nat.le_of_eq gb12.symm)
        replace V_b8 := V_b8.ext E
        replace E_b9 := E_b9.ext E
        replace E_y := E_y.ext E
        replace V_y := V_y.ext E
        replace C_y := C_y.ext E
        replace A_y := A_y.ext E
        replace V_b11 := V_b11.ext E
        replace Z0 := Nat.le_trans Z0 E.1
        replace OL := OL.ext E
        have E_b12 := A
        have F_value_b12 : Fld Z h27 b12 "java/lang/String" "value" "[B" .null := D (Or.inr (own_w hw 16 rfl)) (ty := (.array .byte)) (by decide)
        have F_coder_b12 : Fld Z h27 b12 "java/lang/String" "coder" "B" (.int 0) := D (Or.inr (own_w hw 17 rfl)) (ty := .byte) (by decide)
        clear A D E
        show OwH p e below s _ _ _ _ _ _ T (mkF m 385 #[.val (.int p0), .val (.int p1), .val (.int p2), .val (.int p3), .val (.int p4), .val (.int p5), .val (.int (Int32.ofNat j)), .val (.int (Int32.ofNat n)), .val (.ref b8), .val (.ref b9), .val (.ref y), .val (.ref b11)] [(.ref b12), (.ref y)])
        refine OwH.ac (mkF m 388 #[.val (.int p0), .val (.int p1), .val (.int p2), .val (.int p3), .val (.int p4), .val (.int p5), .val (.int (Int32.ofNat j)), .val (.int (Int32.ofNat n)), .val (.ref b8), .val (.ref b9), .val (.ref y), .val (.ref b11)] [(.ref b11), (.ref b12), (.ref b12), (.ref y)]) (fun tQ kQ => ?_) ?_
        · refine XS.dup P.here hx rfl (dc at_385) rfl rfl ?_
          exact XS.aload P.here hx rfl (dc at_386) rfl rfl kQ
        have hpX : ∀ c ∈ xs13, ¬ c < 0 ∧ ¬ (65535 : Int32) < c := by rw [own_x]; exact (own_ab (own_ab (own_ab own_a0 (by decide)) hpN) (by decide))
        refine P.special hx rfl (own_w hw 4 rfl) (own_w hw 5 rfl) (own_w hw 6 rfl) (by decide) (fun vm0 hZ => OwM.back (s := s.setVm vm0) (W := 2) (rmN1 l Z a0 hw b12 b11 kb11 _ (n + 2) xs13 zC h27 n0 Z0 SA SH SL S2 hzC OL V_b11 h_xs13 (by omega) (by omega) hpX g_b12 E_b12 F_coder_b12 F_value_b12 ne_b12_b11) hZ (own_w hw 6 rfl) (own_w hw 3 rfl) (own_le rfl) (own_le rfl)) (fun _ _ _ q => q.2) (ws := [b12]) (fun _ _ _ q => q.1.2.1) (allS (Or.inl (by simp)) all0) rfl (by rw [hml]; rfl) (a := b12) (argsL := [(.ref b11)]) (rest := [(.ref b12), (.ref y)]) (lenOf pd___C_V rfl) rfl (own_le rfl) (dc at_388) rfl (by first | omega | (dsimp only [room_1] <;> omega)) (by first | omega | (dsimp only [room_1] <;> omega)) fun T own_v own_L h28 own_e P own_q => ?_
        obtain ⟨⟨rfl, K, t12, kt12, cd12, N12, ws12, -, V_12, C_12, A_12, hc12⟩, -⟩ := own_q
        clear own_e
        replace V_b8 := V_b8.keep K (ninS ne_b8_b12 nin0)
        replace E_b9 := E_b9.keep K
        replace E_y := E_y.keep K
        replace V_y := V_y.keep K (ninS ne_y_b12 nin0)
        replace C_y := C_y.keep K (ninS ne_y_b12 nin0)
        replace A_y := A_y.keep K (ninS ne_u_b12 nin0)
        replace V_b11 := V_b11.keep K (ninS ne_b11_b12 nin0)
        replace E_b12 := E_b12.keep K
        replace Z0 := Nat.le_trans Z0 K.1
        replace OL := OL.keep K (allS g_b12 all0)
        show OwH p e below s _ _ _ _ _ _ T (mkF m 391 #[.val (.int p0), .val (.int p1), .val (.int p2), .val (.int p3), .val (.int p4), .val (.int p5), .val (.int (Int32.ofNat j)), .val (.int (Int32.ofNat n)), .val (.ref b8), .val (.ref b9), .val (.ref y), .val (.ref b11)] [(.ref b12), (.ref y)])
        refine P.virtual hx (own_w hw 153 rfl) (own_w hw 154 rfl) (fun vm0 hZ => notFace_of_selects (args := #[]) (mvT (s := s.setVm vm0) hZ (own_w hw 156 rfl))) (own_w hw 156 rfl) (own_w hw 155 rfl) (by decide) (fun vm0 hZ => own_eqB (s := s.setVm vm0) (W := 0) (n0 := n0) hZ hw E_y V_y C_y A_y hcy (own_ab (own_ab (own_ab own_a0 (by decide)) hpN) (by decide)) (by rw [← own_x, h_xs13]; omega) E_b12 V_12 C_12 A_12 hc12 hpX (by rw [h_xs13]; omega) (S2.ext OL.2) hzC (own_le rfl) (own_le rfl)) (fun _ _ _ q => q.2.2) (ws := []) (fun _ _ _ q => by rw [q.2.1]; exact Keep.refl _ _) all0 E_y rfl (by rw [hml]; rfl) (argsL := [(.ref b12)]) (rest := []) (lenOf pd__Ljava_lang_Object__Z rfl) rfl (own_le rfl) (dc at_391) rfl (by first | omega | (dsimp only [room_1] <;> omega)) (by first | omega | (dsimp only [room_1] <;> omega)) fun T own_v own_L h29 own_e P own_q => ?_
        obtain ⟨⟨i17, rfl, h17⟩, own_hh, -⟩ := own_q
        rw [own_hh] at P
        clear own_e own_hh
        show OwH p e below s _ _ _ _ _ _ T (mkF m 394 #[.val (.int p0), .val (.int p1), .val (.int p2), .val (.int p3), .val (.int p4), .val (.int p5), .val (.int (Int32.ofNat j)), .val (.int (Int32.ofNat n)), .val (.ref b8), .val (.ref b9), .val (.ref y), .val (.ref b11)] [(.int i17)])
        obtain rfl : i17 = 1 := h17.elim (fun q => q.1) (fun q => absurd own_x.symm q.2)
        show OwH p e below s _ _ _ _ _ _ T (mkF m 394 #[.val (.int p0), .val (.int p1), .val (.int p2), .val (.int p3), .val (.int p4), .val (.int p5), .val (.int (Int32.ofNat j)), .val (.int (Int32.ofNat n)), .val (.ref b8), .val (.ref b9), .val (.ref y), .val (.ref b11)] [(.int 1)])
        exact P.retN hEL hx hlk (t := .boolean) hret (by simp) (dc at_394) (by first | omega | (dsimp only [room_1] <;> omega)) (by first | omega | (dsimp only [room_1] <;> omega)) rfl
       ·skip
        refine P.statS hx (own_w hw 22 rfl) (own_w hw 23 rfl) (own_w hw 24 rfl) (own_w hw 25 rfl) (by decide) (fun vm0 hZ hCv hsf => OwS.back (s := s.setVm vm0) (W := 0) (rmQl l Z a0 hw b9 t9 kt9 cx N2 ws (own_n5 n q1 q2 q3 q4 q5) n zC fm d1 d2 k1 k2 h18 n0 Z0 SA SH SL SF rf S2 hzC OL E_b9 V_x C_x A_x hc hlen hpN SD1 VD1 SD2 VD2 (by omega)) hZ (own_w hw 25 rfl) (own_w hw 24 rfl) (own_le rfl) (own_le rfl) hEL hCv hsf) (sf' := []) (fun _ _ _ q => q.2) all0 rfl (by rw [hml]; rfl) (argsL := [(.ref b9)]) (rest := []) (lenOf pd__Ljava_lang_String__Ljava_lang_String_ rfl) rfl (own_le rfl) (dc at_109) rfl (by first | omega | (dsimp only [room_1] <;> omega)) (by first | omega | (dsimp only [room_1] <;> omega)) fun T own_v own_L h30 own_e P own_q => ?_
        obtain ⟨⟨K, y, u, ku, cy, N2y, wsy, rfl, E_y, V_y, C_y, A_y, hcy⟩, -⟩ := own_q
        clear own_e
        replace V_b8 := V_b8.keep K nin0
        replace E_b9 := E_b9.keep K
        replace Z0 := Nat.le_trans Z0 K.1
        replace OL := OL.keep K all0
        show OwH p e below s _ _ _ _ _ _ T (mkF m 112 #[.val (.int p0), .val (.int p1), .val (.int p2), .val (.int p3), .val (.int p4), .val (.int p5), .val (.int (Int32.ofNat j)), .val (.int (Int32.ofNat n)), .val (.ref b8), .val (.ref b9), .unset, .unset] [(.ref y)])
        refine OwH.ac (mkF m 184 #[.val (.int p0), .val (.int p1), .val (.int p2), .val (.int p3), .val (.int p4), .val (.int p5), .val (.int (Int32.ofNat j)), .val (.int (Int32.ofNat n)), .val (.ref b8), .val (.ref b9), .val (.ref y), .unset] []) (fun tQ kQ => ?_) ?_
        · refine XS.astore P.here hx rfl (dc at_112) rfl rfl (l' := #[.val (.int p0), .val (.int p1), .val (.int p2), .val (.int p3), .val (.int p4), .val (.int p5), .val (.int (Int32.ofNat j)), .val (.int (Int32.ofNat n)), .val (.ref b8), .val (.ref b9), .val (.ref y), .unset]) rfl ?_
          refine XS.iload P.here hx rfl (dc at_114) rfl ?_
          refine XS.bipush P.here hx rfl (dc at_116) ?_
          exact XS.icmpYes P.here hx rfl (pc0 := 118) (pc' := 184) rfl (dc at_118) rfl (tlt (own_lt (i := 64) (by omega) (by omega))).2.2.1 (by decide) (by decide) kQ
        have own_l1 : 65 ≤ n := by omega
        have own_l2 : n ≤ 67 := by omega
        have own_z := own_hz own_l1 own_l2
        have own_xq := own_xl (a := q1) (b := q2) (c := q3) (d := q4) (e := q5) own_l1 own_l2
        unfold own_xL at own_xq
        refine OwH.ac (mkF m 186 #[.val (.int p0), .val (.int p1), .val (.int p2), .val (.int p3), .val (.int p4), .val (.int p5), .val (.int (Int32.ofNat j)), .val (.int (Int32.ofNat n)), .val (.ref b8), .val (.ref b9), .val (.ref y), .unset] [(.int 85)]) (fun tQ kQ => ?_) ?_
        · exact XS.bipush P.here hx rfl (dc at_184) kQ
        rw [show (85 : Int32) = (Int32.ofNat 85) from rfl]
        refine P.newP hx (own_w hw 0 rfl) rfl (dc at_186) rfl (own_nn (by omega)) (cap := 85) (by rw [own_tc (by omega)]; omega) (by decide) (by first | omega | (dsimp only [room_1] <;> omega)) (by first | omega | (dsimp only [room_1] <;> omega)) fun T h31 b11 kb11 gb11 P E V_b11 => ?_
        have ne_b8_b11 : b8 ≠ b11 := Nat.ne_of_lt (Nat.lt_of_lt_of_le V_b8.lt (Nat.le_of_eq gb11.symm))
        have ne_b11_b8 := Ne.symm ne_b8_b11
        have ne_b9_b11 : b9 ≠ b11 := Nat.ne_of_lt (Nat.lt_of_lt_of_le E_b9.lt (Nat.le_of_eq gb11.symm))
        have ne_b11_b9 := Ne.symm ne_b9_b11
        have ne_y_b11 : y ≠ b11 := Nat.ne_of_lt (Nat.lt_of_lt_of_le E_y.lt (Nat.le_of_eq gb11.symm))
        have ne_b11_y := Ne.symm ne_y_b11
        have ne_u_b11 : u ≠ b11 := Nat.ne_of_lt (Nat.lt_of_lt_of_le A_y.lt (Nat.le_of_eq gb11.symm))
        have ne_b11_u := Ne.symm ne_u_b11
        have g_b11 : n0 ≤ b11 := Nat.le_trans Z0 (Nat.le_of_eq gb11.symm)
        replace V_b8 := V_b8.ext E
        replace E_b9 := E_b9.ext E
        replace E_y := E_y.ext E
        replace V_y := V_y.ext E
        replace C_y := C_y.ext E
        replace A_y := A_y.ext E
        replace Z0 := Nat.le_trans Z0 E.1
        replace OL := OL.ext E
        clear E
        replace V_b11 : Arv Z h31 b11 kb11 .char (Int32.ofNat 85) (List.replicate 85 (.int 0)) (.int 0) := V_b11.pad (pad_rep [] (.int 0) 85)
        show OwH p e below s _ _ _ _ _ _ T (mkF m 188 #[.val (.int p0), .val (.int p1), .val (.int p2), .val (.int p3), .val (.int p4), .val (.int p5), .val (.int (Int32.ofNat j)), .val (.int (Int32.ofNat n)), .val (.ref b8), .val (.ref b9), .val (.ref y), .unset] [(.ref b11)])
        replace V_b11 : Arv Z h31 b11 kb11 .char (Int32.ofNat 85) ((List.replicate 85 (0 : Int32)).map Value.int) (.int 0) := by rw [List.map_replicate]; exact V_b11
        obtain ⟨xs14, e_xs14⟩ : ∃ z : List Int32, z = (List.replicate 85 (0 : Int32)) := ⟨_, rfl⟩
        have h_xs14 : xs14.length = 85 := by rw [e_xs14, List.length_replicate]
        rw [← e_xs14] at V_b11
        refine OwH.ac (mkF m 195 #[.val (.int p0), .val (.int p1), .val (.int p2), .val (.int p3), .val (.int p4), .val (.int p5), .val (.int (Int32.ofNat j)), .val (.int (Int32.ofNat n)), .val (.ref b8), .val (.ref b9), .val (.ref y), .val (.ref b11)] [(.int 34), (.int 0), (.ref b11)]) (fun tQ kQ => ?_) ?_
        · refine XS.astore P.here hx rfl (dc at_188) rfl rfl (l' := #[.val (.int p0), .val (.int p1), .val (.int p2), .val (.int p3), .val (.int p4), .val (.int p5), .val (.int (Int32.ofNat j)), .val (.int (Int32.ofNat n)), .val (.ref b8), .val (.ref b9), .val (.ref y), .val (.ref b11)]) rfl ?_
          refine XS.aload P.here hx rfl (dc at_190) rfl rfl ?_
          refine XS.iconst P.here hx rfl (dc at_192) ?_
          exact XS.bipush P.here hx rfl (dc at_193) kQ
        refine P.stC hx V_b11 (j := (0 : Int32)) (by decide) (own_lt (i := 0) (by omega) (by omega)) (i := 0) (by decide) (by rw [List.length_map, h_xs14]; omega) rfl rfl (dc at_195) g_b11 fun T h32 P W V' => ?_
        replace V_b8 := V_b8.other W ne_b8_b11
        replace E_b9 := E_b9.wr W
        replace E_y := E_y.wr W
        replace V_y := V_y.other W (Or.inl ne_y_b11)
        replace C_y := C_y.other W (Or.inl ne_y_b11)
        replace A_y := A_y.other W ne_u_b11
        replace Z0 := Nat.le_trans Z0 (Keep.of_wr W).1
        replace OL := OL.wr W g_b11
        replace V_b11 := V'
        clear W V'
        show OwH p e below s _ _ _ _ _ _ T (mkF m 196 #[.val (.int p0), .val (.int p1), .val (.int p2), .val (.int p3), .val (.int p4), .val (.int p5), .val (.int (Int32.ofNat j)), .val (.int (Int32.ofNat n)), .val (.ref b8), .val (.ref b9), .val (.ref y), .val (.ref b11)] [])
        replace V_b11 : Arv Z h32 b11 kb11 .char (Int32.ofNat 85) ((xs14.set 0 34).map Value.int) (.int 0) := by
          have q := V_b11
          rw [own_narc ((by unfold own_ok; decide) : own_ok _).1 ((by unfold own_ok; decide) : own_ok _).2] at q
          rw [List.map_set]; exact q
        obtain ⟨xs15, e_xs15⟩ : ∃ z : List Int32, z = (xs14.set 0 34) := ⟨_, rfl⟩
        have h_xs15 : xs15.length = 85 := by rw [e_xs15, List.length_set]; exact h_xs14
        rw [← e_xs15] at V_b11
        refine OwH.ac (mkF m 201 #[.val (.int p0), .val (.int p1), .val (.int p2), .val (.int p3), .val (.int p4), .val (.int p5), .val (.int (Int32.ofNat j)), .val (.int (Int32.ofNat n)), .val (.ref b8), .val (.ref b9), .val (.ref y), .val (.ref b11)] [(.int 0), (.ref b11), (.ref b8)]) (fun tQ kQ => ?_) ?_
        · refine XS.aload P.here hx rfl (dc at_196) rfl rfl ?_
          refine XS.aload P.here hx rfl (dc at_198) rfl rfl ?_
          exact XS.iconst P.here hx rfl (dc at_200) kQ
        refine P.stat hx (own_w hw 139 rfl) (own_w hw 140 rfl) (own_w hw 141 rfl) (own_w hw 142 rfl) (by decide) (fun vm0 hZ => OwM.back (s := s.setVm vm0) (W := 0) (rmCy l Z a0 hw b8 b11 kb8 kb11 _ _ (own_n5 n q1 q2 q3 q4 q5) xs15 n 85 0 h32 n0 Z0 OL V_b8 V_b11 hlen h_xs15 (by omega) (by omega) (by omega) (fun _ _ => by omega) hpN g_b11 ne_b8_b11) hZ (own_w hw 142 rfl) (own_w hw 141 rfl) (own_le rfl) (own_le rfl)) (fun _ _ _ q => q.2) (ws := [b11]) (fun _ _ _ q => q.1.2.1) (allS (Or.inl (by simp)) all0) rfl (by rw [hml]; rfl) (argsL := [(.ref b8), (.ref b11), (.int 0)]) (rest := []) (lenOf pd___C_CI_V rfl) rfl (own_le rfl) (dc at_201) rfl (by first | omega | (dsimp only [room_1] <;> omega)) (by first | omega | (dsimp only [room_1] <;> omega)) fun T own_v own_L h33 own_e P own_q => ?_
        obtain ⟨⟨rfl, K, V_b11⟩, -⟩ := own_q
        clear own_e
        replace V_b8 := V_b8.keep K (ninS ne_b8_b11 nin0)
        replace E_b9 := E_b9.keep K
        replace E_y := E_y.keep K
        replace V_y := V_y.keep K (ninS ne_y_b11 nin0)
        replace C_y := C_y.keep K (ninS ne_y_b11 nin0)
        replace A_y := A_y.keep K (ninS ne_u_b11 nin0)
        replace Z0 := Nat.le_trans Z0 K.1
        replace OL := OL.keep K (allS g_b11 all0)
        show OwH p e below s _ _ _ _ _ _ T (mkF m 204 #[.val (.int p0), .val (.int p1), .val (.int p2), .val (.int p3), .val (.int p4), .val (.int p5), .val (.int (Int32.ofNat j)), .val (.int (Int32.ofNat n)), .val (.ref b8), .val (.ref b9), .val (.ref y), .val (.ref b11)] [])
        obtain ⟨xs16, e_xs16⟩ : ∃ z : List Int32, z = own_cy (own_n5 n q1 q2 q3 q4 q5) xs15 0 := ⟨_, rfl⟩
        have h_xs16 : xs16.length = 85 := by rw [e_xs16, own_cyl]; exact h_xs15
        rw [← e_xs16] at V_b11
        refine OwH.ac (mkF m 212 #[.val (.int p0), .val (.int p1), .val (.int p2), .val (.int p3), .val (.int p4), .val (.int p5), .val (.int (Int32.ofNat j)), .val (.int (Int32.ofNat n)), .val (.ref b8), .val (.ref b9), .val (.ref y), .val (.ref b11)] [(.int ((Int32.ofNat n) - (1 : Int32))), (.ref b11), (.ref b8)]) (fun tQ kQ => ?_) ?_
        · refine XS.aload P.here hx rfl (dc at_204) rfl rfl ?_
          refine XS.aload P.here hx rfl (dc at_206) rfl rfl ?_
          refine XS.iload P.here hx rfl (dc at_208) rfl ?_
          refine XS.iconst P.here hx rfl (dc at_210) ?_
          exact XS.isub P.here hx rfl (dc at_211) rfl kQ
        rw [show ((Int32.ofNat n) - (1 : Int32)) = (Int32.ofNat (n - 1)) from own_sub1 (by omega) (by omega)]
        refine P.stat hx (own_w hw 139 rfl) (own_w hw 140 rfl) (own_w hw 141 rfl) (own_w hw 142 rfl) (by decide) (fun vm0 hZ => OwM.back (s := s.setVm vm0) (W := 0) (rmCy l Z a0 hw b8 b11 kb8 kb11 _ _ (own_n5 n q1 q2 q3 q4 q5) xs16 n 85 (n - 1) h33 n0 Z0 OL V_b8 V_b11 hlen h_xs16 (by omega) (by omega) (by omega) (fun _ _ => by omega) hpN g_b11 ne_b8_b11) hZ (own_w hw 142 rfl) (own_w hw 141 rfl) (own_le rfl) (own_le rfl)) (fun _ _ _ q => q.2) (ws := [b11]) (fun _ _ _ q => q.1.2.1) (allS (Or.inl (by simp)) all0) rfl (by rw [hml]; rfl) (argsL := [(.ref b8), (.ref b11), (.int (Int32.ofNat (n - 1)))]) (rest := []) (lenOf pd___C_CI_V rfl) rfl (own_le rfl) (dc at_212) rfl (by first | omega | (dsimp only [room_1] <;> omega)) (by first | omega | (dsimp only [room_1] <;> omega)) fun T own_v own_L h34 own_e P own_q => ?_
        obtain ⟨⟨rfl, K, V_b11⟩, -⟩ := own_q
        clear own_e
        replace V_b8 := V_b8.keep K (ninS ne_b8_b11 nin0)
        replace E_b9 := E_b9.keep K
        replace E_y := E_y.keep K
        replace V_y := V_y.keep K (ninS ne_y_b11 nin0)
        replace C_y := C_y.keep K (ninS ne_y_b11 nin0)
        replace A_y := A_y.keep K (ninS ne_u_b11 nin0)
        replace Z0 := Nat.le_trans Z0 K.1
        replace OL := OL.keep K (allS g_b11 all0)
        show OwH p e below s _ _ _ _ _ _ T (mkF m 215 #[.val (.int p0), .val (.int p1), .val (.int p2), .val (.int p3), .val (.int p4), .val (.int p5), .val (.int (Int32.ofNat j)), .val (.int (Int32.ofNat n)), .val (.ref b8), .val (.ref b9), .val (.ref y), .val (.ref b11)] [])
        obtain ⟨xs17, e_xs17⟩ : ∃ z : List Int32, z = own_cy (own_n5 n q1 q2 q3 q4 q5) xs16 (n - 1) := ⟨_, rfl⟩
        have h_xs17 : xs17.length = 85 := by rw [e_xs17, own_cyl]; exact h_xs16
        rw [← e_xs17] at V_b11
        refine OwH.ac (mkF m 221 #[.val (.int p0), .val (.int p1), .val (.int p2), .val (.int p3), .val (.int p4), .val (.int p5), .val (.int (Int32.ofNat j)), .val (.int (Int32.ofNat n)), .val (.ref b8), .val (.ref b9), .val (.ref y), .val (.ref b11)] [(.int 30), (.ref b11), (.ref b8)]) (fun tQ kQ => ?_) ?_
        · refine XS.aload P.here hx rfl (dc at_215) rfl rfl ?_
          refine XS.aload P.here hx rfl (dc at_217) rfl rfl ?_
          exact XS.bipush P.here hx rfl (dc at_219) kQ
        refine P.stat hx (own_w hw 139 rfl) (own_w hw 140 rfl) (own_w hw 141 rfl) (own_w hw 142 rfl) (by decide) (fun vm0 hZ => OwM.back (s := s.setVm vm0) (W := 0) (rmCy l Z a0 hw b8 b11 kb8 kb11 _ _ (own_n5 n q1 q2 q3 q4 q5) xs17 n 85 30 h34 n0 Z0 OL V_b8 V_b11 hlen h_xs17 (by omega) (by omega) (by omega) (fun _ _ => by omega) hpN g_b11 ne_b8_b11) hZ (own_w hw 142 rfl) (own_w hw 141 rfl) (own_le rfl) (own_le rfl)) (fun _ _ _ q => q.2) (ws := [b11]) (fun _ _ _ q => q.1.2.1) (allS (Or.inl (by simp)) all0) rfl (by rw [hml]; rfl) (argsL := [(.ref b8), (.ref b11), (.int 30)]) (rest := []) (lenOf pd___C_CI_V rfl) rfl (own_le rfl) (dc at_221) rfl (by first | omega | (dsimp only [room_1] <;> omega)) (by first | omega | (dsimp only [room_1] <;> omega)) fun T own_v own_L h35 own_e P own_q => ?_
        obtain ⟨⟨rfl, K, V_b11⟩, -⟩ := own_q
        clear own_e
        replace V_b8 := V_b8.keep K (ninS ne_b8_b11 nin0)
        replace E_b9 := E_b9.keep K
        replace E_y := E_y.keep K
        replace V_y := V_y.keep K (ninS ne_y_b11 nin0)
        replace C_y := C_y.keep K (ninS ne_y_b11 nin0)
        replace A_y := A_y.keep K (ninS ne_u_b11 nin0)
        replace Z0 := Nat.le_trans Z0 K.1
        replace OL := OL.keep K (allS g_b11 all0)
        show OwH p e below s _ _ _ _ _ _ T (mkF m 224 #[.val (.int p0), .val (.int p1), .val (.int p2), .val (.int p3), .val (.int p4), .val (.int p5), .val (.int (Int32.ofNat j)), .val (.int (Int32.ofNat n)), .val (.ref b8), .val (.ref b9), .val (.ref y), .val (.ref b11)] [])
        obtain ⟨xs18, e_xs18⟩ : ∃ z : List Int32, z = own_cy (own_n5 n q1 q2 q3 q4 q5) xs17 30 := ⟨_, rfl⟩
        have h_xs18 : xs18.length = 85 := by rw [e_xs18, own_cyl]; exact h_xs17
        rw [← e_xs18] at V_b11
        refine OwH.ac (mkF m 230 #[.val (.int p0), .val (.int p1), .val (.int p2), .val (.int p3), .val (.int p4), .val (.int p5), .val (.int (Int32.ofNat j)), .val (.int (Int32.ofNat n)), .val (.ref b8), .val (.ref b9), .val (.ref y), .val (.ref b11)] [(.int 63), (.ref b11), (.ref b8)]) (fun tQ kQ => ?_) ?_
        · refine XS.aload P.here hx rfl (dc at_224) rfl rfl ?_
          refine XS.aload P.here hx rfl (dc at_226) rfl rfl ?_
          exact XS.bipush P.here hx rfl (dc at_228) kQ
        refine P.stat hx (own_w hw 139 rfl) (own_w hw 140 rfl) (own_w hw 141 rfl) (own_w hw 142 rfl) (by decide) (fun vm0 hZ => OwM.back (s := s.setVm vm0) (W := 0) (rmCy l Z a0 hw b8 b11 kb8 kb11 _ _ (own_n5 n q1 q2 q3 q4 q5) xs18 n 85 63 h35 n0 Z0 OL V_b8 V_b11 hlen h_xs18 (by omega) (by omega) (by omega) (fun _ _ => by omega) hpN g_b11 ne_b8_b11) hZ (own_w hw 142 rfl) (own_w hw 141 rfl) (own_le rfl) (own_le rfl)) (fun _ _ _ q => q.2) (ws := [b11]) (fun _ _ _ q => q.1.2.1) (allS (Or.inl (by simp)) all0) rfl (by rw [hml]; rfl) (argsL := [(.ref b8), (.ref b11), (.int 63)]) (rest := []) (lenOf pd___C_CI_V rfl) rfl (own_le rfl) (dc at_230) rfl (by first | omega | (dsimp only [room_1] <;> omega)) (by first | omega | (dsimp only [room_1] <;> omega)) fun T own_v own_L h36 own_e P own_q => ?_
        obtain ⟨⟨rfl, K, V_b11⟩, -⟩ := own_q
        clear own_e
        replace V_b8 := V_b8.keep K (ninS ne_b8_b11 nin0)
        replace E_b9 := E_b9.keep K
        replace E_y := E_y.keep K
        replace V_y := V_y.keep K (ninS ne_y_b11 nin0)
        replace C_y := C_y.keep K (ninS ne_y_b11 nin0)
        replace A_y := A_y.keep K (ninS ne_u_b11 nin0)
        replace Z0 := Nat.le_trans Z0 K.1
        replace OL := OL.keep K (allS g_b11 all0)
        show OwH p e below s _ _ _ _ _ _ T (mkF m 233 #[.val (.int p0), .val (.int p1), .val (.int p2), .val (.int p3), .val (.int p4), .val (.int p5), .val (.int (Int32.ofNat j)), .val (.int (Int32.ofNat n)), .val (.ref b8), .val (.ref b9), .val (.ref y), .val (.ref b11)] [])
        obtain ⟨xs19, e_xs19⟩ : ∃ z : List Int32, z = own_cy (own_n5 n q1 q2 q3 q4 q5) xs18 63 := ⟨_, rfl⟩
        have h_xs19 : xs19.length = 85 := by rw [e_xs19, own_cyl]; exact h_xs18
        rw [← e_xs19] at V_b11
        refine OwH.ac (mkF m 239 #[.val (.int p0), .val (.int p1), .val (.int p2), .val (.int p3), .val (.int p4), .val (.int p5), .val (.int (Int32.ofNat j)), .val (.int (Int32.ofNat n)), .val (.ref b8), .val (.ref b9), .val (.ref y), .val (.ref b11)] [(.int 46), (.int 65), (.ref b11)]) (fun tQ kQ => ?_) ?_
        · refine XS.aload P.here hx rfl (dc at_233) rfl rfl ?_
          refine XS.bipush P.here hx rfl (dc at_235) ?_
          exact XS.bipush P.here hx rfl (dc at_237) kQ
        refine P.stC hx V_b11 (j := (65 : Int32)) (by decide) (own_lt (i := 65) (by omega) (by omega)) (i := 65) (by decide) (by rw [List.length_map, h_xs19]; omega) rfl rfl (dc at_239) g_b11 fun T h37 P W V' => ?_
        replace V_b8 := V_b8.other W ne_b8_b11
        replace E_b9 := E_b9.wr W
        replace E_y := E_y.wr W
        replace V_y := V_y.other W (Or.inl ne_y_b11)
        replace C_y := C_y.other W (Or.inl ne_y_b11)
        replace A_y := A_y.other W ne_u_b11
        replace Z0 := Nat.le_trans Z0 (Keep.of_wr W).1
        replace OL := OL.wr W g_b11
        replace V_b11 := V'
        clear W V'
        show OwH p e below s _ _ _ _ _ _ T (mkF m 240 #[.val (.int p0), .val (.int p1), .val (.int p2), .val (.int p3), .val (.int p4), .val (.int p5), .val (.int (Int32.ofNat j)), .val (.int (Int32.ofNat n)), .val (.ref b8), .val (.ref b9), .val (.ref y), .val (.ref b11)] [])
        replace V_b11 : Arv Z h37 b11 kb11 .char (Int32.ofNat 85) ((xs19.set 65 46).map Value.int) (.int 0) := by
          have q := V_b11
          rw [own_narc ((by unfold own_ok; decide) : own_ok _).1 ((by unfold own_ok; decide) : own_ok _).2] at q
          rw [List.map_set]; exact q
        obtain ⟨xs20, e_xs20⟩ : ∃ z : List Int32, z = (xs19.set 65 46) := ⟨_, rfl⟩
        have h_xs20 : xs20.length = 85 := by rw [e_xs20, List.length_set]; exact h_xs19
        rw [← e_xs20] at V_b11
        refine OwH.ac (mkF m 246 #[.val (.int p0), .val (.int p1), .val (.int p2), .val (.int p3), .val (.int p4), .val (.int p5), .val (.int (Int32.ofNat j)), .val (.int (Int32.ofNat n)), .val (.ref b8), .val (.ref b9), .val (.ref y), .val (.ref b11)] [(.int 46), (.int 66), (.ref b11)]) (fun tQ kQ => ?_) ?_
        · refine XS.aload P.here hx rfl (dc at_240) rfl rfl ?_
          refine XS.bipush P.here hx rfl (dc at_242) ?_
          exact XS.bipush P.here hx rfl (dc at_244) kQ
        refine P.stC hx V_b11 (j := (66 : Int32)) (by decide) (own_lt (i := 66) (by omega) (by omega)) (i := 66) (by decide) (by rw [List.length_map, h_xs20]; omega) rfl rfl (dc at_246) g_b11 fun T h38 P W V' => ?_
        replace V_b8 := V_b8.other W ne_b8_b11
        replace E_b9 := E_b9.wr W
        replace E_y := E_y.wr W
        replace V_y := V_y.other W (Or.inl ne_y_b11)
        replace C_y := C_y.other W (Or.inl ne_y_b11)
        replace A_y := A_y.other W ne_u_b11
        replace Z0 := Nat.le_trans Z0 (Keep.of_wr W).1
        replace OL := OL.wr W g_b11
        replace V_b11 := V'
        clear W V'
        show OwH p e below s _ _ _ _ _ _ T (mkF m 247 #[.val (.int p0), .val (.int p1), .val (.int p2), .val (.int p3), .val (.int p4), .val (.int p5), .val (.int (Int32.ofNat j)), .val (.int (Int32.ofNat n)), .val (.ref b8), .val (.ref b9), .val (.ref y), .val (.ref b11)] [])
        replace V_b11 : Arv Z h38 b11 kb11 .char (Int32.ofNat 85) ((xs20.set 66 46).map Value.int) (.int 0) := by
          have q := V_b11
          rw [own_narc ((by unfold own_ok; decide) : own_ok _).1 ((by unfold own_ok; decide) : own_ok _).2] at q
          rw [List.map_set]; exact q
        obtain ⟨xs21, e_xs21⟩ : ∃ z : List Int32, z = (xs20.set 66 46) := ⟨_, rfl⟩
        have h_xs21 : xs21.length = 85 := by rw [e_xs21, List.length_set]; exact h_xs20
        rw [← e_xs21] at V_b11
        refine OwH.ac (mkF m 253 #[.val (.int p0), .val (.int p1), .val (.int p2), .val (.int p3), .val (.int p4), .val (.int p5), .val (.int (Int32.ofNat j)), .val (.int (Int32.ofNat n)), .val (.ref b8), .val (.ref b9), .val (.ref y), .val (.ref b11)] [(.int 46), (.int 67), (.ref b11)]) (fun tQ kQ => ?_) ?_
        · refine XS.aload P.here hx rfl (dc at_247) rfl rfl ?_
          refine XS.bipush P.here hx rfl (dc at_249) ?_
          exact XS.bipush P.here hx rfl (dc at_251) kQ
        refine P.stC hx V_b11 (j := (67 : Int32)) (by decide) (own_lt (i := 67) (by omega) (by omega)) (i := 67) (by decide) (by rw [List.length_map, h_xs21]; omega) rfl rfl (dc at_253) g_b11 fun T h39 P W V' => ?_
        replace V_b8 := V_b8.other W ne_b8_b11
        replace E_b9 := E_b9.wr W
        replace E_y := E_y.wr W
        replace V_y := V_y.other W (Or.inl ne_y_b11)
        replace C_y := C_y.other W (Or.inl ne_y_b11)
        replace A_y := A_y.other W ne_u_b11
        replace Z0 := Nat.le_trans Z0 (Keep.of_wr W).1
        replace OL := OL.wr W g_b11
        replace V_b11 := V'
        clear W V'
        show OwH p e below s _ _ _ _ _ _ T (mkF m 254 #[.val (.int p0), .val (.int p1), .val (.int p2), .val (.int p3), .val (.int p4), .val (.int p5), .val (.int (Int32.ofNat j)), .val (.int (Int32.ofNat n)), .val (.ref b8), .val (.ref b9), .val (.ref y), .val (.ref b11)] [])
        replace V_b11 : Arv Z h39 b11 kb11 .char (Int32.ofNat 85) ((xs21.set 67 46).map Value.int) (.int 0) := by
          have q := V_b11
          rw [own_narc ((by unfold own_ok; decide) : own_ok _).1 ((by unfold own_ok; decide) : own_ok _).2] at q
          rw [List.map_set]; exact q
        obtain ⟨xs22, e_xs22⟩ : ∃ z : List Int32, z = (xs21.set 67 46) := ⟨_, rfl⟩
        have h_xs22 : xs22.length = 85 := by rw [e_xs22, List.length_set]; exact h_xs21
        rw [← e_xs22] at V_b11
        refine OwH.ac (mkF m 260 #[.val (.int p0), .val (.int p1), .val (.int p2), .val (.int p3), .val (.int p4), .val (.int p5), .val (.int (Int32.ofNat j)), .val (.int (Int32.ofNat n)), .val (.ref b8), .val (.ref b9), .val (.ref y), .val (.ref b11)] [(.int 34), (.int 68), (.ref b11)]) (fun tQ kQ => ?_) ?_
        · refine XS.aload P.here hx rfl (dc at_254) rfl rfl ?_
          refine XS.bipush P.here hx rfl (dc at_256) ?_
          exact XS.bipush P.here hx rfl (dc at_258) kQ
        refine P.stC hx V_b11 (j := (68 : Int32)) (by decide) (own_lt (i := 68) (by omega) (by omega)) (i := 68) (by decide) (by rw [List.length_map, h_xs22]; omega) rfl rfl (dc at_260) g_b11 fun T h40 P W V' => ?_
        replace V_b8 := V_b8.other W ne_b8_b11
        replace E_b9 := E_b9.wr W
        replace E_y := E_y.wr W
        replace V_y := V_y.other W (Or.inl ne_y_b11)
        replace C_y := C_y.other W (Or.inl ne_y_b11)
        replace A_y := A_y.other W ne_u_b11
        replace Z0 := Nat.le_trans Z0 (Keep.of_wr W).1
        replace OL := OL.wr W g_b11
        replace V_b11 := V'
        clear W V'
        show OwH p e below s _ _ _ _ _ _ T (mkF m 261 #[.val (.int p0), .val (.int p1), .val (.int p2), .val (.int p3), .val (.int p4), .val (.int p5), .val (.int (Int32.ofNat j)), .val (.int (Int32.ofNat n)), .val (.ref b8), .val (.ref b9), .val (.ref y), .val (.ref b11)] [])
        replace V_b11 : Arv Z h40 b11 kb11 .char (Int32.ofNat 85) ((xs22.set 68 34).map Value.int) (.int 0) := by
          have q := V_b11
          rw [own_narc ((by unfold own_ok; decide) : own_ok _).1 ((by unfold own_ok; decide) : own_ok _).2] at q
          rw [List.map_set]; exact q
        obtain ⟨xs23, e_xs23⟩ : ∃ z : List Int32, z = (xs22.set 68 34) := ⟨_, rfl⟩
        have h_xs23 : xs23.length = 85 := by rw [e_xs23, List.length_set]; exact h_xs22
        rw [← e_xs23] at V_b11
        refine OwH.ac (mkF m 267 #[.val (.int p0), .val (.int p1), .val (.int p2), .val (.int p3), .val (.int p4), .val (.int p5), .val (.int (Int32.ofNat j)), .val (.int (Int32.ofNat n)), .val (.ref b8), .val (.ref b9), .val (.ref y), .val (.ref b11)] [(.int 32), (.int 69), (.ref b11)]) (fun tQ kQ => ?_) ?_
        · refine XS.aload P.here hx rfl (dc at_261) rfl rfl ?_
          refine XS.bipush P.here hx rfl (dc at_263) ?_
          exact XS.bipush P.here hx rfl (dc at_265) kQ
        refine P.stC hx V_b11 (j := (69 : Int32)) (by decide) (own_lt (i := 69) (by omega) (by omega)) (i := 69) (by decide) (by rw [List.length_map, h_xs23]; omega) rfl rfl (dc at_267) g_b11 fun T h41 P W V' => ?_
        replace V_b8 := V_b8.other W ne_b8_b11
        replace E_b9 := E_b9.wr W
        replace E_y := E_y.wr W
        replace V_y := V_y.other W (Or.inl ne_y_b11)
        replace C_y := C_y.other W (Or.inl ne_y_b11)
        replace A_y := A_y.other W ne_u_b11
        replace Z0 := Nat.le_trans Z0 (Keep.of_wr W).1
        replace OL := OL.wr W g_b11
        replace V_b11 := V'
        clear W V'
        show OwH p e below s _ _ _ _ _ _ T (mkF m 268 #[.val (.int p0), .val (.int p1), .val (.int p2), .val (.int p3), .val (.int p4), .val (.int p5), .val (.int (Int32.ofNat j)), .val (.int (Int32.ofNat n)), .val (.ref b8), .val (.ref b9), .val (.ref y), .val (.ref b11)] [])
        replace V_b11 : Arv Z h41 b11 kb11 .char (Int32.ofNat 85) ((xs23.set 69 32).map Value.int) (.int 0) := by
          have q := V_b11
          rw [own_narc ((by unfold own_ok; decide) : own_ok _).1 ((by unfold own_ok; decide) : own_ok _).2] at q
          rw [List.map_set]; exact q
        obtain ⟨xs24, e_xs24⟩ : ∃ z : List Int32, z = (xs23.set 69 32) := ⟨_, rfl⟩
        have h_xs24 : xs24.length = 85 := by rw [e_xs24, List.length_set]; exact h_xs23
        rw [← e_xs24] at V_b11
        refine OwH.ac (mkF m 274 #[.val (.int p0), .val (.int p1), .val (.int p2), .val (.int p3), .val (.int p4), .val (.int p5), .val (.int (Int32.ofNat j)), .val (.int (Int32.ofNat n)), .val (.ref b8), .val (.ref b9), .val (.ref y), .val (.ref b11)] [(.int 40), (.int 70), (.ref b11)]) (fun tQ kQ => ?_) ?_
        · refine XS.aload P.here hx rfl (dc at_268) rfl rfl ?_
          refine XS.bipush P.here hx rfl (dc at_270) ?_
          exact XS.bipush P.here hx rfl (dc at_272) kQ
        refine P.stC hx V_b11 (j := (70 : Int32)) (by decide) (own_lt (i := 70) (by omega) (by omega)) (i := 70) (by decide) (by rw [List.length_map, h_xs24]; omega) rfl rfl (dc at_274) g_b11 fun T h42 P W V' => ?_
        replace V_b8 := V_b8.other W ne_b8_b11
        replace E_b9 := E_b9.wr W
        replace E_y := E_y.wr W
        replace V_y := V_y.other W (Or.inl ne_y_b11)
        replace C_y := C_y.other W (Or.inl ne_y_b11)
        replace A_y := A_y.other W ne_u_b11
        replace Z0 := Nat.le_trans Z0 (Keep.of_wr W).1
        replace OL := OL.wr W g_b11
        replace V_b11 := V'
        clear W V'
        show OwH p e below s _ _ _ _ _ _ T (mkF m 275 #[.val (.int p0), .val (.int p1), .val (.int p2), .val (.int p3), .val (.int p4), .val (.int p5), .val (.int (Int32.ofNat j)), .val (.int (Int32.ofNat n)), .val (.ref b8), .val (.ref b9), .val (.ref y), .val (.ref b11)] [])
        replace V_b11 : Arv Z h42 b11 kb11 .char (Int32.ofNat 85) ((xs24.set 70 40).map Value.int) (.int 0) := by
          have q := V_b11
          rw [own_narc ((by unfold own_ok; decide) : own_ok _).1 ((by unfold own_ok; decide) : own_ok _).2] at q
          rw [List.map_set]; exact q
        obtain ⟨xs25, e_xs25⟩ : ∃ z : List Int32, z = (xs24.set 70 40) := ⟨_, rfl⟩
        have h_xs25 : xs25.length = 85 := by rw [e_xs25, List.length_set]; exact h_xs24
        rw [← e_xs25] at V_b11
        refine OwH.ac (mkF m 281 #[.val (.int p0), .val (.int p1), .val (.int p2), .val (.int p3), .val (.int p4), .val (.int p5), .val (.int (Int32.ofNat j)), .val (.int (Int32.ofNat n)), .val (.ref b8), .val (.ref b9), .val (.ref y), .val (.ref b11)] [(.int 54), (.int 71), (.ref b11)]) (fun tQ kQ => ?_) ?_
        · refine XS.aload P.here hx rfl (dc at_275) rfl rfl ?_
          refine XS.bipush P.here hx rfl (dc at_277) ?_
          exact XS.bipush P.here hx rfl (dc at_279) kQ
        refine P.stC hx V_b11 (j := (71 : Int32)) (by decide) (own_lt (i := 71) (by omega) (by omega)) (i := 71) (by decide) (by rw [List.length_map, h_xs25]; omega) rfl rfl (dc at_281) g_b11 fun T h43 P W V' => ?_
        replace V_b8 := V_b8.other W ne_b8_b11
        replace E_b9 := E_b9.wr W
        replace E_y := E_y.wr W
        replace V_y := V_y.other W (Or.inl ne_y_b11)
        replace C_y := C_y.other W (Or.inl ne_y_b11)
        replace A_y := A_y.other W ne_u_b11
        replace Z0 := Nat.le_trans Z0 (Keep.of_wr W).1
        replace OL := OL.wr W g_b11
        replace V_b11 := V'
        clear W V'
        show OwH p e below s _ _ _ _ _ _ T (mkF m 282 #[.val (.int p0), .val (.int p1), .val (.int p2), .val (.int p3), .val (.int p4), .val (.int p5), .val (.int (Int32.ofNat j)), .val (.int (Int32.ofNat n)), .val (.ref b8), .val (.ref b9), .val (.ref y), .val (.ref b11)] [])
        replace V_b11 : Arv Z h43 b11 kb11 .char (Int32.ofNat 85) ((xs25.set 71 54).map Value.int) (.int 0) := by
          have q := V_b11
          rw [own_narc ((by unfold own_ok; decide) : own_ok _).1 ((by unfold own_ok; decide) : own_ok _).2] at q
          rw [List.map_set]; exact q
        obtain ⟨xs26, e_xs26⟩ : ∃ z : List Int32, z = (xs25.set 71 54) := ⟨_, rfl⟩
        have h_xs26 : xs26.length = 85 := by rw [e_xs26, List.length_set]; exact h_xs25
        rw [← e_xs26] at V_b11
        refine OwH.ac (mkF m 295 #[.val (.int p0), .val (.int p1), .val (.int p2), .val (.int p3), .val (.int p4), .val (.int p5), .val (.int (Int32.ofNat j)), .val (.int (Int32.ofNat n)), .val (.ref b8), .val (.ref b9), .val (.ref y), .val (.ref b11)] [(.int (((48 : Int32) + ((Int32.ofNat n) - (60 : Int32))).toUInt32.toUInt16.toUInt32.toInt32)), (.int 72), (.ref b11)]) (fun tQ kQ => ?_) ?_
        · refine XS.aload P.here hx rfl (dc at_282) rfl rfl ?_
          refine XS.bipush P.here hx rfl (dc at_284) ?_
          refine XS.bipush P.here hx rfl (dc at_286) ?_
          refine XS.iload P.here hx rfl (dc at_288) rfl ?_
          refine XS.bipush P.here hx rfl (dc at_290) ?_
          refine XS.isub P.here hx rfl (dc at_292) rfl ?_
          refine XS.iadd P.here hx rfl (dc at_293) rfl ?_
          exact XS.i2c P.here hx rfl (dc at_294) rfl kQ
        have own_zd := own_dzc own_z
        rw [show (((48 : Int32) + ((Int32.ofNat n) - (60 : Int32))).toUInt32.toUInt16.toUInt32.toInt32) = (own_dz (Int32.ofNat n)) from own_zd]
        refine P.stC hx V_b11 (j := (72 : Int32)) (by decide) (own_lt (i := 72) (by omega) (by omega)) (i := 72) (by decide) (by rw [List.length_map, h_xs26]; omega) rfl rfl (dc at_295) g_b11 fun T h44 P W V' => ?_
        replace V_b8 := V_b8.other W ne_b8_b11
        replace E_b9 := E_b9.wr W
        replace E_y := E_y.wr W
        replace V_y := V_y.other W (Or.inl ne_y_b11)
        replace C_y := C_y.other W (Or.inl ne_y_b11)
        replace A_y := A_y.other W ne_u_b11
        replace Z0 := Nat.le_trans Z0 (Keep.of_wr W).1
        replace OL := OL.wr W g_b11
        replace V_b11 := V'
        clear W V'
        show OwH p e below s _ _ _ _ _ _ T (mkF m 296 #[.val (.int p0), .val (.int p1), .val (.int p2), .val (.int p3), .val (.int p4), .val (.int p5), .val (.int (Int32.ofNat j)), .val (.int (Int32.ofNat n)), .val (.ref b8), .val (.ref b9), .val (.ref y), .val (.ref b11)] [])
        replace V_b11 : Arv Z h44 b11 kb11 .char (Int32.ofNat 85) ((xs26.set 72 (own_dz (Int32.ofNat n))).map Value.int) (.int 0) := by
          have q := V_b11
          rw [own_narc ((own_dzo own_z) : own_ok _).1 ((own_dzo own_z) : own_ok _).2] at q
          rw [List.map_set]; exact q
        obtain ⟨xs27, e_xs27⟩ : ∃ z : List Int32, z = (xs26.set 72 (own_dz (Int32.ofNat n))) := ⟨_, rfl⟩
        have h_xs27 : xs27.length = 85 := by rw [e_xs27, List.length_set]; exact h_xs26
        rw [← e_xs27] at V_b11
        refine OwH.ac (mkF m 302 #[.val (.int p0), .val (.int p1), .val (.int p2), .val (.int p3), .val (.int p4), .val (.int p5), .val (.int (Int32.ofNat j)), .val (.int (Int32.ofNat n)), .val (.ref b8), .val (.ref b9), .val (.ref y), .val (.ref b11)] [(.int 32), (.int 73), (.ref b11)]) (fun tQ kQ => ?_) ?_
        · refine XS.aload P.here hx rfl (dc at_296) rfl rfl ?_
          refine XS.bipush P.here hx rfl (dc at_298) ?_
          exact XS.bipush P.here hx rfl (dc at_300) kQ
        refine P.stC hx V_b11 (j := (73 : Int32)) (by decide) (own_lt (i := 73) (by omega) (by omega)) (i := 73) (by decide) (by rw [List.length_map, h_xs27]; omega) rfl rfl (dc at_302) g_b11 fun T h45 P W V' => ?_
        replace V_b8 := V_b8.other W ne_b8_b11
        replace E_b9 := E_b9.wr W
        replace E_y := E_y.wr W
        replace V_y := V_y.other W (Or.inl ne_y_b11)
        replace C_y := C_y.other W (Or.inl ne_y_b11)
        replace A_y := A_y.other W ne_u_b11
        replace Z0 := Nat.le_trans Z0 (Keep.of_wr W).1
        replace OL := OL.wr W g_b11
        replace V_b11 := V'
        clear W V'
        show OwH p e below s _ _ _ _ _ _ T (mkF m 303 #[.val (.int p0), .val (.int p1), .val (.int p2), .val (.int p3), .val (.int p4), .val (.int p5), .val (.int (Int32.ofNat j)), .val (.int (Int32.ofNat n)), .val (.ref b8), .val (.ref b9), .val (.ref y), .val (.ref b11)] [])
        replace V_b11 : Arv Z h45 b11 kb11 .char (Int32.ofNat 85) ((xs27.set 73 32).map Value.int) (.int 0) := by
          have q := V_b11
          rw [own_narc ((by unfold own_ok; decide) : own_ok _).1 ((by unfold own_ok; decide) : own_ok _).2] at q
          rw [List.map_set]; exact q
        obtain ⟨xs28, e_xs28⟩ : ∃ z : List Int32, z = (xs27.set 73 32) := ⟨_, rfl⟩
        have h_xs28 : xs28.length = 85 := by rw [e_xs28, List.length_set]; exact h_xs27
        rw [← e_xs28] at V_b11
        refine OwH.ac (mkF m 309 #[.val (.int p0), .val (.int p1), .val (.int p2), .val (.int p3), .val (.int p4), .val (.int p5), .val (.int (Int32.ofNat j)), .val (.int (Int32.ofNat n)), .val (.ref b8), .val (.ref b9), .val (.ref y), .val (.ref b11)] [(.int 99), (.int 74), (.ref b11)]) (fun tQ kQ => ?_) ?_
        · refine XS.aload P.here hx rfl (dc at_303) rfl rfl ?_
          refine XS.bipush P.here hx rfl (dc at_305) ?_
          exact XS.bipush P.here hx rfl (dc at_307) kQ
        refine P.stC hx V_b11 (j := (74 : Int32)) (by decide) (own_lt (i := 74) (by omega) (by omega)) (i := 74) (by decide) (by rw [List.length_map, h_xs28]; omega) rfl rfl (dc at_309) g_b11 fun T h46 P W V' => ?_
        replace V_b8 := V_b8.other W ne_b8_b11
        replace E_b9 := E_b9.wr W
        replace E_y := E_y.wr W
        replace V_y := V_y.other W (Or.inl ne_y_b11)
        replace C_y := C_y.other W (Or.inl ne_y_b11)
        replace A_y := A_y.other W ne_u_b11
        replace Z0 := Nat.le_trans Z0 (Keep.of_wr W).1
        replace OL := OL.wr W g_b11
        replace V_b11 := V'
        clear W V'
        show OwH p e below s _ _ _ _ _ _ T (mkF m 310 #[.val (.int p0), .val (.int p1), .val (.int p2), .val (.int p3), .val (.int p4), .val (.int p5), .val (.int (Int32.ofNat j)), .val (.int (Int32.ofNat n)), .val (.ref b8), .val (.ref b9), .val (.ref y), .val (.ref b11)] [])
        replace V_b11 : Arv Z h46 b11 kb11 .char (Int32.ofNat 85) ((xs28.set 74 99).map Value.int) (.int 0) := by
          have q := V_b11
          rw [own_narc ((by unfold own_ok; decide) : own_ok _).1 ((by unfold own_ok; decide) : own_ok _).2] at q
          rw [List.map_set]; exact q
        obtain ⟨xs29, e_xs29⟩ : ∃ z : List Int32, z = (xs28.set 74 99) := ⟨_, rfl⟩
        have h_xs29 : xs29.length = 85 := by rw [e_xs29, List.length_set]; exact h_xs28
        rw [← e_xs29] at V_b11
        refine OwH.ac (mkF m 316 #[.val (.int p0), .val (.int p1), .val (.int p2), .val (.int p3), .val (.int p4), .val (.int p5), .val (.int (Int32.ofNat j)), .val (.int (Int32.ofNat n)), .val (.ref b8), .val (.ref b9), .val (.ref y), .val (.ref b11)] [(.int 104), (.int 75), (.ref b11)]) (fun tQ kQ => ?_) ?_
        · refine XS.aload P.here hx rfl (dc at_310) rfl rfl ?_
          refine XS.bipush P.here hx rfl (dc at_312) ?_
          exact XS.bipush P.here hx rfl (dc at_314) kQ
        refine P.stC hx V_b11 (j := (75 : Int32)) (by decide) (own_lt (i := 75) (by omega) (by omega)) (i := 75) (by decide) (by rw [List.length_map, h_xs29]; omega) rfl rfl (dc at_316) g_b11 fun T h47 P W V' => ?_
        replace V_b8 := V_b8.other W ne_b8_b11
        replace E_b9 := E_b9.wr W
        replace E_y := E_y.wr W
        replace V_y := V_y.other W (Or.inl ne_y_b11)
        replace C_y := C_y.other W (Or.inl ne_y_b11)
        replace A_y := A_y.other W ne_u_b11
        replace Z0 := Nat.le_trans Z0 (Keep.of_wr W).1
        replace OL := OL.wr W g_b11
        replace V_b11 := V'
        clear W V'
        show OwH p e below s _ _ _ _ _ _ T (mkF m 317 #[.val (.int p0), .val (.int p1), .val (.int p2), .val (.int p3), .val (.int p4), .val (.int p5), .val (.int (Int32.ofNat j)), .val (.int (Int32.ofNat n)), .val (.ref b8), .val (.ref b9), .val (.ref y), .val (.ref b11)] [])
        replace V_b11 : Arv Z h47 b11 kb11 .char (Int32.ofNat 85) ((xs29.set 75 104).map Value.int) (.int 0) := by
          have q := V_b11
          rw [own_narc ((by unfold own_ok; decide) : own_ok _).1 ((by unfold own_ok; decide) : own_ok _).2] at q
          rw [List.map_set]; exact q
        obtain ⟨xs30, e_xs30⟩ : ∃ z : List Int32, z = (xs29.set 75 104) := ⟨_, rfl⟩
        have h_xs30 : xs30.length = 85 := by rw [e_xs30, List.length_set]; exact h_xs29
        rw [← e_xs30] at V_b11
        refine OwH.ac (mkF m 323 #[.val (.int p0), .val (.int p1), .val (.int p2), .val (.int p3), .val (.int p4), .val (.int p5), .val (.int (Int32.ofNat j)), .val (.int (Int32.ofNat n)), .val (.ref b8), .val (.ref b9), .val (.ref y), .val (.ref b11)] [(.int 97), (.int 76), (.ref b11)]) (fun tQ kQ => ?_) ?_
        · refine XS.aload P.here hx rfl (dc at_317) rfl rfl ?_
          refine XS.bipush P.here hx rfl (dc at_319) ?_
          exact XS.bipush P.here hx rfl (dc at_321) kQ
        refine P.stC hx V_b11 (j := (76 : Int32)) (by decide) (own_lt (i := 76) (by omega) (by omega)) (i := 76) (by decide) (by rw [List.length_map, h_xs30]; omega) rfl rfl (dc at_323) g_b11 fun T h48 P W V' => ?_
        replace V_b8 := V_b8.other W ne_b8_b11
        replace E_b9 := E_b9.wr W
        replace E_y := E_y.wr W
        replace V_y := V_y.other W (Or.inl ne_y_b11)
        replace C_y := C_y.other W (Or.inl ne_y_b11)
        replace A_y := A_y.other W ne_u_b11
        replace Z0 := Nat.le_trans Z0 (Keep.of_wr W).1
        replace OL := OL.wr W g_b11
        replace V_b11 := V'
        clear W V'
        show OwH p e below s _ _ _ _ _ _ T (mkF m 324 #[.val (.int p0), .val (.int p1), .val (.int p2), .val (.int p3), .val (.int p4), .val (.int p5), .val (.int (Int32.ofNat j)), .val (.int (Int32.ofNat n)), .val (.ref b8), .val (.ref b9), .val (.ref y), .val (.ref b11)] [])
        replace V_b11 : Arv Z h48 b11 kb11 .char (Int32.ofNat 85) ((xs30.set 76 97).map Value.int) (.int 0) := by
          have q := V_b11
          rw [own_narc ((by unfold own_ok; decide) : own_ok _).1 ((by unfold own_ok; decide) : own_ok _).2] at q
          rw [List.map_set]; exact q
        obtain ⟨xs31, e_xs31⟩ : ∃ z : List Int32, z = (xs30.set 76 97) := ⟨_, rfl⟩
        have h_xs31 : xs31.length = 85 := by rw [e_xs31, List.length_set]; exact h_xs30
        rw [← e_xs31] at V_b11
        refine OwH.ac (mkF m 330 #[.val (.int p0), .val (.int p1), .val (.int p2), .val (.int p3), .val (.int p4), .val (.int p5), .val (.int (Int32.ofNat j)), .val (.int (Int32.ofNat n)), .val (.ref b8), .val (.ref b9), .val (.ref y), .val (.ref b11)] [(.int 114), (.int 77), (.ref b11)]) (fun tQ kQ => ?_) ?_
        · refine XS.aload P.here hx rfl (dc at_324) rfl rfl ?_
          refine XS.bipush P.here hx rfl (dc at_326) ?_
          exact XS.bipush P.here hx rfl (dc at_328) kQ
        refine P.stC hx V_b11 (j := (77 : Int32)) (by decide) (own_lt (i := 77) (by omega) (by omega)) (i := 77) (by decide) (by rw [List.length_map, h_xs31]; omega) rfl rfl (dc at_330) g_b11 fun T h49 P W V' => ?_
        replace V_b8 := V_b8.other W ne_b8_b11
        replace E_b9 := E_b9.wr W
        replace E_y := E_y.wr W
        replace V_y := V_y.other W (Or.inl ne_y_b11)
        replace C_y := C_y.other W (Or.inl ne_y_b11)
        replace A_y := A_y.other W ne_u_b11
        replace Z0 := Nat.le_trans Z0 (Keep.of_wr W).1
        replace OL := OL.wr W g_b11
        replace V_b11 := V'
        clear W V'
        show OwH p e below s _ _ _ _ _ _ T (mkF m 331 #[.val (.int p0), .val (.int p1), .val (.int p2), .val (.int p3), .val (.int p4), .val (.int p5), .val (.int (Int32.ofNat j)), .val (.int (Int32.ofNat n)), .val (.ref b8), .val (.ref b9), .val (.ref y), .val (.ref b11)] [])
        replace V_b11 : Arv Z h49 b11 kb11 .char (Int32.ofNat 85) ((xs31.set 77 114).map Value.int) (.int 0) := by
          have q := V_b11
          rw [own_narc ((by unfold own_ok; decide) : own_ok _).1 ((by unfold own_ok; decide) : own_ok _).2] at q
          rw [List.map_set]; exact q
        obtain ⟨xs32, e_xs32⟩ : ∃ z : List Int32, z = (xs31.set 77 114) := ⟨_, rfl⟩
        have h_xs32 : xs32.length = 85 := by rw [e_xs32, List.length_set]; exact h_xs31
        rw [← e_xs32] at V_b11
        refine OwH.ac (mkF m 337 #[.val (.int p0), .val (.int p1), .val (.int p2), .val (.int p3), .val (.int p4), .val (.int p5), .val (.int (Int32.ofNat j)), .val (.int (Int32.ofNat n)), .val (.ref b8), .val (.ref b9), .val (.ref y), .val (.ref b11)] [(.int 97), (.int 78), (.ref b11)]) (fun tQ kQ => ?_) ?_
        · refine XS.aload P.here hx rfl (dc at_331) rfl rfl ?_
          refine XS.bipush P.here hx rfl (dc at_333) ?_
          exact XS.bipush P.here hx rfl (dc at_335) kQ
        refine P.stC hx V_b11 (j := (78 : Int32)) (by decide) (own_lt (i := 78) (by omega) (by omega)) (i := 78) (by decide) (by rw [List.length_map, h_xs32]; omega) rfl rfl (dc at_337) g_b11 fun T h50 P W V' => ?_
        replace V_b8 := V_b8.other W ne_b8_b11
        replace E_b9 := E_b9.wr W
        replace E_y := E_y.wr W
        replace V_y := V_y.other W (Or.inl ne_y_b11)
        replace C_y := C_y.other W (Or.inl ne_y_b11)
        replace A_y := A_y.other W ne_u_b11
        replace Z0 := Nat.le_trans Z0 (Keep.of_wr W).1
        replace OL := OL.wr W g_b11
        replace V_b11 := V'
        clear W V'
        show OwH p e below s _ _ _ _ _ _ T (mkF m 338 #[.val (.int p0), .val (.int p1), .val (.int p2), .val (.int p3), .val (.int p4), .val (.int p5), .val (.int (Int32.ofNat j)), .val (.int (Int32.ofNat n)), .val (.ref b8), .val (.ref b9), .val (.ref y), .val (.ref b11)] [])
        replace V_b11 : Arv Z h50 b11 kb11 .char (Int32.ofNat 85) ((xs32.set 78 97).map Value.int) (.int 0) := by
          have q := V_b11
          rw [own_narc ((by unfold own_ok; decide) : own_ok _).1 ((by unfold own_ok; decide) : own_ok _).2] at q
          rw [List.map_set]; exact q
        obtain ⟨xs33, e_xs33⟩ : ∃ z : List Int32, z = (xs32.set 78 97) := ⟨_, rfl⟩
        have h_xs33 : xs33.length = 85 := by rw [e_xs33, List.length_set]; exact h_xs32
        rw [← e_xs33] at V_b11
        refine OwH.ac (mkF m 344 #[.val (.int p0), .val (.int p1), .val (.int p2), .val (.int p3), .val (.int p4), .val (.int p5), .val (.int (Int32.ofNat j)), .val (.int (Int32.ofNat n)), .val (.ref b8), .val (.ref b9), .val (.ref y), .val (.ref b11)] [(.int 99), (.int 79), (.ref b11)]) (fun tQ kQ => ?_) ?_
        · refine XS.aload P.here hx rfl (dc at_338) rfl rfl ?_
          refine XS.bipush P.here hx rfl (dc at_340) ?_
          exact XS.bipush P.here hx rfl (dc at_342) kQ
        refine P.stC hx V_b11 (j := (79 : Int32)) (by decide) (own_lt (i := 79) (by omega) (by omega)) (i := 79) (by decide) (by rw [List.length_map, h_xs33]; omega) rfl rfl (dc at_344) g_b11 fun T h51 P W V' => ?_
        replace V_b8 := V_b8.other W ne_b8_b11
        replace E_b9 := E_b9.wr W
        replace E_y := E_y.wr W
        replace V_y := V_y.other W (Or.inl ne_y_b11)
        replace C_y := C_y.other W (Or.inl ne_y_b11)
        replace A_y := A_y.other W ne_u_b11
        replace Z0 := Nat.le_trans Z0 (Keep.of_wr W).1
        replace OL := OL.wr W g_b11
        replace V_b11 := V'
        clear W V'
        show OwH p e below s _ _ _ _ _ _ T (mkF m 345 #[.val (.int p0), .val (.int p1), .val (.int p2), .val (.int p3), .val (.int p4), .val (.int p5), .val (.int (Int32.ofNat j)), .val (.int (Int32.ofNat n)), .val (.ref b8), .val (.ref b9), .val (.ref y), .val (.ref b11)] [])
        replace V_b11 : Arv Z h51 b11 kb11 .char (Int32.ofNat 85) ((xs33.set 79 99).map Value.int) (.int 0) := by
          have q := V_b11
          rw [own_narc ((by unfold own_ok; decide) : own_ok _).1 ((by unfold own_ok; decide) : own_ok _).2] at q
          rw [List.map_set]; exact q
        obtain ⟨xs34, e_xs34⟩ : ∃ z : List Int32, z = (xs33.set 79 99) := ⟨_, rfl⟩
        have h_xs34 : xs34.length = 85 := by rw [e_xs34, List.length_set]; exact h_xs33
        rw [← e_xs34] at V_b11
        refine OwH.ac (mkF m 351 #[.val (.int p0), .val (.int p1), .val (.int p2), .val (.int p3), .val (.int p4), .val (.int p5), .val (.int (Int32.ofNat j)), .val (.int (Int32.ofNat n)), .val (.ref b8), .val (.ref b9), .val (.ref y), .val (.ref b11)] [(.int 116), (.int 80), (.ref b11)]) (fun tQ kQ => ?_) ?_
        · refine XS.aload P.here hx rfl (dc at_345) rfl rfl ?_
          refine XS.bipush P.here hx rfl (dc at_347) ?_
          exact XS.bipush P.here hx rfl (dc at_349) kQ
        refine P.stC hx V_b11 (j := (80 : Int32)) (by decide) (own_lt (i := 80) (by omega) (by omega)) (i := 80) (by decide) (by rw [List.length_map, h_xs34]; omega) rfl rfl (dc at_351) g_b11 fun T h52 P W V' => ?_
        replace V_b8 := V_b8.other W ne_b8_b11
        replace E_b9 := E_b9.wr W
        replace E_y := E_y.wr W
        replace V_y := V_y.other W (Or.inl ne_y_b11)
        replace C_y := C_y.other W (Or.inl ne_y_b11)
        replace A_y := A_y.other W ne_u_b11
        replace Z0 := Nat.le_trans Z0 (Keep.of_wr W).1
        replace OL := OL.wr W g_b11
        replace V_b11 := V'
        clear W V'
        show OwH p e below s _ _ _ _ _ _ T (mkF m 352 #[.val (.int p0), .val (.int p1), .val (.int p2), .val (.int p3), .val (.int p4), .val (.int p5), .val (.int (Int32.ofNat j)), .val (.int (Int32.ofNat n)), .val (.ref b8), .val (.ref b9), .val (.ref y), .val (.ref b11)] [])
        replace V_b11 : Arv Z h52 b11 kb11 .char (Int32.ofNat 85) ((xs34.set 80 116).map Value.int) (.int 0) := by
          have q := V_b11
          rw [own_narc ((by unfold own_ok; decide) : own_ok _).1 ((by unfold own_ok; decide) : own_ok _).2] at q
          rw [List.map_set]; exact q
        obtain ⟨xs35, e_xs35⟩ : ∃ z : List Int32, z = (xs34.set 80 116) := ⟨_, rfl⟩
        have h_xs35 : xs35.length = 85 := by rw [e_xs35, List.length_set]; exact h_xs34
        rw [← e_xs35] at V_b11
        refine OwH.ac (mkF m 358 #[.val (.int p0), .val (.int p1), .val (.int p2), .val (.int p3), .val (.int p4), .val (.int p5), .val (.int (Int32.ofNat j)), .val (.int (Int32.ofNat n)), .val (.ref b8), .val (.ref b9), .val (.ref y), .val (.ref b11)] [(.int 101), (.int 81), (.ref b11)]) (fun tQ kQ => ?_) ?_
        · refine XS.aload P.here hx rfl (dc at_352) rfl rfl ?_
          refine XS.bipush P.here hx rfl (dc at_354) ?_
          exact XS.bipush P.here hx rfl (dc at_356) kQ
        refine P.stC hx V_b11 (j := (81 : Int32)) (by decide) (own_lt (i := 81) (by omega) (by omega)) (i := 81) (by decide) (by rw [List.length_map, h_xs35]; omega) rfl rfl (dc at_358) g_b11 fun T h53 P W V' => ?_
        replace V_b8 := V_b8.other W ne_b8_b11
        replace E_b9 := E_b9.wr W
        replace E_y := E_y.wr W
        replace V_y := V_y.other W (Or.inl ne_y_b11)
        replace C_y := C_y.other W (Or.inl ne_y_b11)
        replace A_y := A_y.other W ne_u_b11
        replace Z0 := Nat.le_trans Z0 (Keep.of_wr W).1
        replace OL := OL.wr W g_b11
        replace V_b11 := V'
        clear W V'
        show OwH p e below s _ _ _ _ _ _ T (mkF m 359 #[.val (.int p0), .val (.int p1), .val (.int p2), .val (.int p3), .val (.int p4), .val (.int p5), .val (.int (Int32.ofNat j)), .val (.int (Int32.ofNat n)), .val (.ref b8), .val (.ref b9), .val (.ref y), .val (.ref b11)] [])
        replace V_b11 : Arv Z h53 b11 kb11 .char (Int32.ofNat 85) ((xs35.set 81 101).map Value.int) (.int 0) := by
          have q := V_b11
          rw [own_narc ((by unfold own_ok; decide) : own_ok _).1 ((by unfold own_ok; decide) : own_ok _).2] at q
          rw [List.map_set]; exact q
        obtain ⟨xs36, e_xs36⟩ : ∃ z : List Int32, z = (xs35.set 81 101) := ⟨_, rfl⟩
        have h_xs36 : xs36.length = 85 := by rw [e_xs36, List.length_set]; exact h_xs35
        rw [← e_xs36] at V_b11
        refine OwH.ac (mkF m 365 #[.val (.int p0), .val (.int p1), .val (.int p2), .val (.int p3), .val (.int p4), .val (.int p5), .val (.int (Int32.ofNat j)), .val (.int (Int32.ofNat n)), .val (.ref b8), .val (.ref b9), .val (.ref y), .val (.ref b11)] [(.int 114), (.int 82), (.ref b11)]) (fun tQ kQ => ?_) ?_
        · refine XS.aload P.here hx rfl (dc at_359) rfl rfl ?_
          refine XS.bipush P.here hx rfl (dc at_361) ?_
          exact XS.bipush P.here hx rfl (dc at_363) kQ
        refine P.stC hx V_b11 (j := (82 : Int32)) (by decide) (own_lt (i := 82) (by omega) (by omega)) (i := 82) (by decide) (by rw [List.length_map, h_xs36]; omega) rfl rfl (dc at_365) g_b11 fun T h54 P W V' => ?_
        replace V_b8 := V_b8.other W ne_b8_b11
        replace E_b9 := E_b9.wr W
        replace E_y := E_y.wr W
        replace V_y := V_y.other W (Or.inl ne_y_b11)
        replace C_y := C_y.other W (Or.inl ne_y_b11)
        replace A_y := A_y.other W ne_u_b11
        replace Z0 := Nat.le_trans Z0 (Keep.of_wr W).1
        replace OL := OL.wr W g_b11
        replace V_b11 := V'
        clear W V'
        show OwH p e below s _ _ _ _ _ _ T (mkF m 366 #[.val (.int p0), .val (.int p1), .val (.int p2), .val (.int p3), .val (.int p4), .val (.int p5), .val (.int (Int32.ofNat j)), .val (.int (Int32.ofNat n)), .val (.ref b8), .val (.ref b9), .val (.ref y), .val (.ref b11)] [])
        replace V_b11 : Arv Z h54 b11 kb11 .char (Int32.ofNat 85) ((xs36.set 82 114).map Value.int) (.int 0) := by
          have q := V_b11
          rw [own_narc ((by unfold own_ok; decide) : own_ok _).1 ((by unfold own_ok; decide) : own_ok _).2] at q
          rw [List.map_set]; exact q
        obtain ⟨xs37, e_xs37⟩ : ∃ z : List Int32, z = (xs36.set 82 114) := ⟨_, rfl⟩
        have h_xs37 : xs37.length = 85 := by rw [e_xs37, List.length_set]; exact h_xs36
        rw [← e_xs37] at V_b11
        refine OwH.ac (mkF m 372 #[.val (.int p0), .val (.int p1), .val (.int p2), .val (.int p3), .val (.int p4), .val (.int p5), .val (.int (Int32.ofNat j)), .val (.int (Int32.ofNat n)), .val (.ref b8), .val (.ref b9), .val (.ref y), .val (.ref b11)] [(.int 115), (.int 83), (.ref b11)]) (fun tQ kQ => ?_) ?_
        · refine XS.aload P.here hx rfl (dc at_366) rfl rfl ?_
          refine XS.bipush P.here hx rfl (dc at_368) ?_
          exact XS.bipush P.here hx rfl (dc at_370) kQ
        refine P.stC hx V_b11 (j := (83 : Int32)) (by decide) (own_lt (i := 83) (by omega) (by omega)) (i := 83) (by decide) (by rw [List.length_map, h_xs37]; omega) rfl rfl (dc at_372) g_b11 fun T h55 P W V' => ?_
        replace V_b8 := V_b8.other W ne_b8_b11
        replace E_b9 := E_b9.wr W
        replace E_y := E_y.wr W
        replace V_y := V_y.other W (Or.inl ne_y_b11)
        replace C_y := C_y.other W (Or.inl ne_y_b11)
        replace A_y := A_y.other W ne_u_b11
        replace Z0 := Nat.le_trans Z0 (Keep.of_wr W).1
        replace OL := OL.wr W g_b11
        replace V_b11 := V'
        clear W V'
        show OwH p e below s _ _ _ _ _ _ T (mkF m 373 #[.val (.int p0), .val (.int p1), .val (.int p2), .val (.int p3), .val (.int p4), .val (.int p5), .val (.int (Int32.ofNat j)), .val (.int (Int32.ofNat n)), .val (.ref b8), .val (.ref b9), .val (.ref y), .val (.ref b11)] [])
        replace V_b11 : Arv Z h55 b11 kb11 .char (Int32.ofNat 85) ((xs37.set 83 115).map Value.int) (.int 0) := by
          have q := V_b11
          rw [own_narc ((by unfold own_ok; decide) : own_ok _).1 ((by unfold own_ok; decide) : own_ok _).2] at q
          rw [List.map_set]; exact q
        obtain ⟨xs38, e_xs38⟩ : ∃ z : List Int32, z = (xs37.set 83 115) := ⟨_, rfl⟩
        have h_xs38 : xs38.length = 85 := by rw [e_xs38, List.length_set]; exact h_xs37
        rw [← e_xs38] at V_b11
        refine OwH.ac (mkF m 379 #[.val (.int p0), .val (.int p1), .val (.int p2), .val (.int p3), .val (.int p4), .val (.int p5), .val (.int (Int32.ofNat j)), .val (.int (Int32.ofNat n)), .val (.ref b8), .val (.ref b9), .val (.ref y), .val (.ref b11)] [(.int 41), (.int 84), (.ref b11)]) (fun tQ kQ => ?_) ?_
        · refine XS.aload P.here hx rfl (dc at_373) rfl rfl ?_
          refine XS.bipush P.here hx rfl (dc at_375) ?_
          exact XS.bipush P.here hx rfl (dc at_377) kQ
        refine P.stC hx V_b11 (j := (84 : Int32)) (by decide) (own_lt (i := 84) (by omega) (by omega)) (i := 84) (by decide) (by rw [List.length_map, h_xs38]; omega) rfl rfl (dc at_379) g_b11 fun T h56 P W V' => ?_
        replace V_b8 := V_b8.other W ne_b8_b11
        replace E_b9 := E_b9.wr W
        replace E_y := E_y.wr W
        replace V_y := V_y.other W (Or.inl ne_y_b11)
        replace C_y := C_y.other W (Or.inl ne_y_b11)
        replace A_y := A_y.other W ne_u_b11
        replace Z0 := Nat.le_trans Z0 (Keep.of_wr W).1
        replace OL := OL.wr W g_b11
        replace V_b11 := V'
        clear W V'
        show OwH p e below s _ _ _ _ _ _ T (mkF m 380 #[.val (.int p0), .val (.int p1), .val (.int p2), .val (.int p3), .val (.int p4), .val (.int p5), .val (.int (Int32.ofNat j)), .val (.int (Int32.ofNat n)), .val (.ref b8), .val (.ref b9), .val (.ref y), .val (.ref b11)] [])
        replace V_b11 : Arv Z h56 b11 kb11 .char (Int32.ofNat 85) ((xs38.set 84 41).map Value.int) (.int 0) := by
          have q := V_b11
          rw [own_narc ((by unfold own_ok; decide) : own_ok _).1 ((by unfold own_ok; decide) : own_ok _).2] at q
          rw [List.map_set]; exact q
        obtain ⟨xs39, e_xs39⟩ : ∃ z : List Int32, z = (xs38.set 84 41) := ⟨_, rfl⟩
        have h_xs39 : xs39.length = 85 := by rw [e_xs39, List.length_set]; exact h_xs38
        rw [← e_xs39] at V_b11
        refine OwH.ac (mkF m 382 #[.val (.int p0), .val (.int p1), .val (.int p2), .val (.int p3), .val (.int p4), .val (.int p5), .val (.int (Int32.ofNat j)), .val (.int (Int32.ofNat n)), .val (.ref b8), .val (.ref b9), .val (.ref y), .val (.ref b11)] [(.ref y)]) (fun tQ kQ => ?_) ?_
        · exact XS.aload P.here hx rfl (dc at_380) rfl rfl kQ
        have own_x : xs39 = ((((([] ++ ([34] : List Int32)) ++ ((own_n5 n q1 q2 q3 q4 q5).take 64)) ++ ([46, 46, 46, 34, 32, 40] : List Int32)) ++ [54, own_dz (Int32.ofNat n)]) ++ ([32, 99, 104, 97, 114, 97, 99, 116, 101, 114, 115, 41] : List Int32)) := by rw [e_xs39, e_xs38, e_xs37, e_xs36, e_xs35, e_xs34, e_xs33, e_xs32, e_xs31, e_xs30, e_xs29, e_xs28, e_xs27, e_xs26, e_xs25, e_xs24, e_xs23, e_xs22, e_xs21, e_xs20, e_xs19, e_xs18, e_xs17, e_xs16, e_xs15, e_xs14]; exact own_xq
        refine P.newO hx (own_w hw 1 rfl) (own_w hw 2 rfl) (own_w hw 3 rfl) rfl (dc at_382) (by first | omega | (dsimp only [room_1] <;> omega)) (by first | omega | (dsimp only [room_1] <;> omega)) fun T h57 b12 gb12 P E A D => ?_
        have ne_b8_b12 : b8 ≠ b12 := Nat.ne_of_lt (Nat.lt_of_lt_of_le V_b8.lt (Nat.le_of_eq gb12.symm))
        have ne_b12_b8 := Ne.symm ne_b8_b12
        have ne_b9_b12 : b9 ≠ b12 := Nat.ne_of_lt (Nat.lt_of_lt_of_le E_b9.lt (Nat.le_of_eq gb12.symm))
        have ne_b12_b9 := Ne.symm ne_b9_b12
        have ne_y_b12 : y ≠ b12 := Nat.ne_of_lt (Nat.lt_of_lt_of_le E_y.lt (Nat.le_of_eq gb12.symm))
        have ne_b12_y := Ne.symm ne_y_b12
        have ne_u_b12 : u ≠ b12 := Nat.ne_of_lt (Nat.lt_of_lt_of_le A_y.lt (Nat.le_of_eq gb12.symm))
        have ne_b12_u := Ne.symm ne_u_b12
        have ne_b11_b12 : b11 ≠ b12 := Nat.ne_of_lt (Nat.lt_of_lt_of_le V_b11.lt (Nat.le_of_eq gb12.symm))
        have ne_b12_b11 := Ne.symm ne_b11_b12
        have g_b12 : n0 ≤ b12 := Nat.le_trans Z0 (Nat.le_of_eq gb12.symm)
        replace V_b8 := V_b8.ext E
        replace E_b9 := E_b9.ext E
        replace E_y := E_y.ext E
        replace V_y := V_y.ext E
        replace C_y := C_y.ext E
        replace A_y := A_y.ext E
        replace V_b11 := V_b11.ext E
        replace Z0 := Nat.le_trans Z0 E.1
        replace OL := OL.ext E
        have E_b12 := A
        have F_value_b12 : Fld Z h57 b12 "java/lang/String" "value" "[B" .null := D (Or.inr (own_w hw 16 rfl)) (ty := (.array .byte)) (by decide)
        have F_coder_b12 : Fld Z h57 b12 "java/lang/String" "coder" "B" (.int 0) := D (Or.inr (own_w hw 17 rfl)) (ty := .byte) (by decide)
        clear A D E
        show OwH p e below s _ _ _ _ _ _ T (mkF m 385 #[.val (.int p0), .val (.int p1), .val (.int p2), .val (.int p3), .val (.int p4), .val (.int p5), .val (.int (Int32.ofNat j)), .val (.int (Int32.ofNat n)), .val (.ref b8), .val (.ref b9), .val (.ref y), .val (.ref b11)] [(.ref b12), (.ref y)])
        refine OwH.ac (mkF m 388 #[.val (.int p0), .val (.int p1), .val (.int p2), .val (.int p3), .val (.int p4), .val (.int p5), .val (.int (Int32.ofNat j)), .val (.int (Int32.ofNat n)), .val (.ref b8), .val (.ref b9), .val (.ref y), .val (.ref b11)] [(.ref b11), (.ref b12), (.ref b12), (.ref y)]) (fun tQ kQ => ?_) ?_
        · refine XS.dup P.here hx rfl (dc at_385) rfl rfl ?_
          exact XS.aload P.here hx rfl (dc at_386) rfl rfl kQ
        have hpX : ∀ c ∈ xs39, ¬ c < 0 ∧ ¬ (65535 : Int32) < c := by rw [own_x]; exact (own_ab (own_ab (own_ab (own_ab (own_ab own_a0 (by decide)) (fun c hc => hpN c (List.mem_of_mem_take hc))) (by decide)) (own_dzb own_z)) (by decide))
        refine P.special hx rfl (own_w hw 4 rfl) (own_w hw 5 rfl) (own_w hw 6 rfl) (by decide) (fun vm0 hZ => OwM.back (s := s.setVm vm0) (W := 2) (rmN1 l Z a0 hw b12 b11 kb11 _ 85 xs39 zC h57 n0 Z0 SA SH SL S2 hzC OL V_b11 h_xs39 (by omega) (by omega) hpX g_b12 E_b12 F_coder_b12 F_value_b12 ne_b12_b11) hZ (own_w hw 6 rfl) (own_w hw 3 rfl) (own_le rfl) (own_le rfl)) (fun _ _ _ q => q.2) (ws := [b12]) (fun _ _ _ q => q.1.2.1) (allS (Or.inl (by simp)) all0) rfl (by rw [hml]; rfl) (a := b12) (argsL := [(.ref b11)]) (rest := [(.ref b12), (.ref y)]) (lenOf pd___C_V rfl) rfl (own_le rfl) (dc at_388) rfl (by first | omega | (dsimp only [room_1] <;> omega)) (by first | omega | (dsimp only [room_1] <;> omega)) fun T own_v own_L h58 own_e P own_q => ?_
        obtain ⟨⟨rfl, K, t12, kt12, cd12, N12, ws12, -, V_12, C_12, A_12, hc12⟩, -⟩ := own_q
        clear own_e
        replace V_b8 := V_b8.keep K (ninS ne_b8_b12 nin0)
        replace E_b9 := E_b9.keep K
        replace E_y := E_y.keep K
        replace V_y := V_y.keep K (ninS ne_y_b12 nin0)
        replace C_y := C_y.keep K (ninS ne_y_b12 nin0)
        replace A_y := A_y.keep K (ninS ne_u_b12 nin0)
        replace V_b11 := V_b11.keep K (ninS ne_b11_b12 nin0)
        replace E_b12 := E_b12.keep K
        replace Z0 := Nat.le_trans Z0 K.1
        replace OL := OL.keep K (allS g_b12 all0)
        show OwH p e below s _ _ _ _ _ _ T (mkF m 391 #[.val (.int p0), .val (.int p1), .val (.int p2), .val (.int p3), .val (.int p4), .val (.int p5), .val (.int (Int32.ofNat j)), .val (.int (Int32.ofNat n)), .val (.ref b8), .val (.ref b9), .val (.ref y), .val (.ref b11)] [(.ref b12), (.ref y)])
        refine P.virtual hx (own_w hw 153 rfl) (own_w hw 154 rfl) (fun vm0 hZ => notFace_of_selects (args := #[]) (mvT (s := s.setVm vm0) hZ (own_w hw 156 rfl))) (own_w hw 156 rfl) (own_w hw 155 rfl) (by decide) (fun vm0 hZ => own_eqB (s := s.setVm vm0) (W := 0) (n0 := n0) hZ hw E_y V_y C_y A_y hcy (own_ab (own_ab (own_ab (own_ab (own_ab own_a0 (by decide)) (fun c hc => hpN c (List.mem_of_mem_take hc))) (by decide)) (own_dzb own_z)) (by decide)) (by rw [← own_x, h_xs39]; omega) E_b12 V_12 C_12 A_12 hc12 hpX (by rw [h_xs39]; omega) (S2.ext OL.2) hzC (own_le rfl) (own_le rfl)) (fun _ _ _ q => q.2.2) (ws := []) (fun _ _ _ q => by rw [q.2.1]; exact Keep.refl _ _) all0 E_y rfl (by rw [hml]; rfl) (argsL := [(.ref b12)]) (rest := []) (lenOf pd__Ljava_lang_Object__Z rfl) rfl (own_le rfl) (dc at_391) rfl (by first | omega | (dsimp only [room_1] <;> omega)) (by first | omega | (dsimp only [room_1] <;> omega)) fun T own_v own_L h59 own_e P own_q => ?_
        obtain ⟨⟨i17, rfl, h17⟩, own_hh, -⟩ := own_q
        rw [own_hh] at P
        clear own_e own_hh
        show OwH p e below s _ _ _ _ _ _ T (mkF m 394 #[.val (.int p0), .val (.int p1), .val (.int p2), .val (.int p3), .val (.int p4), .val (.int p5), .val (.int (Int32.ofNat j)), .val (.int (Int32.ofNat n)), .val (.ref b8), .val (.ref b9), .val (.ref y), .val (.ref b11)] [(.int i17)])
        obtain rfl : i17 = 1 := h17.elim (fun q => q.1) (fun q => absurd own_x.symm q.2)
        show OwH p e below s _ _ _ _ _ _ T (mkF m 394 #[.val (.int p0), .val (.int p1), .val (.int p2), .val (.int p3), .val (.int p4), .val (.int p5), .val (.int (Int32.ofNat j)), .val (.int (Int32.ofNat n)), .val (.ref b8), .val (.ref b9), .val (.ref y), .val (.ref b11)] [(.int 1)])
        exact P.retN hEL hx hlk (t := .boolean) hret (by simp) (dc at_394) (by first | omega | (dsimp only [room_1] <;> omega)) (by first | omega | (dsimp only [room_1] <;> omega)) rfl
      by_cases hb64 : 64 < n
      ·skip
       refine OwH.ac (mkF m 95 #[.val (.int p0), .val (.int p1), .val (.int p2), .val (.int p3), .val (.int p4), .val (.int p5), .val (.int (Int32.ofNat j)), .val (.int (Int32.ofNat n)), .val (.ref b8), .unset, .unset, .unset] [(.int (p5.toUInt32.toUInt16.toUInt32.toInt32)), (.int 64), (.ref b8)]) (fun tQ kQ => ?_) ?_
       · refine XS.icmpNo P.here hx rfl (dc at_85) rfl (tlt (own_lt (i := 64) hb64 (by omega))).2.2.2 ?_
         refine XS.aload P.here hx rfl (dc at_88) rfl rfl ?_
         refine XS.bipush P.here hx rfl (dc at_90) ?_
         refine XS.iload P.here hx rfl (dc at_92) rfl ?_
         exact XS.i2c P.here hx rfl (dc at_94) rfl kQ
       rw [show (p5.toUInt32.toUInt16.toUInt32.toInt32) = q5 from own_c5]
       refine P.stC hx V_b8 (j := (64 : Int32)) (by decide) (own_lt (i := 64) (by omega) (by omega)) (i := 64) (by decide) (by rw [List.length_map, own_n4l]; omega) rfl rfl (dc at_95) g_b8 fun T h60 P W V' => ?_
       replace Z0 := Nat.le_trans Z0 (Keep.of_wr W).1
       replace OL := OL.wr W g_b8
       replace V_b8 := V'
       clear W V'
       show OwH p e below s _ _ _ _ _ _ T (mkF m 96 #[.val (.int p0), .val (.int p1), .val (.int p2), .val (.int p3), .val (.int p4), .val (.int p5), .val (.int (Int32.ofNat j)), .val (.int (Int32.ofNat n)), .val (.ref b8), .unset, .unset, .unset] [])
       replace V_b8 : Arv Z h60 b8 kb8 .char (Int32.ofNat n) (((own_n4 n q1 q2 q3 q4).set 64 q5).map Value.int) (.int 0) := by
         have q := V_b8
         rw [own_narc (hq5 : own_ok _).1 (hq5 : own_ok _).2] at q
         rw [List.map_set]; exact q
       exact k96 T h60  (P.wide (own_le rfl) (own_le rfl) (allS (List.mem_of_getElem? (i := 0) rfl) all0)) Z0 OL (by unfold own_n5; rw [if_pos hb64]; exact V_b8)
      ·skip
       refine OwH.ac (mkF m 96 #[.val (.int p0), .val (.int p1), .val (.int p2), .val (.int p3), .val (.int p4), .val (.int p5), .val (.int (Int32.ofNat j)), .val (.int (Int32.ofNat n)), .val (.ref b8), .unset, .unset, .unset] []) (fun tQ kQ => ?_) ?_
       · exact XS.icmpYes P.here hx rfl (pc0 := 85) (pc' := 96) rfl (dc at_85) rfl (flt (own_nlt (i := 64) (by omega) (by omega))).2.2.2 (by decide) (by decide) kQ
       exact k96 T hJ_k81  (P.wide (own_le rfl) (own_le rfl) (allS (List.mem_of_getElem? (i := 0) rfl) all0)) Z0 OL (by unfold own_n5; rw [if_neg hb64]; exact V_b8)
     by_cases hb63 : 63 < n
     ·skip
      refine OwH.ac (mkF m 80 #[.val (.int p0), .val (.int p1), .val (.int p2), .val (.int p3), .val (.int p4), .val (.int p5), .val (.int (Int32.ofNat j)), .val (.int (Int32.ofNat n)), .val (.ref b8), .unset, .unset, .unset] [(.int (p4.toUInt32.toUInt16.toUInt32.toInt32)), (.int 63), (.ref b8)]) (fun tQ kQ => ?_) ?_
      · refine XS.icmpNo P.here hx rfl (dc at_70) rfl (tlt (own_lt (i := 63) hb63 (by omega))).2.2.2 ?_
        refine XS.aload P.here hx rfl (dc at_73) rfl rfl ?_
        refine XS.bipush P.here hx rfl (dc at_75) ?_
        refine XS.iload P.here hx rfl (dc at_77) rfl ?_
        exact XS.i2c P.here hx rfl (dc at_79) rfl kQ
      rw [show (p4.toUInt32.toUInt16.toUInt32.toInt32) = q4 from own_c4]
      refine P.stC hx V_b8 (j := (63 : Int32)) (by decide) (own_lt (i := 63) (by omega) (by omega)) (i := 63) (by decide) (by rw [List.length_map, own_n3l]; omega) rfl rfl (dc at_80) g_b8 fun T h61 P W V' => ?_
      replace Z0 := Nat.le_trans Z0 (Keep.of_wr W).1
      replace OL := OL.wr W g_b8
      replace V_b8 := V'
      clear W V'
      show OwH p e below s _ _ _ _ _ _ T (mkF m 81 #[.val (.int p0), .val (.int p1), .val (.int p2), .val (.int p3), .val (.int p4), .val (.int p5), .val (.int (Int32.ofNat j)), .val (.int (Int32.ofNat n)), .val (.ref b8), .unset, .unset, .unset] [])
      replace V_b8 : Arv Z h61 b8 kb8 .char (Int32.ofNat n) (((own_n3 n q1 q2 q3).set 63 q4).map Value.int) (.int 0) := by
        have q := V_b8
        rw [own_narc (hq4 : own_ok _).1 (hq4 : own_ok _).2] at q
        rw [List.map_set]; exact q
      exact k81 T h61  (P.wide (own_le rfl) (own_le rfl) (allS (List.mem_of_getElem? (i := 0) rfl) all0)) Z0 OL (by unfold own_n4; rw [if_pos hb63]; exact V_b8)
     ·skip
      refine OwH.ac (mkF m 81 #[.val (.int p0), .val (.int p1), .val (.int p2), .val (.int p3), .val (.int p4), .val (.int p5), .val (.int (Int32.ofNat j)), .val (.int (Int32.ofNat n)), .val (.ref b8), .unset, .unset, .unset] []) (fun tQ kQ => ?_) ?_
      · exact XS.icmpYes P.here hx rfl (pc0 := 70) (pc' := 81) rfl (dc at_70) rfl (flt (own_nlt (i := 63) (by omega) (by omega))).2.2.2 (by decide) (by decide) kQ
      exact k81 T hJ_k66  (P.wide (own_le rfl) (own_le rfl) (allS (List.mem_of_getElem? (i := 0) rfl) all0)) Z0 OL (by unfold own_n4; rw [if_neg hb63]; exact V_b8)
    by_cases hb30 : 30 < n
    ·skip
     refine OwH.ac (mkF m 65 #[.val (.int p0), .val (.int p1), .val (.int p2), .val (.int p3), .val (.int p4), .val (.int p5), .val (.int (Int32.ofNat j)), .val (.int (Int32.ofNat n)), .val (.ref b8), .unset, .unset, .unset] [(.int (p3.toUInt32.toUInt16.toUInt32.toInt32)), (.int 30), (.ref b8)]) (fun tQ kQ => ?_) ?_
     · refine XS.icmpNo P.here hx rfl (dc at_56) rfl (tlt (own_lt (i := 30) hb30 (by omega))).2.2.2 ?_
       refine XS.aload P.here hx rfl (dc at_59) rfl rfl ?_
       refine XS.bipush P.here hx rfl (dc at_61) ?_
       refine XS.iloadN P.here hx rfl (dc at_63) rfl ?_
       exact XS.i2c P.here hx rfl (dc at_64) rfl kQ
     rw [show (p3.toUInt32.toUInt16.toUInt32.toInt32) = q3 from own_c3]
     refine P.stC hx V_b8 (j := (30 : Int32)) (by decide) (own_lt (i := 30) (by omega) (by omega)) (i := 30) (by decide) (by rw [List.length_map, List.length_set, List.length_set, List.length_replicate]; omega) rfl rfl (dc at_65) g_b8 fun T h62 P W V' => ?_
     replace Z0 := Nat.le_trans Z0 (Keep.of_wr W).1
     replace OL := OL.wr W g_b8
     replace V_b8 := V'
     clear W V'
     show OwH p e below s _ _ _ _ _ _ T (mkF m 66 #[.val (.int p0), .val (.int p1), .val (.int p2), .val (.int p3), .val (.int p4), .val (.int p5), .val (.int (Int32.ofNat j)), .val (.int (Int32.ofNat n)), .val (.ref b8), .unset, .unset, .unset] [])
     replace V_b8 : Arv Z h62 b8 kb8 .char (Int32.ofNat n) (((((List.replicate n (0 : Int32)).set 0 q1).set (n - 1) q2).set 30 q3).map Value.int) (.int 0) := by
       have q := V_b8
       rw [own_narc (hq3 : own_ok _).1 (hq3 : own_ok _).2] at q
       rw [List.map_set]; exact q
     exact k66 T h62  (P.wide (own_le rfl) (own_le rfl) (allS (List.mem_of_getElem? (i := 0) rfl) all0)) Z0 OL (by unfold own_n3; rw [if_pos hb30]; exact V_b8)
    ·skip
     refine OwH.ac (mkF m 66 #[.val (.int p0), .val (.int p1), .val (.int p2), .val (.int p3), .val (.int p4), .val (.int p5), .val (.int (Int32.ofNat j)), .val (.int (Int32.ofNat n)), .val (.ref b8), .unset, .unset, .unset] []) (fun tQ kQ => ?_) ?_
     · exact XS.icmpYes P.here hx rfl (pc0 := 56) (pc' := 66) rfl (dc at_56) rfl (flt (own_nlt (i := 30) (by omega) (by omega))).2.2.2 (by decide) (by decide) kQ
     exact k66 T h16  (P.wide (own_le rfl) (own_le rfl) (allS (List.mem_of_getElem? (i := 0) rfl) all0)) Z0 OL (by unfold own_n3; rw [if_neg hb30]; exact V_b8)
  by_cases hc11 : (p0 &&& (1 : Int32)) = (0 : Int32)
  ·skip
   refine OwH.ac (mkF m 24 #[.val (.int p0), .val (.int p1), .val (.int p2), .val (.int p3), .val (.int p4), .val (.int p5), .val (.int (Int32.ofNat j)), .unset, .unset, .unset, .unset, .unset] [(.int (Int32.ofNat j))]) (fun tQ kQ => ?_) ?_
   · refine XS.ifNo P.here hx rfl (dc at_11) rfl ((if0 _ _).trans (teq hc11).2) ?_
     refine XS.iload P.here hx rfl (dc at_14) rfl ?_
     exact XS.goto P.here hx rfl (pc0 := 16) (pc' := 24) rfl (dc at_16) (by decide) (by decide) kQ
   exact k24 T h0 j (P.wide (own_le rfl) (own_le rfl) all0) Z0 OL (Or.inl hj)
  ·skip
   refine OwH.ac (mkF m 24 #[.val (.int p0), .val (.int p1), .val (.int p2), .val (.int p3), .val (.int p4), .val (.int p5), .val (.int (Int32.ofNat j)), .unset, .unset, .unset, .unset, .unset] [(.int ((60 : Int32) + (Int32.ofNat j)))]) (fun tQ kQ => ?_) ?_
   · refine XS.ifYes P.here hx rfl (pc0 := 11) (pc' := 19) rfl (dc at_11) rfl ((if0 _ _).trans (feq hc11).2) (by decide) (by decide) ?_
     refine XS.bipush P.here hx rfl (dc at_19) ?_
     refine XS.iload P.here hx rfl (dc at_21) rfl ?_
     exact XS.iadd P.here hx rfl (dc at_23) rfl kQ
   rw [show ((60 : Int32) + (Int32.ofNat j)) = (Int32.ofNat (60 + j)) from own_addn 60 j]
   exact k24 T h0 (60 + j) (P.wide (own_le rfl) (own_le rfl) all0) Z0 OL (Or.inr ⟨by omega, by omega⟩)
set_option maxRecDepth 65536 in
set_option maxHeartbeats 40000000 in
theorem comes_1 {Post : Tables → Env → Array Value → State → Outcome → State → Prop} (hpost : ∀ tb e args s v u, (limb_1_1.after args s (.returned v) u = true ∧ limb_1_2.after args s (.returned v) u = true ∧ True) → ReturnedEndW s (.returned v) u (Jvm.fieldLocs frame_1_writes args s ++ Jvm.arrayLocs frame_1_arrays args s ++ Jvm.staticLocs frame_1_statics s) 56 7168 → Post tb e args s (.returned v) u) :
    ArmFor flags0 classFile x code maxLocals ret World_1 tables_1 room_1 Calls_1 rest_1 Pre_1 Post := by
  intro l hfl _ _ p e ha hc hk s m args below hf hA hF happ hP
  obtain ⟨hcalls, hrest, hpre⟩ := hP
  obtain ⟨-, -, -, hnamed, -, -, -, hat⟩ := (Spec.applies_iff hf).mp happ
  obtain ⟨hg, hn⟩ := and_e (Cond.before_iff.mp (show (Jvm.Cond.and given_1 narrow_1).before args s = true from hpre))
  obtain ⟨g1, g2⟩ := and_e hg
  obtain ⟨g3, g4⟩ := and_e g2
  obtain ⟨g5, g6⟩ := and_e g4
  obtain ⟨g7, g8⟩ := and_e g6
  obtain ⟨g9, g10⟩ := and_e g8
  obtain ⟨g11, g12⟩ := and_e g10
  obtain ⟨w0, w1, w2, w3, w4, w5, rfl⟩ : ∃ w0 w1 w2 w3 w4 w5 : Value, args = #[w0, w1, w2, w3, w4, w5] := by
    have hs : args.size = 6 := by simpa [Cond.value, given_1] using g1
    obtain ⟨L⟩ := args
    match L, hs with
    | [w0, w1, w2, w3, w4, w5], _ => exact ⟨w0, w1, w2, w3, w4, w5, rfl⟩
  have hw := fun d (hd : d ∈ tables_1) => atoms_spec (ws := Jvm.Cond.code x code maxLocals ret :: tables_1) hat d (List.mem_cons_of_mem _ hd)
  have hfit : Fit s := fun {y c} hc i hi => by
    obtain ⟨ha, rfl⟩ := Array.getElem?_eq_some_iff.mp hc
    have q := List.all_eq_true.mp ((Array.all_eq_true_iff_forall_mem.mp hF) _ (Array.getElem_mem ha)) i (List.mem_range.mpr hi)
    simpa [Array.getElem?_eq_getElem hi] using q
  obtain ⟨hsets, hown0⟩ := atoms_of _ (rest_1_c_eq ▸ (show rest_1_c.before _ s = true from hrest))
  have hr0 := Cond.before_iff.mp hown0
  obtain ⟨i0, ei0⟩ := is_v g3
  obtain rfl : w0 = (.int i0) := Option.some.inj ei0
  obtain ⟨i1, ei1⟩ := is_v g5
  obtain rfl : w1 = (.int i1) := Option.some.inj ei1
  obtain ⟨i2, ei2⟩ := is_v g7
  obtain rfl : w2 = (.int i2) := Option.some.inj ei2
  obtain ⟨i3, ei3⟩ := is_v g9
  obtain rfl : w3 = (.int i3) := Option.some.inj ei3
  obtain ⟨i4, ei4⟩ := is_v g11
  obtain rfl : w4 = (.int i4) := Option.some.inj ei4
  obtain ⟨i5, ei5⟩ := is_v g12
  obtain rfl : w5 = (.int i5) := Option.some.inj ei5
  have n5 := not_v (Cond.before_iff.mp (hsets _ (List.mem_of_getElem? (i := 2) rfl)))
  obtain ⟨zC, ezC⟩ := is_v (Cond.before_iff.mp (hsets _ (List.mem_of_getElem? (i := 1) rfl)))
  have S2 : Sta s s.heap "java/lang/String" "COMPACT_STRINGS" "Z" (.int zC) := Sta.start ezC (Or.inl (hsets _ (List.mem_of_getElem? (i := 0) rfl)))
  have hzC : ¬ (zC = (0 : Int32)) := gotF (Cond.eq_ints ezC (Term.int_eval (0))) n5
  obtain ⟨fm, efm, rf⟩ := isR_v (Cond.before_iff.mp (hsets _ (List.mem_of_getElem? (i := 8) rfl)))
  have SF : Sta s s.heap "jdk/internal/util/Preconditions" "SIOOBE_FORMATTER" "Ljava/util/function/BiFunction;" fm := Sta.start efm (Or.inl (hsets _ (List.mem_of_getElem? (i := 7) rfl)))
  have SA : Sta s s.heap "java/lang/StringUTF16" "$assertionsDisabled" "Z" (.int 1) := Sta.start (own_eqv (Cond.before_iff.mp (hsets _ (List.mem_of_getElem? (i := 23) rfl)))) (Or.inl (hsets _ (List.mem_of_getElem? (i := 22) rfl)))
  have SH : Sta s s.heap "java/lang/StringUTF16" "HI_BYTE_SHIFT" "I" (.int 0) := Sta.start (own_eqv (Cond.before_iff.mp (hsets _ (List.mem_of_getElem? (i := 26) rfl)))) (Or.inl (hsets _ (List.mem_of_getElem? (i := 25) rfl)))
  have SL : Sta s s.heap "java/lang/StringUTF16" "LO_BYTE_SHIFT" "I" (.int 8) := Sta.start (own_eqv (Cond.before_iff.mp (hsets _ (List.mem_of_getElem? (i := 29) rfl)))) (Or.inl (hsets _ (List.mem_of_getElem? (i := 28) rfl)))
  obtain ⟨d1, k1, ed1, VD1⟩ := own_tab (f := "DigitOnes") (cs := own_i1) (by decide +kernel) (own_w hw 15 rfl) (hsets _ (List.mem_of_getElem? (i := 12) rfl)) (hsets _ (List.mem_of_getElem? (i := 13) rfl)) (hsets _ (List.mem_of_getElem? (i := 14) rfl)) own_h1 (by decide +kernel)
  have SD1 : Sta s s.heap "java/lang/Integer" "DigitOnes" "[B" (.ref d1) := Sta.start ed1 (Or.inl (hsets _ (List.mem_of_getElem? (i := 11) rfl)))
  obtain ⟨d2, k2, ed2, VD2⟩ := own_tab (f := "DigitTens") (cs := own_i2) (by decide +kernel) (own_w hw 15 rfl) (hsets _ (List.mem_of_getElem? (i := 17) rfl)) (hsets _ (List.mem_of_getElem? (i := 18) rfl)) (hsets _ (List.mem_of_getElem? (i := 19) rfl)) own_h2 (by decide +kernel)
  have SD2 : Sta s s.heap "java/lang/Integer" "DigitTens" "[B" (.ref d2) := Sta.start ed2 (Or.inl (hsets _ (List.mem_of_getElem? (i := 16) rfl)))
  have hCH : CHv s own_EL s.vm s.heap := CHv.start (own_EW hw) (fun q hq => hcalls.1 q (by revert q; decide)) (hsets _ (List.mem_of_getElem? (i := 2) rfl)) (own_w hw 15 rfl) (own_w hw 2 rfl)
  obtain ⟨n, o, h1, h2, h3, _, L, rfl, ⟨rfl, N⟩, -, hq⟩ := rm0 l s _ hw tables_1 i0 i1 i2 i3 i4 i5 zC fm d1 d2 k1 k2 s.heap s.heap.size (Nat.le_refl _) SA SH SL SF rf S2 hzC (Old.start s) SD1 VD1 SD2 VD2 p e ha hc hk s m _ below hf ((Spec.applies_iff_loose hf).mp happ).1 ⟨rfl, State.Warmed39.refl s, rfl, hCH, fun x hx => nomatch hx⟩ trivial
  refine ⟨n, _, h1, h2, h3, hpost _ _ _ _ _ _ ⟨Cond.after_iff.mpr rfl, Cond.after_iff.mpr (eq_i res_at (Term.int_eval (1)) rfl), trivial⟩ ⟨hq.1, hq.2.1, hq.2.2.1, (hq.2.2.2.sift fun y hy => Or.inr (N y hy)).mono (by decide) (by decide)⟩⟩
theorem main_1_1 : Claimed_1_1 := comes_1 fun _ _ _ _ _ _ h hF => ⟨h.1, hF⟩
theorem main_1_2 : Claimed_1_2 := comes_1 fun _ _ _ _ _ _ h hF => ⟨h.2.1, hF⟩
end Jvm.Pilot.@@N@@
namespace Jvm.Pilot.@@N@@
open Jvm Jvm.ClassFile Sem Op Lib Jvm.Free Jvm.Stand Jvm.Pilot.@@N@@.Jvm.D
/-! MADE BY PROGRAM (witnessworld.py) out of the Statement's table words and the real class files: 29 classes; the members and pool entries that the words name. The judged class is class 1, her method 1. -/
namespace start1
open Jvm.ClassFile
def u (s : String) : CpInfo := .utf8 (stringToUtf16 s)
/-- a pool by its gaps: so many unusable entries, then the entry; so many at the end -/
def gap : Nat → List CpInfo → List CpInfo
  | 0, r => r
  | n + 1, r => .unusable :: gap n r
def poolList (es : List (Nat × CpInfo)) (last : Nat) : List CpInfo := es.foldr (fun e r => gap e.1 (e.2 :: r)) (gap last [])
def pool (es : List (Nat × CpInfo)) (last : Nat) : Array CpInfo := ⟨poolList es last⟩
def fileOf (pool : Array CpInfo) (this : Nat) (attrs : Array Attribute := #[]) (ms : Array MethodInfo := #[]) (fl : Nat := 33) (sup : Nat := 0) (ifs : Array Nat := #[]) (fds : Array FieldInfo := #[]) : ClassFile where
  minorVersion := 0
  majorVersion := 65
  constantPool := pool
  accessFlags := fl
  thisClass := this
  superClass := sup
  interfaces := ifs
  fields := fds
  methods := ms
  attributes := attrs
def plain (name : String) (sup : Option ClassId) : Class where
  name := name
  kind := .ordinary
  loader := none
  accessFlags := 33
  super := sup
  interfaces := #[]
  cf := none
  fields := #[]
  methods := #[]
  instanceTypes := #[]
  staticTypes := #[]
  resolved := #[]
  callSites := []
  init := .initialized
  statics := none
  mirror := none

def pool0 : Array CpInfo := pool [(5, u "<init>"), (0, u "()V"), (1, .class_ 10), (1, u "java/lang/Object")] 113

def k0c0 : Code := { maxStack := 0, maxLocals := 1, code := object_method_1_code, exceptionTable := #[], attributes := #[] }
def k0m0 : Method := { name := "<init>", desc := "()V", sig := { parameters := [], returnType := none }, accessFlags := 1, code := some k0c0 }
/-- java/lang/Object -/
def k0 : Class := { plain "java/lang/Object" none with
  accessFlags := 33
  interfaces := #[]
  cf := some (fileOf pool0 8 #[] #[{ accessFlags := 1, nameIndex := 5, descriptorIndex := 6, attributes := #[] }] 33 0 #[] #[])
  fields := #[]
  methods := #[k0m0]
  instanceTypes := #[]
  staticTypes := #[]
  resolved := Array.replicate 124 none
  statics := none }

def pool1 : Array CpInfo := pool [(2, .class_ 4), (1, u "java/lang/Object"), (0, u "<init>"), (0, u "()V"), (0, .class_ 8), (0, u "java/lang/String"), (0, .methodref 7 10), (0, .nameAndType 5 11), (0, u "([C)V"), (0, .methodref 13 14), (0, .class_ 15), (0, .nameAndType 16 17), (0, u "com/example/background_task_queue/backgroundtaskqueue/NameRule"), (0, u "quote"), (0, u "(Ljava/lang/String;)Ljava/lang/String;"), (0, .methodref 19 20), (0, .class_ 21), (0, .nameAndType 22 23), (0, u "com/example/background_task_queue/backgroundtaskqueue/NameRuleQuotePinLaw"), (0, u "copy"), (0, u "([C[CI)V"), (0, .methodref 7 25), (0, .nameAndType 26 27), (0, u "equals"), (0, u "(Ljava/lang/Object;)Z"), (2, u "law"), (0, u "(IIIIII)Z")] 5

def k1m0 : Method := { name := "<init>", desc := "()V", sig := { parameters := [], returnType := none }, accessFlags := 1, code := none }
def k1c1 : Code := { maxStack := 5, maxLocals := 12, code := code, exceptionTable := #[], attributes := #[] }
def k1m1 : Method := { name := "law", desc := "(IIIIII)Z", sig := { parameters := [.int, .int, .int, .int, .int, .int], returnType := some .boolean }, accessFlags := 9, code := some k1c1 }
def k1c2 : Code := { maxStack := 4, maxLocals := 3, code := method_3_code, exceptionTable := #[], attributes := #[] }
def k1m2 : Method := { name := "copy", desc := "([C[CI)V", sig := { parameters := [(.array .char), (.array .char), .int], returnType := none }, accessFlags := 10, code := some k1c2 }
/-- com/example/background_task_queue/backgroundtaskqueue/NameRuleQuotePinLaw -/
def k1 : Class := { plain "com/example/background_task_queue/backgroundtaskqueue/NameRuleQuotePinLaw" (some 0) with
  accessFlags := 49
  interfaces := #[]
  cf := some (fileOf pool1 19 #[] #[{ accessFlags := 1, nameIndex := 5, descriptorIndex := 6, attributes := #[] }, { accessFlags := 9, nameIndex := 30, descriptorIndex := 31, attributes := #[] }, { accessFlags := 10, nameIndex := 22, descriptorIndex := 23, attributes := #[] }] 49 2 #[] #[])
  fields := #[]
  methods := #[k1m0, k1m1, k1m2]
  instanceTypes := #[]
  staticTypes := #[]
  resolved := Array.replicate 37 none
  statics := none }

def pool2 : Array CpInfo := pool [(1, .class_ 2), (0, u "java/io/Serializable"), (0, .class_ 4), (0, u "java/lang/Object")] 2

/-- java/io/Serializable -/
def k2 : Class := { plain "java/io/Serializable" (some 0) with
  accessFlags := 1537
  interfaces := #[]
  cf := some (fileOf pool2 1 #[] #[] 1537 3 #[] #[])
  fields := #[]
  methods := #[]
  instanceTypes := #[]
  staticTypes := #[]
  resolved := Array.replicate 7 none
  statics := none }

def pool3 : Array CpInfo := pool [(1, .class_ 2), (0, u "java/lang/Comparable"), (0, .class_ 4), (0, u "java/lang/Object")] 7

/-- java/lang/Comparable -/
def k3 : Class := { plain "java/lang/Comparable" (some 0) with
  accessFlags := 1537
  interfaces := #[]
  cf := some (fileOf pool3 1 #[] #[] 1537 3 #[] #[])
  fields := #[]
  methods := #[]
  instanceTypes := #[]
  staticTypes := #[]
  resolved := Array.replicate 12 none
  statics := none }

def pool4 : Array CpInfo := pool [(2, .class_ 4), (1, u "java/lang/CharSequence"), (42, .class_ 48), (0, u "java/lang/CharSequence$1CodePointIterator"), (10, .class_ 60), (0, u "java/lang/CharSequence$1CharIterator"), (5, .class_ 67), (0, u "java/lang/Object")] 63

/-- java/lang/CharSequence -/
def k4 : Class := { plain "java/lang/CharSequence" (some 0) with
  accessFlags := 1537
  interfaces := #[]
  cf := some (fileOf pool4 2 #[.nestMembers #[47, 59]] #[] 1537 66 #[] #[])
  fields := #[]
  methods := #[]
  instanceTypes := #[]
  staticTypes := #[]
  resolved := Array.replicate 131 none
  statics := none }

def pool5 : Array CpInfo := pool [(1, .class_ 2), (0, u "java/lang/constant/Constable"), (0, .class_ 4), (0, u "java/lang/Object")] 6

/-- java/lang/constant/Constable -/
def k5 : Class := { plain "java/lang/constant/Constable" (some 0) with
  accessFlags := 1537
  interfaces := #[]
  cf := some (fileOf pool5 1 #[] #[] 1537 3 #[] #[])
  fields := #[]
  methods := #[]
  instanceTypes := #[]
  staticTypes := #[]
  resolved := Array.replicate 11 none
  statics := none }

def pool6 : Array CpInfo := pool [(1, .class_ 2), (0, u "java/lang/constant/ConstantDesc"), (0, .class_ 4), (0, u "java/lang/Object")] 32

/-- java/lang/constant/ConstantDesc -/
def k6 : Class := { plain "java/lang/constant/ConstantDesc" (some 0) with
  accessFlags := 1537
  interfaces := #[]
  cf := some (fileOf pool6 1 #[] #[] 1537 3 #[] #[])
  fields := #[]
  methods := #[]
  instanceTypes := #[]
  staticTypes := #[]
  resolved := Array.replicate 37 none
  statics := none }

def pool7 : Array CpInfo := pool [(1, .methodref 2 3), (0, .class_ 4), (0, .nameAndType 5 6), (0, u "java/lang/Object"), (0, u "<init>"), (0, u "()V"), (0, .string 8), (0, u ""), (0, .fieldref 10 11), (0, .class_ 12), (0, .nameAndType 13 14), (0, u "java/lang/String"), (0, u "value"), (0, u "[B"), (0, .fieldref 10 16), (0, .nameAndType 17 18), (0, u "coder"), (0, u "B"), (2, u "hash"), (0, u "I"), (2, u "hashIsZero"), (0, u "Z"), (0, .methodref 10 28), (0, .nameAndType 5 29), (0, u "([CIILjava/lang/Void;)V"), (6, u "checkBoundsOffCount"), (0, u "(III)I"), (0, .fieldref 10 39), (0, .nameAndType 40 26), (0, u "COMPACT_STRINGS"), (1, .class_ 44), (1, u "java/lang/StringUTF16"), (0, u "compress"), (1, .methodref 42 48), (0, .nameAndType 49 50), (0, u "coderFromArrayLen"), (0, u "([BI)B"), (3, .methodref 55 56), (0, .class_ 57), (0, .nameAndType 58 59), (0, u "java/util/Arrays"), (0, u "copyOfRange"), (0, u "([BII)[B"), (46, .methodref 107 108), (0, .class_ 109), (0, .nameAndType 110 111), (0, u "java/lang/StringLatin1"), (0, u "inflate"), (0, u "([BI[BII)V"), (30, u "()Z"), (34, .methodref 42 178), (0, .nameAndType 45 179), (0, u "([CII)[B"), (13, .class_ 195), (1, u "java/lang/System"), (15, u "([BB)V"), (0, .methodref 193 213), (0, .nameAndType 214 215), (0, u "arraycopy"), (0, u "(Ljava/lang/Object;ILjava/lang/Object;II)V"), (118, u "()I"), (0, .methodref 10 336), (0, .nameAndType 17 337), (0, u "()B"), (2, u "()[B"), (148, .methodref 10 490), (0, .nameAndType 5 491), (0, u "(Ljava/lang/AbstractStringBuilder;Ljava/lang/Void;)V"), (0, .methodref 10 493), (0, .nameAndType 494 142), (0, u "isLatin1"), (10, .methodref 10 506), (0, .nameAndType 507 334), (0, u "length"), (5, u "checkFromToIndex"), (7, .methodref 10 522), (0, .nameAndType 523 524), (0, u "checkBoundsBeginEnd"), (0, u "(III)V"), (7, u "getBytes"), (8, .methodref 107 542), (0, .nameAndType 543 544), (0, u "equals"), (0, u "([B[B)Z"), (4, .methodref 550 506), (0, .class_ 551), (0, u "java/lang/AbstractStringBuilder"), (0, .methodref 550 553), (0, .nameAndType 554 340), (0, u "getValue"), (18, u "(Ljava/lang/Object;)Z"), (1, .class_ 576), (0, u "java/lang/CharSequence"), (22, u "CASE_INSENSITIVE_ORDER"), (0, u "Ljava/util/Comparator;"), (82, u "substring"), (0, u "(II)Ljava/lang/String;"), (0, .methodref 107 686), (0, .nameAndType 687 688), (0, u "newString"), (0, u "([BII)Ljava/lang/String;"), (0, .methodref 42 686), (131, u "([BIB)V"), (188, u "([C)V"), (36, .methodref 550 493), (0, .fieldref 550 1049), (0, .nameAndType 1050 26), (0, u "maybeLatin1"), (2, .fieldref 1054 1055), (0, .class_ 1056), (0, .nameAndType 1057 1058), (0, u "jdk/internal/util/Preconditions"), (0, u "SIOOBE_FORMATTER"), (0, u "Ljava/util/function/BiFunction;"), (3, .methodref 1054 1063), (0, .nameAndType 513 1064), (0, u "(IIILjava/util/function/BiFunction;)I"), (0, .methodref 1054 1066), (0, .nameAndType 1067 1064), (0, u "checkFromIndexSize"), (33, u "serialPersistentFields"), (0, u "[Ljava/io/ObjectStreamField;"), (0, .class_ 1104), (0, u "java/lang/String$CaseInsensitiveComparator"), (1, .class_ 1107), (0, u "java/io/Serializable"), (0, .class_ 1109), (0, u "java/lang/Comparable"), (0, .class_ 1111), (0, u "java/lang/constant/Constable"), (0, .class_ 1113), (0, u "java/lang/constant/ConstantDesc"), (2, u "serialVersionUID"), (0, u "J"), (3, u "REPL"), (0, u "C"), (2, u "LATIN1"), (1, u "UTF16"), (105, u "(Ljava/lang/StringBuilder;)V")] 217

def k7m0 : Method := { name := "<init>", desc := "()V", sig := { parameters := [], returnType := none }, accessFlags := 1, code := none }
def k7c1 : Code := { maxStack := 5, maxLocals := 2, code := jdk_42_method_3_code, exceptionTable := #[], attributes := #[] }
def k7m1 : Method := { name := "<init>", desc := "([C)V", sig := { parameters := [(.array .char)], returnType := none }, accessFlags := 1, code := some k7c1 }
def k7c2 : Code := { maxStack := 3, maxLocals := 2, code := jdk_42_method_53_code, exceptionTable := #[], attributes := #[] }
def k7m2 : Method := { name := "<init>", desc := "(Ljava/lang/StringBuilder;)V", sig := { parameters := [(.object "java/lang/StringBuilder")], returnType := none }, accessFlags := 1, code := some k7c2 }
def k7c3 : Code := { maxStack := 2, maxLocals := 1, code := jdk_42_method_54_code, exceptionTable := #[], attributes := #[] }
def k7m3 : Method := { name := "length", desc := "()I", sig := { parameters := [], returnType := some .int }, accessFlags := 1, code := some k7c3 }
def k7c4 : Code := { maxStack := 2, maxLocals := 3, code := jdk_42_method_66_code, exceptionTable := #[], attributes := #[] }
def k7m4 : Method := { name := "equals", desc := "(Ljava/lang/Object;)Z", sig := { parameters := [(.object "java/lang/Object")], returnType := some .boolean }, accessFlags := 1, code := some k7c4 }
def k7c5 : Code := { maxStack := 3, maxLocals := 5, code := jdk_42_method_92_code, exceptionTable := #[], attributes := #[] }
def k7m5 : Method := { name := "substring", desc := "(II)Ljava/lang/String;", sig := { parameters := [.int, .int], returnType := some (.object "java/lang/String") }, accessFlags := 1, code := some k7c5 }
def k7c6 : Code := { maxStack := 5, maxLocals := 4, code := jdk_42_method_147_code, exceptionTable := #[], attributes := #[] }
def k7m6 : Method := { name := "getBytes", desc := "([BIB)V", sig := { parameters := [(.array .byte), .int, .byte], returnType := none }, accessFlags := 0, code := some k7c6 }
def k7c7 : Code := { maxStack := 4, maxLocals := 6, code := jdk_42_method_149_code, exceptionTable := #[], attributes := #[] }
def k7m7 : Method := { name := "<init>", desc := "([CIILjava/lang/Void;)V", sig := { parameters := [(.array .char), .int, .int, (.object "java/lang/Void")], returnType := none }, accessFlags := 2, code := some k7c7 }
def k7c8 : Code := { maxStack := 5, maxLocals := 5, code := jdk_42_method_150_code, exceptionTable := #[], attributes := #[] }
def k7m8 : Method := { name := "<init>", desc := "(Ljava/lang/AbstractStringBuilder;Ljava/lang/Void;)V", sig := { parameters := [(.object "java/lang/AbstractStringBuilder"), (.object "java/lang/Void")], returnType := none }, accessFlags := 0, code := some k7c8 }
def k7c9 : Code := { maxStack := 2, maxLocals := 3, code := jdk_42_method_151_code, exceptionTable := #[], attributes := #[] }
def k7m9 : Method := { name := "<init>", desc := "([BB)V", sig := { parameters := [(.array .byte), .byte], returnType := none }, accessFlags := 0, code := some k7c9 }
def k7c10 : Code := { maxStack := 1, maxLocals := 1, code := jdk_42_method_152_code, exceptionTable := #[], attributes := #[] }
def k7m10 : Method := { name := "coder", desc := "()B", sig := { parameters := [], returnType := some .byte }, accessFlags := 0, code := some k7c10 }
def k7c11 : Code := { maxStack := 1, maxLocals := 1, code := jdk_42_method_154_code, exceptionTable := #[], attributes := #[] }
def k7m11 : Method := { name := "isLatin1", desc := "()Z", sig := { parameters := [], returnType := some .boolean }, accessFlags := 0, code := some k7c11 }
def k7c12 : Code := { maxStack := 4, maxLocals := 3, code := jdk_42_method_157_code, exceptionTable := #[], attributes := #[] }
def k7m12 : Method := { name := "checkBoundsOffCount", desc := "(III)I", sig := { parameters := [.int, .int, .int], returnType := some .int }, accessFlags := 8, code := some k7c12 }
def k7c13 : Code := { maxStack := 4, maxLocals := 3, code := jdk_42_method_158_code, exceptionTable := #[], attributes := #[] }
def k7m13 : Method := { name := "checkBoundsBeginEnd", desc := "(III)V", sig := { parameters := [.int, .int, .int], returnType := none }, accessFlags := 8, code := some k7c13 }
/-- java/lang/String -/
def k7 : Class := { plain "java/lang/String" (some 0) with
  accessFlags := 49
  interfaces := #[2, 3, 4, 5, 6]
  cf := some (fileOf pool7 10 #[.nestMembers #[1103]] #[{ accessFlags := 1, nameIndex := 5, descriptorIndex := 6, attributes := #[] }, { accessFlags := 1, nameIndex := 5, descriptorIndex := 1010, attributes := #[] }, { accessFlags := 1, nameIndex := 5, descriptorIndex := 1233, attributes := #[] }, { accessFlags := 1, nameIndex := 507, descriptorIndex := 334, attributes := #[] }, { accessFlags := 1, nameIndex := 543, descriptorIndex := 573, attributes := #[] }, { accessFlags := 1, nameIndex := 683, descriptorIndex := 684, attributes := #[] }, { accessFlags := 0, nameIndex := 532, descriptorIndex := 821, attributes := #[] }, { accessFlags := 2, nameIndex := 5, descriptorIndex := 29, attributes := #[] }, { accessFlags := 0, nameIndex := 5, descriptorIndex := 491, attributes := #[] }, { accessFlags := 0, nameIndex := 5, descriptorIndex := 211, attributes := #[] }, { accessFlags := 0, nameIndex := 17, descriptorIndex := 337, attributes := #[] }, { accessFlags := 0, nameIndex := 494, descriptorIndex := 142, attributes := #[] }, { accessFlags := 8, nameIndex := 36, descriptorIndex := 37, attributes := #[] }, { accessFlags := 8, nameIndex := 523, descriptorIndex := 524, attributes := #[] }] 49 2 #[1106, 1108, 575, 1110, 1112] #[{ accessFlags := 18, nameIndex := 13, descriptorIndex := 14, attributes := #[] }, { accessFlags := 18, nameIndex := 17, descriptorIndex := 18, attributes := #[] }, { accessFlags := 2, nameIndex := 21, descriptorIndex := 22, attributes := #[] }, { accessFlags := 2, nameIndex := 25, descriptorIndex := 26, attributes := #[] }, { accessFlags := 26, nameIndex := 1116, descriptorIndex := 1117, attributes := #[] }, { accessFlags := 24, nameIndex := 40, descriptorIndex := 26, attributes := #[] }, { accessFlags := 26, nameIndex := 1101, descriptorIndex := 1102, attributes := #[] }, { accessFlags := 26, nameIndex := 1121, descriptorIndex := 1122, attributes := #[] }, { accessFlags := 25, nameIndex := 599, descriptorIndex := 600, attributes := #[] }, { accessFlags := 24, nameIndex := 1125, descriptorIndex := 18, attributes := #[] }, { accessFlags := 24, nameIndex := 1127, descriptorIndex := 18, attributes := #[] }])
  fields := #[{ name := "value", type := (.array .byte), accessFlags := 18, slot := 0, constantValue := 0 }, { name := "coder", type := .byte, accessFlags := 18, slot := 1, constantValue := 0 }, { name := "hash", type := .int, accessFlags := 2, slot := 2, constantValue := 0 }, { name := "hashIsZero", type := .boolean, accessFlags := 2, slot := 3, constantValue := 0 }, { name := "serialVersionUID", type := .long, accessFlags := 26, slot := 0, constantValue := 0 }, { name := "COMPACT_STRINGS", type := .boolean, accessFlags := 24, slot := 1, constantValue := 0 }, { name := "serialPersistentFields", type := (.array (.object "java/io/ObjectStreamField")), accessFlags := 26, slot := 2, constantValue := 0 }, { name := "REPL", type := .char, accessFlags := 26, slot := 3, constantValue := 0 }, { name := "CASE_INSENSITIVE_ORDER", type := (.object "java/util/Comparator"), accessFlags := 25, slot := 4, constantValue := 0 }, { name := "LATIN1", type := .byte, accessFlags := 24, slot := 5, constantValue := 0 }, { name := "UTF16", type := .byte, accessFlags := 24, slot := 6, constantValue := 0 }]
  methods := #[k7m0, k7m1, k7m2, k7m3, k7m4, k7m5, k7m6, k7m7, k7m8, k7m9, k7m10, k7m11, k7m12, k7m13]
  instanceTypes := #[(.array .byte), .byte, .int, .boolean]
  staticTypes := #[.long, .boolean, (.array (.object "java/io/ObjectStreamField")), .char, (.object "java/util/Comparator"), .byte, .byte]
  resolved := Array.replicate 1451 none
  statics := some 0 }

def pool8 : Array CpInfo := pool [(2, .class_ 4), (1, u "java/lang/Enum"), (0, u "name"), (0, u "Ljava/lang/String;"), (2, u "ordinal"), (0, u "I"), (1, .class_ 14), (1, u "java/lang/Object"), (4, u "hash"), (86, .class_ 108), (1, u "java/lang/Enum$EnumDesc"), (2, .class_ 112), (0, u "java/lang/constant/Constable"), (0, .class_ 114), (0, u "java/lang/Comparable"), (0, .class_ 116), (0, u "java/io/Serializable")] 87

/-- java/lang/Enum -/
def k8 : Class := { plain "java/lang/Enum" (some 0) with
  accessFlags := 1057
  interfaces := #[5, 3, 2]
  cf := some (fileOf pool8 2 #[.nestMembers #[106]] #[] 1057 12 #[111, 113, 115] #[{ accessFlags := 18, nameIndex := 5, descriptorIndex := 6, attributes := #[] }, { accessFlags := 18, nameIndex := 9, descriptorIndex := 10, attributes := #[] }, { accessFlags := 2, nameIndex := 19, descriptorIndex := 10, attributes := #[] }])
  fields := #[{ name := "name", type := (.object "java/lang/String"), accessFlags := 18, slot := 0, constantValue := 0 }, { name := "ordinal", type := .int, accessFlags := 18, slot := 1, constantValue := 0 }, { name := "hash", type := .int, accessFlags := 2, slot := 2, constantValue := 0 }]
  methods := #[]
  instanceTypes := #[(.object "java/lang/String"), .int, .int]
  staticTypes := #[]
  resolved := Array.replicate 204 none
  statics := none }

def pool9 : Array CpInfo := pool [(1, .class_ 2), (0, u "com/example/background_task_queue/backgroundtaskqueue/NameRule"), (2, u "QUEUE"), (0, u "Lcom/example/background_task_queue/backgroundtaskqueue/NameRule;"), (2, u "JOB_TYPE"), (2, u "JOB_ID"), (2, u "$VALUES"), (0, u "[Lcom/example/background_task_queue/backgroundtaskqueue/NameRule;"), (6, .class_ 25), (1, u "java/lang/Enum"), (4, u "<init>"), (3, u "what"), (0, u "Ljava/lang/String;"), (0, .class_ 37), (0, u "java/lang/StringBuilder"), (5, .methodref 36 44), (0, .nameAndType 30 45), (0, u "()V"), (1, .class_ 49), (1, u "java/lang/String"), (4, u "append"), (9, .methodref 36 65), (0, .nameAndType 54 66), (0, u "(Ljava/lang/String;)Ljava/lang/StringBuilder;"), (7, .methodref 36 75), (0, .nameAndType 54 76), (0, u "(I)Ljava/lang/StringBuilder;"), (2, .methodref 36 80), (0, .nameAndType 81 82), (0, u "toString"), (0, u "()Ljava/lang/String;"), (8, u "pattern"), (0, u "Ljava/util/regex/Pattern;"), (6, u "description"), (18, u "quote"), (0, u "(Ljava/lang/String;)Ljava/lang/String;"), (10, .methodref 47 131), (0, .nameAndType 132 133), (0, u "length"), (0, u "()I"), (0, .string 135), (0, u "\""), (0, .methodref 47 137), (0, .nameAndType 138 139), (0, u "substring"), (0, u "(II)Ljava/lang/String;"), (0, .string 141), (0, u "...\" ("), (0, .string 143), (0, u " characters)"), (20, u "MAX_QUOTED_LENGTH"), (0, u "I")] 17

def k9c0 : Code := { maxStack := 4, maxLocals := 1, code := prog_7_method_6_code, exceptionTable := #[], attributes := #[] }
def k9m0 : Method := { name := "quote", desc := "(Ljava/lang/String;)Ljava/lang/String;", sig := { parameters := [(.object "java/lang/String")], returnType := some (.object "java/lang/String") }, accessFlags := 8, code := some k9c0 }
/-- com/example/background_task_queue/backgroundtaskqueue/NameRule -/
def k9 : Class := { plain "com/example/background_task_queue/backgroundtaskqueue/NameRule" (some 8) with
  accessFlags := 16432
  interfaces := #[]
  cf := some (fileOf pool9 1 #[] #[{ accessFlags := 8, nameIndex := 118, descriptorIndex := 119, attributes := #[] }] 16432 23 #[] #[{ accessFlags := 16409, nameIndex := 5, descriptorIndex := 6, attributes := #[] }, { accessFlags := 16409, nameIndex := 9, descriptorIndex := 6, attributes := #[] }, { accessFlags := 16409, nameIndex := 12, descriptorIndex := 6, attributes := #[] }, { accessFlags := 26, nameIndex := 164, descriptorIndex := 165, attributes := #[] }, { accessFlags := 18, nameIndex := 34, descriptorIndex := 35, attributes := #[] }, { accessFlags := 18, nameIndex := 91, descriptorIndex := 92, attributes := #[] }, { accessFlags := 18, nameIndex := 99, descriptorIndex := 35, attributes := #[] }, { accessFlags := 4122, nameIndex := 15, descriptorIndex := 16, attributes := #[] }])
  fields := #[{ name := "QUEUE", type := (.object "com/example/background_task_queue/backgroundtaskqueue/NameRule"), accessFlags := 16409, slot := 0, constantValue := 0 }, { name := "JOB_TYPE", type := (.object "com/example/background_task_queue/backgroundtaskqueue/NameRule"), accessFlags := 16409, slot := 1, constantValue := 0 }, { name := "JOB_ID", type := (.object "com/example/background_task_queue/backgroundtaskqueue/NameRule"), accessFlags := 16409, slot := 2, constantValue := 0 }, { name := "MAX_QUOTED_LENGTH", type := .int, accessFlags := 26, slot := 3, constantValue := 0 }, { name := "what", type := (.object "java/lang/String"), accessFlags := 18, slot := 3, constantValue := 0 }, { name := "pattern", type := (.object "java/util/regex/Pattern"), accessFlags := 18, slot := 4, constantValue := 0 }, { name := "description", type := (.object "java/lang/String"), accessFlags := 18, slot := 5, constantValue := 0 }, { name := "$VALUES", type := (.array (.object "com/example/background_task_queue/backgroundtaskqueue/NameRule")), accessFlags := 4122, slot := 4, constantValue := 0 }]
  methods := #[k9m0]
  instanceTypes := #[(.object "java/lang/String"), .int, .int, (.object "java/lang/String"), (.object "java/util/regex/Pattern"), (.object "java/lang/String")]
  staticTypes := #[(.object "com/example/background_task_queue/backgroundtaskqueue/NameRule"), (.object "com/example/background_task_queue/backgroundtaskqueue/NameRule"), (.object "com/example/background_task_queue/backgroundtaskqueue/NameRule"), .int, (.array (.object "com/example/background_task_queue/backgroundtaskqueue/NameRule"))]
  resolved := Array.replicate 183 none
  statics := none }

def pool10 : Array CpInfo := pool [(1, .class_ 2), (0, u "java/lang/Appendable"), (0, .class_ 4), (0, u "java/lang/Object")] 9

/-- java/lang/Appendable -/
def k10 : Class := { plain "java/lang/Appendable" (some 0) with
  accessFlags := 1537
  interfaces := #[]
  cf := some (fileOf pool10 1 #[] #[] 1537 3 #[] #[])
  fields := #[]
  methods := #[]
  instanceTypes := #[]
  staticTypes := #[]
  resolved := Array.replicate 14 none
  statics := none }

def pool11 : Array CpInfo := pool [(1, .class_ 2), (0, u "java/lang/String"), (0, .methodref 4 5), (0, .class_ 6), (0, .nameAndType 7 8), (0, u "java/lang/Object"), (0, u "<init>"), (0, u "()V"), (1, .class_ 12), (1, u "java/lang/AbstractStringBuilder"), (0, u "EMPTYVALUE"), (0, u "[B"), (0, .fieldref 10 16), (0, .nameAndType 17 14), (0, u "value"), (0, .fieldref 1 19), (0, .nameAndType 20 21), (0, u "COMPACT_STRINGS"), (0, u "Z"), (0, .fieldref 10 23), (0, .nameAndType 24 25), (0, u "coder"), (0, u "B"), (0, .methodref 27 28), (0, .class_ 29), (0, .nameAndType 30 31), (0, u "java/lang/StringUTF16"), (0, u "newBytesFor"), (0, u "(I)[B"), (0, .methodref 1 33), (0, .nameAndType 34 35), (0, u "length"), (0, u "()I"), (0, .class_ 37), (0, u "java/lang/Integer"), (1, .integer 2147483647), (0, .methodref 1 41), (0, .nameAndType 24 42), (0, u "()B"), (2, u "append"), (0, u "(Ljava/lang/String;)Ljava/lang/AbstractStringBuilder;"), (1, .class_ 49), (0, u "java/lang/CharSequence"), (19, u "(Ljava/lang/String;)V"), (5, u "maybeLatin1"), (3, .fieldref 10 80), (0, .nameAndType 81 82), (0, u "count"), (0, u "I"), (0, .methodref 10 84), (0, .nameAndType 85 86), (0, u "isLatin1"), (0, u "()Z"), (1, .class_ 90), (1, u "java/lang/StringLatin1"), (9, .methodref 10 101), (0, .nameAndType 102 103), (0, u "ensureCapacityInternal"), (0, u "(I)V"), (0, .methodref 10 105), (0, .nameAndType 106 107), (0, u "newCapacity"), (0, u "(I)I"), (0, .methodref 109 110), (0, .class_ 111), (0, .nameAndType 112 113), (0, u "java/util/Arrays"), (0, u "copyOf"), (0, u "([BI)[B"), (0, .methodref 115 116), (0, .class_ 117), (0, .nameAndType 118 119), (0, u "jdk/internal/util/ArraysSupport"), (0, u "newLength"), (0, u "(III)I"), (5, .methodref 88 126), (0, .nameAndType 127 128), (0, u "inflate"), (0, u "([BI[BII)V"), (59, u "getChars"), (6, .methodref 10 196), (0, .nameAndType 127 8), (11, .methodref 10 209), (0, .nameAndType 210 211), (0, u "putStringAt"), (0, u "(ILjava/lang/String;)V"), (5, u "inflateIfNeededFor"), (2, .nameAndType 221 222), (0, u "getBytes"), (0, u "([BIB)V"), (22, .methodref 36 246), (0, .nameAndType 247 107), (0, u "stringSize"), (0, .methodref 36 249), (0, .nameAndType 188 250), (0, u "(II[B)I"), (0, .methodref 27 252), (0, .nameAndType 188 253), (0, u "(III[B)I"), (143, .methodref 10 398), (0, .nameAndType 217 69), (0, .methodref 1 220), (3, u "()[B"), (40, .class_ 445), (0, u "java/lang/Appendable"), (65, u "(I)Ljava/lang/AbstractStringBuilder;"), (40, u "getValue")] 56

def k11m0 : Method := { name := "<init>", desc := "()V", sig := { parameters := [], returnType := none }, accessFlags := 0, code := none }
def k11c1 : Code := { maxStack := 2, maxLocals := 2, code := jdk_68_method_2_code, exceptionTable := #[], attributes := #[] }
def k11m1 : Method := { name := "<init>", desc := "(I)V", sig := { parameters := [.int], returnType := none }, accessFlags := 0, code := some k11c1 }
def k11c2 : Code := { maxStack := 1, maxLocals := 1, code := jdk_68_method_6_code, exceptionTable := #[], attributes := #[] }
def k11m2 : Method := { name := "length", desc := "()I", sig := { parameters := [], returnType := some .int }, accessFlags := 1, code := some k11c2 }
def k11c3 : Code := { maxStack := 4, maxLocals := 3, code := jdk_68_method_9_code, exceptionTable := #[], attributes := #[] }
def k11m3 : Method := { name := "ensureCapacityInternal", desc := "(I)V", sig := { parameters := [.int], returnType := none }, accessFlags := 2, code := some k11c3 }
def k11c4 : Code := { maxStack := 5, maxLocals := 6, code := jdk_68_method_10_code, exceptionTable := #[], attributes := #[] }
def k11m4 : Method := { name := "newCapacity", desc := "(I)I", sig := { parameters := [.int], returnType := some .int }, accessFlags := 2, code := some k11c4 }
def k11c5 : Code := { maxStack := 5, maxLocals := 2, code := jdk_68_method_11_code, exceptionTable := #[], attributes := #[] }
def k11m5 : Method := { name := "inflate", desc := "()V", sig := { parameters := [], returnType := none }, accessFlags := 2, code := some k11c5 }
def k11c6 : Code := { maxStack := 3, maxLocals := 3, code := jdk_68_method_22_code, exceptionTable := #[], attributes := #[] }
def k11m6 : Method := { name := "append", desc := "(Ljava/lang/String;)Ljava/lang/AbstractStringBuilder;", sig := { parameters := [(.object "java/lang/String")], returnType := some (.object "java/lang/AbstractStringBuilder") }, accessFlags := 1, code := some k11c6 }
def k11c7 : Code := { maxStack := 4, maxLocals := 4, code := jdk_68_method_32_code, exceptionTable := #[], attributes := #[] }
def k11m7 : Method := { name := "append", desc := "(I)Ljava/lang/AbstractStringBuilder;", sig := { parameters := [.int], returnType := some (.object "java/lang/AbstractStringBuilder") }, accessFlags := 1, code := some k11c7 }
def k11c8 : Code := { maxStack := 1, maxLocals := 1, code := jdk_68_method_64_code, exceptionTable := #[], attributes := #[] }
def k11m8 : Method := { name := "getValue", desc := "()[B", sig := { parameters := [], returnType := some (.array .byte) }, accessFlags := 16, code := some k11c8 }
def k11c9 : Code := { maxStack := 1, maxLocals := 1, code := jdk_68_method_68_code, exceptionTable := #[], attributes := #[] }
def k11m9 : Method := { name := "isLatin1", desc := "()Z", sig := { parameters := [], returnType := some .boolean }, accessFlags := 16, code := some k11c9 }
def k11c10 : Code := { maxStack := 2, maxLocals := 2, code := jdk_68_method_71_code, exceptionTable := #[], attributes := #[] }
def k11m10 : Method := { name := "inflateIfNeededFor", desc := "(Ljava/lang/String;)V", sig := { parameters := [(.object "java/lang/String")], returnType := none }, accessFlags := 2, code := some k11c10 }
def k11c11 : Code := { maxStack := 4, maxLocals := 3, code := jdk_68_method_73_code, exceptionTable := #[], attributes := #[] }
def k11m11 : Method := { name := "putStringAt", desc := "(ILjava/lang/String;)V", sig := { parameters := [.int, (.object "java/lang/String")], returnType := none }, accessFlags := 2, code := some k11c11 }
/-- java/lang/AbstractStringBuilder -/
def k11 : Class := { plain "java/lang/AbstractStringBuilder" (some 0) with
  accessFlags := 1056
  interfaces := #[10, 4]
  cf := some (fileOf pool11 10 #[] #[{ accessFlags := 0, nameIndex := 7, descriptorIndex := 8, attributes := #[] }, { accessFlags := 0, nameIndex := 7, descriptorIndex := 103, attributes := #[] }, { accessFlags := 1, nameIndex := 34, descriptorIndex := 35, attributes := #[] }, { accessFlags := 2, nameIndex := 102, descriptorIndex := 103, attributes := #[] }, { accessFlags := 2, nameIndex := 106, descriptorIndex := 107, attributes := #[] }, { accessFlags := 2, nameIndex := 127, descriptorIndex := 8, attributes := #[] }, { accessFlags := 1, nameIndex := 45, descriptorIndex := 46, attributes := #[] }, { accessFlags := 1, nameIndex := 45, descriptorIndex := 511, attributes := #[] }, { accessFlags := 16, nameIndex := 552, descriptorIndex := 403, attributes := #[] }, { accessFlags := 16, nameIndex := 85, descriptorIndex := 86, attributes := #[] }, { accessFlags := 2, nameIndex := 217, descriptorIndex := 69, attributes := #[] }, { accessFlags := 2, nameIndex := 210, descriptorIndex := 211, attributes := #[] }] 1056 4 #[444, 48] #[{ accessFlags := 0, nameIndex := 17, descriptorIndex := 14, attributes := #[] }, { accessFlags := 0, nameIndex := 24, descriptorIndex := 25, attributes := #[] }, { accessFlags := 0, nameIndex := 75, descriptorIndex := 21, attributes := #[] }, { accessFlags := 0, nameIndex := 81, descriptorIndex := 82, attributes := #[] }, { accessFlags := 26, nameIndex := 13, descriptorIndex := 14, attributes := #[] }])
  fields := #[{ name := "value", type := (.array .byte), accessFlags := 0, slot := 0, constantValue := 0 }, { name := "coder", type := .byte, accessFlags := 0, slot := 1, constantValue := 0 }, { name := "maybeLatin1", type := .boolean, accessFlags := 0, slot := 2, constantValue := 0 }, { name := "count", type := .int, accessFlags := 0, slot := 3, constantValue := 0 }, { name := "EMPTYVALUE", type := (.array .byte), accessFlags := 26, slot := 0, constantValue := 0 }]
  methods := #[k11m0, k11m1, k11m2, k11m3, k11m4, k11m5, k11m6, k11m7, k11m8, k11m9, k11m10, k11m11]
  instanceTypes := #[(.array .byte), .byte, .boolean, .int]
  staticTypes := #[(.array .byte)]
  resolved := Array.replicate 609 none
  statics := none }

def pool12 : Array CpInfo := pool [(1, .methodref 2 3), (0, .class_ 4), (0, .nameAndType 5 6), (0, u "java/lang/AbstractStringBuilder"), (0, u "<init>"), (0, u "(I)V"), (11, .class_ 20), (1, u "java/lang/String"), (3, .class_ 26), (1, u "java/lang/StringBuilder"), (0, u "append"), (0, u "(Ljava/lang/String;)Ljava/lang/StringBuilder;"), (0, .methodref 2 30), (0, .nameAndType 27 31), (0, u "(Ljava/lang/String;)Ljava/lang/AbstractStringBuilder;"), (21, .methodref 2 54), (0, .nameAndType 27 55), (0, u "(I)Ljava/lang/AbstractStringBuilder;"), (81, .methodref 18 138), (0, .nameAndType 5 139), (0, u "(Ljava/lang/StringBuilder;)V"), (5, u "()V"), (10, u "()I"), (111, u "(I)Ljava/lang/StringBuilder;"), (74, .methodref 2 344), (0, .nameAndType 345 156), (0, u "length"), (3, .class_ 350), (0, u "java/lang/Appendable"), (0, .class_ 352), (0, u "java/io/Serializable"), (0, .class_ 354), (0, u "java/lang/Comparable"), (0, .class_ 356), (0, u "java/lang/CharSequence"), (0, u "serialVersionUID"), (0, u "J"), (40, u "toString"), (0, u "()Ljava/lang/String;")] 21

def k12c0 : Code := { maxStack := 2, maxLocals := 1, code := jdk_67_method_1_code, exceptionTable := #[], attributes := #[] }
def k12m0 : Method := { name := "<init>", desc := "()V", sig := { parameters := [], returnType := none }, accessFlags := 1, code := some k12c0 }
def k12c1 : Code := { maxStack := 2, maxLocals := 2, code := jdk_67_method_7_code, exceptionTable := #[], attributes := #[] }
def k12m1 : Method := { name := "append", desc := "(Ljava/lang/String;)Ljava/lang/StringBuilder;", sig := { parameters := [(.object "java/lang/String")], returnType := some (.object "java/lang/StringBuilder") }, accessFlags := 1, code := some k12c1 }
def k12c2 : Code := { maxStack := 2, maxLocals := 2, code := jdk_67_method_15_code, exceptionTable := #[], attributes := #[] }
def k12m2 : Method := { name := "append", desc := "(I)Ljava/lang/StringBuilder;", sig := { parameters := [.int], returnType := some (.object "java/lang/StringBuilder") }, accessFlags := 1, code := some k12c2 }
def k12c3 : Code := { maxStack := 3, maxLocals := 1, code := jdk_67_method_42_code, exceptionTable := #[], attributes := #[] }
def k12m3 : Method := { name := "toString", desc := "()Ljava/lang/String;", sig := { parameters := [], returnType := some (.object "java/lang/String") }, accessFlags := 1, code := some k12c3 }
def k12c4 : Code := { maxStack := 1, maxLocals := 1, code := jdk_67_method_93_code, exceptionTable := #[], attributes := #[] }
def k12m4 : Method := { name := "length", desc := "()I", sig := { parameters := [], returnType := some .int }, accessFlags := 4161, code := some k12c4 }
/-- java/lang/StringBuilder -/
def k12 : Class := { plain "java/lang/StringBuilder" (some 11) with
  accessFlags := 49
  interfaces := #[10, 2, 3, 4]
  cf := some (fileOf pool12 24 #[] #[{ accessFlags := 1, nameIndex := 5, descriptorIndex := 145, attributes := #[] }, { accessFlags := 1, nameIndex := 27, descriptorIndex := 28, attributes := #[] }, { accessFlags := 1, nameIndex := 27, descriptorIndex := 268, attributes := #[] }, { accessFlags := 1, nameIndex := 399, descriptorIndex := 400, attributes := #[] }, { accessFlags := 4161, nameIndex := 345, descriptorIndex := 156, attributes := #[] }] 49 2 #[349, 351, 353, 355] #[{ accessFlags := 24, nameIndex := 357, descriptorIndex := 358, attributes := #[] }])
  fields := #[{ name := "serialVersionUID", type := .long, accessFlags := 24, slot := 0, constantValue := 0 }]
  methods := #[k12m0, k12m1, k12m2, k12m3, k12m4]
  instanceTypes := #[(.array .byte), .byte, .boolean, .int]
  staticTypes := #[.long]
  resolved := Array.replicate 422 none
  statics := none }

def pool13 : Array CpInfo := pool [(2, .class_ 4), (1, u "java/lang/Object"), (0, u "<init>"), (0, u "()V"), (1, .class_ 10), (1, u "java/lang/System"), (0, u "allowSecurityManager"), (0, u "I"), (16, u "cons"), (0, u "Ljava/io/Console;"), (77, .class_ 110), (1, u "java/lang/System$CallersHolder"), (43, u "initialErrStream"), (0, u "Ljava/io/PrintStream;"), (19, u "security"), (0, u "Ljava/lang/SecurityManager;"), (31, .class_ 209), (0, u "java/lang/System$1"), (7, u "props"), (0, u "Ljava/util/Properties;"), (2, u "lineSeparator"), (0, u "Ljava/lang/String;"), (96, .class_ 321), (1, u "java/lang/System$LoggerFinder"), (5, .class_ 328), (0, u "java/lang/System$Logger"), (67, u "err"), (2, u "out"), (91, u "notSupportedJnuEncoding"), (15, u "in"), (17, u "initialIn"), (0, u "Ljava/io/InputStream;"), (35, u "bootLayer"), (0, u "Ljava/lang/ModuleLayer;"), (99, .class_ 664), (0, u "java/lang/System$2"), (9, u "NEVER"), (2, u "MAYBE"), (49, u "arraycopy"), (0, u "(Ljava/lang/Object;ILjava/lang/Object;II)V"), (72, .class_ 802), (0, u "java/lang/System$Logger$Level")] 31

def k13m0 : Method := { name := "<init>", desc := "()V", sig := { parameters := [], returnType := none }, accessFlags := 2, code := none }
def k13m1 : Method := { name := "arraycopy", desc := "(Ljava/lang/Object;ILjava/lang/Object;II)V", sig := { parameters := [(.object "java/lang/Object"), .int, (.object "java/lang/Object"), .int, .int], returnType := none }, accessFlags := 265, code := none }
/-- java/lang/System -/
def k13 : Class := { plain "java/lang/System" (some 0) with
  accessFlags := 49
  interfaces := #[]
  cf := some (fileOf pool13 8 #[.nestMembers #[319, 327, 801, 108, 663, 208]] #[{ accessFlags := 2, nameIndex := 5, descriptorIndex := 6, attributes := #[] }, { accessFlags := 265, nameIndex := 727, descriptorIndex := 728, attributes := #[] }] 49 2 #[] #[{ accessFlags := 25, nameIndex := 507, descriptorIndex := 526, attributes := #[] }, { accessFlags := 25, nameIndex := 399, descriptorIndex := 155, attributes := #[] }, { accessFlags := 25, nameIndex := 396, descriptorIndex := 155, attributes := #[] }, { accessFlags := 10, nameIndex := 525, descriptorIndex := 526, attributes := #[] }, { accessFlags := 26, nameIndex := 674, descriptorIndex := 12, attributes := #[] }, { accessFlags := 26, nameIndex := 677, descriptorIndex := 12, attributes := #[] }, { accessFlags := 10, nameIndex := 11, descriptorIndex := 12, attributes := #[] }, { accessFlags := 74, nameIndex := 175, descriptorIndex := 176, attributes := #[] }, { accessFlags := 10, nameIndex := 491, descriptorIndex := 222, attributes := #[] }, { accessFlags := 74, nameIndex := 29, descriptorIndex := 30, attributes := #[] }, { accessFlags := 74, nameIndex := 154, descriptorIndex := 155, attributes := #[] }, { accessFlags := 10, nameIndex := 217, descriptorIndex := 218, attributes := #[] }, { accessFlags := 10, nameIndex := 221, descriptorIndex := 222, attributes := #[] }, { accessFlags := 8, nameIndex := 562, descriptorIndex := 563, attributes := #[] }])
  fields := #[{ name := "in", type := (.object "java/io/InputStream"), accessFlags := 25, slot := 0, constantValue := 0 }, { name := "out", type := (.object "java/io/PrintStream"), accessFlags := 25, slot := 1, constantValue := 0 }, { name := "err", type := (.object "java/io/PrintStream"), accessFlags := 25, slot := 2, constantValue := 0 }, { name := "initialIn", type := (.object "java/io/InputStream"), accessFlags := 10, slot := 3, constantValue := 0 }, { name := "NEVER", type := .int, accessFlags := 26, slot := 4, constantValue := 0 }, { name := "MAYBE", type := .int, accessFlags := 26, slot := 5, constantValue := 0 }, { name := "allowSecurityManager", type := .int, accessFlags := 10, slot := 6, constantValue := 0 }, { name := "security", type := (.object "java/lang/SecurityManager"), accessFlags := 74, slot := 7, constantValue := 0 }, { name := "notSupportedJnuEncoding", type := (.object "java/lang/String"), accessFlags := 10, slot := 8, constantValue := 0 }, { name := "cons", type := (.object "java/io/Console"), accessFlags := 74, slot := 9, constantValue := 0 }, { name := "initialErrStream", type := (.object "java/io/PrintStream"), accessFlags := 74, slot := 10, constantValue := 0 }, { name := "props", type := (.object "java/util/Properties"), accessFlags := 10, slot := 11, constantValue := 0 }, { name := "lineSeparator", type := (.object "java/lang/String"), accessFlags := 10, slot := 12, constantValue := 0 }, { name := "bootLayer", type := (.object "java/lang/ModuleLayer"), accessFlags := 8, slot := 13, constantValue := 0 }]
  methods := #[k13m0, k13m1]
  instanceTypes := #[]
  staticTypes := #[(.object "java/io/InputStream"), (.object "java/io/PrintStream"), (.object "java/io/PrintStream"), (.object "java/io/InputStream"), .int, .int, .int, (.object "java/lang/SecurityManager"), (.object "java/lang/String"), (.object "java/io/Console"), (.object "java/io/PrintStream"), (.object "java/util/Properties"), (.object "java/lang/String"), (.object "java/lang/ModuleLayer")]
  resolved := Array.replicate 834 none
  statics := none }

def pool14 : Array CpInfo := pool [(2, .class_ 4), (1, u "java/lang/Object"), (0, u "<init>"), (0, u "()V"), (7, .class_ 16), (1, u "java/util/Arrays"), (57, .class_ 76), (1, u "java/util/Arrays$NaturalOrder"), (36, .class_ 115), (1, u "java/util/Arrays$LegacyMergeSort"), (1, u "Z"), (21, u "copyOfRange"), (10, .methodref 151 152), (0, .class_ 153), (0, .nameAndType 154 155), (0, u "java/lang/System"), (0, u "arraycopy"), (0, u "(Ljava/lang/Object;ILjava/lang/Object;II)V"), (146, u "copyOf"), (1, .methodref 305 306), (0, .class_ 307), (0, .nameAndType 308 309), (0, u "java/lang/Math"), (0, u "min"), (0, u "(II)I"), (29, .methodref 14 340), (0, .nameAndType 341 342), (0, u "copyOfRangeByte"), (0, u "([BII)[B"), (0, .methodref 14 344), (0, .nameAndType 345 346), (0, u "checkLength"), (0, u "(II)V"), (28, .class_ 376), (0, u "java/util/Arrays$ArrayList"), (68, u "$assertionsDisabled"), (269, u "MIN_ARRAY_SORT_GRAN"), (0, u "I"), (2, u "INSERTIONSORT_THRESHOLD"), (149, u "([BI)[B"), (105, .class_ 976), (0, u "java/util/Arrays$ArrayItr")] 52

def k14m0 : Method := { name := "<init>", desc := "()V", sig := { parameters := [], returnType := none }, accessFlags := 2, code := none }
def k14c1 : Code := { maxStack := 6, maxLocals := 3, code := jdk_65_method_121_code, exceptionTable := #[], attributes := #[] }
def k14m1 : Method := { name := "copyOf", desc := "([BI)[B", sig := { parameters := [(.array .byte), .int], returnType := some (.array .byte) }, accessFlags := 9, code := some k14c1 }
def k14c2 : Code := { maxStack := 4, maxLocals := 2, code := jdk_65_method_131_code, exceptionTable := #[], attributes := #[] }
def k14m2 : Method := { name := "checkLength", desc := "(II)V", sig := { parameters := [.int, .int], returnType := none }, accessFlags := 10, code := some k14c2 }
def k14c3 : Code := { maxStack := 3, maxLocals := 3, code := jdk_65_method_132_code, exceptionTable := #[], attributes := #[] }
def k14m3 : Method := { name := "copyOfRange", desc := "([BII)[B", sig := { parameters := [(.array .byte), .int, .int], returnType := some (.array .byte) }, accessFlags := 9, code := some k14c3 }
def k14c4 : Code := { maxStack := 6, maxLocals := 5, code := jdk_65_method_133_code, exceptionTable := #[], attributes := #[] }
def k14m4 : Method := { name := "copyOfRangeByte", desc := "([BII)[B", sig := { parameters := [(.array .byte), .int, .int], returnType := some (.array .byte) }, accessFlags := 10, code := some k14c4 }
/-- java/util/Arrays -/
def k14 : Class := { plain "java/util/Arrays" (some 0) with
  accessFlags := 49
  interfaces := #[]
  cf := some (fileOf pool14 14 #[.nestMembers #[975, 375, 113, 74]] #[{ accessFlags := 2, nameIndex := 5, descriptorIndex := 6, attributes := #[] }, { accessFlags := 9, nameIndex := 302, descriptorIndex := 869, attributes := #[] }, { accessFlags := 10, nameIndex := 345, descriptorIndex := 346, attributes := #[] }, { accessFlags := 9, nameIndex := 139, descriptorIndex := 342, attributes := #[] }, { accessFlags := 10, nameIndex := 341, descriptorIndex := 342, attributes := #[] }] 49 2 #[] #[{ accessFlags := 26, nameIndex := 715, descriptorIndex := 716, attributes := #[] }, { accessFlags := 26, nameIndex := 719, descriptorIndex := 716, attributes := #[] }, { accessFlags := 4120, nameIndex := 445, descriptorIndex := 117, attributes := #[] }])
  fields := #[{ name := "MIN_ARRAY_SORT_GRAN", type := .int, accessFlags := 26, slot := 0, constantValue := 0 }, { name := "INSERTIONSORT_THRESHOLD", type := .int, accessFlags := 26, slot := 1, constantValue := 0 }, { name := "$assertionsDisabled", type := .boolean, accessFlags := 4120, slot := 2, constantValue := 0 }]
  methods := #[k14m0, k14m1, k14m2, k14m3, k14m4]
  instanceTypes := #[]
  staticTypes := #[.int, .int, .boolean]
  resolved := Array.replicate 1029 none
  statics := none }

def pool15 : Array CpInfo := pool [(1, .class_ 2), (0, u "java/lang/Math"), (1, .class_ 6), (1, u "java/lang/Object"), (0, u "<init>"), (0, u "()V"), (89, .class_ 100), (1, u "java/lang/Math$RandomNumberGeneratorHolder"), (71, u "negativeZeroFloatBits"), (0, u "J"), (2, u "negativeZeroDoubleBits"), (21, u "max"), (2, u "min"), (43, u "$assertionsDisabled"), (0, u "Z"), (88, u "(II)I"), (2, u "twoToTheDoubleScaleDown"), (0, u "D"), (4, u "twoToTheDoubleScaleUp"), (9, u "E"), (3, u "PI"), (2, u "TAU"), (2, u "DEGREES_TO_RADIANS"), (0, u "RADIANS_TO_DEGREES")] 94

def k15m0 : Method := { name := "<init>", desc := "()V", sig := { parameters := [], returnType := none }, accessFlags := 2, code := none }
def k15c1 : Code := { maxStack := 2, maxLocals := 2, code := jdk_29_method_65_code, exceptionTable := #[], attributes := #[] }
def k15m1 : Method := { name := "max", desc := "(II)I", sig := { parameters := [.int, .int], returnType := some .int }, accessFlags := 9, code := some k15c1 }
def k15c2 : Code := { maxStack := 2, maxLocals := 2, code := jdk_29_method_69_code, exceptionTable := #[], attributes := #[] }
def k15m2 : Method := { name := "min", desc := "(II)I", sig := { parameters := [.int, .int], returnType := some .int }, accessFlags := 9, code := some k15c2 }
/-- java/lang/Math -/
def k15 : Class := { plain "java/lang/Math" (some 0) with
  accessFlags := 49
  interfaces := #[]
  cf := some (fileOf pool15 1 #[.nestMembers #[98]] #[{ accessFlags := 2, nameIndex := 7, descriptorIndex := 8, attributes := #[] }, { accessFlags := 9, nameIndex := 198, descriptorIndex := 335, attributes := #[] }, { accessFlags := 9, nameIndex := 201, descriptorIndex := 335, attributes := #[] }] 49 4 #[] #[{ accessFlags := 25, nameIndex := 354, descriptorIndex := 339, attributes := #[] }, { accessFlags := 25, nameIndex := 358, descriptorIndex := 339, attributes := #[] }, { accessFlags := 25, nameIndex := 361, descriptorIndex := 339, attributes := #[] }, { accessFlags := 26, nameIndex := 364, descriptorIndex := 339, attributes := #[] }, { accessFlags := 26, nameIndex := 365, descriptorIndex := 339, attributes := #[] }, { accessFlags := 26, nameIndex := 172, descriptorIndex := 173, attributes := #[] }, { accessFlags := 26, nameIndex := 176, descriptorIndex := 173, attributes := #[] }, { accessFlags := 8, nameIndex := 344, descriptorIndex := 339, attributes := #[] }, { accessFlags := 8, nameIndex := 338, descriptorIndex := 339, attributes := #[] }, { accessFlags := 4120, nameIndex := 245, descriptorIndex := 246, attributes := #[] }])
  fields := #[{ name := "E", type := .double, accessFlags := 25, slot := 0, constantValue := 0 }, { name := "PI", type := .double, accessFlags := 25, slot := 1, constantValue := 0 }, { name := "TAU", type := .double, accessFlags := 25, slot := 2, constantValue := 0 }, { name := "DEGREES_TO_RADIANS", type := .double, accessFlags := 26, slot := 3, constantValue := 0 }, { name := "RADIANS_TO_DEGREES", type := .double, accessFlags := 26, slot := 4, constantValue := 0 }, { name := "negativeZeroFloatBits", type := .long, accessFlags := 26, slot := 5, constantValue := 0 }, { name := "negativeZeroDoubleBits", type := .long, accessFlags := 26, slot := 6, constantValue := 0 }, { name := "twoToTheDoubleScaleUp", type := .double, accessFlags := 8, slot := 7, constantValue := 0 }, { name := "twoToTheDoubleScaleDown", type := .double, accessFlags := 8, slot := 8, constantValue := 0 }, { name := "$assertionsDisabled", type := .boolean, accessFlags := 4120, slot := 9, constantValue := 0 }]
  methods := #[k15m0, k15m1, k15m2]
  instanceTypes := #[]
  staticTypes := #[.double, .double, .double, .double, .double, .long, .long, .double, .double, .boolean]
  resolved := Array.replicate 460 none
  statics := none }

def pool16 : Array CpInfo := pool [(1, .class_ 2), (0, u "java/lang/Integer"), (0, .class_ 4), (0, u "java/lang/String"), (1, .class_ 8), (1, u "java/lang/Object"), (0, u "<init>"), (0, u "()V"), (0, .methodref 12 13), (0, .class_ 14), (0, .nameAndType 15 16), (0, u "java/lang/StringUTF16"), (0, u "newBytesLength"), (0, u "(I)I"), (3, .integer 1073741823), (23, .fieldref 12 45), (0, .nameAndType 46 47), (0, u "$assertionsDisabled"), (0, u "Z"), (0, .methodref 12 49), (0, .nameAndType 50 51), (0, u "length"), (0, u "([B)I"), (7, .fieldref 12 60), (0, .nameAndType 61 62), (0, u "HI_BYTE_SHIFT"), (0, u "I"), (0, .fieldref 12 64), (0, .nameAndType 65 62), (0, u "LO_BYTE_SHIFT"), (5, .methodref 12 72), (0, .nameAndType 73 74), (0, u "getChar"), (0, u "([BI)C"), (21, .methodref 12 97), (0, .nameAndType 98 99), (0, u "checkBoundsBeginEnd"), (0, u "(II[B)V"), (5, u "getChars"), (1, .methodref 12 108), (0, .nameAndType 109 110), (0, u "newBytesFor"), (0, u "(I)[B"), (0, .methodref 12 112), (0, .nameAndType 113 114), (0, u "putChar"), (0, u "([BII)V"), (0, .methodref 12 116), (0, .nameAndType 117 118), (0, u "compress"), (0, u "([CI[BII)I"), (0, .methodref 12 120), (0, .nameAndType 121 122), (0, u "toBytes"), (0, u "([CII)[B"), (0, .methodref 12 124), (0, .nameAndType 117 125), (0, u "([BI[BII)I"), (0, .methodref 127 128), (0, .class_ 129), (0, .nameAndType 130 131), (0, u "java/util/Arrays"), (0, u "copyOfRange"), (0, u "([BII)[B"), (8, u "inflate"), (0, u "([BI[BII)V"), (31, .methodref 12 174), (0, .nameAndType 175 99), (0, u "checkBoundsOffCount"), (65, .methodref 3 242), (0, .nameAndType 98 243), (0, u "(III)V"), (7, .fieldref 3 252), (0, .nameAndType 253 47), (0, u "COMPACT_STRINGS"), (3, .methodref 12 258), (0, .nameAndType 117 131), (0, .methodref 12 260), (0, .nameAndType 261 262), (0, u "coderFromArrayLen"), (0, u "([BI)B"), (0, .methodref 3 264), (0, .nameAndType 9 265), (0, u "([BB)V"), (15, u "(III)I"), (45, u "newString"), (0, u "([BII)Ljava/lang/String;"), (40, .class_ 371), (1, u "java/lang/StringUTF16$LinesSpliterator"), (21, .methodref 12 394), (0, .nameAndType 105 395), (0, u "(II[B)I"), (7, .fieldref 1 404), (0, .nameAndType 405 406), (0, u "DigitOnes"), (0, u "[B"), (0, .fieldref 1 408), (0, .nameAndType 409 406), (0, u "DigitTens"), (9, .methodref 3 420), (0, .nameAndType 175 281), (9, u "MAX_LENGTH"), (164, u "(III[B)I"), (31, .class_ 628), (0, u "java/lang/StringUTF16$CodePointsSpliterator"), (0, .class_ 630), (0, u "java/lang/StringUTF16$CharsSpliterator")] 4

def k16m0 : Method := { name := "<init>", desc := "()V", sig := { parameters := [], returnType := none }, accessFlags := 0, code := none }
def k16c1 : Code := { maxStack := 1, maxLocals := 1, code := jdk_52_method_2_code, exceptionTable := #[], attributes := #[] }
def k16m1 : Method := { name := "newBytesFor", desc := "(I)[B", sig := { parameters := [.int], returnType := some (.array .byte) }, accessFlags := 9, code := some k16c1 }
def k16c2 : Code := { maxStack := 4, maxLocals := 1, code := jdk_52_method_3_code, exceptionTable := #[], attributes := #[] }
def k16m2 : Method := { name := "newBytesLength", desc := "(I)I", sig := { parameters := [.int], returnType := some .int }, accessFlags := 9, code := some k16c2 }
def k16c3 : Code := { maxStack := 4, maxLocals := 3, code := jdk_52_method_4_code, exceptionTable := #[], attributes := #[] }
def k16m3 : Method := { name := "putChar", desc := "([BII)V", sig := { parameters := [(.array .byte), .int, .int], returnType := none }, accessFlags := 8, code := some k16c3 }
def k16c4 : Code := { maxStack := 3, maxLocals := 2, code := jdk_52_method_5_code, exceptionTable := #[], attributes := #[] }
def k16m4 : Method := { name := "getChar", desc := "([BI)C", sig := { parameters := [(.array .byte), .int], returnType := some .char }, accessFlags := 8, code := some k16c4 }
def k16c5 : Code := { maxStack := 2, maxLocals := 1, code := jdk_52_method_6_code, exceptionTable := #[], attributes := #[] }
def k16m5 : Method := { name := "length", desc := "([B)I", sig := { parameters := [(.array .byte)], returnType := some .int }, accessFlags := 9, code := some k16c5 }
def k16c6 : Code := { maxStack := 4, maxLocals := 5, code := jdk_52_method_14_code, exceptionTable := #[], attributes := #[] }
def k16m6 : Method := { name := "toBytes", desc := "([CII)[B", sig := { parameters := [(.array .char), .int, .int], returnType := some (.array .byte) }, accessFlags := 9, code := some k16c6 }
def k16c7 : Code := { maxStack := 2, maxLocals := 2, code := jdk_52_method_15_code, exceptionTable := #[], attributes := #[] }
def k16m7 : Method := { name := "coderFromArrayLen", desc := "([BI)B", sig := { parameters := [(.array .byte), .int], returnType := some .byte }, accessFlags := 8, code := some k16c7 }
def k16c8 : Code := { maxStack := 5, maxLocals := 6, code := jdk_52_method_16_code, exceptionTable := #[], attributes := #[] }
def k16m8 : Method := { name := "compress", desc := "([CII)[B", sig := { parameters := [(.array .char), .int, .int], returnType := some (.array .byte) }, accessFlags := 9, code := some k16c8 }
def k16c9 : Code := { maxStack := 5, maxLocals := 6, code := jdk_52_method_17_code, exceptionTable := #[], attributes := #[] }
def k16m9 : Method := { name := "compress", desc := "([BII)[B", sig := { parameters := [(.array .byte), .int, .int], returnType := some (.array .byte) }, accessFlags := 9, code := some k16c9 }
def k16c10 : Code := { maxStack := 3, maxLocals := 7, code := jdk_52_method_21_code, exceptionTable := #[], attributes := #[] }
def k16m10 : Method := { name := "compress", desc := "([CI[BII)I", sig := { parameters := [(.array .char), .int, (.array .byte), .int, .int], returnType := some .int }, accessFlags := 9, code := some k16c10 }
def k16c11 : Code := { maxStack := 3, maxLocals := 7, code := jdk_52_method_22_code, exceptionTable := #[], attributes := #[] }
def k16m11 : Method := { name := "compress", desc := "([BI[BII)I", sig := { parameters := [(.array .byte), .int, (.array .byte), .int, .int], returnType := some .int }, accessFlags := 9, code := some k16c11 }
def k16c12 : Code := { maxStack := 6, maxLocals := 5, code := jdk_52_method_69_code, exceptionTable := #[], attributes := #[] }
def k16m12 : Method := { name := "newString", desc := "([BII)Ljava/lang/String;", sig := { parameters := [(.array .byte), .int, .int], returnType := some (.object "java/lang/String") }, accessFlags := 9, code := some k16c12 }
def k16c13 : Code := { maxStack := 3, maxLocals := 5, code := jdk_52_method_77_code, exceptionTable := #[], attributes := #[] }
def k16m13 : Method := { name := "getChars", desc := "(III[B)I", sig := { parameters := [.int, .int, .int, (.array .byte)], returnType := some .int }, accessFlags := 9, code := some k16c13 }
def k16c14 : Code := { maxStack := 4, maxLocals := 6, code := jdk_52_method_86_code, exceptionTable := #[], attributes := #[] }
def k16m14 : Method := { name := "inflate", desc := "([BI[BII)V", sig := { parameters := [(.array .byte), .int, (.array .byte), .int, .int], returnType := none }, accessFlags := 9, code := some k16c14 }
def k16c15 : Code := { maxStack := 4, maxLocals := 7, code := jdk_52_method_89_code, exceptionTable := #[], attributes := #[] }
def k16m15 : Method := { name := "getChars", desc := "(II[B)I", sig := { parameters := [.int, .int, (.array .byte)], returnType := some .int }, accessFlags := 8, code := some k16c15 }
def k16c16 : Code := { maxStack := 3, maxLocals := 3, code := jdk_52_method_93_code, exceptionTable := #[], attributes := #[] }
def k16m16 : Method := { name := "checkBoundsBeginEnd", desc := "(II[B)V", sig := { parameters := [.int, .int, (.array .byte)], returnType := none }, accessFlags := 9, code := some k16c16 }
def k16c17 : Code := { maxStack := 3, maxLocals := 3, code := jdk_52_method_94_code, exceptionTable := #[], attributes := #[] }
def k16m17 : Method := { name := "checkBoundsOffCount", desc := "(II[B)V", sig := { parameters := [.int, .int, (.array .byte)], returnType := none }, accessFlags := 9, code := some k16c17 }
/-- java/lang/StringUTF16 -/
def k16 : Class := { plain "java/lang/StringUTF16" (some 0) with
  accessFlags := 48
  interfaces := #[]
  cf := some (fileOf pool16 12 #[.nestMembers #[627, 629, 369]] #[{ accessFlags := 0, nameIndex := 9, descriptorIndex := 10, attributes := #[] }, { accessFlags := 9, nameIndex := 109, descriptorIndex := 110, attributes := #[] }, { accessFlags := 9, nameIndex := 15, descriptorIndex := 16, attributes := #[] }, { accessFlags := 8, nameIndex := 113, descriptorIndex := 114, attributes := #[] }, { accessFlags := 8, nameIndex := 73, descriptorIndex := 74, attributes := #[] }, { accessFlags := 9, nameIndex := 50, descriptorIndex := 51, attributes := #[] }, { accessFlags := 9, nameIndex := 121, descriptorIndex := 122, attributes := #[] }, { accessFlags := 8, nameIndex := 261, descriptorIndex := 262, attributes := #[] }, { accessFlags := 9, nameIndex := 117, descriptorIndex := 122, attributes := #[] }, { accessFlags := 9, nameIndex := 117, descriptorIndex := 131, attributes := #[] }, { accessFlags := 9, nameIndex := 117, descriptorIndex := 118, attributes := #[] }, { accessFlags := 9, nameIndex := 117, descriptorIndex := 125, attributes := #[] }, { accessFlags := 9, nameIndex := 327, descriptorIndex := 328, attributes := #[] }, { accessFlags := 9, nameIndex := 105, descriptorIndex := 595, attributes := #[] }, { accessFlags := 9, nameIndex := 140, descriptorIndex := 141, attributes := #[] }, { accessFlags := 8, nameIndex := 105, descriptorIndex := 395, attributes := #[] }, { accessFlags := 9, nameIndex := 98, descriptorIndex := 99, attributes := #[] }, { accessFlags := 9, nameIndex := 175, descriptorIndex := 99, attributes := #[] }] 48 6 #[] #[{ accessFlags := 26, nameIndex := 61, descriptorIndex := 62, attributes := #[] }, { accessFlags := 26, nameIndex := 65, descriptorIndex := 62, attributes := #[] }, { accessFlags := 24, nameIndex := 430, descriptorIndex := 62, attributes := #[] }, { accessFlags := 4120, nameIndex := 46, descriptorIndex := 47, attributes := #[] }])
  fields := #[{ name := "HI_BYTE_SHIFT", type := .int, accessFlags := 26, slot := 0, constantValue := 0 }, { name := "LO_BYTE_SHIFT", type := .int, accessFlags := 26, slot := 1, constantValue := 0 }, { name := "MAX_LENGTH", type := .int, accessFlags := 24, slot := 2, constantValue := 0 }, { name := "$assertionsDisabled", type := .boolean, accessFlags := 4120, slot := 3, constantValue := 0 }]
  methods := #[k16m0, k16m1, k16m2, k16m3, k16m4, k16m5, k16m6, k16m7, k16m8, k16m9, k16m10, k16m11, k16m12, k16m13, k16m14, k16m15, k16m16, k16m17]
  instanceTypes := #[]
  staticTypes := #[.int, .int, .int, .boolean]
  resolved := Array.replicate 635 none
  statics := some 1 }

def pool17 : Array CpInfo := pool [(1, .class_ 2), (0, u "java/lang/String"), (1, .class_ 6), (1, u "java/lang/Object"), (0, u "<init>"), (0, u "()V"), (5, .class_ 16), (1, u "java/lang/StringLatin1"), (0, u "inflate"), (2, .class_ 22), (1, u "java/lang/StringUTF16"), (3, .nameAndType 17 27), (0, u "([BI[BII)V"), (84, .methodref 1 113), (0, .nameAndType 7 114), (0, u "([BB)V"), (6, u "$assertionsDisabled"), (0, u "Z"), (8, .class_ 133), (1, u "java/util/Arrays"), (62, u "newString"), (0, u "([BII)Ljava/lang/String;"), (23, .class_ 223), (1, u "java/lang/StringLatin1$LinesSpliterator"), (8, .methodref 131 233), (0, .nameAndType 234 235), (0, u "copyOfRange"), (0, u "([BII)[B"), (4, .methodref 20 26), (40, u "equals"), (0, u "([B[B)Z"), (107, .class_ 391), (0, u "java/lang/StringLatin1$CharsSpliterator")] 3

def k17m0 : Method := { name := "<init>", desc := "()V", sig := { parameters := [], returnType := none }, accessFlags := 0, code := none }
def k17c1 : Code := { maxStack := 3, maxLocals := 3, code := jdk_43_method_13_code, exceptionTable := #[], attributes := #[] }
def k17m1 : Method := { name := "equals", desc := "([B[B)Z", sig := { parameters := [(.array .byte), (.array .byte)], returnType := some .boolean }, accessFlags := 9, code := some k17c1 }
def k17c2 : Code := { maxStack := 6, maxLocals := 3, code := jdk_43_method_47_code, exceptionTable := #[], attributes := #[] }
def k17m2 : Method := { name := "newString", desc := "([BII)Ljava/lang/String;", sig := { parameters := [(.array .byte), .int, .int], returnType := some (.object "java/lang/String") }, accessFlags := 9, code := some k17c2 }
def k17c3 : Code := { maxStack := 5, maxLocals := 5, code := jdk_43_method_50_code, exceptionTable := #[], attributes := #[] }
def k17m3 : Method := { name := "inflate", desc := "([BI[BII)V", sig := { parameters := [(.array .byte), .int, (.array .byte), .int, .int], returnType := none }, accessFlags := 9, code := some k17c3 }
/-- java/lang/StringLatin1 -/
def k17 : Class := { plain "java/lang/StringLatin1" (some 0) with
  accessFlags := 48
  interfaces := #[]
  cf := some (fileOf pool17 14 #[.nestMembers #[390, 221]] #[{ accessFlags := 0, nameIndex := 7, descriptorIndex := 8, attributes := #[] }, { accessFlags := 9, nameIndex := 281, descriptorIndex := 282, attributes := #[] }, { accessFlags := 9, nameIndex := 196, descriptorIndex := 197, attributes := #[] }, { accessFlags := 9, nameIndex := 17, descriptorIndex := 27, attributes := #[] }] 48 4 #[] #[{ accessFlags := 4120, nameIndex := 121, descriptorIndex := 122, attributes := #[] }])
  fields := #[{ name := "$assertionsDisabled", type := .boolean, accessFlags := 4120, slot := 0, constantValue := 0 }]
  methods := #[k17m0, k17m1, k17m2, k17m3]
  instanceTypes := #[]
  staticTypes := #[.boolean]
  resolved := Array.replicate 395 none
  statics := none }

def pool18 : Array CpInfo := pool [(2, .class_ 4), (1, u "java/lang/Object"), (0, u "<init>"), (0, u "()V"), (17, .class_ 26), (1, u "jdk/internal/util/Preconditions"), (20, u "checkFromToIndex"), (1, u "checkFromIndexSize"), (5, .class_ 56), (0, u "jdk/internal/util/Preconditions$4"), (57, .class_ 115), (0, u "jdk/internal/util/Preconditions$1"), (7, u "SIOOBE_FORMATTER"), (0, u "Ljava/util/function/BiFunction;"), (0, .class_ 126), (0, u "jdk/internal/util/Preconditions$2"), (3, u "AIOOBE_FORMATTER"), (0, .class_ 132), (0, u "jdk/internal/util/Preconditions$3"), (3, u "IOOBE_FORMATTER"), (46, u "(IIILjava/util/function/BiFunction;)I")] 10

def k18m0 : Method := { name := "<init>", desc := "()V", sig := { parameters := [], returnType := none }, accessFlags := 1, code := none }
def k18c1 : Code := { maxStack := 4, maxLocals := 4, code := jdk_41_method_12_code, exceptionTable := #[], attributes := #[] }
def k18m1 : Method := { name := "checkFromToIndex", desc := "(IIILjava/util/function/BiFunction;)I", sig := { parameters := [.int, .int, .int, (.object "java/util/function/BiFunction")], returnType := some .int }, accessFlags := 9, code := some k18c1 }
def k18c2 : Code := { maxStack := 4, maxLocals := 4, code := jdk_41_method_13_code, exceptionTable := #[], attributes := #[] }
def k18m2 : Method := { name := "checkFromIndexSize", desc := "(IIILjava/util/function/BiFunction;)I", sig := { parameters := [.int, .int, .int, (.object "java/util/function/BiFunction")], returnType := some .int }, accessFlags := 9, code := some k18c2 }
/-- jdk/internal/util/Preconditions -/
def k18 : Class := { plain "jdk/internal/util/Preconditions" (some 0) with
  accessFlags := 33
  interfaces := #[]
  cf := some (fileOf pool18 24 #[.nestMembers #[55, 131, 125, 114]] #[{ accessFlags := 1, nameIndex := 5, descriptorIndex := 6, attributes := #[] }, { accessFlags := 9, nameIndex := 47, descriptorIndex := 183, attributes := #[] }, { accessFlags := 9, nameIndex := 49, descriptorIndex := 183, attributes := #[] }] 33 2 #[] #[{ accessFlags := 25, nameIndex := 123, descriptorIndex := 124, attributes := #[] }, { accessFlags := 25, nameIndex := 130, descriptorIndex := 124, attributes := #[] }, { accessFlags := 25, nameIndex := 136, descriptorIndex := 124, attributes := #[] }])
  fields := #[{ name := "SIOOBE_FORMATTER", type := (.object "java/util/function/BiFunction"), accessFlags := 25, slot := 0, constantValue := 0 }, { name := "AIOOBE_FORMATTER", type := (.object "java/util/function/BiFunction"), accessFlags := 25, slot := 1, constantValue := 0 }, { name := "IOOBE_FORMATTER", type := (.object "java/util/function/BiFunction"), accessFlags := 25, slot := 2, constantValue := 0 }]
  methods := #[k18m0, k18m1, k18m2]
  instanceTypes := #[]
  staticTypes := #[(.object "java/util/function/BiFunction"), (.object "java/util/function/BiFunction"), (.object "java/util/function/BiFunction")]
  resolved := Array.replicate 194 none
  statics := some 2 }

def pool19 : Array CpInfo := pool [(9, u "<init>"), (6, .class_ 18), (1, u "java/lang/Object"), (0, u "()V"), (1, .class_ 23), (1, u "jdk/internal/util/ArraysSupport"), (0, u "LOG2_ARRAY_LONG_INDEX_SCALE"), (0, u "I"), (2, u "U"), (0, u "Ljdk/internal/misc/Unsafe;"), (8, u "BIG_ENDIAN"), (0, u "Z"), (8, u "LOG2_BYTE_BIT_SIZE"), (4, u "LOG2_ARRAY_INT_INDEX_SCALE"), (54, u "JLA"), (0, u "Ljdk/internal/access/JavaLangAccess;"), (11, u "LOG2_ARRAY_BOOLEAN_INDEX_SCALE"), (9, u "LOG2_ARRAY_BYTE_INDEX_SCALE"), (5, u "LOG2_ARRAY_CHAR_INDEX_SCALE"), (5, u "LOG2_ARRAY_SHORT_INDEX_SCALE"), (18, u "LOG2_ARRAY_FLOAT_INDEX_SCALE"), (24, u "LOG2_ARRAY_DOUBLE_INDEX_SCALE"), (6, .methodref 195 196), (0, .class_ 197), (0, .nameAndType 198 199), (0, u "java/lang/Math"), (0, u "max"), (0, u "(II)I"), (0, .integer 2147483639), (76, u "T_BOOLEAN"), (2, u "T_CHAR"), (1, u "T_FLOAT"), (1, u "T_DOUBLE"), (1, u "T_BYTE"), (1, u "T_SHORT"), (1, u "T_INT"), (1, u "T_LONG"), (1, u "SOFT_MAX_ARRAY_LENGTH"), (56, u "newLength"), (0, u "(III)I")] 25

def k19m0 : Method := { name := "<init>", desc := "()V", sig := { parameters := [], returnType := none }, accessFlags := 2, code := none }
def k19c1 : Code := { maxStack := 3, maxLocals := 4, code := jdk_48_method_27_code, exceptionTable := #[], attributes := #[] }
def k19m1 : Method := { name := "newLength", desc := "(III)I", sig := { parameters := [.int, .int, .int], returnType := some .int }, accessFlags := 9, code := some k19c1 }
/-- jdk/internal/util/ArraysSupport -/
def k19 : Class := { plain "jdk/internal/util/ArraysSupport" (some 0) with
  accessFlags := 33
  interfaces := #[]
  cf := some (fileOf pool19 21 #[] #[{ accessFlags := 2, nameIndex := 9, descriptorIndex := 19, attributes := #[] }, { accessFlags := 9, nameIndex := 351, descriptorIndex := 352, attributes := #[] }] 33 16 #[] #[{ accessFlags := 24, nameIndex := 28, descriptorIndex := 29, attributes := #[] }, { accessFlags := 26, nameIndex := 38, descriptorIndex := 39, attributes := #[] }, { accessFlags := 25, nameIndex := 121, descriptorIndex := 25, attributes := #[] }, { accessFlags := 25, nameIndex := 131, descriptorIndex := 25, attributes := #[] }, { accessFlags := 25, nameIndex := 137, descriptorIndex := 25, attributes := #[] }, { accessFlags := 25, nameIndex := 143, descriptorIndex := 25, attributes := #[] }, { accessFlags := 25, nameIndex := 53, descriptorIndex := 25, attributes := #[] }, { accessFlags := 25, nameIndex := 24, descriptorIndex := 25, attributes := #[] }, { accessFlags := 25, nameIndex := 162, descriptorIndex := 25, attributes := #[] }, { accessFlags := 25, nameIndex := 187, descriptorIndex := 25, attributes := #[] }, { accessFlags := 26, nameIndex := 48, descriptorIndex := 25, attributes := #[] }, { accessFlags := 25, nameIndex := 277, descriptorIndex := 25, attributes := #[] }, { accessFlags := 25, nameIndex := 280, descriptorIndex := 25, attributes := #[] }, { accessFlags := 25, nameIndex := 282, descriptorIndex := 25, attributes := #[] }, { accessFlags := 25, nameIndex := 284, descriptorIndex := 25, attributes := #[] }, { accessFlags := 25, nameIndex := 286, descriptorIndex := 25, attributes := #[] }, { accessFlags := 25, nameIndex := 288, descriptorIndex := 25, attributes := #[] }, { accessFlags := 25, nameIndex := 290, descriptorIndex := 25, attributes := #[] }, { accessFlags := 25, nameIndex := 292, descriptorIndex := 25, attributes := #[] }, { accessFlags := 26, nameIndex := 108, descriptorIndex := 109, attributes := #[] }, { accessFlags := 25, nameIndex := 294, descriptorIndex := 25, attributes := #[] }])
  fields := #[{ name := "U", type := (.object "jdk/internal/misc/Unsafe"), accessFlags := 24, slot := 0, constantValue := 0 }, { name := "BIG_ENDIAN", type := .boolean, accessFlags := 26, slot := 1, constantValue := 0 }, { name := "LOG2_ARRAY_BOOLEAN_INDEX_SCALE", type := .int, accessFlags := 25, slot := 2, constantValue := 0 }, { name := "LOG2_ARRAY_BYTE_INDEX_SCALE", type := .int, accessFlags := 25, slot := 3, constantValue := 0 }, { name := "LOG2_ARRAY_CHAR_INDEX_SCALE", type := .int, accessFlags := 25, slot := 4, constantValue := 0 }, { name := "LOG2_ARRAY_SHORT_INDEX_SCALE", type := .int, accessFlags := 25, slot := 5, constantValue := 0 }, { name := "LOG2_ARRAY_INT_INDEX_SCALE", type := .int, accessFlags := 25, slot := 6, constantValue := 0 }, { name := "LOG2_ARRAY_LONG_INDEX_SCALE", type := .int, accessFlags := 25, slot := 7, constantValue := 0 }, { name := "LOG2_ARRAY_FLOAT_INDEX_SCALE", type := .int, accessFlags := 25, slot := 8, constantValue := 0 }, { name := "LOG2_ARRAY_DOUBLE_INDEX_SCALE", type := .int, accessFlags := 25, slot := 9, constantValue := 0 }, { name := "LOG2_BYTE_BIT_SIZE", type := .int, accessFlags := 26, slot := 10, constantValue := 0 }, { name := "T_BOOLEAN", type := .int, accessFlags := 25, slot := 11, constantValue := 0 }, { name := "T_CHAR", type := .int, accessFlags := 25, slot := 12, constantValue := 0 }, { name := "T_FLOAT", type := .int, accessFlags := 25, slot := 13, constantValue := 0 }, { name := "T_DOUBLE", type := .int, accessFlags := 25, slot := 14, constantValue := 0 }, { name := "T_BYTE", type := .int, accessFlags := 25, slot := 15, constantValue := 0 }, { name := "T_SHORT", type := .int, accessFlags := 25, slot := 16, constantValue := 0 }, { name := "T_INT", type := .int, accessFlags := 25, slot := 17, constantValue := 0 }, { name := "T_LONG", type := .int, accessFlags := 25, slot := 18, constantValue := 0 }, { name := "JLA", type := (.object "jdk/internal/access/JavaLangAccess"), accessFlags := 26, slot := 19, constantValue := 0 }, { name := "SOFT_MAX_ARRAY_LENGTH", type := .int, accessFlags := 25, slot := 20, constantValue := 0 }]
  methods := #[k19m0, k19m1]
  instanceTypes := #[]
  staticTypes := #[(.object "jdk/internal/misc/Unsafe"), .boolean, .int, .int, .int, .int, .int, .int, .int, .int, .int, .int, .int, .int, .int, .int, .int, .int, .int, (.object "jdk/internal/access/JavaLangAccess"), .int]
  resolved := Array.replicate 378 none
  statics := none }

def pool20 : Array CpInfo := pool [(2, .class_ 4), (1, u "java/lang/Object"), (0, u "<init>"), (0, u "()V"), (1, .class_ 10), (1, u "java/lang/Number"), (2, .class_ 14), (0, u "java/io/Serializable"), (0, u "serialVersionUID"), (0, u "J")] 20

def k20m0 : Method := { name := "<init>", desc := "()V", sig := { parameters := [], returnType := none }, accessFlags := 1, code := none }
/-- java/lang/Number -/
def k20 : Class := { plain "java/lang/Number" (some 0) with
  accessFlags := 1057
  interfaces := #[2]
  cf := some (fileOf pool20 8 #[] #[{ accessFlags := 1, nameIndex := 5, descriptorIndex := 6, attributes := #[] }] 1057 2 #[13] #[{ accessFlags := 26, nameIndex := 15, descriptorIndex := 16, attributes := #[] }])
  fields := #[{ name := "serialVersionUID", type := .long, accessFlags := 26, slot := 0, constantValue := 0 }]
  methods := #[k20m0]
  instanceTypes := #[]
  staticTypes := #[.long]
  resolved := Array.replicate 37 none
  statics := none }

def pool21 : Array CpInfo := pool [(1, .class_ 2), (0, u "java/lang/Integer"), (16, u "digits"), (0, u "[C"), (33, u "(I)I"), (19, u "stringSize"), (2, u "getChars"), (0, u "(II[B)I"), (4, .fieldref 1 84), (0, .nameAndType 85 86), (0, u "DigitOnes"), (0, u "[B"), (0, .fieldref 1 88), (0, .nameAndType 89 86), (0, u "DigitTens"), (99, .class_ 190), (0, u "java/lang/Integer$IntegerCache"), (3, u "I"), (8, .class_ 204), (0, u "java/lang/Number"), (2, u "value"), (94, u "TYPE"), (0, u "Ljava/lang/Class;"), (0, .class_ 305), (0, u "java/lang/Comparable"), (0, .class_ 307), (0, u "java/lang/constant/Constable"), (0, .class_ 309), (0, u "java/lang/constant/ConstantDesc"), (0, u "MIN_VALUE"), (1, u "MAX_VALUE"), (3, u "SIZE"), (1, u "BYTES"), (1, u "serialVersionUID"), (0, u "J")] 131

def k21c0 : Code := { maxStack := 4, maxLocals := 7, code := jdk_33_method_12_code, exceptionTable := #[], attributes := #[] }
def k21m0 : Method := { name := "getChars", desc := "(II[B)I", sig := { parameters := [.int, .int, (.array .byte)], returnType := some .int }, accessFlags := 8, code := some k21c0 }
def k21c1 : Code := { maxStack := 2, maxLocals := 4, code := jdk_33_method_13_code, exceptionTable := #[], attributes := #[] }
def k21m1 : Method := { name := "stringSize", desc := "(I)I", sig := { parameters := [.int], returnType := some .int }, accessFlags := 8, code := some k21c1 }
/-- java/lang/Integer -/
def k21 : Class := { plain "java/lang/Integer" (some 20) with
  accessFlags := 49
  interfaces := #[3, 5, 6]
  cf := some (fileOf pool21 1 #[.nestMembers #[189]] #[{ accessFlags := 8, nameIndex := 77, descriptorIndex := 78, attributes := #[] }, { accessFlags := 8, nameIndex := 74, descriptorIndex := 54, attributes := #[] }] 49 203 #[304, 306, 308] #[{ accessFlags := 25, nameIndex := 310, descriptorIndex := 194, attributes := #[] }, { accessFlags := 25, nameIndex := 312, descriptorIndex := 194, attributes := #[] }, { accessFlags := 25, nameIndex := 302, descriptorIndex := 303, attributes := #[] }, { accessFlags := 24, nameIndex := 19, descriptorIndex := 20, attributes := #[] }, { accessFlags := 24, nameIndex := 89, descriptorIndex := 86, attributes := #[] }, { accessFlags := 24, nameIndex := 85, descriptorIndex := 86, attributes := #[] }, { accessFlags := 18, nameIndex := 207, descriptorIndex := 194, attributes := #[] }, { accessFlags := 25, nameIndex := 316, descriptorIndex := 194, attributes := #[] }, { accessFlags := 25, nameIndex := 318, descriptorIndex := 194, attributes := #[] }, { accessFlags := 26, nameIndex := 320, descriptorIndex := 321, attributes := #[] }])
  fields := #[{ name := "MIN_VALUE", type := .int, accessFlags := 25, slot := 0, constantValue := 0 }, { name := "MAX_VALUE", type := .int, accessFlags := 25, slot := 1, constantValue := 0 }, { name := "TYPE", type := (.object "java/lang/Class"), accessFlags := 25, slot := 2, constantValue := 0 }, { name := "digits", type := (.array .char), accessFlags := 24, slot := 3, constantValue := 0 }, { name := "DigitTens", type := (.array .byte), accessFlags := 24, slot := 4, constantValue := 0 }, { name := "DigitOnes", type := (.array .byte), accessFlags := 24, slot := 5, constantValue := 0 }, { name := "value", type := .int, accessFlags := 18, slot := 0, constantValue := 0 }, { name := "SIZE", type := .int, accessFlags := 25, slot := 6, constantValue := 0 }, { name := "BYTES", type := .int, accessFlags := 25, slot := 7, constantValue := 0 }, { name := "serialVersionUID", type := .long, accessFlags := 26, slot := 8, constantValue := 0 }]
  methods := #[k21m0, k21m1]
  instanceTypes := #[.int]
  staticTypes := #[.int, .int, (.object "java/lang/Class"), (.array .char), (.array .byte), (.array .byte), .int, .int, .long]
  resolved := Array.replicate 453 none
  statics := some 3 }

def pool22 : Array CpInfo := pool [(1, u "java/lang/Cloneable"), (0, .class_ 1), (0, u "java/lang/Object"), (0, .class_ 3)] 3

/-- java/lang/Cloneable -/
def k22 : Class := { plain "java/lang/Cloneable" (some 0) with
  accessFlags := 1537
  interfaces := #[]
  cf := some (fileOf pool22 2 #[] #[] 1537 4 #[] #[])
  fields := #[]
  methods := #[]
  instanceTypes := #[]
  staticTypes := #[]
  resolved := Array.replicate 8 none
  statics := none }

/-- the primitive byte -/
def k23 : Class := { plain "byte" none with kind := .primitive 'B', accessFlags := 0x411 }
/-- [B -/
def k24 : Class := { plain "[B" (some 0) with kind := .array 23 .byte, interfaces := #[22, 2], accessFlags := 1041 }

/-- the primitive char -/
def k25 : Class := { plain "char" none with kind := .primitive 'C', accessFlags := 0x411 }
/-- [C -/
def k26 : Class := { plain "[C" (some 0) with kind := .array 25 .char, interfaces := #[22, 2], accessFlags := 1041 }

/-- the primitive int -/
def k27 : Class := { plain "int" none with kind := .primitive 'I', accessFlags := 0x411 }
/-- [I -/
def k28 : Class := { plain "[I" (some 0) with kind := .array 27 .int, interfaces := #[22, 2], accessFlags := 1041 }

def heap : Heap := #[{ cls := 7, slots := #[.long 0, .int 1, .null, .int 0, .null, .int 0, .int 0], vm := .statics 7 },
  { cls := 16, slots := #[.int 0, .int 8, .int 0, .int 1], vm := .statics 16 },
  { cls := 18, slots := #[.null, .null, .null], vm := .statics 18 },
  { cls := 21, slots := #[.int 0, .int 0, .null, .null, .ref 5, .ref 4, .int 0, .int 0, .long 0], vm := .statics 21 },
  { cls := 24, slots := #[.int 48, .int 49, .int 50, .int 51, .int 52, .int 53, .int 54, .int 55, .int 56, .int 57, .int 48, .int 49, .int 50, .int 51, .int 52, .int 53, .int 54, .int 55, .int 56, .int 57, .int 48, .int 49, .int 50, .int 51, .int 52, .int 53, .int 54, .int 55, .int 56, .int 57, .int 48, .int 49, .int 50, .int 51, .int 52, .int 53, .int 54, .int 55, .int 56, .int 57, .int 48, .int 49, .int 50, .int 51, .int 52, .int 53, .int 54, .int 55, .int 56, .int 57, .int 48, .int 49, .int 50, .int 51, .int 52, .int 53, .int 54, .int 55, .int 56, .int 57, .int 48, .int 49, .int 50, .int 51, .int 52, .int 53, .int 54, .int 55, .int 56, .int 57, .int 48, .int 49, .int 50, .int 51, .int 52, .int 53, .int 54, .int 55, .int 56, .int 57, .int 48, .int 49, .int 50, .int 51, .int 52, .int 53, .int 54, .int 55, .int 56, .int 57, .int 48, .int 49, .int 50, .int 51, .int 52, .int 53, .int 54, .int 55, .int 56, .int 57], vm := .none },
  { cls := 24, slots := #[.int 48, .int 48, .int 48, .int 48, .int 48, .int 48, .int 48, .int 48, .int 48, .int 48, .int 49, .int 49, .int 49, .int 49, .int 49, .int 49, .int 49, .int 49, .int 49, .int 49, .int 50, .int 50, .int 50, .int 50, .int 50, .int 50, .int 50, .int 50, .int 50, .int 50, .int 51, .int 51, .int 51, .int 51, .int 51, .int 51, .int 51, .int 51, .int 51, .int 51, .int 52, .int 52, .int 52, .int 52, .int 52, .int 52, .int 52, .int 52, .int 52, .int 52, .int 53, .int 53, .int 53, .int 53, .int 53, .int 53, .int 53, .int 53, .int 53, .int 53, .int 54, .int 54, .int 54, .int 54, .int 54, .int 54, .int 54, .int 54, .int 54, .int 54, .int 55, .int 55, .int 55, .int 55, .int 55, .int 55, .int 55, .int 55, .int 55, .int 55, .int 56, .int 56, .int 56, .int 56, .int 56, .int 56, .int 56, .int 56, .int 56, .int 56, .int 57, .int 57, .int 57, .int 57, .int 57, .int 57, .int 57, .int 57, .int 57, .int 57], vm := .none }]
def classes : Array Class := #[k0, k1, k2, k3, k4, k5, k6, k7, k8, k9, k10, k11, k12, k13, k14, k15, k16, k17, k18, k19, k20, k21, k22, k23, k24, k25, k26, k27, k28]
def interned : List (Array UInt16 × Addr) := []
def slotsUsed : Nat := 223
def theMethod : MethodId := ⟨1, 1⟩
def args0 : Array Value := #[.int 5, .int 6, .int 7, .int 8, .int 9, .int 10]
def aboutOver (below : List Frame) : State where
  vm := { classes := classes, interned := interned.toArray }
  heap := heap
  slotsUsed := slotsUsed
  threads := #[{ frames := .invoking theMethod args0 :: below }]
def below0 : List Frame := [.native { method := ⟨0, 0⟩, args := #[] }]
def about1 : State := aboutOver below0
def p0 : Program := .bare "" "" ""
def e0 : Env := launch0.env 0 0 0
theorem w_frames : about1.frames = Frame.invoking theMethod args0 :: below0 := rfl
set_option maxRecDepth 65536 in
theorem w_args : argsFit about1.vm theMethod args0 = true := by decide +kernel
set_option maxRecDepth 65536 in
theorem w_heap : heapFits about1 = true := by decide +kernel
set_option maxRecDepth 65536 in
theorem w_runnable : about1.curStatus? = some .runnable := by decide +kernel
set_option maxRecDepth 65536 in
theorem w_alone : about1.alone = true := by decide +kernel
set_option maxRecDepth 65536 in
theorem w_named : about1.methodNamed? x = some theMethod := by decide +kernel
set_option maxRecDepth 65536 in
theorem w_hears : about1.hears theMethod below0 = true := by decide +kernel
set_option maxRecDepth 65536 in
theorem w_ripe : about1.ripe theMethod args0 below0 = true := by decide +kernel
theorem w_running : about1.status = .running := rfl
set_option maxRecDepth 65536 in
theorem w_room : about1.hasRoom e0.platform room_1 = true :=
  launch0.hasRoom_least _ room_1 (by decide +kernel) (by decide +kernel) (by decide +kernel) (by decide +kernel) (by decide +kernel) (by decide +kernel)
theorem allAtoms_all (ts : List Jvm.Cond) (a : Array Jvm.Value) (st : Jvm.State) : (allAtoms ts).before a st = ts.all (fun c => c.before a st) := by
  induction ts with
  | nil => rfl
  | cons c t ih =>
    show (Jvm.Cond.and c (allAtoms t)).before a st = _
    rw [Jvm.Cond.before_and, ih, List.all_cons]
def words1 : List Jvm.Cond := Jvm.Cond.code x code maxLocals ret :: tables_1
/-- a 'code' word, met by the world's own term for the bytes: nothing is compared byte by byte -/
theorem code_word {y : MethodName} {bytes : ByteArray} {mx : Nat} {rt : Option FieldType} {a : Array Value} {s : State} {m : MethodId} {meth : Method} {c : Code} (h1 : s.methodNamed? y = some m) (h2 : s.vm.method? m = some meth) (h3 : meth.code = some c) (h4 : c.code = bytes)
    (h5 : (c.maxLocals == mx && c.exceptionTable.isEmpty && decide (c.maxStack ≤ mostOperands) && decide (meth.sig.returnType = rt) && !meth.locks && decide (parseMethodDescriptor y.desc = some meth.sig)) = true) : (Jvm.Cond.code y bytes mx rt).before a s = true := by
  simp only [Bool.and_eq_true, beq_iff_eq, Bool.not_eq_true', decide_eq_true_eq] at h5
  obtain ⟨⟨⟨⟨⟨g1, g2⟩, g3⟩, g4⟩, g5⟩, g6⟩ := h5
  simp [Cond.before, Cond.holds, Cond.value, h1, h2, h3, h4, g1, g2, g3, g4, g5, g6]
def isCode : Jvm.Cond → Bool
  | .code _ _ _ _ => true
  | _ => false
theorem all_split {L : List Jvm.Cond} {P : Jvm.Cond → Bool} (h1 : L.all (fun c => isCode c || P c) = true) (h2 : ∀ c ∈ L.filter isCode, P c = true) : L.all P = true := by
  refine List.all_eq_true.mpr fun c hc => ?_
  have h := List.all_eq_true.mp h1 c hc
  rcases Bool.eq_false_or_eq_true (isCode c) with hi | hi
  · exact h2 c (List.mem_filter.mpr ⟨hc, hi⟩)
  · simpa [hi] using h
set_option maxRecDepth 65536 in
theorem w_c0 : (Jvm.Cond.code x code maxLocals ret).before args0 about1 = true := code_word (m := ⟨1, 1⟩) (meth := k1m1) (c := k1c1) (by decide +kernel) rfl rfl rfl (by decide +kernel)
set_option maxRecDepth 65536 in
theorem w_c1 : (Jvm.Cond.code ({ cls := "java/lang/String", name := "<init>", desc := "([C)V" } : Jvm.MethodName) jdk_42_method_3_code (2 : Nat) (Option.none : Option Jvm.ClassFile.FieldType)).before args0 about1 = true := code_word (m := ⟨7, 1⟩) (meth := k7m1) (c := k7c1) (by decide +kernel) rfl rfl rfl (by decide +kernel)
set_option maxRecDepth 65536 in
theorem w_c2 : (Jvm.Cond.code ({ cls := "java/lang/String", name := "<init>", desc := "([CIILjava/lang/Void;)V" } : Jvm.MethodName) jdk_42_method_149_code (6 : Nat) (Option.none : Option Jvm.ClassFile.FieldType)).before args0 about1 = true := code_word (m := ⟨7, 7⟩) (meth := k7m7) (c := k7c7) (by decide +kernel) rfl rfl rfl (by decide +kernel)
set_option maxRecDepth 65536 in
theorem w_c3 : (Jvm.Cond.code ({ cls := "java/lang/Object", name := "<init>", desc := "()V" } : Jvm.MethodName) object_method_1_code (1 : Nat) (Option.none : Option Jvm.ClassFile.FieldType)).before args0 about1 = true := code_word (m := ⟨0, 0⟩) (meth := k0m0) (c := k0c0) (by decide +kernel) rfl rfl rfl (by decide +kernel)
set_option maxRecDepth 65536 in
theorem w_c4 : (Jvm.Cond.code ({ cls := "com/example/background_task_queue/backgroundtaskqueue/NameRule", name := "quote", desc := "(Ljava/lang/String;)Ljava/lang/String;" } : Jvm.MethodName) prog_7_method_6_code (1 : Nat) (Option.some (Jvm.ClassFile.FieldType.object "java/lang/String"))).before args0 about1 = true := code_word (m := ⟨9, 0⟩) (meth := k9m0) (c := k9c0) (by decide +kernel) rfl rfl rfl (by decide +kernel)
set_option maxRecDepth 65536 in
theorem w_c5 : (Jvm.Cond.code ({ cls := "java/lang/String", name := "length", desc := "()I" } : Jvm.MethodName) jdk_42_method_54_code (1 : Nat) (Option.some Jvm.ClassFile.FieldType.int)).before args0 about1 = true := code_word (m := ⟨7, 3⟩) (meth := k7m3) (c := k7c3) (by decide +kernel) rfl rfl rfl (by decide +kernel)
set_option maxRecDepth 65536 in
theorem w_c6 : (Jvm.Cond.code ({ cls := "java/lang/String", name := "coder", desc := "()B" } : Jvm.MethodName) jdk_42_method_152_code (1 : Nat) (Option.some Jvm.ClassFile.FieldType.byte)).before args0 about1 = true := code_word (m := ⟨7, 10⟩) (meth := k7m10) (c := k7c10) (by decide +kernel) rfl rfl rfl (by decide +kernel)
set_option maxRecDepth 65536 in
theorem w_c7 : (Jvm.Cond.code ({ cls := "java/lang/StringBuilder", name := "<init>", desc := "()V" } : Jvm.MethodName) jdk_67_method_1_code (1 : Nat) (Option.none : Option Jvm.ClassFile.FieldType)).before args0 about1 = true := code_word (m := ⟨12, 0⟩) (meth := k12m0) (c := k12c0) (by decide +kernel) rfl rfl rfl (by decide +kernel)
set_option maxRecDepth 65536 in
theorem w_c8 : (Jvm.Cond.code ({ cls := "java/lang/AbstractStringBuilder", name := "<init>", desc := "(I)V" } : Jvm.MethodName) jdk_68_method_2_code (2 : Nat) (Option.none : Option Jvm.ClassFile.FieldType)).before args0 about1 = true := code_word (m := ⟨11, 1⟩) (meth := k11m1) (c := k11c1) (by decide +kernel) rfl rfl rfl (by decide +kernel)
set_option maxRecDepth 65536 in
theorem w_c9 : (Jvm.Cond.code ({ cls := "java/lang/StringBuilder", name := "append", desc := "(Ljava/lang/String;)Ljava/lang/StringBuilder;" } : Jvm.MethodName) jdk_67_method_7_code (2 : Nat) (Option.some (Jvm.ClassFile.FieldType.object "java/lang/StringBuilder"))).before args0 about1 = true := code_word (m := ⟨12, 1⟩) (meth := k12m1) (c := k12c1) (by decide +kernel) rfl rfl rfl (by decide +kernel)
set_option maxRecDepth 65536 in
theorem w_c10 : (Jvm.Cond.code ({ cls := "java/lang/AbstractStringBuilder", name := "append", desc := "(Ljava/lang/String;)Ljava/lang/AbstractStringBuilder;" } : Jvm.MethodName) jdk_68_method_22_code (3 : Nat) (Option.some (Jvm.ClassFile.FieldType.object "java/lang/AbstractStringBuilder"))).before args0 about1 = true := code_word (m := ⟨11, 6⟩) (meth := k11m6) (c := k11c6) (by decide +kernel) rfl rfl rfl (by decide +kernel)
set_option maxRecDepth 65536 in
theorem w_c11 : (Jvm.Cond.code ({ cls := "java/lang/AbstractStringBuilder", name := "ensureCapacityInternal", desc := "(I)V" } : Jvm.MethodName) jdk_68_method_9_code (3 : Nat) (Option.none : Option Jvm.ClassFile.FieldType)).before args0 about1 = true := code_word (m := ⟨11, 3⟩) (meth := k11m3) (c := k11c3) (by decide +kernel) rfl rfl rfl (by decide +kernel)
set_option maxRecDepth 65536 in
theorem w_c12 : (Jvm.Cond.code ({ cls := "java/lang/AbstractStringBuilder", name := "putStringAt", desc := "(ILjava/lang/String;)V" } : Jvm.MethodName) jdk_68_method_73_code (3 : Nat) (Option.none : Option Jvm.ClassFile.FieldType)).before args0 about1 = true := code_word (m := ⟨11, 11⟩) (meth := k11m11) (c := k11c11) (by decide +kernel) rfl rfl rfl (by decide +kernel)
set_option maxRecDepth 65536 in
theorem w_c13 : (Jvm.Cond.code ({ cls := "java/lang/AbstractStringBuilder", name := "inflateIfNeededFor", desc := "(Ljava/lang/String;)V" } : Jvm.MethodName) jdk_68_method_71_code (2 : Nat) (Option.none : Option Jvm.ClassFile.FieldType)).before args0 about1 = true := code_word (m := ⟨11, 10⟩) (meth := k11m10) (c := k11c10) (by decide +kernel) rfl rfl rfl (by decide +kernel)
set_option maxRecDepth 65536 in
theorem w_c14 : (Jvm.Cond.code ({ cls := "java/lang/String", name := "getBytes", desc := "([BIB)V" } : Jvm.MethodName) jdk_42_method_147_code (4 : Nat) (Option.none : Option Jvm.ClassFile.FieldType)).before args0 about1 = true := code_word (m := ⟨7, 6⟩) (meth := k7m6) (c := k7c6) (by decide +kernel) rfl rfl rfl (by decide +kernel)
set_option maxRecDepth 65536 in
theorem w_c15 : (Jvm.Cond.code ({ cls := "java/lang/StringBuilder", name := "toString", desc := "()Ljava/lang/String;" } : Jvm.MethodName) jdk_67_method_42_code (1 : Nat) (Option.some (Jvm.ClassFile.FieldType.object "java/lang/String"))).before args0 about1 = true := code_word (m := ⟨12, 3⟩) (meth := k12m3) (c := k12c3) (by decide +kernel) rfl rfl rfl (by decide +kernel)
set_option maxRecDepth 65536 in
theorem w_c16 : (Jvm.Cond.code ({ cls := "java/lang/String", name := "<init>", desc := "(Ljava/lang/StringBuilder;)V" } : Jvm.MethodName) jdk_42_method_53_code (2 : Nat) (Option.none : Option Jvm.ClassFile.FieldType)).before args0 about1 = true := code_word (m := ⟨7, 2⟩) (meth := k7m2) (c := k7c2) (by decide +kernel) rfl rfl rfl (by decide +kernel)
set_option maxRecDepth 65536 in
theorem w_c17 : (Jvm.Cond.code ({ cls := "java/lang/String", name := "<init>", desc := "(Ljava/lang/AbstractStringBuilder;Ljava/lang/Void;)V" } : Jvm.MethodName) jdk_42_method_150_code (5 : Nat) (Option.none : Option Jvm.ClassFile.FieldType)).before args0 about1 = true := code_word (m := ⟨7, 8⟩) (meth := k7m8) (c := k7c8) (by decide +kernel) rfl rfl rfl (by decide +kernel)
set_option maxRecDepth 65536 in
theorem w_c18 : (Jvm.Cond.code ({ cls := "java/lang/AbstractStringBuilder", name := "getValue", desc := "()[B" } : Jvm.MethodName) jdk_68_method_64_code (1 : Nat) (Option.some (Jvm.ClassFile.FieldType.array Jvm.ClassFile.FieldType.byte))).before args0 about1 = true := code_word (m := ⟨11, 8⟩) (meth := k11m8) (c := k11c8) (by decide +kernel) rfl rfl rfl (by decide +kernel)
set_option maxRecDepth 65536 in
theorem w_c19 : (Jvm.Cond.code ({ cls := "java/lang/StringBuilder", name := "length", desc := "()I" } : Jvm.MethodName) jdk_67_method_93_code (1 : Nat) (Option.some Jvm.ClassFile.FieldType.int)).before args0 about1 = true := code_word (m := ⟨12, 4⟩) (meth := k12m4) (c := k12c4) (by decide +kernel) rfl rfl rfl (by decide +kernel)
set_option maxRecDepth 65536 in
theorem w_c20 : (Jvm.Cond.code ({ cls := "java/lang/AbstractStringBuilder", name := "length", desc := "()I" } : Jvm.MethodName) jdk_68_method_6_code (1 : Nat) (Option.some Jvm.ClassFile.FieldType.int)).before args0 about1 = true := code_word (m := ⟨11, 2⟩) (meth := k11m2) (c := k11c2) (by decide +kernel) rfl rfl rfl (by decide +kernel)
set_option maxRecDepth 65536 in
theorem w_c21 : (Jvm.Cond.code ({ cls := "java/lang/AbstractStringBuilder", name := "isLatin1", desc := "()Z" } : Jvm.MethodName) jdk_68_method_68_code (1 : Nat) (Option.some Jvm.ClassFile.FieldType.boolean)).before args0 about1 = true := code_word (m := ⟨11, 9⟩) (meth := k11m9) (c := k11c9) (by decide +kernel) rfl rfl rfl (by decide +kernel)
set_option maxRecDepth 65536 in
theorem w_c22 : (Jvm.Cond.code ({ cls := "java/util/Arrays", name := "copyOfRange", desc := "([BII)[B" } : Jvm.MethodName) jdk_65_method_132_code (3 : Nat) (Option.some (Jvm.ClassFile.FieldType.array Jvm.ClassFile.FieldType.byte))).before args0 about1 = true := code_word (m := ⟨14, 3⟩) (meth := k14m3) (c := k14c3) (by decide +kernel) rfl rfl rfl (by decide +kernel)
set_option maxRecDepth 65536 in
theorem w_c23 : (Jvm.Cond.code ({ cls := "java/util/Arrays", name := "copyOfRangeByte", desc := "([BII)[B" } : Jvm.MethodName) jdk_65_method_133_code (5 : Nat) (Option.some (Jvm.ClassFile.FieldType.array Jvm.ClassFile.FieldType.byte))).before args0 about1 = true := code_word (m := ⟨14, 4⟩) (meth := k14m4) (c := k14c4) (by decide +kernel) rfl rfl rfl (by decide +kernel)
set_option maxRecDepth 65536 in
theorem w_c24 : (Jvm.Cond.code ({ cls := "java/util/Arrays", name := "checkLength", desc := "(II)V" } : Jvm.MethodName) jdk_65_method_131_code (2 : Nat) (Option.none : Option Jvm.ClassFile.FieldType)).before args0 about1 = true := code_word (m := ⟨14, 2⟩) (meth := k14m2) (c := k14c2) (by decide +kernel) rfl rfl rfl (by decide +kernel)
set_option maxRecDepth 65536 in
theorem w_c25 : (Jvm.Cond.code ({ cls := "java/lang/Math", name := "min", desc := "(II)I" } : Jvm.MethodName) jdk_29_method_69_code (2 : Nat) (Option.some Jvm.ClassFile.FieldType.int)).before args0 about1 = true := code_word (m := ⟨15, 2⟩) (meth := k15m2) (c := k15c2) (by decide +kernel) rfl rfl rfl (by decide +kernel)
set_option maxRecDepth 65536 in
theorem w_c26 : (Jvm.Cond.code ({ cls := "com/example/background_task_queue/backgroundtaskqueue/NameRuleQuotePinLaw", name := "copy", desc := "([C[CI)V" } : Jvm.MethodName) method_3_code (3 : Nat) (Option.none : Option Jvm.ClassFile.FieldType)).before args0 about1 = true := code_word (m := ⟨1, 2⟩) (meth := k1m2) (c := k1c2) (by decide +kernel) rfl rfl rfl (by decide +kernel)
set_option maxRecDepth 65536 in
theorem w_c27 : (Jvm.Cond.code ({ cls := "java/lang/StringUTF16", name := "compress", desc := "([CII)[B" } : Jvm.MethodName) jdk_52_method_16_code (6 : Nat) (Option.some (Jvm.ClassFile.FieldType.array Jvm.ClassFile.FieldType.byte))).before args0 about1 = true := code_word (m := ⟨16, 8⟩) (meth := k16m8) (c := k16c8) (by decide +kernel) rfl rfl rfl (by decide +kernel)
set_option maxRecDepth 65536 in
theorem w_c28 : (Jvm.Cond.code ({ cls := "java/lang/StringUTF16", name := "compress", desc := "([CI[BII)I" } : Jvm.MethodName) jdk_52_method_21_code (7 : Nat) (Option.some Jvm.ClassFile.FieldType.int)).before args0 about1 = true := code_word (m := ⟨16, 10⟩) (meth := k16m10) (c := k16c10) (by decide +kernel) rfl rfl rfl (by decide +kernel)
set_option maxRecDepth 65536 in
theorem w_c29 : (Jvm.Cond.code ({ cls := "java/lang/StringUTF16", name := "coderFromArrayLen", desc := "([BI)B" } : Jvm.MethodName) jdk_52_method_15_code (2 : Nat) (Option.some Jvm.ClassFile.FieldType.byte)).before args0 about1 = true := code_word (m := ⟨16, 7⟩) (meth := k16m7) (c := k16c7) (by decide +kernel) rfl rfl rfl (by decide +kernel)
set_option maxRecDepth 65536 in
theorem w_c30 : (Jvm.Cond.code ({ cls := "java/lang/String", name := "equals", desc := "(Ljava/lang/Object;)Z" } : Jvm.MethodName) jdk_42_method_66_code (3 : Nat) (Option.some Jvm.ClassFile.FieldType.boolean)).before args0 about1 = true := code_word (m := ⟨7, 4⟩) (meth := k7m4) (c := k7c4) (by decide +kernel) rfl rfl rfl (by decide +kernel)
set_option maxRecDepth 65536 in
theorem w_c31 : (Jvm.Cond.code ({ cls := "java/lang/StringLatin1", name := "equals", desc := "([B[B)Z" } : Jvm.MethodName) jdk_43_method_13_code (3 : Nat) (Option.some Jvm.ClassFile.FieldType.boolean)).before args0 about1 = true := code_word (m := ⟨17, 1⟩) (meth := k17m1) (c := k17c1) (by decide +kernel) rfl rfl rfl (by decide +kernel)
set_option maxRecDepth 65536 in
theorem w_c32 : (Jvm.Cond.code ({ cls := "java/lang/String", name := "substring", desc := "(II)Ljava/lang/String;" } : Jvm.MethodName) jdk_42_method_92_code (5 : Nat) (Option.some (Jvm.ClassFile.FieldType.object "java/lang/String"))).before args0 about1 = true := code_word (m := ⟨7, 5⟩) (meth := k7m5) (c := k7c5) (by decide +kernel) rfl rfl rfl (by decide +kernel)
set_option maxRecDepth 65536 in
theorem w_c33 : (Jvm.Cond.code ({ cls := "java/lang/String", name := "checkBoundsBeginEnd", desc := "(III)V" } : Jvm.MethodName) jdk_42_method_158_code (3 : Nat) (Option.none : Option Jvm.ClassFile.FieldType)).before args0 about1 = true := code_word (m := ⟨7, 13⟩) (meth := k7m13) (c := k7c13) (by decide +kernel) rfl rfl rfl (by decide +kernel)
set_option maxRecDepth 65536 in
theorem w_c34 : (Jvm.Cond.code ({ cls := "jdk/internal/util/Preconditions", name := "checkFromToIndex", desc := "(IIILjava/util/function/BiFunction;)I" } : Jvm.MethodName) jdk_41_method_12_code (4 : Nat) (Option.some Jvm.ClassFile.FieldType.int)).before args0 about1 = true := code_word (m := ⟨18, 1⟩) (meth := k18m1) (c := k18c1) (by decide +kernel) rfl rfl rfl (by decide +kernel)
set_option maxRecDepth 65536 in
theorem w_c35 : (Jvm.Cond.code ({ cls := "java/lang/String", name := "isLatin1", desc := "()Z" } : Jvm.MethodName) jdk_42_method_154_code (1 : Nat) (Option.some Jvm.ClassFile.FieldType.boolean)).before args0 about1 = true := code_word (m := ⟨7, 11⟩) (meth := k7m11) (c := k7c11) (by decide +kernel) rfl rfl rfl (by decide +kernel)
set_option maxRecDepth 65536 in
theorem w_c36 : (Jvm.Cond.code ({ cls := "java/lang/StringLatin1", name := "newString", desc := "([BII)Ljava/lang/String;" } : Jvm.MethodName) jdk_43_method_47_code (3 : Nat) (Option.some (Jvm.ClassFile.FieldType.object "java/lang/String"))).before args0 about1 = true := code_word (m := ⟨17, 2⟩) (meth := k17m2) (c := k17c2) (by decide +kernel) rfl rfl rfl (by decide +kernel)
set_option maxRecDepth 65536 in
theorem w_c37 : (Jvm.Cond.code ({ cls := "java/lang/String", name := "<init>", desc := "([BB)V" } : Jvm.MethodName) jdk_42_method_151_code (3 : Nat) (Option.none : Option Jvm.ClassFile.FieldType)).before args0 about1 = true := code_word (m := ⟨7, 9⟩) (meth := k7m9) (c := k7c9) (by decide +kernel) rfl rfl rfl (by decide +kernel)
set_option maxRecDepth 65536 in
theorem w_c38 : (Jvm.Cond.code ({ cls := "java/lang/AbstractStringBuilder", name := "newCapacity", desc := "(I)I" } : Jvm.MethodName) jdk_68_method_10_code (6 : Nat) (Option.some Jvm.ClassFile.FieldType.int)).before args0 about1 = true := code_word (m := ⟨11, 4⟩) (meth := k11m4) (c := k11c4) (by decide +kernel) rfl rfl rfl (by decide +kernel)
set_option maxRecDepth 65536 in
theorem w_c39 : (Jvm.Cond.code ({ cls := "jdk/internal/util/ArraysSupport", name := "newLength", desc := "(III)I" } : Jvm.MethodName) jdk_48_method_27_code (4 : Nat) (Option.some Jvm.ClassFile.FieldType.int)).before args0 about1 = true := code_word (m := ⟨19, 1⟩) (meth := k19m1) (c := k19c1) (by decide +kernel) rfl rfl rfl (by decide +kernel)
set_option maxRecDepth 65536 in
theorem w_c40 : (Jvm.Cond.code ({ cls := "java/lang/Math", name := "max", desc := "(II)I" } : Jvm.MethodName) jdk_29_method_65_code (2 : Nat) (Option.some Jvm.ClassFile.FieldType.int)).before args0 about1 = true := code_word (m := ⟨15, 1⟩) (meth := k15m1) (c := k15c1) (by decide +kernel) rfl rfl rfl (by decide +kernel)
set_option maxRecDepth 65536 in
theorem w_c41 : (Jvm.Cond.code ({ cls := "java/util/Arrays", name := "copyOf", desc := "([BI)[B" } : Jvm.MethodName) jdk_65_method_121_code (3 : Nat) (Option.some (Jvm.ClassFile.FieldType.array Jvm.ClassFile.FieldType.byte))).before args0 about1 = true := code_word (m := ⟨14, 1⟩) (meth := k14m1) (c := k14c1) (by decide +kernel) rfl rfl rfl (by decide +kernel)
set_option maxRecDepth 65536 in
theorem w_c42 : (Jvm.Cond.code ({ cls := "java/lang/StringBuilder", name := "append", desc := "(I)Ljava/lang/StringBuilder;" } : Jvm.MethodName) jdk_67_method_15_code (2 : Nat) (Option.some (Jvm.ClassFile.FieldType.object "java/lang/StringBuilder"))).before args0 about1 = true := code_word (m := ⟨12, 2⟩) (meth := k12m2) (c := k12c2) (by decide +kernel) rfl rfl rfl (by decide +kernel)
set_option maxRecDepth 65536 in
theorem w_c43 : (Jvm.Cond.code ({ cls := "java/lang/AbstractStringBuilder", name := "append", desc := "(I)Ljava/lang/AbstractStringBuilder;" } : Jvm.MethodName) jdk_68_method_32_code (4 : Nat) (Option.some (Jvm.ClassFile.FieldType.object "java/lang/AbstractStringBuilder"))).before args0 about1 = true := code_word (m := ⟨11, 7⟩) (meth := k11m7) (c := k11c7) (by decide +kernel) rfl rfl rfl (by decide +kernel)
set_option maxRecDepth 65536 in
theorem w_c44 : (Jvm.Cond.code ({ cls := "java/lang/Integer", name := "stringSize", desc := "(I)I" } : Jvm.MethodName) jdk_33_method_13_code (4 : Nat) (Option.some Jvm.ClassFile.FieldType.int)).before args0 about1 = true := code_word (m := ⟨21, 1⟩) (meth := k21m1) (c := k21c1) (by decide +kernel) rfl rfl rfl (by decide +kernel)
set_option maxRecDepth 65536 in
theorem w_c45 : (Jvm.Cond.code ({ cls := "java/lang/Integer", name := "getChars", desc := "(II[B)I" } : Jvm.MethodName) jdk_33_method_12_code (7 : Nat) (Option.some Jvm.ClassFile.FieldType.int)).before args0 about1 = true := code_word (m := ⟨21, 0⟩) (meth := k21m0) (c := k21c0) (by decide +kernel) rfl rfl rfl (by decide +kernel)
set_option maxRecDepth 65536 in
theorem w_c46 : (Jvm.Cond.code ({ cls := "java/lang/StringUTF16", name := "toBytes", desc := "([CII)[B" } : Jvm.MethodName) jdk_52_method_14_code (5 : Nat) (Option.some (Jvm.ClassFile.FieldType.array Jvm.ClassFile.FieldType.byte))).before args0 about1 = true := code_word (m := ⟨16, 6⟩) (meth := k16m6) (c := k16c6) (by decide +kernel) rfl rfl rfl (by decide +kernel)
set_option maxRecDepth 65536 in
theorem w_c47 : (Jvm.Cond.code ({ cls := "java/lang/StringUTF16", name := "newBytesFor", desc := "(I)[B" } : Jvm.MethodName) jdk_52_method_2_code (1 : Nat) (Option.some (Jvm.ClassFile.FieldType.array Jvm.ClassFile.FieldType.byte))).before args0 about1 = true := code_word (m := ⟨16, 1⟩) (meth := k16m1) (c := k16c1) (by decide +kernel) rfl rfl rfl (by decide +kernel)
set_option maxRecDepth 65536 in
theorem w_c48 : (Jvm.Cond.code ({ cls := "java/lang/StringUTF16", name := "newBytesLength", desc := "(I)I" } : Jvm.MethodName) jdk_52_method_3_code (1 : Nat) (Option.some Jvm.ClassFile.FieldType.int)).before args0 about1 = true := code_word (m := ⟨16, 2⟩) (meth := k16m2) (c := k16c2) (by decide +kernel) rfl rfl rfl (by decide +kernel)
set_option maxRecDepth 65536 in
theorem w_c49 : (Jvm.Cond.code ({ cls := "java/lang/StringUTF16", name := "putChar", desc := "([BII)V" } : Jvm.MethodName) jdk_52_method_4_code (3 : Nat) (Option.none : Option Jvm.ClassFile.FieldType)).before args0 about1 = true := code_word (m := ⟨16, 3⟩) (meth := k16m3) (c := k16c3) (by decide +kernel) rfl rfl rfl (by decide +kernel)
set_option maxRecDepth 65536 in
theorem w_c50 : (Jvm.Cond.code ({ cls := "java/lang/StringUTF16", name := "getChar", desc := "([BI)C" } : Jvm.MethodName) jdk_52_method_5_code (2 : Nat) (Option.some Jvm.ClassFile.FieldType.char)).before args0 about1 = true := code_word (m := ⟨16, 4⟩) (meth := k16m4) (c := k16c4) (by decide +kernel) rfl rfl rfl (by decide +kernel)
set_option maxRecDepth 65536 in
theorem w_c51 : (Jvm.Cond.code ({ cls := "java/lang/AbstractStringBuilder", name := "inflate", desc := "()V" } : Jvm.MethodName) jdk_68_method_11_code (2 : Nat) (Option.none : Option Jvm.ClassFile.FieldType)).before args0 about1 = true := code_word (m := ⟨11, 5⟩) (meth := k11m5) (c := k11c5) (by decide +kernel) rfl rfl rfl (by decide +kernel)
set_option maxRecDepth 65536 in
theorem w_c52 : (Jvm.Cond.code ({ cls := "java/lang/StringLatin1", name := "inflate", desc := "([BI[BII)V" } : Jvm.MethodName) jdk_43_method_50_code (5 : Nat) (Option.none : Option Jvm.ClassFile.FieldType)).before args0 about1 = true := code_word (m := ⟨17, 3⟩) (meth := k17m3) (c := k17c3) (by decide +kernel) rfl rfl rfl (by decide +kernel)
set_option maxRecDepth 65536 in
theorem w_c53 : (Jvm.Cond.code ({ cls := "java/lang/StringUTF16", name := "inflate", desc := "([BI[BII)V" } : Jvm.MethodName) jdk_52_method_86_code (6 : Nat) (Option.none : Option Jvm.ClassFile.FieldType)).before args0 about1 = true := code_word (m := ⟨16, 14⟩) (meth := k16m14) (c := k16c14) (by decide +kernel) rfl rfl rfl (by decide +kernel)
set_option maxRecDepth 65536 in
theorem w_c54 : (Jvm.Cond.code ({ cls := "java/lang/StringUTF16", name := "checkBoundsOffCount", desc := "(II[B)V" } : Jvm.MethodName) jdk_52_method_94_code (3 : Nat) (Option.none : Option Jvm.ClassFile.FieldType)).before args0 about1 = true := code_word (m := ⟨16, 17⟩) (meth := k16m17) (c := k16c17) (by decide +kernel) rfl rfl rfl (by decide +kernel)
set_option maxRecDepth 65536 in
theorem w_c55 : (Jvm.Cond.code ({ cls := "java/lang/StringUTF16", name := "length", desc := "([B)I" } : Jvm.MethodName) jdk_52_method_6_code (1 : Nat) (Option.some Jvm.ClassFile.FieldType.int)).before args0 about1 = true := code_word (m := ⟨16, 5⟩) (meth := k16m5) (c := k16c5) (by decide +kernel) rfl rfl rfl (by decide +kernel)
set_option maxRecDepth 65536 in
theorem w_c56 : (Jvm.Cond.code ({ cls := "java/lang/String", name := "checkBoundsOffCount", desc := "(III)I" } : Jvm.MethodName) jdk_42_method_157_code (3 : Nat) (Option.some Jvm.ClassFile.FieldType.int)).before args0 about1 = true := code_word (m := ⟨7, 12⟩) (meth := k7m12) (c := k7c12) (by decide +kernel) rfl rfl rfl (by decide +kernel)
set_option maxRecDepth 65536 in
theorem w_c57 : (Jvm.Cond.code ({ cls := "jdk/internal/util/Preconditions", name := "checkFromIndexSize", desc := "(IIILjava/util/function/BiFunction;)I" } : Jvm.MethodName) jdk_41_method_13_code (4 : Nat) (Option.some Jvm.ClassFile.FieldType.int)).before args0 about1 = true := code_word (m := ⟨18, 2⟩) (meth := k18m2) (c := k18c2) (by decide +kernel) rfl rfl rfl (by decide +kernel)
set_option maxRecDepth 65536 in
theorem w_c58 : (Jvm.Cond.code ({ cls := "java/lang/StringUTF16", name := "newString", desc := "([BII)Ljava/lang/String;" } : Jvm.MethodName) jdk_52_method_69_code (5 : Nat) (Option.some (Jvm.ClassFile.FieldType.object "java/lang/String"))).before args0 about1 = true := code_word (m := ⟨16, 12⟩) (meth := k16m12) (c := k16c12) (by decide +kernel) rfl rfl rfl (by decide +kernel)
set_option maxRecDepth 65536 in
theorem w_c59 : (Jvm.Cond.code ({ cls := "java/lang/StringUTF16", name := "compress", desc := "([BII)[B" } : Jvm.MethodName) jdk_52_method_17_code (6 : Nat) (Option.some (Jvm.ClassFile.FieldType.array Jvm.ClassFile.FieldType.byte))).before args0 about1 = true := code_word (m := ⟨16, 9⟩) (meth := k16m9) (c := k16c9) (by decide +kernel) rfl rfl rfl (by decide +kernel)
set_option maxRecDepth 65536 in
theorem w_c60 : (Jvm.Cond.code ({ cls := "java/lang/StringUTF16", name := "compress", desc := "([BI[BII)I" } : Jvm.MethodName) jdk_52_method_22_code (7 : Nat) (Option.some Jvm.ClassFile.FieldType.int)).before args0 about1 = true := code_word (m := ⟨16, 11⟩) (meth := k16m11) (c := k16c11) (by decide +kernel) rfl rfl rfl (by decide +kernel)
set_option maxRecDepth 65536 in
theorem w_c61 : (Jvm.Cond.code ({ cls := "java/lang/StringUTF16", name := "getChars", desc := "(III[B)I" } : Jvm.MethodName) jdk_52_method_77_code (5 : Nat) (Option.some Jvm.ClassFile.FieldType.int)).before args0 about1 = true := code_word (m := ⟨16, 13⟩) (meth := k16m13) (c := k16c13) (by decide +kernel) rfl rfl rfl (by decide +kernel)
set_option maxRecDepth 65536 in
theorem w_c62 : (Jvm.Cond.code ({ cls := "java/lang/StringUTF16", name := "checkBoundsBeginEnd", desc := "(II[B)V" } : Jvm.MethodName) jdk_52_method_93_code (3 : Nat) (Option.none : Option Jvm.ClassFile.FieldType)).before args0 about1 = true := code_word (m := ⟨16, 16⟩) (meth := k16m16) (c := k16c16) (by decide +kernel) rfl rfl rfl (by decide +kernel)
set_option maxRecDepth 65536 in
theorem w_c63 : (Jvm.Cond.code ({ cls := "java/lang/StringUTF16", name := "getChars", desc := "(II[B)I" } : Jvm.MethodName) jdk_52_method_89_code (7 : Nat) (Option.some Jvm.ClassFile.FieldType.int)).before args0 about1 = true := code_word (m := ⟨16, 15⟩) (meth := k16m15) (c := k16c15) (by decide +kernel) rfl rfl rfl (by decide +kernel)
def codes1 : List Jvm.Cond := [Jvm.Cond.code x code maxLocals ret, Jvm.Cond.code ({ cls := "java/lang/String", name := "<init>", desc := "([C)V" } : Jvm.MethodName) jdk_42_method_3_code (2 : Nat) (Option.none : Option Jvm.ClassFile.FieldType), Jvm.Cond.code ({ cls := "java/lang/String", name := "<init>", desc := "([CIILjava/lang/Void;)V" } : Jvm.MethodName) jdk_42_method_149_code (6 : Nat) (Option.none : Option Jvm.ClassFile.FieldType), Jvm.Cond.code ({ cls := "java/lang/Object", name := "<init>", desc := "()V" } : Jvm.MethodName) object_method_1_code (1 : Nat) (Option.none : Option Jvm.ClassFile.FieldType), Jvm.Cond.code ({ cls := "com/example/background_task_queue/backgroundtaskqueue/NameRule", name := "quote", desc := "(Ljava/lang/String;)Ljava/lang/String;" } : Jvm.MethodName) prog_7_method_6_code (1 : Nat) (Option.some (Jvm.ClassFile.FieldType.object "java/lang/String")), Jvm.Cond.code ({ cls := "java/lang/String", name := "length", desc := "()I" } : Jvm.MethodName) jdk_42_method_54_code (1 : Nat) (Option.some Jvm.ClassFile.FieldType.int), Jvm.Cond.code ({ cls := "java/lang/String", name := "coder", desc := "()B" } : Jvm.MethodName) jdk_42_method_152_code (1 : Nat) (Option.some Jvm.ClassFile.FieldType.byte), Jvm.Cond.code ({ cls := "java/lang/StringBuilder", name := "<init>", desc := "()V" } : Jvm.MethodName) jdk_67_method_1_code (1 : Nat) (Option.none : Option Jvm.ClassFile.FieldType), Jvm.Cond.code ({ cls := "java/lang/AbstractStringBuilder", name := "<init>", desc := "(I)V" } : Jvm.MethodName) jdk_68_method_2_code (2 : Nat) (Option.none : Option Jvm.ClassFile.FieldType), Jvm.Cond.code ({ cls := "java/lang/StringBuilder", name := "append", desc := "(Ljava/lang/String;)Ljava/lang/StringBuilder;" } : Jvm.MethodName) jdk_67_method_7_code (2 : Nat) (Option.some (Jvm.ClassFile.FieldType.object "java/lang/StringBuilder")), Jvm.Cond.code ({ cls := "java/lang/AbstractStringBuilder", name := "append", desc := "(Ljava/lang/String;)Ljava/lang/AbstractStringBuilder;" } : Jvm.MethodName) jdk_68_method_22_code (3 : Nat) (Option.some (Jvm.ClassFile.FieldType.object "java/lang/AbstractStringBuilder")), Jvm.Cond.code ({ cls := "java/lang/AbstractStringBuilder", name := "ensureCapacityInternal", desc := "(I)V" } : Jvm.MethodName) jdk_68_method_9_code (3 : Nat) (Option.none : Option Jvm.ClassFile.FieldType), Jvm.Cond.code ({ cls := "java/lang/AbstractStringBuilder", name := "putStringAt", desc := "(ILjava/lang/String;)V" } : Jvm.MethodName) jdk_68_method_73_code (3 : Nat) (Option.none : Option Jvm.ClassFile.FieldType), Jvm.Cond.code ({ cls := "java/lang/AbstractStringBuilder", name := "inflateIfNeededFor", desc := "(Ljava/lang/String;)V" } : Jvm.MethodName) jdk_68_method_71_code (2 : Nat) (Option.none : Option Jvm.ClassFile.FieldType), Jvm.Cond.code ({ cls := "java/lang/String", name := "getBytes", desc := "([BIB)V" } : Jvm.MethodName) jdk_42_method_147_code (4 : Nat) (Option.none : Option Jvm.ClassFile.FieldType), Jvm.Cond.code ({ cls := "java/lang/StringBuilder", name := "toString", desc := "()Ljava/lang/String;" } : Jvm.MethodName) jdk_67_method_42_code (1 : Nat) (Option.some (Jvm.ClassFile.FieldType.object "java/lang/String")), Jvm.Cond.code ({ cls := "java/lang/String", name := "<init>", desc := "(Ljava/lang/StringBuilder;)V" } : Jvm.MethodName) jdk_42_method_53_code (2 : Nat) (Option.none : Option Jvm.ClassFile.FieldType), Jvm.Cond.code ({ cls := "java/lang/String", name := "<init>", desc := "(Ljava/lang/AbstractStringBuilder;Ljava/lang/Void;)V" } : Jvm.MethodName) jdk_42_method_150_code (5 : Nat) (Option.none : Option Jvm.ClassFile.FieldType), Jvm.Cond.code ({ cls := "java/lang/AbstractStringBuilder", name := "getValue", desc := "()[B" } : Jvm.MethodName) jdk_68_method_64_code (1 : Nat) (Option.some (Jvm.ClassFile.FieldType.array Jvm.ClassFile.FieldType.byte)), Jvm.Cond.code ({ cls := "java/lang/StringBuilder", name := "length", desc := "()I" } : Jvm.MethodName) jdk_67_method_93_code (1 : Nat) (Option.some Jvm.ClassFile.FieldType.int), Jvm.Cond.code ({ cls := "java/lang/AbstractStringBuilder", name := "length", desc := "()I" } : Jvm.MethodName) jdk_68_method_6_code (1 : Nat) (Option.some Jvm.ClassFile.FieldType.int), Jvm.Cond.code ({ cls := "java/lang/AbstractStringBuilder", name := "isLatin1", desc := "()Z" } : Jvm.MethodName) jdk_68_method_68_code (1 : Nat) (Option.some Jvm.ClassFile.FieldType.boolean), Jvm.Cond.code ({ cls := "java/util/Arrays", name := "copyOfRange", desc := "([BII)[B" } : Jvm.MethodName) jdk_65_method_132_code (3 : Nat) (Option.some (Jvm.ClassFile.FieldType.array Jvm.ClassFile.FieldType.byte)), Jvm.Cond.code ({ cls := "java/util/Arrays", name := "copyOfRangeByte", desc := "([BII)[B" } : Jvm.MethodName) jdk_65_method_133_code (5 : Nat) (Option.some (Jvm.ClassFile.FieldType.array Jvm.ClassFile.FieldType.byte)), Jvm.Cond.code ({ cls := "java/util/Arrays", name := "checkLength", desc := "(II)V" } : Jvm.MethodName) jdk_65_method_131_code (2 : Nat) (Option.none : Option Jvm.ClassFile.FieldType), Jvm.Cond.code ({ cls := "java/lang/Math", name := "min", desc := "(II)I" } : Jvm.MethodName) jdk_29_method_69_code (2 : Nat) (Option.some Jvm.ClassFile.FieldType.int), Jvm.Cond.code ({ cls := "com/example/background_task_queue/backgroundtaskqueue/NameRuleQuotePinLaw", name := "copy", desc := "([C[CI)V" } : Jvm.MethodName) method_3_code (3 : Nat) (Option.none : Option Jvm.ClassFile.FieldType), Jvm.Cond.code ({ cls := "java/lang/StringUTF16", name := "compress", desc := "([CII)[B" } : Jvm.MethodName) jdk_52_method_16_code (6 : Nat) (Option.some (Jvm.ClassFile.FieldType.array Jvm.ClassFile.FieldType.byte)), Jvm.Cond.code ({ cls := "java/lang/StringUTF16", name := "compress", desc := "([CI[BII)I" } : Jvm.MethodName) jdk_52_method_21_code (7 : Nat) (Option.some Jvm.ClassFile.FieldType.int), Jvm.Cond.code ({ cls := "java/lang/StringUTF16", name := "coderFromArrayLen", desc := "([BI)B" } : Jvm.MethodName) jdk_52_method_15_code (2 : Nat) (Option.some Jvm.ClassFile.FieldType.byte), Jvm.Cond.code ({ cls := "java/lang/String", name := "equals", desc := "(Ljava/lang/Object;)Z" } : Jvm.MethodName) jdk_42_method_66_code (3 : Nat) (Option.some Jvm.ClassFile.FieldType.boolean), Jvm.Cond.code ({ cls := "java/lang/StringLatin1", name := "equals", desc := "([B[B)Z" } : Jvm.MethodName) jdk_43_method_13_code (3 : Nat) (Option.some Jvm.ClassFile.FieldType.boolean), Jvm.Cond.code ({ cls := "java/lang/String", name := "substring", desc := "(II)Ljava/lang/String;" } : Jvm.MethodName) jdk_42_method_92_code (5 : Nat) (Option.some (Jvm.ClassFile.FieldType.object "java/lang/String")), Jvm.Cond.code ({ cls := "java/lang/String", name := "checkBoundsBeginEnd", desc := "(III)V" } : Jvm.MethodName) jdk_42_method_158_code (3 : Nat) (Option.none : Option Jvm.ClassFile.FieldType), Jvm.Cond.code ({ cls := "jdk/internal/util/Preconditions", name := "checkFromToIndex", desc := "(IIILjava/util/function/BiFunction;)I" } : Jvm.MethodName) jdk_41_method_12_code (4 : Nat) (Option.some Jvm.ClassFile.FieldType.int), Jvm.Cond.code ({ cls := "java/lang/String", name := "isLatin1", desc := "()Z" } : Jvm.MethodName) jdk_42_method_154_code (1 : Nat) (Option.some Jvm.ClassFile.FieldType.boolean), Jvm.Cond.code ({ cls := "java/lang/StringLatin1", name := "newString", desc := "([BII)Ljava/lang/String;" } : Jvm.MethodName) jdk_43_method_47_code (3 : Nat) (Option.some (Jvm.ClassFile.FieldType.object "java/lang/String")), Jvm.Cond.code ({ cls := "java/lang/String", name := "<init>", desc := "([BB)V" } : Jvm.MethodName) jdk_42_method_151_code (3 : Nat) (Option.none : Option Jvm.ClassFile.FieldType), Jvm.Cond.code ({ cls := "java/lang/AbstractStringBuilder", name := "newCapacity", desc := "(I)I" } : Jvm.MethodName) jdk_68_method_10_code (6 : Nat) (Option.some Jvm.ClassFile.FieldType.int), Jvm.Cond.code ({ cls := "jdk/internal/util/ArraysSupport", name := "newLength", desc := "(III)I" } : Jvm.MethodName) jdk_48_method_27_code (4 : Nat) (Option.some Jvm.ClassFile.FieldType.int), Jvm.Cond.code ({ cls := "java/lang/Math", name := "max", desc := "(II)I" } : Jvm.MethodName) jdk_29_method_65_code (2 : Nat) (Option.some Jvm.ClassFile.FieldType.int), Jvm.Cond.code ({ cls := "java/util/Arrays", name := "copyOf", desc := "([BI)[B" } : Jvm.MethodName) jdk_65_method_121_code (3 : Nat) (Option.some (Jvm.ClassFile.FieldType.array Jvm.ClassFile.FieldType.byte)), Jvm.Cond.code ({ cls := "java/lang/StringBuilder", name := "append", desc := "(I)Ljava/lang/StringBuilder;" } : Jvm.MethodName) jdk_67_method_15_code (2 : Nat) (Option.some (Jvm.ClassFile.FieldType.object "java/lang/StringBuilder")), Jvm.Cond.code ({ cls := "java/lang/AbstractStringBuilder", name := "append", desc := "(I)Ljava/lang/AbstractStringBuilder;" } : Jvm.MethodName) jdk_68_method_32_code (4 : Nat) (Option.some (Jvm.ClassFile.FieldType.object "java/lang/AbstractStringBuilder")), Jvm.Cond.code ({ cls := "java/lang/Integer", name := "stringSize", desc := "(I)I" } : Jvm.MethodName) jdk_33_method_13_code (4 : Nat) (Option.some Jvm.ClassFile.FieldType.int), Jvm.Cond.code ({ cls := "java/lang/Integer", name := "getChars", desc := "(II[B)I" } : Jvm.MethodName) jdk_33_method_12_code (7 : Nat) (Option.some Jvm.ClassFile.FieldType.int), Jvm.Cond.code ({ cls := "java/lang/StringUTF16", name := "toBytes", desc := "([CII)[B" } : Jvm.MethodName) jdk_52_method_14_code (5 : Nat) (Option.some (Jvm.ClassFile.FieldType.array Jvm.ClassFile.FieldType.byte)), Jvm.Cond.code ({ cls := "java/lang/StringUTF16", name := "newBytesFor", desc := "(I)[B" } : Jvm.MethodName) jdk_52_method_2_code (1 : Nat) (Option.some (Jvm.ClassFile.FieldType.array Jvm.ClassFile.FieldType.byte)), Jvm.Cond.code ({ cls := "java/lang/StringUTF16", name := "newBytesLength", desc := "(I)I" } : Jvm.MethodName) jdk_52_method_3_code (1 : Nat) (Option.some Jvm.ClassFile.FieldType.int), Jvm.Cond.code ({ cls := "java/lang/StringUTF16", name := "putChar", desc := "([BII)V" } : Jvm.MethodName) jdk_52_method_4_code (3 : Nat) (Option.none : Option Jvm.ClassFile.FieldType), Jvm.Cond.code ({ cls := "java/lang/StringUTF16", name := "getChar", desc := "([BI)C" } : Jvm.MethodName) jdk_52_method_5_code (2 : Nat) (Option.some Jvm.ClassFile.FieldType.char), Jvm.Cond.code ({ cls := "java/lang/AbstractStringBuilder", name := "inflate", desc := "()V" } : Jvm.MethodName) jdk_68_method_11_code (2 : Nat) (Option.none : Option Jvm.ClassFile.FieldType), Jvm.Cond.code ({ cls := "java/lang/StringLatin1", name := "inflate", desc := "([BI[BII)V" } : Jvm.MethodName) jdk_43_method_50_code (5 : Nat) (Option.none : Option Jvm.ClassFile.FieldType), Jvm.Cond.code ({ cls := "java/lang/StringUTF16", name := "inflate", desc := "([BI[BII)V" } : Jvm.MethodName) jdk_52_method_86_code (6 : Nat) (Option.none : Option Jvm.ClassFile.FieldType), Jvm.Cond.code ({ cls := "java/lang/StringUTF16", name := "checkBoundsOffCount", desc := "(II[B)V" } : Jvm.MethodName) jdk_52_method_94_code (3 : Nat) (Option.none : Option Jvm.ClassFile.FieldType), Jvm.Cond.code ({ cls := "java/lang/StringUTF16", name := "length", desc := "([B)I" } : Jvm.MethodName) jdk_52_method_6_code (1 : Nat) (Option.some Jvm.ClassFile.FieldType.int), Jvm.Cond.code ({ cls := "java/lang/String", name := "checkBoundsOffCount", desc := "(III)I" } : Jvm.MethodName) jdk_42_method_157_code (3 : Nat) (Option.some Jvm.ClassFile.FieldType.int), Jvm.Cond.code ({ cls := "jdk/internal/util/Preconditions", name := "checkFromIndexSize", desc := "(IIILjava/util/function/BiFunction;)I" } : Jvm.MethodName) jdk_41_method_13_code (4 : Nat) (Option.some Jvm.ClassFile.FieldType.int), Jvm.Cond.code ({ cls := "java/lang/StringUTF16", name := "newString", desc := "([BII)Ljava/lang/String;" } : Jvm.MethodName) jdk_52_method_69_code (5 : Nat) (Option.some (Jvm.ClassFile.FieldType.object "java/lang/String")), Jvm.Cond.code ({ cls := "java/lang/StringUTF16", name := "compress", desc := "([BII)[B" } : Jvm.MethodName) jdk_52_method_17_code (6 : Nat) (Option.some (Jvm.ClassFile.FieldType.array Jvm.ClassFile.FieldType.byte)), Jvm.Cond.code ({ cls := "java/lang/StringUTF16", name := "compress", desc := "([BI[BII)I" } : Jvm.MethodName) jdk_52_method_22_code (7 : Nat) (Option.some Jvm.ClassFile.FieldType.int), Jvm.Cond.code ({ cls := "java/lang/StringUTF16", name := "getChars", desc := "(III[B)I" } : Jvm.MethodName) jdk_52_method_77_code (5 : Nat) (Option.some Jvm.ClassFile.FieldType.int), Jvm.Cond.code ({ cls := "java/lang/StringUTF16", name := "checkBoundsBeginEnd", desc := "(II[B)V" } : Jvm.MethodName) jdk_52_method_93_code (3 : Nat) (Option.none : Option Jvm.ClassFile.FieldType), Jvm.Cond.code ({ cls := "java/lang/StringUTF16", name := "getChars", desc := "(II[B)I" } : Jvm.MethodName) jdk_52_method_89_code (7 : Nat) (Option.some Jvm.ClassFile.FieldType.int)]
set_option maxRecDepth 65536 in
theorem codes_eq : words1.filter isCode = codes1 := rfl
theorem w_codes : ∀ c ∈ words1.filter isCode, c.before args0 about1 = true := by
  rw [codes_eq]
  intro c hc
  simp only [codes1, List.mem_cons, List.not_mem_nil, or_false] at hc
  rcases hc with rfl | rfl | rfl | rfl | rfl | rfl | rfl | rfl | rfl | rfl | rfl | rfl | rfl | rfl | rfl | rfl | rfl | rfl | rfl | rfl | rfl | rfl | rfl | rfl | rfl | rfl | rfl | rfl | rfl | rfl | rfl | rfl | rfl | rfl | rfl | rfl | rfl | rfl | rfl | rfl | rfl | rfl | rfl | rfl | rfl | rfl | rfl | rfl | rfl | rfl | rfl | rfl | rfl | rfl | rfl | rfl | rfl | rfl | rfl | rfl | rfl | rfl | rfl | rfl
  · exact w_c0
  · exact w_c1
  · exact w_c2
  · exact w_c3
  · exact w_c4
  · exact w_c5
  · exact w_c6
  · exact w_c7
  · exact w_c8
  · exact w_c9
  · exact w_c10
  · exact w_c11
  · exact w_c12
  · exact w_c13
  · exact w_c14
  · exact w_c15
  · exact w_c16
  · exact w_c17
  · exact w_c18
  · exact w_c19
  · exact w_c20
  · exact w_c21
  · exact w_c22
  · exact w_c23
  · exact w_c24
  · exact w_c25
  · exact w_c26
  · exact w_c27
  · exact w_c28
  · exact w_c29
  · exact w_c30
  · exact w_c31
  · exact w_c32
  · exact w_c33
  · exact w_c34
  · exact w_c35
  · exact w_c36
  · exact w_c37
  · exact w_c38
  · exact w_c39
  · exact w_c40
  · exact w_c41
  · exact w_c42
  · exact w_c43
  · exact w_c44
  · exact w_c45
  · exact w_c46
  · exact w_c47
  · exact w_c48
  · exact w_c49
  · exact w_c50
  · exact w_c51
  · exact w_c52
  · exact w_c53
  · exact w_c54
  · exact w_c55
  · exact w_c56
  · exact w_c57
  · exact w_c58
  · exact w_c59
  · exact w_c60
  · exact w_c61
  · exact w_c62
  · exact w_c63
set_option maxRecDepth 65536 in
theorem w_t1 : (words1.take 24).all (fun c => isCode c || c.before args0 about1) = true := by decide +kernel
set_option maxRecDepth 65536 in
theorem w_t2 : ((words1.drop 24).take 24).all (fun c => isCode c || c.before args0 about1) = true := by decide +kernel
set_option maxRecDepth 65536 in
theorem w_t3 : (((words1.drop 24).drop 24).take 24).all (fun c => isCode c || c.before args0 about1) = true := by decide +kernel
set_option maxRecDepth 65536 in
theorem w_t4 : ((((words1.drop 24).drop 24).drop 24).take 24).all (fun c => isCode c || c.before args0 about1) = true := by decide +kernel
set_option maxRecDepth 65536 in
theorem w_t5 : (((((words1.drop 24).drop 24).drop 24).drop 24).take 24).all (fun c => isCode c || c.before args0 about1) = true := by decide +kernel
set_option maxRecDepth 65536 in
theorem w_t6 : ((((((words1.drop 24).drop 24).drop 24).drop 24).drop 24).take 24).all (fun c => isCode c || c.before args0 about1) = true := by decide +kernel
set_option maxRecDepth 65536 in
theorem w_t7 : (((((((words1.drop 24).drop 24).drop 24).drop 24).drop 24).drop 24).take 24).all (fun c => isCode c || c.before args0 about1) = true := by decide +kernel
set_option maxRecDepth 65536 in
theorem w_t8 : ((((((((words1.drop 24).drop 24).drop 24).drop 24).drop 24).drop 24).drop 24).take 24).all (fun c => isCode c || c.before args0 about1) = true := by decide +kernel
set_option maxRecDepth 65536 in
theorem w_t9 : (((((((((words1.drop 24).drop 24).drop 24).drop 24).drop 24).drop 24).drop 24).drop 24).take 24).all (fun c => isCode c || c.before args0 about1) = true := by decide +kernel
set_option maxRecDepth 65536 in
theorem w_t10 : ((((((((((words1.drop 24).drop 24).drop 24).drop 24).drop 24).drop 24).drop 24).drop 24).drop 24).take 24).all (fun c => isCode c || c.before args0 about1) = true := by decide +kernel
set_option maxRecDepth 65536 in
theorem w_t11 : (((((((((((words1.drop 24).drop 24).drop 24).drop 24).drop 24).drop 24).drop 24).drop 24).drop 24).drop 24).take 24).all (fun c => isCode c || c.before args0 about1) = true := by decide +kernel
set_option maxRecDepth 65536 in
theorem w_t12 : ((((((((((((words1.drop 24).drop 24).drop 24).drop 24).drop 24).drop 24).drop 24).drop 24).drop 24).drop 24).drop 24).take 24).all (fun c => isCode c || c.before args0 about1) = true := by decide +kernel
set_option maxRecDepth 65536 in
theorem w_t13 : ((((((((((((words1.drop 24).drop 24).drop 24).drop 24).drop 24).drop 24).drop 24).drop 24).drop 24).drop 24).drop 24).drop 24).all (fun c => isCode c || c.before args0 about1) = true := by decide +kernel
theorem w_tables : (allAtoms (Jvm.Cond.code x code maxLocals ret :: tables_1)).before args0 about1 = true := by
  rw [allAtoms_all]
  show words1.all (fun c => c.before args0 about1) = true
  refine all_split ?_ w_codes
  rw [← List.take_append_drop 24 words1, List.all_append, w_t1, ← List.take_append_drop 24 (words1.drop 24), List.all_append, w_t2, ← List.take_append_drop 24 ((words1.drop 24).drop 24), List.all_append, w_t3, ← List.take_append_drop 24 (((words1.drop 24).drop 24).drop 24), List.all_append, w_t4, ← List.take_append_drop 24 ((((words1.drop 24).drop 24).drop 24).drop 24), List.all_append, w_t5, ← List.take_append_drop 24 (((((words1.drop 24).drop 24).drop 24).drop 24).drop 24), List.all_append, w_t6, ← List.take_append_drop 24 ((((((words1.drop 24).drop 24).drop 24).drop 24).drop 24).drop 24), List.all_append, w_t7, ← List.take_append_drop 24 (((((((words1.drop 24).drop 24).drop 24).drop 24).drop 24).drop 24).drop 24), List.all_append, w_t8, ← List.take_append_drop 24 ((((((((words1.drop 24).drop 24).drop 24).drop 24).drop 24).drop 24).drop 24).drop 24), List.all_append, w_t9, ← List.take_append_drop 24 (((((((((words1.drop 24).drop 24).drop 24).drop 24).drop 24).drop 24).drop 24).drop 24).drop 24), List.all_append, w_t10, ← List.take_append_drop 24 ((((((((((words1.drop 24).drop 24).drop 24).drop 24).drop 24).drop 24).drop 24).drop 24).drop 24).drop 24), List.all_append, w_t11, ← List.take_append_drop 24 (((((((((((words1.drop 24).drop 24).drop 24).drop 24).drop 24).drop 24).drop 24).drop 24).drop 24).drop 24).drop 24), List.all_append, w_t12, w_t13]
  rfl
set_option maxRecDepth 65536 in
theorem w_rest : rest_1_c.before args0 about1 = true := by decide +kernel
set_option maxRecDepth 65536 in
theorem w_case : (Jvm.Cond.and given_1 narrow_1).before args0 about1 = true := by decide +kernel
set_option maxRecDepth 65536 in
theorem w_consts : constsHeld consts_1 about1 := Jvm.Lit.constsHeldB_iff.mp (by decide +kernel)
theorem w_applies : (headSpec (Jvm.Cond.code x code maxLocals ret :: tables_1) room_1).applies x e0.platform about1 = true :=
  (Spec.applies_iff w_frames).mpr ⟨w_running, w_runnable, w_alone, w_named, w_hears, w_ripe, w_room, w_tables⟩
theorem atStart : AtStart classFile x code maxLocals ret World_1 tables_1 room_1 Calls_1 rest_1 Pre_1 launch0 p0 e0 about1 theMethod args0 below0 :=
  ⟨lists_1, trivial, launch0.admits_env _ _ _, launch0.least_env, fairChoices_fair.cas, fairChoices_fair.clock, w_frames, w_args, w_heap, w_applies, ⟨w_consts, trivial⟩, w_rest, w_case⟩
end start1
theorem witness_1 : WitnessClaimed_1 := ⟨start1.p0, start1.e0, start1.about1, start1.theMethod, start1.args0, start1.below0, start1.atStart⟩
end Jvm.Pilot.@@N@@
