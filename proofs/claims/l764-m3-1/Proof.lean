import JvmDerived
import JvmDerived.Pilot.@@N@@Statement
import JvmDerived.Pilot.@@N@@Code
set_option linter.unusedVariables false
set_option linter.unusedSimpArgs false
/- laws to paste: Road.lenW, Road.eqW (cut by pick.py; bodies as the Statement names them) -/
namespace Jvm.Pilot.@@N@@
namespace StrChars
open Jvm Sem ClassFile Op Lib Jvm.Stand Jvm.Free.XT Jvm.Free.ALB Jvm.Free.JM Jvm.Free
open Jvm.Lib.Cold (StaticIs)
/-- the byte that i2b leaves of a char -/
def lo8 (x : Int32) : Int32 := x.toInt8.toInt32
theorem fits_lo8 (y : Int32) : fits .byte (.int (lo8 y)) = true := by
  have h1 := y.toInt8.le_toInt
  have h2 := y.toInt8.toInt_lt
  simp only [lo8, fits, Bool.and_eq_true, decide_eq_true_eq, Int32.le_iff_toInt_le, Int8.toInt_toInt32, show (-128 : Int32).toInt = -128 from by decide, show (127 : Int32).toInt = 127 from by decide]
  omega
def U16 : String := "java/lang/StringUTF16"
namespace Cmp5
def yN : MethodName := ⟨"java/lang/StringUTF16", "compress", "([CI[BII)I"⟩
abbrev yB : ByteArray := jdk_52_method_21_code
end Cmp5
namespace Cmp3
def yN : MethodName := ⟨"java/lang/StringUTF16", "compress", "([CII)[B"⟩
abbrev yB : ByteArray := jdk_52_method_16_code
end Cmp3
namespace CodL
def yN : MethodName := ⟨"java/lang/StringUTF16", "coderFromArrayLen", "([BI)B"⟩
abbrev yB : ByteArray := jdk_52_method_15_code
end CodL
namespace New4
def yN : MethodName := ⟨"java/lang/String", "<init>", "([CIILjava/lang/Void;)V"⟩
abbrev yB : ByteArray := jdk_42_method_149_code
end New4
namespace New1
def yN : MethodName := ⟨"java/lang/String", "<init>", "([C)V"⟩
abbrev yB : ByteArray := jdk_42_method_3_code
end New1
/-- the byte, read back as charAt reads it, is the char -/
theorem lo8_mask {x : Int32} (h0 : ¬ x < 0) (h1 : ¬ 255 < x) : lo8 x &&& 255 = x := by
  have t : ∀ k : Fin 256, lo8 (Int32.ofNat k.val) &&& 255 = Int32.ofNat k.val := by decide +kernel
  rw [Int32.lt_iff_toInt_lt] at h0 h1
  have e0 : (0 : Int32).toInt = 0 := rfl
  have e1 : (255 : Int32).toInt = 255 := rfl
  obtain ⟨k, hk⟩ : ∃ k : Nat, x.toInt = k := ⟨x.toInt.toNat, by omega⟩
  have hx : x = Int32.ofNat k := Int32.toInt_inj.mp (by rw [hk, Int32.toInt_ofNat_small (by omega)])
  rw [hx]
  exact t ⟨k, by omega⟩
end StrChars
namespace StrChars.Road
open Jvm Sem ClassFile Op Lib Jvm.Stand Jvm.Free Jvm.Free.XT
open Jvm.Lib.Cold (StaticIs)
abbrev ST : String := "java/lang/String"
/-- every table word that New1's law asks, flat -/
abbrev words : List Jvm.Cond := [.code New1.yN New1.yB 2 none, .initialized ST, .methodLink ST 27 New4.yN, .instanceMethod New4.yN,
  .code New4.yN New4.yB 6 none, .fieldLink ST 38 ST "COMPACT_STRINGS" "Z", .laysFinal ST ST "value" "[B", .fieldLink ST 9 ST "value" "[B", .laysFinal ST ST "coder" "B", .fieldLink ST 15 ST "coder" "B",
  .methodLink ST 1 Lib.objectInit, .instanceMethod Lib.objectInit, .code Lib.objectInit ⟨#[0xb1]⟩ 1 none, .methodLink ST 177 Cmp3.yN, .static Cmp3.yN, .methodLink ST 47 CodL.yN, .static CodL.yN,
  .code Cmp3.yN Cmp3.yB 6 (some (.array .byte)), .initialized U16, .arrayClass .byte, .methodLink U16 115 Cmp5.yN, .static Cmp5.yN, .code Cmp5.yN Cmp5.yB 7 (some .int), .code CodL.yN CodL.yB 2 (some .byte)]
end StrChars.Road
namespace StrChars
open Jvm Sem ClassFile Op Lib Jvm.Stand Jvm.Free.XT Jvm.Free.ALB Jvm.Free.JM Jvm.Free
open Jvm.Lib.Cold (StaticIs)
def hi8 (x : Int32) : Int32 := lo8 (x >>> ((8 : Int32) &&& 31))
/-- what StringUTF16.getChar makes of two bytes -/
def pairCh (u v : Int32) : Int32 := (((u &&& 255) <<< ((0 : Int32) &&& 31)) ||| ((v &&& 255) <<< ((8 : Int32) &&& 31))).toUInt32.toUInt16.toUInt32.toInt32
theorem shr0 (c : Int32) : c >>> ((0 : Int32) &&& 31) = c := by
  have e : ((0 : Int32) &&& 31) = 0 := by decide
  rw [e]
  apply Int32.toBitVec_inj.mp
  rw [Int32.toBitVec_shiftRight]
  have e1 : ((0 : Int32).toBitVec.smod 32) = 0#32 := by decide
  rw [e1, BitVec.sshiftRight_eq']
  exact BitVec.sshiftRight_zero
theorem lo8_and (x : Int32) : (lo8 x &&& 255).toBitVec.toNat = x.toBitVec.toNat % 256 := by
  have h : (lo8 x).toBitVec = (x.toBitVec.signExtend 8).signExtend 32 := by rw [lo8, Int8.toBitVec_toInt32, Int32.toBitVec_toInt8]
  rw [Int32.toBitVec_and, BitVec.toNat_and, h]
  have e : ((x.toBitVec.signExtend 8).signExtend 32).toNat % 256 = x.toBitVec.toNat % 256 := by
    rw [BitVec.toNat_signExtend]
    have hlt := x.toBitVec.isLt
    simp only [BitVec.toNat_setWidth, BitVec.toNat_signExtend]
    split <;> split <;> omega
  rw [← e]
  exact Nat.and_two_pow_sub_one_eq_mod _ 8
theorem pair_says {c : Int32} (h0 : ¬ c < 0) (h1 : ¬ 65535 < c) : pairCh (lo8 c) (hi8 c) = c := by
  rw [Int32.lt_iff_toInt_lt] at h0 h1
  have e0 : (0 : Int32).toInt = 0 := rfl
  have e1 : (65535 : Int32).toInt = 65535 := rfl
  have hc : c.toInt = c.toBitVec.toNat := by
    have := c.toBitVec.isLt
    have e : c.toInt = c.toBitVec.toInt := rfl
    rw [e] at h0 h1
    rw [e]
    rw [BitVec.toInt_eq_toNat_cond] at h0 h1 ⊢
    split at h0 <;> split <;> omega
  have hn : c.toBitVec.toNat < 65536 := by omega
  have a1 := lo8_and c
  have a2 : (hi8 c &&& 255).toBitVec.toNat = c.toBitVec.toNat / 256 := by
    rw [hi8, lo8_and]
    have e : ((8 : Int32) &&& 31) = 8 := by decide
    rw [e, Int32.toBitVec_shiftRight]
    have e2 : ((8 : Int32).toBitVec.smod 32) = 8#32 := by decide
    rw [e2, BitVec.sshiftRight_eq', BitVec.toNat_sshiftRight_of_msb_false (by rw [BitVec.msb_eq_false_iff_two_mul_lt]; omega)]
    show c.toBitVec.toNat >>> 8 % 256 = _
    rw [Nat.shiftRight_eq_div_pow]
    omega
  unfold pairCh
  apply Int32.toBitVec_inj.mp
  apply BitVec.eq_of_toNat_eq
  have f0 : ((0 : Int32) &&& 31) = 0 := by decide
  have f8 : ((8 : Int32) &&& 31) = 8 := by decide
  rw [f0, f8]
  have g : (((lo8 c &&& 255) <<< (0 : Int32)) ||| ((hi8 c &&& 255) <<< (8 : Int32))).toBitVec.toNat = c.toBitVec.toNat := by
    rw [Int32.toBitVec_or, Int32.toBitVec_shiftLeft, Int32.toBitVec_shiftLeft]
    have s0 : ((0 : Int32).toBitVec.smod 32) = 0#32 := by decide
    have s8 : ((8 : Int32).toBitVec.smod 32) = 8#32 := by decide
    rw [s0, s8, BitVec.toNat_or]
    simp only [BitVec.shiftLeft_eq', BitVec.toNat_shiftLeft, a1, a2]
    show (c.toBitVec.toNat % 256) <<< 0 % 2 ^ 32 ||| (c.toBitVec.toNat / 256) <<< 8 % 2 ^ 32 = _
    rw [Nat.shiftLeft_zero, Nat.mod_eq_of_lt (show c.toBitVec.toNat % 256 < 2 ^ 32 by omega), Nat.mod_eq_of_lt (show (c.toBitVec.toNat / 256) <<< 8 < 2 ^ 32 by rw [Nat.shiftLeft_eq]; omega), Nat.or_comm, ← Nat.shiftLeft_add_eq_or_of_lt (by omega), Nat.shiftLeft_eq]
    omega
  show BitVec.toNat (((((lo8 c &&& 255) <<< (0 : Int32)) ||| ((hi8 c &&& 255) <<< (8 : Int32))).toBitVec.setWidth 16).setWidth 32) = _
  rw [BitVec.toNat_setWidth, BitVec.toNat_setWidth, g]
  omega
end StrChars
namespace StrChars
open Jvm Sem ClassFile Op Lib Jvm.Stand Jvm.Free.XT Jvm.Free.ALB Jvm.Free.JM Jvm.Free
open Jvm.Lib.Cold (StaticIs)
theorem shr1 {n : Nat} (h : 2 * n < 2 ^ 31) : Int32.ofNat (2 * n) >>> ((1 : Int32) &&& 31) = Int32.ofNat n := by
  have e : ((1 : Int32) &&& 31) = 1 := by decide
  rw [e]
  apply Int32.toBitVec_inj.mp
  rw [Int32.toBitVec_shiftRight]
  have e1 : ((1 : Int32).toBitVec.smod 32) = 1#32 := by decide
  have hm : (BitVec.ofNat 32 (2 * n)).toNat = 2 * n := by rw [BitVec.toNat_ofNat, Nat.mod_eq_of_lt (by omega)]
  rw [e1, BitVec.sshiftRight_eq']
  apply BitVec.eq_of_toNat_eq
  show ((BitVec.ofNat 32 (2 * n)).sshiftRight 1).toNat = (BitVec.ofNat 32 n).toNat
  rw [BitVec.toNat_sshiftRight_of_msb_false (by rw [BitVec.msb_eq_false_iff_two_mul_lt, hm]; omega), hm, BitVec.toNat_ofNat, Nat.shiftRight_eq_div_pow]
  omega
/-- the array's cell V codes the n chars f 0 .. f (n - 1) by the coder cd, as the JDK does: coder 1 just where some char is above 255 -/
def Cod (cd : Int32) (n : Nat) (f : Nat → Int32) (V : Cell) : Prop := (cd = 0 ∧ V.slots.size = n ∧ ∀ j, j < n → V.slots[j]? = some (.int (lo8 (f j))) ∧ ¬ 255 < f j) ∨ (cd = 1 ∧ V.slots.size = 2 * n ∧ (∀ j, j < n → V.slots[2 * j]? = some (.int (lo8 (f j))) ∧ V.slots[2 * j + 1]? = some (.int (hi8 (f j)))) ∧ ∃ j, j < n ∧ 255 < f j)
theorem Cod.cd {cd : Int32} {n : Nat} {f : Nat → Int32} {V : Cell} (h : Cod cd n f V) : cd = 0 ∨ cd = 1 := h.imp (fun q => q.1) fun q => q.1
theorem Cod.len {cd : Int32} {n : Nat} {f : Nat → Int32} {V : Cell} (h : Cod cd n f V) (hs : V.slots.size < 2 ^ 31) : Int32.ofNat V.slots.size >>> (cd &&& 31) = Int32.ofNat n := by
  rcases h with ⟨rfl, h, -⟩ | ⟨rfl, h, -⟩
  · rw [shr0, h]
  · rw [h, shr1 (by omega)]
/-- **x is a String of the n chars f 0 .. f (n - 1)**, Latin-1 or UTF-16; its array at t has the cell V -/
def Txt (x t : Addr) (V : Cell) (cd : Int32) (n : Nat) (f : Nat → Int32) (U : State) : Prop := Exact "java/lang/String" x U ∧ Has x "java/lang/String" "value" "[B" (.ref t) U ∧ Has x "java/lang/String" "coder" "B" (.int cd) U ∧ XT.Arr .byte t V U ∧ Cod cd n f V ∧ ∀ j, j < n → ¬ f j < 0 ∧ ¬ 65535 < f j
theorem Txt.mv {x t : Addr} {V : Cell} {cd : Int32} {n : Nat} {f : Nat → Int32} {U U' : State} (h : Txt x t V cd n f U) (hal : U.vm.Alike U'.vm) (hh : U'.heap = U.heap) : Txt x t V cd n f U' := ⟨h.1.mv hal hh, h.2.1.mv hal hh, h.2.2.1.mv hal hh, h.2.2.2.1.mv hal hh, h.2.2.2.2⟩
namespace Cdr
def yN : MethodName := ⟨"java/lang/String", "coder", "()B"⟩
abbrev yB : ByteArray := jdk_42_method_152_code
theorem d0 : decode yB 0 = .ok (.getstatic 38, 3) := by decide +kernel
theorem d3 : decode yB 3 = .ok (.ifCond (.eq) 10, 3) := by decide +kernel
theorem d6 : decode yB 6 = .ok (.aload_n 0, 1) := by decide +kernel
theorem d7 : decode yB 7 = .ok (.getfield 15, 3) := by decide +kernel
theorem d10 : decode yB 10 = .ok (.goto 4, 3) := by decide +kernel
theorem d14 : decode yB 14 = .ok (.ireturn, 1) := by decide +kernel
def site : List Cond := [.fieldLink "java/lang/String" 38 "java/lang/String" "COMPACT_STRINGS" "Z", .fieldLink "java/lang/String" 15 "java/lang/String" "coder" "B"]
def tab : Cond := tabOf yN yB 1 (some .byte) site
def P (x : Addr) (cd z : Int32) (args : Array Value) (s : State) : Prop := args = #[.ref x] ∧ Has x "java/lang/String" "coder" "B" (.int cd) s ∧ (cd = 0 ∨ cd = 1) ∧ StaticIs s "java/lang/String" "COMPACT_STRINGS" "Z" (.int z) ∧ ¬ z = 0
def E (cd : Int32) (r : Option Value) (s u : State) : Prop := XT.PureE (some (.int cd)) r s u
theorem law (l : Launch) (x : Addr) (cd z : Int32) : Law l yN 1 0 0 0 yB 1 (some .byte) site (P x cd z) (E cd) [] 0 0 := by
  refine Law.of_walk (plainFor_of_name (by decide +kernel)) (by decide +kernel) (by decide +kernel) (by decide) (fun _ _ h => by rw [h.1]; rfl) (fun _ U U' hal hh h => ⟨h.1, h.2.1.mv hal hh, h.2.2.1, h.2.2.2.1.there hal hh, h.2.2.2.2⟩) (fun r U U' V V' h1 hal h2 h => XT.PureE.mv r U U' V V' h1 hal h2 h) ?_
  intro p e s m args below meth c s₁ X0 hexec hbytes hml hret hlk hnm hown hh0 W hP
  obtain ⟨rfl, hx, hc, s1, hz⟩ := hP
  have c1 : Steps p.tables e below (s₁.setTop (entryFrame m #[.ref x] 1)) (s₁.setTop (mkF m 0 #[.val (.ref x)] [])) := entry rfl
  obtain ⟨T2, X2, q2, st2⟩ := X0.sget hexec hown (wk W (.fieldLink "java/lang/String" 38 "java/lang/String" "COMPACT_STRINGS" "Z")) s1 (fun _ _ h => by rw [hh0]; exact h) (g := (mkF m 0 #[.val (.ref x)] [])) rfl (hb hbytes d0)
  have hh2 := q2.trans hh0
  have c3 : Steps p.tables e below (s₁.setTop (entryFrame m #[.ref x] 1)) (T2.setTop (mkF m 7 #[.val (.ref x)] [.ref x])) := (c1.trans (st2 _ (Steps.refl _))).trans (by
    refine XS.ifNo X2.here hexec rfl (hb hbytes d3) rfl (i0_eq_f hz) ?_
    refine XS.aloadN X2.here hexec rfl (hb hbytes d6) rfl rfl ?_
    exact Steps.refl _)
  obtain ⟨T4, X4, q4, st4⟩ := X2.hget hexec hown (wk W (.fieldLink "java/lang/String" 15 "java/lang/String" "coder" "B")) (hx.mv X2.warmed.alike hh2) (g := (mkF m 7 #[.val (.ref x)] [.ref x])) rfl (rest := []) rfl (hb hbytes d7)
  have c5 : Steps p.tables e below (s₁.setTop (entryFrame m #[.ref x] 1)) (T4.setTop (mkF m 14 #[.val (.ref x)] [.int cd])) := (c3.trans (st4 _ (Steps.refl _))).trans (by
    refine XS.goto X4.here hexec rfl (pc0 := 10) rfl (hb hbytes d10) (by decide) rfl ?_
    exact Steps.refl _)
  exact ⟨T4, some (.int cd), _, _, _, X4, rfl, rfl, rfl, (fun h => by cases h), ⟨rfl, q4.trans hh2⟩, fun fs hl => c5.trans (X4.ireturnOut hexec hret (by rcases hc with rfl | rfl <;> rfl) (Or.inr (Or.inr (Or.inl rfl))) (hb hbytes d14) hl)⟩
end Cdr
namespace Len
def yN : MethodName := ⟨"java/lang/String", "length", "()I"⟩
abbrev yB : ByteArray := jdk_42_method_54_code
theorem d0 : decode yB 0 = .ok (.aload_n 0, 1) := by decide +kernel
theorem d1 : decode yB 1 = .ok (.getfield 9, 3) := by decide +kernel
theorem d4 : decode yB 4 = .ok (.arraylength, 1) := by decide +kernel
theorem d5 : decode yB 5 = .ok (.aload_n 0, 1) := by decide +kernel
theorem d6 : decode yB 6 = .ok (.invokevirtual 335, 3) := by decide +kernel
theorem d9 : decode yB 9 = .ok (.ishr, 1) := by decide +kernel
theorem d10 : decode yB 10 = .ok (.ireturn, 1) := by decide +kernel
def site : List Cond := [.fieldLink "java/lang/String" 9 "java/lang/String" "value" "[B", Cdr.tab] ++ virtW "java/lang/String" 335 "java/lang/String" Cdr.yN Cdr.yN
def tab : Cond := tabOf yN yB 1 (some .int) site
def P (x t : Addr) (V : Cell) (cd : Int32) (n : Nat) (f : Nat → Int32) (z : Int32) (args : Array Value) (s : State) : Prop := args = #[.ref x] ∧ Txt x t V cd n f s ∧ StaticIs s "java/lang/String" "COMPACT_STRINGS" "Z" (.int z) ∧ ¬ z = 0
def E (n : Nat) (r : Option Value) (s u : State) : Prop := XT.PureE (some (.int (Int32.ofNat n))) r s u
/-- length() of a String of n chars, in either coding -/
theorem law (l : Launch) (x t : Addr) (V : Cell) (cd : Int32) (n : Nat) (f : Nat → Int32) (z : Int32) : Law l yN 1 0 1 13 yB 1 (some .int) site (P x t V cd n f z) (E n) [] 0 0 := by
  refine Law.of_walk (plainFor_of_name (by decide +kernel)) (by decide +kernel) (by decide +kernel) (by decide) (fun _ _ h => by rw [h.1]; rfl) (fun _ U U' hal hh h => ⟨h.1, h.2.1.mv hal hh, h.2.2.1.there hal hh, h.2.2.2⟩) (fun r U U' V V' h1 hal h2 h => XT.PureE.mv r U U' V V' h1 hal h2 h) ?_
  intro p e s m args below meth c s₁ X0 hexec hbytes hml hret hlk hnm hown hh0 W hP
  obtain ⟨rfl, hx, s1, hz⟩ := hP
  have v31 := hx.2.2.2.1.2.2.2
  have c1 : Steps p.tables e below (s₁.setTop (entryFrame m #[.ref x] 1)) (s₁.setTop (mkF m 1 #[.val (.ref x)] [.ref x])) := Steps.trans (entry rfl) (by
    show Steps p.tables e below (s₁.setTop (mkF m 0 #[.val (.ref x)] [])) _
    refine XS.aloadN X0.here hexec rfl (hb hbytes d0) rfl rfl ?_
    exact Steps.refl _)
  obtain ⟨T2, X2, q2, st2⟩ := X0.hget hexec hown (wk W (.fieldLink "java/lang/String" 9 "java/lang/String" "value" "[B")) (hx.mv X0.warmed.alike hh0).2.1 (g := (mkF m 1 #[.val (.ref x)] [.ref x])) rfl (rest := []) rfl (hb hbytes d1)
  have hh2 := q2.trans hh0
  have hx2 := hx.mv X2.warmed.alike hh2
  have c3 : Steps p.tables e below (s₁.setTop (entryFrame m #[.ref x] 1)) (T2.setTop (mkF m 6 #[.val (.ref x)] [.ref x, .int (Int32.ofNat V.slots.size)])) := (c1.trans (st2 _ (Steps.refl _))).trans (by
    refine X2.alen hexec hx2.2.2.2.1 rfl rfl (hb hbytes d4) ?_
    refine XS.aloadN X2.here hexec rfl (hb hbytes d5) rfl rfl ?_
    exact Steps.refl _)
  obtain ⟨v4, T4, X4, E4, g4⟩ := X2.callV hexec (Cdr.law l x cd z) hown (wks W (virtW "java/lang/String" 335 "java/lang/String" Cdr.yN Cdr.yN)) rfl (by decide) (wk W Cdr.tab) (W := 1) (Nat.le_of_ble_eq_true rfl) (Nat.le_of_ble_eq_true rfl) (Nat.le_refl _) (Nat.le_refl _) (hx2.1.fc X2.warmed.alike) hx2.1.is (g := (mkF m 6 #[.val (.ref x)] [.ref x, .int (Int32.ofNat V.slots.size)])) rfl (by rw [hml]; rfl) c3 (argsL := []) (rest := [.int (Int32.ofNat V.slots.size)]) rfl rfl (by show 2 * 0 + (1 + 0) ≤ _; decide) (hb hbytes d6) (⟨rfl, hx2.2.2.1, hx.2.2.2.2.1.cd, s1.there X2.warmed.alike hh2, hz⟩)
  obtain ⟨rfl, q4⟩ := E4
  have c5 : Steps p.tables e below (s₁.setTop (entryFrame m #[.ref x] 1)) (T4.setTop (mkF m 10 #[.val (.ref x)] [.int (Int32.ofNat V.slots.size >>> (cd &&& 31))])) := Steps.trans g4 (by
    refine ishr X4.here hexec rfl (hb hbytes d9) rfl ?_
    exact Steps.refl _)
  rw [hx.2.2.2.2.1.len v31] at c5
  exact ⟨T4, some (.int (Int32.ofNat n)), _, _, _, X4, rfl, rfl, rfl, (fun h => by cases h), ⟨rfl, q4.trans hh2⟩, fun fs hl => c5.trans (X4.ireturnOut hexec hret rfl (Or.inl rfl) (hb hbytes d10) hl)⟩
theorem pays {l : Launch} {R : Room} {p : Program} {e : Env} {below : List Frame} {s : State} {sargs : Array Value} {len W : Nat} (x t : Addr) (V : Cell) (cd : Int32) (n : Nat) (f : Nat → Int32) (z : Int32) (htab : tab.before sargs s = true) (hfr : 2 ≤ R.frames) (hlo : W + 25 ≤ R.locals) :
    Back l R p e below s sargs yN len W (fun A₁ a₁ => A₁.cells + 0 ≤ R.cells ∧ A₁.slots + 0 ≤ R.slots ∧ P x t V cd n f z a₁ A₁.U) (fun A₁ _ v₁ B₁ => E n v₁ A₁.U B₁.U ∧ B₁.locs = A₁.locs ++ [] ∧ B₁.cells = A₁.cells + 0 ∧ B₁.slots = A₁.slots + 0) :=
  (law l x t V cd n f z).pays htab hfr (by omega)
end Len
end StrChars
namespace StrChars.Road
open Jvm Sem ClassFile Op Lib Jvm.Stand Jvm.Free Jvm.Free.XT
open Jvm.Lib.Cold (StaticIs)
theorem consq {a : Array Value} {s : State} {c : Jvm.Cond} {L : List Jvm.Cond} (h0 : c.before a s = true) (h : ∀ w ∈ L, w.before a s = true) : ∀ w ∈ c :: L, w.before a s = true := fun w hw => (List.mem_cons.mp hw).elim (fun e => e ▸ h0) (h w)
/-- the words of String.length(), either coding -/
abbrev wordsLen : List Jvm.Cond := [.code Len.yN Len.yB 1 (some .int), .initialized ST, .fieldLink ST 9 ST "value" "[B", .fieldLink ST 38 ST "COMPACT_STRINGS" "Z", .fieldLink ST 15 ST "coder" "B", .code Cdr.yN Cdr.yB 1 (some .byte), .methodLink ST 335 Cdr.yN, .declares Cdr.yN, .selects ST Cdr.yN Cdr.yN, .instanceMethod Cdr.yN]
theorem tabLen_of {a : Array Value} {s : State} (h : ∀ w ∈ wordsLen, w.before a s = true) : Len.tab.before a s = true := by
  have hc : Cdr.tab.before a s = true := unparts (wk h (.code Cdr.yN Cdr.yB 1 (some .byte))) (wks h (.initialized Cdr.yN.cls :: Cdr.site))
  have q := consq hc h
  exact unparts (wk q (.code Len.yN Len.yB 1 (some .int))) (wks q (.initialized Len.yN.cls :: Len.site))
theorem movedLen {Z s : State} {a0 args : Array Value} (hZ : Z.Warmed39 s.vm) (hw : ∀ d ∈ wordsLen, d.before a0 Z = true) : ∀ d ∈ wordsLen, d.before args s = true := fun d hd => by
  have q := hw d hd
  have t : ∀ d ∈ wordsLen, d = .arrayClass .byte ∨ (d.onTables && d.keepsFace) = true := by decide +kernel
  rcases t d hd with rfl | t
  · exact RoadKit.mvA hZ q
  · exact RoadKit.mv hZ q t
/-- the bytes of the chars cs, low before high -/
def wideBytes : List Int32 → List Value
  | [] => []
  | c :: cs => .int (lo8 c) :: .int (hi8 c) :: wideBytes cs
theorem wide_lo (d : Value) : ∀ (cs : List Int32) (j : Nat), j < cs.length → (wideBytes cs).getD (2 * j) d = .int (lo8 (cs.getD j 0))
  | [], j, h => absurd h (Nat.not_lt_zero j)
  | c :: cs, 0, _ => rfl
  | c :: cs, j + 1, h => by
    have q := wide_lo d cs j (by simpa using h)
    rw [show 2 * (j + 1) = 2 * j + 1 + 1 from by omega]
    simpa [wideBytes] using q
theorem wide_hi (d : Value) : ∀ (cs : List Int32) (j : Nat), j < cs.length → (wideBytes cs).getD (2 * j + 1) d = .int (hi8 (cs.getD j 0))
  | [], j, h => absurd h (Nat.not_lt_zero j)
  | c :: cs, 0, _ => rfl
  | c :: cs, j + 1, h => by
    have q := wide_hi d cs j (by simpa using h)
    rw [show 2 * (j + 1) + 1 = 2 * j + 1 + 1 + 1 from by omega]
    simpa [wideBytes] using q
theorem low_at (d : Value) (cs : List Int32) (j : Nat) (h : j < cs.length) : (cs.map fun c => Value.int (lo8 c)).getD j d = .int (lo8 (cs.getD j 0)) := by
  simp [List.getD_eq_getElem?_getD, h]
/-- an array of N2 bytes vs codes the chars cs by the coder cd -/
def CodA (cs : List Int32) (cd N2 : Int32) (vs : List Value) : Prop := (cd = 0 ∧ N2 = Int32.ofNat cs.length ∧ vs = (cs.map fun c => Value.int (lo8 c)) ∧ ∀ c ∈ cs, ¬ 255 < c) ∨ (cd = 1 ∧ N2 = Int32.ofNat (2 * cs.length) ∧ vs = wideBytes cs ∧ ∃ c ∈ cs, 255 < c)
theorem CodA.cod {cs : List Int32} {cd N2 : Int32} {vs : List Value} {V : Cell} (h : CodA cs cd N2 vs) (hn : 2 * cs.length < 2 ^ 31) (hs : V.slots.size = N2.toNatClampNeg) (hv : RoadKit.Has V vs (.int 0)) : Cod cd cs.length (fun j => cs.getD j 0) V := by
  rcases h with ⟨rfl, rfl, rfl, h⟩ | ⟨rfl, rfl, rfl, c, hc, hw⟩
  · rw [n32 (by omega)] at hs
    exact Or.inl ⟨rfl, hs, fun j hj => ⟨by rw [hv j (by omega), low_at _ _ _ hj], by
      have e : cs.getD j 0 = cs[j] := by simp [List.getD_eq_getElem?_getD, hj]
      show ¬ 255 < cs.getD j 0
      rw [e]; exact h _ (List.getElem_mem _)⟩⟩
  · rw [n32 (by omega)] at hs
    obtain ⟨j, hj, rfl⟩ := List.getElem_of_mem hc
    exact Or.inr ⟨rfl, hs, fun j hj => ⟨by rw [hv _ (by omega), wide_lo _ _ _ hj], by rw [hv _ (by omega), wide_hi _ _ _ hj]⟩, j, hj, by
      have e : cs.getD j 0 = cs[j] := by simp [List.getD_eq_getElem?_getD, hj]
      show 255 < cs.getD j 0
      rw [e]; exact hw⟩
/-- an object of exactly java/lang/String, its two fields found: as the laws ask it -/
theorem strObj {Z U : State} {a0 : Array Value} {kI : Nat} (wi : (Jvm.Cond.instantiable ST kI).before a0 Z = true) (al : Z.vm.Alike U.vm) {x : Addr} {v0 c0 : Value} (E : RoadKit.Exa Z U.heap x ST) (V : RoadKit.Fld Z U.heap x ST "value" "[B" v0) (C : RoadKit.Fld Z U.heap x ST "coder" "B" c0) :
    ∃ (D : Cell) (fV fC : Field), Blank ST x D U ∧ Found ST "value" "[B" fV U ∧ Found ST "coder" "B" fC U ∧ D.slots[fV.slot]? = some v0 ∧ D.slots[fC.slot]? = some c0 ∧ RoadKit.slotOf Z ST "value" "[B" = fV.slot ∧ RoadKit.slotOf Z ST "coder" "B" = fC.slot := by
  obtain ⟨D, cfV, kV, iV, fV, hD, gV, stV, knV, obV, asV, slV⟩ := V
  obtain ⟨D', cfC, kC, iC, fC, hD', gC, stC, -, -, asC, slC⟩ := C
  cases hD.symm.trans hD'
  obtain ⟨D2, kD, e1, e2, e3, e4, e5⟩ := E
  cases hD.symm.trans e1
  obtain ⟨c2, k2, i1, i2, i3, -⟩ := Cond.instantiable_spec wi
  cases e2.symm.trans i1
  cases e3.symm.trans i2
  obtain ⟨kU, u1, u2⟩ := al.2.2 _ _ e3
  exact ⟨D, fV, fC, ⟨hD, ⟨knV, fun q hq => by rw [hq] at obV; cases obV⟩, by rw [al.findClass]; exact e2, kU, u1, by rw [u2]; exact i3, by rw [u2]; exact e5 i3⟩, ⟨SBG.found_only al ⟨cfV, kV, iV, gV⟩, stV⟩, ⟨SBG.found_only al ⟨cfC, kC, iC, gC⟩, stC⟩, slV, slC, by simp [RoadKit.slotOf, gV], by simp [RoadKit.slotOf, gC]⟩
theorem sta_is {Z U : State} (al : Z.vm.Alike U.vm) {C n d : String} {v : Value} (S : RoadKit.Sta Z U.heap C n d v) : StaticIs U C n d v := by
  obtain ⟨cfS, iS, kS, fS, st, cS, t1, t2, t3, t4, t5, t6, t7⟩ := S
  exact StaticIs.there (s := { Z with heap := U.heap }) ⟨cfS, iS, kS, fS, st, cS, t1, t2, t3, t4, t5, (fun q => by rw [q] at t6; cases t6), t7⟩ al rfl
/-- **length() OF SUCH A STRING** -/
theorem lenW {p : Program} {l : Launch} {e : Env} {R : Room} {s : State} {args : Array Value} {below : List Frame} {len W : Nat} {Z : State} {a0 : Array Value} {h : Heap} (hZ : Z.Warmed39 s.vm) (hw : ∀ d ∈ wordsLen, d.before a0 Z = true) {kI : Nat} (wi : (Jvm.Cond.instantiable ST kI).before a0 Z = true)
    {x t : Addr} {kb : ClassId} {cs : List Int32} {cd N2 z : Int32} {vs : List Value} (E : RoadKit.Exa Z h x ST) (V : RoadKit.Fld Z h x ST "value" "[B" (.ref t)) (C : RoadKit.Fld Z h x ST "coder" "B" (.int cd)) (K : RoadKit.Arv Z h t kb .byte N2 vs (.int 0)) (hc : CodA cs cd N2 vs) (hb : ∀ c ∈ cs, ¬ c < 0 ∧ ¬ (65535 : Int32) < c)
    (S : RoadKit.Sta Z h ST "COMPACT_STRINGS" "Z" (.int z)) (hz : ¬ z = 0) (l2 : cs.length ≤ 4000) (hfr : 2 ≤ R.frames) (hlo : W + 25 ≤ R.locals) :
    Back l R p e below s args (⟨"java/lang/String", "length", "()I"⟩ : MethodName) len W (fun P a => a = #[.ref x] ∧ P.U.heap = h ∧ P.cells + 0 ≤ R.cells ∧ P.slots + 0 ≤ R.slots)
      (fun P _ v B => ∃ L, (v = some (.int (Int32.ofNat cs.length)) ∧ L = [] ∧ B.U.heap = h) ∧ B.locs = P.locs ++ L ∧ B.cells = P.cells + 0 ∧ B.slots = P.slots + 0) := by
  obtain ⟨A, K1, K2, K3, K4, K5, K6⟩ := K
  have hcod := hc.cod (by omega) K3 K5
  intro m meth c P g ig mk a X hg hsize hdg hW hn hp'
  obtain ⟨rfl, rfl, r1, r2⟩ := hp'
  have al : Z.vm.Alike P.U.vm := hZ.alike.trans X.warmed.alike
  obtain ⟨D, fV, fC, hB, F1, F2, g1, g2, -, -⟩ := strObj wi al E V C
  have hx : Txt x t A cd cs.length (fun j => cs.getD j 0) P.U := ⟨⟨_, hB.2.2.1, D, hB.1, rfl, by cases q : D.vm <;> first | rfl | exact absurd q (hB.2.1.2 _)⟩, Has.of hB F1 g1, Has.of hB F2 g2, ⟨K1.1, State.isArrayOf_alike al K1.2.1, K1.2.2, by rcases hcod with ⟨-, q, -⟩ | ⟨-, q, -⟩ <;> omega⟩, hcod, fun j hj => by
    have e : cs.getD j 0 = cs[j] := by simp [List.getD_eq_getElem?_getD, hj]
    show ¬ cs.getD j 0 < 0 ∧ ¬ 65535 < cs.getD j 0
    rw [e]; exact hb _ (List.getElem_mem _)⟩
  obtain ⟨v, B, X', ⟨⟨hv, hh⟩, hl, hk, hs⟩, st⟩ := Len.pays x t A cd cs.length (fun j => cs.getD j 0) z (tabLen_of (movedLen hZ hw)) hfr hlo m meth c P g ig mk _ X hg hsize hdg hW hn ⟨r1, r2, rfl, hx, sta_is al S, hz⟩
  exact ⟨v, B, X', ⟨[], ⟨hv, rfl, hh⟩, hl, hk, hs⟩, st⟩
end StrChars.Road
namespace StrChars
open Jvm Sem ClassFile Op Lib Jvm.Stand Jvm.Free.XT Jvm.Free.ALB Jvm.Free.JM Jvm.Free
open Jvm.Lib.Cold (StaticIs)
/-- what place i of a byte[]'s cell holds -/
def yv (A : Cell) (i : Nat) : Int32 := match A.slots[i]? with | some (.int x) => x | _ => 0
theorem yv_get {a : Addr} {A : Cell} {U : State} (h : XT.Arr .byte a A U) (ht : Typed .byte A) {i : Nat} (hi : i < A.slots.size) : A.slots[i]? = some (.int (yv A i)) := by
  have e := Array.getElem?_eq_getElem hi
  have f := ht i _ e
  unfold yv; rw [e]
  generalize A.slots[i] = v at f
  cases v <;> simp [fits] at f ⊢
/-- the two arrays are equal, place for place -/
def EqC (A B : Cell) : Prop := A.slots.size = B.slots.size ∧ ∀ i, i < A.slots.size → yv A i = yv B i
/-- a boolean that says whether p -/
def Says01 (q : Prop) (r : Option Value) (s u : State) : Prop := ∃ v : Int32, r = some (.int v) ∧ u.heap = s.heap ∧ ((v = 1 ∧ q) ∨ (v = 0 ∧ ¬ q))
theorem Says01.mv {q : Prop} : ∀ r (U U' V V' : State), U'.heap = U.heap → V.vm.Alike V'.vm → V'.heap = V.heap → Says01 q r U V → Says01 q r U' V' :=
  fun r U U' V V' h1 _ h2 ⟨v, a, b, c⟩ => ⟨v, a, by rw [h1, h2]; exact b, c⟩
namespace LEq
def yN : MethodName := ⟨"java/lang/StringLatin1", "equals", "([B[B)Z"⟩
abbrev yB : ByteArray := jdk_43_method_13_code
theorem d0 : decode yB 0 = .ok (.aload_n 0, 1) := by decide +kernel
theorem d1 : decode yB 1 = .ok (.arraylength, 1) := by decide +kernel
theorem d2 : decode yB 2 = .ok (.aload_n 1, 1) := by decide +kernel
theorem d3 : decode yB 3 = .ok (.arraylength, 1) := by decide +kernel
theorem d4 : decode yB 4 = .ok (.if_icmp (.ne) 30, 3) := by decide +kernel
theorem d7 : decode yB 7 = .ok (.iconst 0, 1) := by decide +kernel
theorem d8 : decode yB 8 = .ok (.istore_n 2, 1) := by decide +kernel
theorem d9 : decode yB 9 = .ok (.iload_n 2, 1) := by decide +kernel
theorem d10 : decode yB 10 = .ok (.aload_n 0, 1) := by decide +kernel
theorem d11 : decode yB 11 = .ok (.arraylength, 1) := by decide +kernel
theorem d12 : decode yB 12 = .ok (.if_icmp (.ge) 20, 3) := by decide +kernel
theorem d15 : decode yB 15 = .ok (.aload_n 0, 1) := by decide +kernel
theorem d16 : decode yB 16 = .ok (.iload_n 2, 1) := by decide +kernel
theorem d17 : decode yB 17 = .ok (.baload, 1) := by decide +kernel
theorem d18 : decode yB 18 = .ok (.aload_n 1, 1) := by decide +kernel
theorem d19 : decode yB 19 = .ok (.iload_n 2, 1) := by decide +kernel
theorem d20 : decode yB 20 = .ok (.baload, 1) := by decide +kernel
theorem d21 : decode yB 21 = .ok (.if_icmp (.eq) 5, 3) := by decide +kernel
theorem d24 : decode yB 24 = .ok (.iconst 0, 1) := by decide +kernel
theorem d25 : decode yB 25 = .ok (.ireturn, 1) := by decide +kernel
theorem d26 : decode yB 26 = .ok (.iinc 2 1, 3) := by decide +kernel
theorem d29 : decode yB 29 = .ok (.goto (-20), 3) := by decide +kernel
theorem d32 : decode yB 32 = .ok (.iconst 1, 1) := by decide +kernel
theorem d33 : decode yB 33 = .ok (.ireturn, 1) := by decide +kernel
theorem d34 : decode yB 34 = .ok (.iconst 0, 1) := by decide +kernel
theorem d35 : decode yB 35 = .ok (.ireturn, 1) := by decide +kernel
def site : List Cond := []
def tab : Cond := tabOf yN yB 3 (some .boolean) site
def P (a : Addr) (A : Cell) (b : Addr) (B : Cell) (args : Array Value) (s : State) : Prop := args = #[.ref a, .ref b] ∧ XT.Arr .byte a A s ∧ Typed .byte A ∧ XT.Arr .byte b B s ∧ Typed .byte B
/-- whether two byte[] are equal, place for place -/
theorem law (l : Launch) (a : Addr) (A : Cell) (b : Addr) (B : Cell) : Law l yN 2 2 0 0 yB 3 (some .boolean) site (P a A b B) (Says01 (EqC A B)) [] 0 0 := by
  refine Law.of_walk (plainFor_of_name (by decide +kernel)) (by decide +kernel) (by decide +kernel) (by decide) (fun _ _ h => by rw [h.1]; rfl) (fun _ U U' hal hh h => ⟨h.1, h.2.1.mv hal hh, h.2.2.1, h.2.2.2.1.mv hal hh, h.2.2.2.2⟩) (fun r U U' V V' h1 hal h2 h => Says01.mv r U U' V V' h1 hal h2 h) ?_
  intro p e s m args below meth c s₁ X0 hexec hbytes hml hret hlk hnm hown hh0 W hP
  obtain ⟨rfl, hA, tA, hB, tB⟩ := hP
  have a31 := hA.2.2.2
  have b31 := hB.2.2.2
  have hA0 := hA.mv X0.warmed.alike hh0
  have hB0 := hB.mv X0.warmed.alike hh0
  have c1 : Steps p.tables e below (s₁.setTop (entryFrame m #[.ref a, .ref b] 3)) (s₁.setTop (mkF m 0 #[.val (.ref a), .val (.ref b), .unset] [])) := entry rfl
  have c2 : Steps p.tables e below (s₁.setTop (entryFrame m #[.ref a, .ref b] 3)) (s₁.setTop (mkF m 4 #[.val (.ref a), .val (.ref b), .unset] [.int (Int32.ofNat B.slots.size), .int (Int32.ofNat A.slots.size)])) := c1.trans (by
    refine XS.aloadN X0.here hexec rfl (hb hbytes d0) rfl rfl ?_
    refine X0.alen hexec hA0 rfl rfl (hb hbytes d1) ?_
    refine XS.aloadN X0.here hexec rfl (hb hbytes d2) rfl rfl ?_
    refine X0.alen hexec hB0 rfl rfl (hb hbytes d3) ?_
    exact Steps.refl _)
  by_cases hs : A.slots.size = B.slots.size
  · have c3 : Steps p.tables e below (s₁.setTop (entryFrame m #[.ref a, .ref b] 3)) (s₁.setTop (mkF m 9 #[.val (.ref a), .val (.ref b), .val (.int 0)] [])) := c2.trans (by
      refine XS.icmpNo X0.here hexec rfl (hb hbytes d4) rfl (ii_ne_f (by rw [hs])) ?_
      refine iconstV X0.here hexec rfl 0 (hb hbytes d7) (by decide) ?_
      refine XS.istoreN X0.here hexec rfl (hb hbytes d8) rfl rfl ?_
      exact Steps.refl _)
    have loop : ∀ (r i : Nat), i + r = A.slots.size → (∀ j, j < i → yv A j = yv B j) → Steps p.tables e below (s₁.setTop (entryFrame m #[.ref a, .ref b] 3)) (s₁.setTop (mkF m 9 #[.val (.ref a), .val (.ref b), .val (.int (Int32.ofNat i))] [])) → ∃ (pc : Nat) (Ls : Array Slot) (v : Int32), (pc = 25 ∨ pc = 33) ∧ ((v = 1 ∧ EqC A B) ∨ (v = 0 ∧ ¬ EqC A B)) ∧ Steps p.tables e below (s₁.setTop (entryFrame m #[.ref a, .ref b] 3)) (s₁.setTop (mkF m pc Ls [.int v])) := by
      intro r
      induction r with
      | zero =>
        intro i hi he cl
        exact ⟨33, _, 1, Or.inr rfl, Or.inl ⟨rfl, hs, fun j hj => he j (by omega)⟩, cl.trans (by
          refine XS.iloadN X0.here hexec rfl (hb hbytes d9) rfl ?_
          refine XS.aloadN X0.here hexec rfl (hb hbytes d10) rfl rfl ?_
          refine X0.alen hexec hA0 rfl rfl (hb hbytes d11) ?_
          refine XS.icmpYes X0.here hexec rfl (pc0 := 12) rfl (hb hbytes d12) rfl (ii_ge_t (nlt32 (by omega) (by omega))) (by decide) rfl ?_
          refine iconstV X0.here hexec rfl 1 (hb hbytes d32) (by decide) ?_
          exact Steps.refl _)⟩
      | succ r ih =>
        intro i hi he cl
        have c4 : Steps p.tables e below (s₁.setTop (entryFrame m #[.ref a, .ref b] 3)) (s₁.setTop (mkF m 21 #[.val (.ref a), .val (.ref b), .val (.int (Int32.ofNat i))] [.int (yv B i), .int (yv A i)])) := cl.trans (by
          refine XS.iloadN X0.here hexec rfl (hb hbytes d9) rfl ?_
          refine XS.aloadN X0.here hexec rfl (hb hbytes d10) rfl rfl ?_
          refine X0.alen hexec hA0 rfl rfl (hb hbytes d11) ?_
          refine XS.icmpNo X0.here hexec rfl (hb hbytes d12) rfl (ii_ge_f (lt32 (by omega) (by omega))) ?_
          refine XS.aloadN X0.here hexec rfl (hb hbytes d15) rfl rfl ?_
          refine XS.iloadN X0.here hexec rfl (hb hbytes d16) rfl ?_
          refine X0.aget hexec hA0 rfl (yv_get hA tA (i := i) (by omega)) rfl rfl (hb hbytes d17) ?_
          refine XS.aloadN X0.here hexec rfl (hb hbytes d18) rfl rfl ?_
          refine XS.iloadN X0.here hexec rfl (hb hbytes d19) rfl ?_
          refine X0.aget hexec hB0 rfl (yv_get hB tB (i := i) (by omega)) rfl rfl (hb hbytes d20) ?_
          exact Steps.refl _)
        by_cases hv : yv A i = yv B i
        · have c5 : Steps p.tables e below (s₁.setTop (entryFrame m #[.ref a, .ref b] 3)) (s₁.setTop (mkF m 9 #[.val (.ref a), .val (.ref b), .val (.int (Int32.ofNat i + 1))] [])) := c4.trans (by
            refine XS.icmpYes X0.here hexec rfl (pc0 := 21) rfl (hb hbytes d21) rfl (ii_eq_t hv) (by decide) rfl ?_
            refine iincV X0.here hexec rfl 1 (hb hbytes d26) (by decide) rfl rfl ?_
            refine XS.goto X0.here hexec rfl (pc0 := 29) rfl (hb hbytes d29) (by decide) rfl ?_
            exact Steps.refl _)
          rw [succ32] at c5
          exact ih (i + 1) (by omega) (fun j hj => by
            by_cases e : j = i
            · rw [e]; exact hv
            · exact he j (by omega)) c5
        · exact ⟨25, _, 0, Or.inl rfl, Or.inr ⟨rfl, fun q => hv (q.2 i (by omega))⟩, c4.trans (by
            refine XS.icmpNo X0.here hexec rfl (hb hbytes d21) rfl (ii_eq_f hv) ?_
            refine iconstV X0.here hexec rfl 0 (hb hbytes d24) (by decide) ?_
            exact Steps.refl _)⟩
    obtain ⟨pc, Ls, v, hpc, hv, cz⟩ := loop A.slots.size 0 (by omega) (fun j hj => absurd hj (Nat.not_lt_zero j)) c3
    have nv : narrow .boolean (.int v) = .int v := by rcases hv with ⟨rfl, -⟩ | ⟨rfl, -⟩ <;> rfl
    rcases hpc with rfl | rfl
    · exact ⟨s₁, some (.int v), _, _, _, X0, rfl, rfl, rfl, (fun h => by cases h), ⟨v, rfl, hh0, hv⟩, fun fs hl => cz.trans (X0.ireturnOut hexec hret nv (Or.inr (Or.inl rfl)) (hb hbytes d25) hl)⟩
    · exact ⟨s₁, some (.int v), _, _, _, X0, rfl, rfl, rfl, (fun h => by cases h), ⟨v, rfl, hh0, hv⟩, fun fs hl => cz.trans (X0.ireturnOut hexec hret nv (Or.inr (Or.inl rfl)) (hb hbytes d33) hl)⟩
  · have c3 : Steps p.tables e below (s₁.setTop (entryFrame m #[.ref a, .ref b] 3)) (s₁.setTop (mkF m 35 #[.val (.ref a), .val (.ref b), .unset] [.int 0])) := c2.trans (by
      refine XS.icmpYes X0.here hexec rfl (pc0 := 4) rfl (hb hbytes d4) rfl (ii_ne_t (ne32 a31 b31 hs)) (by decide) rfl ?_
      refine iconstV X0.here hexec rfl 0 (hb hbytes d34) (by decide) ?_
      exact Steps.refl _)
    exact ⟨s₁, some (.int 0), _, _, _, X0, rfl, rfl, rfl, (fun h => by cases h), ⟨0, rfl, hh0, Or.inr ⟨rfl, fun q => hs q.1⟩⟩, fun fs hl => c3.trans (X0.ireturnOut hexec hret rfl (Or.inr (Or.inl rfl)) (hb hbytes d35) hl)⟩
end LEq
theorem Cod.ty {cd : Int32} {n : Nat} {f : Nat → Int32} {V : Cell} (h : Cod cd n f V) : Typed .byte V := fun i v hv => by
  have hi : i < V.slots.size := (Array.getElem?_eq_some_iff.mp hv).1
  rcases h with ⟨-, k1, k2⟩ | ⟨-, k1, k2, -⟩
  · rw [(k2 i (by omega)).1] at hv; cases hv; exact fits_lo8 _
  · rcases Nat.mod_two_eq_zero_or_one i with e | e
    · obtain ⟨j, rfl⟩ : ∃ j, i = 2 * j := ⟨i / 2, by omega⟩
      rw [(k2 j (by omega)).1] at hv; cases hv; exact fits_lo8 _
    · obtain ⟨j, rfl⟩ : ∃ j, i = 2 * j + 1 := ⟨i / 2, by omega⟩
      rw [(k2 j (by omega)).2] at hv; cases hv; exact fits_lo8 _
/-- the same text -/
def SameT (n : Nat) (f : Nat → Int32) (k : Nat) (g : Nat → Int32) : Prop := n = k ∧ ∀ j, j < n → f j = g j
theorem lo8_inj {x y : Int32} (h0 : ¬ x < 0) (h1 : ¬ 255 < x) (k0 : ¬ y < 0) (k1 : ¬ 255 < y) (h : lo8 x = lo8 y) : x = y := by
  rw [← lo8_mask h0 h1, ← lo8_mask k0 k1, h]
/-- arrays coded by one coder are equal just where the texts are -/
theorem Cod.eqv {cd : Int32} {n k : Nat} {f g : Nat → Int32} {V V' : Cell} (h : Cod cd n f V) (h' : Cod cd k g V') (hf : ∀ j, j < n → ¬ f j < 0 ∧ ¬ 65535 < f j) (hg : ∀ j, j < k → ¬ g j < 0 ∧ ¬ 65535 < g j) : EqC V V' ↔ SameT n f k g := by
  have yvv : ∀ {W : Cell} {i : Nat} {x : Int32}, W.slots[i]? = some (.int x) → yv W i = x := fun q => by unfold yv; rw [q]
  rcases h with ⟨rfl, k1, k2⟩ | ⟨rfl, k1, k2, -⟩
  · rcases h' with ⟨-, m1, m2⟩ | ⟨e, -⟩
    · constructor
      · rintro ⟨e1, e2⟩
        refine ⟨by omega, fun j hj => ?_⟩
        have q := e2 j (by omega)
        rw [yvv (k2 j hj).1, yvv (m2 j (by omega)).1] at q
        exact lo8_inj (hf j hj).1 (k2 j hj).2 (hg j (by omega)).1 (m2 j (by omega)).2 q
      · rintro ⟨rfl, e2⟩
        refine ⟨by omega, fun j hj => ?_⟩
        rw [yvv (k2 j (by omega)).1, yvv (m2 j (by omega)).1, e2 j (by omega)]
    · exact absurd e (by decide)
  · rcases h' with ⟨e, -⟩ | ⟨-, m1, m2, -⟩
    · exact absurd e (by decide)
    · constructor
      · rintro ⟨e1, e2⟩
        refine ⟨by omega, fun j hj => ?_⟩
        have q1 := e2 (2 * j) (by omega)
        have q2 := e2 (2 * j + 1) (by omega)
        rw [yvv (k2 j hj).1, yvv (m2 j (by omega)).1] at q1
        rw [yvv (k2 j hj).2, yvv (m2 j (by omega)).2] at q2
        rw [← pair_says (hf j hj).1 (hf j hj).2, ← pair_says (hg j (by omega)).1 (hg j (by omega)).2, q1, q2]
      · rintro ⟨rfl, e2⟩
        refine ⟨by omega, fun i hi => ?_⟩
        rcases Nat.mod_two_eq_zero_or_one i with e | e
        · obtain ⟨j, rfl⟩ : ∃ j, i = 2 * j := ⟨i / 2, by omega⟩
          rw [yvv (k2 j (by omega)).1, yvv (m2 j (by omega)).1, e2 j (by omega)]
        · obtain ⟨j, rfl⟩ : ∃ j, i = 2 * j + 1 := ⟨i / 2, by omega⟩
          rw [yvv (k2 j (by omega)).2, yvv (m2 j (by omega)).2, e2 j (by omega)]
/-- two codings differ: so do the texts -/
theorem Cod.dif {cd cd' : Int32} {n k : Nat} {f g : Nat → Int32} {V V' : Cell} (h : Cod cd n f V) (h' : Cod cd' k g V') (hne : ¬ cd = cd') : ¬ SameT n f k g := by
  rintro ⟨rfl, e⟩
  rcases h with ⟨rfl, -, k2⟩ | ⟨rfl, -, -, j, hj, hw⟩
  · rcases h' with ⟨rfl, -⟩ | ⟨-, -, -, j, hj, hw⟩
    · exact hne rfl
    · exact (k2 j hj).2 (by rw [e j hj]; exact hw)
  · rcases h' with ⟨-, -, m2⟩ | ⟨rfl, -⟩
    · exact (m2 j hj).2 (by rw [← e j hj]; exact hw)
    · exact hne rfl
/-- an object of exactly C is an instance of C -/
theorem cinst {p : Program} {l : Launch} {e : Env} {R : Room} {s : State} {m : MethodId} {args : Array Value} {below : List Frame} {meth : Method} {c : Code} {T : State} {locs : List Loc} {cells slots : Nat} (X : Stand p l e R s m args below meth c T locs cells slots) (hexec : p.tables.exec = Jvm.exec) {own C : String} {index : Nat} (hown : s.vm.findClass own = some m.cls) (hlink : (Cond.classLink own index C).before args s = true) {a : Addr} (hE : Exact C a T)
    {g : JFrame} (hg : g.method = m) {rest : List Value} (hstack : g.stack = .ref a :: rest) (hdg : decode c.code g.pc = .ok (.instanceof index, 3)) :
    ∃ T', Stand p l e R s m args below meth c T' locs cells slots ∧ T'.heap = T.heap ∧ ∀ target, Steps p.tables e below (T'.setTop { g with pc := g.pc + 3, stack := .int 1 :: rest }) target → Steps p.tables e below (T.setTop g) target := by
  obtain ⟨cB, h1, D, h2, h3, h4⟩ := hE
  have h1' : s.vm.findClass C = some cB := by rw [← X.warmed.alike.findClass]; exact h1
  obtain ⟨vm', X', st⟩ := X.instanceofYes hexec hown hlink h2 h4 h1' (by rw [h3]; exact Jvm.Free.SB.assignable_self _ _) hg hstack hdg
  exact ⟨_, X', rfl, st⟩
theorem cself {p : Program} {l : Launch} {e : Env} {R : Room} {s : State} {m : MethodId} {args : Array Value} {below : List Frame} {meth : Method} {c : Code} {T : State} {locs : List Loc} {cells slots : Nat} (X : Stand p l e R s m args below meth c T locs cells slots) (hexec : p.tables.exec = Jvm.exec) {own C : String} {index : Nat} (hown : s.vm.findClass own = some m.cls) (hlink : (Cond.classLink own index C).before args s = true) {a : Addr} (hE : Exact C a T)
    {g : JFrame} (hg : g.method = m) {rest : List Value} (hstack : g.stack = .ref a :: rest) (hdg : decode c.code g.pc = .ok (.checkcast index, 3)) :
    ∃ T', Stand p l e R s m args below meth c T' locs cells slots ∧ T'.heap = T.heap ∧ ∀ target, Steps p.tables e below (T'.setTop { g with pc := g.pc + 3, stack := .ref a :: rest }) target → Steps p.tables e below (T.setTop g) target := by
  obtain ⟨cB, h1, D, h2, h3, h4⟩ := hE
  have h1' : s.vm.findClass C = some cB := by rw [← X.warmed.alike.findClass]; exact h1
  obtain ⟨vm', X', st⟩ := X.checkcastYes hexec hown hlink h2 h4 h1' (by rw [h3]; exact Jvm.Free.SB.assignable_self _ _) hg hstack hdg
  exact ⟨_, X', rfl, fun t h => st t (by rw [← hstack] at h; exact h)⟩
namespace SEq
def yN : MethodName := ⟨"java/lang/String", "equals", "(Ljava/lang/Object;)Z"⟩
abbrev yB : ByteArray := jdk_42_method_66_code
theorem d0 : decode yB 0 = .ok (.aload_n 0, 1) := by decide +kernel
theorem d1 : decode yB 1 = .ok (.aload_n 1, 1) := by decide +kernel
theorem d2 : decode yB 2 = .ok (.if_acmp (.ne) 5, 3) := by decide +kernel
theorem d5 : decode yB 5 = .ok (.iconst 1, 1) := by decide +kernel
theorem d6 : decode yB 6 = .ok (.ireturn, 1) := by decide +kernel
theorem d7 : decode yB 7 = .ok (.aload_n 1, 1) := by decide +kernel
theorem d8 : decode yB 8 = .ok (.instanceof 10, 3) := by decide +kernel
theorem d11 : decode yB 11 = .ok (.ifCond (.eq) 43, 3) := by decide +kernel
theorem d14 : decode yB 14 = .ok (.aload_n 1, 1) := by decide +kernel
theorem d15 : decode yB 15 = .ok (.checkcast 10, 3) := by decide +kernel
theorem d18 : decode yB 18 = .ok (.astore_n 2, 1) := by decide +kernel
theorem d19 : decode yB 19 = .ok (.getstatic 38, 3) := by decide +kernel
theorem d22 : decode yB 22 = .ok (.ifCond (.eq) 14, 3) := by decide +kernel
theorem d25 : decode yB 25 = .ok (.aload_n 0, 1) := by decide +kernel
theorem d26 : decode yB 26 = .ok (.getfield 15, 3) := by decide +kernel
theorem d29 : decode yB 29 = .ok (.aload_n 2, 1) := by decide +kernel
theorem d30 : decode yB 30 = .ok (.getfield 15, 3) := by decide +kernel
theorem d33 : decode yB 33 = .ok (.if_icmp (.ne) 21, 3) := by decide +kernel
theorem d36 : decode yB 36 = .ok (.aload_n 0, 1) := by decide +kernel
theorem d37 : decode yB 37 = .ok (.getfield 9, 3) := by decide +kernel
theorem d40 : decode yB 40 = .ok (.aload_n 2, 1) := by decide +kernel
theorem d41 : decode yB 41 = .ok (.getfield 9, 3) := by decide +kernel
theorem d44 : decode yB 44 = .ok (.invokestatic 541, 3) := by decide +kernel
theorem d47 : decode yB 47 = .ok (.ifCond (.eq) 7, 3) := by decide +kernel
theorem d50 : decode yB 50 = .ok (.iconst 1, 1) := by decide +kernel
theorem d51 : decode yB 51 = .ok (.goto 4, 3) := by decide +kernel
theorem d54 : decode yB 54 = .ok (.iconst 0, 1) := by decide +kernel
theorem d55 : decode yB 55 = .ok (.ireturn, 1) := by decide +kernel
def site : List Cond := [.classLink "java/lang/String" 10 "java/lang/String", .fieldLink "java/lang/String" 38 "java/lang/String" "COMPACT_STRINGS" "Z", .fieldLink "java/lang/String" 15 "java/lang/String" "coder" "B", .fieldLink "java/lang/String" 9 "java/lang/String" "value" "[B", LEq.tab] ++ staticW "java/lang/String" 541 LEq.yN
def tab : Cond := tabOf yN yB 3 (some .boolean) site
def P (x t : Addr) (V : Cell) (cd : Int32) (n : Nat) (f : Nat → Int32) (y t' : Addr) (V' : Cell) (cd' : Int32) (k : Nat) (g : Nat → Int32) (z : Int32) (args : Array Value) (s : State) : Prop := args = #[.ref x, .ref y] ∧ Txt x t V cd n f s ∧ Txt y t' V' cd' k g s ∧ StaticIs s "java/lang/String" "COMPACT_STRINGS" "Z" (.int z) ∧ ¬ z = 0
/-- equals(Object) of two Strings: whether the texts are the same -/
theorem law (l : Launch) (x t : Addr) (V : Cell) (cd : Int32) (n : Nat) (f : Nat → Int32) (y t' : Addr) (V' : Cell) (cd' : Int32) (k : Nat) (g : Nat → Int32) (z : Int32) : Law l yN 2 1 1 14 yB 3 (some .boolean) site (P x t V cd n f y t' V' cd' k g z) (Says01 (SameT n f k g)) [] 0 0 := by
  refine Law.of_walk (plainFor_of_name (by decide +kernel)) (by decide +kernel) (by decide +kernel) (by decide) (fun _ _ h => by rw [h.1]; rfl) (fun _ U U' hal hh h => ⟨h.1, h.2.1.mv hal hh, h.2.2.1.mv hal hh, h.2.2.2.1.there hal hh, h.2.2.2.2⟩) (fun r U U' V V' h1 hal h2 h => Says01.mv r U U' V V' h1 hal h2 h) ?_
  intro p e s m args below meth c s₁ X0 hexec hbytes hml hret hlk hnm hown hh0 W hP
  obtain ⟨rfl, hx, hy, s1, hz⟩ := hP
  have c1 : Steps p.tables e below (s₁.setTop (entryFrame m #[.ref x, .ref y] 3)) (s₁.setTop (mkF m 2 #[.val (.ref x), .val (.ref y), .unset] [.ref y, .ref x])) := Steps.trans (entry rfl) (by
    show Steps p.tables e below (s₁.setTop (mkF m 0 #[.val (.ref x), .val (.ref y), .unset] [])) _
    refine XS.aloadN X0.here hexec rfl (hb hbytes d0) rfl rfl ?_
    refine XS.aloadN X0.here hexec rfl (hb hbytes d1) rfl rfl ?_
    exact Steps.refl _)
  by_cases hxy : x = y
  · have c2 : Steps p.tables e below (s₁.setTop (entryFrame m #[.ref x, .ref y] 3)) (s₁.setTop (mkF m 6 #[.val (.ref x), .val (.ref y), .unset] [.int 1])) := c1.trans (by
      refine acmpNo X0.here hexec rfl (hb hbytes d2) rfl rfl rfl (by simp [acmp, hxy]) ?_
      refine iconstV X0.here hexec rfl 1 (hb hbytes d5) (by decide) ?_
      exact Steps.refl _)
    subst hxy
    have ec : cd = cd' := by
      obtain ⟨D, fd, a1, a2, a3⟩ := hx.2.2.1
      obtain ⟨D', fd', b1, b2, b3⟩ := hy.2.2.1
      cases a1.symm.trans b1
      obtain ⟨q1, q2, q3, q4⟩ := a2.1
      obtain ⟨r1, r2, r3, r4⟩ := b2.1
      cases q4.symm.trans r4
      cases a3.symm.trans b3; rfl
    have et : t = t' := by
      obtain ⟨D, fd, a1, a2, a3⟩ := hx.2.1
      obtain ⟨D', fd', b1, b2, b3⟩ := hy.2.1
      cases a1.symm.trans b1
      obtain ⟨q1, q2, q3, q4⟩ := a2.1
      obtain ⟨r1, r2, r3, r4⟩ := b2.1
      cases q4.symm.trans r4
      cases a3.symm.trans b3; rfl
    subst ec et
    have ev : V = V' := by cases hx.2.2.2.1.1.symm.trans hy.2.2.2.1.1; rfl
    subst ev
    have hs : SameT n f k g := (Cod.eqv hx.2.2.2.2.1 hy.2.2.2.2.1 hx.2.2.2.2.2 hy.2.2.2.2.2).mp ⟨rfl, fun _ _ => rfl⟩
    exact ⟨s₁, some (.int 1), _, _, _, X0, rfl, rfl, rfl, (fun h => by cases h), ⟨1, rfl, hh0, Or.inl ⟨rfl, hs⟩⟩, fun fs hl => c2.trans (X0.ireturnOut hexec hret rfl (Or.inr (Or.inl rfl)) (hb hbytes d6) hl)⟩
  · have c2 : Steps p.tables e below (s₁.setTop (entryFrame m #[.ref x, .ref y] 3)) (s₁.setTop (mkF m 8 #[.val (.ref x), .val (.ref y), .unset] [.ref y])) := c1.trans (by
      refine acmpYes X0.here hexec rfl (pc0 := 2) rfl (hb hbytes d2) rfl rfl rfl (by simp [acmp, hxy]) (by decide) rfl ?_
      refine XS.aloadN X0.here hexec rfl (hb hbytes d7) rfl rfl ?_
      exact Steps.refl _)
    obtain ⟨T3, X3, q3, st3⟩ := cinst X0 hexec hown (wk W (.classLink "java/lang/String" 10 "java/lang/String")) (hy.mv X0.warmed.alike hh0).1 (g := (mkF m 8 #[.val (.ref x), .val (.ref y), .unset] [.ref y])) rfl (rest := []) rfl (hb hbytes d8)
    have hh3 := q3.trans hh0
    have c4 : Steps p.tables e below (s₁.setTop (entryFrame m #[.ref x, .ref y] 3)) (T3.setTop (mkF m 15 #[.val (.ref x), .val (.ref y), .unset] [.ref y])) := (c2.trans (st3 _ (Steps.refl _))).trans (by
      refine XS.ifNo X3.here hexec rfl (hb hbytes d11) rfl (i0_eq_f (by decide)) ?_
      refine XS.aloadN X3.here hexec rfl (hb hbytes d14) rfl rfl ?_
      exact Steps.refl _)
    obtain ⟨T5, X5, q5, st5⟩ := cself X3 hexec hown (wk W (.classLink "java/lang/String" 10 "java/lang/String")) (hy.mv X3.warmed.alike hh3).1 (g := (mkF m 15 #[.val (.ref x), .val (.ref y), .unset] [.ref y])) rfl (rest := []) rfl (hb hbytes d15)
    have hh5 := q5.trans hh3
    have c6 : Steps p.tables e below (s₁.setTop (entryFrame m #[.ref x, .ref y] 3)) (T5.setTop (mkF m 19 #[.val (.ref x), .val (.ref y), .val (.ref y)] [])) := (c4.trans (st5 _ (Steps.refl _))).trans (by
      refine XS.astoreN X5.here hexec rfl (hb hbytes d18) rfl rfl rfl ?_
      exact Steps.refl _)
    obtain ⟨T7, X7, q7, st7⟩ := X5.sget hexec hown (wk W (.fieldLink "java/lang/String" 38 "java/lang/String" "COMPACT_STRINGS" "Z")) s1 (fun _ _ h => by rw [hh5]; exact h) (g := (mkF m 19 #[.val (.ref x), .val (.ref y), .val (.ref y)] [])) rfl (hb hbytes d19)
    have hh7 := q7.trans hh5
    have c8 : Steps p.tables e below (s₁.setTop (entryFrame m #[.ref x, .ref y] 3)) (T7.setTop (mkF m 26 #[.val (.ref x), .val (.ref y), .val (.ref y)] [.ref x])) := (c6.trans (st7 _ (Steps.refl _))).trans (by
      refine XS.ifNo X7.here hexec rfl (hb hbytes d22) rfl (i0_eq_f hz) ?_
      refine XS.aloadN X7.here hexec rfl (hb hbytes d25) rfl rfl ?_
      exact Steps.refl _)
    obtain ⟨T9, X9, q9, st9⟩ := X7.hget hexec hown (wk W (.fieldLink "java/lang/String" 15 "java/lang/String" "coder" "B")) (hx.mv X7.warmed.alike hh7).2.2.1 (g := (mkF m 26 #[.val (.ref x), .val (.ref y), .val (.ref y)] [.ref x])) rfl (rest := []) rfl (hb hbytes d26)
    have hh9 := q9.trans hh7
    have c10 : Steps p.tables e below (s₁.setTop (entryFrame m #[.ref x, .ref y] 3)) (T9.setTop (mkF m 30 #[.val (.ref x), .val (.ref y), .val (.ref y)] [.ref y, .int cd])) := (c8.trans (st9 _ (Steps.refl _))).trans (by
      refine XS.aloadN X9.here hexec rfl (hb hbytes d29) rfl rfl ?_
      exact Steps.refl _)
    obtain ⟨T11, X11, q11, st11⟩ := X9.hget hexec hown (wk W (.fieldLink "java/lang/String" 15 "java/lang/String" "coder" "B")) (hy.mv X9.warmed.alike hh9).2.2.1 (g := (mkF m 30 #[.val (.ref x), .val (.ref y), .val (.ref y)] [.ref y, .int cd])) rfl (rest := [.int cd]) rfl (hb hbytes d30)
    have hh11 := q11.trans hh9
    have c12 : Steps p.tables e below (s₁.setTop (entryFrame m #[.ref x, .ref y] 3)) (T11.setTop (mkF m 33 #[.val (.ref x), .val (.ref y), .val (.ref y)] [.int cd', .int cd])) := c10.trans (st11 _ (Steps.refl _))
    by_cases hcd : cd = cd'
    · subst hcd
      have c13 : Steps p.tables e below (s₁.setTop (entryFrame m #[.ref x, .ref y] 3)) (T11.setTop (mkF m 37 #[.val (.ref x), .val (.ref y), .val (.ref y)] [.ref x])) := c12.trans (by
        refine XS.icmpNo X11.here hexec rfl (hb hbytes d33) rfl (ii_ne_f rfl) ?_
        refine XS.aloadN X11.here hexec rfl (hb hbytes d36) rfl rfl ?_
        exact Steps.refl _)
      obtain ⟨T14, X14, q14, st14⟩ := X11.hget hexec hown (wk W (.fieldLink "java/lang/String" 9 "java/lang/String" "value" "[B")) (hx.mv X11.warmed.alike hh11).2.1 (g := (mkF m 37 #[.val (.ref x), .val (.ref y), .val (.ref y)] [.ref x])) rfl (rest := []) rfl (hb hbytes d37)
      have hh14 := q14.trans hh11
      have c15 : Steps p.tables e below (s₁.setTop (entryFrame m #[.ref x, .ref y] 3)) (T14.setTop (mkF m 41 #[.val (.ref x), .val (.ref y), .val (.ref y)] [.ref y, .ref t])) := (c13.trans (st14 _ (Steps.refl _))).trans (by
        refine XS.aloadN X14.here hexec rfl (hb hbytes d40) rfl rfl ?_
        exact Steps.refl _)
      obtain ⟨T16, X16, q16, st16⟩ := X14.hget hexec hown (wk W (.fieldLink "java/lang/String" 9 "java/lang/String" "value" "[B")) (hy.mv X14.warmed.alike hh14).2.1 (g := (mkF m 41 #[.val (.ref x), .val (.ref y), .val (.ref y)] [.ref y, .ref t])) rfl (rest := [.ref t]) rfl (hb hbytes d41)
      have hh16 := q16.trans hh14
      have c17 : Steps p.tables e below (s₁.setTop (entryFrame m #[.ref x, .ref y] 3)) (T16.setTop (mkF m 44 #[.val (.ref x), .val (.ref y), .val (.ref y)] [.ref t', .ref t])) := c15.trans (st16 _ (Steps.refl _))
      obtain ⟨v18, T18, X18, E18, g18⟩ := X16.callS hexec (LEq.law l t V t' V') hown (wks W (staticW "java/lang/String" 541 LEq.yN)) (wk W LEq.tab) (W := 0) (Nat.le_of_ble_eq_true rfl) (Nat.le_of_ble_eq_true rfl) (Nat.le_refl _) (Nat.le_refl _) (g := (mkF m 44 #[.val (.ref x), .val (.ref y), .val (.ref y)] [.ref t', .ref t])) rfl (by rw [hml]; rfl) c17 (argsL := [.ref t, .ref t']) (rest := []) rfl rfl (by show 2 * 0 + 0 ≤ _; decide) (hb hbytes d44) (⟨rfl, hx.2.2.2.1.mv X16.warmed.alike hh16, hx.2.2.2.2.1.ty, hy.2.2.2.1.mv X16.warmed.alike hh16, hy.2.2.2.2.1.ty⟩)
      obtain ⟨v, rfl, q18, hv⟩ := E18
      have iff := Cod.eqv hx.2.2.2.2.1 hy.2.2.2.2.1 hx.2.2.2.2.2 hy.2.2.2.2.2
      rcases hv with ⟨rfl, he⟩ | ⟨rfl, he⟩
      · have c19 : Steps p.tables e below (s₁.setTop (entryFrame m #[.ref x, .ref y] 3)) (T18.setTop (mkF m 55 #[.val (.ref x), .val (.ref y), .val (.ref y)] [.int 1])) := Steps.trans g18 (by
          refine XS.ifNo X18.here hexec rfl (hb hbytes d47) rfl (i0_eq_f (by decide)) ?_
          refine iconstV X18.here hexec rfl 1 (hb hbytes d50) (by decide) ?_
          refine XS.goto X18.here hexec rfl (pc0 := 51) rfl (hb hbytes d51) (by decide) rfl ?_
          exact Steps.refl _)
        exact ⟨T18, some (.int 1), _, _, _, X18, rfl, rfl, rfl, (fun h => by cases h), ⟨1, rfl, q18.trans hh16, Or.inl ⟨rfl, iff.mp he⟩⟩, fun fs hl => c19.trans (X18.ireturnOut hexec hret rfl (Or.inr (Or.inl rfl)) (hb hbytes d55) hl)⟩
      · have c19 : Steps p.tables e below (s₁.setTop (entryFrame m #[.ref x, .ref y] 3)) (T18.setTop (mkF m 55 #[.val (.ref x), .val (.ref y), .val (.ref y)] [.int 0])) := Steps.trans g18 (by
          refine XS.ifYes X18.here hexec rfl (pc0 := 47) rfl (hb hbytes d47) rfl (i0_eq_t rfl) (by decide) rfl ?_
          refine iconstV X18.here hexec rfl 0 (hb hbytes d54) (by decide) ?_
          exact Steps.refl _)
        exact ⟨T18, some (.int 0), _, _, _, X18, rfl, rfl, rfl, (fun h => by cases h), ⟨0, rfl, q18.trans hh16, Or.inr ⟨rfl, fun q => he (iff.mpr q)⟩⟩, fun fs hl => c19.trans (X18.ireturnOut hexec hret rfl (Or.inr (Or.inl rfl)) (hb hbytes d55) hl)⟩
    · have c13 : Steps p.tables e below (s₁.setTop (entryFrame m #[.ref x, .ref y] 3)) (T11.setTop (mkF m 55 #[.val (.ref x), .val (.ref y), .val (.ref y)] [.int 0])) := c12.trans (by
        refine XS.icmpYes X11.here hexec rfl (pc0 := 33) rfl (hb hbytes d33) rfl (ii_ne_t hcd) (by decide) rfl ?_
        refine iconstV X11.here hexec rfl 0 (hb hbytes d54) (by decide) ?_
        exact Steps.refl _)
      exact ⟨T11, some (.int 0), _, _, _, X11, rfl, rfl, rfl, (fun h => by cases h), ⟨0, rfl, hh11, Or.inr ⟨rfl, Cod.dif hx.2.2.2.2.1 hy.2.2.2.2.1 hcd⟩⟩, fun fs hl => c13.trans (X11.ireturnOut hexec hret rfl (Or.inr (Or.inl rfl)) (hb hbytes d55) hl)⟩
theorem pays {l : Launch} {R : Room} {p : Program} {e : Env} {below : List Frame} {s : State} {sargs : Array Value} {len W : Nat} (x t : Addr) (V : Cell) (cd : Int32) (n : Nat) (f : Nat → Int32) (y t' : Addr) (V' : Cell) (cd' : Int32) (k : Nat) (g : Nat → Int32) (z : Int32) (htab : tab.before sargs s = true) (hfr : 2 ≤ R.frames) (hlo : W + 28 ≤ R.locals) :
    Back l R p e below s sargs yN len W (fun A₁ a₁ => A₁.cells + 0 ≤ R.cells ∧ A₁.slots + 0 ≤ R.slots ∧ P x t V cd n f y t' V' cd' k g z a₁ A₁.U) (fun A₁ _ v₁ B₁ => Says01 (SameT n f k g) v₁ A₁.U B₁.U ∧ B₁.locs = A₁.locs ++ [] ∧ B₁.cells = A₁.cells + 0 ∧ B₁.slots = A₁.slots + 0) :=
  (law l x t V cd n f y t' V' cd' k g z).pays htab hfr (by omega)
end SEq
end StrChars
namespace StrChars.Road
open Jvm Sem ClassFile Op Lib Jvm.Stand Jvm.Free Jvm.Free.XT
open Jvm.Lib.Cold (StaticIs)
/-- the words of String.equals(Object) -/
abbrev wordsEq : List Jvm.Cond := [.code SEq.yN SEq.yB 3 (some .boolean), .initialized ST, .classLink ST 10 ST, .fieldLink ST 38 ST "COMPACT_STRINGS" "Z", .fieldLink ST 15 ST "coder" "B", .fieldLink ST 9 ST "value" "[B", .methodLink ST 541 LEq.yN, .static LEq.yN, .code LEq.yN LEq.yB 3 (some .boolean), .initialized "java/lang/StringLatin1"]
theorem tabEq_of {a : Array Value} {s : State} (h : ∀ w ∈ wordsEq, w.before a s = true) : SEq.tab.before a s = true := by
  have hl : LEq.tab.before a s = true := unparts (wk h (.code LEq.yN LEq.yB 3 (some .boolean))) (wks h (.initialized LEq.yN.cls :: LEq.site))
  have q := consq hl h
  exact unparts (wk q (.code SEq.yN SEq.yB 3 (some .boolean))) (wks q (.initialized SEq.yN.cls :: SEq.site))
theorem movedEq {Z s : State} {a0 args : Array Value} (hZ : Z.Warmed39 s.vm) (hw : ∀ d ∈ wordsEq, d.before a0 Z = true) : ∀ d ∈ wordsEq, d.before args s = true := fun d hd => by
  have t : ∀ d ∈ wordsEq, (d.onTables && d.keepsFace) = true := by decide +kernel
  exact RoadKit.mv hZ (hw d hd) (t d hd)
/-- the road's facts of a String, as the laws ask it -/
theorem txt_of {Z U : State} {a0 : Array Value} {kI : Nat} (wi : (Jvm.Cond.instantiable ST kI).before a0 Z = true) (al : Z.vm.Alike U.vm) {x t : Addr} {kb : ClassId} {cs : List Int32} {cd N2 : Int32} {vs : List Value} (E : RoadKit.Exa Z U.heap x ST) (V : RoadKit.Fld Z U.heap x ST "value" "[B" (.ref t)) (C : RoadKit.Fld Z U.heap x ST "coder" "B" (.int cd)) (K : RoadKit.Arv Z U.heap t kb .byte N2 vs (.int 0)) (hc : CodA cs cd N2 vs) (hb : ∀ c ∈ cs, ¬ c < 0 ∧ ¬ (65535 : Int32) < c) (l2 : cs.length ≤ 4000) :
    ∃ A, Txt x t A cd cs.length (fun j => cs.getD j 0) U := by
  obtain ⟨A, K1, K2, K3, K4, K5, K6⟩ := K
  have hcod := hc.cod (by omega) K3 K5
  obtain ⟨D, fV, fC, hB, F1, F2, g1, g2, -, -⟩ := strObj wi al E V C
  exact ⟨A, ⟨_, hB.2.2.1, D, hB.1, rfl, by cases q : D.vm <;> first | rfl | exact absurd q (hB.2.1.2 _)⟩, Has.of hB F1 g1, Has.of hB F2 g2, ⟨K1.1, State.isArrayOf_alike al K1.2.1, K1.2.2, by rcases hcod with ⟨-, q, -⟩ | ⟨-, q, -⟩ <;> omega⟩, hcod, fun j hj => by
    have e : cs.getD j 0 = cs[j] := by simp [List.getD_eq_getElem?_getD, hj]
    show ¬ cs.getD j 0 < 0 ∧ ¬ 65535 < cs.getD j 0
    rw [e]; exact hb _ (List.getElem_mem _)⟩
theorem same_list (cs ds : List Int32) : SameT cs.length (fun j => cs.getD j 0) ds.length (fun j => ds.getD j 0) ↔ cs = ds := by
  constructor
  · rintro ⟨e, q⟩
    refine List.ext_getElem e fun j h1 h2 => ?_
    have := q j h1
    simpa [List.getD_eq_getElem?_getD, h1, h2] using this
  · rintro rfl
    exact ⟨rfl, fun _ _ => rfl⟩
/-- **equals(Object) OF TWO SUCH STRINGS**: 1 just where the chars are the same -/
theorem eqW {p : Program} {l : Launch} {e : Env} {R : Room} {s : State} {args : Array Value} {below : List Frame} {len W : Nat} {Z : State} {a0 : Array Value} {h : Heap} (hZ : Z.Warmed39 s.vm) (hw : ∀ d ∈ wordsEq, d.before a0 Z = true) {kI : Nat} (wi : (Jvm.Cond.instantiable ST kI).before a0 Z = true)
    {x t : Addr} {kb : ClassId} {cs : List Int32} {cd N2 : Int32} {vs : List Value} (E : RoadKit.Exa Z h x ST) (V : RoadKit.Fld Z h x ST "value" "[B" (.ref t)) (C : RoadKit.Fld Z h x ST "coder" "B" (.int cd)) (K : RoadKit.Arv Z h t kb .byte N2 vs (.int 0)) (hc : CodA cs cd N2 vs) (hb : ∀ c ∈ cs, ¬ c < 0 ∧ ¬ (65535 : Int32) < c) (l2 : cs.length ≤ 4000)
    {y t' : Addr} {kb' : ClassId} {ds : List Int32} {cd' N2' : Int32} {vs' : List Value} (E' : RoadKit.Exa Z h y ST) (V' : RoadKit.Fld Z h y ST "value" "[B" (.ref t')) (C' : RoadKit.Fld Z h y ST "coder" "B" (.int cd')) (K' : RoadKit.Arv Z h t' kb' .byte N2' vs' (.int 0)) (hc' : CodA ds cd' N2' vs') (hb' : ∀ c ∈ ds, ¬ c < 0 ∧ ¬ (65535 : Int32) < c) (l2' : ds.length ≤ 4000)
    {z : Int32} (S : RoadKit.Sta Z h ST "COMPACT_STRINGS" "Z" (.int z)) (hz : ¬ z = 0) (hfr : 2 ≤ R.frames) (hlo : W + 28 ≤ R.locals) :
    Back l R p e below s args (⟨"java/lang/String", "equals", "(Ljava/lang/Object;)Z"⟩ : MethodName) len W (fun P a => a = #[.ref x, .ref y] ∧ P.U.heap = h ∧ P.cells + 0 ≤ R.cells ∧ P.slots + 0 ≤ R.slots)
      (fun P _ v B => ∃ L, (((v = some (.int 1) ∧ cs = ds) ∨ (v = some (.int 0) ∧ ¬ cs = ds)) ∧ L = [] ∧ B.U.heap = h) ∧ B.locs = P.locs ++ L ∧ B.cells = P.cells + 0 ∧ B.slots = P.slots + 0) := by
  intro m meth c P g ig mk a X hg hsize hdg hW hn hp'
  obtain ⟨rfl, rfl, r1, r2⟩ := hp'
  have al : Z.vm.Alike P.U.vm := hZ.alike.trans X.warmed.alike
  obtain ⟨A, hx⟩ := txt_of wi al E V C K hc hb l2
  obtain ⟨A', hy⟩ := txt_of wi al E' V' C' K' hc' hb' l2'
  obtain ⟨v, B, X', ⟨⟨w, hv, hh, hq⟩, hl, hk, hs⟩, st⟩ := SEq.pays x t A cd cs.length (fun j => cs.getD j 0) y t' A' cd' ds.length (fun j => ds.getD j 0) z (tabEq_of (movedEq hZ hw)) hfr hlo m meth c P g ig mk _ X hg hsize hdg hW hn ⟨r1, r2, rfl, hx, hy, sta_is al S, hz⟩
  refine ⟨v, B, X', ⟨[], ⟨?_, rfl, hh⟩, hl, hk, hs⟩, st⟩
  rcases hq with ⟨rfl, q⟩ | ⟨rfl, q⟩
  · exact Or.inl ⟨hv, (same_list cs ds).mp q⟩
  · exact Or.inr ⟨hv, fun e => q ((same_list cs ds).mpr e)⟩
end StrChars.Road
end Jvm.Pilot.@@N@@
namespace Jvm.Pilot.@@N@@
open Jvm Jvm.ClassFile Sem Op Lib Jvm.Free Jvm.Stand Jvm.LawKit Jvm.RoadKit Bundle Jvm.Pilot.@@N@@.Jvm.D
section Own
variable {p : Program} {l : Launch} {e : Env} {R : Room} {s : State} {m : MethodId} {args : Array Value} {below : List Frame} {meth : Method} {c : Code} {T : State} {k n : Nat} {Z : State} {a0 : Array Value} {h : Heap} {n0 KK NN : Nat} {Q : Option Value → Heap → Prop}
/-- from T with the top frame g the invocation comes to its end as Q asks -/
def OwG (p : Program) (e : Env) (below : List Frame) (s : State) (n0 KK NN : Nat) (Q : Option Value → Heap → Prop) (T : State) (g : JFrame) : Prop :=
  ∃ s₂ o, Steps p.tables e below (T.setTop g) s₂ ∧ s₂.status = .running ∧ Ended s₂ below o ∧ ∃ v L, o = .returned v ∧ (Q v s₂.heap ∧ Fr n0 L) ∧ FrameEnd s o s₂ L KK NN
/-- where a walk stands: the heap is h, what was written lies at or above n0, k cells and n slots were made at the most -/
def OwP (p : Program) (l : Launch) (e : Env) (R : Room) (s : State) (m : MethodId) (args : Array Value) (below : List Frame) (meth : Method) (c : Code) (n0 : Nat) (T : State) (h : Heap) (k n : Nat) : Prop :=
  ∃ locs, Stand p l e R s m args below meth c T locs k n ∧ T.heap = h ∧ Fr n0 locs
/-- a callee's contract -/
def OwM (l : Launch) (Z : State) (y : MethodName) (bytes : ByteArray) (maxL : Nat) (ret : Option FieldType) (rm : Room) (n0 : Nat) (as' : Array Value) (h0 : Heap) (Q : Option Value → Heap → Prop) : Prop :=
  MetFree l y (head1 [Jvm.Cond.code y bytes maxL ret] rm) (fun a U => a = as' ∧ Z.Warmed39 U.vm ∧ U.heap = h0) (fun _ _ _ _ _ => True) (fun _ U o U' => ∃ v L, o = .returned v ∧ (Q v U'.heap ∧ Fr n0 L) ∧ FrameEnd U o U' L rm.cells rm.slots)
theorem OwG.go {T' : State} {g g' : JFrame} (st : ∀ t, Steps p.tables e below (T'.setTop g') t → Steps p.tables e below (T.setTop g) t) (G : OwG p e below s n0 KK NN Q T' g') : OwG p e below s n0 KK NN Q T g := by
  obtain ⟨s₂, o, h1, r⟩ := G
  exact ⟨s₂, o, st _ h1, r⟩
theorem OwG.cast {g g' : JFrame} (q : g = g') (G : OwG p e below s n0 KK NN Q T g') : OwG p e below s n0 KK NN Q T g := q ▸ G
theorem OwP.here (P : OwP p l e R s m args below meth c n0 T h k n) : At T m c below := by obtain ⟨_, X, _⟩ := P; exact X.here
theorem OwP.wide (P : OwP p l e R s m args below meth c n0 T h k n) {k' n' : Nat} (h1 : k ≤ k') (h2 : n ≤ n') : OwP p l e R s m args below meth c n0 T h k' n' := by
  obtain ⟨L, X, r⟩ := P
  exact ⟨L, Jvm.Stand.wide X (fun x hx _ => hx) h1 h2, r⟩
theorem OwM.of {y : MethodName} {bytes : ByteArray} {maxL : Nat} {ret : Option FieldType} {ws : List Jvm.Cond} {rm : Room} {as' : Array Value} {h0 : Heap} (pn : plainFor y = true)
    (body : ∀ (p : Program) (e : Env) (s : State) (m : MethodId) (below : List Frame) (meth : Method) (c : Code) (T : State), p.tables.exec = Jvm.exec → c.code = bytes → c.maxLocals = maxL → s.vm.findClass y.cls = some m.cls → meth.name = y.name → meth.sig.returnType = ret → meth.locks = false → Z.Warmed39 s.vm → OwP p l e rm s m as' below meth c n0 T h0 0 0 → OwG p e below s n0 KK NN Q T (entryFrame m as' maxL)) :
    MetFree l y (head1 (Jvm.Cond.code y bytes maxL ret :: ws) rm) (fun a U => a = as' ∧ Z.Warmed39 U.vm ∧ U.heap = h0) (fun _ _ _ _ _ => True) (fun _ U o U' => ∃ v L, o = .returned v ∧ (Q v U'.heap ∧ Fr n0 L) ∧ FrameEnd U o U' L KK NN) := by
  refine MetFree.of_bodySF pn hisR ?_
  intro p e s m args below meth c s₁ Bd hml0 hP hK
  obtain ⟨rfl, hZ, hh⟩ := hP
  exact body p e s m below meth c s₁ Bd.exec Bd.bytes hml0 (findClass_of_methodNamed Bd.named) (name_of_methodNamed Bd.named Bd.method).1 Bd.returns Bd.notSynchronized hZ ⟨[], Stand.of_body Bd, by rw [← hh, Bd.state]; rfl, Fr.nil n0⟩
theorem OwM.mk {y : MethodName} {bytes : ByteArray} {maxL : Nat} {ret : Option FieldType} {rm : Room} {as' : Array Value} {h0 : Heap} (pn : plainFor y = true)
    (body : ∀ (p : Program) (e : Env) (s : State) (m : MethodId) (below : List Frame) (meth : Method) (c : Code) (T : State), p.tables.exec = Jvm.exec → c.code = bytes → c.maxLocals = maxL → s.vm.findClass y.cls = some m.cls → meth.name = y.name → meth.sig.returnType = ret → meth.locks = false → Z.Warmed39 s.vm → OwP p l e rm s m as' below meth c n0 T h0 0 0 → OwG p e below s n0 rm.cells rm.slots Q T (entryFrame m as' maxL)) :
    OwM l Z y bytes maxL ret rm n0 as' h0 Q := OwM.of (ws := []) (Q := Q) pn body
theorem OwP.ret (P : OwP p l e R s m args below meth c n0 T h k n) (hx : p.tables.exec = Jvm.exec) (hlk : meth.locks = false) {pc : Nat} {Ls : Array Slot} {w : Value} {t : FieldType} {i : Instr} {rest : List Value} (hret : meth.sig.returnType = some t) (hn : narrow t w = w)
    (hi : (i = .ireturn ∧ (t = .int ∨ t = .boolean ∨ t = .byte ∨ t = .char ∨ t = .short) ∧ ∃ z, w = .int z) ∨ (i = .lreturn ∧ t = .long ∧ ∃ z, w = .long z) ∨ (i = .dreturn ∧ t = .double ∧ ∃ z, w = .double z) ∨ (i = .freturn ∧ t = .float ∧ ∃ z, w = .float z) ∨ (i = .areturn ∧ t.isReference = true ∧ w.isRef = true))
    (hd : decode c.code pc = .ok (i, 1)) (hk : k ≤ KK) (hn' : n ≤ NN) (q : Q (some w) h) : OwG p e below s n0 KK NN Q T (mkF m pc Ls (w :: rest)) := by
  obtain ⟨L, X, e0, N⟩ := P
  obtain ⟨fs, hr, hrun, hended, hW, hsame⟩ := X.leave (v := some w) (fun h => by rw [hret] at h; cases h)
  exact ⟨_, _, retOut X hx hret hn hi hd hr, hrun, hended, _, _, rfl, ⟨by rw [← e0] at q; exact q, N⟩, ⟨_, rfl⟩, hW, hsame.mono hk hn'⟩
theorem OwP.retI (P : OwP p l e R s m args below meth c n0 T h k n) (hx : p.tables.exec = Jvm.exec) (hlk : meth.locks = false) {pc : Nat} {Ls : Array Slot} {z : Int32} {rest : List Value} (hret : meth.sig.returnType = some .int)
    (hd : decode c.code pc = .ok (.ireturn, 1)) (hk : k ≤ KK) (hn' : n ≤ NN) (q : Q (some (.int z)) h) : OwG p e below s n0 KK NN Q T (mkF m pc Ls (.int z :: rest)) :=
  P.ret hx hlk hret rfl (Or.inl ⟨rfl, Or.inl rfl, z, rfl⟩) hd hk hn' q
theorem OwP.retL (P : OwP p l e R s m args below meth c n0 T h k n) (hx : p.tables.exec = Jvm.exec) (hlk : meth.locks = false) {pc : Nat} {Ls : Array Slot} {z : Int64} {rest : List Value} (hret : meth.sig.returnType = some .long)
    (hd : decode c.code pc = .ok (.lreturn, 1)) (hk : k ≤ KK) (hn' : n ≤ NN) (q : Q (some (.long z)) h) : OwG p e below s n0 KK NN Q T (mkF m pc Ls (.long z :: rest)) :=
  P.ret hx hlk hret rfl (Or.inr (Or.inl ⟨rfl, rfl, z, rfl⟩)) hd hk hn' q
theorem OwP.retR (P : OwP p l e R s m args below meth c n0 T h k n) (hx : p.tables.exec = Jvm.exec) (hlk : meth.locks = false) {pc : Nat} {Ls : Array Slot} {w : Value} {t : FieldType} {rest : List Value} (hret : meth.sig.returnType = some t) (ht : t.isReference = true) (hw : w.isRef = true)
    (hd : decode c.code pc = .ok (.areturn, 1)) (hk : k ≤ KK) (hn' : n ≤ NN) (q : Q (some w) h) : OwG p e below s n0 KK NN Q T (mkF m pc Ls (w :: rest)) :=
  P.ret hx hlk hret (by cases t <;> first | (cases ht; done) | (cases w <;> rfl)) (Or.inr (Or.inr (Or.inr (Or.inr ⟨rfl, ht, hw⟩)))) hd hk hn' q
theorem OwP.retN (P : OwP p l e R s m args below meth c n0 T h k n) (hx : p.tables.exec = Jvm.exec) (hlk : meth.locks = false) {pc : Nat} {Ls : Array Slot} {z : Int32} {t : FieldType} {rest : List Value} (hret : meth.sig.returnType = some t) (ht : t = .boolean ∨ t = .byte ∨ t = .char ∨ t = .short)
    (hd : decode c.code pc = .ok (.ireturn, 1)) (hk : k ≤ KK) (hn' : n ≤ NN) (q : Q (some (.int (nar t z))) h) : OwG p e below s n0 KK NN Q T (mkF m pc Ls (.int z :: rest)) := by
  obtain ⟨L, X, e0, N⟩ := P
  obtain ⟨fs, hr, hrun, hended, hW, hsame⟩ := X.leave (v := some (.int (nar t z))) (fun h => by rw [hret] at h; cases h)
  exact ⟨_, _, RoadKit.retN X hx hret ht hd hr, hrun, hended, _, _, rfl, ⟨by rw [← e0] at q; exact q, N⟩, ⟨_, rfl⟩, hW, hsame.mono hk hn'⟩
theorem OwP.retV (P : OwP p l e R s m args below meth c n0 T h k n) (hx : p.tables.exec = Jvm.exec) (hlk : meth.locks = false) {pc : Nat} {Ls : Array Slot} (hret : meth.sig.returnType = none)
    (hd : decode c.code pc = .ok (.return_, 1)) (hk : k ≤ KK) (hn' : n ≤ NN) (q : Q none h) : OwG p e below s n0 KK NN Q T (mkF m pc Ls []) := by
  obtain ⟨L, X, e0, N⟩ := P
  obtain ⟨fs, hr, hrun, hended, hW, hsame⟩ := X.leave (v := none) (fun _ => rfl)
  exact ⟨_, _, X.returnOut hx hret hd hr, hrun, hended, _, _, rfl, ⟨by rw [← e0] at q; exact q, N⟩, ⟨_, rfl⟩, hW, hsame.mono hk hn'⟩
theorem OwP.getF (P : OwP p l e R s m args below meth c n0 T h k n) (hx : p.tables.exec = Jvm.exec) (hZ : Z.Warmed39 s.vm) {own R0 O nm d host : String} {index : Nat} (hown : s.vm.findClass own = some m.cls) (w : (Jvm.Cond.fieldLink own index R0 nm d).before a0 Z = true ∨ (Jvm.Cond.fieldLinkNest own index R0 nm d host).before a0 Z = true) (via : Via Z R0 O nm d)
    {a : Addr} {v : Value} (F : Fld Z h a O nm d v) {g : JFrame} (hg : g.method = m) {rest : List Value} (hs : g.stack = .ref a :: rest) (hd : decode c.code g.pc = .ok (.getfield index, 3))
    (K : ∀ T', OwP p l e R s m args below meth c n0 T' h k n → OwG p e below s n0 KK NN Q T' { g with pc := g.pc + 3, stack := v :: rest }) : OwG p e below s n0 KK NN Q T g := by
  obtain ⟨L, X, eT, N⟩ := P
  obtain ⟨T', X', e', st⟩ := RoadKit.getF X hx hZ hown w via eT F hg hs hd
  exact (K T' ⟨L, X', e', N⟩).go st
theorem OwP.getS (P : OwP p l e R s m args below meth c n0 T h k n) (hx : p.tables.exec = Jvm.exec) (hZ : Z.Warmed39 s.vm) {own R0 O nm d host : String} {index : Nat} (hown : s.vm.findClass own = some m.cls) (w : (Jvm.Cond.fieldLink own index R0 nm d).before a0 Z = true ∨ (Jvm.Cond.fieldLinkNest own index R0 nm d host).before a0 Z = true) (via : Via Z R0 O nm d)
    {v : Value} (F : Sta Z h O nm d v) {g : JFrame} (hg : g.method = m) (hd : decode c.code g.pc = .ok (.getstatic index, 3))
    (K : ∀ T', OwP p l e R s m args below meth c n0 T' h k n → OwG p e below s n0 KK NN Q T' { g with pc := g.pc + 3, stack := v :: g.stack }) : OwG p e below s n0 KK NN Q T g := by
  obtain ⟨L, X, eT, N⟩ := P
  obtain ⟨T', X', e', st⟩ := RoadKit.getS2 X hx hZ hown w via eT F hg hd
  exact (K T' ⟨L, X', e', N⟩).go st
theorem OwP.putF (P : OwP p l e R s m args below meth c n0 T h k n) (hx : p.tables.exec = Jvm.exec) (hZ : Z.Warmed39 s.vm) {own R0 O nm d host C : String} {index kk : Nat} {ty : FieldType} (hown : s.vm.findClass own = some m.cls) (w : (Jvm.Cond.fieldLink own index R0 nm d).before a0 Z = true ∨ (Jvm.Cond.fieldLinkNest own index R0 nm d host).before a0 Z = true) (via : Via Z R0 O nm d)
    {a : Addr} {v old : Value} (F : Fld Z h a O nm d old) (E : Exa Z h a C) (L : (Jvm.Cond.lays C O nm d).before a0 Z = true ∨ ((Jvm.Cond.laysFinal C O nm d).before a0 Z = true ∧ own = O ∧ meth.name = "<init>")) (wi : (Jvm.Cond.instantiable C kk).before a0 Z = true)
    (hty : parseFieldDescriptor d = some ty) (hn : narrow ty v = v) (hf : fits ty v = true) {g : JFrame} (hg : g.method = m) {rest : List Value} (hs : g.stack = v :: .ref a :: rest) (hd : decode c.code g.pc = .ok (.putfield index, 3)) (ha : n0 ≤ a)
    (K : ∀ T' h', OwP p l e R s m args below meth c n0 T' h' k n → Wr h h' a (Jvm.RoadKit.slotOf Z O nm d) v → OwG p e below s n0 KK NN Q T' { g with pc := g.pc + 3, stack := rest }) : OwG p e below s n0 KK NN Q T g := by
  obtain ⟨L0, X, eT, N⟩ := P
  obtain ⟨T', h', X', e', W, st⟩ := RoadKit.putF X hx hZ hown w via eT F E L wi hty hn hf hg hs hd
  exact (K T' h' ⟨_, X', e', Fr.snoc X' N ha⟩ W).go st
theorem OwP.putFN (P : OwP p l e R s m args below meth c n0 T h k n) (hx : p.tables.exec = Jvm.exec) (hZ : Z.Warmed39 s.vm) {own R0 O nm d C : String} {index kk : Nat} {ty : FieldType} (hown : s.vm.findClass own = some m.cls) (w : (Jvm.Cond.fieldLink own index R0 nm d).before a0 Z = true) (via : Via Z R0 O nm d)
    {a : Addr} {v v' old : Value} (F : Fld Z h a O nm d old) (E : Exa Z h a C) (L : (Jvm.Cond.lays C O nm d).before a0 Z = true ∨ ((Jvm.Cond.laysFinal C O nm d).before a0 Z = true ∧ own = O ∧ meth.name = "<init>")) (wi : (Jvm.Cond.instantiable C kk).before a0 Z = true)
    (hty : parseFieldDescriptor d = some ty) (hn : narrow ty v = v') (hf : fits ty v' = true) {g : JFrame} (hg : g.method = m) {rest : List Value} (hs : g.stack = v :: .ref a :: rest) (hd : decode c.code g.pc = .ok (.putfield index, 3)) (ha : n0 ≤ a)
    (K : ∀ T' h', OwP p l e R s m args below meth c n0 T' h' k n → Wr h h' a (Jvm.RoadKit.slotOf Z O nm d) v' → OwG p e below s n0 KK NN Q T' { g with pc := g.pc + 3, stack := rest }) : OwG p e below s n0 KK NN Q T g := by
  obtain ⟨L0, X, eT, N⟩ := P
  obtain ⟨T', h', X', e', W, st⟩ := RoadKit.putFN X hx hZ hown w via eT F E L wi hty hn hf hg hs hd
  exact (K T' h' ⟨_, X', e', Fr.snoc X' N ha⟩ W).go st
theorem OwP.newO (P : OwP p l e R s m args below meth c n0 T h k n) (hx : p.tables.exec = Jvm.exec) (hZ : Z.Warmed39 s.vm) {own C : String} {index nn : Nat} (hown : s.vm.findClass own = some m.cls) (w : (Jvm.Cond.classLink own index C).before a0 Z = true) (wi : (Jvm.Cond.instantiable C nn).before a0 Z = true) (wz : (Jvm.Cond.initialized C).before a0 Z = true)
    {g : JFrame} (hg : g.method = m) (hd : decode c.code g.pc = .ok (.new index, 3)) (hc : k + 1 ≤ R.cells) (hl : n + nn ≤ R.slots)
    (K : ∀ T' h' b, b = h.size → OwP p l e R s m args below meth c n0 T' h' (k + 1) (n + nn) → Ext h h' → Exa Z h' b C → (∀ {O nm d : String} {ty : FieldType}, Laid Z a0 C O nm d → parseFieldDescriptor d = some ty → Fld Z h' b O nm d (defaultValue ty)) → OwG p e below s n0 KK NN Q T' { g with pc := g.pc + 3, stack := .ref b :: g.stack }) : OwG p e below s n0 KK NN Q T g := by
  obtain ⟨L, X, eT, N⟩ := P
  obtain ⟨T', h', X', e', E, A, D, -, st⟩ := RoadKit.newO X hx hZ hown w wi wz eT hg hd hc hl
  exact (K T' h' _ rfl ⟨L, X', e', N⟩ E A D).go st
theorem OwP.newP (P : OwP p l e R s m args below meth c n0 T h k n) (hx : p.tables.exec = Jvm.exec) (hZ : Z.Warmed39 s.vm) {aty : ArrayType} (w : (Jvm.Cond.arrayClass (newarray.typeOf aty)).before a0 Z = true) {g : JFrame} (hg : g.method = m) (hd : decode c.code g.pc = .ok (.newarray aty, 2)) {z : Int32} {rest : List Value} (hs : g.stack = .int z :: rest)
    (hn : ¬ z < 0) {cap : Nat} (hcap : z.toNatClampNeg ≤ cap) (hb : cap * 8 ≤ 536870912) (hc : k + 1 ≤ R.cells) (hl : n + cap ≤ R.slots)
    (K : ∀ T' h' b kA, b = h.size → OwP p l e R s m args below meth c n0 T' h' (k + 1) (n + cap) → Ext h h' → Arv Z h' b kA (newarray.typeOf aty) z [] (defaultValue (newarray.typeOf aty)) → OwG p e below s n0 KK NN Q T' { g with pc := g.pc + 2, stack := .ref b :: rest }) : OwG p e below s n0 KK NN Q T g := by
  obtain ⟨L, X, eT, N⟩ := P
  obtain ⟨T', h', kA, X', e', E, A, st⟩ := RoadKit.newP X hx hZ w eT hg hd hs hn hcap hb hc hl
  exact (K T' h' _ kA rfl ⟨L, X', e', N⟩ E (Arv.new A hn)).go st
theorem OwP.initO (P : OwP p l e R s m args below meth c n0 T h k n) (hx : p.tables.exec = Jvm.exec) (hZ : Z.Warmed39 s.vm) {own : String} {idx : Nat} (hown : s.vm.findClass own = some m.cls) (w1 : (Jvm.Cond.methodLink own idx Lib.objectInit).before a0 Z = true) (w2 : (Jvm.Cond.instanceMethod Lib.objectInit).before a0 Z = true)
    (w3 : (Jvm.Cond.code Lib.objectInit ⟨#[0xb1]⟩ 1 none).before a0 Z = true) {g : JFrame} (hg : g.method = m) (hsize : g.locals.size = c.maxLocals) {a : Addr} {rest : List Value} (hs : g.stack = .ref a :: rest) (hd : decode c.code g.pc = .ok (.invokespecial idx, 3))
    (hf : 1 ≤ R.frames) {W : Nat} (hW : 2 * g.monitorRoom + (rest.map fun v => v.category).sum ≤ W) (hl : W + 12 ≤ R.locals)
    (K : ∀ T', OwP p l e R s m args below meth c n0 T' h k n → OwG p e below s n0 KK NN Q T' { g with pc := g.pc + 3, stack := rest }) : OwG p e below s n0 KK NN Q T g := by
  obtain ⟨L, X, eT, N⟩ := P
  obtain ⟨T', X', e', st⟩ := RoadKit.initO X hx hZ hown w1 w2 w3 eT hg hsize hs hd hf hW hl
  exact (K T' ⟨L, X', e', N⟩).go st
theorem OwP.stC (P : OwP p l e R s m args below meth c n0 T h k n) (hx : p.tables.exec = Jvm.exec) (hZ : Z.Warmed39 s.vm) {a : Addr} {kA : ClassId} {z j x : Int32} {vs : List Value} {dv : Value} (A : Arv Z h a kA .char z vs dv) (hj0 : ¬ j < 0) (hj1 : j < z) {i : Nat} (hi : j.toNatClampNeg = i) (hi' : i < vs.length) {g : JFrame} (hg : g.method = m) {rest : List Value} (hs : g.stack = .int x :: .int j :: .ref a :: rest) (hd : decode c.code g.pc = .ok (.castore, 1)) (ha : n0 ≤ a)
    (K : ∀ T' h', OwP p l e R s m args below meth c n0 T' h' k n → Wr h h' a j.toNatClampNeg (.int (nar .char x)) → Arv Z h' a kA .char z (vs.set i (.int (nar .char x))) dv → OwG p e below s n0 KK NN Q T' { g with pc := g.pc + 1, stack := rest }) : OwG p e below s n0 KK NN Q T g := by
  obtain ⟨L, X, eT, N⟩ := P
  obtain ⟨cl, A1, q1, S1, M1, H1, U1⟩ := A
  obtain ⟨T', h', X', e', W, st⟩ := RoadKit.stC X hx hZ eT A1 (inb_of S1 ⟨hj0, hj1⟩) hg hs hd
  exact (K T' h' ⟨_, X', e', Fr.snoc X' N ha⟩ W (Arv.set A1 q1 S1 M1 H1 U1 (fits_nar_char _) W i hi hi')).go st
theorem OwP.special (P : OwP p l e R s m args below meth c n0 T h k n) (hx : p.tables.exec = Jvm.exec) (hZ : Z.Warmed39 s.vm) {own : String} {index : Nat} {y : MethodName} (hy1 : y.name = "<init>") (hown : s.vm.findClass own = some m.cls) (w1 : (Jvm.Cond.methodLink own index y).before a0 Z = true) (w2 : (Jvm.Cond.instanceMethod y).before a0 Z = true)
    {bytes : ByteArray} {maxL : Nat} (w3 : (Jvm.Cond.code y bytes maxL none).before a0 Z = true) (hy : y.cls ≠ "java/lang/invoke/MethodHandle" ∧ y.cls ≠ "java/lang/invoke/VarHandle")
    {W c1 s1 : Nat} {as' : Array Value} {Qc : Option Value → Heap → List Loc → Prop} (hK : Back l R p e below s args y 3 W (fun A a => a = as' ∧ A.U.heap = h ∧ A.cells + c1 ≤ R.cells ∧ A.slots + s1 ≤ R.slots) (fun A _ v B => ∃ L, Qc v B.U.heap L ∧ B.locs = A.locs ++ L ∧ B.cells = A.cells + c1 ∧ B.slots = A.slots + s1))
    (hQ : ∀ v h L, Qc v h L → Fr n0 L) {g : JFrame} (hg : g.method = m) (hsize : g.locals.size = c.maxLocals) {a : Addr} {argsL rest : List Value}
    (hlen : ∀ sig, parseMethodDescriptor y.desc = some sig → argsL.length = sig.parameters.length) (hstack : g.stack = argsL.reverse ++ .ref a :: rest) (hW : 2 * g.monitorRoom + (rest.map fun v => v.category).sum ≤ W)
    (hdg : decode c.code g.pc = .ok (.invokespecial index, 3)) (has : (Value.ref a :: argsL).toArray = as') (hc : k + c1 ≤ R.cells) (hl : n + s1 ≤ R.slots)
    (K : ∀ T' v L h', T'.heap = h' → OwP p l e R s m args below meth c n0 T' h' (k + c1) (n + s1) → Qc v h' L → OwG p e below s n0 KK NN Q T' { g with pc := g.pc + 3, stack := v.toList ++ rest }) : OwG p e below s n0 KK NN Q T g := by
  obtain ⟨L, X, eT, N⟩ := P
  obtain ⟨v, _, ⟨T', L', k', n'⟩, -, X', ⟨Lc, hQc, l', y', z'⟩, st⟩ := X.specialBack hx hy1 hown (mvT hZ w1) (mvT hZ w2) (mvT hZ w3) hy hK hg hsize (Steps.refl _) hlen hstack hW hdg (fun _ _ => ⟨has, eT, hc, hl⟩)
  dsimp only [Pt.U, Pt.locs, Pt.cells, Pt.slots] at X' l' y' z' st hQc
  subst l' y' z'
  exact (K T' v Lc _ rfl ⟨_, X', rfl, Fr.app N (hQ _ _ _ hQc)⟩ hQc).go fun t kt => st.trans kt
theorem OwP.virtual (P : OwP p l e R s m args below meth c n0 T h k n) (hx : p.tables.exec = Jvm.exec) (hZ : Z.Warmed39 s.vm) {own C : String} {index : Nat} {y : MethodName} (hown : s.vm.findClass own = some m.cls) (w1 : (Jvm.Cond.methodLink own index y).before a0 Z = true) (w2 : (Jvm.Cond.declares y).before a0 Z = true)
    (w3 : (Jvm.Cond.selects C y y).before a0 Z = true) (w4 : (Jvm.Cond.instanceMethod y).before a0 Z = true) (hy : y.cls ≠ "java/lang/invoke/MethodHandle" ∧ y.cls ≠ "java/lang/invoke/VarHandle")
    {W c1 s1 : Nat} {as' : Array Value} {Qc : Option Value → Heap → List Loc → Prop} (hK : Back l R p e below s args y 3 W (fun A a => a = as' ∧ A.U.heap = h ∧ A.cells + c1 ≤ R.cells ∧ A.slots + s1 ≤ R.slots) (fun A _ v B => ∃ L, Qc v B.U.heap L ∧ B.locs = A.locs ++ L ∧ B.cells = A.cells + c1 ∧ B.slots = A.slots + s1))
    (hQ : ∀ v h L, Qc v h L → Fr n0 L) {b : Addr} (E : Exa Z h b C) {g : JFrame} (hg : g.method = m) (hsize : g.locals.size = c.maxLocals) {argsL rest : List Value}
    (hlen : ∀ sig, parseMethodDescriptor y.desc = some sig → argsL.length = sig.parameters.length) (hstack : g.stack = argsL.reverse ++ .ref b :: rest) (hW : 2 * g.monitorRoom + (rest.map fun v => v.category).sum ≤ W)
    (hdg : decode c.code g.pc = .ok (.invokevirtual index, 3)) (has : (Value.ref b :: argsL).toArray = as') (hc : k + c1 ≤ R.cells) (hl : n + s1 ≤ R.slots)
    (K : ∀ T' v L h', T'.heap = h' → OwP p l e R s m args below meth c n0 T' h' (k + c1) (n + s1) → Qc v h' L → OwG p e below s n0 KK NN Q T' { g with pc := g.pc + 3, stack := v.toList ++ rest }) : OwG p e below s n0 KK NN Q T g := by
  obtain ⟨L, X, eT, N⟩ := P
  obtain ⟨cq, kq, qa, qb, qc⟩ := isOf hZ eT E
  obtain ⟨v, _, ⟨T', L', k', n'⟩, -, X', ⟨Lc, hQc, l', y', z'⟩, st⟩ := X.virtualBack hx hown (mvT hZ w1) (mvT hZ w2) (notFace_of_selects (args := #[]) (mvT hZ w3)) (mvT hZ w3) (mvT hZ w4) hy hK qa qc hg hsize (Steps.refl _) hlen hstack hW hdg (fun _ _ => ⟨has, eT, hc, hl⟩)
  dsimp only [Pt.U, Pt.locs, Pt.cells, Pt.slots] at X' l' y' z' st hQc
  subst l' y' z'
  exact (K T' v Lc _ rfl ⟨_, X', rfl, Fr.app N (hQ _ _ _ hQc)⟩ hQc).go fun t kt => st.trans kt
theorem OwP.stat (P : OwP p l e R s m args below meth c n0 T h k n) (hx : p.tables.exec = Jvm.exec) (hZ : Z.Warmed39 s.vm) {own : String} {index : Nat} {y : MethodName} {bytes : ByteArray} {maxL : Nat} {ret : Option FieldType} (hown : s.vm.findClass own = some m.cls) (w1 : (Jvm.Cond.methodLink own index y).before a0 Z = true) (w2 : (Jvm.Cond.static y).before a0 Z = true) (w3 : (Jvm.Cond.initialized y.cls).before a0 Z = true)
    (w4 : (Jvm.Cond.code y bytes maxL ret).before a0 Z = true) (hy : y.cls ≠ "java/lang/invoke/MethodHandle" ∧ y.cls ≠ "java/lang/invoke/VarHandle")
    {W c1 s1 : Nat} {as' : Array Value} {Qc : Option Value → Heap → List Loc → Prop} (hK : Back l R p e below s args y 3 W (fun A a => a = as' ∧ A.U.heap = h ∧ A.cells + c1 ≤ R.cells ∧ A.slots + s1 ≤ R.slots) (fun A _ v B => ∃ L, Qc v B.U.heap L ∧ B.locs = A.locs ++ L ∧ B.cells = A.cells + c1 ∧ B.slots = A.slots + s1))
    (hQ : ∀ v h L, Qc v h L → Fr n0 L) {g : JFrame} (hg : g.method = m) (hsize : g.locals.size = c.maxLocals) {argsL rest : List Value}
    (hlen : ∀ sig, parseMethodDescriptor y.desc = some sig → argsL.length = sig.parameters.length) (hstack : g.stack = argsL.reverse ++ rest) (hW : 2 * g.monitorRoom + (rest.map fun v => v.category).sum ≤ W)
    (hdg : decode c.code g.pc = .ok (.invokestatic index, 3)) (has : argsL.toArray = as') (hc : k + c1 ≤ R.cells) (hl : n + s1 ≤ R.slots)
    (K : ∀ T' v L h', T'.heap = h' → OwP p l e R s m args below meth c n0 T' h' (k + c1) (n + s1) → Qc v h' L → OwG p e below s n0 KK NN Q T' { g with pc := g.pc + 3, stack := v.toList ++ rest }) : OwG p e below s n0 KK NN Q T g := by
  obtain ⟨L, X, eT, N⟩ := P
  obtain ⟨v, _, ⟨T', L', k', n'⟩, -, X', ⟨Lc, hQc, l', y', z'⟩, st⟩ := Jvm.LawKit.callS X hx hown (mvT hZ w1) (mvT hZ w2) (mvT hZ w3) (mvT hZ w4) hy hK hg hsize hlen hstack hW hdg (fun _ _ => ⟨has, eT, hc, hl⟩)
  dsimp only [Pt.U, Pt.locs, Pt.cells, Pt.slots] at X' l' y' z' st hQc
  subst l' y' z'
  exact (K T' v Lc _ rfl ⟨_, X', rfl, Fr.app N (hQ _ _ _ hQc)⟩ hQc).go st
theorem own_a0 {α : Type} {P : α → Prop} : ∀ x ∈ ([] : List α), P x := fun _ q => nomatch q
theorem own_aS {α : Type} {P : α → Prop} {y : α} {L : List α} (q : P y) (r : ∀ x ∈ L, P x) : ∀ x ∈ y :: L, P x := fun x z => (List.mem_cons.mp z).elim (fun u => u ▸ q) (r x)
theorem own_le {a b : Nat} (h : Nat.ble a b = true) : a ≤ b := Nat.le_of_ble_eq_true h
theorem own_cI (z : Int32) : (Value.int z).category = 1 := rfl
theorem own_cL (z : Int64) : (Value.long z).category = 2 := rfl
theorem own_cR (z : Addr) : (Value.ref z).category = 1 := rfl
theorem own_cN : Value.null.category = 1 := rfl
theorem own_cat {v : Value} (h : v.isRef = true) : v.category = 1 := by cases v <;> first | rfl | (cases h; done)
theorem own_nar {t : FieldType} {v : Value} (h : v.isRef = true) (ht : t.isReference = true := by rfl) : narrow t v = v := by cases t <;> first | (cases ht; done) | (cases v <;> first | rfl | (cases h; done))
theorem own_fit {t : FieldType} {v : Value} (h : v.isRef = true) (ht : t.isReference = true := by rfl) : fits t v = true := by cases t <;> first | (cases ht; done) | (cases v <;> first | rfl | (cases h; done))
theorem own_and255 (x : Int32) : ¬ nar .char ((x &&& (255 : Int32)).toUInt32.toUInt16.toUInt32.toInt32) < 0 ∧ ¬ (255 : Int32) < nar .char ((x &&& (255 : Int32)).toUInt32.toUInt16.toUInt32.toInt32) := by
  have t : ∀ k : Fin 256, ¬ nar .char ((Int32.ofNat k.val).toUInt32.toUInt16.toUInt32.toInt32) < 0 ∧ ¬ (255 : Int32) < nar .char ((Int32.ofNat k.val).toUInt32.toUInt16.toUInt32.toInt32) := by decide +kernel
  have h : (x &&& 255).toBitVec.toNat < 256 := by
    simp only [Int32.toBitVec_and, BitVec.toNat_and]
    exact Nat.lt_succ_of_le Nat.and_le_right
  have e : (x &&& 255) = Int32.ofNat (x &&& 255).toBitVec.toNat := by
    apply Int32.toBitVec_inj.mp
    show _ = BitVec.ofNat 32 _
    rw [BitVec.ofNat_toNat]; simp
  rw [e]
  exact t ⟨_, h⟩
def OwQ (Qc : Option Value → Heap → Prop) (n0 : Nat) (v : Option Value) (h : Heap) (L : List Loc) : Prop := Qc v h ∧ Fr n0 L
/-- a contract made a payer -/
theorem OwM.back {y : MethodName} {bytes : ByteArray} {maxL : Nat} {ret : Option FieldType} {rm : Room} {W : Nat} {as' : Array Value} {Qc : Option Value → Heap → Prop} (hM : OwM l Z y bytes maxL ret rm n0 as' h Qc)
    (hZ : Z.Warmed39 s.vm) (wc : (Jvm.Cond.code y bytes maxL ret).before a0 Z = true) (wz : (Jvm.Cond.initialized y.cls).before a0 Z = true) (hf : rm.frames + 1 ≤ R.frames) (hl : W + (maxL + 11) + rm.locals ≤ R.locals) :
    Back l R p e below s args y 3 W (fun A a => a = as' ∧ A.U.heap = h ∧ A.cells + rm.cells ≤ R.cells ∧ A.slots + rm.slots ≤ R.slots)
      (fun A _ v B => ∃ L, OwQ Qc n0 v B.U.heap L ∧ B.locs = A.locs ++ L ∧ B.cells = A.cells + rm.cells ∧ B.slots = A.slots + rm.slots) :=
  backOf (Q := OwQ Qc n0) hM hZ wc wz hf hl
end Own
end Jvm.Pilot.@@N@@
namespace Jvm.Pilot.@@N@@
open Jvm Jvm.ClassFile Sem Op Lib Jvm.Free Jvm.Stand Jvm.LawKit Jvm.RoadKit Bundle Jvm.Pilot.@@N@@.Jvm.D
section Own3
variable {p : Program} {l : Launch} {e : Env} {R : Room} {s : State} {m : MethodId} {args : Array Value} {below : List Frame} {meth : Method} {c : Code} {T : State} {k n : Nat} {Z : State} {a0 : Array Value} {h : Heap} {n0 KK NN : Nat} {Q : Option Value → Heap → Prop}
theorem own_i2b2 (x : Int32) : x.toInt8.toInt32.toInt8.toInt32 = x.toInt8.toInt32 := by simp
theorem OwP.stB (P : OwP p l e R s m args below meth c n0 T h k n) (hx : p.tables.exec = Jvm.exec) (hZ : Z.Warmed39 s.vm) {a : Addr} {kA : ClassId} {z j x : Int32} {vs : List Value} {dv : Value} (A : Arv Z h a kA .byte z vs dv) (hj0 : ¬ j < 0) (hj1 : j < z) {i : Nat} (hi : j.toNatClampNeg = i) (hi' : i < vs.length) {g : JFrame} (hg : g.method = m) {rest : List Value} (hs : g.stack = .int x :: .int j :: .ref a :: rest) (hd : decode c.code g.pc = .ok (.bastore, 1)) (ha : n0 ≤ a)
    (K : ∀ T' h', OwP p l e R s m args below meth c n0 T' h' k n → Wr h h' a j.toNatClampNeg (.int x.toInt8.toInt32) → Arv Z h' a kA .byte z (vs.set i (.int x.toInt8.toInt32)) dv → OwG p e below s n0 KK NN Q T' { g with pc := g.pc + 1, stack := rest }) : OwG p e below s n0 KK NN Q T g := by
  obtain ⟨L, X, eT, N⟩ := P
  obtain ⟨cl, A1, q1, S1, M1, H1, U1⟩ := A
  obtain ⟨T', h', X', e', W, st⟩ := RoadKit.stB X hx hZ eT A1 (inb_of S1 ⟨hj0, hj1⟩) hg hs hd
  exact (K T' h' ⟨_, X', e', Fr.snoc X' N ha⟩ W (Arv.set A1 q1 S1 M1 H1 U1 (fits_nar_byte _) W i hi hi')).go st
end Own3
end Jvm.Pilot.@@N@@
namespace Jvm.Pilot.@@N@@
open Jvm Jvm.ClassFile Sem Op Lib Jvm.Free Jvm.Stand Jvm.LawKit Jvm.RoadKit Bundle Jvm.Pilot.@@N@@.Jvm.D
section Own4
variable {p : Program} {l : Launch} {e : Env} {R : Room} {s : State} {m : MethodId} {args : Array Value} {below : List Frame} {meth : Method} {c : Code} {T : State} {k n : Nat} {Z : State} {a0 : Array Value} {h : Heap} {n0 KK NN : Nat} {Q : Option Value → Heap → Prop}
/-- a method that isn't static and has this code: it is declared -/
theorem own_declares {y : MethodName} {bytes : ByteArray} {maxL : Nat} {ret : Option FieldType} (w1 : (Jvm.Cond.instanceMethod y).before a0 Z = true) (w2 : (Jvm.Cond.code y bytes maxL ret).before a0 Z = true) : (Jvm.Cond.declares y).before a0 Z = true := by
  obtain ⟨mk, me, hn, hm, hs, -⟩ := Cond.instanceMethod_spec w1
  obtain ⟨me', cc, hm', -, -, -, -, -, -, hsig⟩ := Cond.code_spec hn w2
  cases hm.symm.trans hm'
  simp [Cond.before, Cond.holds, Cond.value, hn, hm, hs, hsig]
/-- no interface: told of one method of the class, it holds of another -/
theorem own_nf {C : String} {y y' : MethodName} (w : (Jvm.Cond.selects C y' y').before a0 Z = true) (hc : y'.cls = y.cls) : NotFace Z y := fun r0 h0 => by
  obtain ⟨c2, r2, m2, q1, q2, q3, q4, kP, hkP, hkPi⟩ := Cond.selects_spec w
  have e1 := findClass_of_methodNamed h0
  have e2 := findClass_of_methodNamed q3
  rw [hc] at e2
  have e3 := Option.some.inj (e1.symm.trans e2)
  exact ⟨kP, by rw [e3]; exact hkP, hkPi⟩
/-- the class's own method is the one that the lookup finds -/
theorem own_same {C : String} {y y' : MethodName} (w1 : (Jvm.Cond.instanceMethod y).before a0 Z = true) (w : (Jvm.Cond.selects C y' y').before a0 Z = true) (hc : y'.cls = y.cls) (hy : y.cls ≠ "java/lang/invoke/MethodHandle" ∧ y.cls ≠ "java/lang/invoke/VarHandle") : (Jvm.Cond.sameMethod y.cls y.cls y.name y.desc).before a0 Z = true := by
  obtain ⟨mk, me, hn, hm, hs, -⟩ := Cond.instanceMethod_spec w1
  obtain ⟨kr, hkr, hni⟩ := own_nf w hc mk hn
  have e1 := findClass_of_methodNamed hn
  have e2 := State.methodFound?_of_named hn hy
  simp [Cond.before, Cond.holds, Cond.value, e1, e2, hn, hkr, hni]
theorem OwP.superc (P : OwP p l e R s m args below meth c n0 T h k n) (hx : p.tables.exec = Jvm.exec) (hZ : Z.Warmed39 s.vm) {own KK' : String} {index : Nat} {y : MethodName} (hown : s.vm.findClass own = some m.cls) (w1 : (Jvm.Cond.methodLink own index y).before a0 Z = true) (w2 : (Jvm.Cond.sameMethod y.cls y.cls y.name y.desc).before a0 Z = true)
    (w3 : (Jvm.Cond.instanceMethod y).before a0 Z = true) (w4 : (Jvm.Cond.superclass own y.cls).before a0 Z = true) (hn : y.name ≠ "<init>")
    {W c1 s1 : Nat} {as' : Array Value} {Qc : Option Value → Heap → List Loc → Prop} (hK : Back l R p e below s args y 3 W (fun A a => a = as' ∧ A.U.heap = h ∧ A.cells + c1 ≤ R.cells ∧ A.slots + s1 ≤ R.slots) (fun A _ v B => ∃ L, Qc v B.U.heap L ∧ B.locs = A.locs ++ L ∧ B.cells = A.cells + c1 ∧ B.slots = A.slots + s1))
    (hQ : ∀ v h L, Qc v h L → Fr n0 L) {a : Addr} (F : Exa Z h a KK') {g : JFrame} (hg : g.method = m) (hsize : g.locals.size = c.maxLocals) {bytes : ByteArray} {maxL : Nat} {ret : Option FieldType} (wc : (Jvm.Cond.code y bytes maxL ret).before a0 Z = true) {argsL rest : List Value}
    (hlen : ∀ sig, parseMethodDescriptor y.desc = some sig → argsL.length = sig.parameters.length) (hstack : g.stack = argsL.reverse ++ .ref a :: rest) (hW : 2 * g.monitorRoom + (rest.map fun v => v.category).sum ≤ W)
    (hdg : decode c.code g.pc = .ok (.invokespecial index, 3)) (has : (Value.ref a :: argsL).toArray = as') (hc : k + c1 ≤ R.cells) (hl : n + s1 ≤ R.slots)
    (K : ∀ T' v L h', T'.heap = h' → OwP p l e R s m args below meth c n0 T' h' (k + c1) (n + s1) → Qc v h' L → OwG p e below s n0 KK NN Q T' { g with pc := g.pc + 3, stack := v.toList ++ rest }) : OwG p e below s n0 KK NN Q T g := by
  obtain ⟨L, X, eT, N⟩ := P
  obtain ⟨v, _, ⟨T', L', k', n'⟩, -, X', ⟨Lc, hQc, l', y', z'⟩, st⟩ := superBack X hx hZ hown w1 w2 w3 w4 hn hK eT (Ins.self F) hg hsize wc hlen hstack hW hdg (fun _ _ => ⟨has, eT, hc, hl⟩)
  dsimp only [Pt.U, Pt.locs, Pt.cells, Pt.slots] at X' l' y' z' st hQc
  subst l' y' z'
  exact (K T' v Lc _ rfl ⟨_, X', rfl, Fr.app N (hQ _ _ _ hQc)⟩ hQc).go fun t kt => st.trans kt
/-- invokevirtual where what selects isn't what is named -/
theorem OwP.virtualN (P : OwP p l e R s m args below meth c n0 T h k n) (hx : p.tables.exec = Jvm.exec) (hZ : Z.Warmed39 s.vm) {own C : String} {index : Nat} {y z : MethodName} (hown : s.vm.findClass own = some m.cls) (w1 : (Jvm.Cond.methodLink own index y).before a0 Z = true) (w2 : (Jvm.Cond.declares y).before a0 Z = true) (nf : NotFace Z y)
    (w3 : (Jvm.Cond.selects C y z).before a0 Z = true) (w4 : (Jvm.Cond.instanceMethod z).before a0 Z = true) (hy : y.cls ≠ "java/lang/invoke/MethodHandle" ∧ y.cls ≠ "java/lang/invoke/VarHandle")
    {W c1 s1 : Nat} {as' : Array Value} {Qc : Option Value → Heap → List Loc → Prop} (hK : Back l R p e below s args z 3 W (fun A a => a = as' ∧ A.U.heap = h ∧ A.cells + c1 ≤ R.cells ∧ A.slots + s1 ≤ R.slots) (fun A _ v B => ∃ L, Qc v B.U.heap L ∧ B.locs = A.locs ++ L ∧ B.cells = A.cells + c1 ∧ B.slots = A.slots + s1))
    (hQ : ∀ v h L, Qc v h L → Fr n0 L) {b : Addr} (E : Exa Z h b C) {g : JFrame} (hg : g.method = m) (hsize : g.locals.size = c.maxLocals) {argsL rest : List Value}
    (hlen : ∀ sig, parseMethodDescriptor y.desc = some sig → argsL.length = sig.parameters.length) (hstack : g.stack = argsL.reverse ++ .ref b :: rest) (hW : 2 * g.monitorRoom + (rest.map fun v => v.category).sum ≤ W)
    (hdg : decode c.code g.pc = .ok (.invokevirtual index, 3)) (has : (Value.ref b :: argsL).toArray = as') (hc : k + c1 ≤ R.cells) (hl : n + s1 ≤ R.slots)
    (K : ∀ T' v L h', T'.heap = h' → OwP p l e R s m args below meth c n0 T' h' (k + c1) (n + s1) → Qc v h' L → OwG p e below s n0 KK NN Q T' { g with pc := g.pc + 3, stack := v.toList ++ rest }) : OwG p e below s n0 KK NN Q T g := by
  obtain ⟨L, X, eT, N⟩ := P
  obtain ⟨cq, kq, qa, qb, qc⟩ := isOf hZ eT E
  have nf' : NotFace s y := fun r0 h0 => by
    have h0' : Z.methodNamed? y = some r0 := by
      have q := State.methodNamed?_setVm (s := Z) hZ.alike (x := y)
      have e1 : (Z.setVm s.vm).methodNamed? y = s.methodNamed? y := rfl
      rw [← q, e1]; exact h0
    obtain ⟨kr, hkr, hni⟩ := nf r0 h0'
    obtain ⟨k', hk', ek⟩ := hZ.alike.2.2 _ _ hkr
    exact ⟨k', hk', by rw [ek]; exact hni⟩
  obtain ⟨v, _, ⟨T', L', k', n'⟩, -, X', ⟨Lc, hQc, l', y', z'⟩, st⟩ := X.virtualBack hx hown (mvT hZ w1) (mvT hZ w2) nf' (mvT hZ w3) (mvT hZ w4) hy hK qa qc hg hsize (Steps.refl _) hlen hstack hW hdg (fun _ _ => ⟨has, eT, hc, hl⟩)
  dsimp only [Pt.U, Pt.locs, Pt.cells, Pt.slots] at X' l' y' z' st hQc
  subst l' y' z'
  exact (K T' v Lc _ rfl ⟨_, X', rfl, Fr.app N (hQ _ _ _ hQc)⟩ hQc).go fun t kt => st.trans kt
theorem OwP.newPE (P : OwP p l e R s m args below meth c n0 T h k n) (hx : p.tables.exec = Jvm.exec) (hZ : Z.Warmed39 s.vm) {aty : ArrayType} (w : (Jvm.Cond.arrayClass (newarray.typeOf aty)).before a0 Z = true) {g : JFrame} (hg : g.method = m) (hd : decode c.code g.pc = .ok (.newarray aty, 2)) {z : Int32} {rest : List Value} (hs : g.stack = .int z :: rest)
    (hn : ¬ z < 0) {cap : Nat} (hcap : z.toNatClampNeg ≤ cap) (hb : cap * 8 ≤ 536870912) (hc : k + 1 ≤ R.cells) (hl : n + cap ≤ R.slots) {ad : String} (had : "[" ++ (newarray.typeOf aty).toString = ad)
    (K : ∀ T' h' b kA, b = h.size → OwP p l e R s m args below meth c n0 T' h' (k + 1) (n + cap) → Ext h h' → Arv Z h' b kA (newarray.typeOf aty) z [] (defaultValue (newarray.typeOf aty)) → Exa Z h' b ad → OwG p e below s n0 KK NN Q T' { g with pc := g.pc + 2, stack := .ref b :: rest }) : OwG p e below s n0 KK NN Q T g := by
  obtain ⟨L, X, eT, N⟩ := P
  obtain ⟨T', h', kA, X', e', E, A, EA, st⟩ := RoadKit.newPE X hx hZ w eT hg hd hs hn hcap hb hc hl had
  exact (K T' h' _ kA rfl ⟨L, X', e', N⟩ E (Arv.new A hn) EA).go st
theorem OwP.castY (P : OwP p l e R s m args below meth c n0 T h k n) (hx : p.tables.exec = Jvm.exec) (hZ : Z.Warmed39 s.vm) {own K' : String} {index : Nat} (hown : s.vm.findClass own = some m.cls) (w : (Jvm.Cond.classLink own index K').before a0 Z = true) {a : Addr} (F : Ins Z h a K' true)
    {g : JFrame} (hg : g.method = m) {rest : List Value} (hs : g.stack = .ref a :: rest) (hd : decode c.code g.pc = .ok (.checkcast index, 3))
    (K : ∀ T', OwP p l e R s m args below meth c n0 T' h k n → OwG p e below s n0 KK NN Q T' { g with pc := g.pc + 3 }) : OwG p e below s n0 KK NN Q T g := by
  obtain ⟨L, X, eT, N⟩ := P
  obtain ⟨T', X', e', st⟩ := RoadKit.castY X hx hZ hown w eT F hg hs hd
  exact (K T' ⟨L, X', e', N⟩).go st
theorem OwP.cloneV (P : OwP p l e R s m args below meth c n0 T h k n) (hx : p.tables.exec = Jvm.exec) (hZ : Z.Warmed39 s.vm) {own ad : String} {index : Nat} (hown : s.vm.findClass own = some m.cls)
    (w1 : (Jvm.Cond.methodLink own index ⟨ad, "clone", "()Ljava/lang/Object;"⟩).before a0 Z = true) (w2 : (Jvm.Cond.sameMethod ad "java/lang/Object" "clone" "()Ljava/lang/Object;").before a0 Z = true) (w3 : (Jvm.Cond.native ⟨"java/lang/Object", "clone", "()Ljava/lang/Object;"⟩).before a0 Z = true)
    (w4 : (Jvm.Cond.instanceMethod ⟨"java/lang/Object", "clone", "()Ljava/lang/Object;"⟩).before a0 Z = true) (w5 : (Jvm.Cond.selects ad ⟨ad, "clone", "()Ljava/lang/Object;"⟩ ⟨"java/lang/Object", "clone", "()Ljava/lang/Object;"⟩).before a0 Z = true) (w6 : (Jvm.Cond.castable ad "java/lang/Cloneable").before a0 Z = true)
    {a : Addr} {kA : ClassId} {ty : FieldType} {z : Int32} {vs : List Value} {dv : Value} (F : Arv Z h a kA ty z vs dv) (E : Exa Z h a ad) {g : JFrame} (hg : g.method = m) (hsize : g.locals.size = c.maxLocals) {rest : List Value} (hst : g.stack = .ref a :: rest) (hd : decode c.code g.pc = .ok (.invokevirtual index, 3))
    (hf : 1 ≤ R.frames) {W cap : Nat} (hW : 2 * g.monitorRoom + (rest.map fun v => v.category).sum ≤ W) (hl : W + 14 ≤ R.locals) (hcap : z.toNatClampNeg ≤ cap) (hc : k + 1 ≤ R.cells) (hsl : n + cap ≤ R.slots)
    (K : ∀ T' h' b, b = h.size → OwP p l e R s m args below meth c n0 T' h' (k + 1) (n + cap) → Ext h h' → Arv Z h' b kA ty z vs dv → Exa Z h' b ad → OwG p e below s n0 KK NN Q T' { g with pc := g.pc + 3, stack := .ref b :: rest }) : OwG p e below s n0 KK NN Q T g := by
  obtain ⟨L, X, eT, N⟩ := P
  obtain ⟨T', h', X', e', E1, A, E2, st⟩ := RoadKit.cloneH X hx hZ hown w1 w2 w3 w4 w5 w6 eT F.arh E hg hsize hst hd hf hW hl hcap hc hsl
  exact (K T' h' _ rfl ⟨L, X', e', N⟩ E1 A E2).go st
end Own4
end Jvm.Pilot.@@N@@
namespace Jvm.Pilot.@@N@@
open Jvm Jvm.ClassFile Sem Op Lib Jvm.Free Jvm.Stand Jvm.LawKit Jvm.RoadKit Bundle Jvm.Pilot.@@N@@.Jvm.D
section Own2
variable {p : Program} {l : Launch} {e : Env} {R : Room} {s : State} {m : MethodId} {args : Array Value} {below : List Frame} {meth : Method} {c : Code} {T : State} {k n : Nat} {Z : State} {a0 : Array Value} {h : Heap} {n0 KK NN : Nat} {Q : Option Value → Heap → Prop} {EL : List (String × Nat)} {sf : List Addr} {own : String}
/-- as OwG, of a walk that may load String constants cold -/
def OwH (p : Program) (e : Env) (below : List Frame) (s Z : State) (EL : List (String × Nat)) (n0 KK NN : Nat) (Q : Option Value → Heap → Prop) (T : State) (g : JFrame) : Prop :=
  ∃ s₂ o, Steps p.tables e below (T.setTop g) s₂ ∧ s₂.status = .running ∧ Ended s₂ below o ∧ ∃ v L, o = .returned v ∧ (Q v s₂.heap ∧ Fr n0 L) ∧ CHr Z EL s.vm s.heap s₂.vm s₂.heap ∧ ReturnedEndW s o s₂ L KK NN
/-- where such a walk stands: the tables at hand are hidden; sf: the places of its own that no constant books -/
def OwC (p : Program) (l : Launch) (e : Env) (R : Room) (s : State) (m : MethodId) (args : Array Value) (below : List Frame) (meth : Method) (c : Code) (Z : State) (own : String) (EL : List (String × Nat)) (sf : List Addr) (n0 : Nat) (T : State) (h : Heap) (k n : Nat) : Prop :=
  ∃ (vm0 : Vm) (k0 : Nat) (locs : List Loc), Stand p l e R (s.setVm vm0) m args below meth c T locs k n ∧ T.heap = h ∧ Fr n0 locs ∧ s.Since vm0 k0 ∧ k0 ≤ h.size ∧ Z.Warmed39 vm0 ∧ vm0.findClass own = some m.cls ∧ CHr Z EL s.vm s.heap vm0 h ∧ ∀ x ∈ sf, x < h.size ∧ Safe Z EL vm0 h x
/-- a contract of a callee that may load String constants cold -/
def OwS (l : Launch) (Z : State) (EL : List (String × Nat)) (sf : List Addr) (y : MethodName) (bytes : ByteArray) (maxL : Nat) (ret : Option FieldType) (rm : Room) (n0 : Nat) (as' : Array Value) (h0 : Heap) (Q : Option Value → Heap → Prop) : Prop :=
  MetFree l y (head1 [Jvm.Cond.code y bytes maxL ret] rm) (fun a U => a = as' ∧ Z.Warmed39 U.vm ∧ U.heap = h0 ∧ CHv Z EL U.vm h0 ∧ ∀ x ∈ sf, x < h0.size ∧ Safe Z EL U.vm h0 x) (fun _ _ _ _ _ => True)
    (fun _ U o U' => ∃ v L, o = .returned v ∧ (Q v U'.heap ∧ Fr n0 L) ∧ CHr Z EL U.vm U.heap U'.vm U'.heap ∧ ReturnedEndW U o U' L rm.cells rm.slots)
theorem OwH.go {T' : State} {g g' : JFrame} (st : ∀ t, Steps p.tables e below (T'.setTop g') t → Steps p.tables e below (T.setTop g) t) (G : OwH p e below s Z EL n0 KK NN Q T' g') : OwH p e below s Z EL n0 KK NN Q T g := by
  obtain ⟨s₂, o, h1, r⟩ := G
  exact ⟨s₂, o, st _ h1, r⟩
theorem OwH.cast {g g' : JFrame} (q : g = g') (G : OwH p e below s Z EL n0 KK NN Q T g') : OwH p e below s Z EL n0 KK NN Q T g := q ▸ G
theorem OwC.here (P : OwC p l e R s m args below meth c Z own EL sf n0 T h k n) : At T m c below := by obtain ⟨_, _, _, X, _⟩ := P; exact X.here
theorem OwC.wide (P : OwC p l e R s m args below meth c Z own EL sf n0 T h k n) {k' n' : Nat} {sf' : List Addr} (h1 : k ≤ k') (h2 : n ≤ n') (h3 : ∀ x ∈ sf', x ∈ sf) : OwC p l e R s m args below meth c Z own EL sf' n0 T h k' n' := by
  obtain ⟨vm0, k0, L, X, a1, a2, a3, a4, a5, a6, a7, a8⟩ := P
  exact ⟨vm0, k0, L, Jvm.Stand.wide X (fun x hx _ => hx) h1 h2, a1, a2, a3, a4, a5, a6, a7, fun x hx => a8 x (h3 x hx)⟩
theorem OwS.of {y : MethodName} {bytes : ByteArray} {maxL : Nat} {ret : Option FieldType} {ws : List Jvm.Cond} {rm : Room} {as' : Array Value} {h0 : Heap} (pn : plainFor y = true)
    (body : ∀ (p : Program) (e : Env) (s : State) (m : MethodId) (below : List Frame) (meth : Method) (c : Code) (T : State), p.tables.exec = Jvm.exec → c.code = bytes → c.maxLocals = maxL → meth.name = y.name → meth.sig.returnType = ret → meth.locks = false → OwC p l e rm s m as' below meth c Z y.cls EL sf n0 T h0 0 0 → OwH p e below s Z EL n0 KK NN Q T (entryFrame m as' maxL)) :
    MetFree l y (head1 (Jvm.Cond.code y bytes maxL ret :: ws) rm) (fun a U => a = as' ∧ Z.Warmed39 U.vm ∧ U.heap = h0 ∧ CHv Z EL U.vm h0 ∧ ∀ x ∈ sf, x < h0.size ∧ Safe Z EL U.vm h0 x) (fun _ _ _ _ _ => True)
      (fun _ U o U' => ∃ v L, o = .returned v ∧ (Q v U'.heap ∧ Fr n0 L) ∧ CHr Z EL U.vm U.heap U'.vm U'.heap ∧ ReturnedEndW U o U' L KK NN) := by
  refine MetFree.of_bodySF pn hisR ?_
  intro p e s m args below meth c s₁ Bd hml0 hP hK
  obtain ⟨rfl, hZ, hh, hC, hsf⟩ := hP
  have X0 := Stand.of_body Bd
  have hW : s.WarmedH s.vm := by have q := X0.warmed; rw [Bd.state] at q; exact q
  refine body p e s m below meth c s₁ Bd.exec Bd.bytes hml0 (name_of_methodNamed Bd.named Bd.method).1 Bd.returns Bd.notSynchronized ⟨s.vm, 0, [], X0, by rw [← hh, Bd.state]; rfl, Fr.nil n0, hW.since 0, Nat.zero_le _, hZ, findClass_of_methodNamed Bd.named, ?_, hsf⟩
  subst hh
  exact CHr.refl hC
theorem OwS.mk {y : MethodName} {bytes : ByteArray} {maxL : Nat} {ret : Option FieldType} {rm : Room} {as' : Array Value} {h0 : Heap} (pn : plainFor y = true)
    (body : ∀ (p : Program) (e : Env) (s : State) (m : MethodId) (below : List Frame) (meth : Method) (c : Code) (T : State), p.tables.exec = Jvm.exec → c.code = bytes → c.maxLocals = maxL → meth.name = y.name → meth.sig.returnType = ret → meth.locks = false → OwC p l e rm s m as' below meth c Z y.cls EL sf n0 T h0 0 0 → OwH p e below s Z EL n0 rm.cells rm.slots Q T (entryFrame m as' maxL)) :
    OwS l Z EL sf y bytes maxL ret rm n0 as' h0 Q := OwS.of (ws := []) (Q := Q) pn body
theorem OwC.leave (P : OwC p l e R s m args below meth c Z own EL sf n0 T h k n) (hEL : EW Z a0 EL) (hlk : meth.locks = false) {v : Option Value} (hv : meth.sig.returnType = none → v = none) (hk : k ≤ KK) (hn' : n ≤ NN) (q : Q v h) :
    ∃ fs, (∀ (f : JFrame) (acts : List Action), f.method = m → f.locked = none → f.entered = [] → (doReturn e (T.setTop f) acts v).1 = T.setFrames fs) ∧ ((∀ g, Steps p.tables e below (T.setTop g) (T.setFrames fs) → OwH p e below s Z EL n0 KK NN Q T g)) := by
  obtain ⟨vm0, k0, L, X, e0, N, hS, hk0, hZ, hown, hC, hsf⟩ := P
  have X2 := Jvm.Stand.wide X (fun x hx _ => hx) hk hn'
  obtain ⟨fs, hr, hrun, hended, hW⟩ := X2.leaveW hS (by rw [e0]; exact hk0) hv
  refine ⟨fs, hr, fun g st => ⟨_, _, st, hrun, hended, _, _, rfl, ⟨by rw [← e0] at q; exact q, N⟩, ?_, hW⟩⟩
  have A := CHv.at X hZ hEL hC.1
  have B := hC.trans A
  rw [← e0] at B
  exact B
theorem OwC.ret (P : OwC p l e R s m args below meth c Z own EL sf n0 T h k n) (hEL : EW Z a0 EL) (hx : p.tables.exec = Jvm.exec) (hlk : meth.locks = false) {pc : Nat} {Ls : Array Slot} {w : Value} {t : FieldType} {i : Instr} {rest : List Value} (hret : meth.sig.returnType = some t) (hn : narrow t w = w)
    (hi : (i = .ireturn ∧ (t = .int ∨ t = .boolean ∨ t = .byte ∨ t = .char ∨ t = .short) ∧ ∃ z, w = .int z) ∨ (i = .lreturn ∧ t = .long ∧ ∃ z, w = .long z) ∨ (i = .dreturn ∧ t = .double ∧ ∃ z, w = .double z) ∨ (i = .freturn ∧ t = .float ∧ ∃ z, w = .float z) ∨ (i = .areturn ∧ t.isReference = true ∧ w.isRef = true))
    (hd : decode c.code pc = .ok (i, 1)) (hk : k ≤ KK) (hn' : n ≤ NN) (q : Q (some w) h) : OwH p e below s Z EL n0 KK NN Q T (mkF m pc Ls (w :: rest)) := by
  obtain ⟨fs, hr, G⟩ := P.leave hEL hlk (v := some w) (fun h => by rw [hret] at h; cases h) hk hn' q
  obtain ⟨vm0, k0, L, X, _⟩ := P
  exact G _ (retOut X hx hret hn hi hd hr)
theorem OwC.retI (P : OwC p l e R s m args below meth c Z own EL sf n0 T h k n) (hEL : EW Z a0 EL) (hx : p.tables.exec = Jvm.exec) (hlk : meth.locks = false) {pc : Nat} {Ls : Array Slot} {z : Int32} {rest : List Value} (hret : meth.sig.returnType = some .int)
    (hd : decode c.code pc = .ok (.ireturn, 1)) (hk : k ≤ KK) (hn' : n ≤ NN) (q : Q (some (.int z)) h) : OwH p e below s Z EL n0 KK NN Q T (mkF m pc Ls (.int z :: rest)) :=
  P.ret hEL hx hlk hret rfl (Or.inl ⟨rfl, Or.inl rfl, z, rfl⟩) hd hk hn' q
theorem OwC.retR (P : OwC p l e R s m args below meth c Z own EL sf n0 T h k n) (hEL : EW Z a0 EL) (hx : p.tables.exec = Jvm.exec) (hlk : meth.locks = false) {pc : Nat} {Ls : Array Slot} {w : Value} {t : FieldType} {rest : List Value} (hret : meth.sig.returnType = some t) (ht : t.isReference = true) (hw : w.isRef = true)
    (hd : decode c.code pc = .ok (.areturn, 1)) (hk : k ≤ KK) (hn' : n ≤ NN) (q : Q (some w) h) : OwH p e below s Z EL n0 KK NN Q T (mkF m pc Ls (w :: rest)) :=
  P.ret hEL hx hlk hret (by cases t <;> first | (cases ht; done) | (cases w <;> rfl)) (Or.inr (Or.inr (Or.inr (Or.inr ⟨rfl, ht, hw⟩)))) hd hk hn' q
theorem OwC.retN (P : OwC p l e R s m args below meth c Z own EL sf n0 T h k n) (hEL : EW Z a0 EL) (hx : p.tables.exec = Jvm.exec) (hlk : meth.locks = false) {pc : Nat} {Ls : Array Slot} {z : Int32} {t : FieldType} {rest : List Value} (hret : meth.sig.returnType = some t) (ht : t = .boolean ∨ t = .byte ∨ t = .char ∨ t = .short)
    (hd : decode c.code pc = .ok (.ireturn, 1)) (hk : k ≤ KK) (hn' : n ≤ NN) (q : Q (some (.int (nar t z))) h) : OwH p e below s Z EL n0 KK NN Q T (mkF m pc Ls (.int z :: rest)) := by
  obtain ⟨fs, hr, G⟩ := P.leave hEL hlk (v := some (.int (nar t z))) (fun h => by rw [hret] at h; cases h) hk hn' q
  obtain ⟨vm0, k0, L, X, _⟩ := P
  exact G _ (RoadKit.retN X hx hret ht hd hr)
theorem OwC.retV (P : OwC p l e R s m args below meth c Z own EL sf n0 T h k n) (hEL : EW Z a0 EL) (hx : p.tables.exec = Jvm.exec) (hlk : meth.locks = false) {pc : Nat} {Ls : Array Slot} (hret : meth.sig.returnType = none)
    (hd : decode c.code pc = .ok (.return_, 1)) (hk : k ≤ KK) (hn' : n ≤ NN) (q : Q none h) : OwH p e below s Z EL n0 KK NN Q T (mkF m pc Ls []) := by
  obtain ⟨fs, hr, G⟩ := P.leave hEL hlk (v := none) (fun _ => rfl) hk hn' q
  obtain ⟨vm0, k0, L, X, _⟩ := P
  exact G _ (X.returnOut hx hret hd hr)
theorem OwC.getF (P : OwC p l e R s m args below meth c Z own EL sf n0 T h k n) (hx : p.tables.exec = Jvm.exec) {R0 O nm d host : String} {index : Nat} (w : (Jvm.Cond.fieldLink own index R0 nm d).before a0 Z = true ∨ (Jvm.Cond.fieldLinkNest own index R0 nm d host).before a0 Z = true) (via : Via Z R0 O nm d)
    {a : Addr} {v : Value} (F : Fld Z h a O nm d v) {g : JFrame} (hg : g.method = m) {rest : List Value} (hs : g.stack = .ref a :: rest) (hd : decode c.code g.pc = .ok (.getfield index, 3))
    (K : ∀ T', OwC p l e R s m args below meth c Z own EL sf n0 T' h k n → OwH p e below s Z EL n0 KK NN Q T' { g with pc := g.pc + 3, stack := v :: rest }) : OwH p e below s Z EL n0 KK NN Q T g := by
  obtain ⟨vm0, k0, L, X, eT, N, hS, hk0, hZ, hown, hC, hsf⟩ := P
  obtain ⟨T', X', e', st⟩ := RoadKit.getF X hx hZ hown w via eT F hg hs hd
  exact (K T' ⟨vm0, k0, L, X', e', N, hS, hk0, hZ, hown, hC, hsf⟩).go st
theorem OwC.getS (P : OwC p l e R s m args below meth c Z own EL sf n0 T h k n) (hx : p.tables.exec = Jvm.exec) {R0 O nm d host : String} {index : Nat} (w : (Jvm.Cond.fieldLink own index R0 nm d).before a0 Z = true ∨ (Jvm.Cond.fieldLinkNest own index R0 nm d host).before a0 Z = true) (via : Via Z R0 O nm d)
    {v : Value} (F : Sta Z h O nm d v) {g : JFrame} (hg : g.method = m) (hd : decode c.code g.pc = .ok (.getstatic index, 3))
    (K : ∀ T', OwC p l e R s m args below meth c Z own EL sf n0 T' h k n → OwH p e below s Z EL n0 KK NN Q T' { g with pc := g.pc + 3, stack := v :: g.stack }) : OwH p e below s Z EL n0 KK NN Q T g := by
  obtain ⟨vm0, k0, L, X, eT, N, hS, hk0, hZ, hown, hC, hsf⟩ := P
  obtain ⟨T', X', e', st⟩ := RoadKit.getS2 X hx hZ hown w via eT F hg hd
  exact (K T' ⟨vm0, k0, L, X', e', N, hS, hk0, hZ, hown, hC, hsf⟩).go st
theorem OwC.putF (P : OwC p l e R s m args below meth c Z own EL sf n0 T h k n) (hx : p.tables.exec = Jvm.exec) {R0 O nm d host C : String} {index kk : Nat} {ty : FieldType} (w : (Jvm.Cond.fieldLink own index R0 nm d).before a0 Z = true ∨ (Jvm.Cond.fieldLinkNest own index R0 nm d host).before a0 Z = true) (via : Via Z R0 O nm d)
    {a : Addr} {v old : Value} (F : Fld Z h a O nm d old) (E : Exa Z h a C) (L : (Jvm.Cond.lays C O nm d).before a0 Z = true ∨ ((Jvm.Cond.laysFinal C O nm d).before a0 Z = true ∧ own = O ∧ meth.name = "<init>")) (wi : (Jvm.Cond.instantiable C kk).before a0 Z = true)
    (hty : parseFieldDescriptor d = some ty) (hn : narrow ty v = v) (hf : fits ty v = true) {g : JFrame} (hg : g.method = m) {rest : List Value} (hs : g.stack = v :: .ref a :: rest) (hd : decode c.code g.pc = .ok (.putfield index, 3)) (ha : n0 ≤ a) (hsa : a ∈ sf ∨ (C ≠ "java/lang/String" ∧ C ≠ "[B"))
    (K : ∀ T' h', OwC p l e R s m args below meth c Z own EL sf n0 T' h' k n → Wr h h' a (Jvm.RoadKit.slotOf Z O nm d) v → OwH p e below s Z EL n0 KK NN Q T' { g with pc := g.pc + 3, stack := rest }) : OwH p e below s Z EL n0 KK NN Q T g := by
  obtain ⟨vm0, k0, L0, X, eT, N, hS, hk0, hZ, hown, hC, hsf⟩ := P
  obtain ⟨T', h', X', e', W, st⟩ := RoadKit.putF X hx hZ hown w via eT F E L wi hty hn hf hg hs hd
  have S : Safe Z EL vm0 h a := hsa.elim (fun q => (hsf a q).2) (fun q => Safe.exa hZ.alike E q.1 q.2)
  exact (K T' h' ⟨vm0, k0, _, X', e', Fr.snoc X' N ha, hS, Nat.le_trans hk0 (Keep.of_wr W).1, hZ, hown, hC.trans (CHr.wr W S hC.1), fun x hx => ⟨Nat.lt_of_lt_of_le (hsf x hx).1 (Keep.of_wr W).1, Safe.wr W S hC.1 (hsf x hx).2⟩⟩ W).go st
theorem OwC.putFN (P : OwC p l e R s m args below meth c Z own EL sf n0 T h k n) (hx : p.tables.exec = Jvm.exec) {R0 O nm d C : String} {index kk : Nat} {ty : FieldType} (w : (Jvm.Cond.fieldLink own index R0 nm d).before a0 Z = true) (via : Via Z R0 O nm d)
    {a : Addr} {v v' old : Value} (F : Fld Z h a O nm d old) (E : Exa Z h a C) (L : (Jvm.Cond.lays C O nm d).before a0 Z = true ∨ ((Jvm.Cond.laysFinal C O nm d).before a0 Z = true ∧ own = O ∧ meth.name = "<init>")) (wi : (Jvm.Cond.instantiable C kk).before a0 Z = true)
    (hty : parseFieldDescriptor d = some ty) (hn : narrow ty v = v') (hf : fits ty v' = true) {g : JFrame} (hg : g.method = m) {rest : List Value} (hs : g.stack = v :: .ref a :: rest) (hd : decode c.code g.pc = .ok (.putfield index, 3)) (ha : n0 ≤ a) (hsa : a ∈ sf ∨ (C ≠ "java/lang/String" ∧ C ≠ "[B"))
    (K : ∀ T' h', OwC p l e R s m args below meth c Z own EL sf n0 T' h' k n → Wr h h' a (Jvm.RoadKit.slotOf Z O nm d) v' → OwH p e below s Z EL n0 KK NN Q T' { g with pc := g.pc + 3, stack := rest }) : OwH p e below s Z EL n0 KK NN Q T g := by
  obtain ⟨vm0, k0, L0, X, eT, N, hS, hk0, hZ, hown, hC, hsf⟩ := P
  obtain ⟨T', h', X', e', W, st⟩ := RoadKit.putFN X hx hZ hown w via eT F E L wi hty hn hf hg hs hd
  have S : Safe Z EL vm0 h a := hsa.elim (fun q => (hsf a q).2) (fun q => Safe.exa hZ.alike E q.1 q.2)
  exact (K T' h' ⟨vm0, k0, _, X', e', Fr.snoc X' N ha, hS, Nat.le_trans hk0 (Keep.of_wr W).1, hZ, hown, hC.trans (CHr.wr W S hC.1), fun x hx => ⟨Nat.lt_of_lt_of_le (hsf x hx).1 (Keep.of_wr W).1, Safe.wr W S hC.1 (hsf x hx).2⟩⟩ W).go st
theorem OwC.newO (P : OwC p l e R s m args below meth c Z own EL sf n0 T h k n) (hx : p.tables.exec = Jvm.exec) {C : String} {index nn : Nat} (w : (Jvm.Cond.classLink own index C).before a0 Z = true) (wi : (Jvm.Cond.instantiable C nn).before a0 Z = true) (wz : (Jvm.Cond.initialized C).before a0 Z = true)
    {g : JFrame} (hg : g.method = m) (hd : decode c.code g.pc = .ok (.new index, 3)) (hc : k + 1 ≤ R.cells) (hl : n + nn ≤ R.slots)
    (K : ∀ T' h' b, b = h.size → OwC p l e R s m args below meth c Z own EL (b :: sf) n0 T' h' (k + 1) (n + nn) → Ext h h' → Exa Z h' b C → (∀ {O nm d : String} {ty : FieldType}, Laid Z a0 C O nm d → parseFieldDescriptor d = some ty → Fld Z h' b O nm d (defaultValue ty)) → OwH p e below s Z EL n0 KK NN Q T' { g with pc := g.pc + 3, stack := .ref b :: g.stack }) : OwH p e below s Z EL n0 KK NN Q T g := by
  obtain ⟨vm0, k0, L, X, eT, N, hS, hk0, hZ, hown, hC, hsf⟩ := P
  obtain ⟨T', h', X', e', E, A, D, -, st⟩ := RoadKit.newO X hx hZ hown w wi wz eT hg hd hc hl
  refine (K T' h' _ rfl ⟨vm0, k0, L, X', e', N, hS, Nat.le_trans hk0 E.1, hZ, hown, hC.trans (CHr.ext E hC.1), fun x hx => ?_⟩ E A D).go st
  rcases List.mem_cons.mp hx with rfl | hx
  · exact ⟨A.lt, Safe.ext E hC.1 (Safe.new (Nat.le_refl _))⟩
  · exact ⟨Nat.lt_of_lt_of_le (hsf x hx).1 E.1, Safe.ext E hC.1 (hsf x hx).2⟩
theorem OwC.newP (P : OwC p l e R s m args below meth c Z own EL sf n0 T h k n) (hx : p.tables.exec = Jvm.exec) {aty : ArrayType} (w : (Jvm.Cond.arrayClass (newarray.typeOf aty)).before a0 Z = true) {g : JFrame} (hg : g.method = m) (hd : decode c.code g.pc = .ok (.newarray aty, 2)) {z : Int32} {rest : List Value} (hs : g.stack = .int z :: rest)
    (hn : ¬ z < 0) {cap : Nat} (hcap : z.toNatClampNeg ≤ cap) (hb : cap * 8 ≤ 536870912) (hc : k + 1 ≤ R.cells) (hl : n + cap ≤ R.slots)
    (K : ∀ T' h' b kA, b = h.size → OwC p l e R s m args below meth c Z own EL (b :: sf) n0 T' h' (k + 1) (n + cap) → Ext h h' → Arv Z h' b kA (newarray.typeOf aty) z [] (defaultValue (newarray.typeOf aty)) → OwH p e below s Z EL n0 KK NN Q T' { g with pc := g.pc + 2, stack := .ref b :: rest }) : OwH p e below s Z EL n0 KK NN Q T g := by
  obtain ⟨vm0, k0, L, X, eT, N, hS, hk0, hZ, hown, hC, hsf⟩ := P
  obtain ⟨T', h', kA, X', e', E, A, st⟩ := RoadKit.newP X hx hZ w eT hg hd hs hn hcap hb hc hl
  refine (K T' h' _ kA rfl ⟨vm0, k0, L, X', e', N, hS, Nat.le_trans hk0 E.1, hZ, hown, hC.trans (CHr.ext E hC.1), fun x hx => ?_⟩ E (Arv.new A hn)).go st
  rcases List.mem_cons.mp hx with rfl | hx
  · exact ⟨A.lt, Safe.ext E hC.1 (Safe.new (Nat.le_refl _))⟩
  · exact ⟨Nat.lt_of_lt_of_le (hsf x hx).1 E.1, Safe.ext E hC.1 (hsf x hx).2⟩
theorem OwC.initO (P : OwC p l e R s m args below meth c Z own EL sf n0 T h k n) (hx : p.tables.exec = Jvm.exec) {idx : Nat} (w1 : (Jvm.Cond.methodLink own idx Lib.objectInit).before a0 Z = true) (w2 : (Jvm.Cond.instanceMethod Lib.objectInit).before a0 Z = true)
    (w3 : (Jvm.Cond.code Lib.objectInit ⟨#[0xb1]⟩ 1 none).before a0 Z = true) {g : JFrame} (hg : g.method = m) (hsize : g.locals.size = c.maxLocals) {a : Addr} {rest : List Value} (hs : g.stack = .ref a :: rest) (hd : decode c.code g.pc = .ok (.invokespecial idx, 3))
    (hf : 1 ≤ R.frames) {W : Nat} (hW : 2 * g.monitorRoom + (rest.map fun v => v.category).sum ≤ W) (hl : W + 12 ≤ R.locals)
    (K : ∀ T', OwC p l e R s m args below meth c Z own EL sf n0 T' h k n → OwH p e below s Z EL n0 KK NN Q T' { g with pc := g.pc + 3, stack := rest }) : OwH p e below s Z EL n0 KK NN Q T g := by
  obtain ⟨vm0, k0, L, X, eT, N, hS, hk0, hZ, hown, hC, hsf⟩ := P
  obtain ⟨T', X', e', st⟩ := RoadKit.initO X hx hZ hown w1 w2 w3 eT hg hsize hs hd hf hW hl
  exact (K T' ⟨vm0, k0, L, X', e', N, hS, hk0, hZ, hown, hC, hsf⟩).go st
theorem OwC.stC (P : OwC p l e R s m args below meth c Z own EL sf n0 T h k n) (hx : p.tables.exec = Jvm.exec) {a : Addr} {kA : ClassId} {z j x : Int32} {vs : List Value} {dv : Value} (A : Arv Z h a kA .char z vs dv) (hj0 : ¬ j < 0) (hj1 : j < z) {i : Nat} (hi : j.toNatClampNeg = i) (hi' : i < vs.length) {g : JFrame} (hg : g.method = m) {rest : List Value} (hs : g.stack = .int x :: .int j :: .ref a :: rest) (hd : decode c.code g.pc = .ok (.castore, 1)) (ha : n0 ≤ a)
    (K : ∀ T' h', OwC p l e R s m args below meth c Z own EL sf n0 T' h' k n → Wr h h' a j.toNatClampNeg (.int (nar .char x)) → Arv Z h' a kA .char z (vs.set i (.int (nar .char x))) dv → OwH p e below s Z EL n0 KK NN Q T' { g with pc := g.pc + 1, stack := rest }) : OwH p e below s Z EL n0 KK NN Q T g := by
  obtain ⟨vm0, k0, L, X, eT, N, hS, hk0, hZ, hown, hC, hsf⟩ := P
  obtain ⟨cl, A1, q1, S1, M1, H1, U1⟩ := A
  obtain ⟨T', h', X', e', W, st⟩ := RoadKit.stC X hx hZ eT A1 (inb_of S1 ⟨hj0, hj1⟩) hg hs hd
  have S : Safe Z EL vm0 h a := Safe.arr hZ.alike A1 (by decide)
  exact (K T' h' ⟨vm0, k0, _, X', e', Fr.snoc X' N ha, hS, Nat.le_trans hk0 (Keep.of_wr W).1, hZ, hown, hC.trans (CHr.wr W S hC.1), fun x hx => ⟨Nat.lt_of_lt_of_le (hsf x hx).1 (Keep.of_wr W).1, Safe.wr W S hC.1 (hsf x hx).2⟩⟩ W (Arv.set A1 q1 S1 M1 H1 U1 (fits_nar_char _) W i hi hi')).go st
/-- behind a call of a callee that loads no constant -/
theorem OwC.after {vm0 : Vm} {k0 : Nat} {L Lc : List Loc} {T' : State} {h' : Heap} {c1 s1 : Nat} {ws : List Addr} (X' : Stand p l e R (s.setVm vm0) m args below meth c T' (L ++ Lc) (k + c1) (n + s1)) (e' : T'.heap = h') (N : Fr n0 L) (N' : Fr n0 Lc) (hS : s.Since vm0 k0) (hk0 : k0 ≤ h.size) (hZ : Z.Warmed39 vm0) (hown : vm0.findClass own = some m.cls) (hC : CHr Z EL s.vm s.heap vm0 h) (hsf : ∀ x ∈ sf, x < h.size ∧ Safe Z EL vm0 h x)
    (Kp : Keep h h' ws) (hws : ∀ x ∈ ws, x ∈ sf ∨ ∃ C, Exa Z h x C ∧ C ≠ "java/lang/String" ∧ C ≠ "[B") : OwC p l e R s m args below meth c Z own EL sf n0 T' h' (k + c1) (n + s1) := by
  have hs : ∀ x ∈ ws, Safe Z EL vm0 h x := fun x hx => (hws x hx).elim (fun q => (hsf x q).2) (fun ⟨C, E, q1, q2⟩ => Safe.exa hZ.alike E q1 q2)
  exact ⟨vm0, k0, _, X', e', Fr.app N N', hS, Nat.le_trans hk0 Kp.1, hZ, hown, hC.trans (CHr.keep Kp hs hC.1), fun x hx => ⟨Nat.lt_of_lt_of_le (hsf x hx).1 Kp.1, Safe.keep Kp hs hC.1 (hsf x hx).2⟩⟩
/-- behind a call of a callee that may have loaded some -/
theorem OwC.afterS {vm0 : Vm} {k0 : Nat} {L Lc : List Loc} {T' : State} {h' : Heap} {c1 s1 : Nat} (X' : Stand p l e R (s.setVm T'.vm) m args below meth c T' (L ++ Lc) (k + c1) (n + s1)) (e' : T'.heap = h') (N : Fr n0 L) (N' : Fr n0 Lc) (hS : s.Since vm0 k0) (hk0 : k0 ≤ h.size) (hZ : Z.Warmed39 vm0) (hown : vm0.findClass own = some m.cls) (hC : CHr Z EL s.vm s.heap vm0 h) (hsf : ∀ x ∈ sf, x < h.size ∧ Safe Z EL vm0 h x)
    (h2 : (s.setVm vm0).Since T'.vm T'.heap.size) (hgr : h.size ≤ T'.heap.size) (hC2 : CHr Z EL vm0 h T'.vm h') : OwC p l e R s m args below meth c Z own EL sf n0 T' h' (k + c1) (n + s1) := by
  subst e'
  exact ⟨T'.vm, _, _, X', rfl, Fr.app N N', hS.trans h2 (Nat.le_trans hk0 hgr), Nat.le_refl _, State.Warmed39.trans (t := s.setVm vm0) hZ h2.1, (h2.1.alike.findClass _ _).trans hown, hC.trans hC2, fun x hx => ⟨Nat.lt_of_lt_of_le (hsf x hx).1 hgr, hC2.safe (hsf x hx).1 (hsf x hx).2⟩⟩
theorem OwC.special (P : OwC p l e R s m args below meth c Z own EL sf n0 T h k n) (hx : p.tables.exec = Jvm.exec) {index : Nat} {y : MethodName} (hy1 : y.name = "<init>") (w1 : (Jvm.Cond.methodLink own index y).before a0 Z = true) (w2 : (Jvm.Cond.instanceMethod y).before a0 Z = true)
    {bytes : ByteArray} {maxL : Nat} (w3 : (Jvm.Cond.code y bytes maxL none).before a0 Z = true) (hy : y.cls ≠ "java/lang/invoke/MethodHandle" ∧ y.cls ≠ "java/lang/invoke/VarHandle")
    {W c1 s1 : Nat} {as' : Array Value} {Qc : Option Value → Heap → List Loc → Prop} (hK : ∀ vm0, Z.Warmed39 vm0 → Back l R p e below (s.setVm vm0) args y 3 W (fun A a => a = as' ∧ A.U.heap = h ∧ A.cells + c1 ≤ R.cells ∧ A.slots + s1 ≤ R.slots) (fun A _ v B => ∃ L, Qc v B.U.heap L ∧ B.locs = A.locs ++ L ∧ B.cells = A.cells + c1 ∧ B.slots = A.slots + s1))
    (hQ : ∀ v h L, Qc v h L → Fr n0 L) {ws : List Addr} (hKp : ∀ v h' L, Qc v h' L → Keep h h' ws) (hws : ∀ x ∈ ws, x ∈ sf ∨ ∃ C, Exa Z h x C ∧ C ≠ "java/lang/String" ∧ C ≠ "[B") {g : JFrame} (hg : g.method = m) (hsize : g.locals.size = c.maxLocals) {a : Addr} {argsL rest : List Value}
    (hlen : ∀ sig, parseMethodDescriptor y.desc = some sig → argsL.length = sig.parameters.length) (hstack : g.stack = argsL.reverse ++ .ref a :: rest) (hW : 2 * g.monitorRoom + (rest.map fun v => v.category).sum ≤ W)
    (hdg : decode c.code g.pc = .ok (.invokespecial index, 3)) (has : (Value.ref a :: argsL).toArray = as') (hc : k + c1 ≤ R.cells) (hl : n + s1 ≤ R.slots)
    (K : ∀ T' v L h', T'.heap = h' → OwC p l e R s m args below meth c Z own EL sf n0 T' h' (k + c1) (n + s1) → Qc v h' L → OwH p e below s Z EL n0 KK NN Q T' { g with pc := g.pc + 3, stack := v.toList ++ rest }) : OwH p e below s Z EL n0 KK NN Q T g := by
  obtain ⟨vm0, k0, L, X, eT, N, hS, hk0, hZ, hown, hC, hsf⟩ := P
  obtain ⟨v, _, ⟨T', L', k', n'⟩, -, X', ⟨Lc, hQc, l', y', z'⟩, st⟩ := X.specialBack hx hy1 hown (mvT (s := s.setVm vm0) hZ w1) (mvT (s := s.setVm vm0) hZ w2) (mvT (s := s.setVm vm0) hZ w3) hy (hK vm0 hZ) hg hsize (Steps.refl _) hlen hstack hW hdg (fun _ _ => ⟨has, eT, hc, hl⟩)
  dsimp only [Pt.U, Pt.locs, Pt.cells, Pt.slots] at X' l' y' z' st hQc
  subst l' y' z'
  exact (K T' v Lc _ rfl (OwC.after X' rfl N (hQ _ _ _ hQc) hS hk0 hZ hown hC hsf (hKp _ _ _ hQc) hws) hQc).go fun t kt => st.trans kt
theorem OwC.virtual (P : OwC p l e R s m args below meth c Z own EL sf n0 T h k n) (hx : p.tables.exec = Jvm.exec) {C : String} {index : Nat} {y z : MethodName} (w1 : (Jvm.Cond.methodLink own index y).before a0 Z = true) (w2 : (Jvm.Cond.declares y).before a0 Z = true) (nf : ∀ vm0, Z.Warmed39 vm0 → NotFace (s.setVm vm0) y)
    (w3 : (Jvm.Cond.selects C y z).before a0 Z = true) (w4 : (Jvm.Cond.instanceMethod z).before a0 Z = true) (hy : y.cls ≠ "java/lang/invoke/MethodHandle" ∧ y.cls ≠ "java/lang/invoke/VarHandle")
    {W c1 s1 : Nat} {as' : Array Value} {Qc : Option Value → Heap → List Loc → Prop} (hK : ∀ vm0, Z.Warmed39 vm0 → Back l R p e below (s.setVm vm0) args z 3 W (fun A a => a = as' ∧ A.U.heap = h ∧ A.cells + c1 ≤ R.cells ∧ A.slots + s1 ≤ R.slots) (fun A _ v B => ∃ L, Qc v B.U.heap L ∧ B.locs = A.locs ++ L ∧ B.cells = A.cells + c1 ∧ B.slots = A.slots + s1))
    (hQ : ∀ v h L, Qc v h L → Fr n0 L) {ws : List Addr} (hKp : ∀ v h' L, Qc v h' L → Keep h h' ws) (hws : ∀ x ∈ ws, x ∈ sf ∨ ∃ C, Exa Z h x C ∧ C ≠ "java/lang/String" ∧ C ≠ "[B") {b : Addr} (E : Exa Z h b C) {g : JFrame} (hg : g.method = m) (hsize : g.locals.size = c.maxLocals) {argsL rest : List Value}
    (hlen : ∀ sig, parseMethodDescriptor y.desc = some sig → argsL.length = sig.parameters.length) (hstack : g.stack = argsL.reverse ++ .ref b :: rest) (hW : 2 * g.monitorRoom + (rest.map fun v => v.category).sum ≤ W)
    (hdg : decode c.code g.pc = .ok (.invokevirtual index, 3)) (has : (Value.ref b :: argsL).toArray = as') (hc : k + c1 ≤ R.cells) (hl : n + s1 ≤ R.slots)
    (K : ∀ T' v L h', T'.heap = h' → OwC p l e R s m args below meth c Z own EL sf n0 T' h' (k + c1) (n + s1) → Qc v h' L → OwH p e below s Z EL n0 KK NN Q T' { g with pc := g.pc + 3, stack := v.toList ++ rest }) : OwH p e below s Z EL n0 KK NN Q T g := by
  obtain ⟨vm0, k0, L, X, eT, N, hS, hk0, hZ, hown, hC, hsf⟩ := P
  obtain ⟨cq, kq, qa, qb, qc⟩ := isOf (s := s.setVm vm0) hZ eT E
  obtain ⟨v, _, ⟨T', L', k', n'⟩, -, X', ⟨Lc, hQc, l', y', z'⟩, st⟩ := X.virtualBack hx hown (mvT (s := s.setVm vm0) hZ w1) (mvT (s := s.setVm vm0) hZ w2) (nf vm0 hZ) (mvT (s := s.setVm vm0) hZ w3) (mvT (s := s.setVm vm0) hZ w4) hy (hK vm0 hZ) qa qc hg hsize (Steps.refl _) hlen hstack hW hdg (fun _ _ => ⟨has, eT, hc, hl⟩)
  dsimp only [Pt.U, Pt.locs, Pt.cells, Pt.slots] at X' l' y' z' st hQc
  subst l' y' z'
  exact (K T' v Lc _ rfl (OwC.after X' rfl N (hQ _ _ _ hQc) hS hk0 hZ hown hC hsf (hKp _ _ _ hQc) hws) hQc).go fun t kt => st.trans kt
theorem OwC.stat (P : OwC p l e R s m args below meth c Z own EL sf n0 T h k n) (hx : p.tables.exec = Jvm.exec) {index : Nat} {y : MethodName} {bytes : ByteArray} {maxL : Nat} {ret : Option FieldType} (w1 : (Jvm.Cond.methodLink own index y).before a0 Z = true) (w2 : (Jvm.Cond.static y).before a0 Z = true) (w3 : (Jvm.Cond.initialized y.cls).before a0 Z = true)
    (w4 : (Jvm.Cond.code y bytes maxL ret).before a0 Z = true) (hy : y.cls ≠ "java/lang/invoke/MethodHandle" ∧ y.cls ≠ "java/lang/invoke/VarHandle")
    {W c1 s1 : Nat} {as' : Array Value} {Qc : Option Value → Heap → List Loc → Prop} (hK : ∀ vm0, Z.Warmed39 vm0 → Back l R p e below (s.setVm vm0) args y 3 W (fun A a => a = as' ∧ A.U.heap = h ∧ A.cells + c1 ≤ R.cells ∧ A.slots + s1 ≤ R.slots) (fun A _ v B => ∃ L, Qc v B.U.heap L ∧ B.locs = A.locs ++ L ∧ B.cells = A.cells + c1 ∧ B.slots = A.slots + s1))
    (hQ : ∀ v h L, Qc v h L → Fr n0 L) {ws : List Addr} (hKp : ∀ v h' L, Qc v h' L → Keep h h' ws) (hws : ∀ x ∈ ws, x ∈ sf ∨ ∃ C, Exa Z h x C ∧ C ≠ "java/lang/String" ∧ C ≠ "[B") {g : JFrame} (hg : g.method = m) (hsize : g.locals.size = c.maxLocals) {argsL rest : List Value}
    (hlen : ∀ sig, parseMethodDescriptor y.desc = some sig → argsL.length = sig.parameters.length) (hstack : g.stack = argsL.reverse ++ rest) (hW : 2 * g.monitorRoom + (rest.map fun v => v.category).sum ≤ W)
    (hdg : decode c.code g.pc = .ok (.invokestatic index, 3)) (has : argsL.toArray = as') (hc : k + c1 ≤ R.cells) (hl : n + s1 ≤ R.slots)
    (K : ∀ T' v L h', T'.heap = h' → OwC p l e R s m args below meth c Z own EL sf n0 T' h' (k + c1) (n + s1) → Qc v h' L → OwH p e below s Z EL n0 KK NN Q T' { g with pc := g.pc + 3, stack := v.toList ++ rest }) : OwH p e below s Z EL n0 KK NN Q T g := by
  obtain ⟨vm0, k0, L, X, eT, N, hS, hk0, hZ, hown, hC, hsf⟩ := P
  obtain ⟨v, _, ⟨T', L', k', n'⟩, -, X', ⟨Lc, hQc, l', y', z'⟩, st⟩ := Jvm.LawKit.callS X hx hown (mvT (s := s.setVm vm0) hZ w1) (mvT (s := s.setVm vm0) hZ w2) (mvT (s := s.setVm vm0) hZ w3) (mvT (s := s.setVm vm0) hZ w4) hy (hK vm0 hZ) hg hsize hlen hstack hW hdg (fun _ _ => ⟨has, eT, hc, hl⟩)
  dsimp only [Pt.U, Pt.locs, Pt.cells, Pt.slots] at X' l' y' z' st hQc
  subst l' y' z'
  exact (K T' v Lc _ rfl (OwC.after X' rfl N (hQ _ _ _ hQc) hS hk0 hZ hown hC hsf (hKp _ _ _ hQc) hws) hQc).go st
/-- a cold contract made a payer -/
theorem OwS.back {y : MethodName} {bytes : ByteArray} {maxL : Nat} {ret : Option FieldType} {rm : Room} {W : Nat} {as' : Array Value} {Qc : Option Value → Heap → Prop} {vm0 : Vm} (hM : OwS l Z EL sf y bytes maxL ret rm n0 as' h Qc)
    (hZ : Z.Warmed39 vm0) (wc : (Jvm.Cond.code y bytes maxL ret).before a0 Z = true) (wz : (Jvm.Cond.initialized y.cls).before a0 Z = true) (hf : rm.frames + 1 ≤ R.frames) (hl : W + (maxL + 11) + rm.locals ≤ R.locals) (hEL : EW Z a0 EL) (H : CHv Z EL vm0 h) (hsf : ∀ x ∈ sf, x < h.size ∧ Safe Z EL vm0 h x) :
    BackS l R p e below (s.setVm vm0) args y 3 W (fun A a => a = as' ∧ A.U.heap = h ∧ A.cells + rm.cells ≤ R.cells ∧ A.slots + rm.slots ≤ R.slots)
      (fun A _ v B => ∃ L, OwQ Qc n0 v B.U.heap L ∧ B.locs = A.locs ++ L ∧ B.cells = A.cells + rm.cells ∧ B.slots = A.slots + rm.slots ∧ CHr Z EL vm0 h B.U.vm B.U.heap) :=
  BackS.of_freeW (bytes := bytes) (maxL := maxL) (ret := ret) (E := fun _ first o t L k n => k = rm.cells ∧ n = rm.slots ∧ (∃ v, o = .returned v ∧ Qc v t.heap ∧ Fr n0 L) ∧ CHr Z EL first.vm first.heap t.vm t.heap) hM hf hl
    (fun m meth c A a Y hp => have hU : Z.Warmed39 A.U.vm := wtrans (s := s.setVm vm0) hZ Y.warmed
      ⟨by show (Cond.and _ .tt).before a A.U = true; rw [Cond.before_and, mv hU wc]; rfl, mv hU wc, mv hU wz, hp.2.2.1, hp.2.2.2⟩)
    (fun m meth c A a g mk Y hp => ⟨hp.1, wtrans (s := s.setVm vm0) hZ Y.warmed, hp.2.1, (CHv.at Y hZ hEL H).1, fun x hx => ⟨(hsf x hx).1, (CHv.at Y hZ hEL H).safe (hsf x hx).1 (hsf x hx).2⟩⟩) (fun _ _ _ _ _ _ _ _ _ => trivial)
    (fun _ _ _ _ ⟨v, L, h1, h2, h3, h4⟩ => ⟨L, _, _, h4, rfl, rfl, ⟨v, h1, h2⟩, h3⟩)
    (fun m meth c A a g mk v t L k n Y hp _ _ ⟨e1, e2, ⟨v', e3, e4⟩, e5⟩ => by
      cases e3; subst e1 e2
      refine ⟨L, e4, rfl, rfl, rfl, (CHv.at Y hZ hEL H).trans ?_⟩
      rw [← hp.2.1]; exact e5)
theorem OwC.specialS (P : OwC p l e R s m args below meth c Z own EL sf n0 T h k n) (hx : p.tables.exec = Jvm.exec) {index : Nat} {y : MethodName} (hy1 : y.name = "<init>") (w1 : (Jvm.Cond.methodLink own index y).before a0 Z = true) (w2 : (Jvm.Cond.instanceMethod y).before a0 Z = true)
    {bytes : ByteArray} {maxL : Nat} (w3 : (Jvm.Cond.code y bytes maxL none).before a0 Z = true) (hy : y.cls ≠ "java/lang/invoke/MethodHandle" ∧ y.cls ≠ "java/lang/invoke/VarHandle")
    {W c1 s1 : Nat} {as' : Array Value} {Qc : Option Value → Heap → List Loc → Prop} {sf' : List Addr} (hK : ∀ vm0, Z.Warmed39 vm0 → CHv Z EL vm0 h → (∀ x ∈ sf', x < h.size ∧ Safe Z EL vm0 h x) → BackS l R p e below (s.setVm vm0) args y 3 W (fun A a => a = as' ∧ A.U.heap = h ∧ A.cells + c1 ≤ R.cells ∧ A.slots + s1 ≤ R.slots) (fun A _ v B => ∃ L, Qc v B.U.heap L ∧ B.locs = A.locs ++ L ∧ B.cells = A.cells + c1 ∧ B.slots = A.slots + s1 ∧ CHr Z EL vm0 h B.U.vm B.U.heap))
    (hQ : ∀ v h L, Qc v h L → Fr n0 L) (hsf' : ∀ x ∈ sf', x ∈ sf) {g : JFrame} (hg : g.method = m) (hsize : g.locals.size = c.maxLocals) {a : Addr} {argsL rest : List Value}
    (hlen : ∀ sig, parseMethodDescriptor y.desc = some sig → argsL.length = sig.parameters.length) (hstack : g.stack = argsL.reverse ++ .ref a :: rest) (hW : 2 * g.monitorRoom + (rest.map fun v => v.category).sum ≤ W)
    (hdg : decode c.code g.pc = .ok (.invokespecial index, 3)) (has : (Value.ref a :: argsL).toArray = as') (hc : k + c1 ≤ R.cells) (hl : n + s1 ≤ R.slots)
    (K : ∀ T' v L h', T'.heap = h' → OwC p l e R s m args below meth c Z own EL sf n0 T' h' (k + c1) (n + s1) → Qc v h' L → OwH p e below s Z EL n0 KK NN Q T' { g with pc := g.pc + 3, stack := v.toList ++ rest }) : OwH p e below s Z EL n0 KK NN Q T g := by
  obtain ⟨vm0, k0, L, X, eT, N, hS, hk0, hZ, hown, hC, hsf⟩ := P
  obtain ⟨v, _, ⟨T', L', k', n'⟩, -, X', h2, hgr, ⟨Lc, hQc, l', y', z', hC2⟩, st⟩ := X.specialBackS hx hy1 hown (mvT (s := s.setVm vm0) hZ w1) (mvT (s := s.setVm vm0) hZ w2) (mvT (s := s.setVm vm0) hZ w3) hy (hK vm0 hZ hC.1 fun x hx => hsf x (hsf' x hx)) hg hsize (Steps.refl _) hlen hstack hW hdg (fun _ _ => ⟨has, eT, hc, hl⟩)
  dsimp only [Pt.U, Pt.locs, Pt.cells, Pt.slots] at X' l' y' z' st hQc hC2 h2 hgr
  subst l' y' z'
  exact (K T' v Lc _ rfl (OwC.afterS X' rfl N (hQ _ _ _ hQc) hS hk0 hZ hown hC hsf h2 (by rw [← eT]; exact hgr) hC2) hQc).go fun t kt => st.trans kt
theorem OwC.virtualS (P : OwC p l e R s m args below meth c Z own EL sf n0 T h k n) (hx : p.tables.exec = Jvm.exec) {C : String} {index : Nat} {y z : MethodName} (w1 : (Jvm.Cond.methodLink own index y).before a0 Z = true) (w2 : (Jvm.Cond.declares y).before a0 Z = true) (nf : ∀ vm0, Z.Warmed39 vm0 → NotFace (s.setVm vm0) y)
    (w3 : (Jvm.Cond.selects C y z).before a0 Z = true) (w4 : (Jvm.Cond.instanceMethod z).before a0 Z = true) (hy : y.cls ≠ "java/lang/invoke/MethodHandle" ∧ y.cls ≠ "java/lang/invoke/VarHandle")
    {W c1 s1 : Nat} {as' : Array Value} {Qc : Option Value → Heap → List Loc → Prop} {sf' : List Addr} (hK : ∀ vm0, Z.Warmed39 vm0 → CHv Z EL vm0 h → (∀ x ∈ sf', x < h.size ∧ Safe Z EL vm0 h x) → BackS l R p e below (s.setVm vm0) args z 3 W (fun A a => a = as' ∧ A.U.heap = h ∧ A.cells + c1 ≤ R.cells ∧ A.slots + s1 ≤ R.slots) (fun A _ v B => ∃ L, Qc v B.U.heap L ∧ B.locs = A.locs ++ L ∧ B.cells = A.cells + c1 ∧ B.slots = A.slots + s1 ∧ CHr Z EL vm0 h B.U.vm B.U.heap))
    (hQ : ∀ v h L, Qc v h L → Fr n0 L) (hsf' : ∀ x ∈ sf', x ∈ sf) {b : Addr} (E : Exa Z h b C) {g : JFrame} (hg : g.method = m) (hsize : g.locals.size = c.maxLocals) {argsL rest : List Value}
    (hlen : ∀ sig, parseMethodDescriptor y.desc = some sig → argsL.length = sig.parameters.length) (hstack : g.stack = argsL.reverse ++ .ref b :: rest) (hW : 2 * g.monitorRoom + (rest.map fun v => v.category).sum ≤ W)
    (hdg : decode c.code g.pc = .ok (.invokevirtual index, 3)) (has : (Value.ref b :: argsL).toArray = as') (hc : k + c1 ≤ R.cells) (hl : n + s1 ≤ R.slots)
    (K : ∀ T' v L h', T'.heap = h' → OwC p l e R s m args below meth c Z own EL sf n0 T' h' (k + c1) (n + s1) → Qc v h' L → OwH p e below s Z EL n0 KK NN Q T' { g with pc := g.pc + 3, stack := v.toList ++ rest }) : OwH p e below s Z EL n0 KK NN Q T g := by
  obtain ⟨vm0, k0, L, X, eT, N, hS, hk0, hZ, hown, hC, hsf⟩ := P
  obtain ⟨cq, kq, qa, qb, qc⟩ := isOf (s := s.setVm vm0) hZ eT E
  obtain ⟨v, _, ⟨T', L', k', n'⟩, -, X', h2, hgr, ⟨Lc, hQc, l', y', z', hC2⟩, st⟩ := X.virtualBackS hx hown (mvT (s := s.setVm vm0) hZ w1) (mvT (s := s.setVm vm0) hZ w2) (nf vm0 hZ) (mvT (s := s.setVm vm0) hZ w3) (mvT (s := s.setVm vm0) hZ w4) hy (hK vm0 hZ hC.1 fun x hx => hsf x (hsf' x hx)) qa qc hg hsize (Steps.refl _) hlen hstack hW hdg (fun _ _ => ⟨has, eT, hc, hl⟩)
  dsimp only [Pt.U, Pt.locs, Pt.cells, Pt.slots] at X' l' y' z' st hQc hC2 h2 hgr
  subst l' y' z'
  exact (K T' v Lc _ rfl (OwC.afterS X' rfl N (hQ _ _ _ hQc) hS hk0 hZ hown hC hsf h2 (by rw [← eT]; exact hgr) hC2) hQc).go fun t kt => st.trans kt
theorem OwC.statS (P : OwC p l e R s m args below meth c Z own EL sf n0 T h k n) (hx : p.tables.exec = Jvm.exec) {index : Nat} {y : MethodName} {bytes : ByteArray} {maxL : Nat} {ret : Option FieldType} (w1 : (Jvm.Cond.methodLink own index y).before a0 Z = true) (w2 : (Jvm.Cond.static y).before a0 Z = true) (w3 : (Jvm.Cond.initialized y.cls).before a0 Z = true)
    (w4 : (Jvm.Cond.code y bytes maxL ret).before a0 Z = true) (hy : y.cls ≠ "java/lang/invoke/MethodHandle" ∧ y.cls ≠ "java/lang/invoke/VarHandle")
    {W c1 s1 : Nat} {as' : Array Value} {Qc : Option Value → Heap → List Loc → Prop} {sf' : List Addr} (hK : ∀ vm0, Z.Warmed39 vm0 → CHv Z EL vm0 h → (∀ x ∈ sf', x < h.size ∧ Safe Z EL vm0 h x) → BackS l R p e below (s.setVm vm0) args y 3 W (fun A a => a = as' ∧ A.U.heap = h ∧ A.cells + c1 ≤ R.cells ∧ A.slots + s1 ≤ R.slots) (fun A _ v B => ∃ L, Qc v B.U.heap L ∧ B.locs = A.locs ++ L ∧ B.cells = A.cells + c1 ∧ B.slots = A.slots + s1 ∧ CHr Z EL vm0 h B.U.vm B.U.heap))
    (hQ : ∀ v h L, Qc v h L → Fr n0 L) (hsf' : ∀ x ∈ sf', x ∈ sf) {g : JFrame} (hg : g.method = m) (hsize : g.locals.size = c.maxLocals) {argsL rest : List Value}
    (hlen : ∀ sig, parseMethodDescriptor y.desc = some sig → argsL.length = sig.parameters.length) (hstack : g.stack = argsL.reverse ++ rest) (hW : 2 * g.monitorRoom + (rest.map fun v => v.category).sum ≤ W)
    (hdg : decode c.code g.pc = .ok (.invokestatic index, 3)) (has : argsL.toArray = as') (hc : k + c1 ≤ R.cells) (hl : n + s1 ≤ R.slots)
    (K : ∀ T' v L h', T'.heap = h' → OwC p l e R s m args below meth c Z own EL sf n0 T' h' (k + c1) (n + s1) → Qc v h' L → OwH p e below s Z EL n0 KK NN Q T' { g with pc := g.pc + 3, stack := v.toList ++ rest }) : OwH p e below s Z EL n0 KK NN Q T g := by
  obtain ⟨vm0, k0, L, X, eT, N, hS, hk0, hZ, hown, hC, hsf⟩ := P
  obtain ⟨v, _, ⟨T', L', k', n'⟩, -, X', h2, hgr, ⟨Lc, hQc, l', y', z', hC2⟩, st⟩ := Jvm.RoadKit.callSS X hx hown (mvT (s := s.setVm vm0) hZ w1) (mvT (s := s.setVm vm0) hZ w2) (mvT (s := s.setVm vm0) hZ w3) (mvT (s := s.setVm vm0) hZ w4) hy (hK vm0 hZ hC.1 fun x hx => hsf x (hsf' x hx)) hg hsize hlen hstack hW hdg (fun _ _ => ⟨has, eT, hc, hl⟩)
  dsimp only [Pt.U, Pt.locs, Pt.cells, Pt.slots] at X' l' y' z' st hQc hC2 h2 hgr
  subst l' y' z'
  exact (K T' v Lc _ rfl (OwC.afterS X' rfl N (hQ _ _ _ hQc) hS hk0 hZ hown hC hsf h2 (by rw [← eT]; exact hgr) hC2) hQc).go fun t kt => st.trans kt
/-- ldc of a String constant, opaque -/
theorem OwC.ldcO (P : OwC p l e R s m args below meth c Z own EL sf n0 T h k n) (hx : p.tables.exec = Jvm.exec) (hEL : EW Z a0 EL) {text : String} {index : Nat} (w : (Jvm.Cond.stringLink own index text).before a0 Z = true) (wS : ∀ a ∈ Bundle.stringAtoms, a.before a0 Z = true)
    {g : JFrame} (hg : g.method = m) (hd : decode c.code g.pc = .ok (.ldc index, 2)) {nn : Nat} (hn : 4 * text.toList.length ≤ nn) (hbig : nn ≤ 536870912) (hc : k + 2 ≤ R.cells) (hl' : n + (nn + 4) ≤ R.slots)
    (K : ∀ T' h' a, OwC p l e R s m args below meth c Z own EL sf n0 T' h' (k + 2) (n + (nn + 4)) → Ext h h' → OwH p e below s Z EL n0 KK NN Q T' { g with pc := g.pc + 2, stack := .ref a :: g.stack }) : OwH p e below s Z EL n0 KK NN Q T g := by
  obtain ⟨vm0, k0, L, X, eT, N, hS, hk0, hZ, hown, hC, hsf⟩ := P
  obtain ⟨a, T', h', k1, X', e', E, hS', hk', hZ', hown', hC2, -, st⟩ := ldcOH X hx hZ hown w wS eT hS hk0 hEL hC.1 hg hd hn hbig hc hl'
  exact (K T' h' a ⟨T'.vm, k1, L, X', e', N, hS', hk', hZ', hown', hC.trans hC2, fun x hx => ⟨Nat.lt_of_lt_of_le (hsf x hx).1 E.1, hC2.safe (hsf x hx).1 (hsf x hx).2⟩⟩ E).go st
/-- ldc of a String constant, read -/
theorem OwC.ldcR (P : OwC p l e R s m args below meth c Z own EL sf n0 T h k n) (hx : p.tables.exec = Jvm.exec) (hEL : EW Z a0 EL) {text : String} {index : Nat} (hmem : (own, index) ∈ EL) (w : (Jvm.Cond.stringLink own index text).before a0 Z = true) (wS : ∀ a ∈ Bundle.stringAtoms, a.before a0 Z = true)
    {vs : List Value} {z : Int32} (ht : (∀ c ∈ text.toList, c.toNat < 256) ∧ text.toList.map (fun c => Value.int (Jvm.Lit.byteI c.toNat.toUInt16)) = vs) (hz : ¬ z < 0) (hlz : z.toNatClampNeg = vs.length)
    {g : JFrame} (hg : g.method = m) (hd : decode c.code g.pc = .ok (.ldc index, 2)) {nn : Nat} (hn : 4 * text.toList.length ≤ nn) (hbig : nn ≤ 536870912) (hc : k + 2 ≤ R.cells) (hl' : n + (nn + 4) ≤ R.slots)
    (K : ∀ T' h' a b kb, OwC p l e R s m args below meth c Z own EL sf n0 T' h' (k + 2) (n + (nn + 4)) → Ext h h' → Exa Z h' a "java/lang/String" → Fld Z h' a "java/lang/String" "coder" "B" (.int 0) → Fld Z h' a "java/lang/String" "value" "[B" (.ref b) → Arv Z h' b kb .byte z vs (.int 0) → (∀ x ∈ sf, x ≠ a ∧ x ≠ b) → OwH p e below s Z EL n0 KK NN Q T' { g with pc := g.pc + 2, stack := .ref a :: g.stack }) : OwH p e below s Z EL n0 KK NN Q T g := by
  obtain ⟨vm0, k0, L, X, eT, N, hS, hk0, hZ, hown, hC, hsf⟩ := P
  obtain ⟨a, T', h', k1, b, kb, X', e', E, hS', hk', hZ', hown', f1, f2, f3, f4, -, -, hC2, -, hne, st⟩ := ldcCH X hx hZ hown w wS eT hS hk0 hEL hmem hC.1 ht hz hlz hg hd hn hbig hc hl'
  exact (K T' h' a b kb ⟨T'.vm, k1, L, X', e', N, hS', hk', hZ', hown', hC.trans hC2, fun x hx => ⟨Nat.lt_of_lt_of_le (hsf x hx).1 E.1, hC2.safe (hsf x hx).1 (hsf x hx).2⟩⟩ E f1 f2 f3 f4 fun x hx => hne x (hC2.safe (hsf x hx).1 (hsf x hx).2)).go st
end Own2
end Jvm.Pilot.@@N@@
namespace Jvm.Pilot.@@N@@
open Jvm Jvm.ClassFile Sem Op Lib Jvm.Free Jvm.Stand Jvm.LawKit Jvm.RoadKit Bundle Jvm.Pilot.@@N@@.Jvm.D
def own_EL : List (String × Nat) := [("java/lang/String", 7)]
theorem own_EW {Z : State} {a0 : Array Value} (hw : ∀ d ∈ tables_1, d.before a0 Z = true) : EW Z a0 own_EL := (EW.cons (text := "") (hw _ (List.mem_of_getElem? (i := 18) rfl)) (by decide) EW.nil)
theorem own_wS {Z : State} {a0 : Array Value} (hw : ∀ d ∈ tables_1, d.before a0 Z = true) : ∀ a ∈ Bundle.stringAtoms, a.before a0 Z = true := fun a ha => hw a ((by decide +kernel : ∀ d ∈ Bundle.stringAtoms, d ∈ tables_1) a ha)
open StrChars in
theorem own_shl1 {i : Nat} (h : 2 * i < 2 ^ 31) : Int32.ofNat i <<< ((1 : Int32) &&& 31) = Int32.ofNat (2 * i) := by
  rw [shlm (m := 2) (by decide), Nat.mul_comm, Int32.ofNat_mul]; rfl
theorem own_irr (x : Int32) : ¬ x < x := Int32.lt_irrefl
theorem own_succ (i : Nat) : Int32.ofNat i + (1 : Int32) = Int32.ofNat (i + 1) := by rw [Int32.ofNat_add]; rfl
theorem own_ti {i : Nat} (h : i < 2 ^ 31) : (Int32.ofNat i).toInt = i := Int32.toInt_ofNat_of_lt h
theorem own_tc {i : Nat} (h : i < 2 ^ 31) : (Int32.ofNat i).toNatClampNeg = i := Int32.toNatClampNeg_ofNat_of_lt h
theorem own_nn {i : Nat} (h : i < 2 ^ 31) : ¬ Int32.ofNat i < 0 := by
  rw [Int32.lt_iff_toInt_lt, own_ti h, show (0 : Int32).toInt = 0 from rfl]; omega
theorem own_lt {i n : Nat} (h : i < n) (hn : n < 2 ^ 31) : Int32.ofNat i < Int32.ofNat n := by
  rw [Int32.lt_iff_toInt_lt, own_ti (by omega), own_ti hn]; omega
theorem own_nlt {i n : Nat} (h : n ≤ i) (hn : i < 2 ^ 31) : ¬ Int32.ofNat i < Int32.ofNat n := by
  rw [Int32.lt_iff_toInt_lt, own_ti (by omega), own_ti (by omega)]; omega
theorem own_ne32 {i n : Nat} (h : i ≠ n) (hi : i < 2 ^ 31) (hn : n < 2 ^ 31) : ¬ Int32.ofNat i = Int32.ofNat n := fun q => h (by
  have r := congrArg Int32.toInt q
  rw [own_ti hi, own_ti hn] at r; omega)
theorem own_narc {c : Int32} (h0 : ¬ c < 0) (h1 : ¬ (65535 : Int32) < c) : nar .char c = c := by
  apply Int32.toInt_inj.mp
  have q := c_i2c c
  rw [Int32.lt_iff_toInt_lt] at h0 h1
  have e0 : (0 : Int32).toInt = 0 := rfl
  have e1 : (65535 : Int32).toInt = 65535 := rfl
  show (c.toUInt32.toUInt16.toUInt32.toInt32).toInt = _
  omega
theorem own_char (c : Int32) : ¬ nar .char c < 0 ∧ ¬ (65535 : Int32) < nar .char c := by
  have q := c_i2c c
  rw [Int32.lt_iff_toInt_lt, Int32.lt_iff_toInt_lt]
  have e0 : (0 : Int32).toInt = 0 := rfl
  have e1 : (65535 : Int32).toInt = 65535 := rfl
  show ¬ (c.toUInt32.toUInt16.toUInt32.toInt32).toInt < _ ∧ ¬ _ < (c.toUInt32.toUInt16.toUInt32.toInt32).toInt
  omega
theorem own_chat {cs : List Int32} {d : Value} {i : Nat} (h : i < cs.length) (hb : i < 2 ^ 31) : (cs.map Value.int).getD (Int32.ofNat i).toNatClampNeg d = .int (cs.getD i 0) := by
  rw [own_tc hb]; simp [List.getD_eq_getElem?_getD, h]
/-- the first i chars as wide bytes, zeros behind -/
def own_wb (cs : List Int32) (n i : Nat) : List Value := StrChars.Road.wideBytes (cs.take i) ++ List.replicate (2 * (n - i)) (.int (0 : Int32))
theorem own_wlen (cs : List Int32) : (StrChars.Road.wideBytes cs).length = 2 * cs.length := by
  induction cs with
  | nil => rfl
  | cons c cs ih => simp [StrChars.Road.wideBytes, ih]; omega
theorem own_wapp (cs ds : List Int32) : StrChars.Road.wideBytes (cs ++ ds) = StrChars.Road.wideBytes cs ++ StrChars.Road.wideBytes ds := by
  induction cs with
  | nil => rfl
  | cons c cs ih => simp [StrChars.Road.wideBytes, ih]
theorem own_wb_len {cs : List Int32} {n i : Nat} (hn : cs.length = n) (hi : i ≤ n) : (own_wb cs n i).length = 2 * n := by
  simp [own_wb, own_wlen, hn]; omega
theorem own_wb_end {cs : List Int32} {n : Nat} (hn : cs.length = n) : own_wb cs n n = StrChars.Road.wideBytes cs := by simp [own_wb, ← hn]
theorem own_take {cs : List Int32} {i : Nat} (h : i < cs.length) : cs.take (i + 1) = cs.take i ++ [cs.getD i 0] := by
  rw [List.take_add_one]; simp [List.getD_eq_getElem?_getD, h]
theorem own_wb_step {cs : List Int32} {n i : Nat} (hn : cs.length = n) (hi : i < n) : ((own_wb cs n i).set (2 * i) (.int (StrChars.lo8 (cs.getD i 0)))).set (2 * i + 1) (.int (StrChars.hi8 (cs.getD i 0))) = own_wb cs n (i + 1) := by
  have e1 : (StrChars.Road.wideBytes (cs.take i)).length = 2 * i := by rw [own_wlen]; simp; omega
  obtain ⟨r, hr⟩ : ∃ r, n - i = r + 1 := ⟨n - i - 1, by omega⟩
  have hr' : n - (i + 1) = r := by omega
  unfold own_wb
  rw [own_take (by omega), own_wapp, hr, hr', show 2 * (r + 1) = 2 * r + 1 + 1 from by omega, List.replicate_succ, List.replicate_succ]
  rw [List.set_append_right _ _ (by omega), e1, Nat.sub_self, List.set_cons_zero, List.set_append_right _ _ (by omega), e1, show 2 * i + 1 - 2 * i = 1 from by omega]
  simp [StrChars.Road.wideBytes]
/-- the first i chars as low bytes, zeros behind -/
def own_lb (cs : List Int32) (n i : Nat) : List Value := ((cs.take i).map fun c => Value.int (StrChars.lo8 c)) ++ List.replicate (n - i) (.int (0 : Int32))
theorem own_lb_len {cs : List Int32} {n i : Nat} (hn : cs.length = n) (hi : i ≤ n) : (own_lb cs n i).length = n := by
  simp [own_lb, hn]; omega
theorem own_lb_end {cs : List Int32} {n : Nat} (hn : cs.length = n) : own_lb cs n n = cs.map fun c => Value.int (StrChars.lo8 c) := by simp [own_lb, ← hn]
theorem own_lb_step {cs : List Int32} {n i : Nat} (hn : cs.length = n) (hi : i < n) : (own_lb cs n i).set i (.int (StrChars.lo8 (cs.getD i 0))) = own_lb cs n (i + 1) := by
  have e1 : ((cs.take i).map fun c => Value.int (StrChars.lo8 c)).length = i := by simp; omega
  obtain ⟨r, hr⟩ : ∃ r, n - i = r + 1 := ⟨n - i - 1, by omega⟩
  have hr' : n - (i + 1) = r := by omega
  unfold own_lb
  rw [own_take (by omega), hr, hr', List.replicate_succ, List.set_append_right _ _ (by omega), e1, Nat.sub_self, List.set_cons_zero]
  simp
theorem own_all {cs : List Int32} {n : Nat} (hn : cs.length = n) (h : ∀ j, j < n → ¬ (255 : Int32) < cs.getD j 0) : ∀ c ∈ cs, ¬ (255 : Int32) < c := fun c hc => by
  obtain ⟨j, hj, rfl⟩ := List.mem_iff_getElem.mp hc
  have q := h j (by omega)
  simpa [List.getD_eq_getElem?_getD, hj] using q
theorem own_gm {cs : List Int32} {i : Nat} (h : i < cs.length) : cs.getD i 0 ∈ cs := by simp [List.getD_eq_getElem?_getD, h]
theorem own_wide {cs : List Int32} {i n : Nat} (hn : cs.length = n) (hi : i < n) (h : (255 : Int32) < cs.getD i 0) : StrChars.Road.CodA cs 1 (Int32.ofNat (2 * n)) (StrChars.Road.wideBytes cs) :=
  Or.inr ⟨rfl, by rw [hn], rfl, cs.getD i 0, own_gm (by omega), h⟩
theorem own_cod0 (x : Int32) : ((x - x).toUInt32 >>> ((31 : Int32) &&& 31).toUInt32).toInt32.toInt8.toInt32 = 0 := by rw [Int32.sub_self]; decide
theorem own_cod1 {n : Nat} (h0 : 0 < n) (h1 : n ≤ 4000) : ((Int32.ofNat n - Int32.ofNat (2 * n)).toUInt32 >>> ((31 : Int32) &&& 31).toUInt32).toInt32.toInt8.toInt32 = 1 := by
  have e : ((Int32.ofNat n - Int32.ofNat (2 * n)).toUInt32 >>> ((31 : Int32) &&& 31).toUInt32).toInt32 = 1 := by
    apply Int32.toInt_inj.mp
    rw [c_iushr _ 31 31 (by decide) (by decide)]
    have q := c_isub (Int32.ofNat n) (Int32.ofNat (2 * n))
    rw [own_ti (by omega), own_ti (by omega)] at q
    have r := rng32 (Int32.ofNat n - Int32.ofNat (2 * n))
    show _ = 1
    omega
  rw [e]; decide
theorem own_codN {cs : List Int32} {n : Nat} {cd N2 : Int32} {vs : List Value} (hn : cs.length = n) (h0 : 0 < n) (h1 : n ≤ 4000) (hc : StrChars.Road.CodA cs cd N2 vs) : ((Int32.ofNat n - N2).toUInt32 >>> ((31 : Int32) &&& 31).toUInt32).toInt32.toInt8.toInt32 = cd := by
  rcases hc with ⟨rfl, rfl, -⟩ | ⟨rfl, rfl, -⟩
  · rw [hn]; exact own_cod0 _
  · rw [hn]; exact own_cod1 h0 h1
theorem own_cd {cs : List Int32} {cd N2 : Int32} {vs : List Value} (hc : StrChars.Road.CodA cs cd N2 vs) : cd = 0 ∨ cd = 1 := hc.imp (fun q => q.1) fun q => q.1
theorem own_whi {cs : List Int32} {d : Value} {i : Nat} (h : i < cs.length) (hb : 2 * i + 1 < 2 ^ 31) : (StrChars.Road.wideBytes cs).getD (Int32.ofNat (2 * i + 1)).toNatClampNeg d = .int (StrChars.hi8 (cs.getD i 0)) := by rw [own_tc hb]; exact StrChars.Road.wide_hi _ _ _ h
theorem own_wlo {cs : List Int32} {d : Value} {i : Nat} (h : i < cs.length) (hb : 2 * i < 2 ^ 31) : (StrChars.Road.wideBytes cs).getD (Int32.ofNat (2 * i)).toNatClampNeg d = .int (StrChars.lo8 (cs.getD i 0)) := by rw [own_tc hb]; exact StrChars.Road.wide_lo _ _ _ h
theorem own_bd {cs : List Int32} {i : Nat} (h : i < cs.length) (hp : ∀ c ∈ cs, ¬ c < 0 ∧ ¬ (65535 : Int32) < c) : ¬ cs.getD i 0 < 0 ∧ ¬ (65535 : Int32) < cs.getD i 0 := hp _ (by simp [List.getD_eq_getElem?_getD, h])
theorem d21_0 : decode jdk_52_method_4_code 0 = .ok (.getstatic 44, 3) := by decide +kernel
theorem d21_3 : decode jdk_52_method_4_code 3 = .ok (.ifCond .ne 25, 3) := by decide +kernel
theorem d21_28 : decode jdk_52_method_4_code 28 = .ok (.iload_n 1, 1) := by decide +kernel
theorem d21_29 : decode jdk_52_method_4_code 29 = .ok (.iconst 1, 1) := by decide +kernel
theorem d21_30 : decode jdk_52_method_4_code 30 = .ok (.ishl, 1) := by decide +kernel
theorem d21_31 : decode jdk_52_method_4_code 31 = .ok (.istore_n 1, 1) := by decide +kernel
theorem d21_32 : decode jdk_52_method_4_code 32 = .ok (.aload_n 0, 1) := by decide +kernel
theorem d21_33 : decode jdk_52_method_4_code 33 = .ok (.iload_n 1, 1) := by decide +kernel
theorem d21_34 : decode jdk_52_method_4_code 34 = .ok (.iinc 1 1, 3) := by decide +kernel
theorem d21_37 : decode jdk_52_method_4_code 37 = .ok (.iload_n 2, 1) := by decide +kernel
theorem d21_38 : decode jdk_52_method_4_code 38 = .ok (.getstatic 59, 3) := by decide +kernel
theorem d21_41 : decode jdk_52_method_4_code 41 = .ok (.ishr, 1) := by decide +kernel
theorem d21_42 : decode jdk_52_method_4_code 42 = .ok (.i2b, 1) := by decide +kernel
theorem d21_43 : decode jdk_52_method_4_code 43 = .ok (.bastore, 1) := by decide +kernel
theorem d21_44 : decode jdk_52_method_4_code 44 = .ok (.aload_n 0, 1) := by decide +kernel
theorem d21_45 : decode jdk_52_method_4_code 45 = .ok (.iload_n 1, 1) := by decide +kernel
theorem d21_46 : decode jdk_52_method_4_code 46 = .ok (.iload_n 2, 1) := by decide +kernel
theorem d21_47 : decode jdk_52_method_4_code 47 = .ok (.getstatic 63, 3) := by decide +kernel
theorem d21_50 : decode jdk_52_method_4_code 50 = .ok (.ishr, 1) := by decide +kernel
theorem d21_51 : decode jdk_52_method_4_code 51 = .ok (.i2b, 1) := by decide +kernel
theorem d21_52 : decode jdk_52_method_4_code 52 = .ok (.bastore, 1) := by decide +kernel
theorem d21_53 : decode jdk_52_method_4_code 53 = .ok (.return_, 1) := by decide +kernel
theorem pn_java_lang_StringUTF16 : plainName "java/lang/StringUTF16" = true := by first | (simp [plainName, overriddenIn]; done) | decide +kernel
set_option maxRecDepth 65536 in
set_option maxHeartbeats 40000000 in
theorem rmPut (l : Launch) (Z : State) (a0 : Array Value) (hw : ∀ d ∈ tables_1, d.before a0 Z = true) (d : Addr) (kd : ClassId) (L i : Nat) (c : Int32) (vs : List Value) (h0 : Heap) (n0 : Nat) (Z0 : n0 ≤ h0.size) (SA : Sta Z Z.heap "java/lang/StringUTF16" "$assertionsDisabled" "Z" (.int (1 : Int32))) (SH : Sta Z Z.heap "java/lang/StringUTF16" "HI_BYTE_SHIFT" "I" (.int (0 : Int32))) (SL : Sta Z Z.heap "java/lang/StringUTF16" "LO_BYTE_SHIFT" "I" (.int (8 : Int32))) (OL : Old Z n0 h0) (g_d : n0 ≤ d) (V_d : Arv Z h0 d kd .byte (Int32.ofNat L) vs (.int (0 : Int32))) (hL : vs.length = L) (hLb : L < 2 ^ 31) (hi : 2 * i + 1 < L) :
    OwM l Z (⟨"java/lang/StringUTF16", "putChar", "([BII)V"⟩ : MethodName) jdk_52_method_4_code 3 none ({ frames := 0, cells := 0, slots := 0, locals := 0 } : Room) n0 #[(.ref d), (.int (Int32.ofNat i)), (.int c)] h0 (fun v h => v = none ∧ Keep h0 h [d] ∧ Arv Z h d kd .byte (Int32.ofNat L) ((vs.set (2 * i) (.int (StrChars.lo8 c))).set (2 * i + 1) (.int (StrChars.hi8 c))) (.int (0 : Int32))) := by
  refine OwM.mk (plainFor_of_name pn_java_lang_StringUTF16) ?_
  intro p e s m below meth cD T hx hby hml hown hnm hret hlk hZ P
  refine OwG.cast (show entryFrame m #[(.ref d), (.int (Int32.ofNat i)), (.int c)] 3 = mkF m 0 #[.val (.ref d), .val (.int (Int32.ofNat i)), .val (.int c)] [] from by first | (simp [entryFrame, mkF, argsToLocals, Value.category]; done) | rfl) ?_
  have KP := Keep.refl h0 [d]
  refine P.getS hx hZ hown (host := "") (Or.inl (hw _ (List.mem_of_getElem? (i := 95) rfl))) Via.refl (SA.ext OL.2) (g := (mkF m 0 #[.val (.ref d), .val (.int (Int32.ofNat i)), .val (.int c)] [])) rfl (Jvm.hb hby d21_0) fun T P => ?_
  show OwG p e below s _ _ _ _ T (mkF m 3 #[.val (.ref d), .val (.int (Int32.ofNat i)), .val (.int c)] [(.int (1 : Int32))])
  refine OwG.go (T' := T) (g' := (mkF m 28 #[.val (.ref d), .val (.int (Int32.ofNat i)), .val (.int c)] [])) (fun tQ kQ => ?_) ?_
  · refine XS.ifYes P.here hx rfl (pc0 := 3) (pc' := 28) rfl (Jvm.hb hby d21_3) rfl ((if0 _ _).trans (feq (by decide : ¬ (1 : Int32) = 0)).2) (by decide) (by decide) ?_
    exact kQ
  refine OwG.go (T' := T) (g' := (mkF m 32 #[.val (.ref d), .val (.int ((Int32.ofNat i) <<< ((1 : Int32) &&& 31))), .val (.int c)] [])) (fun tQ kQ => ?_) ?_
  · refine XS.iloadN P.here hx rfl (Jvm.hb hby d21_28) rfl ?_
    refine XS.iconst P.here hx rfl (Jvm.hb hby d21_29) ?_
    refine XS.ishl P.here hx rfl (Jvm.hb hby d21_30) rfl ?_
    refine XS.istoreN P.here hx rfl (Jvm.hb hby d21_31) rfl (l' := #[.val (.ref d), .val (.int ((Int32.ofNat i) <<< ((1 : Int32) &&& 31))), .val (.int c)]) rfl ?_
    exact kQ
  rw [show ((Int32.ofNat i) <<< ((1 : Int32) &&& 31)) = (Int32.ofNat (2 * i)) from own_shl1 (by omega)]
  show OwG p e below s _ _ _ _ T (mkF m 32 #[.val (.ref d), .val (.int (Int32.ofNat (2 * i))), .val (.int c)] [])
  refine OwG.go (T' := T) (g' := (mkF m 38 #[.val (.ref d), .val (.int ((Int32.ofNat (2 * i)) + (1 : Int32))), .val (.int c)] [(.int c), (.int (Int32.ofNat (2 * i))), (.ref d)])) (fun tQ kQ => ?_) ?_
  · refine XS.aloadN P.here hx rfl (Jvm.hb hby d21_32) rfl rfl ?_
    refine XS.iloadN P.here hx rfl (Jvm.hb hby d21_33) rfl ?_
    refine XS.iinc P.here hx rfl (Jvm.hb hby d21_34) rfl (l' := #[.val (.ref d), .val (.int ((Int32.ofNat (2 * i)) + (1 : Int32))), .val (.int c)]) rfl ?_
    refine XS.iloadN P.here hx rfl (Jvm.hb hby d21_37) rfl ?_
    exact kQ
  refine P.getS hx hZ hown (host := "") (Or.inl (hw _ (List.mem_of_getElem? (i := 96) rfl))) Via.refl (SH.ext OL.2) (g := (mkF m 38 #[.val (.ref d), .val (.int ((Int32.ofNat (2 * i)) + (1 : Int32))), .val (.int c)] [(.int c), (.int (Int32.ofNat (2 * i))), (.ref d)])) rfl (Jvm.hb hby d21_38) fun T P => ?_
  show OwG p e below s _ _ _ _ T (mkF m 41 #[.val (.ref d), .val (.int ((Int32.ofNat (2 * i)) + (1 : Int32))), .val (.int c)] [(.int (0 : Int32)), (.int c), (.int (Int32.ofNat (2 * i))), (.ref d)])
  refine OwG.go (T' := T) (g' := (mkF m 43 #[.val (.ref d), .val (.int ((Int32.ofNat (2 * i)) + (1 : Int32))), .val (.int c)] [(.int ((c >>> ((0 : Int32) &&& 31)).toInt8.toInt32)), (.int (Int32.ofNat (2 * i))), (.ref d)])) (fun tQ kQ => ?_) ?_
  · refine XS.ishr P.here hx rfl (Jvm.hb hby d21_41) rfl ?_
    refine XS.i2b P.here hx rfl (Jvm.hb hby d21_42) rfl ?_
    exact kQ
  refine P.stB hx hZ V_d (j := (Int32.ofNat (2 * i))) (own_nn (by omega)) (own_lt (by omega) (by omega)) (i := (2 * i)) (own_tc (by omega)) (by omega) (g := (mkF m 43 #[.val (.ref d), .val (.int ((Int32.ofNat (2 * i)) + (1 : Int32))), .val (.int c)] [(.int ((c >>> ((0 : Int32) &&& 31)).toInt8.toInt32)), (.int (Int32.ofNat (2 * i))), (.ref d)])) rfl rfl (Jvm.hb hby d21_43) g_d fun T h1 P W V' => ?_
  replace Z0 := Nat.le_trans Z0 (Keep.of_wr W).1
  replace OL := OL.wr W g_d
  replace KP := KP.wr W (Or.inl (List.mem_of_getElem? (i := 0) rfl))
  replace V_d := V'
  clear W V'
  show OwG p e below s _ _ _ _ T (mkF m 44 #[.val (.ref d), .val (.int ((Int32.ofNat (2 * i)) + (1 : Int32))), .val (.int c)] [])
  rw [show ((Int32.ofNat (2 * i)) + (1 : Int32)) = (Int32.ofNat (2 * i + 1)) from own_succ _]
  show OwG p e below s _ _ _ _ T (mkF m 44 #[.val (.ref d), .val (.int (Int32.ofNat (2 * i + 1))), .val (.int c)] [])
  refine OwG.go (T' := T) (g' := (mkF m 47 #[.val (.ref d), .val (.int (Int32.ofNat (2 * i + 1))), .val (.int c)] [(.int c), (.int (Int32.ofNat (2 * i + 1))), (.ref d)])) (fun tQ kQ => ?_) ?_
  · refine XS.aloadN P.here hx rfl (Jvm.hb hby d21_44) rfl rfl ?_
    refine XS.iloadN P.here hx rfl (Jvm.hb hby d21_45) rfl ?_
    refine XS.iloadN P.here hx rfl (Jvm.hb hby d21_46) rfl ?_
    exact kQ
  refine P.getS hx hZ hown (host := "") (Or.inl (hw _ (List.mem_of_getElem? (i := 97) rfl))) Via.refl (SL.ext OL.2) (g := (mkF m 47 #[.val (.ref d), .val (.int (Int32.ofNat (2 * i + 1))), .val (.int c)] [(.int c), (.int (Int32.ofNat (2 * i + 1))), (.ref d)])) rfl (Jvm.hb hby d21_47) fun T P => ?_
  show OwG p e below s _ _ _ _ T (mkF m 50 #[.val (.ref d), .val (.int (Int32.ofNat (2 * i + 1))), .val (.int c)] [(.int (8 : Int32)), (.int c), (.int (Int32.ofNat (2 * i + 1))), (.ref d)])
  refine OwG.go (T' := T) (g' := (mkF m 52 #[.val (.ref d), .val (.int (Int32.ofNat (2 * i + 1))), .val (.int c)] [(.int ((c >>> ((8 : Int32) &&& 31)).toInt8.toInt32)), (.int (Int32.ofNat (2 * i + 1))), (.ref d)])) (fun tQ kQ => ?_) ?_
  · refine XS.ishr P.here hx rfl (Jvm.hb hby d21_50) rfl ?_
    refine XS.i2b P.here hx rfl (Jvm.hb hby d21_51) rfl ?_
    exact kQ
  refine P.stB hx hZ V_d (j := (Int32.ofNat (2 * i + 1))) (own_nn (by omega)) (own_lt (by omega) (by omega)) (i := (2 * i + 1)) (own_tc (by omega)) (by rw [List.length_set]; omega) (g := (mkF m 52 #[.val (.ref d), .val (.int (Int32.ofNat (2 * i + 1))), .val (.int c)] [(.int ((c >>> ((8 : Int32) &&& 31)).toInt8.toInt32)), (.int (Int32.ofNat (2 * i + 1))), (.ref d)])) rfl rfl (Jvm.hb hby d21_52) g_d fun T h2 P W V' => ?_
  replace Z0 := Nat.le_trans Z0 (Keep.of_wr W).1
  replace OL := OL.wr W g_d
  replace KP := KP.wr W (Or.inl (List.mem_of_getElem? (i := 0) rfl))
  replace V_d := V'
  clear W V'
  show OwG p e below s _ _ _ _ T (mkF m 53 #[.val (.ref d), .val (.int (Int32.ofNat (2 * i + 1))), .val (.int c)] [])
  rw [own_i2b2, own_i2b2, StrChars.shr0] at V_d
  exact P.retV hx hlk hret (Jvm.hb hby d21_53) (by first | decide | omega | (dsimp only; omega) | (dsimp only [room_1]; omega) | (simp; done) | (simp [room_1]; done) | (simp [room_1]; omega)) (by first | decide | omega | (dsimp only; omega) | (dsimp only [room_1]; omega) | (simp; done) | (simp [room_1]; done) | (simp [room_1]; omega)) ⟨rfl, KP, V_d⟩
theorem d22_0 : decode jdk_52_method_5_code 0 = .ok (.getstatic 44, 3) := by decide +kernel
theorem d22_3 : decode jdk_52_method_5_code 3 = .ok (.ifCond .ne 25, 3) := by decide +kernel
theorem d22_28 : decode jdk_52_method_5_code 28 = .ok (.iload_n 1, 1) := by decide +kernel
theorem d22_29 : decode jdk_52_method_5_code 29 = .ok (.iconst 1, 1) := by decide +kernel
theorem d22_30 : decode jdk_52_method_5_code 30 = .ok (.ishl, 1) := by decide +kernel
theorem d22_31 : decode jdk_52_method_5_code 31 = .ok (.istore_n 1, 1) := by decide +kernel
theorem d22_32 : decode jdk_52_method_5_code 32 = .ok (.aload_n 0, 1) := by decide +kernel
theorem d22_33 : decode jdk_52_method_5_code 33 = .ok (.iload_n 1, 1) := by decide +kernel
theorem d22_34 : decode jdk_52_method_5_code 34 = .ok (.iinc 1 1, 3) := by decide +kernel
theorem d22_37 : decode jdk_52_method_5_code 37 = .ok (.baload, 1) := by decide +kernel
theorem d22_38 : decode jdk_52_method_5_code 38 = .ok (.sipush 255, 3) := by decide +kernel
theorem d22_41 : decode jdk_52_method_5_code 41 = .ok (.iand, 1) := by decide +kernel
theorem d22_42 : decode jdk_52_method_5_code 42 = .ok (.getstatic 59, 3) := by decide +kernel
theorem d22_45 : decode jdk_52_method_5_code 45 = .ok (.ishl, 1) := by decide +kernel
theorem d22_46 : decode jdk_52_method_5_code 46 = .ok (.aload_n 0, 1) := by decide +kernel
theorem d22_47 : decode jdk_52_method_5_code 47 = .ok (.iload_n 1, 1) := by decide +kernel
theorem d22_48 : decode jdk_52_method_5_code 48 = .ok (.baload, 1) := by decide +kernel
theorem d22_49 : decode jdk_52_method_5_code 49 = .ok (.sipush 255, 3) := by decide +kernel
theorem d22_52 : decode jdk_52_method_5_code 52 = .ok (.iand, 1) := by decide +kernel
theorem d22_53 : decode jdk_52_method_5_code 53 = .ok (.getstatic 63, 3) := by decide +kernel
theorem d22_56 : decode jdk_52_method_5_code 56 = .ok (.ishl, 1) := by decide +kernel
theorem d22_57 : decode jdk_52_method_5_code 57 = .ok (.ior, 1) := by decide +kernel
theorem d22_58 : decode jdk_52_method_5_code 58 = .ok (.i2c, 1) := by decide +kernel
theorem d22_59 : decode jdk_52_method_5_code 59 = .ok (.ireturn, 1) := by decide +kernel
set_option maxRecDepth 65536 in
set_option maxHeartbeats 40000000 in
theorem rmGet (l : Launch) (Z : State) (a0 : Array Value) (hw : ∀ d ∈ tables_1, d.before a0 Z = true) (d : Addr) (kd : ClassId) (n i : Nat) (cs : List Int32) (h0 : Heap) (n0 : Nat) (Z0 : n0 ≤ h0.size) (SA : Sta Z Z.heap "java/lang/StringUTF16" "$assertionsDisabled" "Z" (.int (1 : Int32))) (SH : Sta Z Z.heap "java/lang/StringUTF16" "HI_BYTE_SHIFT" "I" (.int (0 : Int32))) (SL : Sta Z Z.heap "java/lang/StringUTF16" "LO_BYTE_SHIFT" "I" (.int (8 : Int32))) (OL : Old Z n0 h0) (V_d : Arv Z h0 d kd .byte (Int32.ofNat (2 * n)) (StrChars.Road.wideBytes cs) (.int (0 : Int32))) (hn : cs.length = n) (hb : n ≤ 4000) (hi : i < n) (hp : ∀ c ∈ cs, ¬ c < 0 ∧ ¬ (65535 : Int32) < c) :
    OwM l Z (⟨"java/lang/StringUTF16", "getChar", "([BI)C"⟩ : MethodName) jdk_52_method_5_code 2 (some .char) ({ frames := 0, cells := 0, slots := 0, locals := 0 } : Room) n0 #[(.ref d), (.int (Int32.ofNat i))] h0 (fun v h => v = some (.int (cs.getD i 0)) ∧ h = h0) := by
  refine OwM.mk (plainFor_of_name pn_java_lang_StringUTF16) ?_
  intro p e s m below meth cD T hx hby hml hown hnm hret hlk hZ P
  refine OwG.cast (show entryFrame m #[(.ref d), (.int (Int32.ofNat i))] 2 = mkF m 0 #[.val (.ref d), .val (.int (Int32.ofNat i))] [] from by first | (simp [entryFrame, mkF, argsToLocals, Value.category]; done) | rfl) ?_
  refine P.getS hx hZ hown (host := "") (Or.inl (hw _ (List.mem_of_getElem? (i := 95) rfl))) Via.refl (SA.ext OL.2) (g := (mkF m 0 #[.val (.ref d), .val (.int (Int32.ofNat i))] [])) rfl (Jvm.hb hby d22_0) fun T P => ?_
  show OwG p e below s _ _ _ _ T (mkF m 3 #[.val (.ref d), .val (.int (Int32.ofNat i))] [(.int (1 : Int32))])
  refine OwG.go (T' := T) (g' := (mkF m 28 #[.val (.ref d), .val (.int (Int32.ofNat i))] [])) (fun tQ kQ => ?_) ?_
  · refine XS.ifYes P.here hx rfl (pc0 := 3) (pc' := 28) rfl (Jvm.hb hby d22_3) rfl ((if0 _ _).trans (feq (by decide : ¬ (1 : Int32) = 0)).2) (by decide) (by decide) ?_
    exact kQ
  refine OwG.go (T' := T) (g' := (mkF m 32 #[.val (.ref d), .val (.int ((Int32.ofNat i) <<< ((1 : Int32) &&& 31)))] [])) (fun tQ kQ => ?_) ?_
  · refine XS.iloadN P.here hx rfl (Jvm.hb hby d22_28) rfl ?_
    refine XS.iconst P.here hx rfl (Jvm.hb hby d22_29) ?_
    refine XS.ishl P.here hx rfl (Jvm.hb hby d22_30) rfl ?_
    refine XS.istoreN P.here hx rfl (Jvm.hb hby d22_31) rfl (l' := #[.val (.ref d), .val (.int ((Int32.ofNat i) <<< ((1 : Int32) &&& 31)))]) rfl ?_
    exact kQ
  rw [show ((Int32.ofNat i) <<< ((1 : Int32) &&& 31)) = (Int32.ofNat (2 * i)) from own_shl1 (by omega)]
  show OwG p e below s _ _ _ _ T (mkF m 32 #[.val (.ref d), .val (.int (Int32.ofNat (2 * i)))] [])
  refine OwG.go (T' := T) (g' := (mkF m 37 #[.val (.ref d), .val (.int ((Int32.ofNat (2 * i)) + (1 : Int32)))] [(.int (Int32.ofNat (2 * i))), (.ref d)])) (fun tQ kQ => ?_) ?_
  · refine XS.aloadN P.here hx rfl (Jvm.hb hby d22_32) rfl rfl ?_
    refine XS.iloadN P.here hx rfl (Jvm.hb hby d22_33) rfl ?_
    refine XS.iinc P.here hx rfl (Jvm.hb hby d22_34) rfl (l' := #[.val (.ref d), .val (.int ((Int32.ofNat (2 * i)) + (1 : Int32)))]) rfl ?_
    exact kQ
  obtain ⟨own_cl, own_A, own_q1, own_S, own_M, own_H, own_U⟩ := id V_d
  obtain ⟨own_L, own_X, own_e, own_N⟩ := id P
  have own_Z := hZ
  have own_in := inb_of own_S (j := (Int32.ofNat (2 * i))) ⟨own_nn (by omega), own_lt (by omega) (by omega)⟩
  refine OwG.go (T' := T) (g' := (mkF m 38 #[.val (.ref d), .val (.int ((Int32.ofNat (2 * i)) + (1 : Int32)))] [(.int (StrChars.lo8 (cs.getD i 0)))])) (fun tQ kQ => ?_) ?_
  · refine own_X.baloadBytes hx (j := (Int32.ofNat (2 * i))) (v := (.int (StrChars.lo8 (cs.getD i 0)))) (by rw [own_e]; exact own_A.1) (State.isArrayOf_alike own_Z.alike own_A.2.1) own_A.2.2 own_in (Has.at own_H own_in (own_wlo (by omega) (by omega))) (g := (mkF m 37 #[.val (.ref d), .val (.int ((Int32.ofNat (2 * i)) + (1 : Int32)))] [(.int (Int32.ofNat (2 * i))), (.ref d)])) rfl rfl (Jvm.hb hby d22_37) _ ?_
    exact kQ
  refine OwG.go (T' := T) (g' := (mkF m 42 #[.val (.ref d), .val (.int ((Int32.ofNat (2 * i)) + (1 : Int32)))] [(.int ((StrChars.lo8 (cs.getD i 0)) &&& (255 : Int32)))])) (fun tQ kQ => ?_) ?_
  · refine XS.sipush P.here hx rfl (Jvm.hb hby d22_38) ?_
    refine XS.iand P.here hx rfl (Jvm.hb hby d22_41) rfl ?_
    exact kQ
  refine P.getS hx hZ hown (host := "") (Or.inl (hw _ (List.mem_of_getElem? (i := 96) rfl))) Via.refl (SH.ext OL.2) (g := (mkF m 42 #[.val (.ref d), .val (.int ((Int32.ofNat (2 * i)) + (1 : Int32)))] [(.int ((StrChars.lo8 (cs.getD i 0)) &&& (255 : Int32)))])) rfl (Jvm.hb hby d22_42) fun T P => ?_
  show OwG p e below s _ _ _ _ T (mkF m 45 #[.val (.ref d), .val (.int ((Int32.ofNat (2 * i)) + (1 : Int32)))] [(.int (0 : Int32)), (.int ((StrChars.lo8 (cs.getD i 0)) &&& (255 : Int32)))])
  refine OwG.go (T' := T) (g' := (mkF m 48 #[.val (.ref d), .val (.int ((Int32.ofNat (2 * i)) + (1 : Int32)))] [(.int ((Int32.ofNat (2 * i)) + (1 : Int32))), (.ref d), (.int (((StrChars.lo8 (cs.getD i 0)) &&& (255 : Int32)) <<< ((0 : Int32) &&& 31)))])) (fun tQ kQ => ?_) ?_
  · refine XS.ishl P.here hx rfl (Jvm.hb hby d22_45) rfl ?_
    refine XS.aloadN P.here hx rfl (Jvm.hb hby d22_46) rfl rfl ?_
    refine XS.iloadN P.here hx rfl (Jvm.hb hby d22_47) rfl ?_
    exact kQ
  rw [show ((Int32.ofNat (2 * i)) + (1 : Int32)) = (Int32.ofNat (2 * i + 1)) from own_succ _]
  show OwG p e below s _ _ _ _ T (mkF m 48 #[.val (.ref d), .val (.int (Int32.ofNat (2 * i + 1)))] [(.int (Int32.ofNat (2 * i + 1))), (.ref d), (.int (((StrChars.lo8 (cs.getD i 0)) &&& (255 : Int32)) <<< ((0 : Int32) &&& 31)))])
  obtain ⟨own_cl, own_A, own_q1, own_S, own_M, own_H, own_U⟩ := id V_d
  obtain ⟨own_L, own_X, own_e, own_N⟩ := id P
  have own_Z := hZ
  have own_in := inb_of own_S (j := (Int32.ofNat (2 * i + 1))) ⟨own_nn (by omega), own_lt (by omega) (by omega)⟩
  refine OwG.go (T' := T) (g' := (mkF m 49 #[.val (.ref d), .val (.int (Int32.ofNat (2 * i + 1)))] [(.int (StrChars.hi8 (cs.getD i 0))), (.int (((StrChars.lo8 (cs.getD i 0)) &&& (255 : Int32)) <<< ((0 : Int32) &&& 31)))])) (fun tQ kQ => ?_) ?_
  · refine own_X.baloadBytes hx (j := (Int32.ofNat (2 * i + 1))) (v := (.int (StrChars.hi8 (cs.getD i 0)))) (by rw [own_e]; exact own_A.1) (State.isArrayOf_alike own_Z.alike own_A.2.1) own_A.2.2 own_in (Has.at own_H own_in (own_whi (by omega) (by omega))) (g := (mkF m 48 #[.val (.ref d), .val (.int (Int32.ofNat (2 * i + 1)))] [(.int (Int32.ofNat (2 * i + 1))), (.ref d), (.int (((StrChars.lo8 (cs.getD i 0)) &&& (255 : Int32)) <<< ((0 : Int32) &&& 31)))])) rfl rfl (Jvm.hb hby d22_48) _ ?_
    exact kQ
  refine OwG.go (T' := T) (g' := (mkF m 53 #[.val (.ref d), .val (.int (Int32.ofNat (2 * i + 1)))] [(.int ((StrChars.hi8 (cs.getD i 0)) &&& (255 : Int32))), (.int (((StrChars.lo8 (cs.getD i 0)) &&& (255 : Int32)) <<< ((0 : Int32) &&& 31)))])) (fun tQ kQ => ?_) ?_
  · refine XS.sipush P.here hx rfl (Jvm.hb hby d22_49) ?_
    refine XS.iand P.here hx rfl (Jvm.hb hby d22_52) rfl ?_
    exact kQ
  refine P.getS hx hZ hown (host := "") (Or.inl (hw _ (List.mem_of_getElem? (i := 97) rfl))) Via.refl (SL.ext OL.2) (g := (mkF m 53 #[.val (.ref d), .val (.int (Int32.ofNat (2 * i + 1)))] [(.int ((StrChars.hi8 (cs.getD i 0)) &&& (255 : Int32))), (.int (((StrChars.lo8 (cs.getD i 0)) &&& (255 : Int32)) <<< ((0 : Int32) &&& 31)))])) rfl (Jvm.hb hby d22_53) fun T P => ?_
  show OwG p e below s _ _ _ _ T (mkF m 56 #[.val (.ref d), .val (.int (Int32.ofNat (2 * i + 1)))] [(.int (8 : Int32)), (.int ((StrChars.hi8 (cs.getD i 0)) &&& (255 : Int32))), (.int (((StrChars.lo8 (cs.getD i 0)) &&& (255 : Int32)) <<< ((0 : Int32) &&& 31)))])
  refine OwG.go (T' := T) (g' := (mkF m 59 #[.val (.ref d), .val (.int (Int32.ofNat (2 * i + 1)))] [(.int (((((StrChars.lo8 (cs.getD i 0)) &&& (255 : Int32)) <<< ((0 : Int32) &&& 31)) ||| (((StrChars.hi8 (cs.getD i 0)) &&& (255 : Int32)) <<< ((8 : Int32) &&& 31))).toUInt32.toUInt16.toUInt32.toInt32))])) (fun tQ kQ => ?_) ?_
  · refine XS.ishl P.here hx rfl (Jvm.hb hby d22_56) rfl ?_
    refine XS.ior P.here hx rfl (Jvm.hb hby d22_57) rfl ?_
    refine XS.i2c P.here hx rfl (Jvm.hb hby d22_58) rfl ?_
    exact kQ
  have own_b := own_bd (i := i) (by omega) hp
  rw [show (((((StrChars.lo8 (cs.getD i 0)) &&& (255 : Int32)) <<< ((0 : Int32) &&& 31)) ||| (((StrChars.hi8 (cs.getD i 0)) &&& (255 : Int32)) <<< ((8 : Int32) &&& 31))).toUInt32.toUInt16.toUInt32.toInt32) = (cs.getD i 0) from StrChars.pair_says own_b.1 own_b.2]
  show OwG p e below s _ _ _ _ T (mkF m 59 #[.val (.ref d), .val (.int (Int32.ofNat (2 * i + 1)))] [(.int (cs.getD i 0))])
  exact P.retN hx hlk (t := .char) hret (by simp) (Jvm.hb hby d22_59) (by first | decide | omega | (dsimp only; omega) | (dsimp only [room_1]; omega) | (simp; done) | (simp [room_1]; done) | (simp [room_1]; omega)) (by first | decide | omega | (dsimp only; omega) | (dsimp only [room_1]; omega) | (simp; done) | (simp [room_1]; done) | (simp [room_1]; omega)) ⟨by rw [own_narc own_b.1 own_b.2], rfl⟩
theorem d20_0 : decode jdk_52_method_3_code 0 = .ok (.iload_n 0, 1) := by decide +kernel
theorem d20_1 : decode jdk_52_method_3_code 1 = .ok (.ifCond .ge 11, 3) := by decide +kernel
theorem d20_12 : decode jdk_52_method_3_code 12 = .ok (.iload_n 0, 1) := by decide +kernel
theorem d20_13 : decode jdk_52_method_3_code 13 = .ok (.ldc 20, 2) := by decide +kernel
theorem d20_15 : decode jdk_52_method_3_code 15 = .ok (.if_icmp .lt 40, 3) := by decide +kernel
theorem d20_55 : decode jdk_52_method_3_code 55 = .ok (.iload_n 0, 1) := by decide +kernel
theorem d20_56 : decode jdk_52_method_3_code 56 = .ok (.iconst 1, 1) := by decide +kernel
theorem d20_57 : decode jdk_52_method_3_code 57 = .ok (.ishl, 1) := by decide +kernel
theorem d20_58 : decode jdk_52_method_3_code 58 = .ok (.ireturn, 1) := by decide +kernel
set_option maxRecDepth 65536 in
set_option maxHeartbeats 40000000 in
theorem rmNbl (l : Launch) (Z : State) (a0 : Array Value) (hw : ∀ d ∈ tables_1, d.before a0 Z = true) (n : Nat) (h0 : Heap) (n0 : Nat) (Z0 : n0 ≤ h0.size) (hb : n ≤ 4000) :
    OwM l Z (⟨"java/lang/StringUTF16", "newBytesLength", "(I)I"⟩ : MethodName) jdk_52_method_3_code 1 (some .int) ({ frames := 0, cells := 0, slots := 0, locals := 0 } : Room) n0 #[(.int (Int32.ofNat n))] h0 (fun v h => v = some (.int (Int32.ofNat (2 * n))) ∧ h = h0) := by
  refine OwM.mk (plainFor_of_name pn_java_lang_StringUTF16) ?_
  intro p e s m below meth cD T hx hby hml hown hnm hret hlk hZ P
  refine OwG.cast (show entryFrame m #[(.int (Int32.ofNat n))] 1 = mkF m 0 #[.val (.int (Int32.ofNat n))] [] from by first | (simp [entryFrame, mkF, argsToLocals, Value.category]; done) | rfl) ?_
  refine OwG.go (T' := T) (g' := (mkF m 1 #[.val (.int (Int32.ofNat n))] [(.int (Int32.ofNat n))])) (fun tQ kQ => ?_) ?_
  · refine XS.iloadN P.here hx rfl (Jvm.hb hby d20_0) rfl ?_
    exact kQ
  refine OwG.go (T' := T) (g' := (mkF m 12 #[.val (.int (Int32.ofNat n))] [])) (fun tQ kQ => ?_) ?_
  · refine XS.ifYes P.here hx rfl (pc0 := 1) (pc' := 12) rfl (Jvm.hb hby d20_1) rfl ((if0 _ _).trans (flt (own_nn (by omega))).2.1) (by decide) (by decide) ?_
    exact kQ
  refine OwG.go (T' := T) (g' := (mkF m 13 #[.val (.int (Int32.ofNat n))] [(.int (Int32.ofNat n))])) (fun tQ kQ => ?_) ?_
  · refine XS.iloadN P.here hx rfl (Jvm.hb hby d20_12) rfl ?_
    exact kQ
  obtain ⟨own_L, own_X, own_rest⟩ := id P
  refine OwG.go (T' := T) (g' := (mkF m 15 #[.val (.int (Int32.ofNat n))] [(.int (1073741823 : Int32)), (.int (Int32.ofNat n))])) (fun tQ kQ => ?_) ?_
  · refine own_X.ldcInt hx hown (mvT hZ (hw _ (List.mem_of_getElem? (i := 91) rfl))) (g := (mkF m 13 #[.val (.int (Int32.ofNat n))] [(.int (Int32.ofNat n))])) rfl (Jvm.hb hby d20_13) _ ?_
    exact kQ
  refine OwG.go (T' := T) (g' := (mkF m 55 #[.val (.int (Int32.ofNat n))] [])) (fun tQ kQ => ?_) ?_
  · refine XS.icmpYes P.here hx rfl (pc0 := 15) (pc' := 55) rfl (Jvm.hb hby d20_15) rfl (tlt (own_lt (n := 1073741823) (by omega) (by omega))).1 (by decide) (by decide) ?_
    exact kQ
  refine OwG.go (T' := T) (g' := (mkF m 58 #[.val (.int (Int32.ofNat n))] [(.int ((Int32.ofNat n) <<< ((1 : Int32) &&& 31)))])) (fun tQ kQ => ?_) ?_
  · refine XS.iloadN P.here hx rfl (Jvm.hb hby d20_55) rfl ?_
    refine XS.iconst P.here hx rfl (Jvm.hb hby d20_56) ?_
    refine XS.ishl P.here hx rfl (Jvm.hb hby d20_57) rfl ?_
    exact kQ
  rw [show ((Int32.ofNat n) <<< ((1 : Int32) &&& 31)) = (Int32.ofNat (2 * n)) from own_shl1 (by omega)]
  show OwG p e below s _ _ _ _ T (mkF m 58 #[.val (.int (Int32.ofNat n))] [(.int (Int32.ofNat (2 * n)))])
  exact P.retI hx hlk hret (Jvm.hb hby d20_58) (by first | decide | omega | (dsimp only; omega) | (dsimp only [room_1]; omega) | (simp; done) | (simp [room_1]; done) | (simp [room_1]; omega)) (by first | decide | omega | (dsimp only; omega) | (dsimp only [room_1]; omega) | (simp; done) | (simp [room_1]; done) | (simp [room_1]; omega)) ⟨rfl, rfl⟩
theorem d19_0 : decode jdk_52_method_2_code 0 = .ok (.iload_n 0, 1) := by decide +kernel
theorem d19_1 : decode jdk_52_method_2_code 1 = .ok (.invokestatic 11, 3) := by decide +kernel
theorem pd__I_I : parseMethodDescriptor "(I)I" = some ⟨[.int], some .int⟩ := by decide +kernel
theorem d19_4 : decode jdk_52_method_2_code 4 = .ok (.newarray .byte, 2) := by decide +kernel
theorem d19_6 : decode jdk_52_method_2_code 6 = .ok (.areturn, 1) := by decide +kernel
set_option maxRecDepth 65536 in
set_option maxHeartbeats 40000000 in
theorem rmNbf (l : Launch) (Z : State) (a0 : Array Value) (hw : ∀ d ∈ tables_1, d.before a0 Z = true) (n : Nat) (h0 : Heap) (n0 : Nat) (Z0 : n0 ≤ h0.size) (hb : n ≤ 4000) :
    OwM l Z (⟨"java/lang/StringUTF16", "newBytesFor", "(I)[B"⟩ : MethodName) jdk_52_method_2_code 1 (some (.array .byte)) ({ frames := 1, cells := 1, slots := 2 * n, locals := 12 } : Room) n0 #[(.int (Int32.ofNat n))] h0 (fun v h => ∃ (b : Addr) (kb : ClassId), v = some (.ref b) ∧ b = h0.size ∧ Keep h0 h [] ∧ Arv Z h b kb .byte (Int32.ofNat (2 * n)) (List.replicate (2 * n) (.int (0 : Int32))) (.int (0 : Int32))) := by
  refine OwM.mk (plainFor_of_name pn_java_lang_StringUTF16) ?_
  intro p e s m below meth cD T hx hby hml hown hnm hret hlk hZ P
  refine OwG.cast (show entryFrame m #[(.int (Int32.ofNat n))] 1 = mkF m 0 #[.val (.int (Int32.ofNat n))] [] from by first | (simp [entryFrame, mkF, argsToLocals, Value.category]; done) | rfl) ?_
  have KP := Keep.refl h0 []
  refine OwG.go (T' := T) (g' := (mkF m 1 #[.val (.int (Int32.ofNat n))] [(.int (Int32.ofNat n))])) (fun tQ kQ => ?_) ?_
  · refine XS.iloadN P.here hx rfl (Jvm.hb hby d19_0) rfl ?_
    exact kQ
  refine P.stat hx hZ (y := (⟨"java/lang/StringUTF16", "newBytesLength", "(I)I"⟩ : MethodName)) hown (hw _ (List.mem_of_getElem? (i := 88) rfl)) (hw _ (List.mem_of_getElem? (i := 89) rfl)) (hw _ (List.mem_of_getElem? (i := 29) rfl)) (hw _ (List.mem_of_getElem? (i := 90) rfl)) (by decide) (OwM.back (W := 0) (rmNbl l Z a0 hw n h0 n0 Z0 hb) hZ (hw _ (List.mem_of_getElem? (i := 90) rfl)) (hw _ (List.mem_of_getElem? (i := 29) rfl)) (own_le rfl) (own_le rfl)) (fun _ _ _ q => q.2) (g := (mkF m 1 #[.val (.int (Int32.ofNat n))] [(.int (Int32.ofNat n))])) rfl (by rw [hml]; rfl) (argsL := [(.int (Int32.ofNat n))]) (rest := []) (lenOf pd__I_I rfl) rfl (by show 2 * 0 + _ ≤ _; exact Nat.le_of_eq rfl) (Jvm.hb hby d19_1) rfl (by first | decide | omega | (dsimp only; omega) | (dsimp only [room_1]; omega) | (simp; done) | (simp [room_1]; done) | (simp [room_1]; omega)) (by first | decide | omega | (dsimp only; omega) | (dsimp only [room_1]; omega) | (simp; done) | (simp [room_1]; done) | (simp [room_1]; omega)) fun T own_v own_L h1 own_e P own_q => ?_
  obtain ⟨⟨rfl, own_hh⟩, -⟩ := own_q
  rw [own_hh] at P
  clear own_e own_hh
  show OwG p e below s _ _ _ _ T (mkF m 4 #[.val (.int (Int32.ofNat n))] [(.int (Int32.ofNat (2 * n)))])
  refine P.newP hx hZ (hw _ (List.mem_of_getElem? (i := 19) rfl)) (g := (mkF m 4 #[.val (.int (Int32.ofNat n))] [(.int (Int32.ofNat (2 * n)))])) rfl (Jvm.hb hby d19_4) rfl (own_nn (by omega)) (cap := (2 * n)) (Nat.le_of_eq (own_tc (by omega))) (by omega) (by first | decide | omega | (dsimp only; omega) | (dsimp only [room_1]; omega) | (simp; done) | (simp [room_1]; done) | (simp [room_1]; omega)) (by first | decide | omega | (dsimp only; omega) | (dsimp only [room_1]; omega) | (simp; done) | (simp [room_1]; done) | (simp [room_1]; omega)) fun T h2 b kb gb P E V_b => ?_
  have sz_b : h0.size ≤ b := Nat.le_trans KP.1 (Nat.le_of_eq gb.symm)
  replace KP := KP.ext E
  clear E
  replace V_b : Arv Z h2 b kb .byte (Int32.ofNat (2 * n)) (List.replicate (2 * n) (.int (0 : Int32))) (.int (0 : Int32)) := V_b.pad (pad_rep [] (.int (0 : Int32)) (2 * n))
  show OwG p e below s _ _ _ _ T (mkF m 6 #[.val (.int (Int32.ofNat n))] [(.ref b)])
  exact P.retR hx hlk hret rfl rfl (Jvm.hb hby d19_6) (by first | decide | omega | (dsimp only; omega) | (dsimp only [room_1]; omega) | (simp; done) | (simp [room_1]; done) | (simp [room_1]; omega)) (by first | decide | omega | (dsimp only; omega) | (dsimp only [room_1]; omega) | (simp; done) | (simp [room_1]; done) | (simp [room_1]; omega)) ⟨b, kb, rfl, gb, KP, V_b⟩
theorem d18_0 : decode jdk_52_method_14_code 0 = .ok (.iload_n 2, 1) := by decide +kernel
theorem d18_1 : decode jdk_52_method_14_code 1 = .ok (.invokestatic 107, 3) := by decide +kernel
theorem pd__I__B : parseMethodDescriptor "(I)[B" = some ⟨[.int], some (.array .byte)⟩ := by decide +kernel
theorem d18_4 : decode jdk_52_method_14_code 4 = .ok (.astore_n 3, 1) := by decide +kernel
theorem d18_5 : decode jdk_52_method_14_code 5 = .ok (.iconst 0, 1) := by decide +kernel
theorem d18_6 : decode jdk_52_method_14_code 6 = .ok (.istore 4, 2) := by decide +kernel
theorem d18_8 : decode jdk_52_method_14_code 8 = .ok (.iload 4, 2) := by decide +kernel
theorem d18_10 : decode jdk_52_method_14_code 10 = .ok (.iload_n 2, 1) := by decide +kernel
theorem d18_11 : decode jdk_52_method_14_code 11 = .ok (.if_icmp .ge 21, 3) := by decide +kernel
theorem d18_32 : decode jdk_52_method_14_code 32 = .ok (.aload_n 3, 1) := by decide +kernel
theorem d18_33 : decode jdk_52_method_14_code 33 = .ok (.areturn, 1) := by decide +kernel
theorem d18_14 : decode jdk_52_method_14_code 14 = .ok (.aload_n 3, 1) := by decide +kernel
theorem d18_15 : decode jdk_52_method_14_code 15 = .ok (.iload 4, 2) := by decide +kernel
theorem d18_17 : decode jdk_52_method_14_code 17 = .ok (.aload_n 0, 1) := by decide +kernel
theorem d18_18 : decode jdk_52_method_14_code 18 = .ok (.iload_n 1, 1) := by decide +kernel
theorem d18_19 : decode jdk_52_method_14_code 19 = .ok (.caload, 1) := by decide +kernel
theorem d18_20 : decode jdk_52_method_14_code 20 = .ok (.invokestatic 111, 3) := by decide +kernel
theorem pd___BII_V : parseMethodDescriptor "([BII)V" = some ⟨[(.array .byte), .int, .int], none⟩ := by decide +kernel
theorem d18_23 : decode jdk_52_method_14_code 23 = .ok (.iinc 1 1, 3) := by decide +kernel
theorem d18_26 : decode jdk_52_method_14_code 26 = .ok (.iinc 4 1, 3) := by decide +kernel
theorem d18_29 : decode jdk_52_method_14_code 29 = .ok (.goto (-21), 3) := by decide +kernel
set_option maxRecDepth 65536 in
set_option maxHeartbeats 40000000 in
theorem rmTob (l : Launch) (Z : State) (a0 : Array Value) (hw : ∀ d ∈ tables_1, d.before a0 Z = true) (a : Addr) (ka : ClassId) (da : Value) (n : Nat) (cs : List Int32) (h0 : Heap) (n0 : Nat) (Z0 : n0 ≤ h0.size) (SA : Sta Z Z.heap "java/lang/StringUTF16" "$assertionsDisabled" "Z" (.int (1 : Int32))) (SH : Sta Z Z.heap "java/lang/StringUTF16" "HI_BYTE_SHIFT" "I" (.int (0 : Int32))) (SL : Sta Z Z.heap "java/lang/StringUTF16" "LO_BYTE_SHIFT" "I" (.int (8 : Int32))) (OL : Old Z n0 h0) (V_a : Arv Z h0 a ka .char (Int32.ofNat n) (cs.map Value.int) da) (hn : cs.length = n) (hb : n ≤ 4000) :
    OwM l Z (⟨"java/lang/StringUTF16", "toBytes", "([CII)[B"⟩ : MethodName) jdk_52_method_14_code 5 (some (.array .byte)) ({ frames := 2, cells := 1, slots := 2 * n, locals := 26 } : Room) n0 #[(.ref a), (.int (0 : Int32)), (.int (Int32.ofNat n))] h0 (fun v h => ∃ (b : Addr) (kb : ClassId), v = some (.ref b) ∧ b = h0.size ∧ Keep h0 h [] ∧ Arv Z h b kb .byte (Int32.ofNat (2 * n)) (StrChars.Road.wideBytes cs) (.int (0 : Int32))) := by
  refine OwM.mk (plainFor_of_name pn_java_lang_StringUTF16) ?_
  intro p e s m below meth cD T hx hby hml hown hnm hret hlk hZ P
  refine OwG.cast (show entryFrame m #[(.ref a), (.int (0 : Int32)), (.int (Int32.ofNat n))] 5 = mkF m 0 #[.val (.ref a), .val (.int (0 : Int32)), .val (.int (Int32.ofNat n)), .unset, .unset] [] from by first | (simp [entryFrame, mkF, argsToLocals, Value.category]; done) | rfl) ?_
  have KP := Keep.refl h0 []
  refine OwG.go (T' := T) (g' := (mkF m 1 #[.val (.ref a), .val (.int (0 : Int32)), .val (.int (Int32.ofNat n)), .unset, .unset] [(.int (Int32.ofNat n))])) (fun tQ kQ => ?_) ?_
  · refine XS.iloadN P.here hx rfl (Jvm.hb hby d18_0) rfl ?_
    exact kQ
  refine P.stat hx hZ (y := (⟨"java/lang/StringUTF16", "newBytesFor", "(I)[B"⟩ : MethodName)) hown (hw _ (List.mem_of_getElem? (i := 85) rfl)) (hw _ (List.mem_of_getElem? (i := 86) rfl)) (hw _ (List.mem_of_getElem? (i := 29) rfl)) (hw _ (List.mem_of_getElem? (i := 87) rfl)) (by decide) (OwM.back (W := 0) (rmNbf l Z a0 hw n h0 n0 Z0 hb) hZ (hw _ (List.mem_of_getElem? (i := 87) rfl)) (hw _ (List.mem_of_getElem? (i := 29) rfl)) (own_le rfl) (own_le rfl)) (fun _ _ _ q => q.2) (g := (mkF m 1 #[.val (.ref a), .val (.int (0 : Int32)), .val (.int (Int32.ofNat n)), .unset, .unset] [(.int (Int32.ofNat n))])) rfl (by rw [hml]; rfl) (argsL := [(.int (Int32.ofNat n))]) (rest := []) (lenOf pd__I__B rfl) rfl (by show 2 * 0 + _ ≤ _; exact Nat.le_of_eq rfl) (Jvm.hb hby d18_1) rfl (by first | decide | omega | (dsimp only; omega) | (dsimp only [room_1]; omega) | (simp; done) | (simp [room_1]; done) | (simp [room_1]; omega)) (by first | decide | omega | (dsimp only; omega) | (dsimp only [room_1]; omega) | (simp; done) | (simp [room_1]; done) | (simp [room_1]; omega)) fun T own_v own_L h1 own_e P own_q => ?_
  obtain ⟨⟨b, kb, rfl, gb, K, V_b⟩, -⟩ := own_q
  show OwG p e below s _ _ _ _ T (mkF m 4 #[.val (.ref a), .val (.int (0 : Int32)), .val (.int (Int32.ofNat n)), .unset, .unset] [(.ref b)])
  clear own_e
  have ne_a_b : a ≠ b := Nat.ne_of_lt (Nat.lt_of_lt_of_le V_a.lt (Nat.le_of_eq gb.symm))
  have ne_b_a := Ne.symm ne_a_b
  have g_b : n0 ≤ b := Nat.le_trans Z0 (Nat.le_of_eq gb.symm)
  have sz_b : h0.size ≤ b := Nat.le_trans KP.1 (Nat.le_of_eq gb.symm)
  replace V_a := V_a.keep K nin0
  replace Z0 := Nat.le_trans Z0 K.1
  replace OL := OL.keep K all0
  replace KP := KP.trans K all0
  refine OwG.go (T' := T) (g' := (mkF m 8 #[.val (.ref a), .val (.int (0 : Int32)), .val (.int (Int32.ofNat n)), .val (.ref b), .val (.int (0 : Int32))] [])) (fun tQ kQ => ?_) ?_
  · refine XS.astoreN P.here hx rfl (Jvm.hb hby d18_4) rfl rfl (l' := #[.val (.ref a), .val (.int (0 : Int32)), .val (.int (Int32.ofNat n)), .val (.ref b), .unset]) rfl ?_
    refine XS.iconst P.here hx rfl (Jvm.hb hby d18_5) ?_
    refine XS.istore P.here hx rfl (Jvm.hb hby d18_6) rfl (l' := #[.val (.ref a), .val (.int (0 : Int32)), .val (.int (Int32.ofNat n)), .val (.ref b), .val (.int (0 : Int32))]) rfl ?_
    exact kQ
  have lp : ∀ (k i : Nat) (T : State) (hL_lp : Heap), i + k = n → OwP p l e ({ frames := 2, cells := 1, slots := 2 * n, locals := 26 } : Room) s m #[(.ref a), (.int (0 : Int32)), (.int (Int32.ofNat n))] below meth cD n0 T hL_lp 1 (0 + (2 * n)) → (n0 ≤ hL_lp.size) → (Old Z n0 hL_lp) → (Keep h0 hL_lp []) → (Arv Z hL_lp a ka .char (Int32.ofNat n) (cs.map Value.int) da) → (Arv Z hL_lp b kb .byte (Int32.ofNat (2 * n)) (own_wb cs n i) (.int (0 : Int32))) → OwG p e below s n0 ({ frames := 2, cells := 1, slots := 2 * n, locals := 26 } : Room).cells ({ frames := 2, cells := 1, slots := 2 * n, locals := 26 } : Room).slots (fun v h => ∃ (b : Addr) (kb : ClassId), v = some (.ref b) ∧ b = h0.size ∧ Keep h0 h [] ∧ Arv Z h b kb .byte (Int32.ofNat (2 * n)) (StrChars.Road.wideBytes cs) (.int (0 : Int32))) T (mkF m 8 #[.val (.ref a), .val (.int (Int32.ofNat i)), .val (.int (Int32.ofNat n)), .val (.ref b), .val (.int (Int32.ofNat i))] []) := by
    intro k
    induction k with
    | zero =>
      intro i T hL_lp  hik P Z0 OL KP V_a V_b
      refine OwG.go (T' := T) (g' := (mkF m 11 #[.val (.ref a), .val (.int (Int32.ofNat i)), .val (.int (Int32.ofNat n)), .val (.ref b), .val (.int (Int32.ofNat i))] [(.int (Int32.ofNat n)), (.int (Int32.ofNat i))])) (fun tQ kQ => ?_) ?_
      · refine XS.iload P.here hx rfl (Jvm.hb hby d18_8) rfl ?_
        refine XS.iloadN P.here hx rfl (Jvm.hb hby d18_10) rfl ?_
        exact kQ
      have own_i : i = n := by omega
      refine OwG.go (T' := T) (g' := (mkF m 32 #[.val (.ref a), .val (.int (Int32.ofNat i)), .val (.int (Int32.ofNat n)), .val (.ref b), .val (.int (Int32.ofNat i))] [])) (fun tQ kQ => ?_) ?_
      · refine XS.icmpYes P.here hx rfl (pc0 := 11) (pc' := 32) rfl (Jvm.hb hby d18_11) rfl (flt (own_nlt (by omega) (by omega))).2.1 (by decide) (by decide) ?_
        exact kQ
      refine OwG.go (T' := T) (g' := (mkF m 33 #[.val (.ref a), .val (.int (Int32.ofNat i)), .val (.int (Int32.ofNat n)), .val (.ref b), .val (.int (Int32.ofNat i))] [(.ref b)])) (fun tQ kQ => ?_) ?_
      · refine XS.aloadN P.here hx rfl (Jvm.hb hby d18_32) rfl rfl ?_
        exact kQ
      rw [own_i, own_wb_end hn] at V_b
      exact P.retR hx hlk hret rfl rfl (Jvm.hb hby d18_33) (by first | decide | omega | (dsimp only; omega) | (dsimp only [room_1]; omega) | (simp; done) | (simp [room_1]; done) | (simp [room_1]; omega)) (by first | decide | omega | (dsimp only; omega) | (dsimp only [room_1]; omega) | (simp; done) | (simp [room_1]; done) | (simp [room_1]; omega)) ⟨b, kb, rfl, gb, KP, V_b⟩
    | succ k ih =>
      intro i T hL_lp  hik P Z0 OL KP V_a V_b
      refine OwG.go (T' := T) (g' := (mkF m 11 #[.val (.ref a), .val (.int (Int32.ofNat i)), .val (.int (Int32.ofNat n)), .val (.ref b), .val (.int (Int32.ofNat i))] [(.int (Int32.ofNat n)), (.int (Int32.ofNat i))])) (fun tQ kQ => ?_) ?_
      · refine XS.iload P.here hx rfl (Jvm.hb hby d18_8) rfl ?_
        refine XS.iloadN P.here hx rfl (Jvm.hb hby d18_10) rfl ?_
        exact kQ
      refine OwG.go (T' := T) (g' := (mkF m 14 #[.val (.ref a), .val (.int (Int32.ofNat i)), .val (.int (Int32.ofNat n)), .val (.ref b), .val (.int (Int32.ofNat i))] [])) (fun tQ kQ => ?_) ?_
      · refine XS.icmpNo P.here hx rfl (Jvm.hb hby d18_11) rfl (tlt (own_lt (by omega) (by omega))).2.1 ?_
        exact kQ
      refine OwG.go (T' := T) (g' := (mkF m 19 #[.val (.ref a), .val (.int (Int32.ofNat i)), .val (.int (Int32.ofNat n)), .val (.ref b), .val (.int (Int32.ofNat i))] [(.int (Int32.ofNat i)), (.ref a), (.int (Int32.ofNat i)), (.ref b)])) (fun tQ kQ => ?_) ?_
      · refine XS.aloadN P.here hx rfl (Jvm.hb hby d18_14) rfl rfl ?_
        refine XS.iload P.here hx rfl (Jvm.hb hby d18_15) rfl ?_
        refine XS.aloadN P.here hx rfl (Jvm.hb hby d18_17) rfl rfl ?_
        refine XS.iloadN P.here hx rfl (Jvm.hb hby d18_18) rfl ?_
        exact kQ
      obtain ⟨own_cl, own_A, own_q1, own_S, own_M, own_H, own_U⟩ := id V_a
      obtain ⟨own_L, own_X, own_e, own_N⟩ := id P
      have own_Z := hZ
      have own_in := inb_of own_S (j := (Int32.ofNat i)) ⟨own_nn (by omega), own_lt (by omega) (by omega)⟩
      refine OwG.go (T' := T) (g' := (mkF m 20 #[.val (.ref a), .val (.int (Int32.ofNat i)), .val (.int (Int32.ofNat n)), .val (.ref b), .val (.int (Int32.ofNat i))] [(.int (cs.getD i 0)), (.int (Int32.ofNat i)), (.ref b)])) (fun tQ kQ => ?_) ?_
      · refine own_X.caload hx (j := (Int32.ofNat i)) (v := (.int (cs.getD i 0))) (by rw [own_e]; exact own_A.1) (State.isArrayOf_alike own_Z.alike own_A.2.1) own_A.2.2 own_in (Has.at own_H own_in (own_chat (by omega) (by omega))) (g := (mkF m 19 #[.val (.ref a), .val (.int (Int32.ofNat i)), .val (.int (Int32.ofNat n)), .val (.ref b), .val (.int (Int32.ofNat i))] [(.int (Int32.ofNat i)), (.ref a), (.int (Int32.ofNat i)), (.ref b)])) rfl rfl (Jvm.hb hby d18_19) _ ?_
        exact kQ
      refine P.stat hx hZ (y := (⟨"java/lang/StringUTF16", "putChar", "([BII)V"⟩ : MethodName)) hown (hw _ (List.mem_of_getElem? (i := 92) rfl)) (hw _ (List.mem_of_getElem? (i := 93) rfl)) (hw _ (List.mem_of_getElem? (i := 29) rfl)) (hw _ (List.mem_of_getElem? (i := 94) rfl)) (by decide) (OwM.back (W := 0) (rmPut l Z a0 hw b kb (2 * n) i (cs.getD i 0) _ hL_lp n0 Z0 SA SH SL OL g_b V_b (own_wb_len hn (by omega)) (by omega) (by omega)) hZ (hw _ (List.mem_of_getElem? (i := 94) rfl)) (hw _ (List.mem_of_getElem? (i := 29) rfl)) (own_le rfl) (own_le rfl)) (fun _ _ _ q => q.2) (g := (mkF m 20 #[.val (.ref a), .val (.int (Int32.ofNat i)), .val (.int (Int32.ofNat n)), .val (.ref b), .val (.int (Int32.ofNat i))] [(.int (cs.getD i 0)), (.int (Int32.ofNat i)), (.ref b)])) rfl (by rw [hml]; rfl) (argsL := [(.ref b), (.int (Int32.ofNat i)), (.int (cs.getD i 0))]) (rest := []) (lenOf pd___BII_V rfl) rfl (by show 2 * 0 + _ ≤ _; exact Nat.le_of_eq rfl) (Jvm.hb hby d18_20) rfl (by first | decide | omega | (dsimp only; omega) | (dsimp only [room_1]; omega) | (simp; done) | (simp [room_1]; done) | (simp [room_1]; omega)) (by first | decide | omega | (dsimp only; omega) | (dsimp only [room_1]; omega) | (simp; done) | (simp [room_1]; done) | (simp [room_1]; omega)) fun T own_v own_L h2 own_e P own_q => ?_
      obtain ⟨⟨rfl, K, V_b'⟩, -⟩ := own_q
      clear own_e
      replace V_a := V_a.keep K (ninS ne_a_b nin0)
      replace Z0 := Nat.le_trans Z0 K.1
      replace OL := OL.keep K (allS g_b all0)
      replace KP := KP.trans K (allS (Or.inr sz_b) all0)
      show OwG p e below s _ _ _ _ T (mkF m 23 #[.val (.ref a), .val (.int (Int32.ofNat i)), .val (.int (Int32.ofNat n)), .val (.ref b), .val (.int (Int32.ofNat i))] [])
      rw [own_wb_step hn (by omega)] at V_b'
      have V_b := V_b'
      refine OwG.go (T' := T) (g' := (mkF m 8 #[.val (.ref a), .val (.int ((Int32.ofNat i) + (1 : Int32))), .val (.int (Int32.ofNat n)), .val (.ref b), .val (.int ((Int32.ofNat i) + (1 : Int32)))] [])) (fun tQ kQ => ?_) ?_
      · refine XS.iinc P.here hx rfl (Jvm.hb hby d18_23) rfl (l' := #[.val (.ref a), .val (.int ((Int32.ofNat i) + (1 : Int32))), .val (.int (Int32.ofNat n)), .val (.ref b), .val (.int (Int32.ofNat i))]) rfl ?_
        refine XS.iinc P.here hx rfl (Jvm.hb hby d18_26) rfl (l' := #[.val (.ref a), .val (.int ((Int32.ofNat i) + (1 : Int32))), .val (.int (Int32.ofNat n)), .val (.ref b), .val (.int ((Int32.ofNat i) + (1 : Int32)))]) rfl ?_
        refine XS.goto P.here hx rfl (pc0 := 29) (pc' := 8) rfl (Jvm.hb hby d18_29) (by decide) (by decide) ?_
        exact kQ
      rw [show ((Int32.ofNat i) + (1 : Int32)) = (Int32.ofNat (i + 1)) from own_succ _]
      show OwG p e below s _ _ _ _ T (mkF m 8 #[.val (.ref a), .val (.int (Int32.ofNat (i + 1))), .val (.int (Int32.ofNat n)), .val (.ref b), .val (.int (Int32.ofNat (i + 1)))] [])
      exact ih (i + 1) T h2 (by omega) P Z0 OL KP V_a V_b
  exact lp n 0 T h1 (by omega) P Z0 OL KP V_a V_b
theorem d6_0 : decode jdk_52_method_21_code 0 = .ok (.iconst 0, 1) := by decide +kernel
theorem d6_1 : decode jdk_52_method_21_code 1 = .ok (.istore 5, 2) := by decide +kernel
theorem d6_3 : decode jdk_52_method_21_code 3 = .ok (.iload 5, 2) := by decide +kernel
theorem d6_5 : decode jdk_52_method_21_code 5 = .ok (.iload 4, 2) := by decide +kernel
theorem d6_7 : decode jdk_52_method_21_code 7 = .ok (.if_icmp .ge 37, 3) := by decide +kernel
theorem d6_44 : decode jdk_52_method_21_code 44 = .ok (.iload 4, 2) := by decide +kernel
theorem d6_46 : decode jdk_52_method_21_code 46 = .ok (.ireturn, 1) := by decide +kernel
theorem d6_10 : decode jdk_52_method_21_code 10 = .ok (.aload_n 0, 1) := by decide +kernel
theorem d6_11 : decode jdk_52_method_21_code 11 = .ok (.iload_n 1, 1) := by decide +kernel
theorem d6_12 : decode jdk_52_method_21_code 12 = .ok (.caload, 1) := by decide +kernel
theorem d6_13 : decode jdk_52_method_21_code 13 = .ok (.istore 6, 2) := by decide +kernel
theorem d6_15 : decode jdk_52_method_21_code 15 = .ok (.iload 6, 2) := by decide +kernel
theorem d6_17 : decode jdk_52_method_21_code 17 = .ok (.sipush 255, 3) := by decide +kernel
theorem d6_20 : decode jdk_52_method_21_code 20 = .ok (.if_icmp .le 6, 3) := by decide +kernel
theorem d6_23 : decode jdk_52_method_21_code 23 = .ok (.iload 5, 2) := by decide +kernel
theorem d6_25 : decode jdk_52_method_21_code 25 = .ok (.ireturn, 1) := by decide +kernel
theorem d6_26 : decode jdk_52_method_21_code 26 = .ok (.aload_n 2, 1) := by decide +kernel
theorem d6_27 : decode jdk_52_method_21_code 27 = .ok (.iload_n 3, 1) := by decide +kernel
theorem d6_28 : decode jdk_52_method_21_code 28 = .ok (.iload 6, 2) := by decide +kernel
theorem d6_30 : decode jdk_52_method_21_code 30 = .ok (.i2b, 1) := by decide +kernel
theorem d6_31 : decode jdk_52_method_21_code 31 = .ok (.bastore, 1) := by decide +kernel
theorem d6_32 : decode jdk_52_method_21_code 32 = .ok (.iinc 1 1, 3) := by decide +kernel
theorem d6_35 : decode jdk_52_method_21_code 35 = .ok (.iinc 3 1, 3) := by decide +kernel
theorem d6_38 : decode jdk_52_method_21_code 38 = .ok (.iinc 5 1, 3) := by decide +kernel
theorem d6_41 : decode jdk_52_method_21_code 41 = .ok (.goto (-38), 3) := by decide +kernel
set_option maxRecDepth 65536 in
set_option maxHeartbeats 40000000 in
theorem rmC5 (l : Launch) (Z : State) (a0 : Array Value) (hw : ∀ d ∈ tables_1, d.before a0 Z = true) (a : Addr) (ka : ClassId) (da : Value) (n : Nat) (cs : List Int32) (d : Addr) (kd : ClassId) (h0 : Heap) (n0 : Nat) (Z0 : n0 ≤ h0.size) (V_a : Arv Z h0 a ka .char (Int32.ofNat n) (cs.map Value.int) da) (hn : cs.length = n) (hb : n ≤ 4000) (g_d : n0 ≤ d) (ne_a_d : a ≠ d) (V_d : Arv Z h0 d kd .byte (Int32.ofNat n) (own_lb cs n 0) (.int (0 : Int32))) :
    OwM l Z (⟨"java/lang/StringUTF16", "compress", "([CI[BII)I"⟩ : MethodName) jdk_52_method_21_code 7 (some .int) ({ frames := 0, cells := 0, slots := 0, locals := 0 } : Room) n0 #[(.ref a), (.int (0 : Int32)), (.ref d), (.int (0 : Int32)), (.int (Int32.ofNat n))] h0 (fun v h => ∃ r : Nat, v = some (.int (Int32.ofNat r)) ∧ Keep h0 h [d] ∧ ((r = n ∧ (∀ c ∈ cs, ¬ (255 : Int32) < c) ∧ Arv Z h d kd .byte (Int32.ofNat n) (cs.map fun c => Value.int (StrChars.lo8 c)) (.int (0 : Int32))) ∨ (r < n ∧ (255 : Int32) < cs.getD r 0))) := by
  refine OwM.mk (plainFor_of_name pn_java_lang_StringUTF16) ?_
  intro p e s m below meth cD T hx hby hml hown hnm hret hlk hZ P
  refine OwG.cast (show entryFrame m #[(.ref a), (.int (0 : Int32)), (.ref d), (.int (0 : Int32)), (.int (Int32.ofNat n))] 7 = mkF m 0 #[.val (.ref a), .val (.int (0 : Int32)), .val (.ref d), .val (.int (0 : Int32)), .val (.int (Int32.ofNat n)), .unset, .unset] [] from by first | (simp [entryFrame, mkF, argsToLocals, Value.category]; done) | rfl) ?_
  have KP := Keep.refl h0 [d]
  refine OwG.go (T' := T) (g' := (mkF m 3 #[.val (.ref a), .val (.int (0 : Int32)), .val (.ref d), .val (.int (0 : Int32)), .val (.int (Int32.ofNat n)), .val (.int (0 : Int32)), .unset] [])) (fun tQ kQ => ?_) ?_
  · refine XS.iconst P.here hx rfl (Jvm.hb hby d6_0) ?_
    refine XS.istore P.here hx rfl (Jvm.hb hby d6_1) rfl (l' := #[.val (.ref a), .val (.int (0 : Int32)), .val (.ref d), .val (.int (0 : Int32)), .val (.int (Int32.ofNat n)), .val (.int (0 : Int32)), .unset]) rfl ?_
    exact kQ
  have lp : ∀ (k i : Nat) (T : State) (hL_lp : Heap) (s6 : Slot), i + k = n → OwP p l e ({ frames := 0, cells := 0, slots := 0, locals := 0 } : Room) s m #[(.ref a), (.int (0 : Int32)), (.ref d), (.int (0 : Int32)), (.int (Int32.ofNat n))] below meth cD n0 T hL_lp 0 0 → (n0 ≤ hL_lp.size) → (Keep h0 hL_lp [d]) → (Arv Z hL_lp a ka .char (Int32.ofNat n) (cs.map Value.int) da) → (Arv Z hL_lp d kd .byte (Int32.ofNat n) (own_lb cs n i) (.int (0 : Int32))) → (s6 = .unset ∨ ∃ w, s6 = .val w ∧ w.category = 1) → (∀ j, j < i → ¬ (255 : Int32) < cs.getD j 0) → OwG p e below s n0 ({ frames := 0, cells := 0, slots := 0, locals := 0 } : Room).cells ({ frames := 0, cells := 0, slots := 0, locals := 0 } : Room).slots (fun v h => ∃ r : Nat, v = some (.int (Int32.ofNat r)) ∧ Keep h0 h [d] ∧ ((r = n ∧ (∀ c ∈ cs, ¬ (255 : Int32) < c) ∧ Arv Z h d kd .byte (Int32.ofNat n) (cs.map fun c => Value.int (StrChars.lo8 c)) (.int (0 : Int32))) ∨ (r < n ∧ (255 : Int32) < cs.getD r 0))) T (mkF m 3 #[.val (.ref a), .val (.int (Int32.ofNat i)), .val (.ref d), .val (.int (Int32.ofNat i)), .val (.int (Int32.ofNat n)), .val (.int (Int32.ofNat i)), s6] []) := by
    intro k
    induction k with
    | zero =>
      intro i T hL_lp s6 hik P Z0 KP V_a V_d hs6 hle
      refine OwG.go (T' := T) (g' := (mkF m 7 #[.val (.ref a), .val (.int (Int32.ofNat i)), .val (.ref d), .val (.int (Int32.ofNat i)), .val (.int (Int32.ofNat n)), .val (.int (Int32.ofNat i)), s6] [(.int (Int32.ofNat n)), (.int (Int32.ofNat i))])) (fun tQ kQ => ?_) ?_
      · refine XS.iload P.here hx rfl (Jvm.hb hby d6_3) rfl ?_
        refine XS.iload P.here hx rfl (Jvm.hb hby d6_5) rfl ?_
        exact kQ
      have own_i : i = n := by omega
      refine OwG.go (T' := T) (g' := (mkF m 44 #[.val (.ref a), .val (.int (Int32.ofNat i)), .val (.ref d), .val (.int (Int32.ofNat i)), .val (.int (Int32.ofNat n)), .val (.int (Int32.ofNat i)), s6] [])) (fun tQ kQ => ?_) ?_
      · refine XS.icmpYes P.here hx rfl (pc0 := 7) (pc' := 44) rfl (Jvm.hb hby d6_7) rfl (flt (own_nlt (by omega) (by omega))).2.1 (by decide) (by decide) ?_
        exact kQ
      refine OwG.go (T' := T) (g' := (mkF m 46 #[.val (.ref a), .val (.int (Int32.ofNat i)), .val (.ref d), .val (.int (Int32.ofNat i)), .val (.int (Int32.ofNat n)), .val (.int (Int32.ofNat i)), s6] [(.int (Int32.ofNat n))])) (fun tQ kQ => ?_) ?_
      · refine XS.iload P.here hx rfl (Jvm.hb hby d6_44) rfl ?_
        exact kQ
      rw [own_i, own_lb_end hn] at V_d
      exact P.retI hx hlk hret (Jvm.hb hby d6_46) (by first | decide | omega | (dsimp only; omega) | (dsimp only [room_1]; omega) | (simp; done) | (simp [room_1]; done) | (simp [room_1]; omega)) (by first | decide | omega | (dsimp only; omega) | (dsimp only [room_1]; omega) | (simp; done) | (simp [room_1]; done) | (simp [room_1]; omega)) ⟨n, rfl, KP, Or.inl ⟨rfl, own_all hn (fun j hj => hle j (by omega)), V_d⟩⟩
    | succ k ih =>
      intro i T hL_lp s6 hik P Z0 KP V_a V_d hs6 hle
      refine OwG.go (T' := T) (g' := (mkF m 7 #[.val (.ref a), .val (.int (Int32.ofNat i)), .val (.ref d), .val (.int (Int32.ofNat i)), .val (.int (Int32.ofNat n)), .val (.int (Int32.ofNat i)), s6] [(.int (Int32.ofNat n)), (.int (Int32.ofNat i))])) (fun tQ kQ => ?_) ?_
      · refine XS.iload P.here hx rfl (Jvm.hb hby d6_3) rfl ?_
        refine XS.iload P.here hx rfl (Jvm.hb hby d6_5) rfl ?_
        exact kQ
      refine OwG.go (T' := T) (g' := (mkF m 10 #[.val (.ref a), .val (.int (Int32.ofNat i)), .val (.ref d), .val (.int (Int32.ofNat i)), .val (.int (Int32.ofNat n)), .val (.int (Int32.ofNat i)), s6] [])) (fun tQ kQ => ?_) ?_
      · refine XS.icmpNo P.here hx rfl (Jvm.hb hby d6_7) rfl (tlt (own_lt (by omega) (by omega))).2.1 ?_
        exact kQ
      refine OwG.go (T' := T) (g' := (mkF m 12 #[.val (.ref a), .val (.int (Int32.ofNat i)), .val (.ref d), .val (.int (Int32.ofNat i)), .val (.int (Int32.ofNat n)), .val (.int (Int32.ofNat i)), s6] [(.int (Int32.ofNat i)), (.ref a)])) (fun tQ kQ => ?_) ?_
      · refine XS.aloadN P.here hx rfl (Jvm.hb hby d6_10) rfl rfl ?_
        refine XS.iloadN P.here hx rfl (Jvm.hb hby d6_11) rfl ?_
        exact kQ
      obtain ⟨own_cl, own_A, own_q1, own_S, own_M, own_H, own_U⟩ := id V_a
      obtain ⟨own_L, own_X, own_e, own_N⟩ := id P
      have own_Z := hZ
      have own_in := inb_of own_S (j := (Int32.ofNat i)) ⟨own_nn (by omega), own_lt (by omega) (by omega)⟩
      refine OwG.go (T' := T) (g' := (mkF m 13 #[.val (.ref a), .val (.int (Int32.ofNat i)), .val (.ref d), .val (.int (Int32.ofNat i)), .val (.int (Int32.ofNat n)), .val (.int (Int32.ofNat i)), s6] [(.int (cs.getD i 0))])) (fun tQ kQ => ?_) ?_
      · refine own_X.caload hx (j := (Int32.ofNat i)) (v := (.int (cs.getD i 0))) (by rw [own_e]; exact own_A.1) (State.isArrayOf_alike own_Z.alike own_A.2.1) own_A.2.2 own_in (Has.at own_H own_in (own_chat (by omega) (by omega))) (g := (mkF m 12 #[.val (.ref a), .val (.int (Int32.ofNat i)), .val (.ref d), .val (.int (Int32.ofNat i)), .val (.int (Int32.ofNat n)), .val (.int (Int32.ofNat i)), s6] [(.int (Int32.ofNat i)), (.ref a)])) rfl rfl (Jvm.hb hby d6_12) _ ?_
        exact kQ
      refine OwG.go (T' := T) (g' := (mkF m 20 #[.val (.ref a), .val (.int (Int32.ofNat i)), .val (.ref d), .val (.int (Int32.ofNat i)), .val (.int (Int32.ofNat n)), .val (.int (Int32.ofNat i)), .val (.int (cs.getD i 0))] [(.int (255 : Int32)), (.int (cs.getD i 0))])) (fun tQ kQ => ?_) ?_
      · refine XS.istore P.here hx rfl (Jvm.hb hby d6_13) rfl (l' := #[.val (.ref a), .val (.int (Int32.ofNat i)), .val (.ref d), .val (.int (Int32.ofNat i)), .val (.int (Int32.ofNat n)), .val (.int (Int32.ofNat i)), .val (.int (cs.getD i 0))]) (XS.store1 rfl hs6 rfl) ?_
        refine XS.iload P.here hx rfl (Jvm.hb hby d6_15) rfl ?_
        refine XS.sipush P.here hx rfl (Jvm.hb hby d6_17) ?_
        exact kQ
      by_cases hc20 : (255 : Int32) < (cs.getD i 0)
      · skip
        refine OwG.go (T' := T) (g' := (mkF m 23 #[.val (.ref a), .val (.int (Int32.ofNat i)), .val (.ref d), .val (.int (Int32.ofNat i)), .val (.int (Int32.ofNat n)), .val (.int (Int32.ofNat i)), .val (.int (cs.getD i 0))] [])) (fun tQ kQ => ?_) ?_
        · refine XS.icmpNo P.here hx rfl (Jvm.hb hby d6_20) rfl (tlt hc20).2.2.2 ?_
          exact kQ
        refine OwG.go (T' := T) (g' := (mkF m 25 #[.val (.ref a), .val (.int (Int32.ofNat i)), .val (.ref d), .val (.int (Int32.ofNat i)), .val (.int (Int32.ofNat n)), .val (.int (Int32.ofNat i)), .val (.int (cs.getD i 0))] [(.int (Int32.ofNat i))])) (fun tQ kQ => ?_) ?_
        · refine XS.iload P.here hx rfl (Jvm.hb hby d6_23) rfl ?_
          exact kQ
        exact P.retI hx hlk hret (Jvm.hb hby d6_25) (by first | decide | omega | (dsimp only; omega) | (dsimp only [room_1]; omega) | (simp; done) | (simp [room_1]; done) | (simp [room_1]; omega)) (by first | decide | omega | (dsimp only; omega) | (dsimp only [room_1]; omega) | (simp; done) | (simp [room_1]; done) | (simp [room_1]; omega)) ⟨i, rfl, KP, Or.inr ⟨by omega, hc20⟩⟩
      · skip
        refine OwG.go (T' := T) (g' := (mkF m 26 #[.val (.ref a), .val (.int (Int32.ofNat i)), .val (.ref d), .val (.int (Int32.ofNat i)), .val (.int (Int32.ofNat n)), .val (.int (Int32.ofNat i)), .val (.int (cs.getD i 0))] [])) (fun tQ kQ => ?_) ?_
        · refine XS.icmpYes P.here hx rfl (pc0 := 20) (pc' := 26) rfl (Jvm.hb hby d6_20) rfl (flt hc20).2.2.2 (by decide) (by decide) ?_
          exact kQ
        refine OwG.go (T' := T) (g' := (mkF m 31 #[.val (.ref a), .val (.int (Int32.ofNat i)), .val (.ref d), .val (.int (Int32.ofNat i)), .val (.int (Int32.ofNat n)), .val (.int (Int32.ofNat i)), .val (.int (cs.getD i 0))] [(.int ((cs.getD i 0).toInt8.toInt32)), (.int (Int32.ofNat i)), (.ref d)])) (fun tQ kQ => ?_) ?_
        · refine XS.aloadN P.here hx rfl (Jvm.hb hby d6_26) rfl rfl ?_
          refine XS.iloadN P.here hx rfl (Jvm.hb hby d6_27) rfl ?_
          refine XS.iload P.here hx rfl (Jvm.hb hby d6_28) rfl ?_
          refine XS.i2b P.here hx rfl (Jvm.hb hby d6_30) rfl ?_
          exact kQ
        refine P.stB hx hZ V_d (j := (Int32.ofNat i)) (own_nn (by omega)) (own_lt (by omega) (by omega)) (i := i) (own_tc (by omega)) (by rw [own_lb_len hn (by omega)]; omega) (g := (mkF m 31 #[.val (.ref a), .val (.int (Int32.ofNat i)), .val (.ref d), .val (.int (Int32.ofNat i)), .val (.int (Int32.ofNat n)), .val (.int (Int32.ofNat i)), .val (.int (cs.getD i 0))] [(.int ((cs.getD i 0).toInt8.toInt32)), (.int (Int32.ofNat i)), (.ref d)])) rfl rfl (Jvm.hb hby d6_31) g_d fun T h1 P W V' => ?_
        replace V_a := V_a.other W ne_a_d
        replace Z0 := Nat.le_trans Z0 (Keep.of_wr W).1
        replace KP := KP.wr W (Or.inl (List.mem_of_getElem? (i := 0) rfl))
        replace V_d := V'
        clear W V'
        show OwG p e below s _ _ _ _ T (mkF m 32 #[.val (.ref a), .val (.int (Int32.ofNat i)), .val (.ref d), .val (.int (Int32.ofNat i)), .val (.int (Int32.ofNat n)), .val (.int (Int32.ofNat i)), .val (.int (cs.getD i 0))] [])
        rw [own_i2b2] at V_d
        replace V_d : Arv Z h1 d kd .byte (Int32.ofNat n) ((own_lb cs n i).set i (.int (StrChars.lo8 (cs.getD i 0)))) (.int (0 : Int32)) := V_d
        rw [own_lb_step hn (by omega)] at V_d
        refine OwG.go (T' := T) (g' := (mkF m 3 #[.val (.ref a), .val (.int ((Int32.ofNat i) + (1 : Int32))), .val (.ref d), .val (.int ((Int32.ofNat i) + (1 : Int32))), .val (.int (Int32.ofNat n)), .val (.int ((Int32.ofNat i) + (1 : Int32))), .val (.int (cs.getD i 0))] [])) (fun tQ kQ => ?_) ?_
        · refine XS.iinc P.here hx rfl (Jvm.hb hby d6_32) rfl (l' := #[.val (.ref a), .val (.int ((Int32.ofNat i) + (1 : Int32))), .val (.ref d), .val (.int (Int32.ofNat i)), .val (.int (Int32.ofNat n)), .val (.int (Int32.ofNat i)), .val (.int (cs.getD i 0))]) rfl ?_
          refine XS.iinc P.here hx rfl (Jvm.hb hby d6_35) rfl (l' := #[.val (.ref a), .val (.int ((Int32.ofNat i) + (1 : Int32))), .val (.ref d), .val (.int ((Int32.ofNat i) + (1 : Int32))), .val (.int (Int32.ofNat n)), .val (.int (Int32.ofNat i)), .val (.int (cs.getD i 0))]) rfl ?_
          refine XS.iinc P.here hx rfl (Jvm.hb hby d6_38) rfl (l' := #[.val (.ref a), .val (.int ((Int32.ofNat i) + (1 : Int32))), .val (.ref d), .val (.int ((Int32.ofNat i) + (1 : Int32))), .val (.int (Int32.ofNat n)), .val (.int ((Int32.ofNat i) + (1 : Int32))), .val (.int (cs.getD i 0))]) rfl ?_
          refine XS.goto P.here hx rfl (pc0 := 41) (pc' := 3) rfl (Jvm.hb hby d6_41) (by decide) (by decide) ?_
          exact kQ
        rw [show ((Int32.ofNat i) + (1 : Int32)) = (Int32.ofNat (i + 1)) from own_succ _]
        show OwG p e below s _ _ _ _ T (mkF m 3 #[.val (.ref a), .val (.int (Int32.ofNat (i + 1))), .val (.ref d), .val (.int (Int32.ofNat (i + 1))), .val (.int (Int32.ofNat n)), .val (.int (Int32.ofNat (i + 1))), .val (.int (cs.getD i 0))] [])
        exact ih (i + 1) T h1 _ (by omega) P Z0 KP V_a V_d (Or.inr ⟨_, rfl, rfl⟩) (fun j hj => (Nat.lt_succ_iff_lt_or_eq.mp hj).elim (hle j) (fun q => by rw [q]; exact hc20))
  exact lp n 0 T h0 _ (by omega) P Z0 KP V_a V_d (Or.inl rfl) (fun j hj => absurd hj (Nat.not_lt_zero j))
theorem d5_0 : decode jdk_52_method_16_code 0 = .ok (.iload_n 2, 1) := by decide +kernel
theorem d5_1 : decode jdk_52_method_16_code 1 = .ok (.newarray .byte, 2) := by decide +kernel
theorem d5_3 : decode jdk_52_method_16_code 3 = .ok (.astore_n 3, 1) := by decide +kernel
theorem d5_4 : decode jdk_52_method_16_code 4 = .ok (.aload_n 0, 1) := by decide +kernel
theorem d5_5 : decode jdk_52_method_16_code 5 = .ok (.iload_n 1, 1) := by decide +kernel
theorem d5_6 : decode jdk_52_method_16_code 6 = .ok (.aload_n 3, 1) := by decide +kernel
theorem d5_7 : decode jdk_52_method_16_code 7 = .ok (.iconst 0, 1) := by decide +kernel
theorem d5_8 : decode jdk_52_method_16_code 8 = .ok (.iload_n 2, 1) := by decide +kernel
theorem d5_9 : decode jdk_52_method_16_code 9 = .ok (.invokestatic 115, 3) := by decide +kernel
theorem pd___CI_BII_I : parseMethodDescriptor "([CI[BII)I" = some ⟨[(.array .char), .int, (.array .byte), .int, .int], some .int⟩ := by decide +kernel
theorem d5_12 : decode jdk_52_method_16_code 12 = .ok (.istore 4, 2) := by decide +kernel
theorem d5_14 : decode jdk_52_method_16_code 14 = .ok (.iload 4, 2) := by decide +kernel
theorem d5_16 : decode jdk_52_method_16_code 16 = .ok (.iload_n 2, 1) := by decide +kernel
theorem d5_17 : decode jdk_52_method_16_code 17 = .ok (.if_icmp .eq 40, 3) := by decide +kernel
theorem d5_57 : decode jdk_52_method_16_code 57 = .ok (.aload_n 3, 1) := by decide +kernel
theorem d5_58 : decode jdk_52_method_16_code 58 = .ok (.areturn, 1) := by decide +kernel
theorem d5_20 : decode jdk_52_method_16_code 20 = .ok (.aload_n 0, 1) := by decide +kernel
theorem d5_21 : decode jdk_52_method_16_code 21 = .ok (.iload_n 1, 1) := by decide +kernel
theorem d5_22 : decode jdk_52_method_16_code 22 = .ok (.iload_n 2, 1) := by decide +kernel
theorem d5_23 : decode jdk_52_method_16_code 23 = .ok (.invokestatic 119, 3) := by decide +kernel
theorem pd___CII__B : parseMethodDescriptor "([CII)[B" = some ⟨[(.array .char), .int, .int], some (.array .byte)⟩ := by decide +kernel
theorem d5_26 : decode jdk_52_method_16_code 26 = .ok (.astore 5, 2) := by decide +kernel
theorem d5_28 : decode jdk_52_method_16_code 28 = .ok (.aload 5, 2) := by decide +kernel
theorem d5_30 : decode jdk_52_method_16_code 30 = .ok (.iload 4, 2) := by decide +kernel
theorem d5_32 : decode jdk_52_method_16_code 32 = .ok (.invokestatic 71, 3) := by decide +kernel
theorem pd___BI_C : parseMethodDescriptor "([BI)C" = some ⟨[(.array .byte), .int], some .char⟩ := by decide +kernel
theorem d5_35 : decode jdk_52_method_16_code 35 = .ok (.sipush 255, 3) := by decide +kernel
theorem d5_38 : decode jdk_52_method_16_code 38 = .ok (.if_icmp .gt 16, 3) := by decide +kernel
theorem d5_54 : decode jdk_52_method_16_code 54 = .ok (.aload 5, 2) := by decide +kernel
theorem d5_56 : decode jdk_52_method_16_code 56 = .ok (.areturn, 1) := by decide +kernel
set_option maxRecDepth 65536 in
set_option maxHeartbeats 40000000 in
theorem rmC3 (l : Launch) (Z : State) (a0 : Array Value) (hw : ∀ d ∈ tables_1, d.before a0 Z = true) (a : Addr) (ka : ClassId) (da : Value) (n : Nat) (cs : List Int32) (h0 : Heap) (n0 : Nat) (Z0 : n0 ≤ h0.size) (SA : Sta Z Z.heap "java/lang/StringUTF16" "$assertionsDisabled" "Z" (.int (1 : Int32))) (SH : Sta Z Z.heap "java/lang/StringUTF16" "HI_BYTE_SHIFT" "I" (.int (0 : Int32))) (SL : Sta Z Z.heap "java/lang/StringUTF16" "LO_BYTE_SHIFT" "I" (.int (8 : Int32))) (OL : Old Z n0 h0) (V_a : Arv Z h0 a ka .char (Int32.ofNat n) (cs.map Value.int) da) (hn : cs.length = n) (hb : n ≤ 4000) (h0n : 0 < n) (hp : ∀ c ∈ cs, ¬ c < 0 ∧ ¬ (65535 : Int32) < c) :
    OwM l Z (⟨"java/lang/StringUTF16", "compress", "([CII)[B"⟩ : MethodName) jdk_52_method_16_code 6 (some (.array .byte)) ({ frames := 3, cells := 2, slots := 3 * n, locals := 42 } : Room) n0 #[(.ref a), (.int (0 : Int32)), (.int (Int32.ofNat n))] h0 (fun v h => ∃ (t : Addr) (kt : ClassId) (cd N2 : Int32) (vs : List Value), v = some (.ref t) ∧ h0.size ≤ t ∧ Keep h0 h [] ∧ Arv Z h t kt .byte N2 vs (.int (0 : Int32)) ∧ StrChars.Road.CodA cs cd N2 vs) := by
  refine OwM.mk (plainFor_of_name pn_java_lang_StringUTF16) ?_
  intro p e s m below meth cD T hx hby hml hown hnm hret hlk hZ P
  refine OwG.cast (show entryFrame m #[(.ref a), (.int (0 : Int32)), (.int (Int32.ofNat n))] 6 = mkF m 0 #[.val (.ref a), .val (.int (0 : Int32)), .val (.int (Int32.ofNat n)), .unset, .unset, .unset] [] from by first | (simp [entryFrame, mkF, argsToLocals, Value.category]; done) | rfl) ?_
  have KP := Keep.refl h0 []
  refine OwG.go (T' := T) (g' := (mkF m 1 #[.val (.ref a), .val (.int (0 : Int32)), .val (.int (Int32.ofNat n)), .unset, .unset, .unset] [(.int (Int32.ofNat n))])) (fun tQ kQ => ?_) ?_
  · refine XS.iloadN P.here hx rfl (Jvm.hb hby d5_0) rfl ?_
    exact kQ
  refine P.newP hx hZ (hw _ (List.mem_of_getElem? (i := 19) rfl)) (g := (mkF m 1 #[.val (.ref a), .val (.int (0 : Int32)), .val (.int (Int32.ofNat n)), .unset, .unset, .unset] [(.int (Int32.ofNat n))])) rfl (Jvm.hb hby d5_1) rfl (own_nn (by omega)) (cap := n) (Nat.le_of_eq (own_tc (by omega))) (by omega) (by first | decide | omega | (dsimp only; omega) | (dsimp only [room_1]; omega) | (simp; done) | (simp [room_1]; done) | (simp [room_1]; omega)) (by first | decide | omega | (dsimp only; omega) | (dsimp only [room_1]; omega) | (simp; done) | (simp [room_1]; done) | (simp [room_1]; omega)) fun T h1 b kb gb P E V_b => ?_
  have ne_a_b : a ≠ b := Nat.ne_of_lt (Nat.lt_of_lt_of_le V_a.lt (Nat.le_of_eq gb.symm))
  have ne_b_a := Ne.symm ne_a_b
  have g_b : n0 ≤ b := Nat.le_trans Z0 (Nat.le_of_eq gb.symm)
  have sz_b : h0.size ≤ b := Nat.le_trans KP.1 (Nat.le_of_eq gb.symm)
  replace V_a := V_a.ext E
  replace Z0 := Nat.le_trans Z0 E.1
  replace OL := OL.ext E
  replace KP := KP.ext E
  clear E
  replace V_b : Arv Z h1 b kb .byte (Int32.ofNat n) (List.replicate n (.int (0 : Int32))) (.int (0 : Int32)) := V_b.pad (pad_rep [] (.int (0 : Int32)) n)
  show OwG p e below s _ _ _ _ T (mkF m 3 #[.val (.ref a), .val (.int (0 : Int32)), .val (.int (Int32.ofNat n)), .unset, .unset, .unset] [(.ref b)])
  refine OwG.go (T' := T) (g' := (mkF m 9 #[.val (.ref a), .val (.int (0 : Int32)), .val (.int (Int32.ofNat n)), .val (.ref b), .unset, .unset] [(.int (Int32.ofNat n)), (.int (0 : Int32)), (.ref b), (.int (0 : Int32)), (.ref a)])) (fun tQ kQ => ?_) ?_
  · refine XS.astoreN P.here hx rfl (Jvm.hb hby d5_3) rfl rfl (l' := #[.val (.ref a), .val (.int (0 : Int32)), .val (.int (Int32.ofNat n)), .val (.ref b), .unset, .unset]) rfl ?_
    refine XS.aloadN P.here hx rfl (Jvm.hb hby d5_4) rfl rfl ?_
    refine XS.iloadN P.here hx rfl (Jvm.hb hby d5_5) rfl ?_
    refine XS.aloadN P.here hx rfl (Jvm.hb hby d5_6) rfl rfl ?_
    refine XS.iconst P.here hx rfl (Jvm.hb hby d5_7) ?_
    refine XS.iloadN P.here hx rfl (Jvm.hb hby d5_8) rfl ?_
    exact kQ
  refine P.stat hx hZ (y := (⟨"java/lang/StringUTF16", "compress", "([CI[BII)I"⟩ : MethodName)) hown (hw _ (List.mem_of_getElem? (i := 31) rfl)) (hw _ (List.mem_of_getElem? (i := 32) rfl)) (hw _ (List.mem_of_getElem? (i := 29) rfl)) (hw _ (List.mem_of_getElem? (i := 33) rfl)) (by decide) (OwM.back (W := 0) (rmC5 l Z a0 hw a ka da n cs b kb h1 n0 Z0 V_a hn hb g_b ne_a_b V_b) hZ (hw _ (List.mem_of_getElem? (i := 33) rfl)) (hw _ (List.mem_of_getElem? (i := 29) rfl)) (own_le rfl) (own_le rfl)) (fun _ _ _ q => q.2) (g := (mkF m 9 #[.val (.ref a), .val (.int (0 : Int32)), .val (.int (Int32.ofNat n)), .val (.ref b), .unset, .unset] [(.int (Int32.ofNat n)), (.int (0 : Int32)), (.ref b), (.int (0 : Int32)), (.ref a)])) rfl (by rw [hml]; rfl) (argsL := [(.ref a), (.int (0 : Int32)), (.ref b), (.int (0 : Int32)), (.int (Int32.ofNat n))]) (rest := []) (lenOf pd___CI_BII_I rfl) rfl (by show 2 * 0 + _ ≤ _; exact Nat.le_of_eq rfl) (Jvm.hb hby d5_9) rfl (by first | decide | omega | (dsimp only; omega) | (dsimp only [room_1]; omega) | (simp; done) | (simp [room_1]; done) | (simp [room_1]; omega)) (by first | decide | omega | (dsimp only; omega) | (dsimp only [room_1]; omega) | (simp; done) | (simp [room_1]; done) | (simp [room_1]; omega)) fun T own_v own_L h2 own_e P own_q => ?_
  obtain ⟨⟨r, rfl, K, hr⟩, -⟩ := own_q
  clear own_e
  replace V_a := V_a.keep K (ninS ne_a_b nin0)
  replace Z0 := Nat.le_trans Z0 K.1
  replace OL := OL.keep K (allS g_b all0)
  replace KP := KP.trans K (allS (Or.inr sz_b) all0)
  show OwG p e below s _ _ _ _ T (mkF m 12 #[.val (.ref a), .val (.int (0 : Int32)), .val (.int (Int32.ofNat n)), .val (.ref b), .unset, .unset] [(.int (Int32.ofNat r))])
  refine OwG.go (T' := T) (g' := (mkF m 17 #[.val (.ref a), .val (.int (0 : Int32)), .val (.int (Int32.ofNat n)), .val (.ref b), .val (.int (Int32.ofNat r)), .unset] [(.int (Int32.ofNat n)), (.int (Int32.ofNat r))])) (fun tQ kQ => ?_) ?_
  · refine XS.istore P.here hx rfl (Jvm.hb hby d5_12) rfl (l' := #[.val (.ref a), .val (.int (0 : Int32)), .val (.int (Int32.ofNat n)), .val (.ref b), .val (.int (Int32.ofNat r)), .unset]) rfl ?_
    refine XS.iload P.here hx rfl (Jvm.hb hby d5_14) rfl ?_
    refine XS.iloadN P.here hx rfl (Jvm.hb hby d5_16) rfl ?_
    exact kQ
  rcases hr with ⟨rfl, hall, V_b'⟩ | ⟨hr, hbig⟩
  · skip
    refine OwG.go (T' := T) (g' := (mkF m 57 #[.val (.ref a), .val (.int (0 : Int32)), .val (.int (Int32.ofNat r)), .val (.ref b), .val (.int (Int32.ofNat r)), .unset] [])) (fun tQ kQ => ?_) ?_
    · refine XS.icmpYes P.here hx rfl (pc0 := 17) (pc' := 57) rfl (Jvm.hb hby d5_17) rfl (teq rfl).1 (by decide) (by decide) ?_
      exact kQ
    refine OwG.go (T' := T) (g' := (mkF m 58 #[.val (.ref a), .val (.int (0 : Int32)), .val (.int (Int32.ofNat r)), .val (.ref b), .val (.int (Int32.ofNat r)), .unset] [(.ref b)])) (fun tQ kQ => ?_) ?_
    · refine XS.aloadN P.here hx rfl (Jvm.hb hby d5_57) rfl rfl ?_
      exact kQ
    exact P.retR hx hlk hret rfl rfl (Jvm.hb hby d5_58) (by first | decide | omega | (dsimp only; omega) | (dsimp only [room_1]; omega) | (simp; done) | (simp [room_1]; done) | (simp [room_1]; omega)) (by first | decide | omega | (dsimp only; omega) | (dsimp only [room_1]; omega) | (simp; done) | (simp [room_1]; done) | (simp [room_1]; omega)) ⟨b, kb, 0, _, _, rfl, sz_b, KP, V_b', Or.inl ⟨rfl, by rw [hn], rfl, hall⟩⟩
  · skip
    refine OwG.go (T' := T) (g' := (mkF m 20 #[.val (.ref a), .val (.int (0 : Int32)), .val (.int (Int32.ofNat n)), .val (.ref b), .val (.int (Int32.ofNat r)), .unset] [])) (fun tQ kQ => ?_) ?_
    · refine XS.icmpNo P.here hx rfl (Jvm.hb hby d5_17) rfl (feq (own_ne32 (by omega) (by omega) (by omega))).1 ?_
      exact kQ
    refine OwG.go (T' := T) (g' := (mkF m 23 #[.val (.ref a), .val (.int (0 : Int32)), .val (.int (Int32.ofNat n)), .val (.ref b), .val (.int (Int32.ofNat r)), .unset] [(.int (Int32.ofNat n)), (.int (0 : Int32)), (.ref a)])) (fun tQ kQ => ?_) ?_
    · refine XS.aloadN P.here hx rfl (Jvm.hb hby d5_20) rfl rfl ?_
      refine XS.iloadN P.here hx rfl (Jvm.hb hby d5_21) rfl ?_
      refine XS.iloadN P.here hx rfl (Jvm.hb hby d5_22) rfl ?_
      exact kQ
    refine P.stat hx hZ (y := (⟨"java/lang/StringUTF16", "toBytes", "([CII)[B"⟩ : MethodName)) hown (hw _ (List.mem_of_getElem? (i := 82) rfl)) (hw _ (List.mem_of_getElem? (i := 83) rfl)) (hw _ (List.mem_of_getElem? (i := 29) rfl)) (hw _ (List.mem_of_getElem? (i := 84) rfl)) (by decide) (OwM.back (W := 0) (rmTob l Z a0 hw a ka da n cs h2 n0 Z0 SA SH SL OL V_a hn hb) hZ (hw _ (List.mem_of_getElem? (i := 84) rfl)) (hw _ (List.mem_of_getElem? (i := 29) rfl)) (own_le rfl) (own_le rfl)) (fun _ _ _ q => q.2) (g := (mkF m 23 #[.val (.ref a), .val (.int (0 : Int32)), .val (.int (Int32.ofNat n)), .val (.ref b), .val (.int (Int32.ofNat r)), .unset] [(.int (Int32.ofNat n)), (.int (0 : Int32)), (.ref a)])) rfl (by rw [hml]; rfl) (argsL := [(.ref a), (.int (0 : Int32)), (.int (Int32.ofNat n))]) (rest := []) (lenOf pd___CII__B rfl) rfl (by show 2 * 0 + _ ≤ _; exact Nat.le_of_eq rfl) (Jvm.hb hby d5_23) rfl (by first | decide | omega | (dsimp only; omega) | (dsimp only [room_1]; omega) | (simp; done) | (simp [room_1]; done) | (simp [room_1]; omega)) (by first | decide | omega | (dsimp only; omega) | (dsimp only [room_1]; omega) | (simp; done) | (simp [room_1]; done) | (simp [room_1]; omega)) fun T own_v own_L h3 own_e P own_q => ?_
    obtain ⟨⟨t, kt, rfl, gt, K, V_t⟩, -⟩ := own_q
    show OwG p e below s _ _ _ _ T (mkF m 26 #[.val (.ref a), .val (.int (0 : Int32)), .val (.int (Int32.ofNat n)), .val (.ref b), .val (.int (Int32.ofNat r)), .unset] [(.ref t)])
    clear own_e
    have ne_a_t : a ≠ t := Nat.ne_of_lt (Nat.lt_of_lt_of_le V_a.lt (Nat.le_of_eq gt.symm))
    have ne_t_a := Ne.symm ne_a_t
    have g_t : n0 ≤ t := Nat.le_trans Z0 (Nat.le_of_eq gt.symm)
    have sz_t : h0.size ≤ t := Nat.le_trans KP.1 (Nat.le_of_eq gt.symm)
    replace V_a := V_a.keep K nin0
    replace Z0 := Nat.le_trans Z0 K.1
    replace OL := OL.keep K all0
    replace KP := KP.trans K all0
    refine OwG.go (T' := T) (g' := (mkF m 32 #[.val (.ref a), .val (.int (0 : Int32)), .val (.int (Int32.ofNat n)), .val (.ref b), .val (.int (Int32.ofNat r)), .val (.ref t)] [(.int (Int32.ofNat r)), (.ref t)])) (fun tQ kQ => ?_) ?_
    · refine XS.astore P.here hx rfl (Jvm.hb hby d5_26) rfl rfl (l' := #[.val (.ref a), .val (.int (0 : Int32)), .val (.int (Int32.ofNat n)), .val (.ref b), .val (.int (Int32.ofNat r)), .val (.ref t)]) rfl ?_
      refine XS.aload P.here hx rfl (Jvm.hb hby d5_28) rfl rfl ?_
      refine XS.iload P.here hx rfl (Jvm.hb hby d5_30) rfl ?_
      exact kQ
    refine P.stat hx hZ (y := (⟨"java/lang/StringUTF16", "getChar", "([BI)C"⟩ : MethodName)) hown (hw _ (List.mem_of_getElem? (i := 98) rfl)) (hw _ (List.mem_of_getElem? (i := 99) rfl)) (hw _ (List.mem_of_getElem? (i := 29) rfl)) (hw _ (List.mem_of_getElem? (i := 100) rfl)) (by decide) (OwM.back (W := 0) (rmGet l Z a0 hw t kt n r cs h3 n0 Z0 SA SH SL OL V_t hn hb hr hp) hZ (hw _ (List.mem_of_getElem? (i := 100) rfl)) (hw _ (List.mem_of_getElem? (i := 29) rfl)) (own_le rfl) (own_le rfl)) (fun _ _ _ q => q.2) (g := (mkF m 32 #[.val (.ref a), .val (.int (0 : Int32)), .val (.int (Int32.ofNat n)), .val (.ref b), .val (.int (Int32.ofNat r)), .val (.ref t)] [(.int (Int32.ofNat r)), (.ref t)])) rfl (by rw [hml]; rfl) (argsL := [(.ref t), (.int (Int32.ofNat r))]) (rest := []) (lenOf pd___BI_C rfl) rfl (by show 2 * 0 + _ ≤ _; exact Nat.le_of_eq rfl) (Jvm.hb hby d5_32) rfl (by first | decide | omega | (dsimp only; omega) | (dsimp only [room_1]; omega) | (simp; done) | (simp [room_1]; done) | (simp [room_1]; omega)) (by first | decide | omega | (dsimp only; omega) | (dsimp only [room_1]; omega) | (simp; done) | (simp [room_1]; done) | (simp [room_1]; omega)) fun T own_v own_L h4 own_e P own_q => ?_
    obtain ⟨⟨rfl, own_hh⟩, -⟩ := own_q
    rw [own_hh] at P
    clear own_e own_hh
    show OwG p e below s _ _ _ _ T (mkF m 35 #[.val (.ref a), .val (.int (0 : Int32)), .val (.int (Int32.ofNat n)), .val (.ref b), .val (.int (Int32.ofNat r)), .val (.ref t)] [(.int (cs.getD r 0))])
    refine OwG.go (T' := T) (g' := (mkF m 38 #[.val (.ref a), .val (.int (0 : Int32)), .val (.int (Int32.ofNat n)), .val (.ref b), .val (.int (Int32.ofNat r)), .val (.ref t)] [(.int (255 : Int32)), (.int (cs.getD r 0))])) (fun tQ kQ => ?_) ?_
    · refine XS.sipush P.here hx rfl (Jvm.hb hby d5_35) ?_
      exact kQ
    refine OwG.go (T' := T) (g' := (mkF m 54 #[.val (.ref a), .val (.int (0 : Int32)), .val (.int (Int32.ofNat n)), .val (.ref b), .val (.int (Int32.ofNat r)), .val (.ref t)] [])) (fun tQ kQ => ?_) ?_
    · refine XS.icmpYes P.here hx rfl (pc0 := 38) (pc' := 54) rfl (Jvm.hb hby d5_38) rfl (tlt hbig).2.2.1 (by decide) (by decide) ?_
      exact kQ
    refine OwG.go (T' := T) (g' := (mkF m 56 #[.val (.ref a), .val (.int (0 : Int32)), .val (.int (Int32.ofNat n)), .val (.ref b), .val (.int (Int32.ofNat r)), .val (.ref t)] [(.ref t)])) (fun tQ kQ => ?_) ?_
    · refine XS.aload P.here hx rfl (Jvm.hb hby d5_54) rfl rfl ?_
      exact kQ
    exact P.retR hx hlk hret rfl rfl (Jvm.hb hby d5_56) (by first | decide | omega | (dsimp only; omega) | (dsimp only [room_1]; omega) | (simp; done) | (simp [room_1]; done) | (simp [room_1]; omega)) (by first | decide | omega | (dsimp only; omega) | (dsimp only [room_1]; omega) | (simp; done) | (simp [room_1]; done) | (simp [room_1]; omega)) ⟨t, kt, 1, _, _, rfl, sz_t, KP, V_t, own_wide hn hr hbig⟩
theorem d7_0 : decode jdk_52_method_15_code 0 = .ok (.iload_n 1, 1) := by decide +kernel
theorem d7_1 : decode jdk_52_method_15_code 1 = .ok (.aload_n 0, 1) := by decide +kernel
theorem d7_2 : decode jdk_52_method_15_code 2 = .ok (.arraylength, 1) := by decide +kernel
theorem d7_3 : decode jdk_52_method_15_code 3 = .ok (.isub, 1) := by decide +kernel
theorem d7_4 : decode jdk_52_method_15_code 4 = .ok (.bipush 31, 2) := by decide +kernel
theorem d7_6 : decode jdk_52_method_15_code 6 = .ok (.iushr, 1) := by decide +kernel
theorem d7_7 : decode jdk_52_method_15_code 7 = .ok (.i2b, 1) := by decide +kernel
theorem d7_8 : decode jdk_52_method_15_code 8 = .ok (.ireturn, 1) := by decide +kernel
set_option maxRecDepth 65536 in
set_option maxHeartbeats 40000000 in
theorem rmCl (l : Launch) (Z : State) (a0 : Array Value) (hw : ∀ d ∈ tables_1, d.before a0 Z = true) (t : Addr) (kt : ClassId) (cd N2 : Int32) (vs : List Value) (n : Nat) (cs : List Int32) (h0 : Heap) (n0 : Nat) (Z0 : n0 ≤ h0.size) (V_t : Arv Z h0 t kt .byte N2 vs (.int (0 : Int32))) (hcod : StrChars.Road.CodA cs cd N2 vs) (hn : cs.length = n) (h0n : 0 < n) (hb : n ≤ 4000) :
    OwM l Z (⟨"java/lang/StringUTF16", "coderFromArrayLen", "([BI)B"⟩ : MethodName) jdk_52_method_15_code 2 (some .byte) ({ frames := 0, cells := 0, slots := 0, locals := 0 } : Room) n0 #[(.ref t), (.int (Int32.ofNat n))] h0 (fun v h => v = some (.int cd) ∧ h = h0) := by
  refine OwM.mk (plainFor_of_name pn_java_lang_StringUTF16) ?_
  intro p e s m below meth cD T hx hby hml hown hnm hret hlk hZ P
  refine OwG.cast (show entryFrame m #[(.ref t), (.int (Int32.ofNat n))] 2 = mkF m 0 #[.val (.ref t), .val (.int (Int32.ofNat n))] [] from by first | (simp [entryFrame, mkF, argsToLocals, Value.category]; done) | rfl) ?_
  refine OwG.go (T' := T) (g' := (mkF m 2 #[.val (.ref t), .val (.int (Int32.ofNat n))] [(.ref t), (.int (Int32.ofNat n))])) (fun tQ kQ => ?_) ?_
  · refine XS.iloadN P.here hx rfl (Jvm.hb hby d7_0) rfl ?_
    refine XS.aloadN P.here hx rfl (Jvm.hb hby d7_1) rfl rfl ?_
    exact kQ
  obtain ⟨own_cl, own_A, own_q1, own_S, own_M, own_H, own_U⟩ := id V_t
  obtain ⟨own_L, own_X, own_e, own_N⟩ := id P
  have own_Z := hZ
  refine OwG.go (T' := T) (g' := (mkF m 3 #[.val (.ref t), .val (.int (Int32.ofNat n))] [(.int N2), (.int (Int32.ofNat n))])) (fun tQ kQ => ?_) ?_
  · refine own_X.arraylength hx (by rw [own_e]; exact own_A.1) (State.isArrayOf_alike own_Z.alike own_A.2.1) (g := (mkF m 2 #[.val (.ref t), .val (.int (Int32.ofNat n))] [(.ref t), (.int (Int32.ofNat n))])) rfl rfl (Jvm.hb hby d7_2) _ ?_
    rw [len_of own_S own_M]
    exact kQ
  refine OwG.go (T' := T) (g' := (mkF m 8 #[.val (.ref t), .val (.int (Int32.ofNat n))] [(.int (((((Int32.ofNat n) - N2).toUInt32 >>> ((31 : Int32) &&& 31).toUInt32).toInt32).toInt8.toInt32))])) (fun tQ kQ => ?_) ?_
  · refine XS.isub P.here hx rfl (Jvm.hb hby d7_3) rfl ?_
    refine XS.bipush P.here hx rfl (Jvm.hb hby d7_4) ?_
    refine XS.iushr P.here hx rfl (Jvm.hb hby d7_6) rfl ?_
    refine XS.i2b P.here hx rfl (Jvm.hb hby d7_7) rfl ?_
    exact kQ
  rw [show (((((Int32.ofNat n) - N2).toUInt32 >>> ((31 : Int32) &&& 31).toUInt32).toInt32).toInt8.toInt32) = cd from own_codN hn h0n hb hcod]
  show OwG p e below s _ _ _ _ T (mkF m 8 #[.val (.ref t), .val (.int (Int32.ofNat n))] [(.int cd)])
  have own_c := own_cd hcod
  exact P.retN hx hlk (t := .byte) hret (by simp) (Jvm.hb hby d7_8) (by first | decide | omega | (dsimp only; omega) | (dsimp only [room_1]; omega) | (simp; done) | (simp [room_1]; done) | (simp [room_1]; omega)) (by first | decide | omega | (dsimp only; omega) | (dsimp only [room_1]; omega) | (simp; done) | (simp [room_1]; done) | (simp [room_1]; omega)) ⟨by rcases own_c with rfl | rfl <;> rfl, rfl⟩
theorem d3_0 : decode jdk_42_method_149_code 0 = .ok (.aload_n 0, 1) := by decide +kernel
theorem d3_1 : decode jdk_42_method_149_code 1 = .ok (.invokespecial 1, 3) := by decide +kernel
theorem d3_4 : decode jdk_42_method_149_code 4 = .ok (.iload_n 3, 1) := by decide +kernel
theorem d3_5 : decode jdk_42_method_149_code 5 = .ok (.ifCond .ne 22, 3) := by decide +kernel
theorem d3_27 : decode jdk_42_method_149_code 27 = .ok (.getstatic 38, 3) := by decide +kernel
theorem d3_30 : decode jdk_42_method_149_code 30 = .ok (.ifCond .eq 28, 3) := by decide +kernel
theorem d3_33 : decode jdk_42_method_149_code 33 = .ok (.aload_n 1, 1) := by decide +kernel
theorem d3_34 : decode jdk_42_method_149_code 34 = .ok (.iload_n 2, 1) := by decide +kernel
theorem d3_35 : decode jdk_42_method_149_code 35 = .ok (.iload_n 3, 1) := by decide +kernel
theorem d3_36 : decode jdk_42_method_149_code 36 = .ok (.invokestatic 177, 3) := by decide +kernel
theorem d3_39 : decode jdk_42_method_149_code 39 = .ok (.astore 5, 2) := by decide +kernel
theorem d3_41 : decode jdk_42_method_149_code 41 = .ok (.aload_n 0, 1) := by decide +kernel
theorem d3_42 : decode jdk_42_method_149_code 42 = .ok (.aload 5, 2) := by decide +kernel
theorem d3_44 : decode jdk_42_method_149_code 44 = .ok (.iload_n 3, 1) := by decide +kernel
theorem d3_45 : decode jdk_42_method_149_code 45 = .ok (.invokestatic 47, 3) := by decide +kernel
theorem pd___BI_B : parseMethodDescriptor "([BI)B" = some ⟨[(.array .byte), .int], some .byte⟩ := by decide +kernel
theorem d3_48 : decode jdk_42_method_149_code 48 = .ok (.putfield 15, 3) := by decide +kernel
theorem d3_51 : decode jdk_42_method_149_code 51 = .ok (.aload_n 0, 1) := by decide +kernel
theorem d3_52 : decode jdk_42_method_149_code 52 = .ok (.aload 5, 2) := by decide +kernel
theorem d3_54 : decode jdk_42_method_149_code 54 = .ok (.putfield 9, 3) := by decide +kernel
theorem d3_57 : decode jdk_42_method_149_code 57 = .ok (.return_, 1) := by decide +kernel
theorem pn_java_lang_String : plainName "java/lang/String" = true := by first | (simp [plainName, overriddenIn]; done) | decide +kernel
set_option maxRecDepth 65536 in
set_option maxHeartbeats 40000000 in
theorem rmN4 (l : Launch) (Z : State) (a0 : Array Value) (hw : ∀ d ∈ tables_1, d.before a0 Z = true) (x : Addr) (a : Addr) (ka : ClassId) (da : Value) (n : Nat) (cs : List Int32) (zC : Int32) (h0 : Heap) (n0 : Nat) (Z0 : n0 ≤ h0.size) (SA : Sta Z Z.heap "java/lang/StringUTF16" "$assertionsDisabled" "Z" (.int (1 : Int32))) (SH : Sta Z Z.heap "java/lang/StringUTF16" "HI_BYTE_SHIFT" "I" (.int (0 : Int32))) (SL : Sta Z Z.heap "java/lang/StringUTF16" "LO_BYTE_SHIFT" "I" (.int (8 : Int32))) (S2 : Sta Z Z.heap "java/lang/String" "COMPACT_STRINGS" "Z" (.int zC)) (hzC : ¬ zC = 0) (OL : Old Z n0 h0) (V_a : Arv Z h0 a ka .char (Int32.ofNat n) (cs.map Value.int) da) (hn : cs.length = n) (hb : n ≤ 4000) (h0n : 0 < n) (hp : ∀ c ∈ cs, ¬ c < 0 ∧ ¬ (65535 : Int32) < c) (g_x : n0 ≤ x) (E_x : Exa Z h0 x "java/lang/String") (F_coder_x : Fld Z h0 x "java/lang/String" "coder" "B" (.int (0 : Int32))) (F_value_x : Fld Z h0 x "java/lang/String" "value" "[B" .null) (ne_x_a : x ≠ a) :
    OwM l Z (⟨"java/lang/String", "<init>", "([CIILjava/lang/Void;)V"⟩ : MethodName) jdk_42_method_149_code 6 none ({ frames := 4, cells := 2, slots := 3 * n, locals := 59 } : Room) n0 #[(.ref x), (.ref a), (.int (0 : Int32)), (.int (Int32.ofNat n)), .null] h0 (fun v h => v = none ∧ Keep h0 h [x] ∧ ∃ (t : Addr) (kt : ClassId) (cd N2 : Int32) (vs : List Value), h0.size ≤ t ∧ Fld Z h x "java/lang/String" "value" "[B" (.ref t) ∧ Fld Z h x "java/lang/String" "coder" "B" (.int cd) ∧ Arv Z h t kt .byte N2 vs (.int (0 : Int32)) ∧ StrChars.Road.CodA cs cd N2 vs) := by
  refine OwM.mk (plainFor_of_name pn_java_lang_String) ?_
  intro p e s m below meth cD T hx hby hml hown hnm hret hlk hZ P
  refine OwG.cast (show entryFrame m #[(.ref x), (.ref a), (.int (0 : Int32)), (.int (Int32.ofNat n)), .null] 6 = mkF m 0 #[.val (.ref x), .val (.ref a), .val (.int (0 : Int32)), .val (.int (Int32.ofNat n)), .val .null, .unset] [] from by first | (simp [entryFrame, mkF, argsToLocals, Value.category]; done) | rfl) ?_
  have own_x := E_x.lt
  have KP := Keep.refl h0 [x]
  refine OwG.go (T' := T) (g' := (mkF m 1 #[.val (.ref x), .val (.ref a), .val (.int (0 : Int32)), .val (.int (Int32.ofNat n)), .val .null, .unset] [(.ref x)])) (fun tQ kQ => ?_) ?_
  · refine XS.aloadN P.here hx rfl (Jvm.hb hby d3_0) rfl rfl ?_
    exact kQ
  refine P.initO hx hZ hown (hw _ (List.mem_of_getElem? (i := 15) rfl)) (hw _ (List.mem_of_getElem? (i := 16) rfl)) (hw _ (List.mem_of_getElem? (i := 17) rfl)) (g := (mkF m 1 #[.val (.ref x), .val (.ref a), .val (.int (0 : Int32)), .val (.int (Int32.ofNat n)), .val .null, .unset] [(.ref x)])) rfl (by rw [hml]; rfl) rfl (Jvm.hb hby d3_1) (own_le rfl) (W := 0) (by show 2 * 0 + _ ≤ _; exact Nat.le_of_eq rfl) (own_le rfl) fun T P => ?_
  show OwG p e below s _ _ _ _ T (mkF m 4 #[.val (.ref x), .val (.ref a), .val (.int (0 : Int32)), .val (.int (Int32.ofNat n)), .val .null, .unset] [])
  refine OwG.go (T' := T) (g' := (mkF m 5 #[.val (.ref x), .val (.ref a), .val (.int (0 : Int32)), .val (.int (Int32.ofNat n)), .val .null, .unset] [(.int (Int32.ofNat n))])) (fun tQ kQ => ?_) ?_
  · refine XS.iloadN P.here hx rfl (Jvm.hb hby d3_4) rfl ?_
    exact kQ
  refine OwG.go (T' := T) (g' := (mkF m 27 #[.val (.ref x), .val (.ref a), .val (.int (0 : Int32)), .val (.int (Int32.ofNat n)), .val .null, .unset] [])) (fun tQ kQ => ?_) ?_
  · refine XS.ifYes P.here hx rfl (pc0 := 5) (pc' := 27) rfl (Jvm.hb hby d3_5) rfl ((if0 _ _).trans (feq (own_ne32 (n := 0) (by omega) (by omega) (by omega))).2) (by decide) (by decide) ?_
    exact kQ
  refine P.getS hx hZ hown (host := "") (Or.inl (hw _ (List.mem_of_getElem? (i := 26) rfl))) Via.refl (S2.ext OL.2) (g := (mkF m 27 #[.val (.ref x), .val (.ref a), .val (.int (0 : Int32)), .val (.int (Int32.ofNat n)), .val .null, .unset] [])) rfl (Jvm.hb hby d3_27) fun T P => ?_
  show OwG p e below s _ _ _ _ T (mkF m 30 #[.val (.ref x), .val (.ref a), .val (.int (0 : Int32)), .val (.int (Int32.ofNat n)), .val .null, .unset] [(.int zC)])
  refine OwG.go (T' := T) (g' := (mkF m 33 #[.val (.ref x), .val (.ref a), .val (.int (0 : Int32)), .val (.int (Int32.ofNat n)), .val .null, .unset] [])) (fun tQ kQ => ?_) ?_
  · refine XS.ifNo P.here hx rfl (Jvm.hb hby d3_30) rfl ((if0 _ _).trans (feq hzC).1) ?_
    exact kQ
  refine OwG.go (T' := T) (g' := (mkF m 36 #[.val (.ref x), .val (.ref a), .val (.int (0 : Int32)), .val (.int (Int32.ofNat n)), .val .null, .unset] [(.int (Int32.ofNat n)), (.int (0 : Int32)), (.ref a)])) (fun tQ kQ => ?_) ?_
  · refine XS.aloadN P.here hx rfl (Jvm.hb hby d3_33) rfl rfl ?_
    refine XS.iloadN P.here hx rfl (Jvm.hb hby d3_34) rfl ?_
    refine XS.iloadN P.here hx rfl (Jvm.hb hby d3_35) rfl ?_
    exact kQ
  refine P.stat hx hZ (y := (⟨"java/lang/StringUTF16", "compress", "([CII)[B"⟩ : MethodName)) hown (hw _ (List.mem_of_getElem? (i := 27) rfl)) (hw _ (List.mem_of_getElem? (i := 28) rfl)) (hw _ (List.mem_of_getElem? (i := 29) rfl)) (hw _ (List.mem_of_getElem? (i := 30) rfl)) (by decide) (OwM.back (W := 0) (rmC3 l Z a0 hw a ka da n cs h0 n0 Z0 SA SH SL OL V_a hn hb h0n hp) hZ (hw _ (List.mem_of_getElem? (i := 30) rfl)) (hw _ (List.mem_of_getElem? (i := 29) rfl)) (own_le rfl) (own_le rfl)) (fun _ _ _ q => q.2) (g := (mkF m 36 #[.val (.ref x), .val (.ref a), .val (.int (0 : Int32)), .val (.int (Int32.ofNat n)), .val .null, .unset] [(.int (Int32.ofNat n)), (.int (0 : Int32)), (.ref a)])) rfl (by rw [hml]; rfl) (argsL := [(.ref a), (.int (0 : Int32)), (.int (Int32.ofNat n))]) (rest := []) (lenOf pd___CII__B rfl) rfl (by show 2 * 0 + _ ≤ _; exact Nat.le_of_eq rfl) (Jvm.hb hby d3_36) rfl (by first | decide | omega | (dsimp only; omega) | (dsimp only [room_1]; omega) | (simp; done) | (simp [room_1]; done) | (simp [room_1]; omega)) (by first | decide | omega | (dsimp only; omega) | (dsimp only [room_1]; omega) | (simp; done) | (simp [room_1]; done) | (simp [room_1]; omega)) fun T own_v own_L h1 own_e P own_q => ?_
  obtain ⟨⟨t, kt, cd, N2, vs, rfl, sz_t, K, V_t, hcod⟩, -⟩ := own_q
  clear own_e
  replace E_x := E_x.keep K
  replace F_coder_x := F_coder_x.keep K nin0
  replace F_value_x := F_value_x.keep K nin0
  replace Z0 := Nat.le_trans Z0 K.1
  replace OL := OL.keep K all0
  replace KP := KP.trans K all0
  show OwG p e below s _ _ _ _ T (mkF m 39 #[.val (.ref x), .val (.ref a), .val (.int (0 : Int32)), .val (.int (Int32.ofNat n)), .val .null, .unset] [(.ref t)])
  have ne_t_x : t ≠ x := Nat.ne_of_gt (Nat.lt_of_lt_of_le (show x < h0.size from own_x) sz_t)
  refine OwG.go (T' := T) (g' := (mkF m 45 #[.val (.ref x), .val (.ref a), .val (.int (0 : Int32)), .val (.int (Int32.ofNat n)), .val .null, .val (.ref t)] [(.int (Int32.ofNat n)), (.ref t), (.ref x)])) (fun tQ kQ => ?_) ?_
  · refine XS.astore P.here hx rfl (Jvm.hb hby d3_39) rfl rfl (l' := #[.val (.ref x), .val (.ref a), .val (.int (0 : Int32)), .val (.int (Int32.ofNat n)), .val .null, .val (.ref t)]) rfl ?_
    refine XS.aloadN P.here hx rfl (Jvm.hb hby d3_41) rfl rfl ?_
    refine XS.aload P.here hx rfl (Jvm.hb hby d3_42) rfl rfl ?_
    refine XS.iloadN P.here hx rfl (Jvm.hb hby d3_44) rfl ?_
    exact kQ
  refine P.stat hx hZ (y := (⟨"java/lang/StringUTF16", "coderFromArrayLen", "([BI)B"⟩ : MethodName)) hown (hw _ (List.mem_of_getElem? (i := 34) rfl)) (hw _ (List.mem_of_getElem? (i := 35) rfl)) (hw _ (List.mem_of_getElem? (i := 29) rfl)) (hw _ (List.mem_of_getElem? (i := 36) rfl)) (by decide) (OwM.back (W := 1) (rmCl l Z a0 hw t kt cd N2 vs n cs h1 n0 Z0 V_t hcod hn h0n hb) hZ (hw _ (List.mem_of_getElem? (i := 36) rfl)) (hw _ (List.mem_of_getElem? (i := 29) rfl)) (own_le rfl) (own_le rfl)) (fun _ _ _ q => q.2) (g := (mkF m 45 #[.val (.ref x), .val (.ref a), .val (.int (0 : Int32)), .val (.int (Int32.ofNat n)), .val .null, .val (.ref t)] [(.int (Int32.ofNat n)), (.ref t), (.ref x)])) rfl (by rw [hml]; rfl) (argsL := [(.ref t), (.int (Int32.ofNat n))]) (rest := [(.ref x)]) (lenOf pd___BI_B rfl) rfl (by show 2 * 0 + _ ≤ _; exact Nat.le_of_eq rfl) (Jvm.hb hby d3_45) rfl (by first | decide | omega | (dsimp only; omega) | (dsimp only [room_1]; omega) | (simp; done) | (simp [room_1]; done) | (simp [room_1]; omega)) (by first | decide | omega | (dsimp only; omega) | (dsimp only [room_1]; omega) | (simp; done) | (simp [room_1]; done) | (simp [room_1]; omega)) fun T own_v own_L h2 own_e P own_q => ?_
  obtain ⟨⟨rfl, own_hh⟩, -⟩ := own_q
  rw [own_hh] at P
  clear own_e own_hh
  show OwG p e below s _ _ _ _ T (mkF m 48 #[.val (.ref x), .val (.ref a), .val (.int (0 : Int32)), .val (.int (Int32.ofNat n)), .val .null, .val (.ref t)] [(.int cd), (.ref x)])
  have own_c := own_cd hcod
  refine P.putFN hx hZ hown (hw _ (List.mem_of_getElem? (i := 25) rfl)) Via.refl F_coder_x E_x (Or.inr ⟨(hw _ (List.mem_of_getElem? (i := 21) rfl)), rfl, hnm⟩) (hw _ (List.mem_of_getElem? (i := 6) rfl)) (ty := .byte) (v' := (.int cd)) (by decide) (by rcases own_c with rfl | rfl <;> rfl) (by rcases own_c with rfl | rfl <;> rfl) (g := (mkF m 48 #[.val (.ref x), .val (.ref a), .val (.int (0 : Int32)), .val (.int (Int32.ofNat n)), .val .null, .val (.ref t)] [(.int cd), (.ref x)])) rfl rfl (Jvm.hb hby d3_48) g_x fun T h3 P W => ?_
  replace E_x := E_x.wr W
  replace F_coder_x := F_coder_x.same W
  replace F_value_x := F_value_x.other W (Or.inr (slot_ne (Or.inr (hw _ (List.mem_of_getElem? (i := 20) rfl))) (Or.inr (hw _ (List.mem_of_getElem? (i := 21) rfl))) (by decide) (t := (.array .byte)) (t' := .byte) (by decide) (by decide)))
  replace V_t := V_t.other W ne_t_x
  replace Z0 := Nat.le_trans Z0 (Keep.of_wr W).1
  replace OL := OL.wr W g_x
  replace KP := KP.wr W (Or.inl (List.mem_of_getElem? (i := 0) rfl))
  clear W
  show OwG p e below s _ _ _ _ T (mkF m 51 #[.val (.ref x), .val (.ref a), .val (.int (0 : Int32)), .val (.int (Int32.ofNat n)), .val .null, .val (.ref t)] [])
  refine OwG.go (T' := T) (g' := (mkF m 54 #[.val (.ref x), .val (.ref a), .val (.int (0 : Int32)), .val (.int (Int32.ofNat n)), .val .null, .val (.ref t)] [(.ref t), (.ref x)])) (fun tQ kQ => ?_) ?_
  · refine XS.aloadN P.here hx rfl (Jvm.hb hby d3_51) rfl rfl ?_
    refine XS.aload P.here hx rfl (Jvm.hb hby d3_52) rfl rfl ?_
    exact kQ
  refine P.putF hx hZ hown (host := "") (Or.inl (hw _ (List.mem_of_getElem? (i := 24) rfl))) Via.refl F_value_x E_x (Or.inr ⟨(hw _ (List.mem_of_getElem? (i := 20) rfl)), rfl, hnm⟩) (hw _ (List.mem_of_getElem? (i := 6) rfl)) (ty := (.array .byte)) (by decide) rfl rfl (g := (mkF m 54 #[.val (.ref x), .val (.ref a), .val (.int (0 : Int32)), .val (.int (Int32.ofNat n)), .val .null, .val (.ref t)] [(.ref t), (.ref x)])) rfl rfl (Jvm.hb hby d3_54) g_x fun T h4 P W => ?_
  replace E_x := E_x.wr W
  replace F_coder_x := F_coder_x.other W (Or.inr (slot_ne (Or.inr (hw _ (List.mem_of_getElem? (i := 21) rfl))) (Or.inr (hw _ (List.mem_of_getElem? (i := 20) rfl))) (by decide) (t := .byte) (t' := (.array .byte)) (by decide) (by decide)))
  replace F_value_x := F_value_x.same W
  replace V_t := V_t.other W ne_t_x
  replace Z0 := Nat.le_trans Z0 (Keep.of_wr W).1
  replace OL := OL.wr W g_x
  replace KP := KP.wr W (Or.inl (List.mem_of_getElem? (i := 0) rfl))
  clear W
  show OwG p e below s _ _ _ _ T (mkF m 57 #[.val (.ref x), .val (.ref a), .val (.int (0 : Int32)), .val (.int (Int32.ofNat n)), .val .null, .val (.ref t)] [])
  exact P.retV hx hlk hret (Jvm.hb hby d3_57) (by first | decide | omega | (dsimp only; omega) | (dsimp only [room_1]; omega) | (simp; done) | (simp [room_1]; done) | (simp [room_1]; omega)) (by first | decide | omega | (dsimp only; omega) | (dsimp only [room_1]; omega) | (simp; done) | (simp [room_1]; done) | (simp [room_1]; omega)) ⟨rfl, KP, t, kt, cd, N2, vs, sz_t, F_value_x, F_coder_x, V_t, hcod⟩
theorem d2_0 : decode jdk_42_method_3_code 0 = .ok (.aload_n 0, 1) := by decide +kernel
theorem d2_1 : decode jdk_42_method_3_code 1 = .ok (.aload_n 1, 1) := by decide +kernel
theorem d2_2 : decode jdk_42_method_3_code 2 = .ok (.iconst 0, 1) := by decide +kernel
theorem d2_3 : decode jdk_42_method_3_code 3 = .ok (.aload_n 1, 1) := by decide +kernel
theorem d2_4 : decode jdk_42_method_3_code 4 = .ok (.arraylength, 1) := by decide +kernel
theorem d2_5 : decode jdk_42_method_3_code 5 = .ok (.aconst_null, 1) := by decide +kernel
theorem d2_6 : decode jdk_42_method_3_code 6 = .ok (.invokespecial 27, 3) := by decide +kernel
theorem pd___CIILjava_lang_Void__V : parseMethodDescriptor "([CIILjava/lang/Void;)V" = some ⟨[(.array .char), .int, .int, (.object "java/lang/Void")], none⟩ := by decide +kernel
theorem d2_9 : decode jdk_42_method_3_code 9 = .ok (.return_, 1) := by decide +kernel
set_option maxRecDepth 65536 in
set_option maxHeartbeats 40000000 in
theorem rmN1 (l : Launch) (Z : State) (a0 : Array Value) (hw : ∀ d ∈ tables_1, d.before a0 Z = true) (x : Addr) (a : Addr) (ka : ClassId) (da : Value) (n : Nat) (cs : List Int32) (zC : Int32) (h0 : Heap) (n0 : Nat) (Z0 : n0 ≤ h0.size) (SA : Sta Z Z.heap "java/lang/StringUTF16" "$assertionsDisabled" "Z" (.int (1 : Int32))) (SH : Sta Z Z.heap "java/lang/StringUTF16" "HI_BYTE_SHIFT" "I" (.int (0 : Int32))) (SL : Sta Z Z.heap "java/lang/StringUTF16" "LO_BYTE_SHIFT" "I" (.int (8 : Int32))) (S2 : Sta Z Z.heap "java/lang/String" "COMPACT_STRINGS" "Z" (.int zC)) (hzC : ¬ zC = 0) (OL : Old Z n0 h0) (V_a : Arv Z h0 a ka .char (Int32.ofNat n) (cs.map Value.int) da) (hn : cs.length = n) (hb : n ≤ 4000) (h0n : 0 < n) (hp : ∀ c ∈ cs, ¬ c < 0 ∧ ¬ (65535 : Int32) < c) (g_x : n0 ≤ x) (E_x : Exa Z h0 x "java/lang/String") (F_coder_x : Fld Z h0 x "java/lang/String" "coder" "B" (.int (0 : Int32))) (F_value_x : Fld Z h0 x "java/lang/String" "value" "[B" .null) (ne_x_a : x ≠ a) :
    OwM l Z (⟨"java/lang/String", "<init>", "([C)V"⟩ : MethodName) jdk_42_method_3_code 2 none ({ frames := 5, cells := 2, slots := 3 * n, locals := 76 } : Room) n0 #[(.ref x), (.ref a)] h0 (fun v h => v = none ∧ Keep h0 h [x] ∧ ∃ (t : Addr) (kt : ClassId) (cd N2 : Int32) (vs : List Value), h0.size ≤ t ∧ Fld Z h x "java/lang/String" "value" "[B" (.ref t) ∧ Fld Z h x "java/lang/String" "coder" "B" (.int cd) ∧ Arv Z h t kt .byte N2 vs (.int (0 : Int32)) ∧ StrChars.Road.CodA cs cd N2 vs) := by
  refine OwM.mk (plainFor_of_name pn_java_lang_String) ?_
  intro p e s m below meth cD T hx hby hml hown hnm hret hlk hZ P
  refine OwG.cast (show entryFrame m #[(.ref x), (.ref a)] 2 = mkF m 0 #[.val (.ref x), .val (.ref a)] [] from by first | (simp [entryFrame, mkF, argsToLocals, Value.category]; done) | rfl) ?_
  refine OwG.go (T' := T) (g' := (mkF m 4 #[.val (.ref x), .val (.ref a)] [(.ref a), (.int (0 : Int32)), (.ref a), (.ref x)])) (fun tQ kQ => ?_) ?_
  · refine XS.aloadN P.here hx rfl (Jvm.hb hby d2_0) rfl rfl ?_
    refine XS.aloadN P.here hx rfl (Jvm.hb hby d2_1) rfl rfl ?_
    refine XS.iconst P.here hx rfl (Jvm.hb hby d2_2) ?_
    refine XS.aloadN P.here hx rfl (Jvm.hb hby d2_3) rfl rfl ?_
    exact kQ
  obtain ⟨own_cl, own_A, own_q1, own_S, own_M, own_H, own_U⟩ := id V_a
  obtain ⟨own_L, own_X, own_e, own_N⟩ := id P
  have own_Z := hZ
  refine OwG.go (T' := T) (g' := (mkF m 5 #[.val (.ref x), .val (.ref a)] [(.int (Int32.ofNat n)), (.int (0 : Int32)), (.ref a), (.ref x)])) (fun tQ kQ => ?_) ?_
  · refine own_X.arraylength hx (by rw [own_e]; exact own_A.1) (State.isArrayOf_alike own_Z.alike own_A.2.1) (g := (mkF m 4 #[.val (.ref x), .val (.ref a)] [(.ref a), (.int (0 : Int32)), (.ref a), (.ref x)])) rfl rfl (Jvm.hb hby d2_4) _ ?_
    rw [len_of own_S own_M]
    exact kQ
  refine OwG.go (T' := T) (g' := (mkF m 6 #[.val (.ref x), .val (.ref a)] [.null, (.int (Int32.ofNat n)), (.int (0 : Int32)), (.ref a), (.ref x)])) (fun tQ kQ => ?_) ?_
  · refine XS.aconstNull P.here hx rfl (Jvm.hb hby d2_5) ?_
    exact kQ
  refine P.special hx hZ (y := (⟨"java/lang/String", "<init>", "([CIILjava/lang/Void;)V"⟩ : MethodName)) rfl hown (hw _ (List.mem_of_getElem? (i := 11) rfl)) (hw _ (List.mem_of_getElem? (i := 12) rfl)) (hw _ (List.mem_of_getElem? (i := 14) rfl)) (by decide) (OwM.back (W := 0) (rmN4 l Z a0 hw x a ka da n cs zC h0 n0 Z0 SA SH SL S2 hzC OL V_a hn hb h0n hp g_x E_x F_coder_x F_value_x ne_x_a) hZ (hw _ (List.mem_of_getElem? (i := 14) rfl)) (hw _ (List.mem_of_getElem? (i := 7) rfl)) (own_le rfl) (own_le rfl)) (fun _ _ _ q => q.2) (g := (mkF m 6 #[.val (.ref x), .val (.ref a)] [.null, (.int (Int32.ofNat n)), (.int (0 : Int32)), (.ref a), (.ref x)])) rfl (by rw [hml]; rfl) (a := x) (argsL := [(.ref a), (.int (0 : Int32)), (.int (Int32.ofNat n)), .null]) (rest := []) (lenOf pd___CIILjava_lang_Void__V rfl) rfl (by show 2 * 0 + _ ≤ _; exact Nat.le_of_eq rfl) (Jvm.hb hby d2_6) rfl (by first | decide | omega | (dsimp only; omega) | (dsimp only [room_1]; omega) | (simp; done) | (simp [room_1]; done) | (simp [room_1]; omega)) (by first | decide | omega | (dsimp only; omega) | (dsimp only [room_1]; omega) | (simp; done) | (simp [room_1]; done) | (simp [room_1]; omega)) fun T own_v own_L h1 own_e P own_q => ?_
  obtain ⟨⟨rfl, own_r⟩, -⟩ := own_q
  show OwG p e below s _ _ _ _ T (mkF m 9 #[.val (.ref x), .val (.ref a)] [])
  exact P.retV hx hlk hret (Jvm.hb hby d2_9) (by first | decide | omega | (dsimp only; omega) | (dsimp only [room_1]; omega) | (simp; done) | (simp [room_1]; done) | (simp [room_1]; omega)) (by first | decide | omega | (dsimp only; omega) | (dsimp only [room_1]; omega) | (simp; done) | (simp [room_1]; done) | (simp [room_1]; omega)) ⟨rfl, own_r⟩
theorem own_lo {cs : List Int32} {d : Value} {i : Nat} (h : i < cs.length) (hb : i < 2 ^ 31) : (cs.map fun c => Value.int (StrChars.lo8 c)).getD (Int32.ofNat i).toNatClampNeg d = .int (StrChars.lo8 (cs.getD i 0)) := by rw [own_tc hb]; exact StrChars.Road.low_at _ _ _ h
theorem own_bd8 {cs : List Int32} {i : Nat} (h : i < cs.length) (hp : ∀ c ∈ cs, ¬ c < 0 ∧ ¬ (65535 : Int32) < c) (ha : ∀ c ∈ cs, ¬ (255 : Int32) < c) : ¬ cs.getD i 0 < 0 ∧ ¬ (255 : Int32) < cs.getD i 0 := ⟨(own_bd h hp).1, ha _ (by simp [List.getD_eq_getElem?_getD, h])⟩
theorem d14_0 : decode jdk_42_method_154_code 0 = .ok (.getstatic 38, 3) := by decide +kernel
theorem d14_3 : decode jdk_42_method_154_code 3 = .ok (.ifCond .eq 14, 3) := by decide +kernel
theorem d14_6 : decode jdk_42_method_154_code 6 = .ok (.aload_n 0, 1) := by decide +kernel
theorem d14_7 : decode jdk_42_method_154_code 7 = .ok (.getfield 15, 3) := by decide +kernel
theorem d14_10 : decode jdk_42_method_154_code 10 = .ok (.ifCond .ne 7, 3) := by decide +kernel
theorem d14_13 : decode jdk_42_method_154_code 13 = .ok (.iconst 1, 1) := by decide +kernel
theorem d14_14 : decode jdk_42_method_154_code 14 = .ok (.goto 4, 3) := by decide +kernel
theorem d14_18 : decode jdk_42_method_154_code 18 = .ok (.ireturn, 1) := by decide +kernel
theorem d14_17 : decode jdk_42_method_154_code 17 = .ok (.iconst 0, 1) := by decide +kernel
set_option maxRecDepth 65536 in
set_option maxHeartbeats 40000000 in
theorem rmIsL (l : Launch) (Z : State) (a0 : Array Value) (hw : ∀ d ∈ tables_1, d.before a0 Z = true) (x : Addr) (cd zC : Int32) (h0 : Heap) (n0 : Nat) (Z0 : n0 ≤ h0.size) (S2 : Sta Z Z.heap "java/lang/String" "COMPACT_STRINGS" "Z" (.int zC)) (hzC : ¬ zC = 0) (OL : Old Z n0 h0) (C_x : Fld Z h0 x "java/lang/String" "coder" "B" (.int cd)) :
    OwM l Z (⟨"java/lang/String", "isLatin1", "()Z"⟩ : MethodName) jdk_42_method_154_code 1 (some .boolean) ({ frames := 0, cells := 0, slots := 0, locals := 0 } : Room) n0 #[(.ref x)] h0 (fun v h => v = some (.int (if cd = 0 then 1 else 0)) ∧ h = h0) := by
  refine OwM.mk (plainFor_of_name pn_java_lang_String) ?_
  intro p e s m below meth cD T hx hby hml hown hnm hret hlk hZ P
  refine OwG.cast (show entryFrame m #[(.ref x)] 1 = mkF m 0 #[.val (.ref x)] [] from by first | (simp [entryFrame, mkF, argsToLocals, Value.category]; done) | rfl) ?_
  refine P.getS hx hZ hown (host := "") (Or.inl (hw _ (List.mem_of_getElem? (i := 26) rfl))) Via.refl (S2.ext OL.2) (g := (mkF m 0 #[.val (.ref x)] [])) rfl (Jvm.hb hby d14_0) fun T P => ?_
  show OwG p e below s _ _ _ _ T (mkF m 3 #[.val (.ref x)] [(.int zC)])
  refine OwG.go (T' := T) (g' := (mkF m 6 #[.val (.ref x)] [])) (fun tQ kQ => ?_) ?_
  · refine XS.ifNo P.here hx rfl (Jvm.hb hby d14_3) rfl ((if0 _ _).trans (feq hzC).1) ?_
    exact kQ
  refine OwG.go (T' := T) (g' := (mkF m 7 #[.val (.ref x)] [(.ref x)])) (fun tQ kQ => ?_) ?_
  · refine XS.aloadN P.here hx rfl (Jvm.hb hby d14_6) rfl rfl ?_
    exact kQ
  refine P.getF hx hZ hown (host := "") (Or.inl (hw _ (List.mem_of_getElem? (i := 25) rfl))) Via.refl C_x (g := (mkF m 7 #[.val (.ref x)] [(.ref x)])) rfl rfl (Jvm.hb hby d14_7) fun T P => ?_
  show OwG p e below s _ _ _ _ T (mkF m 10 #[.val (.ref x)] [(.int cd)])
  by_cases hc10 : cd = (0 : Int32)
  · skip
    refine OwG.go (T' := T) (g' := (mkF m 13 #[.val (.ref x)] [])) (fun tQ kQ => ?_) ?_
    · refine XS.ifNo P.here hx rfl (Jvm.hb hby d14_10) rfl ((if0 _ _).trans (teq hc10).2) ?_
      exact kQ
    refine OwG.go (T' := T) (g' := (mkF m 18 #[.val (.ref x)] [(.int (1 : Int32))])) (fun tQ kQ => ?_) ?_
    · refine XS.iconst P.here hx rfl (Jvm.hb hby d14_13) ?_
      refine XS.goto P.here hx rfl (pc0 := 14) (pc' := 18) rfl (Jvm.hb hby d14_14) (by decide) (by decide) ?_
      exact kQ
    exact P.retN hx hlk (t := .boolean) hret (by simp) (Jvm.hb hby d14_18) (by first | decide | omega | (dsimp only; omega) | (dsimp only [room_1]; omega) | (simp; done) | (simp [room_1]; done) | (simp [room_1]; omega)) (by first | decide | omega | (dsimp only; omega) | (dsimp only [room_1]; omega) | (simp; done) | (simp [room_1]; done) | (simp [room_1]; omega)) ⟨by rw [if_pos hc10]; rfl, rfl⟩
  · skip
    refine OwG.go (T' := T) (g' := (mkF m 17 #[.val (.ref x)] [])) (fun tQ kQ => ?_) ?_
    · refine XS.ifYes P.here hx rfl (pc0 := 10) (pc' := 17) rfl (Jvm.hb hby d14_10) rfl ((if0 _ _).trans (feq hc10).2) (by decide) (by decide) ?_
      exact kQ
    refine OwG.go (T' := T) (g' := (mkF m 18 #[.val (.ref x)] [(.int (0 : Int32))])) (fun tQ kQ => ?_) ?_
    · refine XS.iconst P.here hx rfl (Jvm.hb hby d14_17) ?_
      exact kQ
    exact P.retN hx hlk (t := .boolean) hret (by simp) (Jvm.hb hby d14_18) (by first | decide | omega | (dsimp only; omega) | (dsimp only [room_1]; omega) | (simp; done) | (simp [room_1]; done) | (simp [room_1]; omega)) (by first | decide | omega | (dsimp only; omega) | (dsimp only [room_1]; omega) | (simp; done) | (simp [room_1]; done) | (simp [room_1]; omega)) ⟨by rw [if_neg hc10]; rfl, rfl⟩
theorem d17_0 : decode jdk_41_method_11_code 0 = .ok (.iload_n 0, 1) := by decide +kernel
theorem d17_1 : decode jdk_41_method_11_code 1 = .ok (.ifCond .lt 8, 3) := by decide +kernel
theorem d17_4 : decode jdk_41_method_11_code 4 = .ok (.iload_n 0, 1) := by decide +kernel
theorem d17_5 : decode jdk_41_method_11_code 5 = .ok (.iload_n 1, 1) := by decide +kernel
theorem d17_6 : decode jdk_41_method_11_code 6 = .ok (.if_icmp .lt 10, 3) := by decide +kernel
theorem d17_16 : decode jdk_41_method_11_code 16 = .ok (.iload_n 0, 1) := by decide +kernel
theorem d17_17 : decode jdk_41_method_11_code 17 = .ok (.ireturn, 1) := by decide +kernel
theorem pn_jdk_internal_util_Preconditions : plainName "jdk/internal/util/Preconditions" = true := by first | (simp [plainName, overriddenIn]; done) | decide +kernel
set_option maxRecDepth 65536 in
set_option maxHeartbeats 40000000 in
theorem rmPci (l : Launch) (Z : State) (a0 : Array Value) (hw : ∀ d ∈ tables_1, d.before a0 Z = true) (i n : Nat) (fm : Value) (h0 : Heap) (n0 : Nat) (Z0 : n0 ≤ h0.size) (rf : fm.isRef = true) (hi : i < n) (hb : n < 2 ^ 31) :
    OwM l Z (⟨"jdk/internal/util/Preconditions", "checkIndex", "(IILjava/util/function/BiFunction;)I"⟩ : MethodName) jdk_41_method_11_code 3 (some .int) ({ frames := 0, cells := 0, slots := 0, locals := 0 } : Room) n0 #[(.int (Int32.ofNat i)), (.int (Int32.ofNat n)), fm] h0 (fun v h => v = some (.int (Int32.ofNat i)) ∧ h = h0) := by
  refine OwM.mk (plainFor_of_name pn_jdk_internal_util_Preconditions) ?_
  intro p e s m below meth cD T hx hby hml hown hnm hret hlk hZ P
  refine OwG.cast (show entryFrame m #[(.int (Int32.ofNat i)), (.int (Int32.ofNat n)), fm] 3 = mkF m 0 #[.val (.int (Int32.ofNat i)), .val (.int (Int32.ofNat n)), .val fm] [] from by first | (simp [entryFrame, mkF, argsToLocals, own_cI, own_cL, own_cR, own_cN, own_cat rf]; done) | rfl) ?_
  refine OwG.go (T' := T) (g' := (mkF m 1 #[.val (.int (Int32.ofNat i)), .val (.int (Int32.ofNat n)), .val fm] [(.int (Int32.ofNat i))])) (fun tQ kQ => ?_) ?_
  · refine XS.iloadN P.here hx rfl (Jvm.hb hby d17_0) rfl ?_
    exact kQ
  refine OwG.go (T' := T) (g' := (mkF m 4 #[.val (.int (Int32.ofNat i)), .val (.int (Int32.ofNat n)), .val fm] [])) (fun tQ kQ => ?_) ?_
  · refine XS.ifNo P.here hx rfl (Jvm.hb hby d17_1) rfl ((if0 _ _).trans (flt (own_nn (by omega))).1) ?_
    exact kQ
  refine OwG.go (T' := T) (g' := (mkF m 6 #[.val (.int (Int32.ofNat i)), .val (.int (Int32.ofNat n)), .val fm] [(.int (Int32.ofNat n)), (.int (Int32.ofNat i))])) (fun tQ kQ => ?_) ?_
  · refine XS.iloadN P.here hx rfl (Jvm.hb hby d17_4) rfl ?_
    refine XS.iloadN P.here hx rfl (Jvm.hb hby d17_5) rfl ?_
    exact kQ
  refine OwG.go (T' := T) (g' := (mkF m 16 #[.val (.int (Int32.ofNat i)), .val (.int (Int32.ofNat n)), .val fm] [])) (fun tQ kQ => ?_) ?_
  · refine XS.icmpYes P.here hx rfl (pc0 := 6) (pc' := 16) rfl (Jvm.hb hby d17_6) rfl (tlt (own_lt hi (by omega))).1 (by decide) (by decide) ?_
    exact kQ
  refine OwG.go (T' := T) (g' := (mkF m 17 #[.val (.int (Int32.ofNat i)), .val (.int (Int32.ofNat n)), .val fm] [(.int (Int32.ofNat i))])) (fun tQ kQ => ?_) ?_
  · refine XS.iloadN P.here hx rfl (Jvm.hb hby d17_16) rfl ?_
    exact kQ
  exact P.retI hx hlk hret (Jvm.hb hby d17_17) (by first | decide | omega | (dsimp only; omega) | (dsimp only [room_1]; omega) | (simp; done) | (simp [room_1]; done) | (simp [room_1]; omega)) (by first | decide | omega | (dsimp only; omega) | (dsimp only [room_1]; omega) | (simp; done) | (simp [room_1]; done) | (simp [room_1]; omega)) ⟨rfl, rfl⟩
theorem d16_0 : decode jdk_42_method_155_code 0 = .ok (.iload_n 0, 1) := by decide +kernel
theorem d16_1 : decode jdk_42_method_155_code 1 = .ok (.iload_n 1, 1) := by decide +kernel
theorem d16_2 : decode jdk_42_method_155_code 2 = .ok (.getstatic 1053, 3) := by decide +kernel
theorem d16_5 : decode jdk_42_method_155_code 5 = .ok (.invokestatic 1059, 3) := by decide +kernel
theorem pd__IILjava_util_function_BiFunction__I : parseMethodDescriptor "(IILjava/util/function/BiFunction;)I" = some ⟨[.int, .int, (.object "java/util/function/BiFunction")], some .int⟩ := by decide +kernel
theorem d16_8 : decode jdk_42_method_155_code 8 = .ok (.pop, 1) := by decide +kernel
theorem d16_9 : decode jdk_42_method_155_code 9 = .ok (.return_, 1) := by decide +kernel
set_option maxRecDepth 65536 in
set_option maxHeartbeats 40000000 in
theorem rmSci (l : Launch) (Z : State) (a0 : Array Value) (hw : ∀ d ∈ tables_1, d.before a0 Z = true) (i n : Nat) (fm : Value) (h0 : Heap) (n0 : Nat) (Z0 : n0 ≤ h0.size) (SF : Sta Z Z.heap "jdk/internal/util/Preconditions" "SIOOBE_FORMATTER" "Ljava/util/function/BiFunction;" fm) (rf : fm.isRef = true) (OL : Old Z n0 h0) (hi : i < n) (hb : n < 2 ^ 31) :
    OwM l Z (⟨"java/lang/String", "checkIndex", "(II)V"⟩ : MethodName) jdk_42_method_155_code 2 none ({ frames := 1, cells := 0, slots := 0, locals := 14 } : Room) n0 #[(.int (Int32.ofNat i)), (.int (Int32.ofNat n))] h0 (fun v h => v = none ∧ h = h0) := by
  refine OwM.mk (plainFor_of_name pn_java_lang_String) ?_
  intro p e s m below meth cD T hx hby hml hown hnm hret hlk hZ P
  refine OwG.cast (show entryFrame m #[(.int (Int32.ofNat i)), (.int (Int32.ofNat n))] 2 = mkF m 0 #[.val (.int (Int32.ofNat i)), .val (.int (Int32.ofNat n))] [] from by first | (simp [entryFrame, mkF, argsToLocals, Value.category]; done) | rfl) ?_
  refine OwG.go (T' := T) (g' := (mkF m 2 #[.val (.int (Int32.ofNat i)), .val (.int (Int32.ofNat n))] [(.int (Int32.ofNat n)), (.int (Int32.ofNat i))])) (fun tQ kQ => ?_) ?_
  · refine XS.iloadN P.here hx rfl (Jvm.hb hby d16_0) rfl ?_
    refine XS.iloadN P.here hx rfl (Jvm.hb hby d16_1) rfl ?_
    exact kQ
  refine P.getS hx hZ hown (host := "") (Or.inl (hw _ (List.mem_of_getElem? (i := 77) rfl))) Via.refl (SF.ext OL.2) (g := (mkF m 2 #[.val (.int (Int32.ofNat i)), .val (.int (Int32.ofNat n))] [(.int (Int32.ofNat n)), (.int (Int32.ofNat i))])) rfl (Jvm.hb hby d16_2) fun T P => ?_
  show OwG p e below s _ _ _ _ T (mkF m 5 #[.val (.int (Int32.ofNat i)), .val (.int (Int32.ofNat n))] [fm, (.int (Int32.ofNat n)), (.int (Int32.ofNat i))])
  refine P.stat hx hZ (y := (⟨"jdk/internal/util/Preconditions", "checkIndex", "(IILjava/util/function/BiFunction;)I"⟩ : MethodName)) hown (hw _ (List.mem_of_getElem? (i := 79) rfl)) (hw _ (List.mem_of_getElem? (i := 80) rfl)) (hw _ (List.mem_of_getElem? (i := 78) rfl)) (hw _ (List.mem_of_getElem? (i := 81) rfl)) (by decide) (OwM.back (W := 0) (rmPci l Z a0 hw i n fm h0 n0 Z0 rf hi hb) hZ (hw _ (List.mem_of_getElem? (i := 81) rfl)) (hw _ (List.mem_of_getElem? (i := 78) rfl)) (own_le rfl) (own_le rfl)) (fun _ _ _ q => q.2) (g := (mkF m 5 #[.val (.int (Int32.ofNat i)), .val (.int (Int32.ofNat n))] [fm, (.int (Int32.ofNat n)), (.int (Int32.ofNat i))])) rfl (by rw [hml]; rfl) (argsL := [(.int (Int32.ofNat i)), (.int (Int32.ofNat n)), fm]) (rest := []) (lenOf pd__IILjava_util_function_BiFunction__I rfl) rfl (by show 2 * 0 + _ ≤ _; exact Nat.le_of_eq rfl) (Jvm.hb hby d16_5) rfl (by first | decide | omega | (dsimp only; omega) | (dsimp only [room_1]; omega) | (simp; done) | (simp [room_1]; done) | (simp [room_1]; omega)) (by first | decide | omega | (dsimp only; omega) | (dsimp only [room_1]; omega) | (simp; done) | (simp [room_1]; done) | (simp [room_1]; omega)) fun T own_v own_L h1 own_e P own_q => ?_
  obtain ⟨⟨rfl, own_hh⟩, -⟩ := own_q
  rw [own_hh] at P
  clear own_e own_hh
  show OwG p e below s _ _ _ _ T (mkF m 8 #[.val (.int (Int32.ofNat i)), .val (.int (Int32.ofNat n))] [(.int (Int32.ofNat i))])
  refine OwG.go (T' := T) (g' := (mkF m 9 #[.val (.int (Int32.ofNat i)), .val (.int (Int32.ofNat n))] [])) (fun tQ kQ => ?_) ?_
  · refine XS.pop P.here hx rfl (Jvm.hb hby d16_8) rfl rfl ?_
    exact kQ
  exact P.retV hx hlk hret (Jvm.hb hby d16_9) (by first | decide | omega | (dsimp only; omega) | (dsimp only [room_1]; omega) | (simp; done) | (simp [room_1]; done) | (simp [room_1]; omega)) (by first | decide | omega | (dsimp only; omega) | (dsimp only [room_1]; omega) | (simp; done) | (simp [room_1]; done) | (simp [room_1]; omega)) ⟨rfl, rfl⟩
theorem d15_0 : decode jdk_43_method_2_code 0 = .ok (.iload_n 1, 1) := by decide +kernel
theorem d15_1 : decode jdk_43_method_2_code 1 = .ok (.aload_n 0, 1) := by decide +kernel
theorem d15_2 : decode jdk_43_method_2_code 2 = .ok (.arraylength, 1) := by decide +kernel
theorem d15_3 : decode jdk_43_method_2_code 3 = .ok (.invokestatic 9, 3) := by decide +kernel
theorem pd__II_V : parseMethodDescriptor "(II)V" = some ⟨[.int, .int], none⟩ := by decide +kernel
theorem d15_6 : decode jdk_43_method_2_code 6 = .ok (.aload_n 0, 1) := by decide +kernel
theorem d15_7 : decode jdk_43_method_2_code 7 = .ok (.iload_n 1, 1) := by decide +kernel
theorem d15_8 : decode jdk_43_method_2_code 8 = .ok (.baload, 1) := by decide +kernel
theorem d15_9 : decode jdk_43_method_2_code 9 = .ok (.sipush 255, 3) := by decide +kernel
theorem d15_12 : decode jdk_43_method_2_code 12 = .ok (.iand, 1) := by decide +kernel
theorem d15_13 : decode jdk_43_method_2_code 13 = .ok (.i2c, 1) := by decide +kernel
theorem d15_14 : decode jdk_43_method_2_code 14 = .ok (.ireturn, 1) := by decide +kernel
theorem own_narc2 {c : Int32} (h0 : ¬ c < 0) (h1 : ¬ (65535 : Int32) < c) : nar .char (c.toUInt32.toUInt16.toUInt32.toInt32) = c := by
  have e : c.toUInt32.toUInt16.toUInt32.toInt32 = c := own_narc h0 h1
  rw [e]; exact own_narc h0 h1
theorem pn_java_lang_StringLatin1 : plainName "java/lang/StringLatin1" = true := by first | (simp [plainName, overriddenIn]; done) | decide +kernel
set_option maxRecDepth 65536 in
set_option maxHeartbeats 40000000 in
theorem rmLca (l : Launch) (Z : State) (a0 : Array Value) (hw : ∀ d ∈ tables_1, d.before a0 Z = true) (t : Addr) (kt : ClassId) (cs : List Int32) (n i : Nat) (fm : Value) (h0 : Heap) (n0 : Nat) (Z0 : n0 ≤ h0.size) (SF : Sta Z Z.heap "jdk/internal/util/Preconditions" "SIOOBE_FORMATTER" "Ljava/util/function/BiFunction;" fm) (rf : fm.isRef = true) (OL : Old Z n0 h0) (A_t : Arv Z h0 t kt .byte (Int32.ofNat n) (cs.map fun c => Value.int (StrChars.lo8 c)) (.int (0 : Int32))) (hn : cs.length = n) (hb : n ≤ 4000) (hi : i < n) (hp : ∀ c ∈ cs, ¬ c < 0 ∧ ¬ (65535 : Int32) < c) (ha : ∀ c ∈ cs, ¬ (255 : Int32) < c) :
    OwM l Z (⟨"java/lang/StringLatin1", "charAt", "([BI)C"⟩ : MethodName) jdk_43_method_2_code 2 (some .char) ({ frames := 2, cells := 0, slots := 0, locals := 27 } : Room) n0 #[(.ref t), (.int (Int32.ofNat i))] h0 (fun v h => v = some (.int (cs.getD i 0)) ∧ h = h0) := by
  refine OwM.mk (plainFor_of_name pn_java_lang_StringLatin1) ?_
  intro p e s m below meth cD T hx hby hml hown hnm hret hlk hZ P
  refine OwG.cast (show entryFrame m #[(.ref t), (.int (Int32.ofNat i))] 2 = mkF m 0 #[.val (.ref t), .val (.int (Int32.ofNat i))] [] from by first | (simp [entryFrame, mkF, argsToLocals, Value.category]; done) | rfl) ?_
  refine OwG.go (T' := T) (g' := (mkF m 2 #[.val (.ref t), .val (.int (Int32.ofNat i))] [(.ref t), (.int (Int32.ofNat i))])) (fun tQ kQ => ?_) ?_
  · refine XS.iloadN P.here hx rfl (Jvm.hb hby d15_0) rfl ?_
    refine XS.aloadN P.here hx rfl (Jvm.hb hby d15_1) rfl rfl ?_
    exact kQ
  obtain ⟨own_cl, own_A, own_q1, own_S, own_M, own_H, own_U⟩ := id A_t
  obtain ⟨own_L, own_X, own_e, own_N⟩ := id P
  have own_Z := hZ
  refine OwG.go (T' := T) (g' := (mkF m 3 #[.val (.ref t), .val (.int (Int32.ofNat i))] [(.int (Int32.ofNat n)), (.int (Int32.ofNat i))])) (fun tQ kQ => ?_) ?_
  · refine own_X.arraylength hx (by rw [own_e]; exact own_A.1) (State.isArrayOf_alike own_Z.alike own_A.2.1) (g := (mkF m 2 #[.val (.ref t), .val (.int (Int32.ofNat i))] [(.ref t), (.int (Int32.ofNat i))])) rfl rfl (Jvm.hb hby d15_2) _ ?_
    rw [len_of own_S own_M]
    exact kQ
  refine P.stat hx hZ (y := (⟨"java/lang/String", "checkIndex", "(II)V"⟩ : MethodName)) hown (hw _ (List.mem_of_getElem? (i := 74) rfl)) (hw _ (List.mem_of_getElem? (i := 75) rfl)) (hw _ (List.mem_of_getElem? (i := 7) rfl)) (hw _ (List.mem_of_getElem? (i := 76) rfl)) (by decide) (OwM.back (W := 0) (rmSci l Z a0 hw i n fm h0 n0 Z0 SF rf OL hi (by omega)) hZ (hw _ (List.mem_of_getElem? (i := 76) rfl)) (hw _ (List.mem_of_getElem? (i := 7) rfl)) (own_le rfl) (own_le rfl)) (fun _ _ _ q => q.2) (g := (mkF m 3 #[.val (.ref t), .val (.int (Int32.ofNat i))] [(.int (Int32.ofNat n)), (.int (Int32.ofNat i))])) rfl (by rw [hml]; rfl) (argsL := [(.int (Int32.ofNat i)), (.int (Int32.ofNat n))]) (rest := []) (lenOf pd__II_V rfl) rfl (by show 2 * 0 + _ ≤ _; exact Nat.le_of_eq rfl) (Jvm.hb hby d15_3) rfl (by first | decide | omega | (dsimp only; omega) | (dsimp only [room_1]; omega) | (simp; done) | (simp [room_1]; done) | (simp [room_1]; omega)) (by first | decide | omega | (dsimp only; omega) | (dsimp only [room_1]; omega) | (simp; done) | (simp [room_1]; done) | (simp [room_1]; omega)) fun T own_v own_L h1 own_e P own_q => ?_
  obtain ⟨⟨rfl, own_hh⟩, -⟩ := own_q
  rw [own_hh] at P
  clear own_e own_hh
  show OwG p e below s _ _ _ _ T (mkF m 6 #[.val (.ref t), .val (.int (Int32.ofNat i))] [])
  refine OwG.go (T' := T) (g' := (mkF m 8 #[.val (.ref t), .val (.int (Int32.ofNat i))] [(.int (Int32.ofNat i)), (.ref t)])) (fun tQ kQ => ?_) ?_
  · refine XS.aloadN P.here hx rfl (Jvm.hb hby d15_6) rfl rfl ?_
    refine XS.iloadN P.here hx rfl (Jvm.hb hby d15_7) rfl ?_
    exact kQ
  obtain ⟨own_cl, own_A, own_q1, own_S, own_M, own_H, own_U⟩ := id A_t
  obtain ⟨own_L, own_X, own_e, own_N⟩ := id P
  have own_Z := hZ
  have own_in := inb_of own_S (j := (Int32.ofNat i)) ⟨own_nn (by omega), own_lt (by omega) (by omega)⟩
  refine OwG.go (T' := T) (g' := (mkF m 9 #[.val (.ref t), .val (.int (Int32.ofNat i))] [(.int (StrChars.lo8 (cs.getD i 0)))])) (fun tQ kQ => ?_) ?_
  · refine own_X.baloadBytes hx (j := (Int32.ofNat i)) (v := (.int (StrChars.lo8 (cs.getD i 0)))) (by rw [own_e]; exact own_A.1) (State.isArrayOf_alike own_Z.alike own_A.2.1) own_A.2.2 own_in (Has.at own_H own_in (own_lo (by omega) (by omega))) (g := (mkF m 8 #[.val (.ref t), .val (.int (Int32.ofNat i))] [(.int (Int32.ofNat i)), (.ref t)])) rfl rfl (Jvm.hb hby d15_8) _ ?_
    exact kQ
  have own_b := own_bd8 (i := i) (by omega) hp ha
  have own_b2 := own_bd (i := i) (by omega) hp
  refine OwG.go (T' := T) (g' := (mkF m 13 #[.val (.ref t), .val (.int (Int32.ofNat i))] [(.int ((StrChars.lo8 (cs.getD i 0)) &&& (255 : Int32)))])) (fun tQ kQ => ?_) ?_
  · refine XS.sipush P.here hx rfl (Jvm.hb hby d15_9) ?_
    refine XS.iand P.here hx rfl (Jvm.hb hby d15_12) rfl ?_
    exact kQ
  rw [show ((StrChars.lo8 (cs.getD i 0)) &&& (255 : Int32)) = (cs.getD i 0) from StrChars.lo8_mask own_b.1 own_b.2]
  show OwG p e below s _ _ _ _ T (mkF m 13 #[.val (.ref t), .val (.int (Int32.ofNat i))] [(.int (cs.getD i 0))])
  refine OwG.go (T' := T) (g' := (mkF m 14 #[.val (.ref t), .val (.int (Int32.ofNat i))] [(.int ((cs.getD i 0).toUInt32.toUInt16.toUInt32.toInt32))])) (fun tQ kQ => ?_) ?_
  · refine XS.i2c P.here hx rfl (Jvm.hb hby d15_13) rfl ?_
    exact kQ
  exact P.retN hx hlk (t := .char) hret (by simp) (Jvm.hb hby d15_14) (by first | decide | omega | (dsimp only; omega) | (dsimp only [room_1]; omega) | (simp; done) | (simp [room_1]; done) | (simp [room_1]; omega)) (by first | decide | omega | (dsimp only; omega) | (dsimp only [room_1]; omega) | (simp; done) | (simp [room_1]; done) | (simp [room_1]; omega)) ⟨by rw [own_narc2 own_b2.1 own_b2.2], rfl⟩
theorem d25_0 : decode jdk_52_method_6_code 0 = .ok (.aload_n 0, 1) := by decide +kernel
theorem d25_1 : decode jdk_52_method_6_code 1 = .ok (.arraylength, 1) := by decide +kernel
theorem d25_2 : decode jdk_52_method_6_code 2 = .ok (.iconst 1, 1) := by decide +kernel
theorem d25_3 : decode jdk_52_method_6_code 3 = .ok (.ishr, 1) := by decide +kernel
theorem d25_4 : decode jdk_52_method_6_code 4 = .ok (.ireturn, 1) := by decide +kernel
set_option maxRecDepth 65536 in
set_option maxHeartbeats 40000000 in
theorem rmUln (l : Launch) (Z : State) (a0 : Array Value) (hw : ∀ d ∈ tables_1, d.before a0 Z = true) (t : Addr) (kt : ClassId) (vs : List Value) (n : Nat) (h0 : Heap) (n0 : Nat) (Z0 : n0 ≤ h0.size) (A_t : Arv Z h0 t kt .byte (Int32.ofNat (2 * n)) vs (.int (0 : Int32))) (hb : n ≤ 4000) :
    OwM l Z (⟨"java/lang/StringUTF16", "length", "([B)I"⟩ : MethodName) jdk_52_method_6_code 1 (some .int) ({ frames := 0, cells := 0, slots := 0, locals := 0 } : Room) n0 #[(.ref t)] h0 (fun v h => v = some (.int (Int32.ofNat n)) ∧ h = h0) := by
  refine OwM.mk (plainFor_of_name pn_java_lang_StringUTF16) ?_
  intro p e s m below meth cD T hx hby hml hown hnm hret hlk hZ P
  refine OwG.cast (show entryFrame m #[(.ref t)] 1 = mkF m 0 #[.val (.ref t)] [] from by first | (simp [entryFrame, mkF, argsToLocals, Value.category]; done) | rfl) ?_
  refine OwG.go (T' := T) (g' := (mkF m 1 #[.val (.ref t)] [(.ref t)])) (fun tQ kQ => ?_) ?_
  · refine XS.aloadN P.here hx rfl (Jvm.hb hby d25_0) rfl rfl ?_
    exact kQ
  obtain ⟨own_cl, own_A, own_q1, own_S, own_M, own_H, own_U⟩ := id A_t
  obtain ⟨own_L, own_X, own_e, own_N⟩ := id P
  have own_Z := hZ
  refine OwG.go (T' := T) (g' := (mkF m 2 #[.val (.ref t)] [(.int (Int32.ofNat (2 * n)))])) (fun tQ kQ => ?_) ?_
  · refine own_X.arraylength hx (by rw [own_e]; exact own_A.1) (State.isArrayOf_alike own_Z.alike own_A.2.1) (g := (mkF m 1 #[.val (.ref t)] [(.ref t)])) rfl rfl (Jvm.hb hby d25_1) _ ?_
    rw [len_of own_S own_M]
    exact kQ
  refine OwG.go (T' := T) (g' := (mkF m 4 #[.val (.ref t)] [(.int ((Int32.ofNat (2 * n)) >>> ((1 : Int32) &&& 31)))])) (fun tQ kQ => ?_) ?_
  · refine XS.iconst P.here hx rfl (Jvm.hb hby d25_2) ?_
    refine XS.ishr P.here hx rfl (Jvm.hb hby d25_3) rfl ?_
    exact kQ
  rw [show ((Int32.ofNat (2 * n)) >>> ((1 : Int32) &&& 31)) = (Int32.ofNat n) from StrChars.shr1 (by omega)]
  show OwG p e below s _ _ _ _ T (mkF m 4 #[.val (.ref t)] [(.int (Int32.ofNat n))])
  exact P.retI hx hlk hret (Jvm.hb hby d25_4) (by first | decide | omega | (dsimp only; omega) | (dsimp only [room_1]; omega) | (simp; done) | (simp [room_1]; done) | (simp [room_1]; omega)) (by first | decide | omega | (dsimp only; omega) | (dsimp only [room_1]; omega) | (simp; done) | (simp [room_1]; done) | (simp [room_1]; omega)) ⟨rfl, rfl⟩
theorem d24_0 : decode jdk_52_method_91_code 0 = .ok (.iload_n 0, 1) := by decide +kernel
theorem d24_1 : decode jdk_52_method_91_code 1 = .ok (.aload_n 1, 1) := by decide +kernel
theorem d24_2 : decode jdk_52_method_91_code 2 = .ok (.invokestatic 48, 3) := by decide +kernel
theorem pd___B_I : parseMethodDescriptor "([B)I" = some ⟨[(.array .byte)], some .int⟩ := by decide +kernel
theorem d24_5 : decode jdk_52_method_91_code 5 = .ok (.invokestatic 414, 3) := by decide +kernel
theorem d24_8 : decode jdk_52_method_91_code 8 = .ok (.return_, 1) := by decide +kernel
set_option maxRecDepth 65536 in
set_option maxHeartbeats 40000000 in
theorem rmUci (l : Launch) (Z : State) (a0 : Array Value) (hw : ∀ d ∈ tables_1, d.before a0 Z = true) (t : Addr) (kt : ClassId) (vs : List Value) (i n : Nat) (fm : Value) (h0 : Heap) (n0 : Nat) (Z0 : n0 ≤ h0.size) (SF : Sta Z Z.heap "jdk/internal/util/Preconditions" "SIOOBE_FORMATTER" "Ljava/util/function/BiFunction;" fm) (rf : fm.isRef = true) (OL : Old Z n0 h0) (A_t : Arv Z h0 t kt .byte (Int32.ofNat (2 * n)) vs (.int (0 : Int32))) (hb : n ≤ 4000) (hi : i < n) :
    OwM l Z (⟨"java/lang/StringUTF16", "checkIndex", "(I[B)V"⟩ : MethodName) jdk_52_method_91_code 2 none ({ frames := 2, cells := 0, slots := 0, locals := 27 } : Room) n0 #[(.int (Int32.ofNat i)), (.ref t)] h0 (fun v h => v = none ∧ h = h0) := by
  refine OwM.mk (plainFor_of_name pn_java_lang_StringUTF16) ?_
  intro p e s m below meth cD T hx hby hml hown hnm hret hlk hZ P
  refine OwG.cast (show entryFrame m #[(.int (Int32.ofNat i)), (.ref t)] 2 = mkF m 0 #[.val (.int (Int32.ofNat i)), .val (.ref t)] [] from by first | (simp [entryFrame, mkF, argsToLocals, Value.category]; done) | rfl) ?_
  refine OwG.go (T' := T) (g' := (mkF m 2 #[.val (.int (Int32.ofNat i)), .val (.ref t)] [(.ref t), (.int (Int32.ofNat i))])) (fun tQ kQ => ?_) ?_
  · refine XS.iloadN P.here hx rfl (Jvm.hb hby d24_0) rfl ?_
    refine XS.aloadN P.here hx rfl (Jvm.hb hby d24_1) rfl rfl ?_
    exact kQ
  refine P.stat hx hZ (y := (⟨"java/lang/StringUTF16", "length", "([B)I"⟩ : MethodName)) hown (hw _ (List.mem_of_getElem? (i := 107) rfl)) (hw _ (List.mem_of_getElem? (i := 108) rfl)) (hw _ (List.mem_of_getElem? (i := 29) rfl)) (hw _ (List.mem_of_getElem? (i := 109) rfl)) (by decide) (OwM.back (W := 1) (rmUln l Z a0 hw t kt vs n h0 n0 Z0 A_t hb) hZ (hw _ (List.mem_of_getElem? (i := 109) rfl)) (hw _ (List.mem_of_getElem? (i := 29) rfl)) (own_le rfl) (own_le rfl)) (fun _ _ _ q => q.2) (g := (mkF m 2 #[.val (.int (Int32.ofNat i)), .val (.ref t)] [(.ref t), (.int (Int32.ofNat i))])) rfl (by rw [hml]; rfl) (argsL := [(.ref t)]) (rest := [(.int (Int32.ofNat i))]) (lenOf pd___B_I rfl) rfl (by show 2 * 0 + _ ≤ _; exact Nat.le_of_eq rfl) (Jvm.hb hby d24_2) rfl (by first | decide | omega | (dsimp only; omega) | (dsimp only [room_1]; omega) | (simp; done) | (simp [room_1]; done) | (simp [room_1]; omega)) (by first | decide | omega | (dsimp only; omega) | (dsimp only [room_1]; omega) | (simp; done) | (simp [room_1]; done) | (simp [room_1]; omega)) fun T own_v own_L h1 own_e P own_q => ?_
  obtain ⟨⟨rfl, own_hh⟩, -⟩ := own_q
  rw [own_hh] at P
  clear own_e own_hh
  show OwG p e below s _ _ _ _ T (mkF m 5 #[.val (.int (Int32.ofNat i)), .val (.ref t)] [(.int (Int32.ofNat n)), (.int (Int32.ofNat i))])
  refine P.stat hx hZ (y := (⟨"java/lang/String", "checkIndex", "(II)V"⟩ : MethodName)) hown (hw _ (List.mem_of_getElem? (i := 110) rfl)) (hw _ (List.mem_of_getElem? (i := 75) rfl)) (hw _ (List.mem_of_getElem? (i := 7) rfl)) (hw _ (List.mem_of_getElem? (i := 76) rfl)) (by decide) (OwM.back (W := 0) (rmSci l Z a0 hw i n fm h0 n0 Z0 SF rf OL hi (by omega)) hZ (hw _ (List.mem_of_getElem? (i := 76) rfl)) (hw _ (List.mem_of_getElem? (i := 7) rfl)) (own_le rfl) (own_le rfl)) (fun _ _ _ q => q.2) (g := (mkF m 5 #[.val (.int (Int32.ofNat i)), .val (.ref t)] [(.int (Int32.ofNat n)), (.int (Int32.ofNat i))])) rfl (by rw [hml]; rfl) (argsL := [(.int (Int32.ofNat i)), (.int (Int32.ofNat n))]) (rest := []) (lenOf pd__II_V rfl) rfl (by show 2 * 0 + _ ≤ _; exact Nat.le_of_eq rfl) (Jvm.hb hby d24_5) rfl (by first | decide | omega | (dsimp only; omega) | (dsimp only [room_1]; omega) | (simp; done) | (simp [room_1]; done) | (simp [room_1]; omega)) (by first | decide | omega | (dsimp only; omega) | (dsimp only [room_1]; omega) | (simp; done) | (simp [room_1]; done) | (simp [room_1]; omega)) fun T own_v own_L h2 own_e P own_q => ?_
  obtain ⟨⟨rfl, own_hh⟩, -⟩ := own_q
  rw [own_hh] at P
  clear own_e own_hh
  show OwG p e below s _ _ _ _ T (mkF m 8 #[.val (.int (Int32.ofNat i)), .val (.ref t)] [])
  exact P.retV hx hlk hret (Jvm.hb hby d24_8) (by first | decide | omega | (dsimp only; omega) | (dsimp only [room_1]; omega) | (simp; done) | (simp [room_1]; done) | (simp [room_1]; omega)) (by first | decide | omega | (dsimp only; omega) | (dsimp only [room_1]; omega) | (simp; done) | (simp [room_1]; done) | (simp [room_1]; omega)) ⟨rfl, rfl⟩
theorem d23_0 : decode jdk_52_method_83_code 0 = .ok (.iload_n 1, 1) := by decide +kernel
theorem d23_1 : decode jdk_52_method_83_code 1 = .ok (.aload_n 0, 1) := by decide +kernel
theorem d23_2 : decode jdk_52_method_83_code 2 = .ok (.invokestatic 67, 3) := by decide +kernel
theorem pd__I_B_V : parseMethodDescriptor "(I[B)V" = some ⟨[.int, (.array .byte)], none⟩ := by decide +kernel
theorem d23_5 : decode jdk_52_method_83_code 5 = .ok (.aload_n 0, 1) := by decide +kernel
theorem d23_6 : decode jdk_52_method_83_code 6 = .ok (.iload_n 1, 1) := by decide +kernel
theorem d23_7 : decode jdk_52_method_83_code 7 = .ok (.invokestatic 71, 3) := by decide +kernel
theorem d23_10 : decode jdk_52_method_83_code 10 = .ok (.ireturn, 1) := by decide +kernel
set_option maxRecDepth 65536 in
set_option maxHeartbeats 40000000 in
theorem rmUca (l : Launch) (Z : State) (a0 : Array Value) (hw : ∀ d ∈ tables_1, d.before a0 Z = true) (t : Addr) (kt : ClassId) (cs : List Int32) (n i : Nat) (fm : Value) (h0 : Heap) (n0 : Nat) (Z0 : n0 ≤ h0.size) (SA : Sta Z Z.heap "java/lang/StringUTF16" "$assertionsDisabled" "Z" (.int (1 : Int32))) (SH : Sta Z Z.heap "java/lang/StringUTF16" "HI_BYTE_SHIFT" "I" (.int (0 : Int32))) (SL : Sta Z Z.heap "java/lang/StringUTF16" "LO_BYTE_SHIFT" "I" (.int (8 : Int32))) (SF : Sta Z Z.heap "jdk/internal/util/Preconditions" "SIOOBE_FORMATTER" "Ljava/util/function/BiFunction;" fm) (rf : fm.isRef = true) (OL : Old Z n0 h0) (A_t : Arv Z h0 t kt .byte (Int32.ofNat (2 * n)) (StrChars.Road.wideBytes cs) (.int (0 : Int32))) (hn : cs.length = n) (hb : n ≤ 4000) (hi : i < n) (hp : ∀ c ∈ cs, ¬ c < 0 ∧ ¬ (65535 : Int32) < c) :
    OwM l Z (⟨"java/lang/StringUTF16", "charAt", "([BI)C"⟩ : MethodName) jdk_52_method_83_code 2 (some .char) ({ frames := 3, cells := 0, slots := 0, locals := 40 } : Room) n0 #[(.ref t), (.int (Int32.ofNat i))] h0 (fun v h => v = some (.int (cs.getD i 0)) ∧ h = h0) := by
  refine OwM.mk (plainFor_of_name pn_java_lang_StringUTF16) ?_
  intro p e s m below meth cD T hx hby hml hown hnm hret hlk hZ P
  refine OwG.cast (show entryFrame m #[(.ref t), (.int (Int32.ofNat i))] 2 = mkF m 0 #[.val (.ref t), .val (.int (Int32.ofNat i))] [] from by first | (simp [entryFrame, mkF, argsToLocals, Value.category]; done) | rfl) ?_
  refine OwG.go (T' := T) (g' := (mkF m 2 #[.val (.ref t), .val (.int (Int32.ofNat i))] [(.ref t), (.int (Int32.ofNat i))])) (fun tQ kQ => ?_) ?_
  · refine XS.iloadN P.here hx rfl (Jvm.hb hby d23_0) rfl ?_
    refine XS.aloadN P.here hx rfl (Jvm.hb hby d23_1) rfl rfl ?_
    exact kQ
  refine P.stat hx hZ (y := (⟨"java/lang/StringUTF16", "checkIndex", "(I[B)V"⟩ : MethodName)) hown (hw _ (List.mem_of_getElem? (i := 104) rfl)) (hw _ (List.mem_of_getElem? (i := 105) rfl)) (hw _ (List.mem_of_getElem? (i := 29) rfl)) (hw _ (List.mem_of_getElem? (i := 106) rfl)) (by decide) (OwM.back (W := 0) (rmUci l Z a0 hw t kt _ i n fm h0 n0 Z0 SF rf OL A_t hb hi) hZ (hw _ (List.mem_of_getElem? (i := 106) rfl)) (hw _ (List.mem_of_getElem? (i := 29) rfl)) (own_le rfl) (own_le rfl)) (fun _ _ _ q => q.2) (g := (mkF m 2 #[.val (.ref t), .val (.int (Int32.ofNat i))] [(.ref t), (.int (Int32.ofNat i))])) rfl (by rw [hml]; rfl) (argsL := [(.int (Int32.ofNat i)), (.ref t)]) (rest := []) (lenOf pd__I_B_V rfl) rfl (by show 2 * 0 + _ ≤ _; exact Nat.le_of_eq rfl) (Jvm.hb hby d23_2) rfl (by first | decide | omega | (dsimp only; omega) | (dsimp only [room_1]; omega) | (simp; done) | (simp [room_1]; done) | (simp [room_1]; omega)) (by first | decide | omega | (dsimp only; omega) | (dsimp only [room_1]; omega) | (simp; done) | (simp [room_1]; done) | (simp [room_1]; omega)) fun T own_v own_L h1 own_e P own_q => ?_
  obtain ⟨⟨rfl, own_hh⟩, -⟩ := own_q
  rw [own_hh] at P
  clear own_e own_hh
  show OwG p e below s _ _ _ _ T (mkF m 5 #[.val (.ref t), .val (.int (Int32.ofNat i))] [])
  refine OwG.go (T' := T) (g' := (mkF m 7 #[.val (.ref t), .val (.int (Int32.ofNat i))] [(.int (Int32.ofNat i)), (.ref t)])) (fun tQ kQ => ?_) ?_
  · refine XS.aloadN P.here hx rfl (Jvm.hb hby d23_5) rfl rfl ?_
    refine XS.iloadN P.here hx rfl (Jvm.hb hby d23_6) rfl ?_
    exact kQ
  refine P.stat hx hZ (y := (⟨"java/lang/StringUTF16", "getChar", "([BI)C"⟩ : MethodName)) hown (hw _ (List.mem_of_getElem? (i := 98) rfl)) (hw _ (List.mem_of_getElem? (i := 99) rfl)) (hw _ (List.mem_of_getElem? (i := 29) rfl)) (hw _ (List.mem_of_getElem? (i := 100) rfl)) (by decide) (OwM.back (W := 0) (rmGet l Z a0 hw t kt n i cs h0 n0 Z0 SA SH SL OL A_t hn hb hi hp) hZ (hw _ (List.mem_of_getElem? (i := 100) rfl)) (hw _ (List.mem_of_getElem? (i := 29) rfl)) (own_le rfl) (own_le rfl)) (fun _ _ _ q => q.2) (g := (mkF m 7 #[.val (.ref t), .val (.int (Int32.ofNat i))] [(.int (Int32.ofNat i)), (.ref t)])) rfl (by rw [hml]; rfl) (argsL := [(.ref t), (.int (Int32.ofNat i))]) (rest := []) (lenOf pd___BI_C rfl) rfl (by show 2 * 0 + _ ≤ _; exact Nat.le_of_eq rfl) (Jvm.hb hby d23_7) rfl (by first | decide | omega | (dsimp only; omega) | (dsimp only [room_1]; omega) | (simp; done) | (simp [room_1]; done) | (simp [room_1]; omega)) (by first | decide | omega | (dsimp only; omega) | (dsimp only [room_1]; omega) | (simp; done) | (simp [room_1]; done) | (simp [room_1]; omega)) fun T own_v own_L h2 own_e P own_q => ?_
  obtain ⟨⟨rfl, own_hh⟩, -⟩ := own_q
  rw [own_hh] at P
  clear own_e own_hh
  show OwG p e below s _ _ _ _ T (mkF m 10 #[.val (.ref t), .val (.int (Int32.ofNat i))] [(.int (cs.getD i 0))])
  have own_b := own_bd (i := i) (by omega) hp
  exact P.retN hx hlk (t := .char) hret (by simp) (Jvm.hb hby d23_10) (by first | decide | omega | (dsimp only; omega) | (dsimp only [room_1]; omega) | (simp; done) | (simp [room_1]; done) | (simp [room_1]; omega)) (by first | decide | omega | (dsimp only; omega) | (dsimp only [room_1]; omega) | (simp; done) | (simp [room_1]; done) | (simp [room_1]; omega)) ⟨by rw [own_narc own_b.1 own_b.2], rfl⟩
theorem d13_0 : decode jdk_42_method_56_code 0 = .ok (.aload_n 0, 1) := by decide +kernel
theorem d13_1 : decode jdk_42_method_56_code 1 = .ok (.invokevirtual 492, 3) := by decide +kernel
theorem pd___Z : parseMethodDescriptor "()Z" = some ⟨[], some .boolean⟩ := by decide +kernel
theorem d13_4 : decode jdk_42_method_56_code 4 = .ok (.ifCond .eq 12, 3) := by decide +kernel
theorem d13_7 : decode jdk_42_method_56_code 7 = .ok (.aload_n 0, 1) := by decide +kernel
theorem d13_8 : decode jdk_42_method_56_code 8 = .ok (.getfield 9, 3) := by decide +kernel
theorem d13_11 : decode jdk_42_method_56_code 11 = .ok (.iload_n 1, 1) := by decide +kernel
theorem d13_12 : decode jdk_42_method_56_code 12 = .ok (.invokestatic 495, 3) := by decide +kernel
theorem d13_15 : decode jdk_42_method_56_code 15 = .ok (.ireturn, 1) := by decide +kernel
theorem d13_16 : decode jdk_42_method_56_code 16 = .ok (.aload_n 0, 1) := by decide +kernel
theorem d13_17 : decode jdk_42_method_56_code 17 = .ok (.getfield 9, 3) := by decide +kernel
theorem d13_20 : decode jdk_42_method_56_code 20 = .ok (.iload_n 1, 1) := by decide +kernel
theorem d13_21 : decode jdk_42_method_56_code 21 = .ok (.invokestatic 498, 3) := by decide +kernel
theorem d13_24 : decode jdk_42_method_56_code 24 = .ok (.ireturn, 1) := by decide +kernel
set_option maxRecDepth 65536 in
set_option maxHeartbeats 40000000 in
theorem rmCha (l : Launch) (Z : State) (a0 : Array Value) (hw : ∀ d ∈ tables_1, d.before a0 Z = true) (x t : Addr) (kt : ClassId) (cd N2 : Int32) (vs : List Value) (cs : List Int32) (n : Nat) (i : Nat) (zC : Int32) (fm : Value) (h0 : Heap) (n0 : Nat) (Z0 : n0 ≤ h0.size) (SA : Sta Z Z.heap "java/lang/StringUTF16" "$assertionsDisabled" "Z" (.int (1 : Int32))) (SH : Sta Z Z.heap "java/lang/StringUTF16" "HI_BYTE_SHIFT" "I" (.int (0 : Int32))) (SL : Sta Z Z.heap "java/lang/StringUTF16" "LO_BYTE_SHIFT" "I" (.int (8 : Int32))) (SF : Sta Z Z.heap "jdk/internal/util/Preconditions" "SIOOBE_FORMATTER" "Ljava/util/function/BiFunction;" fm) (rf : fm.isRef = true) (S2 : Sta Z Z.heap "java/lang/String" "COMPACT_STRINGS" "Z" (.int zC)) (hzC : ¬ zC = 0) (OL : Old Z n0 h0) (E_x : Exa Z h0 x "java/lang/String") (V_x : Fld Z h0 x "java/lang/String" "value" "[B" (.ref t)) (C_x : Fld Z h0 x "java/lang/String" "coder" "B" (.int cd)) (A_t : Arv Z h0 t kt .byte N2 vs (.int (0 : Int32))) (hc : StrChars.Road.CodA cs cd N2 vs) (hn : cs.length = n) (hb : n ≤ 4000) (hp : ∀ c ∈ cs, ¬ c < 0 ∧ ¬ (65535 : Int32) < c) (hi : i < n) :
    OwM l Z (⟨"java/lang/String", "charAt", "(I)C"⟩ : MethodName) jdk_42_method_56_code 2 (some .char) ({ frames := 4, cells := 0, slots := 0, locals := 53 } : Room) n0 #[(.ref x), (.int (Int32.ofNat i))] h0 (fun v h => v = some (.int (cs.getD i 0)) ∧ h = h0) := by
  refine OwM.mk (plainFor_of_name pn_java_lang_String) ?_
  intro p e s m below meth cD T hx hby hml hown hnm hret hlk hZ P
  refine OwG.cast (show entryFrame m #[(.ref x), (.int (Int32.ofNat i))] 2 = mkF m 0 #[.val (.ref x), .val (.int (Int32.ofNat i))] [] from by first | (simp [entryFrame, mkF, argsToLocals, Value.category]; done) | rfl) ?_
  refine OwG.go (T' := T) (g' := (mkF m 1 #[.val (.ref x), .val (.int (Int32.ofNat i))] [(.ref x)])) (fun tQ kQ => ?_) ?_
  · refine XS.aloadN P.here hx rfl (Jvm.hb hby d13_0) rfl rfl ?_
    exact kQ
  refine P.virtual hx hZ (y := (⟨"java/lang/String", "isLatin1", "()Z"⟩ : MethodName)) hown (hw _ (List.mem_of_getElem? (i := 66) rfl)) (hw _ (List.mem_of_getElem? (i := 67) rfl)) (hw _ (List.mem_of_getElem? (i := 69) rfl)) (hw _ (List.mem_of_getElem? (i := 68) rfl)) (by decide) (OwM.back (W := 0) (rmIsL l Z a0 hw x cd zC h0 n0 Z0 S2 hzC OL C_x) hZ (hw _ (List.mem_of_getElem? (i := 70) rfl)) (hw _ (List.mem_of_getElem? (i := 7) rfl)) (own_le rfl) (own_le rfl)) (fun _ _ _ q => q.2) E_x (g := (mkF m 1 #[.val (.ref x), .val (.int (Int32.ofNat i))] [(.ref x)])) rfl (by rw [hml]; rfl) (argsL := []) (rest := []) (lenOf pd___Z rfl) rfl (by show 2 * 0 + _ ≤ _; exact Nat.le_of_eq rfl) (Jvm.hb hby d13_1) rfl (by first | decide | omega | (dsimp only; omega) | (dsimp only [room_1]; omega) | (simp; done) | (simp [room_1]; done) | (simp [room_1]; omega)) (by first | decide | omega | (dsimp only; omega) | (dsimp only [room_1]; omega) | (simp; done) | (simp [room_1]; done) | (simp [room_1]; omega)) fun T own_v own_L h1 own_e P own_q => ?_
  obtain ⟨⟨rfl, own_hh⟩, -⟩ := own_q
  rw [own_hh] at P
  clear own_e own_hh
  show OwG p e below s _ _ _ _ T (mkF m 4 #[.val (.ref x), .val (.int (Int32.ofNat i))] [(.int (if cd = 0 then 1 else 0))])
  have own_b := own_bd (i := i) (by omega) hp
  rcases hc with ⟨rfl, rfl, rfl, ha⟩ | ⟨rfl, rfl, rfl, hw1⟩
  · skip
    rw [hn] at A_t
    refine OwG.go (T' := T) (g' := (mkF m 7 #[.val (.ref x), .val (.int (Int32.ofNat i))] [])) (fun tQ kQ => ?_) ?_
    · refine XS.ifNo P.here hx rfl (Jvm.hb hby d13_4) rfl ((if0 _ _).trans (feq (by decide)).1) ?_
      exact kQ
    refine OwG.go (T' := T) (g' := (mkF m 8 #[.val (.ref x), .val (.int (Int32.ofNat i))] [(.ref x)])) (fun tQ kQ => ?_) ?_
    · refine XS.aloadN P.here hx rfl (Jvm.hb hby d13_7) rfl rfl ?_
      exact kQ
    refine P.getF hx hZ hown (host := "") (Or.inl (hw _ (List.mem_of_getElem? (i := 24) rfl))) Via.refl V_x (g := (mkF m 8 #[.val (.ref x), .val (.int (Int32.ofNat i))] [(.ref x)])) rfl rfl (Jvm.hb hby d13_8) fun T P => ?_
    show OwG p e below s _ _ _ _ T (mkF m 11 #[.val (.ref x), .val (.int (Int32.ofNat i))] [(.ref t)])
    refine OwG.go (T' := T) (g' := (mkF m 12 #[.val (.ref x), .val (.int (Int32.ofNat i))] [(.int (Int32.ofNat i)), (.ref t)])) (fun tQ kQ => ?_) ?_
    · refine XS.iloadN P.here hx rfl (Jvm.hb hby d13_11) rfl ?_
      exact kQ
    refine P.stat hx hZ (y := (⟨"java/lang/StringLatin1", "charAt", "([BI)C"⟩ : MethodName)) hown (hw _ (List.mem_of_getElem? (i := 71) rfl)) (hw _ (List.mem_of_getElem? (i := 72) rfl)) (hw _ (List.mem_of_getElem? (i := 45) rfl)) (hw _ (List.mem_of_getElem? (i := 73) rfl)) (by decide) (OwM.back (W := 0) (rmLca l Z a0 hw t kt cs n i fm h0 n0 Z0 SF rf OL A_t hn hb hi hp ha) hZ (hw _ (List.mem_of_getElem? (i := 73) rfl)) (hw _ (List.mem_of_getElem? (i := 45) rfl)) (own_le rfl) (own_le rfl)) (fun _ _ _ q => q.2) (g := (mkF m 12 #[.val (.ref x), .val (.int (Int32.ofNat i))] [(.int (Int32.ofNat i)), (.ref t)])) rfl (by rw [hml]; rfl) (argsL := [(.ref t), (.int (Int32.ofNat i))]) (rest := []) (lenOf pd___BI_C rfl) rfl (by show 2 * 0 + _ ≤ _; exact Nat.le_of_eq rfl) (Jvm.hb hby d13_12) rfl (by first | decide | omega | (dsimp only; omega) | (dsimp only [room_1]; omega) | (simp; done) | (simp [room_1]; done) | (simp [room_1]; omega)) (by first | decide | omega | (dsimp only; omega) | (dsimp only [room_1]; omega) | (simp; done) | (simp [room_1]; done) | (simp [room_1]; omega)) fun T own_v own_L h2 own_e P own_q => ?_
    obtain ⟨⟨rfl, own_hh⟩, -⟩ := own_q
    rw [own_hh] at P
    clear own_e own_hh
    show OwG p e below s _ _ _ _ T (mkF m 15 #[.val (.ref x), .val (.int (Int32.ofNat i))] [(.int (cs.getD i 0))])
    exact P.retN hx hlk (t := .char) hret (by simp) (Jvm.hb hby d13_15) (by first | decide | omega | (dsimp only; omega) | (dsimp only [room_1]; omega) | (simp; done) | (simp [room_1]; done) | (simp [room_1]; omega)) (by first | decide | omega | (dsimp only; omega) | (dsimp only [room_1]; omega) | (simp; done) | (simp [room_1]; done) | (simp [room_1]; omega)) ⟨by rw [own_narc own_b.1 own_b.2], rfl⟩
  · skip
    rw [hn] at A_t
    refine OwG.go (T' := T) (g' := (mkF m 16 #[.val (.ref x), .val (.int (Int32.ofNat i))] [])) (fun tQ kQ => ?_) ?_
    · refine XS.ifYes P.here hx rfl (pc0 := 4) (pc' := 16) rfl (Jvm.hb hby d13_4) rfl ((if0 _ _).trans (teq (by decide)).1) (by decide) (by decide) ?_
      exact kQ
    refine OwG.go (T' := T) (g' := (mkF m 17 #[.val (.ref x), .val (.int (Int32.ofNat i))] [(.ref x)])) (fun tQ kQ => ?_) ?_
    · refine XS.aloadN P.here hx rfl (Jvm.hb hby d13_16) rfl rfl ?_
      exact kQ
    refine P.getF hx hZ hown (host := "") (Or.inl (hw _ (List.mem_of_getElem? (i := 24) rfl))) Via.refl V_x (g := (mkF m 17 #[.val (.ref x), .val (.int (Int32.ofNat i))] [(.ref x)])) rfl rfl (Jvm.hb hby d13_17) fun T P => ?_
    show OwG p e below s _ _ _ _ T (mkF m 20 #[.val (.ref x), .val (.int (Int32.ofNat i))] [(.ref t)])
    refine OwG.go (T' := T) (g' := (mkF m 21 #[.val (.ref x), .val (.int (Int32.ofNat i))] [(.int (Int32.ofNat i)), (.ref t)])) (fun tQ kQ => ?_) ?_
    · refine XS.iloadN P.here hx rfl (Jvm.hb hby d13_20) rfl ?_
      exact kQ
    refine P.stat hx hZ (y := (⟨"java/lang/StringUTF16", "charAt", "([BI)C"⟩ : MethodName)) hown (hw _ (List.mem_of_getElem? (i := 101) rfl)) (hw _ (List.mem_of_getElem? (i := 102) rfl)) (hw _ (List.mem_of_getElem? (i := 29) rfl)) (hw _ (List.mem_of_getElem? (i := 103) rfl)) (by decide) (OwM.back (W := 0) (rmUca l Z a0 hw t kt cs n i fm h0 n0 Z0 SA SH SL SF rf OL A_t hn hb hi hp) hZ (hw _ (List.mem_of_getElem? (i := 103) rfl)) (hw _ (List.mem_of_getElem? (i := 29) rfl)) (own_le rfl) (own_le rfl)) (fun _ _ _ q => q.2) (g := (mkF m 21 #[.val (.ref x), .val (.int (Int32.ofNat i))] [(.int (Int32.ofNat i)), (.ref t)])) rfl (by rw [hml]; rfl) (argsL := [(.ref t), (.int (Int32.ofNat i))]) (rest := []) (lenOf pd___BI_C rfl) rfl (by show 2 * 0 + _ ≤ _; exact Nat.le_of_eq rfl) (Jvm.hb hby d13_21) rfl (by first | decide | omega | (dsimp only; omega) | (dsimp only [room_1]; omega) | (simp; done) | (simp [room_1]; done) | (simp [room_1]; omega)) (by first | decide | omega | (dsimp only; omega) | (dsimp only [room_1]; omega) | (simp; done) | (simp [room_1]; done) | (simp [room_1]; omega)) fun T own_v own_L h2 own_e P own_q => ?_
    obtain ⟨⟨rfl, own_hh⟩, -⟩ := own_q
    rw [own_hh] at P
    clear own_e own_hh
    show OwG p e below s _ _ _ _ T (mkF m 24 #[.val (.ref x), .val (.int (Int32.ofNat i))] [(.int (cs.getD i 0))])
    exact P.retN hx hlk (t := .char) hret (by simp) (Jvm.hb hby d13_24) (by first | decide | omega | (dsimp only; omega) | (dsimp only [room_1]; omega) | (simp; done) | (simp [room_1]; done) | (simp [room_1]; omega)) (by first | decide | omega | (dsimp only; omega) | (dsimp only [room_1]; omega) | (simp; done) | (simp [room_1]; done) | (simp [room_1]; omega)) ⟨by rw [own_narc own_b.1 own_b.2], rfl⟩
theorem d3_8 : decode jdk_42_method_149_code 8 = .ok (.aload_n 0, 1) := by decide +kernel
theorem d3_9 : decode jdk_42_method_149_code 9 = .ok (.ldc 7, 2) := by decide +kernel
theorem d3_11 : decode jdk_42_method_149_code 11 = .ok (.getfield 9, 3) := by decide +kernel
theorem d3_14 : decode jdk_42_method_149_code 14 = .ok (.putfield 9, 3) := by decide +kernel
theorem d3_17 : decode jdk_42_method_149_code 17 = .ok (.aload_n 0, 1) := by decide +kernel
theorem d3_18 : decode jdk_42_method_149_code 18 = .ok (.ldc 7, 2) := by decide +kernel
theorem d3_20 : decode jdk_42_method_149_code 20 = .ok (.getfield 15, 3) := by decide +kernel
theorem d3_23 : decode jdk_42_method_149_code 23 = .ok (.putfield 15, 3) := by decide +kernel
theorem d3_26 : decode jdk_42_method_149_code 26 = .ok (.return_, 1) := by decide +kernel
set_option maxRecDepth 65536 in
set_option maxHeartbeats 40000000 in
theorem rmN4e (l : Launch) (Z : State) (a0 : Array Value) (hw : ∀ d ∈ tables_1, d.before a0 Z = true) (a1 a2 : Addr) (h0 : Heap) (n0 : Nat) (Z0 : n0 ≤ h0.size) (g_a1 : n0 ≤ a1) (E_a1 : Exa Z h0 a1 "java/lang/String") (F_coder_a1 : Fld Z h0 a1 "java/lang/String" "coder" "B" (.int (0 : Int32))) (F_value_a1 : Fld Z h0 a1 "java/lang/String" "value" "[B" .null) :
    OwS l Z own_EL [a1] (⟨"java/lang/String", "<init>", "([CIILjava/lang/Void;)V"⟩ : MethodName) jdk_42_method_149_code 6 none ({ frames := 1, cells := 4, slots := 8, locals := 12 } : Room) n0 #[(.ref a1), (.ref a2), (.int (0 : Int32)), (.int (0 : Int32)), .null] h0 (fun v h => v = none ∧ Keep h0 h [a1] ∧ ∃ (t : Addr) (kt : ClassId), Fld Z h a1 "java/lang/String" "value" "[B" (.ref t) ∧ Fld Z h a1 "java/lang/String" "coder" "B" (.int (0 : Int32)) ∧ Arv Z h t kt .byte (0 : Int32) [] (.int (0 : Int32))) := by
  have hEL := own_EW hw
  refine OwS.mk (plainFor_of_name pn_java_lang_String) ?_
  intro p e s m below meth cD T hx hby hml hnm hret hlk P
  refine OwH.cast (show entryFrame m #[(.ref a1), (.ref a2), (.int (0 : Int32)), (.int (0 : Int32)), .null] 6 = mkF m 0 #[.val (.ref a1), .val (.ref a2), .val (.int (0 : Int32)), .val (.int (0 : Int32)), .val .null, .unset] [] from by first | (simp [entryFrame, mkF, argsToLocals, Value.category]; done) | rfl) ?_
  have KP := Keep.refl h0 [a1]
  refine OwH.go (T' := T) (g' := (mkF m 1 #[.val (.ref a1), .val (.ref a2), .val (.int (0 : Int32)), .val (.int (0 : Int32)), .val .null, .unset] [(.ref a1)])) (fun tQ kQ => ?_) ?_
  · refine XS.aloadN P.here hx rfl (Jvm.hb hby d3_0) rfl rfl ?_
    exact kQ
  refine P.initO hx (hw _ (List.mem_of_getElem? (i := 15) rfl)) (hw _ (List.mem_of_getElem? (i := 16) rfl)) (hw _ (List.mem_of_getElem? (i := 17) rfl)) (g := (mkF m 1 #[.val (.ref a1), .val (.ref a2), .val (.int (0 : Int32)), .val (.int (0 : Int32)), .val .null, .unset] [(.ref a1)])) rfl (by rw [hml]; rfl) rfl (Jvm.hb hby d3_1) (own_le rfl) (W := 0) (by show 2 * 0 + _ ≤ _; exact Nat.le_of_eq rfl) (own_le rfl) fun T P => ?_
  show OwH p e below s _ _ _ _ _ _ T (mkF m 4 #[.val (.ref a1), .val (.ref a2), .val (.int (0 : Int32)), .val (.int (0 : Int32)), .val .null, .unset] [])
  refine OwH.go (T' := T) (g' := (mkF m 5 #[.val (.ref a1), .val (.ref a2), .val (.int (0 : Int32)), .val (.int (0 : Int32)), .val .null, .unset] [(.int (0 : Int32))])) (fun tQ kQ => ?_) ?_
  · refine XS.iloadN P.here hx rfl (Jvm.hb hby d3_4) rfl ?_
    exact kQ
  refine OwH.go (T' := T) (g' := (mkF m 8 #[.val (.ref a1), .val (.ref a2), .val (.int (0 : Int32)), .val (.int (0 : Int32)), .val .null, .unset] [])) (fun tQ kQ => ?_) ?_
  · refine XS.ifNo P.here hx rfl (Jvm.hb hby d3_5) rfl ((if0 _ _).trans (teq rfl).2) ?_
    exact kQ
  refine OwH.go (T' := T) (g' := (mkF m 9 #[.val (.ref a1), .val (.ref a2), .val (.int (0 : Int32)), .val (.int (0 : Int32)), .val .null, .unset] [(.ref a1)])) (fun tQ kQ => ?_) ?_
  · refine XS.aloadN P.here hx rfl (Jvm.hb hby d3_8) rfl rfl ?_
    exact kQ
  refine P.ldcR hx hEL (by decide) (hw _ (List.mem_of_getElem? (i := 18) rfl)) (own_wS hw) (vs := []) (z := (0 : Int32)) (by decide) (by decide) (by decide) (g := (mkF m 9 #[.val (.ref a1), .val (.ref a2), .val (.int (0 : Int32)), .val (.int (0 : Int32)), .val .null, .unset] [(.ref a1)])) rfl (Jvm.hb hby d3_9) (nn := 0) (by decide) (by decide) (by first | decide | omega | (dsimp only; omega) | (dsimp only [room_1]; omega) | (simp; done) | (simp [room_1]; done) | (simp [room_1]; omega)) (by first | decide | omega | (dsimp only; omega) | (dsimp only [room_1]; omega) | (simp; done) | (simp [room_1]; done) | (simp [room_1]; omega)) fun T h1 s1 t1 kt1 P E E_s1 F_coder_s1 F_value_s1 V_t1 ne_s1 => ?_
  replace E_a1 := E_a1.ext E
  replace F_coder_a1 := F_coder_a1.ext E
  replace F_value_a1 := F_value_a1.ext E
  replace Z0 := Nat.le_trans Z0 E.1
  replace KP := KP.ext E
  clear E
  have ne_a1_s1 := (ne_s1 a1 (by simp)).1
  have ne_s1_a1 := Ne.symm ne_a1_s1
  have ne_a1_t1 := (ne_s1 a1 (by simp)).2
  have ne_t1_a1 := Ne.symm ne_a1_t1
  show OwH p e below s _ _ _ _ _ _ T (mkF m 11 #[.val (.ref a1), .val (.ref a2), .val (.int (0 : Int32)), .val (.int (0 : Int32)), .val .null, .unset] [(.ref s1), (.ref a1)])
  refine P.getF hx (host := "") (Or.inl (hw _ (List.mem_of_getElem? (i := 24) rfl))) Via.refl F_value_s1 (g := (mkF m 11 #[.val (.ref a1), .val (.ref a2), .val (.int (0 : Int32)), .val (.int (0 : Int32)), .val .null, .unset] [(.ref s1), (.ref a1)])) rfl rfl (Jvm.hb hby d3_11) fun T P => ?_
  show OwH p e below s _ _ _ _ _ _ T (mkF m 14 #[.val (.ref a1), .val (.ref a2), .val (.int (0 : Int32)), .val (.int (0 : Int32)), .val .null, .unset] [(.ref t1), (.ref a1)])
  refine P.putF hx (host := "") (Or.inl (hw _ (List.mem_of_getElem? (i := 24) rfl))) Via.refl F_value_a1 E_a1 (Or.inr ⟨(hw _ (List.mem_of_getElem? (i := 20) rfl)), rfl, hnm⟩) (hw _ (List.mem_of_getElem? (i := 6) rfl)) (ty := (.array .byte)) (by decide) rfl rfl (g := (mkF m 14 #[.val (.ref a1), .val (.ref a2), .val (.int (0 : Int32)), .val (.int (0 : Int32)), .val .null, .unset] [(.ref t1), (.ref a1)])) rfl rfl (Jvm.hb hby d3_14) g_a1 (Or.inl (by simp)) fun T h2 P W => ?_
  replace E_a1 := E_a1.wr W
  replace F_coder_a1 := F_coder_a1.other W (Or.inr (slot_ne (Or.inr (hw _ (List.mem_of_getElem? (i := 21) rfl))) (Or.inr (hw _ (List.mem_of_getElem? (i := 20) rfl))) (by decide) (t := .byte) (t' := (.array .byte)) (by decide) (by decide)))
  replace F_value_a1 := F_value_a1.same W
  replace E_s1 := E_s1.wr W
  replace F_coder_s1 := F_coder_s1.other W (Or.inl ne_s1_a1)
  replace F_value_s1 := F_value_s1.other W (Or.inl ne_s1_a1)
  replace V_t1 := V_t1.other W ne_t1_a1
  replace Z0 := Nat.le_trans Z0 (Keep.of_wr W).1
  replace KP := KP.wr W (Or.inl (List.mem_of_getElem? (i := 0) rfl))
  clear W
  show OwH p e below s _ _ _ _ _ _ T (mkF m 17 #[.val (.ref a1), .val (.ref a2), .val (.int (0 : Int32)), .val (.int (0 : Int32)), .val .null, .unset] [])
  refine OwH.go (T' := T) (g' := (mkF m 18 #[.val (.ref a1), .val (.ref a2), .val (.int (0 : Int32)), .val (.int (0 : Int32)), .val .null, .unset] [(.ref a1)])) (fun tQ kQ => ?_) ?_
  · refine XS.aloadN P.here hx rfl (Jvm.hb hby d3_17) rfl rfl ?_
    exact kQ
  refine P.ldcR hx hEL (by decide) (hw _ (List.mem_of_getElem? (i := 18) rfl)) (own_wS hw) (vs := []) (z := (0 : Int32)) (by decide) (by decide) (by decide) (g := (mkF m 18 #[.val (.ref a1), .val (.ref a2), .val (.int (0 : Int32)), .val (.int (0 : Int32)), .val .null, .unset] [(.ref a1)])) rfl (Jvm.hb hby d3_18) (nn := 0) (by decide) (by decide) (by first | decide | omega | (dsimp only; omega) | (dsimp only [room_1]; omega) | (simp; done) | (simp [room_1]; done) | (simp [room_1]; omega)) (by first | decide | omega | (dsimp only; omega) | (dsimp only [room_1]; omega) | (simp; done) | (simp [room_1]; done) | (simp [room_1]; omega)) fun T h3 s2 t2 kt2 P E E_s2 F_coder_s2 F_value_s2 V_t2 ne_s2 => ?_
  replace E_a1 := E_a1.ext E
  replace F_coder_a1 := F_coder_a1.ext E
  replace F_value_a1 := F_value_a1.ext E
  replace E_s1 := E_s1.ext E
  replace F_coder_s1 := F_coder_s1.ext E
  replace F_value_s1 := F_value_s1.ext E
  replace V_t1 := V_t1.ext E
  replace Z0 := Nat.le_trans Z0 E.1
  replace KP := KP.ext E
  clear E
  have ne_a1_s2 := (ne_s2 a1 (by simp)).1
  have ne_s2_a1 := Ne.symm ne_a1_s2
  have ne_a1_t2 := (ne_s2 a1 (by simp)).2
  have ne_t2_a1 := Ne.symm ne_a1_t2
  show OwH p e below s _ _ _ _ _ _ T (mkF m 20 #[.val (.ref a1), .val (.ref a2), .val (.int (0 : Int32)), .val (.int (0 : Int32)), .val .null, .unset] [(.ref s2), (.ref a1)])
  refine P.getF hx (host := "") (Or.inl (hw _ (List.mem_of_getElem? (i := 25) rfl))) Via.refl F_coder_s2 (g := (mkF m 20 #[.val (.ref a1), .val (.ref a2), .val (.int (0 : Int32)), .val (.int (0 : Int32)), .val .null, .unset] [(.ref s2), (.ref a1)])) rfl rfl (Jvm.hb hby d3_20) fun T P => ?_
  show OwH p e below s _ _ _ _ _ _ T (mkF m 23 #[.val (.ref a1), .val (.ref a2), .val (.int (0 : Int32)), .val (.int (0 : Int32)), .val .null, .unset] [(.int (0 : Int32)), (.ref a1)])
  refine P.putFN hx (hw _ (List.mem_of_getElem? (i := 25) rfl)) Via.refl F_coder_a1 E_a1 (Or.inr ⟨(hw _ (List.mem_of_getElem? (i := 21) rfl)), rfl, hnm⟩) (hw _ (List.mem_of_getElem? (i := 6) rfl)) (ty := .byte) (v' := (.int (0 : Int32))) (by decide) rfl rfl (g := (mkF m 23 #[.val (.ref a1), .val (.ref a2), .val (.int (0 : Int32)), .val (.int (0 : Int32)), .val .null, .unset] [(.int (0 : Int32)), (.ref a1)])) rfl rfl (Jvm.hb hby d3_23) g_a1 (Or.inl (by simp)) fun T h4 P W => ?_
  replace E_a1 := E_a1.wr W
  replace F_coder_a1 := F_coder_a1.same W
  replace F_value_a1 := F_value_a1.other W (Or.inr (slot_ne (Or.inr (hw _ (List.mem_of_getElem? (i := 20) rfl))) (Or.inr (hw _ (List.mem_of_getElem? (i := 21) rfl))) (by decide) (t := (.array .byte)) (t' := .byte) (by decide) (by decide)))
  replace E_s1 := E_s1.wr W
  replace F_coder_s1 := F_coder_s1.other W (Or.inl ne_s1_a1)
  replace F_value_s1 := F_value_s1.other W (Or.inl ne_s1_a1)
  replace V_t1 := V_t1.other W ne_t1_a1
  replace E_s2 := E_s2.wr W
  replace F_coder_s2 := F_coder_s2.other W (Or.inl ne_s2_a1)
  replace F_value_s2 := F_value_s2.other W (Or.inl ne_s2_a1)
  replace V_t2 := V_t2.other W ne_t2_a1
  replace Z0 := Nat.le_trans Z0 (Keep.of_wr W).1
  replace KP := KP.wr W (Or.inl (List.mem_of_getElem? (i := 0) rfl))
  clear W
  show OwH p e below s _ _ _ _ _ _ T (mkF m 26 #[.val (.ref a1), .val (.ref a2), .val (.int (0 : Int32)), .val (.int (0 : Int32)), .val .null, .unset] [])
  exact P.retV hEL hx hlk hret (Jvm.hb hby d3_26) (by first | decide | omega | (dsimp only; omega) | (dsimp only [room_1]; omega) | (simp; done) | (simp [room_1]; done) | (simp [room_1]; omega)) (by first | decide | omega | (dsimp only; omega) | (dsimp only [room_1]; omega) | (simp; done) | (simp [room_1]; done) | (simp [room_1]; omega)) ⟨rfl, KP, t1, kt1, F_value_a1, F_coder_a1, V_t1⟩
set_option maxRecDepth 65536 in
set_option maxHeartbeats 40000000 in
theorem rmN1e (l : Launch) (Z : State) (a0 : Array Value) (hw : ∀ d ∈ tables_1, d.before a0 Z = true) (a1 a2 : Addr) (k2 : ClassId) (d2 : Value) (h0 : Heap) (n0 : Nat) (Z0 : n0 ≤ h0.size) (g_a1 : n0 ≤ a1) (E_a1 : Exa Z h0 a1 "java/lang/String") (F_coder_a1 : Fld Z h0 a1 "java/lang/String" "coder" "B" (.int (0 : Int32))) (F_value_a1 : Fld Z h0 a1 "java/lang/String" "value" "[B" .null) (V_a2 : Arv Z h0 a2 k2 .char (0 : Int32) [] d2) :
    OwS l Z own_EL [a1] (⟨"java/lang/String", "<init>", "([C)V"⟩ : MethodName) jdk_42_method_3_code 2 none ({ frames := 2, cells := 4, slots := 8, locals := 29 } : Room) n0 #[(.ref a1), (.ref a2)] h0 (fun v h => v = none ∧ Keep h0 h [a1] ∧ ∃ (t : Addr) (kt : ClassId), Fld Z h a1 "java/lang/String" "value" "[B" (.ref t) ∧ Fld Z h a1 "java/lang/String" "coder" "B" (.int (0 : Int32)) ∧ Arv Z h t kt .byte (0 : Int32) [] (.int (0 : Int32))) := by
  have hEL := own_EW hw
  refine OwS.mk (plainFor_of_name pn_java_lang_String) ?_
  intro p e s m below meth cD T hx hby hml hnm hret hlk P
  refine OwH.cast (show entryFrame m #[(.ref a1), (.ref a2)] 2 = mkF m 0 #[.val (.ref a1), .val (.ref a2)] [] from by first | (simp [entryFrame, mkF, argsToLocals, Value.category]; done) | rfl) ?_
  refine OwH.go (T' := T) (g' := (mkF m 4 #[.val (.ref a1), .val (.ref a2)] [(.ref a2), (.int (0 : Int32)), (.ref a2), (.ref a1)])) (fun tQ kQ => ?_) ?_
  · refine XS.aloadN P.here hx rfl (Jvm.hb hby d2_0) rfl rfl ?_
    refine XS.aloadN P.here hx rfl (Jvm.hb hby d2_1) rfl rfl ?_
    refine XS.iconst P.here hx rfl (Jvm.hb hby d2_2) ?_
    refine XS.aloadN P.here hx rfl (Jvm.hb hby d2_3) rfl rfl ?_
    exact kQ
  obtain ⟨own_cl, own_A, own_q1, own_S, own_M, own_H, own_U⟩ := id V_a2
  obtain ⟨_, _, own_L, own_X, own_e, own_N, _, _, own_Z, _⟩ := id P
  refine OwH.go (T' := T) (g' := (mkF m 5 #[.val (.ref a1), .val (.ref a2)] [(.int (0 : Int32)), (.int (0 : Int32)), (.ref a2), (.ref a1)])) (fun tQ kQ => ?_) ?_
  · refine own_X.arraylength hx (by rw [own_e]; exact own_A.1) (State.isArrayOf_alike own_Z.alike own_A.2.1) (g := (mkF m 4 #[.val (.ref a1), .val (.ref a2)] [(.ref a2), (.int (0 : Int32)), (.ref a2), (.ref a1)])) rfl rfl (Jvm.hb hby d2_4) _ ?_
    rw [len_of own_S own_M]
    exact kQ
  refine OwH.go (T' := T) (g' := (mkF m 6 #[.val (.ref a1), .val (.ref a2)] [.null, (.int (0 : Int32)), (.int (0 : Int32)), (.ref a2), (.ref a1)])) (fun tQ kQ => ?_) ?_
  · refine XS.aconstNull P.here hx rfl (Jvm.hb hby d2_5) ?_
    exact kQ
  refine P.specialS hx (y := (⟨"java/lang/String", "<init>", "([CIILjava/lang/Void;)V"⟩ : MethodName)) rfl (hw _ (List.mem_of_getElem? (i := 11) rfl)) (hw _ (List.mem_of_getElem? (i := 12) rfl)) (hw _ (List.mem_of_getElem? (i := 14) rfl)) (by decide) (fun vm0 hZ hCv hsf => OwS.back (s := s.setVm vm0) (W := 0) (rmN4e l Z a0 hw a1 a2 h0 n0 Z0 g_a1 E_a1 F_coder_a1 F_value_a1) hZ (hw _ (List.mem_of_getElem? (i := 14) rfl)) (hw _ (List.mem_of_getElem? (i := 7) rfl)) (own_le rfl) (own_le rfl) hEL hCv hsf) (sf' := [a1]) (fun _ _ _ q => q.2) (allS (List.mem_of_getElem? (i := 0) rfl) all0) (g := (mkF m 6 #[.val (.ref a1), .val (.ref a2)] [.null, (.int (0 : Int32)), (.int (0 : Int32)), (.ref a2), (.ref a1)])) rfl (by rw [hml]; rfl) (a := a1) (argsL := [(.ref a2), (.int (0 : Int32)), (.int (0 : Int32)), .null]) (rest := []) (lenOf pd___CIILjava_lang_Void__V rfl) rfl (by show 2 * 0 + _ ≤ _; exact Nat.le_of_eq rfl) (Jvm.hb hby d2_6) rfl (by first | decide | omega | (dsimp only; omega) | (dsimp only [room_1]; omega) | (simp; done) | (simp [room_1]; done) | (simp [room_1]; omega)) (by first | decide | omega | (dsimp only; omega) | (dsimp only [room_1]; omega) | (simp; done) | (simp [room_1]; done) | (simp [room_1]; omega)) fun T own_v own_L h1 own_e P own_q => ?_
  obtain ⟨⟨rfl, own_K, own_t, own_k, own_F1, own_F2, own_V⟩, -⟩ := own_q
  show OwH p e below s _ _ _ _ _ _ T (mkF m 9 #[.val (.ref a1), .val (.ref a2)] [])
  exact P.retV hEL hx hlk hret (Jvm.hb hby d2_9) (by first | decide | omega | (dsimp only; omega) | (dsimp only [room_1]; omega) | (simp; done) | (simp [room_1]; done) | (simp [room_1]; omega)) (by first | decide | omega | (dsimp only; omega) | (dsimp only [room_1]; omega) | (simp; done) | (simp [room_1]; done) | (simp [room_1]; omega)) ⟨rfl, own_K, own_t, own_k, own_F1, own_F2, own_V⟩
def own_EQ (cs ds : List Int32) (h : Heap) (n0 : Nat) (v : Option Value) (h' : Heap) (L : List Loc) : Prop := (∃ i : Int32, v = some (.int i) ∧ ((i = 1 ∧ cs = ds) ∨ (i = 0 ∧ ¬ cs = ds))) ∧ h' = h ∧ Fr n0 L
theorem own_wEq : ∀ d ∈ StrChars.Road.wordsEq, d ∈ tables_1 := by decide +kernel
/-- equals of two Strings, as one int -/
theorem own_eqB {p : Program} {l : Launch} {e : Env} {R : Room} {s : State} {args : Array Value} {below : List Frame} {W : Nat} {Z : State} {a0 : Array Value} {h : Heap} {n0 : Nat} (hZ : Z.Warmed39 s.vm) (hw : ∀ d ∈ tables_1, d.before a0 Z = true)
    {x t : Addr} {kb : ClassId} {cs : List Int32} {cd N2 : Int32} {vs : List Value} (E : Exa Z h x "java/lang/String") (V : Fld Z h x "java/lang/String" "value" "[B" (.ref t)) (C : Fld Z h x "java/lang/String" "coder" "B" (.int cd)) (K : Arv Z h t kb .byte N2 vs (.int 0)) (hc : StrChars.Road.CodA cs cd N2 vs) (hb : ∀ c ∈ cs, ¬ c < 0 ∧ ¬ (65535 : Int32) < c) (l2 : cs.length ≤ 4000)
    {y t' : Addr} {kb' : ClassId} {ds : List Int32} {cd' N2' : Int32} {vs' : List Value} (E' : Exa Z h y "java/lang/String") (V' : Fld Z h y "java/lang/String" "value" "[B" (.ref t')) (C' : Fld Z h y "java/lang/String" "coder" "B" (.int cd')) (K' : Arv Z h t' kb' .byte N2' vs' (.int 0)) (hc' : StrChars.Road.CodA ds cd' N2' vs') (hb' : ∀ c ∈ ds, ¬ c < 0 ∧ ¬ (65535 : Int32) < c) (l2' : ds.length ≤ 4000)
    {z : Int32} (S : Sta Z h "java/lang/String" "COMPACT_STRINGS" "Z" (.int z)) (hz : ¬ z = 0) (hfr : 2 ≤ R.frames) (hlo : W + 28 ≤ R.locals) :
    Back l R p e below s args (⟨"java/lang/String", "equals", "(Ljava/lang/Object;)Z"⟩ : MethodName) 3 W (fun P a => a = #[.ref x, .ref y] ∧ P.U.heap = h ∧ P.cells + 0 ≤ R.cells ∧ P.slots + 0 ≤ R.slots)
      (fun P _ v B => ∃ L, own_EQ cs ds h n0 v B.U.heap L ∧ B.locs = P.locs ++ L ∧ B.cells = P.cells + 0 ∧ B.slots = P.slots + 0) :=
  Back.mono (StrChars.Road.eqW hZ (fun d hd => hw d (own_wEq d hd)) (kI := 4) (hw _ (List.mem_of_getElem? (i := 6) rfl)) E V C K hc hb l2 E' V' C' K' hc' hb' l2' S hz hfr hlo) (fun _ _ q => q) (fun P a v B _ hq => by
    obtain ⟨L, ⟨q1, q2, q3⟩, r⟩ := hq
    refine ⟨L, ⟨?_, q3, by rw [q2]; exact Fr.nil _⟩, r⟩
    rcases q1 with ⟨rfl, q⟩ | ⟨rfl, q⟩
    · exact ⟨1, rfl, Or.inl ⟨rfl, q⟩⟩
    · exact ⟨0, rfl, Or.inr ⟨rfl, q⟩⟩)
def own_LN (n : Nat) (h : Heap) (n0 : Nat) (v : Option Value) (h' : Heap) (L : List Loc) : Prop := v = some (.int (Int32.ofNat n)) ∧ h' = h ∧ Fr n0 L
theorem own_wLen : ∀ d ∈ StrChars.Road.wordsLen, d ∈ tables_1 := by decide +kernel
theorem own_lenB {p : Program} {l : Launch} {e : Env} {R : Room} {s : State} {args : Array Value} {below : List Frame} {W : Nat} {Z : State} {a0 : Array Value} {h : Heap} {n0 : Nat} (hZ : Z.Warmed39 s.vm) (hw : ∀ d ∈ tables_1, d.before a0 Z = true)
    {x t : Addr} {kb : ClassId} {cs : List Int32} {cd N2 z : Int32} {vs : List Value} {n : Nat} (E : Exa Z h x "java/lang/String") (V : Fld Z h x "java/lang/String" "value" "[B" (.ref t)) (C : Fld Z h x "java/lang/String" "coder" "B" (.int cd)) (K : Arv Z h t kb .byte N2 vs (.int 0)) (hc : StrChars.Road.CodA cs cd N2 vs) (hb : ∀ c ∈ cs, ¬ c < 0 ∧ ¬ (65535 : Int32) < c)
    (S : Sta Z h "java/lang/String" "COMPACT_STRINGS" "Z" (.int z)) (hz : ¬ z = 0) (hn : cs.length = n) (l2 : n ≤ 4000) (hfr : 2 ≤ R.frames) (hlo : W + 25 ≤ R.locals) :
    Back l R p e below s args (⟨"java/lang/String", "length", "()I"⟩ : MethodName) 3 W (fun P a => a = #[.ref x] ∧ P.U.heap = h ∧ P.cells + 0 ≤ R.cells ∧ P.slots + 0 ≤ R.slots)
      (fun P _ v B => ∃ L, own_LN n h n0 v B.U.heap L ∧ B.locs = P.locs ++ L ∧ B.cells = P.cells + 0 ∧ B.slots = P.slots + 0) :=
  Back.mono (StrChars.Road.lenW hZ (fun d hd => hw d (own_wLen d hd)) (kI := 4) (hw _ (List.mem_of_getElem? (i := 6) rfl)) E V C K hc hb S hz (by omega) hfr hlo) (fun _ _ q => q) (fun P a v B _ hq => by
    obtain ⟨L, ⟨q1, q2, q3⟩, r⟩ := hq
    exact ⟨L, ⟨by rw [q1, hn], q3, by rw [q2]; exact Fr.nil _⟩, r⟩)
theorem own_eqv {args : Array Value} {first s : State} {o : Option Outcome} {idx : List Nat} {t : Term} {z : Int32} (h : (Jvm.Cond.eq t (.int z)).value args first o s idx = some true) : t.eval args first o idx s = some (.int z) := by
  simp only [Cond.value, Term.eval] at h
  cases ht : t.eval args first o idx s with
  | none => simp [ht] at h
  | some v => cases v <;> simp_all
def own_txt (n a b c : Int32) : List Int32 := if n = 0 then [] else if n = 1 then [a] else if n = 2 then [a, b] else [a, b, c]
theorem own_txt_len (n a b c : Int32) : (own_txt n a b c).length ≤ 3 := by unfold own_txt; split <;> (try split) <;> (try split) <;> simp
theorem own_txt_bd {n a b c : Int32} (ha : ¬ a < 0 ∧ ¬ (65535 : Int32) < a) (hb : ¬ b < 0 ∧ ¬ (65535 : Int32) < b) (hc : ¬ c < 0 ∧ ¬ (65535 : Int32) < c) : ∀ z ∈ own_txt n a b c, ¬ z < 0 ∧ ¬ (65535 : Int32) < z := by
  intro z hz
  have : z = a ∨ z = b ∨ z = c := by
    unfold own_txt at hz
    split at hz
    · simp at hz
    · split at hz
      · simp at hz; exact Or.inl hz
      · split at hz
        · simp at hz; rcases hz with q | q <;> simp [q]
        · simp at hz; rcases hz with q | q | q <;> simp [q]
  rcases this with rfl | rfl | rfl
  · exact ha
  · exact hb
  · exact hc
theorem d1_0 : decode method_2_code 0 = .ok (.iload_n 0, 1) := by decide +kernel
theorem d1_1 : decode method_2_code 1 = .ok (.ifCond .ne 14, 3) := by decide +kernel
theorem d1_4 : decode method_2_code 4 = .ok (.new 7, 3) := by decide +kernel
theorem d1_7 : decode method_2_code 7 = .ok (.dup, 1) := by decide +kernel
theorem d1_8 : decode method_2_code 8 = .ok (.iconst 0, 1) := by decide +kernel
theorem d1_9 : decode method_2_code 9 = .ok (.newarray .char, 2) := by decide +kernel
theorem d1_11 : decode method_2_code 11 = .ok (.invokespecial 9, 3) := by decide +kernel
theorem pd___C_V : parseMethodDescriptor "([C)V" = some ⟨[(.array .char)], none⟩ := by decide +kernel
theorem d1_14 : decode method_2_code 14 = .ok (.areturn, 1) := by decide +kernel
theorem d1_15 : decode method_2_code 15 = .ok (.iload_n 0, 1) := by decide +kernel
theorem d1_16 : decode method_2_code 16 = .ok (.iconst 1, 1) := by decide +kernel
theorem d1_17 : decode method_2_code 17 = .ok (.if_icmp .ne 18, 3) := by decide +kernel
theorem d1_20 : decode method_2_code 20 = .ok (.new 7, 3) := by decide +kernel
theorem d1_23 : decode method_2_code 23 = .ok (.dup, 1) := by decide +kernel
theorem d1_24 : decode method_2_code 24 = .ok (.iconst 1, 1) := by decide +kernel
theorem d1_25 : decode method_2_code 25 = .ok (.newarray .char, 2) := by decide +kernel
theorem d1_27 : decode method_2_code 27 = .ok (.dup, 1) := by decide +kernel
theorem d1_28 : decode method_2_code 28 = .ok (.iconst 0, 1) := by decide +kernel
theorem d1_29 : decode method_2_code 29 = .ok (.iload_n 1, 1) := by decide +kernel
theorem d1_30 : decode method_2_code 30 = .ok (.castore, 1) := by decide +kernel
theorem d1_31 : decode method_2_code 31 = .ok (.invokespecial 9, 3) := by decide +kernel
theorem d1_34 : decode method_2_code 34 = .ok (.areturn, 1) := by decide +kernel
theorem d1_35 : decode method_2_code 35 = .ok (.iload_n 0, 1) := by decide +kernel
theorem d1_36 : decode method_2_code 36 = .ok (.iconst 2, 1) := by decide +kernel
theorem d1_37 : decode method_2_code 37 = .ok (.if_icmp .ne 22, 3) := by decide +kernel
theorem d1_40 : decode method_2_code 40 = .ok (.new 7, 3) := by decide +kernel
theorem d1_43 : decode method_2_code 43 = .ok (.dup, 1) := by decide +kernel
theorem d1_44 : decode method_2_code 44 = .ok (.iconst 2, 1) := by decide +kernel
theorem d1_45 : decode method_2_code 45 = .ok (.newarray .char, 2) := by decide +kernel
theorem d1_47 : decode method_2_code 47 = .ok (.dup, 1) := by decide +kernel
theorem d1_48 : decode method_2_code 48 = .ok (.iconst 0, 1) := by decide +kernel
theorem d1_49 : decode method_2_code 49 = .ok (.iload_n 1, 1) := by decide +kernel
theorem d1_50 : decode method_2_code 50 = .ok (.castore, 1) := by decide +kernel
theorem d1_51 : decode method_2_code 51 = .ok (.dup, 1) := by decide +kernel
theorem d1_52 : decode method_2_code 52 = .ok (.iconst 1, 1) := by decide +kernel
theorem d1_53 : decode method_2_code 53 = .ok (.iload_n 2, 1) := by decide +kernel
theorem d1_54 : decode method_2_code 54 = .ok (.castore, 1) := by decide +kernel
theorem d1_55 : decode method_2_code 55 = .ok (.invokespecial 9, 3) := by decide +kernel
theorem d1_58 : decode method_2_code 58 = .ok (.areturn, 1) := by decide +kernel
theorem d1_59 : decode method_2_code 59 = .ok (.new 7, 3) := by decide +kernel
theorem d1_62 : decode method_2_code 62 = .ok (.dup, 1) := by decide +kernel
theorem d1_63 : decode method_2_code 63 = .ok (.iconst 3, 1) := by decide +kernel
theorem d1_64 : decode method_2_code 64 = .ok (.newarray .char, 2) := by decide +kernel
theorem d1_66 : decode method_2_code 66 = .ok (.dup, 1) := by decide +kernel
theorem d1_67 : decode method_2_code 67 = .ok (.iconst 0, 1) := by decide +kernel
theorem d1_68 : decode method_2_code 68 = .ok (.iload_n 1, 1) := by decide +kernel
theorem d1_69 : decode method_2_code 69 = .ok (.castore, 1) := by decide +kernel
theorem d1_70 : decode method_2_code 70 = .ok (.dup, 1) := by decide +kernel
theorem d1_71 : decode method_2_code 71 = .ok (.iconst 1, 1) := by decide +kernel
theorem d1_72 : decode method_2_code 72 = .ok (.iload_n 2, 1) := by decide +kernel
theorem d1_73 : decode method_2_code 73 = .ok (.castore, 1) := by decide +kernel
theorem d1_74 : decode method_2_code 74 = .ok (.dup, 1) := by decide +kernel
theorem d1_75 : decode method_2_code 75 = .ok (.iconst 2, 1) := by decide +kernel
theorem d1_76 : decode method_2_code 76 = .ok (.iload_n 3, 1) := by decide +kernel
theorem d1_77 : decode method_2_code 77 = .ok (.castore, 1) := by decide +kernel
theorem d1_78 : decode method_2_code 78 = .ok (.invokespecial 9, 3) := by decide +kernel
theorem d1_81 : decode method_2_code 81 = .ok (.areturn, 1) := by decide +kernel
theorem pn_com_example_clearbid_clearbid_format_InternedStringsHoldsPinLaw : plainName "com/example/clearbid/clearbid/format/InternedStringsHoldsPinLaw" = true := by first | (simp [plainName, overriddenIn]; done) | decide +kernel
set_option maxRecDepth 65536 in
set_option maxHeartbeats 40000000 in
theorem rmText (l : Launch) (Z : State) (a0 : Array Value) (hw : ∀ d ∈ tables_1, d.before a0 Z = true) (p0 p1 p2 p3 zC : Int32) (h0 : Heap) (n0 : Nat) (Z0 : n0 ≤ h0.size) (SA : Sta Z Z.heap "java/lang/StringUTF16" "$assertionsDisabled" "Z" (.int (1 : Int32))) (SH : Sta Z Z.heap "java/lang/StringUTF16" "HI_BYTE_SHIFT" "I" (.int (0 : Int32))) (SL : Sta Z Z.heap "java/lang/StringUTF16" "LO_BYTE_SHIFT" "I" (.int (8 : Int32))) (S2 : Sta Z Z.heap "java/lang/String" "COMPACT_STRINGS" "Z" (.int zC)) (hzC : ¬ zC = 0) (OL : Old Z n0 h0) (hp1 : ¬ p1 < 0 ∧ ¬ (65535 : Int32) < p1) (hp2 : ¬ p2 < 0 ∧ ¬ (65535 : Int32) < p2) (hp3 : ¬ p3 < 0 ∧ ¬ (65535 : Int32) < p3) :
    OwS l Z own_EL [] (⟨"com/example/clearbid/clearbid/format/InternedStringsHoldsPinLaw", "text", "(ICCC)Ljava/lang/String;"⟩ : MethodName) method_2_code 4 (some (.object "java/lang/String")) ({ frames := 6, cells := 6, slots := 20, locals := 95 } : Room) n0 #[(.int p0), (.int p1), (.int p2), (.int p3)] h0 (fun v h => ∃ (b t : Addr) (kt : ClassId) (cd N2 : Int32) (vs : List Value), v = some (.ref b) ∧ Keep h0 h [] ∧ Exa Z h b "java/lang/String" ∧ Fld Z h b "java/lang/String" "value" "[B" (.ref t) ∧ Fld Z h b "java/lang/String" "coder" "B" (.int cd) ∧ Arv Z h t kt .byte N2 vs (.int (0 : Int32)) ∧ StrChars.Road.CodA (own_txt p0 p1 p2 p3) cd N2 vs) := by
  have hEL := own_EW hw
  refine OwS.mk (plainFor_of_name pn_com_example_clearbid_clearbid_format_InternedStringsHoldsPinLaw) ?_
  intro p e s m below meth cD T hx hby hml hnm hret hlk P
  refine OwH.cast (show entryFrame m #[(.int p0), (.int p1), (.int p2), (.int p3)] 4 = mkF m 0 #[.val (.int p0), .val (.int p1), .val (.int p2), .val (.int p3)] [] from by first | (simp [entryFrame, mkF, argsToLocals, Value.category]; done) | rfl) ?_
  have KP := Keep.refl h0 []
  refine OwH.go (T' := T) (g' := (mkF m 1 #[.val (.int p0), .val (.int p1), .val (.int p2), .val (.int p3)] [(.int p0)])) (fun tQ kQ => ?_) ?_
  · refine XS.iloadN P.here hx rfl (Jvm.hb hby d1_0) rfl ?_
    exact kQ
  by_cases hc1 : p0 = (0 : Int32)
  · skip
    refine OwH.go (T' := T) (g' := (mkF m 4 #[.val (.int p0), .val (.int p1), .val (.int p2), .val (.int p3)] [])) (fun tQ kQ => ?_) ?_
    · refine XS.ifNo P.here hx rfl (Jvm.hb hby d1_1) rfl ((if0 _ _).trans (teq hc1).2) ?_
      exact kQ
    refine P.newO hx (hw _ (List.mem_of_getElem? (i := 5) rfl)) (hw _ (List.mem_of_getElem? (i := 6) rfl)) (hw _ (List.mem_of_getElem? (i := 7) rfl)) (g := (mkF m 4 #[.val (.int p0), .val (.int p1), .val (.int p2), .val (.int p3)] [])) rfl (Jvm.hb hby d1_4) (by first | decide | omega | (dsimp only; omega) | (dsimp only [room_1]; omega) | (simp; done) | (simp [room_1]; done) | (simp [room_1]; omega)) (by first | decide | omega | (dsimp only; omega) | (dsimp only [room_1]; omega) | (simp; done) | (simp [room_1]; done) | (simp [room_1]; omega)) fun T h1 b gb P E A D => ?_
    have g_b : n0 ≤ b := Nat.le_trans Z0 (Nat.le_of_eq gb.symm)
    have sz_b : h0.size ≤ b := Nat.le_trans KP.1 (Nat.le_of_eq gb.symm)
    replace Z0 := Nat.le_trans Z0 E.1
    replace OL := OL.ext E
    replace KP := KP.ext E
    have E_b := A
    have F_value_b : Fld Z h1 b "java/lang/String" "value" "[B" .null := D (Or.inr (hw _ (List.mem_of_getElem? (i := 20) rfl))) (ty := (.array .byte)) (by decide)
    have F_coder_b : Fld Z h1 b "java/lang/String" "coder" "B" (.int (0 : Int32)) := D (Or.inr (hw _ (List.mem_of_getElem? (i := 21) rfl))) (ty := .byte) (by decide)
    clear A D E
    show OwH p e below s _ _ _ _ _ _ T (mkF m 7 #[.val (.int p0), .val (.int p1), .val (.int p2), .val (.int p3)] [(.ref b)])
    refine OwH.go (T' := T) (g' := (mkF m 9 #[.val (.int p0), .val (.int p1), .val (.int p2), .val (.int p3)] [(.int (0 : Int32)), (.ref b), (.ref b)])) (fun tQ kQ => ?_) ?_
    · refine XS.dup P.here hx rfl (Jvm.hb hby d1_7) rfl rfl ?_
      refine XS.iconst P.here hx rfl (Jvm.hb hby d1_8) ?_
      exact kQ
    refine P.newP hx (hw _ (List.mem_of_getElem? (i := 0) rfl)) (g := (mkF m 9 #[.val (.int p0), .val (.int p1), .val (.int p2), .val (.int p3)] [(.int (0 : Int32)), (.ref b), (.ref b)])) rfl (Jvm.hb hby d1_9) rfl (by decide) (cap := 0) (by decide) (by decide) (by first | decide | omega | (dsimp only; omega) | (dsimp only [room_1]; omega) | (simp; done) | (simp [room_1]; done) | (simp [room_1]; omega)) (by first | decide | omega | (dsimp only; omega) | (dsimp only [room_1]; omega) | (simp; done) | (simp [room_1]; done) | (simp [room_1]; omega)) fun T h2 a ka ga P E V_a => ?_
    have ne_b_a : b ≠ a := Nat.ne_of_lt (Nat.lt_of_lt_of_le E_b.lt (Nat.le_of_eq ga.symm))
    have ne_a_b := Ne.symm ne_b_a
    have g_a : n0 ≤ a := Nat.le_trans Z0 (Nat.le_of_eq ga.symm)
    have sz_a : h0.size ≤ a := Nat.le_trans KP.1 (Nat.le_of_eq ga.symm)
    replace E_b := E_b.ext E
    replace F_value_b := F_value_b.ext E
    replace F_coder_b := F_coder_b.ext E
    replace Z0 := Nat.le_trans Z0 E.1
    replace OL := OL.ext E
    replace KP := KP.ext E
    clear E
    show OwH p e below s _ _ _ _ _ _ T (mkF m 11 #[.val (.int p0), .val (.int p1), .val (.int p2), .val (.int p3)] [(.ref a), (.ref b), (.ref b)])
    refine P.specialS hx (y := (⟨"java/lang/String", "<init>", "([C)V"⟩ : MethodName)) rfl (hw _ (List.mem_of_getElem? (i := 8) rfl)) (hw _ (List.mem_of_getElem? (i := 9) rfl)) (hw _ (List.mem_of_getElem? (i := 10) rfl)) (by decide) (fun vm0 hZ hCv hsf => OwS.back (s := s.setVm vm0) (W := 1) (rmN1e l Z a0 hw b a ka _ h2 n0 Z0 g_b E_b F_coder_b F_value_b V_a) hZ (hw _ (List.mem_of_getElem? (i := 10) rfl)) (hw _ (List.mem_of_getElem? (i := 7) rfl)) (own_le rfl) (own_le rfl) hEL hCv hsf) (sf' := [b]) (fun _ _ _ q => q.2) (allS (List.mem_of_getElem? (i := 1) rfl) all0) (g := (mkF m 11 #[.val (.int p0), .val (.int p1), .val (.int p2), .val (.int p3)] [(.ref a), (.ref b), (.ref b)])) rfl (by rw [hml]; rfl) (a := b) (argsL := [(.ref a)]) (rest := [(.ref b)]) (lenOf pd___C_V rfl) rfl (by show 2 * 0 + _ ≤ _; exact Nat.le_of_eq rfl) (Jvm.hb hby d1_11) rfl (by first | decide | omega | (dsimp only; omega) | (dsimp only [room_1]; omega) | (simp; done) | (simp [room_1]; done) | (simp [room_1]; omega)) (by first | decide | omega | (dsimp only; omega) | (dsimp only [room_1]; omega) | (simp; done) | (simp [room_1]; done) | (simp [room_1]; omega)) fun T own_v own_L h3 own_e P own_q => ?_
    obtain ⟨⟨rfl, K, t, kt, F1, F2, V_t⟩, -⟩ := own_q
    clear own_e
    replace E_b := E_b.keep K
    replace V_a := V_a.keep K (ninS ne_a_b nin0)
    replace Z0 := Nat.le_trans Z0 K.1
    replace OL := OL.keep K (allS g_b all0)
    replace KP := KP.trans K (allS (Or.inr sz_b) all0)
    show OwH p e below s _ _ _ _ _ _ T (mkF m 14 #[.val (.int p0), .val (.int p1), .val (.int p2), .val (.int p3)] [(.ref b)])
    exact P.retR hEL hx hlk hret rfl rfl (Jvm.hb hby d1_14) (by first | decide | omega | (dsimp only; omega) | (dsimp only [room_1]; omega) | (simp; done) | (simp [room_1]; done) | (simp [room_1]; omega)) (by first | decide | omega | (dsimp only; omega) | (dsimp only [room_1]; omega) | (simp; done) | (simp [room_1]; done) | (simp [room_1]; omega)) ⟨b, t, kt, 0, 0, [], rfl, KP, E_b, F1, F2, V_t, by unfold own_txt; rw [if_pos hc1]; exact Or.inl ⟨rfl, rfl, rfl, fun c hc => by simp at hc⟩⟩
  · skip
    refine OwH.go (T' := T) (g' := (mkF m 15 #[.val (.int p0), .val (.int p1), .val (.int p2), .val (.int p3)] [])) (fun tQ kQ => ?_) ?_
    · refine XS.ifYes P.here hx rfl (pc0 := 1) (pc' := 15) rfl (Jvm.hb hby d1_1) rfl ((if0 _ _).trans (feq hc1).2) (by decide) (by decide) ?_
      exact kQ
    refine OwH.go (T' := T) (g' := (mkF m 17 #[.val (.int p0), .val (.int p1), .val (.int p2), .val (.int p3)] [(.int (1 : Int32)), (.int p0)])) (fun tQ kQ => ?_) ?_
    · refine XS.iloadN P.here hx rfl (Jvm.hb hby d1_15) rfl ?_
      refine XS.iconst P.here hx rfl (Jvm.hb hby d1_16) ?_
      exact kQ
    by_cases hc17 : p0 = (1 : Int32)
    · skip
      refine OwH.go (T' := T) (g' := (mkF m 20 #[.val (.int p0), .val (.int p1), .val (.int p2), .val (.int p3)] [])) (fun tQ kQ => ?_) ?_
      · refine XS.icmpNo P.here hx rfl (Jvm.hb hby d1_17) rfl (teq hc17).2 ?_
        exact kQ
      refine P.newO hx (hw _ (List.mem_of_getElem? (i := 5) rfl)) (hw _ (List.mem_of_getElem? (i := 6) rfl)) (hw _ (List.mem_of_getElem? (i := 7) rfl)) (g := (mkF m 20 #[.val (.int p0), .val (.int p1), .val (.int p2), .val (.int p3)] [])) rfl (Jvm.hb hby d1_20) (by first | decide | omega | (dsimp only; omega) | (dsimp only [room_1]; omega) | (simp; done) | (simp [room_1]; done) | (simp [room_1]; omega)) (by first | decide | omega | (dsimp only; omega) | (dsimp only [room_1]; omega) | (simp; done) | (simp [room_1]; done) | (simp [room_1]; omega)) fun T h1 b gb P E A D => ?_
      have g_b : n0 ≤ b := Nat.le_trans Z0 (Nat.le_of_eq gb.symm)
      have sz_b : h0.size ≤ b := Nat.le_trans KP.1 (Nat.le_of_eq gb.symm)
      replace Z0 := Nat.le_trans Z0 E.1
      replace OL := OL.ext E
      replace KP := KP.ext E
      have E_b := A
      have F_value_b : Fld Z h1 b "java/lang/String" "value" "[B" .null := D (Or.inr (hw _ (List.mem_of_getElem? (i := 20) rfl))) (ty := (.array .byte)) (by decide)
      have F_coder_b : Fld Z h1 b "java/lang/String" "coder" "B" (.int (0 : Int32)) := D (Or.inr (hw _ (List.mem_of_getElem? (i := 21) rfl))) (ty := .byte) (by decide)
      clear A D E
      show OwH p e below s _ _ _ _ _ _ T (mkF m 23 #[.val (.int p0), .val (.int p1), .val (.int p2), .val (.int p3)] [(.ref b)])
      refine OwH.go (T' := T) (g' := (mkF m 25 #[.val (.int p0), .val (.int p1), .val (.int p2), .val (.int p3)] [(.int (1 : Int32)), (.ref b), (.ref b)])) (fun tQ kQ => ?_) ?_
      · refine XS.dup P.here hx rfl (Jvm.hb hby d1_23) rfl rfl ?_
        refine XS.iconst P.here hx rfl (Jvm.hb hby d1_24) ?_
        exact kQ
      refine P.newP hx (hw _ (List.mem_of_getElem? (i := 0) rfl)) (g := (mkF m 25 #[.val (.int p0), .val (.int p1), .val (.int p2), .val (.int p3)] [(.int (1 : Int32)), (.ref b), (.ref b)])) rfl (Jvm.hb hby d1_25) rfl (by decide) (cap := 1) (by decide) (by decide) (by first | decide | omega | (dsimp only; omega) | (dsimp only [room_1]; omega) | (simp; done) | (simp [room_1]; done) | (simp [room_1]; omega)) (by first | decide | omega | (dsimp only; omega) | (dsimp only [room_1]; omega) | (simp; done) | (simp [room_1]; done) | (simp [room_1]; omega)) fun T h2 a ka ga P E V_a => ?_
      have ne_b_a : b ≠ a := Nat.ne_of_lt (Nat.lt_of_lt_of_le E_b.lt (Nat.le_of_eq ga.symm))
      have ne_a_b := Ne.symm ne_b_a
      have g_a : n0 ≤ a := Nat.le_trans Z0 (Nat.le_of_eq ga.symm)
      have sz_a : h0.size ≤ a := Nat.le_trans KP.1 (Nat.le_of_eq ga.symm)
      replace E_b := E_b.ext E
      replace F_value_b := F_value_b.ext E
      replace F_coder_b := F_coder_b.ext E
      replace Z0 := Nat.le_trans Z0 E.1
      replace OL := OL.ext E
      replace KP := KP.ext E
      clear E
      replace V_a : Arv Z h2 a ka .char (1 : Int32) [(.int (0 : Int32))] (.int (0 : Int32)) := V_a.pad (pad_rep [] (.int (0 : Int32)) 1)
      show OwH p e below s _ _ _ _ _ _ T (mkF m 27 #[.val (.int p0), .val (.int p1), .val (.int p2), .val (.int p3)] [(.ref a), (.ref b), (.ref b)])
      refine OwH.go (T' := T) (g' := (mkF m 30 #[.val (.int p0), .val (.int p1), .val (.int p2), .val (.int p3)] [(.int p1), (.int (0 : Int32)), (.ref a), (.ref a), (.ref b), (.ref b)])) (fun tQ kQ => ?_) ?_
      · refine XS.dup P.here hx rfl (Jvm.hb hby d1_27) rfl rfl ?_
        refine XS.iconst P.here hx rfl (Jvm.hb hby d1_28) ?_
        refine XS.iloadN P.here hx rfl (Jvm.hb hby d1_29) rfl ?_
        exact kQ
      refine P.stC hx V_a (j := (0 : Int32)) (by decide) (by decide) (i := 0) rfl (Nat.le_of_ble_eq_true rfl) (g := (mkF m 30 #[.val (.int p0), .val (.int p1), .val (.int p2), .val (.int p3)] [(.int p1), (.int (0 : Int32)), (.ref a), (.ref a), (.ref b), (.ref b)])) rfl rfl (Jvm.hb hby d1_30) g_a fun T h3 P W V' => ?_
      replace E_b := E_b.wr W
      replace F_value_b := F_value_b.other W (Or.inl ne_b_a)
      replace F_coder_b := F_coder_b.other W (Or.inl ne_b_a)
      replace Z0 := Nat.le_trans Z0 (Keep.of_wr W).1
      replace OL := OL.wr W g_a
      replace KP := KP.wr W (Or.inr sz_a)
      replace V_a := V'
      clear W V'
      show OwH p e below s _ _ _ _ _ _ T (mkF m 31 #[.val (.int p0), .val (.int p1), .val (.int p2), .val (.int p3)] [(.ref a), (.ref b), (.ref b)])
      replace V_a : Arv Z h3 a ka .char (Int32.ofNat 1) (([p1] : List Int32).map Value.int) (.int (0 : Int32)) := by
        have q := V_a
        rw [own_narc hp1.1 hp1.2] at q
        exact q
      have hcs : ∀ c ∈ ([p1] : List Int32), ¬ c < 0 ∧ ¬ (65535 : Int32) < c := by
        intro c hc
        simp only [List.mem_cons, List.not_mem_nil, or_false] at hc
        rcases hc with rfl <;> assumption
      refine P.special hx (y := (⟨"java/lang/String", "<init>", "([C)V"⟩ : MethodName)) rfl (hw _ (List.mem_of_getElem? (i := 8) rfl)) (hw _ (List.mem_of_getElem? (i := 9) rfl)) (hw _ (List.mem_of_getElem? (i := 10) rfl)) (by decide) (fun vm0 hZ => OwM.back (s := s.setVm vm0) (W := 1) (rmN1 l Z a0 hw b a ka _ 1 ([p1] : List Int32) zC h3 n0 Z0 SA SH SL S2 hzC OL V_a rfl (by decide) (by decide) hcs g_b E_b F_coder_b F_value_b ne_b_a) hZ (hw _ (List.mem_of_getElem? (i := 10) rfl)) (hw _ (List.mem_of_getElem? (i := 7) rfl)) (own_le rfl) (own_le rfl)) (fun _ _ _ q => q.2) (ws := [b]) (fun _ _ _ q => q.1.2.1) (allS (Or.inl (by simp)) all0) (g := (mkF m 31 #[.val (.int p0), .val (.int p1), .val (.int p2), .val (.int p3)] [(.ref a), (.ref b), (.ref b)])) rfl (by rw [hml]; rfl) (a := b) (argsL := [(.ref a)]) (rest := [(.ref b)]) (lenOf pd___C_V rfl) rfl (by show 2 * 0 + _ ≤ _; exact Nat.le_of_eq rfl) (Jvm.hb hby d1_31) rfl (by first | decide | omega | (dsimp only; omega) | (dsimp only [room_1]; omega) | (simp; done) | (simp [room_1]; done) | (simp [room_1]; omega)) (by first | decide | omega | (dsimp only; omega) | (dsimp only [room_1]; omega) | (simp; done) | (simp [room_1]; done) | (simp [room_1]; omega)) fun T own_v own_L h4 own_e P own_q => ?_
      obtain ⟨⟨rfl, K, t, kt, cd, N2, vs, -, F1, F2, V_t, hcod⟩, -⟩ := own_q
      clear own_e
      replace E_b := E_b.keep K
      replace V_a := V_a.keep K (ninS ne_a_b nin0)
      replace Z0 := Nat.le_trans Z0 K.1
      replace OL := OL.keep K (allS g_b all0)
      replace KP := KP.trans K (allS (Or.inr sz_b) all0)
      show OwH p e below s _ _ _ _ _ _ T (mkF m 34 #[.val (.int p0), .val (.int p1), .val (.int p2), .val (.int p3)] [(.ref b)])
      exact P.retR hEL hx hlk hret rfl rfl (Jvm.hb hby d1_34) (by first | decide | omega | (dsimp only; omega) | (dsimp only [room_1]; omega) | (simp; done) | (simp [room_1]; done) | (simp [room_1]; omega)) (by first | decide | omega | (dsimp only; omega) | (dsimp only [room_1]; omega) | (simp; done) | (simp [room_1]; done) | (simp [room_1]; omega)) ⟨b, t, kt, cd, N2, vs, rfl, KP, E_b, F1, F2, V_t, by unfold own_txt; rw [if_neg hc1, if_pos hc17]; exact hcod⟩
    · skip
      refine OwH.go (T' := T) (g' := (mkF m 35 #[.val (.int p0), .val (.int p1), .val (.int p2), .val (.int p3)] [])) (fun tQ kQ => ?_) ?_
      · refine XS.icmpYes P.here hx rfl (pc0 := 17) (pc' := 35) rfl (Jvm.hb hby d1_17) rfl (feq hc17).2 (by decide) (by decide) ?_
        exact kQ
      refine OwH.go (T' := T) (g' := (mkF m 37 #[.val (.int p0), .val (.int p1), .val (.int p2), .val (.int p3)] [(.int (2 : Int32)), (.int p0)])) (fun tQ kQ => ?_) ?_
      · refine XS.iloadN P.here hx rfl (Jvm.hb hby d1_35) rfl ?_
        refine XS.iconst P.here hx rfl (Jvm.hb hby d1_36) ?_
        exact kQ
      by_cases hc37 : p0 = (2 : Int32)
      · skip
        refine OwH.go (T' := T) (g' := (mkF m 40 #[.val (.int p0), .val (.int p1), .val (.int p2), .val (.int p3)] [])) (fun tQ kQ => ?_) ?_
        · refine XS.icmpNo P.here hx rfl (Jvm.hb hby d1_37) rfl (teq hc37).2 ?_
          exact kQ
        refine P.newO hx (hw _ (List.mem_of_getElem? (i := 5) rfl)) (hw _ (List.mem_of_getElem? (i := 6) rfl)) (hw _ (List.mem_of_getElem? (i := 7) rfl)) (g := (mkF m 40 #[.val (.int p0), .val (.int p1), .val (.int p2), .val (.int p3)] [])) rfl (Jvm.hb hby d1_40) (by first | decide | omega | (dsimp only; omega) | (dsimp only [room_1]; omega) | (simp; done) | (simp [room_1]; done) | (simp [room_1]; omega)) (by first | decide | omega | (dsimp only; omega) | (dsimp only [room_1]; omega) | (simp; done) | (simp [room_1]; done) | (simp [room_1]; omega)) fun T h1 b gb P E A D => ?_
        have g_b : n0 ≤ b := Nat.le_trans Z0 (Nat.le_of_eq gb.symm)
        have sz_b : h0.size ≤ b := Nat.le_trans KP.1 (Nat.le_of_eq gb.symm)
        replace Z0 := Nat.le_trans Z0 E.1
        replace OL := OL.ext E
        replace KP := KP.ext E
        have E_b := A
        have F_value_b : Fld Z h1 b "java/lang/String" "value" "[B" .null := D (Or.inr (hw _ (List.mem_of_getElem? (i := 20) rfl))) (ty := (.array .byte)) (by decide)
        have F_coder_b : Fld Z h1 b "java/lang/String" "coder" "B" (.int (0 : Int32)) := D (Or.inr (hw _ (List.mem_of_getElem? (i := 21) rfl))) (ty := .byte) (by decide)
        clear A D E
        show OwH p e below s _ _ _ _ _ _ T (mkF m 43 #[.val (.int p0), .val (.int p1), .val (.int p2), .val (.int p3)] [(.ref b)])
        refine OwH.go (T' := T) (g' := (mkF m 45 #[.val (.int p0), .val (.int p1), .val (.int p2), .val (.int p3)] [(.int (2 : Int32)), (.ref b), (.ref b)])) (fun tQ kQ => ?_) ?_
        · refine XS.dup P.here hx rfl (Jvm.hb hby d1_43) rfl rfl ?_
          refine XS.iconst P.here hx rfl (Jvm.hb hby d1_44) ?_
          exact kQ
        refine P.newP hx (hw _ (List.mem_of_getElem? (i := 0) rfl)) (g := (mkF m 45 #[.val (.int p0), .val (.int p1), .val (.int p2), .val (.int p3)] [(.int (2 : Int32)), (.ref b), (.ref b)])) rfl (Jvm.hb hby d1_45) rfl (by decide) (cap := 2) (by decide) (by decide) (by first | decide | omega | (dsimp only; omega) | (dsimp only [room_1]; omega) | (simp; done) | (simp [room_1]; done) | (simp [room_1]; omega)) (by first | decide | omega | (dsimp only; omega) | (dsimp only [room_1]; omega) | (simp; done) | (simp [room_1]; done) | (simp [room_1]; omega)) fun T h2 a ka ga P E V_a => ?_
        have ne_b_a : b ≠ a := Nat.ne_of_lt (Nat.lt_of_lt_of_le E_b.lt (Nat.le_of_eq ga.symm))
        have ne_a_b := Ne.symm ne_b_a
        have g_a : n0 ≤ a := Nat.le_trans Z0 (Nat.le_of_eq ga.symm)
        have sz_a : h0.size ≤ a := Nat.le_trans KP.1 (Nat.le_of_eq ga.symm)
        replace E_b := E_b.ext E
        replace F_value_b := F_value_b.ext E
        replace F_coder_b := F_coder_b.ext E
        replace Z0 := Nat.le_trans Z0 E.1
        replace OL := OL.ext E
        replace KP := KP.ext E
        clear E
        replace V_a : Arv Z h2 a ka .char (2 : Int32) [(.int (0 : Int32)), (.int (0 : Int32))] (.int (0 : Int32)) := V_a.pad (pad_rep [] (.int (0 : Int32)) 2)
        show OwH p e below s _ _ _ _ _ _ T (mkF m 47 #[.val (.int p0), .val (.int p1), .val (.int p2), .val (.int p3)] [(.ref a), (.ref b), (.ref b)])
        refine OwH.go (T' := T) (g' := (mkF m 50 #[.val (.int p0), .val (.int p1), .val (.int p2), .val (.int p3)] [(.int p1), (.int (0 : Int32)), (.ref a), (.ref a), (.ref b), (.ref b)])) (fun tQ kQ => ?_) ?_
        · refine XS.dup P.here hx rfl (Jvm.hb hby d1_47) rfl rfl ?_
          refine XS.iconst P.here hx rfl (Jvm.hb hby d1_48) ?_
          refine XS.iloadN P.here hx rfl (Jvm.hb hby d1_49) rfl ?_
          exact kQ
        refine P.stC hx V_a (j := (0 : Int32)) (by decide) (by decide) (i := 0) rfl (Nat.le_of_ble_eq_true rfl) (g := (mkF m 50 #[.val (.int p0), .val (.int p1), .val (.int p2), .val (.int p3)] [(.int p1), (.int (0 : Int32)), (.ref a), (.ref a), (.ref b), (.ref b)])) rfl rfl (Jvm.hb hby d1_50) g_a fun T h3 P W V' => ?_
        replace E_b := E_b.wr W
        replace F_value_b := F_value_b.other W (Or.inl ne_b_a)
        replace F_coder_b := F_coder_b.other W (Or.inl ne_b_a)
        replace Z0 := Nat.le_trans Z0 (Keep.of_wr W).1
        replace OL := OL.wr W g_a
        replace KP := KP.wr W (Or.inr sz_a)
        replace V_a := V'
        clear W V'
        show OwH p e below s _ _ _ _ _ _ T (mkF m 51 #[.val (.int p0), .val (.int p1), .val (.int p2), .val (.int p3)] [(.ref a), (.ref b), (.ref b)])
        refine OwH.go (T' := T) (g' := (mkF m 54 #[.val (.int p0), .val (.int p1), .val (.int p2), .val (.int p3)] [(.int p2), (.int (1 : Int32)), (.ref a), (.ref a), (.ref b), (.ref b)])) (fun tQ kQ => ?_) ?_
        · refine XS.dup P.here hx rfl (Jvm.hb hby d1_51) rfl rfl ?_
          refine XS.iconst P.here hx rfl (Jvm.hb hby d1_52) ?_
          refine XS.iloadN P.here hx rfl (Jvm.hb hby d1_53) rfl ?_
          exact kQ
        refine P.stC hx V_a (j := (1 : Int32)) (by decide) (by decide) (i := 1) rfl (Nat.le_of_ble_eq_true rfl) (g := (mkF m 54 #[.val (.int p0), .val (.int p1), .val (.int p2), .val (.int p3)] [(.int p2), (.int (1 : Int32)), (.ref a), (.ref a), (.ref b), (.ref b)])) rfl rfl (Jvm.hb hby d1_54) g_a fun T h4 P W V' => ?_
        replace E_b := E_b.wr W
        replace F_value_b := F_value_b.other W (Or.inl ne_b_a)
        replace F_coder_b := F_coder_b.other W (Or.inl ne_b_a)
        replace Z0 := Nat.le_trans Z0 (Keep.of_wr W).1
        replace OL := OL.wr W g_a
        replace KP := KP.wr W (Or.inr sz_a)
        replace V_a := V'
        clear W V'
        show OwH p e below s _ _ _ _ _ _ T (mkF m 55 #[.val (.int p0), .val (.int p1), .val (.int p2), .val (.int p3)] [(.ref a), (.ref b), (.ref b)])
        replace V_a : Arv Z h4 a ka .char (Int32.ofNat 2) (([p1, p2] : List Int32).map Value.int) (.int (0 : Int32)) := by
          have q := V_a
          rw [own_narc hp1.1 hp1.2, own_narc hp2.1 hp2.2] at q
          exact q
        have hcs : ∀ c ∈ ([p1, p2] : List Int32), ¬ c < 0 ∧ ¬ (65535 : Int32) < c := by
          intro c hc
          simp only [List.mem_cons, List.not_mem_nil, or_false] at hc
          rcases hc with rfl | rfl <;> assumption
        refine P.special hx (y := (⟨"java/lang/String", "<init>", "([C)V"⟩ : MethodName)) rfl (hw _ (List.mem_of_getElem? (i := 8) rfl)) (hw _ (List.mem_of_getElem? (i := 9) rfl)) (hw _ (List.mem_of_getElem? (i := 10) rfl)) (by decide) (fun vm0 hZ => OwM.back (s := s.setVm vm0) (W := 1) (rmN1 l Z a0 hw b a ka _ 2 ([p1, p2] : List Int32) zC h4 n0 Z0 SA SH SL S2 hzC OL V_a rfl (by decide) (by decide) hcs g_b E_b F_coder_b F_value_b ne_b_a) hZ (hw _ (List.mem_of_getElem? (i := 10) rfl)) (hw _ (List.mem_of_getElem? (i := 7) rfl)) (own_le rfl) (own_le rfl)) (fun _ _ _ q => q.2) (ws := [b]) (fun _ _ _ q => q.1.2.1) (allS (Or.inl (by simp)) all0) (g := (mkF m 55 #[.val (.int p0), .val (.int p1), .val (.int p2), .val (.int p3)] [(.ref a), (.ref b), (.ref b)])) rfl (by rw [hml]; rfl) (a := b) (argsL := [(.ref a)]) (rest := [(.ref b)]) (lenOf pd___C_V rfl) rfl (by show 2 * 0 + _ ≤ _; exact Nat.le_of_eq rfl) (Jvm.hb hby d1_55) rfl (by first | decide | omega | (dsimp only; omega) | (dsimp only [room_1]; omega) | (simp; done) | (simp [room_1]; done) | (simp [room_1]; omega)) (by first | decide | omega | (dsimp only; omega) | (dsimp only [room_1]; omega) | (simp; done) | (simp [room_1]; done) | (simp [room_1]; omega)) fun T own_v own_L h5 own_e P own_q => ?_
        obtain ⟨⟨rfl, K, t, kt, cd, N2, vs, -, F1, F2, V_t, hcod⟩, -⟩ := own_q
        clear own_e
        replace E_b := E_b.keep K
        replace V_a := V_a.keep K (ninS ne_a_b nin0)
        replace Z0 := Nat.le_trans Z0 K.1
        replace OL := OL.keep K (allS g_b all0)
        replace KP := KP.trans K (allS (Or.inr sz_b) all0)
        show OwH p e below s _ _ _ _ _ _ T (mkF m 58 #[.val (.int p0), .val (.int p1), .val (.int p2), .val (.int p3)] [(.ref b)])
        exact P.retR hEL hx hlk hret rfl rfl (Jvm.hb hby d1_58) (by first | decide | omega | (dsimp only; omega) | (dsimp only [room_1]; omega) | (simp; done) | (simp [room_1]; done) | (simp [room_1]; omega)) (by first | decide | omega | (dsimp only; omega) | (dsimp only [room_1]; omega) | (simp; done) | (simp [room_1]; done) | (simp [room_1]; omega)) ⟨b, t, kt, cd, N2, vs, rfl, KP, E_b, F1, F2, V_t, by unfold own_txt; rw [if_neg hc1, if_neg hc17, if_pos hc37]; exact hcod⟩
      · skip
        refine OwH.go (T' := T) (g' := (mkF m 59 #[.val (.int p0), .val (.int p1), .val (.int p2), .val (.int p3)] [])) (fun tQ kQ => ?_) ?_
        · refine XS.icmpYes P.here hx rfl (pc0 := 37) (pc' := 59) rfl (Jvm.hb hby d1_37) rfl (feq hc37).2 (by decide) (by decide) ?_
          exact kQ
        refine P.newO hx (hw _ (List.mem_of_getElem? (i := 5) rfl)) (hw _ (List.mem_of_getElem? (i := 6) rfl)) (hw _ (List.mem_of_getElem? (i := 7) rfl)) (g := (mkF m 59 #[.val (.int p0), .val (.int p1), .val (.int p2), .val (.int p3)] [])) rfl (Jvm.hb hby d1_59) (by first | decide | omega | (dsimp only; omega) | (dsimp only [room_1]; omega) | (simp; done) | (simp [room_1]; done) | (simp [room_1]; omega)) (by first | decide | omega | (dsimp only; omega) | (dsimp only [room_1]; omega) | (simp; done) | (simp [room_1]; done) | (simp [room_1]; omega)) fun T h1 b gb P E A D => ?_
        have g_b : n0 ≤ b := Nat.le_trans Z0 (Nat.le_of_eq gb.symm)
        have sz_b : h0.size ≤ b := Nat.le_trans KP.1 (Nat.le_of_eq gb.symm)
        replace Z0 := Nat.le_trans Z0 E.1
        replace OL := OL.ext E
        replace KP := KP.ext E
        have E_b := A
        have F_value_b : Fld Z h1 b "java/lang/String" "value" "[B" .null := D (Or.inr (hw _ (List.mem_of_getElem? (i := 20) rfl))) (ty := (.array .byte)) (by decide)
        have F_coder_b : Fld Z h1 b "java/lang/String" "coder" "B" (.int (0 : Int32)) := D (Or.inr (hw _ (List.mem_of_getElem? (i := 21) rfl))) (ty := .byte) (by decide)
        clear A D E
        show OwH p e below s _ _ _ _ _ _ T (mkF m 62 #[.val (.int p0), .val (.int p1), .val (.int p2), .val (.int p3)] [(.ref b)])
        refine OwH.go (T' := T) (g' := (mkF m 64 #[.val (.int p0), .val (.int p1), .val (.int p2), .val (.int p3)] [(.int (3 : Int32)), (.ref b), (.ref b)])) (fun tQ kQ => ?_) ?_
        · refine XS.dup P.here hx rfl (Jvm.hb hby d1_62) rfl rfl ?_
          refine XS.iconst P.here hx rfl (Jvm.hb hby d1_63) ?_
          exact kQ
        refine P.newP hx (hw _ (List.mem_of_getElem? (i := 0) rfl)) (g := (mkF m 64 #[.val (.int p0), .val (.int p1), .val (.int p2), .val (.int p3)] [(.int (3 : Int32)), (.ref b), (.ref b)])) rfl (Jvm.hb hby d1_64) rfl (by decide) (cap := 3) (by decide) (by decide) (by first | decide | omega | (dsimp only; omega) | (dsimp only [room_1]; omega) | (simp; done) | (simp [room_1]; done) | (simp [room_1]; omega)) (by first | decide | omega | (dsimp only; omega) | (dsimp only [room_1]; omega) | (simp; done) | (simp [room_1]; done) | (simp [room_1]; omega)) fun T h2 a ka ga P E V_a => ?_
        have ne_b_a : b ≠ a := Nat.ne_of_lt (Nat.lt_of_lt_of_le E_b.lt (Nat.le_of_eq ga.symm))
        have ne_a_b := Ne.symm ne_b_a
        have g_a : n0 ≤ a := Nat.le_trans Z0 (Nat.le_of_eq ga.symm)
        have sz_a : h0.size ≤ a := Nat.le_trans KP.1 (Nat.le_of_eq ga.symm)
        replace E_b := E_b.ext E
        replace F_value_b := F_value_b.ext E
        replace F_coder_b := F_coder_b.ext E
        replace Z0 := Nat.le_trans Z0 E.1
        replace OL := OL.ext E
        replace KP := KP.ext E
        clear E
        replace V_a : Arv Z h2 a ka .char (3 : Int32) [(.int (0 : Int32)), (.int (0 : Int32)), (.int (0 : Int32))] (.int (0 : Int32)) := V_a.pad (pad_rep [] (.int (0 : Int32)) 3)
        show OwH p e below s _ _ _ _ _ _ T (mkF m 66 #[.val (.int p0), .val (.int p1), .val (.int p2), .val (.int p3)] [(.ref a), (.ref b), (.ref b)])
        refine OwH.go (T' := T) (g' := (mkF m 69 #[.val (.int p0), .val (.int p1), .val (.int p2), .val (.int p3)] [(.int p1), (.int (0 : Int32)), (.ref a), (.ref a), (.ref b), (.ref b)])) (fun tQ kQ => ?_) ?_
        · refine XS.dup P.here hx rfl (Jvm.hb hby d1_66) rfl rfl ?_
          refine XS.iconst P.here hx rfl (Jvm.hb hby d1_67) ?_
          refine XS.iloadN P.here hx rfl (Jvm.hb hby d1_68) rfl ?_
          exact kQ
        refine P.stC hx V_a (j := (0 : Int32)) (by decide) (by decide) (i := 0) rfl (Nat.le_of_ble_eq_true rfl) (g := (mkF m 69 #[.val (.int p0), .val (.int p1), .val (.int p2), .val (.int p3)] [(.int p1), (.int (0 : Int32)), (.ref a), (.ref a), (.ref b), (.ref b)])) rfl rfl (Jvm.hb hby d1_69) g_a fun T h3 P W V' => ?_
        replace E_b := E_b.wr W
        replace F_value_b := F_value_b.other W (Or.inl ne_b_a)
        replace F_coder_b := F_coder_b.other W (Or.inl ne_b_a)
        replace Z0 := Nat.le_trans Z0 (Keep.of_wr W).1
        replace OL := OL.wr W g_a
        replace KP := KP.wr W (Or.inr sz_a)
        replace V_a := V'
        clear W V'
        show OwH p e below s _ _ _ _ _ _ T (mkF m 70 #[.val (.int p0), .val (.int p1), .val (.int p2), .val (.int p3)] [(.ref a), (.ref b), (.ref b)])
        refine OwH.go (T' := T) (g' := (mkF m 73 #[.val (.int p0), .val (.int p1), .val (.int p2), .val (.int p3)] [(.int p2), (.int (1 : Int32)), (.ref a), (.ref a), (.ref b), (.ref b)])) (fun tQ kQ => ?_) ?_
        · refine XS.dup P.here hx rfl (Jvm.hb hby d1_70) rfl rfl ?_
          refine XS.iconst P.here hx rfl (Jvm.hb hby d1_71) ?_
          refine XS.iloadN P.here hx rfl (Jvm.hb hby d1_72) rfl ?_
          exact kQ
        refine P.stC hx V_a (j := (1 : Int32)) (by decide) (by decide) (i := 1) rfl (Nat.le_of_ble_eq_true rfl) (g := (mkF m 73 #[.val (.int p0), .val (.int p1), .val (.int p2), .val (.int p3)] [(.int p2), (.int (1 : Int32)), (.ref a), (.ref a), (.ref b), (.ref b)])) rfl rfl (Jvm.hb hby d1_73) g_a fun T h4 P W V' => ?_
        replace E_b := E_b.wr W
        replace F_value_b := F_value_b.other W (Or.inl ne_b_a)
        replace F_coder_b := F_coder_b.other W (Or.inl ne_b_a)
        replace Z0 := Nat.le_trans Z0 (Keep.of_wr W).1
        replace OL := OL.wr W g_a
        replace KP := KP.wr W (Or.inr sz_a)
        replace V_a := V'
        clear W V'
        show OwH p e below s _ _ _ _ _ _ T (mkF m 74 #[.val (.int p0), .val (.int p1), .val (.int p2), .val (.int p3)] [(.ref a), (.ref b), (.ref b)])
        refine OwH.go (T' := T) (g' := (mkF m 77 #[.val (.int p0), .val (.int p1), .val (.int p2), .val (.int p3)] [(.int p3), (.int (2 : Int32)), (.ref a), (.ref a), (.ref b), (.ref b)])) (fun tQ kQ => ?_) ?_
        · refine XS.dup P.here hx rfl (Jvm.hb hby d1_74) rfl rfl ?_
          refine XS.iconst P.here hx rfl (Jvm.hb hby d1_75) ?_
          refine XS.iloadN P.here hx rfl (Jvm.hb hby d1_76) rfl ?_
          exact kQ
        refine P.stC hx V_a (j := (2 : Int32)) (by decide) (by decide) (i := 2) rfl (Nat.le_of_ble_eq_true rfl) (g := (mkF m 77 #[.val (.int p0), .val (.int p1), .val (.int p2), .val (.int p3)] [(.int p3), (.int (2 : Int32)), (.ref a), (.ref a), (.ref b), (.ref b)])) rfl rfl (Jvm.hb hby d1_77) g_a fun T h5 P W V' => ?_
        replace E_b := E_b.wr W
        replace F_value_b := F_value_b.other W (Or.inl ne_b_a)
        replace F_coder_b := F_coder_b.other W (Or.inl ne_b_a)
        replace Z0 := Nat.le_trans Z0 (Keep.of_wr W).1
        replace OL := OL.wr W g_a
        replace KP := KP.wr W (Or.inr sz_a)
        replace V_a := V'
        clear W V'
        show OwH p e below s _ _ _ _ _ _ T (mkF m 78 #[.val (.int p0), .val (.int p1), .val (.int p2), .val (.int p3)] [(.ref a), (.ref b), (.ref b)])
        replace V_a : Arv Z h5 a ka .char (Int32.ofNat 3) (([p1, p2, p3] : List Int32).map Value.int) (.int (0 : Int32)) := by
          have q := V_a
          rw [own_narc hp1.1 hp1.2, own_narc hp2.1 hp2.2, own_narc hp3.1 hp3.2] at q
          exact q
        have hcs : ∀ c ∈ ([p1, p2, p3] : List Int32), ¬ c < 0 ∧ ¬ (65535 : Int32) < c := by
          intro c hc
          simp only [List.mem_cons, List.not_mem_nil, or_false] at hc
          rcases hc with rfl | rfl | rfl <;> assumption
        refine P.special hx (y := (⟨"java/lang/String", "<init>", "([C)V"⟩ : MethodName)) rfl (hw _ (List.mem_of_getElem? (i := 8) rfl)) (hw _ (List.mem_of_getElem? (i := 9) rfl)) (hw _ (List.mem_of_getElem? (i := 10) rfl)) (by decide) (fun vm0 hZ => OwM.back (s := s.setVm vm0) (W := 1) (rmN1 l Z a0 hw b a ka _ 3 ([p1, p2, p3] : List Int32) zC h5 n0 Z0 SA SH SL S2 hzC OL V_a rfl (by decide) (by decide) hcs g_b E_b F_coder_b F_value_b ne_b_a) hZ (hw _ (List.mem_of_getElem? (i := 10) rfl)) (hw _ (List.mem_of_getElem? (i := 7) rfl)) (own_le rfl) (own_le rfl)) (fun _ _ _ q => q.2) (ws := [b]) (fun _ _ _ q => q.1.2.1) (allS (Or.inl (by simp)) all0) (g := (mkF m 78 #[.val (.int p0), .val (.int p1), .val (.int p2), .val (.int p3)] [(.ref a), (.ref b), (.ref b)])) rfl (by rw [hml]; rfl) (a := b) (argsL := [(.ref a)]) (rest := [(.ref b)]) (lenOf pd___C_V rfl) rfl (by show 2 * 0 + _ ≤ _; exact Nat.le_of_eq rfl) (Jvm.hb hby d1_78) rfl (by first | decide | omega | (dsimp only; omega) | (dsimp only [room_1]; omega) | (simp; done) | (simp [room_1]; done) | (simp [room_1]; omega)) (by first | decide | omega | (dsimp only; omega) | (dsimp only [room_1]; omega) | (simp; done) | (simp [room_1]; done) | (simp [room_1]; omega)) fun T own_v own_L h6 own_e P own_q => ?_
        obtain ⟨⟨rfl, K, t, kt, cd, N2, vs, -, F1, F2, V_t, hcod⟩, -⟩ := own_q
        clear own_e
        replace E_b := E_b.keep K
        replace V_a := V_a.keep K (ninS ne_a_b nin0)
        replace Z0 := Nat.le_trans Z0 K.1
        replace OL := OL.keep K (allS g_b all0)
        replace KP := KP.trans K (allS (Or.inr sz_b) all0)
        show OwH p e below s _ _ _ _ _ _ T (mkF m 81 #[.val (.int p0), .val (.int p1), .val (.int p2), .val (.int p3)] [(.ref b)])
        exact P.retR hEL hx hlk hret rfl rfl (Jvm.hb hby d1_81) (by first | decide | omega | (dsimp only; omega) | (dsimp only [room_1]; omega) | (simp; done) | (simp [room_1]; done) | (simp [room_1]; omega)) (by first | decide | omega | (dsimp only; omega) | (dsimp only [room_1]; omega) | (simp; done) | (simp [room_1]; done) | (simp [room_1]; omega)) ⟨b, t, kt, cd, N2, vs, rfl, KP, E_b, F1, F2, V_t, by unfold own_txt; rw [if_neg hc1, if_neg hc17, if_neg hc37]; exact hcod⟩
theorem own_eqtake {cs ds : List Int32} {n : Nat} (hn : cs.length = n) (hd : n ≤ ds.length) (h : ∀ j, j < n → cs.getD j 0 = ds.getD j 0) : cs = ds.take n := by
  apply List.ext_getElem
  · simp; omega
  · intro i h1 h2
    have q := h i (by omega)
    have h3 : i < ds.length := by simp at h2; omega
    simp [List.getD_eq_getElem?_getD, h1, h3] at q
    simp [q]
theorem own_netake {cs ds : List Int32} {n j : Nat} (hn : cs.length = n) (hd : n ≤ ds.length) (hj : j < n) (h : ¬ cs.getD j 0 = ds.getD j 0) : ¬ cs = ds.take n := fun q => h (by
  rw [q]; have h3 : j < ds.length := by omega
  simp [List.getD_eq_getElem?_getD, hj, h3])
theorem own_nelen {cs ds : List Int32} {n : Nat} (hd : n ≤ ds.length) (h : ¬ cs.length = n) : ¬ cs = ds.take n := fun q => h (by rw [q]; simp; omega)
theorem d10_0 : decode prog_1_method_3_code 0 = .ok (.aload_n 0, 1) := by decide +kernel
theorem d10_1 : decode prog_1_method_3_code 1 = .ok (.invokevirtual 39, 3) := by decide +kernel
theorem pd___I : parseMethodDescriptor "()I" = some ⟨[], some .int⟩ := by decide +kernel
theorem d10_4 : decode prog_1_method_3_code 4 = .ok (.iload_n 2, 1) := by decide +kernel
theorem d10_5 : decode prog_1_method_3_code 5 = .ok (.if_icmp .ne 7, 3) := by decide +kernel
theorem d10_8 : decode prog_1_method_3_code 8 = .ok (.iconst 1, 1) := by decide +kernel
theorem d10_9 : decode prog_1_method_3_code 9 = .ok (.goto 4, 3) := by decide +kernel
theorem d10_13 : decode prog_1_method_3_code 13 = .ok (.istore_n 3, 1) := by decide +kernel
theorem d10_14 : decode prog_1_method_3_code 14 = .ok (.iconst 0, 1) := by decide +kernel
theorem d10_15 : decode prog_1_method_3_code 15 = .ok (.istore 4, 2) := by decide +kernel
theorem d10_17 : decode prog_1_method_3_code 17 = .ok (.iload_n 3, 1) := by decide +kernel
theorem d10_18 : decode prog_1_method_3_code 18 = .ok (.ifCond .eq 34, 3) := by decide +kernel
theorem d10_21 : decode prog_1_method_3_code 21 = .ok (.iload 4, 2) := by decide +kernel
theorem d10_23 : decode prog_1_method_3_code 23 = .ok (.iload_n 2, 1) := by decide +kernel
theorem d10_24 : decode prog_1_method_3_code 24 = .ok (.if_icmp .ge 28, 3) := by decide +kernel
theorem d10_52 : decode prog_1_method_3_code 52 = .ok (.iload_n 3, 1) := by decide +kernel
theorem d10_53 : decode prog_1_method_3_code 53 = .ok (.ireturn, 1) := by decide +kernel
theorem d10_27 : decode prog_1_method_3_code 27 = .ok (.aload_n 0, 1) := by decide +kernel
theorem d10_28 : decode prog_1_method_3_code 28 = .ok (.iload 4, 2) := by decide +kernel
theorem d10_30 : decode prog_1_method_3_code 30 = .ok (.invokevirtual 43, 3) := by decide +kernel
theorem pd__I_C : parseMethodDescriptor "(I)C" = some ⟨[.int], some .char⟩ := by decide +kernel
theorem d10_33 : decode prog_1_method_3_code 33 = .ok (.aload_n 1, 1) := by decide +kernel
theorem d10_34 : decode prog_1_method_3_code 34 = .ok (.iload 4, 2) := by decide +kernel
theorem d10_36 : decode prog_1_method_3_code 36 = .ok (.caload, 1) := by decide +kernel
theorem d10_37 : decode prog_1_method_3_code 37 = .ok (.if_icmp .ne 7, 3) := by decide +kernel
theorem d10_40 : decode prog_1_method_3_code 40 = .ok (.iconst 1, 1) := by decide +kernel
theorem d10_41 : decode prog_1_method_3_code 41 = .ok (.goto 4, 3) := by decide +kernel
theorem d10_45 : decode prog_1_method_3_code 45 = .ok (.istore_n 3, 1) := by decide +kernel
theorem d10_46 : decode prog_1_method_3_code 46 = .ok (.iinc 4 1, 3) := by decide +kernel
theorem d10_49 : decode prog_1_method_3_code 49 = .ok (.goto (-32), 3) := by decide +kernel
theorem d10_44 : decode prog_1_method_3_code 44 = .ok (.iconst 0, 1) := by decide +kernel
theorem d10_12 : decode prog_1_method_3_code 12 = .ok (.iconst 0, 1) := by decide +kernel
theorem pn_com_example_clearbid_clearbid_format_InternedStrings : plainName "com/example/clearbid/clearbid/format/InternedStrings" = true := by first | (simp [plainName, overriddenIn]; done) | decide +kernel
set_option maxRecDepth 65536 in
set_option maxHeartbeats 40000000 in
theorem rmHo (l : Launch) (Z : State) (a0 : Array Value) (hw : ∀ d ∈ tables_1, d.before a0 Z = true) (x t a : Addr) (kt ka : ClassId) (da : Value) (cd N2 zC : Int32) (vs : List Value) (cs ds : List Int32) (n M : Nat) (fm : Value) (h0 : Heap) (n0 : Nat) (Z0 : n0 ≤ h0.size) (SA : Sta Z Z.heap "java/lang/StringUTF16" "$assertionsDisabled" "Z" (.int (1 : Int32))) (SH : Sta Z Z.heap "java/lang/StringUTF16" "HI_BYTE_SHIFT" "I" (.int (0 : Int32))) (SL : Sta Z Z.heap "java/lang/StringUTF16" "LO_BYTE_SHIFT" "I" (.int (8 : Int32))) (SF : Sta Z Z.heap "jdk/internal/util/Preconditions" "SIOOBE_FORMATTER" "Ljava/util/function/BiFunction;" fm) (rf : fm.isRef = true) (S2 : Sta Z Z.heap "java/lang/String" "COMPACT_STRINGS" "Z" (.int zC)) (hzC : ¬ zC = 0) (OL : Old Z n0 h0) (E_x : Exa Z h0 x "java/lang/String") (V_x : Fld Z h0 x "java/lang/String" "value" "[B" (.ref t)) (C_x : Fld Z h0 x "java/lang/String" "coder" "B" (.int cd)) (A_t : Arv Z h0 t kt .byte N2 vs (.int (0 : Int32))) (hc : StrChars.Road.CodA cs cd N2 vs) (hb : cs.length ≤ 4000) (hp : ∀ c ∈ cs, ¬ c < 0 ∧ ¬ (65535 : Int32) < c) (V_a : Arv Z h0 a ka .char (Int32.ofNat M) (ds.map Value.int) da) (hM : ds.length = M) (hd : n ≤ ds.length) (hMb : M ≤ 4000) :
    OwM l Z (⟨"com/example/clearbid/clearbid/format/InternedStrings", "holds", "(Ljava/lang/String;[CI)Z"⟩ : MethodName) prog_1_method_3_code 5 (some .boolean) ({ frames := 5, cells := 0, slots := 0, locals := 67 } : Room) n0 #[(.ref x), (.ref a), (.int (Int32.ofNat n))] h0 (fun v h => ∃ i : Int32, v = some (.int i) ∧ ((i = 1 ∧ cs = ds.take n) ∨ (i = 0 ∧ ¬ cs = ds.take n)) ∧ h = h0) := by
  refine OwM.mk (plainFor_of_name pn_com_example_clearbid_clearbid_format_InternedStrings) ?_
  intro p e s m below meth cD T hx hby hml hown hnm hret hlk hZ P
  refine OwG.cast (show entryFrame m #[(.ref x), (.ref a), (.int (Int32.ofNat n))] 5 = mkF m 0 #[.val (.ref x), .val (.ref a), .val (.int (Int32.ofNat n)), .unset, .unset] [] from by first | (simp [entryFrame, mkF, argsToLocals, Value.category]; done) | rfl) ?_
  refine OwG.go (T' := T) (g' := (mkF m 1 #[.val (.ref x), .val (.ref a), .val (.int (Int32.ofNat n)), .unset, .unset] [(.ref x)])) (fun tQ kQ => ?_) ?_
  · refine XS.aloadN P.here hx rfl (Jvm.hb hby d10_0) rfl rfl ?_
    exact kQ
  refine P.virtual hx hZ (y := (⟨"java/lang/String", "length", "()I"⟩ : MethodName)) hown (hw _ (List.mem_of_getElem? (i := 51) rfl)) (hw _ (List.mem_of_getElem? (i := 52) rfl)) (hw _ (List.mem_of_getElem? (i := 54) rfl)) (hw _ (List.mem_of_getElem? (i := 53) rfl)) (by decide) (own_lenB (W := 0) hZ hw E_x V_x C_x A_t hc hp (S2.ext OL.2) hzC (n := cs.length) rfl hb (own_le rfl) (own_le rfl)) (fun _ _ _ q => q.2.2) E_x (g := (mkF m 1 #[.val (.ref x), .val (.ref a), .val (.int (Int32.ofNat n)), .unset, .unset] [(.ref x)])) rfl (by rw [hml]; rfl) (argsL := []) (rest := []) (lenOf pd___I rfl) rfl (by show 2 * 0 + _ ≤ _; exact Nat.le_of_eq rfl) (Jvm.hb hby d10_1) rfl (by first | decide | omega | (dsimp only; omega) | (dsimp only [room_1]; omega) | (simp; done) | (simp [room_1]; done) | (simp [room_1]; omega)) (by first | decide | omega | (dsimp only; omega) | (dsimp only [room_1]; omega) | (simp; done) | (simp [room_1]; done) | (simp [room_1]; omega)) fun T own_v own_L h1 own_e P own_q => ?_
  obtain ⟨rfl, own_hh, -⟩ := own_q
  rw [own_hh] at P
  clear own_e own_hh
  show OwG p e below s _ _ _ _ T (mkF m 4 #[.val (.ref x), .val (.ref a), .val (.int (Int32.ofNat n)), .unset, .unset] [(.int (Int32.ofNat cs.length))])
  refine OwG.go (T' := T) (g' := (mkF m 5 #[.val (.ref x), .val (.ref a), .val (.int (Int32.ofNat n)), .unset, .unset] [(.int (Int32.ofNat n)), (.int (Int32.ofNat cs.length))])) (fun tQ kQ => ?_) ?_
  · refine XS.iloadN P.here hx rfl (Jvm.hb hby d10_4) rfl ?_
    exact kQ
  by_cases hc5 : (Int32.ofNat cs.length) = (Int32.ofNat n)
  · skip
    refine OwG.go (T' := T) (g' := (mkF m 8 #[.val (.ref x), .val (.ref a), .val (.int (Int32.ofNat n)), .unset, .unset] [])) (fun tQ kQ => ?_) ?_
    · refine XS.icmpNo P.here hx rfl (Jvm.hb hby d10_5) rfl (teq hc5).2 ?_
      exact kQ
    have hn : cs.length = n := by
      have r := congrArg Int32.toInt hc5
      rw [own_ti (by omega), own_ti (by omega)] at r; omega
    refine OwG.go (T' := T) (g' := (mkF m 17 #[.val (.ref x), .val (.ref a), .val (.int (Int32.ofNat n)), .val (.int (1 : Int32)), .val (.int (0 : Int32))] [])) (fun tQ kQ => ?_) ?_
    · refine XS.iconst P.here hx rfl (Jvm.hb hby d10_8) ?_
      refine XS.goto P.here hx rfl (pc0 := 9) (pc' := 13) rfl (Jvm.hb hby d10_9) (by decide) (by decide) ?_
      refine XS.istoreN P.here hx rfl (Jvm.hb hby d10_13) rfl (l' := #[.val (.ref x), .val (.ref a), .val (.int (Int32.ofNat n)), .val (.int (1 : Int32)), .unset]) rfl ?_
      refine XS.iconst P.here hx rfl (Jvm.hb hby d10_14) ?_
      refine XS.istore P.here hx rfl (Jvm.hb hby d10_15) rfl (l' := #[.val (.ref x), .val (.ref a), .val (.int (Int32.ofNat n)), .val (.int (1 : Int32)), .val (.int (0 : Int32))]) rfl ?_
      exact kQ
    have lp : ∀ (k i : Nat) (T : State) , i + k = n → OwP p l e ({ frames := 5, cells := 0, slots := 0, locals := 67 } : Room) s m #[(.ref x), (.ref a), (.int (Int32.ofNat n))] below meth cD n0 T h0 0 0 → (n0 ≤ h0.size) → (Old Z n0 h0) → (∀ j, j < i → cs.getD j 0 = ds.getD j 0) → OwG p e below s n0 ({ frames := 5, cells := 0, slots := 0, locals := 67 } : Room).cells ({ frames := 5, cells := 0, slots := 0, locals := 67 } : Room).slots (fun v h => ∃ i : Int32, v = some (.int i) ∧ ((i = 1 ∧ cs = ds.take n) ∨ (i = 0 ∧ ¬ cs = ds.take n)) ∧ h = h0) T (mkF m 17 #[.val (.ref x), .val (.ref a), .val (.int (Int32.ofNat n)), .val (.int (1 : Int32)), .val (.int (Int32.ofNat i))] []) := by
      intro k
      induction k with
      | zero =>
        intro i T  hik P Z0 OL hle
        refine OwG.go (T' := T) (g' := (mkF m 18 #[.val (.ref x), .val (.ref a), .val (.int (Int32.ofNat n)), .val (.int (1 : Int32)), .val (.int (Int32.ofNat i))] [(.int (1 : Int32))])) (fun tQ kQ => ?_) ?_
        · refine XS.iloadN P.here hx rfl (Jvm.hb hby d10_17) rfl ?_
          exact kQ
        have own_one : ¬ (1 : Int32) = 0 := by decide
        refine OwG.go (T' := T) (g' := (mkF m 21 #[.val (.ref x), .val (.ref a), .val (.int (Int32.ofNat n)), .val (.int (1 : Int32)), .val (.int (Int32.ofNat i))] [])) (fun tQ kQ => ?_) ?_
        · refine XS.ifNo P.here hx rfl (Jvm.hb hby d10_18) rfl ((if0 _ _).trans (feq own_one).1) ?_
          exact kQ
        refine OwG.go (T' := T) (g' := (mkF m 24 #[.val (.ref x), .val (.ref a), .val (.int (Int32.ofNat n)), .val (.int (1 : Int32)), .val (.int (Int32.ofNat i))] [(.int (Int32.ofNat n)), (.int (Int32.ofNat i))])) (fun tQ kQ => ?_) ?_
        · refine XS.iload P.here hx rfl (Jvm.hb hby d10_21) rfl ?_
          refine XS.iloadN P.here hx rfl (Jvm.hb hby d10_23) rfl ?_
          exact kQ
        refine OwG.go (T' := T) (g' := (mkF m 52 #[.val (.ref x), .val (.ref a), .val (.int (Int32.ofNat n)), .val (.int (1 : Int32)), .val (.int (Int32.ofNat i))] [])) (fun tQ kQ => ?_) ?_
        · refine XS.icmpYes P.here hx rfl (pc0 := 24) (pc' := 52) rfl (Jvm.hb hby d10_24) rfl (flt (own_nlt (by omega) (by omega))).2.1 (by decide) (by decide) ?_
          exact kQ
        refine OwG.go (T' := T) (g' := (mkF m 53 #[.val (.ref x), .val (.ref a), .val (.int (Int32.ofNat n)), .val (.int (1 : Int32)), .val (.int (Int32.ofNat i))] [(.int (1 : Int32))])) (fun tQ kQ => ?_) ?_
        · refine XS.iloadN P.here hx rfl (Jvm.hb hby d10_52) rfl ?_
          exact kQ
        exact P.retN hx hlk (t := .boolean) hret (by simp) (Jvm.hb hby d10_53) (by first | decide | omega | (dsimp only; omega) | (dsimp only [room_1]; omega) | (simp; done) | (simp [room_1]; done) | (simp [room_1]; omega)) (by first | decide | omega | (dsimp only; omega) | (dsimp only [room_1]; omega) | (simp; done) | (simp [room_1]; done) | (simp [room_1]; omega)) ⟨_, rfl, Or.inl ⟨by decide, own_eqtake hn hd (fun j hj => hle j (by omega))⟩, rfl⟩
      | succ k ih =>
        intro i T  hik P Z0 OL hle
        refine OwG.go (T' := T) (g' := (mkF m 18 #[.val (.ref x), .val (.ref a), .val (.int (Int32.ofNat n)), .val (.int (1 : Int32)), .val (.int (Int32.ofNat i))] [(.int (1 : Int32))])) (fun tQ kQ => ?_) ?_
        · refine XS.iloadN P.here hx rfl (Jvm.hb hby d10_17) rfl ?_
          exact kQ
        have own_one : ¬ (1 : Int32) = 0 := by decide
        refine OwG.go (T' := T) (g' := (mkF m 21 #[.val (.ref x), .val (.ref a), .val (.int (Int32.ofNat n)), .val (.int (1 : Int32)), .val (.int (Int32.ofNat i))] [])) (fun tQ kQ => ?_) ?_
        · refine XS.ifNo P.here hx rfl (Jvm.hb hby d10_18) rfl ((if0 _ _).trans (feq own_one).1) ?_
          exact kQ
        refine OwG.go (T' := T) (g' := (mkF m 24 #[.val (.ref x), .val (.ref a), .val (.int (Int32.ofNat n)), .val (.int (1 : Int32)), .val (.int (Int32.ofNat i))] [(.int (Int32.ofNat n)), (.int (Int32.ofNat i))])) (fun tQ kQ => ?_) ?_
        · refine XS.iload P.here hx rfl (Jvm.hb hby d10_21) rfl ?_
          refine XS.iloadN P.here hx rfl (Jvm.hb hby d10_23) rfl ?_
          exact kQ
        refine OwG.go (T' := T) (g' := (mkF m 27 #[.val (.ref x), .val (.ref a), .val (.int (Int32.ofNat n)), .val (.int (1 : Int32)), .val (.int (Int32.ofNat i))] [])) (fun tQ kQ => ?_) ?_
        · refine XS.icmpNo P.here hx rfl (Jvm.hb hby d10_24) rfl (tlt (own_lt (by omega) (by omega))).2.1 ?_
          exact kQ
        refine OwG.go (T' := T) (g' := (mkF m 30 #[.val (.ref x), .val (.ref a), .val (.int (Int32.ofNat n)), .val (.int (1 : Int32)), .val (.int (Int32.ofNat i))] [(.int (Int32.ofNat i)), (.ref x)])) (fun tQ kQ => ?_) ?_
        · refine XS.aloadN P.here hx rfl (Jvm.hb hby d10_27) rfl rfl ?_
          refine XS.iload P.here hx rfl (Jvm.hb hby d10_28) rfl ?_
          exact kQ
        refine P.virtual hx hZ (y := (⟨"java/lang/String", "charAt", "(I)C"⟩ : MethodName)) hown (hw _ (List.mem_of_getElem? (i := 61) rfl)) (hw _ (List.mem_of_getElem? (i := 62) rfl)) (hw _ (List.mem_of_getElem? (i := 64) rfl)) (hw _ (List.mem_of_getElem? (i := 63) rfl)) (by decide) (OwM.back (W := 0) (rmCha l Z a0 hw x t kt cd N2 vs cs n i zC fm h0 n0 Z0 SA SH SL SF rf S2 hzC OL E_x V_x C_x A_t hc hn (by omega) hp (by omega)) hZ (hw _ (List.mem_of_getElem? (i := 65) rfl)) (hw _ (List.mem_of_getElem? (i := 7) rfl)) (own_le rfl) (own_le rfl)) (fun _ _ _ q => q.2) E_x (g := (mkF m 30 #[.val (.ref x), .val (.ref a), .val (.int (Int32.ofNat n)), .val (.int (1 : Int32)), .val (.int (Int32.ofNat i))] [(.int (Int32.ofNat i)), (.ref x)])) rfl (by rw [hml]; rfl) (argsL := [(.int (Int32.ofNat i))]) (rest := []) (lenOf pd__I_C rfl) rfl (by show 2 * 0 + _ ≤ _; exact Nat.le_of_eq rfl) (Jvm.hb hby d10_30) rfl (by first | decide | omega | (dsimp only; omega) | (dsimp only [room_1]; omega) | (simp; done) | (simp [room_1]; done) | (simp [room_1]; omega)) (by first | decide | omega | (dsimp only; omega) | (dsimp only [room_1]; omega) | (simp; done) | (simp [room_1]; done) | (simp [room_1]; omega)) fun T own_v own_L h2 own_e P own_q => ?_
        obtain ⟨⟨rfl, own_hh⟩, -⟩ := own_q
        rw [own_hh] at P
        clear own_e own_hh
        show OwG p e below s _ _ _ _ T (mkF m 33 #[.val (.ref x), .val (.ref a), .val (.int (Int32.ofNat n)), .val (.int (1 : Int32)), .val (.int (Int32.ofNat i))] [(.int (cs.getD i 0))])
        refine OwG.go (T' := T) (g' := (mkF m 36 #[.val (.ref x), .val (.ref a), .val (.int (Int32.ofNat n)), .val (.int (1 : Int32)), .val (.int (Int32.ofNat i))] [(.int (Int32.ofNat i)), (.ref a), (.int (cs.getD i 0))])) (fun tQ kQ => ?_) ?_
        · refine XS.aloadN P.here hx rfl (Jvm.hb hby d10_33) rfl rfl ?_
          refine XS.iload P.here hx rfl (Jvm.hb hby d10_34) rfl ?_
          exact kQ
        obtain ⟨own_cl, own_A, own_q1, own_S, own_M, own_H, own_U⟩ := id V_a
        obtain ⟨own_L, own_X, own_e, own_N⟩ := id P
        have own_Z := hZ
        have own_in := inb_of own_S (j := (Int32.ofNat i)) ⟨own_nn (by omega), own_lt (by omega) (by omega)⟩
        refine OwG.go (T' := T) (g' := (mkF m 37 #[.val (.ref x), .val (.ref a), .val (.int (Int32.ofNat n)), .val (.int (1 : Int32)), .val (.int (Int32.ofNat i))] [(.int (ds.getD i 0)), (.int (cs.getD i 0))])) (fun tQ kQ => ?_) ?_
        · refine own_X.caload hx (j := (Int32.ofNat i)) (v := (.int (ds.getD i 0))) (by rw [own_e]; exact own_A.1) (State.isArrayOf_alike own_Z.alike own_A.2.1) own_A.2.2 own_in (Has.at own_H own_in (own_chat (by omega) (by omega))) (g := (mkF m 36 #[.val (.ref x), .val (.ref a), .val (.int (Int32.ofNat n)), .val (.int (1 : Int32)), .val (.int (Int32.ofNat i))] [(.int (Int32.ofNat i)), (.ref a), (.int (cs.getD i 0))])) rfl rfl (Jvm.hb hby d10_36) _ ?_
          exact kQ
        by_cases hc37 : (cs.getD i 0) = (ds.getD i 0)
        · skip
          refine OwG.go (T' := T) (g' := (mkF m 40 #[.val (.ref x), .val (.ref a), .val (.int (Int32.ofNat n)), .val (.int (1 : Int32)), .val (.int (Int32.ofNat i))] [])) (fun tQ kQ => ?_) ?_
          · refine XS.icmpNo P.here hx rfl (Jvm.hb hby d10_37) rfl (teq hc37).2 ?_
            exact kQ
          refine OwG.go (T' := T) (g' := (mkF m 17 #[.val (.ref x), .val (.ref a), .val (.int (Int32.ofNat n)), .val (.int (1 : Int32)), .val (.int ((Int32.ofNat i) + (1 : Int32)))] [])) (fun tQ kQ => ?_) ?_
          · refine XS.iconst P.here hx rfl (Jvm.hb hby d10_40) ?_
            refine XS.goto P.here hx rfl (pc0 := 41) (pc' := 45) rfl (Jvm.hb hby d10_41) (by decide) (by decide) ?_
            refine XS.istoreN P.here hx rfl (Jvm.hb hby d10_45) rfl (l' := #[.val (.ref x), .val (.ref a), .val (.int (Int32.ofNat n)), .val (.int (1 : Int32)), .val (.int (Int32.ofNat i))]) rfl ?_
            refine XS.iinc P.here hx rfl (Jvm.hb hby d10_46) rfl (l' := #[.val (.ref x), .val (.ref a), .val (.int (Int32.ofNat n)), .val (.int (1 : Int32)), .val (.int ((Int32.ofNat i) + (1 : Int32)))]) rfl ?_
            refine XS.goto P.here hx rfl (pc0 := 49) (pc' := 17) rfl (Jvm.hb hby d10_49) (by decide) (by decide) ?_
            exact kQ
          rw [show ((Int32.ofNat i) + (1 : Int32)) = (Int32.ofNat (i + 1)) from own_succ _]
          show OwG p e below s _ _ _ _ T (mkF m 17 #[.val (.ref x), .val (.ref a), .val (.int (Int32.ofNat n)), .val (.int (1 : Int32)), .val (.int (Int32.ofNat (i + 1)))] [])
          exact ih (i + 1) T (by omega) P Z0 OL (fun j hj => (Nat.lt_succ_iff_lt_or_eq.mp hj).elim (fun q => hle j q) (fun q => by rw [q]; exact hc37))
        · skip
          refine OwG.go (T' := T) (g' := (mkF m 44 #[.val (.ref x), .val (.ref a), .val (.int (Int32.ofNat n)), .val (.int (1 : Int32)), .val (.int (Int32.ofNat i))] [])) (fun tQ kQ => ?_) ?_
          · refine XS.icmpYes P.here hx rfl (pc0 := 37) (pc' := 44) rfl (Jvm.hb hby d10_37) rfl (feq hc37).2 (by decide) (by decide) ?_
            exact kQ
          refine OwG.go (T' := T) (g' := (mkF m 17 #[.val (.ref x), .val (.ref a), .val (.int (Int32.ofNat n)), .val (.int (0 : Int32)), .val (.int ((Int32.ofNat i) + (1 : Int32)))] [])) (fun tQ kQ => ?_) ?_
          · refine XS.iconst P.here hx rfl (Jvm.hb hby d10_44) ?_
            refine XS.istoreN P.here hx rfl (Jvm.hb hby d10_45) rfl (l' := #[.val (.ref x), .val (.ref a), .val (.int (Int32.ofNat n)), .val (.int (0 : Int32)), .val (.int (Int32.ofNat i))]) rfl ?_
            refine XS.iinc P.here hx rfl (Jvm.hb hby d10_46) rfl (l' := #[.val (.ref x), .val (.ref a), .val (.int (Int32.ofNat n)), .val (.int (0 : Int32)), .val (.int ((Int32.ofNat i) + (1 : Int32)))]) rfl ?_
            refine XS.goto P.here hx rfl (pc0 := 49) (pc' := 17) rfl (Jvm.hb hby d10_49) (by decide) (by decide) ?_
            exact kQ
          refine OwG.go (T' := T) (g' := (mkF m 18 #[.val (.ref x), .val (.ref a), .val (.int (Int32.ofNat n)), .val (.int (0 : Int32)), .val (.int ((Int32.ofNat i) + (1 : Int32)))] [(.int (0 : Int32))])) (fun tQ kQ => ?_) ?_
          · refine XS.iloadN P.here hx rfl (Jvm.hb hby d10_17) rfl ?_
            exact kQ
          refine OwG.go (T' := T) (g' := (mkF m 52 #[.val (.ref x), .val (.ref a), .val (.int (Int32.ofNat n)), .val (.int (0 : Int32)), .val (.int ((Int32.ofNat i) + (1 : Int32)))] [])) (fun tQ kQ => ?_) ?_
          · refine XS.ifYes P.here hx rfl (pc0 := 18) (pc' := 52) rfl (Jvm.hb hby d10_18) rfl ((if0 _ _).trans (teq rfl).1) (by decide) (by decide) ?_
            exact kQ
          refine OwG.go (T' := T) (g' := (mkF m 53 #[.val (.ref x), .val (.ref a), .val (.int (Int32.ofNat n)), .val (.int (0 : Int32)), .val (.int ((Int32.ofNat i) + (1 : Int32)))] [(.int (0 : Int32))])) (fun tQ kQ => ?_) ?_
          · refine XS.iloadN P.here hx rfl (Jvm.hb hby d10_52) rfl ?_
            exact kQ
          exact P.retN hx hlk (t := .boolean) hret (by simp) (Jvm.hb hby d10_53) (by first | decide | omega | (dsimp only; omega) | (dsimp only [room_1]; omega) | (simp; done) | (simp [room_1]; done) | (simp [room_1]; omega)) (by first | decide | omega | (dsimp only; omega) | (dsimp only [room_1]; omega) | (simp; done) | (simp [room_1]; done) | (simp [room_1]; omega)) ⟨_, rfl, Or.inr ⟨by decide, own_netake hn hd (by omega) hc37⟩, rfl⟩
    exact lp n 0 T (by omega) P Z0 OL (fun j hj => absurd hj (Nat.not_lt_zero j))
  · skip
    refine OwG.go (T' := T) (g' := (mkF m 12 #[.val (.ref x), .val (.ref a), .val (.int (Int32.ofNat n)), .unset, .unset] [])) (fun tQ kQ => ?_) ?_
    · refine XS.icmpYes P.here hx rfl (pc0 := 5) (pc' := 12) rfl (Jvm.hb hby d10_5) rfl (feq hc5).2 (by decide) (by decide) ?_
      exact kQ
    refine OwG.go (T' := T) (g' := (mkF m 17 #[.val (.ref x), .val (.ref a), .val (.int (Int32.ofNat n)), .val (.int (0 : Int32)), .val (.int (0 : Int32))] [])) (fun tQ kQ => ?_) ?_
    · refine XS.iconst P.here hx rfl (Jvm.hb hby d10_12) ?_
      refine XS.istoreN P.here hx rfl (Jvm.hb hby d10_13) rfl (l' := #[.val (.ref x), .val (.ref a), .val (.int (Int32.ofNat n)), .val (.int (0 : Int32)), .unset]) rfl ?_
      refine XS.iconst P.here hx rfl (Jvm.hb hby d10_14) ?_
      refine XS.istore P.here hx rfl (Jvm.hb hby d10_15) rfl (l' := #[.val (.ref x), .val (.ref a), .val (.int (Int32.ofNat n)), .val (.int (0 : Int32)), .val (.int (0 : Int32))]) rfl ?_
      exact kQ
    refine OwG.go (T' := T) (g' := (mkF m 18 #[.val (.ref x), .val (.ref a), .val (.int (Int32.ofNat n)), .val (.int (0 : Int32)), .val (.int (0 : Int32))] [(.int (0 : Int32))])) (fun tQ kQ => ?_) ?_
    · refine XS.iloadN P.here hx rfl (Jvm.hb hby d10_17) rfl ?_
      exact kQ
    refine OwG.go (T' := T) (g' := (mkF m 52 #[.val (.ref x), .val (.ref a), .val (.int (Int32.ofNat n)), .val (.int (0 : Int32)), .val (.int (0 : Int32))] [])) (fun tQ kQ => ?_) ?_
    · refine XS.ifYes P.here hx rfl (pc0 := 18) (pc' := 52) rfl (Jvm.hb hby d10_18) rfl ((if0 _ _).trans (teq rfl).1) (by decide) (by decide) ?_
      exact kQ
    refine OwG.go (T' := T) (g' := (mkF m 53 #[.val (.ref x), .val (.ref a), .val (.int (Int32.ofNat n)), .val (.int (0 : Int32)), .val (.int (0 : Int32))] [(.int (0 : Int32))])) (fun tQ kQ => ?_) ?_
    · refine XS.iloadN P.here hx rfl (Jvm.hb hby d10_52) rfl ?_
      exact kQ
    exact P.retN hx hlk (t := .boolean) hret (by simp) (Jvm.hb hby d10_53) (by first | decide | omega | (dsimp only; omega) | (dsimp only [room_1]; omega) | (simp; done) | (simp [room_1]; done) | (simp [room_1]; omega)) (by first | decide | omega | (dsimp only; omega) | (dsimp only [room_1]; omega) | (simp; done) | (simp [room_1]; done) | (simp [room_1]; omega)) ⟨_, rfl, Or.inr ⟨by decide, own_nelen hd (fun q => hc5 (by rw [q]))⟩, rfl⟩
theorem own_and3 (x : Int32) : ∃ n : Nat, n ≤ 3 ∧ (x &&& (3 : Int32)) = Int32.ofNat n := by
  have h := c_mask x 3 2 (by decide) (by decide)
  refine ⟨(x &&& (3 : Int32)).toInt.toNat, by omega, ?_⟩
  apply Int32.toInt_inj.mp
  rw [own_ti (by omega)]; omega
theorem own_txt_take {n : Nat} (h : n ≤ 3) (a b c : Int32) : own_txt (Int32.ofNat n) a b c = ([a, b, c] : List Int32).take n := by
  rcases n with _ | _ | _ | _ | n
  · rfl
  · rfl
  · rfl
  · rfl
  · omega
theorem pd__ICCC_Ljava_lang_String_ : parseMethodDescriptor "(ICCC)Ljava/lang/String;" = some ⟨[.int, .char, .char, .char], some (.object "java/lang/String")⟩ := by decide +kernel
theorem pd__Ljava_lang_Object__Z : parseMethodDescriptor "(Ljava/lang/Object;)Z" = some ⟨[(.object "java/lang/Object")], some .boolean⟩ := by decide +kernel
theorem pd__Ljava_lang_String__CI_Z : parseMethodDescriptor "(Ljava/lang/String;[CI)Z" = some ⟨[(.object "java/lang/String"), (.array .char), .int], some .boolean⟩ := by decide +kernel
set_option maxRecDepth 65536 in
set_option maxHeartbeats 40000000 in
theorem rm0 (l : Launch) (Z : State) (a0 : Array Value) (hw : ∀ d ∈ tables_1, d.before a0 Z = true) (ws : List Jvm.Cond) (p0 : Int32) (p1 : Int32) (p2 : Int32) (p3 : Int32) (p4 : Int32) (p5 : Int32) (zC : Int32) (fm : Value) (h0 : Heap) (n0 : Nat) (Z0 : n0 ≤ h0.size) (SA : Sta Z Z.heap "java/lang/StringUTF16" "$assertionsDisabled" "Z" (.int (1 : Int32))) (SH : Sta Z Z.heap "java/lang/StringUTF16" "HI_BYTE_SHIFT" "I" (.int (0 : Int32))) (SL : Sta Z Z.heap "java/lang/StringUTF16" "LO_BYTE_SHIFT" "I" (.int (8 : Int32))) (SF : Sta Z Z.heap "jdk/internal/util/Preconditions" "SIOOBE_FORMATTER" "Ljava/util/function/BiFunction;" fm) (rf : fm.isRef = true) (S2 : Sta Z Z.heap "java/lang/String" "COMPACT_STRINGS" "Z" (.int zC)) (hzC : ¬ zC = 0) (OL : Old Z n0 h0) :
    MetFree l x (head1 (Jvm.Cond.code x code maxLocals ret :: ws) room_1) (fun a U => a = #[(.int p0), (.int p1), (.int p2), (.int p3), (.int p4), (.int p5)] ∧ Z.Warmed39 U.vm ∧ U.heap = h0 ∧ CHv Z own_EL U.vm h0 ∧ ∀ x ∈ ([] : List Addr), x < h0.size ∧ Safe Z own_EL U.vm h0 x) (fun _ _ _ _ _ => True) (fun _ U o U' => ∃ v L, o = .returned v ∧ ((fun v h => v = some (Value.int (1 : Int32))) v U'.heap ∧ Fr n0 L) ∧ CHr Z own_EL U.vm U.heap U'.vm U'.heap ∧ ReturnedEndW U o U' L room_1.cells room_1.slots) := by
  have hEL := own_EW hw
  refine OwS.of (EL := own_EL) (sf := []) (Q := fun v h => v = some (Value.int (1 : Int32))) (plainFor_of_name pn_com_example_clearbid_clearbid_format_InternedStringsHoldsPinLaw) ?_
  intro p e s m below meth cD T hx hby hml hnm hret hlk P
  replace hml : cD.maxLocals = 19 := hml
  replace P : OwC p l e room_1 s m #[(.int p0), (.int p1), (.int p2), (.int p3), (.int p4), (.int p5)] below meth cD Z "com/example/clearbid/clearbid/format/InternedStringsHoldsPinLaw" own_EL [] n0 T h0 0 0 := P
  refine OwH.cast (show entryFrame m #[(.int p0), (.int p1), (.int p2), (.int p3), (.int p4), (.int p5)] maxLocals = mkF m 0 #[.val (.int p0), .val (.int p1), .val (.int p2), .val (.int p3), .val (.int p4), .val (.int p5), .unset, .unset, .unset, .unset, .unset, .unset, .unset, .unset, .unset, .unset, .unset, .unset, .unset] [] from by first | (simp [entryFrame, mkF, argsToLocals, Value.category, maxLocals]; done) | rfl) ?_
  refine OwH.go (T' := T) (g' := (mkF m 16 #[.val (.int p0), .val (.int p1), .val (.int p2), .val (.int p3), .val (.int p4), .val (.int p5), .val (.int (p0.toUInt32.toUInt16.toUInt32.toInt32)), .val (.int (((p0.toUInt32 >>> ((16 : Int32) &&& 31).toUInt32).toInt32).toUInt32.toUInt16.toUInt32.toInt32)), .val (.int (p1.toUInt32.toUInt16.toUInt32.toInt32)), .unset, .unset, .unset, .unset, .unset, .unset, .unset, .unset, .unset, .unset] [(.int (3 : Int32))])) (fun tQ kQ => ?_) ?_
  · refine XS.iloadN P.here hx rfl (Jvm.hb hby at_0) rfl ?_
    refine XS.i2c P.here hx rfl (Jvm.hb hby at_1) rfl ?_
    refine XS.istore P.here hx rfl (Jvm.hb hby at_2) rfl (l' := #[.val (.int p0), .val (.int p1), .val (.int p2), .val (.int p3), .val (.int p4), .val (.int p5), .val (.int (p0.toUInt32.toUInt16.toUInt32.toInt32)), .unset, .unset, .unset, .unset, .unset, .unset, .unset, .unset, .unset, .unset, .unset, .unset]) rfl ?_
    refine XS.iloadN P.here hx rfl (Jvm.hb hby at_4) rfl ?_
    refine XS.bipush P.here hx rfl (Jvm.hb hby at_5) ?_
    refine XS.iushr P.here hx rfl (Jvm.hb hby at_7) rfl ?_
    refine XS.i2c P.here hx rfl (Jvm.hb hby at_8) rfl ?_
    refine XS.istore P.here hx rfl (Jvm.hb hby at_9) rfl (l' := #[.val (.int p0), .val (.int p1), .val (.int p2), .val (.int p3), .val (.int p4), .val (.int p5), .val (.int (p0.toUInt32.toUInt16.toUInt32.toInt32)), .val (.int (((p0.toUInt32 >>> ((16 : Int32) &&& 31).toUInt32).toInt32).toUInt32.toUInt16.toUInt32.toInt32)), .unset, .unset, .unset, .unset, .unset, .unset, .unset, .unset, .unset, .unset, .unset]) rfl ?_
    refine XS.iloadN P.here hx rfl (Jvm.hb hby at_11) rfl ?_
    refine XS.i2c P.here hx rfl (Jvm.hb hby at_12) rfl ?_
    refine XS.istore P.here hx rfl (Jvm.hb hby at_13) rfl (l' := #[.val (.int p0), .val (.int p1), .val (.int p2), .val (.int p3), .val (.int p4), .val (.int p5), .val (.int (p0.toUInt32.toUInt16.toUInt32.toInt32)), .val (.int (((p0.toUInt32 >>> ((16 : Int32) &&& 31).toUInt32).toInt32).toUInt32.toUInt16.toUInt32.toInt32)), .val (.int (p1.toUInt32.toUInt16.toUInt32.toInt32)), .unset, .unset, .unset, .unset, .unset, .unset, .unset, .unset, .unset, .unset]) rfl ?_
    refine XS.iconst P.here hx rfl (Jvm.hb hby at_15) ?_
    exact kQ
  obtain ⟨c0, own_c0⟩ : ∃ z : Int32, z = (p0.toUInt32.toUInt16.toUInt32.toInt32) := ⟨_, rfl⟩
  have hb0 : ¬ c0 < 0 ∧ ¬ (65535 : Int32) < c0 := by rw [own_c0]; exact own_char _
  obtain ⟨c1, own_c1⟩ : ∃ z : Int32, z = (((p0.toUInt32 >>> ((16 : Int32) &&& 31).toUInt32).toInt32).toUInt32.toUInt16.toUInt32.toInt32) := ⟨_, rfl⟩
  have hb1 : ¬ c1 < 0 ∧ ¬ (65535 : Int32) < c1 := by rw [own_c1]; exact own_char _
  obtain ⟨c2, own_c2⟩ : ∃ z : Int32, z = (p1.toUInt32.toUInt16.toUInt32.toInt32) := ⟨_, rfl⟩
  have hb2 : ¬ c2 < 0 ∧ ¬ (65535 : Int32) < c2 := by rw [own_c2]; exact own_char _
  rw [← own_c0, ← own_c1, ← own_c2]
  show OwH p e below s _ _ _ _ _ _ T (mkF m 16 #[.val (.int p0), .val (.int p1), .val (.int p2), .val (.int p3), .val (.int p4), .val (.int p5), .val (.int c0), .val (.int c1), .val (.int c2), .unset, .unset, .unset, .unset, .unset, .unset, .unset, .unset, .unset, .unset] [(.int (3 : Int32))])
  refine P.newP hx (hw _ (List.mem_of_getElem? (i := 0) rfl)) (g := (mkF m 16 #[.val (.int p0), .val (.int p1), .val (.int p2), .val (.int p3), .val (.int p4), .val (.int p5), .val (.int c0), .val (.int c1), .val (.int c2), .unset, .unset, .unset, .unset, .unset, .unset, .unset, .unset, .unset, .unset] [(.int (3 : Int32))])) rfl (Jvm.hb hby at_16) rfl (by decide) (cap := 3) (by decide) (by decide) (by first | decide | omega | (dsimp only; omega) | (dsimp only [room_1]; omega) | (simp; done) | (simp [room_1]; done) | (simp [room_1]; omega)) (by first | decide | omega | (dsimp only; omega) | (dsimp only [room_1]; omega) | (simp; done) | (simp [room_1]; done) | (simp [room_1]; omega)) fun T h1 b9 kb9 gb9 P E V_b9 => ?_
  have g_b9 : n0 ≤ b9 := Nat.le_trans Z0 (Nat.le_of_eq gb9.symm)
  replace Z0 := Nat.le_trans Z0 E.1
  replace OL := OL.ext E
  clear E
  replace V_b9 : Arv Z h1 b9 kb9 .char (3 : Int32) [(.int (0 : Int32)), (.int (0 : Int32)), (.int (0 : Int32))] (.int (0 : Int32)) := V_b9.pad (pad_rep [] (.int (0 : Int32)) 3)
  show OwH p e below s _ _ _ _ _ _ T (mkF m 18 #[.val (.int p0), .val (.int p1), .val (.int p2), .val (.int p3), .val (.int p4), .val (.int p5), .val (.int c0), .val (.int c1), .val (.int c2), .unset, .unset, .unset, .unset, .unset, .unset, .unset, .unset, .unset, .unset] [(.ref b9)])
  refine OwH.go (T' := T) (g' := (mkF m 22 #[.val (.int p0), .val (.int p1), .val (.int p2), .val (.int p3), .val (.int p4), .val (.int p5), .val (.int c0), .val (.int c1), .val (.int c2), .unset, .unset, .unset, .unset, .unset, .unset, .unset, .unset, .unset, .unset] [(.int c0), (.int (0 : Int32)), (.ref b9), (.ref b9)])) (fun tQ kQ => ?_) ?_
  · refine XS.dup P.here hx rfl (Jvm.hb hby at_18) rfl rfl ?_
    refine XS.iconst P.here hx rfl (Jvm.hb hby at_19) ?_
    refine XS.iload P.here hx rfl (Jvm.hb hby at_20) rfl ?_
    exact kQ
  refine P.stC hx V_b9 (j := (0 : Int32)) (by decide) (by decide) (i := 0) rfl (Nat.le_of_ble_eq_true rfl) (g := (mkF m 22 #[.val (.int p0), .val (.int p1), .val (.int p2), .val (.int p3), .val (.int p4), .val (.int p5), .val (.int c0), .val (.int c1), .val (.int c2), .unset, .unset, .unset, .unset, .unset, .unset, .unset, .unset, .unset, .unset] [(.int c0), (.int (0 : Int32)), (.ref b9), (.ref b9)])) rfl rfl (Jvm.hb hby at_22) g_b9 fun T h2 P W V' => ?_
  replace Z0 := Nat.le_trans Z0 (Keep.of_wr W).1
  replace OL := OL.wr W g_b9
  replace V_b9 := V'
  clear W V'
  show OwH p e below s _ _ _ _ _ _ T (mkF m 23 #[.val (.int p0), .val (.int p1), .val (.int p2), .val (.int p3), .val (.int p4), .val (.int p5), .val (.int c0), .val (.int c1), .val (.int c2), .unset, .unset, .unset, .unset, .unset, .unset, .unset, .unset, .unset, .unset] [(.ref b9)])
  refine OwH.go (T' := T) (g' := (mkF m 27 #[.val (.int p0), .val (.int p1), .val (.int p2), .val (.int p3), .val (.int p4), .val (.int p5), .val (.int c0), .val (.int c1), .val (.int c2), .unset, .unset, .unset, .unset, .unset, .unset, .unset, .unset, .unset, .unset] [(.int c1), (.int (1 : Int32)), (.ref b9), (.ref b9)])) (fun tQ kQ => ?_) ?_
  · refine XS.dup P.here hx rfl (Jvm.hb hby at_23) rfl rfl ?_
    refine XS.iconst P.here hx rfl (Jvm.hb hby at_24) ?_
    refine XS.iload P.here hx rfl (Jvm.hb hby at_25) rfl ?_
    exact kQ
  refine P.stC hx V_b9 (j := (1 : Int32)) (by decide) (by decide) (i := 1) rfl (Nat.le_of_ble_eq_true rfl) (g := (mkF m 27 #[.val (.int p0), .val (.int p1), .val (.int p2), .val (.int p3), .val (.int p4), .val (.int p5), .val (.int c0), .val (.int c1), .val (.int c2), .unset, .unset, .unset, .unset, .unset, .unset, .unset, .unset, .unset, .unset] [(.int c1), (.int (1 : Int32)), (.ref b9), (.ref b9)])) rfl rfl (Jvm.hb hby at_27) g_b9 fun T h3 P W V' => ?_
  replace Z0 := Nat.le_trans Z0 (Keep.of_wr W).1
  replace OL := OL.wr W g_b9
  replace V_b9 := V'
  clear W V'
  show OwH p e below s _ _ _ _ _ _ T (mkF m 28 #[.val (.int p0), .val (.int p1), .val (.int p2), .val (.int p3), .val (.int p4), .val (.int p5), .val (.int c0), .val (.int c1), .val (.int c2), .unset, .unset, .unset, .unset, .unset, .unset, .unset, .unset, .unset, .unset] [(.ref b9)])
  refine OwH.go (T' := T) (g' := (mkF m 32 #[.val (.int p0), .val (.int p1), .val (.int p2), .val (.int p3), .val (.int p4), .val (.int p5), .val (.int c0), .val (.int c1), .val (.int c2), .unset, .unset, .unset, .unset, .unset, .unset, .unset, .unset, .unset, .unset] [(.int c2), (.int (2 : Int32)), (.ref b9), (.ref b9)])) (fun tQ kQ => ?_) ?_
  · refine XS.dup P.here hx rfl (Jvm.hb hby at_28) rfl rfl ?_
    refine XS.iconst P.here hx rfl (Jvm.hb hby at_29) ?_
    refine XS.iload P.here hx rfl (Jvm.hb hby at_30) rfl ?_
    exact kQ
  refine P.stC hx V_b9 (j := (2 : Int32)) (by decide) (by decide) (i := 2) rfl (Nat.le_of_ble_eq_true rfl) (g := (mkF m 32 #[.val (.int p0), .val (.int p1), .val (.int p2), .val (.int p3), .val (.int p4), .val (.int p5), .val (.int c0), .val (.int c1), .val (.int c2), .unset, .unset, .unset, .unset, .unset, .unset, .unset, .unset, .unset, .unset] [(.int c2), (.int (2 : Int32)), (.ref b9), (.ref b9)])) rfl rfl (Jvm.hb hby at_32) g_b9 fun T h4 P W V' => ?_
  replace Z0 := Nat.le_trans Z0 (Keep.of_wr W).1
  replace OL := OL.wr W g_b9
  replace V_b9 := V'
  clear W V'
  show OwH p e below s _ _ _ _ _ _ T (mkF m 33 #[.val (.int p0), .val (.int p1), .val (.int p2), .val (.int p3), .val (.int p4), .val (.int p5), .val (.int c0), .val (.int c1), .val (.int c2), .unset, .unset, .unset, .unset, .unset, .unset, .unset, .unset, .unset, .unset] [(.ref b9)])
  replace V_b9 : Arv Z h4 b9 kb9 .char (Int32.ofNat 3) (([c0, c1, c2] : List Int32).map Value.int) (.int (0 : Int32)) := by
    have q := V_b9
    rw [own_narc hb0.1 hb0.2, own_narc hb1.1 hb1.2, own_narc hb2.1 hb2.2] at q
    exact q
  refine OwH.go (T' := T) (g' := (mkF m 41 #[.val (.int p0), .val (.int p1), .val (.int p2), .val (.int p3), .val (.int p4), .val (.int p5), .val (.int c0), .val (.int c1), .val (.int c2), .val (.ref b9), .val (.int (p5 &&& (3 : Int32))), .unset, .unset, .unset, .unset, .unset, .unset, .unset, .unset] [])) (fun tQ kQ => ?_) ?_
  · refine XS.astore P.here hx rfl (Jvm.hb hby at_33) rfl rfl (l' := #[.val (.int p0), .val (.int p1), .val (.int p2), .val (.int p3), .val (.int p4), .val (.int p5), .val (.int c0), .val (.int c1), .val (.int c2), .val (.ref b9), .unset, .unset, .unset, .unset, .unset, .unset, .unset, .unset, .unset]) rfl ?_
    refine XS.iload P.here hx rfl (Jvm.hb hby at_35) rfl ?_
    refine XS.iconst P.here hx rfl (Jvm.hb hby at_37) ?_
    refine XS.iand P.here hx rfl (Jvm.hb hby at_38) rfl ?_
    refine XS.istore P.here hx rfl (Jvm.hb hby at_39) rfl (l' := #[.val (.int p0), .val (.int p1), .val (.int p2), .val (.int p3), .val (.int p4), .val (.int p5), .val (.int c0), .val (.int c1), .val (.int c2), .val (.ref b9), .val (.int (p5 &&& (3 : Int32))), .unset, .unset, .unset, .unset, .unset, .unset, .unset, .unset]) rfl ?_
    exact kQ
  obtain ⟨n, hn3, own_n⟩ : ∃ n : Nat, n ≤ 3 ∧ (p5 &&& (3 : Int32)) = Int32.ofNat n := own_and3 p5
  rw [show (p5 &&& (3 : Int32)) = (Int32.ofNat n) from own_n]
  show OwH p e below s _ _ _ _ _ _ T (mkF m 41 #[.val (.int p0), .val (.int p1), .val (.int p2), .val (.int p3), .val (.int p4), .val (.int p5), .val (.int c0), .val (.int c1), .val (.int c2), .val (.ref b9), .val (.int (Int32.ofNat n)), .unset, .unset, .unset, .unset, .unset, .unset, .unset, .unset] [])
  refine OwH.go (T' := T) (g' := (mkF m 46 #[.val (.int p0), .val (.int p1), .val (.int p2), .val (.int p3), .val (.int p4), .val (.int p5), .val (.int c0), .val (.int c1), .val (.int c2), .val (.ref b9), .val (.int (Int32.ofNat n)), .unset, .unset, .unset, .unset, .unset, .unset, .unset, .unset] [(.int (p4 &&& (8 : Int32)))])) (fun tQ kQ => ?_) ?_
  · refine XS.iload P.here hx rfl (Jvm.hb hby at_41) rfl ?_
    refine XS.bipush P.here hx rfl (Jvm.hb hby at_43) ?_
    refine XS.iand P.here hx rfl (Jvm.hb hby at_45) rfl ?_
    exact kQ
  have k60 : ∀ (T : State) (hJ_k60 : Heap) (i11 : Int32), OwC p l e room_1 s m #[(.int p0), (.int p1), (.int p2), (.int p3), (.int p4), (.int p5)] below meth cD Z "com/example/clearbid/clearbid/format/InternedStringsHoldsPinLaw" own_EL [b9] n0 T hJ_k60 1 3 → (n0 ≤ hJ_k60.size) → (Old Z n0 hJ_k60) → (Arv Z hJ_k60 b9 kb9 .char (Int32.ofNat 3) (([c0, c1, c2] : List Int32).map Value.int) (.int (0 : Int32))) → OwH p e below s Z own_EL n0 room_1.cells room_1.slots (fun v h => v = some (Value.int (1 : Int32))) T (mkF m 60 #[.val (.int p0), .val (.int p1), .val (.int p2), .val (.int p3), .val (.int p4), .val (.int p5), .val (.int c0), .val (.int c1), .val (.int c2), .val (.ref b9), .val (.int (Int32.ofNat n)), .unset, .unset, .unset, .unset, .unset, .unset, .unset, .unset] [(.int i11)]) := by
    intro T hJ_k60 i11 P Z0 OL V_b9
    refine OwH.go (T' := T) (g' := (mkF m 66 #[.val (.int p0), .val (.int p1), .val (.int p2), .val (.int p3), .val (.int p4), .val (.int p5), .val (.int c0), .val (.int c1), .val (.int c2), .val (.ref b9), .val (.int (Int32.ofNat n)), .val (.int i11), .unset, .unset, .unset, .unset, .unset, .unset, .unset] [(.int (p4 &&& (1 : Int32)))])) (fun tQ kQ => ?_) ?_
    · refine XS.istore P.here hx rfl (Jvm.hb hby at_60) rfl (l' := #[.val (.int p0), .val (.int p1), .val (.int p2), .val (.int p3), .val (.int p4), .val (.int p5), .val (.int c0), .val (.int c1), .val (.int c2), .val (.ref b9), .val (.int (Int32.ofNat n)), .val (.int i11), .unset, .unset, .unset, .unset, .unset, .unset, .unset]) rfl ?_
      refine XS.iload P.here hx rfl (Jvm.hb hby at_62) rfl ?_
      refine XS.iconst P.here hx rfl (Jvm.hb hby at_64) ?_
      refine XS.iand P.here hx rfl (Jvm.hb hby at_65) rfl ?_
      exact kQ
    have k76 : ∀ (T : State) (hJ_k76 : Heap) (i12 : Int32), OwC p l e room_1 s m #[(.int p0), (.int p1), (.int p2), (.int p3), (.int p4), (.int p5)] below meth cD Z "com/example/clearbid/clearbid/format/InternedStringsHoldsPinLaw" own_EL [b9] n0 T hJ_k76 1 3 → (n0 ≤ hJ_k76.size) → (Old Z n0 hJ_k76) → (Arv Z hJ_k76 b9 kb9 .char (Int32.ofNat 3) (([c0, c1, c2] : List Int32).map Value.int) (.int (0 : Int32))) → (¬ i12 < 0 ∧ ¬ (65535 : Int32) < i12) → OwH p e below s Z own_EL n0 room_1.cells room_1.slots (fun v h => v = some (Value.int (1 : Int32))) T (mkF m 76 #[.val (.int p0), .val (.int p1), .val (.int p2), .val (.int p3), .val (.int p4), .val (.int p5), .val (.int c0), .val (.int c1), .val (.int c2), .val (.ref b9), .val (.int (Int32.ofNat n)), .val (.int i11), .unset, .unset, .unset, .unset, .unset, .unset, .unset] [(.int i12)]) := by
      intro T hJ_k76 i12 P Z0 OL V_b9 hd1
      refine OwH.go (T' := T) (g' := (mkF m 82 #[.val (.int p0), .val (.int p1), .val (.int p2), .val (.int p3), .val (.int p4), .val (.int p5), .val (.int c0), .val (.int c1), .val (.int c2), .val (.ref b9), .val (.int (Int32.ofNat n)), .val (.int i11), .val (.int i12), .unset, .unset, .unset, .unset, .unset, .unset] [(.int (p4 &&& (2 : Int32)))])) (fun tQ kQ => ?_) ?_
      · refine XS.istore P.here hx rfl (Jvm.hb hby at_76) rfl (l' := #[.val (.int p0), .val (.int p1), .val (.int p2), .val (.int p3), .val (.int p4), .val (.int p5), .val (.int c0), .val (.int c1), .val (.int c2), .val (.ref b9), .val (.int (Int32.ofNat n)), .val (.int i11), .val (.int i12), .unset, .unset, .unset, .unset, .unset, .unset]) rfl ?_
        refine XS.iload P.here hx rfl (Jvm.hb hby at_78) rfl ?_
        refine XS.iconst P.here hx rfl (Jvm.hb hby at_80) ?_
        refine XS.iand P.here hx rfl (Jvm.hb hby at_81) rfl ?_
        exact kQ
      have k95 : ∀ (T : State) (hJ_k95 : Heap) (i13 : Int32), OwC p l e room_1 s m #[(.int p0), (.int p1), (.int p2), (.int p3), (.int p4), (.int p5)] below meth cD Z "com/example/clearbid/clearbid/format/InternedStringsHoldsPinLaw" own_EL [b9] n0 T hJ_k95 1 3 → (n0 ≤ hJ_k95.size) → (Old Z n0 hJ_k95) → (Arv Z hJ_k95 b9 kb9 .char (Int32.ofNat 3) (([c0, c1, c2] : List Int32).map Value.int) (.int (0 : Int32))) → (¬ i13 < 0 ∧ ¬ (65535 : Int32) < i13) → OwH p e below s Z own_EL n0 room_1.cells room_1.slots (fun v h => v = some (Value.int (1 : Int32))) T (mkF m 95 #[.val (.int p0), .val (.int p1), .val (.int p2), .val (.int p3), .val (.int p4), .val (.int p5), .val (.int c0), .val (.int c1), .val (.int c2), .val (.ref b9), .val (.int (Int32.ofNat n)), .val (.int i11), .val (.int i12), .unset, .unset, .unset, .unset, .unset, .unset] [(.int i13)]) := by
        intro T hJ_k95 i13 P Z0 OL V_b9 hd2
        refine OwH.go (T' := T) (g' := (mkF m 101 #[.val (.int p0), .val (.int p1), .val (.int p2), .val (.int p3), .val (.int p4), .val (.int p5), .val (.int c0), .val (.int c1), .val (.int c2), .val (.ref b9), .val (.int (Int32.ofNat n)), .val (.int i11), .val (.int i12), .val (.int i13), .unset, .unset, .unset, .unset, .unset] [(.int (p4 &&& (4 : Int32)))])) (fun tQ kQ => ?_) ?_
        · refine XS.istore P.here hx rfl (Jvm.hb hby at_95) rfl (l' := #[.val (.int p0), .val (.int p1), .val (.int p2), .val (.int p3), .val (.int p4), .val (.int p5), .val (.int c0), .val (.int c1), .val (.int c2), .val (.ref b9), .val (.int (Int32.ofNat n)), .val (.int i11), .val (.int i12), .val (.int i13), .unset, .unset, .unset, .unset, .unset]) rfl ?_
          refine XS.iload P.here hx rfl (Jvm.hb hby at_97) rfl ?_
          refine XS.iconst P.here hx rfl (Jvm.hb hby at_99) ?_
          refine XS.iand P.here hx rfl (Jvm.hb hby at_100) rfl ?_
          exact kQ
        have k111 : ∀ (T : State) (hJ_k111 : Heap) (i14 : Int32), OwC p l e room_1 s m #[(.int p0), (.int p1), (.int p2), (.int p3), (.int p4), (.int p5)] below meth cD Z "com/example/clearbid/clearbid/format/InternedStringsHoldsPinLaw" own_EL [b9] n0 T hJ_k111 1 3 → (n0 ≤ hJ_k111.size) → (Old Z n0 hJ_k111) → (Arv Z hJ_k111 b9 kb9 .char (Int32.ofNat 3) (([c0, c1, c2] : List Int32).map Value.int) (.int (0 : Int32))) → (¬ i14 < 0 ∧ ¬ (65535 : Int32) < i14) → OwH p e below s Z own_EL n0 room_1.cells room_1.slots (fun v h => v = some (Value.int (1 : Int32))) T (mkF m 111 #[.val (.int p0), .val (.int p1), .val (.int p2), .val (.int p3), .val (.int p4), .val (.int p5), .val (.int c0), .val (.int c1), .val (.int c2), .val (.ref b9), .val (.int (Int32.ofNat n)), .val (.int i11), .val (.int i12), .val (.int i13), .unset, .unset, .unset, .unset, .unset] [(.int i14)]) := by
          intro T hJ_k111 i14 P Z0 OL V_b9 hd3
          refine OwH.go (T' := T) (g' := (mkF m 121 #[.val (.int p0), .val (.int p1), .val (.int p2), .val (.int p3), .val (.int p4), .val (.int p5), .val (.int c0), .val (.int c1), .val (.int c2), .val (.ref b9), .val (.int (Int32.ofNat n)), .val (.int i11), .val (.int i12), .val (.int i13), .val (.int i14), .unset, .unset, .unset, .unset] [(.int i14), (.int i13), (.int i12), (.int i11)])) (fun tQ kQ => ?_) ?_
          · refine XS.istore P.here hx rfl (Jvm.hb hby at_111) rfl (l' := #[.val (.int p0), .val (.int p1), .val (.int p2), .val (.int p3), .val (.int p4), .val (.int p5), .val (.int c0), .val (.int c1), .val (.int c2), .val (.ref b9), .val (.int (Int32.ofNat n)), .val (.int i11), .val (.int i12), .val (.int i13), .val (.int i14), .unset, .unset, .unset, .unset]) rfl ?_
            refine XS.iload P.here hx rfl (Jvm.hb hby at_113) rfl ?_
            refine XS.iload P.here hx rfl (Jvm.hb hby at_115) rfl ?_
            refine XS.iload P.here hx rfl (Jvm.hb hby at_117) rfl ?_
            refine XS.iload P.here hx rfl (Jvm.hb hby at_119) rfl ?_
            exact kQ
          refine P.statS hx (y := (⟨"com/example/clearbid/clearbid/format/InternedStringsHoldsPinLaw", "text", "(ICCC)Ljava/lang/String;"⟩ : MethodName)) (hw _ (List.mem_of_getElem? (i := 1) rfl)) (hw _ (List.mem_of_getElem? (i := 2) rfl)) (hw _ (List.mem_of_getElem? (i := 3) rfl)) (hw _ (List.mem_of_getElem? (i := 4) rfl)) (by decide) (fun vm0 hZ hCv hsf => OwS.back (s := s.setVm vm0) (W := 0) (rmText l Z a0 hw i11 i12 i13 i14 zC hJ_k111 n0 Z0 SA SH SL S2 hzC OL hd1 hd2 hd3) hZ (hw _ (List.mem_of_getElem? (i := 4) rfl)) (hw _ (List.mem_of_getElem? (i := 3) rfl)) (own_le rfl) (own_le rfl) hEL hCv hsf) (sf' := []) (fun _ _ _ q => q.2) all0 (g := (mkF m 121 #[.val (.int p0), .val (.int p1), .val (.int p2), .val (.int p3), .val (.int p4), .val (.int p5), .val (.int c0), .val (.int c1), .val (.int c2), .val (.ref b9), .val (.int (Int32.ofNat n)), .val (.int i11), .val (.int i12), .val (.int i13), .val (.int i14), .unset, .unset, .unset, .unset] [(.int i14), (.int i13), (.int i12), (.int i11)])) rfl (by rw [hml]; rfl) (argsL := [(.int i11), (.int i12), (.int i13), (.int i14)]) (rest := []) (lenOf pd__ICCC_Ljava_lang_String_ rfl) rfl (by show 2 * 0 + _ ≤ _; exact Nat.le_of_eq rfl) (Jvm.hb hby at_121) rfl (by first | decide | omega | (dsimp only; omega) | (dsimp only [room_1]; omega) | (simp; done) | (simp [room_1]; done) | (simp [room_1]; omega)) (by first | decide | omega | (dsimp only; omega) | (dsimp only [room_1]; omega) | (simp; done) | (simp [room_1]; done) | (simp [room_1]; omega)) fun T own_v own_L h5 own_e P own_q => ?_
          obtain ⟨⟨b15, t15, kt15, cdt15, Nt15, vt15, rfl, K, E_b15, V_b15, C_b15, A_t15, hct15⟩, -⟩ := own_q
          clear own_e
          replace V_b9 := V_b9.keep K nin0
          replace Z0 := Nat.le_trans Z0 K.1
          replace OL := OL.keep K all0
          show OwH p e below s _ _ _ _ _ _ T (mkF m 124 #[.val (.int p0), .val (.int p1), .val (.int p2), .val (.int p3), .val (.int p4), .val (.int p5), .val (.int c0), .val (.int c1), .val (.int c2), .val (.ref b9), .val (.int (Int32.ofNat n)), .val (.int i11), .val (.int i12), .val (.int i13), .val (.int i14), .unset, .unset, .unset, .unset] [(.ref b15)])
          refine OwH.go (T' := T) (g' := (mkF m 134 #[.val (.int p0), .val (.int p1), .val (.int p2), .val (.int p3), .val (.int p4), .val (.int p5), .val (.int c0), .val (.int c1), .val (.int c2), .val (.ref b9), .val (.int (Int32.ofNat n)), .val (.int i11), .val (.int i12), .val (.int i13), .val (.int i14), .val (.ref b15), .unset, .unset, .unset] [(.int c2), (.int c1), (.int c0), (.int (Int32.ofNat n))])) (fun tQ kQ => ?_) ?_
          · refine XS.astore P.here hx rfl (Jvm.hb hby at_124) rfl rfl (l' := #[.val (.int p0), .val (.int p1), .val (.int p2), .val (.int p3), .val (.int p4), .val (.int p5), .val (.int c0), .val (.int c1), .val (.int c2), .val (.ref b9), .val (.int (Int32.ofNat n)), .val (.int i11), .val (.int i12), .val (.int i13), .val (.int i14), .val (.ref b15), .unset, .unset, .unset]) rfl ?_
            refine XS.iload P.here hx rfl (Jvm.hb hby at_126) rfl ?_
            refine XS.iload P.here hx rfl (Jvm.hb hby at_128) rfl ?_
            refine XS.iload P.here hx rfl (Jvm.hb hby at_130) rfl ?_
            refine XS.iload P.here hx rfl (Jvm.hb hby at_132) rfl ?_
            exact kQ
          refine P.statS hx (y := (⟨"com/example/clearbid/clearbid/format/InternedStringsHoldsPinLaw", "text", "(ICCC)Ljava/lang/String;"⟩ : MethodName)) (hw _ (List.mem_of_getElem? (i := 1) rfl)) (hw _ (List.mem_of_getElem? (i := 2) rfl)) (hw _ (List.mem_of_getElem? (i := 3) rfl)) (hw _ (List.mem_of_getElem? (i := 4) rfl)) (by decide) (fun vm0 hZ hCv hsf => OwS.back (s := s.setVm vm0) (W := 0) (rmText l Z a0 hw (Int32.ofNat n) c0 c1 c2 zC h5 n0 Z0 SA SH SL S2 hzC OL hb0 hb1 hb2) hZ (hw _ (List.mem_of_getElem? (i := 4) rfl)) (hw _ (List.mem_of_getElem? (i := 3) rfl)) (own_le rfl) (own_le rfl) hEL hCv hsf) (sf' := []) (fun _ _ _ q => q.2) all0 (g := (mkF m 134 #[.val (.int p0), .val (.int p1), .val (.int p2), .val (.int p3), .val (.int p4), .val (.int p5), .val (.int c0), .val (.int c1), .val (.int c2), .val (.ref b9), .val (.int (Int32.ofNat n)), .val (.int i11), .val (.int i12), .val (.int i13), .val (.int i14), .val (.ref b15), .unset, .unset, .unset] [(.int c2), (.int c1), (.int c0), (.int (Int32.ofNat n))])) rfl (by rw [hml]; rfl) (argsL := [(.int (Int32.ofNat n)), (.int c0), (.int c1), (.int c2)]) (rest := []) (lenOf pd__ICCC_Ljava_lang_String_ rfl) rfl (by show 2 * 0 + _ ≤ _; exact Nat.le_of_eq rfl) (Jvm.hb hby at_134) rfl (by first | decide | omega | (dsimp only; omega) | (dsimp only [room_1]; omega) | (simp; done) | (simp [room_1]; done) | (simp [room_1]; omega)) (by first | decide | omega | (dsimp only; omega) | (dsimp only [room_1]; omega) | (simp; done) | (simp [room_1]; done) | (simp [room_1]; omega)) fun T own_v own_L h6 own_e P own_q => ?_
          obtain ⟨⟨b16, t16, kt16, cdt16, Nt16, vt16, rfl, K, E_b16, V_b16, C_b16, A_t16, hct16⟩, -⟩ := own_q
          clear own_e
          replace V_b9 := V_b9.keep K nin0
          replace E_b15 := E_b15.keep K
          replace V_b15 := V_b15.keep K nin0
          replace C_b15 := C_b15.keep K nin0
          replace A_t15 := A_t15.keep K nin0
          replace Z0 := Nat.le_trans Z0 K.1
          replace OL := OL.keep K all0
          show OwH p e below s _ _ _ _ _ _ T (mkF m 137 #[.val (.int p0), .val (.int p1), .val (.int p2), .val (.int p3), .val (.int p4), .val (.int p5), .val (.int c0), .val (.int c1), .val (.int c2), .val (.ref b9), .val (.int (Int32.ofNat n)), .val (.int i11), .val (.int i12), .val (.int i13), .val (.int i14), .val (.ref b15), .unset, .unset, .unset] [(.ref b16)])
          refine OwH.go (T' := T) (g' := (mkF m 143 #[.val (.int p0), .val (.int p1), .val (.int p2), .val (.int p3), .val (.int p4), .val (.int p5), .val (.int c0), .val (.int c1), .val (.int c2), .val (.ref b9), .val (.int (Int32.ofNat n)), .val (.int i11), .val (.int i12), .val (.int i13), .val (.int i14), .val (.ref b15), .val (.ref b16), .unset, .unset] [(.ref b16), (.ref b15)])) (fun tQ kQ => ?_) ?_
          · refine XS.astore P.here hx rfl (Jvm.hb hby at_137) rfl rfl (l' := #[.val (.int p0), .val (.int p1), .val (.int p2), .val (.int p3), .val (.int p4), .val (.int p5), .val (.int c0), .val (.int c1), .val (.int c2), .val (.ref b9), .val (.int (Int32.ofNat n)), .val (.int i11), .val (.int i12), .val (.int i13), .val (.int i14), .val (.ref b15), .val (.ref b16), .unset, .unset]) rfl ?_
            refine XS.aload P.here hx rfl (Jvm.hb hby at_139) rfl rfl ?_
            refine XS.aload P.here hx rfl (Jvm.hb hby at_141) rfl rfl ?_
            exact kQ
          have own_l1 := own_txt_len i11 i12 i13 i14
          have own_l2 := own_txt_len (Int32.ofNat n) c0 c1 c2
          refine P.virtual hx (y := (⟨"java/lang/String", "equals", "(Ljava/lang/Object;)Z"⟩ : MethodName)) (z := (⟨"java/lang/String", "equals", "(Ljava/lang/Object;)Z"⟩ : MethodName)) (hw _ (List.mem_of_getElem? (i := 37) rfl)) (hw _ (List.mem_of_getElem? (i := 38) rfl)) (fun vm0 hZ => notFace_of_selects (args := #[]) (mvT (s := s.setVm vm0) hZ (hw _ (List.mem_of_getElem? (i := 40) rfl)))) (hw _ (List.mem_of_getElem? (i := 40) rfl)) (hw _ (List.mem_of_getElem? (i := 39) rfl)) (by decide) (fun vm0 hZ => own_eqB (s := s.setVm vm0) (W := 0) (n0 := n0) hZ hw E_b15 V_b15 C_b15 A_t15 hct15 (own_txt_bd hd1 hd2 hd3) (by omega) E_b16 V_b16 C_b16 A_t16 hct16 (own_txt_bd hb0 hb1 hb2) (by omega) (S2.ext OL.2) hzC (own_le rfl) (own_le rfl)) (fun _ _ _ q => q.2.2) (ws := []) (fun _ _ _ q => by rw [q.2.1]; exact Keep.refl _ _) all0 E_b15 (g := (mkF m 143 #[.val (.int p0), .val (.int p1), .val (.int p2), .val (.int p3), .val (.int p4), .val (.int p5), .val (.int c0), .val (.int c1), .val (.int c2), .val (.ref b9), .val (.int (Int32.ofNat n)), .val (.int i11), .val (.int i12), .val (.int i13), .val (.int i14), .val (.ref b15), .val (.ref b16), .unset, .unset] [(.ref b16), (.ref b15)])) rfl (by rw [hml]; rfl) (argsL := [(.ref b16)]) (rest := []) (lenOf pd__Ljava_lang_Object__Z rfl) rfl (by show 2 * 0 + _ ≤ _; exact Nat.le_of_eq rfl) (Jvm.hb hby at_143) rfl (by first | decide | omega | (dsimp only; omega) | (dsimp only [room_1]; omega) | (simp; done) | (simp [room_1]; done) | (simp [room_1]; omega)) (by first | decide | omega | (dsimp only; omega) | (dsimp only [room_1]; omega) | (simp; done) | (simp [room_1]; done) | (simp [room_1]; omega)) fun T own_v own_L h7 own_e P own_q => ?_
          obtain ⟨⟨i17, rfl, h17⟩, own_hh, -⟩ := own_q
          rw [own_hh] at P
          clear own_e own_hh
          show OwH p e below s _ _ _ _ _ _ T (mkF m 146 #[.val (.int p0), .val (.int p1), .val (.int p2), .val (.int p3), .val (.int p4), .val (.int p5), .val (.int c0), .val (.int c1), .val (.int c2), .val (.ref b9), .val (.int (Int32.ofNat n)), .val (.int i11), .val (.int i12), .val (.int i13), .val (.int i14), .val (.ref b15), .val (.ref b16), .unset, .unset] [(.int i17)])
          refine OwH.go (T' := T) (g' := (mkF m 154 #[.val (.int p0), .val (.int p1), .val (.int p2), .val (.int p3), .val (.int p4), .val (.int p5), .val (.int c0), .val (.int c1), .val (.int c2), .val (.ref b9), .val (.int (Int32.ofNat n)), .val (.int i11), .val (.int i12), .val (.int i13), .val (.int i14), .val (.ref b15), .val (.ref b16), .val (.int i17), .unset] [(.int (Int32.ofNat n)), (.ref b9), (.ref b15)])) (fun tQ kQ => ?_) ?_
          · refine XS.istore P.here hx rfl (Jvm.hb hby at_146) rfl (l' := #[.val (.int p0), .val (.int p1), .val (.int p2), .val (.int p3), .val (.int p4), .val (.int p5), .val (.int c0), .val (.int c1), .val (.int c2), .val (.ref b9), .val (.int (Int32.ofNat n)), .val (.int i11), .val (.int i12), .val (.int i13), .val (.int i14), .val (.ref b15), .val (.ref b16), .val (.int i17), .unset]) rfl ?_
            refine XS.aload P.here hx rfl (Jvm.hb hby at_148) rfl rfl ?_
            refine XS.aload P.here hx rfl (Jvm.hb hby at_150) rfl rfl ?_
            refine XS.iload P.here hx rfl (Jvm.hb hby at_152) rfl ?_
            exact kQ
          refine P.stat hx (y := (⟨"com/example/clearbid/clearbid/format/InternedStrings", "holds", "(Ljava/lang/String;[CI)Z"⟩ : MethodName)) (hw _ (List.mem_of_getElem? (i := 47) rfl)) (hw _ (List.mem_of_getElem? (i := 48) rfl)) (hw _ (List.mem_of_getElem? (i := 49) rfl)) (hw _ (List.mem_of_getElem? (i := 50) rfl)) (by decide) (fun vm0 hZ => OwM.back (s := s.setVm vm0) (W := 0) (rmHo l Z a0 hw b15 t15 b9 kt15 kb9 _ cdt15 Nt15 zC vt15 _ [c0, c1, c2] n 3 fm h6 n0 Z0 SA SH SL SF rf S2 hzC OL E_b15 V_b15 C_b15 A_t15 hct15 (by omega) (own_txt_bd hd1 hd2 hd3) V_b9 rfl hn3 (by decide)) hZ (hw _ (List.mem_of_getElem? (i := 50) rfl)) (hw _ (List.mem_of_getElem? (i := 49) rfl)) (own_le rfl) (own_le rfl)) (fun _ _ _ q => q.2) (ws := []) (fun _ _ _ q => by obtain ⟨⟨_, _, _, q⟩, _⟩ := q; rw [q]; exact Keep.refl _ _) all0 (g := (mkF m 154 #[.val (.int p0), .val (.int p1), .val (.int p2), .val (.int p3), .val (.int p4), .val (.int p5), .val (.int c0), .val (.int c1), .val (.int c2), .val (.ref b9), .val (.int (Int32.ofNat n)), .val (.int i11), .val (.int i12), .val (.int i13), .val (.int i14), .val (.ref b15), .val (.ref b16), .val (.int i17), .unset] [(.int (Int32.ofNat n)), (.ref b9), (.ref b15)])) rfl (by rw [hml]; rfl) (argsL := [(.ref b15), (.ref b9), (.int (Int32.ofNat n))]) (rest := []) (lenOf pd__Ljava_lang_String__CI_Z rfl) rfl (by show 2 * 0 + _ ≤ _; exact Nat.le_of_eq rfl) (Jvm.hb hby at_154) rfl (by first | decide | omega | (dsimp only; omega) | (dsimp only [room_1]; omega) | (simp; done) | (simp [room_1]; done) | (simp [room_1]; omega)) (by first | decide | omega | (dsimp only; omega) | (dsimp only [room_1]; omega) | (simp; done) | (simp [room_1]; done) | (simp [room_1]; omega)) fun T own_v own_L h8 own_e P own_q => ?_
          obtain ⟨⟨i18, rfl, h18, own_hh⟩, -⟩ := own_q
          rw [own_hh] at P
          clear own_e own_hh
          show OwH p e below s _ _ _ _ _ _ T (mkF m 157 #[.val (.int p0), .val (.int p1), .val (.int p2), .val (.int p3), .val (.int p4), .val (.int p5), .val (.int c0), .val (.int c1), .val (.int c2), .val (.ref b9), .val (.int (Int32.ofNat n)), .val (.int i11), .val (.int i12), .val (.int i13), .val (.int i14), .val (.ref b15), .val (.ref b16), .val (.int i17), .unset] [(.int i18)])
          refine OwH.go (T' := T) (g' := (mkF m 163 #[.val (.int p0), .val (.int p1), .val (.int p2), .val (.int p3), .val (.int p4), .val (.int p5), .val (.int c0), .val (.int c1), .val (.int c2), .val (.ref b9), .val (.int (Int32.ofNat n)), .val (.int i11), .val (.int i12), .val (.int i13), .val (.int i14), .val (.ref b15), .val (.ref b16), .val (.int i17), .val (.int i18)] [(.int i17), (.int i18)])) (fun tQ kQ => ?_) ?_
          · refine XS.istore P.here hx rfl (Jvm.hb hby at_157) rfl (l' := #[.val (.int p0), .val (.int p1), .val (.int p2), .val (.int p3), .val (.int p4), .val (.int p5), .val (.int c0), .val (.int c1), .val (.int c2), .val (.ref b9), .val (.int (Int32.ofNat n)), .val (.int i11), .val (.int i12), .val (.int i13), .val (.int i14), .val (.ref b15), .val (.ref b16), .val (.int i17), .val (.int i18)]) rfl ?_
            refine XS.iload P.here hx rfl (Jvm.hb hby at_159) rfl ?_
            refine XS.iload P.here hx rfl (Jvm.hb hby at_161) rfl ?_
            exact kQ
          have own_e18 : i18 = i17 := by
            rw [own_txt_take hn3] at h17
            rcases h17 with ⟨rfl, q⟩ | ⟨rfl, q⟩ <;> rcases h18 with ⟨rfl, r⟩ | ⟨rfl, r⟩
            · rfl
            · exact absurd q r
            · exact absurd r q
            · rfl
          refine OwH.go (T' := T) (g' := (mkF m 166 #[.val (.int p0), .val (.int p1), .val (.int p2), .val (.int p3), .val (.int p4), .val (.int p5), .val (.int c0), .val (.int c1), .val (.int c2), .val (.ref b9), .val (.int (Int32.ofNat n)), .val (.int i11), .val (.int i12), .val (.int i13), .val (.int i14), .val (.ref b15), .val (.ref b16), .val (.int i17), .val (.int i18)] [])) (fun tQ kQ => ?_) ?_
          · refine XS.icmpNo P.here hx rfl (Jvm.hb hby at_163) rfl (teq own_e18).2 ?_
            exact kQ
          refine OwH.go (T' := T) (g' := (mkF m 171 #[.val (.int p0), .val (.int p1), .val (.int p2), .val (.int p3), .val (.int p4), .val (.int p5), .val (.int c0), .val (.int c1), .val (.int c2), .val (.ref b9), .val (.int (Int32.ofNat n)), .val (.int i11), .val (.int i12), .val (.int i13), .val (.int i14), .val (.ref b15), .val (.ref b16), .val (.int i17), .val (.int i18)] [(.int (1 : Int32))])) (fun tQ kQ => ?_) ?_
          · refine XS.iconst P.here hx rfl (Jvm.hb hby at_166) ?_
            refine XS.goto P.here hx rfl (pc0 := 167) (pc' := 171) rfl (Jvm.hb hby at_167) (by decide) (by decide) ?_
            exact kQ
          exact P.retN hEL hx hlk (t := .boolean) hret (by simp) (Jvm.hb hby at_171) (by first | decide | omega | (dsimp only; omega) | (dsimp only [room_1]; omega) | (simp; done) | (simp [room_1]; done) | (simp [room_1]; omega)) (by first | decide | omega | (dsimp only; omega) | (dsimp only [room_1]; omega) | (simp; done) | (simp [room_1]; done) | (simp [room_1]; omega)) rfl
        by_cases hc101 : (p4 &&& (4 : Int32)) = (0 : Int32)
        · skip
          refine OwH.go (T' := T) (g' := (mkF m 109 #[.val (.int p0), .val (.int p1), .val (.int p2), .val (.int p3), .val (.int p4), .val (.int p5), .val (.int c0), .val (.int c1), .val (.int c2), .val (.ref b9), .val (.int (Int32.ofNat n)), .val (.int i11), .val (.int i12), .val (.int i13), .unset, .unset, .unset, .unset, .unset] [])) (fun tQ kQ => ?_) ?_
          · refine XS.ifYes P.here hx rfl (pc0 := 101) (pc' := 109) rfl (Jvm.hb hby at_101) rfl ((if0 _ _).trans (teq hc101).1) (by decide) (by decide) ?_
            exact kQ
          refine OwH.go (T' := T) (g' := (mkF m 111 #[.val (.int p0), .val (.int p1), .val (.int p2), .val (.int p3), .val (.int p4), .val (.int p5), .val (.int c0), .val (.int c1), .val (.int c2), .val (.ref b9), .val (.int (Int32.ofNat n)), .val (.int i11), .val (.int i12), .val (.int i13), .unset, .unset, .unset, .unset, .unset] [(.int c2)])) (fun tQ kQ => ?_) ?_
          · refine XS.iload P.here hx rfl (Jvm.hb hby at_109) rfl ?_
            exact kQ
          exact k111 T hJ_k95 c2 (P.wide (by first | decide | omega | (dsimp only; omega) | (dsimp only [room_1]; omega) | (simp; done) | (simp [room_1]; done) | (simp [room_1]; omega)) (by first | decide | omega | (dsimp only; omega) | (dsimp only [room_1]; omega) | (simp; done) | (simp [room_1]; done) | (simp [room_1]; omega)) (allS (List.mem_of_getElem? (i := 0) rfl) all0)) Z0 OL V_b9 hb2
        · skip
          refine OwH.go (T' := T) (g' := (mkF m 104 #[.val (.int p0), .val (.int p1), .val (.int p2), .val (.int p3), .val (.int p4), .val (.int p5), .val (.int c0), .val (.int c1), .val (.int c2), .val (.ref b9), .val (.int (Int32.ofNat n)), .val (.int i11), .val (.int i12), .val (.int i13), .unset, .unset, .unset, .unset, .unset] [])) (fun tQ kQ => ?_) ?_
          · refine XS.ifNo P.here hx rfl (Jvm.hb hby at_101) rfl ((if0 _ _).trans (feq hc101).1) ?_
            exact kQ
          refine OwH.go (T' := T) (g' := (mkF m 111 #[.val (.int p0), .val (.int p1), .val (.int p2), .val (.int p3), .val (.int p4), .val (.int p5), .val (.int c0), .val (.int c1), .val (.int c2), .val (.ref b9), .val (.int (Int32.ofNat n)), .val (.int i11), .val (.int i12), .val (.int i13), .unset, .unset, .unset, .unset, .unset] [(.int (p3.toUInt32.toUInt16.toUInt32.toInt32))])) (fun tQ kQ => ?_) ?_
          · refine XS.iloadN P.here hx rfl (Jvm.hb hby at_104) rfl ?_
            refine XS.i2c P.here hx rfl (Jvm.hb hby at_105) rfl ?_
            refine XS.goto P.here hx rfl (pc0 := 106) (pc' := 111) rfl (Jvm.hb hby at_106) (by decide) (by decide) ?_
            exact kQ
          exact k111 T hJ_k95 (p3.toUInt32.toUInt16.toUInt32.toInt32) (P.wide (by first | decide | omega | (dsimp only; omega) | (dsimp only [room_1]; omega) | (simp; done) | (simp [room_1]; done) | (simp [room_1]; omega)) (by first | decide | omega | (dsimp only; omega) | (dsimp only [room_1]; omega) | (simp; done) | (simp [room_1]; done) | (simp [room_1]; omega)) (allS (List.mem_of_getElem? (i := 0) rfl) all0)) Z0 OL V_b9 (own_char _)
      by_cases hc82 : (p4 &&& (2 : Int32)) = (0 : Int32)
      · skip
        refine OwH.go (T' := T) (g' := (mkF m 93 #[.val (.int p0), .val (.int p1), .val (.int p2), .val (.int p3), .val (.int p4), .val (.int p5), .val (.int c0), .val (.int c1), .val (.int c2), .val (.ref b9), .val (.int (Int32.ofNat n)), .val (.int i11), .val (.int i12), .unset, .unset, .unset, .unset, .unset, .unset] [])) (fun tQ kQ => ?_) ?_
        · refine XS.ifYes P.here hx rfl (pc0 := 82) (pc' := 93) rfl (Jvm.hb hby at_82) rfl ((if0 _ _).trans (teq hc82).1) (by decide) (by decide) ?_
          exact kQ
        refine OwH.go (T' := T) (g' := (mkF m 95 #[.val (.int p0), .val (.int p1), .val (.int p2), .val (.int p3), .val (.int p4), .val (.int p5), .val (.int c0), .val (.int c1), .val (.int c2), .val (.ref b9), .val (.int (Int32.ofNat n)), .val (.int i11), .val (.int i12), .unset, .unset, .unset, .unset, .unset, .unset] [(.int c1)])) (fun tQ kQ => ?_) ?_
        · refine XS.iload P.here hx rfl (Jvm.hb hby at_93) rfl ?_
          exact kQ
        exact k95 T hJ_k76 c1 (P.wide (by first | decide | omega | (dsimp only; omega) | (dsimp only [room_1]; omega) | (simp; done) | (simp [room_1]; done) | (simp [room_1]; omega)) (by first | decide | omega | (dsimp only; omega) | (dsimp only [room_1]; omega) | (simp; done) | (simp [room_1]; done) | (simp [room_1]; omega)) (allS (List.mem_of_getElem? (i := 0) rfl) all0)) Z0 OL V_b9 hb1
      · skip
        refine OwH.go (T' := T) (g' := (mkF m 85 #[.val (.int p0), .val (.int p1), .val (.int p2), .val (.int p3), .val (.int p4), .val (.int p5), .val (.int c0), .val (.int c1), .val (.int c2), .val (.ref b9), .val (.int (Int32.ofNat n)), .val (.int i11), .val (.int i12), .unset, .unset, .unset, .unset, .unset, .unset] [])) (fun tQ kQ => ?_) ?_
        · refine XS.ifNo P.here hx rfl (Jvm.hb hby at_82) rfl ((if0 _ _).trans (feq hc82).1) ?_
          exact kQ
        refine OwH.go (T' := T) (g' := (mkF m 95 #[.val (.int p0), .val (.int p1), .val (.int p2), .val (.int p3), .val (.int p4), .val (.int p5), .val (.int c0), .val (.int c1), .val (.int c2), .val (.ref b9), .val (.int (Int32.ofNat n)), .val (.int i11), .val (.int i12), .unset, .unset, .unset, .unset, .unset, .unset] [(.int (((p2.toUInt32 >>> ((16 : Int32) &&& 31).toUInt32).toInt32).toUInt32.toUInt16.toUInt32.toInt32))])) (fun tQ kQ => ?_) ?_
        · refine XS.iloadN P.here hx rfl (Jvm.hb hby at_85) rfl ?_
          refine XS.bipush P.here hx rfl (Jvm.hb hby at_86) ?_
          refine XS.iushr P.here hx rfl (Jvm.hb hby at_88) rfl ?_
          refine XS.i2c P.here hx rfl (Jvm.hb hby at_89) rfl ?_
          refine XS.goto P.here hx rfl (pc0 := 90) (pc' := 95) rfl (Jvm.hb hby at_90) (by decide) (by decide) ?_
          exact kQ
        exact k95 T hJ_k76 (((p2.toUInt32 >>> ((16 : Int32) &&& 31).toUInt32).toInt32).toUInt32.toUInt16.toUInt32.toInt32) (P.wide (by first | decide | omega | (dsimp only; omega) | (dsimp only [room_1]; omega) | (simp; done) | (simp [room_1]; done) | (simp [room_1]; omega)) (by first | decide | omega | (dsimp only; omega) | (dsimp only [room_1]; omega) | (simp; done) | (simp [room_1]; done) | (simp [room_1]; omega)) (allS (List.mem_of_getElem? (i := 0) rfl) all0)) Z0 OL V_b9 (own_char _)
    by_cases hc66 : (p4 &&& (1 : Int32)) = (0 : Int32)
    · skip
      refine OwH.go (T' := T) (g' := (mkF m 74 #[.val (.int p0), .val (.int p1), .val (.int p2), .val (.int p3), .val (.int p4), .val (.int p5), .val (.int c0), .val (.int c1), .val (.int c2), .val (.ref b9), .val (.int (Int32.ofNat n)), .val (.int i11), .unset, .unset, .unset, .unset, .unset, .unset, .unset] [])) (fun tQ kQ => ?_) ?_
      · refine XS.ifYes P.here hx rfl (pc0 := 66) (pc' := 74) rfl (Jvm.hb hby at_66) rfl ((if0 _ _).trans (teq hc66).1) (by decide) (by decide) ?_
        exact kQ
      refine OwH.go (T' := T) (g' := (mkF m 76 #[.val (.int p0), .val (.int p1), .val (.int p2), .val (.int p3), .val (.int p4), .val (.int p5), .val (.int c0), .val (.int c1), .val (.int c2), .val (.ref b9), .val (.int (Int32.ofNat n)), .val (.int i11), .unset, .unset, .unset, .unset, .unset, .unset, .unset] [(.int c0)])) (fun tQ kQ => ?_) ?_
      · refine XS.iload P.here hx rfl (Jvm.hb hby at_74) rfl ?_
        exact kQ
      exact k76 T hJ_k60 c0 (P.wide (by first | decide | omega | (dsimp only; omega) | (dsimp only [room_1]; omega) | (simp; done) | (simp [room_1]; done) | (simp [room_1]; omega)) (by first | decide | omega | (dsimp only; omega) | (dsimp only [room_1]; omega) | (simp; done) | (simp [room_1]; done) | (simp [room_1]; omega)) (allS (List.mem_of_getElem? (i := 0) rfl) all0)) Z0 OL V_b9 hb0
    · skip
      refine OwH.go (T' := T) (g' := (mkF m 69 #[.val (.int p0), .val (.int p1), .val (.int p2), .val (.int p3), .val (.int p4), .val (.int p5), .val (.int c0), .val (.int c1), .val (.int c2), .val (.ref b9), .val (.int (Int32.ofNat n)), .val (.int i11), .unset, .unset, .unset, .unset, .unset, .unset, .unset] [])) (fun tQ kQ => ?_) ?_
      · refine XS.ifNo P.here hx rfl (Jvm.hb hby at_66) rfl ((if0 _ _).trans (feq hc66).1) ?_
        exact kQ
      refine OwH.go (T' := T) (g' := (mkF m 76 #[.val (.int p0), .val (.int p1), .val (.int p2), .val (.int p3), .val (.int p4), .val (.int p5), .val (.int c0), .val (.int c1), .val (.int c2), .val (.ref b9), .val (.int (Int32.ofNat n)), .val (.int i11), .unset, .unset, .unset, .unset, .unset, .unset, .unset] [(.int (p2.toUInt32.toUInt16.toUInt32.toInt32))])) (fun tQ kQ => ?_) ?_
      · refine XS.iloadN P.here hx rfl (Jvm.hb hby at_69) rfl ?_
        refine XS.i2c P.here hx rfl (Jvm.hb hby at_70) rfl ?_
        refine XS.goto P.here hx rfl (pc0 := 71) (pc' := 76) rfl (Jvm.hb hby at_71) (by decide) (by decide) ?_
        exact kQ
      exact k76 T hJ_k60 (p2.toUInt32.toUInt16.toUInt32.toInt32) (P.wide (by first | decide | omega | (dsimp only; omega) | (dsimp only [room_1]; omega) | (simp; done) | (simp [room_1]; done) | (simp [room_1]; omega)) (by first | decide | omega | (dsimp only; omega) | (dsimp only [room_1]; omega) | (simp; done) | (simp [room_1]; done) | (simp [room_1]; omega)) (allS (List.mem_of_getElem? (i := 0) rfl) all0)) Z0 OL V_b9 (own_char _)
  by_cases hc46 : (p4 &&& (8 : Int32)) = (0 : Int32)
  · skip
    refine OwH.go (T' := T) (g' := (mkF m 54 #[.val (.int p0), .val (.int p1), .val (.int p2), .val (.int p3), .val (.int p4), .val (.int p5), .val (.int c0), .val (.int c1), .val (.int c2), .val (.ref b9), .val (.int (Int32.ofNat n)), .unset, .unset, .unset, .unset, .unset, .unset, .unset, .unset] [])) (fun tQ kQ => ?_) ?_
    · refine XS.ifYes P.here hx rfl (pc0 := 46) (pc' := 54) rfl (Jvm.hb hby at_46) rfl ((if0 _ _).trans (teq hc46).1) (by decide) (by decide) ?_
      exact kQ
    refine OwH.go (T' := T) (g' := (mkF m 60 #[.val (.int p0), .val (.int p1), .val (.int p2), .val (.int p3), .val (.int p4), .val (.int p5), .val (.int c0), .val (.int c1), .val (.int c2), .val (.ref b9), .val (.int (Int32.ofNat n)), .unset, .unset, .unset, .unset, .unset, .unset, .unset, .unset] [(.int (((p5.toUInt32 >>> ((2 : Int32) &&& 31).toUInt32).toInt32) &&& (3 : Int32)))])) (fun tQ kQ => ?_) ?_
    · refine XS.iload P.here hx rfl (Jvm.hb hby at_54) rfl ?_
      refine XS.iconst P.here hx rfl (Jvm.hb hby at_56) ?_
      refine XS.iushr P.here hx rfl (Jvm.hb hby at_57) rfl ?_
      refine XS.iconst P.here hx rfl (Jvm.hb hby at_58) ?_
      refine XS.iand P.here hx rfl (Jvm.hb hby at_59) rfl ?_
      exact kQ
    exact k60 T h4 (((p5.toUInt32 >>> ((2 : Int32) &&& 31).toUInt32).toInt32) &&& (3 : Int32)) (P.wide (by first | decide | omega | (dsimp only; omega) | (dsimp only [room_1]; omega) | (simp; done) | (simp [room_1]; done) | (simp [room_1]; omega)) (by first | decide | omega | (dsimp only; omega) | (dsimp only [room_1]; omega) | (simp; done) | (simp [room_1]; done) | (simp [room_1]; omega)) (allS (List.mem_of_getElem? (i := 0) rfl) all0)) Z0 OL V_b9 
  · skip
    refine OwH.go (T' := T) (g' := (mkF m 49 #[.val (.int p0), .val (.int p1), .val (.int p2), .val (.int p3), .val (.int p4), .val (.int p5), .val (.int c0), .val (.int c1), .val (.int c2), .val (.ref b9), .val (.int (Int32.ofNat n)), .unset, .unset, .unset, .unset, .unset, .unset, .unset, .unset] [])) (fun tQ kQ => ?_) ?_
    · refine XS.ifNo P.here hx rfl (Jvm.hb hby at_46) rfl ((if0 _ _).trans (feq hc46).1) ?_
      exact kQ
    refine OwH.go (T' := T) (g' := (mkF m 60 #[.val (.int p0), .val (.int p1), .val (.int p2), .val (.int p3), .val (.int p4), .val (.int p5), .val (.int c0), .val (.int c1), .val (.int c2), .val (.ref b9), .val (.int (Int32.ofNat n)), .unset, .unset, .unset, .unset, .unset, .unset, .unset, .unset] [(.int (Int32.ofNat n))])) (fun tQ kQ => ?_) ?_
    · refine XS.iload P.here hx rfl (Jvm.hb hby at_49) rfl ?_
      refine XS.goto P.here hx rfl (pc0 := 51) (pc' := 60) rfl (Jvm.hb hby at_51) (by decide) (by decide) ?_
      exact kQ
    exact k60 T h4 (Int32.ofNat n) (P.wide (by first | decide | omega | (dsimp only; omega) | (dsimp only [room_1]; omega) | (simp; done) | (simp [room_1]; done) | (simp [room_1]; omega)) (by first | decide | omega | (dsimp only; omega) | (dsimp only [room_1]; omega) | (simp; done) | (simp [room_1]; done) | (simp [room_1]; omega)) (allS (List.mem_of_getElem? (i := 0) rfl) all0)) Z0 OL V_b9 
set_option maxRecDepth 65536 in
set_option maxHeartbeats 40000000 in
theorem comes_1 {Post : Tables → Env → Array Value → State → Outcome → State → Prop} (hpost : ∀ tb e args s v u, (limb_1_1.after args s (.returned v) u = true ∧ limb_1_2.after args s (.returned v) u = true ∧ True) → ReturnedEndW s (.returned v) u (Jvm.fieldLocs frame_1_writes args s ++ Jvm.arrayLocs frame_1_arrays args s ++ Jvm.staticLocs frame_1_statics s) 32 1216 → Post tb e args s (.returned v) u) :
    ArmFor flags0 classFile x code maxLocals ret World_1 tables_1 room_1 Calls_1 rest_1 Pre_1 Post := by
  intro l hfl _ _ p e ha hc hk s m args below hf hA hF happ hP
  obtain ⟨hcalls, hrest, hpre⟩ := hP
  obtain ⟨-, -, -, hnamed, -, -, -, hat⟩ := (Spec.applies_iff hf).mp happ
  obtain ⟨hg, hn⟩ := and_e (Cond.before_iff.mp (show (Jvm.Cond.and given_1 narrow_1).before args s = true from hpre))
  obtain ⟨g1, g2⟩ := and_e hg
  obtain ⟨g3, g4⟩ := and_e g2
  obtain ⟨g5, g6⟩ := and_e g4
  obtain ⟨g7, g8⟩ := and_e g6
  obtain ⟨g9, g10⟩ := and_e g8
  obtain ⟨g11, g12⟩ := and_e g10
  obtain ⟨w0, w1, w2, w3, w4, w5, rfl⟩ : ∃ w0 w1 w2 w3 w4 w5 : Value, args = #[w0, w1, w2, w3, w4, w5] := by
    have hs : args.size = 6 := by simpa [Cond.value, given_1] using g1
    obtain ⟨L⟩ := args
    match L, hs with
    | [w0, w1, w2, w3, w4, w5], _ => exact ⟨w0, w1, w2, w3, w4, w5, rfl⟩
  have hw := fun d (hd : d ∈ tables_1) => atoms_spec (ws := Jvm.Cond.code x code maxLocals ret :: tables_1) hat d (List.mem_cons_of_mem _ hd)
  have hfit : Fit s := fun {y c} hc i hi => by
    obtain ⟨ha, rfl⟩ := Array.getElem?_eq_some_iff.mp hc
    have q := List.all_eq_true.mp ((Array.all_eq_true_iff_forall_mem.mp hF) _ (Array.getElem_mem ha)) i (List.mem_range.mpr hi)
    simpa [Array.getElem?_eq_getElem hi] using q
  obtain ⟨hsets, hown0⟩ := atoms_of _ (rest_1_c_eq ▸ (show rest_1_c.before _ s = true from hrest))
  have hr0 := Cond.before_iff.mp hown0
  obtain ⟨i0, ei0⟩ := is_v g3
  obtain rfl : w0 = (.int i0) := Option.some.inj ei0
  obtain ⟨i1, ei1⟩ := is_v g5
  obtain rfl : w1 = (.int i1) := Option.some.inj ei1
  obtain ⟨i2, ei2⟩ := is_v g7
  obtain rfl : w2 = (.int i2) := Option.some.inj ei2
  obtain ⟨i3, ei3⟩ := is_v g9
  obtain rfl : w3 = (.int i3) := Option.some.inj ei3
  obtain ⟨i4, ei4⟩ := is_v g11
  obtain rfl : w4 = (.int i4) := Option.some.inj ei4
  obtain ⟨i5, ei5⟩ := is_v g12
  obtain rfl : w5 = (.int i5) := Option.some.inj ei5
  have n5 := not_v (Cond.before_iff.mp (hsets _ (List.mem_of_getElem? (i := 2) rfl)))
  obtain ⟨zC, ezC⟩ := is_v (Cond.before_iff.mp (hsets _ (List.mem_of_getElem? (i := 1) rfl)))
  have S2 : Sta s s.heap "java/lang/String" "COMPACT_STRINGS" "Z" (.int zC) := Sta.start ezC (Or.inl (hsets _ (List.mem_of_getElem? (i := 0) rfl)))
  have hzC : ¬ (zC = (0 : Int32)) := gotF (Cond.eq_ints ezC (Term.int_eval (0))) n5
  obtain ⟨fm, efm, rf⟩ := isR_v (Cond.before_iff.mp (hsets _ (List.mem_of_getElem? (i := 8) rfl)))
  have SF : Sta s s.heap "jdk/internal/util/Preconditions" "SIOOBE_FORMATTER" "Ljava/util/function/BiFunction;" fm := Sta.start efm (Or.inl (hsets _ (List.mem_of_getElem? (i := 7) rfl)))
  have SA : Sta s s.heap "java/lang/StringUTF16" "$assertionsDisabled" "Z" (.int (1 : Int32)) := Sta.start (own_eqv (Cond.before_iff.mp (hsets _ (List.mem_of_getElem? (i := 12) rfl)))) (Or.inl (hsets _ (List.mem_of_getElem? (i := 11) rfl)))
  have SH : Sta s s.heap "java/lang/StringUTF16" "HI_BYTE_SHIFT" "I" (.int (0 : Int32)) := Sta.start (own_eqv (Cond.before_iff.mp (hsets _ (List.mem_of_getElem? (i := 15) rfl)))) (Or.inl (hsets _ (List.mem_of_getElem? (i := 14) rfl)))
  have SL : Sta s s.heap "java/lang/StringUTF16" "LO_BYTE_SHIFT" "I" (.int (8 : Int32)) := Sta.start (own_eqv (Cond.before_iff.mp (hsets _ (List.mem_of_getElem? (i := 18) rfl)))) (Or.inl (hsets _ (List.mem_of_getElem? (i := 17) rfl)))
  have hCH : CHv s own_EL s.vm s.heap := CHv.start (own_EW hw) (fun q hq => hcalls.1 q (by revert q; decide)) (hsets _ (List.mem_of_getElem? (i := 2) rfl)) (hw _ (List.mem_of_getElem? (i := 19) rfl)) (hw _ (List.mem_of_getElem? (i := 6) rfl))
  obtain ⟨n, o, h1, h2, h3, _, L, rfl, ⟨rfl, N⟩, -, hq⟩ := rm0 l s _ hw tables_1 i0 i1 i2 i3 i4 i5 zC fm s.heap s.heap.size (Nat.le_refl _) SA SH SL SF rf S2 hzC (Old.start s) p e ha hc hk s m _ below hf ((Spec.applies_iff_loose hf).mp happ).1 ⟨rfl, State.Warmed39.refl s, rfl, hCH, fun x hx => nomatch hx⟩ trivial
  refine ⟨n, _, h1, h2, h3, hpost _ _ _ _ _ _ ⟨Cond.after_iff.mpr rfl, Cond.after_iff.mpr (eq_i res_at (Term.int_eval (1)) rfl), trivial⟩ ⟨hq.1, hq.2.1, hq.2.2.1, (hq.2.2.2.sift fun y hy => Or.inr (N y hy)).mono (by decide) (by decide)⟩⟩
theorem main_1_1 : Claimed_1_1 := comes_1 fun _ _ _ _ _ _ h hF => ⟨h.1, hF⟩
theorem main_1_2 : Claimed_1_2 := comes_1 fun _ _ _ _ _ _ h hF => ⟨h.2.1, hF⟩
end Jvm.Pilot.@@N@@
namespace Jvm.Pilot.@@N@@
open Jvm Jvm.ClassFile Sem Op Lib Jvm.Free Jvm.Stand Jvm.Pilot.@@N@@.Jvm.D
/-! MADE BY PROGRAM (witnessworld.py) out of the Statement's table words and the real class files: 20 classes; the members and pool entries that the words name. The judged class is class 1, her method 2. -/
namespace start1
open Jvm.ClassFile
def u (s : String) : CpInfo := .utf8 (stringToUtf16 s)
/-- a pool by its gaps: so many unusable entries, then the entry; so many at the end -/
def gap : Nat → List CpInfo → List CpInfo
  | 0, r => r
  | n + 1, r => .unusable :: gap n r
def poolList (es : List (Nat × CpInfo)) (last : Nat) : List CpInfo := es.foldr (fun e r => gap e.1 (e.2 :: r)) (gap last [])
def pool (es : List (Nat × CpInfo)) (last : Nat) : Array CpInfo := ⟨poolList es last⟩
def fileOf (pool : Array CpInfo) (this : Nat) (attrs : Array Attribute := #[]) (ms : Array MethodInfo := #[]) (fl : Nat := 33) (sup : Nat := 0) (ifs : Array Nat := #[]) (fds : Array FieldInfo := #[]) : ClassFile where
  minorVersion := 0
  majorVersion := 65
  constantPool := pool
  accessFlags := fl
  thisClass := this
  superClass := sup
  interfaces := ifs
  fields := fds
  methods := ms
  attributes := attrs
def plain (name : String) (sup : Option ClassId) : Class where
  name := name
  kind := .ordinary
  loader := none
  accessFlags := 33
  super := sup
  interfaces := #[]
  cf := none
  fields := #[]
  methods := #[]
  instanceTypes := #[]
  staticTypes := #[]
  resolved := #[]
  callSites := []
  init := .initialized
  statics := none
  mirror := none

def pool0 : Array CpInfo := pool [(5, u "<init>"), (0, u "()V"), (1, .class_ 10), (1, u "java/lang/Object")] 113

def k0c0 : Code := { maxStack := 0, maxLocals := 1, code := object_method_1_code, exceptionTable := #[], attributes := #[] }
def k0m0 : Method := { name := "<init>", desc := "()V", sig := { parameters := [], returnType := none }, accessFlags := 1, code := some k0c0 }
/-- java/lang/Object -/
def k0 : Class := { plain "java/lang/Object" none with
  accessFlags := 33
  interfaces := #[]
  cf := some (fileOf pool0 8 #[] #[{ accessFlags := 1, nameIndex := 5, descriptorIndex := 6, attributes := #[] }] 33 0 #[] #[])
  fields := #[]
  methods := #[k0m0]
  instanceTypes := #[]
  staticTypes := #[]
  resolved := Array.replicate 124 none
  statics := none }

def pool1 : Array CpInfo := pool [(2, .class_ 4), (1, u "java/lang/Object"), (0, u "<init>"), (0, u "()V"), (0, .class_ 8), (0, u "java/lang/String"), (0, .methodref 7 10), (0, .nameAndType 5 11), (0, u "([C)V"), (0, .methodref 13 14), (0, .class_ 15), (0, .nameAndType 16 17), (0, u "com/example/clearbid/clearbid/format/InternedStringsHoldsPinLaw"), (0, u "text"), (0, u "(ICCC)Ljava/lang/String;"), (0, .methodref 7 19), (0, .nameAndType 20 21), (0, u "equals"), (0, u "(Ljava/lang/Object;)Z"), (0, .methodref 23 24), (0, .class_ 25), (0, .nameAndType 26 27), (0, u "com/example/clearbid/clearbid/format/InternedStrings"), (0, u "holds"), (0, u "(Ljava/lang/String;[CI)Z"), (3, u "law"), (0, u "(IIIIII)Z")] 4

def k1m0 : Method := { name := "<init>", desc := "()V", sig := { parameters := [], returnType := none }, accessFlags := 1, code := none }
def k1c1 : Code := { maxStack := 6, maxLocals := 4, code := method_2_code, exceptionTable := #[], attributes := #[] }
def k1m1 : Method := { name := "text", desc := "(ICCC)Ljava/lang/String;", sig := { parameters := [.int, .char, .char, .char], returnType := some (.object "java/lang/String") }, accessFlags := 10, code := some k1c1 }
def k1c2 : Code := { maxStack := 4, maxLocals := 19, code := code, exceptionTable := #[], attributes := #[] }
def k1m2 : Method := { name := "law", desc := "(IIIIII)Z", sig := { parameters := [.int, .int, .int, .int, .int, .int], returnType := some .boolean }, accessFlags := 9, code := some k1c2 }
/-- com/example/clearbid/clearbid/format/InternedStringsHoldsPinLaw -/
def k1 : Class := { plain "com/example/clearbid/clearbid/format/InternedStringsHoldsPinLaw" (some 0) with
  accessFlags := 49
  interfaces := #[]
  cf := some (fileOf pool1 13 #[] #[{ accessFlags := 1, nameIndex := 5, descriptorIndex := 6, attributes := #[] }, { accessFlags := 10, nameIndex := 16, descriptorIndex := 17, attributes := #[] }, { accessFlags := 9, nameIndex := 31, descriptorIndex := 32, attributes := #[] }] 49 2 #[] #[])
  fields := #[]
  methods := #[k1m0, k1m1, k1m2]
  instanceTypes := #[]
  staticTypes := #[]
  resolved := Array.replicate 37 none
  statics := none }

def pool2 : Array CpInfo := pool [(1, .class_ 2), (0, u "java/io/Serializable"), (0, .class_ 4), (0, u "java/lang/Object")] 2

/-- java/io/Serializable -/
def k2 : Class := { plain "java/io/Serializable" (some 0) with
  accessFlags := 1537
  interfaces := #[]
  cf := some (fileOf pool2 1 #[] #[] 1537 3 #[] #[])
  fields := #[]
  methods := #[]
  instanceTypes := #[]
  staticTypes := #[]
  resolved := Array.replicate 7 none
  statics := none }

def pool3 : Array CpInfo := pool [(1, .class_ 2), (0, u "java/lang/Comparable"), (0, .class_ 4), (0, u "java/lang/Object")] 7

/-- java/lang/Comparable -/
def k3 : Class := { plain "java/lang/Comparable" (some 0) with
  accessFlags := 1537
  interfaces := #[]
  cf := some (fileOf pool3 1 #[] #[] 1537 3 #[] #[])
  fields := #[]
  methods := #[]
  instanceTypes := #[]
  staticTypes := #[]
  resolved := Array.replicate 12 none
  statics := none }

def pool4 : Array CpInfo := pool [(2, .class_ 4), (1, u "java/lang/CharSequence"), (42, .class_ 48), (0, u "java/lang/CharSequence$1CodePointIterator"), (10, .class_ 60), (0, u "java/lang/CharSequence$1CharIterator"), (5, .class_ 67), (0, u "java/lang/Object")] 63

/-- java/lang/CharSequence -/
def k4 : Class := { plain "java/lang/CharSequence" (some 0) with
  accessFlags := 1537
  interfaces := #[]
  cf := some (fileOf pool4 2 #[.nestMembers #[47, 59]] #[] 1537 66 #[] #[])
  fields := #[]
  methods := #[]
  instanceTypes := #[]
  staticTypes := #[]
  resolved := Array.replicate 131 none
  statics := none }

def pool5 : Array CpInfo := pool [(1, .class_ 2), (0, u "java/lang/constant/Constable"), (0, .class_ 4), (0, u "java/lang/Object")] 6

/-- java/lang/constant/Constable -/
def k5 : Class := { plain "java/lang/constant/Constable" (some 0) with
  accessFlags := 1537
  interfaces := #[]
  cf := some (fileOf pool5 1 #[] #[] 1537 3 #[] #[])
  fields := #[]
  methods := #[]
  instanceTypes := #[]
  staticTypes := #[]
  resolved := Array.replicate 11 none
  statics := none }

def pool6 : Array CpInfo := pool [(1, .class_ 2), (0, u "java/lang/constant/ConstantDesc"), (0, .class_ 4), (0, u "java/lang/Object")] 32

/-- java/lang/constant/ConstantDesc -/
def k6 : Class := { plain "java/lang/constant/ConstantDesc" (some 0) with
  accessFlags := 1537
  interfaces := #[]
  cf := some (fileOf pool6 1 #[] #[] 1537 3 #[] #[])
  fields := #[]
  methods := #[]
  instanceTypes := #[]
  staticTypes := #[]
  resolved := Array.replicate 37 none
  statics := none }

def pool7 : Array CpInfo := pool [(1, .methodref 2 3), (0, .class_ 4), (0, .nameAndType 5 6), (0, u "java/lang/Object"), (0, u "<init>"), (0, u "()V"), (0, .string 8), (0, u ""), (0, .fieldref 10 11), (0, .class_ 12), (0, .nameAndType 13 14), (0, u "java/lang/String"), (0, u "value"), (0, u "[B"), (0, .fieldref 10 16), (0, .nameAndType 17 18), (0, u "coder"), (0, u "B"), (2, u "hash"), (0, u "I"), (2, u "hashIsZero"), (0, u "Z"), (0, .methodref 10 28), (0, .nameAndType 5 29), (0, u "([CIILjava/lang/Void;)V"), (8, .fieldref 10 39), (0, .nameAndType 40 26), (0, u "COMPACT_STRINGS"), (1, .class_ 44), (1, u "java/lang/StringUTF16"), (0, u "compress"), (1, .methodref 42 48), (0, .nameAndType 49 50), (0, u "coderFromArrayLen"), (0, u "([BI)B"), (56, .class_ 109), (1, u "java/lang/StringLatin1"), (32, u "()Z"), (34, .methodref 42 178), (0, .nameAndType 45 179), (0, u "([CII)[B"), (154, u "()I"), (0, .methodref 10 336), (0, .nameAndType 17 337), (0, u "()B"), (25, u "([BI)C"), (27, u "(II)V"), (35, u "(I)C"), (64, .methodref 10 493), (0, .nameAndType 494 142), (0, u "isLatin1"), (0, .methodref 107 496), (0, .nameAndType 497 363), (0, u "charAt"), (0, .methodref 42 496), (2, u "checkIndex"), (5, u "length"), (33, .methodref 107 542), (0, .nameAndType 543 544), (0, u "equals"), (0, u "([B[B)Z"), (28, u "(Ljava/lang/Object;)Z"), (1, .class_ 576), (0, u "java/lang/CharSequence"), (22, u "CASE_INSENSITIVE_ORDER"), (0, u "Ljava/util/Comparator;"), (409, u "([C)V"), (42, .fieldref 1054 1055), (0, .class_ 1056), (0, .nameAndType 1057 1058), (0, u "jdk/internal/util/Preconditions"), (0, u "SIOOBE_FORMATTER"), (0, u "Ljava/util/function/BiFunction;"), (0, .methodref 1054 1060), (0, .nameAndType 501 1061), (0, u "(IILjava/util/function/BiFunction;)I"), (39, u "serialPersistentFields"), (0, u "[Ljava/io/ObjectStreamField;"), (0, .class_ 1104), (0, u "java/lang/String$CaseInsensitiveComparator"), (1, .class_ 1107), (0, u "java/io/Serializable"), (0, .class_ 1109), (0, u "java/lang/Comparable"), (0, .class_ 1111), (0, u "java/lang/constant/Constable"), (0, .class_ 1113), (0, u "java/lang/constant/ConstantDesc"), (2, u "serialVersionUID"), (0, u "J"), (3, u "REPL"), (0, u "C"), (2, u "LATIN1"), (1, u "UTF16")] 323

def k7m0 : Method := { name := "<init>", desc := "()V", sig := { parameters := [], returnType := none }, accessFlags := 1, code := none }
def k7c1 : Code := { maxStack := 5, maxLocals := 2, code := jdk_42_method_3_code, exceptionTable := #[], attributes := #[] }
def k7m1 : Method := { name := "<init>", desc := "([C)V", sig := { parameters := [(.array .char)], returnType := none }, accessFlags := 1, code := some k7c1 }
def k7c2 : Code := { maxStack := 2, maxLocals := 1, code := jdk_42_method_54_code, exceptionTable := #[], attributes := #[] }
def k7m2 : Method := { name := "length", desc := "()I", sig := { parameters := [], returnType := some .int }, accessFlags := 1, code := some k7c2 }
def k7c3 : Code := { maxStack := 2, maxLocals := 2, code := jdk_42_method_56_code, exceptionTable := #[], attributes := #[] }
def k7m3 : Method := { name := "charAt", desc := "(I)C", sig := { parameters := [.int], returnType := some .char }, accessFlags := 1, code := some k7c3 }
def k7c4 : Code := { maxStack := 2, maxLocals := 3, code := jdk_42_method_66_code, exceptionTable := #[], attributes := #[] }
def k7m4 : Method := { name := "equals", desc := "(Ljava/lang/Object;)Z", sig := { parameters := [(.object "java/lang/Object")], returnType := some .boolean }, accessFlags := 1, code := some k7c4 }
def k7c5 : Code := { maxStack := 4, maxLocals := 6, code := jdk_42_method_149_code, exceptionTable := #[], attributes := #[] }
def k7m5 : Method := { name := "<init>", desc := "([CIILjava/lang/Void;)V", sig := { parameters := [(.array .char), .int, .int, (.object "java/lang/Void")], returnType := none }, accessFlags := 2, code := some k7c5 }
def k7c6 : Code := { maxStack := 1, maxLocals := 1, code := jdk_42_method_152_code, exceptionTable := #[], attributes := #[] }
def k7m6 : Method := { name := "coder", desc := "()B", sig := { parameters := [], returnType := some .byte }, accessFlags := 0, code := some k7c6 }
def k7c7 : Code := { maxStack := 1, maxLocals := 1, code := jdk_42_method_154_code, exceptionTable := #[], attributes := #[] }
def k7m7 : Method := { name := "isLatin1", desc := "()Z", sig := { parameters := [], returnType := some .boolean }, accessFlags := 0, code := some k7c7 }
def k7c8 : Code := { maxStack := 3, maxLocals := 2, code := jdk_42_method_155_code, exceptionTable := #[], attributes := #[] }
def k7m8 : Method := { name := "checkIndex", desc := "(II)V", sig := { parameters := [.int, .int], returnType := none }, accessFlags := 8, code := some k7c8 }
/-- java/lang/String -/
def k7 : Class := { plain "java/lang/String" (some 0) with
  accessFlags := 49
  interfaces := #[2, 3, 4, 5, 6]
  cf := some (fileOf pool7 10 #[.nestMembers #[1103]] #[{ accessFlags := 1, nameIndex := 5, descriptorIndex := 6, attributes := #[] }, { accessFlags := 1, nameIndex := 5, descriptorIndex := 1010, attributes := #[] }, { accessFlags := 1, nameIndex := 507, descriptorIndex := 334, attributes := #[] }, { accessFlags := 1, nameIndex := 497, descriptorIndex := 427, attributes := #[] }, { accessFlags := 1, nameIndex := 543, descriptorIndex := 573, attributes := #[] }, { accessFlags := 2, nameIndex := 5, descriptorIndex := 29, attributes := #[] }, { accessFlags := 0, nameIndex := 17, descriptorIndex := 337, attributes := #[] }, { accessFlags := 0, nameIndex := 494, descriptorIndex := 142, attributes := #[] }, { accessFlags := 8, nameIndex := 501, descriptorIndex := 391, attributes := #[] }] 49 2 #[1106, 1108, 575, 1110, 1112] #[{ accessFlags := 18, nameIndex := 13, descriptorIndex := 14, attributes := #[] }, { accessFlags := 18, nameIndex := 17, descriptorIndex := 18, attributes := #[] }, { accessFlags := 2, nameIndex := 21, descriptorIndex := 22, attributes := #[] }, { accessFlags := 2, nameIndex := 25, descriptorIndex := 26, attributes := #[] }, { accessFlags := 26, nameIndex := 1116, descriptorIndex := 1117, attributes := #[] }, { accessFlags := 24, nameIndex := 40, descriptorIndex := 26, attributes := #[] }, { accessFlags := 26, nameIndex := 1101, descriptorIndex := 1102, attributes := #[] }, { accessFlags := 26, nameIndex := 1121, descriptorIndex := 1122, attributes := #[] }, { accessFlags := 25, nameIndex := 599, descriptorIndex := 600, attributes := #[] }, { accessFlags := 24, nameIndex := 1125, descriptorIndex := 18, attributes := #[] }, { accessFlags := 24, nameIndex := 1127, descriptorIndex := 18, attributes := #[] }])
  fields := #[{ name := "value", type := (.array .byte), accessFlags := 18, slot := 0, constantValue := 0 }, { name := "coder", type := .byte, accessFlags := 18, slot := 1, constantValue := 0 }, { name := "hash", type := .int, accessFlags := 2, slot := 2, constantValue := 0 }, { name := "hashIsZero", type := .boolean, accessFlags := 2, slot := 3, constantValue := 0 }, { name := "serialVersionUID", type := .long, accessFlags := 26, slot := 0, constantValue := 0 }, { name := "COMPACT_STRINGS", type := .boolean, accessFlags := 24, slot := 1, constantValue := 0 }, { name := "serialPersistentFields", type := (.array (.object "java/io/ObjectStreamField")), accessFlags := 26, slot := 2, constantValue := 0 }, { name := "REPL", type := .char, accessFlags := 26, slot := 3, constantValue := 0 }, { name := "CASE_INSENSITIVE_ORDER", type := (.object "java/util/Comparator"), accessFlags := 25, slot := 4, constantValue := 0 }, { name := "LATIN1", type := .byte, accessFlags := 24, slot := 5, constantValue := 0 }, { name := "UTF16", type := .byte, accessFlags := 24, slot := 6, constantValue := 0 }]
  methods := #[k7m0, k7m1, k7m2, k7m3, k7m4, k7m5, k7m6, k7m7, k7m8]
  instanceTypes := #[(.array .byte), .byte, .int, .boolean]
  staticTypes := #[.long, .boolean, (.array (.object "java/io/ObjectStreamField")), .char, (.object "java/util/Comparator"), .byte, .byte]
  resolved := Array.replicate 1451 none
  statics := some 0 }

def pool8 : Array CpInfo := pool [(3, .class_ 4), (0, u "java/lang/String"), (1, .class_ 8), (1, u "java/lang/Object"), (0, u "<init>"), (0, u "()V"), (0, .methodref 12 13), (0, .class_ 14), (0, .nameAndType 15 16), (0, u "java/lang/StringUTF16"), (0, u "newBytesLength"), (0, u "(I)I"), (3, .integer 1073741823), (23, .fieldref 12 45), (0, .nameAndType 46 47), (0, u "$assertionsDisabled"), (0, u "Z"), (0, .methodref 12 49), (0, .nameAndType 50 51), (0, u "length"), (0, u "([B)I"), (7, .fieldref 12 60), (0, .nameAndType 61 62), (0, u "HI_BYTE_SHIFT"), (0, u "I"), (0, .fieldref 12 64), (0, .nameAndType 65 62), (0, u "LO_BYTE_SHIFT"), (1, .methodref 12 68), (0, .nameAndType 69 70), (0, u "checkIndex"), (0, u "(I[B)V"), (0, .methodref 12 72), (0, .nameAndType 73 74), (0, u "getChar"), (0, u "([BI)C"), (32, .methodref 12 108), (0, .nameAndType 109 110), (0, u "newBytesFor"), (0, u "(I)[B"), (0, .methodref 12 112), (0, .nameAndType 113 114), (0, u "putChar"), (0, u "([BII)V"), (0, .methodref 12 116), (0, .nameAndType 117 118), (0, u "compress"), (0, u "([CI[BII)I"), (0, .methodref 12 120), (0, .nameAndType 121 122), (0, u "toBytes"), (0, u "([CII)[B"), (138, u "coderFromArrayLen"), (0, u "([BI)B"), (106, .class_ 371), (1, u "java/lang/StringUTF16$LinesSpliterator"), (20, u "charAt"), (21, .methodref 3 415), (0, .nameAndType 69 416), (0, u "(II)V"), (13, u "MAX_LENGTH"), (196, .class_ 628), (0, u "java/lang/StringUTF16$CodePointsSpliterator"), (0, .class_ 630), (0, u "java/lang/StringUTF16$CharsSpliterator")] 4

def k8m0 : Method := { name := "<init>", desc := "()V", sig := { parameters := [], returnType := none }, accessFlags := 0, code := none }
def k8c1 : Code := { maxStack := 1, maxLocals := 1, code := jdk_52_method_2_code, exceptionTable := #[], attributes := #[] }
def k8m1 : Method := { name := "newBytesFor", desc := "(I)[B", sig := { parameters := [.int], returnType := some (.array .byte) }, accessFlags := 9, code := some k8c1 }
def k8c2 : Code := { maxStack := 4, maxLocals := 1, code := jdk_52_method_3_code, exceptionTable := #[], attributes := #[] }
def k8m2 : Method := { name := "newBytesLength", desc := "(I)I", sig := { parameters := [.int], returnType := some .int }, accessFlags := 9, code := some k8c2 }
def k8c3 : Code := { maxStack := 4, maxLocals := 3, code := jdk_52_method_4_code, exceptionTable := #[], attributes := #[] }
def k8m3 : Method := { name := "putChar", desc := "([BII)V", sig := { parameters := [(.array .byte), .int, .int], returnType := none }, accessFlags := 8, code := some k8c3 }
def k8c4 : Code := { maxStack := 3, maxLocals := 2, code := jdk_52_method_5_code, exceptionTable := #[], attributes := #[] }
def k8m4 : Method := { name := "getChar", desc := "([BI)C", sig := { parameters := [(.array .byte), .int], returnType := some .char }, accessFlags := 8, code := some k8c4 }
def k8c5 : Code := { maxStack := 2, maxLocals := 1, code := jdk_52_method_6_code, exceptionTable := #[], attributes := #[] }
def k8m5 : Method := { name := "length", desc := "([B)I", sig := { parameters := [(.array .byte)], returnType := some .int }, accessFlags := 9, code := some k8c5 }
def k8c6 : Code := { maxStack := 4, maxLocals := 5, code := jdk_52_method_14_code, exceptionTable := #[], attributes := #[] }
def k8m6 : Method := { name := "toBytes", desc := "([CII)[B", sig := { parameters := [(.array .char), .int, .int], returnType := some (.array .byte) }, accessFlags := 9, code := some k8c6 }
def k8c7 : Code := { maxStack := 2, maxLocals := 2, code := jdk_52_method_15_code, exceptionTable := #[], attributes := #[] }
def k8m7 : Method := { name := "coderFromArrayLen", desc := "([BI)B", sig := { parameters := [(.array .byte), .int], returnType := some .byte }, accessFlags := 8, code := some k8c7 }
def k8c8 : Code := { maxStack := 5, maxLocals := 6, code := jdk_52_method_16_code, exceptionTable := #[], attributes := #[] }
def k8m8 : Method := { name := "compress", desc := "([CII)[B", sig := { parameters := [(.array .char), .int, .int], returnType := some (.array .byte) }, accessFlags := 9, code := some k8c8 }
def k8c9 : Code := { maxStack := 3, maxLocals := 7, code := jdk_52_method_21_code, exceptionTable := #[], attributes := #[] }
def k8m9 : Method := { name := "compress", desc := "([CI[BII)I", sig := { parameters := [(.array .char), .int, (.array .byte), .int, .int], returnType := some .int }, accessFlags := 9, code := some k8c9 }
def k8c10 : Code := { maxStack := 2, maxLocals := 2, code := jdk_52_method_83_code, exceptionTable := #[], attributes := #[] }
def k8m10 : Method := { name := "charAt", desc := "([BI)C", sig := { parameters := [(.array .byte), .int], returnType := some .char }, accessFlags := 9, code := some k8c10 }
def k8c11 : Code := { maxStack := 2, maxLocals := 2, code := jdk_52_method_91_code, exceptionTable := #[], attributes := #[] }
def k8m11 : Method := { name := "checkIndex", desc := "(I[B)V", sig := { parameters := [.int, (.array .byte)], returnType := none }, accessFlags := 9, code := some k8c11 }
/-- java/lang/StringUTF16 -/
def k8 : Class := { plain "java/lang/StringUTF16" (some 0) with
  accessFlags := 48
  interfaces := #[]
  cf := some (fileOf pool8 12 #[.nestMembers #[627, 629, 369]] #[{ accessFlags := 0, nameIndex := 9, descriptorIndex := 10, attributes := #[] }, { accessFlags := 9, nameIndex := 109, descriptorIndex := 110, attributes := #[] }, { accessFlags := 9, nameIndex := 15, descriptorIndex := 16, attributes := #[] }, { accessFlags := 8, nameIndex := 113, descriptorIndex := 114, attributes := #[] }, { accessFlags := 8, nameIndex := 73, descriptorIndex := 74, attributes := #[] }, { accessFlags := 9, nameIndex := 50, descriptorIndex := 51, attributes := #[] }, { accessFlags := 9, nameIndex := 121, descriptorIndex := 122, attributes := #[] }, { accessFlags := 8, nameIndex := 261, descriptorIndex := 262, attributes := #[] }, { accessFlags := 9, nameIndex := 117, descriptorIndex := 122, attributes := #[] }, { accessFlags := 9, nameIndex := 117, descriptorIndex := 118, attributes := #[] }, { accessFlags := 9, nameIndex := 392, descriptorIndex := 74, attributes := #[] }, { accessFlags := 9, nameIndex := 69, descriptorIndex := 70, attributes := #[] }] 48 6 #[] #[{ accessFlags := 26, nameIndex := 61, descriptorIndex := 62, attributes := #[] }, { accessFlags := 26, nameIndex := 65, descriptorIndex := 62, attributes := #[] }, { accessFlags := 24, nameIndex := 430, descriptorIndex := 62, attributes := #[] }, { accessFlags := 4120, nameIndex := 46, descriptorIndex := 47, attributes := #[] }])
  fields := #[{ name := "HI_BYTE_SHIFT", type := .int, accessFlags := 26, slot := 0, constantValue := 0 }, { name := "LO_BYTE_SHIFT", type := .int, accessFlags := 26, slot := 1, constantValue := 0 }, { name := "MAX_LENGTH", type := .int, accessFlags := 24, slot := 2, constantValue := 0 }, { name := "$assertionsDisabled", type := .boolean, accessFlags := 4120, slot := 3, constantValue := 0 }]
  methods := #[k8m0, k8m1, k8m2, k8m3, k8m4, k8m5, k8m6, k8m7, k8m8, k8m9, k8m10, k8m11]
  instanceTypes := #[]
  staticTypes := #[.int, .int, .int, .boolean]
  resolved := Array.replicate 635 none
  statics := some 1 }

def pool9 : Array CpInfo := pool [(1, .class_ 2), (0, u "java/lang/String"), (1, .class_ 6), (1, u "java/lang/Object"), (0, u "<init>"), (0, u "()V"), (0, .methodref 1 10), (0, .nameAndType 11 12), (0, u "checkIndex"), (0, u "(II)V"), (1, .class_ 16), (1, u "java/lang/StringLatin1"), (36, u "([BI)C"), (67, u "$assertionsDisabled"), (0, u "Z"), (98, .class_ 223), (1, u "java/lang/StringLatin1$LinesSpliterator"), (28, u "charAt"), (28, u "equals"), (0, u "([B[B)Z"), (107, .class_ 391), (0, u "java/lang/StringLatin1$CharsSpliterator")] 3

def k9m0 : Method := { name := "<init>", desc := "()V", sig := { parameters := [], returnType := none }, accessFlags := 0, code := none }
def k9c1 : Code := { maxStack := 2, maxLocals := 2, code := jdk_43_method_2_code, exceptionTable := #[], attributes := #[] }
def k9m1 : Method := { name := "charAt", desc := "([BI)C", sig := { parameters := [(.array .byte), .int], returnType := some .char }, accessFlags := 9, code := some k9c1 }
def k9c2 : Code := { maxStack := 3, maxLocals := 3, code := jdk_43_method_13_code, exceptionTable := #[], attributes := #[] }
def k9m2 : Method := { name := "equals", desc := "([B[B)Z", sig := { parameters := [(.array .byte), (.array .byte)], returnType := some .boolean }, accessFlags := 9, code := some k9c2 }
/-- java/lang/StringLatin1 -/
def k9 : Class := { plain "java/lang/StringLatin1" (some 0) with
  accessFlags := 48
  interfaces := #[]
  cf := some (fileOf pool9 14 #[.nestMembers #[390, 221]] #[{ accessFlags := 0, nameIndex := 7, descriptorIndex := 8, attributes := #[] }, { accessFlags := 9, nameIndex := 252, descriptorIndex := 53, attributes := #[] }, { accessFlags := 9, nameIndex := 281, descriptorIndex := 282, attributes := #[] }] 48 4 #[] #[{ accessFlags := 4120, nameIndex := 121, descriptorIndex := 122, attributes := #[] }])
  fields := #[{ name := "$assertionsDisabled", type := .boolean, accessFlags := 4120, slot := 0, constantValue := 0 }]
  methods := #[k9m0, k9m1, k9m2]
  instanceTypes := #[]
  staticTypes := #[.boolean]
  resolved := Array.replicate 395 none
  statics := none }

def pool10 : Array CpInfo := pool [(2, .class_ 4), (1, u "java/lang/Object"), (0, u "<init>"), (0, u "()V"), (0, .class_ 8), (0, u "java/lang/String"), (1, .class_ 12), (1, u "com/example/clearbid/clearbid/format/InternedStrings"), (0, u "table"), (0, u "[Ljava/lang/String;"), (5, u "overflow"), (0, u "Ljava/util/Map;"), (17, .methodref 7 40), (0, .nameAndType 41 42), (0, u "length"), (0, u "()I"), (0, .methodref 7 44), (0, .nameAndType 45 46), (0, u "charAt"), (0, u "(I)C"), (6, u "holds"), (0, u "(Ljava/lang/String;[CI)Z"), (6, u "size"), (0, u "I"), (6, u "PROBE_LIMIT")] 12

def k10m0 : Method := { name := "<init>", desc := "()V", sig := { parameters := [], returnType := none }, accessFlags := 0, code := none }
def k10c1 : Code := { maxStack := 3, maxLocals := 5, code := prog_1_method_3_code, exceptionTable := #[], attributes := #[] }
def k10m1 : Method := { name := "holds", desc := "(Ljava/lang/String;[CI)Z", sig := { parameters := [(.object "java/lang/String"), (.array .char), .int], returnType := some .boolean }, accessFlags := 8, code := some k10c1 }
/-- com/example/clearbid/clearbid/format/InternedStrings -/
def k10 : Class := { plain "com/example/clearbid/clearbid/format/InternedStrings" (some 0) with
  accessFlags := 48
  interfaces := #[]
  cf := some (fileOf pool10 10 #[] #[{ accessFlags := 0, nameIndex := 5, descriptorIndex := 6, attributes := #[] }, { accessFlags := 8, nameIndex := 53, descriptorIndex := 54, attributes := #[] }] 48 2 #[] #[{ accessFlags := 26, nameIndex := 69, descriptorIndex := 62, attributes := #[] }, { accessFlags := 2, nameIndex := 13, descriptorIndex := 14, attributes := #[] }, { accessFlags := 2, nameIndex := 61, descriptorIndex := 62, attributes := #[] }, { accessFlags := 18, nameIndex := 20, descriptorIndex := 21, attributes := #[] }])
  fields := #[{ name := "PROBE_LIMIT", type := .int, accessFlags := 26, slot := 0, constantValue := 0 }, { name := "table", type := (.array (.object "java/lang/String")), accessFlags := 2, slot := 0, constantValue := 0 }, { name := "size", type := .int, accessFlags := 2, slot := 1, constantValue := 0 }, { name := "overflow", type := (.object "java/util/Map"), accessFlags := 18, slot := 2, constantValue := 0 }]
  methods := #[k10m0, k10m1]
  instanceTypes := #[(.array (.object "java/lang/String")), .int, (.object "java/util/Map")]
  staticTypes := #[.int]
  resolved := Array.replicate 82 none
  statics := none }

def pool11 : Array CpInfo := pool [(2, .class_ 4), (1, u "java/lang/Object"), (0, u "<init>"), (0, u "()V"), (17, .class_ 26), (1, u "jdk/internal/util/Preconditions"), (6, u "checkIndex"), (21, .class_ 56), (0, u "jdk/internal/util/Preconditions$4"), (57, .class_ 115), (0, u "jdk/internal/util/Preconditions$1"), (7, u "SIOOBE_FORMATTER"), (0, u "Ljava/util/function/BiFunction;"), (0, .class_ 126), (0, u "jdk/internal/util/Preconditions$2"), (3, u "AIOOBE_FORMATTER"), (0, .class_ 132), (0, u "jdk/internal/util/Preconditions$3"), (3, u "IOOBE_FORMATTER"), (41, u "(IILjava/util/function/BiFunction;)I")] 15

def k11m0 : Method := { name := "<init>", desc := "()V", sig := { parameters := [], returnType := none }, accessFlags := 1, code := none }
def k11c1 : Code := { maxStack := 3, maxLocals := 3, code := jdk_41_method_11_code, exceptionTable := #[], attributes := #[] }
def k11m1 : Method := { name := "checkIndex", desc := "(IILjava/util/function/BiFunction;)I", sig := { parameters := [.int, .int, (.object "java/util/function/BiFunction")], returnType := some .int }, accessFlags := 9, code := some k11c1 }
/-- jdk/internal/util/Preconditions -/
def k11 : Class := { plain "jdk/internal/util/Preconditions" (some 0) with
  accessFlags := 33
  interfaces := #[]
  cf := some (fileOf pool11 24 #[.nestMembers #[55, 131, 125, 114]] #[{ accessFlags := 1, nameIndex := 5, descriptorIndex := 6, attributes := #[] }, { accessFlags := 9, nameIndex := 33, descriptorIndex := 178, attributes := #[] }] 33 2 #[] #[{ accessFlags := 25, nameIndex := 123, descriptorIndex := 124, attributes := #[] }, { accessFlags := 25, nameIndex := 130, descriptorIndex := 124, attributes := #[] }, { accessFlags := 25, nameIndex := 136, descriptorIndex := 124, attributes := #[] }])
  fields := #[{ name := "SIOOBE_FORMATTER", type := (.object "java/util/function/BiFunction"), accessFlags := 25, slot := 0, constantValue := 0 }, { name := "AIOOBE_FORMATTER", type := (.object "java/util/function/BiFunction"), accessFlags := 25, slot := 1, constantValue := 0 }, { name := "IOOBE_FORMATTER", type := (.object "java/util/function/BiFunction"), accessFlags := 25, slot := 2, constantValue := 0 }]
  methods := #[k11m0, k11m1]
  instanceTypes := #[]
  staticTypes := #[(.object "java/util/function/BiFunction"), (.object "java/util/function/BiFunction"), (.object "java/util/function/BiFunction")]
  resolved := Array.replicate 194 none
  statics := some 2 }

def pool12 : Array CpInfo := pool [(9, u "<init>"), (6, .class_ 18), (1, u "java/lang/Object"), (0, u "()V"), (1, .class_ 23), (1, u "jdk/internal/util/ArraysSupport"), (0, u "LOG2_ARRAY_LONG_INDEX_SCALE"), (0, u "I"), (2, u "U"), (0, u "Ljdk/internal/misc/Unsafe;"), (8, u "BIG_ENDIAN"), (0, u "Z"), (8, u "LOG2_BYTE_BIT_SIZE"), (4, u "LOG2_ARRAY_INT_INDEX_SCALE"), (54, u "JLA"), (0, u "Ljdk/internal/access/JavaLangAccess;"), (11, u "LOG2_ARRAY_BOOLEAN_INDEX_SCALE"), (9, u "LOG2_ARRAY_BYTE_INDEX_SCALE"), (5, u "LOG2_ARRAY_CHAR_INDEX_SCALE"), (5, u "LOG2_ARRAY_SHORT_INDEX_SCALE"), (18, u "LOG2_ARRAY_FLOAT_INDEX_SCALE"), (24, u "LOG2_ARRAY_DOUBLE_INDEX_SCALE"), (89, u "T_BOOLEAN"), (2, u "T_CHAR"), (1, u "T_FLOAT"), (1, u "T_DOUBLE"), (1, u "T_BYTE"), (1, u "T_SHORT"), (1, u "T_INT"), (1, u "T_LONG"), (1, u "SOFT_MAX_ARRAY_LENGTH")] 83

def k12m0 : Method := { name := "<init>", desc := "()V", sig := { parameters := [], returnType := none }, accessFlags := 2, code := none }
/-- jdk/internal/util/ArraysSupport -/
def k12 : Class := { plain "jdk/internal/util/ArraysSupport" (some 0) with
  accessFlags := 33
  interfaces := #[]
  cf := some (fileOf pool12 21 #[] #[{ accessFlags := 2, nameIndex := 9, descriptorIndex := 19, attributes := #[] }] 33 16 #[] #[{ accessFlags := 24, nameIndex := 28, descriptorIndex := 29, attributes := #[] }, { accessFlags := 26, nameIndex := 38, descriptorIndex := 39, attributes := #[] }, { accessFlags := 25, nameIndex := 121, descriptorIndex := 25, attributes := #[] }, { accessFlags := 25, nameIndex := 131, descriptorIndex := 25, attributes := #[] }, { accessFlags := 25, nameIndex := 137, descriptorIndex := 25, attributes := #[] }, { accessFlags := 25, nameIndex := 143, descriptorIndex := 25, attributes := #[] }, { accessFlags := 25, nameIndex := 53, descriptorIndex := 25, attributes := #[] }, { accessFlags := 25, nameIndex := 24, descriptorIndex := 25, attributes := #[] }, { accessFlags := 25, nameIndex := 162, descriptorIndex := 25, attributes := #[] }, { accessFlags := 25, nameIndex := 187, descriptorIndex := 25, attributes := #[] }, { accessFlags := 26, nameIndex := 48, descriptorIndex := 25, attributes := #[] }, { accessFlags := 25, nameIndex := 277, descriptorIndex := 25, attributes := #[] }, { accessFlags := 25, nameIndex := 280, descriptorIndex := 25, attributes := #[] }, { accessFlags := 25, nameIndex := 282, descriptorIndex := 25, attributes := #[] }, { accessFlags := 25, nameIndex := 284, descriptorIndex := 25, attributes := #[] }, { accessFlags := 25, nameIndex := 286, descriptorIndex := 25, attributes := #[] }, { accessFlags := 25, nameIndex := 288, descriptorIndex := 25, attributes := #[] }, { accessFlags := 25, nameIndex := 290, descriptorIndex := 25, attributes := #[] }, { accessFlags := 25, nameIndex := 292, descriptorIndex := 25, attributes := #[] }, { accessFlags := 26, nameIndex := 108, descriptorIndex := 109, attributes := #[] }, { accessFlags := 25, nameIndex := 294, descriptorIndex := 25, attributes := #[] }])
  fields := #[{ name := "U", type := (.object "jdk/internal/misc/Unsafe"), accessFlags := 24, slot := 0, constantValue := 0 }, { name := "BIG_ENDIAN", type := .boolean, accessFlags := 26, slot := 1, constantValue := 0 }, { name := "LOG2_ARRAY_BOOLEAN_INDEX_SCALE", type := .int, accessFlags := 25, slot := 2, constantValue := 0 }, { name := "LOG2_ARRAY_BYTE_INDEX_SCALE", type := .int, accessFlags := 25, slot := 3, constantValue := 0 }, { name := "LOG2_ARRAY_CHAR_INDEX_SCALE", type := .int, accessFlags := 25, slot := 4, constantValue := 0 }, { name := "LOG2_ARRAY_SHORT_INDEX_SCALE", type := .int, accessFlags := 25, slot := 5, constantValue := 0 }, { name := "LOG2_ARRAY_INT_INDEX_SCALE", type := .int, accessFlags := 25, slot := 6, constantValue := 0 }, { name := "LOG2_ARRAY_LONG_INDEX_SCALE", type := .int, accessFlags := 25, slot := 7, constantValue := 0 }, { name := "LOG2_ARRAY_FLOAT_INDEX_SCALE", type := .int, accessFlags := 25, slot := 8, constantValue := 0 }, { name := "LOG2_ARRAY_DOUBLE_INDEX_SCALE", type := .int, accessFlags := 25, slot := 9, constantValue := 0 }, { name := "LOG2_BYTE_BIT_SIZE", type := .int, accessFlags := 26, slot := 10, constantValue := 0 }, { name := "T_BOOLEAN", type := .int, accessFlags := 25, slot := 11, constantValue := 0 }, { name := "T_CHAR", type := .int, accessFlags := 25, slot := 12, constantValue := 0 }, { name := "T_FLOAT", type := .int, accessFlags := 25, slot := 13, constantValue := 0 }, { name := "T_DOUBLE", type := .int, accessFlags := 25, slot := 14, constantValue := 0 }, { name := "T_BYTE", type := .int, accessFlags := 25, slot := 15, constantValue := 0 }, { name := "T_SHORT", type := .int, accessFlags := 25, slot := 16, constantValue := 0 }, { name := "T_INT", type := .int, accessFlags := 25, slot := 17, constantValue := 0 }, { name := "T_LONG", type := .int, accessFlags := 25, slot := 18, constantValue := 0 }, { name := "JLA", type := (.object "jdk/internal/access/JavaLangAccess"), accessFlags := 26, slot := 19, constantValue := 0 }, { name := "SOFT_MAX_ARRAY_LENGTH", type := .int, accessFlags := 25, slot := 20, constantValue := 0 }]
  methods := #[k12m0]
  instanceTypes := #[]
  staticTypes := #[(.object "jdk/internal/misc/Unsafe"), .boolean, .int, .int, .int, .int, .int, .int, .int, .int, .int, .int, .int, .int, .int, .int, .int, .int, .int, (.object "jdk/internal/access/JavaLangAccess"), .int]
  resolved := Array.replicate 378 none
  statics := none }

def pool13 : Array CpInfo := pool [(1, u "java/lang/Cloneable"), (0, .class_ 1), (0, u "java/lang/Object"), (0, .class_ 3)] 3

/-- java/lang/Cloneable -/
def k13 : Class := { plain "java/lang/Cloneable" (some 0) with
  accessFlags := 1537
  interfaces := #[]
  cf := some (fileOf pool13 2 #[] #[] 1537 4 #[] #[])
  fields := #[]
  methods := #[]
  instanceTypes := #[]
  staticTypes := #[]
  resolved := Array.replicate 8 none
  statics := none }

/-- the primitive byte -/
def k14 : Class := { plain "byte" none with kind := .primitive 'B', accessFlags := 0x411 }
/-- [B -/
def k15 : Class := { plain "[B" (some 0) with kind := .array 14 .byte, interfaces := #[13, 2], accessFlags := 1041 }

/-- the primitive char -/
def k16 : Class := { plain "char" none with kind := .primitive 'C', accessFlags := 0x411 }
/-- [C -/
def k17 : Class := { plain "[C" (some 0) with kind := .array 16 .char, interfaces := #[13, 2], accessFlags := 1041 }

/-- the primitive int -/
def k18 : Class := { plain "int" none with kind := .primitive 'I', accessFlags := 0x411 }
/-- [I -/
def k19 : Class := { plain "[I" (some 0) with kind := .array 18 .int, interfaces := #[13, 2], accessFlags := 1041 }

def heap : Heap := #[{ cls := 7, slots := #[.long 0, .int 1, .null, .int 0, .null, .int 0, .int 0], vm := .statics 7 },
  { cls := 8, slots := #[.int 0, .int 8, .int 0, .int 1], vm := .statics 8 },
  { cls := 11, slots := #[.null, .null, .null], vm := .statics 11 }]
def classes : Array Class := #[k0, k1, k2, k3, k4, k5, k6, k7, k8, k9, k10, k11, k12, k13, k14, k15, k16, k17, k18, k19]
def interned : List (Array UInt16 × Addr) := []
def slotsUsed : Nat := 14
def theMethod : MethodId := ⟨1, 2⟩
def args0 : Array Value := #[.int 5, .int 6, .int 7, .int 8, .int 9, .int 10]
def aboutOver (below : List Frame) : State where
  vm := { classes := classes, interned := interned.toArray }
  heap := heap
  slotsUsed := slotsUsed
  threads := #[{ frames := .invoking theMethod args0 :: below }]
def below0 : List Frame := [.native { method := ⟨0, 0⟩, args := #[] }]
def about1 : State := aboutOver below0
def p0 : Program := .bare "" "" ""
def e0 : Env := launch0.env 0 0 0
theorem w_frames : about1.frames = Frame.invoking theMethod args0 :: below0 := rfl
set_option maxRecDepth 65536 in
theorem w_args : argsFit about1.vm theMethod args0 = true := by decide +kernel
set_option maxRecDepth 65536 in
theorem w_heap : heapFits about1 = true := by decide +kernel
set_option maxRecDepth 65536 in
theorem w_runnable : about1.curStatus? = some .runnable := by decide +kernel
set_option maxRecDepth 65536 in
theorem w_alone : about1.alone = true := by decide +kernel
set_option maxRecDepth 65536 in
theorem w_named : about1.methodNamed? x = some theMethod := by decide +kernel
set_option maxRecDepth 65536 in
theorem w_hears : about1.hears theMethod below0 = true := by decide +kernel
set_option maxRecDepth 65536 in
theorem w_ripe : about1.ripe theMethod args0 below0 = true := by decide +kernel
theorem w_running : about1.status = .running := rfl
set_option maxRecDepth 65536 in
theorem w_room : about1.hasRoom e0.platform room_1 = true :=
  launch0.hasRoom_least _ room_1 (by decide +kernel) (by decide +kernel) (by decide +kernel) (by decide +kernel) (by decide +kernel) (by decide +kernel)
theorem allAtoms_all (ts : List Jvm.Cond) (a : Array Jvm.Value) (st : Jvm.State) : (allAtoms ts).before a st = ts.all (fun c => c.before a st) := by
  induction ts with
  | nil => rfl
  | cons c t ih =>
    show (Jvm.Cond.and c (allAtoms t)).before a st = _
    rw [Jvm.Cond.before_and, ih, List.all_cons]
def words1 : List Jvm.Cond := Jvm.Cond.code x code maxLocals ret :: tables_1
/-- a 'code' word, met by the world's own term for the bytes: nothing is compared byte by byte -/
theorem code_word {y : MethodName} {bytes : ByteArray} {mx : Nat} {rt : Option FieldType} {a : Array Value} {s : State} {m : MethodId} {meth : Method} {c : Code} (h1 : s.methodNamed? y = some m) (h2 : s.vm.method? m = some meth) (h3 : meth.code = some c) (h4 : c.code = bytes)
    (h5 : (c.maxLocals == mx && c.exceptionTable.isEmpty && decide (c.maxStack ≤ mostOperands) && decide (meth.sig.returnType = rt) && !meth.locks && decide (parseMethodDescriptor y.desc = some meth.sig)) = true) : (Jvm.Cond.code y bytes mx rt).before a s = true := by
  simp only [Bool.and_eq_true, beq_iff_eq, Bool.not_eq_true', decide_eq_true_eq] at h5
  obtain ⟨⟨⟨⟨⟨g1, g2⟩, g3⟩, g4⟩, g5⟩, g6⟩ := h5
  simp [Cond.before, Cond.holds, Cond.value, h1, h2, h3, h4, g1, g2, g3, g4, g5, g6]
def isCode : Jvm.Cond → Bool
  | .code _ _ _ _ => true
  | _ => false
theorem all_split {L : List Jvm.Cond} {P : Jvm.Cond → Bool} (h1 : L.all (fun c => isCode c || P c) = true) (h2 : ∀ c ∈ L.filter isCode, P c = true) : L.all P = true := by
  refine List.all_eq_true.mpr fun c hc => ?_
  have h := List.all_eq_true.mp h1 c hc
  rcases Bool.eq_false_or_eq_true (isCode c) with hi | hi
  · exact h2 c (List.mem_filter.mpr ⟨hc, hi⟩)
  · simpa [hi] using h
set_option maxRecDepth 65536 in
theorem w_c0 : (Jvm.Cond.code x code maxLocals ret).before args0 about1 = true := code_word (m := ⟨1, 2⟩) (meth := k1m2) (c := k1c2) (by decide +kernel) rfl rfl rfl (by decide +kernel)
set_option maxRecDepth 65536 in
theorem w_c1 : (Jvm.Cond.code ({ cls := "com/example/clearbid/clearbid/format/InternedStringsHoldsPinLaw", name := "text", desc := "(ICCC)Ljava/lang/String;" } : Jvm.MethodName) method_2_code (4 : Nat) (Option.some (Jvm.ClassFile.FieldType.object "java/lang/String"))).before args0 about1 = true := code_word (m := ⟨1, 1⟩) (meth := k1m1) (c := k1c1) (by decide +kernel) rfl rfl rfl (by decide +kernel)
set_option maxRecDepth 65536 in
theorem w_c2 : (Jvm.Cond.code ({ cls := "java/lang/String", name := "<init>", desc := "([C)V" } : Jvm.MethodName) jdk_42_method_3_code (2 : Nat) (Option.none : Option Jvm.ClassFile.FieldType)).before args0 about1 = true := code_word (m := ⟨7, 1⟩) (meth := k7m1) (c := k7c1) (by decide +kernel) rfl rfl rfl (by decide +kernel)
set_option maxRecDepth 65536 in
theorem w_c3 : (Jvm.Cond.code ({ cls := "java/lang/String", name := "<init>", desc := "([CIILjava/lang/Void;)V" } : Jvm.MethodName) jdk_42_method_149_code (6 : Nat) (Option.none : Option Jvm.ClassFile.FieldType)).before args0 about1 = true := code_word (m := ⟨7, 5⟩) (meth := k7m5) (c := k7c5) (by decide +kernel) rfl rfl rfl (by decide +kernel)
set_option maxRecDepth 65536 in
theorem w_c4 : (Jvm.Cond.code ({ cls := "java/lang/Object", name := "<init>", desc := "()V" } : Jvm.MethodName) object_method_1_code (1 : Nat) (Option.none : Option Jvm.ClassFile.FieldType)).before args0 about1 = true := code_word (m := ⟨0, 0⟩) (meth := k0m0) (c := k0c0) (by decide +kernel) rfl rfl rfl (by decide +kernel)
set_option maxRecDepth 65536 in
theorem w_c5 : (Jvm.Cond.code ({ cls := "java/lang/StringUTF16", name := "compress", desc := "([CII)[B" } : Jvm.MethodName) jdk_52_method_16_code (6 : Nat) (Option.some (Jvm.ClassFile.FieldType.array Jvm.ClassFile.FieldType.byte))).before args0 about1 = true := code_word (m := ⟨8, 8⟩) (meth := k8m8) (c := k8c8) (by decide +kernel) rfl rfl rfl (by decide +kernel)
set_option maxRecDepth 65536 in
theorem w_c6 : (Jvm.Cond.code ({ cls := "java/lang/StringUTF16", name := "compress", desc := "([CI[BII)I" } : Jvm.MethodName) jdk_52_method_21_code (7 : Nat) (Option.some Jvm.ClassFile.FieldType.int)).before args0 about1 = true := code_word (m := ⟨8, 9⟩) (meth := k8m9) (c := k8c9) (by decide +kernel) rfl rfl rfl (by decide +kernel)
set_option maxRecDepth 65536 in
theorem w_c7 : (Jvm.Cond.code ({ cls := "java/lang/StringUTF16", name := "coderFromArrayLen", desc := "([BI)B" } : Jvm.MethodName) jdk_52_method_15_code (2 : Nat) (Option.some Jvm.ClassFile.FieldType.byte)).before args0 about1 = true := code_word (m := ⟨8, 7⟩) (meth := k8m7) (c := k8c7) (by decide +kernel) rfl rfl rfl (by decide +kernel)
set_option maxRecDepth 65536 in
theorem w_c8 : (Jvm.Cond.code ({ cls := "java/lang/String", name := "equals", desc := "(Ljava/lang/Object;)Z" } : Jvm.MethodName) jdk_42_method_66_code (3 : Nat) (Option.some Jvm.ClassFile.FieldType.boolean)).before args0 about1 = true := code_word (m := ⟨7, 4⟩) (meth := k7m4) (c := k7c4) (by decide +kernel) rfl rfl rfl (by decide +kernel)
set_option maxRecDepth 65536 in
theorem w_c9 : (Jvm.Cond.code ({ cls := "java/lang/StringLatin1", name := "equals", desc := "([B[B)Z" } : Jvm.MethodName) jdk_43_method_13_code (3 : Nat) (Option.some Jvm.ClassFile.FieldType.boolean)).before args0 about1 = true := code_word (m := ⟨9, 2⟩) (meth := k9m2) (c := k9c2) (by decide +kernel) rfl rfl rfl (by decide +kernel)
set_option maxRecDepth 65536 in
theorem w_c10 : (Jvm.Cond.code ({ cls := "com/example/clearbid/clearbid/format/InternedStrings", name := "holds", desc := "(Ljava/lang/String;[CI)Z" } : Jvm.MethodName) prog_1_method_3_code (5 : Nat) (Option.some Jvm.ClassFile.FieldType.boolean)).before args0 about1 = true := code_word (m := ⟨10, 1⟩) (meth := k10m1) (c := k10c1) (by decide +kernel) rfl rfl rfl (by decide +kernel)
set_option maxRecDepth 65536 in
theorem w_c11 : (Jvm.Cond.code ({ cls := "java/lang/String", name := "length", desc := "()I" } : Jvm.MethodName) jdk_42_method_54_code (1 : Nat) (Option.some Jvm.ClassFile.FieldType.int)).before args0 about1 = true := code_word (m := ⟨7, 2⟩) (meth := k7m2) (c := k7c2) (by decide +kernel) rfl rfl rfl (by decide +kernel)
set_option maxRecDepth 65536 in
theorem w_c12 : (Jvm.Cond.code ({ cls := "java/lang/String", name := "coder", desc := "()B" } : Jvm.MethodName) jdk_42_method_152_code (1 : Nat) (Option.some Jvm.ClassFile.FieldType.byte)).before args0 about1 = true := code_word (m := ⟨7, 6⟩) (meth := k7m6) (c := k7c6) (by decide +kernel) rfl rfl rfl (by decide +kernel)
set_option maxRecDepth 65536 in
theorem w_c13 : (Jvm.Cond.code ({ cls := "java/lang/String", name := "charAt", desc := "(I)C" } : Jvm.MethodName) jdk_42_method_56_code (2 : Nat) (Option.some Jvm.ClassFile.FieldType.char)).before args0 about1 = true := code_word (m := ⟨7, 3⟩) (meth := k7m3) (c := k7c3) (by decide +kernel) rfl rfl rfl (by decide +kernel)
set_option maxRecDepth 65536 in
theorem w_c14 : (Jvm.Cond.code ({ cls := "java/lang/String", name := "isLatin1", desc := "()Z" } : Jvm.MethodName) jdk_42_method_154_code (1 : Nat) (Option.some Jvm.ClassFile.FieldType.boolean)).before args0 about1 = true := code_word (m := ⟨7, 7⟩) (meth := k7m7) (c := k7c7) (by decide +kernel) rfl rfl rfl (by decide +kernel)
set_option maxRecDepth 65536 in
theorem w_c15 : (Jvm.Cond.code ({ cls := "java/lang/StringLatin1", name := "charAt", desc := "([BI)C" } : Jvm.MethodName) jdk_43_method_2_code (2 : Nat) (Option.some Jvm.ClassFile.FieldType.char)).before args0 about1 = true := code_word (m := ⟨9, 1⟩) (meth := k9m1) (c := k9c1) (by decide +kernel) rfl rfl rfl (by decide +kernel)
set_option maxRecDepth 65536 in
theorem w_c16 : (Jvm.Cond.code ({ cls := "java/lang/String", name := "checkIndex", desc := "(II)V" } : Jvm.MethodName) jdk_42_method_155_code (2 : Nat) (Option.none : Option Jvm.ClassFile.FieldType)).before args0 about1 = true := code_word (m := ⟨7, 8⟩) (meth := k7m8) (c := k7c8) (by decide +kernel) rfl rfl rfl (by decide +kernel)
set_option maxRecDepth 65536 in
theorem w_c17 : (Jvm.Cond.code ({ cls := "jdk/internal/util/Preconditions", name := "checkIndex", desc := "(IILjava/util/function/BiFunction;)I" } : Jvm.MethodName) jdk_41_method_11_code (3 : Nat) (Option.some Jvm.ClassFile.FieldType.int)).before args0 about1 = true := code_word (m := ⟨11, 1⟩) (meth := k11m1) (c := k11c1) (by decide +kernel) rfl rfl rfl (by decide +kernel)
set_option maxRecDepth 65536 in
theorem w_c18 : (Jvm.Cond.code ({ cls := "java/lang/StringUTF16", name := "toBytes", desc := "([CII)[B" } : Jvm.MethodName) jdk_52_method_14_code (5 : Nat) (Option.some (Jvm.ClassFile.FieldType.array Jvm.ClassFile.FieldType.byte))).before args0 about1 = true := code_word (m := ⟨8, 6⟩) (meth := k8m6) (c := k8c6) (by decide +kernel) rfl rfl rfl (by decide +kernel)
set_option maxRecDepth 65536 in
theorem w_c19 : (Jvm.Cond.code ({ cls := "java/lang/StringUTF16", name := "newBytesFor", desc := "(I)[B" } : Jvm.MethodName) jdk_52_method_2_code (1 : Nat) (Option.some (Jvm.ClassFile.FieldType.array Jvm.ClassFile.FieldType.byte))).before args0 about1 = true := code_word (m := ⟨8, 1⟩) (meth := k8m1) (c := k8c1) (by decide +kernel) rfl rfl rfl (by decide +kernel)
set_option maxRecDepth 65536 in
theorem w_c20 : (Jvm.Cond.code ({ cls := "java/lang/StringUTF16", name := "newBytesLength", desc := "(I)I" } : Jvm.MethodName) jdk_52_method_3_code (1 : Nat) (Option.some Jvm.ClassFile.FieldType.int)).before args0 about1 = true := code_word (m := ⟨8, 2⟩) (meth := k8m2) (c := k8c2) (by decide +kernel) rfl rfl rfl (by decide +kernel)
set_option maxRecDepth 65536 in
theorem w_c21 : (Jvm.Cond.code ({ cls := "java/lang/StringUTF16", name := "putChar", desc := "([BII)V" } : Jvm.MethodName) jdk_52_method_4_code (3 : Nat) (Option.none : Option Jvm.ClassFile.FieldType)).before args0 about1 = true := code_word (m := ⟨8, 3⟩) (meth := k8m3) (c := k8c3) (by decide +kernel) rfl rfl rfl (by decide +kernel)
set_option maxRecDepth 65536 in
theorem w_c22 : (Jvm.Cond.code ({ cls := "java/lang/StringUTF16", name := "getChar", desc := "([BI)C" } : Jvm.MethodName) jdk_52_method_5_code (2 : Nat) (Option.some Jvm.ClassFile.FieldType.char)).before args0 about1 = true := code_word (m := ⟨8, 4⟩) (meth := k8m4) (c := k8c4) (by decide +kernel) rfl rfl rfl (by decide +kernel)
set_option maxRecDepth 65536 in
theorem w_c23 : (Jvm.Cond.code ({ cls := "java/lang/StringUTF16", name := "charAt", desc := "([BI)C" } : Jvm.MethodName) jdk_52_method_83_code (2 : Nat) (Option.some Jvm.ClassFile.FieldType.char)).before args0 about1 = true := code_word (m := ⟨8, 10⟩) (meth := k8m10) (c := k8c10) (by decide +kernel) rfl rfl rfl (by decide +kernel)
set_option maxRecDepth 65536 in
theorem w_c24 : (Jvm.Cond.code ({ cls := "java/lang/StringUTF16", name := "checkIndex", desc := "(I[B)V" } : Jvm.MethodName) jdk_52_method_91_code (2 : Nat) (Option.none : Option Jvm.ClassFile.FieldType)).before args0 about1 = true := code_word (m := ⟨8, 11⟩) (meth := k8m11) (c := k8c11) (by decide +kernel) rfl rfl rfl (by decide +kernel)
set_option maxRecDepth 65536 in
theorem w_c25 : (Jvm.Cond.code ({ cls := "java/lang/StringUTF16", name := "length", desc := "([B)I" } : Jvm.MethodName) jdk_52_method_6_code (1 : Nat) (Option.some Jvm.ClassFile.FieldType.int)).before args0 about1 = true := code_word (m := ⟨8, 5⟩) (meth := k8m5) (c := k8c5) (by decide +kernel) rfl rfl rfl (by decide +kernel)
def codes1 : List Jvm.Cond := [Jvm.Cond.code x code maxLocals ret, Jvm.Cond.code ({ cls := "com/example/clearbid/clearbid/format/InternedStringsHoldsPinLaw", name := "text", desc := "(ICCC)Ljava/lang/String;" } : Jvm.MethodName) method_2_code (4 : Nat) (Option.some (Jvm.ClassFile.FieldType.object "java/lang/String")), Jvm.Cond.code ({ cls := "java/lang/String", name := "<init>", desc := "([C)V" } : Jvm.MethodName) jdk_42_method_3_code (2 : Nat) (Option.none : Option Jvm.ClassFile.FieldType), Jvm.Cond.code ({ cls := "java/lang/String", name := "<init>", desc := "([CIILjava/lang/Void;)V" } : Jvm.MethodName) jdk_42_method_149_code (6 : Nat) (Option.none : Option Jvm.ClassFile.FieldType), Jvm.Cond.code ({ cls := "java/lang/Object", name := "<init>", desc := "()V" } : Jvm.MethodName) object_method_1_code (1 : Nat) (Option.none : Option Jvm.ClassFile.FieldType), Jvm.Cond.code ({ cls := "java/lang/StringUTF16", name := "compress", desc := "([CII)[B" } : Jvm.MethodName) jdk_52_method_16_code (6 : Nat) (Option.some (Jvm.ClassFile.FieldType.array Jvm.ClassFile.FieldType.byte)), Jvm.Cond.code ({ cls := "java/lang/StringUTF16", name := "compress", desc := "([CI[BII)I" } : Jvm.MethodName) jdk_52_method_21_code (7 : Nat) (Option.some Jvm.ClassFile.FieldType.int), Jvm.Cond.code ({ cls := "java/lang/StringUTF16", name := "coderFromArrayLen", desc := "([BI)B" } : Jvm.MethodName) jdk_52_method_15_code (2 : Nat) (Option.some Jvm.ClassFile.FieldType.byte), Jvm.Cond.code ({ cls := "java/lang/String", name := "equals", desc := "(Ljava/lang/Object;)Z" } : Jvm.MethodName) jdk_42_method_66_code (3 : Nat) (Option.some Jvm.ClassFile.FieldType.boolean), Jvm.Cond.code ({ cls := "java/lang/StringLatin1", name := "equals", desc := "([B[B)Z" } : Jvm.MethodName) jdk_43_method_13_code (3 : Nat) (Option.some Jvm.ClassFile.FieldType.boolean), Jvm.Cond.code ({ cls := "com/example/clearbid/clearbid/format/InternedStrings", name := "holds", desc := "(Ljava/lang/String;[CI)Z" } : Jvm.MethodName) prog_1_method_3_code (5 : Nat) (Option.some Jvm.ClassFile.FieldType.boolean), Jvm.Cond.code ({ cls := "java/lang/String", name := "length", desc := "()I" } : Jvm.MethodName) jdk_42_method_54_code (1 : Nat) (Option.some Jvm.ClassFile.FieldType.int), Jvm.Cond.code ({ cls := "java/lang/String", name := "coder", desc := "()B" } : Jvm.MethodName) jdk_42_method_152_code (1 : Nat) (Option.some Jvm.ClassFile.FieldType.byte), Jvm.Cond.code ({ cls := "java/lang/String", name := "charAt", desc := "(I)C" } : Jvm.MethodName) jdk_42_method_56_code (2 : Nat) (Option.some Jvm.ClassFile.FieldType.char), Jvm.Cond.code ({ cls := "java/lang/String", name := "isLatin1", desc := "()Z" } : Jvm.MethodName) jdk_42_method_154_code (1 : Nat) (Option.some Jvm.ClassFile.FieldType.boolean), Jvm.Cond.code ({ cls := "java/lang/StringLatin1", name := "charAt", desc := "([BI)C" } : Jvm.MethodName) jdk_43_method_2_code (2 : Nat) (Option.some Jvm.ClassFile.FieldType.char), Jvm.Cond.code ({ cls := "java/lang/String", name := "checkIndex", desc := "(II)V" } : Jvm.MethodName) jdk_42_method_155_code (2 : Nat) (Option.none : Option Jvm.ClassFile.FieldType), Jvm.Cond.code ({ cls := "jdk/internal/util/Preconditions", name := "checkIndex", desc := "(IILjava/util/function/BiFunction;)I" } : Jvm.MethodName) jdk_41_method_11_code (3 : Nat) (Option.some Jvm.ClassFile.FieldType.int), Jvm.Cond.code ({ cls := "java/lang/StringUTF16", name := "toBytes", desc := "([CII)[B" } : Jvm.MethodName) jdk_52_method_14_code (5 : Nat) (Option.some (Jvm.ClassFile.FieldType.array Jvm.ClassFile.FieldType.byte)), Jvm.Cond.code ({ cls := "java/lang/StringUTF16", name := "newBytesFor", desc := "(I)[B" } : Jvm.MethodName) jdk_52_method_2_code (1 : Nat) (Option.some (Jvm.ClassFile.FieldType.array Jvm.ClassFile.FieldType.byte)), Jvm.Cond.code ({ cls := "java/lang/StringUTF16", name := "newBytesLength", desc := "(I)I" } : Jvm.MethodName) jdk_52_method_3_code (1 : Nat) (Option.some Jvm.ClassFile.FieldType.int), Jvm.Cond.code ({ cls := "java/lang/StringUTF16", name := "putChar", desc := "([BII)V" } : Jvm.MethodName) jdk_52_method_4_code (3 : Nat) (Option.none : Option Jvm.ClassFile.FieldType), Jvm.Cond.code ({ cls := "java/lang/StringUTF16", name := "getChar", desc := "([BI)C" } : Jvm.MethodName) jdk_52_method_5_code (2 : Nat) (Option.some Jvm.ClassFile.FieldType.char), Jvm.Cond.code ({ cls := "java/lang/StringUTF16", name := "charAt", desc := "([BI)C" } : Jvm.MethodName) jdk_52_method_83_code (2 : Nat) (Option.some Jvm.ClassFile.FieldType.char), Jvm.Cond.code ({ cls := "java/lang/StringUTF16", name := "checkIndex", desc := "(I[B)V" } : Jvm.MethodName) jdk_52_method_91_code (2 : Nat) (Option.none : Option Jvm.ClassFile.FieldType), Jvm.Cond.code ({ cls := "java/lang/StringUTF16", name := "length", desc := "([B)I" } : Jvm.MethodName) jdk_52_method_6_code (1 : Nat) (Option.some Jvm.ClassFile.FieldType.int)]
set_option maxRecDepth 65536 in
theorem codes_eq : words1.filter isCode = codes1 := rfl
theorem w_codes : ∀ c ∈ words1.filter isCode, c.before args0 about1 = true := by
  rw [codes_eq]
  intro c hc
  simp only [codes1, List.mem_cons, List.not_mem_nil, or_false] at hc
  rcases hc with rfl | rfl | rfl | rfl | rfl | rfl | rfl | rfl | rfl | rfl | rfl | rfl | rfl | rfl | rfl | rfl | rfl | rfl | rfl | rfl | rfl | rfl | rfl | rfl | rfl | rfl
  · exact w_c0
  · exact w_c1
  · exact w_c2
  · exact w_c3
  · exact w_c4
  · exact w_c5
  · exact w_c6
  · exact w_c7
  · exact w_c8
  · exact w_c9
  · exact w_c10
  · exact w_c11
  · exact w_c12
  · exact w_c13
  · exact w_c14
  · exact w_c15
  · exact w_c16
  · exact w_c17
  · exact w_c18
  · exact w_c19
  · exact w_c20
  · exact w_c21
  · exact w_c22
  · exact w_c23
  · exact w_c24
  · exact w_c25
set_option maxRecDepth 65536 in
theorem w_t1 : (words1.take 24).all (fun c => isCode c || c.before args0 about1) = true := by decide +kernel
set_option maxRecDepth 65536 in
theorem w_t2 : ((words1.drop 24).take 24).all (fun c => isCode c || c.before args0 about1) = true := by decide +kernel
set_option maxRecDepth 65536 in
theorem w_t3 : (((words1.drop 24).drop 24).take 24).all (fun c => isCode c || c.before args0 about1) = true := by decide +kernel
set_option maxRecDepth 65536 in
theorem w_t4 : ((((words1.drop 24).drop 24).drop 24).take 24).all (fun c => isCode c || c.before args0 about1) = true := by decide +kernel
set_option maxRecDepth 65536 in
theorem w_t5 : ((((words1.drop 24).drop 24).drop 24).drop 24).all (fun c => isCode c || c.before args0 about1) = true := by decide +kernel
theorem w_tables : (allAtoms (Jvm.Cond.code x code maxLocals ret :: tables_1)).before args0 about1 = true := by
  rw [allAtoms_all]
  show words1.all (fun c => c.before args0 about1) = true
  refine all_split ?_ w_codes
  rw [← List.take_append_drop 24 words1, List.all_append, w_t1, ← List.take_append_drop 24 (words1.drop 24), List.all_append, w_t2, ← List.take_append_drop 24 ((words1.drop 24).drop 24), List.all_append, w_t3, ← List.take_append_drop 24 (((words1.drop 24).drop 24).drop 24), List.all_append, w_t4, w_t5]
  rfl
set_option maxRecDepth 65536 in
theorem w_rest : rest_1_c.before args0 about1 = true := by decide +kernel
set_option maxRecDepth 65536 in
theorem w_case : (Jvm.Cond.and given_1 narrow_1).before args0 about1 = true := by decide +kernel
set_option maxRecDepth 65536 in
theorem w_consts : constsHeld consts_1 about1 := Jvm.Lit.constsHeldB_iff.mp (by decide +kernel)
theorem w_applies : (headSpec (Jvm.Cond.code x code maxLocals ret :: tables_1) room_1).applies x e0.platform about1 = true :=
  (Spec.applies_iff w_frames).mpr ⟨w_running, w_runnable, w_alone, w_named, w_hears, w_ripe, w_room, w_tables⟩
theorem atStart : AtStart classFile x code maxLocals ret World_1 tables_1 room_1 Calls_1 rest_1 Pre_1 launch0 p0 e0 about1 theMethod args0 below0 :=
  ⟨lists_1, trivial, launch0.admits_env _ _ _, launch0.least_env, fairChoices_fair.cas, fairChoices_fair.clock, w_frames, w_args, w_heap, w_applies, ⟨w_consts, trivial⟩, w_rest, w_case⟩
end start1
theorem witness_1 : WitnessClaimed_1 := ⟨start1.p0, start1.e0, start1.about1, start1.theMethod, start1.args0, start1.below0, start1.atStart⟩
end Jvm.Pilot.@@N@@
