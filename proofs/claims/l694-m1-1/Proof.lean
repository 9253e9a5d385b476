import JvmDerived
import JvmDerived.Pilot.@@N@@Statement
import JvmDerived.Pilot.@@N@@Code
set_option linter.unusedVariables false
set_option linter.unusedSimpArgs false
/- laws to paste: Road.lenW, StrChars.lo8_mask, StrChars.pair_says (cut by pick.py; bodies as the Statement names them) -/
namespace Jvm.Pilot.@@N@@
namespace StrChars
open Jvm Sem ClassFile Op Lib Jvm.Stand Jvm.Free.XT Jvm.Free.ALB Jvm.Free.JM Jvm.Free
open Jvm.Lib.Cold (StaticIs)
/-- the byte that i2b leaves of a char -/
def lo8 (x : Int32) : Int32 := x.toInt8.toInt32
def U16 : String := "java/lang/StringUTF16"
namespace Cmp5
def yN : MethodName := ⟨"java/lang/StringUTF16", "compress", "([CI[BII)I"⟩
abbrev yB : ByteArray := jdk_52_method_21_code
end Cmp5
namespace Cmp3
def yN : MethodName := ⟨"java/lang/StringUTF16", "compress", "([CII)[B"⟩
abbrev yB : ByteArray := jdk_52_method_16_code
end Cmp3
namespace CodL
def yN : MethodName := ⟨"java/lang/StringUTF16", "coderFromArrayLen", "([BI)B"⟩
abbrev yB : ByteArray := jdk_52_method_15_code
end CodL
namespace New4
def yN : MethodName := ⟨"java/lang/String", "<init>", "([CIILjava/lang/Void;)V"⟩
abbrev yB : ByteArray := jdk_42_method_149_code
end New4
namespace New1
def yN : MethodName := ⟨"java/lang/String", "<init>", "([C)V"⟩
abbrev yB : ByteArray := jdk_42_method_3_code
end New1
/-- the byte, read back as charAt reads it, is the char -/
theorem lo8_mask {x : Int32} (h0 : ¬ x < 0) (h1 : ¬ 255 < x) : lo8 x &&& 255 = x := by
  have t : ∀ k : Fin 256, lo8 (Int32.ofNat k.val) &&& 255 = Int32.ofNat k.val := by decide +kernel
  rw [Int32.lt_iff_toInt_lt] at h0 h1
  have e0 : (0 : Int32).toInt = 0 := rfl
  have e1 : (255 : Int32).toInt = 255 := rfl
  obtain ⟨k, hk⟩ : ∃ k : Nat, x.toInt = k := ⟨x.toInt.toNat, by omega⟩
  have hx : x = Int32.ofNat k := Int32.toInt_inj.mp (by rw [hk, Int32.toInt_ofNat_small (by omega)])
  rw [hx]
  exact t ⟨k, by omega⟩
end StrChars
namespace StrChars.Road
open Jvm Sem ClassFile Op Lib Jvm.Stand Jvm.Free Jvm.Free.XT
open Jvm.Lib.Cold (StaticIs)
abbrev ST : String := "java/lang/String"
/-- every table word that New1's law asks, flat -/
abbrev words : List Jvm.Cond := [.code New1.yN New1.yB 2 none, .initialized ST, .methodLink ST 27 New4.yN, .instanceMethod New4.yN,
  .code New4.yN New4.yB 6 none, .fieldLink ST 38 ST "COMPACT_STRINGS" "Z", .laysFinal ST ST "value" "[B", .fieldLink ST 9 ST "value" "[B", .laysFinal ST ST "coder" "B", .fieldLink ST 15 ST "coder" "B",
  .methodLink ST 1 Lib.objectInit, .instanceMethod Lib.objectInit, .code Lib.objectInit ⟨#[0xb1]⟩ 1 none, .methodLink ST 177 Cmp3.yN, .static Cmp3.yN, .methodLink ST 47 CodL.yN, .static CodL.yN,
  .code Cmp3.yN Cmp3.yB 6 (some (.array .byte)), .initialized U16, .arrayClass .byte, .methodLink U16 115 Cmp5.yN, .static Cmp5.yN, .code Cmp5.yN Cmp5.yB 7 (some .int), .code CodL.yN CodL.yB 2 (some .byte)]
end StrChars.Road
namespace StrChars
open Jvm Sem ClassFile Op Lib Jvm.Stand Jvm.Free.XT Jvm.Free.ALB Jvm.Free.JM Jvm.Free
open Jvm.Lib.Cold (StaticIs)
def hi8 (x : Int32) : Int32 := lo8 (x >>> ((8 : Int32) &&& 31))
/-- what StringUTF16.getChar makes of two bytes -/
def pairCh (u v : Int32) : Int32 := (((u &&& 255) <<< ((0 : Int32) &&& 31)) ||| ((v &&& 255) <<< ((8 : Int32) &&& 31))).toUInt32.toUInt16.toUInt32.toInt32
theorem shr0 (c : Int32) : c >>> ((0 : Int32) &&& 31) = c := by
  have e : ((0 : Int32) &&& 31) = 0 := by decide
  rw [e]
  apply Int32.toBitVec_inj.mp
  rw [Int32.toBitVec_shiftRight]
  have e1 : ((0 : Int32).toBitVec.smod 32) = 0#32 := by decide
  rw [e1, BitVec.sshiftRight_eq']
  exact BitVec.sshiftRight_zero
theorem lo8_and (x : Int32) : (lo8 x &&& 255).toBitVec.toNat = x.toBitVec.toNat % 256 := by
  have h : (lo8 x).toBitVec = (x.toBitVec.signExtend 8).signExtend 32 := by rw [lo8, Int8.toBitVec_toInt32, Int32.toBitVec_toInt8]
  rw [Int32.toBitVec_and, BitVec.toNat_and, h]
  have e : ((x.toBitVec.signExtend 8).signExtend 32).toNat % 256 = x.toBitVec.toNat % 256 := by
    rw [BitVec.toNat_signExtend]
    have hlt := x.toBitVec.isLt
    simp only [BitVec.toNat_setWidth, BitVec.toNat_signExtend]
    split <;> split <;> omega
  rw [← e]
  exact Nat.and_two_pow_sub_one_eq_mod _ 8
theorem pair_says {c : Int32} (h0 : ¬ c < 0) (h1 : ¬ 65535 < c) : pairCh (lo8 c) (hi8 c) = c := by
  rw [Int32.lt_iff_toInt_lt] at h0 h1
  have e0 : (0 : Int32).toInt = 0 := rfl
  have e1 : (65535 : Int32).toInt = 65535 := rfl
  have hc : c.toInt = c.toBitVec.toNat := by
    have := c.toBitVec.isLt
    have e : c.toInt = c.toBitVec.toInt := rfl
    rw [e] at h0 h1
    rw [e]
    rw [BitVec.toInt_eq_toNat_cond] at h0 h1 ⊢
    split at h0 <;> split <;> omega
  have hn : c.toBitVec.toNat < 65536 := by omega
  have a1 := lo8_and c
  have a2 : (hi8 c &&& 255).toBitVec.toNat = c.toBitVec.toNat / 256 := by
    rw [hi8, lo8_and]
    have e : ((8 : Int32) &&& 31) = 8 := by decide
    rw [e, Int32.toBitVec_shiftRight]
    have e2 : ((8 : Int32).toBitVec.smod 32) = 8#32 := by decide
    rw [e2, BitVec.sshiftRight_eq', BitVec.toNat_sshiftRight_of_msb_false (by rw [BitVec.msb_eq_false_iff_two_mul_lt]; omega)]
    show c.toBitVec.toNat >>> 8 % 256 = _
    rw [Nat.shiftRight_eq_div_pow]
    omega
  unfold pairCh
  apply Int32.toBitVec_inj.mp
  apply BitVec.eq_of_toNat_eq
  have f0 : ((0 : Int32) &&& 31) = 0 := by decide
  have f8 : ((8 : Int32) &&& 31) = 8 := by decide
  rw [f0, f8]
  have g : (((lo8 c &&& 255) <<< (0 : Int32)) ||| ((hi8 c &&& 255) <<< (8 : Int32))).toBitVec.toNat = c.toBitVec.toNat := by
    rw [Int32.toBitVec_or, Int32.toBitVec_shiftLeft, Int32.toBitVec_shiftLeft]
    have s0 : ((0 : Int32).toBitVec.smod 32) = 0#32 := by decide
    have s8 : ((8 : Int32).toBitVec.smod 32) = 8#32 := by decide
    rw [s0, s8, BitVec.toNat_or]
    simp only [BitVec.shiftLeft_eq', BitVec.toNat_shiftLeft, a1, a2]
    show (c.toBitVec.toNat % 256) <<< 0 % 2 ^ 32 ||| (c.toBitVec.toNat / 256) <<< 8 % 2 ^ 32 = _
    rw [Nat.shiftLeft_zero, Nat.mod_eq_of_lt (show c.toBitVec.toNat % 256 < 2 ^ 32 by omega), Nat.mod_eq_of_lt (show (c.toBitVec.toNat / 256) <<< 8 < 2 ^ 32 by rw [Nat.shiftLeft_eq]; omega), Nat.or_comm, ← Nat.shiftLeft_add_eq_or_of_lt (by omega), Nat.shiftLeft_eq]
    omega
  show BitVec.toNat (((((lo8 c &&& 255) <<< (0 : Int32)) ||| ((hi8 c &&& 255) <<< (8 : Int32))).toBitVec.setWidth 16).setWidth 32) = _
  rw [BitVec.toNat_setWidth, BitVec.toNat_setWidth, g]
  omega
end StrChars
namespace StrChars
open Jvm Sem ClassFile Op Lib Jvm.Stand Jvm.Free.XT Jvm.Free.ALB Jvm.Free.JM Jvm.Free
open Jvm.Lib.Cold (StaticIs)
theorem shr1 {n : Nat} (h : 2 * n < 2 ^ 31) : Int32.ofNat (2 * n) >>> ((1 : Int32) &&& 31) = Int32.ofNat n := by
  have e : ((1 : Int32) &&& 31) = 1 := by decide
  rw [e]
  apply Int32.toBitVec_inj.mp
  rw [Int32.toBitVec_shiftRight]
  have e1 : ((1 : Int32).toBitVec.smod 32) = 1#32 := by decide
  have hm : (BitVec.ofNat 32 (2 * n)).toNat = 2 * n := by rw [BitVec.toNat_ofNat, Nat.mod_eq_of_lt (by omega)]
  rw [e1, BitVec.sshiftRight_eq']
  apply BitVec.eq_of_toNat_eq
  show ((BitVec.ofNat 32 (2 * n)).sshiftRight 1).toNat = (BitVec.ofNat 32 n).toNat
  rw [BitVec.toNat_sshiftRight_of_msb_false (by rw [BitVec.msb_eq_false_iff_two_mul_lt, hm]; omega), hm, BitVec.toNat_ofNat, Nat.shiftRight_eq_div_pow]
  omega
/-- the array's cell V codes the n chars f 0 .. f (n - 1) by the coder cd, as the JDK does: coder 1 just where some char is above 255 -/
def Cod (cd : Int32) (n : Nat) (f : Nat → Int32) (V : Cell) : Prop := (cd = 0 ∧ V.slots.size = n ∧ ∀ j, j < n → V.slots[j]? = some (.int (lo8 (f j))) ∧ ¬ 255 < f j) ∨ (cd = 1 ∧ V.slots.size = 2 * n ∧ (∀ j, j < n → V.slots[2 * j]? = some (.int (lo8 (f j))) ∧ V.slots[2 * j + 1]? = some (.int (hi8 (f j)))) ∧ ∃ j, j < n ∧ 255 < f j)
theorem Cod.cd {cd : Int32} {n : Nat} {f : Nat → Int32} {V : Cell} (h : Cod cd n f V) : cd = 0 ∨ cd = 1 := h.imp (fun q => q.1) fun q => q.1
theorem Cod.len {cd : Int32} {n : Nat} {f : Nat → Int32} {V : Cell} (h : Cod cd n f V) (hs : V.slots.size < 2 ^ 31) : Int32.ofNat V.slots.size >>> (cd &&& 31) = Int32.ofNat n := by
  rcases h with ⟨rfl, h, -⟩ | ⟨rfl, h, -⟩
  · rw [shr0, h]
  · rw [h, shr1 (by omega)]
/-- **x is a String of the n chars f 0 .. f (n - 1)**, Latin-1 or UTF-16; its array at t has the cell V -/
def Txt (x t : Addr) (V : Cell) (cd : Int32) (n : Nat) (f : Nat → Int32) (U : State) : Prop := Exact "java/lang/String" x U ∧ Has x "java/lang/String" "value" "[B" (.ref t) U ∧ Has x "java/lang/String" "coder" "B" (.int cd) U ∧ XT.Arr .byte t V U ∧ Cod cd n f V ∧ ∀ j, j < n → ¬ f j < 0 ∧ ¬ 65535 < f j
theorem Txt.mv {x t : Addr} {V : Cell} {cd : Int32} {n : Nat} {f : Nat → Int32} {U U' : State} (h : Txt x t V cd n f U) (hal : U.vm.Alike U'.vm) (hh : U'.heap = U.heap) : Txt x t V cd n f U' := ⟨h.1.mv hal hh, h.2.1.mv hal hh, h.2.2.1.mv hal hh, h.2.2.2.1.mv hal hh, h.2.2.2.2⟩
namespace Cdr
def yN : MethodName := ⟨"java/lang/String", "coder", "()B"⟩
abbrev yB : ByteArray := jdk_42_method_152_code
theorem d0 : decode yB 0 = .ok (.getstatic 38, 3) := by decide +kernel
theorem d3 : decode yB 3 = .ok (.ifCond (.eq) 10, 3) := by decide +kernel
theorem d6 : decode yB 6 = .ok (.aload_n 0, 1) := by decide +kernel
theorem d7 : decode yB 7 = .ok (.getfield 15, 3) := by decide +kernel
theorem d10 : decode yB 10 = .ok (.goto 4, 3) := by decide +kernel
theorem d14 : decode yB 14 = .ok (.ireturn, 1) := by decide +kernel
def site : List Cond := [.fieldLink "java/lang/String" 38 "java/lang/String" "COMPACT_STRINGS" "Z", .fieldLink "java/lang/String" 15 "java/lang/String" "coder" "B"]
def tab : Cond := tabOf yN yB 1 (some .byte) site
def P (x : Addr) (cd z : Int32) (args : Array Value) (s : State) : Prop := args = #[.ref x] ∧ Has x "java/lang/String" "coder" "B" (.int cd) s ∧ (cd = 0 ∨ cd = 1) ∧ StaticIs s "java/lang/String" "COMPACT_STRINGS" "Z" (.int z) ∧ ¬ z = 0
def E (cd : Int32) (r : Option Value) (s u : State) : Prop := XT.PureE (some (.int cd)) r s u
theorem law (l : Launch) (x : Addr) (cd z : Int32) : Law l yN 1 0 0 0 yB 1 (some .byte) site (P x cd z) (E cd) [] 0 0 := by
  refine Law.of_walk (plainFor_of_name (by decide +kernel)) (by decide +kernel) (by decide +kernel) (by decide) (fun _ _ h => by rw [h.1]; rfl) (fun _ U U' hal hh h => ⟨h.1, h.2.1.mv hal hh, h.2.2.1, h.2.2.2.1.there hal hh, h.2.2.2.2⟩) (fun r U U' V V' h1 hal h2 h => XT.PureE.mv r U U' V V' h1 hal h2 h) ?_
  intro p e s m args below meth c s₁ X0 hexec hbytes hml hret hlk hnm hown hh0 W hP
  obtain ⟨rfl, hx, hc, s1, hz⟩ := hP
  have c1 : Steps p.tables e below (s₁.setTop (entryFrame m #[.ref x] 1)) (s₁.setTop (mkF m 0 #[.val (.ref x)] [])) := entry rfl
  obtain ⟨T2, X2, q2, st2⟩ := X0.sget hexec hown (wk W (.fieldLink "java/lang/String" 38 "java/lang/String" "COMPACT_STRINGS" "Z")) s1 (fun _ _ h => by rw [hh0]; exact h) (g := (mkF m 0 #[.val (.ref x)] [])) rfl (hb hbytes d0)
  have hh2 := q2.trans hh0
  have c3 : Steps p.tables e below (s₁.setTop (entryFrame m #[.ref x] 1)) (T2.setTop (mkF m 7 #[.val (.ref x)] [.ref x])) := (c1.trans (st2 _ (Steps.refl _))).trans (by
    refine XS.ifNo X2.here hexec rfl (hb hbytes d3) rfl (i0_eq_f hz) ?_
    refine XS.aloadN X2.here hexec rfl (hb hbytes d6) rfl rfl ?_
    exact Steps.refl _)
  obtain ⟨T4, X4, q4, st4⟩ := X2.hget hexec hown (wk W (.fieldLink "java/lang/String" 15 "java/lang/String" "coder" "B")) (hx.mv X2.warmed.alike hh2) (g := (mkF m 7 #[.val (.ref x)] [.ref x])) rfl (rest := []) rfl (hb hbytes d7)
  have c5 : Steps p.tables e below (s₁.setTop (entryFrame m #[.ref x] 1)) (T4.setTop (mkF m 14 #[.val (.ref x)] [.int cd])) := (c3.trans (st4 _ (Steps.refl _))).trans (by
    refine XS.goto X4.here hexec rfl (pc0 := 10) rfl (hb hbytes d10) (by decide) rfl ?_
    exact Steps.refl _)
  exact ⟨T4, some (.int cd), _, _, _, X4, rfl, rfl, rfl, (fun h => by cases h), ⟨rfl, q4.trans hh2⟩, fun fs hl => c5.trans (X4.ireturnOut hexec hret (by rcases hc with rfl | rfl <;> rfl) (Or.inr (Or.inr (Or.inl rfl))) (hb hbytes d14) hl)⟩
end Cdr
namespace Len
def yN : MethodName := ⟨"java/lang/String", "length", "()I"⟩
abbrev yB : ByteArray := jdk_42_method_54_code
theorem d0 : decode yB 0 = .ok (.aload_n 0, 1) := by decide +kernel
theorem d1 : decode yB 1 = .ok (.getfield 9, 3) := by decide +kernel
theorem d4 : decode yB 4 = .ok (.arraylength, 1) := by decide +kernel
theorem d5 : decode yB 5 = .ok (.aload_n 0, 1) := by decide +kernel
theorem d6 : decode yB 6 = .ok (.invokevirtual 335, 3) := by decide +kernel
theorem d9 : decode yB 9 = .ok (.ishr, 1) := by decide +kernel
theorem d10 : decode yB 10 = .ok (.ireturn, 1) := by decide +kernel
def site : List Cond := [.fieldLink "java/lang/String" 9 "java/lang/String" "value" "[B", Cdr.tab] ++ virtW "java/lang/String" 335 "java/lang/String" Cdr.yN Cdr.yN
def tab : Cond := tabOf yN yB 1 (some .int) site
def P (x t : Addr) (V : Cell) (cd : Int32) (n : Nat) (f : Nat → Int32) (z : Int32) (args : Array Value) (s : State) : Prop := args = #[.ref x] ∧ Txt x t V cd n f s ∧ StaticIs s "java/lang/String" "COMPACT_STRINGS" "Z" (.int z) ∧ ¬ z = 0
def E (n : Nat) (r : Option Value) (s u : State) : Prop := XT.PureE (some (.int (Int32.ofNat n))) r s u
/-- length() of a String of n chars, in either coding -/
theorem law (l : Launch) (x t : Addr) (V : Cell) (cd : Int32) (n : Nat) (f : Nat → Int32) (z : Int32) : Law l yN 1 0 1 13 yB 1 (some .int) site (P x t V cd n f z) (E n) [] 0 0 := by
  refine Law.of_walk (plainFor_of_name (by decide +kernel)) (by decide +kernel) (by decide +kernel) (by decide) (fun _ _ h => by rw [h.1]; rfl) (fun _ U U' hal hh h => ⟨h.1, h.2.1.mv hal hh, h.2.2.1.there hal hh, h.2.2.2⟩) (fun r U U' V V' h1 hal h2 h => XT.PureE.mv r U U' V V' h1 hal h2 h) ?_
  intro p e s m args below meth c s₁ X0 hexec hbytes hml hret hlk hnm hown hh0 W hP
  obtain ⟨rfl, hx, s1, hz⟩ := hP
  have v31 := hx.2.2.2.1.2.2.2
  have c1 : Steps p.tables e below (s₁.setTop (entryFrame m #[.ref x] 1)) (s₁.setTop (mkF m 1 #[.val (.ref x)] [.ref x])) := Steps.trans (entry rfl) (by
    show Steps p.tables e below (s₁.setTop (mkF m 0 #[.val (.ref x)] [])) _
    refine XS.aloadN X0.here hexec rfl (hb hbytes d0) rfl rfl ?_
    exact Steps.refl _)
  obtain ⟨T2, X2, q2, st2⟩ := X0.hget hexec hown (wk W (.fieldLink "java/lang/String" 9 "java/lang/String" "value" "[B")) (hx.mv X0.warmed.alike hh0).2.1 (g := (mkF m 1 #[.val (.ref x)] [.ref x])) rfl (rest := []) rfl (hb hbytes d1)
  have hh2 := q2.trans hh0
  have hx2 := hx.mv X2.warmed.alike hh2
  have c3 : Steps p.tables e below (s₁.setTop (entryFrame m #[.ref x] 1)) (T2.setTop (mkF m 6 #[.val (.ref x)] [.ref x, .int (Int32.ofNat V.slots.size)])) := (c1.trans (st2 _ (Steps.refl _))).trans (by
    refine X2.alen hexec hx2.2.2.2.1 rfl rfl (hb hbytes d4) ?_
    refine XS.aloadN X2.here hexec rfl (hb hbytes d5) rfl rfl ?_
    exact Steps.refl _)
  obtain ⟨v4, T4, X4, E4, g4⟩ := X2.callV hexec (Cdr.law l x cd z) hown (wks W (virtW "java/lang/String" 335 "java/lang/String" Cdr.yN Cdr.yN)) rfl (by decide) (wk W Cdr.tab) (W := 1) (Nat.le_of_ble_eq_true rfl) (Nat.le_of_ble_eq_true rfl) (Nat.le_refl _) (Nat.le_refl _) (hx2.1.fc X2.warmed.alike) hx2.1.is (g := (mkF m 6 #[.val (.ref x)] [.ref x, .int (Int32.ofNat V.slots.size)])) rfl (by rw [hml]; rfl) c3 (argsL := []) (rest := [.int (Int32.ofNat V.slots.size)]) rfl rfl (by show 2 * 0 + (1 + 0) ≤ _; decide) (hb hbytes d6) (⟨rfl, hx2.2.2.1, hx.2.2.2.2.1.cd, s1.there X2.warmed.alike hh2, hz⟩)
  obtain ⟨rfl, q4⟩ := E4
  have c5 : Steps p.tables e below (s₁.setTop (entryFrame m #[.ref x] 1)) (T4.setTop (mkF m 10 #[.val (.ref x)] [.int (Int32.ofNat V.slots.size >>> (cd &&& 31))])) := Steps.trans g4 (by
    refine ishr X4.here hexec rfl (hb hbytes d9) rfl ?_
    exact Steps.refl _)
  rw [hx.2.2.2.2.1.len v31] at c5
  exact ⟨T4, some (.int (Int32.ofNat n)), _, _, _, X4, rfl, rfl, rfl, (fun h => by cases h), ⟨rfl, q4.trans hh2⟩, fun fs hl => c5.trans (X4.ireturnOut hexec hret rfl (Or.inl rfl) (hb hbytes d10) hl)⟩
theorem pays {l : Launch} {R : Room} {p : Program} {e : Env} {below : List Frame} {s : State} {sargs : Array Value} {len W : Nat} (x t : Addr) (V : Cell) (cd : Int32) (n : Nat) (f : Nat → Int32) (z : Int32) (htab : tab.before sargs s = true) (hfr : 2 ≤ R.frames) (hlo : W + 25 ≤ R.locals) :
    Back l R p e below s sargs yN len W (fun A₁ a₁ => A₁.cells + 0 ≤ R.cells ∧ A₁.slots + 0 ≤ R.slots ∧ P x t V cd n f z a₁ A₁.U) (fun A₁ _ v₁ B₁ => E n v₁ A₁.U B₁.U ∧ B₁.locs = A₁.locs ++ [] ∧ B₁.cells = A₁.cells + 0 ∧ B₁.slots = A₁.slots + 0) :=
  (law l x t V cd n f z).pays htab hfr (by omega)
end Len
end StrChars
namespace StrChars.Road
open Jvm Sem ClassFile Op Lib Jvm.Stand Jvm.Free Jvm.Free.XT
open Jvm.Lib.Cold (StaticIs)
theorem consq {a : Array Value} {s : State} {c : Jvm.Cond} {L : List Jvm.Cond} (h0 : c.before a s = true) (h : ∀ w ∈ L, w.before a s = true) : ∀ w ∈ c :: L, w.before a s = true := fun w hw => (List.mem_cons.mp hw).elim (fun e => e ▸ h0) (h w)
/-- the words of String.length(), either coding -/
abbrev wordsLen : List Jvm.Cond := [.code Len.yN Len.yB 1 (some .int), .initialized ST, .fieldLink ST 9 ST "value" "[B", .fieldLink ST 38 ST "COMPACT_STRINGS" "Z", .fieldLink ST 15 ST "coder" "B", .code Cdr.yN Cdr.yB 1 (some .byte), .methodLink ST 335 Cdr.yN, .declares Cdr.yN, .selects ST Cdr.yN Cdr.yN, .instanceMethod Cdr.yN]
theorem tabLen_of {a : Array Value} {s : State} (h : ∀ w ∈ wordsLen, w.before a s = true) : Len.tab.before a s = true := by
  have hc : Cdr.tab.before a s = true := unparts (wk h (.code Cdr.yN Cdr.yB 1 (some .byte))) (wks h (.initialized Cdr.yN.cls :: Cdr.site))
  have q := consq hc h
  exact unparts (wk q (.code Len.yN Len.yB 1 (some .int))) (wks q (.initialized Len.yN.cls :: Len.site))
theorem movedLen {Z s : State} {a0 args : Array Value} (hZ : Z.Warmed39 s.vm) (hw : ∀ d ∈ wordsLen, d.before a0 Z = true) : ∀ d ∈ wordsLen, d.before args s = true := fun d hd => by
  have q := hw d hd
  have t : ∀ d ∈ wordsLen, d = .arrayClass .byte ∨ (d.onTables && d.keepsFace) = true := by decide +kernel
  rcases t d hd with rfl | t
  · exact RoadKit.mvA hZ q
  · exact RoadKit.mv hZ q t
/-- the bytes of the chars cs, low before high -/
def wideBytes : List Int32 → List Value
  | [] => []
  | c :: cs => .int (lo8 c) :: .int (hi8 c) :: wideBytes cs
theorem wide_lo (d : Value) : ∀ (cs : List Int32) (j : Nat), j < cs.length → (wideBytes cs).getD (2 * j) d = .int (lo8 (cs.getD j 0))
  | [], j, h => absurd h (Nat.not_lt_zero j)
  | c :: cs, 0, _ => rfl
  | c :: cs, j + 1, h => by
    have q := wide_lo d cs j (by simpa using h)
    rw [show 2 * (j + 1) = 2 * j + 1 + 1 from by omega]
    simpa [wideBytes] using q
theorem wide_hi (d : Value) : ∀ (cs : List Int32) (j : Nat), j < cs.length → (wideBytes cs).getD (2 * j + 1) d = .int (hi8 (cs.getD j 0))
  | [], j, h => absurd h (Nat.not_lt_zero j)
  | c :: cs, 0, _ => rfl
  | c :: cs, j + 1, h => by
    have q := wide_hi d cs j (by simpa using h)
    rw [show 2 * (j + 1) + 1 = 2 * j + 1 + 1 + 1 from by omega]
    simpa [wideBytes] using q
theorem low_at (d : Value) (cs : List Int32) (j : Nat) (h : j < cs.length) : (cs.map fun c => Value.int (lo8 c)).getD j d = .int (lo8 (cs.getD j 0)) := by
  simp [List.getD_eq_getElem?_getD, h]
/-- an array of N2 bytes vs codes the chars cs by the coder cd -/
def CodA (cs : List Int32) (cd N2 : Int32) (vs : List Value) : Prop := (cd = 0 ∧ N2 = Int32.ofNat cs.length ∧ vs = (cs.map fun c => Value.int (lo8 c)) ∧ ∀ c ∈ cs, ¬ 255 < c) ∨ (cd = 1 ∧ N2 = Int32.ofNat (2 * cs.length) ∧ vs = wideBytes cs ∧ ∃ c ∈ cs, 255 < c)
theorem CodA.cod {cs : List Int32} {cd N2 : Int32} {vs : List Value} {V : Cell} (h : CodA cs cd N2 vs) (hn : 2 * cs.length < 2 ^ 31) (hs : V.slots.size = N2.toNatClampNeg) (hv : RoadKit.Has V vs (.int 0)) : Cod cd cs.length (fun j => cs.getD j 0) V := by
  rcases h with ⟨rfl, rfl, rfl, h⟩ | ⟨rfl, rfl, rfl, c, hc, hw⟩
  · rw [n32 (by omega)] at hs
    exact Or.inl ⟨rfl, hs, fun j hj => ⟨by rw [hv j (by omega), low_at _ _ _ hj], by
      have e : cs.getD j 0 = cs[j] := by simp [List.getD_eq_getElem?_getD, hj]
      show ¬ 255 < cs.getD j 0
      rw [e]; exact h _ (List.getElem_mem _)⟩⟩
  · rw [n32 (by omega)] at hs
    obtain ⟨j, hj, rfl⟩ := List.getElem_of_mem hc
    exact Or.inr ⟨rfl, hs, fun j hj => ⟨by rw [hv _ (by omega), wide_lo _ _ _ hj], by rw [hv _ (by omega), wide_hi _ _ _ hj]⟩, j, hj, by
      have e : cs.getD j 0 = cs[j] := by simp [List.getD_eq_getElem?_getD, hj]
      show 255 < cs.getD j 0
      rw [e]; exact hw⟩
/-- an object of exactly java/lang/String, its two fields found: as the laws ask it -/
theorem strObj {Z U : State} {a0 : Array Value} {kI : Nat} (wi : (Jvm.Cond.instantiable ST kI).before a0 Z = true) (al : Z.vm.Alike U.vm) {x : Addr} {v0 c0 : Value} (E : RoadKit.Exa Z U.heap x ST) (V : RoadKit.Fld Z U.heap x ST "value" "[B" v0) (C : RoadKit.Fld Z U.heap x ST "coder" "B" c0) :
    ∃ (D : Cell) (fV fC : Field), Blank ST x D U ∧ Found ST "value" "[B" fV U ∧ Found ST "coder" "B" fC U ∧ D.slots[fV.slot]? = some v0 ∧ D.slots[fC.slot]? = some c0 ∧ RoadKit.slotOf Z ST "value" "[B" = fV.slot ∧ RoadKit.slotOf Z ST "coder" "B" = fC.slot := by
  obtain ⟨D, cfV, kV, iV, fV, hD, gV, stV, knV, obV, asV, slV⟩ := V
  obtain ⟨D', cfC, kC, iC, fC, hD', gC, stC, -, -, asC, slC⟩ := C
  cases hD.symm.trans hD'
  obtain ⟨D2, kD, e1, e2, e3, e4, e5⟩ := E
  cases hD.symm.trans e1
  obtain ⟨c2, k2, i1, i2, i3, -⟩ := Cond.instantiable_spec wi
  cases e2.symm.trans i1
  cases e3.symm.trans i2
  obtain ⟨kU, u1, u2⟩ := al.2.2 _ _ e3
  exact ⟨D, fV, fC, ⟨hD, ⟨knV, fun q hq => by rw [hq] at obV; cases obV⟩, by rw [al.findClass]; exact e2, kU, u1, by rw [u2]; exact i3, by rw [u2]; exact e5 i3⟩, ⟨SBG.found_only al ⟨cfV, kV, iV, gV⟩, stV⟩, ⟨SBG.found_only al ⟨cfC, kC, iC, gC⟩, stC⟩, slV, slC, by simp [RoadKit.slotOf, gV], by simp [RoadKit.slotOf, gC]⟩
theorem sta_is {Z U : State} (al : Z.vm.Alike U.vm) {C n d : String} {v : Value} (S : RoadKit.Sta Z U.heap C n d v) : StaticIs U C n d v := by
  obtain ⟨cfS, iS, kS, fS, st, cS, t1, t2, t3, t4, t5, t6, t7⟩ := S
  exact StaticIs.there (s := { Z with heap := U.heap }) ⟨cfS, iS, kS, fS, st, cS, t1, t2, t3, t4, t5, (fun q => by rw [q] at t6; cases t6), t7⟩ al rfl
/-- **length() OF SUCH A STRING** -/
theorem lenW {p : Program} {l : Launch} {e : Env} {R : Room} {s : State} {args : Array Value} {below : List Frame} {len W : Nat} {Z : State} {a0 : Array Value} {h : Heap} (hZ : Z.Warmed39 s.vm) (hw : ∀ d ∈ wordsLen, d.before a0 Z = true) {kI : Nat} (wi : (Jvm.Cond.instantiable ST kI).before a0 Z = true)
    {x t : Addr} {kb : ClassId} {cs : List Int32} {cd N2 z : Int32} {vs : List Value} (E : RoadKit.Exa Z h x ST) (V : RoadKit.Fld Z h x ST "value" "[B" (.ref t)) (C : RoadKit.Fld Z h x ST "coder" "B" (.int cd)) (K : RoadKit.Arv Z h t kb .byte N2 vs (.int 0)) (hc : CodA cs cd N2 vs) (hb : ∀ c ∈ cs, ¬ c < 0 ∧ ¬ (65535 : Int32) < c)
    (S : RoadKit.Sta Z h ST "COMPACT_STRINGS" "Z" (.int z)) (hz : ¬ z = 0) (l2 : cs.length ≤ 4000) (hfr : 2 ≤ R.frames) (hlo : W + 25 ≤ R.locals) :
    Back l R p e below s args (⟨"java/lang/String", "length", "()I"⟩ : MethodName) len W (fun P a => a = #[.ref x] ∧ P.U.heap = h ∧ P.cells + 0 ≤ R.cells ∧ P.slots + 0 ≤ R.slots)
      (fun P _ v B => ∃ L, (v = some (.int (Int32.ofNat cs.length)) ∧ L = [] ∧ B.U.heap = h) ∧ B.locs = P.locs ++ L ∧ B.cells = P.cells + 0 ∧ B.slots = P.slots + 0) := by
  obtain ⟨A, K1, K2, K3, K4, K5, K6⟩ := K
  have hcod := hc.cod (by omega) K3 K5
  intro m meth c P g ig mk a X hg hsize hdg hW hn hp'
  obtain ⟨rfl, rfl, r1, r2⟩ := hp'
  have al : Z.vm.Alike P.U.vm := hZ.alike.trans X.warmed.alike
  obtain ⟨D, fV, fC, hB, F1, F2, g1, g2, -, -⟩ := strObj wi al E V C
  have hx : Txt x t A cd cs.length (fun j => cs.getD j 0) P.U := ⟨⟨_, hB.2.2.1, D, hB.1, rfl, by cases q : D.vm <;> first | rfl | exact absurd q (hB.2.1.2 _)⟩, Has.of hB F1 g1, Has.of hB F2 g2, ⟨K1.1, State.isArrayOf_alike al K1.2.1, K1.2.2, by rcases hcod with ⟨-, q, -⟩ | ⟨-, q, -⟩ <;> omega⟩, hcod, fun j hj => by
    have e : cs.getD j 0 = cs[j] := by simp [List.getD_eq_getElem?_getD, hj]
    show ¬ cs.getD j 0 < 0 ∧ ¬ 65535 < cs.getD j 0
    rw [e]; exact hb _ (List.getElem_mem _)⟩
  obtain ⟨v, B, X', ⟨⟨hv, hh⟩, hl, hk, hs⟩, st⟩ := Len.pays x t A cd cs.length (fun j => cs.getD j 0) z (tabLen_of (movedLen hZ hw)) hfr hlo m meth c P g ig mk _ X hg hsize hdg hW hn ⟨r1, r2, rfl, hx, sta_is al S, hz⟩
  exact ⟨v, B, X', ⟨[], ⟨hv, rfl, hh⟩, hl, hk, hs⟩, st⟩
end StrChars.Road
end Jvm.Pilot.@@N@@
namespace Jvm.Pilot.@@N@@
open Jvm Jvm.ClassFile Sem Op Lib Jvm.Free Jvm.Stand Jvm.LawKit Jvm.RoadKit Bundle Jvm.Pilot.@@N@@.Jvm.D
section Own
variable {p : Program} {l : Launch} {e : Env} {R : Room} {s : State} {m : MethodId} {args : Array Value} {below : List Frame} {meth : Method} {c : Code} {T : State} {k n : Nat} {Z : State} {a0 : Array Value} {h : Heap} {n0 KK NN : Nat} {Q : Option Value → Heap → Prop}
/-- from T with the top frame g the invocation comes to its end as Q asks -/
def OwG (p : Program) (e : Env) (below : List Frame) (s : State) (n0 KK NN : Nat) (Q : Option Value → Heap → Prop) (T : State) (g : JFrame) : Prop :=
  ∃ s₂ o, Steps p.tables e below (T.setTop g) s₂ ∧ s₂.status = .running ∧ Ended s₂ below o ∧ ∃ v L, o = .returned v ∧ (Q v s₂.heap ∧ Fr n0 L) ∧ FrameEnd s o s₂ L KK NN
/-- where a walk stands: the heap is h, what was written lies at or above n0, k cells and n slots were made at the most -/
def OwP (p : Program) (l : Launch) (e : Env) (R : Room) (s : State) (m : MethodId) (args : Array Value) (below : List Frame) (meth : Method) (c : Code) (n0 : Nat) (T : State) (h : Heap) (k n : Nat) : Prop :=
  ∃ locs, Stand p l e R s m args below meth c T locs k n ∧ T.heap = h ∧ Fr n0 locs
/-- a callee's contract -/
def OwM (l : Launch) (Z : State) (y : MethodName) (bytes : ByteArray) (maxL : Nat) (ret : Option FieldType) (rm : Room) (n0 : Nat) (as' : Array Value) (h0 : Heap) (Q : Option Value → Heap → Prop) : Prop :=
  MetFree l y (head1 [Jvm.Cond.code y bytes maxL ret] rm) (fun a U => a = as' ∧ Z.Warmed39 U.vm ∧ U.heap = h0) (fun _ _ _ _ _ => True) (fun _ U o U' => ∃ v L, o = .returned v ∧ (Q v U'.heap ∧ Fr n0 L) ∧ FrameEnd U o U' L rm.cells rm.slots)
theorem OwG.go {T' : State} {g g' : JFrame} (st : ∀ t, Steps p.tables e below (T'.setTop g') t → Steps p.tables e below (T.setTop g) t) (G : OwG p e below s n0 KK NN Q T' g') : OwG p e below s n0 KK NN Q T g := by
  obtain ⟨s₂, o, h1, r⟩ := G
  exact ⟨s₂, o, st _ h1, r⟩
theorem OwG.cast {g g' : JFrame} (q : g = g') (G : OwG p e below s n0 KK NN Q T g') : OwG p e below s n0 KK NN Q T g := q ▸ G
theorem OwP.here (P : OwP p l e R s m args below meth c n0 T h k n) : At T m c below := by obtain ⟨_, X, _⟩ := P; exact X.here
theorem OwP.wide (P : OwP p l e R s m args below meth c n0 T h k n) {k' n' : Nat} (h1 : k ≤ k') (h2 : n ≤ n') : OwP p l e R s m args below meth c n0 T h k' n' := by
  obtain ⟨L, X, r⟩ := P
  exact ⟨L, Jvm.Stand.wide X (fun x hx _ => hx) h1 h2, r⟩
theorem OwM.of {y : MethodName} {bytes : ByteArray} {maxL : Nat} {ret : Option FieldType} {ws : List Jvm.Cond} {rm : Room} {as' : Array Value} {h0 : Heap} (pn : plainFor y = true)
    (body : ∀ (p : Program) (e : Env) (s : State) (m : MethodId) (below : List Frame) (meth : Method) (c : Code) (T : State), p.tables.exec = Jvm.exec → c.code = bytes → c.maxLocals = maxL → s.vm.findClass y.cls = some m.cls → meth.name = y.name → meth.sig.returnType = ret → meth.locks = false → Z.Warmed39 s.vm → OwP p l e rm s m as' below meth c n0 T h0 0 0 → OwG p e below s n0 KK NN Q T (entryFrame m as' maxL)) :
    MetFree l y (head1 (Jvm.Cond.code y bytes maxL ret :: ws) rm) (fun a U => a = as' ∧ Z.Warmed39 U.vm ∧ U.heap = h0) (fun _ _ _ _ _ => True) (fun _ U o U' => ∃ v L, o = .returned v ∧ (Q v U'.heap ∧ Fr n0 L) ∧ FrameEnd U o U' L KK NN) := by
  refine MetFree.of_bodySF pn hisR ?_
  intro p e s m args below meth c s₁ Bd hml0 hP hK
  obtain ⟨rfl, hZ, hh⟩ := hP
  exact body p e s m below meth c s₁ Bd.exec Bd.bytes hml0 (findClass_of_methodNamed Bd.named) (name_of_methodNamed Bd.named Bd.method).1 Bd.returns Bd.notSynchronized hZ ⟨[], Stand.of_body Bd, by rw [← hh, Bd.state]; rfl, Fr.nil n0⟩
theorem OwM.mk {y : MethodName} {bytes : ByteArray} {maxL : Nat} {ret : Option FieldType} {rm : Room} {as' : Array Value} {h0 : Heap} (pn : plainFor y = true)
    (body : ∀ (p : Program) (e : Env) (s : State) (m : MethodId) (below : List Frame) (meth : Method) (c : Code) (T : State), p.tables.exec = Jvm.exec → c.code = bytes → c.maxLocals = maxL → s.vm.findClass y.cls = some m.cls → meth.name = y.name → meth.sig.returnType = ret → meth.locks = false → Z.Warmed39 s.vm → OwP p l e rm s m as' below meth c n0 T h0 0 0 → OwG p e below s n0 rm.cells rm.slots Q T (entryFrame m as' maxL)) :
    OwM l Z y bytes maxL ret rm n0 as' h0 Q := OwM.of (ws := []) (Q := Q) pn body
theorem OwP.ret (P : OwP p l e R s m args below meth c n0 T h k n) (hx : p.tables.exec = Jvm.exec) (hlk : meth.locks = false) {pc : Nat} {Ls : Array Slot} {w : Value} {t : FieldType} {i : Instr} {rest : List Value} (hret : meth.sig.returnType = some t) (hn : narrow t w = w)
    (hi : (i = .ireturn ∧ (t = .int ∨ t = .boolean ∨ t = .byte ∨ t = .char ∨ t = .short) ∧ ∃ z, w = .int z) ∨ (i = .lreturn ∧ t = .long ∧ ∃ z, w = .long z) ∨ (i = .dreturn ∧ t = .double ∧ ∃ z, w = .double z) ∨ (i = .freturn ∧ t = .float ∧ ∃ z, w = .float z) ∨ (i = .areturn ∧ t.isReference = true ∧ w.isRef = true))
    (hd : decode c.code pc = .ok (i, 1)) (hk : k ≤ KK) (hn' : n ≤ NN) (q : Q (some w) h) : OwG p e below s n0 KK NN Q T (mkF m pc Ls (w :: rest)) := by
  obtain ⟨L, X, e0, N⟩ := P
  obtain ⟨fs, hr, hrun, hended, hW, hsame⟩ := X.leave (v := some w) (fun h => by rw [hret] at h; cases h)
  exact ⟨_, _, retOut X hx hret hn hi hd hr, hrun, hended, _, _, rfl, ⟨by rw [← e0] at q; exact q, N⟩, ⟨_, rfl⟩, hW, hsame.mono hk hn'⟩
theorem OwP.retI (P : OwP p l e R s m args below meth c n0 T h k n) (hx : p.tables.exec = Jvm.exec) (hlk : meth.locks = false) {pc : Nat} {Ls : Array Slot} {z : Int32} {rest : List Value} (hret : meth.sig.returnType = some .int)
    (hd : decode c.code pc = .ok (.ireturn, 1)) (hk : k ≤ KK) (hn' : n ≤ NN) (q : Q (some (.int z)) h) : OwG p e below s n0 KK NN Q T (mkF m pc Ls (.int z :: rest)) :=
  P.ret hx hlk hret rfl (Or.inl ⟨rfl, Or.inl rfl, z, rfl⟩) hd hk hn' q
theorem OwP.retL (P : OwP p l e R s m args below meth c n0 T h k n) (hx : p.tables.exec = Jvm.exec) (hlk : meth.locks = false) {pc : Nat} {Ls : Array Slot} {z : Int64} {rest : List Value} (hret : meth.sig.returnType = some .long)
    (hd : decode c.code pc = .ok (.lreturn, 1)) (hk : k ≤ KK) (hn' : n ≤ NN) (q : Q (some (.long z)) h) : OwG p e below s n0 KK NN Q T (mkF m pc Ls (.long z :: rest)) :=
  P.ret hx hlk hret rfl (Or.inr (Or.inl ⟨rfl, rfl, z, rfl⟩)) hd hk hn' q
theorem OwP.retR (P : OwP p l e R s m args below meth c n0 T h k n) (hx : p.tables.exec = Jvm.exec) (hlk : meth.locks = false) {pc : Nat} {Ls : Array Slot} {w : Value} {t : FieldType} {rest : List Value} (hret : meth.sig.returnType = some t) (ht : t.isReference = true) (hw : w.isRef = true)
    (hd : decode c.code pc = .ok (.areturn, 1)) (hk : k ≤ KK) (hn' : n ≤ NN) (q : Q (some w) h) : OwG p e below s n0 KK NN Q T (mkF m pc Ls (w :: rest)) :=
  P.ret hx hlk hret (by cases t <;> first | (cases ht; done) | (cases w <;> rfl)) (Or.inr (Or.inr (Or.inr (Or.inr ⟨rfl, ht, hw⟩)))) hd hk hn' q
theorem OwP.retN (P : OwP p l e R s m args below meth c n0 T h k n) (hx : p.tables.exec = Jvm.exec) (hlk : meth.locks = false) {pc : Nat} {Ls : Array Slot} {z : Int32} {t : FieldType} {rest : List Value} (hret : meth.sig.returnType = some t) (ht : t = .boolean ∨ t = .byte ∨ t = .char ∨ t = .short)
    (hd : decode c.code pc = .ok (.ireturn, 1)) (hk : k ≤ KK) (hn' : n ≤ NN) (q : Q (some (.int (nar t z))) h) : OwG p e below s n0 KK NN Q T (mkF m pc Ls (.int z :: rest)) := by
  obtain ⟨L, X, e0, N⟩ := P
  obtain ⟨fs, hr, hrun, hended, hW, hsame⟩ := X.leave (v := some (.int (nar t z))) (fun h => by rw [hret] at h; cases h)
  exact ⟨_, _, RoadKit.retN X hx hret ht hd hr, hrun, hended, _, _, rfl, ⟨by rw [← e0] at q; exact q, N⟩, ⟨_, rfl⟩, hW, hsame.mono hk hn'⟩
theorem OwP.retV (P : OwP p l e R s m args below meth c n0 T h k n) (hx : p.tables.exec = Jvm.exec) (hlk : meth.locks = false) {pc : Nat} {Ls : Array Slot} (hret : meth.sig.returnType = none)
    (hd : decode c.code pc = .ok (.return_, 1)) (hk : k ≤ KK) (hn' : n ≤ NN) (q : Q none h) : OwG p e below s n0 KK NN Q T (mkF m pc Ls []) := by
  obtain ⟨L, X, e0, N⟩ := P
  obtain ⟨fs, hr, hrun, hended, hW, hsame⟩ := X.leave (v := none) (fun _ => rfl)
  exact ⟨_, _, X.returnOut hx hret hd hr, hrun, hended, _, _, rfl, ⟨by rw [← e0] at q; exact q, N⟩, ⟨_, rfl⟩, hW, hsame.mono hk hn'⟩
theorem OwP.getF (P : OwP p l e R s m args below meth c n0 T h k n) (hx : p.tables.exec = Jvm.exec) (hZ : Z.Warmed39 s.vm) {own R0 O nm d host : String} {index : Nat} (hown : s.vm.findClass own = some m.cls) (w : (Jvm.Cond.fieldLink own index R0 nm d).before a0 Z = true ∨ (Jvm.Cond.fieldLinkNest own index R0 nm d host).before a0 Z = true) (via : Via Z R0 O nm d)
    {a : Addr} {v : Value} (F : Fld Z h a O nm d v) {g : JFrame} (hg : g.method = m) {rest : List Value} (hs : g.stack = .ref a :: rest) (hd : decode c.code g.pc = .ok (.getfield index, 3))
    (K : ∀ T', OwP p l e R s m args below meth c n0 T' h k n → OwG p e below s n0 KK NN Q T' { g with pc := g.pc + 3, stack := v :: rest }) : OwG p e below s n0 KK NN Q T g := by
  obtain ⟨L, X, eT, N⟩ := P
  obtain ⟨T', X', e', st⟩ := RoadKit.getF X hx hZ hown w via eT F hg hs hd
  exact (K T' ⟨L, X', e', N⟩).go st
theorem OwP.getS (P : OwP p l e R s m args below meth c n0 T h k n) (hx : p.tables.exec = Jvm.exec) (hZ : Z.Warmed39 s.vm) {own R0 O nm d host : String} {index : Nat} (hown : s.vm.findClass own = some m.cls) (w : (Jvm.Cond.fieldLink own index R0 nm d).before a0 Z = true ∨ (Jvm.Cond.fieldLinkNest own index R0 nm d host).before a0 Z = true) (via : Via Z R0 O nm d)
    {v : Value} (F : Sta Z h O nm d v) {g : JFrame} (hg : g.method = m) (hd : decode c.code g.pc = .ok (.getstatic index, 3))
    (K : ∀ T', OwP p l e R s m args below meth c n0 T' h k n → OwG p e below s n0 KK NN Q T' { g with pc := g.pc + 3, stack := v :: g.stack }) : OwG p e below s n0 KK NN Q T g := by
  obtain ⟨L, X, eT, N⟩ := P
  obtain ⟨T', X', e', st⟩ := RoadKit.getS2 X hx hZ hown w via eT F hg hd
  exact (K T' ⟨L, X', e', N⟩).go st
theorem OwP.putF (P : OwP p l e R s m args below meth c n0 T h k n) (hx : p.tables.exec = Jvm.exec) (hZ : Z.Warmed39 s.vm) {own R0 O nm d host C : String} {index kk : Nat} {ty : FieldType} (hown : s.vm.findClass own = some m.cls) (w : (Jvm.Cond.fieldLink own index R0 nm d).before a0 Z = true ∨ (Jvm.Cond.fieldLinkNest own index R0 nm d host).before a0 Z = true) (via : Via Z R0 O nm d)
    {a : Addr} {v old : Value} (F : Fld Z h a O nm d old) (E : Exa Z h a C) (L : (Jvm.Cond.lays C O nm d).before a0 Z = true ∨ ((Jvm.Cond.laysFinal C O nm d).before a0 Z = true ∧ own = O ∧ meth.name = "<init>")) (wi : (Jvm.Cond.instantiable C kk).before a0 Z = true)
    (hty : parseFieldDescriptor d = some ty) (hn : narrow ty v = v) (hf : fits ty v = true) {g : JFrame} (hg : g.method = m) {rest : List Value} (hs : g.stack = v :: .ref a :: rest) (hd : decode c.code g.pc = .ok (.putfield index, 3)) (ha : n0 ≤ a)
    (K : ∀ T' h', OwP p l e R s m args below meth c n0 T' h' k n → Wr h h' a (Jvm.RoadKit.slotOf Z O nm d) v → OwG p e below s n0 KK NN Q T' { g with pc := g.pc + 3, stack := rest }) : OwG p e below s n0 KK NN Q T g := by
  obtain ⟨L0, X, eT, N⟩ := P
  obtain ⟨T', h', X', e', W, st⟩ := RoadKit.putF X hx hZ hown w via eT F E L wi hty hn hf hg hs hd
  exact (K T' h' ⟨_, X', e', Fr.snoc X' N ha⟩ W).go st
theorem OwP.putFN (P : OwP p l e R s m args below meth c n0 T h k n) (hx : p.tables.exec = Jvm.exec) (hZ : Z.Warmed39 s.vm) {own R0 O nm d C : String} {index kk : Nat} {ty : FieldType} (hown : s.vm.findClass own = some m.cls) (w : (Jvm.Cond.fieldLink own index R0 nm d).before a0 Z = true) (via : Via Z R0 O nm d)
    {a : Addr} {v v' old : Value} (F : Fld Z h a O nm d old) (E : Exa Z h a C) (L : (Jvm.Cond.lays C O nm d).before a0 Z = true ∨ ((Jvm.Cond.laysFinal C O nm d).before a0 Z = true ∧ own = O ∧ meth.name = "<init>")) (wi : (Jvm.Cond.instantiable C kk).before a0 Z = true)
    (hty : parseFieldDescriptor d = some ty) (hn : narrow ty v = v') (hf : fits ty v' = true) {g : JFrame} (hg : g.method = m) {rest : List Value} (hs : g.stack = v :: .ref a :: rest) (hd : decode c.code g.pc = .ok (.putfield index, 3)) (ha : n0 ≤ a)
    (K : ∀ T' h', OwP p l e R s m args below meth c n0 T' h' k n → Wr h h' a (Jvm.RoadKit.slotOf Z O nm d) v' → OwG p e below s n0 KK NN Q T' { g with pc := g.pc + 3, stack := rest }) : OwG p e below s n0 KK NN Q T g := by
  obtain ⟨L0, X, eT, N⟩ := P
  obtain ⟨T', h', X', e', W, st⟩ := RoadKit.putFN X hx hZ hown w via eT F E L wi hty hn hf hg hs hd
  exact (K T' h' ⟨_, X', e', Fr.snoc X' N ha⟩ W).go st
theorem OwP.newO (P : OwP p l e R s m args below meth c n0 T h k n) (hx : p.tables.exec = Jvm.exec) (hZ : Z.Warmed39 s.vm) {own C : String} {index nn : Nat} (hown : s.vm.findClass own = some m.cls) (w : (Jvm.Cond.classLink own index C).before a0 Z = true) (wi : (Jvm.Cond.instantiable C nn).before a0 Z = true) (wz : (Jvm.Cond.initialized C).before a0 Z = true)
    {g : JFrame} (hg : g.method = m) (hd : decode c.code g.pc = .ok (.new index, 3)) (hc : k + 1 ≤ R.cells) (hl : n + nn ≤ R.slots)
    (K : ∀ T' h' b, b = h.size → OwP p l e R s m args below meth c n0 T' h' (k + 1) (n + nn) → Ext h h' → Exa Z h' b C → (∀ {O nm d : String} {ty : FieldType}, Laid Z a0 C O nm d → parseFieldDescriptor d = some ty → Fld Z h' b O nm d (defaultValue ty)) → OwG p e below s n0 KK NN Q T' { g with pc := g.pc + 3, stack := .ref b :: g.stack }) : OwG p e below s n0 KK NN Q T g := by
  obtain ⟨L, X, eT, N⟩ := P
  obtain ⟨T', h', X', e', E, A, D, -, st⟩ := RoadKit.newO X hx hZ hown w wi wz eT hg hd hc hl
  exact (K T' h' _ rfl ⟨L, X', e', N⟩ E A D).go st
theorem OwP.newP (P : OwP p l e R s m args below meth c n0 T h k n) (hx : p.tables.exec = Jvm.exec) (hZ : Z.Warmed39 s.vm) {aty : ArrayType} (w : (Jvm.Cond.arrayClass (newarray.typeOf aty)).before a0 Z = true) {g : JFrame} (hg : g.method = m) (hd : decode c.code g.pc = .ok (.newarray aty, 2)) {z : Int32} {rest : List Value} (hs : g.stack = .int z :: rest)
    (hn : ¬ z < 0) {cap : Nat} (hcap : z.toNatClampNeg ≤ cap) (hb : cap * 8 ≤ 536870912) (hc : k + 1 ≤ R.cells) (hl : n + cap ≤ R.slots)
    (K : ∀ T' h' b kA, b = h.size → OwP p l e R s m args below meth c n0 T' h' (k + 1) (n + cap) → Ext h h' → Arv Z h' b kA (newarray.typeOf aty) z [] (defaultValue (newarray.typeOf aty)) → OwG p e below s n0 KK NN Q T' { g with pc := g.pc + 2, stack := .ref b :: rest }) : OwG p e below s n0 KK NN Q T g := by
  obtain ⟨L, X, eT, N⟩ := P
  obtain ⟨T', h', kA, X', e', E, A, st⟩ := RoadKit.newP X hx hZ w eT hg hd hs hn hcap hb hc hl
  exact (K T' h' _ kA rfl ⟨L, X', e', N⟩ E (Arv.new A hn)).go st
theorem OwP.initO (P : OwP p l e R s m args below meth c n0 T h k n) (hx : p.tables.exec = Jvm.exec) (hZ : Z.Warmed39 s.vm) {own : String} {idx : Nat} (hown : s.vm.findClass own = some m.cls) (w1 : (Jvm.Cond.methodLink own idx Lib.objectInit).before a0 Z = true) (w2 : (Jvm.Cond.instanceMethod Lib.objectInit).before a0 Z = true)
    (w3 : (Jvm.Cond.code Lib.objectInit ⟨#[0xb1]⟩ 1 none).before a0 Z = true) {g : JFrame} (hg : g.method = m) (hsize : g.locals.size = c.maxLocals) {a : Addr} {rest : List Value} (hs : g.stack = .ref a :: rest) (hd : decode c.code g.pc = .ok (.invokespecial idx, 3))
    (hf : 1 ≤ R.frames) {W : Nat} (hW : 2 * g.monitorRoom + (rest.map fun v => v.category).sum ≤ W) (hl : W + 12 ≤ R.locals)
    (K : ∀ T', OwP p l e R s m args below meth c n0 T' h k n → OwG p e below s n0 KK NN Q T' { g with pc := g.pc + 3, stack := rest }) : OwG p e below s n0 KK NN Q T g := by
  obtain ⟨L, X, eT, N⟩ := P
  obtain ⟨T', X', e', st⟩ := RoadKit.initO X hx hZ hown w1 w2 w3 eT hg hsize hs hd hf hW hl
  exact (K T' ⟨L, X', e', N⟩).go st
theorem OwP.stC (P : OwP p l e R s m args below meth c n0 T h k n) (hx : p.tables.exec = Jvm.exec) (hZ : Z.Warmed39 s.vm) {a : Addr} {kA : ClassId} {z j x : Int32} {vs : List Value} {dv : Value} (A : Arv Z h a kA .char z vs dv) (hj0 : ¬ j < 0) (hj1 : j < z) {i : Nat} (hi : j.toNatClampNeg = i) (hi' : i < vs.length) {g : JFrame} (hg : g.method = m) {rest : List Value} (hs : g.stack = .int x :: .int j :: .ref a :: rest) (hd : decode c.code g.pc = .ok (.castore, 1)) (ha : n0 ≤ a)
    (K : ∀ T' h', OwP p l e R s m args below meth c n0 T' h' k n → Wr h h' a j.toNatClampNeg (.int (nar .char x)) → Arv Z h' a kA .char z (vs.set i (.int (nar .char x))) dv → OwG p e below s n0 KK NN Q T' { g with pc := g.pc + 1, stack := rest }) : OwG p e below s n0 KK NN Q T g := by
  obtain ⟨L, X, eT, N⟩ := P
  obtain ⟨cl, A1, q1, S1, M1, H1, U1⟩ := A
  obtain ⟨T', h', X', e', W, st⟩ := RoadKit.stC X hx hZ eT A1 (inb_of S1 ⟨hj0, hj1⟩) hg hs hd
  exact (K T' h' ⟨_, X', e', Fr.snoc X' N ha⟩ W (Arv.set A1 q1 S1 M1 H1 U1 (fits_nar_char _) W i hi hi')).go st
theorem OwP.special (P : OwP p l e R s m args below meth c n0 T h k n) (hx : p.tables.exec = Jvm.exec) (hZ : Z.Warmed39 s.vm) {own : String} {index : Nat} {y : MethodName} (hy1 : y.name = "<init>") (hown : s.vm.findClass own = some m.cls) (w1 : (Jvm.Cond.methodLink own index y).before a0 Z = true) (w2 : (Jvm.Cond.instanceMethod y).before a0 Z = true)
    {bytes : ByteArray} {maxL : Nat} (w3 : (Jvm.Cond.code y bytes maxL none).before a0 Z = true) (hy : y.cls ≠ "java/lang/invoke/MethodHandle" ∧ y.cls ≠ "java/lang/invoke/VarHandle")
    {W c1 s1 : Nat} {as' : Array Value} {Qc : Option Value → Heap → List Loc → Prop} (hK : Back l R p e below s args y 3 W (fun A a => a = as' ∧ A.U.heap = h ∧ A.cells + c1 ≤ R.cells ∧ A.slots + s1 ≤ R.slots) (fun A _ v B => ∃ L, Qc v B.U.heap L ∧ B.locs = A.locs ++ L ∧ B.cells = A.cells + c1 ∧ B.slots = A.slots + s1))
    (hQ : ∀ v h L, Qc v h L → Fr n0 L) {g : JFrame} (hg : g.method = m) (hsize : g.locals.size = c.maxLocals) {a : Addr} {argsL rest : List Value}
    (hlen : ∀ sig, parseMethodDescriptor y.desc = some sig → argsL.length = sig.parameters.length) (hstack : g.stack = argsL.reverse ++ .ref a :: rest) (hW : 2 * g.monitorRoom + (rest.map fun v => v.category).sum ≤ W)
    (hdg : decode c.code g.pc = .ok (.invokespecial index, 3)) (has : (Value.ref a :: argsL).toArray = as') (hc : k + c1 ≤ R.cells) (hl : n + s1 ≤ R.slots)
    (K : ∀ T' v L h', T'.heap = h' → OwP p l e R s m args below meth c n0 T' h' (k + c1) (n + s1) → Qc v h' L → OwG p e below s n0 KK NN Q T' { g with pc := g.pc + 3, stack := v.toList ++ rest }) : OwG p e below s n0 KK NN Q T g := by
  obtain ⟨L, X, eT, N⟩ := P
  obtain ⟨v, _, ⟨T', L', k', n'⟩, -, X', ⟨Lc, hQc, l', y', z'⟩, st⟩ := X.specialBack hx hy1 hown (mvT hZ w1) (mvT hZ w2) (mvT hZ w3) hy hK hg hsize (Steps.refl _) hlen hstack hW hdg (fun _ _ => ⟨has, eT, hc, hl⟩)
  dsimp only [Pt.U, Pt.locs, Pt.cells, Pt.slots] at X' l' y' z' st hQc
  subst l' y' z'
  exact (K T' v Lc _ rfl ⟨_, X', rfl, Fr.app N (hQ _ _ _ hQc)⟩ hQc).go fun t kt => st.trans kt
theorem OwP.virtual (P : OwP p l e R s m args below meth c n0 T h k n) (hx : p.tables.exec = Jvm.exec) (hZ : Z.Warmed39 s.vm) {own C : String} {index : Nat} {y : MethodName} (hown : s.vm.findClass own = some m.cls) (w1 : (Jvm.Cond.methodLink own index y).before a0 Z = true) (w2 : (Jvm.Cond.declares y).before a0 Z = true)
    (w3 : (Jvm.Cond.selects C y y).before a0 Z = true) (w4 : (Jvm.Cond.instanceMethod y).before a0 Z = true) (hy : y.cls ≠ "java/lang/invoke/MethodHandle" ∧ y.cls ≠ "java/lang/invoke/VarHandle")
    {W c1 s1 : Nat} {as' : Array Value} {Qc : Option Value → Heap → List Loc → Prop} (hK : Back l R p e below s args y 3 W (fun A a => a = as' ∧ A.U.heap = h ∧ A.cells + c1 ≤ R.cells ∧ A.slots + s1 ≤ R.slots) (fun A _ v B => ∃ L, Qc v B.U.heap L ∧ B.locs = A.locs ++ L ∧ B.cells = A.cells + c1 ∧ B.slots = A.slots + s1))
    (hQ : ∀ v h L, Qc v h L → Fr n0 L) {b : Addr} (E : Exa Z h b C) {g : JFrame} (hg : g.method = m) (hsize : g.locals.size = c.maxLocals) {argsL rest : List Value}
    (hlen : ∀ sig, parseMethodDescriptor y.desc = some sig → argsL.length = sig.parameters.length) (hstack : g.stack = argsL.reverse ++ .ref b :: rest) (hW : 2 * g.monitorRoom + (rest.map fun v => v.category).sum ≤ W)
    (hdg : decode c.code g.pc = .ok (.invokevirtual index, 3)) (has : (Value.ref b :: argsL).toArray = as') (hc : k + c1 ≤ R.cells) (hl : n + s1 ≤ R.slots)
    (K : ∀ T' v L h', T'.heap = h' → OwP p l e R s m args below meth c n0 T' h' (k + c1) (n + s1) → Qc v h' L → OwG p e below s n0 KK NN Q T' { g with pc := g.pc + 3, stack := v.toList ++ rest }) : OwG p e below s n0 KK NN Q T g := by
  obtain ⟨L, X, eT, N⟩ := P
  obtain ⟨cq, kq, qa, qb, qc⟩ := isOf hZ eT E
  obtain ⟨v, _, ⟨T', L', k', n'⟩, -, X', ⟨Lc, hQc, l', y', z'⟩, st⟩ := X.virtualBack hx hown (mvT hZ w1) (mvT hZ w2) (notFace_of_selects (args := #[]) (mvT hZ w3)) (mvT hZ w3) (mvT hZ w4) hy hK qa qc hg hsize (Steps.refl _) hlen hstack hW hdg (fun _ _ => ⟨has, eT, hc, hl⟩)
  dsimp only [Pt.U, Pt.locs, Pt.cells, Pt.slots] at X' l' y' z' st hQc
  subst l' y' z'
  exact (K T' v Lc _ rfl ⟨_, X', rfl, Fr.app N (hQ _ _ _ hQc)⟩ hQc).go fun t kt => st.trans kt
theorem OwP.stat (P : OwP p l e R s m args below meth c n0 T h k n) (hx : p.tables.exec = Jvm.exec) (hZ : Z.Warmed39 s.vm) {own : String} {index : Nat} {y : MethodName} {bytes : ByteArray} {maxL : Nat} {ret : Option FieldType} (hown : s.vm.findClass own = some m.cls) (w1 : (Jvm.Cond.methodLink own index y).before a0 Z = true) (w2 : (Jvm.Cond.static y).before a0 Z = true) (w3 : (Jvm.Cond.initialized y.cls).before a0 Z = true)
    (w4 : (Jvm.Cond.code y bytes maxL ret).before a0 Z = true) (hy : y.cls ≠ "java/lang/invoke/MethodHandle" ∧ y.cls ≠ "java/lang/invoke/VarHandle")
    {W c1 s1 : Nat} {as' : Array Value} {Qc : Option Value → Heap → List Loc → Prop} (hK : Back l R p e below s args y 3 W (fun A a => a = as' ∧ A.U.heap = h ∧ A.cells + c1 ≤ R.cells ∧ A.slots + s1 ≤ R.slots) (fun A _ v B => ∃ L, Qc v B.U.heap L ∧ B.locs = A.locs ++ L ∧ B.cells = A.cells + c1 ∧ B.slots = A.slots + s1))
    (hQ : ∀ v h L, Qc v h L → Fr n0 L) {g : JFrame} (hg : g.method = m) (hsize : g.locals.size = c.maxLocals) {argsL rest : List Value}
    (hlen : ∀ sig, parseMethodDescriptor y.desc = some sig → argsL.length = sig.parameters.length) (hstack : g.stack = argsL.reverse ++ rest) (hW : 2 * g.monitorRoom + (rest.map fun v => v.category).sum ≤ W)
    (hdg : decode c.code g.pc = .ok (.invokestatic index, 3)) (has : argsL.toArray = as') (hc : k + c1 ≤ R.cells) (hl : n + s1 ≤ R.slots)
    (K : ∀ T' v L h', T'.heap = h' → OwP p l e R s m args below meth c n0 T' h' (k + c1) (n + s1) → Qc v h' L → OwG p e below s n0 KK NN Q T' { g with pc := g.pc + 3, stack := v.toList ++ rest }) : OwG p e below s n0 KK NN Q T g := by
  obtain ⟨L, X, eT, N⟩ := P
  obtain ⟨v, _, ⟨T', L', k', n'⟩, -, X', ⟨Lc, hQc, l', y', z'⟩, st⟩ := Jvm.LawKit.callS X hx hown (mvT hZ w1) (mvT hZ w2) (mvT hZ w3) (mvT hZ w4) hy hK hg hsize hlen hstack hW hdg (fun _ _ => ⟨has, eT, hc, hl⟩)
  dsimp only [Pt.U, Pt.locs, Pt.cells, Pt.slots] at X' l' y' z' st hQc
  subst l' y' z'
  exact (K T' v Lc _ rfl ⟨_, X', rfl, Fr.app N (hQ _ _ _ hQc)⟩ hQc).go st
theorem own_a0 {α : Type} {P : α → Prop} : ∀ x ∈ ([] : List α), P x := fun _ q => nomatch q
theorem own_aS {α : Type} {P : α → Prop} {y : α} {L : List α} (q : P y) (r : ∀ x ∈ L, P x) : ∀ x ∈ y :: L, P x := fun x z => (List.mem_cons.mp z).elim (fun u => u ▸ q) (r x)
theorem own_le {a b : Nat} (h : Nat.ble a b = true) : a ≤ b := Nat.le_of_ble_eq_true h
theorem own_cI (z : Int32) : (Value.int z).category = 1 := rfl
theorem own_cL (z : Int64) : (Value.long z).category = 2 := rfl
theorem own_cR (z : Addr) : (Value.ref z).category = 1 := rfl
theorem own_cN : Value.null.category = 1 := rfl
theorem own_cat {v : Value} (h : v.isRef = true) : v.category = 1 := by cases v <;> first | rfl | (cases h; done)
theorem own_nar {t : FieldType} {v : Value} (h : v.isRef = true) (ht : t.isReference = true := by rfl) : narrow t v = v := by cases t <;> first | (cases ht; done) | (cases v <;> first | rfl | (cases h; done))
theorem own_fit {t : FieldType} {v : Value} (h : v.isRef = true) (ht : t.isReference = true := by rfl) : fits t v = true := by cases t <;> first | (cases ht; done) | (cases v <;> first | rfl | (cases h; done))
theorem own_and255 (x : Int32) : ¬ nar .char ((x &&& (255 : Int32)).toUInt32.toUInt16.toUInt32.toInt32) < 0 ∧ ¬ (255 : Int32) < nar .char ((x &&& (255 : Int32)).toUInt32.toUInt16.toUInt32.toInt32) := by
  have t : ∀ k : Fin 256, ¬ nar .char ((Int32.ofNat k.val).toUInt32.toUInt16.toUInt32.toInt32) < 0 ∧ ¬ (255 : Int32) < nar .char ((Int32.ofNat k.val).toUInt32.toUInt16.toUInt32.toInt32) := by decide +kernel
  have h : (x &&& 255).toBitVec.toNat < 256 := by
    simp only [Int32.toBitVec_and, BitVec.toNat_and]
    exact Nat.lt_succ_of_le Nat.and_le_right
  have e : (x &&& 255) = Int32.ofNat (x &&& 255).toBitVec.toNat := by
    apply Int32.toBitVec_inj.mp
    show _ = BitVec.ofNat 32 _
    rw [BitVec.ofNat_toNat]; simp
  rw [e]
  exact t ⟨_, h⟩
def OwQ (Qc : Option Value → Heap → Prop) (n0 : Nat) (v : Option Value) (h : Heap) (L : List Loc) : Prop := Qc v h ∧ Fr n0 L
/-- a contract made a payer -/
theorem OwM.back {y : MethodName} {bytes : ByteArray} {maxL : Nat} {ret : Option FieldType} {rm : Room} {W : Nat} {as' : Array Value} {Qc : Option Value → Heap → Prop} (hM : OwM l Z y bytes maxL ret rm n0 as' h Qc)
    (hZ : Z.Warmed39 s.vm) (wc : (Jvm.Cond.code y bytes maxL ret).before a0 Z = true) (wz : (Jvm.Cond.initialized y.cls).before a0 Z = true) (hf : rm.frames + 1 ≤ R.frames) (hl : W + (maxL + 11) + rm.locals ≤ R.locals) :
    Back l R p e below s args y 3 W (fun A a => a = as' ∧ A.U.heap = h ∧ A.cells + rm.cells ≤ R.cells ∧ A.slots + rm.slots ≤ R.slots)
      (fun A _ v B => ∃ L, OwQ Qc n0 v B.U.heap L ∧ B.locs = A.locs ++ L ∧ B.cells = A.cells + rm.cells ∧ B.slots = A.slots + rm.slots) :=
  backOf (Q := OwQ Qc n0) hM hZ wc wz hf hl
end Own
end Jvm.Pilot.@@N@@
namespace Jvm.Pilot.@@N@@
open Jvm Jvm.ClassFile Sem Op Lib Jvm.Free Jvm.Stand Jvm.LawKit Jvm.RoadKit Bundle Jvm.Pilot.@@N@@.Jvm.D
section Own3
variable {p : Program} {l : Launch} {e : Env} {R : Room} {s : State} {m : MethodId} {args : Array Value} {below : List Frame} {meth : Method} {c : Code} {T : State} {k n : Nat} {Z : State} {a0 : Array Value} {h : Heap} {n0 KK NN : Nat} {Q : Option Value → Heap → Prop}
theorem own_i2b2 (x : Int32) : x.toInt8.toInt32.toInt8.toInt32 = x.toInt8.toInt32 := by simp
theorem OwP.stB (P : OwP p l e R s m args below meth c n0 T h k n) (hx : p.tables.exec = Jvm.exec) (hZ : Z.Warmed39 s.vm) {a : Addr} {kA : ClassId} {z j x : Int32} {vs : List Value} {dv : Value} (A : Arv Z h a kA .byte z vs dv) (hj0 : ¬ j < 0) (hj1 : j < z) {i : Nat} (hi : j.toNatClampNeg = i) (hi' : i < vs.length) {g : JFrame} (hg : g.method = m) {rest : List Value} (hs : g.stack = .int x :: .int j :: .ref a :: rest) (hd : decode c.code g.pc = .ok (.bastore, 1)) (ha : n0 ≤ a)
    (K : ∀ T' h', OwP p l e R s m args below meth c n0 T' h' k n → Wr h h' a j.toNatClampNeg (.int x.toInt8.toInt32) → Arv Z h' a kA .byte z (vs.set i (.int x.toInt8.toInt32)) dv → OwG p e below s n0 KK NN Q T' { g with pc := g.pc + 1, stack := rest }) : OwG p e below s n0 KK NN Q T g := by
  obtain ⟨L, X, eT, N⟩ := P
  obtain ⟨cl, A1, q1, S1, M1, H1, U1⟩ := A
  obtain ⟨T', h', X', e', W, st⟩ := RoadKit.stB X hx hZ eT A1 (inb_of S1 ⟨hj0, hj1⟩) hg hs hd
  exact (K T' h' ⟨_, X', e', Fr.snoc X' N ha⟩ W (Arv.set A1 q1 S1 M1 H1 U1 (fits_nar_byte _) W i hi hi')).go st
end Own3
end Jvm.Pilot.@@N@@
namespace Jvm.Pilot.@@N@@
open Jvm Jvm.ClassFile Sem Op Lib Jvm.Free Jvm.Stand Jvm.LawKit Jvm.RoadKit Bundle Jvm.Pilot.@@N@@.Jvm.D
section Own4
variable {p : Program} {l : Launch} {e : Env} {R : Room} {s : State} {m : MethodId} {args : Array Value} {below : List Frame} {meth : Method} {c : Code} {T : State} {k n : Nat} {Z : State} {a0 : Array Value} {h : Heap} {n0 KK NN : Nat} {Q : Option Value → Heap → Prop}
/-- a method that isn't static and has this code: it is declared -/
theorem own_declares {y : MethodName} {bytes : ByteArray} {maxL : Nat} {ret : Option FieldType} (w1 : (Jvm.Cond.instanceMethod y).before a0 Z = true) (w2 : (Jvm.Cond.code y bytes maxL ret).before a0 Z = true) : (Jvm.Cond.declares y).before a0 Z = true := by
  obtain ⟨mk, me, hn, hm, hs, -⟩ := Cond.instanceMethod_spec w1
  obtain ⟨me', cc, hm', -, -, -, -, -, -, hsig⟩ := Cond.code_spec hn w2
  cases hm.symm.trans hm'
  simp [Cond.before, Cond.holds, Cond.value, hn, hm, hs, hsig]
/-- no interface: told of one method of the class, it holds of another -/
theorem own_nf {C : String} {y y' : MethodName} (w : (Jvm.Cond.selects C y' y').before a0 Z = true) (hc : y'.cls = y.cls) : NotFace Z y := fun r0 h0 => by
  obtain ⟨c2, r2, m2, q1, q2, q3, q4, kP, hkP, hkPi⟩ := Cond.selects_spec w
  have e1 := findClass_of_methodNamed h0
  have e2 := findClass_of_methodNamed q3
  rw [hc] at e2
  have e3 := Option.some.inj (e1.symm.trans e2)
  exact ⟨kP, by rw [e3]; exact hkP, hkPi⟩
/-- the class's own method is the one that the lookup finds -/
theorem own_same {C : String} {y y' : MethodName} (w1 : (Jvm.Cond.instanceMethod y).before a0 Z = true) (w : (Jvm.Cond.selects C y' y').before a0 Z = true) (hc : y'.cls = y.cls) (hy : y.cls ≠ "java/lang/invoke/MethodHandle" ∧ y.cls ≠ "java/lang/invoke/VarHandle") : (Jvm.Cond.sameMethod y.cls y.cls y.name y.desc).before a0 Z = true := by
  obtain ⟨mk, me, hn, hm, hs, -⟩ := Cond.instanceMethod_spec w1
  obtain ⟨kr, hkr, hni⟩ := own_nf w hc mk hn
  have e1 := findClass_of_methodNamed hn
  have e2 := State.methodFound?_of_named hn hy
  simp [Cond.before, Cond.holds, Cond.value, e1, e2, hn, hkr, hni]
theorem OwP.superc (P : OwP p l e R s m args below meth c n0 T h k n) (hx : p.tables.exec = Jvm.exec) (hZ : Z.Warmed39 s.vm) {own KK' : String} {index : Nat} {y : MethodName} (hown : s.vm.findClass own = some m.cls) (w1 : (Jvm.Cond.methodLink own index y).before a0 Z = true) (w2 : (Jvm.Cond.sameMethod y.cls y.cls y.name y.desc).before a0 Z = true)
    (w3 : (Jvm.Cond.instanceMethod y).before a0 Z = true) (w4 : (Jvm.Cond.superclass own y.cls).before a0 Z = true) (hn : y.name ≠ "<init>")
    {W c1 s1 : Nat} {as' : Array Value} {Qc : Option Value → Heap → List Loc → Prop} (hK : Back l R p e below s args y 3 W (fun A a => a = as' ∧ A.U.heap = h ∧ A.cells + c1 ≤ R.cells ∧ A.slots + s1 ≤ R.slots) (fun A _ v B => ∃ L, Qc v B.U.heap L ∧ B.locs = A.locs ++ L ∧ B.cells = A.cells + c1 ∧ B.slots = A.slots + s1))
    (hQ : ∀ v h L, Qc v h L → Fr n0 L) {a : Addr} (F : Exa Z h a KK') {g : JFrame} (hg : g.method = m) (hsize : g.locals.size = c.maxLocals) {bytes : ByteArray} {maxL : Nat} {ret : Option FieldType} (wc : (Jvm.Cond.code y bytes maxL ret).before a0 Z = true) {argsL rest : List Value}
    (hlen : ∀ sig, parseMethodDescriptor y.desc = some sig → argsL.length = sig.parameters.length) (hstack : g.stack = argsL.reverse ++ .ref a :: rest) (hW : 2 * g.monitorRoom + (rest.map fun v => v.category).sum ≤ W)
    (hdg : decode c.code g.pc = .ok (.invokespecial index, 3)) (has : (Value.ref a :: argsL).toArray = as') (hc : k + c1 ≤ R.cells) (hl : n + s1 ≤ R.slots)
    (K : ∀ T' v L h', T'.heap = h' → OwP p l e R s m args below meth c n0 T' h' (k + c1) (n + s1) → Qc v h' L → OwG p e below s n0 KK NN Q T' { g with pc := g.pc + 3, stack := v.toList ++ rest }) : OwG p e below s n0 KK NN Q T g := by
  obtain ⟨L, X, eT, N⟩ := P
  obtain ⟨v, _, ⟨T', L', k', n'⟩, -, X', ⟨Lc, hQc, l', y', z'⟩, st⟩ := superBack X hx hZ hown w1 w2 w3 w4 hn hK eT (Ins.self F) hg hsize wc hlen hstack hW hdg (fun _ _ => ⟨has, eT, hc, hl⟩)
  dsimp only [Pt.U, Pt.locs, Pt.cells, Pt.slots] at X' l' y' z' st hQc
  subst l' y' z'
  exact (K T' v Lc _ rfl ⟨_, X', rfl, Fr.app N (hQ _ _ _ hQc)⟩ hQc).go fun t kt => st.trans kt
/-- invokevirtual where what selects isn't what is named -/
theorem OwP.virtualN (P : OwP p l e R s m args below meth c n0 T h k n) (hx : p.tables.exec = Jvm.exec) (hZ : Z.Warmed39 s.vm) {own C : String} {index : Nat} {y z : MethodName} (hown : s.vm.findClass own = some m.cls) (w1 : (Jvm.Cond.methodLink own index y).before a0 Z = true) (w2 : (Jvm.Cond.declares y).before a0 Z = true) (nf : NotFace Z y)
    (w3 : (Jvm.Cond.selects C y z).before a0 Z = true) (w4 : (Jvm.Cond.instanceMethod z).before a0 Z = true) (hy : y.cls ≠ "java/lang/invoke/MethodHandle" ∧ y.cls ≠ "java/lang/invoke/VarHandle")
    {W c1 s1 : Nat} {as' : Array Value} {Qc : Option Value → Heap → List Loc → Prop} (hK : Back l R p e below s args z 3 W (fun A a => a = as' ∧ A.U.heap = h ∧ A.cells + c1 ≤ R.cells ∧ A.slots + s1 ≤ R.slots) (fun A _ v B => ∃ L, Qc v B.U.heap L ∧ B.locs = A.locs ++ L ∧ B.cells = A.cells + c1 ∧ B.slots = A.slots + s1))
    (hQ : ∀ v h L, Qc v h L → Fr n0 L) {b : Addr} (E : Exa Z h b C) {g : JFrame} (hg : g.method = m) (hsize : g.locals.size = c.maxLocals) {argsL rest : List Value}
    (hlen : ∀ sig, parseMethodDescriptor y.desc = some sig → argsL.length = sig.parameters.length) (hstack : g.stack = argsL.reverse ++ .ref b :: rest) (hW : 2 * g.monitorRoom + (rest.map fun v => v.category).sum ≤ W)
    (hdg : decode c.code g.pc = .ok (.invokevirtual index, 3)) (has : (Value.ref b :: argsL).toArray = as') (hc : k + c1 ≤ R.cells) (hl : n + s1 ≤ R.slots)
    (K : ∀ T' v L h', T'.heap = h' → OwP p l e R s m args below meth c n0 T' h' (k + c1) (n + s1) → Qc v h' L → OwG p e below s n0 KK NN Q T' { g with pc := g.pc + 3, stack := v.toList ++ rest }) : OwG p e below s n0 KK NN Q T g := by
  obtain ⟨L, X, eT, N⟩ := P
  obtain ⟨cq, kq, qa, qb, qc⟩ := isOf hZ eT E
  have nf' : NotFace s y := fun r0 h0 => by
    have h0' : Z.methodNamed? y = some r0 := by
      have q := State.methodNamed?_setVm (s := Z) hZ.alike (x := y)
      have e1 : (Z.setVm s.vm).methodNamed? y = s.methodNamed? y := rfl
      rw [← q, e1]; exact h0
    obtain ⟨kr, hkr, hni⟩ := nf r0 h0'
    obtain ⟨k', hk', ek⟩ := hZ.alike.2.2 _ _ hkr
    exact ⟨k', hk', by rw [ek]; exact hni⟩
  obtain ⟨v, _, ⟨T', L', k', n'⟩, -, X', ⟨Lc, hQc, l', y', z'⟩, st⟩ := X.virtualBack hx hown (mvT hZ w1) (mvT hZ w2) nf' (mvT hZ w3) (mvT hZ w4) hy hK qa qc hg hsize (Steps.refl _) hlen hstack hW hdg (fun _ _ => ⟨has, eT, hc, hl⟩)
  dsimp only [Pt.U, Pt.locs, Pt.cells, Pt.slots] at X' l' y' z' st hQc
  subst l' y' z'
  exact (K T' v Lc _ rfl ⟨_, X', rfl, Fr.app N (hQ _ _ _ hQc)⟩ hQc).go fun t kt => st.trans kt
theorem OwP.newPE (P : OwP p l e R s m args below meth c n0 T h k n) (hx : p.tables.exec = Jvm.exec) (hZ : Z.Warmed39 s.vm) {aty : ArrayType} (w : (Jvm.Cond.arrayClass (newarray.typeOf aty)).before a0 Z = true) {g : JFrame} (hg : g.method = m) (hd : decode c.code g.pc = .ok (.newarray aty, 2)) {z : Int32} {rest : List Value} (hs : g.stack = .int z :: rest)
    (hn : ¬ z < 0) {cap : Nat} (hcap : z.toNatClampNeg ≤ cap) (hb : cap * 8 ≤ 536870912) (hc : k + 1 ≤ R.cells) (hl : n + cap ≤ R.slots) {ad : String} (had : "[" ++ (newarray.typeOf aty).toString = ad)
    (K : ∀ T' h' b kA, b = h.size → OwP p l e R s m args below meth c n0 T' h' (k + 1) (n + cap) → Ext h h' → Arv Z h' b kA (newarray.typeOf aty) z [] (defaultValue (newarray.typeOf aty)) → Exa Z h' b ad → OwG p e below s n0 KK NN Q T' { g with pc := g.pc + 2, stack := .ref b :: rest }) : OwG p e below s n0 KK NN Q T g := by
  obtain ⟨L, X, eT, N⟩ := P
  obtain ⟨T', h', kA, X', e', E, A, EA, st⟩ := RoadKit.newPE X hx hZ w eT hg hd hs hn hcap hb hc hl had
  exact (K T' h' _ kA rfl ⟨L, X', e', N⟩ E (Arv.new A hn) EA).go st
theorem OwP.castY (P : OwP p l e R s m args below meth c n0 T h k n) (hx : p.tables.exec = Jvm.exec) (hZ : Z.Warmed39 s.vm) {own K' : String} {index : Nat} (hown : s.vm.findClass own = some m.cls) (w : (Jvm.Cond.classLink own index K').before a0 Z = true) {a : Addr} (F : Ins Z h a K' true)
    {g : JFrame} (hg : g.method = m) {rest : List Value} (hs : g.stack = .ref a :: rest) (hd : decode c.code g.pc = .ok (.checkcast index, 3))
    (K : ∀ T', OwP p l e R s m args below meth c n0 T' h k n → OwG p e below s n0 KK NN Q T' { g with pc := g.pc + 3 }) : OwG p e below s n0 KK NN Q T g := by
  obtain ⟨L, X, eT, N⟩ := P
  obtain ⟨T', X', e', st⟩ := RoadKit.castY X hx hZ hown w eT F hg hs hd
  exact (K T' ⟨L, X', e', N⟩).go st
theorem OwP.cloneV (P : OwP p l e R s m args below meth c n0 T h k n) (hx : p.tables.exec = Jvm.exec) (hZ : Z.Warmed39 s.vm) {own ad : String} {index : Nat} (hown : s.vm.findClass own = some m.cls)
    (w1 : (Jvm.Cond.methodLink own index ⟨ad, "clone", "()Ljava/lang/Object;"⟩).before a0 Z = true) (w2 : (Jvm.Cond.sameMethod ad "java/lang/Object" "clone" "()Ljava/lang/Object;").before a0 Z = true) (w3 : (Jvm.Cond.native ⟨"java/lang/Object", "clone", "()Ljava/lang/Object;"⟩).before a0 Z = true)
    (w4 : (Jvm.Cond.instanceMethod ⟨"java/lang/Object", "clone", "()Ljava/lang/Object;"⟩).before a0 Z = true) (w5 : (Jvm.Cond.selects ad ⟨ad, "clone", "()Ljava/lang/Object;"⟩ ⟨"java/lang/Object", "clone", "()Ljava/lang/Object;"⟩).before a0 Z = true) (w6 : (Jvm.Cond.castable ad "java/lang/Cloneable").before a0 Z = true)
    {a : Addr} {kA : ClassId} {ty : FieldType} {z : Int32} {vs : List Value} {dv : Value} (F : Arv Z h a kA ty z vs dv) (E : Exa Z h a ad) {g : JFrame} (hg : g.method = m) (hsize : g.locals.size = c.maxLocals) {rest : List Value} (hst : g.stack = .ref a :: rest) (hd : decode c.code g.pc = .ok (.invokevirtual index, 3))
    (hf : 1 ≤ R.frames) {W cap : Nat} (hW : 2 * g.monitorRoom + (rest.map fun v => v.category).sum ≤ W) (hl : W + 14 ≤ R.locals) (hcap : z.toNatClampNeg ≤ cap) (hc : k + 1 ≤ R.cells) (hsl : n + cap ≤ R.slots)
    (K : ∀ T' h' b, b = h.size → OwP p l e R s m args below meth c n0 T' h' (k + 1) (n + cap) → Ext h h' → Arv Z h' b kA ty z vs dv → Exa Z h' b ad → OwG p e below s n0 KK NN Q T' { g with pc := g.pc + 3, stack := .ref b :: rest }) : OwG p e below s n0 KK NN Q T g := by
  obtain ⟨L, X, eT, N⟩ := P
  obtain ⟨T', h', X', e', E1, A, E2, st⟩ := RoadKit.cloneH X hx hZ hown w1 w2 w3 w4 w5 w6 eT F.arh E hg hsize hst hd hf hW hl hcap hc hsl
  exact (K T' h' _ rfl ⟨L, X', e', N⟩ E1 A E2).go st
end Own4
end Jvm.Pilot.@@N@@
namespace Jvm.Pilot.@@N@@
open Jvm Jvm.ClassFile Sem Op Lib Jvm.Free Jvm.Stand Jvm.LawKit Jvm.RoadKit Bundle Jvm.Pilot.@@N@@.Jvm.D
section Own2
variable {p : Program} {l : Launch} {e : Env} {R : Room} {s : State} {m : MethodId} {args : Array Value} {below : List Frame} {meth : Method} {c : Code} {T : State} {k n : Nat} {Z : State} {a0 : Array Value} {h : Heap} {n0 KK NN : Nat} {Q : Option Value → Heap → Prop} {EL : List (String × Nat)} {sf : List Addr} {own : String}
/-- as OwG, of a walk that may load String constants cold -/
def OwH (p : Program) (e : Env) (below : List Frame) (s Z : State) (EL : List (String × Nat)) (n0 KK NN : Nat) (Q : Option Value → Heap → Prop) (T : State) (g : JFrame) : Prop :=
  ∃ s₂ o, Steps p.tables e below (T.setTop g) s₂ ∧ s₂.status = .running ∧ Ended s₂ below o ∧ ∃ v L, o = .returned v ∧ (Q v s₂.heap ∧ Fr n0 L) ∧ CHr Z EL s.vm s.heap s₂.vm s₂.heap ∧ ReturnedEndW s o s₂ L KK NN
/-- where such a walk stands: the tables at hand are hidden; sf: the places of its own that no constant books -/
def OwC (p : Program) (l : Launch) (e : Env) (R : Room) (s : State) (m : MethodId) (args : Array Value) (below : List Frame) (meth : Method) (c : Code) (Z : State) (own : String) (EL : List (String × Nat)) (sf : List Addr) (n0 : Nat) (T : State) (h : Heap) (k n : Nat) : Prop :=
  ∃ (vm0 : Vm) (k0 : Nat) (locs : List Loc), Stand p l e R (s.setVm vm0) m args below meth c T locs k n ∧ T.heap = h ∧ Fr n0 locs ∧ s.Since vm0 k0 ∧ k0 ≤ h.size ∧ Z.Warmed39 vm0 ∧ vm0.findClass own = some m.cls ∧ CHr Z EL s.vm s.heap vm0 h ∧ ∀ x ∈ sf, x < h.size ∧ Safe Z EL vm0 h x
/-- a contract of a callee that may load String constants cold -/
def OwS (l : Launch) (Z : State) (EL : List (String × Nat)) (sf : List Addr) (y : MethodName) (bytes : ByteArray) (maxL : Nat) (ret : Option FieldType) (rm : Room) (n0 : Nat) (as' : Array Value) (h0 : Heap) (Q : Option Value → Heap → Prop) : Prop :=
  MetFree l y (head1 [Jvm.Cond.code y bytes maxL ret] rm) (fun a U => a = as' ∧ Z.Warmed39 U.vm ∧ U.heap = h0 ∧ CHv Z EL U.vm h0 ∧ ∀ x ∈ sf, x < h0.size ∧ Safe Z EL U.vm h0 x) (fun _ _ _ _ _ => True)
    (fun _ U o U' => ∃ v L, o = .returned v ∧ (Q v U'.heap ∧ Fr n0 L) ∧ CHr Z EL U.vm U.heap U'.vm U'.heap ∧ ReturnedEndW U o U' L rm.cells rm.slots)
theorem OwH.go {T' : State} {g g' : JFrame} (st : ∀ t, Steps p.tables e below (T'.setTop g') t → Steps p.tables e below (T.setTop g) t) (G : OwH p e below s Z EL n0 KK NN Q T' g') : OwH p e below s Z EL n0 KK NN Q T g := by
  obtain ⟨s₂, o, h1, r⟩ := G
  exact ⟨s₂, o, st _ h1, r⟩
theorem OwH.cast {g g' : JFrame} (q : g = g') (G : OwH p e below s Z EL n0 KK NN Q T g') : OwH p e below s Z EL n0 KK NN Q T g := q ▸ G
theorem OwC.here (P : OwC p l e R s m args below meth c Z own EL sf n0 T h k n) : At T m c below := by obtain ⟨_, _, _, X, _⟩ := P; exact X.here
theorem OwC.wide (P : OwC p l e R s m args below meth c Z own EL sf n0 T h k n) {k' n' : Nat} {sf' : List Addr} (h1 : k ≤ k') (h2 : n ≤ n') (h3 : ∀ x ∈ sf', x ∈ sf) : OwC p l e R s m args below meth c Z own EL sf' n0 T h k' n' := by
  obtain ⟨vm0, k0, L, X, a1, a2, a3, a4, a5, a6, a7, a8⟩ := P
  exact ⟨vm0, k0, L, Jvm.Stand.wide X (fun x hx _ => hx) h1 h2, a1, a2, a3, a4, a5, a6, a7, fun x hx => a8 x (h3 x hx)⟩
theorem OwS.of {y : MethodName} {bytes : ByteArray} {maxL : Nat} {ret : Option FieldType} {ws : List Jvm.Cond} {rm : Room} {as' : Array Value} {h0 : Heap} (pn : plainFor y = true)
    (body : ∀ (p : Program) (e : Env) (s : State) (m : MethodId) (below : List Frame) (meth : Method) (c : Code) (T : State), p.tables.exec = Jvm.exec → c.code = bytes → c.maxLocals = maxL → meth.name = y.name → meth.sig.returnType = ret → meth.locks = false → OwC p l e rm s m as' below meth c Z y.cls EL sf n0 T h0 0 0 → OwH p e below s Z EL n0 KK NN Q T (entryFrame m as' maxL)) :
    MetFree l y (head1 (Jvm.Cond.code y bytes maxL ret :: ws) rm) (fun a U => a = as' ∧ Z.Warmed39 U.vm ∧ U.heap = h0 ∧ CHv Z EL U.vm h0 ∧ ∀ x ∈ sf, x < h0.size ∧ Safe Z EL U.vm h0 x) (fun _ _ _ _ _ => True)
      (fun _ U o U' => ∃ v L, o = .returned v ∧ (Q v U'.heap ∧ Fr n0 L) ∧ CHr Z EL U.vm U.heap U'.vm U'.heap ∧ ReturnedEndW U o U' L KK NN) := by
  refine MetFree.of_bodySF pn hisR ?_
  intro p e s m args below meth c s₁ Bd hml0 hP hK
  obtain ⟨rfl, hZ, hh, hC, hsf⟩ := hP
  have X0 := Stand.of_body Bd
  have hW : s.WarmedH s.vm := by have q := X0.warmed; rw [Bd.state] at q; exact q
  refine body p e s m below meth c s₁ Bd.exec Bd.bytes hml0 (name_of_methodNamed Bd.named Bd.method).1 Bd.returns Bd.notSynchronized ⟨s.vm, 0, [], X0, by rw [← hh, Bd.state]; rfl, Fr.nil n0, hW.since 0, Nat.zero_le _, hZ, findClass_of_methodNamed Bd.named, ?_, hsf⟩
  subst hh
  exact CHr.refl hC
theorem OwS.mk {y : MethodName} {bytes : ByteArray} {maxL : Nat} {ret : Option FieldType} {rm : Room} {as' : Array Value} {h0 : Heap} (pn : plainFor y = true)
    (body : ∀ (p : Program) (e : Env) (s : State) (m : MethodId) (below : List Frame) (meth : Method) (c : Code) (T : State), p.tables.exec = Jvm.exec → c.code = bytes → c.maxLocals = maxL → meth.name = y.name → meth.sig.returnType = ret → meth.locks = false → OwC p l e rm s m as' below meth c Z y.cls EL sf n0 T h0 0 0 → OwH p e below s Z EL n0 rm.cells rm.slots Q T (entryFrame m as' maxL)) :
    OwS l Z EL sf y bytes maxL ret rm n0 as' h0 Q := OwS.of (ws := []) (Q := Q) pn body
theorem OwC.leave (P : OwC p l e R s m args below meth c Z own EL sf n0 T h k n) (hEL : EW Z a0 EL) (hlk : meth.locks = false) {v : Option Value} (hv : meth.sig.returnType = none → v = none) (hk : k ≤ KK) (hn' : n ≤ NN) (q : Q v h) :
    ∃ fs, (∀ (f : JFrame) (acts : List Action), f.method = m → f.locked = none → f.entered = [] → (doReturn e (T.setTop f) acts v).1 = T.setFrames fs) ∧ ((∀ g, Steps p.tables e below (T.setTop g) (T.setFrames fs) → OwH p e below s Z EL n0 KK NN Q T g)) := by
  obtain ⟨vm0, k0, L, X, e0, N, hS, hk0, hZ, hown, hC, hsf⟩ := P
  have X2 := Jvm.Stand.wide X (fun x hx _ => hx) hk hn'
  obtain ⟨fs, hr, hrun, hended, hW⟩ := X2.leaveW hS (by rw [e0]; exact hk0) hv
  refine ⟨fs, hr, fun g st => ⟨_, _, st, hrun, hended, _, _, rfl, ⟨by rw [← e0] at q; exact q, N⟩, ?_, hW⟩⟩
  have A := CHv.at X hZ hEL hC.1
  have B := hC.trans A
  rw [← e0] at B
  exact B
theorem OwC.ret (P : OwC p l e R s m args below meth c Z own EL sf n0 T h k n) (hEL : EW Z a0 EL) (hx : p.tables.exec = Jvm.exec) (hlk : meth.locks = false) {pc : Nat} {Ls : Array Slot} {w : Value} {t : FieldType} {i : Instr} {rest : List Value} (hret : meth.sig.returnType = some t) (hn : narrow t w = w)
    (hi : (i = .ireturn ∧ (t = .int ∨ t = .boolean ∨ t = .byte ∨ t = .char ∨ t = .short) ∧ ∃ z, w = .int z) ∨ (i = .lreturn ∧ t = .long ∧ ∃ z, w = .long z) ∨ (i = .dreturn ∧ t = .double ∧ ∃ z, w = .double z) ∨ (i = .freturn ∧ t = .float ∧ ∃ z, w = .float z) ∨ (i = .areturn ∧ t.isReference = true ∧ w.isRef = true))
    (hd : decode c.code pc = .ok (i, 1)) (hk : k ≤ KK) (hn' : n ≤ NN) (q : Q (some w) h) : OwH p e below s Z EL n0 KK NN Q T (mkF m pc Ls (w :: rest)) := by
  obtain ⟨fs, hr, G⟩ := P.leave hEL hlk (v := some w) (fun h => by rw [hret] at h; cases h) hk hn' q
  obtain ⟨vm0, k0, L, X, _⟩ := P
  exact G _ (retOut X hx hret hn hi hd hr)
theorem OwC.retI (P : OwC p l e R s m args below meth c Z own EL sf n0 T h k n) (hEL : EW Z a0 EL) (hx : p.tables.exec = Jvm.exec) (hlk : meth.locks = false) {pc : Nat} {Ls : Array Slot} {z : Int32} {rest : List Value} (hret : meth.sig.returnType = some .int)
    (hd : decode c.code pc = .ok (.ireturn, 1)) (hk : k ≤ KK) (hn' : n ≤ NN) (q : Q (some (.int z)) h) : OwH p e below s Z EL n0 KK NN Q T (mkF m pc Ls (.int z :: rest)) :=
  P.ret hEL hx hlk hret rfl (Or.inl ⟨rfl, Or.inl rfl, z, rfl⟩) hd hk hn' q
theorem OwC.retR (P : OwC p l e R s m args below meth c Z own EL sf n0 T h k n) (hEL : EW Z a0 EL) (hx : p.tables.exec = Jvm.exec) (hlk : meth.locks = false) {pc : Nat} {Ls : Array Slot} {w : Value} {t : FieldType} {rest : List Value} (hret : meth.sig.returnType = some t) (ht : t.isReference = true) (hw : w.isRef = true)
    (hd : decode c.code pc = .ok (.areturn, 1)) (hk : k ≤ KK) (hn' : n ≤ NN) (q : Q (some w) h) : OwH p e below s Z EL n0 KK NN Q T (mkF m pc Ls (w :: rest)) :=
  P.ret hEL hx hlk hret (by cases t <;> first | (cases ht; done) | (cases w <;> rfl)) (Or.inr (Or.inr (Or.inr (Or.inr ⟨rfl, ht, hw⟩)))) hd hk hn' q
theorem OwC.retN (P : OwC p l e R s m args below meth c Z own EL sf n0 T h k n) (hEL : EW Z a0 EL) (hx : p.tables.exec = Jvm.exec) (hlk : meth.locks = false) {pc : Nat} {Ls : Array Slot} {z : Int32} {t : FieldType} {rest : List Value} (hret : meth.sig.returnType = some t) (ht : t = .boolean ∨ t = .byte ∨ t = .char ∨ t = .short)
    (hd : decode c.code pc = .ok (.ireturn, 1)) (hk : k ≤ KK) (hn' : n ≤ NN) (q : Q (some (.int (nar t z))) h) : OwH p e below s Z EL n0 KK NN Q T (mkF m pc Ls (.int z :: rest)) := by
  obtain ⟨fs, hr, G⟩ := P.leave hEL hlk (v := some (.int (nar t z))) (fun h => by rw [hret] at h; cases h) hk hn' q
  obtain ⟨vm0, k0, L, X, _⟩ := P
  exact G _ (RoadKit.retN X hx hret ht hd hr)
theorem OwC.retV (P : OwC p l e R s m args below meth c Z own EL sf n0 T h k n) (hEL : EW Z a0 EL) (hx : p.tables.exec = Jvm.exec) (hlk : meth.locks = false) {pc : Nat} {Ls : Array Slot} (hret : meth.sig.returnType = none)
    (hd : decode c.code pc = .ok (.return_, 1)) (hk : k ≤ KK) (hn' : n ≤ NN) (q : Q none h) : OwH p e below s Z EL n0 KK NN Q T (mkF m pc Ls []) := by
  obtain ⟨fs, hr, G⟩ := P.leave hEL hlk (v := none) (fun _ => rfl) hk hn' q
  obtain ⟨vm0, k0, L, X, _⟩ := P
  exact G _ (X.returnOut hx hret hd hr)
theorem OwC.getF (P : OwC p l e R s m args below meth c Z own EL sf n0 T h k n) (hx : p.tables.exec = Jvm.exec) {R0 O nm d host : String} {index : Nat} (w : (Jvm.Cond.fieldLink own index R0 nm d).before a0 Z = true ∨ (Jvm.Cond.fieldLinkNest own index R0 nm d host).before a0 Z = true) (via : Via Z R0 O nm d)
    {a : Addr} {v : Value} (F : Fld Z h a O nm d v) {g : JFrame} (hg : g.method = m) {rest : List Value} (hs : g.stack = .ref a :: rest) (hd : decode c.code g.pc = .ok (.getfield index, 3))
    (K : ∀ T', OwC p l e R s m args below meth c Z own EL sf n0 T' h k n → OwH p e below s Z EL n0 KK NN Q T' { g with pc := g.pc + 3, stack := v :: rest }) : OwH p e below s Z EL n0 KK NN Q T g := by
  obtain ⟨vm0, k0, L, X, eT, N, hS, hk0, hZ, hown, hC, hsf⟩ := P
  obtain ⟨T', X', e', st⟩ := RoadKit.getF X hx hZ hown w via eT F hg hs hd
  exact (K T' ⟨vm0, k0, L, X', e', N, hS, hk0, hZ, hown, hC, hsf⟩).go st
theorem OwC.getS (P : OwC p l e R s m args below meth c Z own EL sf n0 T h k n) (hx : p.tables.exec = Jvm.exec) {R0 O nm d host : String} {index : Nat} (w : (Jvm.Cond.fieldLink own index R0 nm d).before a0 Z = true ∨ (Jvm.Cond.fieldLinkNest own index R0 nm d host).before a0 Z = true) (via : Via Z R0 O nm d)
    {v : Value} (F : Sta Z h O nm d v) {g : JFrame} (hg : g.method = m) (hd : decode c.code g.pc = .ok (.getstatic index, 3))
    (K : ∀ T', OwC p l e R s m args below meth c Z own EL sf n0 T' h k n → OwH p e below s Z EL n0 KK NN Q T' { g with pc := g.pc + 3, stack := v :: g.stack }) : OwH p e below s Z EL n0 KK NN Q T g := by
  obtain ⟨vm0, k0, L, X, eT, N, hS, hk0, hZ, hown, hC, hsf⟩ := P
  obtain ⟨T', X', e', st⟩ := RoadKit.getS2 X hx hZ hown w via eT F hg hd
  exact (K T' ⟨vm0, k0, L, X', e', N, hS, hk0, hZ, hown, hC, hsf⟩).go st
theorem OwC.putF (P : OwC p l e R s m args below meth c Z own EL sf n0 T h k n) (hx : p.tables.exec = Jvm.exec) {R0 O nm d host C : String} {index kk : Nat} {ty : FieldType} (w : (Jvm.Cond.fieldLink own index R0 nm d).before a0 Z = true ∨ (Jvm.Cond.fieldLinkNest own index R0 nm d host).before a0 Z = true) (via : Via Z R0 O nm d)
    {a : Addr} {v old : Value} (F : Fld Z h a O nm d old) (E : Exa Z h a C) (L : (Jvm.Cond.lays C O nm d).before a0 Z = true ∨ ((Jvm.Cond.laysFinal C O nm d).before a0 Z = true ∧ own = O ∧ meth.name = "<init>")) (wi : (Jvm.Cond.instantiable C kk).before a0 Z = true)
    (hty : parseFieldDescriptor d = some ty) (hn : narrow ty v = v) (hf : fits ty v = true) {g : JFrame} (hg : g.method = m) {rest : List Value} (hs : g.stack = v :: .ref a :: rest) (hd : decode c.code g.pc = .ok (.putfield index, 3)) (ha : n0 ≤ a) (hsa : a ∈ sf ∨ (C ≠ "java/lang/String" ∧ C ≠ "[B"))
    (K : ∀ T' h', OwC p l e R s m args below meth c Z own EL sf n0 T' h' k n → Wr h h' a (Jvm.RoadKit.slotOf Z O nm d) v → OwH p e below s Z EL n0 KK NN Q T' { g with pc := g.pc + 3, stack := rest }) : OwH p e below s Z EL n0 KK NN Q T g := by
  obtain ⟨vm0, k0, L0, X, eT, N, hS, hk0, hZ, hown, hC, hsf⟩ := P
  obtain ⟨T', h', X', e', W, st⟩ := RoadKit.putF X hx hZ hown w via eT F E L wi hty hn hf hg hs hd
  have S : Safe Z EL vm0 h a := hsa.elim (fun q => (hsf a q).2) (fun q => Safe.exa hZ.alike E q.1 q.2)
  exact (K T' h' ⟨vm0, k0, _, X', e', Fr.snoc X' N ha, hS, Nat.le_trans hk0 (Keep.of_wr W).1, hZ, hown, hC.trans (CHr.wr W S hC.1), fun x hx => ⟨Nat.lt_of_lt_of_le (hsf x hx).1 (Keep.of_wr W).1, Safe.wr W S hC.1 (hsf x hx).2⟩⟩ W).go st
theorem OwC.putFN (P : OwC p l e R s m args below meth c Z own EL sf n0 T h k n) (hx : p.tables.exec = Jvm.exec) {R0 O nm d C : String} {index kk : Nat} {ty : FieldType} (w : (Jvm.Cond.fieldLink own index R0 nm d).before a0 Z = true) (via : Via Z R0 O nm d)
    {a : Addr} {v v' old : Value} (F : Fld Z h a O nm d old) (E : Exa Z h a C) (L : (Jvm.Cond.lays C O nm d).before a0 Z = true ∨ ((Jvm.Cond.laysFinal C O nm d).before a0 Z = true ∧ own = O ∧ meth.name = "<init>")) (wi : (Jvm.Cond.instantiable C kk).before a0 Z = true)
    (hty : parseFieldDescriptor d = some ty) (hn : narrow ty v = v') (hf : fits ty v' = true) {g : JFrame} (hg : g.method = m) {rest : List Value} (hs : g.stack = v :: .ref a :: rest) (hd : decode c.code g.pc = .ok (.putfield index, 3)) (ha : n0 ≤ a) (hsa : a ∈ sf ∨ (C ≠ "java/lang/String" ∧ C ≠ "[B"))
    (K : ∀ T' h', OwC p l e R s m args below meth c Z own EL sf n0 T' h' k n → Wr h h' a (Jvm.RoadKit.slotOf Z O nm d) v' → OwH p e below s Z EL n0 KK NN Q T' { g with pc := g.pc + 3, stack := rest }) : OwH p e below s Z EL n0 KK NN Q T g := by
  obtain ⟨vm0, k0, L0, X, eT, N, hS, hk0, hZ, hown, hC, hsf⟩ := P
  obtain ⟨T', h', X', e', W, st⟩ := RoadKit.putFN X hx hZ hown w via eT F E L wi hty hn hf hg hs hd
  have S : Safe Z EL vm0 h a := hsa.elim (fun q => (hsf a q).2) (fun q => Safe.exa hZ.alike E q.1 q.2)
  exact (K T' h' ⟨vm0, k0, _, X', e', Fr.snoc X' N ha, hS, Nat.le_trans hk0 (Keep.of_wr W).1, hZ, hown, hC.trans (CHr.wr W S hC.1), fun x hx => ⟨Nat.lt_of_lt_of_le (hsf x hx).1 (Keep.of_wr W).1, Safe.wr W S hC.1 (hsf x hx).2⟩⟩ W).go st
theorem OwC.newO (P : OwC p l e R s m args below meth c Z own EL sf n0 T h k n) (hx : p.tables.exec = Jvm.exec) {C : String} {index nn : Nat} (w : (Jvm.Cond.classLink own index C).before a0 Z = true) (wi : (Jvm.Cond.instantiable C nn).before a0 Z = true) (wz : (Jvm.Cond.initialized C).before a0 Z = true)
    {g : JFrame} (hg : g.method = m) (hd : decode c.code g.pc = .ok (.new index, 3)) (hc : k + 1 ≤ R.cells) (hl : n + nn ≤ R.slots)
    (K : ∀ T' h' b, b = h.size → OwC p l e R s m args below meth c Z own EL (b :: sf) n0 T' h' (k + 1) (n + nn) → Ext h h' → Exa Z h' b C → (∀ {O nm d : String} {ty : FieldType}, Laid Z a0 C O nm d → parseFieldDescriptor d = some ty → Fld Z h' b O nm d (defaultValue ty)) → OwH p e below s Z EL n0 KK NN Q T' { g with pc := g.pc + 3, stack := .ref b :: g.stack }) : OwH p e below s Z EL n0 KK NN Q T g := by
  obtain ⟨vm0, k0, L, X, eT, N, hS, hk0, hZ, hown, hC, hsf⟩ := P
  obtain ⟨T', h', X', e', E, A, D, -, st⟩ := RoadKit.newO X hx hZ hown w wi wz eT hg hd hc hl
  refine (K T' h' _ rfl ⟨vm0, k0, L, X', e', N, hS, Nat.le_trans hk0 E.1, hZ, hown, hC.trans (CHr.ext E hC.1), fun x hx => ?_⟩ E A D).go st
  rcases List.mem_cons.mp hx with rfl | hx
  · exact ⟨A.lt, Safe.ext E hC.1 (Safe.new (Nat.le_refl _))⟩
  · exact ⟨Nat.lt_of_lt_of_le (hsf x hx).1 E.1, Safe.ext E hC.1 (hsf x hx).2⟩
theorem OwC.newP (P : OwC p l e R s m args below meth c Z own EL sf n0 T h k n) (hx : p.tables.exec = Jvm.exec) {aty : ArrayType} (w : (Jvm.Cond.arrayClass (newarray.typeOf aty)).before a0 Z = true) {g : JFrame} (hg : g.method = m) (hd : decode c.code g.pc = .ok (.newarray aty, 2)) {z : Int32} {rest : List Value} (hs : g.stack = .int z :: rest)
    (hn : ¬ z < 0) {cap : Nat} (hcap : z.toNatClampNeg ≤ cap) (hb : cap * 8 ≤ 536870912) (hc : k + 1 ≤ R.cells) (hl : n + cap ≤ R.slots)
    (K : ∀ T' h' b kA, b = h.size → OwC p l e R s m args below meth c Z own EL (b :: sf) n0 T' h' (k + 1) (n + cap) → Ext h h' → Arv Z h' b kA (newarray.typeOf aty) z [] (defaultValue (newarray.typeOf aty)) → OwH p e below s Z EL n0 KK NN Q T' { g with pc := g.pc + 2, stack := .ref b :: rest }) : OwH p e below s Z EL n0 KK NN Q T g := by
  obtain ⟨vm0, k0, L, X, eT, N, hS, hk0, hZ, hown, hC, hsf⟩ := P
  obtain ⟨T', h', kA, X', e', E, A, st⟩ := RoadKit.newP X hx hZ w eT hg hd hs hn hcap hb hc hl
  refine (K T' h' _ kA rfl ⟨vm0, k0, L, X', e', N, hS, Nat.le_trans hk0 E.1, hZ, hown, hC.trans (CHr.ext E hC.1), fun x hx => ?_⟩ E (Arv.new A hn)).go st
  rcases List.mem_cons.mp hx with rfl | hx
  · exact ⟨A.lt, Safe.ext E hC.1 (Safe.new (Nat.le_refl _))⟩
  · exact ⟨Nat.lt_of_lt_of_le (hsf x hx).1 E.1, Safe.ext E hC.1 (hsf x hx).2⟩
theorem OwC.initO (P : OwC p l e R s m args below meth c Z own EL sf n0 T h k n) (hx : p.tables.exec = Jvm.exec) {idx : Nat} (w1 : (Jvm.Cond.methodLink own idx Lib.objectInit).before a0 Z = true) (w2 : (Jvm.Cond.instanceMethod Lib.objectInit).before a0 Z = true)
    (w3 : (Jvm.Cond.code Lib.objectInit ⟨#[0xb1]⟩ 1 none).before a0 Z = true) {g : JFrame} (hg : g.method = m) (hsize : g.locals.size = c.maxLocals) {a : Addr} {rest : List Value} (hs : g.stack = .ref a :: rest) (hd : decode c.code g.pc = .ok (.invokespecial idx, 3))
    (hf : 1 ≤ R.frames) {W : Nat} (hW : 2 * g.monitorRoom + (rest.map fun v => v.category).sum ≤ W) (hl : W + 12 ≤ R.locals)
    (K : ∀ T', OwC p l e R s m args below meth c Z own EL sf n0 T' h k n → OwH p e below s Z EL n0 KK NN Q T' { g with pc := g.pc + 3, stack := rest }) : OwH p e below s Z EL n0 KK NN Q T g := by
  obtain ⟨vm0, k0, L, X, eT, N, hS, hk0, hZ, hown, hC, hsf⟩ := P
  obtain ⟨T', X', e', st⟩ := RoadKit.initO X hx hZ hown w1 w2 w3 eT hg hsize hs hd hf hW hl
  exact (K T' ⟨vm0, k0, L, X', e', N, hS, hk0, hZ, hown, hC, hsf⟩).go st
theorem OwC.stC (P : OwC p l e R s m args below meth c Z own EL sf n0 T h k n) (hx : p.tables.exec = Jvm.exec) {a : Addr} {kA : ClassId} {z j x : Int32} {vs : List Value} {dv : Value} (A : Arv Z h a kA .char z vs dv) (hj0 : ¬ j < 0) (hj1 : j < z) {i : Nat} (hi : j.toNatClampNeg = i) (hi' : i < vs.length) {g : JFrame} (hg : g.method = m) {rest : List Value} (hs : g.stack = .int x :: .int j :: .ref a :: rest) (hd : decode c.code g.pc = .ok (.castore, 1)) (ha : n0 ≤ a)
    (K : ∀ T' h', OwC p l e R s m args below meth c Z own EL sf n0 T' h' k n → Wr h h' a j.toNatClampNeg (.int (nar .char x)) → Arv Z h' a kA .char z (vs.set i (.int (nar .char x))) dv → OwH p e below s Z EL n0 KK NN Q T' { g with pc := g.pc + 1, stack := rest }) : OwH p e below s Z EL n0 KK NN Q T g := by
  obtain ⟨vm0, k0, L, X, eT, N, hS, hk0, hZ, hown, hC, hsf⟩ := P
  obtain ⟨cl, A1, q1, S1, M1, H1, U1⟩ := A
  obtain ⟨T', h', X', e', W, st⟩ := RoadKit.stC X hx hZ eT A1 (inb_of S1 ⟨hj0, hj1⟩) hg hs hd
  have S : Safe Z EL vm0 h a := Safe.arr hZ.alike A1 (by decide)
  exact (K T' h' ⟨vm0, k0, _, X', e', Fr.snoc X' N ha, hS, Nat.le_trans hk0 (Keep.of_wr W).1, hZ, hown, hC.trans (CHr.wr W S hC.1), fun x hx => ⟨Nat.lt_of_lt_of_le (hsf x hx).1 (Keep.of_wr W).1, Safe.wr W S hC.1 (hsf x hx).2⟩⟩ W (Arv.set A1 q1 S1 M1 H1 U1 (fits_nar_char _) W i hi hi')).go st
/-- behind a call of a callee that loads no constant -/
theorem OwC.after {vm0 : Vm} {k0 : Nat} {L Lc : List Loc} {T' : State} {h' : Heap} {c1 s1 : Nat} {ws : List Addr} (X' : Stand p l e R (s.setVm vm0) m args below meth c T' (L ++ Lc) (k + c1) (n + s1)) (e' : T'.heap = h') (N : Fr n0 L) (N' : Fr n0 Lc) (hS : s.Since vm0 k0) (hk0 : k0 ≤ h.size) (hZ : Z.Warmed39 vm0) (hown : vm0.findClass own = some m.cls) (hC : CHr Z EL s.vm s.heap vm0 h) (hsf : ∀ x ∈ sf, x < h.size ∧ Safe Z EL vm0 h x)
    (Kp : Keep h h' ws) (hws : ∀ x ∈ ws, x ∈ sf ∨ ∃ C, Exa Z h x C ∧ C ≠ "java/lang/String" ∧ C ≠ "[B") : OwC p l e R s m args below meth c Z own EL sf n0 T' h' (k + c1) (n + s1) := by
  have hs : ∀ x ∈ ws, Safe Z EL vm0 h x := fun x hx => (hws x hx).elim (fun q => (hsf x q).2) (fun ⟨C, E, q1, q2⟩ => Safe.exa hZ.alike E q1 q2)
  exact ⟨vm0, k0, _, X', e', Fr.app N N', hS, Nat.le_trans hk0 Kp.1, hZ, hown, hC.trans (CHr.keep Kp hs hC.1), fun x hx => ⟨Nat.lt_of_lt_of_le (hsf x hx).1 Kp.1, Safe.keep Kp hs hC.1 (hsf x hx).2⟩⟩
/-- behind a call of a callee that may have loaded some -/
theorem OwC.afterS {vm0 : Vm} {k0 : Nat} {L Lc : List Loc} {T' : State} {h' : Heap} {c1 s1 : Nat} (X' : Stand p l e R (s.setVm T'.vm) m args below meth c T' (L ++ Lc) (k + c1) (n + s1)) (e' : T'.heap = h') (N : Fr n0 L) (N' : Fr n0 Lc) (hS : s.Since vm0 k0) (hk0 : k0 ≤ h.size) (hZ : Z.Warmed39 vm0) (hown : vm0.findClass own = some m.cls) (hC : CHr Z EL s.vm s.heap vm0 h) (hsf : ∀ x ∈ sf, x < h.size ∧ Safe Z EL vm0 h x)
    (h2 : (s.setVm vm0).Since T'.vm T'.heap.size) (hgr : h.size ≤ T'.heap.size) (hC2 : CHr Z EL vm0 h T'.vm h') : OwC p l e R s m args below meth c Z own EL sf n0 T' h' (k + c1) (n + s1) := by
  subst e'
  exact ⟨T'.vm, _, _, X', rfl, Fr.app N N', hS.trans h2 (Nat.le_trans hk0 hgr), Nat.le_refl _, State.Warmed39.trans (t := s.setVm vm0) hZ h2.1, (h2.1.alike.findClass _ _).trans hown, hC.trans hC2, fun x hx => ⟨Nat.lt_of_lt_of_le (hsf x hx).1 hgr, hC2.safe (hsf x hx).1 (hsf x hx).2⟩⟩
theorem OwC.special (P : OwC p l e R s m args below meth c Z own EL sf n0 T h k n) (hx : p.tables.exec = Jvm.exec) {index : Nat} {y : MethodName} (hy1 : y.name = "<init>") (w1 : (Jvm.Cond.methodLink own index y).before a0 Z = true) (w2 : (Jvm.Cond.instanceMethod y).before a0 Z = true)
    {bytes : ByteArray} {maxL : Nat} (w3 : (Jvm.Cond.code y bytes maxL none).before a0 Z = true) (hy : y.cls ≠ "java/lang/invoke/MethodHandle" ∧ y.cls ≠ "java/lang/invoke/VarHandle")
    {W c1 s1 : Nat} {as' : Array Value} {Qc : Option Value → Heap → List Loc → Prop} (hK : ∀ vm0, Z.Warmed39 vm0 → Back l R p e below (s.setVm vm0) args y 3 W (fun A a => a = as' ∧ A.U.heap = h ∧ A.cells + c1 ≤ R.cells ∧ A.slots + s1 ≤ R.slots) (fun A _ v B => ∃ L, Qc v B.U.heap L ∧ B.locs = A.locs ++ L ∧ B.cells = A.cells + c1 ∧ B.slots = A.slots + s1))
    (hQ : ∀ v h L, Qc v h L → Fr n0 L) {ws : List Addr} (hKp : ∀ v h' L, Qc v h' L → Keep h h' ws) (hws : ∀ x ∈ ws, x ∈ sf ∨ ∃ C, Exa Z h x C ∧ C ≠ "java/lang/String" ∧ C ≠ "[B") {g : JFrame} (hg : g.method = m) (hsize : g.locals.size = c.maxLocals) {a : Addr} {argsL rest : List Value}
    (hlen : ∀ sig, parseMethodDescriptor y.desc = some sig → argsL.length = sig.parameters.length) (hstack : g.stack = argsL.reverse ++ .ref a :: rest) (hW : 2 * g.monitorRoom + (rest.map fun v => v.category).sum ≤ W)
    (hdg : decode c.code g.pc = .ok (.invokespecial index, 3)) (has : (Value.ref a :: argsL).toArray = as') (hc : k + c1 ≤ R.cells) (hl : n + s1 ≤ R.slots)
    (K : ∀ T' v L h', T'.heap = h' → OwC p l e R s m args below meth c Z own EL sf n0 T' h' (k + c1) (n + s1) → Qc v h' L → OwH p e below s Z EL n0 KK NN Q T' { g with pc := g.pc + 3, stack := v.toList ++ rest }) : OwH p e below s Z EL n0 KK NN Q T g := by
  obtain ⟨vm0, k0, L, X, eT, N, hS, hk0, hZ, hown, hC, hsf⟩ := P
  obtain ⟨v, _, ⟨T', L', k', n'⟩, -, X', ⟨Lc, hQc, l', y', z'⟩, st⟩ := X.specialBack hx hy1 hown (mvT (s := s.setVm vm0) hZ w1) (mvT (s := s.setVm vm0) hZ w2) (mvT (s := s.setVm vm0) hZ w3) hy (hK vm0 hZ) hg hsize (Steps.refl _) hlen hstack hW hdg (fun _ _ => ⟨has, eT, hc, hl⟩)
  dsimp only [Pt.U, Pt.locs, Pt.cells, Pt.slots] at X' l' y' z' st hQc
  subst l' y' z'
  exact (K T' v Lc _ rfl (OwC.after X' rfl N (hQ _ _ _ hQc) hS hk0 hZ hown hC hsf (hKp _ _ _ hQc) hws) hQc).go fun t kt => st.trans kt
theorem OwC.virtual (P : OwC p l e R s m args below meth c Z own EL sf n0 T h k n) (hx : p.tables.exec = Jvm.exec) {C : String} {index : Nat} {y z : MethodName} (w1 : (Jvm.Cond.methodLink own index y).before a0 Z = true) (w2 : (Jvm.Cond.declares y).before a0 Z = true) (nf : ∀ vm0, Z.Warmed39 vm0 → NotFace (s.setVm vm0) y)
    (w3 : (Jvm.Cond.selects C y z).before a0 Z = true) (w4 : (Jvm.Cond.instanceMethod z).before a0 Z = true) (hy : y.cls ≠ "java/lang/invoke/MethodHandle" ∧ y.cls ≠ "java/lang/invoke/VarHandle")
    {W c1 s1 : Nat} {as' : Array Value} {Qc : Option Value → Heap → List Loc → Prop} (hK : ∀ vm0, Z.Warmed39 vm0 → Back l R p e below (s.setVm vm0) args z 3 W (fun A a => a = as' ∧ A.U.heap = h ∧ A.cells + c1 ≤ R.cells ∧ A.slots + s1 ≤ R.slots) (fun A _ v B => ∃ L, Qc v B.U.heap L ∧ B.locs = A.locs ++ L ∧ B.cells = A.cells + c1 ∧ B.slots = A.slots + s1))
    (hQ : ∀ v h L, Qc v h L → Fr n0 L) {ws : List Addr} (hKp : ∀ v h' L, Qc v h' L → Keep h h' ws) (hws : ∀ x ∈ ws, x ∈ sf ∨ ∃ C, Exa Z h x C ∧ C ≠ "java/lang/String" ∧ C ≠ "[B") {b : Addr} (E : Exa Z h b C) {g : JFrame} (hg : g.method = m) (hsize : g.locals.size = c.maxLocals) {argsL rest : List Value}
    (hlen : ∀ sig, parseMethodDescriptor y.desc = some sig → argsL.length = sig.parameters.length) (hstack : g.stack = argsL.reverse ++ .ref b :: rest) (hW : 2 * g.monitorRoom + (rest.map fun v => v.category).sum ≤ W)
    (hdg : decode c.code g.pc = .ok (.invokevirtual index, 3)) (has : (Value.ref b :: argsL).toArray = as') (hc : k + c1 ≤ R.cells) (hl : n + s1 ≤ R.slots)
    (K : ∀ T' v L h', T'.heap = h' → OwC p l e R s m args below meth c Z own EL sf n0 T' h' (k + c1) (n + s1) → Qc v h' L → OwH p e below s Z EL n0 KK NN Q T' { g with pc := g.pc + 3, stack := v.toList ++ rest }) : OwH p e below s Z EL n0 KK NN Q T g := by
  obtain ⟨vm0, k0, L, X, eT, N, hS, hk0, hZ, hown, hC, hsf⟩ := P
  obtain ⟨cq, kq, qa, qb, qc⟩ := isOf (s := s.setVm vm0) hZ eT E
  obtain ⟨v, _, ⟨T', L', k', n'⟩, -, X', ⟨Lc, hQc, l', y', z'⟩, st⟩ := X.virtualBack hx hown (mvT (s := s.setVm vm0) hZ w1) (mvT (s := s.setVm vm0) hZ w2) (nf vm0 hZ) (mvT (s := s.setVm vm0) hZ w3) (mvT (s := s.setVm vm0) hZ w4) hy (hK vm0 hZ) qa qc hg hsize (Steps.refl _) hlen hstack hW hdg (fun _ _ => ⟨has, eT, hc, hl⟩)
  dsimp only [Pt.U, Pt.locs, Pt.cells, Pt.slots] at X' l' y' z' st hQc
  subst l' y' z'
  exact (K T' v Lc _ rfl (OwC.after X' rfl N (hQ _ _ _ hQc) hS hk0 hZ hown hC hsf (hKp _ _ _ hQc) hws) hQc).go fun t kt => st.trans kt
theorem OwC.stat (P : OwC p l e R s m args below meth c Z own EL sf n0 T h k n) (hx : p.tables.exec = Jvm.exec) {index : Nat} {y : MethodName} {bytes : ByteArray} {maxL : Nat} {ret : Option FieldType} (w1 : (Jvm.Cond.methodLink own index y).before a0 Z = true) (w2 : (Jvm.Cond.static y).before a0 Z = true) (w3 : (Jvm.Cond.initialized y.cls).before a0 Z = true)
    (w4 : (Jvm.Cond.code y bytes maxL ret).before a0 Z = true) (hy : y.cls ≠ "java/lang/invoke/MethodHandle" ∧ y.cls ≠ "java/lang/invoke/VarHandle")
    {W c1 s1 : Nat} {as' : Array Value} {Qc : Option Value → Heap → List Loc → Prop} (hK : ∀ vm0, Z.Warmed39 vm0 → Back l R p e below (s.setVm vm0) args y 3 W (fun A a => a = as' ∧ A.U.heap = h ∧ A.cells + c1 ≤ R.cells ∧ A.slots + s1 ≤ R.slots) (fun A _ v B => ∃ L, Qc v B.U.heap L ∧ B.locs = A.locs ++ L ∧ B.cells = A.cells + c1 ∧ B.slots = A.slots + s1))
    (hQ : ∀ v h L, Qc v h L → Fr n0 L) {ws : List Addr} (hKp : ∀ v h' L, Qc v h' L → Keep h h' ws) (hws : ∀ x ∈ ws, x ∈ sf ∨ ∃ C, Exa Z h x C ∧ C ≠ "java/lang/String" ∧ C ≠ "[B") {g : JFrame} (hg : g.method = m) (hsize : g.locals.size = c.maxLocals) {argsL rest : List Value}
    (hlen : ∀ sig, parseMethodDescriptor y.desc = some sig → argsL.length = sig.parameters.length) (hstack : g.stack = argsL.reverse ++ rest) (hW : 2 * g.monitorRoom + (rest.map fun v => v.category).sum ≤ W)
    (hdg : decode c.code g.pc = .ok (.invokestatic index, 3)) (has : argsL.toArray = as') (hc : k + c1 ≤ R.cells) (hl : n + s1 ≤ R.slots)
    (K : ∀ T' v L h', T'.heap = h' → OwC p l e R s m args below meth c Z own EL sf n0 T' h' (k + c1) (n + s1) → Qc v h' L → OwH p e below s Z EL n0 KK NN Q T' { g with pc := g.pc + 3, stack := v.toList ++ rest }) : OwH p e below s Z EL n0 KK NN Q T g := by
  obtain ⟨vm0, k0, L, X, eT, N, hS, hk0, hZ, hown, hC, hsf⟩ := P
  obtain ⟨v, _, ⟨T', L', k', n'⟩, -, X', ⟨Lc, hQc, l', y', z'⟩, st⟩ := Jvm.LawKit.callS X hx hown (mvT (s := s.setVm vm0) hZ w1) (mvT (s := s.setVm vm0) hZ w2) (mvT (s := s.setVm vm0) hZ w3) (mvT (s := s.setVm vm0) hZ w4) hy (hK vm0 hZ) hg hsize hlen hstack hW hdg (fun _ _ => ⟨has, eT, hc, hl⟩)
  dsimp only [Pt.U, Pt.locs, Pt.cells, Pt.slots] at X' l' y' z' st hQc
  subst l' y' z'
  exact (K T' v Lc _ rfl (OwC.after X' rfl N (hQ _ _ _ hQc) hS hk0 hZ hown hC hsf (hKp _ _ _ hQc) hws) hQc).go st
/-- a cold contract made a payer -/
theorem OwS.back {y : MethodName} {bytes : ByteArray} {maxL : Nat} {ret : Option FieldType} {rm : Room} {W : Nat} {as' : Array Value} {Qc : Option Value → Heap → Prop} {vm0 : Vm} (hM : OwS l Z EL sf y bytes maxL ret rm n0 as' h Qc)
    (hZ : Z.Warmed39 vm0) (wc : (Jvm.Cond.code y bytes maxL ret).before a0 Z = true) (wz : (Jvm.Cond.initialized y.cls).before a0 Z = true) (hf : rm.frames + 1 ≤ R.frames) (hl : W + (maxL + 11) + rm.locals ≤ R.locals) (hEL : EW Z a0 EL) (H : CHv Z EL vm0 h) (hsf : ∀ x ∈ sf, x < h.size ∧ Safe Z EL vm0 h x) :
    BackS l R p e below (s.setVm vm0) args y 3 W (fun A a => a = as' ∧ A.U.heap = h ∧ A.cells + rm.cells ≤ R.cells ∧ A.slots + rm.slots ≤ R.slots)
      (fun A _ v B => ∃ L, OwQ Qc n0 v B.U.heap L ∧ B.locs = A.locs ++ L ∧ B.cells = A.cells + rm.cells ∧ B.slots = A.slots + rm.slots ∧ CHr Z EL vm0 h B.U.vm B.U.heap) :=
  BackS.of_freeW (bytes := bytes) (maxL := maxL) (ret := ret) (E := fun _ first o t L k n => k = rm.cells ∧ n = rm.slots ∧ (∃ v, o = .returned v ∧ Qc v t.heap ∧ Fr n0 L) ∧ CHr Z EL first.vm first.heap t.vm t.heap) hM hf hl
    (fun m meth c A a Y hp => have hU : Z.Warmed39 A.U.vm := wtrans (s := s.setVm vm0) hZ Y.warmed
      ⟨by show (Cond.and _ .tt).before a A.U = true; rw [Cond.before_and, mv hU wc]; rfl, mv hU wc, mv hU wz, hp.2.2.1, hp.2.2.2⟩)
    (fun m meth c A a g mk Y hp => ⟨hp.1, wtrans (s := s.setVm vm0) hZ Y.warmed, hp.2.1, (CHv.at Y hZ hEL H).1, fun x hx => ⟨(hsf x hx).1, (CHv.at Y hZ hEL H).safe (hsf x hx).1 (hsf x hx).2⟩⟩) (fun _ _ _ _ _ _ _ _ _ => trivial)
    (fun _ _ _ _ ⟨v, L, h1, h2, h3, h4⟩ => ⟨L, _, _, h4, rfl, rfl, ⟨v, h1, h2⟩, h3⟩)
    (fun m meth c A a g mk v t L k n Y hp _ _ ⟨e1, e2, ⟨v', e3, e4⟩, e5⟩ => by
      cases e3; subst e1 e2
      refine ⟨L, e4, rfl, rfl, rfl, (CHv.at Y hZ hEL H).trans ?_⟩
      rw [← hp.2.1]; exact e5)
theorem OwC.specialS (P : OwC p l e R s m args below meth c Z own EL sf n0 T h k n) (hx : p.tables.exec = Jvm.exec) {index : Nat} {y : MethodName} (hy1 : y.name = "<init>") (w1 : (Jvm.Cond.methodLink own index y).before a0 Z = true) (w2 : (Jvm.Cond.instanceMethod y).before a0 Z = true)
    {bytes : ByteArray} {maxL : Nat} (w3 : (Jvm.Cond.code y bytes maxL none).before a0 Z = true) (hy : y.cls ≠ "java/lang/invoke/MethodHandle" ∧ y.cls ≠ "java/lang/invoke/VarHandle")
    {W c1 s1 : Nat} {as' : Array Value} {Qc : Option Value → Heap → List Loc → Prop} {sf' : List Addr} (hK : ∀ vm0, Z.Warmed39 vm0 → CHv Z EL vm0 h → (∀ x ∈ sf', x < h.size ∧ Safe Z EL vm0 h x) → BackS l R p e below (s.setVm vm0) args y 3 W (fun A a => a = as' ∧ A.U.heap = h ∧ A.cells + c1 ≤ R.cells ∧ A.slots + s1 ≤ R.slots) (fun A _ v B => ∃ L, Qc v B.U.heap L ∧ B.locs = A.locs ++ L ∧ B.cells = A.cells + c1 ∧ B.slots = A.slots + s1 ∧ CHr Z EL vm0 h B.U.vm B.U.heap))
    (hQ : ∀ v h L, Qc v h L → Fr n0 L) (hsf' : ∀ x ∈ sf', x ∈ sf) {g : JFrame} (hg : g.method = m) (hsize : g.locals.size = c.maxLocals) {a : Addr} {argsL rest : List Value}
    (hlen : ∀ sig, parseMethodDescriptor y.desc = some sig → argsL.length = sig.parameters.length) (hstack : g.stack = argsL.reverse ++ .ref a :: rest) (hW : 2 * g.monitorRoom + (rest.map fun v => v.category).sum ≤ W)
    (hdg : decode c.code g.pc = .ok (.invokespecial index, 3)) (has : (Value.ref a :: argsL).toArray = as') (hc : k + c1 ≤ R.cells) (hl : n + s1 ≤ R.slots)
    (K : ∀ T' v L h', T'.heap = h' → OwC p l e R s m args below meth c Z own EL sf n0 T' h' (k + c1) (n + s1) → Qc v h' L → OwH p e below s Z EL n0 KK NN Q T' { g with pc := g.pc + 3, stack := v.toList ++ rest }) : OwH p e below s Z EL n0 KK NN Q T g := by
  obtain ⟨vm0, k0, L, X, eT, N, hS, hk0, hZ, hown, hC, hsf⟩ := P
  obtain ⟨v, _, ⟨T', L', k', n'⟩, -, X', h2, hgr, ⟨Lc, hQc, l', y', z', hC2⟩, st⟩ := X.specialBackS hx hy1 hown (mvT (s := s.setVm vm0) hZ w1) (mvT (s := s.setVm vm0) hZ w2) (mvT (s := s.setVm vm0) hZ w3) hy (hK vm0 hZ hC.1 fun x hx => hsf x (hsf' x hx)) hg hsize (Steps.refl _) hlen hstack hW hdg (fun _ _ => ⟨has, eT, hc, hl⟩)
  dsimp only [Pt.U, Pt.locs, Pt.cells, Pt.slots] at X' l' y' z' st hQc hC2 h2 hgr
  subst l' y' z'
  exact (K T' v Lc _ rfl (OwC.afterS X' rfl N (hQ _ _ _ hQc) hS hk0 hZ hown hC hsf h2 (by rw [← eT]; exact hgr) hC2) hQc).go fun t kt => st.trans kt
theorem OwC.virtualS (P : OwC p l e R s m args below meth c Z own EL sf n0 T h k n) (hx : p.tables.exec = Jvm.exec) {C : String} {index : Nat} {y z : MethodName} (w1 : (Jvm.Cond.methodLink own index y).before a0 Z = true) (w2 : (Jvm.Cond.declares y).before a0 Z = true) (nf : ∀ vm0, Z.Warmed39 vm0 → NotFace (s.setVm vm0) y)
    (w3 : (Jvm.Cond.selects C y z).before a0 Z = true) (w4 : (Jvm.Cond.instanceMethod z).before a0 Z = true) (hy : y.cls ≠ "java/lang/invoke/MethodHandle" ∧ y.cls ≠ "java/lang/invoke/VarHandle")
    {W c1 s1 : Nat} {as' : Array Value} {Qc : Option Value → Heap → List Loc → Prop} {sf' : List Addr} (hK : ∀ vm0, Z.Warmed39 vm0 → CHv Z EL vm0 h → (∀ x ∈ sf', x < h.size ∧ Safe Z EL vm0 h x) → BackS l R p e below (s.setVm vm0) args z 3 W (fun A a => a = as' ∧ A.U.heap = h ∧ A.cells + c1 ≤ R.cells ∧ A.slots + s1 ≤ R.slots) (fun A _ v B => ∃ L, Qc v B.U.heap L ∧ B.locs = A.locs ++ L ∧ B.cells = A.cells + c1 ∧ B.slots = A.slots + s1 ∧ CHr Z EL vm0 h B.U.vm B.U.heap))
    (hQ : ∀ v h L, Qc v h L → Fr n0 L) (hsf' : ∀ x ∈ sf', x ∈ sf) {b : Addr} (E : Exa Z h b C) {g : JFrame} (hg : g.method = m) (hsize : g.locals.size = c.maxLocals) {argsL rest : List Value}
    (hlen : ∀ sig, parseMethodDescriptor y.desc = some sig → argsL.length = sig.parameters.length) (hstack : g.stack = argsL.reverse ++ .ref b :: rest) (hW : 2 * g.monitorRoom + (rest.map fun v => v.category).sum ≤ W)
    (hdg : decode c.code g.pc = .ok (.invokevirtual index, 3)) (has : (Value.ref b :: argsL).toArray = as') (hc : k + c1 ≤ R.cells) (hl : n + s1 ≤ R.slots)
    (K : ∀ T' v L h', T'.heap = h' → OwC p l e R s m args below meth c Z own EL sf n0 T' h' (k + c1) (n + s1) → Qc v h' L → OwH p e below s Z EL n0 KK NN Q T' { g with pc := g.pc + 3, stack := v.toList ++ rest }) : OwH p e below s Z EL n0 KK NN Q T g := by
  obtain ⟨vm0, k0, L, X, eT, N, hS, hk0, hZ, hown, hC, hsf⟩ := P
  obtain ⟨cq, kq, qa, qb, qc⟩ := isOf (s := s.setVm vm0) hZ eT E
  obtain ⟨v, _, ⟨T', L', k', n'⟩, -, X', h2, hgr, ⟨Lc, hQc, l', y', z', hC2⟩, st⟩ := X.virtualBackS hx hown (mvT (s := s.setVm vm0) hZ w1) (mvT (s := s.setVm vm0) hZ w2) (nf vm0 hZ) (mvT (s := s.setVm vm0) hZ w3) (mvT (s := s.setVm vm0) hZ w4) hy (hK vm0 hZ hC.1 fun x hx => hsf x (hsf' x hx)) qa qc hg hsize (Steps.refl _) hlen hstack hW hdg (fun _ _ => ⟨has, eT, hc, hl⟩)
  dsimp only [Pt.U, Pt.locs, Pt.cells, Pt.slots] at X' l' y' z' st hQc hC2 h2 hgr
  subst l' y' z'
  exact (K T' v Lc _ rfl (OwC.afterS X' rfl N (hQ _ _ _ hQc) hS hk0 hZ hown hC hsf h2 (by rw [← eT]; exact hgr) hC2) hQc).go fun t kt => st.trans kt
theorem OwC.statS (P : OwC p l e R s m args below meth c Z own EL sf n0 T h k n) (hx : p.tables.exec = Jvm.exec) {index : Nat} {y : MethodName} {bytes : ByteArray} {maxL : Nat} {ret : Option FieldType} (w1 : (Jvm.Cond.methodLink own index y).before a0 Z = true) (w2 : (Jvm.Cond.static y).before a0 Z = true) (w3 : (Jvm.Cond.initialized y.cls).before a0 Z = true)
    (w4 : (Jvm.Cond.code y bytes maxL ret).before a0 Z = true) (hy : y.cls ≠ "java/lang/invoke/MethodHandle" ∧ y.cls ≠ "java/lang/invoke/VarHandle")
    {W c1 s1 : Nat} {as' : Array Value} {Qc : Option Value → Heap → List Loc → Prop} {sf' : List Addr} (hK : ∀ vm0, Z.Warmed39 vm0 → CHv Z EL vm0 h → (∀ x ∈ sf', x < h.size ∧ Safe Z EL vm0 h x) → BackS l R p e below (s.setVm vm0) args y 3 W (fun A a => a = as' ∧ A.U.heap = h ∧ A.cells + c1 ≤ R.cells ∧ A.slots + s1 ≤ R.slots) (fun A _ v B => ∃ L, Qc v B.U.heap L ∧ B.locs = A.locs ++ L ∧ B.cells = A.cells + c1 ∧ B.slots = A.slots + s1 ∧ CHr Z EL vm0 h B.U.vm B.U.heap))
    (hQ : ∀ v h L, Qc v h L → Fr n0 L) (hsf' : ∀ x ∈ sf', x ∈ sf) {g : JFrame} (hg : g.method = m) (hsize : g.locals.size = c.maxLocals) {argsL rest : List Value}
    (hlen : ∀ sig, parseMethodDescriptor y.desc = some sig → argsL.length = sig.parameters.length) (hstack : g.stack = argsL.reverse ++ rest) (hW : 2 * g.monitorRoom + (rest.map fun v => v.category).sum ≤ W)
    (hdg : decode c.code g.pc = .ok (.invokestatic index, 3)) (has : argsL.toArray = as') (hc : k + c1 ≤ R.cells) (hl : n + s1 ≤ R.slots)
    (K : ∀ T' v L h', T'.heap = h' → OwC p l e R s m args below meth c Z own EL sf n0 T' h' (k + c1) (n + s1) → Qc v h' L → OwH p e below s Z EL n0 KK NN Q T' { g with pc := g.pc + 3, stack := v.toList ++ rest }) : OwH p e below s Z EL n0 KK NN Q T g := by
  obtain ⟨vm0, k0, L, X, eT, N, hS, hk0, hZ, hown, hC, hsf⟩ := P
  obtain ⟨v, _, ⟨T', L', k', n'⟩, -, X', h2, hgr, ⟨Lc, hQc, l', y', z', hC2⟩, st⟩ := Jvm.RoadKit.callSS X hx hown (mvT (s := s.setVm vm0) hZ w1) (mvT (s := s.setVm vm0) hZ w2) (mvT (s := s.setVm vm0) hZ w3) (mvT (s := s.setVm vm0) hZ w4) hy (hK vm0 hZ hC.1 fun x hx => hsf x (hsf' x hx)) hg hsize hlen hstack hW hdg (fun _ _ => ⟨has, eT, hc, hl⟩)
  dsimp only [Pt.U, Pt.locs, Pt.cells, Pt.slots] at X' l' y' z' st hQc hC2 h2 hgr
  subst l' y' z'
  exact (K T' v Lc _ rfl (OwC.afterS X' rfl N (hQ _ _ _ hQc) hS hk0 hZ hown hC hsf h2 (by rw [← eT]; exact hgr) hC2) hQc).go fun t kt => st.trans kt
/-- ldc of a String constant, opaque -/
theorem OwC.ldcO (P : OwC p l e R s m args below meth c Z own EL sf n0 T h k n) (hx : p.tables.exec = Jvm.exec) (hEL : EW Z a0 EL) {text : String} {index : Nat} (w : (Jvm.Cond.stringLink own index text).before a0 Z = true) (wS : ∀ a ∈ Bundle.stringAtoms, a.before a0 Z = true)
    {g : JFrame} (hg : g.method = m) (hd : decode c.code g.pc = .ok (.ldc index, 2)) {nn : Nat} (hn : 4 * text.toList.length ≤ nn) (hbig : nn ≤ 536870912) (hc : k + 2 ≤ R.cells) (hl' : n + (nn + 4) ≤ R.slots)
    (K : ∀ T' h' a, OwC p l e R s m args below meth c Z own EL sf n0 T' h' (k + 2) (n + (nn + 4)) → Ext h h' → OwH p e below s Z EL n0 KK NN Q T' { g with pc := g.pc + 2, stack := .ref a :: g.stack }) : OwH p e below s Z EL n0 KK NN Q T g := by
  obtain ⟨vm0, k0, L, X, eT, N, hS, hk0, hZ, hown, hC, hsf⟩ := P
  obtain ⟨a, T', h', k1, X', e', E, hS', hk', hZ', hown', hC2, -, st⟩ := ldcOH X hx hZ hown w wS eT hS hk0 hEL hC.1 hg hd hn hbig hc hl'
  exact (K T' h' a ⟨T'.vm, k1, L, X', e', N, hS', hk', hZ', hown', hC.trans hC2, fun x hx => ⟨Nat.lt_of_lt_of_le (hsf x hx).1 E.1, hC2.safe (hsf x hx).1 (hsf x hx).2⟩⟩ E).go st
/-- ldc of a String constant, read -/
theorem OwC.ldcR (P : OwC p l e R s m args below meth c Z own EL sf n0 T h k n) (hx : p.tables.exec = Jvm.exec) (hEL : EW Z a0 EL) {text : String} {index : Nat} (hmem : (own, index) ∈ EL) (w : (Jvm.Cond.stringLink own index text).before a0 Z = true) (wS : ∀ a ∈ Bundle.stringAtoms, a.before a0 Z = true)
    {vs : List Value} {z : Int32} (ht : (∀ c ∈ text.toList, c.toNat < 256) ∧ text.toList.map (fun c => Value.int (Jvm.Lit.byteI c.toNat.toUInt16)) = vs) (hz : ¬ z < 0) (hlz : z.toNatClampNeg = vs.length)
    {g : JFrame} (hg : g.method = m) (hd : decode c.code g.pc = .ok (.ldc index, 2)) {nn : Nat} (hn : 4 * text.toList.length ≤ nn) (hbig : nn ≤ 536870912) (hc : k + 2 ≤ R.cells) (hl' : n + (nn + 4) ≤ R.slots)
    (K : ∀ T' h' a b kb, OwC p l e R s m args below meth c Z own EL sf n0 T' h' (k + 2) (n + (nn + 4)) → Ext h h' → Exa Z h' a "java/lang/String" → Fld Z h' a "java/lang/String" "coder" "B" (.int 0) → Fld Z h' a "java/lang/String" "value" "[B" (.ref b) → Arv Z h' b kb .byte z vs (.int 0) → (∀ x ∈ sf, x ≠ a ∧ x ≠ b) → OwH p e below s Z EL n0 KK NN Q T' { g with pc := g.pc + 2, stack := .ref a :: g.stack }) : OwH p e below s Z EL n0 KK NN Q T g := by
  obtain ⟨vm0, k0, L, X, eT, N, hS, hk0, hZ, hown, hC, hsf⟩ := P
  obtain ⟨a, T', h', k1, b, kb, X', e', E, hS', hk', hZ', hown', f1, f2, f3, f4, -, -, hC2, -, hne, st⟩ := ldcCH X hx hZ hown w wS eT hS hk0 hEL hmem hC.1 ht hz hlz hg hd hn hbig hc hl'
  exact (K T' h' a b kb ⟨T'.vm, k1, L, X', e', N, hS', hk', hZ', hown', hC.trans hC2, fun x hx => ⟨Nat.lt_of_lt_of_le (hsf x hx).1 E.1, hC2.safe (hsf x hx).1 (hsf x hx).2⟩⟩ E f1 f2 f3 f4 fun x hx => hne x (hC2.safe (hsf x hx).1 (hsf x hx).2)).go st
end Own2
end Jvm.Pilot.@@N@@
namespace Jvm.Pilot.@@N@@
open Jvm Jvm.ClassFile Sem Op Lib Jvm.Free Jvm.Stand Jvm.LawKit Jvm.RoadKit Bundle Jvm.Pilot.@@N@@.Jvm.D
def own_EL : List (String × Nat) := []
theorem own_EW {Z : State} {a0 : Array Value} (hw : ∀ d ∈ tables_1, d.before a0 Z = true) : EW Z a0 own_EL := EW.nil
theorem own_wS {Z : State} {a0 : Array Value} (hw : ∀ d ∈ tables_1, d.before a0 Z = true) : ∀ a ∈ Bundle.stringAtoms, a.before a0 Z = true := fun a ha => hw a ((by decide +kernel : ∀ d ∈ Bundle.stringAtoms, d ∈ tables_1) a ha)
open StrChars in
theorem own_shl1 {i : Nat} (h : 2 * i < 2 ^ 31) : Int32.ofNat i <<< ((1 : Int32) &&& 31) = Int32.ofNat (2 * i) := by
  rw [shlm (m := 2) (by decide), Nat.mul_comm, Int32.ofNat_mul]; rfl
theorem own_irr (x : Int32) : ¬ x < x := Int32.lt_irrefl
theorem own_succ (i : Nat) : Int32.ofNat i + (1 : Int32) = Int32.ofNat (i + 1) := by rw [Int32.ofNat_add]; rfl
theorem own_ti {i : Nat} (h : i < 2 ^ 31) : (Int32.ofNat i).toInt = i := Int32.toInt_ofNat_of_lt h
theorem own_tc {i : Nat} (h : i < 2 ^ 31) : (Int32.ofNat i).toNatClampNeg = i := Int32.toNatClampNeg_ofNat_of_lt h
theorem own_nn {i : Nat} (h : i < 2 ^ 31) : ¬ Int32.ofNat i < 0 := by
  rw [Int32.lt_iff_toInt_lt, own_ti h, show (0 : Int32).toInt = 0 from rfl]; omega
theorem own_lt {i n : Nat} (h : i < n) (hn : n < 2 ^ 31) : Int32.ofNat i < Int32.ofNat n := by
  rw [Int32.lt_iff_toInt_lt, own_ti (by omega), own_ti hn]; omega
theorem own_nlt {i n : Nat} (h : n ≤ i) (hn : i < 2 ^ 31) : ¬ Int32.ofNat i < Int32.ofNat n := by
  rw [Int32.lt_iff_toInt_lt, own_ti (by omega), own_ti (by omega)]; omega
theorem own_ne32 {i n : Nat} (h : i ≠ n) (hi : i < 2 ^ 31) (hn : n < 2 ^ 31) : ¬ Int32.ofNat i = Int32.ofNat n := fun q => h (by
  have r := congrArg Int32.toInt q
  rw [own_ti hi, own_ti hn] at r; omega)
theorem own_narc {c : Int32} (h0 : ¬ c < 0) (h1 : ¬ (65535 : Int32) < c) : nar .char c = c := by
  apply Int32.toInt_inj.mp
  have q := c_i2c c
  rw [Int32.lt_iff_toInt_lt] at h0 h1
  have e0 : (0 : Int32).toInt = 0 := rfl
  have e1 : (65535 : Int32).toInt = 65535 := rfl
  show (c.toUInt32.toUInt16.toUInt32.toInt32).toInt = _
  omega
theorem own_char (c : Int32) : ¬ nar .char c < 0 ∧ ¬ (65535 : Int32) < nar .char c := by
  have q := c_i2c c
  rw [Int32.lt_iff_toInt_lt, Int32.lt_iff_toInt_lt]
  have e0 : (0 : Int32).toInt = 0 := rfl
  have e1 : (65535 : Int32).toInt = 65535 := rfl
  show ¬ (c.toUInt32.toUInt16.toUInt32.toInt32).toInt < _ ∧ ¬ _ < (c.toUInt32.toUInt16.toUInt32.toInt32).toInt
  omega
theorem own_chat {cs : List Int32} {d : Value} {i : Nat} (h : i < cs.length) (hb : i < 2 ^ 31) : (cs.map Value.int).getD (Int32.ofNat i).toNatClampNeg d = .int (cs.getD i 0) := by
  rw [own_tc hb]; simp [List.getD_eq_getElem?_getD, h]
/-- the first i chars as wide bytes, zeros behind -/
def own_wb (cs : List Int32) (n i : Nat) : List Value := StrChars.Road.wideBytes (cs.take i) ++ List.replicate (2 * (n - i)) (.int (0 : Int32))
theorem own_wlen (cs : List Int32) : (StrChars.Road.wideBytes cs).length = 2 * cs.length := by
  induction cs with
  | nil => rfl
  | cons c cs ih => simp [StrChars.Road.wideBytes, ih]; omega
theorem own_wapp (cs ds : List Int32) : StrChars.Road.wideBytes (cs ++ ds) = StrChars.Road.wideBytes cs ++ StrChars.Road.wideBytes ds := by
  induction cs with
  | nil => rfl
  | cons c cs ih => simp [StrChars.Road.wideBytes, ih]
theorem own_wb_len {cs : List Int32} {n i : Nat} (hn : cs.length = n) (hi : i ≤ n) : (own_wb cs n i).length = 2 * n := by
  simp [own_wb, own_wlen, hn]; omega
theorem own_wb_end {cs : List Int32} {n : Nat} (hn : cs.length = n) : own_wb cs n n = StrChars.Road.wideBytes cs := by simp [own_wb, ← hn]
theorem own_take {cs : List Int32} {i : Nat} (h : i < cs.length) : cs.take (i + 1) = cs.take i ++ [cs.getD i 0] := by
  rw [List.take_succ]; simp [List.getD_eq_getElem?_getD, h]
theorem own_wb_step {cs : List Int32} {n i : Nat} (hn : cs.length = n) (hi : i < n) : ((own_wb cs n i).set (2 * i) (.int (StrChars.lo8 (cs.getD i 0)))).set (2 * i + 1) (.int (StrChars.hi8 (cs.getD i 0))) = own_wb cs n (i + 1) := by
  have e1 : (StrChars.Road.wideBytes (cs.take i)).length = 2 * i := by rw [own_wlen]; simp; omega
  obtain ⟨r, hr⟩ : ∃ r, n - i = r + 1 := ⟨n - i - 1, by omega⟩
  have hr' : n - (i + 1) = r := by omega
  unfold own_wb
  rw [own_take (by omega), own_wapp, hr, hr', show 2 * (r + 1) = 2 * r + 1 + 1 from by omega, List.replicate_succ, List.replicate_succ]
  rw [List.set_append_right _ _ (by omega), e1, Nat.sub_self, List.set_cons_zero, List.set_append_right _ _ (by omega), e1, show 2 * i + 1 - 2 * i = 1 from by omega]
  simp [StrChars.Road.wideBytes]
/-- the first i chars as low bytes, zeros behind -/
def own_lb (cs : List Int32) (n i : Nat) : List Value := ((cs.take i).map fun c => Value.int (StrChars.lo8 c)) ++ List.replicate (n - i) (.int (0 : Int32))
theorem own_lb_len {cs : List Int32} {n i : Nat} (hn : cs.length = n) (hi : i ≤ n) : (own_lb cs n i).length = n := by
  simp [own_lb, hn]; omega
theorem own_lb_end {cs : List Int32} {n : Nat} (hn : cs.length = n) : own_lb cs n n = cs.map fun c => Value.int (StrChars.lo8 c) := by simp [own_lb, ← hn]
theorem own_lb_step {cs : List Int32} {n i : Nat} (hn : cs.length = n) (hi : i < n) : (own_lb cs n i).set i (.int (StrChars.lo8 (cs.getD i 0))) = own_lb cs n (i + 1) := by
  have e1 : ((cs.take i).map fun c => Value.int (StrChars.lo8 c)).length = i := by simp; omega
  obtain ⟨r, hr⟩ : ∃ r, n - i = r + 1 := ⟨n - i - 1, by omega⟩
  have hr' : n - (i + 1) = r := by omega
  unfold own_lb
  rw [own_take (by omega), hr, hr', List.replicate_succ, List.set_append_right _ _ (by omega), e1, Nat.sub_self, List.set_cons_zero]
  simp
theorem own_all {cs : List Int32} {n : Nat} (hn : cs.length = n) (h : ∀ j, j < n → ¬ (255 : Int32) < cs.getD j 0) : ∀ c ∈ cs, ¬ (255 : Int32) < c := fun c hc => by
  obtain ⟨j, hj, rfl⟩ := List.mem_iff_getElem.mp hc
  have q := h j (by omega)
  simpa [List.getD_eq_getElem?_getD, hj] using q
theorem own_gm {cs : List Int32} {i : Nat} (h : i < cs.length) : cs.getD i 0 ∈ cs := by simp [List.getD_eq_getElem?_getD, h]
theorem own_wide {cs : List Int32} {i n : Nat} (hn : cs.length = n) (hi : i < n) (h : (255 : Int32) < cs.getD i 0) : StrChars.Road.CodA cs 1 (Int32.ofNat (2 * n)) (StrChars.Road.wideBytes cs) :=
  Or.inr ⟨rfl, by rw [hn], rfl, cs.getD i 0, own_gm (by omega), h⟩
theorem own_cod0 (x : Int32) : ((x - x).toUInt32 >>> ((31 : Int32) &&& 31).toUInt32).toInt32.toInt8.toInt32 = 0 := by rw [Int32.sub_self]; decide
theorem own_cod1 {n : Nat} (h0 : 0 < n) (h1 : n ≤ 4000) : ((Int32.ofNat n - Int32.ofNat (2 * n)).toUInt32 >>> ((31 : Int32) &&& 31).toUInt32).toInt32.toInt8.toInt32 = 1 := by
  have e : ((Int32.ofNat n - Int32.ofNat (2 * n)).toUInt32 >>> ((31 : Int32) &&& 31).toUInt32).toInt32 = 1 := by
    apply Int32.toInt_inj.mp
    rw [c_iushr _ 31 31 (by decide) (by decide)]
    have q := c_isub (Int32.ofNat n) (Int32.ofNat (2 * n))
    rw [own_ti (by omega), own_ti (by omega)] at q
    have r := rng32 (Int32.ofNat n - Int32.ofNat (2 * n))
    show _ = 1
    omega
  rw [e]; decide
theorem own_codN {cs : List Int32} {n : Nat} {cd N2 : Int32} {vs : List Value} (hn : cs.length = n) (h0 : 0 < n) (h1 : n ≤ 4000) (hc : StrChars.Road.CodA cs cd N2 vs) : ((Int32.ofNat n - N2).toUInt32 >>> ((31 : Int32) &&& 31).toUInt32).toInt32.toInt8.toInt32 = cd := by
  rcases hc with ⟨rfl, rfl, -⟩ | ⟨rfl, rfl, -⟩
  · rw [hn]; exact own_cod0 _
  · rw [hn]; exact own_cod1 h0 h1
theorem own_cd {cs : List Int32} {cd N2 : Int32} {vs : List Value} (hc : StrChars.Road.CodA cs cd N2 vs) : cd = 0 ∨ cd = 1 := hc.imp (fun q => q.1) fun q => q.1
theorem own_whi {cs : List Int32} {d : Value} {i : Nat} (h : i < cs.length) (hb : 2 * i + 1 < 2 ^ 31) : (StrChars.Road.wideBytes cs).getD (Int32.ofNat (2 * i + 1)).toNatClampNeg d = .int (StrChars.hi8 (cs.getD i 0)) := by rw [own_tc hb]; exact StrChars.Road.wide_hi _ _ _ h
theorem own_wlo {cs : List Int32} {d : Value} {i : Nat} (h : i < cs.length) (hb : 2 * i < 2 ^ 31) : (StrChars.Road.wideBytes cs).getD (Int32.ofNat (2 * i)).toNatClampNeg d = .int (StrChars.lo8 (cs.getD i 0)) := by rw [own_tc hb]; exact StrChars.Road.wide_lo _ _ _ h
theorem own_bd {cs : List Int32} {i : Nat} (h : i < cs.length) (hp : ∀ c ∈ cs, ¬ c < 0 ∧ ¬ (65535 : Int32) < c) : ¬ cs.getD i 0 < 0 ∧ ¬ (65535 : Int32) < cs.getD i 0 := hp _ (by simp [List.getD_eq_getElem?_getD, h])
theorem d24_0 : decode jdk_52_method_4_code 0 = .ok (.getstatic 44, 3) := by decide +kernel
theorem d24_3 : decode jdk_52_method_4_code 3 = .ok (.ifCond .ne 25, 3) := by decide +kernel
theorem d24_28 : decode jdk_52_method_4_code 28 = .ok (.iload_n 1, 1) := by decide +kernel
theorem d24_29 : decode jdk_52_method_4_code 29 = .ok (.iconst 1, 1) := by decide +kernel
theorem d24_30 : decode jdk_52_method_4_code 30 = .ok (.ishl, 1) := by decide +kernel
theorem d24_31 : decode jdk_52_method_4_code 31 = .ok (.istore_n 1, 1) := by decide +kernel
theorem d24_32 : decode jdk_52_method_4_code 32 = .ok (.aload_n 0, 1) := by decide +kernel
theorem d24_33 : decode jdk_52_method_4_code 33 = .ok (.iload_n 1, 1) := by decide +kernel
theorem d24_34 : decode jdk_52_method_4_code 34 = .ok (.iinc 1 1, 3) := by decide +kernel
theorem d24_37 : decode jdk_52_method_4_code 37 = .ok (.iload_n 2, 1) := by decide +kernel
theorem d24_38 : decode jdk_52_method_4_code 38 = .ok (.getstatic 59, 3) := by decide +kernel
theorem d24_41 : decode jdk_52_method_4_code 41 = .ok (.ishr, 1) := by decide +kernel
theorem d24_42 : decode jdk_52_method_4_code 42 = .ok (.i2b, 1) := by decide +kernel
theorem d24_43 : decode jdk_52_method_4_code 43 = .ok (.bastore, 1) := by decide +kernel
theorem d24_44 : decode jdk_52_method_4_code 44 = .ok (.aload_n 0, 1) := by decide +kernel
theorem d24_45 : decode jdk_52_method_4_code 45 = .ok (.iload_n 1, 1) := by decide +kernel
theorem d24_46 : decode jdk_52_method_4_code 46 = .ok (.iload_n 2, 1) := by decide +kernel
theorem d24_47 : decode jdk_52_method_4_code 47 = .ok (.getstatic 63, 3) := by decide +kernel
theorem d24_50 : decode jdk_52_method_4_code 50 = .ok (.ishr, 1) := by decide +kernel
theorem d24_51 : decode jdk_52_method_4_code 51 = .ok (.i2b, 1) := by decide +kernel
theorem d24_52 : decode jdk_52_method_4_code 52 = .ok (.bastore, 1) := by decide +kernel
theorem d24_53 : decode jdk_52_method_4_code 53 = .ok (.return_, 1) := by decide +kernel
theorem pn_java_lang_StringUTF16 : plainName "java/lang/StringUTF16" = true := by first | (simp [plainName, overriddenIn]; done) | decide +kernel
set_option maxRecDepth 65536 in
set_option maxHeartbeats 40000000 in
theorem rmPut (l : Launch) (Z : State) (a0 : Array Value) (hw : ∀ d ∈ tables_1, d.before a0 Z = true) (d : Addr) (kd : ClassId) (L i : Nat) (c : Int32) (vs : List Value) (h0 : Heap) (n0 : Nat) (Z0 : n0 ≤ h0.size) (SA : Sta Z Z.heap "java/lang/StringUTF16" "$assertionsDisabled" "Z" (.int (1 : Int32))) (SH : Sta Z Z.heap "java/lang/StringUTF16" "HI_BYTE_SHIFT" "I" (.int (0 : Int32))) (SL : Sta Z Z.heap "java/lang/StringUTF16" "LO_BYTE_SHIFT" "I" (.int (8 : Int32))) (OL : Old Z n0 h0) (g_d : n0 ≤ d) (V_d : Arv Z h0 d kd .byte (Int32.ofNat L) vs (.int (0 : Int32))) (hL : vs.length = L) (hLb : L < 2 ^ 31) (hi : 2 * i + 1 < L) :
    OwM l Z (⟨"java/lang/StringUTF16", "putChar", "([BII)V"⟩ : MethodName) jdk_52_method_4_code 3 none ({ frames := 0, cells := 0, slots := 0, locals := 0 } : Room) n0 #[(.ref d), (.int (Int32.ofNat i)), (.int c)] h0 (fun v h => v = none ∧ Keep h0 h [d] ∧ Arv Z h d kd .byte (Int32.ofNat L) ((vs.set (2 * i) (.int (StrChars.lo8 c))).set (2 * i + 1) (.int (StrChars.hi8 c))) (.int (0 : Int32))) := by
  refine OwM.mk (plainFor_of_name pn_java_lang_StringUTF16) ?_
  intro p e s m below meth cD T hx hby hml hown hnm hret hlk hZ P
  refine OwG.cast (show entryFrame m #[(.ref d), (.int (Int32.ofNat i)), (.int c)] 3 = mkF m 0 #[.val (.ref d), .val (.int (Int32.ofNat i)), .val (.int c)] [] from by first | rfl | (simp [entryFrame, mkF, argsToLocals, Value.category]; done)) ?_
  have KP := Keep.refl h0 [d]
  refine P.getS hx hZ hown (host := "") (Or.inl (hw _ (List.mem_of_getElem? (i := 109) rfl))) Via.refl (SA.ext OL.2) (g := (mkF m 0 #[.val (.ref d), .val (.int (Int32.ofNat i)), .val (.int c)] [])) rfl (Jvm.hb hby d24_0) fun T P => ?_
  show OwG p e below s _ _ _ _ T (mkF m 3 #[.val (.ref d), .val (.int (Int32.ofNat i)), .val (.int c)] [(.int (1 : Int32))])
  refine OwG.go (T' := T) (g' := (mkF m 28 #[.val (.ref d), .val (.int (Int32.ofNat i)), .val (.int c)] [])) (fun tQ kQ => ?_) ?_
  · refine XS.ifYes P.here hx rfl (pc0 := 3) (pc' := 28) rfl (Jvm.hb hby d24_3) rfl ((if0 _ _).trans (feq (by decide : ¬ (1 : Int32) = 0)).2) (by decide) (by decide) ?_
    exact kQ
  refine OwG.go (T' := T) (g' := (mkF m 32 #[.val (.ref d), .val (.int ((Int32.ofNat i) <<< ((1 : Int32) &&& 31))), .val (.int c)] [])) (fun tQ kQ => ?_) ?_
  · refine XS.iloadN P.here hx rfl (Jvm.hb hby d24_28) rfl ?_
    refine XS.iconst P.here hx rfl (Jvm.hb hby d24_29) ?_
    refine XS.ishl P.here hx rfl (Jvm.hb hby d24_30) rfl ?_
    refine XS.istoreN P.here hx rfl (Jvm.hb hby d24_31) rfl (l' := #[.val (.ref d), .val (.int ((Int32.ofNat i) <<< ((1 : Int32) &&& 31))), .val (.int c)]) rfl ?_
    exact kQ
  rw [show ((Int32.ofNat i) <<< ((1 : Int32) &&& 31)) = (Int32.ofNat (2 * i)) from own_shl1 (by omega)]
  show OwG p e below s _ _ _ _ T (mkF m 32 #[.val (.ref d), .val (.int (Int32.ofNat (2 * i))), .val (.int c)] [])
  refine OwG.go (T' := T) (g' := (mkF m 38 #[.val (.ref d), .val (.int ((Int32.ofNat (2 * i)) + (1 : Int32))), .val (.int c)] [(.int c), (.int (Int32.ofNat (2 * i))), (.ref d)])) (fun tQ kQ => ?_) ?_
  · refine XS.aloadN P.here hx rfl (Jvm.hb hby d24_32) rfl rfl ?_
    refine XS.iloadN P.here hx rfl (Jvm.hb hby d24_33) rfl ?_
    refine XS.iinc P.here hx rfl (Jvm.hb hby d24_34) rfl (l' := #[.val (.ref d), .val (.int ((Int32.ofNat (2 * i)) + (1 : Int32))), .val (.int c)]) rfl ?_
    refine XS.iloadN P.here hx rfl (Jvm.hb hby d24_37) rfl ?_
    exact kQ
  refine P.getS hx hZ hown (host := "") (Or.inl (hw _ (List.mem_of_getElem? (i := 110) rfl))) Via.refl (SH.ext OL.2) (g := (mkF m 38 #[.val (.ref d), .val (.int ((Int32.ofNat (2 * i)) + (1 : Int32))), .val (.int c)] [(.int c), (.int (Int32.ofNat (2 * i))), (.ref d)])) rfl (Jvm.hb hby d24_38) fun T P => ?_
  show OwG p e below s _ _ _ _ T (mkF m 41 #[.val (.ref d), .val (.int ((Int32.ofNat (2 * i)) + (1 : Int32))), .val (.int c)] [(.int (0 : Int32)), (.int c), (.int (Int32.ofNat (2 * i))), (.ref d)])
  refine OwG.go (T' := T) (g' := (mkF m 43 #[.val (.ref d), .val (.int ((Int32.ofNat (2 * i)) + (1 : Int32))), .val (.int c)] [(.int ((c >>> ((0 : Int32) &&& 31)).toInt8.toInt32)), (.int (Int32.ofNat (2 * i))), (.ref d)])) (fun tQ kQ => ?_) ?_
  · refine XS.ishr P.here hx rfl (Jvm.hb hby d24_41) rfl ?_
    refine XS.i2b P.here hx rfl (Jvm.hb hby d24_42) rfl ?_
    exact kQ
  refine P.stB hx hZ V_d (j := (Int32.ofNat (2 * i))) (own_nn (by omega)) (own_lt (by omega) (by omega)) (i := (2 * i)) (own_tc (by omega)) (by omega) (g := (mkF m 43 #[.val (.ref d), .val (.int ((Int32.ofNat (2 * i)) + (1 : Int32))), .val (.int c)] [(.int ((c >>> ((0 : Int32) &&& 31)).toInt8.toInt32)), (.int (Int32.ofNat (2 * i))), (.ref d)])) rfl rfl (Jvm.hb hby d24_43) g_d fun T h1 P W V' => ?_
  replace Z0 := Nat.le_trans Z0 (Keep.of_wr W).1
  replace OL := OL.wr W g_d
  replace KP := KP.wr W (Or.inl (List.mem_of_getElem? (i := 0) rfl))
  replace V_d := V'
  clear W V'
  show OwG p e below s _ _ _ _ T (mkF m 44 #[.val (.ref d), .val (.int ((Int32.ofNat (2 * i)) + (1 : Int32))), .val (.int c)] [])
  rw [show ((Int32.ofNat (2 * i)) + (1 : Int32)) = (Int32.ofNat (2 * i + 1)) from own_succ _]
  show OwG p e below s _ _ _ _ T (mkF m 44 #[.val (.ref d), .val (.int (Int32.ofNat (2 * i + 1))), .val (.int c)] [])
  refine OwG.go (T' := T) (g' := (mkF m 47 #[.val (.ref d), .val (.int (Int32.ofNat (2 * i + 1))), .val (.int c)] [(.int c), (.int (Int32.ofNat (2 * i + 1))), (.ref d)])) (fun tQ kQ => ?_) ?_
  · refine XS.aloadN P.here hx rfl (Jvm.hb hby d24_44) rfl rfl ?_
    refine XS.iloadN P.here hx rfl (Jvm.hb hby d24_45) rfl ?_
    refine XS.iloadN P.here hx rfl (Jvm.hb hby d24_46) rfl ?_
    exact kQ
  refine P.getS hx hZ hown (host := "") (Or.inl (hw _ (List.mem_of_getElem? (i := 111) rfl))) Via.refl (SL.ext OL.2) (g := (mkF m 47 #[.val (.ref d), .val (.int (Int32.ofNat (2 * i + 1))), .val (.int c)] [(.int c), (.int (Int32.ofNat (2 * i + 1))), (.ref d)])) rfl (Jvm.hb hby d24_47) fun T P => ?_
  show OwG p e below s _ _ _ _ T (mkF m 50 #[.val (.ref d), .val (.int (Int32.ofNat (2 * i + 1))), .val (.int c)] [(.int (8 : Int32)), (.int c), (.int (Int32.ofNat (2 * i + 1))), (.ref d)])
  refine OwG.go (T' := T) (g' := (mkF m 52 #[.val (.ref d), .val (.int (Int32.ofNat (2 * i + 1))), .val (.int c)] [(.int ((c >>> ((8 : Int32) &&& 31)).toInt8.toInt32)), (.int (Int32.ofNat (2 * i + 1))), (.ref d)])) (fun tQ kQ => ?_) ?_
  · refine XS.ishr P.here hx rfl (Jvm.hb hby d24_50) rfl ?_
    refine XS.i2b P.here hx rfl (Jvm.hb hby d24_51) rfl ?_
    exact kQ
  refine P.stB hx hZ V_d (j := (Int32.ofNat (2 * i + 1))) (own_nn (by omega)) (own_lt (by omega) (by omega)) (i := (2 * i + 1)) (own_tc (by omega)) (by rw [List.length_set]; omega) (g := (mkF m 52 #[.val (.ref d), .val (.int (Int32.ofNat (2 * i + 1))), .val (.int c)] [(.int ((c >>> ((8 : Int32) &&& 31)).toInt8.toInt32)), (.int (Int32.ofNat (2 * i + 1))), (.ref d)])) rfl rfl (Jvm.hb hby d24_52) g_d fun T h2 P W V' => ?_
  replace Z0 := Nat.le_trans Z0 (Keep.of_wr W).1
  replace OL := OL.wr W g_d
  replace KP := KP.wr W (Or.inl (List.mem_of_getElem? (i := 0) rfl))
  replace V_d := V'
  clear W V'
  show OwG p e below s _ _ _ _ T (mkF m 53 #[.val (.ref d), .val (.int (Int32.ofNat (2 * i + 1))), .val (.int c)] [])
  rw [own_i2b2, own_i2b2, StrChars.shr0] at V_d
  exact P.retV hx hlk hret (Jvm.hb hby d24_53) (by first | decide | omega | (dsimp only; omega) | (dsimp only [room_1]; omega) | (simp; done) | (simp [room_1]; done) | (simp [room_1]; omega)) (by first | decide | omega | (dsimp only; omega) | (dsimp only [room_1]; omega) | (simp; done) | (simp [room_1]; done) | (simp [room_1]; omega)) ⟨rfl, KP, V_d⟩
theorem d25_0 : decode jdk_52_method_5_code 0 = .ok (.getstatic 44, 3) := by decide +kernel
theorem d25_3 : decode jdk_52_method_5_code 3 = .ok (.ifCond .ne 25, 3) := by decide +kernel
theorem d25_28 : decode jdk_52_method_5_code 28 = .ok (.iload_n 1, 1) := by decide +kernel
theorem d25_29 : decode jdk_52_method_5_code 29 = .ok (.iconst 1, 1) := by decide +kernel
theorem d25_30 : decode jdk_52_method_5_code 30 = .ok (.ishl, 1) := by decide +kernel
theorem d25_31 : decode jdk_52_method_5_code 31 = .ok (.istore_n 1, 1) := by decide +kernel
theorem d25_32 : decode jdk_52_method_5_code 32 = .ok (.aload_n 0, 1) := by decide +kernel
theorem d25_33 : decode jdk_52_method_5_code 33 = .ok (.iload_n 1, 1) := by decide +kernel
theorem d25_34 : decode jdk_52_method_5_code 34 = .ok (.iinc 1 1, 3) := by decide +kernel
theorem d25_37 : decode jdk_52_method_5_code 37 = .ok (.baload, 1) := by decide +kernel
theorem d25_38 : decode jdk_52_method_5_code 38 = .ok (.sipush 255, 3) := by decide +kernel
theorem d25_41 : decode jdk_52_method_5_code 41 = .ok (.iand, 1) := by decide +kernel
theorem d25_42 : decode jdk_52_method_5_code 42 = .ok (.getstatic 59, 3) := by decide +kernel
theorem d25_45 : decode jdk_52_method_5_code 45 = .ok (.ishl, 1) := by decide +kernel
theorem d25_46 : decode jdk_52_method_5_code 46 = .ok (.aload_n 0, 1) := by decide +kernel
theorem d25_47 : decode jdk_52_method_5_code 47 = .ok (.iload_n 1, 1) := by decide +kernel
theorem d25_48 : decode jdk_52_method_5_code 48 = .ok (.baload, 1) := by decide +kernel
theorem d25_49 : decode jdk_52_method_5_code 49 = .ok (.sipush 255, 3) := by decide +kernel
theorem d25_52 : decode jdk_52_method_5_code 52 = .ok (.iand, 1) := by decide +kernel
theorem d25_53 : decode jdk_52_method_5_code 53 = .ok (.getstatic 63, 3) := by decide +kernel
theorem d25_56 : decode jdk_52_method_5_code 56 = .ok (.ishl, 1) := by decide +kernel
theorem d25_57 : decode jdk_52_method_5_code 57 = .ok (.ior, 1) := by decide +kernel
theorem d25_58 : decode jdk_52_method_5_code 58 = .ok (.i2c, 1) := by decide +kernel
theorem d25_59 : decode jdk_52_method_5_code 59 = .ok (.ireturn, 1) := by decide +kernel
set_option maxRecDepth 65536 in
set_option maxHeartbeats 40000000 in
theorem rmGet (l : Launch) (Z : State) (a0 : Array Value) (hw : ∀ d ∈ tables_1, d.before a0 Z = true) (d : Addr) (kd : ClassId) (n i : Nat) (cs : List Int32) (h0 : Heap) (n0 : Nat) (Z0 : n0 ≤ h0.size) (SA : Sta Z Z.heap "java/lang/StringUTF16" "$assertionsDisabled" "Z" (.int (1 : Int32))) (SH : Sta Z Z.heap "java/lang/StringUTF16" "HI_BYTE_SHIFT" "I" (.int (0 : Int32))) (SL : Sta Z Z.heap "java/lang/StringUTF16" "LO_BYTE_SHIFT" "I" (.int (8 : Int32))) (OL : Old Z n0 h0) (V_d : Arv Z h0 d kd .byte (Int32.ofNat (2 * n)) (StrChars.Road.wideBytes cs) (.int (0 : Int32))) (hn : cs.length = n) (hb : n ≤ 4000) (hi : i < n) (hp : ∀ c ∈ cs, ¬ c < 0 ∧ ¬ (65535 : Int32) < c) :
    OwM l Z (⟨"java/lang/StringUTF16", "getChar", "([BI)C"⟩ : MethodName) jdk_52_method_5_code 2 (some .char) ({ frames := 0, cells := 0, slots := 0, locals := 0 } : Room) n0 #[(.ref d), (.int (Int32.ofNat i))] h0 (fun v h => v = some (.int (cs.getD i 0)) ∧ h = h0) := by
  refine OwM.mk (plainFor_of_name pn_java_lang_StringUTF16) ?_
  intro p e s m below meth cD T hx hby hml hown hnm hret hlk hZ P
  refine OwG.cast (show entryFrame m #[(.ref d), (.int (Int32.ofNat i))] 2 = mkF m 0 #[.val (.ref d), .val (.int (Int32.ofNat i))] [] from by first | rfl | (simp [entryFrame, mkF, argsToLocals, Value.category]; done)) ?_
  refine P.getS hx hZ hown (host := "") (Or.inl (hw _ (List.mem_of_getElem? (i := 109) rfl))) Via.refl (SA.ext OL.2) (g := (mkF m 0 #[.val (.ref d), .val (.int (Int32.ofNat i))] [])) rfl (Jvm.hb hby d25_0) fun T P => ?_
  show OwG p e below s _ _ _ _ T (mkF m 3 #[.val (.ref d), .val (.int (Int32.ofNat i))] [(.int (1 : Int32))])
  refine OwG.go (T' := T) (g' := (mkF m 28 #[.val (.ref d), .val (.int (Int32.ofNat i))] [])) (fun tQ kQ => ?_) ?_
  · refine XS.ifYes P.here hx rfl (pc0 := 3) (pc' := 28) rfl (Jvm.hb hby d25_3) rfl ((if0 _ _).trans (feq (by decide : ¬ (1 : Int32) = 0)).2) (by decide) (by decide) ?_
    exact kQ
  refine OwG.go (T' := T) (g' := (mkF m 32 #[.val (.ref d), .val (.int ((Int32.ofNat i) <<< ((1 : Int32) &&& 31)))] [])) (fun tQ kQ => ?_) ?_
  · refine XS.iloadN P.here hx rfl (Jvm.hb hby d25_28) rfl ?_
    refine XS.iconst P.here hx rfl (Jvm.hb hby d25_29) ?_
    refine XS.ishl P.here hx rfl (Jvm.hb hby d25_30) rfl ?_
    refine XS.istoreN P.here hx rfl (Jvm.hb hby d25_31) rfl (l' := #[.val (.ref d), .val (.int ((Int32.ofNat i) <<< ((1 : Int32) &&& 31)))]) rfl ?_
    exact kQ
  rw [show ((Int32.ofNat i) <<< ((1 : Int32) &&& 31)) = (Int32.ofNat (2 * i)) from own_shl1 (by omega)]
  show OwG p e below s _ _ _ _ T (mkF m 32 #[.val (.ref d), .val (.int (Int32.ofNat (2 * i)))] [])
  refine OwG.go (T' := T) (g' := (mkF m 37 #[.val (.ref d), .val (.int ((Int32.ofNat (2 * i)) + (1 : Int32)))] [(.int (Int32.ofNat (2 * i))), (.ref d)])) (fun tQ kQ => ?_) ?_
  · refine XS.aloadN P.here hx rfl (Jvm.hb hby d25_32) rfl rfl ?_
    refine XS.iloadN P.here hx rfl (Jvm.hb hby d25_33) rfl ?_
    refine XS.iinc P.here hx rfl (Jvm.hb hby d25_34) rfl (l' := #[.val (.ref d), .val (.int ((Int32.ofNat (2 * i)) + (1 : Int32)))]) rfl ?_
    exact kQ
  obtain ⟨own_cl, own_A, own_q1, own_S, own_M, own_H, own_U⟩ := id V_d
  obtain ⟨own_L, own_X, own_e, own_N⟩ := id P
  have own_Z := hZ
  have own_in := inb_of own_S (j := (Int32.ofNat (2 * i))) ⟨own_nn (by omega), own_lt (by omega) (by omega)⟩
  refine OwG.go (T' := T) (g' := (mkF m 38 #[.val (.ref d), .val (.int ((Int32.ofNat (2 * i)) + (1 : Int32)))] [(.int (StrChars.lo8 (cs.getD i 0)))])) (fun tQ kQ => ?_) ?_
  · refine own_X.baloadBytes hx (j := (Int32.ofNat (2 * i))) (v := (.int (StrChars.lo8 (cs.getD i 0)))) (by rw [own_e]; exact own_A.1) (State.isArrayOf_alike own_Z.alike own_A.2.1) own_A.2.2 own_in (Has.at own_H own_in (own_wlo (by omega) (by omega))) (g := (mkF m 37 #[.val (.ref d), .val (.int ((Int32.ofNat (2 * i)) + (1 : Int32)))] [(.int (Int32.ofNat (2 * i))), (.ref d)])) rfl rfl (Jvm.hb hby d25_37) _ ?_
    exact kQ
  refine OwG.go (T' := T) (g' := (mkF m 42 #[.val (.ref d), .val (.int ((Int32.ofNat (2 * i)) + (1 : Int32)))] [(.int ((StrChars.lo8 (cs.getD i 0)) &&& (255 : Int32)))])) (fun tQ kQ => ?_) ?_
  · refine XS.sipush P.here hx rfl (Jvm.hb hby d25_38) ?_
    refine XS.iand P.here hx rfl (Jvm.hb hby d25_41) rfl ?_
    exact kQ
  refine P.getS hx hZ hown (host := "") (Or.inl (hw _ (List.mem_of_getElem? (i := 110) rfl))) Via.refl (SH.ext OL.2) (g := (mkF m 42 #[.val (.ref d), .val (.int ((Int32.ofNat (2 * i)) + (1 : Int32)))] [(.int ((StrChars.lo8 (cs.getD i 0)) &&& (255 : Int32)))])) rfl (Jvm.hb hby d25_42) fun T P => ?_
  show OwG p e below s _ _ _ _ T (mkF m 45 #[.val (.ref d), .val (.int ((Int32.ofNat (2 * i)) + (1 : Int32)))] [(.int (0 : Int32)), (.int ((StrChars.lo8 (cs.getD i 0)) &&& (255 : Int32)))])
  refine OwG.go (T' := T) (g' := (mkF m 48 #[.val (.ref d), .val (.int ((Int32.ofNat (2 * i)) + (1 : Int32)))] [(.int ((Int32.ofNat (2 * i)) + (1 : Int32))), (.ref d), (.int (((StrChars.lo8 (cs.getD i 0)) &&& (255 : Int32)) <<< ((0 : Int32) &&& 31)))])) (fun tQ kQ => ?_) ?_
  · refine XS.ishl P.here hx rfl (Jvm.hb hby d25_45) rfl ?_
    refine XS.aloadN P.here hx rfl (Jvm.hb hby d25_46) rfl rfl ?_
    refine XS.iloadN P.here hx rfl (Jvm.hb hby d25_47) rfl ?_
    exact kQ
  rw [show ((Int32.ofNat (2 * i)) + (1 : Int32)) = (Int32.ofNat (2 * i + 1)) from own_succ _]
  show OwG p e below s _ _ _ _ T (mkF m 48 #[.val (.ref d), .val (.int (Int32.ofNat (2 * i + 1)))] [(.int (Int32.ofNat (2 * i + 1))), (.ref d), (.int (((StrChars.lo8 (cs.getD i 0)) &&& (255 : Int32)) <<< ((0 : Int32) &&& 31)))])
  obtain ⟨own_cl, own_A, own_q1, own_S, own_M, own_H, own_U⟩ := id V_d
  obtain ⟨own_L, own_X, own_e, own_N⟩ := id P
  have own_Z := hZ
  have own_in := inb_of own_S (j := (Int32.ofNat (2 * i + 1))) ⟨own_nn (by omega), own_lt (by omega) (by omega)⟩
  refine OwG.go (T' := T) (g' := (mkF m 49 #[.val (.ref d), .val (.int (Int32.ofNat (2 * i + 1)))] [(.int (StrChars.hi8 (cs.getD i 0))), (.int (((StrChars.lo8 (cs.getD i 0)) &&& (255 : Int32)) <<< ((0 : Int32) &&& 31)))])) (fun tQ kQ => ?_) ?_
  · refine own_X.baloadBytes hx (j := (Int32.ofNat (2 * i + 1))) (v := (.int (StrChars.hi8 (cs.getD i 0)))) (by rw [own_e]; exact own_A.1) (State.isArrayOf_alike own_Z.alike own_A.2.1) own_A.2.2 own_in (Has.at own_H own_in (own_whi (by omega) (by omega))) (g := (mkF m 48 #[.val (.ref d), .val (.int (Int32.ofNat (2 * i + 1)))] [(.int (Int32.ofNat (2 * i + 1))), (.ref d), (.int (((StrChars.lo8 (cs.getD i 0)) &&& (255 : Int32)) <<< ((0 : Int32) &&& 31)))])) rfl rfl (Jvm.hb hby d25_48) _ ?_
    exact kQ
  refine OwG.go (T' := T) (g' := (mkF m 53 #[.val (.ref d), .val (.int (Int32.ofNat (2 * i + 1)))] [(.int ((StrChars.hi8 (cs.getD i 0)) &&& (255 : Int32))), (.int (((StrChars.lo8 (cs.getD i 0)) &&& (255 : Int32)) <<< ((0 : Int32) &&& 31)))])) (fun tQ kQ => ?_) ?_
  · refine XS.sipush P.here hx rfl (Jvm.hb hby d25_49) ?_
    refine XS.iand P.here hx rfl (Jvm.hb hby d25_52) rfl ?_
    exact kQ
  refine P.getS hx hZ hown (host := "") (Or.inl (hw _ (List.mem_of_getElem? (i := 111) rfl))) Via.refl (SL.ext OL.2) (g := (mkF m 53 #[.val (.ref d), .val (.int (Int32.ofNat (2 * i + 1)))] [(.int ((StrChars.hi8 (cs.getD i 0)) &&& (255 : Int32))), (.int (((StrChars.lo8 (cs.getD i 0)) &&& (255 : Int32)) <<< ((0 : Int32) &&& 31)))])) rfl (Jvm.hb hby d25_53) fun T P => ?_
  show OwG p e below s _ _ _ _ T (mkF m 56 #[.val (.ref d), .val (.int (Int32.ofNat (2 * i + 1)))] [(.int (8 : Int32)), (.int ((StrChars.hi8 (cs.getD i 0)) &&& (255 : Int32))), (.int (((StrChars.lo8 (cs.getD i 0)) &&& (255 : Int32)) <<< ((0 : Int32) &&& 31)))])
  refine OwG.go (T' := T) (g' := (mkF m 59 #[.val (.ref d), .val (.int (Int32.ofNat (2 * i + 1)))] [(.int (((((StrChars.lo8 (cs.getD i 0)) &&& (255 : Int32)) <<< ((0 : Int32) &&& 31)) ||| (((StrChars.hi8 (cs.getD i 0)) &&& (255 : Int32)) <<< ((8 : Int32) &&& 31))).toUInt32.toUInt16.toUInt32.toInt32))])) (fun tQ kQ => ?_) ?_
  · refine XS.ishl P.here hx rfl (Jvm.hb hby d25_56) rfl ?_
    refine XS.ior P.here hx rfl (Jvm.hb hby d25_57) rfl ?_
    refine XS.i2c P.here hx rfl (Jvm.hb hby d25_58) rfl ?_
    exact kQ
  have own_b := own_bd (i := i) (by omega) hp
  rw [show (((((StrChars.lo8 (cs.getD i 0)) &&& (255 : Int32)) <<< ((0 : Int32) &&& 31)) ||| (((StrChars.hi8 (cs.getD i 0)) &&& (255 : Int32)) <<< ((8 : Int32) &&& 31))).toUInt32.toUInt16.toUInt32.toInt32) = (cs.getD i 0) from StrChars.pair_says own_b.1 own_b.2]
  show OwG p e below s _ _ _ _ T (mkF m 59 #[.val (.ref d), .val (.int (Int32.ofNat (2 * i + 1)))] [(.int (cs.getD i 0))])
  exact P.retN hx hlk (t := .char) hret (by simp) (Jvm.hb hby d25_59) (by first | decide | omega | (dsimp only; omega) | (dsimp only [room_1]; omega) | (simp; done) | (simp [room_1]; done) | (simp [room_1]; omega)) (by first | decide | omega | (dsimp only; omega) | (dsimp only [room_1]; omega) | (simp; done) | (simp [room_1]; done) | (simp [room_1]; omega)) ⟨by rw [own_narc own_b.1 own_b.2], rfl⟩
theorem d23_0 : decode jdk_52_method_3_code 0 = .ok (.iload_n 0, 1) := by decide +kernel
theorem d23_1 : decode jdk_52_method_3_code 1 = .ok (.ifCond .ge 11, 3) := by decide +kernel
theorem d23_12 : decode jdk_52_method_3_code 12 = .ok (.iload_n 0, 1) := by decide +kernel
theorem d23_13 : decode jdk_52_method_3_code 13 = .ok (.ldc 20, 2) := by decide +kernel
theorem d23_15 : decode jdk_52_method_3_code 15 = .ok (.if_icmp .lt 40, 3) := by decide +kernel
theorem d23_55 : decode jdk_52_method_3_code 55 = .ok (.iload_n 0, 1) := by decide +kernel
theorem d23_56 : decode jdk_52_method_3_code 56 = .ok (.iconst 1, 1) := by decide +kernel
theorem d23_57 : decode jdk_52_method_3_code 57 = .ok (.ishl, 1) := by decide +kernel
theorem d23_58 : decode jdk_52_method_3_code 58 = .ok (.ireturn, 1) := by decide +kernel
set_option maxRecDepth 65536 in
set_option maxHeartbeats 40000000 in
theorem rmNbl (l : Launch) (Z : State) (a0 : Array Value) (hw : ∀ d ∈ tables_1, d.before a0 Z = true) (n : Nat) (h0 : Heap) (n0 : Nat) (Z0 : n0 ≤ h0.size) (hb : n ≤ 4000) :
    OwM l Z (⟨"java/lang/StringUTF16", "newBytesLength", "(I)I"⟩ : MethodName) jdk_52_method_3_code 1 (some .int) ({ frames := 0, cells := 0, slots := 0, locals := 0 } : Room) n0 #[(.int (Int32.ofNat n))] h0 (fun v h => v = some (.int (Int32.ofNat (2 * n))) ∧ h = h0) := by
  refine OwM.mk (plainFor_of_name pn_java_lang_StringUTF16) ?_
  intro p e s m below meth cD T hx hby hml hown hnm hret hlk hZ P
  refine OwG.cast (show entryFrame m #[(.int (Int32.ofNat n))] 1 = mkF m 0 #[.val (.int (Int32.ofNat n))] [] from by first | rfl | (simp [entryFrame, mkF, argsToLocals, Value.category]; done)) ?_
  refine OwG.go (T' := T) (g' := (mkF m 1 #[.val (.int (Int32.ofNat n))] [(.int (Int32.ofNat n))])) (fun tQ kQ => ?_) ?_
  · refine XS.iloadN P.here hx rfl (Jvm.hb hby d23_0) rfl ?_
    exact kQ
  refine OwG.go (T' := T) (g' := (mkF m 12 #[.val (.int (Int32.ofNat n))] [])) (fun tQ kQ => ?_) ?_
  · refine XS.ifYes P.here hx rfl (pc0 := 1) (pc' := 12) rfl (Jvm.hb hby d23_1) rfl ((if0 _ _).trans (flt (own_nn (by omega))).2.1) (by decide) (by decide) ?_
    exact kQ
  refine OwG.go (T' := T) (g' := (mkF m 13 #[.val (.int (Int32.ofNat n))] [(.int (Int32.ofNat n))])) (fun tQ kQ => ?_) ?_
  · refine XS.iloadN P.here hx rfl (Jvm.hb hby d23_12) rfl ?_
    exact kQ
  obtain ⟨own_L, own_X, own_rest⟩ := id P
  refine OwG.go (T' := T) (g' := (mkF m 15 #[.val (.int (Int32.ofNat n))] [(.int (1073741823 : Int32)), (.int (Int32.ofNat n))])) (fun tQ kQ => ?_) ?_
  · refine own_X.ldcInt hx hown (mvT hZ (hw _ (List.mem_of_getElem? (i := 105) rfl))) (g := (mkF m 13 #[.val (.int (Int32.ofNat n))] [(.int (Int32.ofNat n))])) rfl (Jvm.hb hby d23_13) _ ?_
    exact kQ
  refine OwG.go (T' := T) (g' := (mkF m 55 #[.val (.int (Int32.ofNat n))] [])) (fun tQ kQ => ?_) ?_
  · refine XS.icmpYes P.here hx rfl (pc0 := 15) (pc' := 55) rfl (Jvm.hb hby d23_15) rfl (tlt (own_lt (n := 1073741823) (by omega) (by omega))).1 (by decide) (by decide) ?_
    exact kQ
  refine OwG.go (T' := T) (g' := (mkF m 58 #[.val (.int (Int32.ofNat n))] [(.int ((Int32.ofNat n) <<< ((1 : Int32) &&& 31)))])) (fun tQ kQ => ?_) ?_
  · refine XS.iloadN P.here hx rfl (Jvm.hb hby d23_55) rfl ?_
    refine XS.iconst P.here hx rfl (Jvm.hb hby d23_56) ?_
    refine XS.ishl P.here hx rfl (Jvm.hb hby d23_57) rfl ?_
    exact kQ
  rw [show ((Int32.ofNat n) <<< ((1 : Int32) &&& 31)) = (Int32.ofNat (2 * n)) from own_shl1 (by omega)]
  show OwG p e below s _ _ _ _ T (mkF m 58 #[.val (.int (Int32.ofNat n))] [(.int (Int32.ofNat (2 * n)))])
  exact P.retI hx hlk hret (Jvm.hb hby d23_58) (by first | decide | omega | (dsimp only; omega) | (dsimp only [room_1]; omega) | (simp; done) | (simp [room_1]; done) | (simp [room_1]; omega)) (by first | decide | omega | (dsimp only; omega) | (dsimp only [room_1]; omega) | (simp; done) | (simp [room_1]; done) | (simp [room_1]; omega)) ⟨rfl, rfl⟩
theorem d22_0 : decode jdk_52_method_2_code 0 = .ok (.iload_n 0, 1) := by decide +kernel
theorem d22_1 : decode jdk_52_method_2_code 1 = .ok (.invokestatic 11, 3) := by decide +kernel
theorem pd__I_I : parseMethodDescriptor "(I)I" = some ⟨[.int], some .int⟩ := by decide +kernel
theorem d22_4 : decode jdk_52_method_2_code 4 = .ok (.newarray .byte, 2) := by decide +kernel
theorem d22_6 : decode jdk_52_method_2_code 6 = .ok (.areturn, 1) := by decide +kernel
set_option maxRecDepth 65536 in
set_option maxHeartbeats 40000000 in
theorem rmNbf (l : Launch) (Z : State) (a0 : Array Value) (hw : ∀ d ∈ tables_1, d.before a0 Z = true) (n : Nat) (h0 : Heap) (n0 : Nat) (Z0 : n0 ≤ h0.size) (hb : n ≤ 4000) :
    OwM l Z (⟨"java/lang/StringUTF16", "newBytesFor", "(I)[B"⟩ : MethodName) jdk_52_method_2_code 1 (some (.array .byte)) ({ frames := 1, cells := 1, slots := 2 * n, locals := 12 } : Room) n0 #[(.int (Int32.ofNat n))] h0 (fun v h => ∃ (b : Addr) (kb : ClassId), v = some (.ref b) ∧ b = h0.size ∧ Keep h0 h [] ∧ Arv Z h b kb .byte (Int32.ofNat (2 * n)) (List.replicate (2 * n) (.int (0 : Int32))) (.int (0 : Int32))) := by
  refine OwM.mk (plainFor_of_name pn_java_lang_StringUTF16) ?_
  intro p e s m below meth cD T hx hby hml hown hnm hret hlk hZ P
  refine OwG.cast (show entryFrame m #[(.int (Int32.ofNat n))] 1 = mkF m 0 #[.val (.int (Int32.ofNat n))] [] from by first | rfl | (simp [entryFrame, mkF, argsToLocals, Value.category]; done)) ?_
  have KP := Keep.refl h0 []
  refine OwG.go (T' := T) (g' := (mkF m 1 #[.val (.int (Int32.ofNat n))] [(.int (Int32.ofNat n))])) (fun tQ kQ => ?_) ?_
  · refine XS.iloadN P.here hx rfl (Jvm.hb hby d22_0) rfl ?_
    exact kQ
  refine P.stat hx hZ (y := (⟨"java/lang/StringUTF16", "newBytesLength", "(I)I"⟩ : MethodName)) hown (hw _ (List.mem_of_getElem? (i := 102) rfl)) (hw _ (List.mem_of_getElem? (i := 103) rfl)) (hw _ (List.mem_of_getElem? (i := 23) rfl)) (hw _ (List.mem_of_getElem? (i := 104) rfl)) (by decide) (OwM.back (W := 0) (rmNbl l Z a0 hw n h0 n0 Z0 hb) hZ (hw _ (List.mem_of_getElem? (i := 104) rfl)) (hw _ (List.mem_of_getElem? (i := 23) rfl)) (own_le rfl) (own_le rfl)) (fun _ _ _ q => q.2) (g := (mkF m 1 #[.val (.int (Int32.ofNat n))] [(.int (Int32.ofNat n))])) rfl (by rw [hml]; rfl) (argsL := [(.int (Int32.ofNat n))]) (rest := []) (lenOf pd__I_I rfl) rfl (by show 2 * 0 + _ ≤ _; exact Nat.le_of_eq rfl) (Jvm.hb hby d22_1) rfl (by first | decide | omega | (dsimp only; omega) | (dsimp only [room_1]; omega) | (simp; done) | (simp [room_1]; done) | (simp [room_1]; omega)) (by first | decide | omega | (dsimp only; omega) | (dsimp only [room_1]; omega) | (simp; done) | (simp [room_1]; done) | (simp [room_1]; omega)) fun T own_v own_L h1 own_e P own_q => ?_
  obtain ⟨⟨rfl, own_hh⟩, -⟩ := own_q
  rw [own_hh] at P
  clear own_e own_hh
  show OwG p e below s _ _ _ _ T (mkF m 4 #[.val (.int (Int32.ofNat n))] [(.int (Int32.ofNat (2 * n)))])
  refine P.newP hx hZ (hw _ (List.mem_of_getElem? (i := 25) rfl)) (g := (mkF m 4 #[.val (.int (Int32.ofNat n))] [(.int (Int32.ofNat (2 * n)))])) rfl (Jvm.hb hby d22_4) rfl (own_nn (by omega)) (cap := (2 * n)) (Nat.le_of_eq (own_tc (by omega))) (by omega) (by first | decide | omega | (dsimp only; omega) | (dsimp only [room_1]; omega) | (simp; done) | (simp [room_1]; done) | (simp [room_1]; omega)) (by first | decide | omega | (dsimp only; omega) | (dsimp only [room_1]; omega) | (simp; done) | (simp [room_1]; done) | (simp [room_1]; omega)) fun T h2 b kb gb P E V_b => ?_
  have sz_b : h0.size ≤ b := Nat.le_trans KP.1 (Nat.le_of_eq gb.symm)
  replace KP := KP.ext E
  clear E
  replace V_b : Arv Z h2 b kb .byte (Int32.ofNat (2 * n)) (List.replicate (2 * n) (.int (0 : Int32))) (.int (0 : Int32)) := V_b.pad (pad_rep [] (.int (0 : Int32)) (2 * n))
  show OwG p e below s _ _ _ _ T (mkF m 6 #[.val (.int (Int32.ofNat n))] [(.ref b)])
  exact P.retR hx hlk hret rfl rfl (Jvm.hb hby d22_6) (by first | decide | omega | (dsimp only; omega) | (dsimp only [room_1]; omega) | (simp; done) | (simp [room_1]; done) | (simp [room_1]; omega)) (by first | decide | omega | (dsimp only; omega) | (dsimp only [room_1]; omega) | (simp; done) | (simp [room_1]; done) | (simp [room_1]; omega)) ⟨b, kb, rfl, gb, KP, V_b⟩
theorem d21_0 : decode jdk_52_method_14_code 0 = .ok (.iload_n 2, 1) := by decide +kernel
theorem d21_1 : decode jdk_52_method_14_code 1 = .ok (.invokestatic 107, 3) := by decide +kernel
theorem pd__I__B : parseMethodDescriptor "(I)[B" = some ⟨[.int], some (.array .byte)⟩ := by decide +kernel
theorem d21_4 : decode jdk_52_method_14_code 4 = .ok (.astore_n 3, 1) := by decide +kernel
theorem d21_5 : decode jdk_52_method_14_code 5 = .ok (.iconst 0, 1) := by decide +kernel
theorem d21_6 : decode jdk_52_method_14_code 6 = .ok (.istore 4, 2) := by decide +kernel
theorem d21_8 : decode jdk_52_method_14_code 8 = .ok (.iload 4, 2) := by decide +kernel
theorem d21_10 : decode jdk_52_method_14_code 10 = .ok (.iload_n 2, 1) := by decide +kernel
theorem d21_11 : decode jdk_52_method_14_code 11 = .ok (.if_icmp .ge 21, 3) := by decide +kernel
theorem d21_32 : decode jdk_52_method_14_code 32 = .ok (.aload_n 3, 1) := by decide +kernel
theorem d21_33 : decode jdk_52_method_14_code 33 = .ok (.areturn, 1) := by decide +kernel
theorem d21_14 : decode jdk_52_method_14_code 14 = .ok (.aload_n 3, 1) := by decide +kernel
theorem d21_15 : decode jdk_52_method_14_code 15 = .ok (.iload 4, 2) := by decide +kernel
theorem d21_17 : decode jdk_52_method_14_code 17 = .ok (.aload_n 0, 1) := by decide +kernel
theorem d21_18 : decode jdk_52_method_14_code 18 = .ok (.iload_n 1, 1) := by decide +kernel
theorem d21_19 : decode jdk_52_method_14_code 19 = .ok (.caload, 1) := by decide +kernel
theorem d21_20 : decode jdk_52_method_14_code 20 = .ok (.invokestatic 111, 3) := by decide +kernel
theorem pd___BII_V : parseMethodDescriptor "([BII)V" = some ⟨[(.array .byte), .int, .int], none⟩ := by decide +kernel
theorem d21_23 : decode jdk_52_method_14_code 23 = .ok (.iinc 1 1, 3) := by decide +kernel
theorem d21_26 : decode jdk_52_method_14_code 26 = .ok (.iinc 4 1, 3) := by decide +kernel
theorem d21_29 : decode jdk_52_method_14_code 29 = .ok (.goto (-21), 3) := by decide +kernel
set_option maxRecDepth 65536 in
set_option maxHeartbeats 40000000 in
theorem rmTob (l : Launch) (Z : State) (a0 : Array Value) (hw : ∀ d ∈ tables_1, d.before a0 Z = true) (a : Addr) (ka : ClassId) (da : Value) (n : Nat) (cs : List Int32) (h0 : Heap) (n0 : Nat) (Z0 : n0 ≤ h0.size) (SA : Sta Z Z.heap "java/lang/StringUTF16" "$assertionsDisabled" "Z" (.int (1 : Int32))) (SH : Sta Z Z.heap "java/lang/StringUTF16" "HI_BYTE_SHIFT" "I" (.int (0 : Int32))) (SL : Sta Z Z.heap "java/lang/StringUTF16" "LO_BYTE_SHIFT" "I" (.int (8 : Int32))) (OL : Old Z n0 h0) (V_a : Arv Z h0 a ka .char (Int32.ofNat n) (cs.map Value.int) da) (hn : cs.length = n) (hb : n ≤ 4000) :
    OwM l Z (⟨"java/lang/StringUTF16", "toBytes", "([CII)[B"⟩ : MethodName) jdk_52_method_14_code 5 (some (.array .byte)) ({ frames := 2, cells := 1, slots := 2 * n, locals := 26 } : Room) n0 #[(.ref a), (.int (0 : Int32)), (.int (Int32.ofNat n))] h0 (fun v h => ∃ (b : Addr) (kb : ClassId), v = some (.ref b) ∧ b = h0.size ∧ Keep h0 h [] ∧ Arv Z h b kb .byte (Int32.ofNat (2 * n)) (StrChars.Road.wideBytes cs) (.int (0 : Int32))) := by
  refine OwM.mk (plainFor_of_name pn_java_lang_StringUTF16) ?_
  intro p e s m below meth cD T hx hby hml hown hnm hret hlk hZ P
  refine OwG.cast (show entryFrame m #[(.ref a), (.int (0 : Int32)), (.int (Int32.ofNat n))] 5 = mkF m 0 #[.val (.ref a), .val (.int (0 : Int32)), .val (.int (Int32.ofNat n)), .unset, .unset] [] from by first | rfl | (simp [entryFrame, mkF, argsToLocals, Value.category]; done)) ?_
  have KP := Keep.refl h0 []
  refine OwG.go (T' := T) (g' := (mkF m 1 #[.val (.ref a), .val (.int (0 : Int32)), .val (.int (Int32.ofNat n)), .unset, .unset] [(.int (Int32.ofNat n))])) (fun tQ kQ => ?_) ?_
  · refine XS.iloadN P.here hx rfl (Jvm.hb hby d21_0) rfl ?_
    exact kQ
  refine P.stat hx hZ (y := (⟨"java/lang/StringUTF16", "newBytesFor", "(I)[B"⟩ : MethodName)) hown (hw _ (List.mem_of_getElem? (i := 99) rfl)) (hw _ (List.mem_of_getElem? (i := 100) rfl)) (hw _ (List.mem_of_getElem? (i := 23) rfl)) (hw _ (List.mem_of_getElem? (i := 101) rfl)) (by decide) (OwM.back (W := 0) (rmNbf l Z a0 hw n h0 n0 Z0 hb) hZ (hw _ (List.mem_of_getElem? (i := 101) rfl)) (hw _ (List.mem_of_getElem? (i := 23) rfl)) (own_le rfl) (own_le rfl)) (fun _ _ _ q => q.2) (g := (mkF m 1 #[.val (.ref a), .val (.int (0 : Int32)), .val (.int (Int32.ofNat n)), .unset, .unset] [(.int (Int32.ofNat n))])) rfl (by rw [hml]; rfl) (argsL := [(.int (Int32.ofNat n))]) (rest := []) (lenOf pd__I__B rfl) rfl (by show 2 * 0 + _ ≤ _; exact Nat.le_of_eq rfl) (Jvm.hb hby d21_1) rfl (by first | decide | omega | (dsimp only; omega) | (dsimp only [room_1]; omega) | (simp; done) | (simp [room_1]; done) | (simp [room_1]; omega)) (by first | decide | omega | (dsimp only; omega) | (dsimp only [room_1]; omega) | (simp; done) | (simp [room_1]; done) | (simp [room_1]; omega)) fun T own_v own_L h1 own_e P own_q => ?_
  obtain ⟨⟨b, kb, rfl, gb, K, V_b⟩, -⟩ := own_q
  show OwG p e below s _ _ _ _ T (mkF m 4 #[.val (.ref a), .val (.int (0 : Int32)), .val (.int (Int32.ofNat n)), .unset, .unset] [(.ref b)])
  clear own_e
  have ne_a_b : a ≠ b := Nat.ne_of_lt (Nat.lt_of_lt_of_le V_a.lt (Nat.le_of_eq gb.symm))
  have ne_b_a := Ne.symm ne_a_b
  have g_b : n0 ≤ b := Nat.le_trans Z0 (Nat.le_of_eq gb.symm)
  have sz_b : h0.size ≤ b := Nat.le_trans KP.1 (Nat.le_of_eq gb.symm)
  replace V_a := V_a.keep K nin0
  replace Z0 := Nat.le_trans Z0 K.1
  replace OL := OL.keep K all0
  replace KP := KP.trans K all0
  refine OwG.go (T' := T) (g' := (mkF m 8 #[.val (.ref a), .val (.int (0 : Int32)), .val (.int (Int32.ofNat n)), .val (.ref b), .val (.int (0 : Int32))] [])) (fun tQ kQ => ?_) ?_
  · refine XS.astoreN P.here hx rfl (Jvm.hb hby d21_4) rfl rfl (l' := #[.val (.ref a), .val (.int (0 : Int32)), .val (.int (Int32.ofNat n)), .val (.ref b), .unset]) rfl ?_
    refine XS.iconst P.here hx rfl (Jvm.hb hby d21_5) ?_
    refine XS.istore P.here hx rfl (Jvm.hb hby d21_6) rfl (l' := #[.val (.ref a), .val (.int (0 : Int32)), .val (.int (Int32.ofNat n)), .val (.ref b), .val (.int (0 : Int32))]) rfl ?_
    exact kQ
  have lp : ∀ (k i : Nat) (T : State) (hL_lp : Heap), i + k = n → OwP p l e ({ frames := 2, cells := 1, slots := 2 * n, locals := 26 } : Room) s m #[(.ref a), (.int (0 : Int32)), (.int (Int32.ofNat n))] below meth cD n0 T hL_lp 1 (0 + (2 * n)) → (n0 ≤ hL_lp.size) → (Old Z n0 hL_lp) → (Keep h0 hL_lp []) → (Arv Z hL_lp a ka .char (Int32.ofNat n) (cs.map Value.int) da) → (Arv Z hL_lp b kb .byte (Int32.ofNat (2 * n)) (own_wb cs n i) (.int (0 : Int32))) → OwG p e below s n0 ({ frames := 2, cells := 1, slots := 2 * n, locals := 26 } : Room).cells ({ frames := 2, cells := 1, slots := 2 * n, locals := 26 } : Room).slots (fun v h => ∃ (b : Addr) (kb : ClassId), v = some (.ref b) ∧ b = h0.size ∧ Keep h0 h [] ∧ Arv Z h b kb .byte (Int32.ofNat (2 * n)) (StrChars.Road.wideBytes cs) (.int (0 : Int32))) T (mkF m 8 #[.val (.ref a), .val (.int (Int32.ofNat i)), .val (.int (Int32.ofNat n)), .val (.ref b), .val (.int (Int32.ofNat i))] []) := by
    intro k
    induction k with
    | zero =>
      intro i T hL_lp  hik P Z0 OL KP V_a V_b
      refine OwG.go (T' := T) (g' := (mkF m 11 #[.val (.ref a), .val (.int (Int32.ofNat i)), .val (.int (Int32.ofNat n)), .val (.ref b), .val (.int (Int32.ofNat i))] [(.int (Int32.ofNat n)), (.int (Int32.ofNat i))])) (fun tQ kQ => ?_) ?_
      · refine XS.iload P.here hx rfl (Jvm.hb hby d21_8) rfl ?_
        refine XS.iloadN P.here hx rfl (Jvm.hb hby d21_10) rfl ?_
        exact kQ
      have own_i : i = n := by omega
      refine OwG.go (T' := T) (g' := (mkF m 32 #[.val (.ref a), .val (.int (Int32.ofNat i)), .val (.int (Int32.ofNat n)), .val (.ref b), .val (.int (Int32.ofNat i))] [])) (fun tQ kQ => ?_) ?_
      · refine XS.icmpYes P.here hx rfl (pc0 := 11) (pc' := 32) rfl (Jvm.hb hby d21_11) rfl (flt (own_nlt (by omega) (by omega))).2.1 (by decide) (by decide) ?_
        exact kQ
      refine OwG.go (T' := T) (g' := (mkF m 33 #[.val (.ref a), .val (.int (Int32.ofNat i)), .val (.int (Int32.ofNat n)), .val (.ref b), .val (.int (Int32.ofNat i))] [(.ref b)])) (fun tQ kQ => ?_) ?_
      · refine XS.aloadN P.here hx rfl (Jvm.hb hby d21_32) rfl rfl ?_
        exact kQ
      rw [own_i, own_wb_end hn] at V_b
      exact P.retR hx hlk hret rfl rfl (Jvm.hb hby d21_33) (by first | decide | omega | (dsimp only; omega) | (dsimp only [room_1]; omega) | (simp; done) | (simp [room_1]; done) | (simp [room_1]; omega)) (by first | decide | omega | (dsimp only; omega) | (dsimp only [room_1]; omega) | (simp; done) | (simp [room_1]; done) | (simp [room_1]; omega)) ⟨b, kb, rfl, gb, KP, V_b⟩
    | succ k ih =>
      intro i T hL_lp  hik P Z0 OL KP V_a V_b
      refine OwG.go (T' := T) (g' := (mkF m 11 #[.val (.ref a), .val (.int (Int32.ofNat i)), .val (.int (Int32.ofNat n)), .val (.ref b), .val (.int (Int32.ofNat i))] [(.int (Int32.ofNat n)), (.int (Int32.ofNat i))])) (fun tQ kQ => ?_) ?_
      · refine XS.iload P.here hx rfl (Jvm.hb hby d21_8) rfl ?_
        refine XS.iloadN P.here hx rfl (Jvm.hb hby d21_10) rfl ?_
        exact kQ
      refine OwG.go (T' := T) (g' := (mkF m 14 #[.val (.ref a), .val (.int (Int32.ofNat i)), .val (.int (Int32.ofNat n)), .val (.ref b), .val (.int (Int32.ofNat i))] [])) (fun tQ kQ => ?_) ?_
      · refine XS.icmpNo P.here hx rfl (Jvm.hb hby d21_11) rfl (tlt (own_lt (by omega) (by omega))).2.1 ?_
        exact kQ
      refine OwG.go (T' := T) (g' := (mkF m 19 #[.val (.ref a), .val (.int (Int32.ofNat i)), .val (.int (Int32.ofNat n)), .val (.ref b), .val (.int (Int32.ofNat i))] [(.int (Int32.ofNat i)), (.ref a), (.int (Int32.ofNat i)), (.ref b)])) (fun tQ kQ => ?_) ?_
      · refine XS.aloadN P.here hx rfl (Jvm.hb hby d21_14) rfl rfl ?_
        refine XS.iload P.here hx rfl (Jvm.hb hby d21_15) rfl ?_
        refine XS.aloadN P.here hx rfl (Jvm.hb hby d21_17) rfl rfl ?_
        refine XS.iloadN P.here hx rfl (Jvm.hb hby d21_18) rfl ?_
        exact kQ
      obtain ⟨own_cl, own_A, own_q1, own_S, own_M, own_H, own_U⟩ := id V_a
      obtain ⟨own_L, own_X, own_e, own_N⟩ := id P
      have own_Z := hZ
      have own_in := inb_of own_S (j := (Int32.ofNat i)) ⟨own_nn (by omega), own_lt (by omega) (by omega)⟩
      refine OwG.go (T' := T) (g' := (mkF m 20 #[.val (.ref a), .val (.int (Int32.ofNat i)), .val (.int (Int32.ofNat n)), .val (.ref b), .val (.int (Int32.ofNat i))] [(.int (cs.getD i 0)), (.int (Int32.ofNat i)), (.ref b)])) (fun tQ kQ => ?_) ?_
      · refine own_X.caload hx (j := (Int32.ofNat i)) (v := (.int (cs.getD i 0))) (by rw [own_e]; exact own_A.1) (State.isArrayOf_alike own_Z.alike own_A.2.1) own_A.2.2 own_in (Has.at own_H own_in (own_chat (by omega) (by omega))) (g := (mkF m 19 #[.val (.ref a), .val (.int (Int32.ofNat i)), .val (.int (Int32.ofNat n)), .val (.ref b), .val (.int (Int32.ofNat i))] [(.int (Int32.ofNat i)), (.ref a), (.int (Int32.ofNat i)), (.ref b)])) rfl rfl (Jvm.hb hby d21_19) _ ?_
        exact kQ
      refine P.stat hx hZ (y := (⟨"java/lang/StringUTF16", "putChar", "([BII)V"⟩ : MethodName)) hown (hw _ (List.mem_of_getElem? (i := 106) rfl)) (hw _ (List.mem_of_getElem? (i := 107) rfl)) (hw _ (List.mem_of_getElem? (i := 23) rfl)) (hw _ (List.mem_of_getElem? (i := 108) rfl)) (by decide) (OwM.back (W := 0) (rmPut l Z a0 hw b kb (2 * n) i (cs.getD i 0) _ hL_lp n0 Z0 SA SH SL OL g_b V_b (own_wb_len hn (by omega)) (by omega) (by omega)) hZ (hw _ (List.mem_of_getElem? (i := 108) rfl)) (hw _ (List.mem_of_getElem? (i := 23) rfl)) (own_le rfl) (own_le rfl)) (fun _ _ _ q => q.2) (g := (mkF m 20 #[.val (.ref a), .val (.int (Int32.ofNat i)), .val (.int (Int32.ofNat n)), .val (.ref b), .val (.int (Int32.ofNat i))] [(.int (cs.getD i 0)), (.int (Int32.ofNat i)), (.ref b)])) rfl (by rw [hml]; rfl) (argsL := [(.ref b), (.int (Int32.ofNat i)), (.int (cs.getD i 0))]) (rest := []) (lenOf pd___BII_V rfl) rfl (by show 2 * 0 + _ ≤ _; exact Nat.le_of_eq rfl) (Jvm.hb hby d21_20) rfl (by first | decide | omega | (dsimp only; omega) | (dsimp only [room_1]; omega) | (simp; done) | (simp [room_1]; done) | (simp [room_1]; omega)) (by first | decide | omega | (dsimp only; omega) | (dsimp only [room_1]; omega) | (simp; done) | (simp [room_1]; done) | (simp [room_1]; omega)) fun T own_v own_L h2 own_e P own_q => ?_
      obtain ⟨⟨rfl, K, V_b'⟩, -⟩ := own_q
      clear own_e
      replace V_a := V_a.keep K (ninS ne_a_b nin0)
      replace Z0 := Nat.le_trans Z0 K.1
      replace OL := OL.keep K (allS g_b all0)
      replace KP := KP.trans K (allS (Or.inr sz_b) all0)
      show OwG p e below s _ _ _ _ T (mkF m 23 #[.val (.ref a), .val (.int (Int32.ofNat i)), .val (.int (Int32.ofNat n)), .val (.ref b), .val (.int (Int32.ofNat i))] [])
      rw [own_wb_step hn (by omega)] at V_b'
      have V_b := V_b'
      refine OwG.go (T' := T) (g' := (mkF m 8 #[.val (.ref a), .val (.int ((Int32.ofNat i) + (1 : Int32))), .val (.int (Int32.ofNat n)), .val (.ref b), .val (.int ((Int32.ofNat i) + (1 : Int32)))] [])) (fun tQ kQ => ?_) ?_
      · refine XS.iinc P.here hx rfl (Jvm.hb hby d21_23) rfl (l' := #[.val (.ref a), .val (.int ((Int32.ofNat i) + (1 : Int32))), .val (.int (Int32.ofNat n)), .val (.ref b), .val (.int (Int32.ofNat i))]) rfl ?_
        refine XS.iinc P.here hx rfl (Jvm.hb hby d21_26) rfl (l' := #[.val (.ref a), .val (.int ((Int32.ofNat i) + (1 : Int32))), .val (.int (Int32.ofNat n)), .val (.ref b), .val (.int ((Int32.ofNat i) + (1 : Int32)))]) rfl ?_
        refine XS.goto P.here hx rfl (pc0 := 29) (pc' := 8) rfl (Jvm.hb hby d21_29) (by decide) (by decide) ?_
        exact kQ
      rw [show ((Int32.ofNat i) + (1 : Int32)) = (Int32.ofNat (i + 1)) from own_succ _]
      show OwG p e below s _ _ _ _ T (mkF m 8 #[.val (.ref a), .val (.int (Int32.ofNat (i + 1))), .val (.int (Int32.ofNat n)), .val (.ref b), .val (.int (Int32.ofNat (i + 1)))] [])
      exact ih (i + 1) T h2 (by omega) P Z0 OL KP V_a V_b
  exact lp n 0 T h1 (by omega) P Z0 OL KP V_a V_b
theorem d6_0 : decode jdk_52_method_21_code 0 = .ok (.iconst 0, 1) := by decide +kernel
theorem d6_1 : decode jdk_52_method_21_code 1 = .ok (.istore 5, 2) := by decide +kernel
theorem d6_3 : decode jdk_52_method_21_code 3 = .ok (.iload 5, 2) := by decide +kernel
theorem d6_5 : decode jdk_52_method_21_code 5 = .ok (.iload 4, 2) := by decide +kernel
theorem d6_7 : decode jdk_52_method_21_code 7 = .ok (.if_icmp .ge 37, 3) := by decide +kernel
theorem d6_44 : decode jdk_52_method_21_code 44 = .ok (.iload 4, 2) := by decide +kernel
theorem d6_46 : decode jdk_52_method_21_code 46 = .ok (.ireturn, 1) := by decide +kernel
theorem d6_10 : decode jdk_52_method_21_code 10 = .ok (.aload_n 0, 1) := by decide +kernel
theorem d6_11 : decode jdk_52_method_21_code 11 = .ok (.iload_n 1, 1) := by decide +kernel
theorem d6_12 : decode jdk_52_method_21_code 12 = .ok (.caload, 1) := by decide +kernel
theorem d6_13 : decode jdk_52_method_21_code 13 = .ok (.istore 6, 2) := by decide +kernel
theorem d6_15 : decode jdk_52_method_21_code 15 = .ok (.iload 6, 2) := by decide +kernel
theorem d6_17 : decode jdk_52_method_21_code 17 = .ok (.sipush 255, 3) := by decide +kernel
theorem d6_20 : decode jdk_52_method_21_code 20 = .ok (.if_icmp .le 6, 3) := by decide +kernel
theorem d6_23 : decode jdk_52_method_21_code 23 = .ok (.iload 5, 2) := by decide +kernel
theorem d6_25 : decode jdk_52_method_21_code 25 = .ok (.ireturn, 1) := by decide +kernel
theorem d6_26 : decode jdk_52_method_21_code 26 = .ok (.aload_n 2, 1) := by decide +kernel
theorem d6_27 : decode jdk_52_method_21_code 27 = .ok (.iload_n 3, 1) := by decide +kernel
theorem d6_28 : decode jdk_52_method_21_code 28 = .ok (.iload 6, 2) := by decide +kernel
theorem d6_30 : decode jdk_52_method_21_code 30 = .ok (.i2b, 1) := by decide +kernel
theorem d6_31 : decode jdk_52_method_21_code 31 = .ok (.bastore, 1) := by decide +kernel
theorem d6_32 : decode jdk_52_method_21_code 32 = .ok (.iinc 1 1, 3) := by decide +kernel
theorem d6_35 : decode jdk_52_method_21_code 35 = .ok (.iinc 3 1, 3) := by decide +kernel
theorem d6_38 : decode jdk_52_method_21_code 38 = .ok (.iinc 5 1, 3) := by decide +kernel
theorem d6_41 : decode jdk_52_method_21_code 41 = .ok (.goto (-38), 3) := by decide +kernel
set_option maxRecDepth 65536 in
set_option maxHeartbeats 40000000 in
theorem rmC5 (l : Launch) (Z : State) (a0 : Array Value) (hw : ∀ d ∈ tables_1, d.before a0 Z = true) (a : Addr) (ka : ClassId) (da : Value) (n : Nat) (cs : List Int32) (d : Addr) (kd : ClassId) (h0 : Heap) (n0 : Nat) (Z0 : n0 ≤ h0.size) (V_a : Arv Z h0 a ka .char (Int32.ofNat n) (cs.map Value.int) da) (hn : cs.length = n) (hb : n ≤ 4000) (g_d : n0 ≤ d) (ne_a_d : a ≠ d) (V_d : Arv Z h0 d kd .byte (Int32.ofNat n) (own_lb cs n 0) (.int (0 : Int32))) :
    OwM l Z (⟨"java/lang/StringUTF16", "compress", "([CI[BII)I"⟩ : MethodName) jdk_52_method_21_code 7 (some .int) ({ frames := 0, cells := 0, slots := 0, locals := 0 } : Room) n0 #[(.ref a), (.int (0 : Int32)), (.ref d), (.int (0 : Int32)), (.int (Int32.ofNat n))] h0 (fun v h => ∃ r : Nat, v = some (.int (Int32.ofNat r)) ∧ Keep h0 h [d] ∧ ((r = n ∧ (∀ c ∈ cs, ¬ (255 : Int32) < c) ∧ Arv Z h d kd .byte (Int32.ofNat n) (cs.map fun c => Value.int (StrChars.lo8 c)) (.int (0 : Int32))) ∨ (r < n ∧ (255 : Int32) < cs.getD r 0))) := by
  refine OwM.mk (plainFor_of_name pn_java_lang_StringUTF16) ?_
  intro p e s m below meth cD T hx hby hml hown hnm hret hlk hZ P
  refine OwG.cast (show entryFrame m #[(.ref a), (.int (0 : Int32)), (.ref d), (.int (0 : Int32)), (.int (Int32.ofNat n))] 7 = mkF m 0 #[.val (.ref a), .val (.int (0 : Int32)), .val (.ref d), .val (.int (0 : Int32)), .val (.int (Int32.ofNat n)), .unset, .unset] [] from by first | rfl | (simp [entryFrame, mkF, argsToLocals, Value.category]; done)) ?_
  have KP := Keep.refl h0 [d]
  refine OwG.go (T' := T) (g' := (mkF m 3 #[.val (.ref a), .val (.int (0 : Int32)), .val (.ref d), .val (.int (0 : Int32)), .val (.int (Int32.ofNat n)), .val (.int (0 : Int32)), .unset] [])) (fun tQ kQ => ?_) ?_
  · refine XS.iconst P.here hx rfl (Jvm.hb hby d6_0) ?_
    refine XS.istore P.here hx rfl (Jvm.hb hby d6_1) rfl (l' := #[.val (.ref a), .val (.int (0 : Int32)), .val (.ref d), .val (.int (0 : Int32)), .val (.int (Int32.ofNat n)), .val (.int (0 : Int32)), .unset]) rfl ?_
    exact kQ
  have lp : ∀ (k i : Nat) (T : State) (hL_lp : Heap) (s6 : Slot), i + k = n → OwP p l e ({ frames := 0, cells := 0, slots := 0, locals := 0 } : Room) s m #[(.ref a), (.int (0 : Int32)), (.ref d), (.int (0 : Int32)), (.int (Int32.ofNat n))] below meth cD n0 T hL_lp 0 0 → (n0 ≤ hL_lp.size) → (Keep h0 hL_lp [d]) → (Arv Z hL_lp a ka .char (Int32.ofNat n) (cs.map Value.int) da) → (Arv Z hL_lp d kd .byte (Int32.ofNat n) (own_lb cs n i) (.int (0 : Int32))) → (s6 = .unset ∨ ∃ w, s6 = .val w ∧ w.category = 1) → (∀ j, j < i → ¬ (255 : Int32) < cs.getD j 0) → OwG p e below s n0 ({ frames := 0, cells := 0, slots := 0, locals := 0 } : Room).cells ({ frames := 0, cells := 0, slots := 0, locals := 0 } : Room).slots (fun v h => ∃ r : Nat, v = some (.int (Int32.ofNat r)) ∧ Keep h0 h [d] ∧ ((r = n ∧ (∀ c ∈ cs, ¬ (255 : Int32) < c) ∧ Arv Z h d kd .byte (Int32.ofNat n) (cs.map fun c => Value.int (StrChars.lo8 c)) (.int (0 : Int32))) ∨ (r < n ∧ (255 : Int32) < cs.getD r 0))) T (mkF m 3 #[.val (.ref a), .val (.int (Int32.ofNat i)), .val (.ref d), .val (.int (Int32.ofNat i)), .val (.int (Int32.ofNat n)), .val (.int (Int32.ofNat i)), s6] []) := by
    intro k
    induction k with
    | zero =>
      intro i T hL_lp s6 hik P Z0 KP V_a V_d hs6 hle
      refine OwG.go (T' := T) (g' := (mkF m 7 #[.val (.ref a), .val (.int (Int32.ofNat i)), .val (.ref d), .val (.int (Int32.ofNat i)), .val (.int (Int32.ofNat n)), .val (.int (Int32.ofNat i)), s6] [(.int (Int32.ofNat n)), (.int (Int32.ofNat i))])) (fun tQ kQ => ?_) ?_
      · refine XS.iload P.here hx rfl (Jvm.hb hby d6_3) rfl ?_
        refine XS.iload P.here hx rfl (Jvm.hb hby d6_5) rfl ?_
        exact kQ
      have own_i : i = n := by omega
      refine OwG.go (T' := T) (g' := (mkF m 44 #[.val (.ref a), .val (.int (Int32.ofNat i)), .val (.ref d), .val (.int (Int32.ofNat i)), .val (.int (Int32.ofNat n)), .val (.int (Int32.ofNat i)), s6] [])) (fun tQ kQ => ?_) ?_
      · refine XS.icmpYes P.here hx rfl (pc0 := 7) (pc' := 44) rfl (Jvm.hb hby d6_7) rfl (flt (own_nlt (by omega) (by omega))).2.1 (by decide) (by decide) ?_
        exact kQ
      refine OwG.go (T' := T) (g' := (mkF m 46 #[.val (.ref a), .val (.int (Int32.ofNat i)), .val (.ref d), .val (.int (Int32.ofNat i)), .val (.int (Int32.ofNat n)), .val (.int (Int32.ofNat i)), s6] [(.int (Int32.ofNat n))])) (fun tQ kQ => ?_) ?_
      · refine XS.iload P.here hx rfl (Jvm.hb hby d6_44) rfl ?_
        exact kQ
      rw [own_i, own_lb_end hn] at V_d
      exact P.retI hx hlk hret (Jvm.hb hby d6_46) (by first | decide | omega | (dsimp only; omega) | (dsimp only [room_1]; omega) | (simp; done) | (simp [room_1]; done) | (simp [room_1]; omega)) (by first | decide | omega | (dsimp only; omega) | (dsimp only [room_1]; omega) | (simp; done) | (simp [room_1]; done) | (simp [room_1]; omega)) ⟨n, rfl, KP, Or.inl ⟨rfl, own_all hn (fun j hj => hle j (by omega)), V_d⟩⟩
    | succ k ih =>
      intro i T hL_lp s6 hik P Z0 KP V_a V_d hs6 hle
      refine OwG.go (T' := T) (g' := (mkF m 7 #[.val (.ref a), .val (.int (Int32.ofNat i)), .val (.ref d), .val (.int (Int32.ofNat i)), .val (.int (Int32.ofNat n)), .val (.int (Int32.ofNat i)), s6] [(.int (Int32.ofNat n)), (.int (Int32.ofNat i))])) (fun tQ kQ => ?_) ?_
      · refine XS.iload P.here hx rfl (Jvm.hb hby d6_3) rfl ?_
        refine XS.iload P.here hx rfl (Jvm.hb hby d6_5) rfl ?_
        exact kQ
      refine OwG.go (T' := T) (g' := (mkF m 10 #[.val (.ref a), .val (.int (Int32.ofNat i)), .val (.ref d), .val (.int (Int32.ofNat i)), .val (.int (Int32.ofNat n)), .val (.int (Int32.ofNat i)), s6] [])) (fun tQ kQ => ?_) ?_
      · refine XS.icmpNo P.here hx rfl (Jvm.hb hby d6_7) rfl (tlt (own_lt (by omega) (by omega))).2.1 ?_
        exact kQ
      refine OwG.go (T' := T) (g' := (mkF m 12 #[.val (.ref a), .val (.int (Int32.ofNat i)), .val (.ref d), .val (.int (Int32.ofNat i)), .val (.int (Int32.ofNat n)), .val (.int (Int32.ofNat i)), s6] [(.int (Int32.ofNat i)), (.ref a)])) (fun tQ kQ => ?_) ?_
      · refine XS.aloadN P.here hx rfl (Jvm.hb hby d6_10) rfl rfl ?_
        refine XS.iloadN P.here hx rfl (Jvm.hb hby d6_11) rfl ?_
        exact kQ
      obtain ⟨own_cl, own_A, own_q1, own_S, own_M, own_H, own_U⟩ := id V_a
      obtain ⟨own_L, own_X, own_e, own_N⟩ := id P
      have own_Z := hZ
      have own_in := inb_of own_S (j := (Int32.ofNat i)) ⟨own_nn (by omega), own_lt (by omega) (by omega)⟩
      refine OwG.go (T' := T) (g' := (mkF m 13 #[.val (.ref a), .val (.int (Int32.ofNat i)), .val (.ref d), .val (.int (Int32.ofNat i)), .val (.int (Int32.ofNat n)), .val (.int (Int32.ofNat i)), s6] [(.int (cs.getD i 0))])) (fun tQ kQ => ?_) ?_
      · refine own_X.caload hx (j := (Int32.ofNat i)) (v := (.int (cs.getD i 0))) (by rw [own_e]; exact own_A.1) (State.isArrayOf_alike own_Z.alike own_A.2.1) own_A.2.2 own_in (Has.at own_H own_in (own_chat (by omega) (by omega))) (g := (mkF m 12 #[.val (.ref a), .val (.int (Int32.ofNat i)), .val (.ref d), .val (.int (Int32.ofNat i)), .val (.int (Int32.ofNat n)), .val (.int (Int32.ofNat i)), s6] [(.int (Int32.ofNat i)), (.ref a)])) rfl rfl (Jvm.hb hby d6_12) _ ?_
        exact kQ
      refine OwG.go (T' := T) (g' := (mkF m 20 #[.val (.ref a), .val (.int (Int32.ofNat i)), .val (.ref d), .val (.int (Int32.ofNat i)), .val (.int (Int32.ofNat n)), .val (.int (Int32.ofNat i)), .val (.int (cs.getD i 0))] [(.int (255 : Int32)), (.int (cs.getD i 0))])) (fun tQ kQ => ?_) ?_
      · refine XS.istore P.here hx rfl (Jvm.hb hby d6_13) rfl (l' := #[.val (.ref a), .val (.int (Int32.ofNat i)), .val (.ref d), .val (.int (Int32.ofNat i)), .val (.int (Int32.ofNat n)), .val (.int (Int32.ofNat i)), .val (.int (cs.getD i 0))]) (XS.store1 rfl hs6 rfl) ?_
        refine XS.iload P.here hx rfl (Jvm.hb hby d6_15) rfl ?_
        refine XS.sipush P.here hx rfl (Jvm.hb hby d6_17) ?_
        exact kQ
      by_cases hc20 : (255 : Int32) < (cs.getD i 0)
      · skip
        refine OwG.go (T' := T) (g' := (mkF m 23 #[.val (.ref a), .val (.int (Int32.ofNat i)), .val (.ref d), .val (.int (Int32.ofNat i)), .val (.int (Int32.ofNat n)), .val (.int (Int32.ofNat i)), .val (.int (cs.getD i 0))] [])) (fun tQ kQ => ?_) ?_
        · refine XS.icmpNo P.here hx rfl (Jvm.hb hby d6_20) rfl (tlt hc20).2.2.2 ?_
          exact kQ
        refine OwG.go (T' := T) (g' := (mkF m 25 #[.val (.ref a), .val (.int (Int32.ofNat i)), .val (.ref d), .val (.int (Int32.ofNat i)), .val (.int (Int32.ofNat n)), .val (.int (Int32.ofNat i)), .val (.int (cs.getD i 0))] [(.int (Int32.ofNat i))])) (fun tQ kQ => ?_) ?_
        · refine XS.iload P.here hx rfl (Jvm.hb hby d6_23) rfl ?_
          exact kQ
        exact P.retI hx hlk hret (Jvm.hb hby d6_25) (by first | decide | omega | (dsimp only; omega) | (dsimp only [room_1]; omega) | (simp; done) | (simp [room_1]; done) | (simp [room_1]; omega)) (by first | decide | omega | (dsimp only; omega) | (dsimp only [room_1]; omega) | (simp; done) | (simp [room_1]; done) | (simp [room_1]; omega)) ⟨i, rfl, KP, Or.inr ⟨by omega, hc20⟩⟩
      · skip
        refine OwG.go (T' := T) (g' := (mkF m 26 #[.val (.ref a), .val (.int (Int32.ofNat i)), .val (.ref d), .val (.int (Int32.ofNat i)), .val (.int (Int32.ofNat n)), .val (.int (Int32.ofNat i)), .val (.int (cs.getD i 0))] [])) (fun tQ kQ => ?_) ?_
        · refine XS.icmpYes P.here hx rfl (pc0 := 20) (pc' := 26) rfl (Jvm.hb hby d6_20) rfl (flt hc20).2.2.2 (by decide) (by decide) ?_
          exact kQ
        refine OwG.go (T' := T) (g' := (mkF m 31 #[.val (.ref a), .val (.int (Int32.ofNat i)), .val (.ref d), .val (.int (Int32.ofNat i)), .val (.int (Int32.ofNat n)), .val (.int (Int32.ofNat i)), .val (.int (cs.getD i 0))] [(.int ((cs.getD i 0).toInt8.toInt32)), (.int (Int32.ofNat i)), (.ref d)])) (fun tQ kQ => ?_) ?_
        · refine XS.aloadN P.here hx rfl (Jvm.hb hby d6_26) rfl rfl ?_
          refine XS.iloadN P.here hx rfl (Jvm.hb hby d6_27) rfl ?_
          refine XS.iload P.here hx rfl (Jvm.hb hby d6_28) rfl ?_
          refine XS.i2b P.here hx rfl (Jvm.hb hby d6_30) rfl ?_
          exact kQ
        refine P.stB hx hZ V_d (j := (Int32.ofNat i)) (own_nn (by omega)) (own_lt (by omega) (by omega)) (i := i) (own_tc (by omega)) (by rw [own_lb_len hn (by omega)]; omega) (g := (mkF m 31 #[.val (.ref a), .val (.int (Int32.ofNat i)), .val (.ref d), .val (.int (Int32.ofNat i)), .val (.int (Int32.ofNat n)), .val (.int (Int32.ofNat i)), .val (.int (cs.getD i 0))] [(.int ((cs.getD i 0).toInt8.toInt32)), (.int (Int32.ofNat i)), (.ref d)])) rfl rfl (Jvm.hb hby d6_31) g_d fun T h1 P W V' => ?_
        replace V_a := V_a.other W ne_a_d
        replace Z0 := Nat.le_trans Z0 (Keep.of_wr W).1
        replace KP := KP.wr W (Or.inl (List.mem_of_getElem? (i := 0) rfl))
        replace V_d := V'
        clear W V'
        show OwG p e below s _ _ _ _ T (mkF m 32 #[.val (.ref a), .val (.int (Int32.ofNat i)), .val (.ref d), .val (.int (Int32.ofNat i)), .val (.int (Int32.ofNat n)), .val (.int (Int32.ofNat i)), .val (.int (cs.getD i 0))] [])
        rw [own_i2b2] at V_d
        replace V_d : Arv Z h1 d kd .byte (Int32.ofNat n) ((own_lb cs n i).set i (.int (StrChars.lo8 (cs.getD i 0)))) (.int (0 : Int32)) := V_d
        rw [own_lb_step hn (by omega)] at V_d
        refine OwG.go (T' := T) (g' := (mkF m 3 #[.val (.ref a), .val (.int ((Int32.ofNat i) + (1 : Int32))), .val (.ref d), .val (.int ((Int32.ofNat i) + (1 : Int32))), .val (.int (Int32.ofNat n)), .val (.int ((Int32.ofNat i) + (1 : Int32))), .val (.int (cs.getD i 0))] [])) (fun tQ kQ => ?_) ?_
        · refine XS.iinc P.here hx rfl (Jvm.hb hby d6_32) rfl (l' := #[.val (.ref a), .val (.int ((Int32.ofNat i) + (1 : Int32))), .val (.ref d), .val (.int (Int32.ofNat i)), .val (.int (Int32.ofNat n)), .val (.int (Int32.ofNat i)), .val (.int (cs.getD i 0))]) rfl ?_
          refine XS.iinc P.here hx rfl (Jvm.hb hby d6_35) rfl (l' := #[.val (.ref a), .val (.int ((Int32.ofNat i) + (1 : Int32))), .val (.ref d), .val (.int ((Int32.ofNat i) + (1 : Int32))), .val (.int (Int32.ofNat n)), .val (.int (Int32.ofNat i)), .val (.int (cs.getD i 0))]) rfl ?_
          refine XS.iinc P.here hx rfl (Jvm.hb hby d6_38) rfl (l' := #[.val (.ref a), .val (.int ((Int32.ofNat i) + (1 : Int32))), .val (.ref d), .val (.int ((Int32.ofNat i) + (1 : Int32))), .val (.int (Int32.ofNat n)), .val (.int ((Int32.ofNat i) + (1 : Int32))), .val (.int (cs.getD i 0))]) rfl ?_
          refine XS.goto P.here hx rfl (pc0 := 41) (pc' := 3) rfl (Jvm.hb hby d6_41) (by decide) (by decide) ?_
          exact kQ
        rw [show ((Int32.ofNat i) + (1 : Int32)) = (Int32.ofNat (i + 1)) from own_succ _]
        show OwG p e below s _ _ _ _ T (mkF m 3 #[.val (.ref a), .val (.int (Int32.ofNat (i + 1))), .val (.ref d), .val (.int (Int32.ofNat (i + 1))), .val (.int (Int32.ofNat n)), .val (.int (Int32.ofNat (i + 1))), .val (.int (cs.getD i 0))] [])
        exact ih (i + 1) T h1 _ (by omega) P Z0 KP V_a V_d (Or.inr ⟨_, rfl, rfl⟩) (fun j hj => (Nat.lt_succ_iff_lt_or_eq.mp hj).elim (hle j) (fun q => by rw [q]; exact hc20))
  exact lp n 0 T h0 _ (by omega) P Z0 KP V_a V_d (Or.inl rfl) (fun j hj => absurd hj (Nat.not_lt_zero j))
theorem d5_0 : decode jdk_52_method_16_code 0 = .ok (.iload_n 2, 1) := by decide +kernel
theorem d5_1 : decode jdk_52_method_16_code 1 = .ok (.newarray .byte, 2) := by decide +kernel
theorem d5_3 : decode jdk_52_method_16_code 3 = .ok (.astore_n 3, 1) := by decide +kernel
theorem d5_4 : decode jdk_52_method_16_code 4 = .ok (.aload_n 0, 1) := by decide +kernel
theorem d5_5 : decode jdk_52_method_16_code 5 = .ok (.iload_n 1, 1) := by decide +kernel
theorem d5_6 : decode jdk_52_method_16_code 6 = .ok (.aload_n 3, 1) := by decide +kernel
theorem d5_7 : decode jdk_52_method_16_code 7 = .ok (.iconst 0, 1) := by decide +kernel
theorem d5_8 : decode jdk_52_method_16_code 8 = .ok (.iload_n 2, 1) := by decide +kernel
theorem d5_9 : decode jdk_52_method_16_code 9 = .ok (.invokestatic 115, 3) := by decide +kernel
theorem pd___CI_BII_I : parseMethodDescriptor "([CI[BII)I" = some ⟨[(.array .char), .int, (.array .byte), .int, .int], some .int⟩ := by decide +kernel
theorem d5_12 : decode jdk_52_method_16_code 12 = .ok (.istore 4, 2) := by decide +kernel
theorem d5_14 : decode jdk_52_method_16_code 14 = .ok (.iload 4, 2) := by decide +kernel
theorem d5_16 : decode jdk_52_method_16_code 16 = .ok (.iload_n 2, 1) := by decide +kernel
theorem d5_17 : decode jdk_52_method_16_code 17 = .ok (.if_icmp .eq 40, 3) := by decide +kernel
theorem d5_57 : decode jdk_52_method_16_code 57 = .ok (.aload_n 3, 1) := by decide +kernel
theorem d5_58 : decode jdk_52_method_16_code 58 = .ok (.areturn, 1) := by decide +kernel
theorem d5_20 : decode jdk_52_method_16_code 20 = .ok (.aload_n 0, 1) := by decide +kernel
theorem d5_21 : decode jdk_52_method_16_code 21 = .ok (.iload_n 1, 1) := by decide +kernel
theorem d5_22 : decode jdk_52_method_16_code 22 = .ok (.iload_n 2, 1) := by decide +kernel
theorem d5_23 : decode jdk_52_method_16_code 23 = .ok (.invokestatic 119, 3) := by decide +kernel
theorem pd___CII__B : parseMethodDescriptor "([CII)[B" = some ⟨[(.array .char), .int, .int], some (.array .byte)⟩ := by decide +kernel
theorem d5_26 : decode jdk_52_method_16_code 26 = .ok (.astore 5, 2) := by decide +kernel
theorem d5_28 : decode jdk_52_method_16_code 28 = .ok (.aload 5, 2) := by decide +kernel
theorem d5_30 : decode jdk_52_method_16_code 30 = .ok (.iload 4, 2) := by decide +kernel
theorem d5_32 : decode jdk_52_method_16_code 32 = .ok (.invokestatic 71, 3) := by decide +kernel
theorem pd___BI_C : parseMethodDescriptor "([BI)C" = some ⟨[(.array .byte), .int], some .char⟩ := by decide +kernel
theorem d5_35 : decode jdk_52_method_16_code 35 = .ok (.sipush 255, 3) := by decide +kernel
theorem d5_38 : decode jdk_52_method_16_code 38 = .ok (.if_icmp .gt 16, 3) := by decide +kernel
theorem d5_54 : decode jdk_52_method_16_code 54 = .ok (.aload 5, 2) := by decide +kernel
theorem d5_56 : decode jdk_52_method_16_code 56 = .ok (.areturn, 1) := by decide +kernel
set_option maxRecDepth 65536 in
set_option maxHeartbeats 40000000 in
theorem rmC3 (l : Launch) (Z : State) (a0 : Array Value) (hw : ∀ d ∈ tables_1, d.before a0 Z = true) (a : Addr) (ka : ClassId) (da : Value) (n : Nat) (cs : List Int32) (h0 : Heap) (n0 : Nat) (Z0 : n0 ≤ h0.size) (SA : Sta Z Z.heap "java/lang/StringUTF16" "$assertionsDisabled" "Z" (.int (1 : Int32))) (SH : Sta Z Z.heap "java/lang/StringUTF16" "HI_BYTE_SHIFT" "I" (.int (0 : Int32))) (SL : Sta Z Z.heap "java/lang/StringUTF16" "LO_BYTE_SHIFT" "I" (.int (8 : Int32))) (OL : Old Z n0 h0) (V_a : Arv Z h0 a ka .char (Int32.ofNat n) (cs.map Value.int) da) (hn : cs.length = n) (hb : n ≤ 4000) (h0n : 0 < n) (hp : ∀ c ∈ cs, ¬ c < 0 ∧ ¬ (65535 : Int32) < c) :
    OwM l Z (⟨"java/lang/StringUTF16", "compress", "([CII)[B"⟩ : MethodName) jdk_52_method_16_code 6 (some (.array .byte)) ({ frames := 3, cells := 2, slots := 3 * n, locals := 42 } : Room) n0 #[(.ref a), (.int (0 : Int32)), (.int (Int32.ofNat n))] h0 (fun v h => ∃ (t : Addr) (kt : ClassId) (cd N2 : Int32) (vs : List Value), v = some (.ref t) ∧ h0.size ≤ t ∧ Keep h0 h [] ∧ Arv Z h t kt .byte N2 vs (.int (0 : Int32)) ∧ StrChars.Road.CodA cs cd N2 vs) := by
  refine OwM.mk (plainFor_of_name pn_java_lang_StringUTF16) ?_
  intro p e s m below meth cD T hx hby hml hown hnm hret hlk hZ P
  refine OwG.cast (show entryFrame m #[(.ref a), (.int (0 : Int32)), (.int (Int32.ofNat n))] 6 = mkF m 0 #[.val (.ref a), .val (.int (0 : Int32)), .val (.int (Int32.ofNat n)), .unset, .unset, .unset] [] from by first | rfl | (simp [entryFrame, mkF, argsToLocals, Value.category]; done)) ?_
  have KP := Keep.refl h0 []
  refine OwG.go (T' := T) (g' := (mkF m 1 #[.val (.ref a), .val (.int (0 : Int32)), .val (.int (Int32.ofNat n)), .unset, .unset, .unset] [(.int (Int32.ofNat n))])) (fun tQ kQ => ?_) ?_
  · refine XS.iloadN P.here hx rfl (Jvm.hb hby d5_0) rfl ?_
    exact kQ
  refine P.newP hx hZ (hw _ (List.mem_of_getElem? (i := 25) rfl)) (g := (mkF m 1 #[.val (.ref a), .val (.int (0 : Int32)), .val (.int (Int32.ofNat n)), .unset, .unset, .unset] [(.int (Int32.ofNat n))])) rfl (Jvm.hb hby d5_1) rfl (own_nn (by omega)) (cap := n) (Nat.le_of_eq (own_tc (by omega))) (by omega) (by first | decide | omega | (dsimp only; omega) | (dsimp only [room_1]; omega) | (simp; done) | (simp [room_1]; done) | (simp [room_1]; omega)) (by first | decide | omega | (dsimp only; omega) | (dsimp only [room_1]; omega) | (simp; done) | (simp [room_1]; done) | (simp [room_1]; omega)) fun T h1 b kb gb P E V_b => ?_
  have ne_a_b : a ≠ b := Nat.ne_of_lt (Nat.lt_of_lt_of_le V_a.lt (Nat.le_of_eq gb.symm))
  have ne_b_a := Ne.symm ne_a_b
  have g_b : n0 ≤ b := Nat.le_trans Z0 (Nat.le_of_eq gb.symm)
  have sz_b : h0.size ≤ b := Nat.le_trans KP.1 (Nat.le_of_eq gb.symm)
  replace V_a := V_a.ext E
  replace Z0 := Nat.le_trans Z0 E.1
  replace OL := OL.ext E
  replace KP := KP.ext E
  clear E
  replace V_b : Arv Z h1 b kb .byte (Int32.ofNat n) (List.replicate n (.int (0 : Int32))) (.int (0 : Int32)) := V_b.pad (pad_rep [] (.int (0 : Int32)) n)
  show OwG p e below s _ _ _ _ T (mkF m 3 #[.val (.ref a), .val (.int (0 : Int32)), .val (.int (Int32.ofNat n)), .unset, .unset, .unset] [(.ref b)])
  refine OwG.go (T' := T) (g' := (mkF m 9 #[.val (.ref a), .val (.int (0 : Int32)), .val (.int (Int32.ofNat n)), .val (.ref b), .unset, .unset] [(.int (Int32.ofNat n)), (.int (0 : Int32)), (.ref b), (.int (0 : Int32)), (.ref a)])) (fun tQ kQ => ?_) ?_
  · refine XS.astoreN P.here hx rfl (Jvm.hb hby d5_3) rfl rfl (l' := #[.val (.ref a), .val (.int (0 : Int32)), .val (.int (Int32.ofNat n)), .val (.ref b), .unset, .unset]) rfl ?_
    refine XS.aloadN P.here hx rfl (Jvm.hb hby d5_4) rfl rfl ?_
    refine XS.iloadN P.here hx rfl (Jvm.hb hby d5_5) rfl ?_
    refine XS.aloadN P.here hx rfl (Jvm.hb hby d5_6) rfl rfl ?_
    refine XS.iconst P.here hx rfl (Jvm.hb hby d5_7) ?_
    refine XS.iloadN P.here hx rfl (Jvm.hb hby d5_8) rfl ?_
    exact kQ
  refine P.stat hx hZ (y := (⟨"java/lang/StringUTF16", "compress", "([CI[BII)I"⟩ : MethodName)) hown (hw _ (List.mem_of_getElem? (i := 26) rfl)) (hw _ (List.mem_of_getElem? (i := 27) rfl)) (hw _ (List.mem_of_getElem? (i := 23) rfl)) (hw _ (List.mem_of_getElem? (i := 28) rfl)) (by decide) (OwM.back (W := 0) (rmC5 l Z a0 hw a ka da n cs b kb h1 n0 Z0 V_a hn hb g_b ne_a_b V_b) hZ (hw _ (List.mem_of_getElem? (i := 28) rfl)) (hw _ (List.mem_of_getElem? (i := 23) rfl)) (own_le rfl) (own_le rfl)) (fun _ _ _ q => q.2) (g := (mkF m 9 #[.val (.ref a), .val (.int (0 : Int32)), .val (.int (Int32.ofNat n)), .val (.ref b), .unset, .unset] [(.int (Int32.ofNat n)), (.int (0 : Int32)), (.ref b), (.int (0 : Int32)), (.ref a)])) rfl (by rw [hml]; rfl) (argsL := [(.ref a), (.int (0 : Int32)), (.ref b), (.int (0 : Int32)), (.int (Int32.ofNat n))]) (rest := []) (lenOf pd___CI_BII_I rfl) rfl (by show 2 * 0 + _ ≤ _; exact Nat.le_of_eq rfl) (Jvm.hb hby d5_9) rfl (by first | decide | omega | (dsimp only; omega) | (dsimp only [room_1]; omega) | (simp; done) | (simp [room_1]; done) | (simp [room_1]; omega)) (by first | decide | omega | (dsimp only; omega) | (dsimp only [room_1]; omega) | (simp; done) | (simp [room_1]; done) | (simp [room_1]; omega)) fun T own_v own_L h2 own_e P own_q => ?_
  obtain ⟨⟨r, rfl, K, hr⟩, -⟩ := own_q
  clear own_e
  replace V_a := V_a.keep K (ninS ne_a_b nin0)
  replace Z0 := Nat.le_trans Z0 K.1
  replace OL := OL.keep K (allS g_b all0)
  replace KP := KP.trans K (allS (Or.inr sz_b) all0)
  show OwG p e below s _ _ _ _ T (mkF m 12 #[.val (.ref a), .val (.int (0 : Int32)), .val (.int (Int32.ofNat n)), .val (.ref b), .unset, .unset] [(.int (Int32.ofNat r))])
  refine OwG.go (T' := T) (g' := (mkF m 17 #[.val (.ref a), .val (.int (0 : Int32)), .val (.int (Int32.ofNat n)), .val (.ref b), .val (.int (Int32.ofNat r)), .unset] [(.int (Int32.ofNat n)), (.int (Int32.ofNat r))])) (fun tQ kQ => ?_) ?_
  · refine XS.istore P.here hx rfl (Jvm.hb hby d5_12) rfl (l' := #[.val (.ref a), .val (.int (0 : Int32)), .val (.int (Int32.ofNat n)), .val (.ref b), .val (.int (Int32.ofNat r)), .unset]) rfl ?_
    refine XS.iload P.here hx rfl (Jvm.hb hby d5_14) rfl ?_
    refine XS.iloadN P.here hx rfl (Jvm.hb hby d5_16) rfl ?_
    exact kQ
  rcases hr with ⟨rfl, hall, V_b'⟩ | ⟨hr, hbig⟩
  · skip
    refine OwG.go (T' := T) (g' := (mkF m 57 #[.val (.ref a), .val (.int (0 : Int32)), .val (.int (Int32.ofNat r)), .val (.ref b), .val (.int (Int32.ofNat r)), .unset] [])) (fun tQ kQ => ?_) ?_
    · refine XS.icmpYes P.here hx rfl (pc0 := 17) (pc' := 57) rfl (Jvm.hb hby d5_17) rfl (teq rfl).1 (by decide) (by decide) ?_
      exact kQ
    refine OwG.go (T' := T) (g' := (mkF m 58 #[.val (.ref a), .val (.int (0 : Int32)), .val (.int (Int32.ofNat r)), .val (.ref b), .val (.int (Int32.ofNat r)), .unset] [(.ref b)])) (fun tQ kQ => ?_) ?_
    · refine XS.aloadN P.here hx rfl (Jvm.hb hby d5_57) rfl rfl ?_
      exact kQ
    exact P.retR hx hlk hret rfl rfl (Jvm.hb hby d5_58) (by first | decide | omega | (dsimp only; omega) | (dsimp only [room_1]; omega) | (simp; done) | (simp [room_1]; done) | (simp [room_1]; omega)) (by first | decide | omega | (dsimp only; omega) | (dsimp only [room_1]; omega) | (simp; done) | (simp [room_1]; done) | (simp [room_1]; omega)) ⟨b, kb, 0, _, _, rfl, sz_b, KP, V_b', Or.inl ⟨rfl, by rw [hn], rfl, hall⟩⟩
  · skip
    refine OwG.go (T' := T) (g' := (mkF m 20 #[.val (.ref a), .val (.int (0 : Int32)), .val (.int (Int32.ofNat n)), .val (.ref b), .val (.int (Int32.ofNat r)), .unset] [])) (fun tQ kQ => ?_) ?_
    · refine XS.icmpNo P.here hx rfl (Jvm.hb hby d5_17) rfl (feq (own_ne32 (by omega) (by omega) (by omega))).1 ?_
      exact kQ
    refine OwG.go (T' := T) (g' := (mkF m 23 #[.val (.ref a), .val (.int (0 : Int32)), .val (.int (Int32.ofNat n)), .val (.ref b), .val (.int (Int32.ofNat r)), .unset] [(.int (Int32.ofNat n)), (.int (0 : Int32)), (.ref a)])) (fun tQ kQ => ?_) ?_
    · refine XS.aloadN P.here hx rfl (Jvm.hb hby d5_20) rfl rfl ?_
      refine XS.iloadN P.here hx rfl (Jvm.hb hby d5_21) rfl ?_
      refine XS.iloadN P.here hx rfl (Jvm.hb hby d5_22) rfl ?_
      exact kQ
    refine P.stat hx hZ (y := (⟨"java/lang/StringUTF16", "toBytes", "([CII)[B"⟩ : MethodName)) hown (hw _ (List.mem_of_getElem? (i := 96) rfl)) (hw _ (List.mem_of_getElem? (i := 97) rfl)) (hw _ (List.mem_of_getElem? (i := 23) rfl)) (hw _ (List.mem_of_getElem? (i := 98) rfl)) (by decide) (OwM.back (W := 0) (rmTob l Z a0 hw a ka da n cs h2 n0 Z0 SA SH SL OL V_a hn hb) hZ (hw _ (List.mem_of_getElem? (i := 98) rfl)) (hw _ (List.mem_of_getElem? (i := 23) rfl)) (own_le rfl) (own_le rfl)) (fun _ _ _ q => q.2) (g := (mkF m 23 #[.val (.ref a), .val (.int (0 : Int32)), .val (.int (Int32.ofNat n)), .val (.ref b), .val (.int (Int32.ofNat r)), .unset] [(.int (Int32.ofNat n)), (.int (0 : Int32)), (.ref a)])) rfl (by rw [hml]; rfl) (argsL := [(.ref a), (.int (0 : Int32)), (.int (Int32.ofNat n))]) (rest := []) (lenOf pd___CII__B rfl) rfl (by show 2 * 0 + _ ≤ _; exact Nat.le_of_eq rfl) (Jvm.hb hby d5_23) rfl (by first | decide | omega | (dsimp only; omega) | (dsimp only [room_1]; omega) | (simp; done) | (simp [room_1]; done) | (simp [room_1]; omega)) (by first | decide | omega | (dsimp only; omega) | (dsimp only [room_1]; omega) | (simp; done) | (simp [room_1]; done) | (simp [room_1]; omega)) fun T own_v own_L h3 own_e P own_q => ?_
    obtain ⟨⟨t, kt, rfl, gt, K, V_t⟩, -⟩ := own_q
    show OwG p e below s _ _ _ _ T (mkF m 26 #[.val (.ref a), .val (.int (0 : Int32)), .val (.int (Int32.ofNat n)), .val (.ref b), .val (.int (Int32.ofNat r)), .unset] [(.ref t)])
    clear own_e
    have ne_a_t : a ≠ t := Nat.ne_of_lt (Nat.lt_of_lt_of_le V_a.lt (Nat.le_of_eq gt.symm))
    have ne_t_a := Ne.symm ne_a_t
    have g_t : n0 ≤ t := Nat.le_trans Z0 (Nat.le_of_eq gt.symm)
    have sz_t : h0.size ≤ t := Nat.le_trans KP.1 (Nat.le_of_eq gt.symm)
    replace V_a := V_a.keep K nin0
    replace Z0 := Nat.le_trans Z0 K.1
    replace OL := OL.keep K all0
    replace KP := KP.trans K all0
    refine OwG.go (T' := T) (g' := (mkF m 32 #[.val (.ref a), .val (.int (0 : Int32)), .val (.int (Int32.ofNat n)), .val (.ref b), .val (.int (Int32.ofNat r)), .val (.ref t)] [(.int (Int32.ofNat r)), (.ref t)])) (fun tQ kQ => ?_) ?_
    · refine XS.astore P.here hx rfl (Jvm.hb hby d5_26) rfl rfl (l' := #[.val (.ref a), .val (.int (0 : Int32)), .val (.int (Int32.ofNat n)), .val (.ref b), .val (.int (Int32.ofNat r)), .val (.ref t)]) rfl ?_
      refine XS.aload P.here hx rfl (Jvm.hb hby d5_28) rfl rfl ?_
      refine XS.iload P.here hx rfl (Jvm.hb hby d5_30) rfl ?_
      exact kQ
    refine P.stat hx hZ (y := (⟨"java/lang/StringUTF16", "getChar", "([BI)C"⟩ : MethodName)) hown (hw _ (List.mem_of_getElem? (i := 112) rfl)) (hw _ (List.mem_of_getElem? (i := 113) rfl)) (hw _ (List.mem_of_getElem? (i := 23) rfl)) (hw _ (List.mem_of_getElem? (i := 114) rfl)) (by decide) (OwM.back (W := 0) (rmGet l Z a0 hw t kt n r cs h3 n0 Z0 SA SH SL OL V_t hn hb hr hp) hZ (hw _ (List.mem_of_getElem? (i := 114) rfl)) (hw _ (List.mem_of_getElem? (i := 23) rfl)) (own_le rfl) (own_le rfl)) (fun _ _ _ q => q.2) (g := (mkF m 32 #[.val (.ref a), .val (.int (0 : Int32)), .val (.int (Int32.ofNat n)), .val (.ref b), .val (.int (Int32.ofNat r)), .val (.ref t)] [(.int (Int32.ofNat r)), (.ref t)])) rfl (by rw [hml]; rfl) (argsL := [(.ref t), (.int (Int32.ofNat r))]) (rest := []) (lenOf pd___BI_C rfl) rfl (by show 2 * 0 + _ ≤ _; exact Nat.le_of_eq rfl) (Jvm.hb hby d5_32) rfl (by first | decide | omega | (dsimp only; omega) | (dsimp only [room_1]; omega) | (simp; done) | (simp [room_1]; done) | (simp [room_1]; omega)) (by first | decide | omega | (dsimp only; omega) | (dsimp only [room_1]; omega) | (simp; done) | (simp [room_1]; done) | (simp [room_1]; omega)) fun T own_v own_L h4 own_e P own_q => ?_
    obtain ⟨⟨rfl, own_hh⟩, -⟩ := own_q
    rw [own_hh] at P
    clear own_e own_hh
    show OwG p e below s _ _ _ _ T (mkF m 35 #[.val (.ref a), .val (.int (0 : Int32)), .val (.int (Int32.ofNat n)), .val (.ref b), .val (.int (Int32.ofNat r)), .val (.ref t)] [(.int (cs.getD r 0))])
    refine OwG.go (T' := T) (g' := (mkF m 38 #[.val (.ref a), .val (.int (0 : Int32)), .val (.int (Int32.ofNat n)), .val (.ref b), .val (.int (Int32.ofNat r)), .val (.ref t)] [(.int (255 : Int32)), (.int (cs.getD r 0))])) (fun tQ kQ => ?_) ?_
    · refine XS.sipush P.here hx rfl (Jvm.hb hby d5_35) ?_
      exact kQ
    refine OwG.go (T' := T) (g' := (mkF m 54 #[.val (.ref a), .val (.int (0 : Int32)), .val (.int (Int32.ofNat n)), .val (.ref b), .val (.int (Int32.ofNat r)), .val (.ref t)] [])) (fun tQ kQ => ?_) ?_
    · refine XS.icmpYes P.here hx rfl (pc0 := 38) (pc' := 54) rfl (Jvm.hb hby d5_38) rfl (tlt hbig).2.2.1 (by decide) (by decide) ?_
      exact kQ
    refine OwG.go (T' := T) (g' := (mkF m 56 #[.val (.ref a), .val (.int (0 : Int32)), .val (.int (Int32.ofNat n)), .val (.ref b), .val (.int (Int32.ofNat r)), .val (.ref t)] [(.ref t)])) (fun tQ kQ => ?_) ?_
    · refine XS.aload P.here hx rfl (Jvm.hb hby d5_54) rfl rfl ?_
      exact kQ
    exact P.retR hx hlk hret rfl rfl (Jvm.hb hby d5_56) (by first | decide | omega | (dsimp only; omega) | (dsimp only [room_1]; omega) | (simp; done) | (simp [room_1]; done) | (simp [room_1]; omega)) (by first | decide | omega | (dsimp only; omega) | (dsimp only [room_1]; omega) | (simp; done) | (simp [room_1]; done) | (simp [room_1]; omega)) ⟨t, kt, 1, _, _, rfl, sz_t, KP, V_t, own_wide hn hr hbig⟩
theorem d7_0 : decode jdk_52_method_15_code 0 = .ok (.iload_n 1, 1) := by decide +kernel
theorem d7_1 : decode jdk_52_method_15_code 1 = .ok (.aload_n 0, 1) := by decide +kernel
theorem d7_2 : decode jdk_52_method_15_code 2 = .ok (.arraylength, 1) := by decide +kernel
theorem d7_3 : decode jdk_52_method_15_code 3 = .ok (.isub, 1) := by decide +kernel
theorem d7_4 : decode jdk_52_method_15_code 4 = .ok (.bipush 31, 2) := by decide +kernel
theorem d7_6 : decode jdk_52_method_15_code 6 = .ok (.iushr, 1) := by decide +kernel
theorem d7_7 : decode jdk_52_method_15_code 7 = .ok (.i2b, 1) := by decide +kernel
theorem d7_8 : decode jdk_52_method_15_code 8 = .ok (.ireturn, 1) := by decide +kernel
set_option maxRecDepth 65536 in
set_option maxHeartbeats 40000000 in
theorem rmCl (l : Launch) (Z : State) (a0 : Array Value) (hw : ∀ d ∈ tables_1, d.before a0 Z = true) (t : Addr) (kt : ClassId) (cd N2 : Int32) (vs : List Value) (n : Nat) (cs : List Int32) (h0 : Heap) (n0 : Nat) (Z0 : n0 ≤ h0.size) (V_t : Arv Z h0 t kt .byte N2 vs (.int (0 : Int32))) (hcod : StrChars.Road.CodA cs cd N2 vs) (hn : cs.length = n) (h0n : 0 < n) (hb : n ≤ 4000) :
    OwM l Z (⟨"java/lang/StringUTF16", "coderFromArrayLen", "([BI)B"⟩ : MethodName) jdk_52_method_15_code 2 (some .byte) ({ frames := 0, cells := 0, slots := 0, locals := 0 } : Room) n0 #[(.ref t), (.int (Int32.ofNat n))] h0 (fun v h => v = some (.int cd) ∧ h = h0) := by
  refine OwM.mk (plainFor_of_name pn_java_lang_StringUTF16) ?_
  intro p e s m below meth cD T hx hby hml hown hnm hret hlk hZ P
  refine OwG.cast (show entryFrame m #[(.ref t), (.int (Int32.ofNat n))] 2 = mkF m 0 #[.val (.ref t), .val (.int (Int32.ofNat n))] [] from by first | rfl | (simp [entryFrame, mkF, argsToLocals, Value.category]; done)) ?_
  refine OwG.go (T' := T) (g' := (mkF m 2 #[.val (.ref t), .val (.int (Int32.ofNat n))] [(.ref t), (.int (Int32.ofNat n))])) (fun tQ kQ => ?_) ?_
  · refine XS.iloadN P.here hx rfl (Jvm.hb hby d7_0) rfl ?_
    refine XS.aloadN P.here hx rfl (Jvm.hb hby d7_1) rfl rfl ?_
    exact kQ
  obtain ⟨own_cl, own_A, own_q1, own_S, own_M, own_H, own_U⟩ := id V_t
  obtain ⟨own_L, own_X, own_e, own_N⟩ := id P
  have own_Z := hZ
  refine OwG.go (T' := T) (g' := (mkF m 3 #[.val (.ref t), .val (.int (Int32.ofNat n))] [(.int N2), (.int (Int32.ofNat n))])) (fun tQ kQ => ?_) ?_
  · refine own_X.arraylength hx (by rw [own_e]; exact own_A.1) (State.isArrayOf_alike own_Z.alike own_A.2.1) (g := (mkF m 2 #[.val (.ref t), .val (.int (Int32.ofNat n))] [(.ref t), (.int (Int32.ofNat n))])) rfl rfl (Jvm.hb hby d7_2) _ ?_
    rw [len_of own_S own_M]
    exact kQ
  refine OwG.go (T' := T) (g' := (mkF m 8 #[.val (.ref t), .val (.int (Int32.ofNat n))] [(.int (((((Int32.ofNat n) - N2).toUInt32 >>> ((31 : Int32) &&& 31).toUInt32).toInt32).toInt8.toInt32))])) (fun tQ kQ => ?_) ?_
  · refine XS.isub P.here hx rfl (Jvm.hb hby d7_3) rfl ?_
    refine XS.bipush P.here hx rfl (Jvm.hb hby d7_4) ?_
    refine XS.iushr P.here hx rfl (Jvm.hb hby d7_6) rfl ?_
    refine XS.i2b P.here hx rfl (Jvm.hb hby d7_7) rfl ?_
    exact kQ
  rw [show (((((Int32.ofNat n) - N2).toUInt32 >>> ((31 : Int32) &&& 31).toUInt32).toInt32).toInt8.toInt32) = cd from own_codN hn h0n hb hcod]
  show OwG p e below s _ _ _ _ T (mkF m 8 #[.val (.ref t), .val (.int (Int32.ofNat n))] [(.int cd)])
  have own_c := own_cd hcod
  exact P.retN hx hlk (t := .byte) hret (by simp) (Jvm.hb hby d7_8) (by first | decide | omega | (dsimp only; omega) | (dsimp only [room_1]; omega) | (simp; done) | (simp [room_1]; done) | (simp [room_1]; omega)) (by first | decide | omega | (dsimp only; omega) | (dsimp only [room_1]; omega) | (simp; done) | (simp [room_1]; done) | (simp [room_1]; omega)) ⟨by rcases own_c with rfl | rfl <;> rfl, rfl⟩
theorem d3_0 : decode jdk_42_method_149_code 0 = .ok (.aload_n 0, 1) := by decide +kernel
theorem d3_1 : decode jdk_42_method_149_code 1 = .ok (.invokespecial 1, 3) := by decide +kernel
theorem d3_4 : decode jdk_42_method_149_code 4 = .ok (.iload_n 3, 1) := by decide +kernel
theorem d3_5 : decode jdk_42_method_149_code 5 = .ok (.ifCond .ne 22, 3) := by decide +kernel
theorem d3_27 : decode jdk_42_method_149_code 27 = .ok (.getstatic 38, 3) := by decide +kernel
theorem d3_30 : decode jdk_42_method_149_code 30 = .ok (.ifCond .eq 28, 3) := by decide +kernel
theorem d3_33 : decode jdk_42_method_149_code 33 = .ok (.aload_n 1, 1) := by decide +kernel
theorem d3_34 : decode jdk_42_method_149_code 34 = .ok (.iload_n 2, 1) := by decide +kernel
theorem d3_35 : decode jdk_42_method_149_code 35 = .ok (.iload_n 3, 1) := by decide +kernel
theorem d3_36 : decode jdk_42_method_149_code 36 = .ok (.invokestatic 177, 3) := by decide +kernel
theorem d3_39 : decode jdk_42_method_149_code 39 = .ok (.astore 5, 2) := by decide +kernel
theorem d3_41 : decode jdk_42_method_149_code 41 = .ok (.aload_n 0, 1) := by decide +kernel
theorem d3_42 : decode jdk_42_method_149_code 42 = .ok (.aload 5, 2) := by decide +kernel
theorem d3_44 : decode jdk_42_method_149_code 44 = .ok (.iload_n 3, 1) := by decide +kernel
theorem d3_45 : decode jdk_42_method_149_code 45 = .ok (.invokestatic 47, 3) := by decide +kernel
theorem pd___BI_B : parseMethodDescriptor "([BI)B" = some ⟨[(.array .byte), .int], some .byte⟩ := by decide +kernel
theorem d3_48 : decode jdk_42_method_149_code 48 = .ok (.putfield 15, 3) := by decide +kernel
theorem d3_51 : decode jdk_42_method_149_code 51 = .ok (.aload_n 0, 1) := by decide +kernel
theorem d3_52 : decode jdk_42_method_149_code 52 = .ok (.aload 5, 2) := by decide +kernel
theorem d3_54 : decode jdk_42_method_149_code 54 = .ok (.putfield 9, 3) := by decide +kernel
theorem d3_57 : decode jdk_42_method_149_code 57 = .ok (.return_, 1) := by decide +kernel
theorem pn_java_lang_String : plainName "java/lang/String" = true := by first | (simp [plainName, overriddenIn]; done) | decide +kernel
set_option maxRecDepth 65536 in
set_option maxHeartbeats 40000000 in
theorem rmN4 (l : Launch) (Z : State) (a0 : Array Value) (hw : ∀ d ∈ tables_1, d.before a0 Z = true) (x : Addr) (a : Addr) (ka : ClassId) (da : Value) (n : Nat) (cs : List Int32) (zC : Int32) (h0 : Heap) (n0 : Nat) (Z0 : n0 ≤ h0.size) (SA : Sta Z Z.heap "java/lang/StringUTF16" "$assertionsDisabled" "Z" (.int (1 : Int32))) (SH : Sta Z Z.heap "java/lang/StringUTF16" "HI_BYTE_SHIFT" "I" (.int (0 : Int32))) (SL : Sta Z Z.heap "java/lang/StringUTF16" "LO_BYTE_SHIFT" "I" (.int (8 : Int32))) (S2 : Sta Z Z.heap "java/lang/String" "COMPACT_STRINGS" "Z" (.int zC)) (hzC : ¬ zC = 0) (OL : Old Z n0 h0) (V_a : Arv Z h0 a ka .char (Int32.ofNat n) (cs.map Value.int) da) (hn : cs.length = n) (hb : n ≤ 4000) (h0n : 0 < n) (hp : ∀ c ∈ cs, ¬ c < 0 ∧ ¬ (65535 : Int32) < c) (g_x : n0 ≤ x) (E_x : Exa Z h0 x "java/lang/String") (F_coder_x : Fld Z h0 x "java/lang/String" "coder" "B" (.int (0 : Int32))) (F_value_x : Fld Z h0 x "java/lang/String" "value" "[B" .null) (ne_x_a : x ≠ a) :
    OwM l Z (⟨"java/lang/String", "<init>", "([CIILjava/lang/Void;)V"⟩ : MethodName) jdk_42_method_149_code 6 none ({ frames := 4, cells := 2, slots := 3 * n, locals := 59 } : Room) n0 #[(.ref x), (.ref a), (.int (0 : Int32)), (.int (Int32.ofNat n)), .null] h0 (fun v h => v = none ∧ Keep h0 h [x] ∧ ∃ (t : Addr) (kt : ClassId) (cd N2 : Int32) (vs : List Value), h0.size ≤ t ∧ Fld Z h x "java/lang/String" "value" "[B" (.ref t) ∧ Fld Z h x "java/lang/String" "coder" "B" (.int cd) ∧ Arv Z h t kt .byte N2 vs (.int (0 : Int32)) ∧ StrChars.Road.CodA cs cd N2 vs) := by
  refine OwM.mk (plainFor_of_name pn_java_lang_String) ?_
  intro p e s m below meth cD T hx hby hml hown hnm hret hlk hZ P
  refine OwG.cast (show entryFrame m #[(.ref x), (.ref a), (.int (0 : Int32)), (.int (Int32.ofNat n)), .null] 6 = mkF m 0 #[.val (.ref x), .val (.ref a), .val (.int (0 : Int32)), .val (.int (Int32.ofNat n)), .val .null, .unset] [] from by first | rfl | (simp [entryFrame, mkF, argsToLocals, Value.category]; done)) ?_
  have own_x := E_x.lt
  have KP := Keep.refl h0 [x]
  refine OwG.go (T' := T) (g' := (mkF m 1 #[.val (.ref x), .val (.ref a), .val (.int (0 : Int32)), .val (.int (Int32.ofNat n)), .val .null, .unset] [(.ref x)])) (fun tQ kQ => ?_) ?_
  · refine XS.aloadN P.here hx rfl (Jvm.hb hby d3_0) rfl rfl ?_
    exact kQ
  refine P.initO hx hZ hown (hw _ (List.mem_of_getElem? (i := 17) rfl)) (hw _ (List.mem_of_getElem? (i := 18) rfl)) (hw _ (List.mem_of_getElem? (i := 19) rfl)) (g := (mkF m 1 #[.val (.ref x), .val (.ref a), .val (.int (0 : Int32)), .val (.int (Int32.ofNat n)), .val .null, .unset] [(.ref x)])) rfl (by rw [hml]; rfl) rfl (Jvm.hb hby d3_1) (own_le rfl) (W := 0) (by show 2 * 0 + _ ≤ _; exact Nat.le_of_eq rfl) (own_le rfl) fun T P => ?_
  show OwG p e below s _ _ _ _ T (mkF m 4 #[.val (.ref x), .val (.ref a), .val (.int (0 : Int32)), .val (.int (Int32.ofNat n)), .val .null, .unset] [])
  refine OwG.go (T' := T) (g' := (mkF m 5 #[.val (.ref x), .val (.ref a), .val (.int (0 : Int32)), .val (.int (Int32.ofNat n)), .val .null, .unset] [(.int (Int32.ofNat n))])) (fun tQ kQ => ?_) ?_
  · refine XS.iloadN P.here hx rfl (Jvm.hb hby d3_4) rfl ?_
    exact kQ
  refine OwG.go (T' := T) (g' := (mkF m 27 #[.val (.ref x), .val (.ref a), .val (.int (0 : Int32)), .val (.int (Int32.ofNat n)), .val .null, .unset] [])) (fun tQ kQ => ?_) ?_
  · refine XS.ifYes P.here hx rfl (pc0 := 5) (pc' := 27) rfl (Jvm.hb hby d3_5) rfl ((if0 _ _).trans (feq (own_ne32 (n := 0) (by omega) (by omega) (by omega))).2) (by decide) (by decide) ?_
    exact kQ
  refine P.getS hx hZ hown (host := "") (Or.inl (hw _ (List.mem_of_getElem? (i := 20) rfl))) Via.refl (S2.ext OL.2) (g := (mkF m 27 #[.val (.ref x), .val (.ref a), .val (.int (0 : Int32)), .val (.int (Int32.ofNat n)), .val .null, .unset] [])) rfl (Jvm.hb hby d3_27) fun T P => ?_
  show OwG p e below s _ _ _ _ T (mkF m 30 #[.val (.ref x), .val (.ref a), .val (.int (0 : Int32)), .val (.int (Int32.ofNat n)), .val .null, .unset] [(.int zC)])
  refine OwG.go (T' := T) (g' := (mkF m 33 #[.val (.ref x), .val (.ref a), .val (.int (0 : Int32)), .val (.int (Int32.ofNat n)), .val .null, .unset] [])) (fun tQ kQ => ?_) ?_
  · refine XS.ifNo P.here hx rfl (Jvm.hb hby d3_30) rfl ((if0 _ _).trans (feq hzC).1) ?_
    exact kQ
  refine OwG.go (T' := T) (g' := (mkF m 36 #[.val (.ref x), .val (.ref a), .val (.int (0 : Int32)), .val (.int (Int32.ofNat n)), .val .null, .unset] [(.int (Int32.ofNat n)), (.int (0 : Int32)), (.ref a)])) (fun tQ kQ => ?_) ?_
  · refine XS.aloadN P.here hx rfl (Jvm.hb hby d3_33) rfl rfl ?_
    refine XS.iloadN P.here hx rfl (Jvm.hb hby d3_34) rfl ?_
    refine XS.iloadN P.here hx rfl (Jvm.hb hby d3_35) rfl ?_
    exact kQ
  refine P.stat hx hZ (y := (⟨"java/lang/StringUTF16", "compress", "([CII)[B"⟩ : MethodName)) hown (hw _ (List.mem_of_getElem? (i := 21) rfl)) (hw _ (List.mem_of_getElem? (i := 22) rfl)) (hw _ (List.mem_of_getElem? (i := 23) rfl)) (hw _ (List.mem_of_getElem? (i := 24) rfl)) (by decide) (OwM.back (W := 0) (rmC3 l Z a0 hw a ka da n cs h0 n0 Z0 SA SH SL OL V_a hn hb h0n hp) hZ (hw _ (List.mem_of_getElem? (i := 24) rfl)) (hw _ (List.mem_of_getElem? (i := 23) rfl)) (own_le rfl) (own_le rfl)) (fun _ _ _ q => q.2) (g := (mkF m 36 #[.val (.ref x), .val (.ref a), .val (.int (0 : Int32)), .val (.int (Int32.ofNat n)), .val .null, .unset] [(.int (Int32.ofNat n)), (.int (0 : Int32)), (.ref a)])) rfl (by rw [hml]; rfl) (argsL := [(.ref a), (.int (0 : Int32)), (.int (Int32.ofNat n))]) (rest := []) (lenOf pd___CII__B rfl) rfl (by show 2 * 0 + _ ≤ _; exact Nat.le_of_eq rfl) (Jvm.hb hby d3_36) rfl (by first | decide | omega | (dsimp only; omega) | (dsimp only [room_1]; omega) | (simp; done) | (simp [room_1]; done) | (simp [room_1]; omega)) (by first | decide | omega | (dsimp only; omega) | (dsimp only [room_1]; omega) | (simp; done) | (simp [room_1]; done) | (simp [room_1]; omega)) fun T own_v own_L h1 own_e P own_q => ?_
  obtain ⟨⟨t, kt, cd, N2, vs, rfl, sz_t, K, V_t, hcod⟩, -⟩ := own_q
  clear own_e
  replace E_x := E_x.keep K
  replace F_coder_x := F_coder_x.keep K nin0
  replace F_value_x := F_value_x.keep K nin0
  replace Z0 := Nat.le_trans Z0 K.1
  replace OL := OL.keep K all0
  replace KP := KP.trans K all0
  show OwG p e below s _ _ _ _ T (mkF m 39 #[.val (.ref x), .val (.ref a), .val (.int (0 : Int32)), .val (.int (Int32.ofNat n)), .val .null, .unset] [(.ref t)])
  have ne_t_x : t ≠ x := Nat.ne_of_gt (Nat.lt_of_lt_of_le (show x < h0.size from own_x) sz_t)
  refine OwG.go (T' := T) (g' := (mkF m 45 #[.val (.ref x), .val (.ref a), .val (.int (0 : Int32)), .val (.int (Int32.ofNat n)), .val .null, .val (.ref t)] [(.int (Int32.ofNat n)), (.ref t), (.ref x)])) (fun tQ kQ => ?_) ?_
  · refine XS.astore P.here hx rfl (Jvm.hb hby d3_39) rfl rfl (l' := #[.val (.ref x), .val (.ref a), .val (.int (0 : Int32)), .val (.int (Int32.ofNat n)), .val .null, .val (.ref t)]) rfl ?_
    refine XS.aloadN P.here hx rfl (Jvm.hb hby d3_41) rfl rfl ?_
    refine XS.aload P.here hx rfl (Jvm.hb hby d3_42) rfl rfl ?_
    refine XS.iloadN P.here hx rfl (Jvm.hb hby d3_44) rfl ?_
    exact kQ
  refine P.stat hx hZ (y := (⟨"java/lang/StringUTF16", "coderFromArrayLen", "([BI)B"⟩ : MethodName)) hown (hw _ (List.mem_of_getElem? (i := 29) rfl)) (hw _ (List.mem_of_getElem? (i := 30) rfl)) (hw _ (List.mem_of_getElem? (i := 23) rfl)) (hw _ (List.mem_of_getElem? (i := 31) rfl)) (by decide) (OwM.back (W := 1) (rmCl l Z a0 hw t kt cd N2 vs n cs h1 n0 Z0 V_t hcod hn h0n hb) hZ (hw _ (List.mem_of_getElem? (i := 31) rfl)) (hw _ (List.mem_of_getElem? (i := 23) rfl)) (own_le rfl) (own_le rfl)) (fun _ _ _ q => q.2) (g := (mkF m 45 #[.val (.ref x), .val (.ref a), .val (.int (0 : Int32)), .val (.int (Int32.ofNat n)), .val .null, .val (.ref t)] [(.int (Int32.ofNat n)), (.ref t), (.ref x)])) rfl (by rw [hml]; rfl) (argsL := [(.ref t), (.int (Int32.ofNat n))]) (rest := [(.ref x)]) (lenOf pd___BI_B rfl) rfl (by show 2 * 0 + _ ≤ _; exact Nat.le_of_eq rfl) (Jvm.hb hby d3_45) rfl (by first | decide | omega | (dsimp only; omega) | (dsimp only [room_1]; omega) | (simp; done) | (simp [room_1]; done) | (simp [room_1]; omega)) (by first | decide | omega | (dsimp only; omega) | (dsimp only [room_1]; omega) | (simp; done) | (simp [room_1]; done) | (simp [room_1]; omega)) fun T own_v own_L h2 own_e P own_q => ?_
  obtain ⟨⟨rfl, own_hh⟩, -⟩ := own_q
  rw [own_hh] at P
  clear own_e own_hh
  show OwG p e below s _ _ _ _ T (mkF m 48 #[.val (.ref x), .val (.ref a), .val (.int (0 : Int32)), .val (.int (Int32.ofNat n)), .val .null, .val (.ref t)] [(.int cd), (.ref x)])
  have own_c := own_cd hcod
  refine P.putFN hx hZ hown (hw _ (List.mem_of_getElem? (i := 32) rfl)) Via.refl F_coder_x E_x (Or.inr ⟨(hw _ (List.mem_of_getElem? (i := 33) rfl)), rfl, hnm⟩) (hw _ (List.mem_of_getElem? (i := 8) rfl)) (ty := .byte) (v' := (.int cd)) (by decide) (by rcases own_c with rfl | rfl <;> rfl) (by rcases own_c with rfl | rfl <;> rfl) (g := (mkF m 48 #[.val (.ref x), .val (.ref a), .val (.int (0 : Int32)), .val (.int (Int32.ofNat n)), .val .null, .val (.ref t)] [(.int cd), (.ref x)])) rfl rfl (Jvm.hb hby d3_48) g_x fun T h3 P W => ?_
  replace E_x := E_x.wr W
  replace F_coder_x := F_coder_x.same W
  replace F_value_x := F_value_x.other W (Or.inr (slot_ne (Or.inr (hw _ (List.mem_of_getElem? (i := 35) rfl))) (Or.inr (hw _ (List.mem_of_getElem? (i := 33) rfl))) (by decide) (t := (.array .byte)) (t' := .byte) (by decide) (by decide)))
  replace V_t := V_t.other W ne_t_x
  replace Z0 := Nat.le_trans Z0 (Keep.of_wr W).1
  replace OL := OL.wr W g_x
  replace KP := KP.wr W (Or.inl (List.mem_of_getElem? (i := 0) rfl))
  clear W
  show OwG p e below s _ _ _ _ T (mkF m 51 #[.val (.ref x), .val (.ref a), .val (.int (0 : Int32)), .val (.int (Int32.ofNat n)), .val .null, .val (.ref t)] [])
  refine OwG.go (T' := T) (g' := (mkF m 54 #[.val (.ref x), .val (.ref a), .val (.int (0 : Int32)), .val (.int (Int32.ofNat n)), .val .null, .val (.ref t)] [(.ref t), (.ref x)])) (fun tQ kQ => ?_) ?_
  · refine XS.aloadN P.here hx rfl (Jvm.hb hby d3_51) rfl rfl ?_
    refine XS.aload P.here hx rfl (Jvm.hb hby d3_52) rfl rfl ?_
    exact kQ
  refine P.putF hx hZ hown (host := "") (Or.inl (hw _ (List.mem_of_getElem? (i := 34) rfl))) Via.refl F_value_x E_x (Or.inr ⟨(hw _ (List.mem_of_getElem? (i := 35) rfl)), rfl, hnm⟩) (hw _ (List.mem_of_getElem? (i := 8) rfl)) (ty := (.array .byte)) (by decide) rfl rfl (g := (mkF m 54 #[.val (.ref x), .val (.ref a), .val (.int (0 : Int32)), .val (.int (Int32.ofNat n)), .val .null, .val (.ref t)] [(.ref t), (.ref x)])) rfl rfl (Jvm.hb hby d3_54) g_x fun T h4 P W => ?_
  replace E_x := E_x.wr W
  replace F_coder_x := F_coder_x.other W (Or.inr (slot_ne (Or.inr (hw _ (List.mem_of_getElem? (i := 33) rfl))) (Or.inr (hw _ (List.mem_of_getElem? (i := 35) rfl))) (by decide) (t := .byte) (t' := (.array .byte)) (by decide) (by decide)))
  replace F_value_x := F_value_x.same W
  replace V_t := V_t.other W ne_t_x
  replace Z0 := Nat.le_trans Z0 (Keep.of_wr W).1
  replace OL := OL.wr W g_x
  replace KP := KP.wr W (Or.inl (List.mem_of_getElem? (i := 0) rfl))
  clear W
  show OwG p e below s _ _ _ _ T (mkF m 57 #[.val (.ref x), .val (.ref a), .val (.int (0 : Int32)), .val (.int (Int32.ofNat n)), .val .null, .val (.ref t)] [])
  exact P.retV hx hlk hret (Jvm.hb hby d3_57) (by first | decide | omega | (dsimp only; omega) | (dsimp only [room_1]; omega) | (simp; done) | (simp [room_1]; done) | (simp [room_1]; omega)) (by first | decide | omega | (dsimp only; omega) | (dsimp only [room_1]; omega) | (simp; done) | (simp [room_1]; done) | (simp [room_1]; omega)) ⟨rfl, KP, t, kt, cd, N2, vs, sz_t, F_value_x, F_coder_x, V_t, hcod⟩
theorem d2_0 : decode jdk_42_method_3_code 0 = .ok (.aload_n 0, 1) := by decide +kernel
theorem d2_1 : decode jdk_42_method_3_code 1 = .ok (.aload_n 1, 1) := by decide +kernel
theorem d2_2 : decode jdk_42_method_3_code 2 = .ok (.iconst 0, 1) := by decide +kernel
theorem d2_3 : decode jdk_42_method_3_code 3 = .ok (.aload_n 1, 1) := by decide +kernel
theorem d2_4 : decode jdk_42_method_3_code 4 = .ok (.arraylength, 1) := by decide +kernel
theorem d2_5 : decode jdk_42_method_3_code 5 = .ok (.aconst_null, 1) := by decide +kernel
theorem d2_6 : decode jdk_42_method_3_code 6 = .ok (.invokespecial 27, 3) := by decide +kernel
theorem pd___CIILjava_lang_Void__V : parseMethodDescriptor "([CIILjava/lang/Void;)V" = some ⟨[(.array .char), .int, .int, (.object "java/lang/Void")], none⟩ := by decide +kernel
theorem d2_9 : decode jdk_42_method_3_code 9 = .ok (.return_, 1) := by decide +kernel
set_option maxRecDepth 65536 in
set_option maxHeartbeats 40000000 in
theorem rmN1 (l : Launch) (Z : State) (a0 : Array Value) (hw : ∀ d ∈ tables_1, d.before a0 Z = true) (x : Addr) (a : Addr) (ka : ClassId) (da : Value) (n : Nat) (cs : List Int32) (zC : Int32) (h0 : Heap) (n0 : Nat) (Z0 : n0 ≤ h0.size) (SA : Sta Z Z.heap "java/lang/StringUTF16" "$assertionsDisabled" "Z" (.int (1 : Int32))) (SH : Sta Z Z.heap "java/lang/StringUTF16" "HI_BYTE_SHIFT" "I" (.int (0 : Int32))) (SL : Sta Z Z.heap "java/lang/StringUTF16" "LO_BYTE_SHIFT" "I" (.int (8 : Int32))) (S2 : Sta Z Z.heap "java/lang/String" "COMPACT_STRINGS" "Z" (.int zC)) (hzC : ¬ zC = 0) (OL : Old Z n0 h0) (V_a : Arv Z h0 a ka .char (Int32.ofNat n) (cs.map Value.int) da) (hn : cs.length = n) (hb : n ≤ 4000) (h0n : 0 < n) (hp : ∀ c ∈ cs, ¬ c < 0 ∧ ¬ (65535 : Int32) < c) (g_x : n0 ≤ x) (E_x : Exa Z h0 x "java/lang/String") (F_coder_x : Fld Z h0 x "java/lang/String" "coder" "B" (.int (0 : Int32))) (F_value_x : Fld Z h0 x "java/lang/String" "value" "[B" .null) (ne_x_a : x ≠ a) :
    OwM l Z (⟨"java/lang/String", "<init>", "([C)V"⟩ : MethodName) jdk_42_method_3_code 2 none ({ frames := 5, cells := 2, slots := 3 * n, locals := 76 } : Room) n0 #[(.ref x), (.ref a)] h0 (fun v h => v = none ∧ Keep h0 h [x] ∧ ∃ (t : Addr) (kt : ClassId) (cd N2 : Int32) (vs : List Value), h0.size ≤ t ∧ Fld Z h x "java/lang/String" "value" "[B" (.ref t) ∧ Fld Z h x "java/lang/String" "coder" "B" (.int cd) ∧ Arv Z h t kt .byte N2 vs (.int (0 : Int32)) ∧ StrChars.Road.CodA cs cd N2 vs) := by
  refine OwM.mk (plainFor_of_name pn_java_lang_String) ?_
  intro p e s m below meth cD T hx hby hml hown hnm hret hlk hZ P
  refine OwG.cast (show entryFrame m #[(.ref x), (.ref a)] 2 = mkF m 0 #[.val (.ref x), .val (.ref a)] [] from by first | rfl | (simp [entryFrame, mkF, argsToLocals, Value.category]; done)) ?_
  refine OwG.go (T' := T) (g' := (mkF m 4 #[.val (.ref x), .val (.ref a)] [(.ref a), (.int (0 : Int32)), (.ref a), (.ref x)])) (fun tQ kQ => ?_) ?_
  · refine XS.aloadN P.here hx rfl (Jvm.hb hby d2_0) rfl rfl ?_
    refine XS.aloadN P.here hx rfl (Jvm.hb hby d2_1) rfl rfl ?_
    refine XS.iconst P.here hx rfl (Jvm.hb hby d2_2) ?_
    refine XS.aloadN P.here hx rfl (Jvm.hb hby d2_3) rfl rfl ?_
    exact kQ
  obtain ⟨own_cl, own_A, own_q1, own_S, own_M, own_H, own_U⟩ := id V_a
  obtain ⟨own_L, own_X, own_e, own_N⟩ := id P
  have own_Z := hZ
  refine OwG.go (T' := T) (g' := (mkF m 5 #[.val (.ref x), .val (.ref a)] [(.int (Int32.ofNat n)), (.int (0 : Int32)), (.ref a), (.ref x)])) (fun tQ kQ => ?_) ?_
  · refine own_X.arraylength hx (by rw [own_e]; exact own_A.1) (State.isArrayOf_alike own_Z.alike own_A.2.1) (g := (mkF m 4 #[.val (.ref x), .val (.ref a)] [(.ref a), (.int (0 : Int32)), (.ref a), (.ref x)])) rfl rfl (Jvm.hb hby d2_4) _ ?_
    rw [len_of own_S own_M]
    exact kQ
  refine OwG.go (T' := T) (g' := (mkF m 6 #[.val (.ref x), .val (.ref a)] [.null, (.int (Int32.ofNat n)), (.int (0 : Int32)), (.ref a), (.ref x)])) (fun tQ kQ => ?_) ?_
  · refine XS.aconstNull P.here hx rfl (Jvm.hb hby d2_5) ?_
    exact kQ
  refine P.special hx hZ (y := (⟨"java/lang/String", "<init>", "([CIILjava/lang/Void;)V"⟩ : MethodName)) rfl hown (hw _ (List.mem_of_getElem? (i := 13) rfl)) (hw _ (List.mem_of_getElem? (i := 14) rfl)) (hw _ (List.mem_of_getElem? (i := 16) rfl)) (by decide) (OwM.back (W := 0) (rmN4 l Z a0 hw x a ka da n cs zC h0 n0 Z0 SA SH SL S2 hzC OL V_a hn hb h0n hp g_x E_x F_coder_x F_value_x ne_x_a) hZ (hw _ (List.mem_of_getElem? (i := 16) rfl)) (hw _ (List.mem_of_getElem? (i := 9) rfl)) (own_le rfl) (own_le rfl)) (fun _ _ _ q => q.2) (g := (mkF m 6 #[.val (.ref x), .val (.ref a)] [.null, (.int (Int32.ofNat n)), (.int (0 : Int32)), (.ref a), (.ref x)])) rfl (by rw [hml]; rfl) (a := x) (argsL := [(.ref a), (.int (0 : Int32)), (.int (Int32.ofNat n)), .null]) (rest := []) (lenOf pd___CIILjava_lang_Void__V rfl) rfl (by show 2 * 0 + _ ≤ _; exact Nat.le_of_eq rfl) (Jvm.hb hby d2_6) rfl (by first | decide | omega | (dsimp only; omega) | (dsimp only [room_1]; omega) | (simp; done) | (simp [room_1]; done) | (simp [room_1]; omega)) (by first | decide | omega | (dsimp only; omega) | (dsimp only [room_1]; omega) | (simp; done) | (simp [room_1]; done) | (simp [room_1]; omega)) fun T own_v own_L h1 own_e P own_q => ?_
  obtain ⟨⟨rfl, own_r⟩, -⟩ := own_q
  show OwG p e below s _ _ _ _ T (mkF m 9 #[.val (.ref x), .val (.ref a)] [])
  exact P.retV hx hlk hret (Jvm.hb hby d2_9) (by first | decide | omega | (dsimp only; omega) | (dsimp only [room_1]; omega) | (simp; done) | (simp [room_1]; done) | (simp [room_1]; omega)) (by first | decide | omega | (dsimp only; omega) | (dsimp only [room_1]; omega) | (simp; done) | (simp [room_1]; done) | (simp [room_1]; omega)) ⟨rfl, own_r⟩
theorem own_lo {cs : List Int32} {d : Value} {i : Nat} (h : i < cs.length) (hb : i < 2 ^ 31) : (cs.map fun c => Value.int (StrChars.lo8 c)).getD (Int32.ofNat i).toNatClampNeg d = .int (StrChars.lo8 (cs.getD i 0)) := by rw [own_tc hb]; exact StrChars.Road.low_at _ _ _ h
theorem own_bd8 {cs : List Int32} {i : Nat} (h : i < cs.length) (hp : ∀ c ∈ cs, ¬ c < 0 ∧ ¬ (65535 : Int32) < c) (ha : ∀ c ∈ cs, ¬ (255 : Int32) < c) : ¬ cs.getD i 0 < 0 ∧ ¬ (255 : Int32) < cs.getD i 0 := ⟨(own_bd h hp).1, ha _ (by simp [List.getD_eq_getElem?_getD, h])⟩
theorem d15_0 : decode jdk_42_method_154_code 0 = .ok (.getstatic 38, 3) := by decide +kernel
theorem d15_3 : decode jdk_42_method_154_code 3 = .ok (.ifCond .eq 14, 3) := by decide +kernel
theorem d15_6 : decode jdk_42_method_154_code 6 = .ok (.aload_n 0, 1) := by decide +kernel
theorem d15_7 : decode jdk_42_method_154_code 7 = .ok (.getfield 15, 3) := by decide +kernel
theorem d15_10 : decode jdk_42_method_154_code 10 = .ok (.ifCond .ne 7, 3) := by decide +kernel
theorem d15_13 : decode jdk_42_method_154_code 13 = .ok (.iconst 1, 1) := by decide +kernel
theorem d15_14 : decode jdk_42_method_154_code 14 = .ok (.goto 4, 3) := by decide +kernel
theorem d15_18 : decode jdk_42_method_154_code 18 = .ok (.ireturn, 1) := by decide +kernel
theorem d15_17 : decode jdk_42_method_154_code 17 = .ok (.iconst 0, 1) := by decide +kernel
set_option maxRecDepth 65536 in
set_option maxHeartbeats 40000000 in
theorem rmIsL (l : Launch) (Z : State) (a0 : Array Value) (hw : ∀ d ∈ tables_1, d.before a0 Z = true) (x : Addr) (cd zC : Int32) (h0 : Heap) (n0 : Nat) (Z0 : n0 ≤ h0.size) (S2 : Sta Z Z.heap "java/lang/String" "COMPACT_STRINGS" "Z" (.int zC)) (hzC : ¬ zC = 0) (OL : Old Z n0 h0) (C_x : Fld Z h0 x "java/lang/String" "coder" "B" (.int cd)) :
    OwM l Z (⟨"java/lang/String", "isLatin1", "()Z"⟩ : MethodName) jdk_42_method_154_code 1 (some .boolean) ({ frames := 0, cells := 0, slots := 0, locals := 0 } : Room) n0 #[(.ref x)] h0 (fun v h => v = some (.int (if cd = 0 then 1 else 0)) ∧ h = h0) := by
  refine OwM.mk (plainFor_of_name pn_java_lang_String) ?_
  intro p e s m below meth cD T hx hby hml hown hnm hret hlk hZ P
  refine OwG.cast (show entryFrame m #[(.ref x)] 1 = mkF m 0 #[.val (.ref x)] [] from by first | rfl | (simp [entryFrame, mkF, argsToLocals, Value.category]; done)) ?_
  refine P.getS hx hZ hown (host := "") (Or.inl (hw _ (List.mem_of_getElem? (i := 20) rfl))) Via.refl (S2.ext OL.2) (g := (mkF m 0 #[.val (.ref x)] [])) rfl (Jvm.hb hby d15_0) fun T P => ?_
  show OwG p e below s _ _ _ _ T (mkF m 3 #[.val (.ref x)] [(.int zC)])
  refine OwG.go (T' := T) (g' := (mkF m 6 #[.val (.ref x)] [])) (fun tQ kQ => ?_) ?_
  · refine XS.ifNo P.here hx rfl (Jvm.hb hby d15_3) rfl ((if0 _ _).trans (feq hzC).1) ?_
    exact kQ
  refine OwG.go (T' := T) (g' := (mkF m 7 #[.val (.ref x)] [(.ref x)])) (fun tQ kQ => ?_) ?_
  · refine XS.aloadN P.here hx rfl (Jvm.hb hby d15_6) rfl rfl ?_
    exact kQ
  refine P.getF hx hZ hown (host := "") (Or.inl (hw _ (List.mem_of_getElem? (i := 32) rfl))) Via.refl C_x (g := (mkF m 7 #[.val (.ref x)] [(.ref x)])) rfl rfl (Jvm.hb hby d15_7) fun T P => ?_
  show OwG p e below s _ _ _ _ T (mkF m 10 #[.val (.ref x)] [(.int cd)])
  by_cases hc10 : cd = (0 : Int32)
  · skip
    refine OwG.go (T' := T) (g' := (mkF m 13 #[.val (.ref x)] [])) (fun tQ kQ => ?_) ?_
    · refine XS.ifNo P.here hx rfl (Jvm.hb hby d15_10) rfl ((if0 _ _).trans (teq hc10).2) ?_
      exact kQ
    refine OwG.go (T' := T) (g' := (mkF m 18 #[.val (.ref x)] [(.int (1 : Int32))])) (fun tQ kQ => ?_) ?_
    · refine XS.iconst P.here hx rfl (Jvm.hb hby d15_13) ?_
      refine XS.goto P.here hx rfl (pc0 := 14) (pc' := 18) rfl (Jvm.hb hby d15_14) (by decide) (by decide) ?_
      exact kQ
    exact P.retN hx hlk (t := .boolean) hret (by simp) (Jvm.hb hby d15_18) (by first | decide | omega | (dsimp only; omega) | (dsimp only [room_1]; omega) | (simp; done) | (simp [room_1]; done) | (simp [room_1]; omega)) (by first | decide | omega | (dsimp only; omega) | (dsimp only [room_1]; omega) | (simp; done) | (simp [room_1]; done) | (simp [room_1]; omega)) ⟨by rw [if_pos hc10]; rfl, rfl⟩
  · skip
    refine OwG.go (T' := T) (g' := (mkF m 17 #[.val (.ref x)] [])) (fun tQ kQ => ?_) ?_
    · refine XS.ifYes P.here hx rfl (pc0 := 10) (pc' := 17) rfl (Jvm.hb hby d15_10) rfl ((if0 _ _).trans (feq hc10).2) (by decide) (by decide) ?_
      exact kQ
    refine OwG.go (T' := T) (g' := (mkF m 18 #[.val (.ref x)] [(.int (0 : Int32))])) (fun tQ kQ => ?_) ?_
    · refine XS.iconst P.here hx rfl (Jvm.hb hby d15_17) ?_
      exact kQ
    exact P.retN hx hlk (t := .boolean) hret (by simp) (Jvm.hb hby d15_18) (by first | decide | omega | (dsimp only; omega) | (dsimp only [room_1]; omega) | (simp; done) | (simp [room_1]; done) | (simp [room_1]; omega)) (by first | decide | omega | (dsimp only; omega) | (dsimp only [room_1]; omega) | (simp; done) | (simp [room_1]; done) | (simp [room_1]; omega)) ⟨by rw [if_neg hc10]; rfl, rfl⟩
theorem d29_0 : decode jdk_52_method_6_code 0 = .ok (.aload_n 0, 1) := by decide +kernel
theorem d29_1 : decode jdk_52_method_6_code 1 = .ok (.arraylength, 1) := by decide +kernel
theorem d29_2 : decode jdk_52_method_6_code 2 = .ok (.iconst 1, 1) := by decide +kernel
theorem d29_3 : decode jdk_52_method_6_code 3 = .ok (.ishr, 1) := by decide +kernel
theorem d29_4 : decode jdk_52_method_6_code 4 = .ok (.ireturn, 1) := by decide +kernel
set_option maxRecDepth 65536 in
set_option maxHeartbeats 40000000 in
theorem rmUln (l : Launch) (Z : State) (a0 : Array Value) (hw : ∀ d ∈ tables_1, d.before a0 Z = true) (t : Addr) (kt : ClassId) (vs : List Value) (n : Nat) (h0 : Heap) (n0 : Nat) (Z0 : n0 ≤ h0.size) (A_t : Arv Z h0 t kt .byte (Int32.ofNat (2 * n)) vs (.int (0 : Int32))) (hb : n ≤ 4000) :
    OwM l Z (⟨"java/lang/StringUTF16", "length", "([B)I"⟩ : MethodName) jdk_52_method_6_code 1 (some .int) ({ frames := 0, cells := 0, slots := 0, locals := 0 } : Room) n0 #[(.ref t)] h0 (fun v h => v = some (.int (Int32.ofNat n)) ∧ h = h0) := by
  refine OwM.mk (plainFor_of_name pn_java_lang_StringUTF16) ?_
  intro p e s m below meth cD T hx hby hml hown hnm hret hlk hZ P
  refine OwG.cast (show entryFrame m #[(.ref t)] 1 = mkF m 0 #[.val (.ref t)] [] from by first | rfl | (simp [entryFrame, mkF, argsToLocals, Value.category]; done)) ?_
  refine OwG.go (T' := T) (g' := (mkF m 1 #[.val (.ref t)] [(.ref t)])) (fun tQ kQ => ?_) ?_
  · refine XS.aloadN P.here hx rfl (Jvm.hb hby d29_0) rfl rfl ?_
    exact kQ
  obtain ⟨own_cl, own_A, own_q1, own_S, own_M, own_H, own_U⟩ := id A_t
  obtain ⟨own_L, own_X, own_e, own_N⟩ := id P
  have own_Z := hZ
  refine OwG.go (T' := T) (g' := (mkF m 2 #[.val (.ref t)] [(.int (Int32.ofNat (2 * n)))])) (fun tQ kQ => ?_) ?_
  · refine own_X.arraylength hx (by rw [own_e]; exact own_A.1) (State.isArrayOf_alike own_Z.alike own_A.2.1) (g := (mkF m 1 #[.val (.ref t)] [(.ref t)])) rfl rfl (Jvm.hb hby d29_1) _ ?_
    rw [len_of own_S own_M]
    exact kQ
  refine OwG.go (T' := T) (g' := (mkF m 4 #[.val (.ref t)] [(.int ((Int32.ofNat (2 * n)) >>> ((1 : Int32) &&& 31)))])) (fun tQ kQ => ?_) ?_
  · refine XS.iconst P.here hx rfl (Jvm.hb hby d29_2) ?_
    refine XS.ishr P.here hx rfl (Jvm.hb hby d29_3) rfl ?_
    exact kQ
  rw [show ((Int32.ofNat (2 * n)) >>> ((1 : Int32) &&& 31)) = (Int32.ofNat n) from StrChars.shr1 (by omega)]
  show OwG p e below s _ _ _ _ T (mkF m 4 #[.val (.ref t)] [(.int (Int32.ofNat n))])
  exact P.retI hx hlk hret (Jvm.hb hby d29_4) (by first | decide | omega | (dsimp only; omega) | (dsimp only [room_1]; omega) | (simp; done) | (simp [room_1]; done) | (simp [room_1]; omega)) (by first | decide | omega | (dsimp only; omega) | (dsimp only [room_1]; omega) | (simp; done) | (simp [room_1]; done) | (simp [room_1]; omega)) ⟨rfl, rfl⟩
def own_LN (n : Nat) (h : Heap) (n0 : Nat) (v : Option Value) (h' : Heap) (L : List Loc) : Prop := v = some (.int (Int32.ofNat n)) ∧ h' = h ∧ Fr n0 L
theorem own_wLen : ∀ d ∈ StrChars.Road.wordsLen, d ∈ tables_1 := by decide +kernel
theorem own_lenB {p : Program} {l : Launch} {e : Env} {R : Room} {s : State} {args : Array Value} {below : List Frame} {W : Nat} {Z : State} {a0 : Array Value} {h : Heap} {n0 : Nat} (hZ : Z.Warmed39 s.vm) (hw : ∀ d ∈ tables_1, d.before a0 Z = true)
    {x t : Addr} {kb : ClassId} {cs : List Int32} {cd N2 z : Int32} {vs : List Value} {n : Nat} (E : Exa Z h x "java/lang/String") (V : Fld Z h x "java/lang/String" "value" "[B" (.ref t)) (C : Fld Z h x "java/lang/String" "coder" "B" (.int cd)) (K : Arv Z h t kb .byte N2 vs (.int 0)) (hc : StrChars.Road.CodA cs cd N2 vs) (hb : ∀ c ∈ cs, ¬ c < 0 ∧ ¬ (65535 : Int32) < c)
    (S : Sta Z h "java/lang/String" "COMPACT_STRINGS" "Z" (.int z)) (hz : ¬ z = 0) (hn : cs.length = n) (l2 : n ≤ 4000) (hfr : 2 ≤ R.frames) (hlo : W + 25 ≤ R.locals) :
    Back l R p e below s args (⟨"java/lang/String", "length", "()I"⟩ : MethodName) 3 W (fun P a => a = #[.ref x] ∧ P.U.heap = h ∧ P.cells + 0 ≤ R.cells ∧ P.slots + 0 ≤ R.slots)
      (fun P _ v B => ∃ L, own_LN n h n0 v B.U.heap L ∧ B.locs = P.locs ++ L ∧ B.cells = P.cells + 0 ∧ B.slots = P.slots + 0) :=
  Back.mono (StrChars.Road.lenW hZ (fun d hd => hw d (own_wLen d hd)) (kI := 4) (hw _ (List.mem_of_getElem? (i := 8) rfl)) E V C K hc hb S hz (by omega) hfr hlo) (fun _ _ q => q) (fun P a v B _ hq => by
    obtain ⟨L, ⟨q1, q2, q3⟩, r⟩ := hq
    exact ⟨L, ⟨by rw [q1, hn], q3, by rw [q2]; exact Fr.nil _⟩, r⟩)
theorem own_eqv {args : Array Value} {first s : State} {o : Option Outcome} {idx : List Nat} {t : Term} {z : Int32} (h : (Jvm.Cond.eq t (.int z)).value args first o s idx = some true) : t.eval args first o idx s = some (.int z) := by
  simp only [Cond.value, Term.eval] at h
  cases ht : t.eval args first o idx s with
  | none => simp [ht] at h
  | some v => cases v <;> simp_all
theorem own_lo8inj {a b : Int32} (ha : ¬ a < 0 ∧ ¬ (255 : Int32) < a) (hb : ¬ b < 0 ∧ ¬ (255 : Int32) < b) (h : ¬ a = b) : ¬ StrChars.lo8 a = b.toInt8.toInt32 := fun q => h (by
  have r : StrChars.lo8 a = StrChars.lo8 b := q
  rw [← StrChars.lo8_mask ha.1 ha.2, ← StrChars.lo8_mask hb.1 hb.2, r])
theorem own_notin {cs : List Int32} {ch : Int32} {i : Nat} (h : i < cs.length) (hm : ch ∉ cs) : ¬ cs.getD i 0 = ch := fun q => hm (by rw [← q]; simp [List.getD_eq_getElem?_getD, h])
theorem d17_0 : decode jdk_43_method_4_code 0 = .ok (.iload_n 0, 1) := by decide +kernel
theorem d17_1 : decode jdk_43_method_4_code 1 = .ok (.ifCond .lt 14, 3) := by decide +kernel
theorem d17_4 : decode jdk_43_method_4_code 4 = .ok (.iload_n 0, 1) := by decide +kernel
theorem d17_5 : decode jdk_43_method_4_code 5 = .ok (.sipush 255, 3) := by decide +kernel
theorem d17_8 : decode jdk_43_method_4_code 8 = .ok (.if_icmp .gt 7, 3) := by decide +kernel
theorem d17_11 : decode jdk_43_method_4_code 11 = .ok (.iconst 1, 1) := by decide +kernel
theorem d17_12 : decode jdk_43_method_4_code 12 = .ok (.goto 4, 3) := by decide +kernel
theorem d17_16 : decode jdk_43_method_4_code 16 = .ok (.ireturn, 1) := by decide +kernel
theorem pn_java_lang_StringLatin1 : plainName "java/lang/StringLatin1" = true := by first | (simp [plainName, overriddenIn]; done) | decide +kernel
set_option maxRecDepth 65536 in
set_option maxHeartbeats 40000000 in
theorem rmCan (l : Launch) (Z : State) (a0 : Array Value) (hw : ∀ d ∈ tables_1, d.before a0 Z = true) (ch : Int32) (h0 : Heap) (n0 : Nat) (Z0 : n0 ≤ h0.size) (hch : ¬ ch < 0 ∧ ¬ (255 : Int32) < ch) :
    OwM l Z (⟨"java/lang/StringLatin1", "canEncode", "(I)Z"⟩ : MethodName) jdk_43_method_4_code 1 (some .boolean) ({ frames := 0, cells := 0, slots := 0, locals := 0 } : Room) n0 #[(.int ch)] h0 (fun v h => v = some (.int (1 : Int32)) ∧ h = h0) := by
  refine OwM.mk (plainFor_of_name pn_java_lang_StringLatin1) ?_
  intro p e s m below meth cD T hx hby hml hown hnm hret hlk hZ P
  refine OwG.cast (show entryFrame m #[(.int ch)] 1 = mkF m 0 #[.val (.int ch)] [] from by first | rfl | (simp [entryFrame, mkF, argsToLocals, Value.category]; done)) ?_
  refine OwG.go (T' := T) (g' := (mkF m 1 #[.val (.int ch)] [(.int ch)])) (fun tQ kQ => ?_) ?_
  · refine XS.iloadN P.here hx rfl (Jvm.hb hby d17_0) rfl ?_
    exact kQ
  refine OwG.go (T' := T) (g' := (mkF m 4 #[.val (.int ch)] [])) (fun tQ kQ => ?_) ?_
  · refine XS.ifNo P.here hx rfl (Jvm.hb hby d17_1) rfl ((if0 _ _).trans (flt hch.1).1) ?_
    exact kQ
  refine OwG.go (T' := T) (g' := (mkF m 8 #[.val (.int ch)] [(.int (255 : Int32)), (.int ch)])) (fun tQ kQ => ?_) ?_
  · refine XS.iloadN P.here hx rfl (Jvm.hb hby d17_4) rfl ?_
    refine XS.sipush P.here hx rfl (Jvm.hb hby d17_5) ?_
    exact kQ
  refine OwG.go (T' := T) (g' := (mkF m 11 #[.val (.int ch)] [])) (fun tQ kQ => ?_) ?_
  · refine XS.icmpNo P.here hx rfl (Jvm.hb hby d17_8) rfl (flt hch.2).2.2.1 ?_
    exact kQ
  refine OwG.go (T' := T) (g' := (mkF m 16 #[.val (.int ch)] [(.int (1 : Int32))])) (fun tQ kQ => ?_) ?_
  · refine XS.iconst P.here hx rfl (Jvm.hb hby d17_11) ?_
    refine XS.goto P.here hx rfl (pc0 := 12) (pc' := 16) rfl (Jvm.hb hby d17_12) (by decide) (by decide) ?_
    exact kQ
  exact P.retN hx hlk (t := .boolean) hret (by simp) (Jvm.hb hby d17_16) (by first | decide | omega | (dsimp only; omega) | (dsimp only [room_1]; omega) | (simp; done) | (simp [room_1]; done) | (simp [room_1]; omega)) (by first | decide | omega | (dsimp only; omega) | (dsimp only [room_1]; omega) | (simp; done) | (simp [room_1]; done) | (simp [room_1]; omega)) ⟨rfl, rfl⟩
theorem d18_0 : decode jdk_29_method_65_code 0 = .ok (.iload_n 0, 1) := by decide +kernel
theorem d18_1 : decode jdk_29_method_65_code 1 = .ok (.iload_n 1, 1) := by decide +kernel
theorem d18_2 : decode jdk_29_method_65_code 2 = .ok (.if_icmp .lt 7, 3) := by decide +kernel
theorem d18_5 : decode jdk_29_method_65_code 5 = .ok (.iload_n 0, 1) := by decide +kernel
theorem d18_6 : decode jdk_29_method_65_code 6 = .ok (.goto 4, 3) := by decide +kernel
theorem d18_10 : decode jdk_29_method_65_code 10 = .ok (.ireturn, 1) := by decide +kernel
set_option maxRecDepth 65536 in
set_option maxHeartbeats 40000000 in
theorem rmMax (l : Launch) (Z : State) (a0 : Array Value) (hw : ∀ d ∈ tables_1, d.before a0 Z = true) (x : Int32) (h0 : Heap) (n0 : Nat) (Z0 : n0 ≤ h0.size)  :
    OwM l Z (⟨"java/lang/Math", "max", "(II)I"⟩ : MethodName) jdk_29_method_65_code 2 (some .int) ({ frames := 0, cells := 0, slots := 0, locals := 0 } : Room) n0 #[(.int x), (.int x)] h0 (fun v h => v = some (.int x) ∧ h = h0) := by
  refine OwM.mk (Jvm.Free.JP.mathPlain rfl (by decide +kernel)) ?_
  intro p e s m below meth cD T hx hby hml hown hnm hret hlk hZ P
  refine OwG.cast (show entryFrame m #[(.int x), (.int x)] 2 = mkF m 0 #[.val (.int x), .val (.int x)] [] from by first | rfl | (simp [entryFrame, mkF, argsToLocals, Value.category]; done)) ?_
  refine OwG.go (T' := T) (g' := (mkF m 2 #[.val (.int x), .val (.int x)] [(.int x), (.int x)])) (fun tQ kQ => ?_) ?_
  · refine XS.iloadN P.here hx rfl (Jvm.hb hby d18_0) rfl ?_
    refine XS.iloadN P.here hx rfl (Jvm.hb hby d18_1) rfl ?_
    exact kQ
  refine OwG.go (T' := T) (g' := (mkF m 5 #[.val (.int x), .val (.int x)] [])) (fun tQ kQ => ?_) ?_
  · refine XS.icmpNo P.here hx rfl (Jvm.hb hby d18_2) rfl (flt (own_irr _)).1 ?_
    exact kQ
  refine OwG.go (T' := T) (g' := (mkF m 10 #[.val (.int x), .val (.int x)] [(.int x)])) (fun tQ kQ => ?_) ?_
  · refine XS.iloadN P.here hx rfl (Jvm.hb hby d18_5) rfl ?_
    refine XS.goto P.here hx rfl (pc0 := 6) (pc' := 10) rfl (Jvm.hb hby d18_6) (by decide) (by decide) ?_
    exact kQ
  exact P.retI hx hlk hret (Jvm.hb hby d18_10) (by first | decide | omega | (dsimp only; omega) | (dsimp only [room_1]; omega) | (simp; done) | (simp [room_1]; done) | (simp [room_1]; omega)) (by first | decide | omega | (dsimp only; omega) | (dsimp only [room_1]; omega) | (simp; done) | (simp [room_1]; done) | (simp [room_1]; omega)) ⟨rfl, rfl⟩
theorem d19_0 : decode jdk_29_method_69_code 0 = .ok (.iload_n 0, 1) := by decide +kernel
theorem d19_1 : decode jdk_29_method_69_code 1 = .ok (.iload_n 1, 1) := by decide +kernel
theorem d19_2 : decode jdk_29_method_69_code 2 = .ok (.if_icmp .gt 7, 3) := by decide +kernel
theorem d19_5 : decode jdk_29_method_69_code 5 = .ok (.iload_n 0, 1) := by decide +kernel
theorem d19_6 : decode jdk_29_method_69_code 6 = .ok (.goto 4, 3) := by decide +kernel
theorem d19_10 : decode jdk_29_method_69_code 10 = .ok (.ireturn, 1) := by decide +kernel
set_option maxRecDepth 65536 in
set_option maxHeartbeats 40000000 in
theorem rmMin (l : Launch) (Z : State) (a0 : Array Value) (hw : ∀ d ∈ tables_1, d.before a0 Z = true) (x : Int32) (h0 : Heap) (n0 : Nat) (Z0 : n0 ≤ h0.size)  :
    OwM l Z (⟨"java/lang/Math", "min", "(II)I"⟩ : MethodName) jdk_29_method_69_code 2 (some .int) ({ frames := 0, cells := 0, slots := 0, locals := 0 } : Room) n0 #[(.int x), (.int x)] h0 (fun v h => v = some (.int x) ∧ h = h0) := by
  refine OwM.mk (Jvm.Free.JP.mathPlain rfl (by decide +kernel)) ?_
  intro p e s m below meth cD T hx hby hml hown hnm hret hlk hZ P
  refine OwG.cast (show entryFrame m #[(.int x), (.int x)] 2 = mkF m 0 #[.val (.int x), .val (.int x)] [] from by first | rfl | (simp [entryFrame, mkF, argsToLocals, Value.category]; done)) ?_
  refine OwG.go (T' := T) (g' := (mkF m 2 #[.val (.int x), .val (.int x)] [(.int x), (.int x)])) (fun tQ kQ => ?_) ?_
  · refine XS.iloadN P.here hx rfl (Jvm.hb hby d19_0) rfl ?_
    refine XS.iloadN P.here hx rfl (Jvm.hb hby d19_1) rfl ?_
    exact kQ
  refine OwG.go (T' := T) (g' := (mkF m 5 #[.val (.int x), .val (.int x)] [])) (fun tQ kQ => ?_) ?_
  · refine XS.icmpNo P.here hx rfl (Jvm.hb hby d19_2) rfl (flt (own_irr _)).2.2.1 ?_
    exact kQ
  refine OwG.go (T' := T) (g' := (mkF m 10 #[.val (.int x), .val (.int x)] [(.int x)])) (fun tQ kQ => ?_) ?_
  · refine XS.iloadN P.here hx rfl (Jvm.hb hby d19_5) rfl ?_
    refine XS.goto P.here hx rfl (pc0 := 6) (pc' := 10) rfl (Jvm.hb hby d19_6) (by decide) (by decide) ?_
    exact kQ
  exact P.retI hx hlk hret (Jvm.hb hby d19_10) (by first | decide | omega | (dsimp only; omega) | (dsimp only [room_1]; omega) | (simp; done) | (simp [room_1]; done) | (simp [room_1]; omega)) (by first | decide | omega | (dsimp only; omega) | (dsimp only [room_1]; omega) | (simp; done) | (simp [room_1]; done) | (simp [room_1]; omega)) ⟨rfl, rfl⟩
theorem d20_0 : decode jdk_43_method_23_code 0 = .ok (.iload_n 1, 1) := by decide +kernel
theorem d20_1 : decode jdk_43_method_23_code 1 = .ok (.i2b, 1) := by decide +kernel
theorem d20_2 : decode jdk_43_method_23_code 2 = .ok (.istore 4, 2) := by decide +kernel
theorem d20_4 : decode jdk_43_method_23_code 4 = .ok (.iload_n 2, 1) := by decide +kernel
theorem d20_5 : decode jdk_43_method_23_code 5 = .ok (.istore 5, 2) := by decide +kernel
theorem d20_7 : decode jdk_43_method_23_code 7 = .ok (.iload 5, 2) := by decide +kernel
theorem d20_9 : decode jdk_43_method_23_code 9 = .ok (.iload_n 3, 1) := by decide +kernel
theorem d20_10 : decode jdk_43_method_23_code 10 = .ok (.if_icmp .ge 21, 3) := by decide +kernel
theorem d20_31 : decode jdk_43_method_23_code 31 = .ok (.iconst (-1), 1) := by decide +kernel
theorem d20_32 : decode jdk_43_method_23_code 32 = .ok (.ireturn, 1) := by decide +kernel
theorem d20_13 : decode jdk_43_method_23_code 13 = .ok (.aload_n 0, 1) := by decide +kernel
theorem d20_14 : decode jdk_43_method_23_code 14 = .ok (.iload 5, 2) := by decide +kernel
theorem d20_16 : decode jdk_43_method_23_code 16 = .ok (.baload, 1) := by decide +kernel
theorem d20_17 : decode jdk_43_method_23_code 17 = .ok (.iload 4, 2) := by decide +kernel
theorem d20_19 : decode jdk_43_method_23_code 19 = .ok (.if_icmp .ne 6, 3) := by decide +kernel
theorem d20_25 : decode jdk_43_method_23_code 25 = .ok (.iinc 5 1, 3) := by decide +kernel
theorem d20_28 : decode jdk_43_method_23_code 28 = .ok (.goto (-21), 3) := by decide +kernel
set_option maxRecDepth 65536 in
set_option maxHeartbeats 40000000 in
theorem rmLic (l : Launch) (Z : State) (a0 : Array Value) (hw : ∀ d ∈ tables_1, d.before a0 Z = true) (t : Addr) (kt : ClassId) (cs : List Int32) (n : Nat) (ch : Int32) (h0 : Heap) (n0 : Nat) (Z0 : n0 ≤ h0.size) (A_t : Arv Z h0 t kt .byte (Int32.ofNat n) (cs.map fun c => Value.int (StrChars.lo8 c)) (.int (0 : Int32))) (hn : cs.length = n) (hb : n ≤ 4000) (h0n : 0 < n) (hp : ∀ c ∈ cs, ¬ c < 0 ∧ ¬ (65535 : Int32) < c) (ha : ∀ c ∈ cs, ¬ (255 : Int32) < c) (hch : ¬ ch < 0 ∧ ¬ (255 : Int32) < ch) (hm : ch ∉ cs) :
    OwM l Z (⟨"java/lang/StringLatin1", "indexOfChar", "([BIII)I"⟩ : MethodName) jdk_43_method_23_code 6 (some .int) ({ frames := 0, cells := 0, slots := 0, locals := 0 } : Room) n0 #[(.ref t), (.int ch), (.int (0 : Int32)), (.int (Int32.ofNat n))] h0 (fun v h => v = some (.int (-1 : Int32)) ∧ h = h0) := by
  refine OwM.mk (plainFor_of_name pn_java_lang_StringLatin1) ?_
  intro p e s m below meth cD T hx hby hml hown hnm hret hlk hZ P
  refine OwG.cast (show entryFrame m #[(.ref t), (.int ch), (.int (0 : Int32)), (.int (Int32.ofNat n))] 6 = mkF m 0 #[.val (.ref t), .val (.int ch), .val (.int (0 : Int32)), .val (.int (Int32.ofNat n)), .unset, .unset] [] from by first | rfl | (simp [entryFrame, mkF, argsToLocals, Value.category]; done)) ?_
  refine OwG.go (T' := T) (g' := (mkF m 7 #[.val (.ref t), .val (.int ch), .val (.int (0 : Int32)), .val (.int (Int32.ofNat n)), .val (.int (ch.toInt8.toInt32)), .val (.int (0 : Int32))] [])) (fun tQ kQ => ?_) ?_
  · refine XS.iloadN P.here hx rfl (Jvm.hb hby d20_0) rfl ?_
    refine XS.i2b P.here hx rfl (Jvm.hb hby d20_1) rfl ?_
    refine XS.istore P.here hx rfl (Jvm.hb hby d20_2) rfl (l' := #[.val (.ref t), .val (.int ch), .val (.int (0 : Int32)), .val (.int (Int32.ofNat n)), .val (.int (ch.toInt8.toInt32)), .unset]) rfl ?_
    refine XS.iloadN P.here hx rfl (Jvm.hb hby d20_4) rfl ?_
    refine XS.istore P.here hx rfl (Jvm.hb hby d20_5) rfl (l' := #[.val (.ref t), .val (.int ch), .val (.int (0 : Int32)), .val (.int (Int32.ofNat n)), .val (.int (ch.toInt8.toInt32)), .val (.int (0 : Int32))]) rfl ?_
    exact kQ
  have lp : ∀ (k i : Nat) (T : State) , i + k = n → OwP p l e ({ frames := 0, cells := 0, slots := 0, locals := 0 } : Room) s m #[(.ref t), (.int ch), (.int (0 : Int32)), (.int (Int32.ofNat n))] below meth cD n0 T h0 0 0 → OwG p e below s n0 ({ frames := 0, cells := 0, slots := 0, locals := 0 } : Room).cells ({ frames := 0, cells := 0, slots := 0, locals := 0 } : Room).slots (fun v h => v = some (.int (-1 : Int32)) ∧ h = h0) T (mkF m 7 #[.val (.ref t), .val (.int ch), .val (.int (0 : Int32)), .val (.int (Int32.ofNat n)), .val (.int (ch.toInt8.toInt32)), .val (.int (Int32.ofNat i))] []) := by
    intro k
    induction k with
    | zero =>
      intro i T  hik P 
      refine OwG.go (T' := T) (g' := (mkF m 10 #[.val (.ref t), .val (.int ch), .val (.int (0 : Int32)), .val (.int (Int32.ofNat n)), .val (.int (ch.toInt8.toInt32)), .val (.int (Int32.ofNat i))] [(.int (Int32.ofNat n)), (.int (Int32.ofNat i))])) (fun tQ kQ => ?_) ?_
      · refine XS.iload P.here hx rfl (Jvm.hb hby d20_7) rfl ?_
        refine XS.iloadN P.here hx rfl (Jvm.hb hby d20_9) rfl ?_
        exact kQ
      refine OwG.go (T' := T) (g' := (mkF m 31 #[.val (.ref t), .val (.int ch), .val (.int (0 : Int32)), .val (.int (Int32.ofNat n)), .val (.int (ch.toInt8.toInt32)), .val (.int (Int32.ofNat i))] [])) (fun tQ kQ => ?_) ?_
      · refine XS.icmpYes P.here hx rfl (pc0 := 10) (pc' := 31) rfl (Jvm.hb hby d20_10) rfl (flt (own_nlt (by omega) (by omega))).2.1 (by decide) (by decide) ?_
        exact kQ
      refine OwG.go (T' := T) (g' := (mkF m 32 #[.val (.ref t), .val (.int ch), .val (.int (0 : Int32)), .val (.int (Int32.ofNat n)), .val (.int (ch.toInt8.toInt32)), .val (.int (Int32.ofNat i))] [(.int (-1 : Int32))])) (fun tQ kQ => ?_) ?_
      · refine XS.iconst P.here hx rfl (Jvm.hb hby d20_31) ?_
        exact kQ
      exact P.retI hx hlk hret (Jvm.hb hby d20_32) (by first | decide | omega | (dsimp only; omega) | (dsimp only [room_1]; omega) | (simp; done) | (simp [room_1]; done) | (simp [room_1]; omega)) (by first | decide | omega | (dsimp only; omega) | (dsimp only [room_1]; omega) | (simp; done) | (simp [room_1]; done) | (simp [room_1]; omega)) ⟨rfl, rfl⟩
    | succ k ih =>
      intro i T  hik P 
      refine OwG.go (T' := T) (g' := (mkF m 10 #[.val (.ref t), .val (.int ch), .val (.int (0 : Int32)), .val (.int (Int32.ofNat n)), .val (.int (ch.toInt8.toInt32)), .val (.int (Int32.ofNat i))] [(.int (Int32.ofNat n)), (.int (Int32.ofNat i))])) (fun tQ kQ => ?_) ?_
      · refine XS.iload P.here hx rfl (Jvm.hb hby d20_7) rfl ?_
        refine XS.iloadN P.here hx rfl (Jvm.hb hby d20_9) rfl ?_
        exact kQ
      refine OwG.go (T' := T) (g' := (mkF m 13 #[.val (.ref t), .val (.int ch), .val (.int (0 : Int32)), .val (.int (Int32.ofNat n)), .val (.int (ch.toInt8.toInt32)), .val (.int (Int32.ofNat i))] [])) (fun tQ kQ => ?_) ?_
      · refine XS.icmpNo P.here hx rfl (Jvm.hb hby d20_10) rfl (tlt (own_lt (by omega) (by omega))).2.1 ?_
        exact kQ
      refine OwG.go (T' := T) (g' := (mkF m 16 #[.val (.ref t), .val (.int ch), .val (.int (0 : Int32)), .val (.int (Int32.ofNat n)), .val (.int (ch.toInt8.toInt32)), .val (.int (Int32.ofNat i))] [(.int (Int32.ofNat i)), (.ref t)])) (fun tQ kQ => ?_) ?_
      · refine XS.aloadN P.here hx rfl (Jvm.hb hby d20_13) rfl rfl ?_
        refine XS.iload P.here hx rfl (Jvm.hb hby d20_14) rfl ?_
        exact kQ
      obtain ⟨own_cl, own_A, own_q1, own_S, own_M, own_H, own_U⟩ := id A_t
      obtain ⟨own_L, own_X, own_e, own_N⟩ := id P
      have own_Z := hZ
      have own_in := inb_of own_S (j := (Int32.ofNat i)) ⟨own_nn (by omega), own_lt (by omega) (by omega)⟩
      refine OwG.go (T' := T) (g' := (mkF m 17 #[.val (.ref t), .val (.int ch), .val (.int (0 : Int32)), .val (.int (Int32.ofNat n)), .val (.int (ch.toInt8.toInt32)), .val (.int (Int32.ofNat i))] [(.int (StrChars.lo8 (cs.getD i 0)))])) (fun tQ kQ => ?_) ?_
      · refine own_X.baloadBytes hx (j := (Int32.ofNat i)) (v := (.int (StrChars.lo8 (cs.getD i 0)))) (by rw [own_e]; exact own_A.1) (State.isArrayOf_alike own_Z.alike own_A.2.1) own_A.2.2 own_in (Has.at own_H own_in (own_lo (by omega) (by omega))) (g := (mkF m 16 #[.val (.ref t), .val (.int ch), .val (.int (0 : Int32)), .val (.int (Int32.ofNat n)), .val (.int (ch.toInt8.toInt32)), .val (.int (Int32.ofNat i))] [(.int (Int32.ofNat i)), (.ref t)])) rfl rfl (Jvm.hb hby d20_16) _ ?_
        exact kQ
      refine OwG.go (T' := T) (g' := (mkF m 19 #[.val (.ref t), .val (.int ch), .val (.int (0 : Int32)), .val (.int (Int32.ofNat n)), .val (.int (ch.toInt8.toInt32)), .val (.int (Int32.ofNat i))] [(.int (ch.toInt8.toInt32)), (.int (StrChars.lo8 (cs.getD i 0)))])) (fun tQ kQ => ?_) ?_
      · refine XS.iload P.here hx rfl (Jvm.hb hby d20_17) rfl ?_
        exact kQ
      refine OwG.go (T' := T) (g' := (mkF m 25 #[.val (.ref t), .val (.int ch), .val (.int (0 : Int32)), .val (.int (Int32.ofNat n)), .val (.int (ch.toInt8.toInt32)), .val (.int (Int32.ofNat i))] [])) (fun tQ kQ => ?_) ?_
      · refine XS.icmpYes P.here hx rfl (pc0 := 19) (pc' := 25) rfl (Jvm.hb hby d20_19) rfl (feq (own_lo8inj (own_bd8 (by omega) hp ha) hch (own_notin (by omega) hm))).2 (by decide) (by decide) ?_
        exact kQ
      refine OwG.go (T' := T) (g' := (mkF m 7 #[.val (.ref t), .val (.int ch), .val (.int (0 : Int32)), .val (.int (Int32.ofNat n)), .val (.int (ch.toInt8.toInt32)), .val (.int ((Int32.ofNat i) + (1 : Int32)))] [])) (fun tQ kQ => ?_) ?_
      · refine XS.iinc P.here hx rfl (Jvm.hb hby d20_25) rfl (l' := #[.val (.ref t), .val (.int ch), .val (.int (0 : Int32)), .val (.int (Int32.ofNat n)), .val (.int (ch.toInt8.toInt32)), .val (.int ((Int32.ofNat i) + (1 : Int32)))]) rfl ?_
        refine XS.goto P.here hx rfl (pc0 := 28) (pc' := 7) rfl (Jvm.hb hby d20_28) (by decide) (by decide) ?_
        exact kQ
      rw [show ((Int32.ofNat i) + (1 : Int32)) = (Int32.ofNat (i + 1)) from own_succ _]
      show OwG p e below s _ _ _ _ T (mkF m 7 #[.val (.ref t), .val (.int ch), .val (.int (0 : Int32)), .val (.int (Int32.ofNat n)), .val (.int (ch.toInt8.toInt32)), .val (.int (Int32.ofNat (i + 1)))] [])
      exact ih (i + 1) T (by omega) P
  exact lp n 0 T (by omega) P
theorem d16_0 : decode jdk_43_method_22_code 0 = .ok (.iload_n 1, 1) := by decide +kernel
theorem d16_1 : decode jdk_43_method_22_code 1 = .ok (.invokestatic 88, 3) := by decide +kernel
theorem pd__I_Z : parseMethodDescriptor "(I)Z" = some ⟨[.int], some .boolean⟩ := by decide +kernel
theorem d16_4 : decode jdk_43_method_22_code 4 = .ok (.ifCond .ne 5, 3) := by decide +kernel
theorem d16_9 : decode jdk_43_method_22_code 9 = .ok (.iload_n 2, 1) := by decide +kernel
theorem d16_10 : decode jdk_43_method_22_code 10 = .ok (.iconst 0, 1) := by decide +kernel
theorem d16_11 : decode jdk_43_method_22_code 11 = .ok (.invokestatic 92, 3) := by decide +kernel
theorem pd__II_I : parseMethodDescriptor "(II)I" = some ⟨[.int, .int], some .int⟩ := by decide +kernel
theorem d16_14 : decode jdk_43_method_22_code 14 = .ok (.istore_n 2, 1) := by decide +kernel
theorem d16_15 : decode jdk_43_method_22_code 15 = .ok (.iload_n 3, 1) := by decide +kernel
theorem d16_16 : decode jdk_43_method_22_code 16 = .ok (.aload_n 0, 1) := by decide +kernel
theorem d16_17 : decode jdk_43_method_22_code 17 = .ok (.arraylength, 1) := by decide +kernel
theorem d16_18 : decode jdk_43_method_22_code 18 = .ok (.invokestatic 38, 3) := by decide +kernel
theorem d16_21 : decode jdk_43_method_22_code 21 = .ok (.istore_n 3, 1) := by decide +kernel
theorem d16_22 : decode jdk_43_method_22_code 22 = .ok (.iload_n 2, 1) := by decide +kernel
theorem d16_23 : decode jdk_43_method_22_code 23 = .ok (.iload_n 3, 1) := by decide +kernel
theorem d16_24 : decode jdk_43_method_22_code 24 = .ok (.if_icmp .lt 5, 3) := by decide +kernel
theorem d16_29 : decode jdk_43_method_22_code 29 = .ok (.aload_n 0, 1) := by decide +kernel
theorem d16_30 : decode jdk_43_method_22_code 30 = .ok (.iload_n 1, 1) := by decide +kernel
theorem d16_31 : decode jdk_43_method_22_code 31 = .ok (.iload_n 2, 1) := by decide +kernel
theorem d16_32 : decode jdk_43_method_22_code 32 = .ok (.iload_n 3, 1) := by decide +kernel
theorem d16_33 : decode jdk_43_method_22_code 33 = .ok (.invokestatic 95, 3) := by decide +kernel
theorem pd___BIII_I : parseMethodDescriptor "([BIII)I" = some ⟨[(.array .byte), .int, .int, .int], some .int⟩ := by decide +kernel
theorem d16_36 : decode jdk_43_method_22_code 36 = .ok (.ireturn, 1) := by decide +kernel
set_option maxRecDepth 65536 in
set_option maxHeartbeats 40000000 in
theorem rmLio (l : Launch) (Z : State) (a0 : Array Value) (hw : ∀ d ∈ tables_1, d.before a0 Z = true) (t : Addr) (kt : ClassId) (cs : List Int32) (n : Nat) (ch : Int32) (h0 : Heap) (n0 : Nat) (Z0 : n0 ≤ h0.size) (A_t : Arv Z h0 t kt .byte (Int32.ofNat n) (cs.map fun c => Value.int (StrChars.lo8 c)) (.int (0 : Int32))) (hn : cs.length = n) (hb : n ≤ 4000) (h0n : 0 < n) (hp : ∀ c ∈ cs, ¬ c < 0 ∧ ¬ (65535 : Int32) < c) (ha : ∀ c ∈ cs, ¬ (255 : Int32) < c) (hch : ¬ ch < 0 ∧ ¬ (255 : Int32) < ch) (hm : ch ∉ cs) :
    OwM l Z (⟨"java/lang/StringLatin1", "indexOf", "([BIII)I"⟩ : MethodName) jdk_43_method_22_code 4 (some .int) ({ frames := 1, cells := 0, slots := 0, locals := 17 } : Room) n0 #[(.ref t), (.int ch), (.int (0 : Int32)), (.int (Int32.ofNat n))] h0 (fun v h => v = some (.int (-1 : Int32)) ∧ h = h0) := by
  refine OwM.mk (plainFor_of_name pn_java_lang_StringLatin1) ?_
  intro p e s m below meth cD T hx hby hml hown hnm hret hlk hZ P
  refine OwG.cast (show entryFrame m #[(.ref t), (.int ch), (.int (0 : Int32)), (.int (Int32.ofNat n))] 4 = mkF m 0 #[.val (.ref t), .val (.int ch), .val (.int (0 : Int32)), .val (.int (Int32.ofNat n))] [] from by first | rfl | (simp [entryFrame, mkF, argsToLocals, Value.category]; done)) ?_
  refine OwG.go (T' := T) (g' := (mkF m 1 #[.val (.ref t), .val (.int ch), .val (.int (0 : Int32)), .val (.int (Int32.ofNat n))] [(.int ch)])) (fun tQ kQ => ?_) ?_
  · refine XS.iloadN P.here hx rfl (Jvm.hb hby d16_0) rfl ?_
    exact kQ
  refine P.stat hx hZ (y := (⟨"java/lang/StringLatin1", "canEncode", "(I)Z"⟩ : MethodName)) hown (hw _ (List.mem_of_getElem? (i := 82) rfl)) (hw _ (List.mem_of_getElem? (i := 83) rfl)) (hw _ (List.mem_of_getElem? (i := 80) rfl)) (hw _ (List.mem_of_getElem? (i := 84) rfl)) (by decide) (OwM.back (W := 0) (rmCan l Z a0 hw ch h0 n0 Z0 hch) hZ (hw _ (List.mem_of_getElem? (i := 84) rfl)) (hw _ (List.mem_of_getElem? (i := 80) rfl)) (own_le rfl) (own_le rfl)) (fun _ _ _ q => q.2) (g := (mkF m 1 #[.val (.ref t), .val (.int ch), .val (.int (0 : Int32)), .val (.int (Int32.ofNat n))] [(.int ch)])) rfl (by rw [hml]; rfl) (argsL := [(.int ch)]) (rest := []) (lenOf pd__I_Z rfl) rfl (by show 2 * 0 + _ ≤ _; exact Nat.le_of_eq rfl) (Jvm.hb hby d16_1) rfl (by first | decide | omega | (dsimp only; omega) | (dsimp only [room_1]; omega) | (simp; done) | (simp [room_1]; done) | (simp [room_1]; omega)) (by first | decide | omega | (dsimp only; omega) | (dsimp only [room_1]; omega) | (simp; done) | (simp [room_1]; done) | (simp [room_1]; omega)) fun T own_v own_L h1 own_e P own_q => ?_
  obtain ⟨⟨rfl, own_hh⟩, -⟩ := own_q
  rw [own_hh] at P
  clear own_e own_hh
  show OwG p e below s _ _ _ _ T (mkF m 4 #[.val (.ref t), .val (.int ch), .val (.int (0 : Int32)), .val (.int (Int32.ofNat n))] [(.int (1 : Int32))])
  refine OwG.go (T' := T) (g' := (mkF m 9 #[.val (.ref t), .val (.int ch), .val (.int (0 : Int32)), .val (.int (Int32.ofNat n))] [])) (fun tQ kQ => ?_) ?_
  · refine XS.ifYes P.here hx rfl (pc0 := 4) (pc' := 9) rfl (Jvm.hb hby d16_4) rfl ((if0 _ _).trans (feq (by decide : ¬ (1 : Int32) = 0)).2) (by decide) (by decide) ?_
    exact kQ
  refine OwG.go (T' := T) (g' := (mkF m 11 #[.val (.ref t), .val (.int ch), .val (.int (0 : Int32)), .val (.int (Int32.ofNat n))] [(.int (0 : Int32)), (.int (0 : Int32))])) (fun tQ kQ => ?_) ?_
  · refine XS.iloadN P.here hx rfl (Jvm.hb hby d16_9) rfl ?_
    refine XS.iconst P.here hx rfl (Jvm.hb hby d16_10) ?_
    exact kQ
  refine P.stat hx hZ (y := (⟨"java/lang/Math", "max", "(II)I"⟩ : MethodName)) hown (hw _ (List.mem_of_getElem? (i := 85) rfl)) (hw _ (List.mem_of_getElem? (i := 86) rfl)) (hw _ (List.mem_of_getElem? (i := 87) rfl)) (hw _ (List.mem_of_getElem? (i := 88) rfl)) (by decide) (OwM.back (W := 0) (rmMax l Z a0 hw 0 h0 n0 Z0) hZ (hw _ (List.mem_of_getElem? (i := 88) rfl)) (hw _ (List.mem_of_getElem? (i := 87) rfl)) (own_le rfl) (own_le rfl)) (fun _ _ _ q => q.2) (g := (mkF m 11 #[.val (.ref t), .val (.int ch), .val (.int (0 : Int32)), .val (.int (Int32.ofNat n))] [(.int (0 : Int32)), (.int (0 : Int32))])) rfl (by rw [hml]; rfl) (argsL := [(.int (0 : Int32)), (.int (0 : Int32))]) (rest := []) (lenOf pd__II_I rfl) rfl (by show 2 * 0 + _ ≤ _; exact Nat.le_of_eq rfl) (Jvm.hb hby d16_11) rfl (by first | decide | omega | (dsimp only; omega) | (dsimp only [room_1]; omega) | (simp; done) | (simp [room_1]; done) | (simp [room_1]; omega)) (by first | decide | omega | (dsimp only; omega) | (dsimp only [room_1]; omega) | (simp; done) | (simp [room_1]; done) | (simp [room_1]; omega)) fun T own_v own_L h2 own_e P own_q => ?_
  obtain ⟨⟨rfl, own_hh⟩, -⟩ := own_q
  rw [own_hh] at P
  clear own_e own_hh
  show OwG p e below s _ _ _ _ T (mkF m 14 #[.val (.ref t), .val (.int ch), .val (.int (0 : Int32)), .val (.int (Int32.ofNat n))] [(.int (0 : Int32))])
  refine OwG.go (T' := T) (g' := (mkF m 17 #[.val (.ref t), .val (.int ch), .val (.int (0 : Int32)), .val (.int (Int32.ofNat n))] [(.ref t), (.int (Int32.ofNat n))])) (fun tQ kQ => ?_) ?_
  · refine XS.istoreN P.here hx rfl (Jvm.hb hby d16_14) rfl (l' := #[.val (.ref t), .val (.int ch), .val (.int (0 : Int32)), .val (.int (Int32.ofNat n))]) rfl ?_
    refine XS.iloadN P.here hx rfl (Jvm.hb hby d16_15) rfl ?_
    refine XS.aloadN P.here hx rfl (Jvm.hb hby d16_16) rfl rfl ?_
    exact kQ
  obtain ⟨own_cl, own_A, own_q1, own_S, own_M, own_H, own_U⟩ := id A_t
  obtain ⟨own_L, own_X, own_e, own_N⟩ := id P
  have own_Z := hZ
  refine OwG.go (T' := T) (g' := (mkF m 18 #[.val (.ref t), .val (.int ch), .val (.int (0 : Int32)), .val (.int (Int32.ofNat n))] [(.int (Int32.ofNat n)), (.int (Int32.ofNat n))])) (fun tQ kQ => ?_) ?_
  · refine own_X.arraylength hx (by rw [own_e]; exact own_A.1) (State.isArrayOf_alike own_Z.alike own_A.2.1) (g := (mkF m 17 #[.val (.ref t), .val (.int ch), .val (.int (0 : Int32)), .val (.int (Int32.ofNat n))] [(.ref t), (.int (Int32.ofNat n))])) rfl rfl (Jvm.hb hby d16_17) _ ?_
    rw [len_of own_S own_M]
    exact kQ
  refine P.stat hx hZ (y := (⟨"java/lang/Math", "min", "(II)I"⟩ : MethodName)) hown (hw _ (List.mem_of_getElem? (i := 89) rfl)) (hw _ (List.mem_of_getElem? (i := 90) rfl)) (hw _ (List.mem_of_getElem? (i := 87) rfl)) (hw _ (List.mem_of_getElem? (i := 91) rfl)) (by decide) (OwM.back (W := 0) (rmMin l Z a0 hw (Int32.ofNat n) h0 n0 Z0) hZ (hw _ (List.mem_of_getElem? (i := 91) rfl)) (hw _ (List.mem_of_getElem? (i := 87) rfl)) (own_le rfl) (own_le rfl)) (fun _ _ _ q => q.2) (g := (mkF m 18 #[.val (.ref t), .val (.int ch), .val (.int (0 : Int32)), .val (.int (Int32.ofNat n))] [(.int (Int32.ofNat n)), (.int (Int32.ofNat n))])) rfl (by rw [hml]; rfl) (argsL := [(.int (Int32.ofNat n)), (.int (Int32.ofNat n))]) (rest := []) (lenOf pd__II_I rfl) rfl (by show 2 * 0 + _ ≤ _; exact Nat.le_of_eq rfl) (Jvm.hb hby d16_18) rfl (by first | decide | omega | (dsimp only; omega) | (dsimp only [room_1]; omega) | (simp; done) | (simp [room_1]; done) | (simp [room_1]; omega)) (by first | decide | omega | (dsimp only; omega) | (dsimp only [room_1]; omega) | (simp; done) | (simp [room_1]; done) | (simp [room_1]; omega)) fun T own_v own_L h3 own_e P own_q => ?_
  obtain ⟨⟨rfl, own_hh⟩, -⟩ := own_q
  rw [own_hh] at P
  clear own_e own_hh
  show OwG p e below s _ _ _ _ T (mkF m 21 #[.val (.ref t), .val (.int ch), .val (.int (0 : Int32)), .val (.int (Int32.ofNat n))] [(.int (Int32.ofNat n))])
  refine OwG.go (T' := T) (g' := (mkF m 24 #[.val (.ref t), .val (.int ch), .val (.int (0 : Int32)), .val (.int (Int32.ofNat n))] [(.int (Int32.ofNat n)), (.int (0 : Int32))])) (fun tQ kQ => ?_) ?_
  · refine XS.istoreN P.here hx rfl (Jvm.hb hby d16_21) rfl (l' := #[.val (.ref t), .val (.int ch), .val (.int (0 : Int32)), .val (.int (Int32.ofNat n))]) rfl ?_
    refine XS.iloadN P.here hx rfl (Jvm.hb hby d16_22) rfl ?_
    refine XS.iloadN P.here hx rfl (Jvm.hb hby d16_23) rfl ?_
    exact kQ
  refine OwG.go (T' := T) (g' := (mkF m 29 #[.val (.ref t), .val (.int ch), .val (.int (0 : Int32)), .val (.int (Int32.ofNat n))] [])) (fun tQ kQ => ?_) ?_
  · refine XS.icmpYes P.here hx rfl (pc0 := 24) (pc' := 29) rfl (Jvm.hb hby d16_24) rfl (tlt (own_lt (i := 0) h0n (by omega))).1 (by decide) (by decide) ?_
    exact kQ
  refine OwG.go (T' := T) (g' := (mkF m 33 #[.val (.ref t), .val (.int ch), .val (.int (0 : Int32)), .val (.int (Int32.ofNat n))] [(.int (Int32.ofNat n)), (.int (0 : Int32)), (.int ch), (.ref t)])) (fun tQ kQ => ?_) ?_
  · refine XS.aloadN P.here hx rfl (Jvm.hb hby d16_29) rfl rfl ?_
    refine XS.iloadN P.here hx rfl (Jvm.hb hby d16_30) rfl ?_
    refine XS.iloadN P.here hx rfl (Jvm.hb hby d16_31) rfl ?_
    refine XS.iloadN P.here hx rfl (Jvm.hb hby d16_32) rfl ?_
    exact kQ
  refine P.stat hx hZ (y := (⟨"java/lang/StringLatin1", "indexOfChar", "([BIII)I"⟩ : MethodName)) hown (hw _ (List.mem_of_getElem? (i := 92) rfl)) (hw _ (List.mem_of_getElem? (i := 93) rfl)) (hw _ (List.mem_of_getElem? (i := 80) rfl)) (hw _ (List.mem_of_getElem? (i := 94) rfl)) (by decide) (OwM.back (W := 0) (rmLic l Z a0 hw t kt cs n ch h0 n0 Z0 A_t hn hb h0n hp ha hch hm) hZ (hw _ (List.mem_of_getElem? (i := 94) rfl)) (hw _ (List.mem_of_getElem? (i := 80) rfl)) (own_le rfl) (own_le rfl)) (fun _ _ _ q => q.2) (g := (mkF m 33 #[.val (.ref t), .val (.int ch), .val (.int (0 : Int32)), .val (.int (Int32.ofNat n))] [(.int (Int32.ofNat n)), (.int (0 : Int32)), (.int ch), (.ref t)])) rfl (by rw [hml]; rfl) (argsL := [(.ref t), (.int ch), (.int (0 : Int32)), (.int (Int32.ofNat n))]) (rest := []) (lenOf pd___BIII_I rfl) rfl (by show 2 * 0 + _ ≤ _; exact Nat.le_of_eq rfl) (Jvm.hb hby d16_33) rfl (by first | decide | omega | (dsimp only; omega) | (dsimp only [room_1]; omega) | (simp; done) | (simp [room_1]; done) | (simp [room_1]; omega)) (by first | decide | omega | (dsimp only; omega) | (dsimp only [room_1]; omega) | (simp; done) | (simp [room_1]; done) | (simp [room_1]; omega)) fun T own_v own_L h4 own_e P own_q => ?_
  obtain ⟨⟨rfl, own_hh⟩, -⟩ := own_q
  rw [own_hh] at P
  clear own_e own_hh
  show OwG p e below s _ _ _ _ T (mkF m 36 #[.val (.ref t), .val (.int ch), .val (.int (0 : Int32)), .val (.int (Int32.ofNat n))] [(.int (-1 : Int32))])
  exact P.retI hx hlk hret (Jvm.hb hby d16_36) (by first | decide | omega | (dsimp only; omega) | (dsimp only [room_1]; omega) | (simp; done) | (simp [room_1]; done) | (simp [room_1]; omega)) (by first | decide | omega | (dsimp only; omega) | (dsimp only [room_1]; omega) | (simp; done) | (simp [room_1]; done) | (simp [room_1]; omega)) ⟨rfl, rfl⟩
theorem d31_0 : decode jdk_41_method_12_code 0 = .ok (.iload_n 0, 1) := by decide +kernel
theorem d31_1 : decode jdk_41_method_12_code 1 = .ok (.ifCond .lt 13, 3) := by decide +kernel
theorem d31_4 : decode jdk_41_method_12_code 4 = .ok (.iload_n 0, 1) := by decide +kernel
theorem d31_5 : decode jdk_41_method_12_code 5 = .ok (.iload_n 1, 1) := by decide +kernel
theorem d31_6 : decode jdk_41_method_12_code 6 = .ok (.if_icmp .gt 8, 3) := by decide +kernel
theorem d31_9 : decode jdk_41_method_12_code 9 = .ok (.iload_n 1, 1) := by decide +kernel
theorem d31_10 : decode jdk_41_method_12_code 10 = .ok (.iload_n 2, 1) := by decide +kernel
theorem d31_11 : decode jdk_41_method_12_code 11 = .ok (.if_icmp .le 11, 3) := by decide +kernel
theorem d31_22 : decode jdk_41_method_12_code 22 = .ok (.iload_n 0, 1) := by decide +kernel
theorem d31_23 : decode jdk_41_method_12_code 23 = .ok (.ireturn, 1) := by decide +kernel
theorem pn_jdk_internal_util_Preconditions : plainName "jdk/internal/util/Preconditions" = true := by first | (simp [plainName, overriddenIn]; done) | decide +kernel
set_option maxRecDepth 65536 in
set_option maxHeartbeats 40000000 in
theorem rmCft (l : Launch) (Z : State) (a0 : Array Value) (hw : ∀ d ∈ tables_1, d.before a0 Z = true) (n : Nat) (fm : Value) (h0 : Heap) (n0 : Nat) (Z0 : n0 ≤ h0.size) (rf : fm.isRef = true) (hb : n ≤ 4000) :
    OwM l Z (⟨"jdk/internal/util/Preconditions", "checkFromToIndex", "(IIILjava/util/function/BiFunction;)I"⟩ : MethodName) jdk_41_method_12_code 4 (some .int) ({ frames := 0, cells := 0, slots := 0, locals := 0 } : Room) n0 #[(.int (0 : Int32)), (.int (Int32.ofNat n)), (.int (Int32.ofNat n)), fm] h0 (fun v h => v = some (.int (0 : Int32)) ∧ h = h0) := by
  refine OwM.mk (plainFor_of_name pn_jdk_internal_util_Preconditions) ?_
  intro p e s m below meth cD T hx hby hml hown hnm hret hlk hZ P
  refine OwG.cast (show entryFrame m #[(.int (0 : Int32)), (.int (Int32.ofNat n)), (.int (Int32.ofNat n)), fm] 4 = mkF m 0 #[.val (.int (0 : Int32)), .val (.int (Int32.ofNat n)), .val (.int (Int32.ofNat n)), .val fm] [] from by first | rfl | (simp [entryFrame, mkF, argsToLocals, own_cI, own_cL, own_cR, own_cN, own_cat rf]; done)) ?_
  refine OwG.go (T' := T) (g' := (mkF m 1 #[.val (.int (0 : Int32)), .val (.int (Int32.ofNat n)), .val (.int (Int32.ofNat n)), .val fm] [(.int (0 : Int32))])) (fun tQ kQ => ?_) ?_
  · refine XS.iloadN P.here hx rfl (Jvm.hb hby d31_0) rfl ?_
    exact kQ
  refine OwG.go (T' := T) (g' := (mkF m 4 #[.val (.int (0 : Int32)), .val (.int (Int32.ofNat n)), .val (.int (Int32.ofNat n)), .val fm] [])) (fun tQ kQ => ?_) ?_
  · refine XS.ifNo P.here hx rfl (Jvm.hb hby d31_1) rfl ((if0 _ _).trans (flt (own_irr _)).1) ?_
    exact kQ
  refine OwG.go (T' := T) (g' := (mkF m 6 #[.val (.int (0 : Int32)), .val (.int (Int32.ofNat n)), .val (.int (Int32.ofNat n)), .val fm] [(.int (Int32.ofNat n)), (.int (0 : Int32))])) (fun tQ kQ => ?_) ?_
  · refine XS.iloadN P.here hx rfl (Jvm.hb hby d31_4) rfl ?_
    refine XS.iloadN P.here hx rfl (Jvm.hb hby d31_5) rfl ?_
    exact kQ
  refine OwG.go (T' := T) (g' := (mkF m 9 #[.val (.int (0 : Int32)), .val (.int (Int32.ofNat n)), .val (.int (Int32.ofNat n)), .val fm] [])) (fun tQ kQ => ?_) ?_
  · refine XS.icmpNo P.here hx rfl (Jvm.hb hby d31_6) rfl (flt (own_nn (by omega))).2.2.1 ?_
    exact kQ
  refine OwG.go (T' := T) (g' := (mkF m 11 #[.val (.int (0 : Int32)), .val (.int (Int32.ofNat n)), .val (.int (Int32.ofNat n)), .val fm] [(.int (Int32.ofNat n)), (.int (Int32.ofNat n))])) (fun tQ kQ => ?_) ?_
  · refine XS.iloadN P.here hx rfl (Jvm.hb hby d31_9) rfl ?_
    refine XS.iloadN P.here hx rfl (Jvm.hb hby d31_10) rfl ?_
    exact kQ
  refine OwG.go (T' := T) (g' := (mkF m 22 #[.val (.int (0 : Int32)), .val (.int (Int32.ofNat n)), .val (.int (Int32.ofNat n)), .val fm] [])) (fun tQ kQ => ?_) ?_
  · refine XS.icmpYes P.here hx rfl (pc0 := 11) (pc' := 22) rfl (Jvm.hb hby d31_11) rfl (flt (own_irr _)).2.2.2 (by decide) (by decide) ?_
    exact kQ
  refine OwG.go (T' := T) (g' := (mkF m 23 #[.val (.int (0 : Int32)), .val (.int (Int32.ofNat n)), .val (.int (Int32.ofNat n)), .val fm] [(.int (0 : Int32))])) (fun tQ kQ => ?_) ?_
  · refine XS.iloadN P.here hx rfl (Jvm.hb hby d31_22) rfl ?_
    exact kQ
  exact P.retI hx hlk hret (Jvm.hb hby d31_23) (by first | decide | omega | (dsimp only; omega) | (dsimp only [room_1]; omega) | (simp; done) | (simp [room_1]; done) | (simp [room_1]; omega)) (by first | decide | omega | (dsimp only; omega) | (dsimp only [room_1]; omega) | (simp; done) | (simp [room_1]; done) | (simp [room_1]; omega)) ⟨rfl, rfl⟩
theorem d30_0 : decode jdk_42_method_158_code 0 = .ok (.iload_n 0, 1) := by decide +kernel
theorem d30_1 : decode jdk_42_method_158_code 1 = .ok (.iload_n 1, 1) := by decide +kernel
theorem d30_2 : decode jdk_42_method_158_code 2 = .ok (.iload_n 2, 1) := by decide +kernel
theorem d30_3 : decode jdk_42_method_158_code 3 = .ok (.getstatic 1053, 3) := by decide +kernel
theorem d30_6 : decode jdk_42_method_158_code 6 = .ok (.invokestatic 1062, 3) := by decide +kernel
theorem pd__IIILjava_util_function_BiFunction__I : parseMethodDescriptor "(IIILjava/util/function/BiFunction;)I" = some ⟨[.int, .int, .int, (.object "java/util/function/BiFunction")], some .int⟩ := by decide +kernel
theorem d30_9 : decode jdk_42_method_158_code 9 = .ok (.pop, 1) := by decide +kernel
theorem d30_10 : decode jdk_42_method_158_code 10 = .ok (.return_, 1) := by decide +kernel
set_option maxRecDepth 65536 in
set_option maxHeartbeats 40000000 in
theorem rmSbb (l : Launch) (Z : State) (a0 : Array Value) (hw : ∀ d ∈ tables_1, d.before a0 Z = true) (n : Nat) (fm : Value) (h0 : Heap) (n0 : Nat) (Z0 : n0 ≤ h0.size) (SF : Sta Z Z.heap "jdk/internal/util/Preconditions" "SIOOBE_FORMATTER" "Ljava/util/function/BiFunction;" fm) (rf : fm.isRef = true) (OL : Old Z n0 h0) (hb : n ≤ 4000) :
    OwM l Z (⟨"java/lang/String", "checkBoundsBeginEnd", "(III)V"⟩ : MethodName) jdk_42_method_158_code 3 none ({ frames := 1, cells := 0, slots := 0, locals := 15 } : Room) n0 #[(.int (0 : Int32)), (.int (Int32.ofNat n)), (.int (Int32.ofNat n))] h0 (fun v h => v = none ∧ h = h0) := by
  refine OwM.mk (plainFor_of_name pn_java_lang_String) ?_
  intro p e s m below meth cD T hx hby hml hown hnm hret hlk hZ P
  refine OwG.cast (show entryFrame m #[(.int (0 : Int32)), (.int (Int32.ofNat n)), (.int (Int32.ofNat n))] 3 = mkF m 0 #[.val (.int (0 : Int32)), .val (.int (Int32.ofNat n)), .val (.int (Int32.ofNat n))] [] from by first | rfl | (simp [entryFrame, mkF, argsToLocals, Value.category]; done)) ?_
  refine OwG.go (T' := T) (g' := (mkF m 3 #[.val (.int (0 : Int32)), .val (.int (Int32.ofNat n)), .val (.int (Int32.ofNat n))] [(.int (Int32.ofNat n)), (.int (Int32.ofNat n)), (.int (0 : Int32))])) (fun tQ kQ => ?_) ?_
  · refine XS.iloadN P.here hx rfl (Jvm.hb hby d30_0) rfl ?_
    refine XS.iloadN P.here hx rfl (Jvm.hb hby d30_1) rfl ?_
    refine XS.iloadN P.here hx rfl (Jvm.hb hby d30_2) rfl ?_
    exact kQ
  refine P.getS hx hZ hown (host := "") (Or.inl (hw _ (List.mem_of_getElem? (i := 133) rfl))) Via.refl (SF.ext OL.2) (g := (mkF m 3 #[.val (.int (0 : Int32)), .val (.int (Int32.ofNat n)), .val (.int (Int32.ofNat n))] [(.int (Int32.ofNat n)), (.int (Int32.ofNat n)), (.int (0 : Int32))])) rfl (Jvm.hb hby d30_3) fun T P => ?_
  show OwG p e below s _ _ _ _ T (mkF m 6 #[.val (.int (0 : Int32)), .val (.int (Int32.ofNat n)), .val (.int (Int32.ofNat n))] [fm, (.int (Int32.ofNat n)), (.int (Int32.ofNat n)), (.int (0 : Int32))])
  refine P.stat hx hZ (y := (⟨"jdk/internal/util/Preconditions", "checkFromToIndex", "(IIILjava/util/function/BiFunction;)I"⟩ : MethodName)) hown (hw _ (List.mem_of_getElem? (i := 135) rfl)) (hw _ (List.mem_of_getElem? (i := 136) rfl)) (hw _ (List.mem_of_getElem? (i := 134) rfl)) (hw _ (List.mem_of_getElem? (i := 137) rfl)) (by decide) (OwM.back (W := 0) (rmCft l Z a0 hw n fm h0 n0 Z0 rf hb) hZ (hw _ (List.mem_of_getElem? (i := 137) rfl)) (hw _ (List.mem_of_getElem? (i := 134) rfl)) (own_le rfl) (own_le rfl)) (fun _ _ _ q => q.2) (g := (mkF m 6 #[.val (.int (0 : Int32)), .val (.int (Int32.ofNat n)), .val (.int (Int32.ofNat n))] [fm, (.int (Int32.ofNat n)), (.int (Int32.ofNat n)), (.int (0 : Int32))])) rfl (by rw [hml]; rfl) (argsL := [(.int (0 : Int32)), (.int (Int32.ofNat n)), (.int (Int32.ofNat n)), fm]) (rest := []) (lenOf pd__IIILjava_util_function_BiFunction__I rfl) rfl (by show 2 * 0 + _ ≤ _; exact Nat.le_of_eq rfl) (Jvm.hb hby d30_6) rfl (by first | decide | omega | (dsimp only; omega) | (dsimp only [room_1]; omega) | (simp; done) | (simp [room_1]; done) | (simp [room_1]; omega)) (by first | decide | omega | (dsimp only; omega) | (dsimp only [room_1]; omega) | (simp; done) | (simp [room_1]; done) | (simp [room_1]; omega)) fun T own_v own_L h1 own_e P own_q => ?_
  obtain ⟨⟨rfl, own_hh⟩, -⟩ := own_q
  rw [own_hh] at P
  clear own_e own_hh
  show OwG p e below s _ _ _ _ T (mkF m 9 #[.val (.int (0 : Int32)), .val (.int (Int32.ofNat n)), .val (.int (Int32.ofNat n))] [(.int (0 : Int32))])
  refine OwG.go (T' := T) (g' := (mkF m 10 #[.val (.int (0 : Int32)), .val (.int (Int32.ofNat n)), .val (.int (Int32.ofNat n))] [])) (fun tQ kQ => ?_) ?_
  · refine XS.pop P.here hx rfl (Jvm.hb hby d30_9) rfl rfl ?_
    exact kQ
  exact P.retV hx hlk hret (Jvm.hb hby d30_10) (by first | decide | omega | (dsimp only; omega) | (dsimp only [room_1]; omega) | (simp; done) | (simp [room_1]; done) | (simp [room_1]; omega)) (by first | decide | omega | (dsimp only; omega) | (dsimp only [room_1]; omega) | (simp; done) | (simp [room_1]; done) | (simp [room_1]; omega)) ⟨rfl, rfl⟩
theorem d28_0 : decode jdk_52_method_93_code 0 = .ok (.iload_n 0, 1) := by decide +kernel
theorem d28_1 : decode jdk_52_method_93_code 1 = .ok (.iload_n 1, 1) := by decide +kernel
theorem d28_2 : decode jdk_52_method_93_code 2 = .ok (.aload_n 2, 1) := by decide +kernel
theorem d28_3 : decode jdk_52_method_93_code 3 = .ok (.invokestatic 48, 3) := by decide +kernel
theorem pd___B_I : parseMethodDescriptor "([B)I" = some ⟨[(.array .byte)], some .int⟩ := by decide +kernel
theorem d28_6 : decode jdk_52_method_93_code 6 = .ok (.invokestatic 241, 3) := by decide +kernel
theorem pd__III_V : parseMethodDescriptor "(III)V" = some ⟨[.int, .int, .int], none⟩ := by decide +kernel
theorem d28_9 : decode jdk_52_method_93_code 9 = .ok (.return_, 1) := by decide +kernel
set_option maxRecDepth 65536 in
set_option maxHeartbeats 40000000 in
theorem rmUbb (l : Launch) (Z : State) (a0 : Array Value) (hw : ∀ d ∈ tables_1, d.before a0 Z = true) (t : Addr) (kt : ClassId) (cs : List Int32) (n : Nat) (fm : Value) (h0 : Heap) (n0 : Nat) (Z0 : n0 ≤ h0.size) (SF : Sta Z Z.heap "jdk/internal/util/Preconditions" "SIOOBE_FORMATTER" "Ljava/util/function/BiFunction;" fm) (rf : fm.isRef = true) (OL : Old Z n0 h0) (A_t : Arv Z h0 t kt .byte (Int32.ofNat (2 * n)) (StrChars.Road.wideBytes cs) (.int (0 : Int32))) (hb : n ≤ 4000) :
    OwM l Z (⟨"java/lang/StringUTF16", "checkBoundsBeginEnd", "(II[B)V"⟩ : MethodName) jdk_52_method_93_code 3 none ({ frames := 2, cells := 0, slots := 0, locals := 29 } : Room) n0 #[(.int (0 : Int32)), (.int (Int32.ofNat n)), (.ref t)] h0 (fun v h => v = none ∧ h = h0) := by
  refine OwM.mk (plainFor_of_name pn_java_lang_StringUTF16) ?_
  intro p e s m below meth cD T hx hby hml hown hnm hret hlk hZ P
  refine OwG.cast (show entryFrame m #[(.int (0 : Int32)), (.int (Int32.ofNat n)), (.ref t)] 3 = mkF m 0 #[.val (.int (0 : Int32)), .val (.int (Int32.ofNat n)), .val (.ref t)] [] from by first | rfl | (simp [entryFrame, mkF, argsToLocals, Value.category]; done)) ?_
  refine OwG.go (T' := T) (g' := (mkF m 3 #[.val (.int (0 : Int32)), .val (.int (Int32.ofNat n)), .val (.ref t)] [(.ref t), (.int (Int32.ofNat n)), (.int (0 : Int32))])) (fun tQ kQ => ?_) ?_
  · refine XS.iloadN P.here hx rfl (Jvm.hb hby d28_0) rfl ?_
    refine XS.iloadN P.here hx rfl (Jvm.hb hby d28_1) rfl ?_
    refine XS.aloadN P.here hx rfl (Jvm.hb hby d28_2) rfl rfl ?_
    exact kQ
  refine P.stat hx hZ (y := (⟨"java/lang/StringUTF16", "length", "([B)I"⟩ : MethodName)) hown (hw _ (List.mem_of_getElem? (i := 127) rfl)) (hw _ (List.mem_of_getElem? (i := 128) rfl)) (hw _ (List.mem_of_getElem? (i := 23) rfl)) (hw _ (List.mem_of_getElem? (i := 129) rfl)) (by decide) (OwM.back (W := 2) (rmUln l Z a0 hw t kt _ n h0 n0 Z0 A_t hb) hZ (hw _ (List.mem_of_getElem? (i := 129) rfl)) (hw _ (List.mem_of_getElem? (i := 23) rfl)) (own_le rfl) (own_le rfl)) (fun _ _ _ q => q.2) (g := (mkF m 3 #[.val (.int (0 : Int32)), .val (.int (Int32.ofNat n)), .val (.ref t)] [(.ref t), (.int (Int32.ofNat n)), (.int (0 : Int32))])) rfl (by rw [hml]; rfl) (argsL := [(.ref t)]) (rest := [(.int (Int32.ofNat n)), (.int (0 : Int32))]) (lenOf pd___B_I rfl) rfl (by show 2 * 0 + _ ≤ _; exact Nat.le_of_eq rfl) (Jvm.hb hby d28_3) rfl (by first | decide | omega | (dsimp only; omega) | (dsimp only [room_1]; omega) | (simp; done) | (simp [room_1]; done) | (simp [room_1]; omega)) (by first | decide | omega | (dsimp only; omega) | (dsimp only [room_1]; omega) | (simp; done) | (simp [room_1]; done) | (simp [room_1]; omega)) fun T own_v own_L h1 own_e P own_q => ?_
  obtain ⟨⟨rfl, own_hh⟩, -⟩ := own_q
  rw [own_hh] at P
  clear own_e own_hh
  show OwG p e below s _ _ _ _ T (mkF m 6 #[.val (.int (0 : Int32)), .val (.int (Int32.ofNat n)), .val (.ref t)] [(.int (Int32.ofNat n)), (.int (Int32.ofNat n)), (.int (0 : Int32))])
  refine P.stat hx hZ (y := (⟨"java/lang/String", "checkBoundsBeginEnd", "(III)V"⟩ : MethodName)) hown (hw _ (List.mem_of_getElem? (i := 130) rfl)) (hw _ (List.mem_of_getElem? (i := 131) rfl)) (hw _ (List.mem_of_getElem? (i := 9) rfl)) (hw _ (List.mem_of_getElem? (i := 132) rfl)) (by decide) (OwM.back (W := 0) (rmSbb l Z a0 hw n fm h0 n0 Z0 SF rf OL hb) hZ (hw _ (List.mem_of_getElem? (i := 132) rfl)) (hw _ (List.mem_of_getElem? (i := 9) rfl)) (own_le rfl) (own_le rfl)) (fun _ _ _ q => q.2) (g := (mkF m 6 #[.val (.int (0 : Int32)), .val (.int (Int32.ofNat n)), .val (.ref t)] [(.int (Int32.ofNat n)), (.int (Int32.ofNat n)), (.int (0 : Int32))])) rfl (by rw [hml]; rfl) (argsL := [(.int (0 : Int32)), (.int (Int32.ofNat n)), (.int (Int32.ofNat n))]) (rest := []) (lenOf pd__III_V rfl) rfl (by show 2 * 0 + _ ≤ _; exact Nat.le_of_eq rfl) (Jvm.hb hby d28_6) rfl (by first | decide | omega | (dsimp only; omega) | (dsimp only [room_1]; omega) | (simp; done) | (simp [room_1]; done) | (simp [room_1]; omega)) (by first | decide | omega | (dsimp only; omega) | (dsimp only [room_1]; omega) | (simp; done) | (simp [room_1]; done) | (simp [room_1]; omega)) fun T own_v own_L h2 own_e P own_q => ?_
  obtain ⟨⟨rfl, own_hh⟩, -⟩ := own_q
  rw [own_hh] at P
  clear own_e own_hh
  show OwG p e below s _ _ _ _ T (mkF m 9 #[.val (.int (0 : Int32)), .val (.int (Int32.ofNat n)), .val (.ref t)] [])
  exact P.retV hx hlk hret (Jvm.hb hby d28_9) (by first | decide | omega | (dsimp only; omega) | (dsimp only [room_1]; omega) | (simp; done) | (simp [room_1]; done) | (simp [room_1]; omega)) (by first | decide | omega | (dsimp only; omega) | (dsimp only [room_1]; omega) | (simp; done) | (simp [room_1]; done) | (simp [room_1]; omega)) ⟨rfl, rfl⟩
theorem d32_0 : decode jdk_52_method_48_code 0 = .ok (.iload_n 2, 1) := by decide +kernel
theorem d32_1 : decode jdk_52_method_48_code 1 = .ok (.istore 4, 2) := by decide +kernel
theorem d32_3 : decode jdk_52_method_48_code 3 = .ok (.iload 4, 2) := by decide +kernel
theorem d32_5 : decode jdk_52_method_48_code 5 = .ok (.iload_n 3, 1) := by decide +kernel
theorem d32_6 : decode jdk_52_method_48_code 6 = .ok (.if_icmp .ge 22, 3) := by decide +kernel
theorem d32_28 : decode jdk_52_method_48_code 28 = .ok (.iconst (-1), 1) := by decide +kernel
theorem d32_29 : decode jdk_52_method_48_code 29 = .ok (.ireturn, 1) := by decide +kernel
theorem d32_9 : decode jdk_52_method_48_code 9 = .ok (.aload_n 0, 1) := by decide +kernel
theorem d32_10 : decode jdk_52_method_48_code 10 = .ok (.iload 4, 2) := by decide +kernel
theorem d32_12 : decode jdk_52_method_48_code 12 = .ok (.invokestatic 71, 3) := by decide +kernel
theorem d32_15 : decode jdk_52_method_48_code 15 = .ok (.iload_n 1, 1) := by decide +kernel
theorem d32_16 : decode jdk_52_method_48_code 16 = .ok (.if_icmp .ne 6, 3) := by decide +kernel
theorem d32_22 : decode jdk_52_method_48_code 22 = .ok (.iinc 4 1, 3) := by decide +kernel
theorem d32_25 : decode jdk_52_method_48_code 25 = .ok (.goto (-22), 3) := by decide +kernel
set_option maxRecDepth 65536 in
set_option maxHeartbeats 40000000 in
theorem rmUun (l : Launch) (Z : State) (a0 : Array Value) (hw : ∀ d ∈ tables_1, d.before a0 Z = true) (t : Addr) (kt : ClassId) (cs : List Int32) (n : Nat) (ch : Int32) (h0 : Heap) (n0 : Nat) (Z0 : n0 ≤ h0.size) (SA : Sta Z Z.heap "java/lang/StringUTF16" "$assertionsDisabled" "Z" (.int (1 : Int32))) (SH : Sta Z Z.heap "java/lang/StringUTF16" "HI_BYTE_SHIFT" "I" (.int (0 : Int32))) (SL : Sta Z Z.heap "java/lang/StringUTF16" "LO_BYTE_SHIFT" "I" (.int (8 : Int32))) (OL : Old Z n0 h0) (A_t : Arv Z h0 t kt .byte (Int32.ofNat (2 * n)) (StrChars.Road.wideBytes cs) (.int (0 : Int32))) (hn : cs.length = n) (hb : n ≤ 4000) (h0n : 0 < n) (hp : ∀ c ∈ cs, ¬ c < 0 ∧ ¬ (65535 : Int32) < c) (hm : ch ∉ cs) :
    OwM l Z (⟨"java/lang/StringUTF16", "indexOfCharUnsafe", "([BIII)I"⟩ : MethodName) jdk_52_method_48_code 5 (some .int) ({ frames := 1, cells := 0, slots := 0, locals := 13 } : Room) n0 #[(.ref t), (.int ch), (.int (0 : Int32)), (.int (Int32.ofNat n))] h0 (fun v h => v = some (.int (-1 : Int32)) ∧ h = h0) := by
  refine OwM.mk (plainFor_of_name pn_java_lang_StringUTF16) ?_
  intro p e s m below meth cD T hx hby hml hown hnm hret hlk hZ P
  refine OwG.cast (show entryFrame m #[(.ref t), (.int ch), (.int (0 : Int32)), (.int (Int32.ofNat n))] 5 = mkF m 0 #[.val (.ref t), .val (.int ch), .val (.int (0 : Int32)), .val (.int (Int32.ofNat n)), .unset] [] from by first | rfl | (simp [entryFrame, mkF, argsToLocals, Value.category]; done)) ?_
  refine OwG.go (T' := T) (g' := (mkF m 3 #[.val (.ref t), .val (.int ch), .val (.int (0 : Int32)), .val (.int (Int32.ofNat n)), .val (.int (0 : Int32))] [])) (fun tQ kQ => ?_) ?_
  · refine XS.iloadN P.here hx rfl (Jvm.hb hby d32_0) rfl ?_
    refine XS.istore P.here hx rfl (Jvm.hb hby d32_1) rfl (l' := #[.val (.ref t), .val (.int ch), .val (.int (0 : Int32)), .val (.int (Int32.ofNat n)), .val (.int (0 : Int32))]) rfl ?_
    exact kQ
  have lp : ∀ (k i : Nat) (T : State) , i + k = n → OwP p l e ({ frames := 1, cells := 0, slots := 0, locals := 13 } : Room) s m #[(.ref t), (.int ch), (.int (0 : Int32)), (.int (Int32.ofNat n))] below meth cD n0 T h0 0 0 → OwG p e below s n0 ({ frames := 1, cells := 0, slots := 0, locals := 13 } : Room).cells ({ frames := 1, cells := 0, slots := 0, locals := 13 } : Room).slots (fun v h => v = some (.int (-1 : Int32)) ∧ h = h0) T (mkF m 3 #[.val (.ref t), .val (.int ch), .val (.int (0 : Int32)), .val (.int (Int32.ofNat n)), .val (.int (Int32.ofNat i))] []) := by
    intro k
    induction k with
    | zero =>
      intro i T  hik P 
      refine OwG.go (T' := T) (g' := (mkF m 6 #[.val (.ref t), .val (.int ch), .val (.int (0 : Int32)), .val (.int (Int32.ofNat n)), .val (.int (Int32.ofNat i))] [(.int (Int32.ofNat n)), (.int (Int32.ofNat i))])) (fun tQ kQ => ?_) ?_
      · refine XS.iload P.here hx rfl (Jvm.hb hby d32_3) rfl ?_
        refine XS.iloadN P.here hx rfl (Jvm.hb hby d32_5) rfl ?_
        exact kQ
      refine OwG.go (T' := T) (g' := (mkF m 28 #[.val (.ref t), .val (.int ch), .val (.int (0 : Int32)), .val (.int (Int32.ofNat n)), .val (.int (Int32.ofNat i))] [])) (fun tQ kQ => ?_) ?_
      · refine XS.icmpYes P.here hx rfl (pc0 := 6) (pc' := 28) rfl (Jvm.hb hby d32_6) rfl (flt (own_nlt (by omega) (by omega))).2.1 (by decide) (by decide) ?_
        exact kQ
      refine OwG.go (T' := T) (g' := (mkF m 29 #[.val (.ref t), .val (.int ch), .val (.int (0 : Int32)), .val (.int (Int32.ofNat n)), .val (.int (Int32.ofNat i))] [(.int (-1 : Int32))])) (fun tQ kQ => ?_) ?_
      · refine XS.iconst P.here hx rfl (Jvm.hb hby d32_28) ?_
        exact kQ
      exact P.retI hx hlk hret (Jvm.hb hby d32_29) (by first | decide | omega | (dsimp only; omega) | (dsimp only [room_1]; omega) | (simp; done) | (simp [room_1]; done) | (simp [room_1]; omega)) (by first | decide | omega | (dsimp only; omega) | (dsimp only [room_1]; omega) | (simp; done) | (simp [room_1]; done) | (simp [room_1]; omega)) ⟨rfl, rfl⟩
    | succ k ih =>
      intro i T  hik P 
      refine OwG.go (T' := T) (g' := (mkF m 6 #[.val (.ref t), .val (.int ch), .val (.int (0 : Int32)), .val (.int (Int32.ofNat n)), .val (.int (Int32.ofNat i))] [(.int (Int32.ofNat n)), (.int (Int32.ofNat i))])) (fun tQ kQ => ?_) ?_
      · refine XS.iload P.here hx rfl (Jvm.hb hby d32_3) rfl ?_
        refine XS.iloadN P.here hx rfl (Jvm.hb hby d32_5) rfl ?_
        exact kQ
      refine OwG.go (T' := T) (g' := (mkF m 9 #[.val (.ref t), .val (.int ch), .val (.int (0 : Int32)), .val (.int (Int32.ofNat n)), .val (.int (Int32.ofNat i))] [])) (fun tQ kQ => ?_) ?_
      · refine XS.icmpNo P.here hx rfl (Jvm.hb hby d32_6) rfl (tlt (own_lt (by omega) (by omega))).2.1 ?_
        exact kQ
      refine OwG.go (T' := T) (g' := (mkF m 12 #[.val (.ref t), .val (.int ch), .val (.int (0 : Int32)), .val (.int (Int32.ofNat n)), .val (.int (Int32.ofNat i))] [(.int (Int32.ofNat i)), (.ref t)])) (fun tQ kQ => ?_) ?_
      · refine XS.aloadN P.here hx rfl (Jvm.hb hby d32_9) rfl rfl ?_
        refine XS.iload P.here hx rfl (Jvm.hb hby d32_10) rfl ?_
        exact kQ
      refine P.stat hx hZ (y := (⟨"java/lang/StringUTF16", "getChar", "([BI)C"⟩ : MethodName)) hown (hw _ (List.mem_of_getElem? (i := 112) rfl)) (hw _ (List.mem_of_getElem? (i := 113) rfl)) (hw _ (List.mem_of_getElem? (i := 23) rfl)) (hw _ (List.mem_of_getElem? (i := 114) rfl)) (by decide) (OwM.back (W := 0) (rmGet l Z a0 hw t kt n i cs h0 n0 Z0 SA SH SL OL A_t hn hb (by omega) hp) hZ (hw _ (List.mem_of_getElem? (i := 114) rfl)) (hw _ (List.mem_of_getElem? (i := 23) rfl)) (own_le rfl) (own_le rfl)) (fun _ _ _ q => q.2) (g := (mkF m 12 #[.val (.ref t), .val (.int ch), .val (.int (0 : Int32)), .val (.int (Int32.ofNat n)), .val (.int (Int32.ofNat i))] [(.int (Int32.ofNat i)), (.ref t)])) rfl (by rw [hml]; rfl) (argsL := [(.ref t), (.int (Int32.ofNat i))]) (rest := []) (lenOf pd___BI_C rfl) rfl (by show 2 * 0 + _ ≤ _; exact Nat.le_of_eq rfl) (Jvm.hb hby d32_12) rfl (by first | decide | omega | (dsimp only; omega) | (dsimp only [room_1]; omega) | (simp; done) | (simp [room_1]; done) | (simp [room_1]; omega)) (by first | decide | omega | (dsimp only; omega) | (dsimp only [room_1]; omega) | (simp; done) | (simp [room_1]; done) | (simp [room_1]; omega)) fun T own_v own_L h1 own_e P own_q => ?_
      obtain ⟨⟨rfl, own_hh⟩, -⟩ := own_q
      rw [own_hh] at P
      clear own_e own_hh
      show OwG p e below s _ _ _ _ T (mkF m 15 #[.val (.ref t), .val (.int ch), .val (.int (0 : Int32)), .val (.int (Int32.ofNat n)), .val (.int (Int32.ofNat i))] [(.int (cs.getD i 0))])
      refine OwG.go (T' := T) (g' := (mkF m 16 #[.val (.ref t), .val (.int ch), .val (.int (0 : Int32)), .val (.int (Int32.ofNat n)), .val (.int (Int32.ofNat i))] [(.int ch), (.int (cs.getD i 0))])) (fun tQ kQ => ?_) ?_
      · refine XS.iloadN P.here hx rfl (Jvm.hb hby d32_15) rfl ?_
        exact kQ
      refine OwG.go (T' := T) (g' := (mkF m 22 #[.val (.ref t), .val (.int ch), .val (.int (0 : Int32)), .val (.int (Int32.ofNat n)), .val (.int (Int32.ofNat i))] [])) (fun tQ kQ => ?_) ?_
      · refine XS.icmpYes P.here hx rfl (pc0 := 16) (pc' := 22) rfl (Jvm.hb hby d32_16) rfl (feq (own_notin (by omega) hm)).2 (by decide) (by decide) ?_
        exact kQ
      refine OwG.go (T' := T) (g' := (mkF m 3 #[.val (.ref t), .val (.int ch), .val (.int (0 : Int32)), .val (.int (Int32.ofNat n)), .val (.int ((Int32.ofNat i) + (1 : Int32)))] [])) (fun tQ kQ => ?_) ?_
      · refine XS.iinc P.here hx rfl (Jvm.hb hby d32_22) rfl (l' := #[.val (.ref t), .val (.int ch), .val (.int (0 : Int32)), .val (.int (Int32.ofNat n)), .val (.int ((Int32.ofNat i) + (1 : Int32)))]) rfl ?_
        refine XS.goto P.here hx rfl (pc0 := 25) (pc' := 3) rfl (Jvm.hb hby d32_25) (by decide) (by decide) ?_
        exact kQ
      rw [show ((Int32.ofNat i) + (1 : Int32)) = (Int32.ofNat (i + 1)) from own_succ _]
      show OwG p e below s _ _ _ _ T (mkF m 3 #[.val (.ref t), .val (.int ch), .val (.int (0 : Int32)), .val (.int (Int32.ofNat n)), .val (.int (Int32.ofNat (i + 1)))] [])
      exact ih (i + 1) T (by omega) P
  exact lp n 0 T (by omega) P
theorem d27_0 : decode jdk_52_method_47_code 0 = .ok (.iload_n 2, 1) := by decide +kernel
theorem d27_1 : decode jdk_52_method_47_code 1 = .ok (.iload_n 3, 1) := by decide +kernel
theorem d27_2 : decode jdk_52_method_47_code 2 = .ok (.aload_n 0, 1) := by decide +kernel
theorem d27_3 : decode jdk_52_method_47_code 3 = .ok (.invokestatic 96, 3) := by decide +kernel
theorem pd__II_B_V : parseMethodDescriptor "(II[B)V" = some ⟨[.int, .int, (.array .byte)], none⟩ := by decide +kernel
theorem d27_6 : decode jdk_52_method_47_code 6 = .ok (.aload_n 0, 1) := by decide +kernel
theorem d27_7 : decode jdk_52_method_47_code 7 = .ok (.iload_n 1, 1) := by decide +kernel
theorem d27_8 : decode jdk_52_method_47_code 8 = .ok (.iload_n 2, 1) := by decide +kernel
theorem d27_9 : decode jdk_52_method_47_code 9 = .ok (.iload_n 3, 1) := by decide +kernel
theorem d27_10 : decode jdk_52_method_47_code 10 = .ok (.invokestatic 244, 3) := by decide +kernel
theorem d27_13 : decode jdk_52_method_47_code 13 = .ok (.ireturn, 1) := by decide +kernel
set_option maxRecDepth 65536 in
set_option maxHeartbeats 40000000 in
theorem rmUoc (l : Launch) (Z : State) (a0 : Array Value) (hw : ∀ d ∈ tables_1, d.before a0 Z = true) (t : Addr) (kt : ClassId) (cs : List Int32) (n : Nat) (ch : Int32) (fm : Value) (h0 : Heap) (n0 : Nat) (Z0 : n0 ≤ h0.size) (SF : Sta Z Z.heap "jdk/internal/util/Preconditions" "SIOOBE_FORMATTER" "Ljava/util/function/BiFunction;" fm) (rf : fm.isRef = true) (SA : Sta Z Z.heap "java/lang/StringUTF16" "$assertionsDisabled" "Z" (.int (1 : Int32))) (SH : Sta Z Z.heap "java/lang/StringUTF16" "HI_BYTE_SHIFT" "I" (.int (0 : Int32))) (SL : Sta Z Z.heap "java/lang/StringUTF16" "LO_BYTE_SHIFT" "I" (.int (8 : Int32))) (OL : Old Z n0 h0) (A_t : Arv Z h0 t kt .byte (Int32.ofNat (2 * n)) (StrChars.Road.wideBytes cs) (.int (0 : Int32))) (hn : cs.length = n) (hb : n ≤ 4000) (h0n : 0 < n) (hp : ∀ c ∈ cs, ¬ c < 0 ∧ ¬ (65535 : Int32) < c) (hm : ch ∉ cs) :
    OwM l Z (⟨"java/lang/StringUTF16", "indexOfChar", "([BIII)I"⟩ : MethodName) jdk_52_method_47_code 4 (some .int) ({ frames := 3, cells := 0, slots := 0, locals := 43 } : Room) n0 #[(.ref t), (.int ch), (.int (0 : Int32)), (.int (Int32.ofNat n))] h0 (fun v h => v = some (.int (-1 : Int32)) ∧ h = h0) := by
  refine OwM.mk (plainFor_of_name pn_java_lang_StringUTF16) ?_
  intro p e s m below meth cD T hx hby hml hown hnm hret hlk hZ P
  refine OwG.cast (show entryFrame m #[(.ref t), (.int ch), (.int (0 : Int32)), (.int (Int32.ofNat n))] 4 = mkF m 0 #[.val (.ref t), .val (.int ch), .val (.int (0 : Int32)), .val (.int (Int32.ofNat n))] [] from by first | rfl | (simp [entryFrame, mkF, argsToLocals, Value.category]; done)) ?_
  refine OwG.go (T' := T) (g' := (mkF m 3 #[.val (.ref t), .val (.int ch), .val (.int (0 : Int32)), .val (.int (Int32.ofNat n))] [(.ref t), (.int (Int32.ofNat n)), (.int (0 : Int32))])) (fun tQ kQ => ?_) ?_
  · refine XS.iloadN P.here hx rfl (Jvm.hb hby d27_0) rfl ?_
    refine XS.iloadN P.here hx rfl (Jvm.hb hby d27_1) rfl ?_
    refine XS.aloadN P.here hx rfl (Jvm.hb hby d27_2) rfl rfl ?_
    exact kQ
  refine P.stat hx hZ (y := (⟨"java/lang/StringUTF16", "checkBoundsBeginEnd", "(II[B)V"⟩ : MethodName)) hown (hw _ (List.mem_of_getElem? (i := 124) rfl)) (hw _ (List.mem_of_getElem? (i := 125) rfl)) (hw _ (List.mem_of_getElem? (i := 23) rfl)) (hw _ (List.mem_of_getElem? (i := 126) rfl)) (by decide) (OwM.back (W := 0) (rmUbb l Z a0 hw t kt cs n fm h0 n0 Z0 SF rf OL A_t hb) hZ (hw _ (List.mem_of_getElem? (i := 126) rfl)) (hw _ (List.mem_of_getElem? (i := 23) rfl)) (own_le rfl) (own_le rfl)) (fun _ _ _ q => q.2) (g := (mkF m 3 #[.val (.ref t), .val (.int ch), .val (.int (0 : Int32)), .val (.int (Int32.ofNat n))] [(.ref t), (.int (Int32.ofNat n)), (.int (0 : Int32))])) rfl (by rw [hml]; rfl) (argsL := [(.int (0 : Int32)), (.int (Int32.ofNat n)), (.ref t)]) (rest := []) (lenOf pd__II_B_V rfl) rfl (by show 2 * 0 + _ ≤ _; exact Nat.le_of_eq rfl) (Jvm.hb hby d27_3) rfl (by first | decide | omega | (dsimp only; omega) | (dsimp only [room_1]; omega) | (simp; done) | (simp [room_1]; done) | (simp [room_1]; omega)) (by first | decide | omega | (dsimp only; omega) | (dsimp only [room_1]; omega) | (simp; done) | (simp [room_1]; done) | (simp [room_1]; omega)) fun T own_v own_L h1 own_e P own_q => ?_
  obtain ⟨⟨rfl, own_hh⟩, -⟩ := own_q
  rw [own_hh] at P
  clear own_e own_hh
  show OwG p e below s _ _ _ _ T (mkF m 6 #[.val (.ref t), .val (.int ch), .val (.int (0 : Int32)), .val (.int (Int32.ofNat n))] [])
  refine OwG.go (T' := T) (g' := (mkF m 10 #[.val (.ref t), .val (.int ch), .val (.int (0 : Int32)), .val (.int (Int32.ofNat n))] [(.int (Int32.ofNat n)), (.int (0 : Int32)), (.int ch), (.ref t)])) (fun tQ kQ => ?_) ?_
  · refine XS.aloadN P.here hx rfl (Jvm.hb hby d27_6) rfl rfl ?_
    refine XS.iloadN P.here hx rfl (Jvm.hb hby d27_7) rfl ?_
    refine XS.iloadN P.here hx rfl (Jvm.hb hby d27_8) rfl ?_
    refine XS.iloadN P.here hx rfl (Jvm.hb hby d27_9) rfl ?_
    exact kQ
  refine P.stat hx hZ (y := (⟨"java/lang/StringUTF16", "indexOfCharUnsafe", "([BIII)I"⟩ : MethodName)) hown (hw _ (List.mem_of_getElem? (i := 138) rfl)) (hw _ (List.mem_of_getElem? (i := 139) rfl)) (hw _ (List.mem_of_getElem? (i := 23) rfl)) (hw _ (List.mem_of_getElem? (i := 140) rfl)) (by decide) (OwM.back (W := 0) (rmUun l Z a0 hw t kt cs n ch h0 n0 Z0 SA SH SL OL A_t hn hb h0n hp hm) hZ (hw _ (List.mem_of_getElem? (i := 140) rfl)) (hw _ (List.mem_of_getElem? (i := 23) rfl)) (own_le rfl) (own_le rfl)) (fun _ _ _ q => q.2) (g := (mkF m 10 #[.val (.ref t), .val (.int ch), .val (.int (0 : Int32)), .val (.int (Int32.ofNat n))] [(.int (Int32.ofNat n)), (.int (0 : Int32)), (.int ch), (.ref t)])) rfl (by rw [hml]; rfl) (argsL := [(.ref t), (.int ch), (.int (0 : Int32)), (.int (Int32.ofNat n))]) (rest := []) (lenOf pd___BIII_I rfl) rfl (by show 2 * 0 + _ ≤ _; exact Nat.le_of_eq rfl) (Jvm.hb hby d27_10) rfl (by first | decide | omega | (dsimp only; omega) | (dsimp only [room_1]; omega) | (simp; done) | (simp [room_1]; done) | (simp [room_1]; omega)) (by first | decide | omega | (dsimp only; omega) | (dsimp only [room_1]; omega) | (simp; done) | (simp [room_1]; done) | (simp [room_1]; omega)) fun T own_v own_L h2 own_e P own_q => ?_
  obtain ⟨⟨rfl, own_hh⟩, -⟩ := own_q
  rw [own_hh] at P
  clear own_e own_hh
  show OwG p e below s _ _ _ _ T (mkF m 13 #[.val (.ref t), .val (.int ch), .val (.int (0 : Int32)), .val (.int (Int32.ofNat n))] [(.int (-1 : Int32))])
  exact P.retI hx hlk hret (Jvm.hb hby d27_13) (by first | decide | omega | (dsimp only; omega) | (dsimp only [room_1]; omega) | (simp; done) | (simp [room_1]; done) | (simp [room_1]; omega)) (by first | decide | omega | (dsimp only; omega) | (dsimp only [room_1]; omega) | (simp; done) | (simp [room_1]; done) | (simp [room_1]; omega)) ⟨rfl, rfl⟩
theorem d26_0 : decode jdk_52_method_40_code 0 = .ok (.iload_n 2, 1) := by decide +kernel
theorem d26_1 : decode jdk_52_method_40_code 1 = .ok (.iconst 0, 1) := by decide +kernel
theorem d26_2 : decode jdk_52_method_40_code 2 = .ok (.invokestatic 224, 3) := by decide +kernel
theorem d26_5 : decode jdk_52_method_40_code 5 = .ok (.istore_n 2, 1) := by decide +kernel
theorem d26_6 : decode jdk_52_method_40_code 6 = .ok (.iload_n 3, 1) := by decide +kernel
theorem d26_7 : decode jdk_52_method_40_code 7 = .ok (.aload_n 0, 1) := by decide +kernel
theorem d26_8 : decode jdk_52_method_40_code 8 = .ok (.arraylength, 1) := by decide +kernel
theorem d26_9 : decode jdk_52_method_40_code 9 = .ok (.iconst 1, 1) := by decide +kernel
theorem d26_10 : decode jdk_52_method_40_code 10 = .ok (.ishr, 1) := by decide +kernel
theorem d26_11 : decode jdk_52_method_40_code 11 = .ok (.invokestatic 183, 3) := by decide +kernel
theorem d26_14 : decode jdk_52_method_40_code 14 = .ok (.istore_n 3, 1) := by decide +kernel
theorem d26_15 : decode jdk_52_method_40_code 15 = .ok (.iload_n 2, 1) := by decide +kernel
theorem d26_16 : decode jdk_52_method_40_code 16 = .ok (.iload_n 3, 1) := by decide +kernel
theorem d26_17 : decode jdk_52_method_40_code 17 = .ok (.if_icmp .lt 5, 3) := by decide +kernel
theorem d26_22 : decode jdk_52_method_40_code 22 = .ok (.iload_n 1, 1) := by decide +kernel
theorem d26_23 : decode jdk_52_method_40_code 23 = .ok (.ldc 227, 2) := by decide +kernel
theorem d26_25 : decode jdk_52_method_40_code 25 = .ok (.if_icmp .ge 11, 3) := by decide +kernel
theorem d26_28 : decode jdk_52_method_40_code 28 = .ok (.aload_n 0, 1) := by decide +kernel
theorem d26_29 : decode jdk_52_method_40_code 29 = .ok (.iload_n 1, 1) := by decide +kernel
theorem d26_30 : decode jdk_52_method_40_code 30 = .ok (.iload_n 2, 1) := by decide +kernel
theorem d26_31 : decode jdk_52_method_40_code 31 = .ok (.iload_n 3, 1) := by decide +kernel
theorem own_lt16 {c : Int32} (h : ¬ (255 : Int32) < c) : c < (65536 : Int32) := by
  rw [Int32.lt_iff_toInt_lt] at *
  have e1 : (255 : Int32).toInt = 255 := rfl
  have e2 : (65536 : Int32).toInt = 65536 := rfl
  omega
theorem d26_32 : decode jdk_52_method_40_code 32 = .ok (.invokestatic 228, 3) := by decide +kernel
theorem d26_35 : decode jdk_52_method_40_code 35 = .ok (.ireturn, 1) := by decide +kernel
set_option maxRecDepth 65536 in
set_option maxHeartbeats 40000000 in
theorem rmUio (l : Launch) (Z : State) (a0 : Array Value) (hw : ∀ d ∈ tables_1, d.before a0 Z = true) (t : Addr) (kt : ClassId) (cs : List Int32) (n : Nat) (ch : Int32) (fm : Value) (h0 : Heap) (n0 : Nat) (Z0 : n0 ≤ h0.size) (SF : Sta Z Z.heap "jdk/internal/util/Preconditions" "SIOOBE_FORMATTER" "Ljava/util/function/BiFunction;" fm) (rf : fm.isRef = true) (SA : Sta Z Z.heap "java/lang/StringUTF16" "$assertionsDisabled" "Z" (.int (1 : Int32))) (SH : Sta Z Z.heap "java/lang/StringUTF16" "HI_BYTE_SHIFT" "I" (.int (0 : Int32))) (SL : Sta Z Z.heap "java/lang/StringUTF16" "LO_BYTE_SHIFT" "I" (.int (8 : Int32))) (OL : Old Z n0 h0) (A_t : Arv Z h0 t kt .byte (Int32.ofNat (2 * n)) (StrChars.Road.wideBytes cs) (.int (0 : Int32))) (hn : cs.length = n) (hb : n ≤ 4000) (h0n : 0 < n) (hp : ∀ c ∈ cs, ¬ c < 0 ∧ ¬ (65535 : Int32) < c) (hch : ¬ ch < 0 ∧ ¬ (255 : Int32) < ch) (hm : ch ∉ cs) :
    OwM l Z (⟨"java/lang/StringUTF16", "indexOf", "([BIII)I"⟩ : MethodName) jdk_52_method_40_code 4 (some .int) ({ frames := 4, cells := 0, slots := 0, locals := 58 } : Room) n0 #[(.ref t), (.int ch), (.int (0 : Int32)), (.int (Int32.ofNat n))] h0 (fun v h => v = some (.int (-1 : Int32)) ∧ h = h0) := by
  refine OwM.mk (plainFor_of_name pn_java_lang_StringUTF16) ?_
  intro p e s m below meth cD T hx hby hml hown hnm hret hlk hZ P
  refine OwG.cast (show entryFrame m #[(.ref t), (.int ch), (.int (0 : Int32)), (.int (Int32.ofNat n))] 4 = mkF m 0 #[.val (.ref t), .val (.int ch), .val (.int (0 : Int32)), .val (.int (Int32.ofNat n))] [] from by first | rfl | (simp [entryFrame, mkF, argsToLocals, Value.category]; done)) ?_
  refine OwG.go (T' := T) (g' := (mkF m 2 #[.val (.ref t), .val (.int ch), .val (.int (0 : Int32)), .val (.int (Int32.ofNat n))] [(.int (0 : Int32)), (.int (0 : Int32))])) (fun tQ kQ => ?_) ?_
  · refine XS.iloadN P.here hx rfl (Jvm.hb hby d26_0) rfl ?_
    refine XS.iconst P.here hx rfl (Jvm.hb hby d26_1) ?_
    exact kQ
  refine P.stat hx hZ (y := (⟨"java/lang/Math", "max", "(II)I"⟩ : MethodName)) hown (hw _ (List.mem_of_getElem? (i := 118) rfl)) (hw _ (List.mem_of_getElem? (i := 86) rfl)) (hw _ (List.mem_of_getElem? (i := 87) rfl)) (hw _ (List.mem_of_getElem? (i := 88) rfl)) (by decide) (OwM.back (W := 0) (rmMax l Z a0 hw 0 h0 n0 Z0) hZ (hw _ (List.mem_of_getElem? (i := 88) rfl)) (hw _ (List.mem_of_getElem? (i := 87) rfl)) (own_le rfl) (own_le rfl)) (fun _ _ _ q => q.2) (g := (mkF m 2 #[.val (.ref t), .val (.int ch), .val (.int (0 : Int32)), .val (.int (Int32.ofNat n))] [(.int (0 : Int32)), (.int (0 : Int32))])) rfl (by rw [hml]; rfl) (argsL := [(.int (0 : Int32)), (.int (0 : Int32))]) (rest := []) (lenOf pd__II_I rfl) rfl (by show 2 * 0 + _ ≤ _; exact Nat.le_of_eq rfl) (Jvm.hb hby d26_2) rfl (by first | decide | omega | (dsimp only; omega) | (dsimp only [room_1]; omega) | (simp; done) | (simp [room_1]; done) | (simp [room_1]; omega)) (by first | decide | omega | (dsimp only; omega) | (dsimp only [room_1]; omega) | (simp; done) | (simp [room_1]; done) | (simp [room_1]; omega)) fun T own_v own_L h1 own_e P own_q => ?_
  obtain ⟨⟨rfl, own_hh⟩, -⟩ := own_q
  rw [own_hh] at P
  clear own_e own_hh
  show OwG p e below s _ _ _ _ T (mkF m 5 #[.val (.ref t), .val (.int ch), .val (.int (0 : Int32)), .val (.int (Int32.ofNat n))] [(.int (0 : Int32))])
  refine OwG.go (T' := T) (g' := (mkF m 8 #[.val (.ref t), .val (.int ch), .val (.int (0 : Int32)), .val (.int (Int32.ofNat n))] [(.ref t), (.int (Int32.ofNat n))])) (fun tQ kQ => ?_) ?_
  · refine XS.istoreN P.here hx rfl (Jvm.hb hby d26_5) rfl (l' := #[.val (.ref t), .val (.int ch), .val (.int (0 : Int32)), .val (.int (Int32.ofNat n))]) rfl ?_
    refine XS.iloadN P.here hx rfl (Jvm.hb hby d26_6) rfl ?_
    refine XS.aloadN P.here hx rfl (Jvm.hb hby d26_7) rfl rfl ?_
    exact kQ
  obtain ⟨own_cl, own_A, own_q1, own_S, own_M, own_H, own_U⟩ := id A_t
  obtain ⟨own_L, own_X, own_e, own_N⟩ := id P
  have own_Z := hZ
  refine OwG.go (T' := T) (g' := (mkF m 9 #[.val (.ref t), .val (.int ch), .val (.int (0 : Int32)), .val (.int (Int32.ofNat n))] [(.int (Int32.ofNat (2 * n))), (.int (Int32.ofNat n))])) (fun tQ kQ => ?_) ?_
  · refine own_X.arraylength hx (by rw [own_e]; exact own_A.1) (State.isArrayOf_alike own_Z.alike own_A.2.1) (g := (mkF m 8 #[.val (.ref t), .val (.int ch), .val (.int (0 : Int32)), .val (.int (Int32.ofNat n))] [(.ref t), (.int (Int32.ofNat n))])) rfl rfl (Jvm.hb hby d26_8) _ ?_
    rw [len_of own_S own_M]
    exact kQ
  refine OwG.go (T' := T) (g' := (mkF m 11 #[.val (.ref t), .val (.int ch), .val (.int (0 : Int32)), .val (.int (Int32.ofNat n))] [(.int ((Int32.ofNat (2 * n)) >>> ((1 : Int32) &&& 31))), (.int (Int32.ofNat n))])) (fun tQ kQ => ?_) ?_
  · refine XS.iconst P.here hx rfl (Jvm.hb hby d26_9) ?_
    refine XS.ishr P.here hx rfl (Jvm.hb hby d26_10) rfl ?_
    exact kQ
  rw [show ((Int32.ofNat (2 * n)) >>> ((1 : Int32) &&& 31)) = (Int32.ofNat n) from StrChars.shr1 (by omega)]
  show OwG p e below s _ _ _ _ T (mkF m 11 #[.val (.ref t), .val (.int ch), .val (.int (0 : Int32)), .val (.int (Int32.ofNat n))] [(.int (Int32.ofNat n)), (.int (Int32.ofNat n))])
  refine P.stat hx hZ (y := (⟨"java/lang/Math", "min", "(II)I"⟩ : MethodName)) hown (hw _ (List.mem_of_getElem? (i := 119) rfl)) (hw _ (List.mem_of_getElem? (i := 90) rfl)) (hw _ (List.mem_of_getElem? (i := 87) rfl)) (hw _ (List.mem_of_getElem? (i := 91) rfl)) (by decide) (OwM.back (W := 0) (rmMin l Z a0 hw (Int32.ofNat n) h0 n0 Z0) hZ (hw _ (List.mem_of_getElem? (i := 91) rfl)) (hw _ (List.mem_of_getElem? (i := 87) rfl)) (own_le rfl) (own_le rfl)) (fun _ _ _ q => q.2) (g := (mkF m 11 #[.val (.ref t), .val (.int ch), .val (.int (0 : Int32)), .val (.int (Int32.ofNat n))] [(.int (Int32.ofNat n)), (.int (Int32.ofNat n))])) rfl (by rw [hml]; rfl) (argsL := [(.int (Int32.ofNat n)), (.int (Int32.ofNat n))]) (rest := []) (lenOf pd__II_I rfl) rfl (by show 2 * 0 + _ ≤ _; exact Nat.le_of_eq rfl) (Jvm.hb hby d26_11) rfl (by first | decide | omega | (dsimp only; omega) | (dsimp only [room_1]; omega) | (simp; done) | (simp [room_1]; done) | (simp [room_1]; omega)) (by first | decide | omega | (dsimp only; omega) | (dsimp only [room_1]; omega) | (simp; done) | (simp [room_1]; done) | (simp [room_1]; omega)) fun T own_v own_L h2 own_e P own_q => ?_
  obtain ⟨⟨rfl, own_hh⟩, -⟩ := own_q
  rw [own_hh] at P
  clear own_e own_hh
  show OwG p e below s _ _ _ _ T (mkF m 14 #[.val (.ref t), .val (.int ch), .val (.int (0 : Int32)), .val (.int (Int32.ofNat n))] [(.int (Int32.ofNat n))])
  refine OwG.go (T' := T) (g' := (mkF m 17 #[.val (.ref t), .val (.int ch), .val (.int (0 : Int32)), .val (.int (Int32.ofNat n))] [(.int (Int32.ofNat n)), (.int (0 : Int32))])) (fun tQ kQ => ?_) ?_
  · refine XS.istoreN P.here hx rfl (Jvm.hb hby d26_14) rfl (l' := #[.val (.ref t), .val (.int ch), .val (.int (0 : Int32)), .val (.int (Int32.ofNat n))]) rfl ?_
    refine XS.iloadN P.here hx rfl (Jvm.hb hby d26_15) rfl ?_
    refine XS.iloadN P.here hx rfl (Jvm.hb hby d26_16) rfl ?_
    exact kQ
  refine OwG.go (T' := T) (g' := (mkF m 22 #[.val (.ref t), .val (.int ch), .val (.int (0 : Int32)), .val (.int (Int32.ofNat n))] [])) (fun tQ kQ => ?_) ?_
  · refine XS.icmpYes P.here hx rfl (pc0 := 17) (pc' := 22) rfl (Jvm.hb hby d26_17) rfl (tlt (own_lt (i := 0) h0n (by omega))).1 (by decide) (by decide) ?_
    exact kQ
  refine OwG.go (T' := T) (g' := (mkF m 23 #[.val (.ref t), .val (.int ch), .val (.int (0 : Int32)), .val (.int (Int32.ofNat n))] [(.int ch)])) (fun tQ kQ => ?_) ?_
  · refine XS.iloadN P.here hx rfl (Jvm.hb hby d26_22) rfl ?_
    exact kQ
  obtain ⟨own_L, own_X, own_rest⟩ := id P
  refine OwG.go (T' := T) (g' := (mkF m 25 #[.val (.ref t), .val (.int ch), .val (.int (0 : Int32)), .val (.int (Int32.ofNat n))] [(.int (65536 : Int32)), (.int ch)])) (fun tQ kQ => ?_) ?_
  · refine own_X.ldcInt hx hown (mvT hZ (hw _ (List.mem_of_getElem? (i := 120) rfl))) (g := (mkF m 23 #[.val (.ref t), .val (.int ch), .val (.int (0 : Int32)), .val (.int (Int32.ofNat n))] [(.int ch)])) rfl (Jvm.hb hby d26_23) _ ?_
    exact kQ
  refine OwG.go (T' := T) (g' := (mkF m 28 #[.val (.ref t), .val (.int ch), .val (.int (0 : Int32)), .val (.int (Int32.ofNat n))] [])) (fun tQ kQ => ?_) ?_
  · refine XS.icmpNo P.here hx rfl (Jvm.hb hby d26_25) rfl (tlt (own_lt16 hch.2)).2.1 ?_
    exact kQ
  refine OwG.go (T' := T) (g' := (mkF m 32 #[.val (.ref t), .val (.int ch), .val (.int (0 : Int32)), .val (.int (Int32.ofNat n))] [(.int (Int32.ofNat n)), (.int (0 : Int32)), (.int ch), (.ref t)])) (fun tQ kQ => ?_) ?_
  · refine XS.aloadN P.here hx rfl (Jvm.hb hby d26_28) rfl rfl ?_
    refine XS.iloadN P.here hx rfl (Jvm.hb hby d26_29) rfl ?_
    refine XS.iloadN P.here hx rfl (Jvm.hb hby d26_30) rfl ?_
    refine XS.iloadN P.here hx rfl (Jvm.hb hby d26_31) rfl ?_
    exact kQ
  refine P.stat hx hZ (y := (⟨"java/lang/StringUTF16", "indexOfChar", "([BIII)I"⟩ : MethodName)) hown (hw _ (List.mem_of_getElem? (i := 121) rfl)) (hw _ (List.mem_of_getElem? (i := 122) rfl)) (hw _ (List.mem_of_getElem? (i := 23) rfl)) (hw _ (List.mem_of_getElem? (i := 123) rfl)) (by decide) (OwM.back (W := 0) (rmUoc l Z a0 hw t kt cs n ch fm h0 n0 Z0 SF rf SA SH SL OL A_t hn hb h0n hp hm) hZ (hw _ (List.mem_of_getElem? (i := 123) rfl)) (hw _ (List.mem_of_getElem? (i := 23) rfl)) (own_le rfl) (own_le rfl)) (fun _ _ _ q => q.2) (g := (mkF m 32 #[.val (.ref t), .val (.int ch), .val (.int (0 : Int32)), .val (.int (Int32.ofNat n))] [(.int (Int32.ofNat n)), (.int (0 : Int32)), (.int ch), (.ref t)])) rfl (by rw [hml]; rfl) (argsL := [(.ref t), (.int ch), (.int (0 : Int32)), (.int (Int32.ofNat n))]) (rest := []) (lenOf pd___BIII_I rfl) rfl (by show 2 * 0 + _ ≤ _; exact Nat.le_of_eq rfl) (Jvm.hb hby d26_32) rfl (by first | decide | omega | (dsimp only; omega) | (dsimp only [room_1]; omega) | (simp; done) | (simp [room_1]; done) | (simp [room_1]; omega)) (by first | decide | omega | (dsimp only; omega) | (dsimp only [room_1]; omega) | (simp; done) | (simp [room_1]; done) | (simp [room_1]; omega)) fun T own_v own_L h3 own_e P own_q => ?_
  obtain ⟨⟨rfl, own_hh⟩, -⟩ := own_q
  rw [own_hh] at P
  clear own_e own_hh
  show OwG p e below s _ _ _ _ T (mkF m 35 #[.val (.ref t), .val (.int ch), .val (.int (0 : Int32)), .val (.int (Int32.ofNat n))] [(.int (-1 : Int32))])
  exact P.retI hx hlk hret (Jvm.hb hby d26_35) (by first | decide | omega | (dsimp only; omega) | (dsimp only [room_1]; omega) | (simp; done) | (simp [room_1]; done) | (simp [room_1]; omega)) (by first | decide | omega | (dsimp only; omega) | (dsimp only [room_1]; omega) | (simp; done) | (simp [room_1]; done) | (simp [room_1]; omega)) ⟨rfl, rfl⟩
theorem d14_0 : decode jdk_42_method_80_code 0 = .ok (.aload_n 0, 1) := by decide +kernel
theorem d14_1 : decode jdk_42_method_80_code 1 = .ok (.invokevirtual 492, 3) := by decide +kernel
theorem pd___Z : parseMethodDescriptor "()Z" = some ⟨[], some .boolean⟩ := by decide +kernel
theorem d14_4 : decode jdk_42_method_80_code 4 = .ok (.ifCond .eq 19, 3) := by decide +kernel
theorem d14_7 : decode jdk_42_method_80_code 7 = .ok (.aload_n 0, 1) := by decide +kernel
theorem d14_8 : decode jdk_42_method_80_code 8 = .ok (.getfield 9, 3) := by decide +kernel
theorem d14_11 : decode jdk_42_method_80_code 11 = .ok (.iload_n 1, 1) := by decide +kernel
theorem d14_12 : decode jdk_42_method_80_code 12 = .ok (.iload_n 2, 1) := by decide +kernel
theorem d14_13 : decode jdk_42_method_80_code 13 = .ok (.aload_n 0, 1) := by decide +kernel
theorem d14_14 : decode jdk_42_method_80_code 14 = .ok (.invokevirtual 505, 3) := by decide +kernel
theorem pd___I : parseMethodDescriptor "()I" = some ⟨[], some .int⟩ := by decide +kernel
theorem d14_17 : decode jdk_42_method_80_code 17 = .ok (.invokestatic 637, 3) := by decide +kernel
theorem d14_20 : decode jdk_42_method_80_code 20 = .ok (.goto 16, 3) := by decide +kernel
theorem d14_36 : decode jdk_42_method_80_code 36 = .ok (.ireturn, 1) := by decide +kernel
theorem d14_23 : decode jdk_42_method_80_code 23 = .ok (.aload_n 0, 1) := by decide +kernel
theorem d14_24 : decode jdk_42_method_80_code 24 = .ok (.getfield 9, 3) := by decide +kernel
theorem d14_27 : decode jdk_42_method_80_code 27 = .ok (.iload_n 1, 1) := by decide +kernel
theorem d14_28 : decode jdk_42_method_80_code 28 = .ok (.iload_n 2, 1) := by decide +kernel
theorem d14_29 : decode jdk_42_method_80_code 29 = .ok (.aload_n 0, 1) := by decide +kernel
theorem d14_30 : decode jdk_42_method_80_code 30 = .ok (.invokevirtual 505, 3) := by decide +kernel
theorem d14_33 : decode jdk_42_method_80_code 33 = .ok (.invokestatic 640, 3) := by decide +kernel
set_option maxRecDepth 65536 in
set_option maxHeartbeats 40000000 in
theorem rmIo2 (l : Launch) (Z : State) (a0 : Array Value) (hw : ∀ d ∈ tables_1, d.before a0 Z = true) (x t : Addr) (kt : ClassId) (cd N2 : Int32) (vs : List Value) (cs : List Int32) (n : Nat) (ch zC : Int32) (fm : Value) (h0 : Heap) (n0 : Nat) (Z0 : n0 ≤ h0.size) (SA : Sta Z Z.heap "java/lang/StringUTF16" "$assertionsDisabled" "Z" (.int (1 : Int32))) (SH : Sta Z Z.heap "java/lang/StringUTF16" "HI_BYTE_SHIFT" "I" (.int (0 : Int32))) (SL : Sta Z Z.heap "java/lang/StringUTF16" "LO_BYTE_SHIFT" "I" (.int (8 : Int32))) (SF : Sta Z Z.heap "jdk/internal/util/Preconditions" "SIOOBE_FORMATTER" "Ljava/util/function/BiFunction;" fm) (rf : fm.isRef = true) (S2 : Sta Z Z.heap "java/lang/String" "COMPACT_STRINGS" "Z" (.int zC)) (hzC : ¬ zC = 0) (OL : Old Z n0 h0) (E_x : Exa Z h0 x "java/lang/String") (V_x : Fld Z h0 x "java/lang/String" "value" "[B" (.ref t)) (C_x : Fld Z h0 x "java/lang/String" "coder" "B" (.int cd)) (A_t : Arv Z h0 t kt .byte N2 vs (.int (0 : Int32))) (hc : StrChars.Road.CodA cs cd N2 vs) (hn : cs.length = n) (hb : n ≤ 4000) (h0n : 0 < n) (hp : ∀ c ∈ cs, ¬ c < 0 ∧ ¬ (65535 : Int32) < c) (hch : ¬ ch < 0 ∧ ¬ (255 : Int32) < ch) (hm : ch ∉ cs) :
    OwM l Z (⟨"java/lang/String", "indexOf", "(II)I"⟩ : MethodName) jdk_42_method_80_code 3 (some .int) ({ frames := 5, cells := 0, slots := 0, locals := 73 } : Room) n0 #[(.ref x), (.int ch), (.int (0 : Int32))] h0 (fun v h => v = some (.int (-1 : Int32)) ∧ h = h0) := by
  refine OwM.mk (plainFor_of_name pn_java_lang_String) ?_
  intro p e s m below meth cD T hx hby hml hown hnm hret hlk hZ P
  refine OwG.cast (show entryFrame m #[(.ref x), (.int ch), (.int (0 : Int32))] 3 = mkF m 0 #[.val (.ref x), .val (.int ch), .val (.int (0 : Int32))] [] from by first | rfl | (simp [entryFrame, mkF, argsToLocals, Value.category]; done)) ?_
  refine OwG.go (T' := T) (g' := (mkF m 1 #[.val (.ref x), .val (.int ch), .val (.int (0 : Int32))] [(.ref x)])) (fun tQ kQ => ?_) ?_
  · refine XS.aloadN P.here hx rfl (Jvm.hb hby d14_0) rfl rfl ?_
    exact kQ
  refine P.virtual hx hZ (y := (⟨"java/lang/String", "isLatin1", "()Z"⟩ : MethodName)) hown (hw _ (List.mem_of_getElem? (i := 72) rfl)) (hw _ (List.mem_of_getElem? (i := 73) rfl)) (hw _ (List.mem_of_getElem? (i := 75) rfl)) (hw _ (List.mem_of_getElem? (i := 74) rfl)) (by decide) (OwM.back (W := 0) (rmIsL l Z a0 hw x cd zC h0 n0 Z0 S2 hzC OL C_x) hZ (hw _ (List.mem_of_getElem? (i := 76) rfl)) (hw _ (List.mem_of_getElem? (i := 9) rfl)) (own_le rfl) (own_le rfl)) (fun _ _ _ q => q.2) E_x (g := (mkF m 1 #[.val (.ref x), .val (.int ch), .val (.int (0 : Int32))] [(.ref x)])) rfl (by rw [hml]; rfl) (argsL := []) (rest := []) (lenOf pd___Z rfl) rfl (by show 2 * 0 + _ ≤ _; exact Nat.le_of_eq rfl) (Jvm.hb hby d14_1) rfl (by first | decide | omega | (dsimp only; omega) | (dsimp only [room_1]; omega) | (simp; done) | (simp [room_1]; done) | (simp [room_1]; omega)) (by first | decide | omega | (dsimp only; omega) | (dsimp only [room_1]; omega) | (simp; done) | (simp [room_1]; done) | (simp [room_1]; omega)) fun T own_v own_L h1 own_e P own_q => ?_
  obtain ⟨⟨rfl, own_hh⟩, -⟩ := own_q
  rw [own_hh] at P
  clear own_e own_hh
  show OwG p e below s _ _ _ _ T (mkF m 4 #[.val (.ref x), .val (.int ch), .val (.int (0 : Int32))] [(.int (if cd = 0 then 1 else 0))])
  have hc' := hc
  rcases hc with ⟨rfl, rfl, rfl, ha⟩ | ⟨rfl, rfl, rfl, hw1⟩
  · skip
    refine OwG.go (T' := T) (g' := (mkF m 7 #[.val (.ref x), .val (.int ch), .val (.int (0 : Int32))] [])) (fun tQ kQ => ?_) ?_
    · refine XS.ifNo P.here hx rfl (Jvm.hb hby d14_4) rfl ((if0 _ _).trans (feq (by decide)).1) ?_
      exact kQ
    refine OwG.go (T' := T) (g' := (mkF m 8 #[.val (.ref x), .val (.int ch), .val (.int (0 : Int32))] [(.ref x)])) (fun tQ kQ => ?_) ?_
    · refine XS.aloadN P.here hx rfl (Jvm.hb hby d14_7) rfl rfl ?_
      exact kQ
    refine P.getF hx hZ hown (host := "") (Or.inl (hw _ (List.mem_of_getElem? (i := 34) rfl))) Via.refl V_x (g := (mkF m 8 #[.val (.ref x), .val (.int ch), .val (.int (0 : Int32))] [(.ref x)])) rfl rfl (Jvm.hb hby d14_8) fun T P => ?_
    show OwG p e below s _ _ _ _ T (mkF m 11 #[.val (.ref x), .val (.int ch), .val (.int (0 : Int32))] [(.ref t)])
    refine OwG.go (T' := T) (g' := (mkF m 14 #[.val (.ref x), .val (.int ch), .val (.int (0 : Int32))] [(.ref x), (.int (0 : Int32)), (.int ch), (.ref t)])) (fun tQ kQ => ?_) ?_
    · refine XS.iloadN P.here hx rfl (Jvm.hb hby d14_11) rfl ?_
      refine XS.iloadN P.here hx rfl (Jvm.hb hby d14_12) rfl ?_
      refine XS.aloadN P.here hx rfl (Jvm.hb hby d14_13) rfl rfl ?_
      exact kQ
    refine P.virtual hx hZ (y := (⟨"java/lang/String", "length", "()I"⟩ : MethodName)) hown (hw _ (List.mem_of_getElem? (i := 77) rfl)) (hw _ (List.mem_of_getElem? (i := 53) rfl)) (hw _ (List.mem_of_getElem? (i := 55) rfl)) (hw _ (List.mem_of_getElem? (i := 54) rfl)) (by decide) (own_lenB (W := 3) hZ hw E_x V_x C_x A_t hc' hp (S2.ext OL.2) hzC hn hb (own_le rfl) (own_le rfl)) (fun _ _ _ q => q.2.2) E_x (g := (mkF m 14 #[.val (.ref x), .val (.int ch), .val (.int (0 : Int32))] [(.ref x), (.int (0 : Int32)), (.int ch), (.ref t)])) rfl (by rw [hml]; rfl) (argsL := []) (rest := [(.int (0 : Int32)), (.int ch), (.ref t)]) (lenOf pd___I rfl) rfl (by show 2 * 0 + _ ≤ _; exact Nat.le_of_eq rfl) (Jvm.hb hby d14_14) rfl (by first | decide | omega | (dsimp only; omega) | (dsimp only [room_1]; omega) | (simp; done) | (simp [room_1]; done) | (simp [room_1]; omega)) (by first | decide | omega | (dsimp only; omega) | (dsimp only [room_1]; omega) | (simp; done) | (simp [room_1]; done) | (simp [room_1]; omega)) fun T own_v own_L h2 own_e P own_q => ?_
    obtain ⟨rfl, own_hh, -⟩ := own_q
    rw [own_hh] at P
    clear own_e own_hh
    show OwG p e below s _ _ _ _ T (mkF m 17 #[.val (.ref x), .val (.int ch), .val (.int (0 : Int32))] [(.int (Int32.ofNat n)), (.int (0 : Int32)), (.int ch), (.ref t)])
    rw [hn] at A_t
    refine P.stat hx hZ (y := (⟨"java/lang/StringLatin1", "indexOf", "([BIII)I"⟩ : MethodName)) hown (hw _ (List.mem_of_getElem? (i := 78) rfl)) (hw _ (List.mem_of_getElem? (i := 79) rfl)) (hw _ (List.mem_of_getElem? (i := 80) rfl)) (hw _ (List.mem_of_getElem? (i := 81) rfl)) (by decide) (OwM.back (W := 0) (rmLio l Z a0 hw t kt cs n ch h0 n0 Z0 A_t hn hb h0n hp ha hch hm) hZ (hw _ (List.mem_of_getElem? (i := 81) rfl)) (hw _ (List.mem_of_getElem? (i := 80) rfl)) (own_le rfl) (own_le rfl)) (fun _ _ _ q => q.2) (g := (mkF m 17 #[.val (.ref x), .val (.int ch), .val (.int (0 : Int32))] [(.int (Int32.ofNat n)), (.int (0 : Int32)), (.int ch), (.ref t)])) rfl (by rw [hml]; rfl) (argsL := [(.ref t), (.int ch), (.int (0 : Int32)), (.int (Int32.ofNat n))]) (rest := []) (lenOf pd___BIII_I rfl) rfl (by show 2 * 0 + _ ≤ _; exact Nat.le_of_eq rfl) (Jvm.hb hby d14_17) rfl (by first | decide | omega | (dsimp only; omega) | (dsimp only [room_1]; omega) | (simp; done) | (simp [room_1]; done) | (simp [room_1]; omega)) (by first | decide | omega | (dsimp only; omega) | (dsimp only [room_1]; omega) | (simp; done) | (simp [room_1]; done) | (simp [room_1]; omega)) fun T own_v own_L h3 own_e P own_q => ?_
    obtain ⟨⟨rfl, own_hh⟩, -⟩ := own_q
    rw [own_hh] at P
    clear own_e own_hh
    show OwG p e below s _ _ _ _ T (mkF m 20 #[.val (.ref x), .val (.int ch), .val (.int (0 : Int32))] [(.int (-1 : Int32))])
    refine OwG.go (T' := T) (g' := (mkF m 36 #[.val (.ref x), .val (.int ch), .val (.int (0 : Int32))] [(.int (-1 : Int32))])) (fun tQ kQ => ?_) ?_
    · refine XS.goto P.here hx rfl (pc0 := 20) (pc' := 36) rfl (Jvm.hb hby d14_20) (by decide) (by decide) ?_
      exact kQ
    exact P.retI hx hlk hret (Jvm.hb hby d14_36) (by first | decide | omega | (dsimp only; omega) | (dsimp only [room_1]; omega) | (simp; done) | (simp [room_1]; done) | (simp [room_1]; omega)) (by first | decide | omega | (dsimp only; omega) | (dsimp only [room_1]; omega) | (simp; done) | (simp [room_1]; done) | (simp [room_1]; omega)) ⟨rfl, rfl⟩
  · skip
    refine OwG.go (T' := T) (g' := (mkF m 23 #[.val (.ref x), .val (.int ch), .val (.int (0 : Int32))] [])) (fun tQ kQ => ?_) ?_
    · refine XS.ifYes P.here hx rfl (pc0 := 4) (pc' := 23) rfl (Jvm.hb hby d14_4) rfl ((if0 _ _).trans (teq (by decide)).1) (by decide) (by decide) ?_
      exact kQ
    refine OwG.go (T' := T) (g' := (mkF m 24 #[.val (.ref x), .val (.int ch), .val (.int (0 : Int32))] [(.ref x)])) (fun tQ kQ => ?_) ?_
    · refine XS.aloadN P.here hx rfl (Jvm.hb hby d14_23) rfl rfl ?_
      exact kQ
    refine P.getF hx hZ hown (host := "") (Or.inl (hw _ (List.mem_of_getElem? (i := 34) rfl))) Via.refl V_x (g := (mkF m 24 #[.val (.ref x), .val (.int ch), .val (.int (0 : Int32))] [(.ref x)])) rfl rfl (Jvm.hb hby d14_24) fun T P => ?_
    show OwG p e below s _ _ _ _ T (mkF m 27 #[.val (.ref x), .val (.int ch), .val (.int (0 : Int32))] [(.ref t)])
    refine OwG.go (T' := T) (g' := (mkF m 30 #[.val (.ref x), .val (.int ch), .val (.int (0 : Int32))] [(.ref x), (.int (0 : Int32)), (.int ch), (.ref t)])) (fun tQ kQ => ?_) ?_
    · refine XS.iloadN P.here hx rfl (Jvm.hb hby d14_27) rfl ?_
      refine XS.iloadN P.here hx rfl (Jvm.hb hby d14_28) rfl ?_
      refine XS.aloadN P.here hx rfl (Jvm.hb hby d14_29) rfl rfl ?_
      exact kQ
    refine P.virtual hx hZ (y := (⟨"java/lang/String", "length", "()I"⟩ : MethodName)) hown (hw _ (List.mem_of_getElem? (i := 77) rfl)) (hw _ (List.mem_of_getElem? (i := 53) rfl)) (hw _ (List.mem_of_getElem? (i := 55) rfl)) (hw _ (List.mem_of_getElem? (i := 54) rfl)) (by decide) (own_lenB (W := 3) hZ hw E_x V_x C_x A_t hc' hp (S2.ext OL.2) hzC hn hb (own_le rfl) (own_le rfl)) (fun _ _ _ q => q.2.2) E_x (g := (mkF m 30 #[.val (.ref x), .val (.int ch), .val (.int (0 : Int32))] [(.ref x), (.int (0 : Int32)), (.int ch), (.ref t)])) rfl (by rw [hml]; rfl) (argsL := []) (rest := [(.int (0 : Int32)), (.int ch), (.ref t)]) (lenOf pd___I rfl) rfl (by show 2 * 0 + _ ≤ _; exact Nat.le_of_eq rfl) (Jvm.hb hby d14_30) rfl (by first | decide | omega | (dsimp only; omega) | (dsimp only [room_1]; omega) | (simp; done) | (simp [room_1]; done) | (simp [room_1]; omega)) (by first | decide | omega | (dsimp only; omega) | (dsimp only [room_1]; omega) | (simp; done) | (simp [room_1]; done) | (simp [room_1]; omega)) fun T own_v own_L h2 own_e P own_q => ?_
    obtain ⟨rfl, own_hh, -⟩ := own_q
    rw [own_hh] at P
    clear own_e own_hh
    show OwG p e below s _ _ _ _ T (mkF m 33 #[.val (.ref x), .val (.int ch), .val (.int (0 : Int32))] [(.int (Int32.ofNat n)), (.int (0 : Int32)), (.int ch), (.ref t)])
    rw [hn] at A_t
    refine P.stat hx hZ (y := (⟨"java/lang/StringUTF16", "indexOf", "([BIII)I"⟩ : MethodName)) hown (hw _ (List.mem_of_getElem? (i := 115) rfl)) (hw _ (List.mem_of_getElem? (i := 116) rfl)) (hw _ (List.mem_of_getElem? (i := 23) rfl)) (hw _ (List.mem_of_getElem? (i := 117) rfl)) (by decide) (OwM.back (W := 0) (rmUio l Z a0 hw t kt cs n ch fm h0 n0 Z0 SF rf SA SH SL OL A_t hn hb h0n hp hch hm) hZ (hw _ (List.mem_of_getElem? (i := 117) rfl)) (hw _ (List.mem_of_getElem? (i := 23) rfl)) (own_le rfl) (own_le rfl)) (fun _ _ _ q => q.2) (g := (mkF m 33 #[.val (.ref x), .val (.int ch), .val (.int (0 : Int32))] [(.int (Int32.ofNat n)), (.int (0 : Int32)), (.int ch), (.ref t)])) rfl (by rw [hml]; rfl) (argsL := [(.ref t), (.int ch), (.int (0 : Int32)), (.int (Int32.ofNat n))]) (rest := []) (lenOf pd___BIII_I rfl) rfl (by show 2 * 0 + _ ≤ _; exact Nat.le_of_eq rfl) (Jvm.hb hby d14_33) rfl (by first | decide | omega | (dsimp only; omega) | (dsimp only [room_1]; omega) | (simp; done) | (simp [room_1]; done) | (simp [room_1]; omega)) (by first | decide | omega | (dsimp only; omega) | (dsimp only [room_1]; omega) | (simp; done) | (simp [room_1]; done) | (simp [room_1]; omega)) fun T own_v own_L h3 own_e P own_q => ?_
    obtain ⟨⟨rfl, own_hh⟩, -⟩ := own_q
    rw [own_hh] at P
    clear own_e own_hh
    show OwG p e below s _ _ _ _ T (mkF m 36 #[.val (.ref x), .val (.int ch), .val (.int (0 : Int32))] [(.int (-1 : Int32))])
    exact P.retI hx hlk hret (Jvm.hb hby d14_36) (by first | decide | omega | (dsimp only; omega) | (dsimp only [room_1]; omega) | (simp; done) | (simp [room_1]; done) | (simp [room_1]; omega)) (by first | decide | omega | (dsimp only; omega) | (dsimp only [room_1]; omega) | (simp; done) | (simp [room_1]; done) | (simp [room_1]; omega)) ⟨rfl, rfl⟩
theorem d13_0 : decode jdk_42_method_79_code 0 = .ok (.aload_n 0, 1) := by decide +kernel
theorem d13_1 : decode jdk_42_method_79_code 1 = .ok (.iload_n 1, 1) := by decide +kernel
theorem d13_2 : decode jdk_42_method_79_code 2 = .ok (.iconst 0, 1) := by decide +kernel
theorem d13_3 : decode jdk_42_method_79_code 3 = .ok (.invokevirtual 633, 3) := by decide +kernel
theorem d13_6 : decode jdk_42_method_79_code 6 = .ok (.ireturn, 1) := by decide +kernel
set_option maxRecDepth 65536 in
set_option maxHeartbeats 40000000 in
theorem rmIo1 (l : Launch) (Z : State) (a0 : Array Value) (hw : ∀ d ∈ tables_1, d.before a0 Z = true) (x t : Addr) (kt : ClassId) (cd N2 : Int32) (vs : List Value) (cs : List Int32) (n : Nat) (ch zC : Int32) (fm : Value) (h0 : Heap) (n0 : Nat) (Z0 : n0 ≤ h0.size) (SA : Sta Z Z.heap "java/lang/StringUTF16" "$assertionsDisabled" "Z" (.int (1 : Int32))) (SH : Sta Z Z.heap "java/lang/StringUTF16" "HI_BYTE_SHIFT" "I" (.int (0 : Int32))) (SL : Sta Z Z.heap "java/lang/StringUTF16" "LO_BYTE_SHIFT" "I" (.int (8 : Int32))) (SF : Sta Z Z.heap "jdk/internal/util/Preconditions" "SIOOBE_FORMATTER" "Ljava/util/function/BiFunction;" fm) (rf : fm.isRef = true) (S2 : Sta Z Z.heap "java/lang/String" "COMPACT_STRINGS" "Z" (.int zC)) (hzC : ¬ zC = 0) (OL : Old Z n0 h0) (E_x : Exa Z h0 x "java/lang/String") (V_x : Fld Z h0 x "java/lang/String" "value" "[B" (.ref t)) (C_x : Fld Z h0 x "java/lang/String" "coder" "B" (.int cd)) (A_t : Arv Z h0 t kt .byte N2 vs (.int (0 : Int32))) (hc : StrChars.Road.CodA cs cd N2 vs) (hn : cs.length = n) (hb : n ≤ 4000) (h0n : 0 < n) (hp : ∀ c ∈ cs, ¬ c < 0 ∧ ¬ (65535 : Int32) < c) (hch : ¬ ch < 0 ∧ ¬ (255 : Int32) < ch) (hm : ch ∉ cs) :
    OwM l Z (⟨"java/lang/String", "indexOf", "(I)I"⟩ : MethodName) jdk_42_method_79_code 2 (some .int) ({ frames := 6, cells := 0, slots := 0, locals := 87 } : Room) n0 #[(.ref x), (.int ch)] h0 (fun v h => v = some (.int (-1 : Int32)) ∧ h = h0) := by
  refine OwM.mk (plainFor_of_name pn_java_lang_String) ?_
  intro p e s m below meth cD T hx hby hml hown hnm hret hlk hZ P
  refine OwG.cast (show entryFrame m #[(.ref x), (.int ch)] 2 = mkF m 0 #[.val (.ref x), .val (.int ch)] [] from by first | rfl | (simp [entryFrame, mkF, argsToLocals, Value.category]; done)) ?_
  refine OwG.go (T' := T) (g' := (mkF m 3 #[.val (.ref x), .val (.int ch)] [(.int (0 : Int32)), (.int ch), (.ref x)])) (fun tQ kQ => ?_) ?_
  · refine XS.aloadN P.here hx rfl (Jvm.hb hby d13_0) rfl rfl ?_
    refine XS.iloadN P.here hx rfl (Jvm.hb hby d13_1) rfl ?_
    refine XS.iconst P.here hx rfl (Jvm.hb hby d13_2) ?_
    exact kQ
  refine P.virtual hx hZ (y := (⟨"java/lang/String", "indexOf", "(II)I"⟩ : MethodName)) hown (hw _ (List.mem_of_getElem? (i := 67) rfl)) (hw _ (List.mem_of_getElem? (i := 68) rfl)) (hw _ (List.mem_of_getElem? (i := 70) rfl)) (hw _ (List.mem_of_getElem? (i := 69) rfl)) (by decide) (OwM.back (W := 0) (rmIo2 l Z a0 hw x t kt cd N2 vs cs n ch zC fm h0 n0 Z0 SA SH SL SF rf S2 hzC OL E_x V_x C_x A_t hc hn hb h0n hp hch hm) hZ (hw _ (List.mem_of_getElem? (i := 71) rfl)) (hw _ (List.mem_of_getElem? (i := 9) rfl)) (own_le rfl) (own_le rfl)) (fun _ _ _ q => q.2) E_x (g := (mkF m 3 #[.val (.ref x), .val (.int ch)] [(.int (0 : Int32)), (.int ch), (.ref x)])) rfl (by rw [hml]; rfl) (argsL := [(.int ch), (.int (0 : Int32))]) (rest := []) (lenOf pd__II_I rfl) rfl (by show 2 * 0 + _ ≤ _; exact Nat.le_of_eq rfl) (Jvm.hb hby d13_3) rfl (by first | decide | omega | (dsimp only; omega) | (dsimp only [room_1]; omega) | (simp; done) | (simp [room_1]; done) | (simp [room_1]; omega)) (by first | decide | omega | (dsimp only; omega) | (dsimp only [room_1]; omega) | (simp; done) | (simp [room_1]; done) | (simp [room_1]; omega)) fun T own_v own_L h1 own_e P own_q => ?_
  obtain ⟨⟨rfl, own_hh⟩, -⟩ := own_q
  rw [own_hh] at P
  clear own_e own_hh
  show OwG p e below s _ _ _ _ T (mkF m 6 #[.val (.ref x), .val (.int ch)] [(.int (-1 : Int32))])
  exact P.retI hx hlk hret (Jvm.hb hby d13_6) (by first | decide | omega | (dsimp only; omega) | (dsimp only [room_1]; omega) | (simp; done) | (simp [room_1]; done) | (simp [room_1]; omega)) (by first | decide | omega | (dsimp only; omega) | (dsimp only [room_1]; omega) | (simp; done) | (simp [room_1]; done) | (simp [room_1]; omega)) ⟨rfl, rfl⟩
theorem d10_0 : decode jdk_42_method_55_code 0 = .ok (.aload_n 0, 1) := by decide +kernel
theorem d10_1 : decode jdk_42_method_55_code 1 = .ok (.getfield 9, 3) := by decide +kernel
theorem d10_4 : decode jdk_42_method_55_code 4 = .ok (.arraylength, 1) := by decide +kernel
theorem d10_5 : decode jdk_42_method_55_code 5 = .ok (.ifCond .ne 7, 3) := by decide +kernel
theorem d10_12 : decode jdk_42_method_55_code 12 = .ok (.iconst 0, 1) := by decide +kernel
theorem d10_13 : decode jdk_42_method_55_code 13 = .ok (.ireturn, 1) := by decide +kernel
set_option maxRecDepth 65536 in
set_option maxHeartbeats 40000000 in
theorem rmEmp (l : Launch) (Z : State) (a0 : Array Value) (hw : ∀ d ∈ tables_1, d.before a0 Z = true) (x t : Addr) (kt : ClassId) (cd N2 : Int32) (vs : List Value) (cs : List Int32) (n : Nat) (h0 : Heap) (n0 : Nat) (Z0 : n0 ≤ h0.size) (E_x : Exa Z h0 x "java/lang/String") (V_x : Fld Z h0 x "java/lang/String" "value" "[B" (.ref t)) (C_x : Fld Z h0 x "java/lang/String" "coder" "B" (.int cd)) (A_t : Arv Z h0 t kt .byte N2 vs (.int (0 : Int32))) (hc : StrChars.Road.CodA cs cd N2 vs) (hn : cs.length = n) (hb : n ≤ 4000) (h0n : 0 < n) (hp : ∀ c ∈ cs, ¬ c < 0 ∧ ¬ (65535 : Int32) < c) :
    OwM l Z (⟨"java/lang/String", "isEmpty", "()Z"⟩ : MethodName) jdk_42_method_55_code 1 (some .boolean) ({ frames := 0, cells := 0, slots := 0, locals := 0 } : Room) n0 #[(.ref x)] h0 (fun v h => v = some (.int (0 : Int32)) ∧ h = h0) := by
  refine OwM.mk (plainFor_of_name pn_java_lang_String) ?_
  intro p e s m below meth cD T hx hby hml hown hnm hret hlk hZ P
  refine OwG.cast (show entryFrame m #[(.ref x)] 1 = mkF m 0 #[.val (.ref x)] [] from by first | rfl | (simp [entryFrame, mkF, argsToLocals, Value.category]; done)) ?_
  refine OwG.go (T' := T) (g' := (mkF m 1 #[.val (.ref x)] [(.ref x)])) (fun tQ kQ => ?_) ?_
  · refine XS.aloadN P.here hx rfl (Jvm.hb hby d10_0) rfl rfl ?_
    exact kQ
  refine P.getF hx hZ hown (host := "") (Or.inl (hw _ (List.mem_of_getElem? (i := 34) rfl))) Via.refl V_x (g := (mkF m 1 #[.val (.ref x)] [(.ref x)])) rfl rfl (Jvm.hb hby d10_1) fun T P => ?_
  show OwG p e below s _ _ _ _ T (mkF m 4 #[.val (.ref x)] [(.ref t)])
  obtain ⟨own_cl, own_A, own_q1, own_S, own_M, own_H, own_U⟩ := id A_t
  obtain ⟨own_L, own_X, own_e, own_N⟩ := id P
  have own_Z := hZ
  refine OwG.go (T' := T) (g' := (mkF m 5 #[.val (.ref x)] [(.int N2)])) (fun tQ kQ => ?_) ?_
  · refine own_X.arraylength hx (by rw [own_e]; exact own_A.1) (State.isArrayOf_alike own_Z.alike own_A.2.1) (g := (mkF m 4 #[.val (.ref x)] [(.ref t)])) rfl rfl (Jvm.hb hby d10_4) _ ?_
    rw [len_of own_S own_M]
    exact kQ
  have own_n2 : ¬ N2 = 0 := by
    rcases hc with ⟨-, rfl, -⟩ | ⟨-, rfl, -⟩
    · exact own_ne32 (n := 0) (by omega) (by omega) (by omega)
    · exact own_ne32 (n := 0) (by omega) (by omega) (by omega)
  refine OwG.go (T' := T) (g' := (mkF m 12 #[.val (.ref x)] [])) (fun tQ kQ => ?_) ?_
  · refine XS.ifYes P.here hx rfl (pc0 := 5) (pc' := 12) rfl (Jvm.hb hby d10_5) rfl ((if0 _ _).trans (feq own_n2).2) (by decide) (by decide) ?_
    exact kQ
  refine OwG.go (T' := T) (g' := (mkF m 13 #[.val (.ref x)] [(.int (0 : Int32))])) (fun tQ kQ => ?_) ?_
  · refine XS.iconst P.here hx rfl (Jvm.hb hby d10_12) ?_
    exact kQ
  exact P.retN hx hlk (t := .boolean) hret (by simp) (Jvm.hb hby d10_13) (by first | decide | omega | (dsimp only; omega) | (dsimp only [room_1]; omega) | (simp; done) | (simp [room_1]; done) | (simp [room_1]; omega)) (by first | decide | omega | (dsimp only; omega) | (dsimp only [room_1]; omega) | (simp; done) | (simp [room_1]; done) | (simp [room_1]; omega)) ⟨rfl, rfl⟩
theorem d9_0 : decode jdk_31_method_11_code 0 = .ok (.aload_n 0, 1) := by decide +kernel
theorem d9_1 : decode jdk_31_method_11_code 1 = .ok (.ifnonnull 12, 3) := by decide +kernel
theorem d9_13 : decode jdk_31_method_11_code 13 = .ok (.aload_n 0, 1) := by decide +kernel
theorem d9_14 : decode jdk_31_method_11_code 14 = .ok (.areturn, 1) := by decide +kernel
theorem pn_java_util_Objects : plainName "java/util/Objects" = true := by first | (simp [plainName, overriddenIn]; done) | decide +kernel
set_option maxRecDepth 65536 in
set_option maxHeartbeats 40000000 in
theorem rmRnn (l : Launch) (Z : State) (a0 : Array Value) (hw : ∀ d ∈ tables_1, d.before a0 Z = true) (a1 a2 : Addr) (h0 : Heap) (n0 : Nat) (Z0 : n0 ≤ h0.size)  :
    OwM l Z (⟨"java/util/Objects", "requireNonNull", "(Ljava/lang/Object;Ljava/lang/String;)Ljava/lang/Object;"⟩ : MethodName) jdk_31_method_11_code 2 (some (.object "java/lang/Object")) ({ frames := 0, cells := 0, slots := 0, locals := 0 } : Room) n0 #[(.ref a1), (.ref a2)] h0 (fun v h => v = some (.ref a1) ∧ h = h0) := by
  refine OwM.mk (plainFor_of_name pn_java_util_Objects) ?_
  intro p e s m below meth cD T hx hby hml hown hnm hret hlk hZ P
  refine OwG.cast (show entryFrame m #[(.ref a1), (.ref a2)] 2 = mkF m 0 #[.val (.ref a1), .val (.ref a2)] [] from by first | rfl | (simp [entryFrame, mkF, argsToLocals, Value.category]; done)) ?_
  refine OwG.go (T' := T) (g' := (mkF m 1 #[.val (.ref a1), .val (.ref a2)] [(.ref a1)])) (fun tQ kQ => ?_) ?_
  · refine XS.aloadN P.here hx rfl (Jvm.hb hby d9_0) rfl rfl ?_
    exact kQ
  refine OwG.go (T' := T) (g' := (mkF m 13 #[.val (.ref a1), .val (.ref a2)] [])) (fun tQ kQ => ?_) ?_
  · refine XS.ifnonnullYes P.here hx rfl (pc0 := 1) (pc' := 13) rfl (Jvm.hb hby d9_1) rfl (by decide) (by decide) ?_
    exact kQ
  refine OwG.go (T' := T) (g' := (mkF m 14 #[.val (.ref a1), .val (.ref a2)] [(.ref a1)])) (fun tQ kQ => ?_) ?_
  · refine XS.aloadN P.here hx rfl (Jvm.hb hby d9_13) rfl rfl ?_
    exact kQ
  exact P.retR hx hlk hret rfl rfl (Jvm.hb hby d9_14) (by first | decide | omega | (dsimp only; omega) | (dsimp only [room_1]; omega) | (simp; done) | (simp [room_1]; done) | (simp [room_1]; omega)) (by first | decide | omega | (dsimp only; omega) | (dsimp only [room_1]; omega) | (simp; done) | (simp [room_1]; done) | (simp [room_1]; omega)) ⟨rfl, rfl⟩
theorem d8_0 : decode prog_4_method_2_code 0 = .ok (.aload_n 0, 1) := by decide +kernel
theorem d8_1 : decode prog_4_method_2_code 1 = .ok (.ldc 7, 2) := by decide +kernel
theorem d8_3 : decode prog_4_method_2_code 3 = .ok (.invokestatic 9, 3) := by decide +kernel
theorem pd__Ljava_lang_Object_Ljava_lang_String__Ljava_lang_Object_ : parseMethodDescriptor "(Ljava/lang/Object;Ljava/lang/String;)Ljava/lang/Object;" = some ⟨[(.object "java/lang/Object"), (.object "java/lang/String")], some (.object "java/lang/Object")⟩ := by decide +kernel
theorem d8_6 : decode prog_4_method_2_code 6 = .ok (.pop, 1) := by decide +kernel
theorem d8_7 : decode prog_4_method_2_code 7 = .ok (.aload_n 0, 1) := by decide +kernel
theorem d8_8 : decode prog_4_method_2_code 8 = .ok (.invokevirtual 15, 3) := by decide +kernel
theorem d8_11 : decode prog_4_method_2_code 11 = .ok (.ifCond .ne 13, 3) := by decide +kernel
theorem d8_14 : decode prog_4_method_2_code 14 = .ok (.aload_n 0, 1) := by decide +kernel
theorem d8_15 : decode prog_4_method_2_code 15 = .ok (.invokevirtual 21, 3) := by decide +kernel
theorem d8_18 : decode prog_4_method_2_code 18 = .ok (.sipush 256, 3) := by decide +kernel
theorem d8_21 : decode prog_4_method_2_code 21 = .ok (.if_icmp .le 20, 3) := by decide +kernel
theorem d8_41 : decode prog_4_method_2_code 41 = .ok (.aload_n 0, 1) := by decide +kernel
theorem d8_42 : decode prog_4_method_2_code 42 = .ok (.bipush 123, 2) := by decide +kernel
theorem d8_44 : decode prog_4_method_2_code 44 = .ok (.invokevirtual 36, 3) := by decide +kernel
theorem d8_47 : decode prog_4_method_2_code 47 = .ok (.ifCond .ge 12, 3) := by decide +kernel
theorem d8_50 : decode prog_4_method_2_code 50 = .ok (.aload_n 0, 1) := by decide +kernel
theorem d8_51 : decode prog_4_method_2_code 51 = .ok (.bipush 125, 2) := by decide +kernel
theorem d8_53 : decode prog_4_method_2_code 53 = .ok (.invokevirtual 36, 3) := by decide +kernel
theorem d8_56 : decode prog_4_method_2_code 56 = .ok (.ifCond .lt 17, 3) := by decide +kernel
theorem d8_73 : decode prog_4_method_2_code 73 = .ok (.aload_n 0, 1) := by decide +kernel
theorem d8_74 : decode prog_4_method_2_code 74 = .ok (.areturn, 1) := by decide +kernel
theorem pn_com_example_dvarapala_dvarapala_LockNames : plainName "com/example/dvarapala/dvarapala/LockNames" = true := by first | (simp [plainName, overriddenIn]; done) | decide +kernel
set_option maxRecDepth 65536 in
set_option maxHeartbeats 40000000 in
theorem rmRv (l : Launch) (Z : State) (a0 : Array Value) (hw : ∀ d ∈ tables_1, d.before a0 Z = true) (x t : Addr) (kt : ClassId) (cd N2 : Int32) (vs : List Value) (cs : List Int32) (n : Nat) (zC : Int32) (fm : Value) (h0 : Heap) (n0 : Nat) (Z0 : n0 ≤ h0.size) (SA : Sta Z Z.heap "java/lang/StringUTF16" "$assertionsDisabled" "Z" (.int (1 : Int32))) (SH : Sta Z Z.heap "java/lang/StringUTF16" "HI_BYTE_SHIFT" "I" (.int (0 : Int32))) (SL : Sta Z Z.heap "java/lang/StringUTF16" "LO_BYTE_SHIFT" "I" (.int (8 : Int32))) (SF : Sta Z Z.heap "jdk/internal/util/Preconditions" "SIOOBE_FORMATTER" "Ljava/util/function/BiFunction;" fm) (rf : fm.isRef = true) (S2 : Sta Z Z.heap "java/lang/String" "COMPACT_STRINGS" "Z" (.int zC)) (hzC : ¬ zC = 0) (OL : Old Z n0 h0) (E_x : Exa Z h0 x "java/lang/String") (V_x : Fld Z h0 x "java/lang/String" "value" "[B" (.ref t)) (C_x : Fld Z h0 x "java/lang/String" "coder" "B" (.int cd)) (A_t : Arv Z h0 t kt .byte N2 vs (.int (0 : Int32))) (hc : StrChars.Road.CodA cs cd N2 vs) (hn : cs.length = n) (hb : n ≤ 4000) (h0n : 0 < n) (hp : ∀ c ∈ cs, ¬ c < 0 ∧ ¬ (65535 : Int32) < c) (hb2 : n ≤ 256) (hm123 : (123 : Int32) ∉ cs) (hm125 : (125 : Int32) ∉ cs) :
    OwS l Z own_EL [] (⟨"com/example/dvarapala/dvarapala/LockNames", "requireValid", "(Ljava/lang/String;)Ljava/lang/String;"⟩ : MethodName) prog_4_method_2_code 1 (some (.object "java/lang/String")) ({ frames := 7, cells := 2, slots := 108, locals := 101 } : Room) n0 #[(.ref x)] h0 (fun v h => v = some (.ref x) ∧ Keep h0 h []) := by
  have hEL := own_EW hw
  refine OwS.mk (plainFor_of_name pn_com_example_dvarapala_dvarapala_LockNames) ?_
  intro p e s m below meth cD T hx hby hml hnm hret hlk P
  refine OwH.cast (show entryFrame m #[(.ref x)] 1 = mkF m 0 #[.val (.ref x)] [] from by first | rfl | (simp [entryFrame, mkF, argsToLocals, Value.category]; done)) ?_
  have KP := Keep.refl h0 []
  refine OwH.go (T' := T) (g' := (mkF m 1 #[.val (.ref x)] [(.ref x)])) (fun tQ kQ => ?_) ?_
  · refine XS.aloadN P.here hx rfl (Jvm.hb hby d8_0) rfl rfl ?_
    exact kQ
  refine P.ldcO hx hEL (hw _ (List.mem_of_getElem? (i := 40) rfl)) (own_wS hw) (g := (mkF m 1 #[.val (.ref x)] [(.ref x)])) rfl (Jvm.hb hby d8_1) (nn := 104) (by decide) (by decide) (by first | decide | omega | (dsimp only; omega) | (dsimp only [room_1]; omega) | (simp; done) | (simp [room_1]; done) | (simp [room_1]; omega)) (by first | decide | omega | (dsimp only; omega) | (dsimp only [room_1]; omega) | (simp; done) | (simp [room_1]; done) | (simp [room_1]; omega)) fun T h1 m1 P E => ?_
  replace E_x := E_x.ext E
  replace V_x := V_x.ext E
  replace C_x := C_x.ext E
  replace A_t := A_t.ext E
  replace Z0 := Nat.le_trans Z0 E.1
  replace OL := OL.ext E
  replace KP := KP.ext E
  clear E
  show OwH p e below s _ _ _ _ _ _ T (mkF m 3 #[.val (.ref x)] [(.ref m1), (.ref x)])
  refine P.stat hx (y := (⟨"java/util/Objects", "requireNonNull", "(Ljava/lang/Object;Ljava/lang/String;)Ljava/lang/Object;"⟩ : MethodName)) (hw _ (List.mem_of_getElem? (i := 43) rfl)) (hw _ (List.mem_of_getElem? (i := 44) rfl)) (hw _ (List.mem_of_getElem? (i := 45) rfl)) (hw _ (List.mem_of_getElem? (i := 46) rfl)) (by decide) (fun vm0 hZ => OwM.back (s := s.setVm vm0) (W := 0) (rmRnn l Z a0 hw x m1 h1 n0 Z0) hZ (hw _ (List.mem_of_getElem? (i := 46) rfl)) (hw _ (List.mem_of_getElem? (i := 45) rfl)) (own_le rfl) (own_le rfl)) (fun _ _ _ q => q.2) (ws := []) (fun _ _ _ q => by rw [q.1.2]; exact Keep.refl _ _) all0 (g := (mkF m 3 #[.val (.ref x)] [(.ref m1), (.ref x)])) rfl (by rw [hml]; rfl) (argsL := [(.ref x), (.ref m1)]) (rest := []) (lenOf pd__Ljava_lang_Object_Ljava_lang_String__Ljava_lang_Object_ rfl) rfl (by show 2 * 0 + _ ≤ _; exact Nat.le_of_eq rfl) (Jvm.hb hby d8_3) rfl (by first | decide | omega | (dsimp only; omega) | (dsimp only [room_1]; omega) | (simp; done) | (simp [room_1]; done) | (simp [room_1]; omega)) (by first | decide | omega | (dsimp only; omega) | (dsimp only [room_1]; omega) | (simp; done) | (simp [room_1]; done) | (simp [room_1]; omega)) fun T own_v own_L h2 own_e P own_q => ?_
  obtain ⟨⟨rfl, own_hh⟩, -⟩ := own_q
  rw [own_hh] at P
  clear own_e own_hh
  show OwH p e below s _ _ _ _ _ _ T (mkF m 6 #[.val (.ref x)] [(.ref x)])
  refine OwH.go (T' := T) (g' := (mkF m 8 #[.val (.ref x)] [(.ref x)])) (fun tQ kQ => ?_) ?_
  · refine XS.pop P.here hx rfl (Jvm.hb hby d8_6) rfl rfl ?_
    refine XS.aloadN P.here hx rfl (Jvm.hb hby d8_7) rfl rfl ?_
    exact kQ
  refine P.virtual hx (y := (⟨"java/lang/String", "isEmpty", "()Z"⟩ : MethodName)) (z := (⟨"java/lang/String", "isEmpty", "()Z"⟩ : MethodName)) (hw _ (List.mem_of_getElem? (i := 47) rfl)) (hw _ (List.mem_of_getElem? (i := 48) rfl)) (fun vm0 hZ => notFace_of_selects (args := #[]) (mvT (s := s.setVm vm0) hZ (hw _ (List.mem_of_getElem? (i := 50) rfl)))) (hw _ (List.mem_of_getElem? (i := 50) rfl)) (hw _ (List.mem_of_getElem? (i := 49) rfl)) (by decide) (fun vm0 hZ => OwM.back (s := s.setVm vm0) (W := 0) (rmEmp l Z a0 hw x t kt cd N2 vs cs n h1 n0 Z0 E_x V_x C_x A_t hc hn hb h0n hp) hZ (hw _ (List.mem_of_getElem? (i := 51) rfl)) (hw _ (List.mem_of_getElem? (i := 9) rfl)) (own_le rfl) (own_le rfl)) (fun _ _ _ q => q.2) (ws := []) (fun _ _ _ q => by rw [q.1.2]; exact Keep.refl _ _) all0 E_x (g := (mkF m 8 #[.val (.ref x)] [(.ref x)])) rfl (by rw [hml]; rfl) (argsL := []) (rest := []) (lenOf pd___Z rfl) rfl (by show 2 * 0 + _ ≤ _; exact Nat.le_of_eq rfl) (Jvm.hb hby d8_8) rfl (by first | decide | omega | (dsimp only; omega) | (dsimp only [room_1]; omega) | (simp; done) | (simp [room_1]; done) | (simp [room_1]; omega)) (by first | decide | omega | (dsimp only; omega) | (dsimp only [room_1]; omega) | (simp; done) | (simp [room_1]; done) | (simp [room_1]; omega)) fun T own_v own_L h3 own_e P own_q => ?_
  obtain ⟨⟨rfl, own_hh⟩, -⟩ := own_q
  rw [own_hh] at P
  clear own_e own_hh
  show OwH p e below s _ _ _ _ _ _ T (mkF m 11 #[.val (.ref x)] [(.int (0 : Int32))])
  refine OwH.go (T' := T) (g' := (mkF m 14 #[.val (.ref x)] [])) (fun tQ kQ => ?_) ?_
  · refine XS.ifNo P.here hx rfl (Jvm.hb hby d8_11) rfl ((if0 _ _).trans (teq rfl).2) ?_
    exact kQ
  refine OwH.go (T' := T) (g' := (mkF m 15 #[.val (.ref x)] [(.ref x)])) (fun tQ kQ => ?_) ?_
  · refine XS.aloadN P.here hx rfl (Jvm.hb hby d8_14) rfl rfl ?_
    exact kQ
  refine P.virtual hx (y := (⟨"java/lang/String", "length", "()I"⟩ : MethodName)) (z := (⟨"java/lang/String", "length", "()I"⟩ : MethodName)) (hw _ (List.mem_of_getElem? (i := 52) rfl)) (hw _ (List.mem_of_getElem? (i := 53) rfl)) (fun vm0 hZ => notFace_of_selects (args := #[]) (mvT (s := s.setVm vm0) hZ (hw _ (List.mem_of_getElem? (i := 55) rfl)))) (hw _ (List.mem_of_getElem? (i := 55) rfl)) (hw _ (List.mem_of_getElem? (i := 54) rfl)) (by decide) (fun vm0 hZ => own_lenB (s := s.setVm vm0) (W := 0) (n0 := n0) hZ hw E_x V_x C_x A_t hc hp (S2.ext OL.2) hzC hn hb (own_le rfl) (own_le rfl)) (fun _ _ _ q => q.2.2) (ws := []) (fun _ _ _ q => by rw [q.2.1]; exact Keep.refl _ _) all0 E_x (g := (mkF m 15 #[.val (.ref x)] [(.ref x)])) rfl (by rw [hml]; rfl) (argsL := []) (rest := []) (lenOf pd___I rfl) rfl (by show 2 * 0 + _ ≤ _; exact Nat.le_of_eq rfl) (Jvm.hb hby d8_15) rfl (by first | decide | omega | (dsimp only; omega) | (dsimp only [room_1]; omega) | (simp; done) | (simp [room_1]; done) | (simp [room_1]; omega)) (by first | decide | omega | (dsimp only; omega) | (dsimp only [room_1]; omega) | (simp; done) | (simp [room_1]; done) | (simp [room_1]; omega)) fun T own_v own_L h4 own_e P own_q => ?_
  obtain ⟨rfl, own_hh, -⟩ := own_q
  rw [own_hh] at P
  clear own_e own_hh
  show OwH p e below s _ _ _ _ _ _ T (mkF m 18 #[.val (.ref x)] [(.int (Int32.ofNat n))])
  refine OwH.go (T' := T) (g' := (mkF m 21 #[.val (.ref x)] [(.int (256 : Int32)), (.int (Int32.ofNat n))])) (fun tQ kQ => ?_) ?_
  · refine XS.sipush P.here hx rfl (Jvm.hb hby d8_18) ?_
    exact kQ
  refine OwH.go (T' := T) (g' := (mkF m 41 #[.val (.ref x)] [])) (fun tQ kQ => ?_) ?_
  · refine XS.icmpYes P.here hx rfl (pc0 := 21) (pc' := 41) rfl (Jvm.hb hby d8_21) rfl (flt (own_nlt (i := 256) hb2 (by omega))).2.2.2 (by decide) (by decide) ?_
    exact kQ
  refine OwH.go (T' := T) (g' := (mkF m 44 #[.val (.ref x)] [(.int (123 : Int32)), (.ref x)])) (fun tQ kQ => ?_) ?_
  · refine XS.aloadN P.here hx rfl (Jvm.hb hby d8_41) rfl rfl ?_
    refine XS.bipush P.here hx rfl (Jvm.hb hby d8_42) ?_
    exact kQ
  refine P.virtual hx (y := (⟨"java/lang/String", "indexOf", "(I)I"⟩ : MethodName)) (z := (⟨"java/lang/String", "indexOf", "(I)I"⟩ : MethodName)) (hw _ (List.mem_of_getElem? (i := 62) rfl)) (hw _ (List.mem_of_getElem? (i := 63) rfl)) (fun vm0 hZ => notFace_of_selects (args := #[]) (mvT (s := s.setVm vm0) hZ (hw _ (List.mem_of_getElem? (i := 65) rfl)))) (hw _ (List.mem_of_getElem? (i := 65) rfl)) (hw _ (List.mem_of_getElem? (i := 64) rfl)) (by decide) (fun vm0 hZ => OwM.back (s := s.setVm vm0) (W := 0) (rmIo1 l Z a0 hw x t kt cd N2 vs cs n 123 zC fm h1 n0 Z0 SA SH SL SF rf S2 hzC OL E_x V_x C_x A_t hc hn hb h0n hp (by decide) hm123) hZ (hw _ (List.mem_of_getElem? (i := 66) rfl)) (hw _ (List.mem_of_getElem? (i := 9) rfl)) (own_le rfl) (own_le rfl)) (fun _ _ _ q => q.2) (ws := []) (fun _ _ _ q => by rw [q.1.2]; exact Keep.refl _ _) all0 E_x (g := (mkF m 44 #[.val (.ref x)] [(.int (123 : Int32)), (.ref x)])) rfl (by rw [hml]; rfl) (argsL := [(.int (123 : Int32))]) (rest := []) (lenOf pd__I_I rfl) rfl (by show 2 * 0 + _ ≤ _; exact Nat.le_of_eq rfl) (Jvm.hb hby d8_44) rfl (by first | decide | omega | (dsimp only; omega) | (dsimp only [room_1]; omega) | (simp; done) | (simp [room_1]; done) | (simp [room_1]; omega)) (by first | decide | omega | (dsimp only; omega) | (dsimp only [room_1]; omega) | (simp; done) | (simp [room_1]; done) | (simp [room_1]; omega)) fun T own_v own_L h5 own_e P own_q => ?_
  obtain ⟨⟨rfl, own_hh⟩, -⟩ := own_q
  rw [own_hh] at P
  clear own_e own_hh
  show OwH p e below s _ _ _ _ _ _ T (mkF m 47 #[.val (.ref x)] [(.int (-1 : Int32))])
  refine OwH.go (T' := T) (g' := (mkF m 50 #[.val (.ref x)] [])) (fun tQ kQ => ?_) ?_
  · refine XS.ifNo P.here hx rfl (Jvm.hb hby d8_47) rfl ((if0 _ _).trans (tlt (by decide)).2.1) ?_
    exact kQ
  refine OwH.go (T' := T) (g' := (mkF m 53 #[.val (.ref x)] [(.int (125 : Int32)), (.ref x)])) (fun tQ kQ => ?_) ?_
  · refine XS.aloadN P.here hx rfl (Jvm.hb hby d8_50) rfl rfl ?_
    refine XS.bipush P.here hx rfl (Jvm.hb hby d8_51) ?_
    exact kQ
  refine P.virtual hx (y := (⟨"java/lang/String", "indexOf", "(I)I"⟩ : MethodName)) (z := (⟨"java/lang/String", "indexOf", "(I)I"⟩ : MethodName)) (hw _ (List.mem_of_getElem? (i := 62) rfl)) (hw _ (List.mem_of_getElem? (i := 63) rfl)) (fun vm0 hZ => notFace_of_selects (args := #[]) (mvT (s := s.setVm vm0) hZ (hw _ (List.mem_of_getElem? (i := 65) rfl)))) (hw _ (List.mem_of_getElem? (i := 65) rfl)) (hw _ (List.mem_of_getElem? (i := 64) rfl)) (by decide) (fun vm0 hZ => OwM.back (s := s.setVm vm0) (W := 0) (rmIo1 l Z a0 hw x t kt cd N2 vs cs n 125 zC fm h1 n0 Z0 SA SH SL SF rf S2 hzC OL E_x V_x C_x A_t hc hn hb h0n hp (by decide) hm125) hZ (hw _ (List.mem_of_getElem? (i := 66) rfl)) (hw _ (List.mem_of_getElem? (i := 9) rfl)) (own_le rfl) (own_le rfl)) (fun _ _ _ q => q.2) (ws := []) (fun _ _ _ q => by rw [q.1.2]; exact Keep.refl _ _) all0 E_x (g := (mkF m 53 #[.val (.ref x)] [(.int (125 : Int32)), (.ref x)])) rfl (by rw [hml]; rfl) (argsL := [(.int (125 : Int32))]) (rest := []) (lenOf pd__I_I rfl) rfl (by show 2 * 0 + _ ≤ _; exact Nat.le_of_eq rfl) (Jvm.hb hby d8_53) rfl (by first | decide | omega | (dsimp only; omega) | (dsimp only [room_1]; omega) | (simp; done) | (simp [room_1]; done) | (simp [room_1]; omega)) (by first | decide | omega | (dsimp only; omega) | (dsimp only [room_1]; omega) | (simp; done) | (simp [room_1]; done) | (simp [room_1]; omega)) fun T own_v own_L h6 own_e P own_q => ?_
  obtain ⟨⟨rfl, own_hh⟩, -⟩ := own_q
  rw [own_hh] at P
  clear own_e own_hh
  show OwH p e below s _ _ _ _ _ _ T (mkF m 56 #[.val (.ref x)] [(.int (-1 : Int32))])
  refine OwH.go (T' := T) (g' := (mkF m 73 #[.val (.ref x)] [])) (fun tQ kQ => ?_) ?_
  · refine XS.ifYes P.here hx rfl (pc0 := 56) (pc' := 73) rfl (Jvm.hb hby d8_56) rfl ((if0 _ _).trans (tlt (by decide)).1) (by decide) (by decide) ?_
    exact kQ
  refine OwH.go (T' := T) (g' := (mkF m 74 #[.val (.ref x)] [(.ref x)])) (fun tQ kQ => ?_) ?_
  · refine XS.aloadN P.here hx rfl (Jvm.hb hby d8_73) rfl rfl ?_
    exact kQ
  exact P.retR hEL hx hlk hret rfl rfl (Jvm.hb hby d8_74) (by first | decide | omega | (dsimp only; omega) | (dsimp only [room_1]; omega) | (simp; done) | (simp [room_1]; done) | (simp [room_1]; omega)) (by first | decide | omega | (dsimp only; omega) | (dsimp only [room_1]; omega) | (simp; done) | (simp [room_1]; done) | (simp [room_1]; omega)) ⟨rfl, KP⟩
def own_ok (c : Int32) : Prop := (¬ c < 0 ∧ ¬ (65535 : Int32) < c) ∧ ¬ c = 123 ∧ ¬ c = 125
theorem own_i2c0 (x : Int32) : nar .char (x.toUInt32.toUInt16.toUInt32.toInt32) = x.toUInt32.toUInt16.toUInt32.toInt32 := own_narc (own_char x).1 (own_char x).2
theorem d1_0 : decode method_2_code 0 = .ok (.iload_n 0, 1) := by decide +kernel
theorem d1_1 : decode method_2_code 1 = .ok (.ldc 7, 2) := by decide +kernel
theorem d1_3 : decode method_2_code 3 = .ok (.iand, 1) := by decide +kernel
theorem d1_4 : decode method_2_code 4 = .ok (.i2c, 1) := by decide +kernel
theorem d1_5 : decode method_2_code 5 = .ok (.istore_n 1, 1) := by decide +kernel
theorem d1_6 : decode method_2_code 6 = .ok (.iload_n 1, 1) := by decide +kernel
theorem d1_7 : decode method_2_code 7 = .ok (.bipush 123, 2) := by decide +kernel
theorem d1_9 : decode method_2_code 9 = .ok (.if_icmp .eq 9, 3) := by decide +kernel
theorem d1_18 : decode method_2_code 18 = .ok (.iload_n 1, 1) := by decide +kernel
theorem d1_19 : decode method_2_code 19 = .ok (.iconst 1, 1) := by decide +kernel
theorem d1_20 : decode method_2_code 20 = .ok (.iadd, 1) := by decide +kernel
theorem d1_21 : decode method_2_code 21 = .ok (.i2c, 1) := by decide +kernel
theorem d1_22 : decode method_2_code 22 = .ok (.ireturn, 1) := by decide +kernel
theorem d1_12 : decode method_2_code 12 = .ok (.iload_n 1, 1) := by decide +kernel
theorem d1_13 : decode method_2_code 13 = .ok (.bipush 125, 2) := by decide +kernel
theorem d1_15 : decode method_2_code 15 = .ok (.if_icmp .ne 8, 3) := by decide +kernel
theorem d1_23 : decode method_2_code 23 = .ok (.iload_n 1, 1) := by decide +kernel
theorem d1_24 : decode method_2_code 24 = .ok (.ireturn, 1) := by decide +kernel
theorem pn_com_example_dvarapala_dvarapala_LockNamesRequireValidPinLaw : plainName "com/example/dvarapala/dvarapala/LockNamesRequireValidPinLaw" = true := by first | (simp [plainName, overriddenIn]; done) | decide +kernel
set_option maxRecDepth 65536 in
set_option maxHeartbeats 40000000 in
theorem rmNb (l : Launch) (Z : State) (a0 : Array Value) (hw : ∀ d ∈ tables_1, d.before a0 Z = true) (p0 : Int32) (h0 : Heap) (n0 : Nat) (Z0 : n0 ≤ h0.size)  :
    OwM l Z (⟨"com/example/dvarapala/dvarapala/LockNamesRequireValidPinLaw", "noBrace", "(I)C"⟩ : MethodName) method_2_code 2 (some .char) ({ frames := 0, cells := 0, slots := 0, locals := 0 } : Room) n0 #[(.int p0)] h0 (fun v h => ∃ c : Int32, v = some (.int c) ∧ own_ok c ∧ h = h0) := by
  refine OwM.mk (plainFor_of_name pn_com_example_dvarapala_dvarapala_LockNamesRequireValidPinLaw) ?_
  intro p e s m below meth cD T hx hby hml hown hnm hret hlk hZ P
  refine OwG.cast (show entryFrame m #[(.int p0)] 2 = mkF m 0 #[.val (.int p0), .unset] [] from by first | rfl | (simp [entryFrame, mkF, argsToLocals, Value.category]; done)) ?_
  refine OwG.go (T' := T) (g' := (mkF m 1 #[.val (.int p0), .unset] [(.int p0)])) (fun tQ kQ => ?_) ?_
  · refine XS.iloadN P.here hx rfl (Jvm.hb hby d1_0) rfl ?_
    exact kQ
  obtain ⟨own_L, own_X, own_rest⟩ := id P
  refine OwG.go (T' := T) (g' := (mkF m 3 #[.val (.int p0), .unset] [(.int (65535 : Int32)), (.int p0)])) (fun tQ kQ => ?_) ?_
  · refine own_X.ldcInt hx hown (mvT hZ (hw _ (List.mem_of_getElem? (i := 5) rfl))) (g := (mkF m 1 #[.val (.int p0), .unset] [(.int p0)])) rfl (Jvm.hb hby d1_1) _ ?_
    exact kQ
  refine OwG.go (T' := T) (g' := (mkF m 9 #[.val (.int p0), .val (.int ((p0 &&& (65535 : Int32)).toUInt32.toUInt16.toUInt32.toInt32))] [(.int (123 : Int32)), (.int ((p0 &&& (65535 : Int32)).toUInt32.toUInt16.toUInt32.toInt32))])) (fun tQ kQ => ?_) ?_
  · refine XS.iand P.here hx rfl (Jvm.hb hby d1_3) rfl ?_
    refine XS.i2c P.here hx rfl (Jvm.hb hby d1_4) rfl ?_
    refine XS.istoreN P.here hx rfl (Jvm.hb hby d1_5) rfl (l' := #[.val (.int p0), .val (.int ((p0 &&& (65535 : Int32)).toUInt32.toUInt16.toUInt32.toInt32))]) rfl ?_
    refine XS.iloadN P.here hx rfl (Jvm.hb hby d1_6) rfl ?_
    refine XS.bipush P.here hx rfl (Jvm.hb hby d1_7) ?_
    exact kQ
  by_cases hc9 : ((p0 &&& (65535 : Int32)).toUInt32.toUInt16.toUInt32.toInt32) = (123 : Int32)
  · skip
    refine OwG.go (T' := T) (g' := (mkF m 18 #[.val (.int p0), .val (.int ((p0 &&& (65535 : Int32)).toUInt32.toUInt16.toUInt32.toInt32))] [])) (fun tQ kQ => ?_) ?_
    · refine XS.icmpYes P.here hx rfl (pc0 := 9) (pc' := 18) rfl (Jvm.hb hby d1_9) rfl (teq hc9).1 (by decide) (by decide) ?_
      exact kQ
    rw [hc9]
    show OwG p e below s _ _ _ _ T (mkF m 18 #[.val (.int p0), .val (.int (123 : Int32))] [])
    refine OwG.go (T' := T) (g' := (mkF m 22 #[.val (.int p0), .val (.int (123 : Int32))] [(.int (((123 : Int32) + (1 : Int32)).toUInt32.toUInt16.toUInt32.toInt32))])) (fun tQ kQ => ?_) ?_
    · refine XS.iloadN P.here hx rfl (Jvm.hb hby d1_18) rfl ?_
      refine XS.iconst P.here hx rfl (Jvm.hb hby d1_19) ?_
      refine XS.iadd P.here hx rfl (Jvm.hb hby d1_20) rfl ?_
      refine XS.i2c P.here hx rfl (Jvm.hb hby d1_21) rfl ?_
      exact kQ
    exact P.retN hx hlk (t := .char) hret (by simp) (Jvm.hb hby d1_22) (by first | decide | omega | (dsimp only; omega) | (dsimp only [room_1]; omega) | (simp; done) | (simp [room_1]; done) | (simp [room_1]; omega)) (by first | decide | omega | (dsimp only; omega) | (dsimp only [room_1]; omega) | (simp; done) | (simp [room_1]; done) | (simp [room_1]; omega)) ⟨124, by decide, by unfold own_ok; decide, rfl⟩
  · skip
    refine OwG.go (T' := T) (g' := (mkF m 12 #[.val (.int p0), .val (.int ((p0 &&& (65535 : Int32)).toUInt32.toUInt16.toUInt32.toInt32))] [])) (fun tQ kQ => ?_) ?_
    · refine XS.icmpNo P.here hx rfl (Jvm.hb hby d1_9) rfl (feq hc9).1 ?_
      exact kQ
    refine OwG.go (T' := T) (g' := (mkF m 15 #[.val (.int p0), .val (.int ((p0 &&& (65535 : Int32)).toUInt32.toUInt16.toUInt32.toInt32))] [(.int (125 : Int32)), (.int ((p0 &&& (65535 : Int32)).toUInt32.toUInt16.toUInt32.toInt32))])) (fun tQ kQ => ?_) ?_
    · refine XS.iloadN P.here hx rfl (Jvm.hb hby d1_12) rfl ?_
      refine XS.bipush P.here hx rfl (Jvm.hb hby d1_13) ?_
      exact kQ
    by_cases hc15 : ((p0 &&& (65535 : Int32)).toUInt32.toUInt16.toUInt32.toInt32) = (125 : Int32)
    · skip
      refine OwG.go (T' := T) (g' := (mkF m 18 #[.val (.int p0), .val (.int ((p0 &&& (65535 : Int32)).toUInt32.toUInt16.toUInt32.toInt32))] [])) (fun tQ kQ => ?_) ?_
      · refine XS.icmpNo P.here hx rfl (Jvm.hb hby d1_15) rfl (teq hc15).2 ?_
        exact kQ
      rw [hc15]
      show OwG p e below s _ _ _ _ T (mkF m 18 #[.val (.int p0), .val (.int (125 : Int32))] [])
      refine OwG.go (T' := T) (g' := (mkF m 22 #[.val (.int p0), .val (.int (125 : Int32))] [(.int (((125 : Int32) + (1 : Int32)).toUInt32.toUInt16.toUInt32.toInt32))])) (fun tQ kQ => ?_) ?_
      · refine XS.iloadN P.here hx rfl (Jvm.hb hby d1_18) rfl ?_
        refine XS.iconst P.here hx rfl (Jvm.hb hby d1_19) ?_
        refine XS.iadd P.here hx rfl (Jvm.hb hby d1_20) rfl ?_
        refine XS.i2c P.here hx rfl (Jvm.hb hby d1_21) rfl ?_
        exact kQ
      exact P.retN hx hlk (t := .char) hret (by simp) (Jvm.hb hby d1_22) (by first | decide | omega | (dsimp only; omega) | (dsimp only [room_1]; omega) | (simp; done) | (simp [room_1]; done) | (simp [room_1]; omega)) (by first | decide | omega | (dsimp only; omega) | (dsimp only [room_1]; omega) | (simp; done) | (simp [room_1]; done) | (simp [room_1]; omega)) ⟨126, by decide, by unfold own_ok; decide, rfl⟩
    · skip
      refine OwG.go (T' := T) (g' := (mkF m 23 #[.val (.int p0), .val (.int ((p0 &&& (65535 : Int32)).toUInt32.toUInt16.toUInt32.toInt32))] [])) (fun tQ kQ => ?_) ?_
      · refine XS.icmpYes P.here hx rfl (pc0 := 15) (pc' := 23) rfl (Jvm.hb hby d1_15) rfl (feq hc15).2 (by decide) (by decide) ?_
        exact kQ
      refine OwG.go (T' := T) (g' := (mkF m 24 #[.val (.int p0), .val (.int ((p0 &&& (65535 : Int32)).toUInt32.toUInt16.toUInt32.toInt32))] [(.int ((p0 &&& (65535 : Int32)).toUInt32.toUInt16.toUInt32.toInt32))])) (fun tQ kQ => ?_) ?_
      · refine XS.iloadN P.here hx rfl (Jvm.hb hby d1_23) rfl ?_
        exact kQ
      exact P.retN hx hlk (t := .char) hret (by simp) (Jvm.hb hby d1_24) (by first | decide | omega | (dsimp only; omega) | (dsimp only [room_1]; omega) | (simp; done) | (simp [room_1]; done) | (simp [room_1]; omega)) (by first | decide | omega | (dsimp only; omega) | (dsimp only [room_1]; omega) | (simp; done) | (simp [room_1]; done) | (simp [room_1]; omega)) ⟨_, by rw [own_i2c0]; rfl, ⟨own_char _, hc9, hc15⟩, rfl⟩
theorem own_and255n (x : Int32) : ∃ k : Nat, k ≤ 255 ∧ (x &&& (255 : Int32)) = Int32.ofNat k := by
  have h := c_mask x 255 8 (by decide) (by decide)
  refine ⟨(x &&& (255 : Int32)).toInt.toNat, by omega, ?_⟩
  apply Int32.toInt_inj.mp
  rw [own_ti (by omega)]; omega
theorem own_one_add (k : Nat) : (1 : Int32) + Int32.ofNat k = Int32.ofNat (k + 1) := by rw [Int32.add_comm]; exact own_succ k
theorem own_sub1 {n : Nat} (h0 : 0 < n) (h : n ≤ 4000) : Int32.ofNat n - (1 : Int32) = Int32.ofNat (n - 1) := by
  apply Int32.toInt_inj.mp
  have q := c_isub (Int32.ofNat n) 1
  have r := rng32 (Int32.ofNat n - 1)
  have e : (1 : Int32).toInt = 1 := rfl
  rw [own_ti (by omega)] at q ⊢
  omega
theorem own_rem {n : Nat} (x : Int32) (h0 : 0 < n) (h : n ≤ 4000) : ∃ j : Nat, j < n ∧ (x &&& (2147483647 : Int32)) % Int32.ofNat n = Int32.ofNat j := by
  have m := c_mask x 2147483647 31 (by decide) (by decide)
  have q := (c_iremV (x &&& 2147483647) (Int32.ofNat n)).1 (by omega) (by rw [own_ti (by omega)]; omega)
  rw [own_ti (by omega)] at q
  refine ⟨((x &&& 2147483647) % Int32.ofNat n).toInt.toNat, by omega, ?_⟩
  apply Int32.toInt_inj.mp
  rw [own_ti (by omega)]; omega
theorem own_set {cs : List Int32} {n i : Nat} {c : Int32} (hn : cs.length = n ∧ ∀ z ∈ cs, own_ok z) (hc : own_ok c) : (cs.set i c).length = n ∧ ∀ z ∈ cs.set i c, own_ok z := ⟨by rw [List.length_set]; exact hn.1, fun z hz => (List.mem_or_eq_of_mem_set hz).elim (hn.2 z) (fun q => q ▸ hc)⟩
theorem own_rep (n : Nat) : (List.replicate n (0 : Int32)).length = n ∧ ∀ z ∈ List.replicate n (0 : Int32), own_ok z := ⟨by simp, fun z hz => by rw [(List.mem_replicate.mp hz).2]; unfold own_ok; decide⟩
theorem pd__I_C : parseMethodDescriptor "(I)C" = some ⟨[.int], some .char⟩ := by decide +kernel
theorem pd___C_V : parseMethodDescriptor "([C)V" = some ⟨[(.array .char)], none⟩ := by decide +kernel
theorem pd__Ljava_lang_String__Ljava_lang_String_ : parseMethodDescriptor "(Ljava/lang/String;)Ljava/lang/String;" = some ⟨[(.object "java/lang/String")], some (.object "java/lang/String")⟩ := by decide +kernel
set_option maxRecDepth 65536 in
set_option maxHeartbeats 40000000 in
theorem rm0 (l : Launch) (Z : State) (a0 : Array Value) (hw : ∀ d ∈ tables_1, d.before a0 Z = true) (ws : List Jvm.Cond) (p0 : Int32) (p1 : Int32) (p2 : Int32) (p3 : Int32) (p4 : Int32) (p5 : Int32) (zC : Int32) (fm : Value) (h0 : Heap) (n0 : Nat) (Z0 : n0 ≤ h0.size) (SA : Sta Z Z.heap "java/lang/StringUTF16" "$assertionsDisabled" "Z" (.int (1 : Int32))) (SH : Sta Z Z.heap "java/lang/StringUTF16" "HI_BYTE_SHIFT" "I" (.int (0 : Int32))) (SL : Sta Z Z.heap "java/lang/StringUTF16" "LO_BYTE_SHIFT" "I" (.int (8 : Int32))) (SF : Sta Z Z.heap "jdk/internal/util/Preconditions" "SIOOBE_FORMATTER" "Ljava/util/function/BiFunction;" fm) (rf : fm.isRef = true) (S2 : Sta Z Z.heap "java/lang/String" "COMPACT_STRINGS" "Z" (.int zC)) (hzC : ¬ zC = 0) (OL : Old Z n0 h0) :
    MetFree l x (head1 (Jvm.Cond.code x code maxLocals ret :: ws) room_1) (fun a U => a = #[(.int p0), (.int p1), (.int p2), (.int p3), (.int p4), (.int p5)] ∧ Z.Warmed39 U.vm ∧ U.heap = h0 ∧ CHv Z own_EL U.vm h0 ∧ ∀ x ∈ ([] : List Addr), x < h0.size ∧ Safe Z own_EL U.vm h0 x) (fun _ _ _ _ _ => True) (fun _ U o U' => ∃ v L, o = .returned v ∧ ((fun v h => v = some (Value.int (1 : Int32))) v U'.heap ∧ Fr n0 L) ∧ CHr Z own_EL U.vm U.heap U'.vm U'.heap ∧ ReturnedEndW U o U' L room_1.cells room_1.slots) := by
  have hEL := own_EW hw
  refine OwS.of (EL := own_EL) (sf := []) (Q := fun v h => v = some (Value.int (1 : Int32))) (plainFor_of_name pn_com_example_dvarapala_dvarapala_LockNamesRequireValidPinLaw) ?_
  intro p e s m below meth cD T hx hby hml hnm hret hlk P
  replace hml : cD.maxLocals = 10 := hml
  replace P : OwC p l e room_1 s m #[(.int p0), (.int p1), (.int p2), (.int p3), (.int p4), (.int p5)] below meth cD Z "com/example/dvarapala/dvarapala/LockNamesRequireValidPinLaw" own_EL [] n0 T h0 0 0 := P
  refine OwH.cast (show entryFrame m #[(.int p0), (.int p1), (.int p2), (.int p3), (.int p4), (.int p5)] maxLocals = mkF m 0 #[.val (.int p0), .val (.int p1), .val (.int p2), .val (.int p3), .val (.int p4), .val (.int p5), .unset, .unset, .unset, .unset] [] from by first | rfl | (simp [entryFrame, mkF, argsToLocals, Value.category, maxLocals]; done)) ?_
  refine OwH.go (T' := T) (g' := (mkF m 7 #[.val (.int p0), .val (.int p1), .val (.int p2), .val (.int p3), .val (.int p4), .val (.int p5), .unset, .unset, .unset, .unset] [(.int ((1 : Int32) + (p0 &&& (255 : Int32))))])) (fun tQ kQ => ?_) ?_
  · refine XS.iconst P.here hx rfl (Jvm.hb hby at_0) ?_
    refine XS.iloadN P.here hx rfl (Jvm.hb hby at_1) rfl ?_
    refine XS.sipush P.here hx rfl (Jvm.hb hby at_2) ?_
    refine XS.iand P.here hx rfl (Jvm.hb hby at_5) rfl ?_
    refine XS.iadd P.here hx rfl (Jvm.hb hby at_6) rfl ?_
    exact kQ
  obtain ⟨k, hk, own_k⟩ := own_and255n p0
  rw [show (p0 &&& (255 : Int32)) = (Int32.ofNat k) from own_k]
  show OwH p e below s _ _ _ _ _ _ T (mkF m 7 #[.val (.int p0), .val (.int p1), .val (.int p2), .val (.int p3), .val (.int p4), .val (.int p5), .unset, .unset, .unset, .unset] [(.int ((1 : Int32) + (Int32.ofNat k)))])
  rw [show ((1 : Int32) + (Int32.ofNat k)) = (Int32.ofNat (k + 1)) from own_one_add k]
  show OwH p e below s _ _ _ _ _ _ T (mkF m 7 #[.val (.int p0), .val (.int p1), .val (.int p2), .val (.int p3), .val (.int p4), .val (.int p5), .unset, .unset, .unset, .unset] [(.int (Int32.ofNat (k + 1)))])
  obtain ⟨n, own_n⟩ : ∃ n, n = k + 1 := ⟨_, rfl⟩
  rw [← own_n]
  show OwH p e below s _ _ _ _ _ _ T (mkF m 7 #[.val (.int p0), .val (.int p1), .val (.int p2), .val (.int p3), .val (.int p4), .val (.int p5), .unset, .unset, .unset, .unset] [(.int (Int32.ofNat n))])
  refine OwH.go (T' := T) (g' := (mkF m 11 #[.val (.int p0), .val (.int p1), .val (.int p2), .val (.int p3), .val (.int p4), .val (.int p5), .val (.int (Int32.ofNat n)), .unset, .unset, .unset] [(.int (Int32.ofNat n))])) (fun tQ kQ => ?_) ?_
  · refine XS.istore P.here hx rfl (Jvm.hb hby at_7) rfl (l' := #[.val (.int p0), .val (.int p1), .val (.int p2), .val (.int p3), .val (.int p4), .val (.int p5), .val (.int (Int32.ofNat n)), .unset, .unset, .unset]) rfl ?_
    refine XS.iload P.here hx rfl (Jvm.hb hby at_9) rfl ?_
    exact kQ
  refine P.newP hx (hw _ (List.mem_of_getElem? (i := 0) rfl)) (g := (mkF m 11 #[.val (.int p0), .val (.int p1), .val (.int p2), .val (.int p3), .val (.int p4), .val (.int p5), .val (.int (Int32.ofNat n)), .unset, .unset, .unset] [(.int (Int32.ofNat n))])) rfl (Jvm.hb hby at_11) rfl (own_nn (by omega)) (cap := 256) (by rw [own_tc (by omega)]; omega) (by decide) (by first | decide | omega | (dsimp only; omega) | (dsimp only [room_1]; omega) | (simp; done) | (simp [room_1]; done) | (simp [room_1]; omega)) (by first | decide | omega | (dsimp only; omega) | (dsimp only [room_1]; omega) | (simp; done) | (simp [room_1]; done) | (simp [room_1]; omega)) fun T h1 b7 kb7 gb7 P E V_b7 => ?_
  have g_b7 : n0 ≤ b7 := Nat.le_trans Z0 (Nat.le_of_eq gb7.symm)
  replace Z0 := Nat.le_trans Z0 E.1
  replace OL := OL.ext E
  clear E
  replace V_b7 : Arv Z h1 b7 kb7 .char (Int32.ofNat n) (List.replicate n (.int (0 : Int32))) (.int (0 : Int32)) := V_b7.pad (pad_rep [] (.int (0 : Int32)) n)
  show OwH p e below s _ _ _ _ _ _ T (mkF m 13 #[.val (.int p0), .val (.int p1), .val (.int p2), .val (.int p3), .val (.int p4), .val (.int p5), .val (.int (Int32.ofNat n)), .unset, .unset, .unset] [(.ref b7)])
  replace V_b7 : Arv Z h1 b7 kb7 .char (Int32.ofNat n) ((List.replicate n (0 : Int32)).map Value.int) (.int (0 : Int32)) := by rw [List.map_replicate]; exact V_b7
  have hcs0 := own_rep n
  refine OwH.go (T' := T) (g' := (mkF m 21 #[.val (.int p0), .val (.int p1), .val (.int p2), .val (.int p3), .val (.int p4), .val (.int p5), .val (.int (Int32.ofNat n)), .val (.ref b7), .unset, .unset] [(.int ((Int32.ofNat n) - (1 : Int32))), (.ref b7)])) (fun tQ kQ => ?_) ?_
  · refine XS.astore P.here hx rfl (Jvm.hb hby at_13) rfl rfl (l' := #[.val (.int p0), .val (.int p1), .val (.int p2), .val (.int p3), .val (.int p4), .val (.int p5), .val (.int (Int32.ofNat n)), .val (.ref b7), .unset, .unset]) rfl ?_
    refine XS.aload P.here hx rfl (Jvm.hb hby at_15) rfl rfl ?_
    refine XS.iload P.here hx rfl (Jvm.hb hby at_17) rfl ?_
    refine XS.iconst P.here hx rfl (Jvm.hb hby at_19) ?_
    refine XS.isub P.here hx rfl (Jvm.hb hby at_20) rfl ?_
    exact kQ
  rw [show ((Int32.ofNat n) - (1 : Int32)) = (Int32.ofNat (n - 1)) from own_sub1 (by omega) (by omega)]
  show OwH p e below s _ _ _ _ _ _ T (mkF m 21 #[.val (.int p0), .val (.int p1), .val (.int p2), .val (.int p3), .val (.int p4), .val (.int p5), .val (.int (Int32.ofNat n)), .val (.ref b7), .unset, .unset] [(.int (Int32.ofNat (n - 1))), (.ref b7)])
  refine OwH.go (T' := T) (g' := (mkF m 22 #[.val (.int p0), .val (.int p1), .val (.int p2), .val (.int p3), .val (.int p4), .val (.int p5), .val (.int (Int32.ofNat n)), .val (.ref b7), .unset, .unset] [(.int p1), (.int (Int32.ofNat (n - 1))), (.ref b7)])) (fun tQ kQ => ?_) ?_
  · refine XS.iloadN P.here hx rfl (Jvm.hb hby at_21) rfl ?_
    exact kQ
  refine P.stat hx (y := (⟨"com/example/dvarapala/dvarapala/LockNamesRequireValidPinLaw", "noBrace", "(I)C"⟩ : MethodName)) (hw _ (List.mem_of_getElem? (i := 1) rfl)) (hw _ (List.mem_of_getElem? (i := 2) rfl)) (hw _ (List.mem_of_getElem? (i := 3) rfl)) (hw _ (List.mem_of_getElem? (i := 4) rfl)) (by decide) (fun vm0 hZ => OwM.back (s := s.setVm vm0) (W := 2) (rmNb l Z a0 hw p1 h1 n0 Z0) hZ (hw _ (List.mem_of_getElem? (i := 4) rfl)) (hw _ (List.mem_of_getElem? (i := 3) rfl)) (own_le rfl) (own_le rfl)) (fun _ _ _ q => q.2) (ws := []) (fun _ _ _ q => by obtain ⟨⟨_, _, _, q⟩, _⟩ := q; rw [q]; exact Keep.refl _ _) all0 (g := (mkF m 22 #[.val (.int p0), .val (.int p1), .val (.int p2), .val (.int p3), .val (.int p4), .val (.int p5), .val (.int (Int32.ofNat n)), .val (.ref b7), .unset, .unset] [(.int p1), (.int (Int32.ofNat (n - 1))), (.ref b7)])) rfl (by rw [hml]; rfl) (argsL := [(.int p1)]) (rest := [(.int (Int32.ofNat (n - 1))), (.ref b7)]) (lenOf pd__I_C rfl) rfl (by show 2 * 0 + _ ≤ _; exact Nat.le_of_eq rfl) (Jvm.hb hby at_22) rfl (by first | decide | omega | (dsimp only; omega) | (dsimp only [room_1]; omega) | (simp; done) | (simp [room_1]; done) | (simp [room_1]; omega)) (by first | decide | omega | (dsimp only; omega) | (dsimp only [room_1]; omega) | (simp; done) | (simp [room_1]; done) | (simp [room_1]; omega)) fun T own_v own_L h2 own_e P own_q => ?_
  obtain ⟨⟨d0, rfl, hd0, own_hh⟩, -⟩ := own_q
  rw [own_hh] at P
  clear own_e own_hh
  show OwH p e below s _ _ _ _ _ _ T (mkF m 25 #[.val (.int p0), .val (.int p1), .val (.int p2), .val (.int p3), .val (.int p4), .val (.int p5), .val (.int (Int32.ofNat n)), .val (.ref b7), .unset, .unset] [(.int d0), (.int (Int32.ofNat (n - 1))), (.ref b7)])
  refine P.stC hx V_b7 (j := (Int32.ofNat (n - 1))) (own_nn (by omega)) (own_lt (by omega) (by omega)) (i := (n - 1)) (own_tc (by omega)) (by rw [List.length_map, hcs0.1]; omega) (g := (mkF m 25 #[.val (.int p0), .val (.int p1), .val (.int p2), .val (.int p3), .val (.int p4), .val (.int p5), .val (.int (Int32.ofNat n)), .val (.ref b7), .unset, .unset] [(.int d0), (.int (Int32.ofNat (n - 1))), (.ref b7)])) rfl rfl (Jvm.hb hby at_25) g_b7 fun T h3 P W V' => ?_
  replace Z0 := Nat.le_trans Z0 (Keep.of_wr W).1
  replace OL := OL.wr W g_b7
  replace V_b7 := V'
  clear W V'
  show OwH p e below s _ _ _ _ _ _ T (mkF m 26 #[.val (.int p0), .val (.int p1), .val (.int p2), .val (.int p3), .val (.int p4), .val (.int p5), .val (.int (Int32.ofNat n)), .val (.ref b7), .unset, .unset] [])
  replace V_b7 : Arv Z h3 b7 kb7 .char (Int32.ofNat n) (((List.replicate n (0 : Int32)).set (n - 1) d0).map Value.int) (.int (0 : Int32)) := by
    have q := V_b7
    rw [own_narc hd0.1.1 hd0.1.2] at q
    rw [List.map_set]; exact q
  have hcs1 := own_set (i := (n - 1)) hcs0 hd0
  refine OwH.go (T' := T) (g' := (mkF m 30 #[.val (.int p0), .val (.int p1), .val (.int p2), .val (.int p3), .val (.int p4), .val (.int p5), .val (.int (Int32.ofNat n)), .val (.ref b7), .unset, .unset] [(.int p4), (.ref b7)])) (fun tQ kQ => ?_) ?_
  · refine XS.aload P.here hx rfl (Jvm.hb hby at_26) rfl rfl ?_
    refine XS.iload P.here hx rfl (Jvm.hb hby at_28) rfl ?_
    exact kQ
  obtain ⟨_, _, _, own_X, _, _, _, _, hZ, hown, _⟩ := id P
  refine OwH.go (T' := T) (g' := (mkF m 32 #[.val (.int p0), .val (.int p1), .val (.int p2), .val (.int p3), .val (.int p4), .val (.int p5), .val (.int (Int32.ofNat n)), .val (.ref b7), .unset, .unset] [(.int (2147483647 : Int32)), (.int p4), (.ref b7)])) (fun tQ kQ => ?_) ?_
  · refine own_X.ldcInt hx hown (mvT (s := s.setVm _) hZ (hw _ (List.mem_of_getElem? (i := 6) rfl))) (g := (mkF m 30 #[.val (.int p0), .val (.int p1), .val (.int p2), .val (.int p3), .val (.int p4), .val (.int p5), .val (.int (Int32.ofNat n)), .val (.ref b7), .unset, .unset] [(.int p4), (.ref b7)])) rfl (Jvm.hb hby at_30) _ ?_
    exact kQ
  refine OwH.go (T' := T) (g' := (mkF m 35 #[.val (.int p0), .val (.int p1), .val (.int p2), .val (.int p3), .val (.int p4), .val (.int p5), .val (.int (Int32.ofNat n)), .val (.ref b7), .unset, .unset] [(.int (Int32.ofNat n)), (.int (p4 &&& (2147483647 : Int32))), (.ref b7)])) (fun tQ kQ => ?_) ?_
  · refine XS.iand P.here hx rfl (Jvm.hb hby at_32) rfl ?_
    refine XS.iload P.here hx rfl (Jvm.hb hby at_33) rfl ?_
    exact kQ
  obtain ⟨_, _, _, own_X, own_rest⟩ := id P
  refine OwH.go (T' := T) (g' := (mkF m 36 #[.val (.int p0), .val (.int p1), .val (.int p2), .val (.int p3), .val (.int p4), .val (.int p5), .val (.int (Int32.ofNat n)), .val (.ref b7), .unset, .unset] [(.int ((p4 &&& (2147483647 : Int32)) % (Int32.ofNat n))), (.ref b7)])) (fun tQ kQ => ?_) ?_
  · refine Jvm.RoadKit.iremM (g := (mkF m 35 #[.val (.int p0), .val (.int p1), .val (.int p2), .val (.int p3), .val (.int p4), .val (.int p5), .val (.int (Int32.ofNat n)), .val (.ref b7), .unset, .unset] [(.int (Int32.ofNat n)), (.int (p4 &&& (2147483647 : Int32))), (.ref b7)])) own_X hx rfl (Jvm.hb hby at_35) rfl (own_ne32 (n := 0) (by omega) (by omega) (by omega)) ?_
    exact kQ
  obtain ⟨j1, hj1, own_j1⟩ := own_rem (n := n) p4 (by omega) (by omega)
  rw [show ((p4 &&& (2147483647 : Int32)) % (Int32.ofNat n)) = (Int32.ofNat j1) from own_j1]
  show OwH p e below s _ _ _ _ _ _ T (mkF m 36 #[.val (.int p0), .val (.int p1), .val (.int p2), .val (.int p3), .val (.int p4), .val (.int p5), .val (.int (Int32.ofNat n)), .val (.ref b7), .unset, .unset] [(.int (Int32.ofNat j1)), (.ref b7)])
  refine OwH.go (T' := T) (g' := (mkF m 37 #[.val (.int p0), .val (.int p1), .val (.int p2), .val (.int p3), .val (.int p4), .val (.int p5), .val (.int (Int32.ofNat n)), .val (.ref b7), .unset, .unset] [(.int p2), (.int (Int32.ofNat j1)), (.ref b7)])) (fun tQ kQ => ?_) ?_
  · refine XS.iloadN P.here hx rfl (Jvm.hb hby at_36) rfl ?_
    exact kQ
  refine P.stat hx (y := (⟨"com/example/dvarapala/dvarapala/LockNamesRequireValidPinLaw", "noBrace", "(I)C"⟩ : MethodName)) (hw _ (List.mem_of_getElem? (i := 1) rfl)) (hw _ (List.mem_of_getElem? (i := 2) rfl)) (hw _ (List.mem_of_getElem? (i := 3) rfl)) (hw _ (List.mem_of_getElem? (i := 4) rfl)) (by decide) (fun vm0 hZ => OwM.back (s := s.setVm vm0) (W := 2) (rmNb l Z a0 hw p2 h3 n0 Z0) hZ (hw _ (List.mem_of_getElem? (i := 4) rfl)) (hw _ (List.mem_of_getElem? (i := 3) rfl)) (own_le rfl) (own_le rfl)) (fun _ _ _ q => q.2) (ws := []) (fun _ _ _ q => by obtain ⟨⟨_, _, _, q⟩, _⟩ := q; rw [q]; exact Keep.refl _ _) all0 (g := (mkF m 37 #[.val (.int p0), .val (.int p1), .val (.int p2), .val (.int p3), .val (.int p4), .val (.int p5), .val (.int (Int32.ofNat n)), .val (.ref b7), .unset, .unset] [(.int p2), (.int (Int32.ofNat j1)), (.ref b7)])) rfl (by rw [hml]; rfl) (argsL := [(.int p2)]) (rest := [(.int (Int32.ofNat j1)), (.ref b7)]) (lenOf pd__I_C rfl) rfl (by show 2 * 0 + _ ≤ _; exact Nat.le_of_eq rfl) (Jvm.hb hby at_37) rfl (by first | decide | omega | (dsimp only; omega) | (dsimp only [room_1]; omega) | (simp; done) | (simp [room_1]; done) | (simp [room_1]; omega)) (by first | decide | omega | (dsimp only; omega) | (dsimp only [room_1]; omega) | (simp; done) | (simp [room_1]; done) | (simp [room_1]; omega)) fun T own_v own_L h4 own_e P own_q => ?_
  obtain ⟨⟨d1, rfl, hd1, own_hh⟩, -⟩ := own_q
  rw [own_hh] at P
  clear own_e own_hh
  show OwH p e below s _ _ _ _ _ _ T (mkF m 40 #[.val (.int p0), .val (.int p1), .val (.int p2), .val (.int p3), .val (.int p4), .val (.int p5), .val (.int (Int32.ofNat n)), .val (.ref b7), .unset, .unset] [(.int d1), (.int (Int32.ofNat j1)), (.ref b7)])
  refine P.stC hx V_b7 (j := (Int32.ofNat j1)) (own_nn (by omega)) (own_lt (by omega) (by omega)) (i := j1) (own_tc (by omega)) (by rw [List.length_map, hcs1.1]; omega) (g := (mkF m 40 #[.val (.int p0), .val (.int p1), .val (.int p2), .val (.int p3), .val (.int p4), .val (.int p5), .val (.int (Int32.ofNat n)), .val (.ref b7), .unset, .unset] [(.int d1), (.int (Int32.ofNat j1)), (.ref b7)])) rfl rfl (Jvm.hb hby at_40) g_b7 fun T h5 P W V' => ?_
  replace Z0 := Nat.le_trans Z0 (Keep.of_wr W).1
  replace OL := OL.wr W g_b7
  replace V_b7 := V'
  clear W V'
  show OwH p e below s _ _ _ _ _ _ T (mkF m 41 #[.val (.int p0), .val (.int p1), .val (.int p2), .val (.int p3), .val (.int p4), .val (.int p5), .val (.int (Int32.ofNat n)), .val (.ref b7), .unset, .unset] [])
  replace V_b7 : Arv Z h5 b7 kb7 .char (Int32.ofNat n) ((((List.replicate n (0 : Int32)).set (n - 1) d0).set j1 d1).map Value.int) (.int (0 : Int32)) := by
    have q := V_b7
    rw [own_narc hd1.1.1 hd1.1.2] at q
    rw [List.map_set]; exact q
  have hcs2 := own_set (i := j1) hcs1 hd1
  refine OwH.go (T' := T) (g' := (mkF m 45 #[.val (.int p0), .val (.int p1), .val (.int p2), .val (.int p3), .val (.int p4), .val (.int p5), .val (.int (Int32.ofNat n)), .val (.ref b7), .unset, .unset] [(.int p5), (.ref b7)])) (fun tQ kQ => ?_) ?_
  · refine XS.aload P.here hx rfl (Jvm.hb hby at_41) rfl rfl ?_
    refine XS.iload P.here hx rfl (Jvm.hb hby at_43) rfl ?_
    exact kQ
  obtain ⟨_, _, _, own_X, _, _, _, _, hZ, hown, _⟩ := id P
  refine OwH.go (T' := T) (g' := (mkF m 47 #[.val (.int p0), .val (.int p1), .val (.int p2), .val (.int p3), .val (.int p4), .val (.int p5), .val (.int (Int32.ofNat n)), .val (.ref b7), .unset, .unset] [(.int (2147483647 : Int32)), (.int p5), (.ref b7)])) (fun tQ kQ => ?_) ?_
  · refine own_X.ldcInt hx hown (mvT (s := s.setVm _) hZ (hw _ (List.mem_of_getElem? (i := 6) rfl))) (g := (mkF m 45 #[.val (.int p0), .val (.int p1), .val (.int p2), .val (.int p3), .val (.int p4), .val (.int p5), .val (.int (Int32.ofNat n)), .val (.ref b7), .unset, .unset] [(.int p5), (.ref b7)])) rfl (Jvm.hb hby at_45) _ ?_
    exact kQ
  refine OwH.go (T' := T) (g' := (mkF m 50 #[.val (.int p0), .val (.int p1), .val (.int p2), .val (.int p3), .val (.int p4), .val (.int p5), .val (.int (Int32.ofNat n)), .val (.ref b7), .unset, .unset] [(.int (Int32.ofNat n)), (.int (p5 &&& (2147483647 : Int32))), (.ref b7)])) (fun tQ kQ => ?_) ?_
  · refine XS.iand P.here hx rfl (Jvm.hb hby at_47) rfl ?_
    refine XS.iload P.here hx rfl (Jvm.hb hby at_48) rfl ?_
    exact kQ
  obtain ⟨_, _, _, own_X, own_rest⟩ := id P
  refine OwH.go (T' := T) (g' := (mkF m 51 #[.val (.int p0), .val (.int p1), .val (.int p2), .val (.int p3), .val (.int p4), .val (.int p5), .val (.int (Int32.ofNat n)), .val (.ref b7), .unset, .unset] [(.int ((p5 &&& (2147483647 : Int32)) % (Int32.ofNat n))), (.ref b7)])) (fun tQ kQ => ?_) ?_
  · refine Jvm.RoadKit.iremM (g := (mkF m 50 #[.val (.int p0), .val (.int p1), .val (.int p2), .val (.int p3), .val (.int p4), .val (.int p5), .val (.int (Int32.ofNat n)), .val (.ref b7), .unset, .unset] [(.int (Int32.ofNat n)), (.int (p5 &&& (2147483647 : Int32))), (.ref b7)])) own_X hx rfl (Jvm.hb hby at_50) rfl (own_ne32 (n := 0) (by omega) (by omega) (by omega)) ?_
    exact kQ
  obtain ⟨j2, hj2, own_j2⟩ := own_rem (n := n) p5 (by omega) (by omega)
  rw [show ((p5 &&& (2147483647 : Int32)) % (Int32.ofNat n)) = (Int32.ofNat j2) from own_j2]
  show OwH p e below s _ _ _ _ _ _ T (mkF m 51 #[.val (.int p0), .val (.int p1), .val (.int p2), .val (.int p3), .val (.int p4), .val (.int p5), .val (.int (Int32.ofNat n)), .val (.ref b7), .unset, .unset] [(.int (Int32.ofNat j2)), (.ref b7)])
  refine OwH.go (T' := T) (g' := (mkF m 52 #[.val (.int p0), .val (.int p1), .val (.int p2), .val (.int p3), .val (.int p4), .val (.int p5), .val (.int (Int32.ofNat n)), .val (.ref b7), .unset, .unset] [(.int p3), (.int (Int32.ofNat j2)), (.ref b7)])) (fun tQ kQ => ?_) ?_
  · refine XS.iloadN P.here hx rfl (Jvm.hb hby at_51) rfl ?_
    exact kQ
  refine P.stat hx (y := (⟨"com/example/dvarapala/dvarapala/LockNamesRequireValidPinLaw", "noBrace", "(I)C"⟩ : MethodName)) (hw _ (List.mem_of_getElem? (i := 1) rfl)) (hw _ (List.mem_of_getElem? (i := 2) rfl)) (hw _ (List.mem_of_getElem? (i := 3) rfl)) (hw _ (List.mem_of_getElem? (i := 4) rfl)) (by decide) (fun vm0 hZ => OwM.back (s := s.setVm vm0) (W := 2) (rmNb l Z a0 hw p3 h5 n0 Z0) hZ (hw _ (List.mem_of_getElem? (i := 4) rfl)) (hw _ (List.mem_of_getElem? (i := 3) rfl)) (own_le rfl) (own_le rfl)) (fun _ _ _ q => q.2) (ws := []) (fun _ _ _ q => by obtain ⟨⟨_, _, _, q⟩, _⟩ := q; rw [q]; exact Keep.refl _ _) all0 (g := (mkF m 52 #[.val (.int p0), .val (.int p1), .val (.int p2), .val (.int p3), .val (.int p4), .val (.int p5), .val (.int (Int32.ofNat n)), .val (.ref b7), .unset, .unset] [(.int p3), (.int (Int32.ofNat j2)), (.ref b7)])) rfl (by rw [hml]; rfl) (argsL := [(.int p3)]) (rest := [(.int (Int32.ofNat j2)), (.ref b7)]) (lenOf pd__I_C rfl) rfl (by show 2 * 0 + _ ≤ _; exact Nat.le_of_eq rfl) (Jvm.hb hby at_52) rfl (by first | decide | omega | (dsimp only; omega) | (dsimp only [room_1]; omega) | (simp; done) | (simp [room_1]; done) | (simp [room_1]; omega)) (by first | decide | omega | (dsimp only; omega) | (dsimp only [room_1]; omega) | (simp; done) | (simp [room_1]; done) | (simp [room_1]; omega)) fun T own_v own_L h6 own_e P own_q => ?_
  obtain ⟨⟨d2, rfl, hd2, own_hh⟩, -⟩ := own_q
  rw [own_hh] at P
  clear own_e own_hh
  show OwH p e below s _ _ _ _ _ _ T (mkF m 55 #[.val (.int p0), .val (.int p1), .val (.int p2), .val (.int p3), .val (.int p4), .val (.int p5), .val (.int (Int32.ofNat n)), .val (.ref b7), .unset, .unset] [(.int d2), (.int (Int32.ofNat j2)), (.ref b7)])
  refine P.stC hx V_b7 (j := (Int32.ofNat j2)) (own_nn (by omega)) (own_lt (by omega) (by omega)) (i := j2) (own_tc (by omega)) (by rw [List.length_map, hcs2.1]; omega) (g := (mkF m 55 #[.val (.int p0), .val (.int p1), .val (.int p2), .val (.int p3), .val (.int p4), .val (.int p5), .val (.int (Int32.ofNat n)), .val (.ref b7), .unset, .unset] [(.int d2), (.int (Int32.ofNat j2)), (.ref b7)])) rfl rfl (Jvm.hb hby at_55) g_b7 fun T h7 P W V' => ?_
  replace Z0 := Nat.le_trans Z0 (Keep.of_wr W).1
  replace OL := OL.wr W g_b7
  replace V_b7 := V'
  clear W V'
  show OwH p e below s _ _ _ _ _ _ T (mkF m 56 #[.val (.int p0), .val (.int p1), .val (.int p2), .val (.int p3), .val (.int p4), .val (.int p5), .val (.int (Int32.ofNat n)), .val (.ref b7), .unset, .unset] [])
  replace V_b7 : Arv Z h7 b7 kb7 .char (Int32.ofNat n) (((((List.replicate n (0 : Int32)).set (n - 1) d0).set j1 d1).set j2 d2).map Value.int) (.int (0 : Int32)) := by
    have q := V_b7
    rw [own_narc hd2.1.1 hd2.1.2] at q
    rw [List.map_set]; exact q
  have hcs3 := own_set (i := j2) hcs2 hd2
  obtain ⟨cs, own_cs⟩ : ∃ z, z = ((((List.replicate n (0 : Int32)).set (n - 1) d0).set j1 d1).set j2 d2) := ⟨_, rfl⟩
  rw [← own_cs] at V_b7 hcs3
  refine P.newO hx (hw _ (List.mem_of_getElem? (i := 7) rfl)) (hw _ (List.mem_of_getElem? (i := 8) rfl)) (hw _ (List.mem_of_getElem? (i := 9) rfl)) (g := (mkF m 56 #[.val (.int p0), .val (.int p1), .val (.int p2), .val (.int p3), .val (.int p4), .val (.int p5), .val (.int (Int32.ofNat n)), .val (.ref b7), .unset, .unset] [])) rfl (Jvm.hb hby at_56) (by first | decide | omega | (dsimp only; omega) | (dsimp only [room_1]; omega) | (simp; done) | (simp [room_1]; done) | (simp [room_1]; omega)) (by first | decide | omega | (dsimp only; omega) | (dsimp only [room_1]; omega) | (simp; done) | (simp [room_1]; done) | (simp [room_1]; omega)) fun T h8 b8 gb8 P E A D => ?_
  have ne_b7_b8 : b7 ≠ b8 := Nat.ne_of_lt (Nat.lt_of_lt_of_le V_b7.lt (Nat.le_of_eq gb8.symm))
  have ne_b8_b7 := Ne.symm ne_b7_b8
  have g_b8 : n0 ≤ b8 := Nat.le_trans Z0 (Nat.le_of_eq gb8.symm)
  replace V_b7 := V_b7.ext E
  replace Z0 := Nat.le_trans Z0 E.1
  replace OL := OL.ext E
  have E_b8 := A
  have F_coder_b8 : Fld Z h8 b8 "java/lang/String" "coder" "B" (.int (0 : Int32)) := D (Or.inr (hw _ (List.mem_of_getElem? (i := 33) rfl))) (ty := .byte) (by decide)
  have F_value_b8 : Fld Z h8 b8 "java/lang/String" "value" "[B" .null := D (Or.inr (hw _ (List.mem_of_getElem? (i := 35) rfl))) (ty := (.array .byte)) (by decide)
  clear A D E
  show OwH p e below s _ _ _ _ _ _ T (mkF m 59 #[.val (.int p0), .val (.int p1), .val (.int p2), .val (.int p3), .val (.int p4), .val (.int p5), .val (.int (Int32.ofNat n)), .val (.ref b7), .unset, .unset] [(.ref b8)])
  refine OwH.go (T' := T) (g' := (mkF m 62 #[.val (.int p0), .val (.int p1), .val (.int p2), .val (.int p3), .val (.int p4), .val (.int p5), .val (.int (Int32.ofNat n)), .val (.ref b7), .unset, .unset] [(.ref b7), (.ref b8), (.ref b8)])) (fun tQ kQ => ?_) ?_
  · refine XS.dup P.here hx rfl (Jvm.hb hby at_59) rfl rfl ?_
    refine XS.aload P.here hx rfl (Jvm.hb hby at_60) rfl rfl ?_
    exact kQ
  have hn := hcs3.1
  have hp : ∀ c ∈ cs, ¬ c < 0 ∧ ¬ (65535 : Int32) < c := fun c hc => (hcs3.2 c hc).1
  refine P.special hx (y := (⟨"java/lang/String", "<init>", "([C)V"⟩ : MethodName)) rfl (hw _ (List.mem_of_getElem? (i := 10) rfl)) (hw _ (List.mem_of_getElem? (i := 11) rfl)) (hw _ (List.mem_of_getElem? (i := 12) rfl)) (by decide) (fun vm0 hZ => OwM.back (s := s.setVm vm0) (W := 1) (rmN1 l Z a0 hw b8 b7 kb7 _ n cs zC h8 n0 Z0 SA SH SL S2 hzC OL V_b7 hn (by omega) (by omega) hp g_b8 E_b8 F_coder_b8 F_value_b8 ne_b8_b7) hZ (hw _ (List.mem_of_getElem? (i := 12) rfl)) (hw _ (List.mem_of_getElem? (i := 9) rfl)) (own_le rfl) (own_le rfl)) (fun _ _ _ q => q.2) (ws := [b8]) (fun _ _ _ q => q.1.2.1) (allS (Or.inl (by simp)) all0) (g := (mkF m 62 #[.val (.int p0), .val (.int p1), .val (.int p2), .val (.int p3), .val (.int p4), .val (.int p5), .val (.int (Int32.ofNat n)), .val (.ref b7), .unset, .unset] [(.ref b7), (.ref b8), (.ref b8)])) rfl (by rw [hml]; rfl) (a := b8) (argsL := [(.ref b7)]) (rest := [(.ref b8)]) (lenOf pd___C_V rfl) rfl (by show 2 * 0 + _ ≤ _; exact Nat.le_of_eq rfl) (Jvm.hb hby at_62) rfl (by first | decide | omega | (dsimp only; omega) | (dsimp only [room_1]; omega) | (simp; done) | (simp [room_1]; done) | (simp [room_1]; omega)) (by first | decide | omega | (dsimp only; omega) | (dsimp only [room_1]; omega) | (simp; done) | (simp [room_1]; done) | (simp [room_1]; omega)) fun T own_v own_L h9 own_e P own_q => ?_
  obtain ⟨⟨rfl, K, t, kt, cd, N2, vs, -, V_x, C_x, A_t, hc⟩, -⟩ := own_q
  clear own_e
  replace V_b7 := V_b7.keep K (ninS ne_b7_b8 nin0)
  replace E_b8 := E_b8.keep K
  replace Z0 := Nat.le_trans Z0 K.1
  replace OL := OL.keep K (allS g_b8 all0)
  show OwH p e below s _ _ _ _ _ _ T (mkF m 65 #[.val (.int p0), .val (.int p1), .val (.int p2), .val (.int p3), .val (.int p4), .val (.int p5), .val (.int (Int32.ofNat n)), .val (.ref b7), .unset, .unset] [(.ref b8)])
  refine OwH.go (T' := T) (g' := (mkF m 69 #[.val (.int p0), .val (.int p1), .val (.int p2), .val (.int p3), .val (.int p4), .val (.int p5), .val (.int (Int32.ofNat n)), .val (.ref b7), .val (.ref b8), .unset] [(.ref b8)])) (fun tQ kQ => ?_) ?_
  · refine XS.astore P.here hx rfl (Jvm.hb hby at_65) rfl rfl (l' := #[.val (.int p0), .val (.int p1), .val (.int p2), .val (.int p3), .val (.int p4), .val (.int p5), .val (.int (Int32.ofNat n)), .val (.ref b7), .val (.ref b8), .unset]) rfl ?_
    refine XS.aload P.here hx rfl (Jvm.hb hby at_67) rfl rfl ?_
    exact kQ
  refine P.statS hx (y := (⟨"com/example/dvarapala/dvarapala/LockNames", "requireValid", "(Ljava/lang/String;)Ljava/lang/String;"⟩ : MethodName)) (hw _ (List.mem_of_getElem? (i := 36) rfl)) (hw _ (List.mem_of_getElem? (i := 37) rfl)) (hw _ (List.mem_of_getElem? (i := 38) rfl)) (hw _ (List.mem_of_getElem? (i := 39) rfl)) (by decide) (fun vm0 hZ hCv hsf => OwS.back (s := s.setVm vm0) (W := 0) (rmRv l Z a0 hw b8 t kt cd N2 vs cs n zC fm h9 n0 Z0 SA SH SL SF rf S2 hzC OL E_b8 V_x C_x A_t hc hn (by omega) (by omega) hp (by omega) (fun q => (hcs3.2 _ q).2.1 rfl) (fun q => (hcs3.2 _ q).2.2 rfl)) hZ (hw _ (List.mem_of_getElem? (i := 39) rfl)) (hw _ (List.mem_of_getElem? (i := 38) rfl)) (own_le rfl) (own_le rfl) hEL hCv hsf) (sf' := []) (fun _ _ _ q => q.2) all0 (g := (mkF m 69 #[.val (.int p0), .val (.int p1), .val (.int p2), .val (.int p3), .val (.int p4), .val (.int p5), .val (.int (Int32.ofNat n)), .val (.ref b7), .val (.ref b8), .unset] [(.ref b8)])) rfl (by rw [hml]; rfl) (argsL := [(.ref b8)]) (rest := []) (lenOf pd__Ljava_lang_String__Ljava_lang_String_ rfl) rfl (by show 2 * 0 + _ ≤ _; exact Nat.le_of_eq rfl) (Jvm.hb hby at_69) rfl (by first | decide | omega | (dsimp only; omega) | (dsimp only [room_1]; omega) | (simp; done) | (simp [room_1]; done) | (simp [room_1]; omega)) (by first | decide | omega | (dsimp only; omega) | (dsimp only [room_1]; omega) | (simp; done) | (simp [room_1]; done) | (simp [room_1]; omega)) fun T own_v own_L h10 own_e P own_q => ?_
  obtain ⟨⟨rfl, K⟩, -⟩ := own_q
  clear own_e
  replace V_b7 := V_b7.keep K nin0
  replace E_b8 := E_b8.keep K
  replace V_x := V_x.keep K nin0
  replace C_x := C_x.keep K nin0
  replace A_t := A_t.keep K nin0
  replace Z0 := Nat.le_trans Z0 K.1
  replace OL := OL.keep K all0
  show OwH p e below s _ _ _ _ _ _ T (mkF m 72 #[.val (.int p0), .val (.int p1), .val (.int p2), .val (.int p3), .val (.int p4), .val (.int p5), .val (.int (Int32.ofNat n)), .val (.ref b7), .val (.ref b8), .unset] [(.ref b8)])
  refine OwH.go (T' := T) (g' := (mkF m 78 #[.val (.int p0), .val (.int p1), .val (.int p2), .val (.int p3), .val (.int p4), .val (.int p5), .val (.int (Int32.ofNat n)), .val (.ref b7), .val (.ref b8), .val (.ref b8)] [(.ref b8), (.ref b8)])) (fun tQ kQ => ?_) ?_
  · refine XS.astore P.here hx rfl (Jvm.hb hby at_72) rfl rfl (l' := #[.val (.int p0), .val (.int p1), .val (.int p2), .val (.int p3), .val (.int p4), .val (.int p5), .val (.int (Int32.ofNat n)), .val (.ref b7), .val (.ref b8), .val (.ref b8)]) rfl ?_
    refine XS.aload P.here hx rfl (Jvm.hb hby at_74) rfl rfl ?_
    refine XS.aload P.here hx rfl (Jvm.hb hby at_76) rfl rfl ?_
    exact kQ
  obtain ⟨_, _, _, own_X, own_rest⟩ := id P
  refine OwH.go (T' := T) (g' := (mkF m 81 #[.val (.int p0), .val (.int p1), .val (.int p2), .val (.int p3), .val (.int p4), .val (.int p5), .val (.int (Int32.ofNat n)), .val (.ref b7), .val (.ref b8), .val (.ref b8)] [])) (fun tQ kQ => ?_) ?_
  · refine Jvm.RoadKit.acmp (g := (mkF m 78 #[.val (.int p0), .val (.int p1), .val (.int p2), .val (.int p3), .val (.int p4), .val (.int p5), .val (.int (Int32.ofNat n)), .val (.ref b7), .val (.ref b8), .val (.ref b8)] [(.ref b8), (.ref b8)])) own_X hx rfl rfl rfl (pc0 := 78) (pc' := 81) (same := true) rfl (Jvm.hb hby at_78) rfl (decide_eq_true rfl) (by decide) (by decide) ?_
    exact kQ
  refine OwH.go (T' := T) (g' := (mkF m 83 #[.val (.int p0), .val (.int p1), .val (.int p2), .val (.int p3), .val (.int p4), .val (.int p5), .val (.int (Int32.ofNat n)), .val (.ref b7), .val (.ref b8), .val (.ref b8)] [(.ref b8)])) (fun tQ kQ => ?_) ?_
  · refine XS.aload P.here hx rfl (Jvm.hb hby at_81) rfl rfl ?_
    exact kQ
  refine P.virtual hx (y := (⟨"java/lang/String", "length", "()I"⟩ : MethodName)) (z := (⟨"java/lang/String", "length", "()I"⟩ : MethodName)) (hw _ (List.mem_of_getElem? (i := 95) rfl)) (hw _ (List.mem_of_getElem? (i := 53) rfl)) (fun vm0 hZ => notFace_of_selects (args := #[]) (mvT (s := s.setVm vm0) hZ (hw _ (List.mem_of_getElem? (i := 55) rfl)))) (hw _ (List.mem_of_getElem? (i := 55) rfl)) (hw _ (List.mem_of_getElem? (i := 54) rfl)) (by decide) (fun vm0 hZ => own_lenB (s := s.setVm vm0) (W := 0) (n0 := n0) hZ hw E_b8 V_x C_x A_t hc hp (S2.ext OL.2) hzC hn (by omega) (own_le rfl) (own_le rfl)) (fun _ _ _ q => q.2.2) (ws := []) (fun _ _ _ q => by rw [q.2.1]; exact Keep.refl _ _) all0 E_b8 (g := (mkF m 83 #[.val (.int p0), .val (.int p1), .val (.int p2), .val (.int p3), .val (.int p4), .val (.int p5), .val (.int (Int32.ofNat n)), .val (.ref b7), .val (.ref b8), .val (.ref b8)] [(.ref b8)])) rfl (by rw [hml]; rfl) (argsL := []) (rest := []) (lenOf pd___I rfl) rfl (by show 2 * 0 + _ ≤ _; exact Nat.le_of_eq rfl) (Jvm.hb hby at_83) rfl (by first | decide | omega | (dsimp only; omega) | (dsimp only [room_1]; omega) | (simp; done) | (simp [room_1]; done) | (simp [room_1]; omega)) (by first | decide | omega | (dsimp only; omega) | (dsimp only [room_1]; omega) | (simp; done) | (simp [room_1]; done) | (simp [room_1]; omega)) fun T own_v own_L h11 own_e P own_q => ?_
  obtain ⟨rfl, own_hh, -⟩ := own_q
  rw [own_hh] at P
  clear own_e own_hh
  show OwH p e below s _ _ _ _ _ _ T (mkF m 86 #[.val (.int p0), .val (.int p1), .val (.int p2), .val (.int p3), .val (.int p4), .val (.int p5), .val (.int (Int32.ofNat n)), .val (.ref b7), .val (.ref b8), .val (.ref b8)] [(.int (Int32.ofNat n))])
  refine OwH.go (T' := T) (g' := (mkF m 88 #[.val (.int p0), .val (.int p1), .val (.int p2), .val (.int p3), .val (.int p4), .val (.int p5), .val (.int (Int32.ofNat n)), .val (.ref b7), .val (.ref b8), .val (.ref b8)] [(.int (Int32.ofNat n)), (.int (Int32.ofNat n))])) (fun tQ kQ => ?_) ?_
  · refine XS.iload P.here hx rfl (Jvm.hb hby at_86) rfl ?_
    exact kQ
  refine OwH.go (T' := T) (g' := (mkF m 91 #[.val (.int p0), .val (.int p1), .val (.int p2), .val (.int p3), .val (.int p4), .val (.int p5), .val (.int (Int32.ofNat n)), .val (.ref b7), .val (.ref b8), .val (.ref b8)] [])) (fun tQ kQ => ?_) ?_
  · refine XS.icmpNo P.here hx rfl (Jvm.hb hby at_88) rfl (teq rfl).2 ?_
    exact kQ
  refine OwH.go (T' := T) (g' := (mkF m 96 #[.val (.int p0), .val (.int p1), .val (.int p2), .val (.int p3), .val (.int p4), .val (.int p5), .val (.int (Int32.ofNat n)), .val (.ref b7), .val (.ref b8), .val (.ref b8)] [(.int (1 : Int32))])) (fun tQ kQ => ?_) ?_
  · refine XS.iconst P.here hx rfl (Jvm.hb hby at_91) ?_
    refine XS.goto P.here hx rfl (pc0 := 92) (pc' := 96) rfl (Jvm.hb hby at_92) (by decide) (by decide) ?_
    exact kQ
  exact P.retN hEL hx hlk (t := .boolean) hret (by simp) (Jvm.hb hby at_96) (by first | decide | omega | (dsimp only; omega) | (dsimp only [room_1]; omega) | (simp; done) | (simp [room_1]; done) | (simp [room_1]; omega)) (by first | decide | omega | (dsimp only; omega) | (dsimp only [room_1]; omega) | (simp; done) | (simp [room_1]; done) | (simp [room_1]; omega)) rfl
set_option maxRecDepth 65536 in
set_option maxHeartbeats 40000000 in
theorem comes_1 {Post : Tables → Env → Array Value → State → Outcome → State → Prop} (hpost : ∀ tb e args s v u, (limb_1_1.after args s (.returned v) u = true ∧ limb_1_2.after args s (.returned v) u = true ∧ True) → ReturnedEndW s (.returned v) u (Jvm.fieldLocs frame_1_writes args s ++ Jvm.arrayLocs frame_1_arrays args s ++ Jvm.staticLocs frame_1_statics s) 24 3200 → Post tb e args s (.returned v) u) :
    ArmFor flags0 classFile x code maxLocals ret World_1 tables_1 room_1 Calls_1 rest_1 Pre_1 Post := by
  intro l hfl _ _ p e ha hc hk s m args below hf hA hF happ hP
  obtain ⟨hcalls, hrest, hpre⟩ := hP
  obtain ⟨-, -, -, hnamed, -, -, -, hat⟩ := (Spec.applies_iff hf).mp happ
  obtain ⟨hg, hn⟩ := and_e (Cond.before_iff.mp (show (Jvm.Cond.and given_1 narrow_1).before args s = true from hpre))
  obtain ⟨g1, g2⟩ := and_e hg
  obtain ⟨g3, g4⟩ := and_e g2
  obtain ⟨g5, g6⟩ := and_e g4
  obtain ⟨g7, g8⟩ := and_e g6
  obtain ⟨g9, g10⟩ := and_e g8
  obtain ⟨g11, g12⟩ := and_e g10
  obtain ⟨w0, w1, w2, w3, w4, w5, rfl⟩ : ∃ w0 w1 w2 w3 w4 w5 : Value, args = #[w0, w1, w2, w3, w4, w5] := by
    have hs : args.size = 6 := by simpa [Cond.value, given_1] using g1
    obtain ⟨L⟩ := args
    match L, hs with
    | [w0, w1, w2, w3, w4, w5], _ => exact ⟨w0, w1, w2, w3, w4, w5, rfl⟩
  have hw := fun d (hd : d ∈ tables_1) => atoms_spec (ws := Jvm.Cond.code x code maxLocals ret :: tables_1) hat d (List.mem_cons_of_mem _ hd)
  have hfit : Fit s := fun {y c} hc i hi => by
    obtain ⟨ha, rfl⟩ := Array.getElem?_eq_some_iff.mp hc
    have q := List.all_eq_true.mp ((Array.all_eq_true_iff_forall_mem.mp hF) _ (Array.getElem_mem ha)) i (List.mem_range.mpr hi)
    simpa [Array.getElem?_eq_getElem hi] using q
  obtain ⟨hsets, hown0⟩ := atoms_of _ (rest_1_c_eq ▸ (show rest_1_c.before _ s = true from hrest))
  have hr0 := Cond.before_iff.mp hown0
  obtain ⟨i0, ei0⟩ := is_v g3
  obtain rfl : w0 = (.int i0) := Option.some.inj ei0
  obtain ⟨i1, ei1⟩ := is_v g5
  obtain rfl : w1 = (.int i1) := Option.some.inj ei1
  obtain ⟨i2, ei2⟩ := is_v g7
  obtain rfl : w2 = (.int i2) := Option.some.inj ei2
  obtain ⟨i3, ei3⟩ := is_v g9
  obtain rfl : w3 = (.int i3) := Option.some.inj ei3
  obtain ⟨i4, ei4⟩ := is_v g11
  obtain rfl : w4 = (.int i4) := Option.some.inj ei4
  obtain ⟨i5, ei5⟩ := is_v g12
  obtain rfl : w5 = (.int i5) := Option.some.inj ei5
  have n5 := not_v (Cond.before_iff.mp (hsets _ (List.mem_of_getElem? (i := 2) rfl)))
  obtain ⟨zC, ezC⟩ := is_v (Cond.before_iff.mp (hsets _ (List.mem_of_getElem? (i := 1) rfl)))
  have S2 : Sta s s.heap "java/lang/String" "COMPACT_STRINGS" "Z" (.int zC) := Sta.start ezC (Or.inl (hsets _ (List.mem_of_getElem? (i := 0) rfl)))
  have hzC : ¬ (zC = (0 : Int32)) := gotF (Cond.eq_ints ezC (Term.int_eval (0))) n5
  obtain ⟨fm, efm, rf⟩ := isR_v (Cond.before_iff.mp (hsets _ (List.mem_of_getElem? (i := 8) rfl)))
  have SF : Sta s s.heap "jdk/internal/util/Preconditions" "SIOOBE_FORMATTER" "Ljava/util/function/BiFunction;" fm := Sta.start efm (Or.inl (hsets _ (List.mem_of_getElem? (i := 7) rfl)))
  have SA : Sta s s.heap "java/lang/StringUTF16" "$assertionsDisabled" "Z" (.int (1 : Int32)) := Sta.start (own_eqv (Cond.before_iff.mp (hsets _ (List.mem_of_getElem? (i := 12) rfl)))) (Or.inl (hsets _ (List.mem_of_getElem? (i := 11) rfl)))
  have SH : Sta s s.heap "java/lang/StringUTF16" "HI_BYTE_SHIFT" "I" (.int (0 : Int32)) := Sta.start (own_eqv (Cond.before_iff.mp (hsets _ (List.mem_of_getElem? (i := 15) rfl)))) (Or.inl (hsets _ (List.mem_of_getElem? (i := 14) rfl)))
  have SL : Sta s s.heap "java/lang/StringUTF16" "LO_BYTE_SHIFT" "I" (.int (8 : Int32)) := Sta.start (own_eqv (Cond.before_iff.mp (hsets _ (List.mem_of_getElem? (i := 18) rfl)))) (Or.inl (hsets _ (List.mem_of_getElem? (i := 17) rfl)))
  have hCH : CHv s own_EL s.vm s.heap := fun q hq => by simp [own_EL] at hq
  obtain ⟨n, o, h1, h2, h3, _, L, rfl, ⟨rfl, N⟩, -, hq⟩ := rm0 l s _ hw tables_1 i0 i1 i2 i3 i4 i5 zC fm s.heap s.heap.size (Nat.le_refl _) SA SH SL SF rf S2 hzC (Old.start s) p e ha hc hk s m _ below hf ((Spec.applies_iff_loose hf).mp happ).1 ⟨rfl, State.Warmed39.refl s, rfl, hCH, fun x hx => nomatch hx⟩ trivial
  refine ⟨n, _, h1, h2, h3, hpost _ _ _ _ _ _ ⟨Cond.after_iff.mpr rfl, Cond.after_iff.mpr (eq_i res_at (Term.int_eval (1)) rfl), trivial⟩ ⟨hq.1, hq.2.1, hq.2.2.1, (hq.2.2.2.sift fun y hy => Or.inr (N y hy)).mono (by decide) (by decide)⟩⟩
theorem main_1_1 : Claimed_1_1 := comes_1 fun _ _ _ _ _ _ h hF => ⟨h.1, hF⟩
theorem main_1_2 : Claimed_1_2 := comes_1 fun _ _ _ _ _ _ h hF => ⟨h.2.1, hF⟩
end Jvm.Pilot.@@N@@
namespace Jvm.Pilot.@@N@@
open Jvm Jvm.ClassFile Sem Op Lib Jvm.Free Jvm.Stand Jvm.Pilot.@@N@@.Jvm.D
/-! MADE BY PROGRAM (witnessworld.py) out of the Statement's table words and the real class files: 22 classes; the members and pool entries that the words name. The judged class is class 1, her method 2. -/
namespace start1
open Jvm.ClassFile
def u (s : String) : CpInfo := .utf8 (stringToUtf16 s)
/-- a pool by its gaps: so many unusable entries, then the entry; so many at the end -/
def gap : Nat → List CpInfo → List CpInfo
  | 0, r => r
  | n + 1, r => .unusable :: gap n r
def poolList (es : List (Nat × CpInfo)) (last : Nat) : List CpInfo := es.foldr (fun e r => gap e.1 (e.2 :: r)) (gap last [])
def pool (es : List (Nat × CpInfo)) (last : Nat) : Array CpInfo := ⟨poolList es last⟩
def fileOf (pool : Array CpInfo) (this : Nat) (attrs : Array Attribute := #[]) (ms : Array MethodInfo := #[]) (fl : Nat := 33) (sup : Nat := 0) (ifs : Array Nat := #[]) (fds : Array FieldInfo := #[]) : ClassFile where
  minorVersion := 0
  majorVersion := 65
  constantPool := pool
  accessFlags := fl
  thisClass := this
  superClass := sup
  interfaces := ifs
  fields := fds
  methods := ms
  attributes := attrs
def plain (name : String) (sup : Option ClassId) : Class where
  name := name
  kind := .ordinary
  loader := none
  accessFlags := 33
  super := sup
  interfaces := #[]
  cf := none
  fields := #[]
  methods := #[]
  instanceTypes := #[]
  staticTypes := #[]
  resolved := #[]
  callSites := []
  init := .initialized
  statics := none
  mirror := none

def pool0 : Array CpInfo := pool [(5, u "<init>"), (0, u "()V"), (1, .class_ 10), (1, u "java/lang/Object")] 113

def k0c0 : Code := { maxStack := 0, maxLocals := 1, code := object_method_1_code, exceptionTable := #[], attributes := #[] }
def k0m0 : Method := { name := "<init>", desc := "()V", sig := { parameters := [], returnType := none }, accessFlags := 1, code := some k0c0 }
/-- java/lang/Object -/
def k0 : Class := { plain "java/lang/Object" none with
  accessFlags := 33
  interfaces := #[]
  cf := some (fileOf pool0 8 #[] #[{ accessFlags := 1, nameIndex := 5, descriptorIndex := 6, attributes := #[] }] 33 0 #[] #[])
  fields := #[]
  methods := #[k0m0]
  instanceTypes := #[]
  staticTypes := #[]
  resolved := Array.replicate 124 none
  statics := none }

def pool1 : Array CpInfo := pool [(2, .class_ 4), (1, u "java/lang/Object"), (0, u "<init>"), (0, u "()V"), (0, .integer 65535), (0, .methodref 9 10), (0, .class_ 11), (0, .nameAndType 12 13), (0, u "com/example/dvarapala/dvarapala/LockNamesRequireValidPinLaw"), (0, u "noBrace"), (0, u "(I)C"), (0, .integer 2147483647), (0, .class_ 16), (0, u "java/lang/String"), (0, .methodref 15 18), (0, .nameAndType 5 19), (0, u "([C)V"), (0, .methodref 21 22), (0, .class_ 23), (0, .nameAndType 24 25), (0, u "com/example/dvarapala/dvarapala/LockNames"), (0, u "requireValid"), (0, u "(Ljava/lang/String;)Ljava/lang/String;"), (0, .methodref 15 27), (0, .nameAndType 28 29), (0, u "length"), (0, u "()I"), (3, u "law"), (0, u "(IIIIII)Z")] 4

def k1m0 : Method := { name := "<init>", desc := "()V", sig := { parameters := [], returnType := none }, accessFlags := 2, code := none }
def k1c1 : Code := { maxStack := 2, maxLocals := 2, code := method_2_code, exceptionTable := #[], attributes := #[] }
def k1m1 : Method := { name := "noBrace", desc := "(I)C", sig := { parameters := [.int], returnType := some .char }, accessFlags := 10, code := some k1c1 }
def k1c2 : Code := { maxStack := 3, maxLocals := 10, code := code, exceptionTable := #[], attributes := #[] }
def k1m2 : Method := { name := "law", desc := "(IIIIII)Z", sig := { parameters := [.int, .int, .int, .int, .int, .int], returnType := some .boolean }, accessFlags := 9, code := some k1c2 }
/-- com/example/dvarapala/dvarapala/LockNamesRequireValidPinLaw -/
def k1 : Class := { plain "com/example/dvarapala/dvarapala/LockNamesRequireValidPinLaw" (some 0) with
  accessFlags := 49
  interfaces := #[]
  cf := some (fileOf pool1 9 #[] #[{ accessFlags := 2, nameIndex := 5, descriptorIndex := 6, attributes := #[] }, { accessFlags := 10, nameIndex := 12, descriptorIndex := 13, attributes := #[] }, { accessFlags := 9, nameIndex := 33, descriptorIndex := 34, attributes := #[] }] 49 2 #[] #[])
  fields := #[]
  methods := #[k1m0, k1m1, k1m2]
  instanceTypes := #[]
  staticTypes := #[]
  resolved := Array.replicate 39 none
  statics := none }

def pool2 : Array CpInfo := pool [(1, .class_ 2), (0, u "java/io/Serializable"), (0, .class_ 4), (0, u "java/lang/Object")] 2

/-- java/io/Serializable -/
def k2 : Class := { plain "java/io/Serializable" (some 0) with
  accessFlags := 1537
  interfaces := #[]
  cf := some (fileOf pool2 1 #[] #[] 1537 3 #[] #[])
  fields := #[]
  methods := #[]
  instanceTypes := #[]
  staticTypes := #[]
  resolved := Array.replicate 7 none
  statics := none }

def pool3 : Array CpInfo := pool [(1, .class_ 2), (0, u "java/lang/Comparable"), (0, .class_ 4), (0, u "java/lang/Object")] 7

/-- java/lang/Comparable -/
def k3 : Class := { plain "java/lang/Comparable" (some 0) with
  accessFlags := 1537
  interfaces := #[]
  cf := some (fileOf pool3 1 #[] #[] 1537 3 #[] #[])
  fields := #[]
  methods := #[]
  instanceTypes := #[]
  staticTypes := #[]
  resolved := Array.replicate 12 none
  statics := none }

def pool4 : Array CpInfo := pool [(2, .class_ 4), (1, u "java/lang/CharSequence"), (42, .class_ 48), (0, u "java/lang/CharSequence$1CodePointIterator"), (10, .class_ 60), (0, u "java/lang/CharSequence$1CharIterator"), (5, .class_ 67), (0, u "java/lang/Object")] 63

/-- java/lang/CharSequence -/
def k4 : Class := { plain "java/lang/CharSequence" (some 0) with
  accessFlags := 1537
  interfaces := #[]
  cf := some (fileOf pool4 2 #[.nestMembers #[47, 59]] #[] 1537 66 #[] #[])
  fields := #[]
  methods := #[]
  instanceTypes := #[]
  staticTypes := #[]
  resolved := Array.replicate 131 none
  statics := none }

def pool5 : Array CpInfo := pool [(1, .class_ 2), (0, u "java/lang/constant/Constable"), (0, .class_ 4), (0, u "java/lang/Object")] 6

/-- java/lang/constant/Constable -/
def k5 : Class := { plain "java/lang/constant/Constable" (some 0) with
  accessFlags := 1537
  interfaces := #[]
  cf := some (fileOf pool5 1 #[] #[] 1537 3 #[] #[])
  fields := #[]
  methods := #[]
  instanceTypes := #[]
  staticTypes := #[]
  resolved := Array.replicate 11 none
  statics := none }

def pool6 : Array CpInfo := pool [(1, .class_ 2), (0, u "java/lang/constant/ConstantDesc"), (0, .class_ 4), (0, u "java/lang/Object")] 32

/-- java/lang/constant/ConstantDesc -/
def k6 : Class := { plain "java/lang/constant/ConstantDesc" (some 0) with
  accessFlags := 1537
  interfaces := #[]
  cf := some (fileOf pool6 1 #[] #[] 1537 3 #[] #[])
  fields := #[]
  methods := #[]
  instanceTypes := #[]
  staticTypes := #[]
  resolved := Array.replicate 37 none
  statics := none }

def pool7 : Array CpInfo := pool [(1, .methodref 2 3), (0, .class_ 4), (0, .nameAndType 5 6), (0, u "java/lang/Object"), (0, u "<init>"), (0, u "()V"), (2, .fieldref 10 11), (0, .class_ 12), (0, .nameAndType 13 14), (0, u "java/lang/String"), (0, u "value"), (0, u "[B"), (0, .fieldref 10 16), (0, .nameAndType 17 18), (0, u "coder"), (0, u "B"), (2, u "hash"), (0, u "I"), (2, u "hashIsZero"), (0, u "Z"), (0, .methodref 10 28), (0, .nameAndType 5 29), (0, u "([CIILjava/lang/Void;)V"), (8, .fieldref 10 39), (0, .nameAndType 40 26), (0, u "COMPACT_STRINGS"), (1, .class_ 44), (1, u "java/lang/StringUTF16"), (0, u "compress"), (1, .methodref 42 48), (0, .nameAndType 49 50), (0, u "coderFromArrayLen"), (0, u "([BI)B"), (56, .class_ 109), (1, u "java/lang/StringLatin1"), (32, u "()Z"), (34, .methodref 42 178), (0, .nameAndType 45 179), (0, u "([CII)[B"), (154, u "()I"), (0, .methodref 10 336), (0, .nameAndType 17 337), (0, u "()B"), (154, .methodref 10 493), (0, .nameAndType 494 142), (0, u "isLatin1"), (10, .methodref 10 506), (0, .nameAndType 507 334), (0, u "length"), (5, u "checkFromToIndex"), (9, u "checkBoundsBeginEnd"), (0, u "(III)V"), (50, .class_ 576), (0, u "java/lang/CharSequence"), (22, u "CASE_INSENSITIVE_ORDER"), (0, u "Ljava/util/Comparator;"), (32, .methodref 10 634), (0, .nameAndType 635 636), (0, u "indexOf"), (0, u "(II)I"), (0, .methodref 107 638), (0, .nameAndType 635 639), (0, u "([BIII)I"), (0, .methodref 42 638), (51, u "isEmpty"), (72, u "(I)I"), (244, u "([C)V"), (42, .fieldref 1054 1055), (0, .class_ 1056), (0, .nameAndType 1057 1058), (0, u "jdk/internal/util/Preconditions"), (0, u "SIOOBE_FORMATTER"), (0, u "Ljava/util/function/BiFunction;"), (3, .methodref 1054 1063), (0, .nameAndType 513 1064), (0, u "(IIILjava/util/function/BiFunction;)I"), (36, u "serialPersistentFields"), (0, u "[Ljava/io/ObjectStreamField;"), (0, .class_ 1104), (0, u "java/lang/String$CaseInsensitiveComparator"), (1, .class_ 1107), (0, u "java/io/Serializable"), (0, .class_ 1109), (0, u "java/lang/Comparable"), (0, .class_ 1111), (0, u "java/lang/constant/Constable"), (0, .class_ 1113), (0, u "java/lang/constant/ConstantDesc"), (2, u "serialVersionUID"), (0, u "J"), (3, u "REPL"), (0, u "C"), (2, u "LATIN1"), (1, u "UTF16")] 323

def k7m0 : Method := { name := "<init>", desc := "()V", sig := { parameters := [], returnType := none }, accessFlags := 1, code := none }
def k7c1 : Code := { maxStack := 5, maxLocals := 2, code := jdk_42_method_3_code, exceptionTable := #[], attributes := #[] }
def k7m1 : Method := { name := "<init>", desc := "([C)V", sig := { parameters := [(.array .char)], returnType := none }, accessFlags := 1, code := some k7c1 }
def k7c2 : Code := { maxStack := 2, maxLocals := 1, code := jdk_42_method_54_code, exceptionTable := #[], attributes := #[] }
def k7m2 : Method := { name := "length", desc := "()I", sig := { parameters := [], returnType := some .int }, accessFlags := 1, code := some k7c2 }
def k7c3 : Code := { maxStack := 1, maxLocals := 1, code := jdk_42_method_55_code, exceptionTable := #[], attributes := #[] }
def k7m3 : Method := { name := "isEmpty", desc := "()Z", sig := { parameters := [], returnType := some .boolean }, accessFlags := 1, code := some k7c3 }
def k7c4 : Code := { maxStack := 3, maxLocals := 2, code := jdk_42_method_79_code, exceptionTable := #[], attributes := #[] }
def k7m4 : Method := { name := "indexOf", desc := "(I)I", sig := { parameters := [.int], returnType := some .int }, accessFlags := 1, code := some k7c4 }
def k7c5 : Code := { maxStack := 4, maxLocals := 3, code := jdk_42_method_80_code, exceptionTable := #[], attributes := #[] }
def k7m5 : Method := { name := "indexOf", desc := "(II)I", sig := { parameters := [.int, .int], returnType := some .int }, accessFlags := 1, code := some k7c5 }
def k7c6 : Code := { maxStack := 4, maxLocals := 6, code := jdk_42_method_149_code, exceptionTable := #[], attributes := #[] }
def k7m6 : Method := { name := "<init>", desc := "([CIILjava/lang/Void;)V", sig := { parameters := [(.array .char), .int, .int, (.object "java/lang/Void")], returnType := none }, accessFlags := 2, code := some k7c6 }
def k7c7 : Code := { maxStack := 1, maxLocals := 1, code := jdk_42_method_152_code, exceptionTable := #[], attributes := #[] }
def k7m7 : Method := { name := "coder", desc := "()B", sig := { parameters := [], returnType := some .byte }, accessFlags := 0, code := some k7c7 }
def k7c8 : Code := { maxStack := 1, maxLocals := 1, code := jdk_42_method_154_code, exceptionTable := #[], attributes := #[] }
def k7m8 : Method := { name := "isLatin1", desc := "()Z", sig := { parameters := [], returnType := some .boolean }, accessFlags := 0, code := some k7c8 }
def k7c9 : Code := { maxStack := 4, maxLocals := 3, code := jdk_42_method_158_code, exceptionTable := #[], attributes := #[] }
def k7m9 : Method := { name := "checkBoundsBeginEnd", desc := "(III)V", sig := { parameters := [.int, .int, .int], returnType := none }, accessFlags := 8, code := some k7c9 }
/-- java/lang/String -/
def k7 : Class := { plain "java/lang/String" (some 0) with
  accessFlags := 49
  interfaces := #[2, 3, 4, 5, 6]
  cf := some (fileOf pool7 10 #[.nestMembers #[1103]] #[{ accessFlags := 1, nameIndex := 5, descriptorIndex := 6, attributes := #[] }, { accessFlags := 1, nameIndex := 5, descriptorIndex := 1010, attributes := #[] }, { accessFlags := 1, nameIndex := 507, descriptorIndex := 334, attributes := #[] }, { accessFlags := 1, nameIndex := 692, descriptorIndex := 142, attributes := #[] }, { accessFlags := 1, nameIndex := 635, descriptorIndex := 765, attributes := #[] }, { accessFlags := 1, nameIndex := 635, descriptorIndex := 636, attributes := #[] }, { accessFlags := 2, nameIndex := 5, descriptorIndex := 29, attributes := #[] }, { accessFlags := 0, nameIndex := 17, descriptorIndex := 337, attributes := #[] }, { accessFlags := 0, nameIndex := 494, descriptorIndex := 142, attributes := #[] }, { accessFlags := 8, nameIndex := 523, descriptorIndex := 524, attributes := #[] }] 49 2 #[1106, 1108, 575, 1110, 1112] #[{ accessFlags := 18, nameIndex := 13, descriptorIndex := 14, attributes := #[] }, { accessFlags := 18, nameIndex := 17, descriptorIndex := 18, attributes := #[] }, { accessFlags := 2, nameIndex := 21, descriptorIndex := 22, attributes := #[] }, { accessFlags := 2, nameIndex := 25, descriptorIndex := 26, attributes := #[] }, { accessFlags := 26, nameIndex := 1116, descriptorIndex := 1117, attributes := #[] }, { accessFlags := 24, nameIndex := 40, descriptorIndex := 26, attributes := #[] }, { accessFlags := 26, nameIndex := 1101, descriptorIndex := 1102, attributes := #[] }, { accessFlags := 26, nameIndex := 1121, descriptorIndex := 1122, attributes := #[] }, { accessFlags := 25, nameIndex := 599, descriptorIndex := 600, attributes := #[] }, { accessFlags := 24, nameIndex := 1125, descriptorIndex := 18, attributes := #[] }, { accessFlags := 24, nameIndex := 1127, descriptorIndex := 18, attributes := #[] }])
  fields := #[{ name := "value", type := (.array .byte), accessFlags := 18, slot := 0, constantValue := 0 }, { name := "coder", type := .byte, accessFlags := 18, slot := 1, constantValue := 0 }, { name := "hash", type := .int, accessFlags := 2, slot := 2, constantValue := 0 }, { name := "hashIsZero", type := .boolean, accessFlags := 2, slot := 3, constantValue := 0 }, { name := "serialVersionUID", type := .long, accessFlags := 26, slot := 0, constantValue := 0 }, { name := "COMPACT_STRINGS", type := .boolean, accessFlags := 24, slot := 1, constantValue := 0 }, { name := "serialPersistentFields", type := (.array (.object "java/io/ObjectStreamField")), accessFlags := 26, slot := 2, constantValue := 0 }, { name := "REPL", type := .char, accessFlags := 26, slot := 3, constantValue := 0 }, { name := "CASE_INSENSITIVE_ORDER", type := (.object "java/util/Comparator"), accessFlags := 25, slot := 4, constantValue := 0 }, { name := "LATIN1", type := .byte, accessFlags := 24, slot := 5, constantValue := 0 }, { name := "UTF16", type := .byte, accessFlags := 24, slot := 6, constantValue := 0 }]
  methods := #[k7m0, k7m1, k7m2, k7m3, k7m4, k7m5, k7m6, k7m7, k7m8, k7m9]
  instanceTypes := #[(.array .byte), .byte, .int, .boolean]
  staticTypes := #[.long, .boolean, (.array (.object "java/io/ObjectStreamField")), .char, (.object "java/util/Comparator"), .byte, .byte]
  resolved := Array.replicate 1451 none
  statics := some 0 }

def pool8 : Array CpInfo := pool [(3, .class_ 4), (0, u "java/lang/String"), (1, .class_ 8), (1, u "java/lang/Object"), (0, u "<init>"), (0, u "()V"), (0, .methodref 12 13), (0, .class_ 14), (0, .nameAndType 15 16), (0, u "java/lang/StringUTF16"), (0, u "newBytesLength"), (0, u "(I)I"), (3, .integer 1073741823), (23, .fieldref 12 45), (0, .nameAndType 46 47), (0, u "$assertionsDisabled"), (0, u "Z"), (0, .methodref 12 49), (0, .nameAndType 50 51), (0, u "length"), (0, u "([B)I"), (7, .fieldref 12 60), (0, .nameAndType 61 62), (0, u "HI_BYTE_SHIFT"), (0, u "I"), (0, .fieldref 12 64), (0, .nameAndType 65 62), (0, u "LO_BYTE_SHIFT"), (5, .methodref 12 72), (0, .nameAndType 73 74), (0, u "getChar"), (0, u "([BI)C"), (21, .methodref 12 97), (0, .nameAndType 98 99), (0, u "checkBoundsBeginEnd"), (0, u "(II[B)V"), (7, .methodref 12 108), (0, .nameAndType 109 110), (0, u "newBytesFor"), (0, u "(I)[B"), (0, .methodref 12 112), (0, .nameAndType 113 114), (0, u "putChar"), (0, u "([BII)V"), (0, .methodref 12 116), (0, .nameAndType 117 118), (0, u "compress"), (0, u "([CI[BII)I"), (0, .methodref 12 120), (0, .nameAndType 121 122), (0, u "toBytes"), (0, u "([CII)[B"), (60, .methodref 184 185), (0, .class_ 186), (0, .nameAndType 187 188), (0, u "java/lang/Math"), (0, u "min"), (0, u "(II)I"), (35, .methodref 184 225), (0, .nameAndType 226 188), (0, u "max"), (0, .integer 65536), (0, .methodref 12 229), (0, .nameAndType 230 231), (0, u "indexOfChar"), (0, u "([BIII)I"), (9, .methodref 3 242), (0, .nameAndType 98 243), (0, u "(III)V"), (0, .methodref 12 245), (0, .nameAndType 246 231), (0, u "indexOfCharUnsafe"), (14, u "coderFromArrayLen"), (0, u "([BI)B"), (5, u "indexOf"), (100, .class_ 371), (1, u "java/lang/StringUTF16$LinesSpliterator"), (58, u "MAX_LENGTH"), (196, .class_ 628), (0, u "java/lang/StringUTF16$CodePointsSpliterator"), (0, .class_ 630), (0, u "java/lang/StringUTF16$CharsSpliterator")] 4

def k8m0 : Method := { name := "<init>", desc := "()V", sig := { parameters := [], returnType := none }, accessFlags := 0, code := none }
def k8c1 : Code := { maxStack := 1, maxLocals := 1, code := jdk_52_method_2_code, exceptionTable := #[], attributes := #[] }
def k8m1 : Method := { name := "newBytesFor", desc := "(I)[B", sig := { parameters := [.int], returnType := some (.array .byte) }, accessFlags := 9, code := some k8c1 }
def k8c2 : Code := { maxStack := 4, maxLocals := 1, code := jdk_52_method_3_code, exceptionTable := #[], attributes := #[] }
def k8m2 : Method := { name := "newBytesLength", desc := "(I)I", sig := { parameters := [.int], returnType := some .int }, accessFlags := 9, code := some k8c2 }
def k8c3 : Code := { maxStack := 4, maxLocals := 3, code := jdk_52_method_4_code, exceptionTable := #[], attributes := #[] }
def k8m3 : Method := { name := "putChar", desc := "([BII)V", sig := { parameters := [(.array .byte), .int, .int], returnType := none }, accessFlags := 8, code := some k8c3 }
def k8c4 : Code := { maxStack := 3, maxLocals := 2, code := jdk_52_method_5_code, exceptionTable := #[], attributes := #[] }
def k8m4 : Method := { name := "getChar", desc := "([BI)C", sig := { parameters := [(.array .byte), .int], returnType := some .char }, accessFlags := 8, code := some k8c4 }
def k8c5 : Code := { maxStack := 2, maxLocals := 1, code := jdk_52_method_6_code, exceptionTable := #[], attributes := #[] }
def k8m5 : Method := { name := "length", desc := "([B)I", sig := { parameters := [(.array .byte)], returnType := some .int }, accessFlags := 9, code := some k8c5 }
def k8c6 : Code := { maxStack := 4, maxLocals := 5, code := jdk_52_method_14_code, exceptionTable := #[], attributes := #[] }
def k8m6 : Method := { name := "toBytes", desc := "([CII)[B", sig := { parameters := [(.array .char), .int, .int], returnType := some (.array .byte) }, accessFlags := 9, code := some k8c6 }
def k8c7 : Code := { maxStack := 2, maxLocals := 2, code := jdk_52_method_15_code, exceptionTable := #[], attributes := #[] }
def k8m7 : Method := { name := "coderFromArrayLen", desc := "([BI)B", sig := { parameters := [(.array .byte), .int], returnType := some .byte }, accessFlags := 8, code := some k8c7 }
def k8c8 : Code := { maxStack := 5, maxLocals := 6, code := jdk_52_method_16_code, exceptionTable := #[], attributes := #[] }
def k8m8 : Method := { name := "compress", desc := "([CII)[B", sig := { parameters := [(.array .char), .int, .int], returnType := some (.array .byte) }, accessFlags := 9, code := some k8c8 }
def k8c9 : Code := { maxStack := 3, maxLocals := 7, code := jdk_52_method_21_code, exceptionTable := #[], attributes := #[] }
def k8m9 : Method := { name := "compress", desc := "([CI[BII)I", sig := { parameters := [(.array .char), .int, (.array .byte), .int, .int], returnType := some .int }, accessFlags := 9, code := some k8c9 }
def k8c10 : Code := { maxStack := 4, maxLocals := 4, code := jdk_52_method_40_code, exceptionTable := #[], attributes := #[] }
def k8m10 : Method := { name := "indexOf", desc := "([BIII)I", sig := { parameters := [(.array .byte), .int, .int, .int], returnType := some .int }, accessFlags := 9, code := some k8c10 }
def k8c11 : Code := { maxStack := 4, maxLocals := 4, code := jdk_52_method_47_code, exceptionTable := #[], attributes := #[] }
def k8m11 : Method := { name := "indexOfChar", desc := "([BIII)I", sig := { parameters := [(.array .byte), .int, .int, .int], returnType := some .int }, accessFlags := 10, code := some k8c11 }
def k8c12 : Code := { maxStack := 2, maxLocals := 5, code := jdk_52_method_48_code, exceptionTable := #[], attributes := #[] }
def k8m12 : Method := { name := "indexOfCharUnsafe", desc := "([BIII)I", sig := { parameters := [(.array .byte), .int, .int, .int], returnType := some .int }, accessFlags := 10, code := some k8c12 }
def k8c13 : Code := { maxStack := 3, maxLocals := 3, code := jdk_52_method_93_code, exceptionTable := #[], attributes := #[] }
def k8m13 : Method := { name := "checkBoundsBeginEnd", desc := "(II[B)V", sig := { parameters := [.int, .int, (.array .byte)], returnType := none }, accessFlags := 9, code := some k8c13 }
/-- java/lang/StringUTF16 -/
def k8 : Class := { plain "java/lang/StringUTF16" (some 0) with
  accessFlags := 48
  interfaces := #[]
  cf := some (fileOf pool8 12 #[.nestMembers #[627, 629, 369]] #[{ accessFlags := 0, nameIndex := 9, descriptorIndex := 10, attributes := #[] }, { accessFlags := 9, nameIndex := 109, descriptorIndex := 110, attributes := #[] }, { accessFlags := 9, nameIndex := 15, descriptorIndex := 16, attributes := #[] }, { accessFlags := 8, nameIndex := 113, descriptorIndex := 114, attributes := #[] }, { accessFlags := 8, nameIndex := 73, descriptorIndex := 74, attributes := #[] }, { accessFlags := 9, nameIndex := 50, descriptorIndex := 51, attributes := #[] }, { accessFlags := 9, nameIndex := 121, descriptorIndex := 122, attributes := #[] }, { accessFlags := 8, nameIndex := 261, descriptorIndex := 262, attributes := #[] }, { accessFlags := 9, nameIndex := 117, descriptorIndex := 122, attributes := #[] }, { accessFlags := 9, nameIndex := 117, descriptorIndex := 118, attributes := #[] }, { accessFlags := 9, nameIndex := 268, descriptorIndex := 231, attributes := #[] }, { accessFlags := 10, nameIndex := 230, descriptorIndex := 231, attributes := #[] }, { accessFlags := 10, nameIndex := 246, descriptorIndex := 231, attributes := #[] }, { accessFlags := 9, nameIndex := 98, descriptorIndex := 99, attributes := #[] }] 48 6 #[] #[{ accessFlags := 26, nameIndex := 61, descriptorIndex := 62, attributes := #[] }, { accessFlags := 26, nameIndex := 65, descriptorIndex := 62, attributes := #[] }, { accessFlags := 24, nameIndex := 430, descriptorIndex := 62, attributes := #[] }, { accessFlags := 4120, nameIndex := 46, descriptorIndex := 47, attributes := #[] }])
  fields := #[{ name := "HI_BYTE_SHIFT", type := .int, accessFlags := 26, slot := 0, constantValue := 0 }, { name := "LO_BYTE_SHIFT", type := .int, accessFlags := 26, slot := 1, constantValue := 0 }, { name := "MAX_LENGTH", type := .int, accessFlags := 24, slot := 2, constantValue := 0 }, { name := "$assertionsDisabled", type := .boolean, accessFlags := 4120, slot := 3, constantValue := 0 }]
  methods := #[k8m0, k8m1, k8m2, k8m3, k8m4, k8m5, k8m6, k8m7, k8m8, k8m9, k8m10, k8m11, k8m12, k8m13]
  instanceTypes := #[]
  staticTypes := #[.int, .int, .int, .boolean]
  resolved := Array.replicate 635 none
  statics := some 1 }

def pool9 : Array CpInfo := pool [(2, .class_ 4), (1, u "java/lang/Object"), (0, u "<init>"), (0, u "()V"), (0, .string 8), (0, u "lock name must not be null"), (0, .methodref 10 11), (0, .class_ 12), (0, .nameAndType 13 14), (0, u "java/util/Objects"), (0, u "requireNonNull"), (0, u "(Ljava/lang/Object;Ljava/lang/String;)Ljava/lang/Object;"), (0, .methodref 16 17), (0, .class_ 18), (0, .nameAndType 19 20), (0, u "java/lang/String"), (0, u "isEmpty"), (0, u "()Z"), (0, .methodref 16 22), (0, .nameAndType 23 24), (0, u "length"), (0, u "()I"), (0, .class_ 26), (0, u "com/example/dvarapala/dvarapala/LockNames"), (9, .methodref 16 37), (0, .nameAndType 38 39), (0, u "indexOf"), (0, u "(I)I"), (2, u "(Ljava/lang/String;)Ljava/lang/String;"), (0, u "MAX_LENGTH"), (0, u "I"), (4, u "requireValid")] 20

def k9m0 : Method := { name := "<init>", desc := "()V", sig := { parameters := [], returnType := none }, accessFlags := 2, code := none }
def k9c1 : Code := { maxStack := 3, maxLocals := 1, code := prog_4_method_2_code, exceptionTable := #[], attributes := #[] }
def k9m1 : Method := { name := "requireValid", desc := "(Ljava/lang/String;)Ljava/lang/String;", sig := { parameters := [(.object "java/lang/String")], returnType := some (.object "java/lang/String") }, accessFlags := 9, code := some k9c1 }
/-- com/example/dvarapala/dvarapala/LockNames -/
def k9 : Class := { plain "com/example/dvarapala/dvarapala/LockNames" (some 0) with
  accessFlags := 49
  interfaces := #[]
  cf := some (fileOf pool9 25 #[] #[{ accessFlags := 2, nameIndex := 5, descriptorIndex := 6, attributes := #[] }, { accessFlags := 9, nameIndex := 49, descriptorIndex := 42, attributes := #[] }] 49 2 #[] #[{ accessFlags := 25, nameIndex := 43, descriptorIndex := 44, attributes := #[] }])
  fields := #[{ name := "MAX_LENGTH", type := .int, accessFlags := 25, slot := 0, constantValue := 0 }]
  methods := #[k9m0, k9m1]
  instanceTypes := #[]
  staticTypes := #[.int]
  resolved := Array.replicate 70 none
  statics := none }

def pool10 : Array CpInfo := pool [(2, .class_ 4), (1, u "java/lang/Object"), (0, u "<init>"), (0, u "()V"), (35, .class_ 44), (1, u "java/util/Objects"), (0, u "requireNonNull"), (48, u "(Ljava/lang/Object;Ljava/lang/String;)Ljava/lang/Object;")] 89

def k10m0 : Method := { name := "<init>", desc := "()V", sig := { parameters := [], returnType := none }, accessFlags := 2, code := none }
def k10c1 : Code := { maxStack := 3, maxLocals := 2, code := jdk_31_method_11_code, exceptionTable := #[], attributes := #[] }
def k10m1 : Method := { name := "requireNonNull", desc := "(Ljava/lang/Object;Ljava/lang/String;)Ljava/lang/Object;", sig := { parameters := [(.object "java/lang/Object"), (.object "java/lang/String")], returnType := some (.object "java/lang/Object") }, accessFlags := 9, code := some k10c1 }
/-- java/util/Objects -/
def k10 : Class := { plain "java/util/Objects" (some 0) with
  accessFlags := 49
  interfaces := #[]
  cf := some (fileOf pool10 42 #[] #[{ accessFlags := 2, nameIndex := 5, descriptorIndex := 6, attributes := #[] }, { accessFlags := 9, nameIndex := 45, descriptorIndex := 94, attributes := #[] }] 49 2 #[] #[])
  fields := #[]
  methods := #[k10m0, k10m1]
  instanceTypes := #[]
  staticTypes := #[]
  resolved := Array.replicate 184 none
  statics := none }

def pool11 : Array CpInfo := pool [(4, .class_ 6), (1, u "java/lang/Object"), (0, u "<init>"), (0, u "()V"), (5, .class_ 16), (1, u "java/lang/StringLatin1"), (21, .methodref 39 40), (0, .class_ 41), (0, .nameAndType 42 43), (0, u "java/lang/Math"), (0, u "min"), (0, u "(II)I"), (44, .methodref 14 89), (0, .nameAndType 90 91), (0, u "canEncode"), (0, u "(I)Z"), (0, .methodref 39 93), (0, .nameAndType 94 43), (0, u "max"), (0, .methodref 14 96), (0, .nameAndType 97 98), (0, u "indexOfChar"), (0, u "([BIII)I"), (2, u "indexOf"), (19, u "$assertionsDisabled"), (0, u "Z"), (98, .class_ 223), (1, u "java/lang/StringLatin1$LinesSpliterator"), (166, .class_ 391), (0, u "java/lang/StringLatin1$CharsSpliterator")] 3

def k11m0 : Method := { name := "<init>", desc := "()V", sig := { parameters := [], returnType := none }, accessFlags := 0, code := none }
def k11c1 : Code := { maxStack := 2, maxLocals := 1, code := jdk_43_method_4_code, exceptionTable := #[], attributes := #[] }
def k11m1 : Method := { name := "canEncode", desc := "(I)Z", sig := { parameters := [.int], returnType := some .boolean }, accessFlags := 9, code := some k11c1 }
def k11c2 : Code := { maxStack := 4, maxLocals := 4, code := jdk_43_method_22_code, exceptionTable := #[], attributes := #[] }
def k11m2 : Method := { name := "indexOf", desc := "([BIII)I", sig := { parameters := [(.array .byte), .int, .int, .int], returnType := some .int }, accessFlags := 9, code := some k11c2 }
def k11c3 : Code := { maxStack := 2, maxLocals := 6, code := jdk_43_method_23_code, exceptionTable := #[], attributes := #[] }
def k11m3 : Method := { name := "indexOfChar", desc := "([BIII)I", sig := { parameters := [(.array .byte), .int, .int, .int], returnType := some .int }, accessFlags := 10, code := some k11c3 }
/-- java/lang/StringLatin1 -/
def k11 : Class := { plain "java/lang/StringLatin1" (some 0) with
  accessFlags := 48
  interfaces := #[]
  cf := some (fileOf pool11 14 #[.nestMembers #[390, 221]] #[{ accessFlags := 0, nameIndex := 7, descriptorIndex := 8, attributes := #[] }, { accessFlags := 9, nameIndex := 90, descriptorIndex := 91, attributes := #[] }, { accessFlags := 9, nameIndex := 101, descriptorIndex := 98, attributes := #[] }, { accessFlags := 10, nameIndex := 97, descriptorIndex := 98, attributes := #[] }] 48 4 #[] #[{ accessFlags := 4120, nameIndex := 121, descriptorIndex := 122, attributes := #[] }])
  fields := #[{ name := "$assertionsDisabled", type := .boolean, accessFlags := 4120, slot := 0, constantValue := 0 }]
  methods := #[k11m0, k11m1, k11m2, k11m3]
  instanceTypes := #[]
  staticTypes := #[.boolean]
  resolved := Array.replicate 395 none
  statics := none }

def pool12 : Array CpInfo := pool [(1, .class_ 2), (0, u "java/lang/Math"), (1, .class_ 6), (1, u "java/lang/Object"), (0, u "<init>"), (0, u "()V"), (89, .class_ 100), (1, u "java/lang/Math$RandomNumberGeneratorHolder"), (71, u "negativeZeroFloatBits"), (0, u "J"), (2, u "negativeZeroDoubleBits"), (21, u "max"), (2, u "min"), (43, u "$assertionsDisabled"), (0, u "Z"), (88, u "(II)I"), (2, u "twoToTheDoubleScaleDown"), (0, u "D"), (4, u "twoToTheDoubleScaleUp"), (9, u "E"), (3, u "PI"), (2, u "TAU"), (2, u "DEGREES_TO_RADIANS"), (0, u "RADIANS_TO_DEGREES")] 94

def k12m0 : Method := { name := "<init>", desc := "()V", sig := { parameters := [], returnType := none }, accessFlags := 2, code := none }
def k12c1 : Code := { maxStack := 2, maxLocals := 2, code := jdk_29_method_65_code, exceptionTable := #[], attributes := #[] }
def k12m1 : Method := { name := "max", desc := "(II)I", sig := { parameters := [.int, .int], returnType := some .int }, accessFlags := 9, code := some k12c1 }
def k12c2 : Code := { maxStack := 2, maxLocals := 2, code := jdk_29_method_69_code, exceptionTable := #[], attributes := #[] }
def k12m2 : Method := { name := "min", desc := "(II)I", sig := { parameters := [.int, .int], returnType := some .int }, accessFlags := 9, code := some k12c2 }
/-- java/lang/Math -/
def k12 : Class := { plain "java/lang/Math" (some 0) with
  accessFlags := 49
  interfaces := #[]
  cf := some (fileOf pool12 1 #[.nestMembers #[98]] #[{ accessFlags := 2, nameIndex := 7, descriptorIndex := 8, attributes := #[] }, { accessFlags := 9, nameIndex := 198, descriptorIndex := 335, attributes := #[] }, { accessFlags := 9, nameIndex := 201, descriptorIndex := 335, attributes := #[] }] 49 4 #[] #[{ accessFlags := 25, nameIndex := 354, descriptorIndex := 339, attributes := #[] }, { accessFlags := 25, nameIndex := 358, descriptorIndex := 339, attributes := #[] }, { accessFlags := 25, nameIndex := 361, descriptorIndex := 339, attributes := #[] }, { accessFlags := 26, nameIndex := 364, descriptorIndex := 339, attributes := #[] }, { accessFlags := 26, nameIndex := 365, descriptorIndex := 339, attributes := #[] }, { accessFlags := 26, nameIndex := 172, descriptorIndex := 173, attributes := #[] }, { accessFlags := 26, nameIndex := 176, descriptorIndex := 173, attributes := #[] }, { accessFlags := 8, nameIndex := 344, descriptorIndex := 339, attributes := #[] }, { accessFlags := 8, nameIndex := 338, descriptorIndex := 339, attributes := #[] }, { accessFlags := 4120, nameIndex := 245, descriptorIndex := 246, attributes := #[] }])
  fields := #[{ name := "E", type := .double, accessFlags := 25, slot := 0, constantValue := 0 }, { name := "PI", type := .double, accessFlags := 25, slot := 1, constantValue := 0 }, { name := "TAU", type := .double, accessFlags := 25, slot := 2, constantValue := 0 }, { name := "DEGREES_TO_RADIANS", type := .double, accessFlags := 26, slot := 3, constantValue := 0 }, { name := "RADIANS_TO_DEGREES", type := .double, accessFlags := 26, slot := 4, constantValue := 0 }, { name := "negativeZeroFloatBits", type := .long, accessFlags := 26, slot := 5, constantValue := 0 }, { name := "negativeZeroDoubleBits", type := .long, accessFlags := 26, slot := 6, constantValue := 0 }, { name := "twoToTheDoubleScaleUp", type := .double, accessFlags := 8, slot := 7, constantValue := 0 }, { name := "twoToTheDoubleScaleDown", type := .double, accessFlags := 8, slot := 8, constantValue := 0 }, { name := "$assertionsDisabled", type := .boolean, accessFlags := 4120, slot := 9, constantValue := 0 }]
  methods := #[k12m0, k12m1, k12m2]
  instanceTypes := #[]
  staticTypes := #[.double, .double, .double, .double, .double, .long, .long, .double, .double, .boolean]
  resolved := Array.replicate 460 none
  statics := none }

def pool13 : Array CpInfo := pool [(2, .class_ 4), (1, u "java/lang/Object"), (0, u "<init>"), (0, u "()V"), (17, .class_ 26), (1, u "jdk/internal/util/Preconditions"), (20, u "checkFromToIndex"), (7, .class_ 56), (0, u "jdk/internal/util/Preconditions$4"), (57, .class_ 115), (0, u "jdk/internal/util/Preconditions$1"), (7, u "SIOOBE_FORMATTER"), (0, u "Ljava/util/function/BiFunction;"), (0, .class_ 126), (0, u "jdk/internal/util/Preconditions$2"), (3, u "AIOOBE_FORMATTER"), (0, .class_ 132), (0, u "jdk/internal/util/Preconditions$3"), (3, u "IOOBE_FORMATTER"), (46, u "(IIILjava/util/function/BiFunction;)I")] 10

def k13m0 : Method := { name := "<init>", desc := "()V", sig := { parameters := [], returnType := none }, accessFlags := 1, code := none }
def k13c1 : Code := { maxStack := 4, maxLocals := 4, code := jdk_41_method_12_code, exceptionTable := #[], attributes := #[] }
def k13m1 : Method := { name := "checkFromToIndex", desc := "(IIILjava/util/function/BiFunction;)I", sig := { parameters := [.int, .int, .int, (.object "java/util/function/BiFunction")], returnType := some .int }, accessFlags := 9, code := some k13c1 }
/-- jdk/internal/util/Preconditions -/
def k13 : Class := { plain "jdk/internal/util/Preconditions" (some 0) with
  accessFlags := 33
  interfaces := #[]
  cf := some (fileOf pool13 24 #[.nestMembers #[55, 131, 125, 114]] #[{ accessFlags := 1, nameIndex := 5, descriptorIndex := 6, attributes := #[] }, { accessFlags := 9, nameIndex := 47, descriptorIndex := 183, attributes := #[] }] 33 2 #[] #[{ accessFlags := 25, nameIndex := 123, descriptorIndex := 124, attributes := #[] }, { accessFlags := 25, nameIndex := 130, descriptorIndex := 124, attributes := #[] }, { accessFlags := 25, nameIndex := 136, descriptorIndex := 124, attributes := #[] }])
  fields := #[{ name := "SIOOBE_FORMATTER", type := (.object "java/util/function/BiFunction"), accessFlags := 25, slot := 0, constantValue := 0 }, { name := "AIOOBE_FORMATTER", type := (.object "java/util/function/BiFunction"), accessFlags := 25, slot := 1, constantValue := 0 }, { name := "IOOBE_FORMATTER", type := (.object "java/util/function/BiFunction"), accessFlags := 25, slot := 2, constantValue := 0 }]
  methods := #[k13m0, k13m1]
  instanceTypes := #[]
  staticTypes := #[(.object "java/util/function/BiFunction"), (.object "java/util/function/BiFunction"), (.object "java/util/function/BiFunction")]
  resolved := Array.replicate 194 none
  statics := some 2 }

def pool14 : Array CpInfo := pool [(9, u "<init>"), (6, .class_ 18), (1, u "java/lang/Object"), (0, u "()V"), (1, .class_ 23), (1, u "jdk/internal/util/ArraysSupport"), (0, u "LOG2_ARRAY_LONG_INDEX_SCALE"), (0, u "I"), (2, u "U"), (0, u "Ljdk/internal/misc/Unsafe;"), (8, u "BIG_ENDIAN"), (0, u "Z"), (8, u "LOG2_BYTE_BIT_SIZE"), (4, u "LOG2_ARRAY_INT_INDEX_SCALE"), (54, u "JLA"), (0, u "Ljdk/internal/access/JavaLangAccess;"), (11, u "LOG2_ARRAY_BOOLEAN_INDEX_SCALE"), (9, u "LOG2_ARRAY_BYTE_INDEX_SCALE"), (5, u "LOG2_ARRAY_CHAR_INDEX_SCALE"), (5, u "LOG2_ARRAY_SHORT_INDEX_SCALE"), (18, u "LOG2_ARRAY_FLOAT_INDEX_SCALE"), (24, u "LOG2_ARRAY_DOUBLE_INDEX_SCALE"), (89, u "T_BOOLEAN"), (2, u "T_CHAR"), (1, u "T_FLOAT"), (1, u "T_DOUBLE"), (1, u "T_BYTE"), (1, u "T_SHORT"), (1, u "T_INT"), (1, u "T_LONG"), (1, u "SOFT_MAX_ARRAY_LENGTH")] 83

def k14m0 : Method := { name := "<init>", desc := "()V", sig := { parameters := [], returnType := none }, accessFlags := 2, code := none }
/-- jdk/internal/util/ArraysSupport -/
def k14 : Class := { plain "jdk/internal/util/ArraysSupport" (some 0) with
  accessFlags := 33
  interfaces := #[]
  cf := some (fileOf pool14 21 #[] #[{ accessFlags := 2, nameIndex := 9, descriptorIndex := 19, attributes := #[] }] 33 16 #[] #[{ accessFlags := 24, nameIndex := 28, descriptorIndex := 29, attributes := #[] }, { accessFlags := 26, nameIndex := 38, descriptorIndex := 39, attributes := #[] }, { accessFlags := 25, nameIndex := 121, descriptorIndex := 25, attributes := #[] }, { accessFlags := 25, nameIndex := 131, descriptorIndex := 25, attributes := #[] }, { accessFlags := 25, nameIndex := 137, descriptorIndex := 25, attributes := #[] }, { accessFlags := 25, nameIndex := 143, descriptorIndex := 25, attributes := #[] }, { accessFlags := 25, nameIndex := 53, descriptorIndex := 25, attributes := #[] }, { accessFlags := 25, nameIndex := 24, descriptorIndex := 25, attributes := #[] }, { accessFlags := 25, nameIndex := 162, descriptorIndex := 25, attributes := #[] }, { accessFlags := 25, nameIndex := 187, descriptorIndex := 25, attributes := #[] }, { accessFlags := 26, nameIndex := 48, descriptorIndex := 25, attributes := #[] }, { accessFlags := 25, nameIndex := 277, descriptorIndex := 25, attributes := #[] }, { accessFlags := 25, nameIndex := 280, descriptorIndex := 25, attributes := #[] }, { accessFlags := 25, nameIndex := 282, descriptorIndex := 25, attributes := #[] }, { accessFlags := 25, nameIndex := 284, descriptorIndex := 25, attributes := #[] }, { accessFlags := 25, nameIndex := 286, descriptorIndex := 25, attributes := #[] }, { accessFlags := 25, nameIndex := 288, descriptorIndex := 25, attributes := #[] }, { accessFlags := 25, nameIndex := 290, descriptorIndex := 25, attributes := #[] }, { accessFlags := 25, nameIndex := 292, descriptorIndex := 25, attributes := #[] }, { accessFlags := 26, nameIndex := 108, descriptorIndex := 109, attributes := #[] }, { accessFlags := 25, nameIndex := 294, descriptorIndex := 25, attributes := #[] }])
  fields := #[{ name := "U", type := (.object "jdk/internal/misc/Unsafe"), accessFlags := 24, slot := 0, constantValue := 0 }, { name := "BIG_ENDIAN", type := .boolean, accessFlags := 26, slot := 1, constantValue := 0 }, { name := "LOG2_ARRAY_BOOLEAN_INDEX_SCALE", type := .int, accessFlags := 25, slot := 2, constantValue := 0 }, { name := "LOG2_ARRAY_BYTE_INDEX_SCALE", type := .int, accessFlags := 25, slot := 3, constantValue := 0 }, { name := "LOG2_ARRAY_CHAR_INDEX_SCALE", type := .int, accessFlags := 25, slot := 4, constantValue := 0 }, { name := "LOG2_ARRAY_SHORT_INDEX_SCALE", type := .int, accessFlags := 25, slot := 5, constantValue := 0 }, { name := "LOG2_ARRAY_INT_INDEX_SCALE", type := .int, accessFlags := 25, slot := 6, constantValue := 0 }, { name := "LOG2_ARRAY_LONG_INDEX_SCALE", type := .int, accessFlags := 25, slot := 7, constantValue := 0 }, { name := "LOG2_ARRAY_FLOAT_INDEX_SCALE", type := .int, accessFlags := 25, slot := 8, constantValue := 0 }, { name := "LOG2_ARRAY_DOUBLE_INDEX_SCALE", type := .int, accessFlags := 25, slot := 9, constantValue := 0 }, { name := "LOG2_BYTE_BIT_SIZE", type := .int, accessFlags := 26, slot := 10, constantValue := 0 }, { name := "T_BOOLEAN", type := .int, accessFlags := 25, slot := 11, constantValue := 0 }, { name := "T_CHAR", type := .int, accessFlags := 25, slot := 12, constantValue := 0 }, { name := "T_FLOAT", type := .int, accessFlags := 25, slot := 13, constantValue := 0 }, { name := "T_DOUBLE", type := .int, accessFlags := 25, slot := 14, constantValue := 0 }, { name := "T_BYTE", type := .int, accessFlags := 25, slot := 15, constantValue := 0 }, { name := "T_SHORT", type := .int, accessFlags := 25, slot := 16, constantValue := 0 }, { name := "T_INT", type := .int, accessFlags := 25, slot := 17, constantValue := 0 }, { name := "T_LONG", type := .int, accessFlags := 25, slot := 18, constantValue := 0 }, { name := "JLA", type := (.object "jdk/internal/access/JavaLangAccess"), accessFlags := 26, slot := 19, constantValue := 0 }, { name := "SOFT_MAX_ARRAY_LENGTH", type := .int, accessFlags := 25, slot := 20, constantValue := 0 }]
  methods := #[k14m0]
  instanceTypes := #[]
  staticTypes := #[(.object "jdk/internal/misc/Unsafe"), .boolean, .int, .int, .int, .int, .int, .int, .int, .int, .int, .int, .int, .int, .int, .int, .int, .int, .int, (.object "jdk/internal/access/JavaLangAccess"), .int]
  resolved := Array.replicate 378 none
  statics := none }

def pool15 : Array CpInfo := pool [(1, u "java/lang/Cloneable"), (0, .class_ 1), (0, u "java/lang/Object"), (0, .class_ 3)] 3

/-- java/lang/Cloneable -/
def k15 : Class := { plain "java/lang/Cloneable" (some 0) with
  accessFlags := 1537
  interfaces := #[]
  cf := some (fileOf pool15 2 #[] #[] 1537 4 #[] #[])
  fields := #[]
  methods := #[]
  instanceTypes := #[]
  staticTypes := #[]
  resolved := Array.replicate 8 none
  statics := none }

/-- the primitive byte -/
def k16 : Class := { plain "byte" none with kind := .primitive 'B', accessFlags := 0x411 }
/-- [B -/
def k17 : Class := { plain "[B" (some 0) with kind := .array 16 .byte, interfaces := #[15, 2], accessFlags := 1041 }

/-- the primitive char -/
def k18 : Class := { plain "char" none with kind := .primitive 'C', accessFlags := 0x411 }
/-- [C -/
def k19 : Class := { plain "[C" (some 0) with kind := .array 18 .char, interfaces := #[15, 2], accessFlags := 1041 }

/-- the primitive int -/
def k20 : Class := { plain "int" none with kind := .primitive 'I', accessFlags := 0x411 }
/-- [I -/
def k21 : Class := { plain "[I" (some 0) with kind := .array 20 .int, interfaces := #[15, 2], accessFlags := 1041 }

def heap : Heap := #[{ cls := 7, slots := #[.long 0, .int 1, .null, .int 0, .null, .int 0, .int 0], vm := .statics 7 },
  { cls := 8, slots := #[.int 0, .int 8, .int 0, .int 1], vm := .statics 8 },
  { cls := 13, slots := #[.null, .null, .null], vm := .statics 13 }]
def classes : Array Class := #[k0, k1, k2, k3, k4, k5, k6, k7, k8, k9, k10, k11, k12, k13, k14, k15, k16, k17, k18, k19, k20, k21]
def interned : List (Array UInt16 × Addr) := []
def slotsUsed : Nat := 14
def theMethod : MethodId := ⟨1, 2⟩
def args0 : Array Value := #[.int 5, .int 6, .int 7, .int 8, .int 9, .int 10]
def aboutOver (below : List Frame) : State where
  vm := { classes := classes, interned := interned.toArray }
  heap := heap
  slotsUsed := slotsUsed
  threads := #[{ frames := .invoking theMethod args0 :: below }]
def below0 : List Frame := [.native { method := ⟨0, 0⟩, args := #[] }]
def about1 : State := aboutOver below0
def p0 : Program := .bare "" "" ""
def e0 : Env := launch0.env 0 0 0
theorem w_frames : about1.frames = Frame.invoking theMethod args0 :: below0 := rfl
set_option maxRecDepth 65536 in
theorem w_args : argsFit about1.vm theMethod args0 = true := by decide +kernel
set_option maxRecDepth 65536 in
theorem w_heap : heapFits about1 = true := by decide +kernel
set_option maxRecDepth 65536 in
theorem w_runnable : about1.curStatus? = some .runnable := by decide +kernel
set_option maxRecDepth 65536 in
theorem w_alone : about1.alone = true := by decide +kernel
set_option maxRecDepth 65536 in
theorem w_named : about1.methodNamed? x = some theMethod := by decide +kernel
set_option maxRecDepth 65536 in
theorem w_hears : about1.hears theMethod below0 = true := by decide +kernel
set_option maxRecDepth 65536 in
theorem w_ripe : about1.ripe theMethod args0 below0 = true := by decide +kernel
theorem w_running : about1.status = .running := rfl
set_option maxRecDepth 65536 in
theorem w_room : about1.hasRoom e0.platform room_1 = true :=
  launch0.hasRoom_least _ room_1 (by decide +kernel) (by decide +kernel) (by decide +kernel) (by decide +kernel) (by decide +kernel) (by decide +kernel)
theorem allAtoms_all (ts : List Jvm.Cond) (a : Array Jvm.Value) (st : Jvm.State) : (allAtoms ts).before a st = ts.all (fun c => c.before a st) := by
  induction ts with
  | nil => rfl
  | cons c t ih =>
    show (Jvm.Cond.and c (allAtoms t)).before a st = _
    rw [Jvm.Cond.before_and, ih, List.all_cons]
def words1 : List Jvm.Cond := Jvm.Cond.code x code maxLocals ret :: tables_1
/-- a 'code' word, met by the world's own term for the bytes: nothing is compared byte by byte -/
theorem code_word {y : MethodName} {bytes : ByteArray} {mx : Nat} {rt : Option FieldType} {a : Array Value} {s : State} {m : MethodId} {meth : Method} {c : Code} (h1 : s.methodNamed? y = some m) (h2 : s.vm.method? m = some meth) (h3 : meth.code = some c) (h4 : c.code = bytes)
    (h5 : (c.maxLocals == mx && c.exceptionTable.isEmpty && decide (c.maxStack ≤ mostOperands) && decide (meth.sig.returnType = rt) && !meth.locks && decide (parseMethodDescriptor y.desc = some meth.sig)) = true) : (Jvm.Cond.code y bytes mx rt).before a s = true := by
  simp only [Bool.and_eq_true, beq_iff_eq, Bool.not_eq_true', decide_eq_true_eq] at h5
  obtain ⟨⟨⟨⟨⟨g1, g2⟩, g3⟩, g4⟩, g5⟩, g6⟩ := h5
  simp [Cond.before, Cond.holds, Cond.value, h1, h2, h3, h4, g1, g2, g3, g4, g5, g6]
def isCode : Jvm.Cond → Bool
  | .code _ _ _ _ => true
  | _ => false
theorem all_split {L : List Jvm.Cond} {P : Jvm.Cond → Bool} (h1 : L.all (fun c => isCode c || P c) = true) (h2 : ∀ c ∈ L.filter isCode, P c = true) : L.all P = true := by
  refine List.all_eq_true.mpr fun c hc => ?_
  have h := List.all_eq_true.mp h1 c hc
  rcases Bool.eq_false_or_eq_true (isCode c) with hi | hi
  · exact h2 c (List.mem_filter.mpr ⟨hc, hi⟩)
  · simpa [hi] using h
set_option maxRecDepth 65536 in
theorem w_c0 : (Jvm.Cond.code x code maxLocals ret).before args0 about1 = true := code_word (m := ⟨1, 2⟩) (meth := k1m2) (c := k1c2) (by decide +kernel) rfl rfl rfl (by decide +kernel)
set_option maxRecDepth 65536 in
theorem w_c1 : (Jvm.Cond.code ({ cls := "com/example/dvarapala/dvarapala/LockNamesRequireValidPinLaw", name := "noBrace", desc := "(I)C" } : Jvm.MethodName) method_2_code (2 : Nat) (Option.some Jvm.ClassFile.FieldType.char)).before args0 about1 = true := code_word (m := ⟨1, 1⟩) (meth := k1m1) (c := k1c1) (by decide +kernel) rfl rfl rfl (by decide +kernel)
set_option maxRecDepth 65536 in
theorem w_c2 : (Jvm.Cond.code ({ cls := "java/lang/String", name := "<init>", desc := "([C)V" } : Jvm.MethodName) jdk_42_method_3_code (2 : Nat) (Option.none : Option Jvm.ClassFile.FieldType)).before args0 about1 = true := code_word (m := ⟨7, 1⟩) (meth := k7m1) (c := k7c1) (by decide +kernel) rfl rfl rfl (by decide +kernel)
set_option maxRecDepth 65536 in
theorem w_c3 : (Jvm.Cond.code ({ cls := "java/lang/String", name := "<init>", desc := "([CIILjava/lang/Void;)V" } : Jvm.MethodName) jdk_42_method_149_code (6 : Nat) (Option.none : Option Jvm.ClassFile.FieldType)).before args0 about1 = true := code_word (m := ⟨7, 6⟩) (meth := k7m6) (c := k7c6) (by decide +kernel) rfl rfl rfl (by decide +kernel)
set_option maxRecDepth 65536 in
theorem w_c4 : (Jvm.Cond.code ({ cls := "java/lang/Object", name := "<init>", desc := "()V" } : Jvm.MethodName) object_method_1_code (1 : Nat) (Option.none : Option Jvm.ClassFile.FieldType)).before args0 about1 = true := code_word (m := ⟨0, 0⟩) (meth := k0m0) (c := k0c0) (by decide +kernel) rfl rfl rfl (by decide +kernel)
set_option maxRecDepth 65536 in
theorem w_c5 : (Jvm.Cond.code ({ cls := "java/lang/StringUTF16", name := "compress", desc := "([CII)[B" } : Jvm.MethodName) jdk_52_method_16_code (6 : Nat) (Option.some (Jvm.ClassFile.FieldType.array Jvm.ClassFile.FieldType.byte))).before args0 about1 = true := code_word (m := ⟨8, 8⟩) (meth := k8m8) (c := k8c8) (by decide +kernel) rfl rfl rfl (by decide +kernel)
set_option maxRecDepth 65536 in
theorem w_c6 : (Jvm.Cond.code ({ cls := "java/lang/StringUTF16", name := "compress", desc := "([CI[BII)I" } : Jvm.MethodName) jdk_52_method_21_code (7 : Nat) (Option.some Jvm.ClassFile.FieldType.int)).before args0 about1 = true := code_word (m := ⟨8, 9⟩) (meth := k8m9) (c := k8c9) (by decide +kernel) rfl rfl rfl (by decide +kernel)
set_option maxRecDepth 65536 in
theorem w_c7 : (Jvm.Cond.code ({ cls := "java/lang/StringUTF16", name := "coderFromArrayLen", desc := "([BI)B" } : Jvm.MethodName) jdk_52_method_15_code (2 : Nat) (Option.some Jvm.ClassFile.FieldType.byte)).before args0 about1 = true := code_word (m := ⟨8, 7⟩) (meth := k8m7) (c := k8c7) (by decide +kernel) rfl rfl rfl (by decide +kernel)
set_option maxRecDepth 65536 in
theorem w_c8 : (Jvm.Cond.code ({ cls := "com/example/dvarapala/dvarapala/LockNames", name := "requireValid", desc := "(Ljava/lang/String;)Ljava/lang/String;" } : Jvm.MethodName) prog_4_method_2_code (1 : Nat) (Option.some (Jvm.ClassFile.FieldType.object "java/lang/String"))).before args0 about1 = true := code_word (m := ⟨9, 1⟩) (meth := k9m1) (c := k9c1) (by decide +kernel) rfl rfl rfl (by decide +kernel)
set_option maxRecDepth 65536 in
theorem w_c9 : (Jvm.Cond.code ({ cls := "java/util/Objects", name := "requireNonNull", desc := "(Ljava/lang/Object;Ljava/lang/String;)Ljava/lang/Object;" } : Jvm.MethodName) jdk_31_method_11_code (2 : Nat) (Option.some (Jvm.ClassFile.FieldType.object "java/lang/Object"))).before args0 about1 = true := code_word (m := ⟨10, 1⟩) (meth := k10m1) (c := k10c1) (by decide +kernel) rfl rfl rfl (by decide +kernel)
set_option maxRecDepth 65536 in
theorem w_c10 : (Jvm.Cond.code ({ cls := "java/lang/String", name := "isEmpty", desc := "()Z" } : Jvm.MethodName) jdk_42_method_55_code (1 : Nat) (Option.some Jvm.ClassFile.FieldType.boolean)).before args0 about1 = true := code_word (m := ⟨7, 3⟩) (meth := k7m3) (c := k7c3) (by decide +kernel) rfl rfl rfl (by decide +kernel)
set_option maxRecDepth 65536 in
theorem w_c11 : (Jvm.Cond.code ({ cls := "java/lang/String", name := "length", desc := "()I" } : Jvm.MethodName) jdk_42_method_54_code (1 : Nat) (Option.some Jvm.ClassFile.FieldType.int)).before args0 about1 = true := code_word (m := ⟨7, 2⟩) (meth := k7m2) (c := k7c2) (by decide +kernel) rfl rfl rfl (by decide +kernel)
set_option maxRecDepth 65536 in
theorem w_c12 : (Jvm.Cond.code ({ cls := "java/lang/String", name := "coder", desc := "()B" } : Jvm.MethodName) jdk_42_method_152_code (1 : Nat) (Option.some Jvm.ClassFile.FieldType.byte)).before args0 about1 = true := code_word (m := ⟨7, 7⟩) (meth := k7m7) (c := k7c7) (by decide +kernel) rfl rfl rfl (by decide +kernel)
set_option maxRecDepth 65536 in
theorem w_c13 : (Jvm.Cond.code ({ cls := "java/lang/String", name := "indexOf", desc := "(I)I" } : Jvm.MethodName) jdk_42_method_79_code (2 : Nat) (Option.some Jvm.ClassFile.FieldType.int)).before args0 about1 = true := code_word (m := ⟨7, 4⟩) (meth := k7m4) (c := k7c4) (by decide +kernel) rfl rfl rfl (by decide +kernel)
set_option maxRecDepth 65536 in
theorem w_c14 : (Jvm.Cond.code ({ cls := "java/lang/String", name := "indexOf", desc := "(II)I" } : Jvm.MethodName) jdk_42_method_80_code (3 : Nat) (Option.some Jvm.ClassFile.FieldType.int)).before args0 about1 = true := code_word (m := ⟨7, 5⟩) (meth := k7m5) (c := k7c5) (by decide +kernel) rfl rfl rfl (by decide +kernel)
set_option maxRecDepth 65536 in
theorem w_c15 : (Jvm.Cond.code ({ cls := "java/lang/String", name := "isLatin1", desc := "()Z" } : Jvm.MethodName) jdk_42_method_154_code (1 : Nat) (Option.some Jvm.ClassFile.FieldType.boolean)).before args0 about1 = true := code_word (m := ⟨7, 8⟩) (meth := k7m8) (c := k7c8) (by decide +kernel) rfl rfl rfl (by decide +kernel)
set_option maxRecDepth 65536 in
theorem w_c16 : (Jvm.Cond.code ({ cls := "java/lang/StringLatin1", name := "indexOf", desc := "([BIII)I" } : Jvm.MethodName) jdk_43_method_22_code (4 : Nat) (Option.some Jvm.ClassFile.FieldType.int)).before args0 about1 = true := code_word (m := ⟨11, 2⟩) (meth := k11m2) (c := k11c2) (by decide +kernel) rfl rfl rfl (by decide +kernel)
set_option maxRecDepth 65536 in
theorem w_c17 : (Jvm.Cond.code ({ cls := "java/lang/StringLatin1", name := "canEncode", desc := "(I)Z" } : Jvm.MethodName) jdk_43_method_4_code (1 : Nat) (Option.some Jvm.ClassFile.FieldType.boolean)).before args0 about1 = true := code_word (m := ⟨11, 1⟩) (meth := k11m1) (c := k11c1) (by decide +kernel) rfl rfl rfl (by decide +kernel)
set_option maxRecDepth 65536 in
theorem w_c18 : (Jvm.Cond.code ({ cls := "java/lang/Math", name := "max", desc := "(II)I" } : Jvm.MethodName) jdk_29_method_65_code (2 : Nat) (Option.some Jvm.ClassFile.FieldType.int)).before args0 about1 = true := code_word (m := ⟨12, 1⟩) (meth := k12m1) (c := k12c1) (by decide +kernel) rfl rfl rfl (by decide +kernel)
set_option maxRecDepth 65536 in
theorem w_c19 : (Jvm.Cond.code ({ cls := "java/lang/Math", name := "min", desc := "(II)I" } : Jvm.MethodName) jdk_29_method_69_code (2 : Nat) (Option.some Jvm.ClassFile.FieldType.int)).before args0 about1 = true := code_word (m := ⟨12, 2⟩) (meth := k12m2) (c := k12c2) (by decide +kernel) rfl rfl rfl (by decide +kernel)
set_option maxRecDepth 65536 in
theorem w_c20 : (Jvm.Cond.code ({ cls := "java/lang/StringLatin1", name := "indexOfChar", desc := "([BIII)I" } : Jvm.MethodName) jdk_43_method_23_code (6 : Nat) (Option.some Jvm.ClassFile.FieldType.int)).before args0 about1 = true := code_word (m := ⟨11, 3⟩) (meth := k11m3) (c := k11c3) (by decide +kernel) rfl rfl rfl (by decide +kernel)
set_option maxRecDepth 65536 in
theorem w_c21 : (Jvm.Cond.code ({ cls := "java/lang/StringUTF16", name := "toBytes", desc := "([CII)[B" } : Jvm.MethodName) jdk_52_method_14_code (5 : Nat) (Option.some (Jvm.ClassFile.FieldType.array Jvm.ClassFile.FieldType.byte))).before args0 about1 = true := code_word (m := ⟨8, 6⟩) (meth := k8m6) (c := k8c6) (by decide +kernel) rfl rfl rfl (by decide +kernel)
set_option maxRecDepth 65536 in
theorem w_c22 : (Jvm.Cond.code ({ cls := "java/lang/StringUTF16", name := "newBytesFor", desc := "(I)[B" } : Jvm.MethodName) jdk_52_method_2_code (1 : Nat) (Option.some (Jvm.ClassFile.FieldType.array Jvm.ClassFile.FieldType.byte))).before args0 about1 = true := code_word (m := ⟨8, 1⟩) (meth := k8m1) (c := k8c1) (by decide +kernel) rfl rfl rfl (by decide +kernel)
set_option maxRecDepth 65536 in
theorem w_c23 : (Jvm.Cond.code ({ cls := "java/lang/StringUTF16", name := "newBytesLength", desc := "(I)I" } : Jvm.MethodName) jdk_52_method_3_code (1 : Nat) (Option.some Jvm.ClassFile.FieldType.int)).before args0 about1 = true := code_word (m := ⟨8, 2⟩) (meth := k8m2) (c := k8c2) (by decide +kernel) rfl rfl rfl (by decide +kernel)
set_option maxRecDepth 65536 in
theorem w_c24 : (Jvm.Cond.code ({ cls := "java/lang/StringUTF16", name := "putChar", desc := "([BII)V" } : Jvm.MethodName) jdk_52_method_4_code (3 : Nat) (Option.none : Option Jvm.ClassFile.FieldType)).before args0 about1 = true := code_word (m := ⟨8, 3⟩) (meth := k8m3) (c := k8c3) (by decide +kernel) rfl rfl rfl (by decide +kernel)
set_option maxRecDepth 65536 in
theorem w_c25 : (Jvm.Cond.code ({ cls := "java/lang/StringUTF16", name := "getChar", desc := "([BI)C" } : Jvm.MethodName) jdk_52_method_5_code (2 : Nat) (Option.some Jvm.ClassFile.FieldType.char)).before args0 about1 = true := code_word (m := ⟨8, 4⟩) (meth := k8m4) (c := k8c4) (by decide +kernel) rfl rfl rfl (by decide +kernel)
set_option maxRecDepth 65536 in
theorem w_c26 : (Jvm.Cond.code ({ cls := "java/lang/StringUTF16", name := "indexOf", desc := "([BIII)I" } : Jvm.MethodName) jdk_52_method_40_code (4 : Nat) (Option.some Jvm.ClassFile.FieldType.int)).before args0 about1 = true := code_word (m := ⟨8, 10⟩) (meth := k8m10) (c := k8c10) (by decide +kernel) rfl rfl rfl (by decide +kernel)
set_option maxRecDepth 65536 in
theorem w_c27 : (Jvm.Cond.code ({ cls := "java/lang/StringUTF16", name := "indexOfChar", desc := "([BIII)I" } : Jvm.MethodName) jdk_52_method_47_code (4 : Nat) (Option.some Jvm.ClassFile.FieldType.int)).before args0 about1 = true := code_word (m := ⟨8, 11⟩) (meth := k8m11) (c := k8c11) (by decide +kernel) rfl rfl rfl (by decide +kernel)
set_option maxRecDepth 65536 in
theorem w_c28 : (Jvm.Cond.code ({ cls := "java/lang/StringUTF16", name := "checkBoundsBeginEnd", desc := "(II[B)V" } : Jvm.MethodName) jdk_52_method_93_code (3 : Nat) (Option.none : Option Jvm.ClassFile.FieldType)).before args0 about1 = true := code_word (m := ⟨8, 13⟩) (meth := k8m13) (c := k8c13) (by decide +kernel) rfl rfl rfl (by decide +kernel)
set_option maxRecDepth 65536 in
theorem w_c29 : (Jvm.Cond.code ({ cls := "java/lang/StringUTF16", name := "length", desc := "([B)I" } : Jvm.MethodName) jdk_52_method_6_code (1 : Nat) (Option.some Jvm.ClassFile.FieldType.int)).before args0 about1 = true := code_word (m := ⟨8, 5⟩) (meth := k8m5) (c := k8c5) (by decide +kernel) rfl rfl rfl (by decide +kernel)
set_option maxRecDepth 65536 in
theorem w_c30 : (Jvm.Cond.code ({ cls := "java/lang/String", name := "checkBoundsBeginEnd", desc := "(III)V" } : Jvm.MethodName) jdk_42_method_158_code (3 : Nat) (Option.none : Option Jvm.ClassFile.FieldType)).before args0 about1 = true := code_word (m := ⟨7, 9⟩) (meth := k7m9) (c := k7c9) (by decide +kernel) rfl rfl rfl (by decide +kernel)
set_option maxRecDepth 65536 in
theorem w_c31 : (Jvm.Cond.code ({ cls := "jdk/internal/util/Preconditions", name := "checkFromToIndex", desc := "(IIILjava/util/function/BiFunction;)I" } : Jvm.MethodName) jdk_41_method_12_code (4 : Nat) (Option.some Jvm.ClassFile.FieldType.int)).before args0 about1 = true := code_word (m := ⟨13, 1⟩) (meth := k13m1) (c := k13c1) (by decide +kernel) rfl rfl rfl (by decide +kernel)
set_option maxRecDepth 65536 in
theorem w_c32 : (Jvm.Cond.code ({ cls := "java/lang/StringUTF16", name := "indexOfCharUnsafe", desc := "([BIII)I" } : Jvm.MethodName) jdk_52_method_48_code (5 : Nat) (Option.some Jvm.ClassFile.FieldType.int)).before args0 about1 = true := code_word (m := ⟨8, 12⟩) (meth := k8m12) (c := k8c12) (by decide +kernel) rfl rfl rfl (by decide +kernel)
def codes1 : List Jvm.Cond := [Jvm.Cond.code x code maxLocals ret, Jvm.Cond.code ({ cls := "com/example/dvarapala/dvarapala/LockNamesRequireValidPinLaw", name := "noBrace", desc := "(I)C" } : Jvm.MethodName) method_2_code (2 : Nat) (Option.some Jvm.ClassFile.FieldType.char), Jvm.Cond.code ({ cls := "java/lang/String", name := "<init>", desc := "([C)V" } : Jvm.MethodName) jdk_42_method_3_code (2 : Nat) (Option.none : Option Jvm.ClassFile.FieldType), Jvm.Cond.code ({ cls := "java/lang/String", name := "<init>", desc := "([CIILjava/lang/Void;)V" } : Jvm.MethodName) jdk_42_method_149_code (6 : Nat) (Option.none : Option Jvm.ClassFile.FieldType), Jvm.Cond.code ({ cls := "java/lang/Object", name := "<init>", desc := "()V" } : Jvm.MethodName) object_method_1_code (1 : Nat) (Option.none : Option Jvm.ClassFile.FieldType), Jvm.Cond.code ({ cls := "java/lang/StringUTF16", name := "compress", desc := "([CII)[B" } : Jvm.MethodName) jdk_52_method_16_code (6 : Nat) (Option.some (Jvm.ClassFile.FieldType.array Jvm.ClassFile.FieldType.byte)), Jvm.Cond.code ({ cls := "java/lang/StringUTF16", name := "compress", desc := "([CI[BII)I" } : Jvm.MethodName) jdk_52_method_21_code (7 : Nat) (Option.some Jvm.ClassFile.FieldType.int), Jvm.Cond.code ({ cls := "java/lang/StringUTF16", name := "coderFromArrayLen", desc := "([BI)B" } : Jvm.MethodName) jdk_52_method_15_code (2 : Nat) (Option.some Jvm.ClassFile.FieldType.byte), Jvm.Cond.code ({ cls := "com/example/dvarapala/dvarapala/LockNames", name := "requireValid", desc := "(Ljava/lang/String;)Ljava/lang/String;" } : Jvm.MethodName) prog_4_method_2_code (1 : Nat) (Option.some (Jvm.ClassFile.FieldType.object "java/lang/String")), Jvm.Cond.code ({ cls := "java/util/Objects", name := "requireNonNull", desc := "(Ljava/lang/Object;Ljava/lang/String;)Ljava/lang/Object;" } : Jvm.MethodName) jdk_31_method_11_code (2 : Nat) (Option.some (Jvm.ClassFile.FieldType.object "java/lang/Object")), Jvm.Cond.code ({ cls := "java/lang/String", name := "isEmpty", desc := "()Z" } : Jvm.MethodName) jdk_42_method_55_code (1 : Nat) (Option.some Jvm.ClassFile.FieldType.boolean), Jvm.Cond.code ({ cls := "java/lang/String", name := "length", desc := "()I" } : Jvm.MethodName) jdk_42_method_54_code (1 : Nat) (Option.some Jvm.ClassFile.FieldType.int), Jvm.Cond.code ({ cls := "java/lang/String", name := "coder", desc := "()B" } : Jvm.MethodName) jdk_42_method_152_code (1 : Nat) (Option.some Jvm.ClassFile.FieldType.byte), Jvm.Cond.code ({ cls := "java/lang/String", name := "indexOf", desc := "(I)I" } : Jvm.MethodName) jdk_42_method_79_code (2 : Nat) (Option.some Jvm.ClassFile.FieldType.int), Jvm.Cond.code ({ cls := "java/lang/String", name := "indexOf", desc := "(II)I" } : Jvm.MethodName) jdk_42_method_80_code (3 : Nat) (Option.some Jvm.ClassFile.FieldType.int), Jvm.Cond.code ({ cls := "java/lang/String", name := "isLatin1", desc := "()Z" } : Jvm.MethodName) jdk_42_method_154_code (1 : Nat) (Option.some Jvm.ClassFile.FieldType.boolean), Jvm.Cond.code ({ cls := "java/lang/StringLatin1", name := "indexOf", desc := "([BIII)I" } : Jvm.MethodName) jdk_43_method_22_code (4 : Nat) (Option.some Jvm.ClassFile.FieldType.int), Jvm.Cond.code ({ cls := "java/lang/StringLatin1", name := "canEncode", desc := "(I)Z" } : Jvm.MethodName) jdk_43_method_4_code (1 : Nat) (Option.some Jvm.ClassFile.FieldType.boolean), Jvm.Cond.code ({ cls := "java/lang/Math", name := "max", desc := "(II)I" } : Jvm.MethodName) jdk_29_method_65_code (2 : Nat) (Option.some Jvm.ClassFile.FieldType.int), Jvm.Cond.code ({ cls := "java/lang/Math", name := "min", desc := "(II)I" } : Jvm.MethodName) jdk_29_method_69_code (2 : Nat) (Option.some Jvm.ClassFile.FieldType.int), Jvm.Cond.code ({ cls := "java/lang/StringLatin1", name := "indexOfChar", desc := "([BIII)I" } : Jvm.MethodName) jdk_43_method_23_code (6 : Nat) (Option.some Jvm.ClassFile.FieldType.int), Jvm.Cond.code ({ cls := "java/lang/StringUTF16", name := "toBytes", desc := "([CII)[B" } : Jvm.MethodName) jdk_52_method_14_code (5 : Nat) (Option.some (Jvm.ClassFile.FieldType.array Jvm.ClassFile.FieldType.byte)), Jvm.Cond.code ({ cls := "java/lang/StringUTF16", name := "newBytesFor", desc := "(I)[B" } : Jvm.MethodName) jdk_52_method_2_code (1 : Nat) (Option.some (Jvm.ClassFile.FieldType.array Jvm.ClassFile.FieldType.byte)), Jvm.Cond.code ({ cls := "java/lang/StringUTF16", name := "newBytesLength", desc := "(I)I" } : Jvm.MethodName) jdk_52_method_3_code (1 : Nat) (Option.some Jvm.ClassFile.FieldType.int), Jvm.Cond.code ({ cls := "java/lang/StringUTF16", name := "putChar", desc := "([BII)V" } : Jvm.MethodName) jdk_52_method_4_code (3 : Nat) (Option.none : Option Jvm.ClassFile.FieldType), Jvm.Cond.code ({ cls := "java/lang/StringUTF16", name := "getChar", desc := "([BI)C" } : Jvm.MethodName) jdk_52_method_5_code (2 : Nat) (Option.some Jvm.ClassFile.FieldType.char), Jvm.Cond.code ({ cls := "java/lang/StringUTF16", name := "indexOf", desc := "([BIII)I" } : Jvm.MethodName) jdk_52_method_40_code (4 : Nat) (Option.some Jvm.ClassFile.FieldType.int), Jvm.Cond.code ({ cls := "java/lang/StringUTF16", name := "indexOfChar", desc := "([BIII)I" } : Jvm.MethodName) jdk_52_method_47_code (4 : Nat) (Option.some Jvm.ClassFile.FieldType.int), Jvm.Cond.code ({ cls := "java/lang/StringUTF16", name := "checkBoundsBeginEnd", desc := "(II[B)V" } : Jvm.MethodName) jdk_52_method_93_code (3 : Nat) (Option.none : Option Jvm.ClassFile.FieldType), Jvm.Cond.code ({ cls := "java/lang/StringUTF16", name := "length", desc := "([B)I" } : Jvm.MethodName) jdk_52_method_6_code (1 : Nat) (Option.some Jvm.ClassFile.FieldType.int), Jvm.Cond.code ({ cls := "java/lang/String", name := "checkBoundsBeginEnd", desc := "(III)V" } : Jvm.MethodName) jdk_42_method_158_code (3 : Nat) (Option.none : Option Jvm.ClassFile.FieldType), Jvm.Cond.code ({ cls := "jdk/internal/util/Preconditions", name := "checkFromToIndex", desc := "(IIILjava/util/function/BiFunction;)I" } : Jvm.MethodName) jdk_41_method_12_code (4 : Nat) (Option.some Jvm.ClassFile.FieldType.int), Jvm.Cond.code ({ cls := "java/lang/StringUTF16", name := "indexOfCharUnsafe", desc := "([BIII)I" } : Jvm.MethodName) jdk_52_method_48_code (5 : Nat) (Option.some Jvm.ClassFile.FieldType.int)]
set_option maxRecDepth 65536 in
theorem codes_eq : words1.filter isCode = codes1 := rfl
theorem w_codes : ∀ c ∈ words1.filter isCode, c.before args0 about1 = true := by
  rw [codes_eq]
  intro c hc
  simp only [codes1, List.mem_cons, List.not_mem_nil, or_false] at hc
  rcases hc with rfl | rfl | rfl | rfl | rfl | rfl | rfl | rfl | rfl | rfl | rfl | rfl | rfl | rfl | rfl | rfl | rfl | rfl | rfl | rfl | rfl | rfl | rfl | rfl | rfl | rfl | rfl | rfl | rfl | rfl | rfl | rfl | rfl
  · exact w_c0
  · exact w_c1
  · exact w_c2
  · exact w_c3
  · exact w_c4
  · exact w_c5
  · exact w_c6
  · exact w_c7
  · exact w_c8
  · exact w_c9
  · exact w_c10
  · exact w_c11
  · exact w_c12
  · exact w_c13
  · exact w_c14
  · exact w_c15
  · exact w_c16
  · exact w_c17
  · exact w_c18
  · exact w_c19
  · exact w_c20
  · exact w_c21
  · exact w_c22
  · exact w_c23
  · exact w_c24
  · exact w_c25
  · exact w_c26
  · exact w_c27
  · exact w_c28
  · exact w_c29
  · exact w_c30
  · exact w_c31
  · exact w_c32
set_option maxRecDepth 65536 in
theorem w_t1 : (words1.take 24).all (fun c => isCode c || c.before args0 about1) = true := by decide +kernel
set_option maxRecDepth 65536 in
theorem w_t2 : ((words1.drop 24).take 24).all (fun c => isCode c || c.before args0 about1) = true := by decide +kernel
set_option maxRecDepth 65536 in
theorem w_t3 : (((words1.drop 24).drop 24).take 24).all (fun c => isCode c || c.before args0 about1) = true := by decide +kernel
set_option maxRecDepth 65536 in
theorem w_t4 : ((((words1.drop 24).drop 24).drop 24).take 24).all (fun c => isCode c || c.before args0 about1) = true := by decide +kernel
set_option maxRecDepth 65536 in
theorem w_t5 : (((((words1.drop 24).drop 24).drop 24).drop 24).take 24).all (fun c => isCode c || c.before args0 about1) = true := by decide +kernel
set_option maxRecDepth 65536 in
theorem w_t6 : (((((words1.drop 24).drop 24).drop 24).drop 24).drop 24).all (fun c => isCode c || c.before args0 about1) = true := by decide +kernel
theorem w_tables : (allAtoms (Jvm.Cond.code x code maxLocals ret :: tables_1)).before args0 about1 = true := by
  rw [allAtoms_all]
  show words1.all (fun c => c.before args0 about1) = true
  refine all_split ?_ w_codes
  rw [← List.take_append_drop 24 words1, List.all_append, w_t1, ← List.take_append_drop 24 (words1.drop 24), List.all_append, w_t2, ← List.take_append_drop 24 ((words1.drop 24).drop 24), List.all_append, w_t3, ← List.take_append_drop 24 (((words1.drop 24).drop 24).drop 24), List.all_append, w_t4, ← List.take_append_drop 24 ((((words1.drop 24).drop 24).drop 24).drop 24), List.all_append, w_t5, w_t6]
  rfl
set_option maxRecDepth 65536 in
theorem w_rest : rest_1_c.before args0 about1 = true := by decide +kernel
set_option maxRecDepth 65536 in
theorem w_case : (Jvm.Cond.and given_1 narrow_1).before args0 about1 = true := by decide +kernel
theorem w_applies : (headSpec (Jvm.Cond.code x code maxLocals ret :: tables_1) room_1).applies x e0.platform about1 = true :=
  (Spec.applies_iff w_frames).mpr ⟨w_running, w_runnable, w_alone, w_named, w_hears, w_ripe, w_room, w_tables⟩
theorem atStart : AtStart classFile x code maxLocals ret World_1 tables_1 room_1 Calls_1 rest_1 Pre_1 launch0 p0 e0 about1 theMethod args0 below0 :=
  ⟨lists_1, trivial, launch0.admits_env _ _ _, launch0.least_env, fairChoices_fair.cas, fairChoices_fair.clock, w_frames, w_args, w_heap, w_applies, trivial, w_rest, w_case⟩
end start1
theorem witness_1 : WitnessClaimed_1 := ⟨start1.p0, start1.e0, start1.about1, start1.theMethod, start1.args0, start1.below0, start1.atStart⟩
end Jvm.Pilot.@@N@@
