import JvmDerived
import JvmDerived.Pilot.@@N@@Statement
import JvmDerived.Pilot.@@N@@Code
set_option linter.unusedVariables false
set_option linter.unusedSimpArgs false
/- laws to paste: Road.backV, Road.eqW, Road.empW, Road.codOf, StrChars.lo8_mask, StrChars.shr0 (cut by pick.py; bodies as the Statement names them) -/
namespace Jvm.Pilot.@@N@@
namespace StrChars
open Jvm Sem ClassFile Op Lib Jvm.Stand Jvm.Free.XT Jvm.Free.ALB Jvm.Free.JM Jvm.Free
open Jvm.Lib.Cold (StaticIs)
/-- a char array whose places are chars -/
def Ch (a : Addr) (A : Cell) (U : State) : Prop := Arr .char a A U ∧ Typed .char A
theorem Ch.mv {a : Addr} {A : Cell} {U U' : State} (h : Ch a A U) (hal : U.vm.Alike U'.vm) (hh : U'.heap = U.heap) : Ch a A U' := ⟨h.1.mv hal hh, h.2⟩
theorem Ch.keep {a : Addr} {A : Cell} {U U' : State} (h : Ch a A U) (hal : U.vm.Alike U'.vm) (hk : U'.heap[a]? = some A) : Ch a A U' := ⟨h.1.keep hal hk, h.2⟩
/-- what place i of a char[]'s cell holds -/
def cv (A : Cell) (i : Nat) : Int32 := match A.slots[i]? with | some (.int x) => x | _ => 0
theorem Ch.get {a : Addr} {A : Cell} {U : State} (h : Ch a A U) {i : Nat} (hi : i < A.slots.size) : A.slots[i]? = some (.int (cv A i)) := by
  have e := Array.getElem?_eq_getElem hi
  have f := h.2 i _ e
  unfold cv; rw [e]
  generalize A.slots[i] = v at f
  cases v <;> simp [fits] at f ⊢
/-- the byte that i2b leaves of a char -/
def lo8 (x : Int32) : Int32 := x.toInt8.toInt32
theorem fits_lo8 (y : Int32) : fits .byte (.int (lo8 y)) = true := by
  have h1 := y.toInt8.le_toInt
  have h2 := y.toInt8.toInt_lt
  simp only [lo8, fits, Bool.and_eq_true, decide_eq_true_eq, Int32.le_iff_toInt_le, Int8.toInt_toInt32, show (-128 : Int32).toInt = -128 from by decide, show (127 : Int32).toInt = 127 from by decide]
  omega
/-- A' is A but that each place j of lo .. hi - 1 holds f j -/
def Laid (A A' : Cell) (lo hi : Nat) (f : Nat → Value) : Prop := A'.cls = A.cls ∧ A'.vm = A.vm ∧ A'.slots.size = A.slots.size ∧ ∀ i, A'.slots[i]? = if lo ≤ i ∧ i < hi then some (f i) else A.slots[i]?
theorem Laid.zero (A : Cell) (lo : Nat) (f : Nat → Value) : Laid A A lo (lo + 0) f := ⟨rfl, rfl, rfl, fun i => by rw [if_neg (by omega)]⟩
theorem Laid.step {A Ak : Cell} {lo k : Nat} {f : Nat → Value} {v : Value} (h : Laid A Ak lo k f) (hlo : lo ≤ k) (hk : k < Ak.slots.size) (hv : v = f k) : Laid A (Ak.setSlot k v) lo (k + 1) f := by
  refine ⟨h.1, h.2.1, by simpa [Cell.setSlot] using h.2.2.1, fun i => ?_⟩
  by_cases e : k = i
  · subst e; rw [Cell.slots_setSlot_self v hk, if_pos (by omega), hv]
  · rw [Cell.slots_setSlot_ne v e, h.2.2.2 i]
    by_cases q : lo ≤ i ∧ i < k
    · rw [if_pos q, if_pos (by omega)]
    · rw [if_neg q, if_neg (by omega)]
def U16 : String := "java/lang/StringUTF16"
namespace Cmp5
def yN : MethodName := ⟨"java/lang/StringUTF16", "compress", "([CI[BII)I"⟩
abbrev yB : ByteArray := jdk_52_method_21_code
theorem d0 : decode yB 0 = .ok (.iconst 0, 1) := by decide +kernel
theorem d1 : decode yB 1 = .ok (.istore 5, 2) := by decide +kernel
theorem d3 : decode yB 3 = .ok (.iload 5, 2) := by decide +kernel
theorem d5 : decode yB 5 = .ok (.iload 4, 2) := by decide +kernel
theorem d7 : decode yB 7 = .ok (.if_icmp (.ge) 37, 3) := by decide +kernel
theorem d10 : decode yB 10 = .ok (.aload_n 0, 1) := by decide +kernel
theorem d11 : decode yB 11 = .ok (.iload_n 1, 1) := by decide +kernel
theorem d12 : decode yB 12 = .ok (.caload, 1) := by decide +kernel
theorem d13 : decode yB 13 = .ok (.istore 6, 2) := by decide +kernel
theorem d15 : decode yB 15 = .ok (.iload 6, 2) := by decide +kernel
theorem d17 : decode yB 17 = .ok (.sipush 255, 3) := by decide +kernel
theorem d20 : decode yB 20 = .ok (.if_icmp (.le) 6, 3) := by decide +kernel
theorem d26 : decode yB 26 = .ok (.aload_n 2, 1) := by decide +kernel
theorem d27 : decode yB 27 = .ok (.iload_n 3, 1) := by decide +kernel
theorem d28 : decode yB 28 = .ok (.iload 6, 2) := by decide +kernel
theorem d30 : decode yB 30 = .ok (.i2b, 1) := by decide +kernel
theorem d31 : decode yB 31 = .ok (.bastore, 1) := by decide +kernel
theorem d32 : decode yB 32 = .ok (.iinc 1 1, 3) := by decide +kernel
theorem d35 : decode yB 35 = .ok (.iinc 3 1, 3) := by decide +kernel
theorem d38 : decode yB 38 = .ok (.iinc 5 1, 3) := by decide +kernel
theorem d41 : decode yB 41 = .ok (.goto (-38), 3) := by decide +kernel
theorem d44 : decode yB 44 = .ok (.iload 4, 2) := by decide +kernel
theorem d46 : decode yB 46 = .ok (.ireturn, 1) := by decide +kernel
def site : List Cond := []
def tab : Cond := tabOf yN yB 7 (some .int) site
def P (b : Addr) (A : Cell) (d : Addr) (B : Cell) (o q len : Nat) (args : Array Value) (s : State) : Prop := args = #[.ref b, .int (Int32.ofNat o), .ref d, .int (Int32.ofNat q), .int (Int32.ofNat len)] ∧ Ch b A s ∧ Arr .byte d B s ∧ b ≠ d ∧ o + len ≤ A.slots.size ∧ q + len ≤ B.slots.size ∧ ∀ i, i < len → ¬ 255 < cv A (o + i)
def E (b : Addr) (A : Cell) (d : Addr) (B : Cell) (o q len : Nat) (r : Option Value) (s u : State) : Prop := r = some (.int (Int32.ofNat len)) ∧ ∃ B', Put d B' s u ∧ Laid B B' q (q + len) (fun j => Value.int (lo8 (cv A (o + (j - q)))))
/-- no char of the range above 255: len; the places written hold each char's low byte -/
theorem law (l : Launch) (b : Addr) (A : Cell) (d : Addr) (B : Cell) (o q len : Nat) : Law l yN 5 5 0 0 yB 7 (some .int) site (P b A d B o q len) (E b A d B o q len) (copyLocs d q len) 0 0 := by
  refine Law.of_walk (plainFor_of_name (by decide +kernel)) (by decide +kernel) (by decide +kernel) (by decide) (fun _ _ h => by rw [h.1]; rfl) (fun _ U U' hal hh h => ⟨h.1, h.2.1.mv hal hh, h.2.2.1.mv hal hh, h.2.2.2⟩) (fun r U U' V V' h1 hal h2 h => ⟨h.1, h.2.elim fun B' q => ⟨B', q.1.mv h1 h2, q.2⟩⟩) ?_
  intro p e s m args below meth c s₁ X0 hexec hbytes hml hret hlk hnm hown hh0 W hP
  obtain ⟨rfl, hA, hB, hne, l1, l2, hp⟩ := hP
  have c1 : Steps p.tables e below (s₁.setTop (entryFrame m #[.ref b, .int (Int32.ofNat o), .ref d, .int (Int32.ofNat q), .int (Int32.ofNat len)] 7)) (s₁.setTop (mkF m 0 #[.val (.ref b), .val (.int (Int32.ofNat o)), .val (.ref d), .val (.int (Int32.ofNat q)), .val (.int (Int32.ofNat len)), .unset, .unset] [])) := entry rfl
  have hA0 := hA.1.mv X0.warmed.alike hh0
  have hB0 := hB.mv X0.warmed.alike hh0
  have a31 := hA.1.2.2.2
  have c2 : Steps p.tables e below (s₁.setTop (entryFrame m #[.ref b, .int (Int32.ofNat o), .ref d, .int (Int32.ofNat q), .int (Int32.ofNat len)] 7)) (s₁.setTop (mkF m 3 #[.val (.ref b), .val (.int (Int32.ofNat o)), .val (.ref d), .val (.int (Int32.ofNat q)), .val (.int (Int32.ofNat len)), .val (.int 0), .unset] [])) := c1.trans (by
    refine iconstV X0.here hexec rfl 0 (hb hbytes d0) (by decide) ?_
    refine XS.istore X0.here hexec rfl (hb hbytes d1) rfl rfl ?_
    exact Steps.refl _)
  have loop : ∀ (r i : Nat), i + r = len → ∀ (z : Slot), (z = .unset ∨ ∃ w, z = .val w ∧ w.category = 1) → ∀ (Tl : State) (Bk : Cell), Stand p l e { frames := 0, locals := 0, cells := 0, slots := 0 } s m #[.ref b, .int (Int32.ofNat o), .ref d, .int (Int32.ofNat q), .int (Int32.ofNat len)] below meth c Tl ([] ++ copyLocs d q i) 0 0 → Put d Bk s₁ Tl → Laid B Bk q (q + i) (fun j => Value.int (lo8 (cv A (o + (j - q))))) →
      Steps p.tables e below (s₁.setTop (entryFrame m #[.ref b, .int (Int32.ofNat o), .ref d, .int (Int32.ofNat q), .int (Int32.ofNat len)] 7)) (Tl.setTop (mkF m 3 #[.val (.ref b), .val (.int (Int32.ofNat (o + i))), .val (.ref d), .val (.int (Int32.ofNat (q + i))), .val (.int (Int32.ofNat len)), .val (.int (Int32.ofNat i)), z] [])) → ∃ (T' : State) (B' : Cell) (z' : Slot), Stand p l e { frames := 0, locals := 0, cells := 0, slots := 0 } s m #[.ref b, .int (Int32.ofNat o), .ref d, .int (Int32.ofNat q), .int (Int32.ofNat len)] below meth c T' ([] ++ copyLocs d q len) 0 0 ∧ Put d B' s₁ T' ∧ Laid B B' q (q + len) (fun j => Value.int (lo8 (cv A (o + (j - q))))) ∧
      Steps p.tables e below (s₁.setTop (entryFrame m #[.ref b, .int (Int32.ofNat o), .ref d, .int (Int32.ofNat q), .int (Int32.ofNat len)] 7)) (T'.setTop (mkF m 3 #[.val (.ref b), .val (.int (Int32.ofNat (o + len))), .val (.ref d), .val (.int (Int32.ofNat (q + len))), .val (.int (Int32.ofNat len)), .val (.int (Int32.ofNat len)), z'] [])) := by
    intro r
    induction r with
    | zero =>
      intro i hi z hz Tl Bk Xl pl fl cl
      have hil : i = len := by omega
      rw [hil] at Xl fl cl
      exact ⟨Tl, Bk, z, Xl, pl, fl, cl⟩
    | succ r ih =>
      intro i hi z hz Tl Bk Xl pl fl cl
      have all := X0.warmed.alike.symm.trans Xl.warmed.alike
      have hAl := hA0.keep all (pl.other hne hA0.1)
      have hBk := hB0.like all pl.1 fl.1 fl.2.1 fl.2.2.1
      have hlt : q + i < Bk.slots.size := by rw [fl.2.2.1]; omega
      have c3 : Steps p.tables e below (s₁.setTop (entryFrame m #[.ref b, .int (Int32.ofNat o), .ref d, .int (Int32.ofNat q), .int (Int32.ofNat len)] 7)) (Tl.setTop (mkF m 12 #[.val (.ref b), .val (.int (Int32.ofNat (o + i))), .val (.ref d), .val (.int (Int32.ofNat (q + i))), .val (.int (Int32.ofNat len)), .val (.int (Int32.ofNat i)), z] [.int (Int32.ofNat (o + i)), .ref b])) := cl.trans (by
        refine XS.iload Xl.here hexec rfl (hb hbytes d3) rfl ?_
        refine XS.iload Xl.here hexec rfl (hb hbytes d5) rfl ?_
        refine XS.icmpNo Xl.here hexec rfl (hb hbytes d7) rfl (ii_ge_f (lt32 (by omega) (by omega))) ?_
        refine XS.aloadN Xl.here hexec rfl (hb hbytes d10) rfl rfl ?_
        refine XS.iloadN Xl.here hexec rfl (hb hbytes d11) rfl ?_
        exact Steps.refl _)
      have c4 : Steps p.tables e below (s₁.setTop (entryFrame m #[.ref b, .int (Int32.ofNat o), .ref d, .int (Int32.ofNat q), .int (Int32.ofNat len)] 7)) (Tl.setTop (mkF m 13 #[.val (.ref b), .val (.int (Int32.ofNat (o + i))), .val (.ref d), .val (.int (Int32.ofNat (q + i))), .val (.int (Int32.ofNat len)), .val (.int (Int32.ofNat i)), z] [.int (cv A (o + i))])) := c3.trans (by
        refine Xl.aget hexec hAl rfl (hA.get (i := o + i) (by omega)) rfl rfl (hb hbytes d12) ?_
        exact Steps.refl _)
      have c5 : Steps p.tables e below (s₁.setTop (entryFrame m #[.ref b, .int (Int32.ofNat o), .ref d, .int (Int32.ofNat q), .int (Int32.ofNat len)] 7)) (Tl.setTop (mkF m 15 #[.val (.ref b), .val (.int (Int32.ofNat (o + i))), .val (.ref d), .val (.int (Int32.ofNat (q + i))), .val (.int (Int32.ofNat len)), .val (.int (Int32.ofNat i)), .val (.int (cv A (o + i)))] [])) := c4.trans (by
        refine XS.istoreS Xl.here hexec rfl (hb hbytes d13) rfl rfl hz ?_
        exact Steps.refl _)
      have c6 : Steps p.tables e below (s₁.setTop (entryFrame m #[.ref b, .int (Int32.ofNat o), .ref d, .int (Int32.ofNat q), .int (Int32.ofNat len)] 7)) (Tl.setTop (mkF m 31 #[.val (.ref b), .val (.int (Int32.ofNat (o + i))), .val (.ref d), .val (.int (Int32.ofNat (q + i))), .val (.int (Int32.ofNat len)), .val (.int (Int32.ofNat i)), .val (.int (cv A (o + i)))] [.int (lo8 (cv A (o + i))), .int (Int32.ofNat (q + i)), .ref d])) := c5.trans (by
        refine XS.iload Xl.here hexec rfl (hb hbytes d15) rfl ?_
        refine sipushV Xl.here hexec rfl 255 (hb hbytes d17) (by decide) ?_
        refine XS.icmpYes Xl.here hexec rfl (pc0 := 20) rfl (hb hbytes d20) rfl (ii_le_t (hp i (by omega))) (by decide) rfl ?_
        refine XS.aloadN Xl.here hexec rfl (hb hbytes d26) rfl rfl ?_
        refine XS.iloadN Xl.here hexec rfl (hb hbytes d27) rfl ?_
        refine XS.iload Xl.here hexec rfl (hb hbytes d28) rfl ?_
        refine i2b Xl.here hexec rfl (hb hbytes d30) rfl ?_
        exact Steps.refl _)
      obtain ⟨T7, X7, p7, st7⟩ := Xl.aput hexec hBk rfl hlt rfl (fits_lo8 (cv A (o + i))) (g := (mkF m 31 #[.val (.ref b), .val (.int (Int32.ofNat (o + i))), .val (.ref d), .val (.int (Int32.ofNat (q + i))), .val (.int (Int32.ofNat len)), .val (.int (Int32.ofNat i)), .val (.int (cv A (o + i)))] [.int (lo8 (cv A (o + i))), .int (Int32.ofNat (q + i)), .ref d])) rfl (rest := []) rfl (hb hbytes d31)
      have c8 : Steps p.tables e below (s₁.setTop (entryFrame m #[.ref b, .int (Int32.ofNat o), .ref d, .int (Int32.ofNat q), .int (Int32.ofNat len)] 7)) (T7.setTop (mkF m 32 #[.val (.ref b), .val (.int (Int32.ofNat (o + i))), .val (.ref d), .val (.int (Int32.ofNat (q + i))), .val (.int (Int32.ofNat len)), .val (.int (Int32.ofNat i)), .val (.int (cv A (o + i)))] [])) := c6.trans (st7 _ (Steps.refl _))
      have c9 : Steps p.tables e below (s₁.setTop (entryFrame m #[.ref b, .int (Int32.ofNat o), .ref d, .int (Int32.ofNat q), .int (Int32.ofNat len)] 7)) (T7.setTop (mkF m 3 #[.val (.ref b), .val (.int (Int32.ofNat (o + i) + 1)), .val (.ref d), .val (.int (Int32.ofNat (q + i) + 1)), .val (.int (Int32.ofNat len)), .val (.int (Int32.ofNat i + 1)), .val (.int (cv A (o + i)))] [])) := c8.trans (by
        refine iincV X7.here hexec rfl 1 (hb hbytes d32) (by decide) rfl rfl ?_
        refine iincV X7.here hexec rfl 1 (hb hbytes d35) (by decide) rfl rfl ?_
        refine iincV X7.here hexec rfl 1 (hb hbytes d38) (by decide) rfl rfl ?_
        refine XS.goto X7.here hexec rfl (pc0 := 41) rfl (hb hbytes d41) (by decide) rfl ?_
        exact Steps.refl _)
      have c10 : Steps p.tables e below (s₁.setTop (entryFrame m #[.ref b, .int (Int32.ofNat o), .ref d, .int (Int32.ofNat q), .int (Int32.ofNat len)] 7)) (T7.setTop (mkF m 3 #[.val (.ref b), .val (.int (Int32.ofNat (o + (i + 1)))), .val (.ref d), .val (.int (Int32.ofNat (q + (i + 1)))), .val (.int (Int32.ofNat len)), .val (.int (Int32.ofNat (i + 1))), .val (.int (cv A (o + i)))] [])) := by
        have := c9
        rw [succ32, succ32, succ32] at this
        exact this
      exact ih (i + 1) (by omega) _ (Or.inr ⟨_, rfl, rfl⟩) T7 _ (by rw [copyLocs_step, ← List.append_assoc]; exact X7) (pl.trans p7) (fl.step (by omega) hlt (by simp)) c10
  obtain ⟨T9, B9, z9, X9, p9, f9, g9⟩ := loop len 0 (by omega) .unset (Or.inl rfl) s₁ B (by simpa [copyLocs] using X0) ⟨hB0.1, fun _ _ => rfl, rfl⟩ (Laid.zero _ _ _) c2
  have c11 : Steps p.tables e below (s₁.setTop (entryFrame m #[.ref b, .int (Int32.ofNat o), .ref d, .int (Int32.ofNat q), .int (Int32.ofNat len)] 7)) (T9.setTop (mkF m 46 #[.val (.ref b), .val (.int (Int32.ofNat (o + len))), .val (.ref d), .val (.int (Int32.ofNat (q + len))), .val (.int (Int32.ofNat len)), .val (.int (Int32.ofNat len)), z9] [.int (Int32.ofNat len)])) := g9.trans (by
    refine XS.iload X9.here hexec rfl (hb hbytes d3) rfl ?_
    refine XS.iload X9.here hexec rfl (hb hbytes d5) rfl ?_
    refine XS.icmpYes X9.here hexec rfl (pc0 := 7) rfl (hb hbytes d7) rfl (ii_ge_t (nlt32 (by omega) (Nat.le_refl _))) (by decide) rfl ?_
    refine XS.iload X9.here hexec rfl (hb hbytes d44) rfl ?_
    exact Steps.refl _)
  exact ⟨T9, some (.int (Int32.ofNat len)), _, _, _, X9, by simp, rfl, rfl, (fun h => by cases h), ⟨rfl, B9, p9.from hh0, f9⟩, fun fs hl => c11.trans (X9.ireturnOut hexec hret rfl (Or.inl rfl) (hb hbytes d46) hl)⟩
end Cmp5
namespace Cmp3
def yN : MethodName := ⟨"java/lang/StringUTF16", "compress", "([CII)[B"⟩
abbrev yB : ByteArray := jdk_52_method_16_code
theorem d0 : decode yB 0 = .ok (.iload_n 2, 1) := by decide +kernel
theorem d1 : decode yB 1 = .ok (.newarray .byte, 2) := by decide +kernel
theorem d3 : decode yB 3 = .ok (.astore_n 3, 1) := by decide +kernel
theorem d4 : decode yB 4 = .ok (.aload_n 0, 1) := by decide +kernel
theorem d5 : decode yB 5 = .ok (.iload_n 1, 1) := by decide +kernel
theorem d6 : decode yB 6 = .ok (.aload_n 3, 1) := by decide +kernel
theorem d7 : decode yB 7 = .ok (.iconst 0, 1) := by decide +kernel
theorem d8 : decode yB 8 = .ok (.iload_n 2, 1) := by decide +kernel
theorem d9 : decode yB 9 = .ok (.invokestatic 115, 3) := by decide +kernel
theorem d12 : decode yB 12 = .ok (.istore 4, 2) := by decide +kernel
theorem d14 : decode yB 14 = .ok (.iload 4, 2) := by decide +kernel
theorem d16 : decode yB 16 = .ok (.iload_n 2, 1) := by decide +kernel
theorem d17 : decode yB 17 = .ok (.if_icmp (.eq) 40, 3) := by decide +kernel
theorem d57 : decode yB 57 = .ok (.aload_n 3, 1) := by decide +kernel
theorem d58 : decode yB 58 = .ok (.areturn, 1) := by decide +kernel
def site : List Cond := [.arrayClass .byte, Cmp5.tab] ++ staticW U16 115 Cmp5.yN
def tab : Cond := tabOf yN yB 6 (some (.array .byte)) site
def P (b : Addr) (A : Cell) (o len : Nat) (args : Array Value) (s : State) : Prop := args = #[.ref b, .int (Int32.ofNat o), .int (Int32.ofNat len)] ∧ Ch b A s ∧ o + len ≤ A.slots.size ∧ len ≤ 536870912 ∧ ∀ i, i < len → ¬ 255 < cv A (o + i)
def E (b : Addr) (A : Cell) (o len : Nat) (r : Option Value) (s u : State) : Prop := NewArr .byte "[B" len (fun j => .int (lo8 (cv A (o + j)))) r s u ∧ u.heap.size = s.heap.size + 1
/-- no char of the range above 255: a new byte[] of their low bytes -/
theorem law (l : Launch) (b : Addr) (A : Cell) (o len : Nat) : Law l yN 3 3 1 18 yB 6 (some (.array .byte)) site (P b A o len) (E b A o len) [] 1 len := by
  refine Law.of_walk (plainFor_of_name (by decide +kernel)) (by decide +kernel) (by decide +kernel) (by decide) (fun _ _ h => by rw [h.1]; rfl) (fun _ U U' hal hh h => ⟨h.1, h.2.1.mv hal hh, h.2.2⟩) (fun r U U' V V' h1 hal h2 h => ⟨NewArr.mv r U U' V V' h1 hal h2 h.1, by rw [h1, h2]; exact h.2⟩) ?_
  intro p e s m args below meth c s₁ X0 hexec hbytes hml hret hlk hnm hown hh0 W hP
  obtain ⟨rfl, hA, l1, l2, hp⟩ := hP
  have a31 := hA.1.2.2.2
  have c1 : Steps p.tables e below (s₁.setTop (entryFrame m #[.ref b, .int (Int32.ofNat o), .int (Int32.ofNat len)] 6)) (s₁.setTop (mkF m 0 #[.val (.ref b), .val (.int (Int32.ofNat o)), .val (.int (Int32.ofNat len)), .unset, .unset, .unset] [])) := entry rfl
  have c2 : Steps p.tables e below (s₁.setTop (entryFrame m #[.ref b, .int (Int32.ofNat o), .int (Int32.ofNat len)] 6)) (s₁.setTop (mkF m 1 #[.val (.ref b), .val (.int (Int32.ofNat o)), .val (.int (Int32.ofNat len)), .unset, .unset, .unset] [.int (Int32.ofNat len)])) := c1.trans (by
    refine XS.iloadN X0.here hexec rfl (hb hbytes d0) rfl ?_
    exact Steps.refl _)
  obtain ⟨T3, B3, X3, ba3, bs3, bv3, bh3, bf3, st3⟩ := X0.anew hexec (atype := .byte) (wk W (.arrayClass .byte)) rfl (by show len * 1 ≤ _; omega) (by omega) (g := (mkF m 1 #[.val (.ref b), .val (.int (Int32.ofNat o)), .val (.int (Int32.ofNat len)), .unset, .unset, .unset] [.int (Int32.ofNat len)])) rfl (hb hbytes d1) (rest := []) rfl (Nat.le_refl _) (by show 0 + len ≤ len; omega)
  rw [hh0] at ba3 st3
  have kp3 : XT.Kept s T3 := (XT.Kept.of_eq hh0).push bh3
  have hA3 := hA.keep X3.warmed.alike (kp3 _ _ hA.1.1)
  have hne : b ≠ s.heap.size := hA.1.ne
  have c4 : Steps p.tables e below (s₁.setTop (entryFrame m #[.ref b, .int (Int32.ofNat o), .int (Int32.ofNat len)] 6)) (T3.setTop (mkF m 3 #[.val (.ref b), .val (.int (Int32.ofNat o)), .val (.int (Int32.ofNat len)), .unset, .unset, .unset] [.ref s.heap.size])) := c2.trans (st3 _ (Steps.refl _))
  have c5 : Steps p.tables e below (s₁.setTop (entryFrame m #[.ref b, .int (Int32.ofNat o), .int (Int32.ofNat len)] 6)) (T3.setTop (mkF m 9 #[.val (.ref b), .val (.int (Int32.ofNat o)), .val (.int (Int32.ofNat len)), .val (.ref s.heap.size), .unset, .unset] [.int (Int32.ofNat len), .int 0, .ref s.heap.size, .int (Int32.ofNat o), .ref b])) := c4.trans (by
    refine XS.astoreN X3.here hexec rfl (hb hbytes d3) rfl rfl rfl ?_
    refine XS.aloadN X3.here hexec rfl (hb hbytes d4) rfl rfl ?_
    refine XS.iloadN X3.here hexec rfl (hb hbytes d5) rfl ?_
    refine XS.aloadN X3.here hexec rfl (hb hbytes d6) rfl rfl ?_
    refine iconstV X3.here hexec rfl 0 (hb hbytes d7) (by decide) ?_
    refine XS.iloadN X3.here hexec rfl (hb hbytes d8) rfl ?_
    exact Steps.refl _)
  obtain ⟨v6, T6, X6, E6, g6⟩ := X3.callS hexec (Cmp5.law l b A s.heap.size B3 o 0 len) hown (wks W (staticW U16 115 Cmp5.yN)) (wk W Cmp5.tab) (W := 0) (Nat.le_of_ble_eq_true rfl) (Nat.le_of_ble_eq_true rfl) (Nat.le_refl _) (by show 0 + len + 0 ≤ len; omega) (g := (mkF m 9 #[.val (.ref b), .val (.int (Int32.ofNat o)), .val (.int (Int32.ofNat len)), .val (.ref s.heap.size), .unset, .unset] [.int (Int32.ofNat len), .int (Int32.ofNat 0), .ref s.heap.size, .int (Int32.ofNat o), .ref b])) rfl (by rw [hml]; rfl) c5 (argsL := [.ref b, .int (Int32.ofNat o), .ref s.heap.size, .int (Int32.ofNat 0), .int (Int32.ofNat len)]) (rest := []) rfl rfl (by show 2 * 0 + 0 ≤ _; decide) (hb hbytes d9) (⟨rfl, hA3, ba3, hne, l1, by rw [bs3]; simp, hp⟩)
  obtain ⟨rfl, B6, p6, f6⟩ := E6
  have c7 : Steps p.tables e below (s₁.setTop (entryFrame m #[.ref b, .int (Int32.ofNat o), .int (Int32.ofNat len)] 6)) (T6.setTop (mkF m 12 #[.val (.ref b), .val (.int (Int32.ofNat o)), .val (.int (Int32.ofNat len)), .val (.ref s.heap.size), .unset, .unset] [.int (Int32.ofNat len)])) := g6
  have c8 : Steps p.tables e below (s₁.setTop (entryFrame m #[.ref b, .int (Int32.ofNat o), .int (Int32.ofNat len)] 6)) (T6.setTop (mkF m 58 #[.val (.ref b), .val (.int (Int32.ofNat o)), .val (.int (Int32.ofNat len)), .val (.ref s.heap.size), .val (.int (Int32.ofNat len)), .unset] [.ref s.heap.size])) := c7.trans (by
    refine XS.istore X6.here hexec rfl (hb hbytes d12) rfl rfl ?_
    refine XS.iload X6.here hexec rfl (hb hbytes d14) rfl ?_
    refine XS.iloadN X6.here hexec rfl (hb hbytes d16) rfl ?_
    refine XS.icmpYes X6.here hexec rfl (pc0 := 17) rfl (hb hbytes d17) rfl (ii_eq_t rfl) (by decide) rfl ?_
    refine XS.aloadN X6.here hexec rfl (hb hbytes d57) rfl rfl ?_
    exact Steps.refl _)
  have X8 := X6.wide (L' := []) (cells' := 1) (slots' := len) (fun x hx hlt => by
    simp only [List.nil_append, copyLocs, List.mem_map, List.mem_range] at hx
    obtain ⟨i, -, rfl⟩ := hx
    exact absurd hlt (Nat.lt_irrefl _)) (Nat.le_refl _) (by omega)
  exact ⟨T6, some (.ref s.heap.size), _, _, _, X8, rfl, rfl, rfl, (fun h => by cases h), ⟨⟨rfl, B6, ba3.like (X3.warmed.alike.symm.trans X6.warmed.alike) p6.1 f6.1 f6.2.1 f6.2.2.1, f6.2.1.trans bv3, by rw [X6.warmed.alike.findClass, f6.1]; exact bf3, by rw [f6.2.2.1, bs3]; simp, fun j hj => by rw [f6.2.2.2 j, if_pos (by omega)]; rfl, kp3.put p6 (Nat.le_refl _)⟩, by rw [p6.2.2, bh3, hh0]; simp⟩, fun fs hl => c8.trans (X8.areturnOut hexec rfl hret rfl (hb hbytes d58) hl)⟩
end Cmp3
namespace CodL
def yN : MethodName := ⟨"java/lang/StringUTF16", "coderFromArrayLen", "([BI)B"⟩
abbrev yB : ByteArray := jdk_52_method_15_code
theorem d0 : decode yB 0 = .ok (.iload_n 1, 1) := by decide +kernel
theorem d1 : decode yB 1 = .ok (.aload_n 0, 1) := by decide +kernel
theorem d2 : decode yB 2 = .ok (.arraylength, 1) := by decide +kernel
theorem d3 : decode yB 3 = .ok (.isub, 1) := by decide +kernel
theorem d4 : decode yB 4 = .ok (.bipush 31, 2) := by decide +kernel
theorem d6 : decode yB 6 = .ok (.iushr, 1) := by decide +kernel
theorem d7 : decode yB 7 = .ok (.i2b, 1) := by decide +kernel
theorem d8 : decode yB 8 = .ok (.ireturn, 1) := by decide +kernel
def site : List Cond := []
def tab : Cond := tabOf yN yB 2 (some .byte) site
def P (d : Addr) (B : Cell) (args : Array Value) (s : State) : Prop := args = #[.ref d, .int (Int32.ofNat B.slots.size)] ∧ Arr .byte d B s
def E (r : Option Value) (s u : State) : Prop := XT.PureE (some (.int 0)) r s u
/-- an array as long as the number of chars: LATIN1 -/
theorem law (l : Launch) (d : Addr) (B : Cell) : Law l yN 2 2 0 0 yB 2 (some .byte) site (P d B) E [] 0 0 := by
  refine Law.of_walk (plainFor_of_name (by decide +kernel)) (by decide +kernel) (by decide +kernel) (by decide) (fun _ _ h => by rw [h.1]; rfl) (fun _ U U' hal hh h => ⟨h.1, h.2.mv hal hh⟩) (fun r U U' V V' h1 hal h2 h => XT.PureE.mv r U U' V V' h1 hal h2 h) ?_
  intro p e s m args below meth c s₁ X0 hexec hbytes hml hret hlk hnm hown hh0 W hP
  obtain ⟨rfl, hB⟩ := hP
  have hB0 := hB.mv X0.warmed.alike hh0
  have c1 : Steps p.tables e below (s₁.setTop (entryFrame m #[.ref d, .int (Int32.ofNat B.slots.size)] 2)) (s₁.setTop (mkF m 0 #[.val (.ref d), .val (.int (Int32.ofNat B.slots.size))] [])) := entry rfl
  have c2 : Steps p.tables e below (s₁.setTop (entryFrame m #[.ref d, .int (Int32.ofNat B.slots.size)] 2)) (s₁.setTop (mkF m 2 #[.val (.ref d), .val (.int (Int32.ofNat B.slots.size))] [.ref d, .int (Int32.ofNat B.slots.size)])) := c1.trans (by
    refine XS.iloadN X0.here hexec rfl (hb hbytes d0) rfl ?_
    refine XS.aloadN X0.here hexec rfl (hb hbytes d1) rfl rfl ?_
    exact Steps.refl _)
  have c3 : Steps p.tables e below (s₁.setTop (entryFrame m #[.ref d, .int (Int32.ofNat B.slots.size)] 2)) (s₁.setTop (mkF m 8 #[.val (.ref d), .val (.int (Int32.ofNat B.slots.size))] [.int (lo8 (ushr (Int32.ofNat B.slots.size - Int32.ofNat B.slots.size) 31))])) := c2.trans (by
    refine X0.alen hexec hB0 rfl rfl (hb hbytes d2) ?_
    refine XS.isub X0.here hexec rfl (hb hbytes d3) rfl ?_
    refine bipushV X0.here hexec rfl 31 (hb hbytes d4) (by decide) ?_
    refine iushr X0.here hexec rfl (hb hbytes d6) rfl ?_
    refine i2b X0.here hexec rfl (hb hbytes d7) rfl ?_
    exact Steps.refl _)
  have e0 : lo8 (ushr (Int32.ofNat B.slots.size - Int32.ofNat B.slots.size) 31) = 0 := by rw [Int32.sub_self]; decide
  rw [e0] at c3
  exact ⟨s₁, some (.int 0), _, _, _, X0, rfl, rfl, rfl, (fun h => by cases h), ⟨rfl, hh0⟩, fun fs hl => c3.trans (X0.ireturnOut hexec hret rfl (Or.inr (Or.inr (Or.inl rfl))) (hb hbytes d8) hl)⟩
end CodL
/-- the String at a is Latin-1 over a new byte[] (the heap's one new cell): the low bytes of the len chars of A from o on; every cell but a is kept -/
def Got (a : Addr) (D : Cell) (fV fC : Field) (A : Cell) (o len : Nat) (r : Option Value) (s u : State) : Prop := r = none ∧ ∃ D' V : Cell, Blank "java/lang/String" a D' u ∧ Same D D' [fV.slot, fC.slot] ∧ D'.slots[fV.slot]? = some (.ref s.heap.size) ∧ D'.slots[fC.slot]? = some (.int 0) ∧ Arr .byte s.heap.size V u ∧ V.vm = .none ∧ u.vm.findClass "[B" = some V.cls ∧ V.slots.size = len ∧ (∀ j, j < len → V.slots[j]? = some (.int (lo8 (cv A (o + j))))) ∧ (∀ (y : Addr) (c : Cell), y ≠ a → s.heap[y]? = some c → u.heap[y]? = some c) ∧ u.heap.size = s.heap.size + 1
theorem Got.mv {a : Addr} {D A : Cell} {fV fC : Field} {o len : Nat} : ∀ r (U U' V V' : State), U'.heap = U.heap → V.vm.Alike V'.vm → V'.heap = V.heap → Got a D fV fC A o len r U V → Got a D fV fC A o len r U' V' :=
  fun r U U' V V' h1 hal h2 ⟨e0, D', X, a1, a2, a3, a4, a5, a6, a7, a8, a9, a10, a11⟩ => ⟨e0, D', X, a1.mv hal h2, a2, by rw [h1]; exact a3, a4, by rw [h1]; exact a5.mv hal h2, a6, by rw [hal.findClass]; exact a7, a8, a9, by rw [h1, h2]; exact a10, by rw [h1, h2]; exact a11⟩
namespace New4
def yN : MethodName := ⟨"java/lang/String", "<init>", "([CIILjava/lang/Void;)V"⟩
abbrev yB : ByteArray := jdk_42_method_149_code
theorem d0 : decode yB 0 = .ok (.aload_n 0, 1) := by decide +kernel
theorem d1 : decode yB 1 = .ok (.invokespecial 1, 3) := by decide +kernel
theorem d4 : decode yB 4 = .ok (.iload_n 3, 1) := by decide +kernel
theorem d5 : decode yB 5 = .ok (.ifCond (.ne) 22, 3) := by decide +kernel
theorem d27 : decode yB 27 = .ok (.getstatic 38, 3) := by decide +kernel
theorem d30 : decode yB 30 = .ok (.ifCond (.eq) 28, 3) := by decide +kernel
theorem d33 : decode yB 33 = .ok (.aload_n 1, 1) := by decide +kernel
theorem d34 : decode yB 34 = .ok (.iload_n 2, 1) := by decide +kernel
theorem d35 : decode yB 35 = .ok (.iload_n 3, 1) := by decide +kernel
theorem d36 : decode yB 36 = .ok (.invokestatic 177, 3) := by decide +kernel
theorem d39 : decode yB 39 = .ok (.astore 5, 2) := by decide +kernel
theorem d41 : decode yB 41 = .ok (.aload_n 0, 1) := by decide +kernel
theorem d42 : decode yB 42 = .ok (.aload 5, 2) := by decide +kernel
theorem d44 : decode yB 44 = .ok (.iload_n 3, 1) := by decide +kernel
theorem d45 : decode yB 45 = .ok (.invokestatic 47, 3) := by decide +kernel
theorem d48 : decode yB 48 = .ok (.putfield 15, 3) := by decide +kernel
theorem d51 : decode yB 51 = .ok (.aload_n 0, 1) := by decide +kernel
theorem d52 : decode yB 52 = .ok (.aload 5, 2) := by decide +kernel
theorem d54 : decode yB 54 = .ok (.putfield 9, 3) := by decide +kernel
theorem d57 : decode yB 57 = .ok (.return_, 1) := by decide +kernel
def site : List Cond := [.fieldLink "java/lang/String" 38 "java/lang/String" "COMPACT_STRINGS" "Z", Cmp3.tab, CodL.tab, .laysFinal "java/lang/String" "java/lang/String" "value" "[B", .fieldLink "java/lang/String" 9 "java/lang/String" "value" "[B", .laysFinal "java/lang/String" "java/lang/String" "coder" "B", .fieldLink "java/lang/String" 15 "java/lang/String" "coder" "B"] ++ objW "java/lang/String" 1 ++ staticW "java/lang/String" 177 Cmp3.yN ++ staticW "java/lang/String" 47 CodL.yN
def tab : Cond := tabOf yN yB 6 none site
def P (a : Addr) (D : Cell) (fV fC : Field) (b : Addr) (A : Cell) (z : Int32) (o len : Nat) (args : Array Value) (s : State) : Prop := args = #[.ref a, .ref b, .int (Int32.ofNat o), .int (Int32.ofNat len), .null] ∧ Blank "java/lang/String" a D s ∧ Found "java/lang/String" "value" "[B" fV s ∧ Found "java/lang/String" "coder" "B" fC s ∧ Ch b A s ∧ StaticIs s "java/lang/String" "COMPACT_STRINGS" "Z" (.int z) ∧ ¬ z = 0 ∧ 0 < len ∧ o + len ≤ A.slots.size ∧ len ≤ 536870912 ∧ ∀ i, i < len → ¬ 255 < cv A (o + i)
def E (a : Addr) (D : Cell) (fV fC : Field) (A : Cell) (o len : Nat) (r : Option Value) (s u : State) : Prop := Got a D fV fC A o len r s u
/-- len > 0, no char of the range above 255: a Latin-1 String of their low bytes -/
theorem law (l : Launch) (a : Addr) (D : Cell) (fV fC : Field) (b : Addr) (A : Cell) (z : Int32) (o len : Nat) : Law l yN 5 4 2 35 yB 6 none site (P a D fV fC b A z o len) (E a D fV fC A o len) [⟨a, fC.slot⟩, ⟨a, fV.slot⟩] 1 len := by
  refine Law.of_walk (plainFor_of_name (by decide +kernel)) (by decide +kernel) (by decide +kernel) (by decide) (fun _ _ h => by rw [h.1]; rfl) (fun _ U U' hal hh h => ⟨h.1, h.2.1.mv hal hh, h.2.2.1.al hal, h.2.2.2.1.al hal, h.2.2.2.2.1.mv hal hh, h.2.2.2.2.2.1.there hal hh, h.2.2.2.2.2.2⟩) (fun r U U' V V' h1 hal h2 h => Got.mv r U U' V V' h1 hal h2 h) ?_
  intro p e s m args below meth c s₁ X0 hexec hbytes hml hret hlk hnm hown hh0 W hP
  obtain ⟨rfl, hB, f1, f2, hA, s1, hz, l0, l1, l2, hp⟩ := hP
  have a31 := hA.1.2.2.2
  have c1 : Steps p.tables e below (s₁.setTop (entryFrame m #[.ref a, .ref b, .int (Int32.ofNat o), .int (Int32.ofNat len), .null] 6)) (s₁.setTop (mkF m 0 #[.val (.ref a), .val (.ref b), .val (.int (Int32.ofNat o)), .val (.int (Int32.ofNat len)), .val .null, .unset] [])) := entry rfl
  have c2 : Steps p.tables e below (s₁.setTop (entryFrame m #[.ref a, .ref b, .int (Int32.ofNat o), .int (Int32.ofNat len), .null] 6)) (s₁.setTop (mkF m 1 #[.val (.ref a), .val (.ref b), .val (.int (Int32.ofNat o)), .val (.int (Int32.ofNat len)), .val .null, .unset] [.ref a])) := c1.trans (by
    refine XS.aloadN X0.here hexec rfl (hb hbytes d0) rfl rfl ?_
    exact Steps.refl _)
  obtain ⟨T3, X3, q3, st3⟩ := X0.oinit hexec hown (wks W (objW "java/lang/String" 1)) (g := (mkF m 1 #[.val (.ref a), .val (.ref b), .val (.int (Int32.ofNat o)), .val (.int (Int32.ofNat len)), .val .null, .unset] [.ref a])) rfl (by rw [hml]; rfl) (rest := []) rfl (hb hbytes d1) (W := 0) (by show 2 * 0 + 0 ≤ _; decide) (Nat.le_of_ble_eq_true rfl) (Nat.le_of_ble_eq_true rfl)
  have hh3 := q3.trans hh0
  have c4 : Steps p.tables e below (s₁.setTop (entryFrame m #[.ref a, .ref b, .int (Int32.ofNat o), .int (Int32.ofNat len), .null] 6)) (T3.setTop (mkF m 27 #[.val (.ref a), .val (.ref b), .val (.int (Int32.ofNat o)), .val (.int (Int32.ofNat len)), .val .null, .unset] [])) := (c2.trans (st3 _ (Steps.refl _))).trans (by
    refine XS.iloadN X3.here hexec rfl (hb hbytes d4) rfl ?_
    refine XS.ifYes X3.here hexec rfl (pc0 := 5) rfl (hb hbytes d5) rfl (i0_ne_t (nz32 (by omega) l0)) (by decide) rfl ?_
    exact Steps.refl _)
  obtain ⟨T5, X5, q5, st5⟩ := X3.sget hexec hown (wk W (.fieldLink "java/lang/String" 38 "java/lang/String" "COMPACT_STRINGS" "Z")) s1 (fun _ _ h => by rw [hh3]; exact h) (g := (mkF m 27 #[.val (.ref a), .val (.ref b), .val (.int (Int32.ofNat o)), .val (.int (Int32.ofNat len)), .val .null, .unset] [])) rfl (hb hbytes d27)
  have hh5 := q5.trans hh3
  have c6 : Steps p.tables e below (s₁.setTop (entryFrame m #[.ref a, .ref b, .int (Int32.ofNat o), .int (Int32.ofNat len), .null] 6)) (T5.setTop (mkF m 30 #[.val (.ref a), .val (.ref b), .val (.int (Int32.ofNat o)), .val (.int (Int32.ofNat len)), .val .null, .unset] [.int z])) := c4.trans (st5 _ (Steps.refl _))
  have c7 : Steps p.tables e below (s₁.setTop (entryFrame m #[.ref a, .ref b, .int (Int32.ofNat o), .int (Int32.ofNat len), .null] 6)) (T5.setTop (mkF m 36 #[.val (.ref a), .val (.ref b), .val (.int (Int32.ofNat o)), .val (.int (Int32.ofNat len)), .val .null, .unset] [.int (Int32.ofNat len), .int (Int32.ofNat o), .ref b])) := c6.trans (by
    refine XS.ifNo X5.here hexec rfl (hb hbytes d30) rfl (i0_eq_f hz) ?_
    refine XS.aloadN X5.here hexec rfl (hb hbytes d33) rfl rfl ?_
    refine XS.iloadN X5.here hexec rfl (hb hbytes d34) rfl ?_
    refine XS.iloadN X5.here hexec rfl (hb hbytes d35) rfl ?_
    exact Steps.refl _)
  obtain ⟨v8, T8, X8, E8, g8⟩ := X5.callS hexec (Cmp3.law l b A o len) hown (wks W (staticW "java/lang/String" 177 Cmp3.yN)) (wk W Cmp3.tab) (W := 0) (Nat.le_of_ble_eq_true rfl) (Nat.le_of_ble_eq_true rfl) (Nat.le_refl _) (by show 0 + len ≤ len; omega) (g := (mkF m 36 #[.val (.ref a), .val (.ref b), .val (.int (Int32.ofNat o)), .val (.int (Int32.ofNat len)), .val .null, .unset] [.int (Int32.ofNat len), .int (Int32.ofNat o), .ref b])) rfl (by rw [hml]; rfl) c7 (argsL := [.ref b, .int (Int32.ofNat o), .int (Int32.ofNat len)]) (rest := []) rfl rfl (by show 2 * 0 + 0 ≤ _; decide) (hb hbytes d36) (⟨rfl, hA.mv X5.warmed.alike hh5, l1, l2, hp⟩)
  obtain ⟨e8, z8⟩ := E8
  obtain ⟨rfl, N, n1, n2, n3, n4, n5, n6⟩ := NewArr.mv _ T5 s _ _ hh5.symm (Vm.Alike.refl _) rfl e8
  rw [hh5] at z8
  have hB1 := hB.keep X8.warmed.alike (n6 _ _ hB.1)
  have hne : s.heap.size ≠ a := (Nat.ne_of_lt (Array.getElem?_eq_some_iff.mp hB.1).1).symm
  have c9 : Steps p.tables e below (s₁.setTop (entryFrame m #[.ref a, .ref b, .int (Int32.ofNat o), .int (Int32.ofNat len), .null] 6)) (T8.setTop (mkF m 39 #[.val (.ref a), .val (.ref b), .val (.int (Int32.ofNat o)), .val (.int (Int32.ofNat len)), .val .null, .unset] [.ref s.heap.size])) := g8
  have c10 : Steps p.tables e below (s₁.setTop (entryFrame m #[.ref a, .ref b, .int (Int32.ofNat o), .int (Int32.ofNat len), .null] 6)) (T8.setTop (mkF m 45 #[.val (.ref a), .val (.ref b), .val (.int (Int32.ofNat o)), .val (.int (Int32.ofNat len)), .val .null, .val (.ref s.heap.size)] [.int (Int32.ofNat N.slots.size), .ref s.heap.size, .ref a])) := by
    have hc : Steps p.tables e below (s₁.setTop (entryFrame m #[.ref a, .ref b, .int (Int32.ofNat o), .int (Int32.ofNat len), .null] 6)) (T8.setTop (mkF m 45 #[.val (.ref a), .val (.ref b), .val (.int (Int32.ofNat o)), .val (.int (Int32.ofNat len)), .val .null, .val (.ref s.heap.size)] [.int (Int32.ofNat len), .ref s.heap.size, .ref a])) := c9.trans (by
      refine XS.astore X8.here hexec rfl (hb hbytes d39) rfl rfl rfl ?_
      refine XS.aloadN X8.here hexec rfl (hb hbytes d41) rfl rfl ?_
      refine XS.aload X8.here hexec rfl (hb hbytes d42) rfl rfl ?_
      refine XS.iloadN X8.here hexec rfl (hb hbytes d44) rfl ?_
      exact Steps.refl _)
    rw [n4]; exact hc
  obtain ⟨v11, T11, X11, E11, g11⟩ := X8.callS hexec (CodL.law l s.heap.size N) hown (wks W (staticW "java/lang/String" 47 CodL.yN)) (wk W CodL.tab) (W := 1) (Nat.le_of_ble_eq_true rfl) (Nat.le_of_ble_eq_true rfl) (Nat.le_refl _) (by show 0 + len + 0 ≤ len; omega) (g := (mkF m 45 #[.val (.ref a), .val (.ref b), .val (.int (Int32.ofNat o)), .val (.int (Int32.ofNat len)), .val .null, .val (.ref s.heap.size)] [.int (Int32.ofNat N.slots.size), .ref s.heap.size, .ref a])) rfl (by rw [hml]; rfl) c10 (argsL := [.ref s.heap.size, .int (Int32.ofNat N.slots.size)]) (rest := [.ref a]) rfl rfl (by show 2 * 0 + (1 + 0) ≤ _; decide) (hb hbytes d45) (⟨rfl, n1⟩)
  obtain ⟨rfl, q11⟩ := E11
  have hB11 := hB1.mv (X8.warmed.alike.symm.trans X11.warmed.alike) q11
  have c12 : Steps p.tables e below (s₁.setTop (entryFrame m #[.ref a, .ref b, .int (Int32.ofNat o), .int (Int32.ofNat len), .null] 6)) (T11.setTop (mkF m 48 #[.val (.ref a), .val (.ref b), .val (.int (Int32.ofNat o)), .val (.int (Int32.ofNat len)), .val .null, .val (.ref s.heap.size)] [.int 0, .ref a])) := g11
  obtain ⟨T13, X13, p13, bl13, sl13, st13⟩ := X11.finit hexec hown (wk W (.fieldLink "java/lang/String" 15 "java/lang/String" "coder" "B")) (Or.inr ⟨_, (wk W (.laysFinal "java/lang/String" "java/lang/String" "coder" "B"))⟩) (Or.inl ⟨rfl, hnm⟩) f2 (Or.inl rfl) hB11 (t := .byte) (by decide +kernel) rfl (g := (mkF m 48 #[.val (.ref a), .val (.ref b), .val (.int (Int32.ofNat o)), .val (.int (Int32.ofNat len)), .val .null, .val (.ref s.heap.size)] [.int 0, .ref a])) rfl (rest := []) rfl (hb hbytes d48)
  have c14 : Steps p.tables e below (s₁.setTop (entryFrame m #[.ref a, .ref b, .int (Int32.ofNat o), .int (Int32.ofNat len), .null] 6)) (T13.setTop (mkF m 54 #[.val (.ref a), .val (.ref b), .val (.int (Int32.ofNat o)), .val (.int (Int32.ofNat len)), .val .null, .val (.ref s.heap.size)] [.ref s.heap.size, .ref a])) := (c12.trans (st13 _ (Steps.refl _))).trans (by
    refine XS.aloadN X13.here hexec rfl (hb hbytes d51) rfl rfl ?_
    refine XS.aload X13.here hexec rfl (hb hbytes d52) rfl rfl ?_
    exact Steps.refl _)
  obtain ⟨T15, X15, p15, bl15, sl15, st15⟩ := X13.finit hexec hown (wk W (.fieldLink "java/lang/String" 9 "java/lang/String" "value" "[B")) (Or.inr ⟨_, (wk W (.laysFinal "java/lang/String" "java/lang/String" "value" "[B"))⟩) (Or.inl ⟨rfl, hnm⟩) f1 (Or.inl rfl) bl13 (t := (.array .byte)) (by decide +kernel) rfl (g := (mkF m 54 #[.val (.ref a), .val (.ref b), .val (.int (Int32.ofNat o)), .val (.int (Int32.ofNat len)), .val .null, .val (.ref s.heap.size)] [.ref s.heap.size, .ref a])) rfl (rest := []) rfl (hb hbytes d54)
  have c16 : Steps p.tables e below (s₁.setTop (entryFrame m #[.ref a, .ref b, .int (Int32.ofNat o), .int (Int32.ofNat len), .null] 6)) (T15.setTop (mkF m 57 #[.val (.ref a), .val (.ref b), .val (.int (Int32.ofNat o)), .val (.int (Int32.ofNat len)), .val .null, .val (.ref s.heap.size)] [])) := c14.trans (st15 _ (Steps.refl _))
  have ap := apart (Or.inr ⟨_, (wk W (.laysFinal "java/lang/String" "java/lang/String" "value" "[B"))⟩) (Or.inr ⟨_, (wk W (.laysFinal "java/lang/String" "java/lang/String" "coder" "B"))⟩) f1 f2 (t₁ := .array .byte) (t₂ := .byte) (by decide +kernel) (by decide +kernel) (by decide)
  have al := X8.warmed.alike.symm.trans X15.warmed.alike
  have n7 : T11.heap[s.heap.size]? = some N := by rw [q11]; exact n1.1
  exact ⟨T15, none, _, _, _, X15, by simp, rfl, by omega, (fun _ => rfl), ⟨rfl, _, N, bl15, ((Same.refl D _).set _ (by simp)).set _ (by simp), sl15, (Cell.slots_setSlot_ne _ ap).trans sl13, n1.keep al (p15.other hne (p13.other hne n7)), n2, by rw [al.findClass]; exact n3, n4, n5, fun y c h1 h2 => p15.other h1 (p13.other h1 (by rw [q11]; exact n6 y c h2)), by rw [p15.2.2, p13.2.2, q11]; exact z8⟩, fun fs hl => c16.trans (X15.returnOut hexec hret (hb hbytes d57) hl)⟩
end New4
namespace New1
def yN : MethodName := ⟨"java/lang/String", "<init>", "([C)V"⟩
abbrev yB : ByteArray := jdk_42_method_3_code
theorem d0 : decode yB 0 = .ok (.aload_n 0, 1) := by decide +kernel
theorem d1 : decode yB 1 = .ok (.aload_n 1, 1) := by decide +kernel
theorem d2 : decode yB 2 = .ok (.iconst 0, 1) := by decide +kernel
theorem d3 : decode yB 3 = .ok (.aload_n 1, 1) := by decide +kernel
theorem d4 : decode yB 4 = .ok (.arraylength, 1) := by decide +kernel
theorem d5 : decode yB 5 = .ok (.aconst_null, 1) := by decide +kernel
theorem d6 : decode yB 6 = .ok (.invokespecial 27, 3) := by decide +kernel
theorem d9 : decode yB 9 = .ok (.return_, 1) := by decide +kernel
def site : List Cond := [New4.tab] ++ initW "java/lang/String" 27 New4.yN
def tab : Cond := tabOf yN yB 2 none site
def P (a : Addr) (D : Cell) (fV fC : Field) (b : Addr) (A : Cell) (z : Int32) (args : Array Value) (s : State) : Prop := args = #[.ref a, .ref b] ∧ Blank "java/lang/String" a D s ∧ Found "java/lang/String" "value" "[B" fV s ∧ Found "java/lang/String" "coder" "B" fC s ∧ Ch b A s ∧ StaticIs s "java/lang/String" "COMPACT_STRINGS" "Z" (.int z) ∧ ¬ z = 0 ∧ 0 < A.slots.size ∧ A.slots.size ≤ 536870912 ∧ ∀ i, i < A.slots.size → ¬ 255 < cv A i
def E (a : Addr) (D : Cell) (fV fC : Field) (A : Cell) (r : Option Value) (s u : State) : Prop := Got a D fV fC A 0 A.slots.size r s u
/-- new String(chars), not empty, no char above 255: a Latin-1 String of their low bytes -/
theorem law (l : Launch) (a : Addr) (D : Cell) (fV fC : Field) (b : Addr) (A : Cell) (z : Int32) : Law l yN 2 1 3 52 yB 2 none site (P a D fV fC b A z) (E a D fV fC A) [⟨a, fC.slot⟩, ⟨a, fV.slot⟩] 1 A.slots.size := by
  refine Law.of_walk (plainFor_of_name (by decide +kernel)) (by decide +kernel) (by decide +kernel) (by decide) (fun _ _ h => by rw [h.1]; rfl) (fun _ U U' hal hh h => ⟨h.1, h.2.1.mv hal hh, h.2.2.1.al hal, h.2.2.2.1.al hal, h.2.2.2.2.1.mv hal hh, h.2.2.2.2.2.1.there hal hh, h.2.2.2.2.2.2⟩) (fun r U U' V V' h1 hal h2 h => Got.mv r U U' V V' h1 hal h2 h) ?_
  intro p e s m args below meth c s₁ X0 hexec hbytes hml hret hlk hnm hown hh0 W hP
  obtain ⟨rfl, hB, f1, f2, hA, s1, hz, l0, l2, hp⟩ := hP
  have c1 : Steps p.tables e below (s₁.setTop (entryFrame m #[.ref a, .ref b] 2)) (s₁.setTop (mkF m 0 #[.val (.ref a), .val (.ref b)] [])) := entry rfl
  have c2 : Steps p.tables e below (s₁.setTop (entryFrame m #[.ref a, .ref b] 2)) (s₁.setTop (mkF m 6 #[.val (.ref a), .val (.ref b)] [.null, .int (Int32.ofNat A.slots.size), .int 0, .ref b, .ref a])) := c1.trans (by
    refine XS.aloadN X0.here hexec rfl (hb hbytes d0) rfl rfl ?_
    refine XS.aloadN X0.here hexec rfl (hb hbytes d1) rfl rfl ?_
    refine iconstV X0.here hexec rfl 0 (hb hbytes d2) (by decide) ?_
    refine XS.aloadN X0.here hexec rfl (hb hbytes d3) rfl rfl ?_
    refine X0.alen hexec (hA.1.mv X0.warmed.alike hh0) rfl rfl (hb hbytes d4) ?_
    refine XS.aconstNull X0.here hexec rfl (hb hbytes d5) ?_
    exact Steps.refl _)
  obtain ⟨v3, T3, X3, E3, g3⟩ := X0.callN hexec (New4.law l a D fV fC b A z 0 A.slots.size) rfl hown (wks W (initW "java/lang/String" 27 New4.yN)) (W New4.tab (by simp only [site, List.mem_cons, List.mem_append, true_or, or_true])) (W := 0) (Nat.le_of_ble_eq_true rfl) (Nat.le_of_ble_eq_true rfl) (Nat.le_refl _) (by show 0 + A.slots.size ≤ A.slots.size; omega) (g := (mkF m 6 #[.val (.ref a), .val (.ref b)] [.null, .int (Int32.ofNat A.slots.size), .int (Int32.ofNat 0), .ref b, .ref a])) rfl (by rw [hml]; rfl) c2 (argsL := [.ref b, .int (Int32.ofNat 0), .int (Int32.ofNat A.slots.size), .null]) (rest := []) rfl rfl (by show 2 * 0 + 0 ≤ _; decide) (hb hbytes d6) (⟨rfl, hB.mv X0.warmed.alike hh0, f1.al X0.warmed.alike, f2.al X0.warmed.alike, hA.mv X0.warmed.alike hh0, s1.there X0.warmed.alike hh0, hz, l0, by omega, l2, fun i hi => by rw [Nat.zero_add]; exact hp i hi⟩)
  have e0 := Got.mv _ s₁ s _ _ hh0.symm (Vm.Alike.refl _) rfl E3
  obtain rfl := e0.1
  have c4 : Steps p.tables e below (s₁.setTop (entryFrame m #[.ref a, .ref b] 2)) (T3.setTop (mkF m 9 #[.val (.ref a), .val (.ref b)] [])) := g3
  exact ⟨T3, none, _, _, _, X3, by simp, rfl, by omega, (fun _ => rfl), e0, fun fs hl => c4.trans (X3.returnOut hexec hret (hb hbytes d9) hl)⟩
theorem pays {l : Launch} {R : Room} {p : Program} {e : Env} {below : List Frame} {s : State} {sargs : Array Value} {len W : Nat} (a : Addr) (D : Cell) (fV fC : Field) (b : Addr) (A : Cell) (z : Int32) (htab : tab.before sargs s = true) (hfr : 4 ≤ R.frames) (hlo : W + 65 ≤ R.locals) :
    Back l R p e below s sargs yN len W (fun A₁ a₁ => A₁.cells + 1 ≤ R.cells ∧ A₁.slots + A.slots.size ≤ R.slots ∧ P a D fV fC b A z a₁ A₁.U) (fun A₁ _ v₁ B₁ => E a D fV fC A v₁ A₁.U B₁.U ∧ B₁.locs = A₁.locs ++ [⟨a, fC.slot⟩, ⟨a, fV.slot⟩] ∧ B₁.cells = A₁.cells + 1 ∧ B₁.slots = A₁.slots + A.slots.size) :=
  (law l a D fV fC b A z).pays htab hfr (by omega)
end New1
/-- the byte, read back as charAt reads it, is the char -/
theorem lo8_mask {x : Int32} (h0 : ¬ x < 0) (h1 : ¬ 255 < x) : lo8 x &&& 255 = x := by
  have t : ∀ k : Fin 256, lo8 (Int32.ofNat k.val) &&& 255 = Int32.ofNat k.val := by decide +kernel
  rw [Int32.lt_iff_toInt_lt] at h0 h1
  have e0 : (0 : Int32).toInt = 0 := rfl
  have e1 : (255 : Int32).toInt = 255 := rfl
  obtain ⟨k, hk⟩ : ∃ k : Nat, x.toInt = k := ⟨x.toInt.toNat, by omega⟩
  have hx : x = Int32.ofNat k := Int32.toInt_inj.mp (by rw [hk, Int32.toInt_ofNat_small (by omega)])
  rw [hx]
  exact t ⟨k, by omega⟩
end StrChars
namespace StrChars.Road
open Jvm Sem ClassFile Op Lib Jvm.Stand Jvm.Free Jvm.Free.XT
open Jvm.Lib.Cold (StaticIs)
abbrev ST : String := "java/lang/String"
/-- every table word that New1's law asks, flat -/
abbrev words : List Jvm.Cond := [.code New1.yN New1.yB 2 none, .initialized ST, .methodLink ST 27 New4.yN, .instanceMethod New4.yN,
  .code New4.yN New4.yB 6 none, .fieldLink ST 38 ST "COMPACT_STRINGS" "Z", .laysFinal ST ST "value" "[B", .fieldLink ST 9 ST "value" "[B", .laysFinal ST ST "coder" "B", .fieldLink ST 15 ST "coder" "B",
  .methodLink ST 1 Lib.objectInit, .instanceMethod Lib.objectInit, .code Lib.objectInit ⟨#[0xb1]⟩ 1 none, .methodLink ST 177 Cmp3.yN, .static Cmp3.yN, .methodLink ST 47 CodL.yN, .static CodL.yN,
  .code Cmp3.yN Cmp3.yB 6 (some (.array .byte)), .initialized U16, .arrayClass .byte, .methodLink U16 115 Cmp5.yN, .static Cmp5.yN, .code Cmp5.yN Cmp5.yB 7 (some .int), .code CodL.yN CodL.yB 2 (some .byte)]
theorem tab_of {a : Array Value} {s : State} (h : ∀ w ∈ words, w.before a s = true) : New1.tab.before a s = true := by
  have h5 : Cmp5.tab.before a s = true := unparts (wk h (.code Cmp5.yN Cmp5.yB 7 (some .int))) (wks h (.initialized Cmp5.yN.cls :: Cmp5.site))
  have hc : CodL.tab.before a s = true := unparts (wk h (.code CodL.yN CodL.yB 2 (some .byte))) (wks h (.initialized CodL.yN.cls :: CodL.site))
  have q5 : ∀ w ∈ Cmp5.tab :: words, w.before a s = true := fun w hw => (List.mem_cons.mp hw).elim (fun e => e ▸ h5) (h w)
  have h3 : Cmp3.tab.before a s = true := unparts (wk q5 (.code Cmp3.yN Cmp3.yB 6 (some (.array .byte)))) (wks q5 (.initialized Cmp3.yN.cls :: Cmp3.site))
  have q3 : ∀ w ∈ Cmp3.tab :: CodL.tab :: words, w.before a s = true := fun w hw => (List.mem_cons.mp hw).elim (fun e => e ▸ h3) fun hw => (List.mem_cons.mp hw).elim (fun e => e ▸ hc) (h w)
  have h4 : New4.tab.before a s = true := unparts (wk q3 (.code New4.yN New4.yB 6 none)) (wks q3 (.initialized New4.yN.cls :: New4.site))
  have q4 : ∀ w ∈ New4.tab :: words, w.before a s = true := fun w hw => (List.mem_cons.mp hw).elim (fun e => e ▸ h4) (h w)
  exact unparts (wk q4 (.code New1.yN New1.yB 2 none)) (wks q4 (.initialized New1.yN.cls :: New1.site))
/-- the words ride from the start Z to the walk's own state -/
theorem moved {Z s : State} {a0 args : Array Value} (hZ : Z.Warmed39 s.vm) (hw : ∀ d ∈ words, d.before a0 Z = true) : ∀ d ∈ words, d.before args s = true := fun d hd => by
  have q := hw d hd
  have t : ∀ d ∈ words, d = .arrayClass .byte ∨ (d.onTables && d.keepsFace) = true := by decide +kernel
  rcases t d hd with rfl | t
  · exact RoadKit.mvA hZ q
  · exact RoadKit.mv hZ q t
/-- WHAT COMES BACK, over the tables of the start Z: h the heap at the call, h' behind it -/
def Q (Z : State) (x : Addr) (A : Cell) (h : Heap) (v : Option Value) (h' : Heap) (L : List Loc) : Prop := v = none ∧ (∀ y ∈ L, y.base = x) ∧ RoadKit.Keep h h' [x] ∧ h'.size = h.size + 1 ∧ RoadKit.Exa Z h' x ST ∧ RoadKit.Fld Z h' x ST "value" "[B" (.ref h.size) ∧ RoadKit.Fld Z h' x ST "coder" "B" (.int 0) ∧
  (∃ V : Cell, RoadKit.Arr Z h' h.size V .byte ∧ V.vm = .none ∧ Z.vm.findClass "[B" = some V.cls ∧ V.slots.size = A.slots.size ∧ ∀ j, j < A.slots.size → V.slots[j]? = some (.int (lo8 (cv A j)))) ∧
  ∀ (O n d : String) (w : Value), RoadKit.Fld Z h x O n d w → RoadKit.slotOf Z O n d ≠ RoadKit.slotOf Z ST "value" "[B" → RoadKit.slotOf Z O n d ≠ RoadKit.slotOf Z ST "coder" "B" → RoadKit.Fld Z h' x O n d w
/-- **new String(chars) AT A CALL, IN THE ROAD'S FORM**: for specialBack behind newO: x the fresh String, b the char[] with the cell A -/
theorem back {p : Program} {l : Launch} {e : Env} {R : Room} {s : State} {args : Array Value} {below : List Frame} {len W : Nat} {Z : State} {a0 : Array Value} {h : Heap} (hZ : Z.Warmed39 s.vm) (hw : ∀ d ∈ words, d.before a0 Z = true) {kI : Nat} (wi : (Jvm.Cond.instantiable ST kI).before a0 Z = true)
    {x b : Addr} {A : Cell} {z : Int32} {v0 c0 : Value} (E : RoadKit.Exa Z h x ST) (V : RoadKit.Fld Z h x ST "value" "[B" v0) (C : RoadKit.Fld Z h x ST "coder" "B" c0) (K : RoadKit.Arr Z h b A .char) (hty : Typed .char A) (S : RoadKit.Sta Z h ST "COMPACT_STRINGS" "Z" (.int z)) (hz : ¬ z = 0)
    (l0 : 0 < A.slots.size) (l2 : A.slots.size ≤ 536870912) (hp : ∀ i, i < A.slots.size → ¬ 255 < cv A i) (hfr : 4 ≤ R.frames) (hlo : W + 65 ≤ R.locals) :
    Back l R p e below s args New1.yN len W (fun P a => a = #[.ref x, .ref b] ∧ P.U.heap = h ∧ P.cells + 1 ≤ R.cells ∧ P.slots + A.slots.size ≤ R.slots)
      (fun P _ v B => ∃ L, Q Z x A h v B.U.heap L ∧ B.locs = P.locs ++ L ∧ B.cells = P.cells + 1 ∧ B.slots = P.slots + A.slots.size) := by
  intro m meth c P g ig mk a X hg hsize hdg hW hn hp'
  obtain ⟨rfl, rfl, r1, r2⟩ := hp'
  have al : Z.vm.Alike P.U.vm := hZ.alike.trans X.warmed.alike
  obtain ⟨D, cfV, kV, iV, fV, hD, gV, stV, knV, obV, asV, slV⟩ := id V
  obtain ⟨D', cfC, kC, iC, fC, hD', gC, stC, -, -, asC, slC⟩ := id C
  cases hD.symm.trans hD'
  obtain ⟨D2, kD, e1, e2, e3, e4, e5⟩ := id E
  cases hD.symm.trans e1
  obtain ⟨c2, k2, i1, i2, i3, -⟩ := Cond.instantiable_spec wi
  cases e2.symm.trans i1
  cases e3.symm.trans i2
  obtain ⟨kU, u1, u2⟩ := al.2.2 _ _ e3
  have hB : Blank ST x D P.U := ⟨hD, ⟨knV, fun q hq => by rw [hq] at obV; cases obV⟩, by rw [al.findClass]; exact e2, kU, u1, by rw [u2]; exact i3, by rw [u2]; exact e5 i3⟩
  have F1 : Found ST "value" "[B" fV P.U := ⟨SBG.found_only al ⟨cfV, kV, iV, gV⟩, stV⟩
  have F2 : Found ST "coder" "B" fC P.U := ⟨SBG.found_only al ⟨cfC, kC, iC, gC⟩, stC⟩
  have hA : Ch b A P.U := ⟨⟨K.1, State.isArrayOf_alike al K.2.1, K.2.2, by omega⟩, hty⟩
  have hS : StaticIs P.U ST "COMPACT_STRINGS" "Z" (.int z) := by
    obtain ⟨cfS, iS, kS, fS, st, cS, t1, t2, t3, t4, t5, t6, t7⟩ := S
    exact StaticIs.there (s := { Z with heap := P.U.heap }) ⟨cfS, iS, kS, fS, st, cS, t1, t2, t3, t4, t5, (fun q => by rw [q] at t6; cases t6), t7⟩ al rfl
  obtain ⟨v, B, X', ⟨⟨hv, E', V', q1, q2, q3, q4, q5, q6, q7, q8, q9, q10, q11⟩, hl, hc, hs⟩, st⟩ := New1.pays x D fV fC b A z (tab_of (moved hZ hw)) hfr hlo m meth c P g ig mk _ X hg hsize hdg hW hn ⟨r1, r2, rfl, hB, F1, F2, hA, hS, hz, l0, l2, hp⟩
  have al' : Z.vm.Alike B.U.vm := hZ.alike.trans X'.warmed.alike
  have hsz : E'.slots.size = D.slots.size := by
    obtain ⟨-, -, -, kB, w1, w2, w3⟩ := q1
    obtain ⟨kB', y1, y2⟩ := al'.2.2 _ _ e3
    rw [q2.2.1] at w1
    cases w1.symm.trans y1
    rw [w3, e5 i3, y2]
  refine ⟨v, B, X', ⟨_, ⟨hv, ?_, ⟨by omega, fun y cy hy hn' => q10 y cy (by simpa using hn') hy, fun y cy hy => ?_⟩, q11, ⟨E', _, q1.1, by rw [q2.2.1]; exact e2, by rw [q2.2.1]; exact e3, by rw [q2.1]; exact obV, fun _ => by rw [hsz]; exact e5 i3⟩,
    ⟨E', cfV, kV, iV, fV, q1.1, gV, stV, by rw [q2.1]; exact knV, by rw [q2.1]; exact obV, by rw [q2.2.1]; exact asV, q3⟩, ⟨E', cfC, kC, iC, fC, q1.1, gC, stC, by rw [q2.1]; exact knV, by rw [q2.1]; exact obV, by rw [q2.2.1]; exact asC, q4⟩,
    ⟨V', ⟨q5.1, State.isArrayOf_alike al'.symm q5.2.1, q5.2.2.1⟩, q6, by rw [← al'.findClass]; exact q7, q8, fun j hj => by have := q9 j hj; rwa [Nat.zero_add] at this⟩, fun O n d w F n1 n2 => ?_⟩, hl, hc, hs⟩, st⟩
  · intro y hy
    simp only [List.mem_cons, List.not_mem_nil, or_false] at hy
    rcases hy with rfl | rfl <;> rfl
  · by_cases q : y = x
    · subst q
      cases hD.symm.trans hy
      exact ⟨E', q1.1, q2.2.1, q2.1, hsz⟩
    · exact ⟨cy, q10 y cy q hy, rfl, rfl, rfl⟩
  · obtain ⟨D3, cf, k, i, f, g1, g2, g3, g4, g5, g6, g7⟩ := F
    cases hD.symm.trans g1
    simp only [RoadKit.slotOf, g2, gV, gC, Option.map_some, Option.getD_some] at n1 n2
    exact ⟨E', cf, k, i, f, q1.1, g2, g3, by rw [q2.1]; exact g4, by rw [q2.1]; exact g5, by rw [q2.2.1]; exact g6, by rw [q2.2.2 f.slot (by simp [n1, n2])]; exact g7⟩
end StrChars.Road
namespace StrChars.Road
open Jvm Sem ClassFile Op Lib Jvm.Stand Jvm.Free Jvm.Free.XT
/-- WHAT COMES BACK, the byte[] as a list of values -/
def QA (Z : State) (x : Addr) (zn : Int32) (cs : List Int32) (h : Heap) (v : Option Value) (h' : Heap) (L : List Loc) : Prop := v = none ∧ (∀ y ∈ L, y.base = x) ∧ RoadKit.Keep h h' [x] ∧ h'.size = h.size + 1 ∧ RoadKit.Exa Z h' x ST ∧ RoadKit.Fld Z h' x ST "value" "[B" (.ref h.size) ∧ RoadKit.Fld Z h' x ST "coder" "B" (.int 0) ∧
  (∃ kb, Z.vm.findClass "[B" = some kb ∧ RoadKit.Arv Z h' h.size kb .byte zn (cs.map fun c => .int (lo8 c)) (.int 0)) ∧
  ∀ (O n d : String) (w : Value), RoadKit.Fld Z h x O n d w → RoadKit.slotOf Z O n d ≠ RoadKit.slotOf Z ST "value" "[B" → RoadKit.slotOf Z O n d ≠ RoadKit.slotOf Z ST "coder" "B" → RoadKit.Fld Z h' x O n d w
/-- **new String(chars) AT A CALL, THE ARRAYS AS LISTS**: the char[] at b holds cs, not empty, no char above 255 -/
theorem backArv {p : Program} {l : Launch} {e : Env} {R : Room} {s : State} {args : Array Value} {below : List Frame} {len W : Nat} {Z : State} {a0 : Array Value} {h : Heap} (hZ : Z.Warmed39 s.vm) (hw : ∀ d ∈ words, d.before a0 Z = true) {kI : Nat} (wi : (Jvm.Cond.instantiable ST kI).before a0 Z = true)
    {x b : Addr} {k : ClassId} {zn z : Int32} {cs : List Int32} {dv v0 c0 : Value} (E : RoadKit.Exa Z h x ST) (V : RoadKit.Fld Z h x ST "value" "[B" v0) (C : RoadKit.Fld Z h x ST "coder" "B" c0) (K : RoadKit.Arv Z h b k .char zn (cs.map Value.int) dv) (S : RoadKit.Sta Z h ST "COMPACT_STRINGS" "Z" (.int z)) (hz : ¬ z = 0)
    (hlen : zn.toNatClampNeg = cs.length) (h0 : 0 < cs.length) (hbig : cs.length ≤ 536870912) (hall : ∀ c ∈ cs, ¬ 255 < c) (hfr : 4 ≤ R.frames) (hlo : W + 65 ≤ R.locals) :
    Back l R p e below s args New1.yN len W (fun P a => a = #[.ref x, .ref b] ∧ P.U.heap = h ∧ P.cells + 1 ≤ R.cells ∧ P.slots + cs.length ≤ R.slots)
      (fun P _ v B => ∃ L, QA Z x zn cs h v B.U.heap L ∧ B.locs = P.locs ++ L ∧ B.cells = P.cells + 1 ∧ B.slots = P.slots + cs.length) := by
  obtain ⟨A, K1, K2, K3, K4, K5, K6⟩ := K
  have e : A.slots.size = cs.length := K3.trans hlen
  have hat : ∀ (i : Nat) (hi : i < cs.length), A.slots[i]? = some (.int cs[i]) := fun i hi => by rw [K5 i (by omega)]; simp [List.getD_eq_getElem?_getD, hi]
  have hcv : ∀ (i : Nat) (hi : i < cs.length), cv A i = cs[i] := fun i hi => by unfold cv; rw [hat i hi]
  have hty : Typed .char A := fun i v hv => by
    have hi : i < A.slots.size := (Array.getElem?_eq_some_iff.mp hv).1
    have q := K5 i hi
    rw [hv] at q
    rw [Option.some.inj q]
    exact K6 i hi
  refine Back.mono (back hZ hw wi E V C K1 hty S hz (by omega) (by omega) (fun i hi => by rw [hcv i (by omega)]; exact hall _ (List.getElem_mem _)) hfr hlo) (fun P a hp => ⟨hp.1, hp.2.1, hp.2.2.1, by rw [e]; exact hp.2.2.2⟩) (fun P a v B hp hq => ?_)
  obtain ⟨L, ⟨q1, q2, q3, q4, q5, q6, q7, ⟨V', v1, v2, v3, v4, v5⟩, q9⟩, hl, hc, hs⟩ := hq
  refine ⟨L, ⟨q1, q2, q3, q4, q5, q6, q7, ⟨V'.cls, v3, V', v1, rfl, by rw [v4, e, hlen], K4, fun i hi => ?_, fun i hi => ?_⟩, q9⟩, hl, hc, by rw [hs, e]⟩
  · have hi' : i < cs.length := by omega
    rw [v5 i (by omega), hcv i hi']; simp [List.getD_eq_getElem?_getD, hi']
  · have hi' : i < cs.length := by omega
    simp only [List.getD_eq_getElem?_getD, List.getElem?_map, List.getElem?_eq_getElem hi', Option.map_some, Option.getD_some]
    exact fits_lo8 _
end StrChars.Road
namespace StrChars.Road
open Jvm Sem ClassFile Op Lib Jvm.Stand Jvm.Free Jvm.Free.XT
/-- WHAT COMES BACK, in the writer's own shape -/
def QV (Z : State) (x : Addr) (N : Int32) (bs : List Int32) (h : Heap) (n0 : Nat) (v : Option Value) (h' : Heap) (L : List Loc) : Prop := v = none ∧ RoadKit.Fr n0 L ∧ RoadKit.Keep h h' [x] ∧ RoadKit.Exa Z h' x ST ∧ RoadKit.Fld Z h' x ST "coder" "B" (.int 0) ∧
  ∃ (t : Addr) (kb : ClassId), n0 ≤ t ∧ h.size ≤ t ∧ ¬ t = x ∧ RoadKit.Fld Z h' x ST "value" "[B" (.ref t) ∧ RoadKit.Arv Z h' t kb .byte N (bs.map Value.int) (.int 0)
/-- **new String(chars) AT A CALL, FOR THE WRITER**: a char[] of n known ints, each 0 to 255 -/
theorem backV {p : Program} {l : Launch} {e : Env} {R : Room} {s : State} {args : Array Value} {below : List Frame} {len W : Nat} {Z : State} {a0 : Array Value} {h : Heap} (hZ : Z.Warmed39 s.vm) (hw : ∀ d ∈ words, d.before a0 Z = true) {kI : Nat} (wi : (Jvm.Cond.instantiable ST kI).before a0 Z = true)
    {x b : Addr} {kC : ClassId} {cs bs : List Int32} {d v0 c0 : Value} {z N : Int32} {n n0 : Nat} (hx0 : n0 ≤ x) (hh0 : n0 ≤ h.size) (E : RoadKit.Exa Z h x ST) (V : RoadKit.Fld Z h x ST "value" "[B" v0) (C : RoadKit.Fld Z h x ST "coder" "B" c0) (K : RoadKit.Arv Z h b kC .char N (cs.map Value.int) d) (S : RoadKit.Sta Z h ST "COMPACT_STRINGS" "Z" (.int z)) (hz : ¬ z = 0)
    (hn : cs.length = n) (hN : N = Int32.ofNat n) (l0 : 0 < n) (l2 : n ≤ 4000) (hp : ∀ c ∈ cs, ¬ c < 0 ∧ ¬ (255 : Int32) < c) (hb : bs = cs.map (fun c => c.toInt8.toInt32)) (hfr : 4 ≤ R.frames) (hlo : W + 65 ≤ R.locals) :
    Back l R p e below s args (⟨"java/lang/String", "<init>", "([C)V"⟩ : MethodName) len W (fun P a => a = #[.ref x, .ref b] ∧ P.U.heap = h ∧ P.cells + 1 ≤ R.cells ∧ P.slots + n ≤ R.slots)
      (fun P _ v B => ∃ L, QV Z x N bs h n0 v B.U.heap L ∧ B.locs = P.locs ++ L ∧ B.cells = P.cells + 1 ∧ B.slots = P.slots + n) := by
  subst hn hN hb
  refine Back.mono (backArv hZ hw wi E V C K S hz (n32 (by omega)) l0 (by omega) (fun c hc => (hp c hc).2) hfr hlo) (fun P a hp => hp) (fun P a v B hp hq => ?_)
  obtain ⟨L, ⟨q1, q2, q3, q4, q5, q6, q7, ⟨kb, v1, v2⟩, q9⟩, hl, hc, hs⟩ := hq
  exact ⟨L, ⟨q1, fun y hy => by rw [q2 y hy]; exact hx0, q3, q5, q7, h.size, kb, hh0, Nat.le_refl _, Nat.ne_of_gt E.lt, q6, by rw [List.map_map]; exact v2⟩, hl, hc, hs⟩
end StrChars.Road
namespace StrChars
open Jvm Sem ClassFile Op Lib Jvm.Stand Jvm.Free.XT Jvm.Free.ALB Jvm.Free.JM Jvm.Free
open Jvm.Lib.Cold (StaticIs)
def hi8 (x : Int32) : Int32 := lo8 (x >>> ((8 : Int32) &&& 31))
/-- what StringUTF16.getChar makes of two bytes -/
def pairCh (u v : Int32) : Int32 := (((u &&& 255) <<< ((0 : Int32) &&& 31)) ||| ((v &&& 255) <<< ((8 : Int32) &&& 31))).toUInt32.toUInt16.toUInt32.toInt32
theorem shr0 (c : Int32) : c >>> ((0 : Int32) &&& 31) = c := by
  have e : ((0 : Int32) &&& 31) = 0 := by decide
  rw [e]
  apply Int32.toBitVec_inj.mp
  rw [Int32.toBitVec_shiftRight]
  have e1 : ((0 : Int32).toBitVec.smod 32) = 0#32 := by decide
  rw [e1, BitVec.sshiftRight_eq']
  exact BitVec.sshiftRight_zero
theorem lo8_and (x : Int32) : (lo8 x &&& 255).toBitVec.toNat = x.toBitVec.toNat % 256 := by
  have h : (lo8 x).toBitVec = (x.toBitVec.signExtend 8).signExtend 32 := by rw [lo8, Int8.toBitVec_toInt32, Int32.toBitVec_toInt8]
  rw [Int32.toBitVec_and, BitVec.toNat_and, h]
  have e : ((x.toBitVec.signExtend 8).signExtend 32).toNat % 256 = x.toBitVec.toNat % 256 := by
    rw [BitVec.toNat_signExtend]
    have hlt := x.toBitVec.isLt
    simp only [BitVec.toNat_setWidth, BitVec.toNat_signExtend]
    split <;> split <;> omega
  rw [← e]
  exact Nat.and_two_pow_sub_one_eq_mod _ 8
theorem pair_says {c : Int32} (h0 : ¬ c < 0) (h1 : ¬ 65535 < c) : pairCh (lo8 c) (hi8 c) = c := by
  rw [Int32.lt_iff_toInt_lt] at h0 h1
  have e0 : (0 : Int32).toInt = 0 := rfl
  have e1 : (65535 : Int32).toInt = 65535 := rfl
  have hc : c.toInt = c.toBitVec.toNat := by
    have := c.toBitVec.isLt
    have e : c.toInt = c.toBitVec.toInt := rfl
    rw [e] at h0 h1
    rw [e]
    rw [BitVec.toInt_eq_toNat_cond] at h0 h1 ⊢
    split at h0 <;> split <;> omega
  have hn : c.toBitVec.toNat < 65536 := by omega
  have a1 := lo8_and c
  have a2 : (hi8 c &&& 255).toBitVec.toNat = c.toBitVec.toNat / 256 := by
    rw [hi8, lo8_and]
    have e : ((8 : Int32) &&& 31) = 8 := by decide
    rw [e, Int32.toBitVec_shiftRight]
    have e2 : ((8 : Int32).toBitVec.smod 32) = 8#32 := by decide
    rw [e2, BitVec.sshiftRight_eq', BitVec.toNat_sshiftRight_of_msb_false (by rw [BitVec.msb_eq_false_iff_two_mul_lt]; omega)]
    show c.toBitVec.toNat >>> 8 % 256 = _
    rw [Nat.shiftRight_eq_div_pow]
    omega
  unfold pairCh
  apply Int32.toBitVec_inj.mp
  apply BitVec.eq_of_toNat_eq
  have f0 : ((0 : Int32) &&& 31) = 0 := by decide
  have f8 : ((8 : Int32) &&& 31) = 8 := by decide
  rw [f0, f8]
  have g : (((lo8 c &&& 255) <<< (0 : Int32)) ||| ((hi8 c &&& 255) <<< (8 : Int32))).toBitVec.toNat = c.toBitVec.toNat := by
    rw [Int32.toBitVec_or, Int32.toBitVec_shiftLeft, Int32.toBitVec_shiftLeft]
    have s0 : ((0 : Int32).toBitVec.smod 32) = 0#32 := by decide
    have s8 : ((8 : Int32).toBitVec.smod 32) = 8#32 := by decide
    rw [s0, s8, BitVec.toNat_or]
    simp only [BitVec.shiftLeft_eq', BitVec.toNat_shiftLeft, a1, a2]
    show (c.toBitVec.toNat % 256) <<< 0 % 2 ^ 32 ||| (c.toBitVec.toNat / 256) <<< 8 % 2 ^ 32 = _
    rw [Nat.shiftLeft_zero, Nat.mod_eq_of_lt (show c.toBitVec.toNat % 256 < 2 ^ 32 by omega), Nat.mod_eq_of_lt (show (c.toBitVec.toNat / 256) <<< 8 < 2 ^ 32 by rw [Nat.shiftLeft_eq]; omega), Nat.or_comm, ← Nat.shiftLeft_add_eq_or_of_lt (by omega), Nat.shiftLeft_eq]
    omega
  show BitVec.toNat (((((lo8 c &&& 255) <<< (0 : Int32)) ||| ((hi8 c &&& 255) <<< (8 : Int32))).toBitVec.setWidth 16).setWidth 32) = _
  rw [BitVec.toNat_setWidth, BitVec.toNat_setWidth, g]
  omega
end StrChars
namespace StrChars
open Jvm Sem ClassFile Op Lib Jvm.Stand Jvm.Free.XT Jvm.Free.ALB Jvm.Free.JM Jvm.Free
open Jvm.Lib.Cold (StaticIs)
/-- the array's cell V codes the n chars f 0 .. f (n - 1) by the coder cd, as the JDK does: coder 1 just where some char is above 255 -/
def Cod (cd : Int32) (n : Nat) (f : Nat → Int32) (V : Cell) : Prop := (cd = 0 ∧ V.slots.size = n ∧ ∀ j, j < n → V.slots[j]? = some (.int (lo8 (f j))) ∧ ¬ 255 < f j) ∨ (cd = 1 ∧ V.slots.size = 2 * n ∧ (∀ j, j < n → V.slots[2 * j]? = some (.int (lo8 (f j))) ∧ V.slots[2 * j + 1]? = some (.int (hi8 (f j)))) ∧ ∃ j, j < n ∧ 255 < f j)
/-- **x is a String of the n chars f 0 .. f (n - 1)**, Latin-1 or UTF-16; its array at t has the cell V -/
def Txt (x t : Addr) (V : Cell) (cd : Int32) (n : Nat) (f : Nat → Int32) (U : State) : Prop := Exact "java/lang/String" x U ∧ Has x "java/lang/String" "value" "[B" (.ref t) U ∧ Has x "java/lang/String" "coder" "B" (.int cd) U ∧ XT.Arr .byte t V U ∧ Cod cd n f V ∧ ∀ j, j < n → ¬ f j < 0 ∧ ¬ 65535 < f j
theorem Txt.mv {x t : Addr} {V : Cell} {cd : Int32} {n : Nat} {f : Nat → Int32} {U U' : State} (h : Txt x t V cd n f U) (hal : U.vm.Alike U'.vm) (hh : U'.heap = U.heap) : Txt x t V cd n f U' := ⟨h.1.mv hal hh, h.2.1.mv hal hh, h.2.2.1.mv hal hh, h.2.2.2.1.mv hal hh, h.2.2.2.2⟩
end StrChars
namespace StrChars.Road
open Jvm Sem ClassFile Op Lib Jvm.Stand Jvm.Free Jvm.Free.XT
open Jvm.Lib.Cold (StaticIs)
theorem consq {a : Array Value} {s : State} {c : Jvm.Cond} {L : List Jvm.Cond} (h0 : c.before a s = true) (h : ∀ w ∈ L, w.before a s = true) : ∀ w ∈ c :: L, w.before a s = true := fun w hw => (List.mem_cons.mp hw).elim (fun e => e ▸ h0) (h w)
/-- the bytes of the chars cs, low before high -/
def wideBytes : List Int32 → List Value
  | [] => []
  | c :: cs => .int (lo8 c) :: .int (hi8 c) :: wideBytes cs
theorem wide_lo (d : Value) : ∀ (cs : List Int32) (j : Nat), j < cs.length → (wideBytes cs).getD (2 * j) d = .int (lo8 (cs.getD j 0))
  | [], j, h => absurd h (Nat.not_lt_zero j)
  | c :: cs, 0, _ => rfl
  | c :: cs, j + 1, h => by
    have q := wide_lo d cs j (by simpa using h)
    rw [show 2 * (j + 1) = 2 * j + 1 + 1 from by omega]
    simpa [wideBytes] using q
theorem wide_hi (d : Value) : ∀ (cs : List Int32) (j : Nat), j < cs.length → (wideBytes cs).getD (2 * j + 1) d = .int (hi8 (cs.getD j 0))
  | [], j, h => absurd h (Nat.not_lt_zero j)
  | c :: cs, 0, _ => rfl
  | c :: cs, j + 1, h => by
    have q := wide_hi d cs j (by simpa using h)
    rw [show 2 * (j + 1) + 1 = 2 * j + 1 + 1 + 1 from by omega]
    simpa [wideBytes] using q
theorem low_at (d : Value) (cs : List Int32) (j : Nat) (h : j < cs.length) : (cs.map fun c => Value.int (lo8 c)).getD j d = .int (lo8 (cs.getD j 0)) := by
  simp [List.getD_eq_getElem?_getD, h]
/-- an array of N2 bytes vs codes the chars cs by the coder cd -/
def CodA (cs : List Int32) (cd N2 : Int32) (vs : List Value) : Prop := (cd = 0 ∧ N2 = Int32.ofNat cs.length ∧ vs = (cs.map fun c => Value.int (lo8 c)) ∧ ∀ c ∈ cs, ¬ 255 < c) ∨ (cd = 1 ∧ N2 = Int32.ofNat (2 * cs.length) ∧ vs = wideBytes cs ∧ ∃ c ∈ cs, 255 < c)
theorem CodA.cod {cs : List Int32} {cd N2 : Int32} {vs : List Value} {V : Cell} (h : CodA cs cd N2 vs) (hn : 2 * cs.length < 2 ^ 31) (hs : V.slots.size = N2.toNatClampNeg) (hv : RoadKit.Has V vs (.int 0)) : Cod cd cs.length (fun j => cs.getD j 0) V := by
  rcases h with ⟨rfl, rfl, rfl, h⟩ | ⟨rfl, rfl, rfl, c, hc, hw⟩
  · rw [n32 (by omega)] at hs
    exact Or.inl ⟨rfl, hs, fun j hj => ⟨by rw [hv j (by omega), low_at _ _ _ hj], by
      have e : cs.getD j 0 = cs[j] := by simp [List.getD_eq_getElem?_getD, hj]
      show ¬ 255 < cs.getD j 0
      rw [e]; exact h _ (List.getElem_mem _)⟩⟩
  · rw [n32 (by omega)] at hs
    obtain ⟨j, hj, rfl⟩ := List.getElem_of_mem hc
    exact Or.inr ⟨rfl, hs, fun j hj => ⟨by rw [hv _ (by omega), wide_lo _ _ _ hj], by rw [hv _ (by omega), wide_hi _ _ _ hj]⟩, j, hj, by
      have e : cs.getD j 0 = cs[j] := by simp [List.getD_eq_getElem?_getD, hj]
      show 255 < cs.getD j 0
      rw [e]; exact hw⟩
/-- an object of exactly java/lang/String, its two fields found: as the laws ask it -/
theorem strObj {Z U : State} {a0 : Array Value} {kI : Nat} (wi : (Jvm.Cond.instantiable ST kI).before a0 Z = true) (al : Z.vm.Alike U.vm) {x : Addr} {v0 c0 : Value} (E : RoadKit.Exa Z U.heap x ST) (V : RoadKit.Fld Z U.heap x ST "value" "[B" v0) (C : RoadKit.Fld Z U.heap x ST "coder" "B" c0) :
    ∃ (D : Cell) (fV fC : Field), Blank ST x D U ∧ Found ST "value" "[B" fV U ∧ Found ST "coder" "B" fC U ∧ D.slots[fV.slot]? = some v0 ∧ D.slots[fC.slot]? = some c0 ∧ RoadKit.slotOf Z ST "value" "[B" = fV.slot ∧ RoadKit.slotOf Z ST "coder" "B" = fC.slot := by
  obtain ⟨D, cfV, kV, iV, fV, hD, gV, stV, knV, obV, asV, slV⟩ := V
  obtain ⟨D', cfC, kC, iC, fC, hD', gC, stC, -, -, asC, slC⟩ := C
  cases hD.symm.trans hD'
  obtain ⟨D2, kD, e1, e2, e3, e4, e5⟩ := E
  cases hD.symm.trans e1
  obtain ⟨c2, k2, i1, i2, i3, -⟩ := Cond.instantiable_spec wi
  cases e2.symm.trans i1
  cases e3.symm.trans i2
  obtain ⟨kU, u1, u2⟩ := al.2.2 _ _ e3
  exact ⟨D, fV, fC, ⟨hD, ⟨knV, fun q hq => by rw [hq] at obV; cases obV⟩, by rw [al.findClass]; exact e2, kU, u1, by rw [u2]; exact i3, by rw [u2]; exact e5 i3⟩, ⟨SBG.found_only al ⟨cfV, kV, iV, gV⟩, stV⟩, ⟨SBG.found_only al ⟨cfC, kC, iC, gC⟩, stC⟩, slV, slC, by simp [RoadKit.slotOf, gV], by simp [RoadKit.slotOf, gC]⟩
theorem sta_is {Z U : State} (al : Z.vm.Alike U.vm) {C n d : String} {v : Value} (S : RoadKit.Sta Z U.heap C n d v) : StaticIs U C n d v := by
  obtain ⟨cfS, iS, kS, fS, st, cS, t1, t2, t3, t4, t5, t6, t7⟩ := S
  exact StaticIs.there (s := { Z with heap := U.heap }) ⟨cfS, iS, kS, fS, st, cS, t1, t2, t3, t4, t5, (fun q => by rw [q] at t6; cases t6), t7⟩ al rfl
end StrChars.Road
namespace StrChars
open Jvm Sem ClassFile Op Lib Jvm.Stand Jvm.Free.XT Jvm.Free.ALB Jvm.Free.JM Jvm.Free
open Jvm.Lib.Cold (StaticIs)
namespace Emp
def yN : MethodName := ⟨"java/lang/String", "isEmpty", "()Z"⟩
abbrev yB : ByteArray := jdk_42_method_55_code
theorem d0 : decode yB 0 = .ok (.aload_n 0, 1) := by decide +kernel
theorem d1 : decode yB 1 = .ok (.getfield 9, 3) := by decide +kernel
theorem d4 : decode yB 4 = .ok (.arraylength, 1) := by decide +kernel
theorem d5 : decode yB 5 = .ok (.ifCond (.ne) 7, 3) := by decide +kernel
theorem d8 : decode yB 8 = .ok (.iconst 1, 1) := by decide +kernel
theorem d9 : decode yB 9 = .ok (.goto 4, 3) := by decide +kernel
theorem d12 : decode yB 12 = .ok (.iconst 0, 1) := by decide +kernel
theorem d13 : decode yB 13 = .ok (.ireturn, 1) := by decide +kernel
def site : List Cond := [.fieldLink "java/lang/String" 9 "java/lang/String" "value" "[B"]
def tab : Cond := tabOf yN yB 1 (some .boolean) site
def P (x t : Addr) (V : Cell) (cd : Int32) (n : Nat) (f : Nat → Int32) (args : Array Value) (s : State) : Prop := args = #[.ref x] ∧ Txt x t V cd n f s
def E (n : Nat) (r : Option Value) (s u : State) : Prop := XT.PureE (some (.int (if n = 0 then 1 else 0))) r s u
/-- isEmpty() of a String of n chars -/
theorem law (l : Launch) (x t : Addr) (V : Cell) (cd : Int32) (n : Nat) (f : Nat → Int32) : Law l yN 1 0 0 0 yB 1 (some .boolean) site (P x t V cd n f) (E n) [] 0 0 := by
  refine Law.of_walk (plainFor_of_name (by decide +kernel)) (by decide +kernel) (by decide +kernel) (by decide) (fun _ _ h => by rw [h.1]; rfl) (fun _ U U' hal hh h => ⟨h.1, h.2.mv hal hh⟩) (fun r U U' V V' h1 hal h2 h => XT.PureE.mv r U U' V V' h1 hal h2 h) ?_
  intro p e s m args below meth c s₁ X0 hexec hbytes hml hret hlk hnm hown hh0 W hP
  obtain ⟨rfl, hx⟩ := hP
  have v31 := hx.2.2.2.1.2.2.2
  have c1 : Steps p.tables e below (s₁.setTop (entryFrame m #[.ref x] 1)) (s₁.setTop (mkF m 1 #[.val (.ref x)] [.ref x])) := Steps.trans (entry rfl) (by
    show Steps p.tables e below (s₁.setTop (mkF m 0 #[.val (.ref x)] [])) _
    refine XS.aloadN X0.here hexec rfl (hb hbytes d0) rfl rfl ?_
    exact Steps.refl _)
  obtain ⟨T2, X2, q2, st2⟩ := X0.hget hexec hown (wk W (.fieldLink "java/lang/String" 9 "java/lang/String" "value" "[B")) (hx.mv X0.warmed.alike hh0).2.1 (g := (mkF m 1 #[.val (.ref x)] [.ref x])) rfl (rest := []) rfl (hb hbytes d1)
  have hh2 := q2.trans hh0
  have hx2 := hx.mv X2.warmed.alike hh2
  have c3 : Steps p.tables e below (s₁.setTop (entryFrame m #[.ref x] 1)) (T2.setTop (mkF m 5 #[.val (.ref x)] [.int (Int32.ofNat V.slots.size)])) := (c1.trans (st2 _ (Steps.refl _))).trans (by
    refine X2.alen hexec hx2.2.2.2.1 rfl rfl (hb hbytes d4) ?_
    exact Steps.refl _)
  have hz : V.slots.size = 0 ↔ n = 0 := by
    rcases hx.2.2.2.2.1 with ⟨-, q, -⟩ | ⟨-, q, -⟩ <;> omega
  by_cases h0 : n = 0
  · have c4 : Steps p.tables e below (s₁.setTop (entryFrame m #[.ref x] 1)) (T2.setTop (mkF m 13 #[.val (.ref x)] [.int 1])) := c3.trans (by
      refine XS.ifNo X2.here hexec rfl (hb hbytes d5) rfl (i0_ne_f (by rw [hz.mpr h0]; rfl)) ?_
      refine iconstV X2.here hexec rfl 1 (hb hbytes d8) (by decide) ?_
      refine XS.goto X2.here hexec rfl (pc0 := 9) rfl (hb hbytes d9) (by decide) rfl ?_
      exact Steps.refl _)
    exact ⟨T2, some (.int 1), _, _, _, X2, rfl, rfl, rfl, (fun h => by cases h), ⟨by rw [if_pos h0], hh2⟩, fun fs hl => c4.trans (X2.ireturnOut hexec hret rfl (Or.inr (Or.inl rfl)) (hb hbytes d13) hl)⟩
  · have c4 : Steps p.tables e below (s₁.setTop (entryFrame m #[.ref x] 1)) (T2.setTop (mkF m 13 #[.val (.ref x)] [.int 0])) := c3.trans (by
      refine XS.ifYes X2.here hexec rfl (pc0 := 5) rfl (hb hbytes d5) rfl (i0_ne_t (nz32 v31 (by omega))) (by decide) rfl ?_
      refine iconstV X2.here hexec rfl 0 (hb hbytes d12) (by decide) ?_
      exact Steps.refl _)
    exact ⟨T2, some (.int 0), _, _, _, X2, rfl, rfl, rfl, (fun h => by cases h), ⟨by rw [if_neg h0], hh2⟩, fun fs hl => c4.trans (X2.ireturnOut hexec hret rfl (Or.inr (Or.inl rfl)) (hb hbytes d13) hl)⟩
theorem pays {l : Launch} {R : Room} {p : Program} {e : Env} {below : List Frame} {s : State} {sargs : Array Value} {len W : Nat} (x t : Addr) (V : Cell) (cd : Int32) (n : Nat) (f : Nat → Int32) (htab : tab.before sargs s = true) (hfr : 1 ≤ R.frames) (hlo : W + 12 ≤ R.locals) :
    Back l R p e below s sargs yN len W (fun A₁ a₁ => A₁.cells + 0 ≤ R.cells ∧ A₁.slots + 0 ≤ R.slots ∧ P x t V cd n f a₁ A₁.U) (fun A₁ _ v₁ B₁ => E n v₁ A₁.U B₁.U ∧ B₁.locs = A₁.locs ++ [] ∧ B₁.cells = A₁.cells + 0 ∧ B₁.slots = A₁.slots + 0) :=
  (law l x t V cd n f).pays htab hfr (by omega)
end Emp
/-- what place i of a byte[]'s cell holds -/
def yv (A : Cell) (i : Nat) : Int32 := match A.slots[i]? with | some (.int x) => x | _ => 0
theorem yv_get {a : Addr} {A : Cell} {U : State} (h : XT.Arr .byte a A U) (ht : Typed .byte A) {i : Nat} (hi : i < A.slots.size) : A.slots[i]? = some (.int (yv A i)) := by
  have e := Array.getElem?_eq_getElem hi
  have f := ht i _ e
  unfold yv; rw [e]
  generalize A.slots[i] = v at f
  cases v <;> simp [fits] at f ⊢
/-- the two arrays are equal, place for place -/
def EqC (A B : Cell) : Prop := A.slots.size = B.slots.size ∧ ∀ i, i < A.slots.size → yv A i = yv B i
/-- a boolean that says whether p -/
def Says01 (q : Prop) (r : Option Value) (s u : State) : Prop := ∃ v : Int32, r = some (.int v) ∧ u.heap = s.heap ∧ ((v = 1 ∧ q) ∨ (v = 0 ∧ ¬ q))
theorem Says01.mv {q : Prop} : ∀ r (U U' V V' : State), U'.heap = U.heap → V.vm.Alike V'.vm → V'.heap = V.heap → Says01 q r U V → Says01 q r U' V' :=
  fun r U U' V V' h1 _ h2 ⟨v, a, b, c⟩ => ⟨v, a, by rw [h1, h2]; exact b, c⟩
namespace LEq
def yN : MethodName := ⟨"java/lang/StringLatin1", "equals", "([B[B)Z"⟩
abbrev yB : ByteArray := jdk_43_method_13_code
theorem d0 : decode yB 0 = .ok (.aload_n 0, 1) := by decide +kernel
theorem d1 : decode yB 1 = .ok (.arraylength, 1) := by decide +kernel
theorem d2 : decode yB 2 = .ok (.aload_n 1, 1) := by decide +kernel
theorem d3 : decode yB 3 = .ok (.arraylength, 1) := by decide +kernel
theorem d4 : decode yB 4 = .ok (.if_icmp (.ne) 30, 3) := by decide +kernel
theorem d7 : decode yB 7 = .ok (.iconst 0, 1) := by decide +kernel
theorem d8 : decode yB 8 = .ok (.istore_n 2, 1) := by decide +kernel
theorem d9 : decode yB 9 = .ok (.iload_n 2, 1) := by decide +kernel
theorem d10 : decode yB 10 = .ok (.aload_n 0, 1) := by decide +kernel
theorem d11 : decode yB 11 = .ok (.arraylength, 1) := by decide +kernel
theorem d12 : decode yB 12 = .ok (.if_icmp (.ge) 20, 3) := by decide +kernel
theorem d15 : decode yB 15 = .ok (.aload_n 0, 1) := by decide +kernel
theorem d16 : decode yB 16 = .ok (.iload_n 2, 1) := by decide +kernel
theorem d17 : decode yB 17 = .ok (.baload, 1) := by decide +kernel
theorem d18 : decode yB 18 = .ok (.aload_n 1, 1) := by decide +kernel
theorem d19 : decode yB 19 = .ok (.iload_n 2, 1) := by decide +kernel
theorem d20 : decode yB 20 = .ok (.baload, 1) := by decide +kernel
theorem d21 : decode yB 21 = .ok (.if_icmp (.eq) 5, 3) := by decide +kernel
theorem d24 : decode yB 24 = .ok (.iconst 0, 1) := by decide +kernel
theorem d25 : decode yB 25 = .ok (.ireturn, 1) := by decide +kernel
theorem d26 : decode yB 26 = .ok (.iinc 2 1, 3) := by decide +kernel
theorem d29 : decode yB 29 = .ok (.goto (-20), 3) := by decide +kernel
theorem d32 : decode yB 32 = .ok (.iconst 1, 1) := by decide +kernel
theorem d33 : decode yB 33 = .ok (.ireturn, 1) := by decide +kernel
theorem d34 : decode yB 34 = .ok (.iconst 0, 1) := by decide +kernel
theorem d35 : decode yB 35 = .ok (.ireturn, 1) := by decide +kernel
def site : List Cond := []
def tab : Cond := tabOf yN yB 3 (some .boolean) site
def P (a : Addr) (A : Cell) (b : Addr) (B : Cell) (args : Array Value) (s : State) : Prop := args = #[.ref a, .ref b] ∧ XT.Arr .byte a A s ∧ Typed .byte A ∧ XT.Arr .byte b B s ∧ Typed .byte B
/-- whether two byte[] are equal, place for place -/
theorem law (l : Launch) (a : Addr) (A : Cell) (b : Addr) (B : Cell) : Law l yN 2 2 0 0 yB 3 (some .boolean) site (P a A b B) (Says01 (EqC A B)) [] 0 0 := by
  refine Law.of_walk (plainFor_of_name (by decide +kernel)) (by decide +kernel) (by decide +kernel) (by decide) (fun _ _ h => by rw [h.1]; rfl) (fun _ U U' hal hh h => ⟨h.1, h.2.1.mv hal hh, h.2.2.1, h.2.2.2.1.mv hal hh, h.2.2.2.2⟩) (fun r U U' V V' h1 hal h2 h => Says01.mv r U U' V V' h1 hal h2 h) ?_
  intro p e s m args below meth c s₁ X0 hexec hbytes hml hret hlk hnm hown hh0 W hP
  obtain ⟨rfl, hA, tA, hB, tB⟩ := hP
  have a31 := hA.2.2.2
  have b31 := hB.2.2.2
  have hA0 := hA.mv X0.warmed.alike hh0
  have hB0 := hB.mv X0.warmed.alike hh0
  have c1 : Steps p.tables e below (s₁.setTop (entryFrame m #[.ref a, .ref b] 3)) (s₁.setTop (mkF m 0 #[.val (.ref a), .val (.ref b), .unset] [])) := entry rfl
  have c2 : Steps p.tables e below (s₁.setTop (entryFrame m #[.ref a, .ref b] 3)) (s₁.setTop (mkF m 4 #[.val (.ref a), .val (.ref b), .unset] [.int (Int32.ofNat B.slots.size), .int (Int32.ofNat A.slots.size)])) := c1.trans (by
    refine XS.aloadN X0.here hexec rfl (hb hbytes d0) rfl rfl ?_
    refine X0.alen hexec hA0 rfl rfl (hb hbytes d1) ?_
    refine XS.aloadN X0.here hexec rfl (hb hbytes d2) rfl rfl ?_
    refine X0.alen hexec hB0 rfl rfl (hb hbytes d3) ?_
    exact Steps.refl _)
  by_cases hs : A.slots.size = B.slots.size
  · have c3 : Steps p.tables e below (s₁.setTop (entryFrame m #[.ref a, .ref b] 3)) (s₁.setTop (mkF m 9 #[.val (.ref a), .val (.ref b), .val (.int 0)] [])) := c2.trans (by
      refine XS.icmpNo X0.here hexec rfl (hb hbytes d4) rfl (ii_ne_f (by rw [hs])) ?_
      refine iconstV X0.here hexec rfl 0 (hb hbytes d7) (by decide) ?_
      refine XS.istoreN X0.here hexec rfl (hb hbytes d8) rfl rfl ?_
      exact Steps.refl _)
    have loop : ∀ (r i : Nat), i + r = A.slots.size → (∀ j, j < i → yv A j = yv B j) → Steps p.tables e below (s₁.setTop (entryFrame m #[.ref a, .ref b] 3)) (s₁.setTop (mkF m 9 #[.val (.ref a), .val (.ref b), .val (.int (Int32.ofNat i))] [])) → ∃ (pc : Nat) (Ls : Array Slot) (v : Int32), (pc = 25 ∨ pc = 33) ∧ ((v = 1 ∧ EqC A B) ∨ (v = 0 ∧ ¬ EqC A B)) ∧ Steps p.tables e below (s₁.setTop (entryFrame m #[.ref a, .ref b] 3)) (s₁.setTop (mkF m pc Ls [.int v])) := by
      intro r
      induction r with
      | zero =>
        intro i hi he cl
        exact ⟨33, _, 1, Or.inr rfl, Or.inl ⟨rfl, hs, fun j hj => he j (by omega)⟩, cl.trans (by
          refine XS.iloadN X0.here hexec rfl (hb hbytes d9) rfl ?_
          refine XS.aloadN X0.here hexec rfl (hb hbytes d10) rfl rfl ?_
          refine X0.alen hexec hA0 rfl rfl (hb hbytes d11) ?_
          refine XS.icmpYes X0.here hexec rfl (pc0 := 12) rfl (hb hbytes d12) rfl (ii_ge_t (nlt32 (by omega) (by omega))) (by decide) rfl ?_
          refine iconstV X0.here hexec rfl 1 (hb hbytes d32) (by decide) ?_
          exact Steps.refl _)⟩
      | succ r ih =>
        intro i hi he cl
        have c4 : Steps p.tables e below (s₁.setTop (entryFrame m #[.ref a, .ref b] 3)) (s₁.setTop (mkF m 21 #[.val (.ref a), .val (.ref b), .val (.int (Int32.ofNat i))] [.int (yv B i), .int (yv A i)])) := cl.trans (by
          refine XS.iloadN X0.here hexec rfl (hb hbytes d9) rfl ?_
          refine XS.aloadN X0.here hexec rfl (hb hbytes d10) rfl rfl ?_
          refine X0.alen hexec hA0 rfl rfl (hb hbytes d11) ?_
          refine XS.icmpNo X0.here hexec rfl (hb hbytes d12) rfl (ii_ge_f (lt32 (by omega) (by omega))) ?_
          refine XS.aloadN X0.here hexec rfl (hb hbytes d15) rfl rfl ?_
          refine XS.iloadN X0.here hexec rfl (hb hbytes d16) rfl ?_
          refine X0.aget hexec hA0 rfl (yv_get hA tA (i := i) (by omega)) rfl rfl (hb hbytes d17) ?_
          refine XS.aloadN X0.here hexec rfl (hb hbytes d18) rfl rfl ?_
          refine XS.iloadN X0.here hexec rfl (hb hbytes d19) rfl ?_
          refine X0.aget hexec hB0 rfl (yv_get hB tB (i := i) (by omega)) rfl rfl (hb hbytes d20) ?_
          exact Steps.refl _)
        by_cases hv : yv A i = yv B i
        · have c5 : Steps p.tables e below (s₁.setTop (entryFrame m #[.ref a, .ref b] 3)) (s₁.setTop (mkF m 9 #[.val (.ref a), .val (.ref b), .val (.int (Int32.ofNat i + 1))] [])) := c4.trans (by
            refine XS.icmpYes X0.here hexec rfl (pc0 := 21) rfl (hb hbytes d21) rfl (ii_eq_t hv) (by decide) rfl ?_
            refine iincV X0.here hexec rfl 1 (hb hbytes d26) (by decide) rfl rfl ?_
            refine XS.goto X0.here hexec rfl (pc0 := 29) rfl (hb hbytes d29) (by decide) rfl ?_
            exact Steps.refl _)
          rw [succ32] at c5
          exact ih (i + 1) (by omega) (fun j hj => by
            by_cases e : j = i
            · rw [e]; exact hv
            · exact he j (by omega)) c5
        · exact ⟨25, _, 0, Or.inl rfl, Or.inr ⟨rfl, fun q => hv (q.2 i (by omega))⟩, c4.trans (by
            refine XS.icmpNo X0.here hexec rfl (hb hbytes d21) rfl (ii_eq_f hv) ?_
            refine iconstV X0.here hexec rfl 0 (hb hbytes d24) (by decide) ?_
            exact Steps.refl _)⟩
    obtain ⟨pc, Ls, v, hpc, hv, cz⟩ := loop A.slots.size 0 (by omega) (fun j hj => absurd hj (Nat.not_lt_zero j)) c3
    have nv : narrow .boolean (.int v) = .int v := by rcases hv with ⟨rfl, -⟩ | ⟨rfl, -⟩ <;> rfl
    rcases hpc with rfl | rfl
    · exact ⟨s₁, some (.int v), _, _, _, X0, rfl, rfl, rfl, (fun h => by cases h), ⟨v, rfl, hh0, hv⟩, fun fs hl => cz.trans (X0.ireturnOut hexec hret nv (Or.inr (Or.inl rfl)) (hb hbytes d25) hl)⟩
    · exact ⟨s₁, some (.int v), _, _, _, X0, rfl, rfl, rfl, (fun h => by cases h), ⟨v, rfl, hh0, hv⟩, fun fs hl => cz.trans (X0.ireturnOut hexec hret nv (Or.inr (Or.inl rfl)) (hb hbytes d33) hl)⟩
  · have c3 : Steps p.tables e below (s₁.setTop (entryFrame m #[.ref a, .ref b] 3)) (s₁.setTop (mkF m 35 #[.val (.ref a), .val (.ref b), .unset] [.int 0])) := c2.trans (by
      refine XS.icmpYes X0.here hexec rfl (pc0 := 4) rfl (hb hbytes d4) rfl (ii_ne_t (ne32 a31 b31 hs)) (by decide) rfl ?_
      refine iconstV X0.here hexec rfl 0 (hb hbytes d34) (by decide) ?_
      exact Steps.refl _)
    exact ⟨s₁, some (.int 0), _, _, _, X0, rfl, rfl, rfl, (fun h => by cases h), ⟨0, rfl, hh0, Or.inr ⟨rfl, fun q => hs q.1⟩⟩, fun fs hl => c3.trans (X0.ireturnOut hexec hret rfl (Or.inr (Or.inl rfl)) (hb hbytes d35) hl)⟩
end LEq
theorem Cod.ty {cd : Int32} {n : Nat} {f : Nat → Int32} {V : Cell} (h : Cod cd n f V) : Typed .byte V := fun i v hv => by
  have hi : i < V.slots.size := (Array.getElem?_eq_some_iff.mp hv).1
  rcases h with ⟨-, k1, k2⟩ | ⟨-, k1, k2, -⟩
  · rw [(k2 i (by omega)).1] at hv; cases hv; exact fits_lo8 _
  · rcases Nat.mod_two_eq_zero_or_one i with e | e
    · obtain ⟨j, rfl⟩ : ∃ j, i = 2 * j := ⟨i / 2, by omega⟩
      rw [(k2 j (by omega)).1] at hv; cases hv; exact fits_lo8 _
    · obtain ⟨j, rfl⟩ : ∃ j, i = 2 * j + 1 := ⟨i / 2, by omega⟩
      rw [(k2 j (by omega)).2] at hv; cases hv; exact fits_lo8 _
/-- the same text -/
def SameT (n : Nat) (f : Nat → Int32) (k : Nat) (g : Nat → Int32) : Prop := n = k ∧ ∀ j, j < n → f j = g j
theorem lo8_inj {x y : Int32} (h0 : ¬ x < 0) (h1 : ¬ 255 < x) (k0 : ¬ y < 0) (k1 : ¬ 255 < y) (h : lo8 x = lo8 y) : x = y := by
  rw [← lo8_mask h0 h1, ← lo8_mask k0 k1, h]
/-- arrays coded by one coder are equal just where the texts are -/
theorem Cod.eqv {cd : Int32} {n k : Nat} {f g : Nat → Int32} {V V' : Cell} (h : Cod cd n f V) (h' : Cod cd k g V') (hf : ∀ j, j < n → ¬ f j < 0 ∧ ¬ 65535 < f j) (hg : ∀ j, j < k → ¬ g j < 0 ∧ ¬ 65535 < g j) : EqC V V' ↔ SameT n f k g := by
  have yvv : ∀ {W : Cell} {i : Nat} {x : Int32}, W.slots[i]? = some (.int x) → yv W i = x := fun q => by unfold yv; rw [q]
  rcases h with ⟨rfl, k1, k2⟩ | ⟨rfl, k1, k2, -⟩
  · rcases h' with ⟨-, m1, m2⟩ | ⟨e, -⟩
    · constructor
      · rintro ⟨e1, e2⟩
        refine ⟨by omega, fun j hj => ?_⟩
        have q := e2 j (by omega)
        rw [yvv (k2 j hj).1, yvv (m2 j (by omega)).1] at q
        exact lo8_inj (hf j hj).1 (k2 j hj).2 (hg j (by omega)).1 (m2 j (by omega)).2 q
      · rintro ⟨rfl, e2⟩
        refine ⟨by omega, fun j hj => ?_⟩
        rw [yvv (k2 j (by omega)).1, yvv (m2 j (by omega)).1, e2 j (by omega)]
    · exact absurd e (by decide)
  · rcases h' with ⟨e, -⟩ | ⟨-, m1, m2, -⟩
    · exact absurd e (by decide)
    · constructor
      · rintro ⟨e1, e2⟩
        refine ⟨by omega, fun j hj => ?_⟩
        have q1 := e2 (2 * j) (by omega)
        have q2 := e2 (2 * j + 1) (by omega)
        rw [yvv (k2 j hj).1, yvv (m2 j (by omega)).1] at q1
        rw [yvv (k2 j hj).2, yvv (m2 j (by omega)).2] at q2
        rw [← pair_says (hf j hj).1 (hf j hj).2, ← pair_says (hg j (by omega)).1 (hg j (by omega)).2, q1, q2]
      · rintro ⟨rfl, e2⟩
        refine ⟨by omega, fun i hi => ?_⟩
        rcases Nat.mod_two_eq_zero_or_one i with e | e
        · obtain ⟨j, rfl⟩ : ∃ j, i = 2 * j := ⟨i / 2, by omega⟩
          rw [yvv (k2 j (by omega)).1, yvv (m2 j (by omega)).1, e2 j (by omega)]
        · obtain ⟨j, rfl⟩ : ∃ j, i = 2 * j + 1 := ⟨i / 2, by omega⟩
          rw [yvv (k2 j (by omega)).2, yvv (m2 j (by omega)).2, e2 j (by omega)]
/-- two codings differ: so do the texts -/
theorem Cod.dif {cd cd' : Int32} {n k : Nat} {f g : Nat → Int32} {V V' : Cell} (h : Cod cd n f V) (h' : Cod cd' k g V') (hne : ¬ cd = cd') : ¬ SameT n f k g := by
  rintro ⟨rfl, e⟩
  rcases h with ⟨rfl, -, k2⟩ | ⟨rfl, -, -, j, hj, hw⟩
  · rcases h' with ⟨rfl, -⟩ | ⟨-, -, -, j, hj, hw⟩
    · exact hne rfl
    · exact (k2 j hj).2 (by rw [e j hj]; exact hw)
  · rcases h' with ⟨-, -, m2⟩ | ⟨rfl, -⟩
    · exact (m2 j hj).2 (by rw [← e j hj]; exact hw)
    · exact hne rfl
/-- an object of exactly C is an instance of C -/
theorem cinst {p : Program} {l : Launch} {e : Env} {R : Room} {s : State} {m : MethodId} {args : Array Value} {below : List Frame} {meth : Method} {c : Code} {T : State} {locs : List Loc} {cells slots : Nat} (X : Stand p l e R s m args below meth c T locs cells slots) (hexec : p.tables.exec = Jvm.exec) {own C : String} {index : Nat} (hown : s.vm.findClass own = some m.cls) (hlink : (Cond.classLink own index C).before args s = true) {a : Addr} (hE : Exact C a T)
    {g : JFrame} (hg : g.method = m) {rest : List Value} (hstack : g.stack = .ref a :: rest) (hdg : decode c.code g.pc = .ok (.instanceof index, 3)) :
    ∃ T', Stand p l e R s m args below meth c T' locs cells slots ∧ T'.heap = T.heap ∧ ∀ target, Steps p.tables e below (T'.setTop { g with pc := g.pc + 3, stack := .int 1 :: rest }) target → Steps p.tables e below (T.setTop g) target := by
  obtain ⟨cB, h1, D, h2, h3, h4⟩ := hE
  have h1' : s.vm.findClass C = some cB := by rw [← X.warmed.alike.findClass]; exact h1
  obtain ⟨vm', X', st⟩ := X.instanceofYes hexec hown hlink h2 h4 h1' (by rw [h3]; exact Jvm.Free.SB.assignable_self _ _) hg hstack hdg
  exact ⟨_, X', rfl, st⟩
theorem cself {p : Program} {l : Launch} {e : Env} {R : Room} {s : State} {m : MethodId} {args : Array Value} {below : List Frame} {meth : Method} {c : Code} {T : State} {locs : List Loc} {cells slots : Nat} (X : Stand p l e R s m args below meth c T locs cells slots) (hexec : p.tables.exec = Jvm.exec) {own C : String} {index : Nat} (hown : s.vm.findClass own = some m.cls) (hlink : (Cond.classLink own index C).before args s = true) {a : Addr} (hE : Exact C a T)
    {g : JFrame} (hg : g.method = m) {rest : List Value} (hstack : g.stack = .ref a :: rest) (hdg : decode c.code g.pc = .ok (.checkcast index, 3)) :
    ∃ T', Stand p l e R s m args below meth c T' locs cells slots ∧ T'.heap = T.heap ∧ ∀ target, Steps p.tables e below (T'.setTop { g with pc := g.pc + 3, stack := .ref a :: rest }) target → Steps p.tables e below (T.setTop g) target := by
  obtain ⟨cB, h1, D, h2, h3, h4⟩ := hE
  have h1' : s.vm.findClass C = some cB := by rw [← X.warmed.alike.findClass]; exact h1
  obtain ⟨vm', X', st⟩ := X.checkcastYes hexec hown hlink h2 h4 h1' (by rw [h3]; exact Jvm.Free.SB.assignable_self _ _) hg hstack hdg
  exact ⟨_, X', rfl, fun t h => st t (by rw [← hstack] at h; exact h)⟩
namespace SEq
def yN : MethodName := ⟨"java/lang/String", "equals", "(Ljava/lang/Object;)Z"⟩
abbrev yB : ByteArray := jdk_42_method_66_code
theorem d0 : decode yB 0 = .ok (.aload_n 0, 1) := by decide +kernel
theorem d1 : decode yB 1 = .ok (.aload_n 1, 1) := by decide +kernel
theorem d2 : decode yB 2 = .ok (.if_acmp (.ne) 5, 3) := by decide +kernel
theorem d5 : decode yB 5 = .ok (.iconst 1, 1) := by decide +kernel
theorem d6 : decode yB 6 = .ok (.ireturn, 1) := by decide +kernel
theorem d7 : decode yB 7 = .ok (.aload_n 1, 1) := by decide +kernel
theorem d8 : decode yB 8 = .ok (.instanceof 10, 3) := by decide +kernel
theorem d11 : decode yB 11 = .ok (.ifCond (.eq) 43, 3) := by decide +kernel
theorem d14 : decode yB 14 = .ok (.aload_n 1, 1) := by decide +kernel
theorem d15 : decode yB 15 = .ok (.checkcast 10, 3) := by decide +kernel
theorem d18 : decode yB 18 = .ok (.astore_n 2, 1) := by decide +kernel
theorem d19 : decode yB 19 = .ok (.getstatic 38, 3) := by decide +kernel
theorem d22 : decode yB 22 = .ok (.ifCond (.eq) 14, 3) := by decide +kernel
theorem d25 : decode yB 25 = .ok (.aload_n 0, 1) := by decide +kernel
theorem d26 : decode yB 26 = .ok (.getfield 15, 3) := by decide +kernel
theorem d29 : decode yB 29 = .ok (.aload_n 2, 1) := by decide +kernel
theorem d30 : decode yB 30 = .ok (.getfield 15, 3) := by decide +kernel
theorem d33 : decode yB 33 = .ok (.if_icmp (.ne) 21, 3) := by decide +kernel
theorem d36 : decode yB 36 = .ok (.aload_n 0, 1) := by decide +kernel
theorem d37 : decode yB 37 = .ok (.getfield 9, 3) := by decide +kernel
theorem d40 : decode yB 40 = .ok (.aload_n 2, 1) := by decide +kernel
theorem d41 : decode yB 41 = .ok (.getfield 9, 3) := by decide +kernel
theorem d44 : decode yB 44 = .ok (.invokestatic 541, 3) := by decide +kernel
theorem d47 : decode yB 47 = .ok (.ifCond (.eq) 7, 3) := by decide +kernel
theorem d50 : decode yB 50 = .ok (.iconst 1, 1) := by decide +kernel
theorem d51 : decode yB 51 = .ok (.goto 4, 3) := by decide +kernel
theorem d54 : decode yB 54 = .ok (.iconst 0, 1) := by decide +kernel
theorem d55 : decode yB 55 = .ok (.ireturn, 1) := by decide +kernel
def site : List Cond := [.classLink "java/lang/String" 10 "java/lang/String", .fieldLink "java/lang/String" 38 "java/lang/String" "COMPACT_STRINGS" "Z", .fieldLink "java/lang/String" 15 "java/lang/String" "coder" "B", .fieldLink "java/lang/String" 9 "java/lang/String" "value" "[B", LEq.tab] ++ staticW "java/lang/String" 541 LEq.yN
def tab : Cond := tabOf yN yB 3 (some .boolean) site
def P (x t : Addr) (V : Cell) (cd : Int32) (n : Nat) (f : Nat → Int32) (y t' : Addr) (V' : Cell) (cd' : Int32) (k : Nat) (g : Nat → Int32) (z : Int32) (args : Array Value) (s : State) : Prop := args = #[.ref x, .ref y] ∧ Txt x t V cd n f s ∧ Txt y t' V' cd' k g s ∧ StaticIs s "java/lang/String" "COMPACT_STRINGS" "Z" (.int z) ∧ ¬ z = 0
/-- equals(Object) of two Strings: whether the texts are the same -/
theorem law (l : Launch) (x t : Addr) (V : Cell) (cd : Int32) (n : Nat) (f : Nat → Int32) (y t' : Addr) (V' : Cell) (cd' : Int32) (k : Nat) (g : Nat → Int32) (z : Int32) : Law l yN 2 1 1 14 yB 3 (some .boolean) site (P x t V cd n f y t' V' cd' k g z) (Says01 (SameT n f k g)) [] 0 0 := by
  refine Law.of_walk (plainFor_of_name (by decide +kernel)) (by decide +kernel) (by decide +kernel) (by decide) (fun _ _ h => by rw [h.1]; rfl) (fun _ U U' hal hh h => ⟨h.1, h.2.1.mv hal hh, h.2.2.1.mv hal hh, h.2.2.2.1.there hal hh, h.2.2.2.2⟩) (fun r U U' V V' h1 hal h2 h => Says01.mv r U U' V V' h1 hal h2 h) ?_
  intro p e s m args below meth c s₁ X0 hexec hbytes hml hret hlk hnm hown hh0 W hP
  obtain ⟨rfl, hx, hy, s1, hz⟩ := hP
  have c1 : Steps p.tables e below (s₁.setTop (entryFrame m #[.ref x, .ref y] 3)) (s₁.setTop (mkF m 2 #[.val (.ref x), .val (.ref y), .unset] [.ref y, .ref x])) := Steps.trans (entry rfl) (by
    show Steps p.tables e below (s₁.setTop (mkF m 0 #[.val (.ref x), .val (.ref y), .unset] [])) _
    refine XS.aloadN X0.here hexec rfl (hb hbytes d0) rfl rfl ?_
    refine XS.aloadN X0.here hexec rfl (hb hbytes d1) rfl rfl ?_
    exact Steps.refl _)
  by_cases hxy : x = y
  · have c2 : Steps p.tables e below (s₁.setTop (entryFrame m #[.ref x, .ref y] 3)) (s₁.setTop (mkF m 6 #[.val (.ref x), .val (.ref y), .unset] [.int 1])) := c1.trans (by
      refine acmpNo X0.here hexec rfl (hb hbytes d2) rfl rfl rfl (by simp [acmp, hxy]) ?_
      refine iconstV X0.here hexec rfl 1 (hb hbytes d5) (by decide) ?_
      exact Steps.refl _)
    subst hxy
    have ec : cd = cd' := by
      obtain ⟨D, fd, a1, a2, a3⟩ := hx.2.2.1
      obtain ⟨D', fd', b1, b2, b3⟩ := hy.2.2.1
      cases a1.symm.trans b1
      obtain ⟨q1, q2, q3, q4⟩ := a2.1
      obtain ⟨r1, r2, r3, r4⟩ := b2.1
      cases q4.symm.trans r4
      cases a3.symm.trans b3; rfl
    have et : t = t' := by
      obtain ⟨D, fd, a1, a2, a3⟩ := hx.2.1
      obtain ⟨D', fd', b1, b2, b3⟩ := hy.2.1
      cases a1.symm.trans b1
      obtain ⟨q1, q2, q3, q4⟩ := a2.1
      obtain ⟨r1, r2, r3, r4⟩ := b2.1
      cases q4.symm.trans r4
      cases a3.symm.trans b3; rfl
    subst ec et
    have ev : V = V' := by cases hx.2.2.2.1.1.symm.trans hy.2.2.2.1.1; rfl
    subst ev
    have hs : SameT n f k g := (Cod.eqv hx.2.2.2.2.1 hy.2.2.2.2.1 hx.2.2.2.2.2 hy.2.2.2.2.2).mp ⟨rfl, fun _ _ => rfl⟩
    exact ⟨s₁, some (.int 1), _, _, _, X0, rfl, rfl, rfl, (fun h => by cases h), ⟨1, rfl, hh0, Or.inl ⟨rfl, hs⟩⟩, fun fs hl => c2.trans (X0.ireturnOut hexec hret rfl (Or.inr (Or.inl rfl)) (hb hbytes d6) hl)⟩
  · have c2 : Steps p.tables e below (s₁.setTop (entryFrame m #[.ref x, .ref y] 3)) (s₁.setTop (mkF m 8 #[.val (.ref x), .val (.ref y), .unset] [.ref y])) := c1.trans (by
      refine acmpYes X0.here hexec rfl (pc0 := 2) rfl (hb hbytes d2) rfl rfl rfl (by simp [acmp, hxy]) (by decide) rfl ?_
      refine XS.aloadN X0.here hexec rfl (hb hbytes d7) rfl rfl ?_
      exact Steps.refl _)
    obtain ⟨T3, X3, q3, st3⟩ := cinst X0 hexec hown (wk W (.classLink "java/lang/String" 10 "java/lang/String")) (hy.mv X0.warmed.alike hh0).1 (g := (mkF m 8 #[.val (.ref x), .val (.ref y), .unset] [.ref y])) rfl (rest := []) rfl (hb hbytes d8)
    have hh3 := q3.trans hh0
    have c4 : Steps p.tables e below (s₁.setTop (entryFrame m #[.ref x, .ref y] 3)) (T3.setTop (mkF m 15 #[.val (.ref x), .val (.ref y), .unset] [.ref y])) := (c2.trans (st3 _ (Steps.refl _))).trans (by
      refine XS.ifNo X3.here hexec rfl (hb hbytes d11) rfl (i0_eq_f (by decide)) ?_
      refine XS.aloadN X3.here hexec rfl (hb hbytes d14) rfl rfl ?_
      exact Steps.refl _)
    obtain ⟨T5, X5, q5, st5⟩ := cself X3 hexec hown (wk W (.classLink "java/lang/String" 10 "java/lang/String")) (hy.mv X3.warmed.alike hh3).1 (g := (mkF m 15 #[.val (.ref x), .val (.ref y), .unset] [.ref y])) rfl (rest := []) rfl (hb hbytes d15)
    have hh5 := q5.trans hh3
    have c6 : Steps p.tables e below (s₁.setTop (entryFrame m #[.ref x, .ref y] 3)) (T5.setTop (mkF m 19 #[.val (.ref x), .val (.ref y), .val (.ref y)] [])) := (c4.trans (st5 _ (Steps.refl _))).trans (by
      refine XS.astoreN X5.here hexec rfl (hb hbytes d18) rfl rfl rfl ?_
      exact Steps.refl _)
    obtain ⟨T7, X7, q7, st7⟩ := X5.sget hexec hown (wk W (.fieldLink "java/lang/String" 38 "java/lang/String" "COMPACT_STRINGS" "Z")) s1 (fun _ _ h => by rw [hh5]; exact h) (g := (mkF m 19 #[.val (.ref x), .val (.ref y), .val (.ref y)] [])) rfl (hb hbytes d19)
    have hh7 := q7.trans hh5
    have c8 : Steps p.tables e below (s₁.setTop (entryFrame m #[.ref x, .ref y] 3)) (T7.setTop (mkF m 26 #[.val (.ref x), .val (.ref y), .val (.ref y)] [.ref x])) := (c6.trans (st7 _ (Steps.refl _))).trans (by
      refine XS.ifNo X7.here hexec rfl (hb hbytes d22) rfl (i0_eq_f hz) ?_
      refine XS.aloadN X7.here hexec rfl (hb hbytes d25) rfl rfl ?_
      exact Steps.refl _)
    obtain ⟨T9, X9, q9, st9⟩ := X7.hget hexec hown (wk W (.fieldLink "java/lang/String" 15 "java/lang/String" "coder" "B")) (hx.mv X7.warmed.alike hh7).2.2.1 (g := (mkF m 26 #[.val (.ref x), .val (.ref y), .val (.ref y)] [.ref x])) rfl (rest := []) rfl (hb hbytes d26)
    have hh9 := q9.trans hh7
    have c10 : Steps p.tables e below (s₁.setTop (entryFrame m #[.ref x, .ref y] 3)) (T9.setTop (mkF m 30 #[.val (.ref x), .val (.ref y), .val (.ref y)] [.ref y, .int cd])) := (c8.trans (st9 _ (Steps.refl _))).trans (by
      refine XS.aloadN X9.here hexec rfl (hb hbytes d29) rfl rfl ?_
      exact Steps.refl _)
    obtain ⟨T11, X11, q11, st11⟩ := X9.hget hexec hown (wk W (.fieldLink "java/lang/String" 15 "java/lang/String" "coder" "B")) (hy.mv X9.warmed.alike hh9).2.2.1 (g := (mkF m 30 #[.val (.ref x), .val (.ref y), .val (.ref y)] [.ref y, .int cd])) rfl (rest := [.int cd]) rfl (hb hbytes d30)
    have hh11 := q11.trans hh9
    have c12 : Steps p.tables e below (s₁.setTop (entryFrame m #[.ref x, .ref y] 3)) (T11.setTop (mkF m 33 #[.val (.ref x), .val (.ref y), .val (.ref y)] [.int cd', .int cd])) := c10.trans (st11 _ (Steps.refl _))
    by_cases hcd : cd = cd'
    · subst hcd
      have c13 : Steps p.tables e below (s₁.setTop (entryFrame m #[.ref x, .ref y] 3)) (T11.setTop (mkF m 37 #[.val (.ref x), .val (.ref y), .val (.ref y)] [.ref x])) := c12.trans (by
        refine XS.icmpNo X11.here hexec rfl (hb hbytes d33) rfl (ii_ne_f rfl) ?_
        refine XS.aloadN X11.here hexec rfl (hb hbytes d36) rfl rfl ?_
        exact Steps.refl _)
      obtain ⟨T14, X14, q14, st14⟩ := X11.hget hexec hown (wk W (.fieldLink "java/lang/String" 9 "java/lang/String" "value" "[B")) (hx.mv X11.warmed.alike hh11).2.1 (g := (mkF m 37 #[.val (.ref x), .val (.ref y), .val (.ref y)] [.ref x])) rfl (rest := []) rfl (hb hbytes d37)
      have hh14 := q14.trans hh11
      have c15 : Steps p.tables e below (s₁.setTop (entryFrame m #[.ref x, .ref y] 3)) (T14.setTop (mkF m 41 #[.val (.ref x), .val (.ref y), .val (.ref y)] [.ref y, .ref t])) := (c13.trans (st14 _ (Steps.refl _))).trans (by
        refine XS.aloadN X14.here hexec rfl (hb hbytes d40) rfl rfl ?_
        exact Steps.refl _)
      obtain ⟨T16, X16, q16, st16⟩ := X14.hget hexec hown (wk W (.fieldLink "java/lang/String" 9 "java/lang/String" "value" "[B")) (hy.mv X14.warmed.alike hh14).2.1 (g := (mkF m 41 #[.val (.ref x), .val (.ref y), .val (.ref y)] [.ref y, .ref t])) rfl (rest := [.ref t]) rfl (hb hbytes d41)
      have hh16 := q16.trans hh14
      have c17 : Steps p.tables e below (s₁.setTop (entryFrame m #[.ref x, .ref y] 3)) (T16.setTop (mkF m 44 #[.val (.ref x), .val (.ref y), .val (.ref y)] [.ref t', .ref t])) := c15.trans (st16 _ (Steps.refl _))
      obtain ⟨v18, T18, X18, E18, g18⟩ := X16.callS hexec (LEq.law l t V t' V') hown (wks W (staticW "java/lang/String" 541 LEq.yN)) (wk W LEq.tab) (W := 0) (Nat.le_of_ble_eq_true rfl) (Nat.le_of_ble_eq_true rfl) (Nat.le_refl _) (Nat.le_refl _) (g := (mkF m 44 #[.val (.ref x), .val (.ref y), .val (.ref y)] [.ref t', .ref t])) rfl (by rw [hml]; rfl) c17 (argsL := [.ref t, .ref t']) (rest := []) rfl rfl (by show 2 * 0 + 0 ≤ _; decide) (hb hbytes d44) (⟨rfl, hx.2.2.2.1.mv X16.warmed.alike hh16, hx.2.2.2.2.1.ty, hy.2.2.2.1.mv X16.warmed.alike hh16, hy.2.2.2.2.1.ty⟩)
      obtain ⟨v, rfl, q18, hv⟩ := E18
      have iff := Cod.eqv hx.2.2.2.2.1 hy.2.2.2.2.1 hx.2.2.2.2.2 hy.2.2.2.2.2
      rcases hv with ⟨rfl, he⟩ | ⟨rfl, he⟩
      · have c19 : Steps p.tables e below (s₁.setTop (entryFrame m #[.ref x, .ref y] 3)) (T18.setTop (mkF m 55 #[.val (.ref x), .val (.ref y), .val (.ref y)] [.int 1])) := Steps.trans g18 (by
          refine XS.ifNo X18.here hexec rfl (hb hbytes d47) rfl (i0_eq_f (by decide)) ?_
          refine iconstV X18.here hexec rfl 1 (hb hbytes d50) (by decide) ?_
          refine XS.goto X18.here hexec rfl (pc0 := 51) rfl (hb hbytes d51) (by decide) rfl ?_
          exact Steps.refl _)
        exact ⟨T18, some (.int 1), _, _, _, X18, rfl, rfl, rfl, (fun h => by cases h), ⟨1, rfl, q18.trans hh16, Or.inl ⟨rfl, iff.mp he⟩⟩, fun fs hl => c19.trans (X18.ireturnOut hexec hret rfl (Or.inr (Or.inl rfl)) (hb hbytes d55) hl)⟩
      · have c19 : Steps p.tables e below (s₁.setTop (entryFrame m #[.ref x, .ref y] 3)) (T18.setTop (mkF m 55 #[.val (.ref x), .val (.ref y), .val (.ref y)] [.int 0])) := Steps.trans g18 (by
          refine XS.ifYes X18.here hexec rfl (pc0 := 47) rfl (hb hbytes d47) rfl (i0_eq_t rfl) (by decide) rfl ?_
          refine iconstV X18.here hexec rfl 0 (hb hbytes d54) (by decide) ?_
          exact Steps.refl _)
        exact ⟨T18, some (.int 0), _, _, _, X18, rfl, rfl, rfl, (fun h => by cases h), ⟨0, rfl, q18.trans hh16, Or.inr ⟨rfl, fun q => he (iff.mpr q)⟩⟩, fun fs hl => c19.trans (X18.ireturnOut hexec hret rfl (Or.inr (Or.inl rfl)) (hb hbytes d55) hl)⟩
    · have c13 : Steps p.tables e below (s₁.setTop (entryFrame m #[.ref x, .ref y] 3)) (T11.setTop (mkF m 55 #[.val (.ref x), .val (.ref y), .val (.ref y)] [.int 0])) := c12.trans (by
        refine XS.icmpYes X11.here hexec rfl (pc0 := 33) rfl (hb hbytes d33) rfl (ii_ne_t hcd) (by decide) rfl ?_
        refine iconstV X11.here hexec rfl 0 (hb hbytes d54) (by decide) ?_
        exact Steps.refl _)
      exact ⟨T11, some (.int 0), _, _, _, X11, rfl, rfl, rfl, (fun h => by cases h), ⟨0, rfl, hh11, Or.inr ⟨rfl, Cod.dif hx.2.2.2.2.1 hy.2.2.2.2.1 hcd⟩⟩, fun fs hl => c13.trans (X11.ireturnOut hexec hret rfl (Or.inr (Or.inl rfl)) (hb hbytes d55) hl)⟩
theorem pays {l : Launch} {R : Room} {p : Program} {e : Env} {below : List Frame} {s : State} {sargs : Array Value} {len W : Nat} (x t : Addr) (V : Cell) (cd : Int32) (n : Nat) (f : Nat → Int32) (y t' : Addr) (V' : Cell) (cd' : Int32) (k : Nat) (g : Nat → Int32) (z : Int32) (htab : tab.before sargs s = true) (hfr : 2 ≤ R.frames) (hlo : W + 28 ≤ R.locals) :
    Back l R p e below s sargs yN len W (fun A₁ a₁ => A₁.cells + 0 ≤ R.cells ∧ A₁.slots + 0 ≤ R.slots ∧ P x t V cd n f y t' V' cd' k g z a₁ A₁.U) (fun A₁ _ v₁ B₁ => Says01 (SameT n f k g) v₁ A₁.U B₁.U ∧ B₁.locs = A₁.locs ++ [] ∧ B₁.cells = A₁.cells + 0 ∧ B₁.slots = A₁.slots + 0) :=
  (law l x t V cd n f y t' V' cd' k g z).pays htab hfr (by omega)
end SEq
end StrChars
namespace StrChars.Road
open Jvm Sem ClassFile Op Lib Jvm.Stand Jvm.Free Jvm.Free.XT
open Jvm.Lib.Cold (StaticIs)
/-- the words of String.isEmpty() -/
abbrev wordsEmp : List Jvm.Cond := [.code Emp.yN Emp.yB 1 (some .boolean), .initialized ST, .fieldLink ST 9 ST "value" "[B"]
theorem tabEmp_of {a : Array Value} {s : State} (h : ∀ w ∈ wordsEmp, w.before a s = true) : Emp.tab.before a s = true := unparts (wk h (.code Emp.yN Emp.yB 1 (some .boolean))) (wks h (.initialized Emp.yN.cls :: Emp.site))
theorem movedEmp {Z s : State} {a0 args : Array Value} (hZ : Z.Warmed39 s.vm) (hw : ∀ d ∈ wordsEmp, d.before a0 Z = true) : ∀ d ∈ wordsEmp, d.before args s = true := fun d hd => by
  have t : ∀ d ∈ wordsEmp, (d.onTables && d.keepsFace) = true := by decide +kernel
  exact RoadKit.mv hZ (hw d hd) (t d hd)
/-- the words of String.equals(Object) -/
abbrev wordsEq : List Jvm.Cond := [.code SEq.yN SEq.yB 3 (some .boolean), .initialized ST, .classLink ST 10 ST, .fieldLink ST 38 ST "COMPACT_STRINGS" "Z", .fieldLink ST 15 ST "coder" "B", .fieldLink ST 9 ST "value" "[B", .methodLink ST 541 LEq.yN, .static LEq.yN, .code LEq.yN LEq.yB 3 (some .boolean), .initialized "java/lang/StringLatin1"]
theorem tabEq_of {a : Array Value} {s : State} (h : ∀ w ∈ wordsEq, w.before a s = true) : SEq.tab.before a s = true := by
  have hl : LEq.tab.before a s = true := unparts (wk h (.code LEq.yN LEq.yB 3 (some .boolean))) (wks h (.initialized LEq.yN.cls :: LEq.site))
  have q := consq hl h
  exact unparts (wk q (.code SEq.yN SEq.yB 3 (some .boolean))) (wks q (.initialized SEq.yN.cls :: SEq.site))
theorem movedEq {Z s : State} {a0 args : Array Value} (hZ : Z.Warmed39 s.vm) (hw : ∀ d ∈ wordsEq, d.before a0 Z = true) : ∀ d ∈ wordsEq, d.before args s = true := fun d hd => by
  have t : ∀ d ∈ wordsEq, (d.onTables && d.keepsFace) = true := by decide +kernel
  exact RoadKit.mv hZ (hw d hd) (t d hd)
/-- the road's facts of a String, as the laws ask it -/
theorem txt_of {Z U : State} {a0 : Array Value} {kI : Nat} (wi : (Jvm.Cond.instantiable ST kI).before a0 Z = true) (al : Z.vm.Alike U.vm) {x t : Addr} {kb : ClassId} {cs : List Int32} {cd N2 : Int32} {vs : List Value} (E : RoadKit.Exa Z U.heap x ST) (V : RoadKit.Fld Z U.heap x ST "value" "[B" (.ref t)) (C : RoadKit.Fld Z U.heap x ST "coder" "B" (.int cd)) (K : RoadKit.Arv Z U.heap t kb .byte N2 vs (.int 0)) (hc : CodA cs cd N2 vs) (hb : ∀ c ∈ cs, ¬ c < 0 ∧ ¬ (65535 : Int32) < c) (l2 : cs.length ≤ 4000) :
    ∃ A, Txt x t A cd cs.length (fun j => cs.getD j 0) U := by
  obtain ⟨A, K1, K2, K3, K4, K5, K6⟩ := K
  have hcod := hc.cod (by omega) K3 K5
  obtain ⟨D, fV, fC, hB, F1, F2, g1, g2, -, -⟩ := strObj wi al E V C
  exact ⟨A, ⟨_, hB.2.2.1, D, hB.1, rfl, by cases q : D.vm <;> first | rfl | exact absurd q (hB.2.1.2 _)⟩, Has.of hB F1 g1, Has.of hB F2 g2, ⟨K1.1, State.isArrayOf_alike al K1.2.1, K1.2.2, by rcases hcod with ⟨-, q, -⟩ | ⟨-, q, -⟩ <;> omega⟩, hcod, fun j hj => by
    have e : cs.getD j 0 = cs[j] := by simp [List.getD_eq_getElem?_getD, hj]
    show ¬ cs.getD j 0 < 0 ∧ ¬ 65535 < cs.getD j 0
    rw [e]; exact hb _ (List.getElem_mem _)⟩
theorem same_list (cs ds : List Int32) : SameT cs.length (fun j => cs.getD j 0) ds.length (fun j => ds.getD j 0) ↔ cs = ds := by
  constructor
  · rintro ⟨e, q⟩
    refine List.ext_getElem e fun j h1 h2 => ?_
    have := q j h1
    simpa [List.getD_eq_getElem?_getD, h1, h2] using this
  · rintro rfl
    exact ⟨rfl, fun _ _ => rfl⟩
/-- **isEmpty() OF SUCH A STRING** -/
theorem empW {p : Program} {l : Launch} {e : Env} {R : Room} {s : State} {args : Array Value} {below : List Frame} {len W : Nat} {Z : State} {a0 : Array Value} {h : Heap} (hZ : Z.Warmed39 s.vm) (hw : ∀ d ∈ wordsEmp, d.before a0 Z = true) {kI : Nat} (wi : (Jvm.Cond.instantiable ST kI).before a0 Z = true)
    {x t : Addr} {kb : ClassId} {cs : List Int32} {cd N2 : Int32} {vs : List Value} (E : RoadKit.Exa Z h x ST) (V : RoadKit.Fld Z h x ST "value" "[B" (.ref t)) (C : RoadKit.Fld Z h x ST "coder" "B" (.int cd)) (K : RoadKit.Arv Z h t kb .byte N2 vs (.int 0)) (hc : CodA cs cd N2 vs) (hb : ∀ c ∈ cs, ¬ c < 0 ∧ ¬ (65535 : Int32) < c) (l2 : cs.length ≤ 4000) (hfr : 1 ≤ R.frames) (hlo : W + 12 ≤ R.locals) :
    Back l R p e below s args (⟨"java/lang/String", "isEmpty", "()Z"⟩ : MethodName) len W (fun P a => a = #[.ref x] ∧ P.U.heap = h ∧ P.cells + 0 ≤ R.cells ∧ P.slots + 0 ≤ R.slots)
      (fun P _ v B => ∃ L, (v = some (.int (if cs.length = 0 then 1 else 0)) ∧ L = [] ∧ B.U.heap = h) ∧ B.locs = P.locs ++ L ∧ B.cells = P.cells + 0 ∧ B.slots = P.slots + 0) := by
  intro m meth c P g ig mk a X hg hsize hdg hW hn hp'
  obtain ⟨rfl, rfl, r1, r2⟩ := hp'
  have al : Z.vm.Alike P.U.vm := hZ.alike.trans X.warmed.alike
  obtain ⟨A, hx⟩ := txt_of wi al E V C K hc hb l2
  obtain ⟨v, B, X', ⟨⟨hv, hh⟩, hl, hk, hs⟩, st⟩ := Emp.pays x t A cd cs.length (fun j => cs.getD j 0) (tabEmp_of (movedEmp hZ hw)) hfr hlo m meth c P g ig mk _ X hg hsize hdg hW hn ⟨r1, r2, rfl, hx⟩
  exact ⟨v, B, X', ⟨[], ⟨hv, rfl, hh⟩, hl, hk, hs⟩, st⟩
/-- **equals(Object) OF TWO SUCH STRINGS**: 1 just where the chars are the same -/
theorem eqW {p : Program} {l : Launch} {e : Env} {R : Room} {s : State} {args : Array Value} {below : List Frame} {len W : Nat} {Z : State} {a0 : Array Value} {h : Heap} (hZ : Z.Warmed39 s.vm) (hw : ∀ d ∈ wordsEq, d.before a0 Z = true) {kI : Nat} (wi : (Jvm.Cond.instantiable ST kI).before a0 Z = true)
    {x t : Addr} {kb : ClassId} {cs : List Int32} {cd N2 : Int32} {vs : List Value} (E : RoadKit.Exa Z h x ST) (V : RoadKit.Fld Z h x ST "value" "[B" (.ref t)) (C : RoadKit.Fld Z h x ST "coder" "B" (.int cd)) (K : RoadKit.Arv Z h t kb .byte N2 vs (.int 0)) (hc : CodA cs cd N2 vs) (hb : ∀ c ∈ cs, ¬ c < 0 ∧ ¬ (65535 : Int32) < c) (l2 : cs.length ≤ 4000)
    {y t' : Addr} {kb' : ClassId} {ds : List Int32} {cd' N2' : Int32} {vs' : List Value} (E' : RoadKit.Exa Z h y ST) (V' : RoadKit.Fld Z h y ST "value" "[B" (.ref t')) (C' : RoadKit.Fld Z h y ST "coder" "B" (.int cd')) (K' : RoadKit.Arv Z h t' kb' .byte N2' vs' (.int 0)) (hc' : CodA ds cd' N2' vs') (hb' : ∀ c ∈ ds, ¬ c < 0 ∧ ¬ (65535 : Int32) < c) (l2' : ds.length ≤ 4000)
    {z : Int32} (S : RoadKit.Sta Z h ST "COMPACT_STRINGS" "Z" (.int z)) (hz : ¬ z = 0) (hfr : 2 ≤ R.frames) (hlo : W + 28 ≤ R.locals) :
    Back l R p e below s args (⟨"java/lang/String", "equals", "(Ljava/lang/Object;)Z"⟩ : MethodName) len W (fun P a => a = #[.ref x, .ref y] ∧ P.U.heap = h ∧ P.cells + 0 ≤ R.cells ∧ P.slots + 0 ≤ R.slots)
      (fun P _ v B => ∃ L, (((v = some (.int 1) ∧ cs = ds) ∨ (v = some (.int 0) ∧ ¬ cs = ds)) ∧ L = [] ∧ B.U.heap = h) ∧ B.locs = P.locs ++ L ∧ B.cells = P.cells + 0 ∧ B.slots = P.slots + 0) := by
  intro m meth c P g ig mk a X hg hsize hdg hW hn hp'
  obtain ⟨rfl, rfl, r1, r2⟩ := hp'
  have al : Z.vm.Alike P.U.vm := hZ.alike.trans X.warmed.alike
  obtain ⟨A, hx⟩ := txt_of wi al E V C K hc hb l2
  obtain ⟨A', hy⟩ := txt_of wi al E' V' C' K' hc' hb' l2'
  obtain ⟨v, B, X', ⟨⟨w, hv, hh, hq⟩, hl, hk, hs⟩, st⟩ := SEq.pays x t A cd cs.length (fun j => cs.getD j 0) y t' A' cd' ds.length (fun j => ds.getD j 0) z (tabEq_of (movedEq hZ hw)) hfr hlo m meth c P g ig mk _ X hg hsize hdg hW hn ⟨r1, r2, rfl, hx, hy, sta_is al S, hz⟩
  refine ⟨v, B, X', ⟨[], ⟨?_, rfl, hh⟩, hl, hk, hs⟩, st⟩
  rcases hq with ⟨rfl, q⟩ | ⟨rfl, q⟩
  · exact Or.inl ⟨hv, (same_list cs ds).mp q⟩
  · exact Or.inr ⟨hv, fun e => q ((same_list cs ds).mpr e)⟩
end StrChars.Road
namespace StrChars.Road
open Jvm Sem ClassFile Op Lib Jvm.Stand Jvm.Free Jvm.Free.XT
open Jvm.Lib.Cold (StaticIs)
/-- what backV says of its String, as the contracts of this text ask it: cs's low bytes, coder 0 -/
theorem codOf {cs : List Int32} {n : Nat} (hn : cs.length = n) (hb : ∀ c ∈ cs, ¬ 255 < c) : CodA cs 0 (Int32.ofNat n) ((cs.map lo8).map Value.int) := Or.inl ⟨rfl, by rw [hn], by simp [List.map_map, Function.comp_def], hb⟩
end StrChars.Road
end Jvm.Pilot.@@N@@
namespace Jvm.Pilot.@@N@@
open Jvm Jvm.ClassFile Sem Op Lib Jvm.Free Jvm.Stand Jvm.LawKit Jvm.RoadKit Bundle Jvm.Pilot.@@N@@.Jvm.D
section Own
variable {p : Program} {l : Launch} {e : Env} {R : Room} {s : State} {m : MethodId} {args : Array Value} {below : List Frame} {meth : Method} {c : Code} {T : State} {k n : Nat} {Z : State} {a0 : Array Value} {h : Heap} {n0 KK NN : Nat} {Q : Option Value → Heap → Prop}
/-- from T with the top frame g the invocation comes to its end as Q asks -/
def OwG (p : Program) (e : Env) (below : List Frame) (s : State) (n0 KK NN : Nat) (Q : Option Value → Heap → Prop) (T : State) (g : JFrame) : Prop :=
  ∃ s₂ o, Steps p.tables e below (T.setTop g) s₂ ∧ s₂.status = .running ∧ Ended s₂ below o ∧ ∃ v L, o = .returned v ∧ (Q v s₂.heap ∧ Fr n0 L) ∧ FrameEnd s o s₂ L KK NN
/-- where a walk stands: the heap is h, what was written lies at or above n0, k cells and n slots were made at the most -/
def OwP (p : Program) (l : Launch) (e : Env) (R : Room) (s : State) (m : MethodId) (args : Array Value) (below : List Frame) (meth : Method) (c : Code) (n0 : Nat) (T : State) (h : Heap) (k n : Nat) : Prop :=
  ∃ locs, Stand p l e R s m args below meth c T locs k n ∧ T.heap = h ∧ Fr n0 locs
/-- a callee's contract -/
def OwM (l : Launch) (Z : State) (y : MethodName) (bytes : ByteArray) (maxL : Nat) (ret : Option FieldType) (rm : Room) (n0 : Nat) (as' : Array Value) (h0 : Heap) (Q : Option Value → Heap → Prop) : Prop :=
  MetFree l y (head1 [Jvm.Cond.code y bytes maxL ret] rm) (fun a U => a = as' ∧ Z.Warmed39 U.vm ∧ U.heap = h0) (fun _ _ _ _ _ => True) (fun _ U o U' => ∃ v L, o = .returned v ∧ (Q v U'.heap ∧ Fr n0 L) ∧ FrameEnd U o U' L rm.cells rm.slots)
theorem OwG.go {T' : State} {g g' : JFrame} (st : ∀ t, Steps p.tables e below (T'.setTop g') t → Steps p.tables e below (T.setTop g) t) (G : OwG p e below s n0 KK NN Q T' g') : OwG p e below s n0 KK NN Q T g := by
  obtain ⟨s₂, o, h1, r⟩ := G
  exact ⟨s₂, o, st _ h1, r⟩
theorem OwG.ac (g' : JFrame) {g : JFrame} (st : ∀ t, Steps p.tables e below (T.setTop g') t → Steps p.tables e below (T.setTop g) t) (G : OwG p e below s n0 KK NN Q T g') : OwG p e below s n0 KK NN Q T g := G.go st
theorem OwG.cast {g g' : JFrame} (q : g = g') (G : OwG p e below s n0 KK NN Q T g') : OwG p e below s n0 KK NN Q T g := q ▸ G
theorem OwP.here (P : OwP p l e R s m args below meth c n0 T h k n) : At T m c below := by obtain ⟨_, X, _⟩ := P; exact X.here
theorem OwP.wide (P : OwP p l e R s m args below meth c n0 T h k n) {k' n' : Nat} (h1 : k ≤ k') (h2 : n ≤ n') : OwP p l e R s m args below meth c n0 T h k' n' := by
  obtain ⟨L, X, r⟩ := P
  exact ⟨L, Jvm.Stand.wide X (fun x hx _ => hx) h1 h2, r⟩
theorem OwM.of {y : MethodName} {bytes : ByteArray} {maxL : Nat} {ret : Option FieldType} {ws : List Jvm.Cond} {rm : Room} {as' : Array Value} {h0 : Heap} (pn : plainFor y = true)
    (body : ∀ (p : Program) (e : Env) (s : State) (m : MethodId) (below : List Frame) (meth : Method) (c : Code) (T : State), p.tables.exec = Jvm.exec → c.code = bytes → c.maxLocals = maxL → s.vm.findClass y.cls = some m.cls → meth.name = y.name → meth.sig.returnType = ret → meth.locks = false → Z.Warmed39 s.vm → OwP p l e rm s m as' below meth c n0 T h0 0 0 → OwG p e below s n0 KK NN Q T (entryFrame m as' maxL)) :
    MetFree l y (head1 (Jvm.Cond.code y bytes maxL ret :: ws) rm) (fun a U => a = as' ∧ Z.Warmed39 U.vm ∧ U.heap = h0) (fun _ _ _ _ _ => True) (fun _ U o U' => ∃ v L, o = .returned v ∧ (Q v U'.heap ∧ Fr n0 L) ∧ FrameEnd U o U' L KK NN) := by
  refine MetFree.of_bodySF pn hisR ?_
  intro p e s m args below meth c s₁ Bd hml0 hP hK
  obtain ⟨rfl, hZ, hh⟩ := hP
  exact body p e s m below meth c s₁ Bd.exec Bd.bytes hml0 (findClass_of_methodNamed Bd.named) (name_of_methodNamed Bd.named Bd.method).1 Bd.returns Bd.notSynchronized hZ ⟨[], Stand.of_body Bd, by rw [← hh, Bd.state]; rfl, Fr.nil n0⟩
theorem OwM.mk {y : MethodName} {bytes : ByteArray} {maxL : Nat} {ret : Option FieldType} {rm : Room} {as' : Array Value} {h0 : Heap} (pn : plainFor y = true)
    (body : ∀ (p : Program) (e : Env) (s : State) (m : MethodId) (below : List Frame) (meth : Method) (c : Code) (T : State), p.tables.exec = Jvm.exec → c.code = bytes → c.maxLocals = maxL → s.vm.findClass y.cls = some m.cls → meth.name = y.name → meth.sig.returnType = ret → meth.locks = false → Z.Warmed39 s.vm → OwP p l e rm s m as' below meth c n0 T h0 0 0 → OwG p e below s n0 rm.cells rm.slots Q T (entryFrame m as' maxL)) :
    OwM l Z y bytes maxL ret rm n0 as' h0 Q := OwM.of (ws := []) (Q := Q) pn body
theorem OwP.ret (P : OwP p l e R s m args below meth c n0 T h k n) (hx : p.tables.exec = Jvm.exec) (hlk : meth.locks = false) {pc : Nat} {Ls : Array Slot} {w : Value} {t : FieldType} {i : Instr} {rest : List Value} (hret : meth.sig.returnType = some t) (hn : narrow t w = w)
    (hi : (i = .ireturn ∧ (t = .int ∨ t = .boolean ∨ t = .byte ∨ t = .char ∨ t = .short) ∧ ∃ z, w = .int z) ∨ (i = .lreturn ∧ t = .long ∧ ∃ z, w = .long z) ∨ (i = .dreturn ∧ t = .double ∧ ∃ z, w = .double z) ∨ (i = .freturn ∧ t = .float ∧ ∃ z, w = .float z) ∨ (i = .areturn ∧ t.isReference = true ∧ w.isRef = true))
    (hd : decode c.code pc = .ok (i, 1)) (hk : k ≤ KK) (hn' : n ≤ NN) (q : Q (some w) h) : OwG p e below s n0 KK NN Q T (mkF m pc Ls (w :: rest)) := by
  obtain ⟨L, X, e0, N⟩ := P
  obtain ⟨fs, hr, hrun, hended, hW, hsame⟩ := X.leave (v := some w) (fun h => by rw [hret] at h; cases h)
  exact ⟨_, _, retOut X hx hret hn hi hd hr, hrun, hended, _, _, rfl, ⟨by rw [← e0] at q; exact q, N⟩, ⟨_, rfl⟩, hW, hsame.mono hk hn'⟩
theorem OwP.retI (P : OwP p l e R s m args below meth c n0 T h k n) (hx : p.tables.exec = Jvm.exec) (hlk : meth.locks = false) {pc : Nat} {Ls : Array Slot} {z : Int32} {rest : List Value} (hret : meth.sig.returnType = some .int)
    (hd : decode c.code pc = .ok (.ireturn, 1)) (hk : k ≤ KK) (hn' : n ≤ NN) (q : Q (some (.int z)) h) : OwG p e below s n0 KK NN Q T (mkF m pc Ls (.int z :: rest)) :=
  P.ret hx hlk hret rfl (Or.inl ⟨rfl, Or.inl rfl, z, rfl⟩) hd hk hn' q
theorem OwP.retR (P : OwP p l e R s m args below meth c n0 T h k n) (hx : p.tables.exec = Jvm.exec) (hlk : meth.locks = false) {pc : Nat} {Ls : Array Slot} {w : Value} {t : FieldType} {rest : List Value} (hret : meth.sig.returnType = some t) (ht : t.isReference = true) (hw : w.isRef = true)
    (hd : decode c.code pc = .ok (.areturn, 1)) (hk : k ≤ KK) (hn' : n ≤ NN) (q : Q (some w) h) : OwG p e below s n0 KK NN Q T (mkF m pc Ls (w :: rest)) :=
  P.ret hx hlk hret (by cases t <;> first | (cases ht; done) | (cases w <;> rfl)) (Or.inr (Or.inr (Or.inr (Or.inr ⟨rfl, ht, hw⟩)))) hd hk hn' q
theorem OwP.retN (P : OwP p l e R s m args below meth c n0 T h k n) (hx : p.tables.exec = Jvm.exec) (hlk : meth.locks = false) {pc : Nat} {Ls : Array Slot} {z : Int32} {t : FieldType} {rest : List Value} (hret : meth.sig.returnType = some t) (ht : t = .boolean ∨ t = .byte ∨ t = .char ∨ t = .short)
    (hd : decode c.code pc = .ok (.ireturn, 1)) (hk : k ≤ KK) (hn' : n ≤ NN) (q : Q (some (.int (nar t z))) h) : OwG p e below s n0 KK NN Q T (mkF m pc Ls (.int z :: rest)) := by
  obtain ⟨L, X, e0, N⟩ := P
  obtain ⟨fs, hr, hrun, hended, hW, hsame⟩ := X.leave (v := some (.int (nar t z))) (fun h => by rw [hret] at h; cases h)
  exact ⟨_, _, RoadKit.retN X hx hret ht hd hr, hrun, hended, _, _, rfl, ⟨by rw [← e0] at q; exact q, N⟩, ⟨_, rfl⟩, hW, hsame.mono hk hn'⟩
theorem OwP.retV (P : OwP p l e R s m args below meth c n0 T h k n) (hx : p.tables.exec = Jvm.exec) (hlk : meth.locks = false) {pc : Nat} {Ls : Array Slot} (hret : meth.sig.returnType = none)
    (hd : decode c.code pc = .ok (.return_, 1)) (hk : k ≤ KK) (hn' : n ≤ NN) (q : Q none h) : OwG p e below s n0 KK NN Q T (mkF m pc Ls []) := by
  obtain ⟨L, X, e0, N⟩ := P
  obtain ⟨fs, hr, hrun, hended, hW, hsame⟩ := X.leave (v := none) (fun _ => rfl)
  exact ⟨_, _, X.returnOut hx hret hd hr, hrun, hended, _, _, rfl, ⟨by rw [← e0] at q; exact q, N⟩, ⟨_, rfl⟩, hW, hsame.mono hk hn'⟩
theorem OwP.getF (P : OwP p l e R s m args below meth c n0 T h k n) (hx : p.tables.exec = Jvm.exec) (hZ : Z.Warmed39 s.vm) {own R0 O nm d host : String} {index : Nat} (hown : s.vm.findClass own = some m.cls) (w : (Jvm.Cond.fieldLink own index R0 nm d).before a0 Z = true ∨ (Jvm.Cond.fieldLinkNest own index R0 nm d host).before a0 Z = true) (via : Via Z R0 O nm d)
    {a : Addr} {v : Value} (F : Fld Z h a O nm d v) {g : JFrame} (hg : g.method = m) {rest : List Value} (hs : g.stack = .ref a :: rest) (hd : decode c.code g.pc = .ok (.getfield index, 3))
    (K : ∀ T', OwP p l e R s m args below meth c n0 T' h k n → OwG p e below s n0 KK NN Q T' { g with pc := g.pc + 3, stack := v :: rest }) : OwG p e below s n0 KK NN Q T g := by
  obtain ⟨L, X, eT, N⟩ := P
  obtain ⟨T', X', e', st⟩ := RoadKit.getF X hx hZ hown w via eT F hg hs hd
  exact (K T' ⟨L, X', e', N⟩).go st
theorem OwP.getS (P : OwP p l e R s m args below meth c n0 T h k n) (hx : p.tables.exec = Jvm.exec) (hZ : Z.Warmed39 s.vm) {own R0 O nm d host : String} {index : Nat} (hown : s.vm.findClass own = some m.cls) (w : (Jvm.Cond.fieldLink own index R0 nm d).before a0 Z = true ∨ (Jvm.Cond.fieldLinkNest own index R0 nm d host).before a0 Z = true) (via : Via Z R0 O nm d)
    {v : Value} (F : Sta Z h O nm d v) {g : JFrame} (hg : g.method = m) (hd : decode c.code g.pc = .ok (.getstatic index, 3))
    (K : ∀ T', OwP p l e R s m args below meth c n0 T' h k n → OwG p e below s n0 KK NN Q T' { g with pc := g.pc + 3, stack := v :: g.stack }) : OwG p e below s n0 KK NN Q T g := by
  obtain ⟨L, X, eT, N⟩ := P
  obtain ⟨T', X', e', st⟩ := RoadKit.getS2 X hx hZ hown w via eT F hg hd
  exact (K T' ⟨L, X', e', N⟩).go st
theorem OwP.putF (P : OwP p l e R s m args below meth c n0 T h k n) (hx : p.tables.exec = Jvm.exec) (hZ : Z.Warmed39 s.vm) {own R0 O nm d host C : String} {index kk : Nat} {ty : FieldType} (hown : s.vm.findClass own = some m.cls) (w : (Jvm.Cond.fieldLink own index R0 nm d).before a0 Z = true ∨ (Jvm.Cond.fieldLinkNest own index R0 nm d host).before a0 Z = true) (via : Via Z R0 O nm d)
    {a : Addr} {v old : Value} (F : Fld Z h a O nm d old) (E : Exa Z h a C) (L : (Jvm.Cond.lays C O nm d).before a0 Z = true ∨ ((Jvm.Cond.laysFinal C O nm d).before a0 Z = true ∧ own = O ∧ meth.name = "<init>")) (wi : (Jvm.Cond.instantiable C kk).before a0 Z = true)
    (hty : parseFieldDescriptor d = some ty) (hn : narrow ty v = v) (hf : fits ty v = true) {g : JFrame} (hg : g.method = m) {rest : List Value} (hs : g.stack = v :: .ref a :: rest) (hd : decode c.code g.pc = .ok (.putfield index, 3)) (ha : n0 ≤ a)
    (K : ∀ T' h', OwP p l e R s m args below meth c n0 T' h' k n → Wr h h' a (Jvm.RoadKit.slotOf Z O nm d) v → OwG p e below s n0 KK NN Q T' { g with pc := g.pc + 3, stack := rest }) : OwG p e below s n0 KK NN Q T g := by
  obtain ⟨L0, X, eT, N⟩ := P
  obtain ⟨T', h', X', e', W, st⟩ := RoadKit.putF X hx hZ hown w via eT F E L wi hty hn hf hg hs hd
  exact (K T' h' ⟨_, X', e', Fr.snoc X' N ha⟩ W).go st
theorem OwP.putFN (P : OwP p l e R s m args below meth c n0 T h k n) (hx : p.tables.exec = Jvm.exec) (hZ : Z.Warmed39 s.vm) {own R0 O nm d C : String} {index kk : Nat} {ty : FieldType} (hown : s.vm.findClass own = some m.cls) (w : (Jvm.Cond.fieldLink own index R0 nm d).before a0 Z = true) (via : Via Z R0 O nm d)
    {a : Addr} {v v' old : Value} (F : Fld Z h a O nm d old) (E : Exa Z h a C) (L : (Jvm.Cond.lays C O nm d).before a0 Z = true ∨ ((Jvm.Cond.laysFinal C O nm d).before a0 Z = true ∧ own = O ∧ meth.name = "<init>")) (wi : (Jvm.Cond.instantiable C kk).before a0 Z = true)
    (hty : parseFieldDescriptor d = some ty) (hn : narrow ty v = v') (hf : fits ty v' = true) {g : JFrame} (hg : g.method = m) {rest : List Value} (hs : g.stack = v :: .ref a :: rest) (hd : decode c.code g.pc = .ok (.putfield index, 3)) (ha : n0 ≤ a)
    (K : ∀ T' h', OwP p l e R s m args below meth c n0 T' h' k n → Wr h h' a (Jvm.RoadKit.slotOf Z O nm d) v' → OwG p e below s n0 KK NN Q T' { g with pc := g.pc + 3, stack := rest }) : OwG p e below s n0 KK NN Q T g := by
  obtain ⟨L0, X, eT, N⟩ := P
  obtain ⟨T', h', X', e', W, st⟩ := RoadKit.putFN X hx hZ hown w via eT F E L wi hty hn hf hg hs hd
  exact (K T' h' ⟨_, X', e', Fr.snoc X' N ha⟩ W).go st
theorem OwP.newO (P : OwP p l e R s m args below meth c n0 T h k n) (hx : p.tables.exec = Jvm.exec) (hZ : Z.Warmed39 s.vm) {own C : String} {index nn : Nat} (hown : s.vm.findClass own = some m.cls) (w : (Jvm.Cond.classLink own index C).before a0 Z = true) (wi : (Jvm.Cond.instantiable C nn).before a0 Z = true) (wz : (Jvm.Cond.initialized C).before a0 Z = true)
    {g : JFrame} (hg : g.method = m) (hd : decode c.code g.pc = .ok (.new index, 3)) (hc : k + 1 ≤ R.cells) (hl : n + nn ≤ R.slots)
    (K : ∀ T' h' b, b = h.size → OwP p l e R s m args below meth c n0 T' h' (k + 1) (n + nn) → Ext h h' → Exa Z h' b C → (∀ {O nm d : String} {ty : FieldType}, Laid Z a0 C O nm d → parseFieldDescriptor d = some ty → Fld Z h' b O nm d (defaultValue ty)) → OwG p e below s n0 KK NN Q T' { g with pc := g.pc + 3, stack := .ref b :: g.stack }) : OwG p e below s n0 KK NN Q T g := by
  obtain ⟨L, X, eT, N⟩ := P
  obtain ⟨T', h', X', e', E, A, D, -, st⟩ := RoadKit.newO X hx hZ hown w wi wz eT hg hd hc hl
  exact (K T' h' _ rfl ⟨L, X', e', N⟩ E A D).go st
theorem OwP.newP (P : OwP p l e R s m args below meth c n0 T h k n) (hx : p.tables.exec = Jvm.exec) (hZ : Z.Warmed39 s.vm) {aty : ArrayType} (w : (Jvm.Cond.arrayClass (newarray.typeOf aty)).before a0 Z = true) {g : JFrame} (hg : g.method = m) (hd : decode c.code g.pc = .ok (.newarray aty, 2)) {z : Int32} {rest : List Value} (hs : g.stack = .int z :: rest)
    (hn : ¬ z < 0) {cap : Nat} (hcap : z.toNatClampNeg ≤ cap) (hb : cap * 8 ≤ 536870912) (hc : k + 1 ≤ R.cells) (hl : n + cap ≤ R.slots)
    (K : ∀ T' h' b kA, b = h.size → OwP p l e R s m args below meth c n0 T' h' (k + 1) (n + cap) → Ext h h' → Arv Z h' b kA (newarray.typeOf aty) z [] (defaultValue (newarray.typeOf aty)) → OwG p e below s n0 KK NN Q T' { g with pc := g.pc + 2, stack := .ref b :: rest }) : OwG p e below s n0 KK NN Q T g := by
  obtain ⟨L, X, eT, N⟩ := P
  obtain ⟨T', h', kA, X', e', E, A, st⟩ := RoadKit.newP X hx hZ w eT hg hd hs hn hcap hb hc hl
  exact (K T' h' _ kA rfl ⟨L, X', e', N⟩ E (Arv.new A hn)).go st
theorem OwP.initO (P : OwP p l e R s m args below meth c n0 T h k n) (hx : p.tables.exec = Jvm.exec) (hZ : Z.Warmed39 s.vm) {own : String} {idx : Nat} (hown : s.vm.findClass own = some m.cls) (w1 : (Jvm.Cond.methodLink own idx Lib.objectInit).before a0 Z = true) (w2 : (Jvm.Cond.instanceMethod Lib.objectInit).before a0 Z = true)
    (w3 : (Jvm.Cond.code Lib.objectInit ⟨#[0xb1]⟩ 1 none).before a0 Z = true) {g : JFrame} (hg : g.method = m) (hsize : g.locals.size = c.maxLocals) {a : Addr} {rest : List Value} (hs : g.stack = .ref a :: rest) (hd : decode c.code g.pc = .ok (.invokespecial idx, 3))
    (hf : 1 ≤ R.frames) {W : Nat} (hW : 2 * g.monitorRoom + (rest.map fun v => v.category).sum ≤ W) (hl : W + 12 ≤ R.locals)
    (K : ∀ T', OwP p l e R s m args below meth c n0 T' h k n → OwG p e below s n0 KK NN Q T' { g with pc := g.pc + 3, stack := rest }) : OwG p e below s n0 KK NN Q T g := by
  obtain ⟨L, X, eT, N⟩ := P
  obtain ⟨T', X', e', st⟩ := RoadKit.initO X hx hZ hown w1 w2 w3 eT hg hsize hs hd hf hW hl
  exact (K T' ⟨L, X', e', N⟩).go st
theorem OwP.stC (P : OwP p l e R s m args below meth c n0 T h k n) (hx : p.tables.exec = Jvm.exec) (hZ : Z.Warmed39 s.vm) {a : Addr} {kA : ClassId} {z j x : Int32} {vs : List Value} {dv : Value} (A : Arv Z h a kA .char z vs dv) (hj0 : ¬ j < 0) (hj1 : j < z) {i : Nat} (hi : j.toNatClampNeg = i) (hi' : i < vs.length) {g : JFrame} (hg : g.method = m) {rest : List Value} (hs : g.stack = .int x :: .int j :: .ref a :: rest) (hd : decode c.code g.pc = .ok (.castore, 1)) (ha : n0 ≤ a)
    (K : ∀ T' h', OwP p l e R s m args below meth c n0 T' h' k n → Wr h h' a j.toNatClampNeg (.int (nar .char x)) → Arv Z h' a kA .char z (vs.set i (.int (nar .char x))) dv → OwG p e below s n0 KK NN Q T' { g with pc := g.pc + 1, stack := rest }) : OwG p e below s n0 KK NN Q T g := by
  obtain ⟨L, X, eT, N⟩ := P
  obtain ⟨cl, A1, q1, S1, M1, H1, U1⟩ := A
  obtain ⟨T', h', X', e', W, st⟩ := RoadKit.stC X hx hZ eT A1 (inb_of S1 ⟨hj0, hj1⟩) hg hs hd
  exact (K T' h' ⟨_, X', e', Fr.snoc X' N ha⟩ W (Arv.set A1 q1 S1 M1 H1 U1 (fits_nar_char _) W i hi hi')).go st
theorem OwP.special (P : OwP p l e R s m args below meth c n0 T h k n) (hx : p.tables.exec = Jvm.exec) (hZ : Z.Warmed39 s.vm) {own : String} {index : Nat} {y : MethodName} (hy1 : y.name = "<init>") (hown : s.vm.findClass own = some m.cls) (w1 : (Jvm.Cond.methodLink own index y).before a0 Z = true) (w2 : (Jvm.Cond.instanceMethod y).before a0 Z = true)
    {bytes : ByteArray} {maxL : Nat} (w3 : (Jvm.Cond.code y bytes maxL none).before a0 Z = true) (hy : y.cls ≠ "java/lang/invoke/MethodHandle" ∧ y.cls ≠ "java/lang/invoke/VarHandle")
    {W c1 s1 : Nat} {as' : Array Value} {Qc : Option Value → Heap → List Loc → Prop} (hK : Back l R p e below s args y 3 W (fun A a => a = as' ∧ A.U.heap = h ∧ A.cells + c1 ≤ R.cells ∧ A.slots + s1 ≤ R.slots) (fun A _ v B => ∃ L, Qc v B.U.heap L ∧ B.locs = A.locs ++ L ∧ B.cells = A.cells + c1 ∧ B.slots = A.slots + s1))
    (hQ : ∀ v h L, Qc v h L → Fr n0 L) {g : JFrame} (hg : g.method = m) (hsize : g.locals.size = c.maxLocals) {a : Addr} {argsL rest : List Value}
    (hlen : ∀ sig, parseMethodDescriptor y.desc = some sig → argsL.length = sig.parameters.length) (hstack : g.stack = argsL.reverse ++ .ref a :: rest) (hW : 2 * g.monitorRoom + (rest.map fun v => v.category).sum ≤ W)
    (hdg : decode c.code g.pc = .ok (.invokespecial index, 3)) (has : (Value.ref a :: argsL).toArray = as') (hc : k + c1 ≤ R.cells) (hl : n + s1 ≤ R.slots)
    (K : ∀ T' v L h', T'.heap = h' → OwP p l e R s m args below meth c n0 T' h' (k + c1) (n + s1) → Qc v h' L → OwG p e below s n0 KK NN Q T' { g with pc := g.pc + 3, stack := v.toList ++ rest }) : OwG p e below s n0 KK NN Q T g := by
  obtain ⟨L, X, eT, N⟩ := P
  obtain ⟨v, _, ⟨T', L', k', n'⟩, -, X', ⟨Lc, hQc, l', y', z'⟩, st⟩ := X.specialBack hx hy1 hown (mvT hZ w1) (mvT hZ w2) (mvT hZ w3) hy hK hg hsize (Steps.refl _) hlen hstack hW hdg (fun _ _ => ⟨has, eT, hc, hl⟩)
  dsimp only [Pt.U, Pt.locs, Pt.cells, Pt.slots] at X' l' y' z' st hQc
  subst l' y' z'
  exact (K T' v Lc _ rfl ⟨_, X', rfl, Fr.app N (hQ _ _ _ hQc)⟩ hQc).go fun t kt => st.trans kt
theorem OwP.virtual (P : OwP p l e R s m args below meth c n0 T h k n) (hx : p.tables.exec = Jvm.exec) (hZ : Z.Warmed39 s.vm) {own C : String} {index : Nat} {y : MethodName} (hown : s.vm.findClass own = some m.cls) (w1 : (Jvm.Cond.methodLink own index y).before a0 Z = true) (w2 : (Jvm.Cond.declares y).before a0 Z = true)
    (w3 : (Jvm.Cond.selects C y y).before a0 Z = true) (w4 : (Jvm.Cond.instanceMethod y).before a0 Z = true) (hy : y.cls ≠ "java/lang/invoke/MethodHandle" ∧ y.cls ≠ "java/lang/invoke/VarHandle")
    {W c1 s1 : Nat} {as' : Array Value} {Qc : Option Value → Heap → List Loc → Prop} (hK : Back l R p e below s args y 3 W (fun A a => a = as' ∧ A.U.heap = h ∧ A.cells + c1 ≤ R.cells ∧ A.slots + s1 ≤ R.slots) (fun A _ v B => ∃ L, Qc v B.U.heap L ∧ B.locs = A.locs ++ L ∧ B.cells = A.cells + c1 ∧ B.slots = A.slots + s1))
    (hQ : ∀ v h L, Qc v h L → Fr n0 L) {b : Addr} (E : Exa Z h b C) {g : JFrame} (hg : g.method = m) (hsize : g.locals.size = c.maxLocals) {argsL rest : List Value}
    (hlen : ∀ sig, parseMethodDescriptor y.desc = some sig → argsL.length = sig.parameters.length) (hstack : g.stack = argsL.reverse ++ .ref b :: rest) (hW : 2 * g.monitorRoom + (rest.map fun v => v.category).sum ≤ W)
    (hdg : decode c.code g.pc = .ok (.invokevirtual index, 3)) (has : (Value.ref b :: argsL).toArray = as') (hc : k + c1 ≤ R.cells) (hl : n + s1 ≤ R.slots)
    (K : ∀ T' v L h', T'.heap = h' → OwP p l e R s m args below meth c n0 T' h' (k + c1) (n + s1) → Qc v h' L → OwG p e below s n0 KK NN Q T' { g with pc := g.pc + 3, stack := v.toList ++ rest }) : OwG p e below s n0 KK NN Q T g := by
  obtain ⟨L, X, eT, N⟩ := P
  obtain ⟨cq, kq, qa, qb, qc⟩ := isOf hZ eT E
  obtain ⟨v, _, ⟨T', L', k', n'⟩, -, X', ⟨Lc, hQc, l', y', z'⟩, st⟩ := X.virtualBack hx hown (mvT hZ w1) (mvT hZ w2) (notFace_of_selects (args := #[]) (mvT hZ w3)) (mvT hZ w3) (mvT hZ w4) hy hK qa qc hg hsize (Steps.refl _) hlen hstack hW hdg (fun _ _ => ⟨has, eT, hc, hl⟩)
  dsimp only [Pt.U, Pt.locs, Pt.cells, Pt.slots] at X' l' y' z' st hQc
  subst l' y' z'
  exact (K T' v Lc _ rfl ⟨_, X', rfl, Fr.app N (hQ _ _ _ hQc)⟩ hQc).go fun t kt => st.trans kt
theorem OwP.stat (P : OwP p l e R s m args below meth c n0 T h k n) (hx : p.tables.exec = Jvm.exec) (hZ : Z.Warmed39 s.vm) {own : String} {index : Nat} {y : MethodName} {bytes : ByteArray} {maxL : Nat} {ret : Option FieldType} (hown : s.vm.findClass own = some m.cls) (w1 : (Jvm.Cond.methodLink own index y).before a0 Z = true) (w2 : (Jvm.Cond.static y).before a0 Z = true) (w3 : (Jvm.Cond.initialized y.cls).before a0 Z = true)
    (w4 : (Jvm.Cond.code y bytes maxL ret).before a0 Z = true) (hy : y.cls ≠ "java/lang/invoke/MethodHandle" ∧ y.cls ≠ "java/lang/invoke/VarHandle")
    {W c1 s1 : Nat} {as' : Array Value} {Qc : Option Value → Heap → List Loc → Prop} (hK : Back l R p e below s args y 3 W (fun A a => a = as' ∧ A.U.heap = h ∧ A.cells + c1 ≤ R.cells ∧ A.slots + s1 ≤ R.slots) (fun A _ v B => ∃ L, Qc v B.U.heap L ∧ B.locs = A.locs ++ L ∧ B.cells = A.cells + c1 ∧ B.slots = A.slots + s1))
    (hQ : ∀ v h L, Qc v h L → Fr n0 L) {g : JFrame} (hg : g.method = m) (hsize : g.locals.size = c.maxLocals) {argsL rest : List Value}
    (hlen : ∀ sig, parseMethodDescriptor y.desc = some sig → argsL.length = sig.parameters.length) (hstack : g.stack = argsL.reverse ++ rest) (hW : 2 * g.monitorRoom + (rest.map fun v => v.category).sum ≤ W)
    (hdg : decode c.code g.pc = .ok (.invokestatic index, 3)) (has : argsL.toArray = as') (hc : k + c1 ≤ R.cells) (hl : n + s1 ≤ R.slots)
    (K : ∀ T' v L h', T'.heap = h' → OwP p l e R s m args below meth c n0 T' h' (k + c1) (n + s1) → Qc v h' L → OwG p e below s n0 KK NN Q T' { g with pc := g.pc + 3, stack := v.toList ++ rest }) : OwG p e below s n0 KK NN Q T g := by
  obtain ⟨L, X, eT, N⟩ := P
  obtain ⟨v, _, ⟨T', L', k', n'⟩, -, X', ⟨Lc, hQc, l', y', z'⟩, st⟩ := Jvm.LawKit.callS X hx hown (mvT hZ w1) (mvT hZ w2) (mvT hZ w3) (mvT hZ w4) hy hK hg hsize hlen hstack hW hdg (fun _ _ => ⟨has, eT, hc, hl⟩)
  dsimp only [Pt.U, Pt.locs, Pt.cells, Pt.slots] at X' l' y' z' st hQc
  subst l' y' z'
  exact (K T' v Lc _ rfl ⟨_, X', rfl, Fr.app N (hQ _ _ _ hQc)⟩ hQc).go st
theorem own_a0 {α : Type} {P : α → Prop} : ∀ x ∈ ([] : List α), P x := fun _ q => nomatch q
theorem own_aS {α : Type} {P : α → Prop} {y : α} {L : List α} (q : P y) (r : ∀ x ∈ L, P x) : ∀ x ∈ y :: L, P x := fun x z => (List.mem_cons.mp z).elim (fun u => u ▸ q) (r x)
theorem own_le {a b : Nat} (h : Nat.ble a b = true) : a ≤ b := Nat.le_of_ble_eq_true h
def OwQ (Qc : Option Value → Heap → Prop) (n0 : Nat) (v : Option Value) (h : Heap) (L : List Loc) : Prop := Qc v h ∧ Fr n0 L
/-- a contract made a payer -/
theorem OwM.back {y : MethodName} {bytes : ByteArray} {maxL : Nat} {ret : Option FieldType} {rm : Room} {W : Nat} {as' : Array Value} {Qc : Option Value → Heap → Prop} (hM : OwM l Z y bytes maxL ret rm n0 as' h Qc)
    (hZ : Z.Warmed39 s.vm) (wc : (Jvm.Cond.code y bytes maxL ret).before a0 Z = true) (wz : (Jvm.Cond.initialized y.cls).before a0 Z = true) (hf : rm.frames + 1 ≤ R.frames) (hl : W + (maxL + 11) + rm.locals ≤ R.locals) :
    Back l R p e below s args y 3 W (fun A a => a = as' ∧ A.U.heap = h ∧ A.cells + rm.cells ≤ R.cells ∧ A.slots + rm.slots ≤ R.slots)
      (fun A _ v B => ∃ L, OwQ Qc n0 v B.U.heap L ∧ B.locs = A.locs ++ L ∧ B.cells = A.cells + rm.cells ∧ B.slots = A.slots + rm.slots) :=
  backOf (Q := OwQ Qc n0) hM hZ wc wz hf hl
end Own
end Jvm.Pilot.@@N@@
namespace Jvm.Pilot.@@N@@
open Jvm Jvm.ClassFile Sem Op Lib Jvm.Free Jvm.Stand Jvm.LawKit Jvm.RoadKit Bundle Jvm.Pilot.@@N@@.Jvm.D
section Own3
variable {p : Program} {l : Launch} {e : Env} {R : Room} {s : State} {m : MethodId} {args : Array Value} {below : List Frame} {meth : Method} {c : Code} {T : State} {k n : Nat} {Z : State} {a0 : Array Value} {h : Heap} {n0 KK NN : Nat} {Q : Option Value → Heap → Prop}
theorem own_i2b2 (x : Int32) : x.toInt8.toInt32.toInt8.toInt32 = x.toInt8.toInt32 := by simp
theorem OwP.stB (P : OwP p l e R s m args below meth c n0 T h k n) (hx : p.tables.exec = Jvm.exec) (hZ : Z.Warmed39 s.vm) {a : Addr} {kA : ClassId} {z j x : Int32} {vs : List Value} {dv : Value} (A : Arv Z h a kA .byte z vs dv) (hj0 : ¬ j < 0) (hj1 : j < z) {i : Nat} (hi : j.toNatClampNeg = i) (hi' : i < vs.length) {g : JFrame} (hg : g.method = m) {rest : List Value} (hs : g.stack = .int x :: .int j :: .ref a :: rest) (hd : decode c.code g.pc = .ok (.bastore, 1)) (ha : n0 ≤ a)
    (K : ∀ T' h', OwP p l e R s m args below meth c n0 T' h' k n → Wr h h' a j.toNatClampNeg (.int x.toInt8.toInt32) → Arv Z h' a kA .byte z (vs.set i (.int x.toInt8.toInt32)) dv → OwG p e below s n0 KK NN Q T' { g with pc := g.pc + 1, stack := rest }) : OwG p e below s n0 KK NN Q T g := by
  obtain ⟨L, X, eT, N⟩ := P
  obtain ⟨cl, A1, q1, S1, M1, H1, U1⟩ := A
  obtain ⟨T', h', X', e', W, st⟩ := RoadKit.stB X hx hZ eT A1 (inb_of S1 ⟨hj0, hj1⟩) hg hs hd
  exact (K T' h' ⟨_, X', e', Fr.snoc X' N ha⟩ W (Arv.set A1 q1 S1 M1 H1 U1 (fits_nar_byte _) W i hi hi')).go st
end Own3
end Jvm.Pilot.@@N@@
namespace Jvm.Pilot.@@N@@
open Jvm Jvm.ClassFile Sem Op Lib Jvm.Free Jvm.Stand Jvm.LawKit Jvm.RoadKit Bundle Jvm.Pilot.@@N@@.Jvm.D
section Own4
variable {p : Program} {l : Launch} {e : Env} {R : Room} {s : State} {m : MethodId} {args : Array Value} {below : List Frame} {meth : Method} {c : Code} {T : State} {k n : Nat} {Z : State} {a0 : Array Value} {h : Heap} {n0 KK NN : Nat} {Q : Option Value → Heap → Prop}
/-- a method that isn't static and has this code: it is declared -/
theorem own_declares {y : MethodName} {bytes : ByteArray} {maxL : Nat} {ret : Option FieldType} (w1 : (Jvm.Cond.instanceMethod y).before a0 Z = true) (w2 : (Jvm.Cond.code y bytes maxL ret).before a0 Z = true) : (Jvm.Cond.declares y).before a0 Z = true := by
  obtain ⟨mk, me, hn, hm, hs, -⟩ := Cond.instanceMethod_spec w1
  obtain ⟨me', cc, hm', -, -, -, -, -, -, hsig⟩ := Cond.code_spec hn w2
  cases hm.symm.trans hm'
  simp [Cond.before, Cond.holds, Cond.value, hn, hm, hs, hsig]
/-- no interface: told of one method of the class, it holds of another -/
theorem own_nf {C : String} {y y' : MethodName} (w : (Jvm.Cond.selects C y' y').before a0 Z = true) (hc : y'.cls = y.cls) : NotFace Z y := fun r0 h0 => by
  obtain ⟨c2, r2, m2, q1, q2, q3, q4, kP, hkP, hkPi⟩ := Cond.selects_spec w
  have e1 := findClass_of_methodNamed h0
  have e2 := findClass_of_methodNamed q3
  rw [hc] at e2
  have e3 := Option.some.inj (e1.symm.trans e2)
  exact ⟨kP, by rw [e3]; exact hkP, hkPi⟩
/-- the class's own method is the one that the lookup finds -/
theorem own_same {C : String} {y y' : MethodName} (w1 : (Jvm.Cond.instanceMethod y).before a0 Z = true) (w : (Jvm.Cond.selects C y' y').before a0 Z = true) (hc : y'.cls = y.cls) (hy : y.cls ≠ "java/lang/invoke/MethodHandle" ∧ y.cls ≠ "java/lang/invoke/VarHandle") : (Jvm.Cond.sameMethod y.cls y.cls y.name y.desc).before a0 Z = true := by
  obtain ⟨mk, me, hn, hm, hs, -⟩ := Cond.instanceMethod_spec w1
  obtain ⟨kr, hkr, hni⟩ := own_nf w hc mk hn
  have e1 := findClass_of_methodNamed hn
  have e2 := State.methodFound?_of_named hn hy
  simp [Cond.before, Cond.holds, Cond.value, e1, e2, hn, hkr, hni]
theorem OwP.superc (P : OwP p l e R s m args below meth c n0 T h k n) (hx : p.tables.exec = Jvm.exec) (hZ : Z.Warmed39 s.vm) {own KK' : String} {index : Nat} {y : MethodName} (hown : s.vm.findClass own = some m.cls) (w1 : (Jvm.Cond.methodLink own index y).before a0 Z = true) (w2 : (Jvm.Cond.sameMethod y.cls y.cls y.name y.desc).before a0 Z = true)
    (w3 : (Jvm.Cond.instanceMethod y).before a0 Z = true) (w4 : (Jvm.Cond.superclass own y.cls).before a0 Z = true) (hn : y.name ≠ "<init>")
    {W c1 s1 : Nat} {as' : Array Value} {Qc : Option Value → Heap → List Loc → Prop} (hK : Back l R p e below s args y 3 W (fun A a => a = as' ∧ A.U.heap = h ∧ A.cells + c1 ≤ R.cells ∧ A.slots + s1 ≤ R.slots) (fun A _ v B => ∃ L, Qc v B.U.heap L ∧ B.locs = A.locs ++ L ∧ B.cells = A.cells + c1 ∧ B.slots = A.slots + s1))
    (hQ : ∀ v h L, Qc v h L → Fr n0 L) {a : Addr} (F : Exa Z h a KK') {g : JFrame} (hg : g.method = m) (hsize : g.locals.size = c.maxLocals) {bytes : ByteArray} {maxL : Nat} {ret : Option FieldType} (wc : (Jvm.Cond.code y bytes maxL ret).before a0 Z = true) {argsL rest : List Value}
    (hlen : ∀ sig, parseMethodDescriptor y.desc = some sig → argsL.length = sig.parameters.length) (hstack : g.stack = argsL.reverse ++ .ref a :: rest) (hW : 2 * g.monitorRoom + (rest.map fun v => v.category).sum ≤ W)
    (hdg : decode c.code g.pc = .ok (.invokespecial index, 3)) (has : (Value.ref a :: argsL).toArray = as') (hc : k + c1 ≤ R.cells) (hl : n + s1 ≤ R.slots)
    (K : ∀ T' v L h', T'.heap = h' → OwP p l e R s m args below meth c n0 T' h' (k + c1) (n + s1) → Qc v h' L → OwG p e below s n0 KK NN Q T' { g with pc := g.pc + 3, stack := v.toList ++ rest }) : OwG p e below s n0 KK NN Q T g := by
  obtain ⟨L, X, eT, N⟩ := P
  obtain ⟨v, _, ⟨T', L', k', n'⟩, -, X', ⟨Lc, hQc, l', y', z'⟩, st⟩ := superBack X hx hZ hown w1 w2 w3 w4 hn hK eT (Ins.self F) hg hsize wc hlen hstack hW hdg (fun _ _ => ⟨has, eT, hc, hl⟩)
  dsimp only [Pt.U, Pt.locs, Pt.cells, Pt.slots] at X' l' y' z' st hQc
  subst l' y' z'
  exact (K T' v Lc _ rfl ⟨_, X', rfl, Fr.app N (hQ _ _ _ hQc)⟩ hQc).go fun t kt => st.trans kt
/-- invokevirtual where what selects isn't what is named -/
theorem OwP.virtualN (P : OwP p l e R s m args below meth c n0 T h k n) (hx : p.tables.exec = Jvm.exec) (hZ : Z.Warmed39 s.vm) {own C : String} {index : Nat} {y z : MethodName} (hown : s.vm.findClass own = some m.cls) (w1 : (Jvm.Cond.methodLink own index y).before a0 Z = true) (w2 : (Jvm.Cond.declares y).before a0 Z = true) (nf : NotFace Z y)
    (w3 : (Jvm.Cond.selects C y z).before a0 Z = true) (w4 : (Jvm.Cond.instanceMethod z).before a0 Z = true) (hy : y.cls ≠ "java/lang/invoke/MethodHandle" ∧ y.cls ≠ "java/lang/invoke/VarHandle")
    {W c1 s1 : Nat} {as' : Array Value} {Qc : Option Value → Heap → List Loc → Prop} (hK : Back l R p e below s args z 3 W (fun A a => a = as' ∧ A.U.heap = h ∧ A.cells + c1 ≤ R.cells ∧ A.slots + s1 ≤ R.slots) (fun A _ v B => ∃ L, Qc v B.U.heap L ∧ B.locs = A.locs ++ L ∧ B.cells = A.cells + c1 ∧ B.slots = A.slots + s1))
    (hQ : ∀ v h L, Qc v h L → Fr n0 L) {b : Addr} (E : Exa Z h b C) {g : JFrame} (hg : g.method = m) (hsize : g.locals.size = c.maxLocals) {argsL rest : List Value}
    (hlen : ∀ sig, parseMethodDescriptor y.desc = some sig → argsL.length = sig.parameters.length) (hstack : g.stack = argsL.reverse ++ .ref b :: rest) (hW : 2 * g.monitorRoom + (rest.map fun v => v.category).sum ≤ W)
    (hdg : decode c.code g.pc = .ok (.invokevirtual index, 3)) (has : (Value.ref b :: argsL).toArray = as') (hc : k + c1 ≤ R.cells) (hl : n + s1 ≤ R.slots)
    (K : ∀ T' v L h', T'.heap = h' → OwP p l e R s m args below meth c n0 T' h' (k + c1) (n + s1) → Qc v h' L → OwG p e below s n0 KK NN Q T' { g with pc := g.pc + 3, stack := v.toList ++ rest }) : OwG p e below s n0 KK NN Q T g := by
  obtain ⟨L, X, eT, N⟩ := P
  obtain ⟨cq, kq, qa, qb, qc⟩ := isOf hZ eT E
  have nf' : NotFace s y := fun r0 h0 => by
    have h0' : Z.methodNamed? y = some r0 := by
      have q := State.methodNamed?_setVm (s := Z) hZ.alike (x := y)
      have e1 : (Z.setVm s.vm).methodNamed? y = s.methodNamed? y := rfl
      rw [← q, e1]; exact h0
    obtain ⟨kr, hkr, hni⟩ := nf r0 h0'
    obtain ⟨k', hk', ek⟩ := hZ.alike.2.2 _ _ hkr
    exact ⟨k', hk', by rw [ek]; exact hni⟩
  obtain ⟨v, _, ⟨T', L', k', n'⟩, -, X', ⟨Lc, hQc, l', y', z'⟩, st⟩ := X.virtualBack hx hown (mvT hZ w1) (mvT hZ w2) nf' (mvT hZ w3) (mvT hZ w4) hy hK qa qc hg hsize (Steps.refl _) hlen hstack hW hdg (fun _ _ => ⟨has, eT, hc, hl⟩)
  dsimp only [Pt.U, Pt.locs, Pt.cells, Pt.slots] at X' l' y' z' st hQc
  subst l' y' z'
  exact (K T' v Lc _ rfl ⟨_, X', rfl, Fr.app N (hQ _ _ _ hQc)⟩ hQc).go fun t kt => st.trans kt
theorem OwP.newPE (P : OwP p l e R s m args below meth c n0 T h k n) (hx : p.tables.exec = Jvm.exec) (hZ : Z.Warmed39 s.vm) {aty : ArrayType} (w : (Jvm.Cond.arrayClass (newarray.typeOf aty)).before a0 Z = true) {g : JFrame} (hg : g.method = m) (hd : decode c.code g.pc = .ok (.newarray aty, 2)) {z : Int32} {rest : List Value} (hs : g.stack = .int z :: rest)
    (hn : ¬ z < 0) {cap : Nat} (hcap : z.toNatClampNeg ≤ cap) (hb : cap * 8 ≤ 536870912) (hc : k + 1 ≤ R.cells) (hl : n + cap ≤ R.slots) {ad : String} (had : "[" ++ (newarray.typeOf aty).toString = ad)
    (K : ∀ T' h' b kA, b = h.size → OwP p l e R s m args below meth c n0 T' h' (k + 1) (n + cap) → Ext h h' → Arv Z h' b kA (newarray.typeOf aty) z [] (defaultValue (newarray.typeOf aty)) → Exa Z h' b ad → OwG p e below s n0 KK NN Q T' { g with pc := g.pc + 2, stack := .ref b :: rest }) : OwG p e below s n0 KK NN Q T g := by
  obtain ⟨L, X, eT, N⟩ := P
  obtain ⟨T', h', kA, X', e', E, A, EA, st⟩ := RoadKit.newPE X hx hZ w eT hg hd hs hn hcap hb hc hl had
  exact (K T' h' _ kA rfl ⟨L, X', e', N⟩ E (Arv.new A hn) EA).go st
theorem OwP.castY (P : OwP p l e R s m args below meth c n0 T h k n) (hx : p.tables.exec = Jvm.exec) (hZ : Z.Warmed39 s.vm) {own K' : String} {index : Nat} (hown : s.vm.findClass own = some m.cls) (w : (Jvm.Cond.classLink own index K').before a0 Z = true) {a : Addr} (F : Ins Z h a K' true)
    {g : JFrame} (hg : g.method = m) {rest : List Value} (hs : g.stack = .ref a :: rest) (hd : decode c.code g.pc = .ok (.checkcast index, 3))
    (K : ∀ T', OwP p l e R s m args below meth c n0 T' h k n → OwG p e below s n0 KK NN Q T' { g with pc := g.pc + 3 }) : OwG p e below s n0 KK NN Q T g := by
  obtain ⟨L, X, eT, N⟩ := P
  obtain ⟨T', X', e', st⟩ := RoadKit.castY X hx hZ hown w eT F hg hs hd
  exact (K T' ⟨L, X', e', N⟩).go st
theorem OwP.cloneV (P : OwP p l e R s m args below meth c n0 T h k n) (hx : p.tables.exec = Jvm.exec) (hZ : Z.Warmed39 s.vm) {own ad : String} {index : Nat} (hown : s.vm.findClass own = some m.cls)
    (w1 : (Jvm.Cond.methodLink own index ⟨ad, "clone", "()Ljava/lang/Object;"⟩).before a0 Z = true) (w2 : (Jvm.Cond.sameMethod ad "java/lang/Object" "clone" "()Ljava/lang/Object;").before a0 Z = true) (w3 : (Jvm.Cond.native ⟨"java/lang/Object", "clone", "()Ljava/lang/Object;"⟩).before a0 Z = true)
    (w4 : (Jvm.Cond.instanceMethod ⟨"java/lang/Object", "clone", "()Ljava/lang/Object;"⟩).before a0 Z = true) (w5 : (Jvm.Cond.selects ad ⟨ad, "clone", "()Ljava/lang/Object;"⟩ ⟨"java/lang/Object", "clone", "()Ljava/lang/Object;"⟩).before a0 Z = true) (w6 : (Jvm.Cond.castable ad "java/lang/Cloneable").before a0 Z = true)
    {a : Addr} {kA : ClassId} {ty : FieldType} {z : Int32} {vs : List Value} {dv : Value} (F : Arv Z h a kA ty z vs dv) (E : Exa Z h a ad) {g : JFrame} (hg : g.method = m) (hsize : g.locals.size = c.maxLocals) {rest : List Value} (hst : g.stack = .ref a :: rest) (hd : decode c.code g.pc = .ok (.invokevirtual index, 3))
    (hf : 1 ≤ R.frames) {W cap : Nat} (hW : 2 * g.monitorRoom + (rest.map fun v => v.category).sum ≤ W) (hl : W + 14 ≤ R.locals) (hcap : z.toNatClampNeg ≤ cap) (hc : k + 1 ≤ R.cells) (hsl : n + cap ≤ R.slots)
    (K : ∀ T' h' b, b = h.size → OwP p l e R s m args below meth c n0 T' h' (k + 1) (n + cap) → Ext h h' → Arv Z h' b kA ty z vs dv → Exa Z h' b ad → OwG p e below s n0 KK NN Q T' { g with pc := g.pc + 3, stack := .ref b :: rest }) : OwG p e below s n0 KK NN Q T g := by
  obtain ⟨L, X, eT, N⟩ := P
  obtain ⟨T', h', X', e', E1, A, E2, st⟩ := RoadKit.cloneH X hx hZ hown w1 w2 w3 w4 w5 w6 eT F.arh E hg hsize hst hd hf hW hl hcap hc hsl
  exact (K T' h' _ rfl ⟨L, X', e', N⟩ E1 A E2).go st
end Own4
end Jvm.Pilot.@@N@@
namespace Jvm.Pilot.@@N@@
open Jvm Jvm.ClassFile Sem Op Lib Jvm.Free Jvm.Stand Jvm.LawKit Jvm.RoadKit Bundle Jvm.Pilot.@@N@@.Jvm.D
theorem own_w {Z : State} {a0 : Array Value} (hw : ∀ d ∈ tables_1, d.before a0 Z = true) (i : Nat) {d : Jvm.Cond} (h : tables_1[i]? = some d) : d.before a0 Z = true := hw d (List.mem_of_getElem? h)
open StrChars in
theorem own_shl1 {i : Nat} (h : 2 * i < 2 ^ 31) : Int32.ofNat i <<< ((1 : Int32) &&& 31) = Int32.ofNat (2 * i) := by
  rw [shlm (m := 2) (by decide), Nat.mul_comm, Int32.ofNat_mul]; rfl
theorem own_irr (x : Int32) : ¬ x < x := Int32.lt_irrefl
theorem own_succ (i : Nat) : Int32.ofNat i + (1 : Int32) = Int32.ofNat (i + 1) := by rw [Int32.ofNat_add]; rfl
theorem own_ti {i : Nat} (h : i < 2 ^ 31) : (Int32.ofNat i).toInt = i := Int32.toInt_ofNat_of_lt h
theorem own_tc {i : Nat} (h : i < 2 ^ 31) : (Int32.ofNat i).toNatClampNeg = i := Int32.toNatClampNeg_ofNat_of_lt h
theorem own_nn {i : Nat} (h : i < 2 ^ 31) : ¬ Int32.ofNat i < 0 := by
  rw [Int32.lt_iff_toInt_lt, own_ti h, show (0 : Int32).toInt = 0 from rfl]; omega
theorem own_lt {i n : Nat} (h : i < n) (hn : n < 2 ^ 31) : Int32.ofNat i < Int32.ofNat n := by
  rw [Int32.lt_iff_toInt_lt, own_ti (by omega), own_ti hn]; omega
theorem own_nlt {i n : Nat} (h : n ≤ i) (hn : i < 2 ^ 31) : ¬ Int32.ofNat i < Int32.ofNat n := by
  rw [Int32.lt_iff_toInt_lt, own_ti (by omega), own_ti (by omega)]; omega
theorem own_ne32 {i n : Nat} (h : i ≠ n) (hi : i < 2 ^ 31) (hn : n < 2 ^ 31) : ¬ Int32.ofNat i = Int32.ofNat n := fun q => h (by
  have r := congrArg Int32.toInt q
  rw [own_ti hi, own_ti hn] at r; omega)
theorem own_narc {c : Int32} (h0 : ¬ c < 0) (h1 : ¬ (65535 : Int32) < c) : nar .char c = c := by
  apply Int32.toInt_inj.mp
  have q := c_i2c c
  rw [Int32.lt_iff_toInt_lt] at h0 h1
  have e0 : (0 : Int32).toInt = 0 := rfl
  have e1 : (65535 : Int32).toInt = 65535 := rfl
  show (c.toUInt32.toUInt16.toUInt32.toInt32).toInt = _
  omega
theorem own_char (c : Int32) : ¬ nar .char c < 0 ∧ ¬ (65535 : Int32) < nar .char c := by
  have q := c_i2c c
  rw [Int32.lt_iff_toInt_lt, Int32.lt_iff_toInt_lt]
  have e0 : (0 : Int32).toInt = 0 := rfl
  have e1 : (65535 : Int32).toInt = 65535 := rfl
  show ¬ (c.toUInt32.toUInt16.toUInt32.toInt32).toInt < _ ∧ ¬ _ < (c.toUInt32.toUInt16.toUInt32.toInt32).toInt
  omega
theorem own_chat {cs : List Int32} {d : Value} {i : Nat} (h : i < cs.length) (hb : i < 2 ^ 31) : (cs.map Value.int).getD (Int32.ofNat i).toNatClampNeg d = .int (cs.getD i 0) := by
  rw [own_tc hb]; simp [List.getD_eq_getElem?_getD, h]

def own_EQ (cs ds : List Int32) (h : Heap) (n0 : Nat) (v : Option Value) (h' : Heap) (L : List Loc) : Prop := (∃ i : Int32, v = some (.int i) ∧ ((i = 1 ∧ cs = ds) ∨ (i = 0 ∧ ¬ cs = ds))) ∧ h' = h ∧ Fr n0 L
theorem own_wEq : ∀ d ∈ StrChars.Road.wordsEq, d ∈ tables_1 := by decide +kernel
/-- equals of two Strings, as one int -/
theorem own_eqB {p : Program} {l : Launch} {e : Env} {R : Room} {s : State} {args : Array Value} {below : List Frame} {W : Nat} {Z : State} {a0 : Array Value} {h : Heap} {n0 : Nat} (hZ : Z.Warmed39 s.vm) (hw : ∀ d ∈ tables_1, d.before a0 Z = true)
    {x t : Addr} {kb : ClassId} {cs : List Int32} {cd N2 : Int32} {vs : List Value} (E : Exa Z h x "java/lang/String") (V : Fld Z h x "java/lang/String" "value" "[B" (.ref t)) (C : Fld Z h x "java/lang/String" "coder" "B" (.int cd)) (K : Arv Z h t kb .byte N2 vs (.int 0)) (hc : StrChars.Road.CodA cs cd N2 vs) (hb : ∀ c ∈ cs, ¬ c < 0 ∧ ¬ (65535 : Int32) < c) (l2 : cs.length ≤ 4000)
    {y t' : Addr} {kb' : ClassId} {ds : List Int32} {cd' N2' : Int32} {vs' : List Value} (E' : Exa Z h y "java/lang/String") (V' : Fld Z h y "java/lang/String" "value" "[B" (.ref t')) (C' : Fld Z h y "java/lang/String" "coder" "B" (.int cd')) (K' : Arv Z h t' kb' .byte N2' vs' (.int 0)) (hc' : StrChars.Road.CodA ds cd' N2' vs') (hb' : ∀ c ∈ ds, ¬ c < 0 ∧ ¬ (65535 : Int32) < c) (l2' : ds.length ≤ 4000)
    {z : Int32} (S : Sta Z h "java/lang/String" "COMPACT_STRINGS" "Z" (.int z)) (hz : ¬ z = 0) (hfr : 2 ≤ R.frames) (hlo : W + 28 ≤ R.locals) :
    Back l R p e below s args (⟨"java/lang/String", "equals", "(Ljava/lang/Object;)Z"⟩ : MethodName) 3 W (fun P a => a = #[.ref x, .ref y] ∧ P.U.heap = h ∧ P.cells + 0 ≤ R.cells ∧ P.slots + 0 ≤ R.slots)
      (fun P _ v B => ∃ L, own_EQ cs ds h n0 v B.U.heap L ∧ B.locs = P.locs ++ L ∧ B.cells = P.cells + 0 ∧ B.slots = P.slots + 0) :=
  Back.mono (StrChars.Road.eqW hZ (fun d hd => hw d (own_wEq d hd)) (kI := 4) (own_w hw 75 rfl) E V C K hc hb l2 E' V' C' K' hc' hb' l2' S hz hfr hlo) (fun _ _ q => q) (fun P a v B _ hq => by
    obtain ⟨L, ⟨q1, q2, q3⟩, r⟩ := hq
    refine ⟨L, ⟨?_, q3, by rw [q2]; exact Fr.nil _⟩, r⟩
    rcases q1 with ⟨rfl, q⟩ | ⟨rfl, q⟩
    · exact ⟨1, rfl, Or.inl ⟨rfl, q⟩⟩
    · exact ⟨0, rfl, Or.inr ⟨rfl, q⟩⟩)
theorem own_eqv {args : Array Value} {first s : State} {o : Option Outcome} {idx : List Nat} {t : Term} {z : Int32} (h : (Jvm.Cond.eq t (.int z)).value args first o s idx = some true) : t.eval args first o idx s = some (.int z) := by
  simp only [Cond.value, Term.eval] at h
  cases ht : t.eval args first o idx s with
  | none => simp [ht] at h
  | some v => cases v <;> simp_all
theorem own_words : ∀ d ∈ StrChars.Road.words, d ∈ tables_1 := by decide +kernel
theorem own_narc2 {c : Int32} (h0 : ¬ c < 0) (h1 : ¬ (65535 : Int32) < c) : nar .char (c.toUInt32.toUInt16.toUInt32.toInt32) = c := by
  have e : c.toUInt32.toUInt16.toUInt32.toInt32 = c := own_narc h0 h1
  rw [e]; exact own_narc h0 h1
/-- the alphabet -/
def own_al (d : Int32) : Int32 := if d < 26 then 65 + d else 50 + (d - 26)
theorem own_al_to (d : Int32) (h0 : 0 ≤ d.toInt) (h1 : d.toInt < 32) : (own_al d).toInt = if d.toInt < 26 then 65 + d.toInt else 24 + d.toInt := by
  unfold own_al
  have e26 : (26 : Int32).toInt = 26 := rfl
  by_cases q : d < 26
  · have q' := q
    rw [Int32.lt_iff_toInt_lt, e26] at q'
    rw [if_pos q, if_pos q']
    have r := c_iadd 65 d
    have g := rng32 (65 + d)
    have e65 : (65 : Int32).toInt = 65 := rfl
    omega
  · have q' := q
    rw [Int32.lt_iff_toInt_lt, e26] at q'
    rw [if_neg q, if_neg q']
    have r := c_iadd 50 (d - 26)
    have r2 := c_isub d 26
    have g := rng32 (50 + (d - 26))
    have g2 := rng32 (d - 26)
    have e50 : (50 : Int32).toInt = 50 := rfl
    omega
theorem own_al_bd {d : Int32} (h0 : 0 ≤ d.toInt) (h1 : d.toInt < 32) : ¬ own_al d < 0 ∧ ¬ (255 : Int32) < own_al d := by
  have q := own_al_to d h0 h1
  rw [Int32.lt_iff_toInt_lt, Int32.lt_iff_toInt_lt]
  have e0 : (0 : Int32).toInt = 0 := rfl
  have e1 : (255 : Int32).toInt = 255 := rfl
  split at q <;> omega
theorem own_up {c : Int32} (h : ¬ c < 0 ∧ ¬ (255 : Int32) < c) : ¬ c < 0 ∧ ¬ (65535 : Int32) < c := ⟨h.1, fun q => h.2 (by
  rw [Int32.lt_iff_toInt_lt] at q ⊢; have e1 : (65535 : Int32).toInt = 65535 := rfl; have e2 : (255 : Int32).toInt = 255 := rfl; omega)⟩
def own_alist : List Value := (List.range 32).map fun j => Value.int (own_al (Int32.ofNat j))
theorem own_alat {d : Value} {j : Int32} (h0 : 0 ≤ j.toInt) (h1 : j.toInt < 32) : own_alist.getD j.toNatClampNeg d = .int (own_al j) := by
  have e : j = Int32.ofNat j.toInt.toNat := by
    apply Int32.toInt_inj.mp
    rw [own_ti (by omega)]; omega
  have e2 : j.toNatClampNeg = j.toInt.toNat := rfl
  rw [e2]
  have h3 : j.toInt.toNat < 32 := by omega
  simp only [own_alist, List.getD_eq_getElem?_getD, List.getElem?_map, List.getElem?_range h3, Option.map_some, Option.getD_some]
  rw [← e]
theorem d19_0 : decode method_2_code 0 = .ok (.iload_n 0, 1) := by decide +kernel
theorem d19_1 : decode method_2_code 1 = .ok (.bipush 26, 2) := by decide +kernel
theorem d19_3 : decode method_2_code 3 = .ok (.if_icmp .ge 11, 3) := by decide +kernel
theorem d19_6 : decode method_2_code 6 = .ok (.bipush 65, 2) := by decide +kernel
theorem d19_8 : decode method_2_code 8 = .ok (.iload_n 0, 1) := by decide +kernel
theorem d19_9 : decode method_2_code 9 = .ok (.iadd, 1) := by decide +kernel
theorem d19_10 : decode method_2_code 10 = .ok (.i2c, 1) := by decide +kernel
theorem d19_11 : decode method_2_code 11 = .ok (.goto 11, 3) := by decide +kernel
theorem d19_22 : decode method_2_code 22 = .ok (.ireturn, 1) := by decide +kernel
theorem d19_14 : decode method_2_code 14 = .ok (.bipush 50, 2) := by decide +kernel
theorem d19_16 : decode method_2_code 16 = .ok (.iload_n 0, 1) := by decide +kernel
theorem d19_17 : decode method_2_code 17 = .ok (.bipush 26, 2) := by decide +kernel
theorem d19_19 : decode method_2_code 19 = .ok (.isub, 1) := by decide +kernel
theorem d19_20 : decode method_2_code 20 = .ok (.iadd, 1) := by decide +kernel
theorem d19_21 : decode method_2_code 21 = .ok (.i2c, 1) := by decide +kernel
theorem pn_com_example_grawl_grawl_util_Base32EncodePinLaw : plainName "com/example/grawl/grawl/util/Base32EncodePinLaw" = true := by first | (simp [plainName, overriddenIn]; done) | decide +kernel
set_option maxRecDepth 65536 in
set_option maxHeartbeats 40000000 in
theorem rmAl (l : Launch) (Z : State) (a0 : Array Value) (hw : ∀ d ∈ tables_1, d.before a0 Z = true) (d : Int32) (h0 : Heap) (n0 : Nat) (Z0 : n0 ≤ h0.size) (hd0 : 0 ≤ d.toInt) (hd1 : d.toInt < 32) :
    OwM l Z (⟨"com/example/grawl/grawl/util/Base32EncodePinLaw", "alpha", "(I)C"⟩ : MethodName) method_2_code 1 (some .char) ({ frames := 0, cells := 0, slots := 0, locals := 0 } : Room) n0 #[(.int d)] h0 (fun v h => v = some (.int (own_al d)) ∧ h = h0) := by
  refine OwM.mk (plainFor_of_name pn_com_example_grawl_grawl_util_Base32EncodePinLaw) ?_
  intro p e s m below meth cD T hx hby hml hown hnm hret hlk hZ P
  have dc := @Jvm.hb cD _ hby
  refine OwG.cast (show entryFrame m #[(.int d)] 1 = mkF m 0 #[.val (.int d)] [] from by first | (simp [entryFrame, mkF, argsToLocals, Value.category]; done) | rfl) ?_
  refine OwG.ac (mkF m 3 #[.val (.int d)] [(.int 26), (.int d)]) (fun tQ kQ => ?_) ?_
  · refine XS.iloadN P.here hx rfl (dc d19_0) rfl ?_
    exact XS.bipush P.here hx rfl (dc d19_1) kQ
  have own_b := own_up (own_al_bd hd0 hd1)
  by_cases hc3 : d < (26 : Int32)
  ·skip
   refine OwG.ac (mkF m 22 #[.val (.int d)] [(.int (((65 : Int32) + d).toUInt32.toUInt16.toUInt32.toInt32))]) (fun tQ kQ => ?_) ?_
   · refine XS.icmpNo P.here hx rfl (dc d19_3) rfl (tlt hc3).2.1 ?_
     refine XS.bipush P.here hx rfl (dc d19_6) ?_
     refine XS.iloadN P.here hx rfl (dc d19_8) rfl ?_
     refine XS.iadd P.here hx rfl (dc d19_9) rfl ?_
     refine XS.i2c P.here hx rfl (dc d19_10) rfl ?_
     exact XS.goto P.here hx rfl (pc0 := 11) (pc' := 22) rfl (dc d19_11) (by decide) (by decide) kQ
   exact P.retN hx hlk (t := .char) hret (by simp) (dc d19_22) (own_le rfl) (own_le rfl) ⟨by have q := own_narc2 own_b.1 own_b.2; unfold own_al at q ⊢; rw [if_pos hc3] at q ⊢; rw [q], rfl⟩
  ·skip
   refine OwG.ac (mkF m 22 #[.val (.int d)] [(.int (((50 : Int32) + (d - (26 : Int32))).toUInt32.toUInt16.toUInt32.toInt32))]) (fun tQ kQ => ?_) ?_
   · refine XS.icmpYes P.here hx rfl (pc0 := 3) (pc' := 14) rfl (dc d19_3) rfl (flt hc3).2.1 (by decide) (by decide) ?_
     refine XS.bipush P.here hx rfl (dc d19_14) ?_
     refine XS.iloadN P.here hx rfl (dc d19_16) rfl ?_
     refine XS.bipush P.here hx rfl (dc d19_17) ?_
     refine XS.isub P.here hx rfl (dc d19_19) rfl ?_
     refine XS.iadd P.here hx rfl (dc d19_20) rfl ?_
     exact XS.i2c P.here hx rfl (dc d19_21) rfl kQ
   exact P.retN hx hlk (t := .char) hret (by simp) (dc d19_22) (own_le rfl) (own_le rfl) ⟨by have q := own_narc2 own_b.1 own_b.2; unfold own_al at q ⊢; rw [if_neg hc3] at q ⊢; rw [q], rfl⟩
theorem own_ixb (x : Int64) : 0 ≤ ((x &&& (31 : Int64)).toInt32).toInt ∧ ((x &&& (31 : Int64)).toInt32).toInt < 32 := by
  have h := c_maskL x 31 5 (by decide) (by decide)
  have r := c_l2i (x &&& 31)
  have g := rng32 ((x &&& (31 : Int64)).toInt32)
  omega
def own_sy (q : Int64) (i cn : Int32) : Int32 := if i < cn then own_al ((((q.toUInt64 >>> (((35 : Int32) - ((5 : Int32) * i)) &&& 0x3f).toInt64.toUInt64).toInt64) &&& (31 : Int64)).toInt32) else 61
theorem own_syb (q : Int64) (i cn : Int32) : ¬ own_sy q i cn < 0 ∧ ¬ (255 : Int32) < own_sy q i cn := by
  unfold own_sy
  split
  · exact own_al_bd (own_ixb _).1 (own_ixb _).2
  · decide
theorem d18_0 : decode method_3_code 0 = .ok (.iload_n 2, 1) := by decide +kernel
theorem d18_1 : decode method_3_code 1 = .ok (.iload_n 3, 1) := by decide +kernel
theorem d18_2 : decode method_3_code 2 = .ok (.if_icmp .ge 22, 3) := by decide +kernel
theorem d18_5 : decode method_3_code 5 = .ok (.lload_n 0, 1) := by decide +kernel
theorem d18_6 : decode method_3_code 6 = .ok (.bipush 35, 2) := by decide +kernel
theorem d18_8 : decode method_3_code 8 = .ok (.iconst 5, 1) := by decide +kernel
theorem d18_9 : decode method_3_code 9 = .ok (.iload_n 2, 1) := by decide +kernel
theorem d18_10 : decode method_3_code 10 = .ok (.imul, 1) := by decide +kernel
theorem d18_11 : decode method_3_code 11 = .ok (.isub, 1) := by decide +kernel
theorem d18_12 : decode method_3_code 12 = .ok (.lushr, 1) := by decide +kernel
theorem d18_13 : decode method_3_code 13 = .ok (.ldc2_w 7, 3) := by decide +kernel
theorem d18_16 : decode method_3_code 16 = .ok (.land, 1) := by decide +kernel
theorem d18_17 : decode method_3_code 17 = .ok (.l2i, 1) := by decide +kernel
theorem d18_18 : decode method_3_code 18 = .ok (.invokestatic 9, 3) := by decide +kernel
theorem pd__I_C : parseMethodDescriptor "(I)C" = some ⟨[.int], some .char⟩ := by decide +kernel
theorem d18_21 : decode method_3_code 21 = .ok (.goto 5, 3) := by decide +kernel
theorem d18_26 : decode method_3_code 26 = .ok (.ireturn, 1) := by decide +kernel
theorem d18_24 : decode method_3_code 24 = .ok (.bipush 61, 2) := by decide +kernel
set_option maxRecDepth 65536 in
set_option maxHeartbeats 40000000 in
theorem rmSy (l : Launch) (Z : State) (a0 : Array Value) (hw : ∀ d ∈ tables_1, d.before a0 Z = true) (q : Int64) (i cn : Int32) (h0 : Heap) (n0 : Nat) (Z0 : n0 ≤ h0.size)  :
    OwM l Z (⟨"com/example/grawl/grawl/util/Base32EncodePinLaw", "sym", "(JII)C"⟩ : MethodName) method_3_code 4 (some .char) ({ frames := 1, cells := 0, slots := 0, locals := 12 } : Room) n0 #[(.long q), (.int i), (.int cn)] h0 (fun v h => v = some (.int (own_sy q i cn)) ∧ h = h0) := by
  refine OwM.mk (plainFor_of_name pn_com_example_grawl_grawl_util_Base32EncodePinLaw) ?_
  intro p e s m below meth cD T hx hby hml hown hnm hret hlk hZ P
  have dc := @Jvm.hb cD _ hby
  refine OwG.cast (show entryFrame m #[(.long q), (.int i), (.int cn)] 4 = mkF m 0 #[.val (.long q), .second, .val (.int i), .val (.int cn)] [] from by first | (simp [entryFrame, mkF, argsToLocals, Value.category]; done) | rfl) ?_
  refine OwG.ac (mkF m 2 #[.val (.long q), .second, .val (.int i), .val (.int cn)] [(.int cn), (.int i)]) (fun tQ kQ => ?_) ?_
  · refine XS.iloadN P.here hx rfl (dc d18_0) rfl ?_
    exact XS.iloadN P.here hx rfl (dc d18_1) rfl kQ
  by_cases hlt : i < cn
  ·skip
   refine OwG.ac (mkF m 13 #[.val (.long q), .second, .val (.int i), .val (.int cn)] [(.long ((q.toUInt64 >>> (((35 : Int32) - ((5 : Int32) * i)) &&& 0x3f).toInt64.toUInt64).toInt64))]) (fun tQ kQ => ?_) ?_
   · refine XS.icmpNo P.here hx rfl (dc d18_2) rfl (tlt hlt).2.1 ?_
     refine XS.lloadN P.here hx rfl (dc d18_5) rfl ?_
     refine XS.bipush P.here hx rfl (dc d18_6) ?_
     refine XS.iconst P.here hx rfl (dc d18_8) ?_
     refine XS.iloadN P.here hx rfl (dc d18_9) rfl ?_
     refine XS.imul P.here hx rfl (dc d18_10) rfl ?_
     refine XS.isub P.here hx rfl (dc d18_11) rfl ?_
     exact XS.lushr P.here hx rfl (dc d18_12) rfl kQ
   obtain ⟨own_L, own_X, own_rest⟩ := id P
   refine OwG.ac (mkF m 18 #[.val (.long q), .second, .val (.int i), .val (.int cn)] [(.int ((((q.toUInt64 >>> (((35 : Int32) - ((5 : Int32) * i)) &&& 0x3f).toInt64.toUInt64).toInt64) &&& (31 : Int64)).toInt32))]) (fun tQ kQ => ?_) ?_
   · refine own_X.ldc2Long hx hown (mvT hZ (own_w hw 114 rfl)) (g := (mkF m 13 #[.val (.long q), .second, .val (.int i), .val (.int cn)] [(.long ((q.toUInt64 >>> (((35 : Int32) - ((5 : Int32) * i)) &&& 0x3f).toInt64.toUInt64).toInt64))])) rfl (dc d18_13) _ ?_
     refine XS.land P.here hx rfl (dc d18_16) rfl ?_
     exact XS.l2i P.here hx rfl (dc d18_17) rfl kQ
   have own_b := own_ixb ((q.toUInt64 >>> (((35 : Int32) - ((5 : Int32) * i)) &&& 0x3f).toInt64.toUInt64).toInt64)
   refine P.stat hx hZ (y := (⟨"com/example/grawl/grawl/util/Base32EncodePinLaw", "alpha", "(I)C"⟩ : MethodName)) hown (own_w hw 115 rfl) (own_w hw 116 rfl) (own_w hw 112 rfl) (own_w hw 117 rfl) (by decide) (OwM.back (W := 0) (rmAl l Z a0 hw ((((q.toUInt64 >>> (((35 : Int32) - ((5 : Int32) * i)) &&& 0x3f).toInt64.toUInt64).toInt64) &&& (31 : Int64)).toInt32) h0 n0 Z0 own_b.1 own_b.2) hZ (own_w hw 117 rfl) (own_w hw 112 rfl) (own_le rfl) (own_le rfl)) (fun _ _ _ q => q.2) rfl (by rw [hml]; rfl) (argsL := [(.int ((((q.toUInt64 >>> (((35 : Int32) - ((5 : Int32) * i)) &&& 0x3f).toInt64.toUInt64).toInt64) &&& (31 : Int64)).toInt32))]) (rest := []) (lenOf pd__I_C rfl) rfl (own_le rfl) (dc d18_18) rfl (own_le rfl) (own_le rfl) fun T own_v own_L h1 own_e P own_q => ?_
   obtain ⟨⟨rfl, own_hh⟩, -⟩ := own_q
   rw [own_hh] at P
   clear own_e own_hh
   show OwG p e below s _ _ _ _ T (mkF m 21 #[.val (.long q), .second, .val (.int i), .val (.int cn)] [(.int (own_al ((((q.toUInt64 >>> (((35 : Int32) - ((5 : Int32) * i)) &&& 0x3f).toInt64.toUInt64).toInt64) &&& (31 : Int64)).toInt32)))])
   refine OwG.ac (mkF m 26 #[.val (.long q), .second, .val (.int i), .val (.int cn)] [(.int (own_al ((((q.toUInt64 >>> (((35 : Int32) - ((5 : Int32) * i)) &&& 0x3f).toInt64.toUInt64).toInt64) &&& (31 : Int64)).toInt32)))]) (fun tQ kQ => ?_) ?_
   · exact XS.goto P.here hx rfl (pc0 := 21) (pc' := 26) rfl (dc d18_21) (by decide) (by decide) kQ
   have own_c := own_up (own_al_bd own_b.1 own_b.2)
   exact P.retN hx hlk (t := .char) hret (by simp) (dc d18_26) (own_le rfl) (own_le rfl) ⟨by rw [own_narc own_c.1 own_c.2]; unfold own_sy; rw [if_pos hlt], rfl⟩
  ·skip
   refine OwG.ac (mkF m 26 #[.val (.long q), .second, .val (.int i), .val (.int cn)] [(.int 61)]) (fun tQ kQ => ?_) ?_
   · refine XS.icmpYes P.here hx rfl (pc0 := 2) (pc' := 24) rfl (dc d18_2) rfl (flt hlt).2.1 (by decide) (by decide) ?_
     exact XS.bipush P.here hx rfl (dc d18_24) kQ
   exact P.retN hx hlk (t := .char) hret (by simp) (dc d18_26) (own_le rfl) (own_le rfl) ⟨by unfold own_sy; rw [if_neg hlt]; rfl, rfl⟩
theorem d1_0 : decode jdk_29_method_69_code 0 = .ok (.iload_n 0, 1) := by decide +kernel
theorem d1_1 : decode jdk_29_method_69_code 1 = .ok (.iload_n 1, 1) := by decide +kernel
theorem d1_2 : decode jdk_29_method_69_code 2 = .ok (.if_icmp .gt 7, 3) := by decide +kernel
theorem d1_9 : decode jdk_29_method_69_code 9 = .ok (.iload_n 1, 1) := by decide +kernel
theorem d1_10 : decode jdk_29_method_69_code 10 = .ok (.ireturn, 1) := by decide +kernel
theorem d1_5 : decode jdk_29_method_69_code 5 = .ok (.iload_n 0, 1) := by decide +kernel
theorem d1_6 : decode jdk_29_method_69_code 6 = .ok (.goto 4, 3) := by decide +kernel
set_option maxRecDepth 65536 in
set_option maxHeartbeats 40000000 in
theorem rmMin (l : Launch) (Z : State) (a0 : Array Value) (hw : ∀ d ∈ tables_1, d.before a0 Z = true) (x y : Int32) (h0 : Heap) (n0 : Nat) (Z0 : n0 ≤ h0.size)  :
    OwM l Z (⟨"java/lang/Math", "min", "(II)I"⟩ : MethodName) jdk_29_method_69_code 2 (some .int) ({ frames := 0, cells := 0, slots := 0, locals := 0 } : Room) n0 #[(.int x), (.int y)] h0 (fun v h => v = some (.int (if y < x then y else x)) ∧ h = h0) := by
  refine OwM.mk (Jvm.Free.JP.mathPlain rfl (by decide +kernel)) ?_
  intro p e s m below meth cD T hx hby hml hown hnm hret hlk hZ P
  have dc := @Jvm.hb cD _ hby
  refine OwG.cast (show entryFrame m #[(.int x), (.int y)] 2 = mkF m 0 #[.val (.int x), .val (.int y)] [] from by first | (simp [entryFrame, mkF, argsToLocals, Value.category]; done) | rfl) ?_
  refine OwG.ac (mkF m 2 #[.val (.int x), .val (.int y)] [(.int y), (.int x)]) (fun tQ kQ => ?_) ?_
  · refine XS.iloadN P.here hx rfl (dc d1_0) rfl ?_
    exact XS.iloadN P.here hx rfl (dc d1_1) rfl kQ
  by_cases hc2 : y < x
  ·skip
   refine OwG.ac (mkF m 10 #[.val (.int x), .val (.int y)] [(.int y)]) (fun tQ kQ => ?_) ?_
   · refine XS.icmpYes P.here hx rfl (pc0 := 2) (pc' := 9) rfl (dc d1_2) rfl (tlt hc2).2.2.1 (by decide) (by decide) ?_
     exact XS.iloadN P.here hx rfl (dc d1_9) rfl kQ
   exact P.retI hx hlk hret (dc d1_10) (own_le rfl) (own_le rfl) ⟨by rw [if_pos hc2], rfl⟩
  ·skip
   refine OwG.ac (mkF m 10 #[.val (.int x), .val (.int y)] [(.int x)]) (fun tQ kQ => ?_) ?_
   · refine XS.icmpNo P.here hx rfl (dc d1_2) rfl (flt hc2).2.2.1 ?_
     refine XS.iloadN P.here hx rfl (dc d1_5) rfl ?_
     exact XS.goto P.here hx rfl (pc0 := 6) (pc' := 10) rfl (dc d1_6) (by decide) (by decide) kQ
   exact P.retI hx hlk hret (dc d1_10) (own_le rfl) (own_le rfl) ⟨by rw [if_neg hc2], rfl⟩
theorem d4_0 : decode jdk_68_method_2_code 0 = .ok (.aload_n 0, 1) := by decide +kernel
theorem d4_1 : decode jdk_68_method_2_code 1 = .ok (.invokespecial 3, 3) := by decide +kernel
theorem d4_4 : decode jdk_68_method_2_code 4 = .ok (.getstatic 18, 3) := by decide +kernel
theorem d4_7 : decode jdk_68_method_2_code 7 = .ok (.ifCond .eq 18, 3) := by decide +kernel
theorem d4_10 : decode jdk_68_method_2_code 10 = .ok (.aload_n 0, 1) := by decide +kernel
theorem d4_11 : decode jdk_68_method_2_code 11 = .ok (.iload_n 1, 1) := by decide +kernel
theorem d4_12 : decode jdk_68_method_2_code 12 = .ok (.newarray .byte, 2) := by decide +kernel
theorem d4_14 : decode jdk_68_method_2_code 14 = .ok (.putfield 15, 3) := by decide +kernel
theorem d4_17 : decode jdk_68_method_2_code 17 = .ok (.aload_n 0, 1) := by decide +kernel
theorem d4_18 : decode jdk_68_method_2_code 18 = .ok (.iconst 0, 1) := by decide +kernel
theorem d4_19 : decode jdk_68_method_2_code 19 = .ok (.putfield 22, 3) := by decide +kernel
theorem d4_22 : decode jdk_68_method_2_code 22 = .ok (.goto 16, 3) := by decide +kernel
theorem d4_38 : decode jdk_68_method_2_code 38 = .ok (.return_, 1) := by decide +kernel
theorem pn_java_lang_AbstractStringBuilder : plainName "java/lang/AbstractStringBuilder" = true := by first | (simp [plainName, overriddenIn]; done) | decide +kernel
set_option maxRecDepth 65536 in
set_option maxHeartbeats 40000000 in
theorem rmAi (l : Launch) (Z : State) (a0 : Array Value) (hw : ∀ d ∈ tables_1, d.before a0 Z = true) (sb : Addr) (N : Nat) (zC : Int32) (h0 : Heap) (n0 : Nat) (Z0 : n0 ≤ h0.size) (S2 : Sta Z Z.heap "java/lang/String" "COMPACT_STRINGS" "Z" (.int zC)) (hzC : ¬ zC = 0) (OL : Old Z n0 h0) (hN : N ≤ 4000) (g_sb : n0 ≤ sb) (E_sb : Exa Z h0 sb "java/lang/StringBuilder") (F_value_sb : Fld Z h0 sb "java/lang/AbstractStringBuilder" "value" "[B" .null) (F_coder_sb : Fld Z h0 sb "java/lang/AbstractStringBuilder" "coder" "B" (.int 0)) (F_count_sb : Fld Z h0 sb "java/lang/AbstractStringBuilder" "count" "I" (.int 0)) :
    OwM l Z (⟨"java/lang/AbstractStringBuilder", "<init>", "(I)V"⟩ : MethodName) jdk_68_method_2_code 2 none ({ frames := 1, cells := 1, slots := N, locals := 12 } : Room) n0 #[(.ref sb), (.int (Int32.ofNat N))] h0 (fun v h => v = none ∧ Keep h0 h [sb] ∧ ∃ (t : Addr) (kt : ClassId), t = h0.size ∧ Fld Z h sb "java/lang/AbstractStringBuilder" "value" "[B" (.ref t) ∧ Fld Z h sb "java/lang/AbstractStringBuilder" "coder" "B" (.int 0) ∧ Fld Z h sb "java/lang/AbstractStringBuilder" "count" "I" (.int 0) ∧ Arv Z h t kt .byte (Int32.ofNat N) (List.replicate N (.int 0)) (.int 0) ∧ Exa Z h t "[B") := by
  refine OwM.mk (plainFor_of_name pn_java_lang_AbstractStringBuilder) ?_
  intro p e s m below meth cD T hx hby hml hown hnm hret hlk hZ P
  have dc := @Jvm.hb cD _ hby
  refine OwG.cast (show entryFrame m #[(.ref sb), (.int (Int32.ofNat N))] 2 = mkF m 0 #[.val (.ref sb), .val (.int (Int32.ofNat N))] [] from by first | (simp [entryFrame, mkF, argsToLocals, Value.category]; done) | rfl) ?_
  have KP := Keep.refl h0 [sb]
  refine OwG.ac (mkF m 1 #[.val (.ref sb), .val (.int (Int32.ofNat N))] [(.ref sb)]) (fun tQ kQ => ?_) ?_
  · exact XS.aloadN P.here hx rfl (dc d4_0) rfl rfl kQ
  refine P.initO hx hZ hown (own_w hw 23 rfl) (own_w hw 24 rfl) (own_w hw 25 rfl) rfl (by rw [hml]; rfl) rfl (dc d4_1) (own_le rfl) (W := 0) (own_le rfl) (own_le rfl) fun T P => ?_
  show OwG p e below s _ _ _ _ T (mkF m 4 #[.val (.ref sb), .val (.int (Int32.ofNat N))] [])
  refine P.getS hx hZ hown (host := "") (Or.inl (own_w hw 26 rfl)) Via.refl (S2.ext OL.2) rfl (dc d4_4) fun T P => ?_
  show OwG p e below s _ _ _ _ T (mkF m 7 #[.val (.ref sb), .val (.int (Int32.ofNat N))] [(.int zC)])
  refine OwG.ac (mkF m 12 #[.val (.ref sb), .val (.int (Int32.ofNat N))] [(.int (Int32.ofNat N)), (.ref sb)]) (fun tQ kQ => ?_) ?_
  · refine XS.ifNo P.here hx rfl (dc d4_7) rfl ((if0 _ _).trans (feq hzC).1) ?_
    refine XS.aloadN P.here hx rfl (dc d4_10) rfl rfl ?_
    exact XS.iloadN P.here hx rfl (dc d4_11) rfl kQ
  refine P.newPE hx hZ (own_w hw 2 rfl) rfl (dc d4_12) rfl (own_nn (by omega)) (cap := N) (Nat.le_of_eq (own_tc (by omega))) (by omega) (by first | omega | (dsimp only [room_1] <;> omega)) (by first | omega | (dsimp only [room_1] <;> omega)) (ad := "[B") (by decide) fun T h1 t kt gt P E V_t E_t => ?_
  have ne_sb_t : sb ≠ t := Nat.ne_of_lt (Nat.lt_of_lt_of_le E_sb.lt (Nat.le_of_eq gt.symm))
  have ne_t_sb := Ne.symm ne_sb_t
  have g_t : n0 ≤ t := Nat.le_trans Z0 (Nat.le_of_eq gt.symm)
  have sz_t : h0.size ≤ t := Nat.le_trans KP.1 (Nat.le_of_eq gt.symm)
  replace E_sb := E_sb.ext E
  replace F_value_sb := F_value_sb.ext E
  replace F_coder_sb := F_coder_sb.ext E
  replace F_count_sb := F_count_sb.ext E
  replace Z0 := Nat.le_trans Z0 E.1
  replace OL := OL.ext E
  replace KP := KP.ext E
  clear E
  replace V_t : Arv Z h1 t kt .byte (Int32.ofNat N) (List.replicate N (.int 0)) (.int 0) := V_t.pad (pad_rep [] (.int 0) N)
  show OwG p e below s _ _ _ _ T (mkF m 14 #[.val (.ref sb), .val (.int (Int32.ofNat N))] [(.ref t), (.ref sb)])
  refine P.putF hx hZ hown (host := "") (Or.inl (own_w hw 28 rfl)) Via.refl F_value_sb E_sb (Or.inl (own_w hw 29 rfl)) (own_w hw 12 rfl) (ty := (.array .byte)) (by decide) rfl rfl rfl rfl (dc d4_14) g_sb fun T h2 P W => ?_
  replace E_sb := E_sb.wr W
  replace F_value_sb := F_value_sb.same W
  replace F_coder_sb := F_coder_sb.other W (Or.inr (slot_ne (Or.inl (own_w hw 31 rfl)) (Or.inl (own_w hw 29 rfl)) (by decide) (t := .byte) (t' := (.array .byte)) (by decide) (by decide)))
  replace F_count_sb := F_count_sb.other W (Or.inr (slot_ne (Or.inl (own_w hw 45 rfl)) (Or.inl (own_w hw 29 rfl)) (by decide) (t := .int) (t' := (.array .byte)) (by decide) (by decide)))
  replace E_t := E_t.wr W
  replace V_t := V_t.other W ne_t_sb
  replace Z0 := Nat.le_trans Z0 (Keep.of_wr W).1
  replace OL := OL.wr W g_sb
  replace KP := KP.wr W (Or.inl (List.mem_of_getElem? (i := 0) rfl))
  clear W
  show OwG p e below s _ _ _ _ T (mkF m 17 #[.val (.ref sb), .val (.int (Int32.ofNat N))] [])
  refine OwG.ac (mkF m 19 #[.val (.ref sb), .val (.int (Int32.ofNat N))] [(.int 0), (.ref sb)]) (fun tQ kQ => ?_) ?_
  · refine XS.aloadN P.here hx rfl (dc d4_17) rfl rfl ?_
    exact XS.iconst P.here hx rfl (dc d4_18) kQ
  refine P.putFN hx hZ hown (own_w hw 30 rfl) Via.refl F_coder_sb E_sb (Or.inl (own_w hw 31 rfl)) (own_w hw 12 rfl) (ty := .byte) (v' := (.int 0)) (by decide) rfl rfl rfl rfl (dc d4_19) g_sb fun T h3 P W => ?_
  replace E_sb := E_sb.wr W
  replace F_value_sb := F_value_sb.other W (Or.inr (slot_ne (Or.inl (own_w hw 29 rfl)) (Or.inl (own_w hw 31 rfl)) (by decide) (t := (.array .byte)) (t' := .byte) (by decide) (by decide)))
  replace F_coder_sb := F_coder_sb.same W
  replace F_count_sb := F_count_sb.other W (Or.inr (slot_ne (Or.inl (own_w hw 45 rfl)) (Or.inl (own_w hw 31 rfl)) (by decide) (t := .int) (t' := .byte) (by decide) (by decide)))
  replace E_t := E_t.wr W
  replace V_t := V_t.other W ne_t_sb
  replace Z0 := Nat.le_trans Z0 (Keep.of_wr W).1
  replace OL := OL.wr W g_sb
  replace KP := KP.wr W (Or.inl (List.mem_of_getElem? (i := 0) rfl))
  clear W
  show OwG p e below s _ _ _ _ T (mkF m 22 #[.val (.ref sb), .val (.int (Int32.ofNat N))] [])
  refine OwG.ac (mkF m 38 #[.val (.ref sb), .val (.int (Int32.ofNat N))] []) (fun tQ kQ => ?_) ?_
  · exact XS.goto P.here hx rfl (pc0 := 22) (pc' := 38) rfl (dc d4_22) (by decide) (by decide) kQ
  exact P.retV hx hlk hret (dc d4_38) (by first | omega | (dsimp only [room_1] <;> omega)) (by first | omega | (dsimp only [room_1] <;> omega)) ⟨rfl, KP, t, kt, gt, F_value_sb, F_coder_sb, F_count_sb, V_t, E_t⟩
theorem d3_0 : decode jdk_67_method_2_code 0 = .ok (.aload_n 0, 1) := by decide +kernel
theorem d3_1 : decode jdk_67_method_2_code 1 = .ok (.iload_n 1, 1) := by decide +kernel
theorem d3_2 : decode jdk_67_method_2_code 2 = .ok (.invokespecial 1, 3) := by decide +kernel
theorem pd__I_V : parseMethodDescriptor "(I)V" = some ⟨[.int], none⟩ := by decide +kernel
theorem d3_5 : decode jdk_67_method_2_code 5 = .ok (.return_, 1) := by decide +kernel
theorem pn_java_lang_StringBuilder : plainName "java/lang/StringBuilder" = true := by first | (simp [plainName, overriddenIn]; done) | decide +kernel
set_option maxRecDepth 65536 in
set_option maxHeartbeats 40000000 in
theorem rmSi (l : Launch) (Z : State) (a0 : Array Value) (hw : ∀ d ∈ tables_1, d.before a0 Z = true) (sb : Addr) (N : Nat) (zC : Int32) (h0 : Heap) (n0 : Nat) (Z0 : n0 ≤ h0.size) (S2 : Sta Z Z.heap "java/lang/String" "COMPACT_STRINGS" "Z" (.int zC)) (hzC : ¬ zC = 0) (OL : Old Z n0 h0) (hN : N ≤ 4000) (g_sb : n0 ≤ sb) (E_sb : Exa Z h0 sb "java/lang/StringBuilder") (F_value_sb : Fld Z h0 sb "java/lang/AbstractStringBuilder" "value" "[B" .null) (F_coder_sb : Fld Z h0 sb "java/lang/AbstractStringBuilder" "coder" "B" (.int 0)) (F_count_sb : Fld Z h0 sb "java/lang/AbstractStringBuilder" "count" "I" (.int 0)) :
    OwM l Z (⟨"java/lang/StringBuilder", "<init>", "(I)V"⟩ : MethodName) jdk_67_method_2_code 2 none ({ frames := 2, cells := 1, slots := N, locals := 26 } : Room) n0 #[(.ref sb), (.int (Int32.ofNat N))] h0 (fun v h => v = none ∧ Keep h0 h [sb] ∧ ∃ (t : Addr) (kt : ClassId), t = h0.size ∧ Fld Z h sb "java/lang/AbstractStringBuilder" "value" "[B" (.ref t) ∧ Fld Z h sb "java/lang/AbstractStringBuilder" "coder" "B" (.int 0) ∧ Fld Z h sb "java/lang/AbstractStringBuilder" "count" "I" (.int 0) ∧ Arv Z h t kt .byte (Int32.ofNat N) (List.replicate N (.int 0)) (.int 0) ∧ Exa Z h t "[B") := by
  refine OwM.mk (plainFor_of_name pn_java_lang_StringBuilder) ?_
  intro p e s m below meth cD T hx hby hml hown hnm hret hlk hZ P
  have dc := @Jvm.hb cD _ hby
  refine OwG.cast (show entryFrame m #[(.ref sb), (.int (Int32.ofNat N))] 2 = mkF m 0 #[.val (.ref sb), .val (.int (Int32.ofNat N))] [] from by first | (simp [entryFrame, mkF, argsToLocals, Value.category]; done) | rfl) ?_
  refine OwG.ac (mkF m 2 #[.val (.ref sb), .val (.int (Int32.ofNat N))] [(.int (Int32.ofNat N)), (.ref sb)]) (fun tQ kQ => ?_) ?_
  · refine XS.aloadN P.here hx rfl (dc d3_0) rfl rfl ?_
    exact XS.iloadN P.here hx rfl (dc d3_1) rfl kQ
  refine P.special hx hZ (y := (⟨"java/lang/AbstractStringBuilder", "<init>", "(I)V"⟩ : MethodName)) rfl hown (own_w hw 17 rfl) (own_w hw 18 rfl) (own_w hw 22 rfl) (by decide) (OwM.back (W := 0) (rmAi l Z a0 hw sb N zC h0 n0 Z0 S2 hzC OL hN g_sb E_sb F_value_sb F_coder_sb F_count_sb) hZ (own_w hw 22 rfl) (own_w hw 21 rfl) (own_le rfl) (own_le rfl)) (fun _ _ _ q => q.2) rfl (by rw [hml]; rfl) (a := sb) (argsL := [(.int (Int32.ofNat N))]) (rest := []) (lenOf pd__I_V rfl) rfl (own_le rfl) (dc d3_2) rfl (by first | omega | (dsimp only [room_1] <;> omega)) (by first | omega | (dsimp only [room_1] <;> omega)) fun T own_v own_L h1 own_e P own_q => ?_
  obtain ⟨⟨rfl, own_r⟩, -⟩ := own_q
  show OwG p e below s _ _ _ _ T (mkF m 5 #[.val (.ref sb), .val (.int (Int32.ofNat N))] [])
  exact P.retV hx hlk hret (dc d3_5) (by first | omega | (dsimp only [room_1] <;> omega)) (by first | omega | (dsimp only [room_1] <;> omega)) ⟨rfl, own_r⟩
theorem own_shr0 (x : Int32) : x >>> ((0 : Int32) &&& 31) = x := StrChars.shr0 x
theorem own_subn {k N : Nat} (h : k ≤ N) (hN : N ≤ 4000) : ¬ (0 : Int32) < Int32.ofNat k - Int32.ofNat N := by
  have q := c_isub (Int32.ofNat k) (Int32.ofNat N)
  have r := rng32 (Int32.ofNat k - Int32.ofNat N)
  rw [own_ti (by omega), own_ti (by omega)] at q
  rw [Int32.lt_iff_toInt_lt, show (0 : Int32).toInt = 0 from rfl]; omega
theorem d8_0 : decode jdk_68_method_9_code 0 = .ok (.aload_n 0, 1) := by decide +kernel
theorem d8_1 : decode jdk_68_method_9_code 1 = .ok (.getfield 15, 3) := by decide +kernel
theorem d8_4 : decode jdk_68_method_9_code 4 = .ok (.arraylength, 1) := by decide +kernel
theorem d8_5 : decode jdk_68_method_9_code 5 = .ok (.aload_n 0, 1) := by decide +kernel
theorem d8_6 : decode jdk_68_method_9_code 6 = .ok (.getfield 22, 3) := by decide +kernel
theorem d8_9 : decode jdk_68_method_9_code 9 = .ok (.ishr, 1) := by decide +kernel
theorem d8_10 : decode jdk_68_method_9_code 10 = .ok (.istore_n 2, 1) := by decide +kernel
theorem d8_11 : decode jdk_68_method_9_code 11 = .ok (.iload_n 1, 1) := by decide +kernel
theorem d8_12 : decode jdk_68_method_9_code 12 = .ok (.iload_n 2, 1) := by decide +kernel
theorem d8_13 : decode jdk_68_method_9_code 13 = .ok (.isub, 1) := by decide +kernel
theorem d8_14 : decode jdk_68_method_9_code 14 = .ok (.ifCond .le 24, 3) := by decide +kernel
theorem d8_38 : decode jdk_68_method_9_code 38 = .ok (.return_, 1) := by decide +kernel
set_option maxRecDepth 65536 in
set_option maxHeartbeats 40000000 in
theorem rmEn (l : Launch) (Z : State) (a0 : Array Value) (hw : ∀ d ∈ tables_1, d.before a0 Z = true) (sb t : Addr) (kt : ClassId) (N k c : Nat) (vs : List Value) (h0 : Heap) (n0 : Nat) (Z0 : n0 ≤ h0.size) (E_sb : Exa Z h0 sb "java/lang/StringBuilder") (F_value_sb : Fld Z h0 sb "java/lang/AbstractStringBuilder" "value" "[B" (.ref t)) (F_coder_sb : Fld Z h0 sb "java/lang/AbstractStringBuilder" "coder" "B" (.int 0)) (F_count_sb : Fld Z h0 sb "java/lang/AbstractStringBuilder" "count" "I" (.int (Int32.ofNat c))) (V_t : Arv Z h0 t kt .byte (Int32.ofNat N) vs (.int 0)) (hN : N ≤ 4000) (hk : k ≤ N) :
    OwM l Z (⟨"java/lang/AbstractStringBuilder", "ensureCapacityInternal", "(I)V"⟩ : MethodName) jdk_68_method_9_code 3 none ({ frames := 0, cells := 0, slots := 0, locals := 0 } : Room) n0 #[(.ref sb), (.int (Int32.ofNat k))] h0 (fun v h => v = none ∧ h = h0) := by
  refine OwM.mk (plainFor_of_name pn_java_lang_AbstractStringBuilder) ?_
  intro p e s m below meth cD T hx hby hml hown hnm hret hlk hZ P
  have dc := @Jvm.hb cD _ hby
  refine OwG.cast (show entryFrame m #[(.ref sb), (.int (Int32.ofNat k))] 3 = mkF m 0 #[.val (.ref sb), .val (.int (Int32.ofNat k)), .unset] [] from by first | (simp [entryFrame, mkF, argsToLocals, Value.category]; done) | rfl) ?_
  refine OwG.ac (mkF m 1 #[.val (.ref sb), .val (.int (Int32.ofNat k)), .unset] [(.ref sb)]) (fun tQ kQ => ?_) ?_
  · exact XS.aloadN P.here hx rfl (dc d8_0) rfl rfl kQ
  refine P.getF hx hZ hown (host := "") (Or.inl (own_w hw 28 rfl)) Via.refl F_value_sb rfl rfl (dc d8_1) fun T P => ?_
  show OwG p e below s _ _ _ _ T (mkF m 4 #[.val (.ref sb), .val (.int (Int32.ofNat k)), .unset] [(.ref t)])
  obtain ⟨own_cl, own_A, own_q1, own_S, own_M, own_H, own_U⟩ := id V_t
  obtain ⟨own_L, own_X, own_e, own_N⟩ := id P
  have own_Z := hZ
  refine OwG.ac (mkF m 6 #[.val (.ref sb), .val (.int (Int32.ofNat k)), .unset] [(.ref sb), (.int (Int32.ofNat N))]) (fun tQ kQ => ?_) ?_
  · refine own_X.arraylength hx (by rw [own_e]; exact own_A.1) (State.isArrayOf_alike own_Z.alike own_A.2.1) (g := (mkF m 4 #[.val (.ref sb), .val (.int (Int32.ofNat k)), .unset] [(.ref t)])) rfl rfl (dc d8_4) _ ?_
    rw [len_of own_S own_M]
    exact XS.aloadN P.here hx rfl (dc d8_5) rfl rfl kQ
  refine P.getF hx hZ hown (host := "") (Or.inl (own_w hw 30 rfl)) Via.refl F_coder_sb rfl rfl (dc d8_6) fun T P => ?_
  show OwG p e below s _ _ _ _ T (mkF m 9 #[.val (.ref sb), .val (.int (Int32.ofNat k)), .unset] [(.int 0), (.int (Int32.ofNat N))])
  refine OwG.ac (mkF m 10 #[.val (.ref sb), .val (.int (Int32.ofNat k)), .unset] [(.int ((Int32.ofNat N) >>> ((0 : Int32) &&& 31)))]) (fun tQ kQ => ?_) ?_
  · exact XS.ishr P.here hx rfl (dc d8_9) rfl kQ
  rw [show ((Int32.ofNat N) >>> ((0 : Int32) &&& 31)) = (Int32.ofNat N) from own_shr0 _]
  show OwG p e below s _ _ _ _ T (mkF m 10 #[.val (.ref sb), .val (.int (Int32.ofNat k)), .unset] [(.int (Int32.ofNat N))])
  refine OwG.ac (mkF m 38 #[.val (.ref sb), .val (.int (Int32.ofNat k)), .val (.int (Int32.ofNat N))] []) (fun tQ kQ => ?_) ?_
  · refine XS.istoreN P.here hx rfl (dc d8_10) rfl (l' := #[.val (.ref sb), .val (.int (Int32.ofNat k)), .val (.int (Int32.ofNat N))]) rfl ?_
    refine XS.iloadN P.here hx rfl (dc d8_11) rfl ?_
    refine XS.iloadN P.here hx rfl (dc d8_12) rfl ?_
    refine XS.isub P.here hx rfl (dc d8_13) rfl ?_
    exact XS.ifYes P.here hx rfl (pc0 := 14) (pc' := 38) rfl (dc d8_14) rfl ((if0 _ _).trans (flt (own_subn hk hN)).2.2.2) (by decide) (by decide) kQ
  exact P.retV hx hlk hret (dc d8_38) (own_le rfl) (own_le rfl) ⟨rfl, rfl⟩
theorem d9_0 : decode jdk_68_method_68_code 0 = .ok (.getstatic 18, 3) := by decide +kernel
theorem d9_3 : decode jdk_68_method_68_code 3 = .ok (.ifCond .eq 14, 3) := by decide +kernel
theorem d9_6 : decode jdk_68_method_68_code 6 = .ok (.aload_n 0, 1) := by decide +kernel
theorem d9_7 : decode jdk_68_method_68_code 7 = .ok (.getfield 22, 3) := by decide +kernel
theorem d9_10 : decode jdk_68_method_68_code 10 = .ok (.ifCond .ne 7, 3) := by decide +kernel
theorem d9_13 : decode jdk_68_method_68_code 13 = .ok (.iconst 1, 1) := by decide +kernel
theorem d9_14 : decode jdk_68_method_68_code 14 = .ok (.goto 4, 3) := by decide +kernel
theorem d9_18 : decode jdk_68_method_68_code 18 = .ok (.ireturn, 1) := by decide +kernel
set_option maxRecDepth 65536 in
set_option maxHeartbeats 40000000 in
theorem rmIl (l : Launch) (Z : State) (a0 : Array Value) (hw : ∀ d ∈ tables_1, d.before a0 Z = true) (sb : Addr) (zC : Int32) (h0 : Heap) (n0 : Nat) (Z0 : n0 ≤ h0.size) (S2 : Sta Z Z.heap "java/lang/String" "COMPACT_STRINGS" "Z" (.int zC)) (hzC : ¬ zC = 0) (OL : Old Z n0 h0) (F_coder_sb : Fld Z h0 sb "java/lang/AbstractStringBuilder" "coder" "B" (.int 0)) :
    OwM l Z (⟨"java/lang/AbstractStringBuilder", "isLatin1", "()Z"⟩ : MethodName) jdk_68_method_68_code 1 (some .boolean) ({ frames := 0, cells := 0, slots := 0, locals := 0 } : Room) n0 #[(.ref sb)] h0 (fun v h => v = some (.int 1) ∧ h = h0) := by
  refine OwM.mk (plainFor_of_name pn_java_lang_AbstractStringBuilder) ?_
  intro p e s m below meth cD T hx hby hml hown hnm hret hlk hZ P
  have dc := @Jvm.hb cD _ hby
  refine OwG.cast (show entryFrame m #[(.ref sb)] 1 = mkF m 0 #[.val (.ref sb)] [] from by first | (simp [entryFrame, mkF, argsToLocals, Value.category]; done) | rfl) ?_
  refine P.getS hx hZ hown (host := "") (Or.inl (own_w hw 26 rfl)) Via.refl (S2.ext OL.2) rfl (dc d9_0) fun T P => ?_
  show OwG p e below s _ _ _ _ T (mkF m 3 #[.val (.ref sb)] [(.int zC)])
  refine OwG.ac (mkF m 7 #[.val (.ref sb)] [(.ref sb)]) (fun tQ kQ => ?_) ?_
  · refine XS.ifNo P.here hx rfl (dc d9_3) rfl ((if0 _ _).trans (feq hzC).1) ?_
    exact XS.aloadN P.here hx rfl (dc d9_6) rfl rfl kQ
  refine P.getF hx hZ hown (host := "") (Or.inl (own_w hw 30 rfl)) Via.refl F_coder_sb rfl rfl (dc d9_7) fun T P => ?_
  show OwG p e below s _ _ _ _ T (mkF m 10 #[.val (.ref sb)] [(.int 0)])
  refine OwG.ac (mkF m 18 #[.val (.ref sb)] [(.int 1)]) (fun tQ kQ => ?_) ?_
  · refine XS.ifNo P.here hx rfl (dc d9_10) rfl ((if0 _ _).trans (teq rfl).2) ?_
    refine XS.iconst P.here hx rfl (dc d9_13) ?_
    exact XS.goto P.here hx rfl (pc0 := 14) (pc' := 18) rfl (dc d9_14) (by decide) (by decide) kQ
  exact P.retN hx hlk (t := .boolean) hret (by simp) (dc d9_18) (own_le rfl) (own_le rfl) ⟨rfl, rfl⟩
theorem d10_0 : decode jdk_43_method_3_code 0 = .ok (.iload_n 0, 1) := by decide +kernel
theorem d10_1 : decode jdk_43_method_3_code 1 = .ok (.sipush 255, 3) := by decide +kernel
theorem d10_4 : decode jdk_43_method_3_code 4 = .ok (.if_icmp .gt 7, 3) := by decide +kernel
theorem d10_7 : decode jdk_43_method_3_code 7 = .ok (.iconst 1, 1) := by decide +kernel
theorem d10_8 : decode jdk_43_method_3_code 8 = .ok (.goto 4, 3) := by decide +kernel
theorem d10_12 : decode jdk_43_method_3_code 12 = .ok (.ireturn, 1) := by decide +kernel
theorem pn_java_lang_StringLatin1 : plainName "java/lang/StringLatin1" = true := by first | (simp [plainName, overriddenIn]; done) | decide +kernel
set_option maxRecDepth 65536 in
set_option maxHeartbeats 40000000 in
theorem rmCe (l : Launch) (Z : State) (a0 : Array Value) (hw : ∀ d ∈ tables_1, d.before a0 Z = true) (c : Int32) (h0 : Heap) (n0 : Nat) (Z0 : n0 ≤ h0.size) (hc : ¬ c < 0 ∧ ¬ (255 : Int32) < c) :
    OwM l Z (⟨"java/lang/StringLatin1", "canEncode", "(C)Z"⟩ : MethodName) jdk_43_method_3_code 1 (some .boolean) ({ frames := 0, cells := 0, slots := 0, locals := 0 } : Room) n0 #[(.int c)] h0 (fun v h => v = some (.int 1) ∧ h = h0) := by
  refine OwM.mk (plainFor_of_name pn_java_lang_StringLatin1) ?_
  intro p e s m below meth cD T hx hby hml hown hnm hret hlk hZ P
  have dc := @Jvm.hb cD _ hby
  refine OwG.cast (show entryFrame m #[(.int c)] 1 = mkF m 0 #[.val (.int c)] [] from by first | (simp [entryFrame, mkF, argsToLocals, Value.category]; done) | rfl) ?_
  refine OwG.ac (mkF m 12 #[.val (.int c)] [(.int 1)]) (fun tQ kQ => ?_) ?_
  · refine XS.iloadN P.here hx rfl (dc d10_0) rfl ?_
    refine XS.sipush P.here hx rfl (dc d10_1) ?_
    refine XS.icmpNo P.here hx rfl (dc d10_4) rfl (flt hc.2).2.2.1 ?_
    refine XS.iconst P.here hx rfl (dc d10_7) ?_
    exact XS.goto P.here hx rfl (pc0 := 8) (pc' := 12) rfl (dc d10_8) (by decide) (by decide) kQ
  exact P.retN hx hlk (t := .boolean) hret (by simp) (dc d10_12) (own_le rfl) (own_le rfl) ⟨rfl, rfl⟩
theorem d12_0 : decode jdk_68_method_6_code 0 = .ok (.aload_n 0, 1) := by decide +kernel
theorem d12_1 : decode jdk_68_method_6_code 1 = .ok (.getfield 79, 3) := by decide +kernel
theorem d12_4 : decode jdk_68_method_6_code 4 = .ok (.ireturn, 1) := by decide +kernel
set_option maxRecDepth 65536 in
set_option maxHeartbeats 40000000 in
theorem rmLn (l : Launch) (Z : State) (a0 : Array Value) (hw : ∀ d ∈ tables_1, d.before a0 Z = true) (sb : Addr) (z : Int32) (h0 : Heap) (n0 : Nat) (Z0 : n0 ≤ h0.size) (F : Fld Z h0 sb "java/lang/AbstractStringBuilder" "count" "I" (.int z)) :
    OwM l Z (⟨"java/lang/AbstractStringBuilder", "length", "()I"⟩ : MethodName) jdk_68_method_6_code 1 (some .int) ({ frames := 0, cells := 0, slots := 0, locals := 0 } : Room) n0 #[(.ref sb)] h0 (fun v h => v = some (.int z) ∧ h = h0) := by
  refine OwM.mk (plainFor_of_name pn_java_lang_AbstractStringBuilder) ?_
  intro p e s m below meth cD T hx hby hml hown hnm hret hlk hZ P
  have dc := @Jvm.hb cD _ hby
  refine OwG.cast (show entryFrame m #[(.ref sb)] 1 = mkF m 0 #[.val (.ref sb)] [] from by first | (simp [entryFrame, mkF, argsToLocals, Value.category]; done) | rfl) ?_
  refine OwG.ac (mkF m 1 #[.val (.ref sb)] [(.ref sb)]) (fun tQ kQ => ?_) ?_
  · exact XS.aloadN P.here hx rfl (dc d12_0) rfl rfl kQ
  refine P.getF hx hZ hown (host := "") (Or.inl (own_w hw 44 rfl)) Via.refl F rfl rfl (dc d12_1) fun T P => ?_
  show OwG p e below s _ _ _ _ T (mkF m 4 #[.val (.ref sb)] [(.int z)])
  exact P.retI hx hlk hret (dc d12_4) (own_le rfl) (own_le rfl) ⟨rfl, rfl⟩
theorem d11_0 : decode jdk_67_method_93_code 0 = .ok (.aload_n 0, 1) := by decide +kernel
theorem d11_1 : decode jdk_67_method_93_code 1 = .ok (.invokespecial 343, 3) := by decide +kernel
theorem pd___I : parseMethodDescriptor "()I" = some ⟨[], some .int⟩ := by decide +kernel
theorem d11_4 : decode jdk_67_method_93_code 4 = .ok (.ireturn, 1) := by decide +kernel
set_option maxRecDepth 65536 in
set_option maxHeartbeats 40000000 in
theorem rmSl (l : Launch) (Z : State) (a0 : Array Value) (hw : ∀ d ∈ tables_1, d.before a0 Z = true) (sb : Addr) (z : Int32) (h0 : Heap) (n0 : Nat) (Z0 : n0 ≤ h0.size) (E_sb : Exa Z h0 sb "java/lang/StringBuilder") (F : Fld Z h0 sb "java/lang/AbstractStringBuilder" "count" "I" (.int z)) :
    OwM l Z (⟨"java/lang/StringBuilder", "length", "()I"⟩ : MethodName) jdk_67_method_93_code 1 (some .int) ({ frames := 1, cells := 0, slots := 0, locals := 12 } : Room) n0 #[(.ref sb)] h0 (fun v h => v = some (.int z) ∧ h = h0) := by
  refine OwM.mk (plainFor_of_name pn_java_lang_StringBuilder) ?_
  intro p e s m below meth cD T hx hby hml hown hnm hret hlk hZ P
  have dc := @Jvm.hb cD _ hby
  refine OwG.cast (show entryFrame m #[(.ref sb)] 1 = mkF m 0 #[.val (.ref sb)] [] from by first | (simp [entryFrame, mkF, argsToLocals, Value.category]; done) | rfl) ?_
  refine OwG.ac (mkF m 1 #[.val (.ref sb)] [(.ref sb)]) (fun tQ kQ => ?_) ?_
  · exact XS.aloadN P.here hx rfl (dc d11_0) rfl rfl kQ
  refine P.superc hx hZ (y := (⟨"java/lang/AbstractStringBuilder", "length", "()I"⟩ : MethodName)) hown (own_w hw 65 rfl) (own_same (y := (⟨"java/lang/AbstractStringBuilder", "length", "()I"⟩ : MethodName)) (y' := (⟨"java/lang/AbstractStringBuilder", "isLatin1", "()Z"⟩ : MethodName)) (own_w hw 66 rfl) (own_w hw 54 rfl) rfl (by decide)) (own_w hw 66 rfl) (own_w hw 41 rfl) (by decide) (OwM.back (W := 0) (rmLn l Z a0 hw sb z h0 n0 Z0 F) hZ (own_w hw 68 rfl) (own_w hw 21 rfl) (own_le rfl) (own_le rfl)) (fun _ _ _ q => q.2) E_sb rfl (by rw [hml]; rfl) (own_w hw 68 rfl) (argsL := []) (rest := []) (lenOf pd___I rfl) rfl (own_le rfl) (dc d11_1) rfl (own_le rfl) (own_le rfl) fun T own_v own_L h1 own_e P own_q => ?_
  obtain ⟨⟨rfl, own_hh⟩, -⟩ := own_q
  rw [own_hh] at P
  clear own_e own_hh
  show OwG p e below s _ _ _ _ T (mkF m 4 #[.val (.ref sb)] [(.int z)])
  exact P.retI hx hlk hret (dc d11_4) (own_le rfl) (own_le rfl) ⟨rfl, rfl⟩
theorem d7_0 : decode jdk_68_method_31_code 0 = .ok (.aload_n 0, 1) := by decide +kernel
theorem d7_1 : decode jdk_68_method_31_code 1 = .ok (.aload_n 0, 1) := by decide +kernel
theorem d7_2 : decode jdk_68_method_31_code 2 = .ok (.getfield 79, 3) := by decide +kernel
theorem d7_5 : decode jdk_68_method_31_code 5 = .ok (.iconst 1, 1) := by decide +kernel
theorem d7_6 : decode jdk_68_method_31_code 6 = .ok (.iadd, 1) := by decide +kernel
theorem d7_7 : decode jdk_68_method_31_code 7 = .ok (.invokevirtual 100, 3) := by decide +kernel
theorem d7_10 : decode jdk_68_method_31_code 10 = .ok (.aload_n 0, 1) := by decide +kernel
theorem d7_11 : decode jdk_68_method_31_code 11 = .ok (.invokevirtual 83, 3) := by decide +kernel
theorem pd___Z : parseMethodDescriptor "()Z" = some ⟨[], some .boolean⟩ := by decide +kernel
theorem d7_14 : decode jdk_68_method_31_code 14 = .ok (.ifCond .eq 31, 3) := by decide +kernel
theorem d7_17 : decode jdk_68_method_31_code 17 = .ok (.iload_n 1, 1) := by decide +kernel
theorem d7_18 : decode jdk_68_method_31_code 18 = .ok (.invokestatic 191, 3) := by decide +kernel
theorem pd__C_Z : parseMethodDescriptor "(C)Z" = some ⟨[.char], some .boolean⟩ := by decide +kernel
theorem d7_21 : decode jdk_68_method_31_code 21 = .ok (.ifCond .eq 24, 3) := by decide +kernel
theorem d7_24 : decode jdk_68_method_31_code 24 = .ok (.aload_n 0, 1) := by decide +kernel
theorem d7_25 : decode jdk_68_method_31_code 25 = .ok (.getfield 15, 3) := by decide +kernel
theorem d7_28 : decode jdk_68_method_31_code 28 = .ok (.aload_n 0, 1) := by decide +kernel
theorem d7_29 : decode jdk_68_method_31_code 29 = .ok (.dup, 1) := by decide +kernel
theorem d7_30 : decode jdk_68_method_31_code 30 = .ok (.getfield 79, 3) := by decide +kernel
theorem d7_33 : decode jdk_68_method_31_code 33 = .ok (.dup_x1, 1) := by decide +kernel
theorem d7_34 : decode jdk_68_method_31_code 34 = .ok (.iconst 1, 1) := by decide +kernel
theorem d7_35 : decode jdk_68_method_31_code 35 = .ok (.iadd, 1) := by decide +kernel
theorem d7_36 : decode jdk_68_method_31_code 36 = .ok (.putfield 79, 3) := by decide +kernel
theorem d7_39 : decode jdk_68_method_31_code 39 = .ok (.iload_n 1, 1) := by decide +kernel
theorem d7_40 : decode jdk_68_method_31_code 40 = .ok (.i2b, 1) := by decide +kernel
theorem d7_41 : decode jdk_68_method_31_code 41 = .ok (.bastore, 1) := by decide +kernel
theorem d7_42 : decode jdk_68_method_31_code 42 = .ok (.goto 33, 3) := by decide +kernel
theorem d7_75 : decode jdk_68_method_31_code 75 = .ok (.aload_n 0, 1) := by decide +kernel
theorem d7_76 : decode jdk_68_method_31_code 76 = .ok (.areturn, 1) := by decide +kernel
set_option maxRecDepth 65536 in
set_option maxHeartbeats 40000000 in
theorem rmAa (l : Launch) (Z : State) (a0 : Array Value) (hw : ∀ d ∈ tables_1, d.before a0 Z = true) (sb t : Addr) (kt : ClassId) (N k : Nat) (vs : List Value) (c zC : Int32) (h0 : Heap) (n0 : Nat) (Z0 : n0 ≤ h0.size) (S2 : Sta Z Z.heap "java/lang/String" "COMPACT_STRINGS" "Z" (.int zC)) (hzC : ¬ zC = 0) (OL : Old Z n0 h0) (E_sb : Exa Z h0 sb "java/lang/StringBuilder") (F_value_sb : Fld Z h0 sb "java/lang/AbstractStringBuilder" "value" "[B" (.ref t)) (F_coder_sb : Fld Z h0 sb "java/lang/AbstractStringBuilder" "coder" "B" (.int 0)) (F_count_sb : Fld Z h0 sb "java/lang/AbstractStringBuilder" "count" "I" (.int (Int32.ofNat k))) (V_t : Arv Z h0 t kt .byte (Int32.ofNat N) vs (.int 0)) (hN : N ≤ 4000) (hvs : vs.length = N) (hk : k < N) (hc : ¬ c < 0 ∧ ¬ (255 : Int32) < c) (g_sb : n0 ≤ sb) (g_t : n0 ≤ t) (ne_sb_t : sb ≠ t) :
    OwM l Z (⟨"java/lang/AbstractStringBuilder", "append", "(C)Ljava/lang/AbstractStringBuilder;"⟩ : MethodName) jdk_68_method_31_code 2 (some (.object "java/lang/AbstractStringBuilder")) ({ frames := 1, cells := 0, slots := 0, locals := 16 } : Room) n0 #[(.ref sb), (.int c)] h0 (fun v h => v = some (.ref sb) ∧ Keep h0 h [sb, t] ∧ Fld Z h sb "java/lang/AbstractStringBuilder" "value" "[B" (.ref t) ∧ Fld Z h sb "java/lang/AbstractStringBuilder" "coder" "B" (.int 0) ∧ Fld Z h sb "java/lang/AbstractStringBuilder" "count" "I" (.int (Int32.ofNat (k + 1))) ∧ Arv Z h t kt .byte (Int32.ofNat N) (vs.set k (.int (StrChars.lo8 c))) (.int 0)) := by
  refine OwM.mk (plainFor_of_name pn_java_lang_AbstractStringBuilder) ?_
  intro p e s m below meth cD T hx hby hml hown hnm hret hlk hZ P
  have dc := @Jvm.hb cD _ hby
  refine OwG.cast (show entryFrame m #[(.ref sb), (.int c)] 2 = mkF m 0 #[.val (.ref sb), .val (.int c)] [] from by first | (simp [entryFrame, mkF, argsToLocals, Value.category]; done) | rfl) ?_
  have KP := Keep.refl h0 [sb, t]
  have ne_t_sb := Ne.symm ne_sb_t
  refine OwG.ac (mkF m 2 #[.val (.ref sb), .val (.int c)] [(.ref sb), (.ref sb)]) (fun tQ kQ => ?_) ?_
  · refine XS.aloadN P.here hx rfl (dc d7_0) rfl rfl ?_
    exact XS.aloadN P.here hx rfl (dc d7_1) rfl rfl kQ
  refine P.getF hx hZ hown (host := "") (Or.inl (own_w hw 44 rfl)) Via.refl F_count_sb rfl rfl (dc d7_2) fun T P => ?_
  show OwG p e below s _ _ _ _ T (mkF m 5 #[.val (.ref sb), .val (.int c)] [(.int (Int32.ofNat k)), (.ref sb)])
  refine OwG.ac (mkF m 7 #[.val (.ref sb), .val (.int c)] [(.int ((Int32.ofNat k) + (1 : Int32))), (.ref sb)]) (fun tQ kQ => ?_) ?_
  · refine XS.iconst P.here hx rfl (dc d7_5) ?_
    exact XS.iadd P.here hx rfl (dc d7_6) rfl kQ
  rw [show ((Int32.ofNat k) + (1 : Int32)) = (Int32.ofNat (k + 1)) from own_succ k]
  show OwG p e below s _ _ _ _ T (mkF m 7 #[.val (.ref sb), .val (.int c)] [(.int (Int32.ofNat (k + 1))), (.ref sb)])
  refine P.virtualN hx hZ (y := (⟨"java/lang/AbstractStringBuilder", "ensureCapacityInternal", "(I)V"⟩ : MethodName)) (z := (⟨"java/lang/AbstractStringBuilder", "ensureCapacityInternal", "(I)V"⟩ : MethodName)) hown (own_w hw 46 rfl) (own_declares (own_w hw 47 rfl) (own_w hw 50 rfl)) (own_nf (y := (⟨"java/lang/AbstractStringBuilder", "ensureCapacityInternal", "(I)V"⟩ : MethodName)) (y' := (⟨"java/lang/AbstractStringBuilder", "isLatin1", "()Z"⟩ : MethodName)) (own_w hw 54 rfl) rfl) (own_w hw 49 rfl) (own_w hw 47 rfl) (by decide) (OwM.back (W := 0) (rmEn l Z a0 hw sb t kt N (k + 1) k vs h0 n0 Z0 E_sb F_value_sb F_coder_sb F_count_sb V_t hN (by omega)) hZ (own_w hw 50 rfl) (own_w hw 21 rfl) (own_le rfl) (own_le rfl)) (fun _ _ _ q => q.2) E_sb rfl (by rw [hml]; rfl) (argsL := [(.int (Int32.ofNat (k + 1)))]) (rest := []) (lenOf pd__I_V rfl) rfl (own_le rfl) (dc d7_7) rfl (own_le rfl) (own_le rfl) fun T own_v own_L h1 own_e P own_q => ?_
  obtain ⟨⟨rfl, own_hh⟩, -⟩ := own_q
  rw [own_hh] at P
  clear own_e own_hh
  show OwG p e below s _ _ _ _ T (mkF m 10 #[.val (.ref sb), .val (.int c)] [])
  refine OwG.ac (mkF m 11 #[.val (.ref sb), .val (.int c)] [(.ref sb)]) (fun tQ kQ => ?_) ?_
  · exact XS.aloadN P.here hx rfl (dc d7_10) rfl rfl kQ
  refine P.virtual hx hZ (y := (⟨"java/lang/AbstractStringBuilder", "isLatin1", "()Z"⟩ : MethodName)) hown (own_w hw 51 rfl) (own_w hw 52 rfl) (own_w hw 54 rfl) (own_w hw 53 rfl) (by decide) (OwM.back (W := 0) (rmIl l Z a0 hw sb zC h0 n0 Z0 S2 hzC OL F_coder_sb) hZ (own_w hw 55 rfl) (own_w hw 21 rfl) (own_le rfl) (own_le rfl)) (fun _ _ _ q => q.2) E_sb rfl (by rw [hml]; rfl) (argsL := []) (rest := []) (lenOf pd___Z rfl) rfl (own_le rfl) (dc d7_11) rfl (own_le rfl) (own_le rfl) fun T own_v own_L h2 own_e P own_q => ?_
  obtain ⟨⟨rfl, own_hh⟩, -⟩ := own_q
  rw [own_hh] at P
  clear own_e own_hh
  show OwG p e below s _ _ _ _ T (mkF m 14 #[.val (.ref sb), .val (.int c)] [(.int 1)])
  refine OwG.ac (mkF m 18 #[.val (.ref sb), .val (.int c)] [(.int c)]) (fun tQ kQ => ?_) ?_
  · refine XS.ifNo P.here hx rfl (dc d7_14) rfl ((if0 _ _).trans (feq (by decide)).1) ?_
    exact XS.iloadN P.here hx rfl (dc d7_17) rfl kQ
  refine P.stat hx hZ (y := (⟨"java/lang/StringLatin1", "canEncode", "(C)Z"⟩ : MethodName)) hown (own_w hw 56 rfl) (own_w hw 57 rfl) (own_w hw 58 rfl) (own_w hw 59 rfl) (by decide) (OwM.back (W := 0) (rmCe l Z a0 hw c h0 n0 Z0 hc) hZ (own_w hw 59 rfl) (own_w hw 58 rfl) (own_le rfl) (own_le rfl)) (fun _ _ _ q => q.2) rfl (by rw [hml]; rfl) (argsL := [(.int c)]) (rest := []) (lenOf pd__C_Z rfl) rfl (own_le rfl) (dc d7_18) rfl (own_le rfl) (own_le rfl) fun T own_v own_L h3 own_e P own_q => ?_
  obtain ⟨⟨rfl, own_hh⟩, -⟩ := own_q
  rw [own_hh] at P
  clear own_e own_hh
  show OwG p e below s _ _ _ _ T (mkF m 21 #[.val (.ref sb), .val (.int c)] [(.int 1)])
  refine OwG.ac (mkF m 25 #[.val (.ref sb), .val (.int c)] [(.ref sb)]) (fun tQ kQ => ?_) ?_
  · refine XS.ifNo P.here hx rfl (dc d7_21) rfl ((if0 _ _).trans (feq (by decide)).1) ?_
    exact XS.aloadN P.here hx rfl (dc d7_24) rfl rfl kQ
  refine P.getF hx hZ hown (host := "") (Or.inl (own_w hw 28 rfl)) Via.refl F_value_sb rfl rfl (dc d7_25) fun T P => ?_
  show OwG p e below s _ _ _ _ T (mkF m 28 #[.val (.ref sb), .val (.int c)] [(.ref t)])
  refine OwG.ac (mkF m 30 #[.val (.ref sb), .val (.int c)] [(.ref sb), (.ref sb), (.ref t)]) (fun tQ kQ => ?_) ?_
  · refine XS.aloadN P.here hx rfl (dc d7_28) rfl rfl ?_
    exact XS.dup P.here hx rfl (dc d7_29) rfl rfl kQ
  refine P.getF hx hZ hown (host := "") (Or.inl (own_w hw 44 rfl)) Via.refl F_count_sb rfl rfl (dc d7_30) fun T P => ?_
  show OwG p e below s _ _ _ _ T (mkF m 33 #[.val (.ref sb), .val (.int c)] [(.int (Int32.ofNat k)), (.ref sb), (.ref t)])
  refine OwG.ac (mkF m 36 #[.val (.ref sb), .val (.int c)] [(.int ((Int32.ofNat k) + (1 : Int32))), (.ref sb), (.int (Int32.ofNat k)), (.ref t)]) (fun tQ kQ => ?_) ?_
  · refine XS.dupX1 P.here hx rfl (dc d7_33) rfl rfl rfl ?_
    refine XS.iconst P.here hx rfl (dc d7_34) ?_
    exact XS.iadd P.here hx rfl (dc d7_35) rfl kQ
  rw [show ((Int32.ofNat k) + (1 : Int32)) = (Int32.ofNat (k + 1)) from own_succ k]
  show OwG p e below s _ _ _ _ T (mkF m 36 #[.val (.ref sb), .val (.int c)] [(.int (Int32.ofNat (k + 1))), (.ref sb), (.int (Int32.ofNat k)), (.ref t)])
  refine P.putF hx hZ hown (host := "") (Or.inl (own_w hw 44 rfl)) Via.refl F_count_sb E_sb (Or.inl (own_w hw 45 rfl)) (own_w hw 12 rfl) (ty := .int) (by decide) rfl rfl rfl rfl (dc d7_36) g_sb fun T h4 P W => ?_
  replace E_sb := E_sb.wr W
  replace F_value_sb := F_value_sb.other W (Or.inr (slot_ne (Or.inl (own_w hw 29 rfl)) (Or.inl (own_w hw 45 rfl)) (by decide) (t := (.array .byte)) (t' := .int) (by decide) (by decide)))
  replace F_coder_sb := F_coder_sb.other W (Or.inr (slot_ne (Or.inl (own_w hw 31 rfl)) (Or.inl (own_w hw 45 rfl)) (by decide) (t := .byte) (t' := .int) (by decide) (by decide)))
  replace F_count_sb := F_count_sb.same W
  replace V_t := V_t.other W ne_t_sb
  replace Z0 := Nat.le_trans Z0 (Keep.of_wr W).1
  replace OL := OL.wr W g_sb
  replace KP := KP.wr W (Or.inl (List.mem_of_getElem? (i := 0) rfl))
  clear W
  show OwG p e below s _ _ _ _ T (mkF m 39 #[.val (.ref sb), .val (.int c)] [(.int (Int32.ofNat k)), (.ref t)])
  refine OwG.ac (mkF m 41 #[.val (.ref sb), .val (.int c)] [(.int (c.toInt8.toInt32)), (.int (Int32.ofNat k)), (.ref t)]) (fun tQ kQ => ?_) ?_
  · refine XS.iloadN P.here hx rfl (dc d7_39) rfl ?_
    exact XS.i2b P.here hx rfl (dc d7_40) rfl kQ
  refine P.stB hx hZ V_t (j := (Int32.ofNat k)) (own_nn (by omega)) (own_lt (by omega) (by omega)) (i := k) (own_tc (by omega)) (by omega) rfl rfl (dc d7_41) g_t fun T h5 P W V' => ?_
  replace E_sb := E_sb.wr W
  replace F_value_sb := F_value_sb.other W (Or.inl ne_sb_t)
  replace F_coder_sb := F_coder_sb.other W (Or.inl ne_sb_t)
  replace F_count_sb := F_count_sb.other W (Or.inl ne_sb_t)
  replace Z0 := Nat.le_trans Z0 (Keep.of_wr W).1
  replace OL := OL.wr W g_t
  replace KP := KP.wr W (Or.inl (List.mem_of_getElem? (i := 1) rfl))
  replace V_t := V'
  clear W V'
  show OwG p e below s _ _ _ _ T (mkF m 42 #[.val (.ref sb), .val (.int c)] [])
  rw [own_i2b2] at V_t
  refine OwG.ac (mkF m 76 #[.val (.ref sb), .val (.int c)] [(.ref sb)]) (fun tQ kQ => ?_) ?_
  · refine XS.goto P.here hx rfl (pc0 := 42) (pc' := 75) rfl (dc d7_42) (by decide) (by decide) ?_
    exact XS.aloadN P.here hx rfl (dc d7_75) rfl rfl kQ
  exact P.retR hx hlk hret rfl rfl (dc d7_76) (own_le rfl) (own_le rfl) ⟨rfl, KP, F_value_sb, F_coder_sb, F_count_sb, V_t⟩
theorem d6_0 : decode jdk_67_method_14_code 0 = .ok (.aload_n 0, 1) := by decide +kernel
theorem d6_1 : decode jdk_67_method_14_code 1 = .ok (.iload_n 1, 1) := by decide +kernel
theorem d6_2 : decode jdk_67_method_14_code 2 = .ok (.invokespecial 50, 3) := by decide +kernel
theorem pd__C_Ljava_lang_AbstractStringBuilder_ : parseMethodDescriptor "(C)Ljava/lang/AbstractStringBuilder;" = some ⟨[.char], some (.object "java/lang/AbstractStringBuilder")⟩ := by decide +kernel
theorem d6_5 : decode jdk_67_method_14_code 5 = .ok (.pop, 1) := by decide +kernel
theorem d6_6 : decode jdk_67_method_14_code 6 = .ok (.aload_n 0, 1) := by decide +kernel
theorem d6_7 : decode jdk_67_method_14_code 7 = .ok (.areturn, 1) := by decide +kernel
set_option maxRecDepth 65536 in
set_option maxHeartbeats 40000000 in
theorem rmAp (l : Launch) (Z : State) (a0 : Array Value) (hw : ∀ d ∈ tables_1, d.before a0 Z = true) (sb t : Addr) (kt : ClassId) (N k : Nat) (vs : List Value) (c zC : Int32) (h0 : Heap) (n0 : Nat) (Z0 : n0 ≤ h0.size) (S2 : Sta Z Z.heap "java/lang/String" "COMPACT_STRINGS" "Z" (.int zC)) (hzC : ¬ zC = 0) (OL : Old Z n0 h0) (E_sb : Exa Z h0 sb "java/lang/StringBuilder") (F_value_sb : Fld Z h0 sb "java/lang/AbstractStringBuilder" "value" "[B" (.ref t)) (F_coder_sb : Fld Z h0 sb "java/lang/AbstractStringBuilder" "coder" "B" (.int 0)) (F_count_sb : Fld Z h0 sb "java/lang/AbstractStringBuilder" "count" "I" (.int (Int32.ofNat k))) (V_t : Arv Z h0 t kt .byte (Int32.ofNat N) vs (.int 0)) (hN : N ≤ 4000) (hvs : vs.length = N) (hk : k < N) (hc : ¬ c < 0 ∧ ¬ (255 : Int32) < c) (g_sb : n0 ≤ sb) (g_t : n0 ≤ t) (ne_sb_t : sb ≠ t) :
    OwM l Z (⟨"java/lang/StringBuilder", "append", "(C)Ljava/lang/StringBuilder;"⟩ : MethodName) jdk_67_method_14_code 2 (some (.object "java/lang/StringBuilder")) ({ frames := 2, cells := 0, slots := 0, locals := 29 } : Room) n0 #[(.ref sb), (.int c)] h0 (fun v h => v = some (.ref sb) ∧ Keep h0 h [sb, t] ∧ Fld Z h sb "java/lang/AbstractStringBuilder" "value" "[B" (.ref t) ∧ Fld Z h sb "java/lang/AbstractStringBuilder" "coder" "B" (.int 0) ∧ Fld Z h sb "java/lang/AbstractStringBuilder" "count" "I" (.int (Int32.ofNat (k + 1))) ∧ Arv Z h t kt .byte (Int32.ofNat N) (vs.set k (.int (StrChars.lo8 c))) (.int 0)) := by
  refine OwM.mk (plainFor_of_name pn_java_lang_StringBuilder) ?_
  intro p e s m below meth cD T hx hby hml hown hnm hret hlk hZ P
  have dc := @Jvm.hb cD _ hby
  refine OwG.cast (show entryFrame m #[(.ref sb), (.int c)] 2 = mkF m 0 #[.val (.ref sb), .val (.int c)] [] from by first | (simp [entryFrame, mkF, argsToLocals, Value.category]; done) | rfl) ?_
  refine OwG.ac (mkF m 2 #[.val (.ref sb), .val (.int c)] [(.int c), (.ref sb)]) (fun tQ kQ => ?_) ?_
  · refine XS.aloadN P.here hx rfl (dc d6_0) rfl rfl ?_
    exact XS.iloadN P.here hx rfl (dc d6_1) rfl kQ
  refine P.superc hx hZ (y := (⟨"java/lang/AbstractStringBuilder", "append", "(C)Ljava/lang/AbstractStringBuilder;"⟩ : MethodName)) hown (own_w hw 39 rfl) (own_same (y := (⟨"java/lang/AbstractStringBuilder", "append", "(C)Ljava/lang/AbstractStringBuilder;"⟩ : MethodName)) (y' := (⟨"java/lang/AbstractStringBuilder", "isLatin1", "()Z"⟩ : MethodName)) (own_w hw 40 rfl) (own_w hw 54 rfl) rfl (by decide)) (own_w hw 40 rfl) (own_w hw 41 rfl) (by decide) (OwM.back (W := 0) (rmAa l Z a0 hw sb t kt N k vs c zC h0 n0 Z0 S2 hzC OL E_sb F_value_sb F_coder_sb F_count_sb V_t hN hvs hk hc g_sb g_t ne_sb_t) hZ (own_w hw 43 rfl) (own_w hw 21 rfl) (own_le rfl) (own_le rfl)) (fun _ _ _ q => q.2) E_sb rfl (by rw [hml]; rfl) (own_w hw 43 rfl) (argsL := [(.int c)]) (rest := []) (lenOf pd__C_Ljava_lang_AbstractStringBuilder_ rfl) rfl (own_le rfl) (dc d6_2) rfl (own_le rfl) (own_le rfl) fun T own_v own_L h1 own_e P own_q => ?_
  obtain ⟨⟨rfl, own_r⟩, -⟩ := own_q
  show OwG p e below s _ _ _ _ T (mkF m 5 #[.val (.ref sb), .val (.int c)] [(.ref sb)])
  refine OwG.ac (mkF m 7 #[.val (.ref sb), .val (.int c)] [(.ref sb)]) (fun tQ kQ => ?_) ?_
  · refine XS.pop P.here hx rfl (dc d6_5) rfl rfl ?_
    exact XS.aloadN P.here hx rfl (dc d6_6) rfl rfl kQ
  exact P.retR hx hlk hret rfl rfl (dc d6_7) (own_le rfl) (own_le rfl) ⟨rfl, own_r⟩
theorem d16_0 : decode jdk_68_method_64_code 0 = .ok (.aload_n 0, 1) := by decide +kernel
theorem d16_1 : decode jdk_68_method_64_code 1 = .ok (.getfield 15, 3) := by decide +kernel
theorem d16_4 : decode jdk_68_method_64_code 4 = .ok (.areturn, 1) := by decide +kernel
set_option maxRecDepth 65536 in
set_option maxHeartbeats 40000000 in
theorem rmGv (l : Launch) (Z : State) (a0 : Array Value) (hw : ∀ d ∈ tables_1, d.before a0 Z = true) (sb t : Addr) (h0 : Heap) (n0 : Nat) (Z0 : n0 ≤ h0.size) (F_value_sb : Fld Z h0 sb "java/lang/AbstractStringBuilder" "value" "[B" (.ref t)) :
    OwM l Z (⟨"java/lang/AbstractStringBuilder", "getValue", "()[B"⟩ : MethodName) jdk_68_method_64_code 1 (some (.array .byte)) ({ frames := 0, cells := 0, slots := 0, locals := 0 } : Room) n0 #[(.ref sb)] h0 (fun v h => v = some (.ref t) ∧ h = h0) := by
  refine OwM.mk (plainFor_of_name pn_java_lang_AbstractStringBuilder) ?_
  intro p e s m below meth cD T hx hby hml hown hnm hret hlk hZ P
  have dc := @Jvm.hb cD _ hby
  refine OwG.cast (show entryFrame m #[(.ref sb)] 1 = mkF m 0 #[.val (.ref sb)] [] from by first | (simp [entryFrame, mkF, argsToLocals, Value.category]; done) | rfl) ?_
  refine OwG.ac (mkF m 1 #[.val (.ref sb)] [(.ref sb)]) (fun tQ kQ => ?_) ?_
  · exact XS.aloadN P.here hx rfl (dc d16_0) rfl rfl kQ
  refine P.getF hx hZ hown (host := "") (Or.inl (own_w hw 28 rfl)) Via.refl F_value_sb rfl rfl (dc d16_1) fun T P => ?_
  show OwG p e below s _ _ _ _ T (mkF m 4 #[.val (.ref sb)] [(.ref t)])
  exact P.retR hx hlk hret rfl rfl (dc d16_4) (own_le rfl) (own_le rfl) ⟨rfl, rfl⟩
theorem d17_0 : decode jdk_65_method_132_code 0 = .ok (.iload_n 1, 1) := by decide +kernel
theorem d17_1 : decode jdk_65_method_132_code 1 = .ok (.ifCond .ne 9, 3) := by decide +kernel
theorem d17_4 : decode jdk_65_method_132_code 4 = .ok (.iload_n 2, 1) := by decide +kernel
theorem d17_5 : decode jdk_65_method_132_code 5 = .ok (.aload_n 0, 1) := by decide +kernel
theorem d17_6 : decode jdk_65_method_132_code 6 = .ok (.arraylength, 1) := by decide +kernel
theorem d17_7 : decode jdk_65_method_132_code 7 = .ok (.if_icmp .eq 10, 3) := by decide +kernel
theorem d17_17 : decode jdk_65_method_132_code 17 = .ok (.aload_n 0, 1) := by decide +kernel
theorem d17_18 : decode jdk_65_method_132_code 18 = .ok (.invokevirtual 310, 3) := by decide +kernel
theorem d17_21 : decode jdk_65_method_132_code 21 = .ok (.checkcast 311, 3) := by decide +kernel
theorem d17_24 : decode jdk_65_method_132_code 24 = .ok (.areturn, 1) := by decide +kernel
theorem pn_java_util_Arrays : plainName "java/util/Arrays" = true := by first | (simp [plainName, overriddenIn]; done) | decide +kernel
set_option maxRecDepth 65536 in
set_option maxHeartbeats 40000000 in
theorem rmCr (l : Launch) (Z : State) (a0 : Array Value) (hw : ∀ d ∈ tables_1, d.before a0 Z = true) (t : Addr) (kt : ClassId) (N : Nat) (vs : List Value) (h0 : Heap) (n0 : Nat) (Z0 : n0 ≤ h0.size) (V_t : Arv Z h0 t kt .byte (Int32.ofNat N) vs (.int 0)) (E_t : Exa Z h0 t "[B") (hN : N ≤ 4000) :
    OwM l Z (⟨"java/util/Arrays", "copyOfRange", "([BII)[B"⟩ : MethodName) jdk_65_method_132_code 3 (some (.array .byte)) ({ frames := 1, cells := 1, slots := N, locals := 14 } : Room) n0 #[(.ref t), (.int 0), (.int (Int32.ofNat N))] h0 (fun v h => ∃ b : Addr, v = some (.ref b) ∧ b = h0.size ∧ Keep h0 h [] ∧ Arv Z h b kt .byte (Int32.ofNat N) vs (.int 0)) := by
  refine OwM.mk (plainFor_of_name pn_java_util_Arrays) ?_
  intro p e s m below meth cD T hx hby hml hown hnm hret hlk hZ P
  have dc := @Jvm.hb cD _ hby
  refine OwG.cast (show entryFrame m #[(.ref t), (.int 0), (.int (Int32.ofNat N))] 3 = mkF m 0 #[.val (.ref t), .val (.int 0), .val (.int (Int32.ofNat N))] [] from by first | (simp [entryFrame, mkF, argsToLocals, Value.category]; done) | rfl) ?_
  have KP := Keep.refl h0 []
  refine OwG.ac (mkF m 6 #[.val (.ref t), .val (.int 0), .val (.int (Int32.ofNat N))] [(.ref t), (.int (Int32.ofNat N))]) (fun tQ kQ => ?_) ?_
  · refine XS.iloadN P.here hx rfl (dc d17_0) rfl ?_
    refine XS.ifNo P.here hx rfl (dc d17_1) rfl ((if0 _ _).trans (teq rfl).2) ?_
    refine XS.iloadN P.here hx rfl (dc d17_4) rfl ?_
    exact XS.aloadN P.here hx rfl (dc d17_5) rfl rfl kQ
  obtain ⟨own_cl, own_A, own_q1, own_S, own_M, own_H, own_U⟩ := id V_t
  obtain ⟨own_L, own_X, own_e, own_N⟩ := id P
  have own_Z := hZ
  refine OwG.ac (mkF m 18 #[.val (.ref t), .val (.int 0), .val (.int (Int32.ofNat N))] [(.ref t)]) (fun tQ kQ => ?_) ?_
  · refine own_X.arraylength hx (by rw [own_e]; exact own_A.1) (State.isArrayOf_alike own_Z.alike own_A.2.1) (g := (mkF m 6 #[.val (.ref t), .val (.int 0), .val (.int (Int32.ofNat N))] [(.ref t), (.int (Int32.ofNat N))])) rfl rfl (dc d17_6) _ ?_
    rw [len_of own_S own_M]
    refine XS.icmpYes P.here hx rfl (pc0 := 7) (pc' := 17) rfl (dc d17_7) rfl (teq rfl).1 (by decide) (by decide) ?_
    exact XS.aloadN P.here hx rfl (dc d17_17) rfl rfl kQ
  refine P.cloneV hx hZ hown (own_w hw 98 rfl) (own_w hw 99 rfl) (own_w hw 103 rfl) (own_w hw 101 rfl) (own_w hw 102 rfl) (own_w hw 104 rfl) V_t E_t rfl (by rw [hml]; rfl) rfl (dc d17_18) (own_le rfl) (W := 0) (cap := N) (own_le rfl) (own_le rfl) (Nat.le_of_eq (own_tc (by omega))) (by first | omega | (dsimp only [room_1] <;> omega)) (by first | omega | (dsimp only [room_1] <;> omega)) fun T h1 b gb P E V_b E_b => ?_
  have sz_b : h0.size ≤ b := Nat.le_trans KP.1 (Nat.le_of_eq gb.symm)
  replace KP := KP.ext E
  clear E
  show OwG p e below s _ _ _ _ T (mkF m 21 #[.val (.ref t), .val (.int 0), .val (.int (Int32.ofNat N))] [(.ref b)])
  refine P.castY hx hZ hown (own_w hw 105 rfl) (Ins.self E_b) rfl rfl (dc d17_21) fun T P => ?_
  show OwG p e below s _ _ _ _ T (mkF m 24 #[.val (.ref t), .val (.int 0), .val (.int (Int32.ofNat N))] [(.ref b)])
  exact P.retR hx hlk hret rfl rfl (dc d17_24) (by first | omega | (dsimp only [room_1] <;> omega)) (by first | omega | (dsimp only [room_1] <;> omega)) ⟨b, rfl, gb, KP, V_b⟩
theorem d15_0 : decode jdk_42_method_150_code 0 = .ok (.aload_n 0, 1) := by decide +kernel
theorem d15_1 : decode jdk_42_method_150_code 1 = .ok (.invokespecial 1, 3) := by decide +kernel
theorem d15_4 : decode jdk_42_method_150_code 4 = .ok (.aload_n 1, 1) := by decide +kernel
theorem d15_5 : decode jdk_42_method_150_code 5 = .ok (.invokevirtual 552, 3) := by decide +kernel
theorem pd____B : parseMethodDescriptor "()[B" = some ⟨[], some (.array .byte)⟩ := by decide +kernel
theorem d15_8 : decode jdk_42_method_150_code 8 = .ok (.astore_n 3, 1) := by decide +kernel
theorem d15_9 : decode jdk_42_method_150_code 9 = .ok (.aload_n 1, 1) := by decide +kernel
theorem d15_10 : decode jdk_42_method_150_code 10 = .ok (.invokevirtual 549, 3) := by decide +kernel
theorem d15_13 : decode jdk_42_method_150_code 13 = .ok (.istore 4, 2) := by decide +kernel
theorem d15_15 : decode jdk_42_method_150_code 15 = .ok (.aload_n 1, 1) := by decide +kernel
theorem d15_16 : decode jdk_42_method_150_code 16 = .ok (.invokevirtual 1047, 3) := by decide +kernel
theorem d15_19 : decode jdk_42_method_150_code 19 = .ok (.ifCond .eq 22, 3) := by decide +kernel
theorem d15_22 : decode jdk_42_method_150_code 22 = .ok (.aload_n 0, 1) := by decide +kernel
theorem d15_23 : decode jdk_42_method_150_code 23 = .ok (.iconst 0, 1) := by decide +kernel
theorem d15_24 : decode jdk_42_method_150_code 24 = .ok (.putfield 15, 3) := by decide +kernel
theorem d15_27 : decode jdk_42_method_150_code 27 = .ok (.aload_n 0, 1) := by decide +kernel
theorem d15_28 : decode jdk_42_method_150_code 28 = .ok (.aload_n 3, 1) := by decide +kernel
theorem d15_29 : decode jdk_42_method_150_code 29 = .ok (.iconst 0, 1) := by decide +kernel
theorem d15_30 : decode jdk_42_method_150_code 30 = .ok (.iload 4, 2) := by decide +kernel
theorem d15_32 : decode jdk_42_method_150_code 32 = .ok (.invokestatic 54, 3) := by decide +kernel
theorem pd___BII__B : parseMethodDescriptor "([BII)[B" = some ⟨[(.array .byte), .int, .int], some (.array .byte)⟩ := by decide +kernel
theorem d15_35 : decode jdk_42_method_150_code 35 = .ok (.putfield 9, 3) := by decide +kernel
theorem d15_38 : decode jdk_42_method_150_code 38 = .ok (.goto 59, 3) := by decide +kernel
theorem d15_97 : decode jdk_42_method_150_code 97 = .ok (.return_, 1) := by decide +kernel
theorem pn_java_lang_String : plainName "java/lang/String" = true := by first | (simp [plainName, overriddenIn]; done) | decide +kernel
set_option maxRecDepth 65536 in
set_option maxHeartbeats 40000000 in
theorem rmT2 (l : Launch) (Z : State) (a0 : Array Value) (hw : ∀ d ∈ tables_1, d.before a0 Z = true) (x sb t : Addr) (kt : ClassId) (N : Nat) (vs : List Value) (zC : Int32) (h0 : Heap) (n0 : Nat) (Z0 : n0 ≤ h0.size) (S2 : Sta Z Z.heap "java/lang/String" "COMPACT_STRINGS" "Z" (.int zC)) (hzC : ¬ zC = 0) (OL : Old Z n0 h0) (E_sb : Exa Z h0 sb "java/lang/StringBuilder") (F_value_sb : Fld Z h0 sb "java/lang/AbstractStringBuilder" "value" "[B" (.ref t)) (F_coder_sb : Fld Z h0 sb "java/lang/AbstractStringBuilder" "coder" "B" (.int 0)) (F_count_sb : Fld Z h0 sb "java/lang/AbstractStringBuilder" "count" "I" (.int (Int32.ofNat N))) (V_t : Arv Z h0 t kt .byte (Int32.ofNat N) vs (.int 0)) (E_t : Exa Z h0 t "[B") (hN : N ≤ 4000) (g_x : n0 ≤ x) (E_x : Exa Z h0 x "java/lang/String") (F_coder_x : Fld Z h0 x "java/lang/String" "coder" "B" (.int 0)) (F_value_x : Fld Z h0 x "java/lang/String" "value" "[B" .null) :
    OwM l Z (⟨"java/lang/String", "<init>", "(Ljava/lang/AbstractStringBuilder;Ljava/lang/Void;)V"⟩ : MethodName) jdk_42_method_150_code 5 none ({ frames := 2, cells := 1, slots := N, locals := 30 } : Room) n0 #[(.ref x), (.ref sb), .null] h0 (fun v h => v = none ∧ Keep h0 h [x] ∧ ∃ u : Addr, Fld Z h x "java/lang/String" "value" "[B" (.ref u) ∧ Fld Z h x "java/lang/String" "coder" "B" (.int 0) ∧ Arv Z h u kt .byte (Int32.ofNat N) vs (.int 0)) := by
  refine OwM.mk (plainFor_of_name pn_java_lang_String) ?_
  intro p e s m below meth cD T hx hby hml hown hnm hret hlk hZ P
  have dc := @Jvm.hb cD _ hby
  refine OwG.cast (show entryFrame m #[(.ref x), (.ref sb), .null] 5 = mkF m 0 #[.val (.ref x), .val (.ref sb), .val .null, .unset, .unset] [] from by first | (simp [entryFrame, mkF, argsToLocals, Value.category]; done) | rfl) ?_
  have KP := Keep.refl h0 [x]
  have ne_t_x : t ≠ x := Ne.symm (ne_exa E_x E_t (by decide))
  have own_x := E_x.lt
  refine OwG.ac (mkF m 1 #[.val (.ref x), .val (.ref sb), .val .null, .unset, .unset] [(.ref x)]) (fun tQ kQ => ?_) ?_
  · exact XS.aloadN P.here hx rfl (dc d15_0) rfl rfl kQ
  refine P.initO hx hZ hown (own_w hw 83 rfl) (own_w hw 24 rfl) (own_w hw 25 rfl) rfl (by rw [hml]; rfl) rfl (dc d15_1) (own_le rfl) (W := 0) (own_le rfl) (own_le rfl) fun T P => ?_
  show OwG p e below s _ _ _ _ T (mkF m 4 #[.val (.ref x), .val (.ref sb), .val .null, .unset, .unset] [])
  refine OwG.ac (mkF m 5 #[.val (.ref x), .val (.ref sb), .val .null, .unset, .unset] [(.ref sb)]) (fun tQ kQ => ?_) ?_
  · exact XS.aloadN P.here hx rfl (dc d15_4) rfl rfl kQ
  refine P.virtual hx hZ (y := (⟨"java/lang/AbstractStringBuilder", "getValue", "()[B"⟩ : MethodName)) hown (own_w hw 84 rfl) (own_w hw 85 rfl) (own_w hw 87 rfl) (own_w hw 86 rfl) (by decide) (OwM.back (W := 0) (rmGv l Z a0 hw sb t h0 n0 Z0 F_value_sb) hZ (own_w hw 88 rfl) (own_w hw 21 rfl) (own_le rfl) (own_le rfl)) (fun _ _ _ q => q.2) E_sb rfl (by rw [hml]; rfl) (argsL := []) (rest := []) (lenOf pd____B rfl) rfl (own_le rfl) (dc d15_5) rfl (by first | omega | (dsimp only [room_1] <;> omega)) (by first | omega | (dsimp only [room_1] <;> omega)) fun T own_v own_L h1 own_e P own_q => ?_
  obtain ⟨⟨rfl, own_hh⟩, -⟩ := own_q
  rw [own_hh] at P
  clear own_e own_hh
  show OwG p e below s _ _ _ _ T (mkF m 8 #[.val (.ref x), .val (.ref sb), .val .null, .unset, .unset] [(.ref t)])
  refine OwG.ac (mkF m 10 #[.val (.ref x), .val (.ref sb), .val .null, .val (.ref t), .unset] [(.ref sb)]) (fun tQ kQ => ?_) ?_
  · refine XS.astoreN P.here hx rfl (dc d15_8) rfl rfl (l' := #[.val (.ref x), .val (.ref sb), .val .null, .val (.ref t), .unset]) rfl ?_
    exact XS.aloadN P.here hx rfl (dc d15_9) rfl rfl kQ
  refine P.virtualN hx hZ (y := (⟨"java/lang/AbstractStringBuilder", "length", "()I"⟩ : MethodName)) (z := (⟨"java/lang/StringBuilder", "length", "()I"⟩ : MethodName)) hown (own_w hw 89 rfl) (own_w hw 67 rfl) (own_nf (y := (⟨"java/lang/AbstractStringBuilder", "length", "()I"⟩ : MethodName)) (y' := (⟨"java/lang/AbstractStringBuilder", "isLatin1", "()Z"⟩ : MethodName)) (own_w hw 54 rfl) rfl) (own_w hw 90 rfl) (own_w hw 62 rfl) (by decide) (OwM.back (W := 0) (rmSl l Z a0 hw sb (Int32.ofNat N) h0 n0 Z0 E_sb F_count_sb) hZ (own_w hw 64 rfl) (own_w hw 13 rfl) (own_le rfl) (own_le rfl)) (fun _ _ _ q => q.2) E_sb rfl (by rw [hml]; rfl) (argsL := []) (rest := []) (lenOf pd___I rfl) rfl (own_le rfl) (dc d15_10) rfl (by first | omega | (dsimp only [room_1] <;> omega)) (by first | omega | (dsimp only [room_1] <;> omega)) fun T own_v own_L h2 own_e P own_q => ?_
  obtain ⟨⟨rfl, own_hh⟩, -⟩ := own_q
  rw [own_hh] at P
  clear own_e own_hh
  show OwG p e below s _ _ _ _ T (mkF m 13 #[.val (.ref x), .val (.ref sb), .val .null, .val (.ref t), .unset] [(.int (Int32.ofNat N))])
  refine OwG.ac (mkF m 16 #[.val (.ref x), .val (.ref sb), .val .null, .val (.ref t), .val (.int (Int32.ofNat N))] [(.ref sb)]) (fun tQ kQ => ?_) ?_
  · refine XS.istore P.here hx rfl (dc d15_13) rfl (l' := #[.val (.ref x), .val (.ref sb), .val .null, .val (.ref t), .val (.int (Int32.ofNat N))]) rfl ?_
    exact XS.aloadN P.here hx rfl (dc d15_15) rfl rfl kQ
  refine P.virtual hx hZ (y := (⟨"java/lang/AbstractStringBuilder", "isLatin1", "()Z"⟩ : MethodName)) hown (own_w hw 91 rfl) (own_w hw 52 rfl) (own_w hw 54 rfl) (own_w hw 53 rfl) (by decide) (OwM.back (W := 0) (rmIl l Z a0 hw sb zC h0 n0 Z0 S2 hzC OL F_coder_sb) hZ (own_w hw 55 rfl) (own_w hw 21 rfl) (own_le rfl) (own_le rfl)) (fun _ _ _ q => q.2) E_sb rfl (by rw [hml]; rfl) (argsL := []) (rest := []) (lenOf pd___Z rfl) rfl (own_le rfl) (dc d15_16) rfl (by first | omega | (dsimp only [room_1] <;> omega)) (by first | omega | (dsimp only [room_1] <;> omega)) fun T own_v own_L h3 own_e P own_q => ?_
  obtain ⟨⟨rfl, own_hh⟩, -⟩ := own_q
  rw [own_hh] at P
  clear own_e own_hh
  show OwG p e below s _ _ _ _ T (mkF m 19 #[.val (.ref x), .val (.ref sb), .val .null, .val (.ref t), .val (.int (Int32.ofNat N))] [(.int 1)])
  refine OwG.ac (mkF m 24 #[.val (.ref x), .val (.ref sb), .val .null, .val (.ref t), .val (.int (Int32.ofNat N))] [(.int 0), (.ref x)]) (fun tQ kQ => ?_) ?_
  · refine XS.ifNo P.here hx rfl (dc d15_19) rfl ((if0 _ _).trans (feq (by decide)).1) ?_
    refine XS.aloadN P.here hx rfl (dc d15_22) rfl rfl ?_
    exact XS.iconst P.here hx rfl (dc d15_23) kQ
  refine P.putFN hx hZ hown (own_w hw 92 rfl) Via.refl F_coder_x E_x (Or.inr ⟨(own_w hw 93 rfl), rfl, hnm⟩) (own_w hw 75 rfl) (ty := .byte) (v' := (.int 0)) (by decide) rfl rfl rfl rfl (dc d15_24) g_x fun T h4 P W => ?_
  replace E_x := E_x.wr W
  replace F_coder_x := F_coder_x.same W
  replace F_value_x := F_value_x.other W (Or.inr (slot_ne (Or.inr (own_w hw 108 rfl)) (Or.inr (own_w hw 93 rfl)) (by decide) (t := (.array .byte)) (t' := .byte) (by decide) (by decide)))
  replace V_t := V_t.other W ne_t_x
  replace E_t := E_t.wr W
  replace Z0 := Nat.le_trans Z0 (Keep.of_wr W).1
  replace OL := OL.wr W g_x
  replace KP := KP.wr W (Or.inl (List.mem_of_getElem? (i := 0) rfl))
  clear W
  show OwG p e below s _ _ _ _ T (mkF m 27 #[.val (.ref x), .val (.ref sb), .val .null, .val (.ref t), .val (.int (Int32.ofNat N))] [])
  refine OwG.ac (mkF m 32 #[.val (.ref x), .val (.ref sb), .val .null, .val (.ref t), .val (.int (Int32.ofNat N))] [(.int (Int32.ofNat N)), (.int 0), (.ref t), (.ref x)]) (fun tQ kQ => ?_) ?_
  · refine XS.aloadN P.here hx rfl (dc d15_27) rfl rfl ?_
    refine XS.aloadN P.here hx rfl (dc d15_28) rfl rfl ?_
    refine XS.iconst P.here hx rfl (dc d15_29) ?_
    exact XS.iload P.here hx rfl (dc d15_30) rfl kQ
  refine P.stat hx hZ (y := (⟨"java/util/Arrays", "copyOfRange", "([BII)[B"⟩ : MethodName)) hown (own_w hw 94 rfl) (own_w hw 95 rfl) (own_w hw 96 rfl) (own_w hw 97 rfl) (by decide) (OwM.back (W := 1) (rmCr l Z a0 hw t kt N vs h4 n0 Z0 V_t E_t hN) hZ (own_w hw 97 rfl) (own_w hw 96 rfl) (own_le rfl) (own_le rfl)) (fun _ _ _ q => q.2) rfl (by rw [hml]; rfl) (argsL := [(.ref t), (.int 0), (.int (Int32.ofNat N))]) (rest := [(.ref x)]) (lenOf pd___BII__B rfl) rfl (own_le rfl) (dc d15_32) rfl (by first | omega | (dsimp only [room_1] <;> omega)) (by first | omega | (dsimp only [room_1] <;> omega)) fun T own_v own_L h5 own_e P own_q => ?_
  obtain ⟨⟨u, rfl, gu, K, V_u⟩, -⟩ := own_q
  show OwG p e below s _ _ _ _ T (mkF m 35 #[.val (.ref x), .val (.ref sb), .val .null, .val (.ref t), .val (.int (Int32.ofNat N))] [(.ref u), (.ref x)])
  clear own_e
  have ne_x_u : x ≠ u := Nat.ne_of_lt (Nat.lt_of_lt_of_le E_x.lt (Nat.le_of_eq gu.symm))
  have ne_u_x := Ne.symm ne_x_u
  have ne_t_u : t ≠ u := Nat.ne_of_lt (Nat.lt_of_lt_of_le V_t.lt (Nat.le_of_eq gu.symm))
  have ne_u_t := Ne.symm ne_t_u
  have g_u : n0 ≤ u := Nat.le_trans Z0 (Nat.le_of_eq gu.symm)
  have sz_u : h0.size ≤ u := Nat.le_trans KP.1 (Nat.le_of_eq gu.symm)
  replace E_x := E_x.keep K
  replace F_coder_x := F_coder_x.keep K nin0
  replace F_value_x := F_value_x.keep K nin0
  replace V_t := V_t.keep K nin0
  replace E_t := E_t.keep K
  replace Z0 := Nat.le_trans Z0 K.1
  replace OL := OL.keep K all0
  replace KP := KP.trans K all0
  refine P.putF hx hZ hown (host := "") (Or.inl (own_w hw 107 rfl)) Via.refl F_value_x E_x (Or.inr ⟨(own_w hw 108 rfl), rfl, hnm⟩) (own_w hw 75 rfl) (ty := (.array .byte)) (by decide) rfl rfl rfl rfl (dc d15_35) g_x fun T h6 P W => ?_
  replace E_x := E_x.wr W
  replace F_coder_x := F_coder_x.other W (Or.inr (slot_ne (Or.inr (own_w hw 93 rfl)) (Or.inr (own_w hw 108 rfl)) (by decide) (t := .byte) (t' := (.array .byte)) (by decide) (by decide)))
  replace F_value_x := F_value_x.same W
  replace V_t := V_t.other W ne_t_x
  replace E_t := E_t.wr W
  replace V_u := V_u.other W ne_u_x
  replace Z0 := Nat.le_trans Z0 (Keep.of_wr W).1
  replace OL := OL.wr W g_x
  replace KP := KP.wr W (Or.inl (List.mem_of_getElem? (i := 0) rfl))
  clear W
  show OwG p e below s _ _ _ _ T (mkF m 38 #[.val (.ref x), .val (.ref sb), .val .null, .val (.ref t), .val (.int (Int32.ofNat N))] [])
  refine OwG.ac (mkF m 97 #[.val (.ref x), .val (.ref sb), .val .null, .val (.ref t), .val (.int (Int32.ofNat N))] []) (fun tQ kQ => ?_) ?_
  · exact XS.goto P.here hx rfl (pc0 := 38) (pc' := 97) rfl (dc d15_38) (by decide) (by decide) kQ
  exact P.retV hx hlk hret (dc d15_97) (by first | omega | (dsimp only [room_1] <;> omega)) (by first | omega | (dsimp only [room_1] <;> omega)) ⟨rfl, KP, u, F_value_x, F_coder_x, V_u⟩
theorem d14_0 : decode jdk_42_method_53_code 0 = .ok (.aload_n 0, 1) := by decide +kernel
theorem d14_1 : decode jdk_42_method_53_code 1 = .ok (.aload_n 1, 1) := by decide +kernel
theorem d14_2 : decode jdk_42_method_53_code 2 = .ok (.aconst_null, 1) := by decide +kernel
theorem d14_3 : decode jdk_42_method_53_code 3 = .ok (.invokespecial 489, 3) := by decide +kernel
theorem pd__Ljava_lang_AbstractStringBuilder_Ljava_lang_Void__V : parseMethodDescriptor "(Ljava/lang/AbstractStringBuilder;Ljava/lang/Void;)V" = some ⟨[(.object "java/lang/AbstractStringBuilder"), (.object "java/lang/Void")], none⟩ := by decide +kernel
theorem d14_6 : decode jdk_42_method_53_code 6 = .ok (.return_, 1) := by decide +kernel
set_option maxRecDepth 65536 in
set_option maxHeartbeats 40000000 in
theorem rmT1 (l : Launch) (Z : State) (a0 : Array Value) (hw : ∀ d ∈ tables_1, d.before a0 Z = true) (x sb t : Addr) (kt : ClassId) (N : Nat) (vs : List Value) (zC : Int32) (h0 : Heap) (n0 : Nat) (Z0 : n0 ≤ h0.size) (S2 : Sta Z Z.heap "java/lang/String" "COMPACT_STRINGS" "Z" (.int zC)) (hzC : ¬ zC = 0) (OL : Old Z n0 h0) (E_sb : Exa Z h0 sb "java/lang/StringBuilder") (F_value_sb : Fld Z h0 sb "java/lang/AbstractStringBuilder" "value" "[B" (.ref t)) (F_coder_sb : Fld Z h0 sb "java/lang/AbstractStringBuilder" "coder" "B" (.int 0)) (F_count_sb : Fld Z h0 sb "java/lang/AbstractStringBuilder" "count" "I" (.int (Int32.ofNat N))) (V_t : Arv Z h0 t kt .byte (Int32.ofNat N) vs (.int 0)) (E_t : Exa Z h0 t "[B") (hN : N ≤ 4000) (g_x : n0 ≤ x) (E_x : Exa Z h0 x "java/lang/String") (F_coder_x : Fld Z h0 x "java/lang/String" "coder" "B" (.int 0)) (F_value_x : Fld Z h0 x "java/lang/String" "value" "[B" .null) :
    OwM l Z (⟨"java/lang/String", "<init>", "(Ljava/lang/StringBuilder;)V"⟩ : MethodName) jdk_42_method_53_code 2 none ({ frames := 3, cells := 1, slots := N, locals := 46 } : Room) n0 #[(.ref x), (.ref sb)] h0 (fun v h => v = none ∧ Keep h0 h [x] ∧ ∃ u : Addr, Fld Z h x "java/lang/String" "value" "[B" (.ref u) ∧ Fld Z h x "java/lang/String" "coder" "B" (.int 0) ∧ Arv Z h u kt .byte (Int32.ofNat N) vs (.int 0)) := by
  refine OwM.mk (plainFor_of_name pn_java_lang_String) ?_
  intro p e s m below meth cD T hx hby hml hown hnm hret hlk hZ P
  have dc := @Jvm.hb cD _ hby
  refine OwG.cast (show entryFrame m #[(.ref x), (.ref sb)] 2 = mkF m 0 #[.val (.ref x), .val (.ref sb)] [] from by first | (simp [entryFrame, mkF, argsToLocals, Value.category]; done) | rfl) ?_
  refine OwG.ac (mkF m 3 #[.val (.ref x), .val (.ref sb)] [.null, (.ref sb), (.ref x)]) (fun tQ kQ => ?_) ?_
  · refine XS.aloadN P.here hx rfl (dc d14_0) rfl rfl ?_
    refine XS.aloadN P.here hx rfl (dc d14_1) rfl rfl ?_
    exact XS.aconstNull P.here hx rfl (dc d14_2) kQ
  refine P.special hx hZ (y := (⟨"java/lang/String", "<init>", "(Ljava/lang/AbstractStringBuilder;Ljava/lang/Void;)V"⟩ : MethodName)) rfl hown (own_w hw 80 rfl) (own_w hw 81 rfl) (own_w hw 82 rfl) (by decide) (OwM.back (W := 0) (rmT2 l Z a0 hw x sb t kt N vs zC h0 n0 Z0 S2 hzC OL E_sb F_value_sb F_coder_sb F_count_sb V_t E_t hN g_x E_x F_coder_x F_value_x) hZ (own_w hw 82 rfl) (own_w hw 27 rfl) (own_le rfl) (own_le rfl)) (fun _ _ _ q => q.2) rfl (by rw [hml]; rfl) (a := x) (argsL := [(.ref sb), .null]) (rest := []) (lenOf pd__Ljava_lang_AbstractStringBuilder_Ljava_lang_Void__V rfl) rfl (own_le rfl) (dc d14_3) rfl (by first | omega | (dsimp only [room_1] <;> omega)) (by first | omega | (dsimp only [room_1] <;> omega)) fun T own_v own_L h1 own_e P own_q => ?_
  obtain ⟨⟨rfl, own_r⟩, -⟩ := own_q
  show OwG p e below s _ _ _ _ T (mkF m 6 #[.val (.ref x), .val (.ref sb)] [])
  exact P.retV hx hlk hret (dc d14_6) (by first | omega | (dsimp only [room_1] <;> omega)) (by first | omega | (dsimp only [room_1] <;> omega)) ⟨rfl, own_r⟩
theorem d13_0 : decode jdk_67_method_42_code 0 = .ok (.new 18, 3) := by decide +kernel
theorem d13_3 : decode jdk_67_method_42_code 3 = .ok (.dup, 1) := by decide +kernel
theorem d13_4 : decode jdk_67_method_42_code 4 = .ok (.aload_n 0, 1) := by decide +kernel
theorem d13_5 : decode jdk_67_method_42_code 5 = .ok (.invokespecial 137, 3) := by decide +kernel
theorem pd__Ljava_lang_StringBuilder__V : parseMethodDescriptor "(Ljava/lang/StringBuilder;)V" = some ⟨[(.object "java/lang/StringBuilder")], none⟩ := by decide +kernel
theorem d13_8 : decode jdk_67_method_42_code 8 = .ok (.areturn, 1) := by decide +kernel
set_option maxRecDepth 65536 in
set_option maxHeartbeats 40000000 in
theorem rmTs (l : Launch) (Z : State) (a0 : Array Value) (hw : ∀ d ∈ tables_1, d.before a0 Z = true) (sb t : Addr) (kt : ClassId) (N : Nat) (vs : List Value) (zC : Int32) (h0 : Heap) (n0 : Nat) (Z0 : n0 ≤ h0.size) (S2 : Sta Z Z.heap "java/lang/String" "COMPACT_STRINGS" "Z" (.int zC)) (hzC : ¬ zC = 0) (OL : Old Z n0 h0) (E_sb : Exa Z h0 sb "java/lang/StringBuilder") (F_value_sb : Fld Z h0 sb "java/lang/AbstractStringBuilder" "value" "[B" (.ref t)) (F_coder_sb : Fld Z h0 sb "java/lang/AbstractStringBuilder" "coder" "B" (.int 0)) (F_count_sb : Fld Z h0 sb "java/lang/AbstractStringBuilder" "count" "I" (.int (Int32.ofNat N))) (V_t : Arv Z h0 t kt .byte (Int32.ofNat N) vs (.int 0)) (E_t : Exa Z h0 t "[B") (hN : N ≤ 4000) :
    OwM l Z (⟨"java/lang/StringBuilder", "toString", "()Ljava/lang/String;"⟩ : MethodName) jdk_67_method_42_code 1 (some (.object "java/lang/String")) ({ frames := 4, cells := 2, slots := N + 4, locals := 60 } : Room) n0 #[(.ref sb)] h0 (fun v h => ∃ x u : Addr, v = some (.ref x) ∧ Keep h0 h [] ∧ Exa Z h x "java/lang/String" ∧ Fld Z h x "java/lang/String" "value" "[B" (.ref u) ∧ Fld Z h x "java/lang/String" "coder" "B" (.int 0) ∧ Arv Z h u kt .byte (Int32.ofNat N) vs (.int 0)) := by
  refine OwM.mk (plainFor_of_name pn_java_lang_StringBuilder) ?_
  intro p e s m below meth cD T hx hby hml hown hnm hret hlk hZ P
  have dc := @Jvm.hb cD _ hby
  refine OwG.cast (show entryFrame m #[(.ref sb)] 1 = mkF m 0 #[.val (.ref sb)] [] from by first | (simp [entryFrame, mkF, argsToLocals, Value.category]; done) | rfl) ?_
  have KP := Keep.refl h0 []
  refine P.newO hx hZ hown (own_w hw 74 rfl) (own_w hw 75 rfl) (own_w hw 27 rfl) rfl (dc d13_0) (by first | omega | (dsimp only [room_1] <;> omega)) (by first | omega | (dsimp only [room_1] <;> omega)) fun T h1 x gx P E A D => ?_
  have ne_sb_x : sb ≠ x := Nat.ne_of_lt (Nat.lt_of_lt_of_le E_sb.lt (Nat.le_of_eq gx.symm))
  have ne_x_sb := Ne.symm ne_sb_x
  have ne_t_x : t ≠ x := Nat.ne_of_lt (Nat.lt_of_lt_of_le V_t.lt (Nat.le_of_eq gx.symm))
  have ne_x_t := Ne.symm ne_t_x
  have g_x : n0 ≤ x := Nat.le_trans Z0 (Nat.le_of_eq gx.symm)
  have sz_x : h0.size ≤ x := Nat.le_trans KP.1 (Nat.le_of_eq gx.symm)
  replace E_sb := E_sb.ext E
  replace F_value_sb := F_value_sb.ext E
  replace F_coder_sb := F_coder_sb.ext E
  replace F_count_sb := F_count_sb.ext E
  replace V_t := V_t.ext E
  replace E_t := E_t.ext E
  replace Z0 := Nat.le_trans Z0 E.1
  replace OL := OL.ext E
  replace KP := KP.ext E
  have E_x := A
  have F_coder_x : Fld Z h1 x "java/lang/String" "coder" "B" (.int 0) := D (Or.inr (own_w hw 93 rfl)) (ty := .byte) (by decide)
  have F_value_x : Fld Z h1 x "java/lang/String" "value" "[B" .null := D (Or.inr (own_w hw 108 rfl)) (ty := (.array .byte)) (by decide)
  clear A D E
  show OwG p e below s _ _ _ _ T (mkF m 3 #[.val (.ref sb)] [(.ref x)])
  refine OwG.ac (mkF m 5 #[.val (.ref sb)] [(.ref sb), (.ref x), (.ref x)]) (fun tQ kQ => ?_) ?_
  · refine XS.dup P.here hx rfl (dc d13_3) rfl rfl ?_
    exact XS.aloadN P.here hx rfl (dc d13_4) rfl rfl kQ
  refine P.special hx hZ (y := (⟨"java/lang/String", "<init>", "(Ljava/lang/StringBuilder;)V"⟩ : MethodName)) rfl hown (own_w hw 76 rfl) (own_w hw 77 rfl) (own_w hw 79 rfl) (by decide) (OwM.back (W := 1) (rmT1 l Z a0 hw x sb t kt N vs zC h1 n0 Z0 S2 hzC OL E_sb F_value_sb F_coder_sb F_count_sb V_t E_t hN g_x E_x F_coder_x F_value_x) hZ (own_w hw 79 rfl) (own_w hw 27 rfl) (own_le rfl) (own_le rfl)) (fun _ _ _ q => q.2) rfl (by rw [hml]; rfl) (a := x) (argsL := [(.ref sb)]) (rest := [(.ref x)]) (lenOf pd__Ljava_lang_StringBuilder__V rfl) rfl (own_le rfl) (dc d13_5) rfl (by first | omega | (dsimp only [room_1] <;> omega)) (by first | omega | (dsimp only [room_1] <;> omega)) fun T own_v own_L h2 own_e P own_q => ?_
  obtain ⟨⟨rfl, K, u, F1, F2, V_u⟩, -⟩ := own_q
  clear own_e
  replace E_sb := E_sb.keep K
  replace F_value_sb := F_value_sb.keep K (ninS ne_sb_x nin0)
  replace F_coder_sb := F_coder_sb.keep K (ninS ne_sb_x nin0)
  replace F_count_sb := F_count_sb.keep K (ninS ne_sb_x nin0)
  replace V_t := V_t.keep K (ninS ne_t_x nin0)
  replace E_t := E_t.keep K
  replace E_x := E_x.keep K
  replace Z0 := Nat.le_trans Z0 K.1
  replace OL := OL.keep K (allS g_x all0)
  replace KP := KP.trans K (allS (Or.inr sz_x) all0)
  show OwG p e below s _ _ _ _ T (mkF m 8 #[.val (.ref sb)] [(.ref x)])
  exact P.retR hx hlk hret rfl rfl (dc d13_8) (by first | omega | (dsimp only [room_1] <;> omega)) (by first | omega | (dsimp only [room_1] <;> omega)) ⟨x, u, rfl, KP, E_x, F1, F2, V_u⟩
theorem own_mkb (y : Int32) : 0 ≤ (y &&& (31 : Int32)).toInt ∧ (y &&& (31 : Int32)).toInt < 32 := by
  have h := c_mask y 31 5 (by decide) (by decide)
  omega
theorem own_mk0 (y : Int32) : ¬ (y &&& (31 : Int32)) < 0 := by
  have h := own_mkb y
  rw [Int32.lt_iff_toInt_lt, show (0 : Int32).toInt = 0 from rfl]; omega
theorem own_mk1 (y : Int32) : (y &&& (31 : Int32)) < 32 := by
  have h := own_mkb y
  rw [Int32.lt_iff_toInt_lt, show (32 : Int32).toInt = 32 from rfl]; omega
def own_bt (z x : Int32) : Int32 := ((z <<< ((8 : Int32) &&& 31)) ||| (x &&& (255 : Int32)))
def own_dg (z k : Int32) : Int32 := own_al ((z >>> (k &&& 31)) &&& (31 : Int32))
def own_dl (z k : Int32) : Int32 := own_al ((z <<< (((5 : Int32) - k) &&& 31)) &&& (31 : Int32))
theorem own_dgb (z k : Int32) : ¬ own_dg z k < 0 ∧ ¬ (255 : Int32) < own_dg z k := own_al_bd (own_mkb _).1 (own_mkb _).2
theorem own_dlb (z k : Int32) : ¬ own_dl z k < 0 ∧ ¬ (255 : Int32) < own_dl z k := own_al_bd (own_mkb _).1 (own_mkb _).2
def own_vz (cs : List Int32) (m : Nat) : List Value := (cs.map fun c => Value.int (StrChars.lo8 c)) ++ List.replicate m (.int 0)
theorem d2_66 : decode prog_8_method_2_code 66 = .ok (.iinc 3 (-5), 3) := by decide +kernel
theorem d2_69 : decode prog_8_method_2_code 69 = .ok (.aload_n 1, 1) := by decide +kernel
theorem d2_70 : decode prog_8_method_2_code 70 = .ok (.getstatic 12, 3) := by decide +kernel
theorem d2_73 : decode prog_8_method_2_code 73 = .ok (.iload_n 2, 1) := by decide +kernel
theorem d2_74 : decode prog_8_method_2_code 74 = .ok (.iload_n 3, 1) := by decide +kernel
theorem d2_75 : decode prog_8_method_2_code 75 = .ok (.ishr, 1) := by decide +kernel
theorem d2_76 : decode prog_8_method_2_code 76 = .ok (.bipush 31, 2) := by decide +kernel
theorem d2_78 : decode prog_8_method_2_code 78 = .ok (.iand, 1) := by decide +kernel
theorem d2_79 : decode prog_8_method_2_code 79 = .ok (.caload, 1) := by decide +kernel
theorem d2_80 : decode prog_8_method_2_code 80 = .ok (.invokevirtual 18, 3) := by decide +kernel
theorem pd__C_Ljava_lang_StringBuilder_ : parseMethodDescriptor "(C)Ljava/lang/StringBuilder;" = some ⟨[.char], some (.object "java/lang/StringBuilder")⟩ := by decide +kernel
theorem d2_83 : decode prog_8_method_2_code 83 = .ok (.pop, 1) := by decide +kernel
theorem d2_84 : decode prog_8_method_2_code 84 = .ok (.goto (-23), 3) := by decide +kernel
set_option maxRecDepth 65536 in
set_option maxHeartbeats 40000000 in
theorem own_sg {p : Program} {l : Launch} {e : Env} {s : State} {m : MethodId} {below : List Frame} {meth : Method} {cD : Code} {T : State} {Z : State} {a0 : Array Value} {n0 KK NN : Nat} {Q : Option Value → Heap → Prop} {h0 h1 : Heap} {a al sb t : Addr} {ka kal kt : ClassId} {na zC : Int32} {xa vs : List Value} {dal : Value} {N k : Nat} {z b b' i6 x7 : Int32} (hb' : b + (-5 : Int32) = b') (hw : ∀ d ∈ tables_1, d.before a0 Z = true) (hx : p.tables.exec = Jvm.exec) (hby : cD.code = prog_8_method_2_code) (hml : cD.maxLocals = 8) (hown : s.vm.findClass "com/example/grawl/grawl/util/Base32" = some m.cls) (hZ : Z.Warmed39 s.vm)
    (S2 : Sta Z Z.heap "java/lang/String" "COMPACT_STRINGS" "Z" (.int zC)) (hzC : ¬ zC = 0) (SAl : Sta Z Z.heap "com/example/grawl/grawl/util/Base32" "ALPHABET" "[C" (.ref al)) (hN : N ≤ 4000) (hvs : vs.length = N) (hk : k < N) (g_sb : n0 ≤ sb) (g_t : n0 ≤ t) (ne_sb_t : sb ≠ t) (ne_a_sb : a ≠ sb) (ne_a_t : a ≠ t) (ne_al_sb : al ≠ sb) (ne_al_t : al ≠ t) (sz_sb : h0.size ≤ sb) (sz_t : h0.size ≤ t)
    (P : OwP p l e ({ frames := 5, cells := 4, slots := 40, locals := 84 } : Room) s m #[.ref a] below meth cD n0 T h1 2 20) (Z0 : n0 ≤ h1.size) (OL : Old Z n0 h1) (KP : Keep h0 h1 []) (V_a : Arv Z h1 a ka .byte na xa (.int 0)) (V_al : Arv Z h1 al kal .char (32 : Int32) own_alist dal) (E_sb : Exa Z h1 sb "java/lang/StringBuilder") (F_value_sb : Fld Z h1 sb "java/lang/AbstractStringBuilder" "value" "[B" (.ref t)) (F_coder_sb : Fld Z h1 sb "java/lang/AbstractStringBuilder" "coder" "B" (.int 0)) (F_count_sb : Fld Z h1 sb "java/lang/AbstractStringBuilder" "count" "I" (.int (Int32.ofNat k))) (V_t : Arv Z h1 t kt .byte (Int32.ofNat N) vs (.int 0)) (E_t : Exa Z h1 t "[B")
    (K : ∀ (T : State) (h2 : Heap), OwP p l e ({ frames := 5, cells := 4, slots := 40, locals := 84 } : Room) s m #[.ref a] below meth cD n0 T h2 2 20 → n0 ≤ h2.size → Old Z n0 h2 → Keep h0 h2 [] → Arv Z h2 a ka .byte na xa (.int 0) → Arv Z h2 al kal .char (32 : Int32) own_alist dal → Exa Z h2 sb "java/lang/StringBuilder" → Fld Z h2 sb "java/lang/AbstractStringBuilder" "value" "[B" (.ref t) → Fld Z h2 sb "java/lang/AbstractStringBuilder" "coder" "B" (.int 0) → Fld Z h2 sb "java/lang/AbstractStringBuilder" "count" "I" (.int (Int32.ofNat (k + 1))) → Arv Z h2 t kt .byte (Int32.ofNat N) (vs.set k (.int (StrChars.lo8 (own_dg z b')))) (.int 0) → Exa Z h2 t "[B" → OwG p e below s n0 KK NN Q T (mkF m 61 #[.val (.ref a), .val (.ref sb), .val (.int z), .val (.int b'), .val (.ref a), .val (.int na), .val (.int i6), .val (.int x7)] [])) :
    OwG p e below s n0 KK NN Q T (mkF m 66 #[.val (.ref a), .val (.ref sb), .val (.int z), .val (.int b), .val (.ref a), .val (.int na), .val (.int i6), .val (.int x7)] []) := by
  have dc := @Jvm.hb cD _ hby
  refine OwG.ac (mkF m 70 #[.val (.ref a), .val (.ref sb), .val (.int z), .val (.int (b + (-5 : Int32))), .val (.ref a), .val (.int na), .val (.int i6), .val (.int x7)] [(.ref sb)]) (fun tQ kQ => ?_) ?_
  · refine XS.iinc P.here hx rfl (dc d2_66) rfl (l' := #[.val (.ref a), .val (.ref sb), .val (.int z), .val (.int (b + (-5 : Int32))), .val (.ref a), .val (.int na), .val (.int i6), .val (.int x7)]) rfl ?_
    exact XS.aloadN P.here hx rfl (dc d2_69) rfl rfl kQ
  rw [show (b + (-5 : Int32)) = b' from hb']
  show OwG p e below s _ _ _ _ T (mkF m 70 #[.val (.ref a), .val (.ref sb), .val (.int z), .val (.int b'), .val (.ref a), .val (.int na), .val (.int i6), .val (.int x7)] [(.ref sb)])
  refine P.getS hx hZ hown (host := "") (Or.inl (own_w hw 32 rfl)) Via.refl (SAl.ext OL.2) rfl (dc d2_70) fun T P => ?_
  show OwG p e below s _ _ _ _ T (mkF m 73 #[.val (.ref a), .val (.ref sb), .val (.int z), .val (.int b'), .val (.ref a), .val (.int na), .val (.int i6), .val (.int x7)] [(.ref al), (.ref sb)])
  refine OwG.ac (mkF m 79 #[.val (.ref a), .val (.ref sb), .val (.int z), .val (.int b'), .val (.ref a), .val (.int na), .val (.int i6), .val (.int x7)] [(.int ((z >>> (b' &&& 31)) &&& (31 : Int32))), (.ref al), (.ref sb)]) (fun tQ kQ => ?_) ?_
  · refine XS.iloadN P.here hx rfl (dc d2_73) rfl ?_
    refine XS.iloadN P.here hx rfl (dc d2_74) rfl ?_
    refine XS.ishr P.here hx rfl (dc d2_75) rfl ?_
    refine XS.bipush P.here hx rfl (dc d2_76) ?_
    exact XS.iand P.here hx rfl (dc d2_78) rfl kQ
  obtain ⟨own_cl, own_A, own_q1, own_S, own_M, own_H, own_U⟩ := id V_al
  obtain ⟨own_L, own_X, own_e, own_N⟩ := id P
  have own_Z := hZ
  have own_in := inb_of own_S (j := ((z >>> (b' &&& 31)) &&& (31 : Int32))) ⟨own_mk0 _, own_mk1 _⟩
  refine OwG.ac (mkF m 80 #[.val (.ref a), .val (.ref sb), .val (.int z), .val (.int b'), .val (.ref a), .val (.int na), .val (.int i6), .val (.int x7)] [(.int (own_dg z b')), (.ref sb)]) (fun tQ kQ => ?_) ?_
  · exact own_X.caload hx (j := ((z >>> (b' &&& 31)) &&& (31 : Int32))) (v := (.int (own_dg z b'))) (by rw [own_e]; exact own_A.1) (State.isArrayOf_alike own_Z.alike own_A.2.1) own_A.2.2 own_in (Has.at own_H own_in (own_alat (own_mkb _).1 (own_mkb _).2)) (g := (mkF m 79 #[.val (.ref a), .val (.ref sb), .val (.int z), .val (.int b'), .val (.ref a), .val (.int na), .val (.int i6), .val (.int x7)] [(.int ((z >>> (b' &&& 31)) &&& (31 : Int32))), (.ref al), (.ref sb)])) rfl rfl (dc d2_79) _ kQ
  refine P.virtual hx hZ (y := (⟨"java/lang/StringBuilder", "append", "(C)Ljava/lang/StringBuilder;"⟩ : MethodName)) hown (own_w hw 34 rfl) (own_w hw 35 rfl) (own_w hw 37 rfl) (own_w hw 36 rfl) (by decide) (OwM.back (W := 0) (rmAp l Z a0 hw sb t kt N k vs (own_dg z b') zC h1 n0 Z0 S2 hzC OL E_sb F_value_sb F_coder_sb F_count_sb V_t hN hvs hk (own_dgb _ _) g_sb g_t ne_sb_t) hZ (own_w hw 38 rfl) (own_w hw 13 rfl) (own_le rfl) (own_le rfl)) (fun _ _ _ q => q.2) E_sb rfl (by rw [hml]; rfl) (argsL := [(.int (own_dg z b'))]) (rest := []) (lenOf pd__C_Ljava_lang_StringBuilder_ rfl) rfl (own_le rfl) (dc d2_80) rfl (own_le rfl) (own_le rfl) fun T own_v own_L h2 own_e P own_q => ?_
  obtain ⟨⟨rfl, K1, F_value_sb', F_coder_sb', F_count_sb', V_t'⟩, -⟩ := own_q
  clear own_e
  replace V_a := V_a.keep K1 (ninS ne_a_sb (ninS ne_a_t nin0))
  replace V_al := V_al.keep K1 (ninS ne_al_sb (ninS ne_al_t nin0))
  replace E_sb := E_sb.keep K1
  replace E_t := E_t.keep K1
  replace Z0 := Nat.le_trans Z0 K1.1
  replace OL := OL.keep K1 (allS g_sb (allS g_t all0))
  replace KP := KP.trans K1 (allS (Or.inr sz_sb) (allS (Or.inr sz_t) all0))
  show OwG p e below s _ _ _ _ T (mkF m 83 #[.val (.ref a), .val (.ref sb), .val (.int z), .val (.int b'), .val (.ref a), .val (.int na), .val (.int i6), .val (.int x7)] [(.ref sb)])
  refine OwG.ac (mkF m 61 #[.val (.ref a), .val (.ref sb), .val (.int z), .val (.int b'), .val (.ref a), .val (.int na), .val (.int i6), .val (.int x7)] []) (fun tQ kQ => ?_) ?_
  · refine XS.pop P.here hx rfl (dc d2_83) rfl rfl ?_
    exact XS.goto P.here hx rfl (pc0 := 84) (pc' := 61) rfl (dc d2_84) (by decide) (by decide) kQ
  exact K T h2 P Z0 OL KP V_a V_al E_sb F_value_sb' F_coder_sb' F_count_sb' V_t' E_t
theorem d2_97 : decode prog_8_method_2_code 97 = .ok (.aload_n 1, 1) := by decide +kernel
theorem d2_98 : decode prog_8_method_2_code 98 = .ok (.getstatic 12, 3) := by decide +kernel
theorem d2_101 : decode prog_8_method_2_code 101 = .ok (.iload_n 2, 1) := by decide +kernel
theorem d2_102 : decode prog_8_method_2_code 102 = .ok (.iconst 5, 1) := by decide +kernel
theorem d2_103 : decode prog_8_method_2_code 103 = .ok (.iload_n 3, 1) := by decide +kernel
theorem d2_104 : decode prog_8_method_2_code 104 = .ok (.isub, 1) := by decide +kernel
theorem d2_105 : decode prog_8_method_2_code 105 = .ok (.ishl, 1) := by decide +kernel
theorem d2_106 : decode prog_8_method_2_code 106 = .ok (.bipush 31, 2) := by decide +kernel
theorem d2_108 : decode prog_8_method_2_code 108 = .ok (.iand, 1) := by decide +kernel
theorem d2_109 : decode prog_8_method_2_code 109 = .ok (.caload, 1) := by decide +kernel
theorem d2_110 : decode prog_8_method_2_code 110 = .ok (.invokevirtual 18, 3) := by decide +kernel
theorem d2_113 : decode prog_8_method_2_code 113 = .ok (.pop, 1) := by decide +kernel
set_option maxRecDepth 65536 in
set_option maxHeartbeats 40000000 in
theorem own_sl {p : Program} {l : Launch} {e : Env} {s : State} {m : MethodId} {below : List Frame} {meth : Method} {cD : Code} {T : State} {Z : State} {a0 : Array Value} {n0 KK NN : Nat} {Q : Option Value → Heap → Prop} {h0 h1 : Heap} {a al sb t : Addr} {ka kal kt : ClassId} {na zC : Int32} {xa vs : List Value} {dal : Value} {N k : Nat} {z b i6 : Int32} {s7 : Slot} (hw : ∀ d ∈ tables_1, d.before a0 Z = true) (hx : p.tables.exec = Jvm.exec) (hby : cD.code = prog_8_method_2_code) (hml : cD.maxLocals = 8) (hown : s.vm.findClass "com/example/grawl/grawl/util/Base32" = some m.cls) (hZ : Z.Warmed39 s.vm)
    (S2 : Sta Z Z.heap "java/lang/String" "COMPACT_STRINGS" "Z" (.int zC)) (hzC : ¬ zC = 0) (SAl : Sta Z Z.heap "com/example/grawl/grawl/util/Base32" "ALPHABET" "[C" (.ref al)) (hN : N ≤ 4000) (hvs : vs.length = N) (hk : k < N) (g_sb : n0 ≤ sb) (g_t : n0 ≤ t) (ne_sb_t : sb ≠ t) (ne_a_sb : a ≠ sb) (ne_a_t : a ≠ t) (ne_al_sb : al ≠ sb) (ne_al_t : al ≠ t) (sz_sb : h0.size ≤ sb) (sz_t : h0.size ≤ t)
    (P : OwP p l e ({ frames := 5, cells := 4, slots := 40, locals := 84 } : Room) s m #[.ref a] below meth cD n0 T h1 2 20) (Z0 : n0 ≤ h1.size) (OL : Old Z n0 h1) (KP : Keep h0 h1 []) (V_a : Arv Z h1 a ka .byte na xa (.int 0)) (V_al : Arv Z h1 al kal .char (32 : Int32) own_alist dal) (E_sb : Exa Z h1 sb "java/lang/StringBuilder") (F_value_sb : Fld Z h1 sb "java/lang/AbstractStringBuilder" "value" "[B" (.ref t)) (F_coder_sb : Fld Z h1 sb "java/lang/AbstractStringBuilder" "coder" "B" (.int 0)) (F_count_sb : Fld Z h1 sb "java/lang/AbstractStringBuilder" "count" "I" (.int (Int32.ofNat k))) (V_t : Arv Z h1 t kt .byte (Int32.ofNat N) vs (.int 0)) (E_t : Exa Z h1 t "[B")
    (K : ∀ (T : State) (h2 : Heap), OwP p l e ({ frames := 5, cells := 4, slots := 40, locals := 84 } : Room) s m #[.ref a] below meth cD n0 T h2 2 20 → n0 ≤ h2.size → Old Z n0 h2 → Keep h0 h2 [] → Arv Z h2 a ka .byte na xa (.int 0) → Arv Z h2 al kal .char (32 : Int32) own_alist dal → Exa Z h2 sb "java/lang/StringBuilder" → Fld Z h2 sb "java/lang/AbstractStringBuilder" "value" "[B" (.ref t) → Fld Z h2 sb "java/lang/AbstractStringBuilder" "coder" "B" (.int 0) → Fld Z h2 sb "java/lang/AbstractStringBuilder" "count" "I" (.int (Int32.ofNat (k + 1))) → Arv Z h2 t kt .byte (Int32.ofNat N) (vs.set k (.int (StrChars.lo8 (own_dl z b)))) (.int 0) → Exa Z h2 t "[B" → OwG p e below s n0 KK NN Q T (mkF m 114 #[.val (.ref a), .val (.ref sb), .val (.int z), .val (.int b), .val (.ref a), .val (.int na), .val (.int i6), s7] [])) :
    OwG p e below s n0 KK NN Q T (mkF m 97 #[.val (.ref a), .val (.ref sb), .val (.int z), .val (.int b), .val (.ref a), .val (.int na), .val (.int i6), s7] []) := by
  have dc := @Jvm.hb cD _ hby
  refine OwG.ac (mkF m 98 #[.val (.ref a), .val (.ref sb), .val (.int z), .val (.int b), .val (.ref a), .val (.int na), .val (.int i6), s7] [(.ref sb)]) (fun tQ kQ => ?_) ?_
  · exact XS.aloadN P.here hx rfl (dc d2_97) rfl rfl kQ
  refine P.getS hx hZ hown (host := "") (Or.inl (own_w hw 32 rfl)) Via.refl (SAl.ext OL.2) rfl (dc d2_98) fun T P => ?_
  show OwG p e below s _ _ _ _ T (mkF m 101 #[.val (.ref a), .val (.ref sb), .val (.int z), .val (.int b), .val (.ref a), .val (.int na), .val (.int i6), s7] [(.ref al), (.ref sb)])
  refine OwG.ac (mkF m 109 #[.val (.ref a), .val (.ref sb), .val (.int z), .val (.int b), .val (.ref a), .val (.int na), .val (.int i6), s7] [(.int ((z <<< (((5 : Int32) - b) &&& 31)) &&& (31 : Int32))), (.ref al), (.ref sb)]) (fun tQ kQ => ?_) ?_
  · refine XS.iloadN P.here hx rfl (dc d2_101) rfl ?_
    refine XS.iconst P.here hx rfl (dc d2_102) ?_
    refine XS.iloadN P.here hx rfl (dc d2_103) rfl ?_
    refine XS.isub P.here hx rfl (dc d2_104) rfl ?_
    refine XS.ishl P.here hx rfl (dc d2_105) rfl ?_
    refine XS.bipush P.here hx rfl (dc d2_106) ?_
    exact XS.iand P.here hx rfl (dc d2_108) rfl kQ
  obtain ⟨own_cl, own_A, own_q1, own_S, own_M, own_H, own_U⟩ := id V_al
  obtain ⟨own_L, own_X, own_e, own_N⟩ := id P
  have own_Z := hZ
  have own_in := inb_of own_S (j := ((z <<< (((5 : Int32) - b) &&& 31)) &&& (31 : Int32))) ⟨own_mk0 _, own_mk1 _⟩
  refine OwG.ac (mkF m 110 #[.val (.ref a), .val (.ref sb), .val (.int z), .val (.int b), .val (.ref a), .val (.int na), .val (.int i6), s7] [(.int (own_dl z b)), (.ref sb)]) (fun tQ kQ => ?_) ?_
  · exact own_X.caload hx (j := ((z <<< (((5 : Int32) - b) &&& 31)) &&& (31 : Int32))) (v := (.int (own_dl z b))) (by rw [own_e]; exact own_A.1) (State.isArrayOf_alike own_Z.alike own_A.2.1) own_A.2.2 own_in (Has.at own_H own_in (own_alat (own_mkb _).1 (own_mkb _).2)) (g := (mkF m 109 #[.val (.ref a), .val (.ref sb), .val (.int z), .val (.int b), .val (.ref a), .val (.int na), .val (.int i6), s7] [(.int ((z <<< (((5 : Int32) - b) &&& 31)) &&& (31 : Int32))), (.ref al), (.ref sb)])) rfl rfl (dc d2_109) _ kQ
  refine P.virtual hx hZ (y := (⟨"java/lang/StringBuilder", "append", "(C)Ljava/lang/StringBuilder;"⟩ : MethodName)) hown (own_w hw 34 rfl) (own_w hw 35 rfl) (own_w hw 37 rfl) (own_w hw 36 rfl) (by decide) (OwM.back (W := 0) (rmAp l Z a0 hw sb t kt N k vs (own_dl z b) zC h1 n0 Z0 S2 hzC OL E_sb F_value_sb F_coder_sb F_count_sb V_t hN hvs hk (own_dlb _ _) g_sb g_t ne_sb_t) hZ (own_w hw 38 rfl) (own_w hw 13 rfl) (own_le rfl) (own_le rfl)) (fun _ _ _ q => q.2) E_sb rfl (by rw [hml]; rfl) (argsL := [(.int (own_dl z b))]) (rest := []) (lenOf pd__C_Ljava_lang_StringBuilder_ rfl) rfl (own_le rfl) (dc d2_110) rfl (own_le rfl) (own_le rfl) fun T own_v own_L h2 own_e P own_q => ?_
  obtain ⟨⟨rfl, K1, F_value_sb', F_coder_sb', F_count_sb', V_t'⟩, -⟩ := own_q
  clear own_e
  replace V_a := V_a.keep K1 (ninS ne_a_sb (ninS ne_a_t nin0))
  replace V_al := V_al.keep K1 (ninS ne_al_sb (ninS ne_al_t nin0))
  replace E_sb := E_sb.keep K1
  replace E_t := E_t.keep K1
  replace Z0 := Nat.le_trans Z0 K1.1
  replace OL := OL.keep K1 (allS g_sb (allS g_t all0))
  replace KP := KP.trans K1 (allS (Or.inr sz_sb) (allS (Or.inr sz_t) all0))
  show OwG p e below s _ _ _ _ T (mkF m 113 #[.val (.ref a), .val (.ref sb), .val (.int z), .val (.int b), .val (.ref a), .val (.int na), .val (.int i6), s7] [(.ref sb)])
  refine OwG.ac (mkF m 114 #[.val (.ref a), .val (.ref sb), .val (.int z), .val (.int b), .val (.ref a), .val (.int na), .val (.int i6), s7] []) (fun tQ kQ => ?_) ?_
  · exact XS.pop P.here hx rfl (dc d2_113) rfl rfl kQ
  exact K T h2 P Z0 OL KP V_a V_al E_sb F_value_sb' F_coder_sb' F_count_sb' V_t' E_t
theorem d2_114 : decode prog_8_method_2_code 114 = .ok (.aload_n 1, 1) := by decide +kernel
theorem d2_115 : decode prog_8_method_2_code 115 = .ok (.invokevirtual 22, 3) := by decide +kernel
theorem d2_118 : decode prog_8_method_2_code 118 = .ok (.bipush 8, 2) := by decide +kernel
theorem d2_120 : decode prog_8_method_2_code 120 = .ok (.irem, 1) := by decide +kernel
theorem d2_121 : decode prog_8_method_2_code 121 = .ok (.ifCond .eq 13, 3) := by decide +kernel
theorem d2_124 : decode prog_8_method_2_code 124 = .ok (.aload_n 1, 1) := by decide +kernel
theorem d2_125 : decode prog_8_method_2_code 125 = .ok (.bipush 61, 2) := by decide +kernel
theorem d2_127 : decode prog_8_method_2_code 127 = .ok (.invokevirtual 18, 3) := by decide +kernel
theorem d2_130 : decode prog_8_method_2_code 130 = .ok (.pop, 1) := by decide +kernel
theorem d2_131 : decode prog_8_method_2_code 131 = .ok (.goto (-17), 3) := by decide +kernel
set_option maxRecDepth 65536 in
set_option maxHeartbeats 40000000 in
theorem own_sp {p : Program} {l : Launch} {e : Env} {s : State} {m : MethodId} {below : List Frame} {meth : Method} {cD : Code} {T : State} {Z : State} {a0 : Array Value} {n0 KK NN : Nat} {Q : Option Value → Heap → Prop} {h0 h1 : Heap} {a al sb t : Addr} {ka kal kt : ClassId} {na zC : Int32} {xa vs : List Value} {dal : Value} {N k : Nat} {z b i6 : Int32} {s7 : Slot} (hm : ¬ Int32.ofNat k % (8 : Int32) = 0) (hw : ∀ d ∈ tables_1, d.before a0 Z = true) (hx : p.tables.exec = Jvm.exec) (hby : cD.code = prog_8_method_2_code) (hml : cD.maxLocals = 8) (hown : s.vm.findClass "com/example/grawl/grawl/util/Base32" = some m.cls) (hZ : Z.Warmed39 s.vm)
    (S2 : Sta Z Z.heap "java/lang/String" "COMPACT_STRINGS" "Z" (.int zC)) (hzC : ¬ zC = 0) (SAl : Sta Z Z.heap "com/example/grawl/grawl/util/Base32" "ALPHABET" "[C" (.ref al)) (hN : N ≤ 4000) (hvs : vs.length = N) (hk : k < N) (g_sb : n0 ≤ sb) (g_t : n0 ≤ t) (ne_sb_t : sb ≠ t) (ne_a_sb : a ≠ sb) (ne_a_t : a ≠ t) (ne_al_sb : al ≠ sb) (ne_al_t : al ≠ t) (sz_sb : h0.size ≤ sb) (sz_t : h0.size ≤ t)
    (P : OwP p l e ({ frames := 5, cells := 4, slots := 40, locals := 84 } : Room) s m #[.ref a] below meth cD n0 T h1 2 20) (Z0 : n0 ≤ h1.size) (OL : Old Z n0 h1) (KP : Keep h0 h1 []) (V_a : Arv Z h1 a ka .byte na xa (.int 0)) (V_al : Arv Z h1 al kal .char (32 : Int32) own_alist dal) (E_sb : Exa Z h1 sb "java/lang/StringBuilder") (F_value_sb : Fld Z h1 sb "java/lang/AbstractStringBuilder" "value" "[B" (.ref t)) (F_coder_sb : Fld Z h1 sb "java/lang/AbstractStringBuilder" "coder" "B" (.int 0)) (F_count_sb : Fld Z h1 sb "java/lang/AbstractStringBuilder" "count" "I" (.int (Int32.ofNat k))) (V_t : Arv Z h1 t kt .byte (Int32.ofNat N) vs (.int 0)) (E_t : Exa Z h1 t "[B")
    (K : ∀ (T : State) (h2 : Heap), OwP p l e ({ frames := 5, cells := 4, slots := 40, locals := 84 } : Room) s m #[.ref a] below meth cD n0 T h2 2 20 → n0 ≤ h2.size → Old Z n0 h2 → Keep h0 h2 [] → Arv Z h2 a ka .byte na xa (.int 0) → Arv Z h2 al kal .char (32 : Int32) own_alist dal → Exa Z h2 sb "java/lang/StringBuilder" → Fld Z h2 sb "java/lang/AbstractStringBuilder" "value" "[B" (.ref t) → Fld Z h2 sb "java/lang/AbstractStringBuilder" "coder" "B" (.int 0) → Fld Z h2 sb "java/lang/AbstractStringBuilder" "count" "I" (.int (Int32.ofNat (k + 1))) → Arv Z h2 t kt .byte (Int32.ofNat N) (vs.set k (.int (StrChars.lo8 (61 : Int32)))) (.int 0) → Exa Z h2 t "[B" → OwG p e below s n0 KK NN Q T (mkF m 114 #[.val (.ref a), .val (.ref sb), .val (.int z), .val (.int b), .val (.ref a), .val (.int na), .val (.int i6), s7] [])) :
    OwG p e below s n0 KK NN Q T (mkF m 114 #[.val (.ref a), .val (.ref sb), .val (.int z), .val (.int b), .val (.ref a), .val (.int na), .val (.int i6), s7] []) := by
  have dc := @Jvm.hb cD _ hby
  refine OwG.ac (mkF m 115 #[.val (.ref a), .val (.ref sb), .val (.int z), .val (.int b), .val (.ref a), .val (.int na), .val (.int i6), s7] [(.ref sb)]) (fun tQ kQ => ?_) ?_
  · exact XS.aloadN P.here hx rfl (dc d2_114) rfl rfl kQ
  refine P.virtual hx hZ (y := (⟨"java/lang/StringBuilder", "length", "()I"⟩ : MethodName)) hown (own_w hw 60 rfl) (own_w hw 61 rfl) (own_w hw 63 rfl) (own_w hw 62 rfl) (by decide) (OwM.back (W := 0) (rmSl l Z a0 hw sb (Int32.ofNat k) h1 n0 Z0 E_sb F_count_sb) hZ (own_w hw 64 rfl) (own_w hw 13 rfl) (own_le rfl) (own_le rfl)) (fun _ _ _ q => q.2) E_sb rfl (by rw [hml]; rfl) (argsL := []) (rest := []) (lenOf pd___I rfl) rfl (own_le rfl) (dc d2_115) rfl (own_le rfl) (own_le rfl) fun T own_v own_L h2 own_e P own_q => ?_
  obtain ⟨⟨rfl, own_hh⟩, -⟩ := own_q
  rw [own_hh] at P
  clear own_e own_hh
  show OwG p e below s _ _ _ _ T (mkF m 118 #[.val (.ref a), .val (.ref sb), .val (.int z), .val (.int b), .val (.ref a), .val (.int na), .val (.int i6), s7] [(.int (Int32.ofNat k))])
  refine OwG.ac (mkF m 120 #[.val (.ref a), .val (.ref sb), .val (.int z), .val (.int b), .val (.ref a), .val (.int na), .val (.int i6), s7] [(.int 8), (.int (Int32.ofNat k))]) (fun tQ kQ => ?_) ?_
  · exact XS.bipush P.here hx rfl (dc d2_118) kQ
  obtain ⟨own_L, own_X, own_rest⟩ := id P
  refine OwG.ac (mkF m 127 #[.val (.ref a), .val (.ref sb), .val (.int z), .val (.int b), .val (.ref a), .val (.int na), .val (.int i6), s7] [(.int 61), (.ref sb)]) (fun tQ kQ => ?_) ?_
  · refine Jvm.RoadKit.iremM (g := (mkF m 120 #[.val (.ref a), .val (.ref sb), .val (.int z), .val (.int b), .val (.ref a), .val (.int na), .val (.int i6), s7] [(.int 8), (.int (Int32.ofNat k))])) own_X hx rfl (dc d2_120) rfl (by decide) ?_
    refine XS.ifNo P.here hx rfl (dc d2_121) rfl ((if0 _ _).trans (feq hm).1) ?_
    refine XS.aloadN P.here hx rfl (dc d2_124) rfl rfl ?_
    exact XS.bipush P.here hx rfl (dc d2_125) kQ
  refine P.virtual hx hZ (y := (⟨"java/lang/StringBuilder", "append", "(C)Ljava/lang/StringBuilder;"⟩ : MethodName)) hown (own_w hw 34 rfl) (own_w hw 35 rfl) (own_w hw 37 rfl) (own_w hw 36 rfl) (by decide) (OwM.back (W := 0) (rmAp l Z a0 hw sb t kt N k vs (61 : Int32) zC h1 n0 Z0 S2 hzC OL E_sb F_value_sb F_coder_sb F_count_sb V_t hN hvs hk (by decide) g_sb g_t ne_sb_t) hZ (own_w hw 38 rfl) (own_w hw 13 rfl) (own_le rfl) (own_le rfl)) (fun _ _ _ q => q.2) E_sb rfl (by rw [hml]; rfl) (argsL := [(.int 61)]) (rest := []) (lenOf pd__C_Ljava_lang_StringBuilder_ rfl) rfl (own_le rfl) (dc d2_127) rfl (own_le rfl) (own_le rfl) fun T own_v own_L h3 own_e P own_q => ?_
  obtain ⟨⟨rfl, K1, F_value_sb', F_coder_sb', F_count_sb', V_t'⟩, -⟩ := own_q
  clear own_e
  replace V_a := V_a.keep K1 (ninS ne_a_sb (ninS ne_a_t nin0))
  replace V_al := V_al.keep K1 (ninS ne_al_sb (ninS ne_al_t nin0))
  replace E_sb := E_sb.keep K1
  replace E_t := E_t.keep K1
  replace Z0 := Nat.le_trans Z0 K1.1
  replace OL := OL.keep K1 (allS g_sb (allS g_t all0))
  replace KP := KP.trans K1 (allS (Or.inr sz_sb) (allS (Or.inr sz_t) all0))
  show OwG p e below s _ _ _ _ T (mkF m 130 #[.val (.ref a), .val (.ref sb), .val (.int z), .val (.int b), .val (.ref a), .val (.int na), .val (.int i6), s7] [(.ref sb)])
  refine OwG.ac (mkF m 114 #[.val (.ref a), .val (.ref sb), .val (.int z), .val (.int b), .val (.ref a), .val (.int na), .val (.int i6), s7] []) (fun tQ kQ => ?_) ?_
  · refine XS.pop P.here hx rfl (dc d2_130) rfl rfl ?_
    exact XS.goto P.here hx rfl (pc0 := 131) (pc' := 114) rfl (dc d2_131) (by decide) (by decide) kQ
  exact K T h3 P Z0 OL KP V_a V_al E_sb F_value_sb' F_coder_sb' F_count_sb' V_t' E_t
theorem d2_0 : decode prog_8_method_2_code 0 = .ok (.new 7, 3) := by decide +kernel
theorem d2_3 : decode prog_8_method_2_code 3 = .ok (.dup, 1) := by decide +kernel
theorem d2_4 : decode prog_8_method_2_code 4 = .ok (.aload_n 0, 1) := by decide +kernel
theorem d2_5 : decode prog_8_method_2_code 5 = .ok (.arraylength, 1) := by decide +kernel
theorem d2_6 : decode prog_8_method_2_code 6 = .ok (.iconst 4, 1) := by decide +kernel
theorem d2_7 : decode prog_8_method_2_code 7 = .ok (.iadd, 1) := by decide +kernel
theorem d2_8 : decode prog_8_method_2_code 8 = .ok (.iconst 5, 1) := by decide +kernel
theorem d2_9 : decode prog_8_method_2_code 9 = .ok (.idiv, 1) := by decide +kernel
theorem d2_10 : decode prog_8_method_2_code 10 = .ok (.bipush 8, 2) := by decide +kernel
theorem d2_12 : decode prog_8_method_2_code 12 = .ok (.imul, 1) := by decide +kernel
theorem d2_13 : decode prog_8_method_2_code 13 = .ok (.invokespecial 9, 3) := by decide +kernel
theorem d2_16 : decode prog_8_method_2_code 16 = .ok (.astore_n 1, 1) := by decide +kernel
theorem d2_17 : decode prog_8_method_2_code 17 = .ok (.iconst 0, 1) := by decide +kernel
theorem d2_18 : decode prog_8_method_2_code 18 = .ok (.istore_n 2, 1) := by decide +kernel
theorem d2_19 : decode prog_8_method_2_code 19 = .ok (.iconst 0, 1) := by decide +kernel
theorem d2_20 : decode prog_8_method_2_code 20 = .ok (.istore_n 3, 1) := by decide +kernel
theorem d2_21 : decode prog_8_method_2_code 21 = .ok (.aload_n 0, 1) := by decide +kernel
theorem d2_22 : decode prog_8_method_2_code 22 = .ok (.astore 4, 2) := by decide +kernel
theorem d2_24 : decode prog_8_method_2_code 24 = .ok (.aload 4, 2) := by decide +kernel
theorem d2_26 : decode prog_8_method_2_code 26 = .ok (.arraylength, 1) := by decide +kernel
theorem d2_27 : decode prog_8_method_2_code 27 = .ok (.istore 5, 2) := by decide +kernel
theorem d2_29 : decode prog_8_method_2_code 29 = .ok (.iconst 0, 1) := by decide +kernel
theorem d2_30 : decode prog_8_method_2_code 30 = .ok (.istore 6, 2) := by decide +kernel
theorem d2_32 : decode prog_8_method_2_code 32 = .ok (.iload 6, 2) := by decide +kernel
theorem d2_34 : decode prog_8_method_2_code 34 = .ok (.iload 5, 2) := by decide +kernel
theorem d2_36 : decode prog_8_method_2_code 36 = .ok (.if_icmp .ge 57, 3) := by decide +kernel
theorem d2_93 : decode prog_8_method_2_code 93 = .ok (.iload_n 3, 1) := by decide +kernel
theorem d2_94 : decode prog_8_method_2_code 94 = .ok (.ifCond .le 20, 3) := by decide +kernel
theorem d2_134 : decode prog_8_method_2_code 134 = .ok (.aload_n 1, 1) := by decide +kernel
theorem d2_135 : decode prog_8_method_2_code 135 = .ok (.invokevirtual 26, 3) := by decide +kernel
theorem pd___Ljava_lang_String_ : parseMethodDescriptor "()Ljava/lang/String;" = some ⟨[], some (.object "java/lang/String")⟩ := by decide +kernel
theorem d2_138 : decode prog_8_method_2_code 138 = .ok (.areturn, 1) := by decide +kernel
theorem pn_com_example_grawl_grawl_util_Base32 : plainName "com/example/grawl/grawl/util/Base32" = true := by first | (simp [plainName, overriddenIn]; done) | decide +kernel
set_option maxRecDepth 65536 in
set_option maxHeartbeats 40000000 in
theorem rmE0 (l : Launch) (Z : State) (a0 : Array Value) (hw : ∀ d ∈ tables_1, d.before a0 Z = true) (a al : Addr) (ka kal : ClassId) (dal : Value) (zC : Int32) (h0 : Heap) (n0 : Nat) (Z0 : n0 ≤ h0.size) (S2 : Sta Z Z.heap "java/lang/String" "COMPACT_STRINGS" "Z" (.int zC)) (hzC : ¬ zC = 0) (OL : Old Z n0 h0) (SAl : Sta Z Z.heap "com/example/grawl/grawl/util/Base32" "ALPHABET" "[C" (.ref al)) (V_a : Arv Z h0 a ka .byte (0 : Int32) [] (.int 0)) (V_al : Arv Z h0 al kal .char (32 : Int32) own_alist dal) :
    OwM l Z (⟨"com/example/grawl/grawl/util/Base32", "encode", "([B)Ljava/lang/String;"⟩ : MethodName) prog_8_method_2_code 8 (some (.object "java/lang/String")) ({ frames := 5, cells := 4, slots := 40, locals := 84 } : Room) n0 #[(.ref a)] h0 (fun v h => ∃ (x u : Addr) (ku : ClassId), v = some (.ref x) ∧ Keep h0 h [] ∧ Exa Z h x "java/lang/String" ∧ Fld Z h x "java/lang/String" "value" "[B" (.ref u) ∧ Fld Z h x "java/lang/String" "coder" "B" (.int 0) ∧ Arv Z h u ku .byte (Int32.ofNat 0) (own_vz [] 0) (.int 0)) := by
  refine OwM.mk (plainFor_of_name pn_com_example_grawl_grawl_util_Base32) ?_
  intro p e s m below meth cD T hx hby hml hown hnm hret hlk hZ P
  have dc := @Jvm.hb cD _ hby
  refine OwG.cast (show entryFrame m #[(.ref a)] 8 = mkF m 0 #[.val (.ref a), .unset, .unset, .unset, .unset, .unset, .unset, .unset] [] from by first | (simp [entryFrame, mkF, argsToLocals, Value.category]; done) | rfl) ?_
  have KP := Keep.refl h0 []
  refine P.newO hx hZ hown (own_w hw 11 rfl) (own_w hw 12 rfl) (own_w hw 13 rfl) rfl (dc d2_0) (own_le rfl) (own_le rfl) fun T h1 sb gsb P E A D => ?_
  have ne_a_sb : a ≠ sb := Nat.ne_of_lt (Nat.lt_of_lt_of_le V_a.lt (Nat.le_of_eq gsb.symm))
  have ne_sb_a := Ne.symm ne_a_sb
  have ne_al_sb : al ≠ sb := Nat.ne_of_lt (Nat.lt_of_lt_of_le V_al.lt (Nat.le_of_eq gsb.symm))
  have ne_sb_al := Ne.symm ne_al_sb
  have g_sb : n0 ≤ sb := Nat.le_trans Z0 (Nat.le_of_eq gsb.symm)
  have sz_sb : h0.size ≤ sb := Nat.le_trans KP.1 (Nat.le_of_eq gsb.symm)
  replace V_a := V_a.ext E
  replace V_al := V_al.ext E
  replace Z0 := Nat.le_trans Z0 E.1
  replace OL := OL.ext E
  replace KP := KP.ext E
  have E_sb := A
  have F_value_sb : Fld Z h1 sb "java/lang/AbstractStringBuilder" "value" "[B" .null := D (Or.inl (own_w hw 29 rfl)) (ty := (.array .byte)) (by decide)
  have F_coder_sb : Fld Z h1 sb "java/lang/AbstractStringBuilder" "coder" "B" (.int 0) := D (Or.inl (own_w hw 31 rfl)) (ty := .byte) (by decide)
  have F_count_sb : Fld Z h1 sb "java/lang/AbstractStringBuilder" "count" "I" (.int 0) := D (Or.inl (own_w hw 45 rfl)) (ty := .int) (by decide)
  clear A D E
  show OwG p e below s _ _ _ _ T (mkF m 3 #[.val (.ref a), .unset, .unset, .unset, .unset, .unset, .unset, .unset] [(.ref sb)])
  refine OwG.ac (mkF m 5 #[.val (.ref a), .unset, .unset, .unset, .unset, .unset, .unset, .unset] [(.ref a), (.ref sb), (.ref sb)]) (fun tQ kQ => ?_) ?_
  · refine XS.dup P.here hx rfl (dc d2_3) rfl rfl ?_
    exact XS.aloadN P.here hx rfl (dc d2_4) rfl rfl kQ
  obtain ⟨own_cl, own_A, own_q1, own_S, own_M, own_H, own_U⟩ := id V_a
  obtain ⟨own_L, own_X, own_e, own_N⟩ := id P
  have own_Z := hZ
  refine OwG.ac (mkF m 13 #[.val (.ref a), .unset, .unset, .unset, .unset, .unset, .unset, .unset] [(.int ((((0 : Int32) + (4 : Int32)) / (5 : Int32)) * (8 : Int32))), (.ref sb), (.ref sb)]) (fun tQ kQ => ?_) ?_
  · refine own_X.arraylength hx (by rw [own_e]; exact own_A.1) (State.isArrayOf_alike own_Z.alike own_A.2.1) (g := (mkF m 5 #[.val (.ref a), .unset, .unset, .unset, .unset, .unset, .unset, .unset] [(.ref a), (.ref sb), (.ref sb)])) rfl rfl (dc d2_5) _ ?_
    rw [len_of own_S own_M]
    refine XS.iconst P.here hx rfl (dc d2_6) ?_
    refine XS.iadd P.here hx rfl (dc d2_7) rfl ?_
    refine XS.iconst P.here hx rfl (dc d2_8) ?_
    refine XS.idiv P.here hx rfl (dc d2_9) rfl (by decide) ?_
    refine XS.bipush P.here hx rfl (dc d2_10) ?_
    exact XS.imul P.here hx rfl (dc d2_12) rfl kQ
  rw [show ((((0 : Int32) + (4 : Int32)) / (5 : Int32)) * (8 : Int32)) = (Int32.ofNat 0) from by decide]
  show OwG p e below s _ _ _ _ T (mkF m 13 #[.val (.ref a), .unset, .unset, .unset, .unset, .unset, .unset, .unset] [(.int (Int32.ofNat 0)), (.ref sb), (.ref sb)])
  refine P.special hx hZ (y := (⟨"java/lang/StringBuilder", "<init>", "(I)V"⟩ : MethodName)) rfl hown (own_w hw 14 rfl) (own_w hw 15 rfl) (own_w hw 16 rfl) (by decide) (OwM.back (W := 1) (rmSi l Z a0 hw sb 0 zC h1 n0 Z0 S2 hzC OL (by decide) g_sb E_sb F_value_sb F_coder_sb F_count_sb) hZ (own_w hw 16 rfl) (own_w hw 13 rfl) (own_le rfl) (own_le rfl)) (fun _ _ _ q => q.2) rfl (by rw [hml]; rfl) (a := sb) (argsL := [(.int (Int32.ofNat 0))]) (rest := [(.ref sb)]) (lenOf pd__I_V rfl) rfl (own_le rfl) (dc d2_13) rfl (own_le rfl) (own_le rfl) fun T own_v own_L h2 own_e P own_q => ?_
  obtain ⟨⟨rfl, K, t, kt, gt, F_value_sb', F_coder_sb', F_count_sb', V_t, E_t⟩, -⟩ := own_q
  show OwG p e below s _ _ _ _ T (mkF m 16 #[.val (.ref a), .unset, .unset, .unset, .unset, .unset, .unset, .unset] [(.ref sb)])
  clear own_e
  have ne_a_t : a ≠ t := Nat.ne_of_lt (Nat.lt_of_lt_of_le V_a.lt (Nat.le_of_eq gt.symm))
  have ne_t_a := Ne.symm ne_a_t
  have ne_al_t : al ≠ t := Nat.ne_of_lt (Nat.lt_of_lt_of_le V_al.lt (Nat.le_of_eq gt.symm))
  have ne_t_al := Ne.symm ne_al_t
  have ne_sb_t : sb ≠ t := Nat.ne_of_lt (Nat.lt_of_lt_of_le E_sb.lt (Nat.le_of_eq gt.symm))
  have ne_t_sb := Ne.symm ne_sb_t
  have g_t : n0 ≤ t := Nat.le_trans Z0 (Nat.le_of_eq gt.symm)
  have sz_t : h0.size ≤ t := Nat.le_trans KP.1 (Nat.le_of_eq gt.symm)
  replace V_a := V_a.keep K (ninS ne_a_sb nin0)
  replace V_al := V_al.keep K (ninS ne_al_sb nin0)
  replace E_sb := E_sb.keep K
  replace Z0 := Nat.le_trans Z0 K.1
  replace OL := OL.keep K (allS g_sb all0)
  replace KP := KP.trans K (allS (Or.inr sz_sb) all0)
  clear F_value_sb
  have F_value_sb := F_value_sb'
  clear F_value_sb'
  clear F_coder_sb
  have F_coder_sb := F_coder_sb'
  clear F_coder_sb'
  clear F_count_sb
  have F_count_sb := F_count_sb'
  clear F_count_sb'
  replace F_count_sb : Fld Z h2 sb "java/lang/AbstractStringBuilder" "count" "I" (.int (Int32.ofNat 0)) := F_count_sb
  replace V_t : Arv Z h2 t kt .byte (Int32.ofNat 0) (own_vz [] 0) (.int 0) := V_t
  refine OwG.ac (mkF m 26 #[.val (.ref a), .val (.ref sb), .val (.int 0), .val (.int 0), .val (.ref a), .unset, .unset, .unset] [(.ref a)]) (fun tQ kQ => ?_) ?_
  · refine XS.astoreN P.here hx rfl (dc d2_16) rfl rfl (l' := #[.val (.ref a), .val (.ref sb), .unset, .unset, .unset, .unset, .unset, .unset]) rfl ?_
    refine XS.iconst P.here hx rfl (dc d2_17) ?_
    refine XS.istoreN P.here hx rfl (dc d2_18) rfl (l' := #[.val (.ref a), .val (.ref sb), .val (.int 0), .unset, .unset, .unset, .unset, .unset]) rfl ?_
    refine XS.iconst P.here hx rfl (dc d2_19) ?_
    refine XS.istoreN P.here hx rfl (dc d2_20) rfl (l' := #[.val (.ref a), .val (.ref sb), .val (.int 0), .val (.int 0), .unset, .unset, .unset, .unset]) rfl ?_
    refine XS.aloadN P.here hx rfl (dc d2_21) rfl rfl ?_
    refine XS.astore P.here hx rfl (dc d2_22) rfl rfl (l' := #[.val (.ref a), .val (.ref sb), .val (.int 0), .val (.int 0), .val (.ref a), .unset, .unset, .unset]) rfl ?_
    exact XS.aload P.here hx rfl (dc d2_24) rfl rfl kQ
  obtain ⟨own_cl, own_A, own_q1, own_S, own_M, own_H, own_U⟩ := id V_a
  obtain ⟨own_L, own_X, own_e, own_N⟩ := id P
  have own_Z := hZ
  refine OwG.ac (mkF m 32 #[.val (.ref a), .val (.ref sb), .val (.int 0), .val (.int 0), .val (.ref a), .val (.int 0), .val (.int 0), .unset] []) (fun tQ kQ => ?_) ?_
  · refine own_X.arraylength hx (by rw [own_e]; exact own_A.1) (State.isArrayOf_alike own_Z.alike own_A.2.1) (g := (mkF m 26 #[.val (.ref a), .val (.ref sb), .val (.int 0), .val (.int 0), .val (.ref a), .unset, .unset, .unset] [(.ref a)])) rfl rfl (dc d2_26) _ ?_
    rw [len_of own_S own_M]
    refine XS.istore P.here hx rfl (dc d2_27) rfl (l' := #[.val (.ref a), .val (.ref sb), .val (.int 0), .val (.int 0), .val (.ref a), .val (.int 0), .unset, .unset]) rfl ?_
    refine XS.iconst P.here hx rfl (dc d2_29) ?_
    exact XS.istore P.here hx rfl (dc d2_30) rfl (l' := #[.val (.ref a), .val (.ref sb), .val (.int 0), .val (.int 0), .val (.ref a), .val (.int 0), .val (.int 0), .unset]) rfl kQ
  replace P := P.wide (k' := 2) (n' := 20) (by decide) (by decide)
  refine OwG.ac (mkF m 115 #[.val (.ref a), .val (.ref sb), .val (.int 0), .val (.int 0), .val (.ref a), .val (.int 0), .val (.int 0), .unset] [(.ref sb)]) (fun tQ kQ => ?_) ?_
  · refine XS.iload P.here hx rfl (dc d2_32) rfl ?_
    refine XS.iload P.here hx rfl (dc d2_34) rfl ?_
    refine XS.icmpYes P.here hx rfl (pc0 := 36) (pc' := 93) rfl (dc d2_36) rfl (flt (by decide)).2.1 (by decide) (by decide) ?_
    refine XS.iloadN P.here hx rfl (dc d2_93) rfl ?_
    refine XS.ifYes P.here hx rfl (pc0 := 94) (pc' := 114) rfl (dc d2_94) rfl ((if0 _ _).trans (flt (by decide)).2.2.2) (by decide) (by decide) ?_
    exact XS.aloadN P.here hx rfl (dc d2_114) rfl rfl kQ
  refine P.virtual hx hZ (y := (⟨"java/lang/StringBuilder", "length", "()I"⟩ : MethodName)) hown (own_w hw 60 rfl) (own_w hw 61 rfl) (own_w hw 63 rfl) (own_w hw 62 rfl) (by decide) (OwM.back (W := 0) (rmSl l Z a0 hw sb (Int32.ofNat 0) h2 n0 Z0 E_sb F_count_sb) hZ (own_w hw 64 rfl) (own_w hw 13 rfl) (own_le rfl) (own_le rfl)) (fun _ _ _ q => q.2) E_sb rfl (by rw [hml]; rfl) (argsL := []) (rest := []) (lenOf pd___I rfl) rfl (own_le rfl) (dc d2_115) rfl (own_le rfl) (own_le rfl) fun T own_v own_L h3 own_e P own_q => ?_
  obtain ⟨⟨rfl, own_hh⟩, -⟩ := own_q
  rw [own_hh] at P
  clear own_e own_hh
  show OwG p e below s _ _ _ _ T (mkF m 118 #[.val (.ref a), .val (.ref sb), .val (.int 0), .val (.int 0), .val (.ref a), .val (.int 0), .val (.int 0), .unset] [(.int (Int32.ofNat 0))])
  refine OwG.ac (mkF m 120 #[.val (.ref a), .val (.ref sb), .val (.int 0), .val (.int 0), .val (.ref a), .val (.int 0), .val (.int 0), .unset] [(.int 8), (.int (Int32.ofNat 0))]) (fun tQ kQ => ?_) ?_
  · exact XS.bipush P.here hx rfl (dc d2_118) kQ
  obtain ⟨own_L, own_X, own_rest⟩ := id P
  refine OwG.ac (mkF m 135 #[.val (.ref a), .val (.ref sb), .val (.int 0), .val (.int 0), .val (.ref a), .val (.int 0), .val (.int 0), .unset] [(.ref sb)]) (fun tQ kQ => ?_) ?_
  · refine Jvm.RoadKit.iremM (g := (mkF m 120 #[.val (.ref a), .val (.ref sb), .val (.int 0), .val (.int 0), .val (.ref a), .val (.int 0), .val (.int 0), .unset] [(.int 8), (.int (Int32.ofNat 0))])) own_X hx rfl (dc d2_120) rfl (by decide) ?_
    refine XS.ifYes P.here hx rfl (pc0 := 121) (pc' := 134) rfl (dc d2_121) rfl ((if0 _ _).trans (teq (by decide)).1) (by decide) (by decide) ?_
    exact XS.aloadN P.here hx rfl (dc d2_134) rfl rfl kQ
  refine P.virtual hx hZ (y := (⟨"java/lang/StringBuilder", "toString", "()Ljava/lang/String;"⟩ : MethodName)) hown (own_w hw 69 rfl) (own_w hw 70 rfl) (own_w hw 72 rfl) (own_w hw 71 rfl) (by decide) (OwM.back (W := 0) (rmTs l Z a0 hw sb t kt 0 (own_vz [] 0) zC h2 n0 Z0 S2 hzC OL E_sb F_value_sb F_coder_sb F_count_sb V_t E_t (by decide)) hZ (own_w hw 73 rfl) (own_w hw 13 rfl) (own_le rfl) (own_le rfl)) (fun _ _ _ q => q.2) E_sb rfl (by rw [hml]; rfl) (argsL := []) (rest := []) (lenOf pd___Ljava_lang_String_ rfl) rfl (own_le rfl) (dc d2_135) rfl (own_le rfl) (own_le rfl) fun T own_v own_L h4 own_e P own_q => ?_
  obtain ⟨⟨x, u, rfl, K, E_x, F1, F2, V_u⟩, -⟩ := own_q
  clear own_e
  replace V_a := V_a.keep K nin0
  replace V_al := V_al.keep K nin0
  replace E_sb := E_sb.keep K
  replace F_value_sb := F_value_sb.keep K nin0
  replace F_coder_sb := F_coder_sb.keep K nin0
  replace F_count_sb := F_count_sb.keep K nin0
  replace V_t := V_t.keep K nin0
  replace E_t := E_t.keep K
  replace Z0 := Nat.le_trans Z0 K.1
  replace OL := OL.keep K all0
  replace KP := KP.trans K all0
  show OwG p e below s _ _ _ _ T (mkF m 138 #[.val (.ref a), .val (.ref sb), .val (.int 0), .val (.int 0), .val (.ref a), .val (.int 0), .val (.int 0), .unset] [(.ref x)])
  exact P.retR hx hlk hret rfl rfl (dc d2_138) (own_le rfl) (own_le rfl) ⟨x, u, kt, rfl, KP, E_x, F1, F2, V_u⟩
theorem d2_39 : decode prog_8_method_2_code 39 = .ok (.aload 4, 2) := by decide +kernel
theorem d2_41 : decode prog_8_method_2_code 41 = .ok (.iload 6, 2) := by decide +kernel
theorem d2_43 : decode prog_8_method_2_code 43 = .ok (.baload, 1) := by decide +kernel
theorem d2_44 : decode prog_8_method_2_code 44 = .ok (.istore 7, 2) := by decide +kernel
theorem d2_46 : decode prog_8_method_2_code 46 = .ok (.iload_n 2, 1) := by decide +kernel
theorem d2_47 : decode prog_8_method_2_code 47 = .ok (.bipush 8, 2) := by decide +kernel
theorem d2_49 : decode prog_8_method_2_code 49 = .ok (.ishl, 1) := by decide +kernel
theorem d2_50 : decode prog_8_method_2_code 50 = .ok (.iload 7, 2) := by decide +kernel
theorem d2_52 : decode prog_8_method_2_code 52 = .ok (.sipush 255, 3) := by decide +kernel
theorem d2_55 : decode prog_8_method_2_code 55 = .ok (.iand, 1) := by decide +kernel
theorem d2_56 : decode prog_8_method_2_code 56 = .ok (.ior, 1) := by decide +kernel
theorem d2_57 : decode prog_8_method_2_code 57 = .ok (.istore_n 2, 1) := by decide +kernel
theorem d2_58 : decode prog_8_method_2_code 58 = .ok (.iinc 3 8, 3) := by decide +kernel
theorem d2_61 : decode prog_8_method_2_code 61 = .ok (.iload_n 3, 1) := by decide +kernel
theorem d2_62 : decode prog_8_method_2_code 62 = .ok (.iconst 5, 1) := by decide +kernel
theorem d2_63 : decode prog_8_method_2_code 63 = .ok (.if_icmp .lt 24, 3) := by decide +kernel
theorem d2_87 : decode prog_8_method_2_code 87 = .ok (.iinc 6 1, 3) := by decide +kernel
theorem d2_90 : decode prog_8_method_2_code 90 = .ok (.goto (-58), 3) := by decide +kernel
set_option maxRecDepth 65536 in
set_option maxHeartbeats 40000000 in
theorem rmE1 (l : Launch) (Z : State) (a0 : Array Value) (hw : ∀ d ∈ tables_1, d.before a0 Z = true) (a al : Addr) (ka kal : ClassId) (dal : Value) (zC : Int32) (x0 : Int32) (h0 : Heap) (n0 : Nat) (Z0 : n0 ≤ h0.size) (S2 : Sta Z Z.heap "java/lang/String" "COMPACT_STRINGS" "Z" (.int zC)) (hzC : ¬ zC = 0) (OL : Old Z n0 h0) (SAl : Sta Z Z.heap "com/example/grawl/grawl/util/Base32" "ALPHABET" "[C" (.ref al)) (V_a : Arv Z h0 a ka .byte (1 : Int32) [(.int x0)] (.int 0)) (V_al : Arv Z h0 al kal .char (32 : Int32) own_alist dal) :
    OwM l Z (⟨"com/example/grawl/grawl/util/Base32", "encode", "([B)Ljava/lang/String;"⟩ : MethodName) prog_8_method_2_code 8 (some (.object "java/lang/String")) ({ frames := 5, cells := 4, slots := 40, locals := 84 } : Room) n0 #[(.ref a)] h0 (fun v h => ∃ (x u : Addr) (ku : ClassId), v = some (.ref x) ∧ Keep h0 h [] ∧ Exa Z h x "java/lang/String" ∧ Fld Z h x "java/lang/String" "value" "[B" (.ref u) ∧ Fld Z h x "java/lang/String" "coder" "B" (.int 0) ∧ Arv Z h u ku .byte (Int32.ofNat 8) (own_vz [(own_dg (own_bt (0 : Int32) x0) (3 : Int32)), (own_dl (own_bt (0 : Int32) x0) (3 : Int32)), (61 : Int32), (61 : Int32), (61 : Int32), (61 : Int32), (61 : Int32), (61 : Int32)] 0) (.int 0)) := by
  refine OwM.mk (plainFor_of_name pn_com_example_grawl_grawl_util_Base32) ?_
  intro p e s m below meth cD T hx hby hml hown hnm hret hlk hZ P
  have dc := @Jvm.hb cD _ hby
  refine OwG.cast (show entryFrame m #[(.ref a)] 8 = mkF m 0 #[.val (.ref a), .unset, .unset, .unset, .unset, .unset, .unset, .unset] [] from by first | (simp [entryFrame, mkF, argsToLocals, Value.category]; done) | rfl) ?_
  have KP := Keep.refl h0 []
  refine P.newO hx hZ hown (own_w hw 11 rfl) (own_w hw 12 rfl) (own_w hw 13 rfl) rfl (dc d2_0) (own_le rfl) (own_le rfl) fun T h1 sb gsb P E A D => ?_
  have ne_a_sb : a ≠ sb := Nat.ne_of_lt (Nat.lt_of_lt_of_le V_a.lt (Nat.le_of_eq gsb.symm))
  have ne_sb_a := Ne.symm ne_a_sb
  have ne_al_sb : al ≠ sb := Nat.ne_of_lt (Nat.lt_of_lt_of_le V_al.lt (Nat.le_of_eq gsb.symm))
  have ne_sb_al := Ne.symm ne_al_sb
  have g_sb : n0 ≤ sb := Nat.le_trans Z0 (Nat.le_of_eq gsb.symm)
  have sz_sb : h0.size ≤ sb := Nat.le_trans KP.1 (Nat.le_of_eq gsb.symm)
  replace V_a := V_a.ext E
  replace V_al := V_al.ext E
  replace Z0 := Nat.le_trans Z0 E.1
  replace OL := OL.ext E
  replace KP := KP.ext E
  have E_sb := A
  have F_value_sb : Fld Z h1 sb "java/lang/AbstractStringBuilder" "value" "[B" .null := D (Or.inl (own_w hw 29 rfl)) (ty := (.array .byte)) (by decide)
  have F_coder_sb : Fld Z h1 sb "java/lang/AbstractStringBuilder" "coder" "B" (.int 0) := D (Or.inl (own_w hw 31 rfl)) (ty := .byte) (by decide)
  have F_count_sb : Fld Z h1 sb "java/lang/AbstractStringBuilder" "count" "I" (.int 0) := D (Or.inl (own_w hw 45 rfl)) (ty := .int) (by decide)
  clear A D E
  show OwG p e below s _ _ _ _ T (mkF m 3 #[.val (.ref a), .unset, .unset, .unset, .unset, .unset, .unset, .unset] [(.ref sb)])
  refine OwG.ac (mkF m 5 #[.val (.ref a), .unset, .unset, .unset, .unset, .unset, .unset, .unset] [(.ref a), (.ref sb), (.ref sb)]) (fun tQ kQ => ?_) ?_
  · refine XS.dup P.here hx rfl (dc d2_3) rfl rfl ?_
    exact XS.aloadN P.here hx rfl (dc d2_4) rfl rfl kQ
  obtain ⟨own_cl, own_A, own_q1, own_S, own_M, own_H, own_U⟩ := id V_a
  obtain ⟨own_L, own_X, own_e, own_N⟩ := id P
  have own_Z := hZ
  refine OwG.ac (mkF m 13 #[.val (.ref a), .unset, .unset, .unset, .unset, .unset, .unset, .unset] [(.int ((((1 : Int32) + (4 : Int32)) / (5 : Int32)) * (8 : Int32))), (.ref sb), (.ref sb)]) (fun tQ kQ => ?_) ?_
  · refine own_X.arraylength hx (by rw [own_e]; exact own_A.1) (State.isArrayOf_alike own_Z.alike own_A.2.1) (g := (mkF m 5 #[.val (.ref a), .unset, .unset, .unset, .unset, .unset, .unset, .unset] [(.ref a), (.ref sb), (.ref sb)])) rfl rfl (dc d2_5) _ ?_
    rw [len_of own_S own_M]
    refine XS.iconst P.here hx rfl (dc d2_6) ?_
    refine XS.iadd P.here hx rfl (dc d2_7) rfl ?_
    refine XS.iconst P.here hx rfl (dc d2_8) ?_
    refine XS.idiv P.here hx rfl (dc d2_9) rfl (by decide) ?_
    refine XS.bipush P.here hx rfl (dc d2_10) ?_
    exact XS.imul P.here hx rfl (dc d2_12) rfl kQ
  rw [show ((((1 : Int32) + (4 : Int32)) / (5 : Int32)) * (8 : Int32)) = (Int32.ofNat 8) from by decide]
  show OwG p e below s _ _ _ _ T (mkF m 13 #[.val (.ref a), .unset, .unset, .unset, .unset, .unset, .unset, .unset] [(.int (Int32.ofNat 8)), (.ref sb), (.ref sb)])
  refine P.special hx hZ (y := (⟨"java/lang/StringBuilder", "<init>", "(I)V"⟩ : MethodName)) rfl hown (own_w hw 14 rfl) (own_w hw 15 rfl) (own_w hw 16 rfl) (by decide) (OwM.back (W := 1) (rmSi l Z a0 hw sb 8 zC h1 n0 Z0 S2 hzC OL (by decide) g_sb E_sb F_value_sb F_coder_sb F_count_sb) hZ (own_w hw 16 rfl) (own_w hw 13 rfl) (own_le rfl) (own_le rfl)) (fun _ _ _ q => q.2) rfl (by rw [hml]; rfl) (a := sb) (argsL := [(.int (Int32.ofNat 8))]) (rest := [(.ref sb)]) (lenOf pd__I_V rfl) rfl (own_le rfl) (dc d2_13) rfl (own_le rfl) (own_le rfl) fun T own_v own_L h2 own_e P own_q => ?_
  obtain ⟨⟨rfl, K, t, kt, gt, F_value_sb', F_coder_sb', F_count_sb', V_t, E_t⟩, -⟩ := own_q
  show OwG p e below s _ _ _ _ T (mkF m 16 #[.val (.ref a), .unset, .unset, .unset, .unset, .unset, .unset, .unset] [(.ref sb)])
  clear own_e
  have ne_a_t : a ≠ t := Nat.ne_of_lt (Nat.lt_of_lt_of_le V_a.lt (Nat.le_of_eq gt.symm))
  have ne_t_a := Ne.symm ne_a_t
  have ne_al_t : al ≠ t := Nat.ne_of_lt (Nat.lt_of_lt_of_le V_al.lt (Nat.le_of_eq gt.symm))
  have ne_t_al := Ne.symm ne_al_t
  have ne_sb_t : sb ≠ t := Nat.ne_of_lt (Nat.lt_of_lt_of_le E_sb.lt (Nat.le_of_eq gt.symm))
  have ne_t_sb := Ne.symm ne_sb_t
  have g_t : n0 ≤ t := Nat.le_trans Z0 (Nat.le_of_eq gt.symm)
  have sz_t : h0.size ≤ t := Nat.le_trans KP.1 (Nat.le_of_eq gt.symm)
  replace V_a := V_a.keep K (ninS ne_a_sb nin0)
  replace V_al := V_al.keep K (ninS ne_al_sb nin0)
  replace E_sb := E_sb.keep K
  replace Z0 := Nat.le_trans Z0 K.1
  replace OL := OL.keep K (allS g_sb all0)
  replace KP := KP.trans K (allS (Or.inr sz_sb) all0)
  clear F_value_sb
  have F_value_sb := F_value_sb'
  clear F_value_sb'
  clear F_coder_sb
  have F_coder_sb := F_coder_sb'
  clear F_coder_sb'
  clear F_count_sb
  have F_count_sb := F_count_sb'
  clear F_count_sb'
  replace F_count_sb : Fld Z h2 sb "java/lang/AbstractStringBuilder" "count" "I" (.int (Int32.ofNat 0)) := F_count_sb
  replace V_t : Arv Z h2 t kt .byte (Int32.ofNat 8) (own_vz [] 8) (.int 0) := V_t
  refine OwG.ac (mkF m 26 #[.val (.ref a), .val (.ref sb), .val (.int 0), .val (.int 0), .val (.ref a), .unset, .unset, .unset] [(.ref a)]) (fun tQ kQ => ?_) ?_
  · refine XS.astoreN P.here hx rfl (dc d2_16) rfl rfl (l' := #[.val (.ref a), .val (.ref sb), .unset, .unset, .unset, .unset, .unset, .unset]) rfl ?_
    refine XS.iconst P.here hx rfl (dc d2_17) ?_
    refine XS.istoreN P.here hx rfl (dc d2_18) rfl (l' := #[.val (.ref a), .val (.ref sb), .val (.int 0), .unset, .unset, .unset, .unset, .unset]) rfl ?_
    refine XS.iconst P.here hx rfl (dc d2_19) ?_
    refine XS.istoreN P.here hx rfl (dc d2_20) rfl (l' := #[.val (.ref a), .val (.ref sb), .val (.int 0), .val (.int 0), .unset, .unset, .unset, .unset]) rfl ?_
    refine XS.aloadN P.here hx rfl (dc d2_21) rfl rfl ?_
    refine XS.astore P.here hx rfl (dc d2_22) rfl rfl (l' := #[.val (.ref a), .val (.ref sb), .val (.int 0), .val (.int 0), .val (.ref a), .unset, .unset, .unset]) rfl ?_
    exact XS.aload P.here hx rfl (dc d2_24) rfl rfl kQ
  obtain ⟨own_cl, own_A, own_q1, own_S, own_M, own_H, own_U⟩ := id V_a
  obtain ⟨own_L, own_X, own_e, own_N⟩ := id P
  have own_Z := hZ
  refine OwG.ac (mkF m 32 #[.val (.ref a), .val (.ref sb), .val (.int 0), .val (.int 0), .val (.ref a), .val (.int 1), .val (.int 0), .unset] []) (fun tQ kQ => ?_) ?_
  · refine own_X.arraylength hx (by rw [own_e]; exact own_A.1) (State.isArrayOf_alike own_Z.alike own_A.2.1) (g := (mkF m 26 #[.val (.ref a), .val (.ref sb), .val (.int 0), .val (.int 0), .val (.ref a), .unset, .unset, .unset] [(.ref a)])) rfl rfl (dc d2_26) _ ?_
    rw [len_of own_S own_M]
    refine XS.istore P.here hx rfl (dc d2_27) rfl (l' := #[.val (.ref a), .val (.ref sb), .val (.int 0), .val (.int 0), .val (.ref a), .val (.int 1), .unset, .unset]) rfl ?_
    refine XS.iconst P.here hx rfl (dc d2_29) ?_
    exact XS.istore P.here hx rfl (dc d2_30) rfl (l' := #[.val (.ref a), .val (.ref sb), .val (.int 0), .val (.int 0), .val (.ref a), .val (.int 1), .val (.int 0), .unset]) rfl kQ
  replace P := P.wide (k' := 2) (n' := 20) (by decide) (by decide)
  refine OwG.ac (mkF m 43 #[.val (.ref a), .val (.ref sb), .val (.int 0), .val (.int 0), .val (.ref a), .val (.int 1), .val (.int 0), .unset] [(.int 0), (.ref a)]) (fun tQ kQ => ?_) ?_
  · refine XS.iload P.here hx rfl (dc d2_32) rfl ?_
    refine XS.iload P.here hx rfl (dc d2_34) rfl ?_
    refine XS.icmpNo P.here hx rfl (dc d2_36) rfl (tlt (by decide)).2.1 ?_
    refine XS.aload P.here hx rfl (dc d2_39) rfl rfl ?_
    exact XS.iload P.here hx rfl (dc d2_41) rfl kQ
  obtain ⟨own_cl, own_A, own_q1, own_S, own_M, own_H, own_U⟩ := id V_a
  obtain ⟨own_L, own_X, own_e, own_N⟩ := id P
  have own_Z := hZ
  have own_in := inb_of own_S (j := (0 : Int32)) ⟨(by decide), (by decide)⟩
  refine OwG.ac (mkF m 57 #[.val (.ref a), .val (.ref sb), .val (.int 0), .val (.int 0), .val (.ref a), .val (.int 1), .val (.int 0), .val (.int x0)] [(.int (((0 : Int32) <<< ((8 : Int32) &&& 31)) ||| (x0 &&& (255 : Int32))))]) (fun tQ kQ => ?_) ?_
  · refine own_X.baloadBytes hx (j := (0 : Int32)) (v := (.int x0)) (by rw [own_e]; exact own_A.1) (State.isArrayOf_alike own_Z.alike own_A.2.1) own_A.2.2 own_in (Has.at own_H own_in rfl) (g := (mkF m 43 #[.val (.ref a), .val (.ref sb), .val (.int 0), .val (.int 0), .val (.ref a), .val (.int 1), .val (.int 0), .unset] [(.int 0), (.ref a)])) rfl rfl (dc d2_43) _ ?_
    refine XS.istore P.here hx rfl (dc d2_44) rfl (l' := #[.val (.ref a), .val (.ref sb), .val (.int 0), .val (.int 0), .val (.ref a), .val (.int 1), .val (.int 0), .val (.int x0)]) rfl ?_
    refine XS.iloadN P.here hx rfl (dc d2_46) rfl ?_
    refine XS.bipush P.here hx rfl (dc d2_47) ?_
    refine XS.ishl P.here hx rfl (dc d2_49) rfl ?_
    refine XS.iload P.here hx rfl (dc d2_50) rfl ?_
    refine XS.sipush P.here hx rfl (dc d2_52) ?_
    refine XS.iand P.here hx rfl (dc d2_55) rfl ?_
    exact XS.ior P.here hx rfl (dc d2_56) rfl kQ
  rw [show (((0 : Int32) <<< ((8 : Int32) &&& 31)) ||| (x0 &&& (255 : Int32))) = (own_bt (0 : Int32) x0) from rfl]
  show OwG p e below s _ _ _ _ T (mkF m 57 #[.val (.ref a), .val (.ref sb), .val (.int 0), .val (.int 0), .val (.ref a), .val (.int 1), .val (.int 0), .val (.int x0)] [(.int (own_bt (0 : Int32) x0))])
  refine OwG.ac (mkF m 61 #[.val (.ref a), .val (.ref sb), .val (.int (own_bt (0 : Int32) x0)), .val (.int ((0 : Int32) + (8 : Int32))), .val (.ref a), .val (.int 1), .val (.int 0), .val (.int x0)] []) (fun tQ kQ => ?_) ?_
  · refine XS.istoreN P.here hx rfl (dc d2_57) rfl (l' := #[.val (.ref a), .val (.ref sb), .val (.int (own_bt (0 : Int32) x0)), .val (.int 0), .val (.ref a), .val (.int 1), .val (.int 0), .val (.int x0)]) rfl ?_
    exact XS.iinc P.here hx rfl (dc d2_58) rfl (l' := #[.val (.ref a), .val (.ref sb), .val (.int (own_bt (0 : Int32) x0)), .val (.int ((0 : Int32) + (8 : Int32))), .val (.ref a), .val (.int 1), .val (.int 0), .val (.int x0)]) rfl kQ
  rw [show ((0 : Int32) + (8 : Int32)) = (8 : Int32) from by decide]
  show OwG p e below s _ _ _ _ T (mkF m 61 #[.val (.ref a), .val (.ref sb), .val (.int (own_bt (0 : Int32) x0)), .val (.int 8), .val (.ref a), .val (.int 1), .val (.int 0), .val (.int x0)] [])
  refine OwG.ac (mkF m 66 #[.val (.ref a), .val (.ref sb), .val (.int (own_bt (0 : Int32) x0)), .val (.int 8), .val (.ref a), .val (.int 1), .val (.int 0), .val (.int x0)] []) (fun tQ kQ => ?_) ?_
  · refine XS.iloadN P.here hx rfl (dc d2_61) rfl ?_
    refine XS.iconst P.here hx rfl (dc d2_62) ?_
    exact XS.icmpNo P.here hx rfl (dc d2_63) rfl (flt (by decide)).1 kQ
  refine own_sg (N := 8) (k := 0) (vs := (own_vz [] 8)) (b' := (3 : Int32)) (by decide) hw hx hby hml hown hZ S2 hzC SAl (by decide) rfl (by decide) g_sb g_t ne_sb_t ne_a_sb ne_a_t ne_al_sb ne_al_t sz_sb sz_t P Z0 OL KP V_a V_al E_sb F_value_sb F_coder_sb F_count_sb V_t E_t ?_
  clear P Z0 OL KP V_a V_al E_sb F_value_sb F_coder_sb F_count_sb V_t E_t
  intro T h3 P Z0 OL KP V_a V_al E_sb F_value_sb F_coder_sb F_count_sb V_t E_t
  replace F_count_sb : Fld Z h3 sb "java/lang/AbstractStringBuilder" "count" "I" (.int (Int32.ofNat 1)) := F_count_sb
  replace V_t : Arv Z h3 t kt .byte (Int32.ofNat 8) (own_vz [(own_dg (own_bt (0 : Int32) x0) (3 : Int32))] 7) (.int 0) := V_t
  show OwG p e below s _ _ _ _ T (mkF m 61 #[.val (.ref a), .val (.ref sb), .val (.int (own_bt (0 : Int32) x0)), .val (.int 3), .val (.ref a), .val (.int 1), .val (.int 0), .val (.int x0)] [])
  refine OwG.ac (mkF m 32 #[.val (.ref a), .val (.ref sb), .val (.int (own_bt (0 : Int32) x0)), .val (.int 3), .val (.ref a), .val (.int 1), .val (.int ((0 : Int32) + (1 : Int32))), .val (.int x0)] []) (fun tQ kQ => ?_) ?_
  · refine XS.iloadN P.here hx rfl (dc d2_61) rfl ?_
    refine XS.iconst P.here hx rfl (dc d2_62) ?_
    refine XS.icmpYes P.here hx rfl (pc0 := 63) (pc' := 87) rfl (dc d2_63) rfl (tlt (by decide)).1 (by decide) (by decide) ?_
    refine XS.iinc P.here hx rfl (dc d2_87) rfl (l' := #[.val (.ref a), .val (.ref sb), .val (.int (own_bt (0 : Int32) x0)), .val (.int 3), .val (.ref a), .val (.int 1), .val (.int ((0 : Int32) + (1 : Int32))), .val (.int x0)]) rfl ?_
    exact XS.goto P.here hx rfl (pc0 := 90) (pc' := 32) rfl (dc d2_90) (by decide) (by decide) kQ
  rw [show ((0 : Int32) + (1 : Int32)) = (1 : Int32) from by decide]
  show OwG p e below s _ _ _ _ T (mkF m 32 #[.val (.ref a), .val (.ref sb), .val (.int (own_bt (0 : Int32) x0)), .val (.int 3), .val (.ref a), .val (.int 1), .val (.int 1), .val (.int x0)] [])
  refine OwG.ac (mkF m 97 #[.val (.ref a), .val (.ref sb), .val (.int (own_bt (0 : Int32) x0)), .val (.int 3), .val (.ref a), .val (.int 1), .val (.int 1), .val (.int x0)] []) (fun tQ kQ => ?_) ?_
  · refine XS.iload P.here hx rfl (dc d2_32) rfl ?_
    refine XS.iload P.here hx rfl (dc d2_34) rfl ?_
    refine XS.icmpYes P.here hx rfl (pc0 := 36) (pc' := 93) rfl (dc d2_36) rfl (flt (by decide)).2.1 (by decide) (by decide) ?_
    refine XS.iloadN P.here hx rfl (dc d2_93) rfl ?_
    exact XS.ifNo P.here hx rfl (dc d2_94) rfl ((if0 _ _).trans (tlt (by decide)).2.2.2) kQ
  refine own_sl (N := 8) (k := 1) (vs := (own_vz [(own_dg (own_bt (0 : Int32) x0) (3 : Int32))] 7)) hw hx hby hml hown hZ S2 hzC SAl (by decide) rfl (by decide) g_sb g_t ne_sb_t ne_a_sb ne_a_t ne_al_sb ne_al_t sz_sb sz_t P Z0 OL KP V_a V_al E_sb F_value_sb F_coder_sb F_count_sb V_t E_t ?_
  clear P Z0 OL KP V_a V_al E_sb F_value_sb F_coder_sb F_count_sb V_t E_t
  intro T h4 P Z0 OL KP V_a V_al E_sb F_value_sb F_coder_sb F_count_sb V_t E_t
  replace F_count_sb : Fld Z h4 sb "java/lang/AbstractStringBuilder" "count" "I" (.int (Int32.ofNat 2)) := F_count_sb
  replace V_t : Arv Z h4 t kt .byte (Int32.ofNat 8) (own_vz [(own_dg (own_bt (0 : Int32) x0) (3 : Int32)), (own_dl (own_bt (0 : Int32) x0) (3 : Int32))] 6) (.int 0) := V_t
  show OwG p e below s _ _ _ _ T (mkF m 114 #[.val (.ref a), .val (.ref sb), .val (.int (own_bt (0 : Int32) x0)), .val (.int 3), .val (.ref a), .val (.int 1), .val (.int 1), .val (.int x0)] [])
  refine own_sp (N := 8) (k := 2) (vs := (own_vz [(own_dg (own_bt (0 : Int32) x0) (3 : Int32)), (own_dl (own_bt (0 : Int32) x0) (3 : Int32))] 6)) (by decide) hw hx hby hml hown hZ S2 hzC SAl (by decide) rfl (by decide) g_sb g_t ne_sb_t ne_a_sb ne_a_t ne_al_sb ne_al_t sz_sb sz_t P Z0 OL KP V_a V_al E_sb F_value_sb F_coder_sb F_count_sb V_t E_t ?_
  clear P Z0 OL KP V_a V_al E_sb F_value_sb F_coder_sb F_count_sb V_t E_t
  intro T h5 P Z0 OL KP V_a V_al E_sb F_value_sb F_coder_sb F_count_sb V_t E_t
  replace F_count_sb : Fld Z h5 sb "java/lang/AbstractStringBuilder" "count" "I" (.int (Int32.ofNat 3)) := F_count_sb
  replace V_t : Arv Z h5 t kt .byte (Int32.ofNat 8) (own_vz [(own_dg (own_bt (0 : Int32) x0) (3 : Int32)), (own_dl (own_bt (0 : Int32) x0) (3 : Int32)), (61 : Int32)] 5) (.int 0) := V_t
  show OwG p e below s _ _ _ _ T (mkF m 114 #[.val (.ref a), .val (.ref sb), .val (.int (own_bt (0 : Int32) x0)), .val (.int 3), .val (.ref a), .val (.int 1), .val (.int 1), .val (.int x0)] [])
  refine own_sp (N := 8) (k := 3) (vs := (own_vz [(own_dg (own_bt (0 : Int32) x0) (3 : Int32)), (own_dl (own_bt (0 : Int32) x0) (3 : Int32)), (61 : Int32)] 5)) (by decide) hw hx hby hml hown hZ S2 hzC SAl (by decide) rfl (by decide) g_sb g_t ne_sb_t ne_a_sb ne_a_t ne_al_sb ne_al_t sz_sb sz_t P Z0 OL KP V_a V_al E_sb F_value_sb F_coder_sb F_count_sb V_t E_t ?_
  clear P Z0 OL KP V_a V_al E_sb F_value_sb F_coder_sb F_count_sb V_t E_t
  intro T h6 P Z0 OL KP V_a V_al E_sb F_value_sb F_coder_sb F_count_sb V_t E_t
  replace F_count_sb : Fld Z h6 sb "java/lang/AbstractStringBuilder" "count" "I" (.int (Int32.ofNat 4)) := F_count_sb
  replace V_t : Arv Z h6 t kt .byte (Int32.ofNat 8) (own_vz [(own_dg (own_bt (0 : Int32) x0) (3 : Int32)), (own_dl (own_bt (0 : Int32) x0) (3 : Int32)), (61 : Int32), (61 : Int32)] 4) (.int 0) := V_t
  show OwG p e below s _ _ _ _ T (mkF m 114 #[.val (.ref a), .val (.ref sb), .val (.int (own_bt (0 : Int32) x0)), .val (.int 3), .val (.ref a), .val (.int 1), .val (.int 1), .val (.int x0)] [])
  refine own_sp (N := 8) (k := 4) (vs := (own_vz [(own_dg (own_bt (0 : Int32) x0) (3 : Int32)), (own_dl (own_bt (0 : Int32) x0) (3 : Int32)), (61 : Int32), (61 : Int32)] 4)) (by decide) hw hx hby hml hown hZ S2 hzC SAl (by decide) rfl (by decide) g_sb g_t ne_sb_t ne_a_sb ne_a_t ne_al_sb ne_al_t sz_sb sz_t P Z0 OL KP V_a V_al E_sb F_value_sb F_coder_sb F_count_sb V_t E_t ?_
  clear P Z0 OL KP V_a V_al E_sb F_value_sb F_coder_sb F_count_sb V_t E_t
  intro T h7 P Z0 OL KP V_a V_al E_sb F_value_sb F_coder_sb F_count_sb V_t E_t
  replace F_count_sb : Fld Z h7 sb "java/lang/AbstractStringBuilder" "count" "I" (.int (Int32.ofNat 5)) := F_count_sb
  replace V_t : Arv Z h7 t kt .byte (Int32.ofNat 8) (own_vz [(own_dg (own_bt (0 : Int32) x0) (3 : Int32)), (own_dl (own_bt (0 : Int32) x0) (3 : Int32)), (61 : Int32), (61 : Int32), (61 : Int32)] 3) (.int 0) := V_t
  show OwG p e below s _ _ _ _ T (mkF m 114 #[.val (.ref a), .val (.ref sb), .val (.int (own_bt (0 : Int32) x0)), .val (.int 3), .val (.ref a), .val (.int 1), .val (.int 1), .val (.int x0)] [])
  refine own_sp (N := 8) (k := 5) (vs := (own_vz [(own_dg (own_bt (0 : Int32) x0) (3 : Int32)), (own_dl (own_bt (0 : Int32) x0) (3 : Int32)), (61 : Int32), (61 : Int32), (61 : Int32)] 3)) (by decide) hw hx hby hml hown hZ S2 hzC SAl (by decide) rfl (by decide) g_sb g_t ne_sb_t ne_a_sb ne_a_t ne_al_sb ne_al_t sz_sb sz_t P Z0 OL KP V_a V_al E_sb F_value_sb F_coder_sb F_count_sb V_t E_t ?_
  clear P Z0 OL KP V_a V_al E_sb F_value_sb F_coder_sb F_count_sb V_t E_t
  intro T h8 P Z0 OL KP V_a V_al E_sb F_value_sb F_coder_sb F_count_sb V_t E_t
  replace F_count_sb : Fld Z h8 sb "java/lang/AbstractStringBuilder" "count" "I" (.int (Int32.ofNat 6)) := F_count_sb
  replace V_t : Arv Z h8 t kt .byte (Int32.ofNat 8) (own_vz [(own_dg (own_bt (0 : Int32) x0) (3 : Int32)), (own_dl (own_bt (0 : Int32) x0) (3 : Int32)), (61 : Int32), (61 : Int32), (61 : Int32), (61 : Int32)] 2) (.int 0) := V_t
  show OwG p e below s _ _ _ _ T (mkF m 114 #[.val (.ref a), .val (.ref sb), .val (.int (own_bt (0 : Int32) x0)), .val (.int 3), .val (.ref a), .val (.int 1), .val (.int 1), .val (.int x0)] [])
  refine own_sp (N := 8) (k := 6) (vs := (own_vz [(own_dg (own_bt (0 : Int32) x0) (3 : Int32)), (own_dl (own_bt (0 : Int32) x0) (3 : Int32)), (61 : Int32), (61 : Int32), (61 : Int32), (61 : Int32)] 2)) (by decide) hw hx hby hml hown hZ S2 hzC SAl (by decide) rfl (by decide) g_sb g_t ne_sb_t ne_a_sb ne_a_t ne_al_sb ne_al_t sz_sb sz_t P Z0 OL KP V_a V_al E_sb F_value_sb F_coder_sb F_count_sb V_t E_t ?_
  clear P Z0 OL KP V_a V_al E_sb F_value_sb F_coder_sb F_count_sb V_t E_t
  intro T h9 P Z0 OL KP V_a V_al E_sb F_value_sb F_coder_sb F_count_sb V_t E_t
  replace F_count_sb : Fld Z h9 sb "java/lang/AbstractStringBuilder" "count" "I" (.int (Int32.ofNat 7)) := F_count_sb
  replace V_t : Arv Z h9 t kt .byte (Int32.ofNat 8) (own_vz [(own_dg (own_bt (0 : Int32) x0) (3 : Int32)), (own_dl (own_bt (0 : Int32) x0) (3 : Int32)), (61 : Int32), (61 : Int32), (61 : Int32), (61 : Int32), (61 : Int32)] 1) (.int 0) := V_t
  show OwG p e below s _ _ _ _ T (mkF m 114 #[.val (.ref a), .val (.ref sb), .val (.int (own_bt (0 : Int32) x0)), .val (.int 3), .val (.ref a), .val (.int 1), .val (.int 1), .val (.int x0)] [])
  refine own_sp (N := 8) (k := 7) (vs := (own_vz [(own_dg (own_bt (0 : Int32) x0) (3 : Int32)), (own_dl (own_bt (0 : Int32) x0) (3 : Int32)), (61 : Int32), (61 : Int32), (61 : Int32), (61 : Int32), (61 : Int32)] 1)) (by decide) hw hx hby hml hown hZ S2 hzC SAl (by decide) rfl (by decide) g_sb g_t ne_sb_t ne_a_sb ne_a_t ne_al_sb ne_al_t sz_sb sz_t P Z0 OL KP V_a V_al E_sb F_value_sb F_coder_sb F_count_sb V_t E_t ?_
  clear P Z0 OL KP V_a V_al E_sb F_value_sb F_coder_sb F_count_sb V_t E_t
  intro T h10 P Z0 OL KP V_a V_al E_sb F_value_sb F_coder_sb F_count_sb V_t E_t
  replace F_count_sb : Fld Z h10 sb "java/lang/AbstractStringBuilder" "count" "I" (.int (Int32.ofNat 8)) := F_count_sb
  replace V_t : Arv Z h10 t kt .byte (Int32.ofNat 8) (own_vz [(own_dg (own_bt (0 : Int32) x0) (3 : Int32)), (own_dl (own_bt (0 : Int32) x0) (3 : Int32)), (61 : Int32), (61 : Int32), (61 : Int32), (61 : Int32), (61 : Int32), (61 : Int32)] 0) (.int 0) := V_t
  show OwG p e below s _ _ _ _ T (mkF m 114 #[.val (.ref a), .val (.ref sb), .val (.int (own_bt (0 : Int32) x0)), .val (.int 3), .val (.ref a), .val (.int 1), .val (.int 1), .val (.int x0)] [])
  refine OwG.ac (mkF m 115 #[.val (.ref a), .val (.ref sb), .val (.int (own_bt (0 : Int32) x0)), .val (.int 3), .val (.ref a), .val (.int 1), .val (.int 1), .val (.int x0)] [(.ref sb)]) (fun tQ kQ => ?_) ?_
  · exact XS.aloadN P.here hx rfl (dc d2_114) rfl rfl kQ
  refine P.virtual hx hZ (y := (⟨"java/lang/StringBuilder", "length", "()I"⟩ : MethodName)) hown (own_w hw 60 rfl) (own_w hw 61 rfl) (own_w hw 63 rfl) (own_w hw 62 rfl) (by decide) (OwM.back (W := 0) (rmSl l Z a0 hw sb (Int32.ofNat 8) h10 n0 Z0 E_sb F_count_sb) hZ (own_w hw 64 rfl) (own_w hw 13 rfl) (own_le rfl) (own_le rfl)) (fun _ _ _ q => q.2) E_sb rfl (by rw [hml]; rfl) (argsL := []) (rest := []) (lenOf pd___I rfl) rfl (own_le rfl) (dc d2_115) rfl (own_le rfl) (own_le rfl) fun T own_v own_L h11 own_e P own_q => ?_
  obtain ⟨⟨rfl, own_hh⟩, -⟩ := own_q
  rw [own_hh] at P
  clear own_e own_hh
  show OwG p e below s _ _ _ _ T (mkF m 118 #[.val (.ref a), .val (.ref sb), .val (.int (own_bt (0 : Int32) x0)), .val (.int 3), .val (.ref a), .val (.int 1), .val (.int 1), .val (.int x0)] [(.int (Int32.ofNat 8))])
  refine OwG.ac (mkF m 120 #[.val (.ref a), .val (.ref sb), .val (.int (own_bt (0 : Int32) x0)), .val (.int 3), .val (.ref a), .val (.int 1), .val (.int 1), .val (.int x0)] [(.int 8), (.int (Int32.ofNat 8))]) (fun tQ kQ => ?_) ?_
  · exact XS.bipush P.here hx rfl (dc d2_118) kQ
  obtain ⟨own_L, own_X, own_rest⟩ := id P
  refine OwG.ac (mkF m 135 #[.val (.ref a), .val (.ref sb), .val (.int (own_bt (0 : Int32) x0)), .val (.int 3), .val (.ref a), .val (.int 1), .val (.int 1), .val (.int x0)] [(.ref sb)]) (fun tQ kQ => ?_) ?_
  · refine Jvm.RoadKit.iremM (g := (mkF m 120 #[.val (.ref a), .val (.ref sb), .val (.int (own_bt (0 : Int32) x0)), .val (.int 3), .val (.ref a), .val (.int 1), .val (.int 1), .val (.int x0)] [(.int 8), (.int (Int32.ofNat 8))])) own_X hx rfl (dc d2_120) rfl (by decide) ?_
    refine XS.ifYes P.here hx rfl (pc0 := 121) (pc' := 134) rfl (dc d2_121) rfl ((if0 _ _).trans (teq (by decide)).1) (by decide) (by decide) ?_
    exact XS.aloadN P.here hx rfl (dc d2_134) rfl rfl kQ
  refine P.virtual hx hZ (y := (⟨"java/lang/StringBuilder", "toString", "()Ljava/lang/String;"⟩ : MethodName)) hown (own_w hw 69 rfl) (own_w hw 70 rfl) (own_w hw 72 rfl) (own_w hw 71 rfl) (by decide) (OwM.back (W := 0) (rmTs l Z a0 hw sb t kt 8 (own_vz [(own_dg (own_bt (0 : Int32) x0) (3 : Int32)), (own_dl (own_bt (0 : Int32) x0) (3 : Int32)), (61 : Int32), (61 : Int32), (61 : Int32), (61 : Int32), (61 : Int32), (61 : Int32)] 0) zC h10 n0 Z0 S2 hzC OL E_sb F_value_sb F_coder_sb F_count_sb V_t E_t (by decide)) hZ (own_w hw 73 rfl) (own_w hw 13 rfl) (own_le rfl) (own_le rfl)) (fun _ _ _ q => q.2) E_sb rfl (by rw [hml]; rfl) (argsL := []) (rest := []) (lenOf pd___Ljava_lang_String_ rfl) rfl (own_le rfl) (dc d2_135) rfl (own_le rfl) (own_le rfl) fun T own_v own_L h12 own_e P own_q => ?_
  obtain ⟨⟨x, u, rfl, K, E_x, F1, F2, V_u⟩, -⟩ := own_q
  clear own_e
  replace V_a := V_a.keep K nin0
  replace V_al := V_al.keep K nin0
  replace E_sb := E_sb.keep K
  replace F_value_sb := F_value_sb.keep K nin0
  replace F_coder_sb := F_coder_sb.keep K nin0
  replace F_count_sb := F_count_sb.keep K nin0
  replace V_t := V_t.keep K nin0
  replace E_t := E_t.keep K
  replace Z0 := Nat.le_trans Z0 K.1
  replace OL := OL.keep K all0
  replace KP := KP.trans K all0
  show OwG p e below s _ _ _ _ T (mkF m 138 #[.val (.ref a), .val (.ref sb), .val (.int (own_bt (0 : Int32) x0)), .val (.int 3), .val (.ref a), .val (.int 1), .val (.int 1), .val (.int x0)] [(.ref x)])
  exact P.retR hx hlk hret rfl rfl (dc d2_138) (own_le rfl) (own_le rfl) ⟨x, u, kt, rfl, KP, E_x, F1, F2, V_u⟩
set_option maxRecDepth 65536 in
set_option maxHeartbeats 40000000 in
theorem rmE2 (l : Launch) (Z : State) (a0 : Array Value) (hw : ∀ d ∈ tables_1, d.before a0 Z = true) (a al : Addr) (ka kal : ClassId) (dal : Value) (zC : Int32) (x0 x1 : Int32) (h0 : Heap) (n0 : Nat) (Z0 : n0 ≤ h0.size) (S2 : Sta Z Z.heap "java/lang/String" "COMPACT_STRINGS" "Z" (.int zC)) (hzC : ¬ zC = 0) (OL : Old Z n0 h0) (SAl : Sta Z Z.heap "com/example/grawl/grawl/util/Base32" "ALPHABET" "[C" (.ref al)) (V_a : Arv Z h0 a ka .byte (2 : Int32) [(.int x0), (.int x1)] (.int 0)) (V_al : Arv Z h0 al kal .char (32 : Int32) own_alist dal) :
    OwM l Z (⟨"com/example/grawl/grawl/util/Base32", "encode", "([B)Ljava/lang/String;"⟩ : MethodName) prog_8_method_2_code 8 (some (.object "java/lang/String")) ({ frames := 5, cells := 4, slots := 40, locals := 84 } : Room) n0 #[(.ref a)] h0 (fun v h => ∃ (x u : Addr) (ku : ClassId), v = some (.ref x) ∧ Keep h0 h [] ∧ Exa Z h x "java/lang/String" ∧ Fld Z h x "java/lang/String" "value" "[B" (.ref u) ∧ Fld Z h x "java/lang/String" "coder" "B" (.int 0) ∧ Arv Z h u ku .byte (Int32.ofNat 8) (own_vz [(own_dg (own_bt (0 : Int32) x0) (3 : Int32)), (own_dg (own_bt (own_bt (0 : Int32) x0) x1) (6 : Int32)), (own_dg (own_bt (own_bt (0 : Int32) x0) x1) (1 : Int32)), (own_dl (own_bt (own_bt (0 : Int32) x0) x1) (1 : Int32)), (61 : Int32), (61 : Int32), (61 : Int32), (61 : Int32)] 0) (.int 0)) := by
  refine OwM.mk (plainFor_of_name pn_com_example_grawl_grawl_util_Base32) ?_
  intro p e s m below meth cD T hx hby hml hown hnm hret hlk hZ P
  have dc := @Jvm.hb cD _ hby
  refine OwG.cast (show entryFrame m #[(.ref a)] 8 = mkF m 0 #[.val (.ref a), .unset, .unset, .unset, .unset, .unset, .unset, .unset] [] from by first | (simp [entryFrame, mkF, argsToLocals, Value.category]; done) | rfl) ?_
  have KP := Keep.refl h0 []
  refine P.newO hx hZ hown (own_w hw 11 rfl) (own_w hw 12 rfl) (own_w hw 13 rfl) rfl (dc d2_0) (own_le rfl) (own_le rfl) fun T h1 sb gsb P E A D => ?_
  have ne_a_sb : a ≠ sb := Nat.ne_of_lt (Nat.lt_of_lt_of_le V_a.lt (Nat.le_of_eq gsb.symm))
  have ne_sb_a := Ne.symm ne_a_sb
  have ne_al_sb : al ≠ sb := Nat.ne_of_lt (Nat.lt_of_lt_of_le V_al.lt (Nat.le_of_eq gsb.symm))
  have ne_sb_al := Ne.symm ne_al_sb
  have g_sb : n0 ≤ sb := Nat.le_trans Z0 (Nat.le_of_eq gsb.symm)
  have sz_sb : h0.size ≤ sb := Nat.le_trans KP.1 (Nat.le_of_eq gsb.symm)
  replace V_a := V_a.ext E
  replace V_al := V_al.ext E
  replace Z0 := Nat.le_trans Z0 E.1
  replace OL := OL.ext E
  replace KP := KP.ext E
  have E_sb := A
  have F_value_sb : Fld Z h1 sb "java/lang/AbstractStringBuilder" "value" "[B" .null := D (Or.inl (own_w hw 29 rfl)) (ty := (.array .byte)) (by decide)
  have F_coder_sb : Fld Z h1 sb "java/lang/AbstractStringBuilder" "coder" "B" (.int 0) := D (Or.inl (own_w hw 31 rfl)) (ty := .byte) (by decide)
  have F_count_sb : Fld Z h1 sb "java/lang/AbstractStringBuilder" "count" "I" (.int 0) := D (Or.inl (own_w hw 45 rfl)) (ty := .int) (by decide)
  clear A D E
  show OwG p e below s _ _ _ _ T (mkF m 3 #[.val (.ref a), .unset, .unset, .unset, .unset, .unset, .unset, .unset] [(.ref sb)])
  refine OwG.ac (mkF m 5 #[.val (.ref a), .unset, .unset, .unset, .unset, .unset, .unset, .unset] [(.ref a), (.ref sb), (.ref sb)]) (fun tQ kQ => ?_) ?_
  · refine XS.dup P.here hx rfl (dc d2_3) rfl rfl ?_
    exact XS.aloadN P.here hx rfl (dc d2_4) rfl rfl kQ
  obtain ⟨own_cl, own_A, own_q1, own_S, own_M, own_H, own_U⟩ := id V_a
  obtain ⟨own_L, own_X, own_e, own_N⟩ := id P
  have own_Z := hZ
  refine OwG.ac (mkF m 13 #[.val (.ref a), .unset, .unset, .unset, .unset, .unset, .unset, .unset] [(.int ((((2 : Int32) + (4 : Int32)) / (5 : Int32)) * (8 : Int32))), (.ref sb), (.ref sb)]) (fun tQ kQ => ?_) ?_
  · refine own_X.arraylength hx (by rw [own_e]; exact own_A.1) (State.isArrayOf_alike own_Z.alike own_A.2.1) (g := (mkF m 5 #[.val (.ref a), .unset, .unset, .unset, .unset, .unset, .unset, .unset] [(.ref a), (.ref sb), (.ref sb)])) rfl rfl (dc d2_5) _ ?_
    rw [len_of own_S own_M]
    refine XS.iconst P.here hx rfl (dc d2_6) ?_
    refine XS.iadd P.here hx rfl (dc d2_7) rfl ?_
    refine XS.iconst P.here hx rfl (dc d2_8) ?_
    refine XS.idiv P.here hx rfl (dc d2_9) rfl (by decide) ?_
    refine XS.bipush P.here hx rfl (dc d2_10) ?_
    exact XS.imul P.here hx rfl (dc d2_12) rfl kQ
  rw [show ((((2 : Int32) + (4 : Int32)) / (5 : Int32)) * (8 : Int32)) = (Int32.ofNat 8) from by decide]
  show OwG p e below s _ _ _ _ T (mkF m 13 #[.val (.ref a), .unset, .unset, .unset, .unset, .unset, .unset, .unset] [(.int (Int32.ofNat 8)), (.ref sb), (.ref sb)])
  refine P.special hx hZ (y := (⟨"java/lang/StringBuilder", "<init>", "(I)V"⟩ : MethodName)) rfl hown (own_w hw 14 rfl) (own_w hw 15 rfl) (own_w hw 16 rfl) (by decide) (OwM.back (W := 1) (rmSi l Z a0 hw sb 8 zC h1 n0 Z0 S2 hzC OL (by decide) g_sb E_sb F_value_sb F_coder_sb F_count_sb) hZ (own_w hw 16 rfl) (own_w hw 13 rfl) (own_le rfl) (own_le rfl)) (fun _ _ _ q => q.2) rfl (by rw [hml]; rfl) (a := sb) (argsL := [(.int (Int32.ofNat 8))]) (rest := [(.ref sb)]) (lenOf pd__I_V rfl) rfl (own_le rfl) (dc d2_13) rfl (own_le rfl) (own_le rfl) fun T own_v own_L h2 own_e P own_q => ?_
  obtain ⟨⟨rfl, K, t, kt, gt, F_value_sb', F_coder_sb', F_count_sb', V_t, E_t⟩, -⟩ := own_q
  show OwG p e below s _ _ _ _ T (mkF m 16 #[.val (.ref a), .unset, .unset, .unset, .unset, .unset, .unset, .unset] [(.ref sb)])
  clear own_e
  have ne_a_t : a ≠ t := Nat.ne_of_lt (Nat.lt_of_lt_of_le V_a.lt (Nat.le_of_eq gt.symm))
  have ne_t_a := Ne.symm ne_a_t
  have ne_al_t : al ≠ t := Nat.ne_of_lt (Nat.lt_of_lt_of_le V_al.lt (Nat.le_of_eq gt.symm))
  have ne_t_al := Ne.symm ne_al_t
  have ne_sb_t : sb ≠ t := Nat.ne_of_lt (Nat.lt_of_lt_of_le E_sb.lt (Nat.le_of_eq gt.symm))
  have ne_t_sb := Ne.symm ne_sb_t
  have g_t : n0 ≤ t := Nat.le_trans Z0 (Nat.le_of_eq gt.symm)
  have sz_t : h0.size ≤ t := Nat.le_trans KP.1 (Nat.le_of_eq gt.symm)
  replace V_a := V_a.keep K (ninS ne_a_sb nin0)
  replace V_al := V_al.keep K (ninS ne_al_sb nin0)
  replace E_sb := E_sb.keep K
  replace Z0 := Nat.le_trans Z0 K.1
  replace OL := OL.keep K (allS g_sb all0)
  replace KP := KP.trans K (allS (Or.inr sz_sb) all0)
  clear F_value_sb
  have F_value_sb := F_value_sb'
  clear F_value_sb'
  clear F_coder_sb
  have F_coder_sb := F_coder_sb'
  clear F_coder_sb'
  clear F_count_sb
  have F_count_sb := F_count_sb'
  clear F_count_sb'
  replace F_count_sb : Fld Z h2 sb "java/lang/AbstractStringBuilder" "count" "I" (.int (Int32.ofNat 0)) := F_count_sb
  replace V_t : Arv Z h2 t kt .byte (Int32.ofNat 8) (own_vz [] 8) (.int 0) := V_t
  refine OwG.ac (mkF m 26 #[.val (.ref a), .val (.ref sb), .val (.int 0), .val (.int 0), .val (.ref a), .unset, .unset, .unset] [(.ref a)]) (fun tQ kQ => ?_) ?_
  · refine XS.astoreN P.here hx rfl (dc d2_16) rfl rfl (l' := #[.val (.ref a), .val (.ref sb), .unset, .unset, .unset, .unset, .unset, .unset]) rfl ?_
    refine XS.iconst P.here hx rfl (dc d2_17) ?_
    refine XS.istoreN P.here hx rfl (dc d2_18) rfl (l' := #[.val (.ref a), .val (.ref sb), .val (.int 0), .unset, .unset, .unset, .unset, .unset]) rfl ?_
    refine XS.iconst P.here hx rfl (dc d2_19) ?_
    refine XS.istoreN P.here hx rfl (dc d2_20) rfl (l' := #[.val (.ref a), .val (.ref sb), .val (.int 0), .val (.int 0), .unset, .unset, .unset, .unset]) rfl ?_
    refine XS.aloadN P.here hx rfl (dc d2_21) rfl rfl ?_
    refine XS.astore P.here hx rfl (dc d2_22) rfl rfl (l' := #[.val (.ref a), .val (.ref sb), .val (.int 0), .val (.int 0), .val (.ref a), .unset, .unset, .unset]) rfl ?_
    exact XS.aload P.here hx rfl (dc d2_24) rfl rfl kQ
  obtain ⟨own_cl, own_A, own_q1, own_S, own_M, own_H, own_U⟩ := id V_a
  obtain ⟨own_L, own_X, own_e, own_N⟩ := id P
  have own_Z := hZ
  refine OwG.ac (mkF m 32 #[.val (.ref a), .val (.ref sb), .val (.int 0), .val (.int 0), .val (.ref a), .val (.int 2), .val (.int 0), .unset] []) (fun tQ kQ => ?_) ?_
  · refine own_X.arraylength hx (by rw [own_e]; exact own_A.1) (State.isArrayOf_alike own_Z.alike own_A.2.1) (g := (mkF m 26 #[.val (.ref a), .val (.ref sb), .val (.int 0), .val (.int 0), .val (.ref a), .unset, .unset, .unset] [(.ref a)])) rfl rfl (dc d2_26) _ ?_
    rw [len_of own_S own_M]
    refine XS.istore P.here hx rfl (dc d2_27) rfl (l' := #[.val (.ref a), .val (.ref sb), .val (.int 0), .val (.int 0), .val (.ref a), .val (.int 2), .unset, .unset]) rfl ?_
    refine XS.iconst P.here hx rfl (dc d2_29) ?_
    exact XS.istore P.here hx rfl (dc d2_30) rfl (l' := #[.val (.ref a), .val (.ref sb), .val (.int 0), .val (.int 0), .val (.ref a), .val (.int 2), .val (.int 0), .unset]) rfl kQ
  replace P := P.wide (k' := 2) (n' := 20) (by decide) (by decide)
  refine OwG.ac (mkF m 43 #[.val (.ref a), .val (.ref sb), .val (.int 0), .val (.int 0), .val (.ref a), .val (.int 2), .val (.int 0), .unset] [(.int 0), (.ref a)]) (fun tQ kQ => ?_) ?_
  · refine XS.iload P.here hx rfl (dc d2_32) rfl ?_
    refine XS.iload P.here hx rfl (dc d2_34) rfl ?_
    refine XS.icmpNo P.here hx rfl (dc d2_36) rfl (tlt (by decide)).2.1 ?_
    refine XS.aload P.here hx rfl (dc d2_39) rfl rfl ?_
    exact XS.iload P.here hx rfl (dc d2_41) rfl kQ
  obtain ⟨own_cl, own_A, own_q1, own_S, own_M, own_H, own_U⟩ := id V_a
  obtain ⟨own_L, own_X, own_e, own_N⟩ := id P
  have own_Z := hZ
  have own_in := inb_of own_S (j := (0 : Int32)) ⟨(by decide), (by decide)⟩
  refine OwG.ac (mkF m 57 #[.val (.ref a), .val (.ref sb), .val (.int 0), .val (.int 0), .val (.ref a), .val (.int 2), .val (.int 0), .val (.int x0)] [(.int (((0 : Int32) <<< ((8 : Int32) &&& 31)) ||| (x0 &&& (255 : Int32))))]) (fun tQ kQ => ?_) ?_
  · refine own_X.baloadBytes hx (j := (0 : Int32)) (v := (.int x0)) (by rw [own_e]; exact own_A.1) (State.isArrayOf_alike own_Z.alike own_A.2.1) own_A.2.2 own_in (Has.at own_H own_in rfl) (g := (mkF m 43 #[.val (.ref a), .val (.ref sb), .val (.int 0), .val (.int 0), .val (.ref a), .val (.int 2), .val (.int 0), .unset] [(.int 0), (.ref a)])) rfl rfl (dc d2_43) _ ?_
    refine XS.istore P.here hx rfl (dc d2_44) rfl (l' := #[.val (.ref a), .val (.ref sb), .val (.int 0), .val (.int 0), .val (.ref a), .val (.int 2), .val (.int 0), .val (.int x0)]) rfl ?_
    refine XS.iloadN P.here hx rfl (dc d2_46) rfl ?_
    refine XS.bipush P.here hx rfl (dc d2_47) ?_
    refine XS.ishl P.here hx rfl (dc d2_49) rfl ?_
    refine XS.iload P.here hx rfl (dc d2_50) rfl ?_
    refine XS.sipush P.here hx rfl (dc d2_52) ?_
    refine XS.iand P.here hx rfl (dc d2_55) rfl ?_
    exact XS.ior P.here hx rfl (dc d2_56) rfl kQ
  rw [show (((0 : Int32) <<< ((8 : Int32) &&& 31)) ||| (x0 &&& (255 : Int32))) = (own_bt (0 : Int32) x0) from rfl]
  show OwG p e below s _ _ _ _ T (mkF m 57 #[.val (.ref a), .val (.ref sb), .val (.int 0), .val (.int 0), .val (.ref a), .val (.int 2), .val (.int 0), .val (.int x0)] [(.int (own_bt (0 : Int32) x0))])
  refine OwG.ac (mkF m 61 #[.val (.ref a), .val (.ref sb), .val (.int (own_bt (0 : Int32) x0)), .val (.int ((0 : Int32) + (8 : Int32))), .val (.ref a), .val (.int 2), .val (.int 0), .val (.int x0)] []) (fun tQ kQ => ?_) ?_
  · refine XS.istoreN P.here hx rfl (dc d2_57) rfl (l' := #[.val (.ref a), .val (.ref sb), .val (.int (own_bt (0 : Int32) x0)), .val (.int 0), .val (.ref a), .val (.int 2), .val (.int 0), .val (.int x0)]) rfl ?_
    exact XS.iinc P.here hx rfl (dc d2_58) rfl (l' := #[.val (.ref a), .val (.ref sb), .val (.int (own_bt (0 : Int32) x0)), .val (.int ((0 : Int32) + (8 : Int32))), .val (.ref a), .val (.int 2), .val (.int 0), .val (.int x0)]) rfl kQ
  rw [show ((0 : Int32) + (8 : Int32)) = (8 : Int32) from by decide]
  show OwG p e below s _ _ _ _ T (mkF m 61 #[.val (.ref a), .val (.ref sb), .val (.int (own_bt (0 : Int32) x0)), .val (.int 8), .val (.ref a), .val (.int 2), .val (.int 0), .val (.int x0)] [])
  refine OwG.ac (mkF m 66 #[.val (.ref a), .val (.ref sb), .val (.int (own_bt (0 : Int32) x0)), .val (.int 8), .val (.ref a), .val (.int 2), .val (.int 0), .val (.int x0)] []) (fun tQ kQ => ?_) ?_
  · refine XS.iloadN P.here hx rfl (dc d2_61) rfl ?_
    refine XS.iconst P.here hx rfl (dc d2_62) ?_
    exact XS.icmpNo P.here hx rfl (dc d2_63) rfl (flt (by decide)).1 kQ
  refine own_sg (N := 8) (k := 0) (vs := (own_vz [] 8)) (b' := (3 : Int32)) (by decide) hw hx hby hml hown hZ S2 hzC SAl (by decide) rfl (by decide) g_sb g_t ne_sb_t ne_a_sb ne_a_t ne_al_sb ne_al_t sz_sb sz_t P Z0 OL KP V_a V_al E_sb F_value_sb F_coder_sb F_count_sb V_t E_t ?_
  clear P Z0 OL KP V_a V_al E_sb F_value_sb F_coder_sb F_count_sb V_t E_t
  intro T h3 P Z0 OL KP V_a V_al E_sb F_value_sb F_coder_sb F_count_sb V_t E_t
  replace F_count_sb : Fld Z h3 sb "java/lang/AbstractStringBuilder" "count" "I" (.int (Int32.ofNat 1)) := F_count_sb
  replace V_t : Arv Z h3 t kt .byte (Int32.ofNat 8) (own_vz [(own_dg (own_bt (0 : Int32) x0) (3 : Int32))] 7) (.int 0) := V_t
  show OwG p e below s _ _ _ _ T (mkF m 61 #[.val (.ref a), .val (.ref sb), .val (.int (own_bt (0 : Int32) x0)), .val (.int 3), .val (.ref a), .val (.int 2), .val (.int 0), .val (.int x0)] [])
  refine OwG.ac (mkF m 32 #[.val (.ref a), .val (.ref sb), .val (.int (own_bt (0 : Int32) x0)), .val (.int 3), .val (.ref a), .val (.int 2), .val (.int ((0 : Int32) + (1 : Int32))), .val (.int x0)] []) (fun tQ kQ => ?_) ?_
  · refine XS.iloadN P.here hx rfl (dc d2_61) rfl ?_
    refine XS.iconst P.here hx rfl (dc d2_62) ?_
    refine XS.icmpYes P.here hx rfl (pc0 := 63) (pc' := 87) rfl (dc d2_63) rfl (tlt (by decide)).1 (by decide) (by decide) ?_
    refine XS.iinc P.here hx rfl (dc d2_87) rfl (l' := #[.val (.ref a), .val (.ref sb), .val (.int (own_bt (0 : Int32) x0)), .val (.int 3), .val (.ref a), .val (.int 2), .val (.int ((0 : Int32) + (1 : Int32))), .val (.int x0)]) rfl ?_
    exact XS.goto P.here hx rfl (pc0 := 90) (pc' := 32) rfl (dc d2_90) (by decide) (by decide) kQ
  rw [show ((0 : Int32) + (1 : Int32)) = (1 : Int32) from by decide]
  show OwG p e below s _ _ _ _ T (mkF m 32 #[.val (.ref a), .val (.ref sb), .val (.int (own_bt (0 : Int32) x0)), .val (.int 3), .val (.ref a), .val (.int 2), .val (.int 1), .val (.int x0)] [])
  refine OwG.ac (mkF m 43 #[.val (.ref a), .val (.ref sb), .val (.int (own_bt (0 : Int32) x0)), .val (.int 3), .val (.ref a), .val (.int 2), .val (.int 1), .val (.int x0)] [(.int 1), (.ref a)]) (fun tQ kQ => ?_) ?_
  · refine XS.iload P.here hx rfl (dc d2_32) rfl ?_
    refine XS.iload P.here hx rfl (dc d2_34) rfl ?_
    refine XS.icmpNo P.here hx rfl (dc d2_36) rfl (tlt (by decide)).2.1 ?_
    refine XS.aload P.here hx rfl (dc d2_39) rfl rfl ?_
    exact XS.iload P.here hx rfl (dc d2_41) rfl kQ
  obtain ⟨own_cl, own_A, own_q1, own_S, own_M, own_H, own_U⟩ := id V_a
  obtain ⟨own_L, own_X, own_e, own_N⟩ := id P
  have own_Z := hZ
  have own_in := inb_of own_S (j := (1 : Int32)) ⟨(by decide), (by decide)⟩
  refine OwG.ac (mkF m 57 #[.val (.ref a), .val (.ref sb), .val (.int (own_bt (0 : Int32) x0)), .val (.int 3), .val (.ref a), .val (.int 2), .val (.int 1), .val (.int x1)] [(.int (((own_bt (0 : Int32) x0) <<< ((8 : Int32) &&& 31)) ||| (x1 &&& (255 : Int32))))]) (fun tQ kQ => ?_) ?_
  · refine own_X.baloadBytes hx (j := (1 : Int32)) (v := (.int x1)) (by rw [own_e]; exact own_A.1) (State.isArrayOf_alike own_Z.alike own_A.2.1) own_A.2.2 own_in (Has.at own_H own_in rfl) (g := (mkF m 43 #[.val (.ref a), .val (.ref sb), .val (.int (own_bt (0 : Int32) x0)), .val (.int 3), .val (.ref a), .val (.int 2), .val (.int 1), .val (.int x0)] [(.int 1), (.ref a)])) rfl rfl (dc d2_43) _ ?_
    refine XS.istore P.here hx rfl (dc d2_44) rfl (l' := #[.val (.ref a), .val (.ref sb), .val (.int (own_bt (0 : Int32) x0)), .val (.int 3), .val (.ref a), .val (.int 2), .val (.int 1), .val (.int x1)]) rfl ?_
    refine XS.iloadN P.here hx rfl (dc d2_46) rfl ?_
    refine XS.bipush P.here hx rfl (dc d2_47) ?_
    refine XS.ishl P.here hx rfl (dc d2_49) rfl ?_
    refine XS.iload P.here hx rfl (dc d2_50) rfl ?_
    refine XS.sipush P.here hx rfl (dc d2_52) ?_
    refine XS.iand P.here hx rfl (dc d2_55) rfl ?_
    exact XS.ior P.here hx rfl (dc d2_56) rfl kQ
  rw [show (((own_bt (0 : Int32) x0) <<< ((8 : Int32) &&& 31)) ||| (x1 &&& (255 : Int32))) = (own_bt (own_bt (0 : Int32) x0) x1) from rfl]
  show OwG p e below s _ _ _ _ T (mkF m 57 #[.val (.ref a), .val (.ref sb), .val (.int (own_bt (0 : Int32) x0)), .val (.int 3), .val (.ref a), .val (.int 2), .val (.int 1), .val (.int x1)] [(.int (own_bt (own_bt (0 : Int32) x0) x1))])
  refine OwG.ac (mkF m 61 #[.val (.ref a), .val (.ref sb), .val (.int (own_bt (own_bt (0 : Int32) x0) x1)), .val (.int ((3 : Int32) + (8 : Int32))), .val (.ref a), .val (.int 2), .val (.int 1), .val (.int x1)] []) (fun tQ kQ => ?_) ?_
  · refine XS.istoreN P.here hx rfl (dc d2_57) rfl (l' := #[.val (.ref a), .val (.ref sb), .val (.int (own_bt (own_bt (0 : Int32) x0) x1)), .val (.int 3), .val (.ref a), .val (.int 2), .val (.int 1), .val (.int x1)]) rfl ?_
    exact XS.iinc P.here hx rfl (dc d2_58) rfl (l' := #[.val (.ref a), .val (.ref sb), .val (.int (own_bt (own_bt (0 : Int32) x0) x1)), .val (.int ((3 : Int32) + (8 : Int32))), .val (.ref a), .val (.int 2), .val (.int 1), .val (.int x1)]) rfl kQ
  rw [show ((3 : Int32) + (8 : Int32)) = (11 : Int32) from by decide]
  show OwG p e below s _ _ _ _ T (mkF m 61 #[.val (.ref a), .val (.ref sb), .val (.int (own_bt (own_bt (0 : Int32) x0) x1)), .val (.int 11), .val (.ref a), .val (.int 2), .val (.int 1), .val (.int x1)] [])
  refine OwG.ac (mkF m 66 #[.val (.ref a), .val (.ref sb), .val (.int (own_bt (own_bt (0 : Int32) x0) x1)), .val (.int 11), .val (.ref a), .val (.int 2), .val (.int 1), .val (.int x1)] []) (fun tQ kQ => ?_) ?_
  · refine XS.iloadN P.here hx rfl (dc d2_61) rfl ?_
    refine XS.iconst P.here hx rfl (dc d2_62) ?_
    exact XS.icmpNo P.here hx rfl (dc d2_63) rfl (flt (by decide)).1 kQ
  refine own_sg (N := 8) (k := 1) (vs := (own_vz [(own_dg (own_bt (0 : Int32) x0) (3 : Int32))] 7)) (b' := (6 : Int32)) (by decide) hw hx hby hml hown hZ S2 hzC SAl (by decide) rfl (by decide) g_sb g_t ne_sb_t ne_a_sb ne_a_t ne_al_sb ne_al_t sz_sb sz_t P Z0 OL KP V_a V_al E_sb F_value_sb F_coder_sb F_count_sb V_t E_t ?_
  clear P Z0 OL KP V_a V_al E_sb F_value_sb F_coder_sb F_count_sb V_t E_t
  intro T h4 P Z0 OL KP V_a V_al E_sb F_value_sb F_coder_sb F_count_sb V_t E_t
  replace F_count_sb : Fld Z h4 sb "java/lang/AbstractStringBuilder" "count" "I" (.int (Int32.ofNat 2)) := F_count_sb
  replace V_t : Arv Z h4 t kt .byte (Int32.ofNat 8) (own_vz [(own_dg (own_bt (0 : Int32) x0) (3 : Int32)), (own_dg (own_bt (own_bt (0 : Int32) x0) x1) (6 : Int32))] 6) (.int 0) := V_t
  show OwG p e below s _ _ _ _ T (mkF m 61 #[.val (.ref a), .val (.ref sb), .val (.int (own_bt (own_bt (0 : Int32) x0) x1)), .val (.int 6), .val (.ref a), .val (.int 2), .val (.int 1), .val (.int x1)] [])
  refine OwG.ac (mkF m 66 #[.val (.ref a), .val (.ref sb), .val (.int (own_bt (own_bt (0 : Int32) x0) x1)), .val (.int 6), .val (.ref a), .val (.int 2), .val (.int 1), .val (.int x1)] []) (fun tQ kQ => ?_) ?_
  · refine XS.iloadN P.here hx rfl (dc d2_61) rfl ?_
    refine XS.iconst P.here hx rfl (dc d2_62) ?_
    exact XS.icmpNo P.here hx rfl (dc d2_63) rfl (flt (by decide)).1 kQ
  refine own_sg (N := 8) (k := 2) (vs := (own_vz [(own_dg (own_bt (0 : Int32) x0) (3 : Int32)), (own_dg (own_bt (own_bt (0 : Int32) x0) x1) (6 : Int32))] 6)) (b' := (1 : Int32)) (by decide) hw hx hby hml hown hZ S2 hzC SAl (by decide) rfl (by decide) g_sb g_t ne_sb_t ne_a_sb ne_a_t ne_al_sb ne_al_t sz_sb sz_t P Z0 OL KP V_a V_al E_sb F_value_sb F_coder_sb F_count_sb V_t E_t ?_
  clear P Z0 OL KP V_a V_al E_sb F_value_sb F_coder_sb F_count_sb V_t E_t
  intro T h5 P Z0 OL KP V_a V_al E_sb F_value_sb F_coder_sb F_count_sb V_t E_t
  replace F_count_sb : Fld Z h5 sb "java/lang/AbstractStringBuilder" "count" "I" (.int (Int32.ofNat 3)) := F_count_sb
  replace V_t : Arv Z h5 t kt .byte (Int32.ofNat 8) (own_vz [(own_dg (own_bt (0 : Int32) x0) (3 : Int32)), (own_dg (own_bt (own_bt (0 : Int32) x0) x1) (6 : Int32)), (own_dg (own_bt (own_bt (0 : Int32) x0) x1) (1 : Int32))] 5) (.int 0) := V_t
  show OwG p e below s _ _ _ _ T (mkF m 61 #[.val (.ref a), .val (.ref sb), .val (.int (own_bt (own_bt (0 : Int32) x0) x1)), .val (.int 1), .val (.ref a), .val (.int 2), .val (.int 1), .val (.int x1)] [])
  refine OwG.ac (mkF m 32 #[.val (.ref a), .val (.ref sb), .val (.int (own_bt (own_bt (0 : Int32) x0) x1)), .val (.int 1), .val (.ref a), .val (.int 2), .val (.int ((1 : Int32) + (1 : Int32))), .val (.int x1)] []) (fun tQ kQ => ?_) ?_
  · refine XS.iloadN P.here hx rfl (dc d2_61) rfl ?_
    refine XS.iconst P.here hx rfl (dc d2_62) ?_
    refine XS.icmpYes P.here hx rfl (pc0 := 63) (pc' := 87) rfl (dc d2_63) rfl (tlt (by decide)).1 (by decide) (by decide) ?_
    refine XS.iinc P.here hx rfl (dc d2_87) rfl (l' := #[.val (.ref a), .val (.ref sb), .val (.int (own_bt (own_bt (0 : Int32) x0) x1)), .val (.int 1), .val (.ref a), .val (.int 2), .val (.int ((1 : Int32) + (1 : Int32))), .val (.int x1)]) rfl ?_
    exact XS.goto P.here hx rfl (pc0 := 90) (pc' := 32) rfl (dc d2_90) (by decide) (by decide) kQ
  rw [show ((1 : Int32) + (1 : Int32)) = (2 : Int32) from by decide]
  show OwG p e below s _ _ _ _ T (mkF m 32 #[.val (.ref a), .val (.ref sb), .val (.int (own_bt (own_bt (0 : Int32) x0) x1)), .val (.int 1), .val (.ref a), .val (.int 2), .val (.int 2), .val (.int x1)] [])
  refine OwG.ac (mkF m 97 #[.val (.ref a), .val (.ref sb), .val (.int (own_bt (own_bt (0 : Int32) x0) x1)), .val (.int 1), .val (.ref a), .val (.int 2), .val (.int 2), .val (.int x1)] []) (fun tQ kQ => ?_) ?_
  · refine XS.iload P.here hx rfl (dc d2_32) rfl ?_
    refine XS.iload P.here hx rfl (dc d2_34) rfl ?_
    refine XS.icmpYes P.here hx rfl (pc0 := 36) (pc' := 93) rfl (dc d2_36) rfl (flt (by decide)).2.1 (by decide) (by decide) ?_
    refine XS.iloadN P.here hx rfl (dc d2_93) rfl ?_
    exact XS.ifNo P.here hx rfl (dc d2_94) rfl ((if0 _ _).trans (tlt (by decide)).2.2.2) kQ
  refine own_sl (N := 8) (k := 3) (vs := (own_vz [(own_dg (own_bt (0 : Int32) x0) (3 : Int32)), (own_dg (own_bt (own_bt (0 : Int32) x0) x1) (6 : Int32)), (own_dg (own_bt (own_bt (0 : Int32) x0) x1) (1 : Int32))] 5)) hw hx hby hml hown hZ S2 hzC SAl (by decide) rfl (by decide) g_sb g_t ne_sb_t ne_a_sb ne_a_t ne_al_sb ne_al_t sz_sb sz_t P Z0 OL KP V_a V_al E_sb F_value_sb F_coder_sb F_count_sb V_t E_t ?_
  clear P Z0 OL KP V_a V_al E_sb F_value_sb F_coder_sb F_count_sb V_t E_t
  intro T h6 P Z0 OL KP V_a V_al E_sb F_value_sb F_coder_sb F_count_sb V_t E_t
  replace F_count_sb : Fld Z h6 sb "java/lang/AbstractStringBuilder" "count" "I" (.int (Int32.ofNat 4)) := F_count_sb
  replace V_t : Arv Z h6 t kt .byte (Int32.ofNat 8) (own_vz [(own_dg (own_bt (0 : Int32) x0) (3 : Int32)), (own_dg (own_bt (own_bt (0 : Int32) x0) x1) (6 : Int32)), (own_dg (own_bt (own_bt (0 : Int32) x0) x1) (1 : Int32)), (own_dl (own_bt (own_bt (0 : Int32) x0) x1) (1 : Int32))] 4) (.int 0) := V_t
  show OwG p e below s _ _ _ _ T (mkF m 114 #[.val (.ref a), .val (.ref sb), .val (.int (own_bt (own_bt (0 : Int32) x0) x1)), .val (.int 1), .val (.ref a), .val (.int 2), .val (.int 2), .val (.int x1)] [])
  refine own_sp (N := 8) (k := 4) (vs := (own_vz [(own_dg (own_bt (0 : Int32) x0) (3 : Int32)), (own_dg (own_bt (own_bt (0 : Int32) x0) x1) (6 : Int32)), (own_dg (own_bt (own_bt (0 : Int32) x0) x1) (1 : Int32)), (own_dl (own_bt (own_bt (0 : Int32) x0) x1) (1 : Int32))] 4)) (by decide) hw hx hby hml hown hZ S2 hzC SAl (by decide) rfl (by decide) g_sb g_t ne_sb_t ne_a_sb ne_a_t ne_al_sb ne_al_t sz_sb sz_t P Z0 OL KP V_a V_al E_sb F_value_sb F_coder_sb F_count_sb V_t E_t ?_
  clear P Z0 OL KP V_a V_al E_sb F_value_sb F_coder_sb F_count_sb V_t E_t
  intro T h7 P Z0 OL KP V_a V_al E_sb F_value_sb F_coder_sb F_count_sb V_t E_t
  replace F_count_sb : Fld Z h7 sb "java/lang/AbstractStringBuilder" "count" "I" (.int (Int32.ofNat 5)) := F_count_sb
  replace V_t : Arv Z h7 t kt .byte (Int32.ofNat 8) (own_vz [(own_dg (own_bt (0 : Int32) x0) (3 : Int32)), (own_dg (own_bt (own_bt (0 : Int32) x0) x1) (6 : Int32)), (own_dg (own_bt (own_bt (0 : Int32) x0) x1) (1 : Int32)), (own_dl (own_bt (own_bt (0 : Int32) x0) x1) (1 : Int32)), (61 : Int32)] 3) (.int 0) := V_t
  show OwG p e below s _ _ _ _ T (mkF m 114 #[.val (.ref a), .val (.ref sb), .val (.int (own_bt (own_bt (0 : Int32) x0) x1)), .val (.int 1), .val (.ref a), .val (.int 2), .val (.int 2), .val (.int x1)] [])
  refine own_sp (N := 8) (k := 5) (vs := (own_vz [(own_dg (own_bt (0 : Int32) x0) (3 : Int32)), (own_dg (own_bt (own_bt (0 : Int32) x0) x1) (6 : Int32)), (own_dg (own_bt (own_bt (0 : Int32) x0) x1) (1 : Int32)), (own_dl (own_bt (own_bt (0 : Int32) x0) x1) (1 : Int32)), (61 : Int32)] 3)) (by decide) hw hx hby hml hown hZ S2 hzC SAl (by decide) rfl (by decide) g_sb g_t ne_sb_t ne_a_sb ne_a_t ne_al_sb ne_al_t sz_sb sz_t P Z0 OL KP V_a V_al E_sb F_value_sb F_coder_sb F_count_sb V_t E_t ?_
  clear P Z0 OL KP V_a V_al E_sb F_value_sb F_coder_sb F_count_sb V_t E_t
  intro T h8 P Z0 OL KP V_a V_al E_sb F_value_sb F_coder_sb F_count_sb V_t E_t
  replace F_count_sb : Fld Z h8 sb "java/lang/AbstractStringBuilder" "count" "I" (.int (Int32.ofNat 6)) := F_count_sb
  replace V_t : Arv Z h8 t kt .byte (Int32.ofNat 8) (own_vz [(own_dg (own_bt (0 : Int32) x0) (3 : Int32)), (own_dg (own_bt (own_bt (0 : Int32) x0) x1) (6 : Int32)), (own_dg (own_bt (own_bt (0 : Int32) x0) x1) (1 : Int32)), (own_dl (own_bt (own_bt (0 : Int32) x0) x1) (1 : Int32)), (61 : Int32), (61 : Int32)] 2) (.int 0) := V_t
  show OwG p e below s _ _ _ _ T (mkF m 114 #[.val (.ref a), .val (.ref sb), .val (.int (own_bt (own_bt (0 : Int32) x0) x1)), .val (.int 1), .val (.ref a), .val (.int 2), .val (.int 2), .val (.int x1)] [])
  refine own_sp (N := 8) (k := 6) (vs := (own_vz [(own_dg (own_bt (0 : Int32) x0) (3 : Int32)), (own_dg (own_bt (own_bt (0 : Int32) x0) x1) (6 : Int32)), (own_dg (own_bt (own_bt (0 : Int32) x0) x1) (1 : Int32)), (own_dl (own_bt (own_bt (0 : Int32) x0) x1) (1 : Int32)), (61 : Int32), (61 : Int32)] 2)) (by decide) hw hx hby hml hown hZ S2 hzC SAl (by decide) rfl (by decide) g_sb g_t ne_sb_t ne_a_sb ne_a_t ne_al_sb ne_al_t sz_sb sz_t P Z0 OL KP V_a V_al E_sb F_value_sb F_coder_sb F_count_sb V_t E_t ?_
  clear P Z0 OL KP V_a V_al E_sb F_value_sb F_coder_sb F_count_sb V_t E_t
  intro T h9 P Z0 OL KP V_a V_al E_sb F_value_sb F_coder_sb F_count_sb V_t E_t
  replace F_count_sb : Fld Z h9 sb "java/lang/AbstractStringBuilder" "count" "I" (.int (Int32.ofNat 7)) := F_count_sb
  replace V_t : Arv Z h9 t kt .byte (Int32.ofNat 8) (own_vz [(own_dg (own_bt (0 : Int32) x0) (3 : Int32)), (own_dg (own_bt (own_bt (0 : Int32) x0) x1) (6 : Int32)), (own_dg (own_bt (own_bt (0 : Int32) x0) x1) (1 : Int32)), (own_dl (own_bt (own_bt (0 : Int32) x0) x1) (1 : Int32)), (61 : Int32), (61 : Int32), (61 : Int32)] 1) (.int 0) := V_t
  show OwG p e below s _ _ _ _ T (mkF m 114 #[.val (.ref a), .val (.ref sb), .val (.int (own_bt (own_bt (0 : Int32) x0) x1)), .val (.int 1), .val (.ref a), .val (.int 2), .val (.int 2), .val (.int x1)] [])
  refine own_sp (N := 8) (k := 7) (vs := (own_vz [(own_dg (own_bt (0 : Int32) x0) (3 : Int32)), (own_dg (own_bt (own_bt (0 : Int32) x0) x1) (6 : Int32)), (own_dg (own_bt (own_bt (0 : Int32) x0) x1) (1 : Int32)), (own_dl (own_bt (own_bt (0 : Int32) x0) x1) (1 : Int32)), (61 : Int32), (61 : Int32), (61 : Int32)] 1)) (by decide) hw hx hby hml hown hZ S2 hzC SAl (by decide) rfl (by decide) g_sb g_t ne_sb_t ne_a_sb ne_a_t ne_al_sb ne_al_t sz_sb sz_t P Z0 OL KP V_a V_al E_sb F_value_sb F_coder_sb F_count_sb V_t E_t ?_
  clear P Z0 OL KP V_a V_al E_sb F_value_sb F_coder_sb F_count_sb V_t E_t
  intro T h10 P Z0 OL KP V_a V_al E_sb F_value_sb F_coder_sb F_count_sb V_t E_t
  replace F_count_sb : Fld Z h10 sb "java/lang/AbstractStringBuilder" "count" "I" (.int (Int32.ofNat 8)) := F_count_sb
  replace V_t : Arv Z h10 t kt .byte (Int32.ofNat 8) (own_vz [(own_dg (own_bt (0 : Int32) x0) (3 : Int32)), (own_dg (own_bt (own_bt (0 : Int32) x0) x1) (6 : Int32)), (own_dg (own_bt (own_bt (0 : Int32) x0) x1) (1 : Int32)), (own_dl (own_bt (own_bt (0 : Int32) x0) x1) (1 : Int32)), (61 : Int32), (61 : Int32), (61 : Int32), (61 : Int32)] 0) (.int 0) := V_t
  show OwG p e below s _ _ _ _ T (mkF m 114 #[.val (.ref a), .val (.ref sb), .val (.int (own_bt (own_bt (0 : Int32) x0) x1)), .val (.int 1), .val (.ref a), .val (.int 2), .val (.int 2), .val (.int x1)] [])
  refine OwG.ac (mkF m 115 #[.val (.ref a), .val (.ref sb), .val (.int (own_bt (own_bt (0 : Int32) x0) x1)), .val (.int 1), .val (.ref a), .val (.int 2), .val (.int 2), .val (.int x1)] [(.ref sb)]) (fun tQ kQ => ?_) ?_
  · exact XS.aloadN P.here hx rfl (dc d2_114) rfl rfl kQ
  refine P.virtual hx hZ (y := (⟨"java/lang/StringBuilder", "length", "()I"⟩ : MethodName)) hown (own_w hw 60 rfl) (own_w hw 61 rfl) (own_w hw 63 rfl) (own_w hw 62 rfl) (by decide) (OwM.back (W := 0) (rmSl l Z a0 hw sb (Int32.ofNat 8) h10 n0 Z0 E_sb F_count_sb) hZ (own_w hw 64 rfl) (own_w hw 13 rfl) (own_le rfl) (own_le rfl)) (fun _ _ _ q => q.2) E_sb rfl (by rw [hml]; rfl) (argsL := []) (rest := []) (lenOf pd___I rfl) rfl (own_le rfl) (dc d2_115) rfl (own_le rfl) (own_le rfl) fun T own_v own_L h11 own_e P own_q => ?_
  obtain ⟨⟨rfl, own_hh⟩, -⟩ := own_q
  rw [own_hh] at P
  clear own_e own_hh
  show OwG p e below s _ _ _ _ T (mkF m 118 #[.val (.ref a), .val (.ref sb), .val (.int (own_bt (own_bt (0 : Int32) x0) x1)), .val (.int 1), .val (.ref a), .val (.int 2), .val (.int 2), .val (.int x1)] [(.int (Int32.ofNat 8))])
  refine OwG.ac (mkF m 120 #[.val (.ref a), .val (.ref sb), .val (.int (own_bt (own_bt (0 : Int32) x0) x1)), .val (.int 1), .val (.ref a), .val (.int 2), .val (.int 2), .val (.int x1)] [(.int 8), (.int (Int32.ofNat 8))]) (fun tQ kQ => ?_) ?_
  · exact XS.bipush P.here hx rfl (dc d2_118) kQ
  obtain ⟨own_L, own_X, own_rest⟩ := id P
  refine OwG.ac (mkF m 135 #[.val (.ref a), .val (.ref sb), .val (.int (own_bt (own_bt (0 : Int32) x0) x1)), .val (.int 1), .val (.ref a), .val (.int 2), .val (.int 2), .val (.int x1)] [(.ref sb)]) (fun tQ kQ => ?_) ?_
  · refine Jvm.RoadKit.iremM (g := (mkF m 120 #[.val (.ref a), .val (.ref sb), .val (.int (own_bt (own_bt (0 : Int32) x0) x1)), .val (.int 1), .val (.ref a), .val (.int 2), .val (.int 2), .val (.int x1)] [(.int 8), (.int (Int32.ofNat 8))])) own_X hx rfl (dc d2_120) rfl (by decide) ?_
    refine XS.ifYes P.here hx rfl (pc0 := 121) (pc' := 134) rfl (dc d2_121) rfl ((if0 _ _).trans (teq (by decide)).1) (by decide) (by decide) ?_
    exact XS.aloadN P.here hx rfl (dc d2_134) rfl rfl kQ
  refine P.virtual hx hZ (y := (⟨"java/lang/StringBuilder", "toString", "()Ljava/lang/String;"⟩ : MethodName)) hown (own_w hw 69 rfl) (own_w hw 70 rfl) (own_w hw 72 rfl) (own_w hw 71 rfl) (by decide) (OwM.back (W := 0) (rmTs l Z a0 hw sb t kt 8 (own_vz [(own_dg (own_bt (0 : Int32) x0) (3 : Int32)), (own_dg (own_bt (own_bt (0 : Int32) x0) x1) (6 : Int32)), (own_dg (own_bt (own_bt (0 : Int32) x0) x1) (1 : Int32)), (own_dl (own_bt (own_bt (0 : Int32) x0) x1) (1 : Int32)), (61 : Int32), (61 : Int32), (61 : Int32), (61 : Int32)] 0) zC h10 n0 Z0 S2 hzC OL E_sb F_value_sb F_coder_sb F_count_sb V_t E_t (by decide)) hZ (own_w hw 73 rfl) (own_w hw 13 rfl) (own_le rfl) (own_le rfl)) (fun _ _ _ q => q.2) E_sb rfl (by rw [hml]; rfl) (argsL := []) (rest := []) (lenOf pd___Ljava_lang_String_ rfl) rfl (own_le rfl) (dc d2_135) rfl (own_le rfl) (own_le rfl) fun T own_v own_L h12 own_e P own_q => ?_
  obtain ⟨⟨x, u, rfl, K, E_x, F1, F2, V_u⟩, -⟩ := own_q
  clear own_e
  replace V_a := V_a.keep K nin0
  replace V_al := V_al.keep K nin0
  replace E_sb := E_sb.keep K
  replace F_value_sb := F_value_sb.keep K nin0
  replace F_coder_sb := F_coder_sb.keep K nin0
  replace F_count_sb := F_count_sb.keep K nin0
  replace V_t := V_t.keep K nin0
  replace E_t := E_t.keep K
  replace Z0 := Nat.le_trans Z0 K.1
  replace OL := OL.keep K all0
  replace KP := KP.trans K all0
  show OwG p e below s _ _ _ _ T (mkF m 138 #[.val (.ref a), .val (.ref sb), .val (.int (own_bt (own_bt (0 : Int32) x0) x1)), .val (.int 1), .val (.ref a), .val (.int 2), .val (.int 2), .val (.int x1)] [(.ref x)])
  exact P.retR hx hlk hret rfl rfl (dc d2_138) (own_le rfl) (own_le rfl) ⟨x, u, kt, rfl, KP, E_x, F1, F2, V_u⟩
set_option maxRecDepth 65536 in
set_option maxHeartbeats 40000000 in
theorem rmE3 (l : Launch) (Z : State) (a0 : Array Value) (hw : ∀ d ∈ tables_1, d.before a0 Z = true) (a al : Addr) (ka kal : ClassId) (dal : Value) (zC : Int32) (x0 x1 x2 : Int32) (h0 : Heap) (n0 : Nat) (Z0 : n0 ≤ h0.size) (S2 : Sta Z Z.heap "java/lang/String" "COMPACT_STRINGS" "Z" (.int zC)) (hzC : ¬ zC = 0) (OL : Old Z n0 h0) (SAl : Sta Z Z.heap "com/example/grawl/grawl/util/Base32" "ALPHABET" "[C" (.ref al)) (V_a : Arv Z h0 a ka .byte (3 : Int32) [(.int x0), (.int x1), (.int x2)] (.int 0)) (V_al : Arv Z h0 al kal .char (32 : Int32) own_alist dal) :
    OwM l Z (⟨"com/example/grawl/grawl/util/Base32", "encode", "([B)Ljava/lang/String;"⟩ : MethodName) prog_8_method_2_code 8 (some (.object "java/lang/String")) ({ frames := 5, cells := 4, slots := 40, locals := 84 } : Room) n0 #[(.ref a)] h0 (fun v h => ∃ (x u : Addr) (ku : ClassId), v = some (.ref x) ∧ Keep h0 h [] ∧ Exa Z h x "java/lang/String" ∧ Fld Z h x "java/lang/String" "value" "[B" (.ref u) ∧ Fld Z h x "java/lang/String" "coder" "B" (.int 0) ∧ Arv Z h u ku .byte (Int32.ofNat 8) (own_vz [(own_dg (own_bt (0 : Int32) x0) (3 : Int32)), (own_dg (own_bt (own_bt (0 : Int32) x0) x1) (6 : Int32)), (own_dg (own_bt (own_bt (0 : Int32) x0) x1) (1 : Int32)), (own_dg (own_bt (own_bt (own_bt (0 : Int32) x0) x1) x2) (4 : Int32)), (own_dl (own_bt (own_bt (own_bt (0 : Int32) x0) x1) x2) (4 : Int32)), (61 : Int32), (61 : Int32), (61 : Int32)] 0) (.int 0)) := by
  refine OwM.mk (plainFor_of_name pn_com_example_grawl_grawl_util_Base32) ?_
  intro p e s m below meth cD T hx hby hml hown hnm hret hlk hZ P
  have dc := @Jvm.hb cD _ hby
  refine OwG.cast (show entryFrame m #[(.ref a)] 8 = mkF m 0 #[.val (.ref a), .unset, .unset, .unset, .unset, .unset, .unset, .unset] [] from by first | (simp [entryFrame, mkF, argsToLocals, Value.category]; done) | rfl) ?_
  have KP := Keep.refl h0 []
  refine P.newO hx hZ hown (own_w hw 11 rfl) (own_w hw 12 rfl) (own_w hw 13 rfl) rfl (dc d2_0) (own_le rfl) (own_le rfl) fun T h1 sb gsb P E A D => ?_
  have ne_a_sb : a ≠ sb := Nat.ne_of_lt (Nat.lt_of_lt_of_le V_a.lt (Nat.le_of_eq gsb.symm))
  have ne_sb_a := Ne.symm ne_a_sb
  have ne_al_sb : al ≠ sb := Nat.ne_of_lt (Nat.lt_of_lt_of_le V_al.lt (Nat.le_of_eq gsb.symm))
  have ne_sb_al := Ne.symm ne_al_sb
  have g_sb : n0 ≤ sb := Nat.le_trans Z0 (Nat.le_of_eq gsb.symm)
  have sz_sb : h0.size ≤ sb := Nat.le_trans KP.1 (Nat.le_of_eq gsb.symm)
  replace V_a := V_a.ext E
  replace V_al := V_al.ext E
  replace Z0 := Nat.le_trans Z0 E.1
  replace OL := OL.ext E
  replace KP := KP.ext E
  have E_sb := A
  have F_value_sb : Fld Z h1 sb "java/lang/AbstractStringBuilder" "value" "[B" .null := D (Or.inl (own_w hw 29 rfl)) (ty := (.array .byte)) (by decide)
  have F_coder_sb : Fld Z h1 sb "java/lang/AbstractStringBuilder" "coder" "B" (.int 0) := D (Or.inl (own_w hw 31 rfl)) (ty := .byte) (by decide)
  have F_count_sb : Fld Z h1 sb "java/lang/AbstractStringBuilder" "count" "I" (.int 0) := D (Or.inl (own_w hw 45 rfl)) (ty := .int) (by decide)
  clear A D E
  show OwG p e below s _ _ _ _ T (mkF m 3 #[.val (.ref a), .unset, .unset, .unset, .unset, .unset, .unset, .unset] [(.ref sb)])
  refine OwG.ac (mkF m 5 #[.val (.ref a), .unset, .unset, .unset, .unset, .unset, .unset, .unset] [(.ref a), (.ref sb), (.ref sb)]) (fun tQ kQ => ?_) ?_
  · refine XS.dup P.here hx rfl (dc d2_3) rfl rfl ?_
    exact XS.aloadN P.here hx rfl (dc d2_4) rfl rfl kQ
  obtain ⟨own_cl, own_A, own_q1, own_S, own_M, own_H, own_U⟩ := id V_a
  obtain ⟨own_L, own_X, own_e, own_N⟩ := id P
  have own_Z := hZ
  refine OwG.ac (mkF m 13 #[.val (.ref a), .unset, .unset, .unset, .unset, .unset, .unset, .unset] [(.int ((((3 : Int32) + (4 : Int32)) / (5 : Int32)) * (8 : Int32))), (.ref sb), (.ref sb)]) (fun tQ kQ => ?_) ?_
  · refine own_X.arraylength hx (by rw [own_e]; exact own_A.1) (State.isArrayOf_alike own_Z.alike own_A.2.1) (g := (mkF m 5 #[.val (.ref a), .unset, .unset, .unset, .unset, .unset, .unset, .unset] [(.ref a), (.ref sb), (.ref sb)])) rfl rfl (dc d2_5) _ ?_
    rw [len_of own_S own_M]
    refine XS.iconst P.here hx rfl (dc d2_6) ?_
    refine XS.iadd P.here hx rfl (dc d2_7) rfl ?_
    refine XS.iconst P.here hx rfl (dc d2_8) ?_
    refine XS.idiv P.here hx rfl (dc d2_9) rfl (by decide) ?_
    refine XS.bipush P.here hx rfl (dc d2_10) ?_
    exact XS.imul P.here hx rfl (dc d2_12) rfl kQ
  rw [show ((((3 : Int32) + (4 : Int32)) / (5 : Int32)) * (8 : Int32)) = (Int32.ofNat 8) from by decide]
  show OwG p e below s _ _ _ _ T (mkF m 13 #[.val (.ref a), .unset, .unset, .unset, .unset, .unset, .unset, .unset] [(.int (Int32.ofNat 8)), (.ref sb), (.ref sb)])
  refine P.special hx hZ (y := (⟨"java/lang/StringBuilder", "<init>", "(I)V"⟩ : MethodName)) rfl hown (own_w hw 14 rfl) (own_w hw 15 rfl) (own_w hw 16 rfl) (by decide) (OwM.back (W := 1) (rmSi l Z a0 hw sb 8 zC h1 n0 Z0 S2 hzC OL (by decide) g_sb E_sb F_value_sb F_coder_sb F_count_sb) hZ (own_w hw 16 rfl) (own_w hw 13 rfl) (own_le rfl) (own_le rfl)) (fun _ _ _ q => q.2) rfl (by rw [hml]; rfl) (a := sb) (argsL := [(.int (Int32.ofNat 8))]) (rest := [(.ref sb)]) (lenOf pd__I_V rfl) rfl (own_le rfl) (dc d2_13) rfl (own_le rfl) (own_le rfl) fun T own_v own_L h2 own_e P own_q => ?_
  obtain ⟨⟨rfl, K, t, kt, gt, F_value_sb', F_coder_sb', F_count_sb', V_t, E_t⟩, -⟩ := own_q
  show OwG p e below s _ _ _ _ T (mkF m 16 #[.val (.ref a), .unset, .unset, .unset, .unset, .unset, .unset, .unset] [(.ref sb)])
  clear own_e
  have ne_a_t : a ≠ t := Nat.ne_of_lt (Nat.lt_of_lt_of_le V_a.lt (Nat.le_of_eq gt.symm))
  have ne_t_a := Ne.symm ne_a_t
  have ne_al_t : al ≠ t := Nat.ne_of_lt (Nat.lt_of_lt_of_le V_al.lt (Nat.le_of_eq gt.symm))
  have ne_t_al := Ne.symm ne_al_t
  have ne_sb_t : sb ≠ t := Nat.ne_of_lt (Nat.lt_of_lt_of_le E_sb.lt (Nat.le_of_eq gt.symm))
  have ne_t_sb := Ne.symm ne_sb_t
  have g_t : n0 ≤ t := Nat.le_trans Z0 (Nat.le_of_eq gt.symm)
  have sz_t : h0.size ≤ t := Nat.le_trans KP.1 (Nat.le_of_eq gt.symm)
  replace V_a := V_a.keep K (ninS ne_a_sb nin0)
  replace V_al := V_al.keep K (ninS ne_al_sb nin0)
  replace E_sb := E_sb.keep K
  replace Z0 := Nat.le_trans Z0 K.1
  replace OL := OL.keep K (allS g_sb all0)
  replace KP := KP.trans K (allS (Or.inr sz_sb) all0)
  clear F_value_sb
  have F_value_sb := F_value_sb'
  clear F_value_sb'
  clear F_coder_sb
  have F_coder_sb := F_coder_sb'
  clear F_coder_sb'
  clear F_count_sb
  have F_count_sb := F_count_sb'
  clear F_count_sb'
  replace F_count_sb : Fld Z h2 sb "java/lang/AbstractStringBuilder" "count" "I" (.int (Int32.ofNat 0)) := F_count_sb
  replace V_t : Arv Z h2 t kt .byte (Int32.ofNat 8) (own_vz [] 8) (.int 0) := V_t
  refine OwG.ac (mkF m 26 #[.val (.ref a), .val (.ref sb), .val (.int 0), .val (.int 0), .val (.ref a), .unset, .unset, .unset] [(.ref a)]) (fun tQ kQ => ?_) ?_
  · refine XS.astoreN P.here hx rfl (dc d2_16) rfl rfl (l' := #[.val (.ref a), .val (.ref sb), .unset, .unset, .unset, .unset, .unset, .unset]) rfl ?_
    refine XS.iconst P.here hx rfl (dc d2_17) ?_
    refine XS.istoreN P.here hx rfl (dc d2_18) rfl (l' := #[.val (.ref a), .val (.ref sb), .val (.int 0), .unset, .unset, .unset, .unset, .unset]) rfl ?_
    refine XS.iconst P.here hx rfl (dc d2_19) ?_
    refine XS.istoreN P.here hx rfl (dc d2_20) rfl (l' := #[.val (.ref a), .val (.ref sb), .val (.int 0), .val (.int 0), .unset, .unset, .unset, .unset]) rfl ?_
    refine XS.aloadN P.here hx rfl (dc d2_21) rfl rfl ?_
    refine XS.astore P.here hx rfl (dc d2_22) rfl rfl (l' := #[.val (.ref a), .val (.ref sb), .val (.int 0), .val (.int 0), .val (.ref a), .unset, .unset, .unset]) rfl ?_
    exact XS.aload P.here hx rfl (dc d2_24) rfl rfl kQ
  obtain ⟨own_cl, own_A, own_q1, own_S, own_M, own_H, own_U⟩ := id V_a
  obtain ⟨own_L, own_X, own_e, own_N⟩ := id P
  have own_Z := hZ
  refine OwG.ac (mkF m 32 #[.val (.ref a), .val (.ref sb), .val (.int 0), .val (.int 0), .val (.ref a), .val (.int 3), .val (.int 0), .unset] []) (fun tQ kQ => ?_) ?_
  · refine own_X.arraylength hx (by rw [own_e]; exact own_A.1) (State.isArrayOf_alike own_Z.alike own_A.2.1) (g := (mkF m 26 #[.val (.ref a), .val (.ref sb), .val (.int 0), .val (.int 0), .val (.ref a), .unset, .unset, .unset] [(.ref a)])) rfl rfl (dc d2_26) _ ?_
    rw [len_of own_S own_M]
    refine XS.istore P.here hx rfl (dc d2_27) rfl (l' := #[.val (.ref a), .val (.ref sb), .val (.int 0), .val (.int 0), .val (.ref a), .val (.int 3), .unset, .unset]) rfl ?_
    refine XS.iconst P.here hx rfl (dc d2_29) ?_
    exact XS.istore P.here hx rfl (dc d2_30) rfl (l' := #[.val (.ref a), .val (.ref sb), .val (.int 0), .val (.int 0), .val (.ref a), .val (.int 3), .val (.int 0), .unset]) rfl kQ
  replace P := P.wide (k' := 2) (n' := 20) (by decide) (by decide)
  refine OwG.ac (mkF m 43 #[.val (.ref a), .val (.ref sb), .val (.int 0), .val (.int 0), .val (.ref a), .val (.int 3), .val (.int 0), .unset] [(.int 0), (.ref a)]) (fun tQ kQ => ?_) ?_
  · refine XS.iload P.here hx rfl (dc d2_32) rfl ?_
    refine XS.iload P.here hx rfl (dc d2_34) rfl ?_
    refine XS.icmpNo P.here hx rfl (dc d2_36) rfl (tlt (by decide)).2.1 ?_
    refine XS.aload P.here hx rfl (dc d2_39) rfl rfl ?_
    exact XS.iload P.here hx rfl (dc d2_41) rfl kQ
  obtain ⟨own_cl, own_A, own_q1, own_S, own_M, own_H, own_U⟩ := id V_a
  obtain ⟨own_L, own_X, own_e, own_N⟩ := id P
  have own_Z := hZ
  have own_in := inb_of own_S (j := (0 : Int32)) ⟨(by decide), (by decide)⟩
  refine OwG.ac (mkF m 57 #[.val (.ref a), .val (.ref sb), .val (.int 0), .val (.int 0), .val (.ref a), .val (.int 3), .val (.int 0), .val (.int x0)] [(.int (((0 : Int32) <<< ((8 : Int32) &&& 31)) ||| (x0 &&& (255 : Int32))))]) (fun tQ kQ => ?_) ?_
  · refine own_X.baloadBytes hx (j := (0 : Int32)) (v := (.int x0)) (by rw [own_e]; exact own_A.1) (State.isArrayOf_alike own_Z.alike own_A.2.1) own_A.2.2 own_in (Has.at own_H own_in rfl) (g := (mkF m 43 #[.val (.ref a), .val (.ref sb), .val (.int 0), .val (.int 0), .val (.ref a), .val (.int 3), .val (.int 0), .unset] [(.int 0), (.ref a)])) rfl rfl (dc d2_43) _ ?_
    refine XS.istore P.here hx rfl (dc d2_44) rfl (l' := #[.val (.ref a), .val (.ref sb), .val (.int 0), .val (.int 0), .val (.ref a), .val (.int 3), .val (.int 0), .val (.int x0)]) rfl ?_
    refine XS.iloadN P.here hx rfl (dc d2_46) rfl ?_
    refine XS.bipush P.here hx rfl (dc d2_47) ?_
    refine XS.ishl P.here hx rfl (dc d2_49) rfl ?_
    refine XS.iload P.here hx rfl (dc d2_50) rfl ?_
    refine XS.sipush P.here hx rfl (dc d2_52) ?_
    refine XS.iand P.here hx rfl (dc d2_55) rfl ?_
    exact XS.ior P.here hx rfl (dc d2_56) rfl kQ
  rw [show (((0 : Int32) <<< ((8 : Int32) &&& 31)) ||| (x0 &&& (255 : Int32))) = (own_bt (0 : Int32) x0) from rfl]
  show OwG p e below s _ _ _ _ T (mkF m 57 #[.val (.ref a), .val (.ref sb), .val (.int 0), .val (.int 0), .val (.ref a), .val (.int 3), .val (.int 0), .val (.int x0)] [(.int (own_bt (0 : Int32) x0))])
  refine OwG.ac (mkF m 61 #[.val (.ref a), .val (.ref sb), .val (.int (own_bt (0 : Int32) x0)), .val (.int ((0 : Int32) + (8 : Int32))), .val (.ref a), .val (.int 3), .val (.int 0), .val (.int x0)] []) (fun tQ kQ => ?_) ?_
  · refine XS.istoreN P.here hx rfl (dc d2_57) rfl (l' := #[.val (.ref a), .val (.ref sb), .val (.int (own_bt (0 : Int32) x0)), .val (.int 0), .val (.ref a), .val (.int 3), .val (.int 0), .val (.int x0)]) rfl ?_
    exact XS.iinc P.here hx rfl (dc d2_58) rfl (l' := #[.val (.ref a), .val (.ref sb), .val (.int (own_bt (0 : Int32) x0)), .val (.int ((0 : Int32) + (8 : Int32))), .val (.ref a), .val (.int 3), .val (.int 0), .val (.int x0)]) rfl kQ
  rw [show ((0 : Int32) + (8 : Int32)) = (8 : Int32) from by decide]
  show OwG p e below s _ _ _ _ T (mkF m 61 #[.val (.ref a), .val (.ref sb), .val (.int (own_bt (0 : Int32) x0)), .val (.int 8), .val (.ref a), .val (.int 3), .val (.int 0), .val (.int x0)] [])
  refine OwG.ac (mkF m 66 #[.val (.ref a), .val (.ref sb), .val (.int (own_bt (0 : Int32) x0)), .val (.int 8), .val (.ref a), .val (.int 3), .val (.int 0), .val (.int x0)] []) (fun tQ kQ => ?_) ?_
  · refine XS.iloadN P.here hx rfl (dc d2_61) rfl ?_
    refine XS.iconst P.here hx rfl (dc d2_62) ?_
    exact XS.icmpNo P.here hx rfl (dc d2_63) rfl (flt (by decide)).1 kQ
  refine own_sg (N := 8) (k := 0) (vs := (own_vz [] 8)) (b' := (3 : Int32)) (by decide) hw hx hby hml hown hZ S2 hzC SAl (by decide) rfl (by decide) g_sb g_t ne_sb_t ne_a_sb ne_a_t ne_al_sb ne_al_t sz_sb sz_t P Z0 OL KP V_a V_al E_sb F_value_sb F_coder_sb F_count_sb V_t E_t ?_
  clear P Z0 OL KP V_a V_al E_sb F_value_sb F_coder_sb F_count_sb V_t E_t
  intro T h3 P Z0 OL KP V_a V_al E_sb F_value_sb F_coder_sb F_count_sb V_t E_t
  replace F_count_sb : Fld Z h3 sb "java/lang/AbstractStringBuilder" "count" "I" (.int (Int32.ofNat 1)) := F_count_sb
  replace V_t : Arv Z h3 t kt .byte (Int32.ofNat 8) (own_vz [(own_dg (own_bt (0 : Int32) x0) (3 : Int32))] 7) (.int 0) := V_t
  show OwG p e below s _ _ _ _ T (mkF m 61 #[.val (.ref a), .val (.ref sb), .val (.int (own_bt (0 : Int32) x0)), .val (.int 3), .val (.ref a), .val (.int 3), .val (.int 0), .val (.int x0)] [])
  refine OwG.ac (mkF m 32 #[.val (.ref a), .val (.ref sb), .val (.int (own_bt (0 : Int32) x0)), .val (.int 3), .val (.ref a), .val (.int 3), .val (.int ((0 : Int32) + (1 : Int32))), .val (.int x0)] []) (fun tQ kQ => ?_) ?_
  · refine XS.iloadN P.here hx rfl (dc d2_61) rfl ?_
    refine XS.iconst P.here hx rfl (dc d2_62) ?_
    refine XS.icmpYes P.here hx rfl (pc0 := 63) (pc' := 87) rfl (dc d2_63) rfl (tlt (by decide)).1 (by decide) (by decide) ?_
    refine XS.iinc P.here hx rfl (dc d2_87) rfl (l' := #[.val (.ref a), .val (.ref sb), .val (.int (own_bt (0 : Int32) x0)), .val (.int 3), .val (.ref a), .val (.int 3), .val (.int ((0 : Int32) + (1 : Int32))), .val (.int x0)]) rfl ?_
    exact XS.goto P.here hx rfl (pc0 := 90) (pc' := 32) rfl (dc d2_90) (by decide) (by decide) kQ
  rw [show ((0 : Int32) + (1 : Int32)) = (1 : Int32) from by decide]
  show OwG p e below s _ _ _ _ T (mkF m 32 #[.val (.ref a), .val (.ref sb), .val (.int (own_bt (0 : Int32) x0)), .val (.int 3), .val (.ref a), .val (.int 3), .val (.int 1), .val (.int x0)] [])
  refine OwG.ac (mkF m 43 #[.val (.ref a), .val (.ref sb), .val (.int (own_bt (0 : Int32) x0)), .val (.int 3), .val (.ref a), .val (.int 3), .val (.int 1), .val (.int x0)] [(.int 1), (.ref a)]) (fun tQ kQ => ?_) ?_
  · refine XS.iload P.here hx rfl (dc d2_32) rfl ?_
    refine XS.iload P.here hx rfl (dc d2_34) rfl ?_
    refine XS.icmpNo P.here hx rfl (dc d2_36) rfl (tlt (by decide)).2.1 ?_
    refine XS.aload P.here hx rfl (dc d2_39) rfl rfl ?_
    exact XS.iload P.here hx rfl (dc d2_41) rfl kQ
  obtain ⟨own_cl, own_A, own_q1, own_S, own_M, own_H, own_U⟩ := id V_a
  obtain ⟨own_L, own_X, own_e, own_N⟩ := id P
  have own_Z := hZ
  have own_in := inb_of own_S (j := (1 : Int32)) ⟨(by decide), (by decide)⟩
  refine OwG.ac (mkF m 57 #[.val (.ref a), .val (.ref sb), .val (.int (own_bt (0 : Int32) x0)), .val (.int 3), .val (.ref a), .val (.int 3), .val (.int 1), .val (.int x1)] [(.int (((own_bt (0 : Int32) x0) <<< ((8 : Int32) &&& 31)) ||| (x1 &&& (255 : Int32))))]) (fun tQ kQ => ?_) ?_
  · refine own_X.baloadBytes hx (j := (1 : Int32)) (v := (.int x1)) (by rw [own_e]; exact own_A.1) (State.isArrayOf_alike own_Z.alike own_A.2.1) own_A.2.2 own_in (Has.at own_H own_in rfl) (g := (mkF m 43 #[.val (.ref a), .val (.ref sb), .val (.int (own_bt (0 : Int32) x0)), .val (.int 3), .val (.ref a), .val (.int 3), .val (.int 1), .val (.int x0)] [(.int 1), (.ref a)])) rfl rfl (dc d2_43) _ ?_
    refine XS.istore P.here hx rfl (dc d2_44) rfl (l' := #[.val (.ref a), .val (.ref sb), .val (.int (own_bt (0 : Int32) x0)), .val (.int 3), .val (.ref a), .val (.int 3), .val (.int 1), .val (.int x1)]) rfl ?_
    refine XS.iloadN P.here hx rfl (dc d2_46) rfl ?_
    refine XS.bipush P.here hx rfl (dc d2_47) ?_
    refine XS.ishl P.here hx rfl (dc d2_49) rfl ?_
    refine XS.iload P.here hx rfl (dc d2_50) rfl ?_
    refine XS.sipush P.here hx rfl (dc d2_52) ?_
    refine XS.iand P.here hx rfl (dc d2_55) rfl ?_
    exact XS.ior P.here hx rfl (dc d2_56) rfl kQ
  rw [show (((own_bt (0 : Int32) x0) <<< ((8 : Int32) &&& 31)) ||| (x1 &&& (255 : Int32))) = (own_bt (own_bt (0 : Int32) x0) x1) from rfl]
  show OwG p e below s _ _ _ _ T (mkF m 57 #[.val (.ref a), .val (.ref sb), .val (.int (own_bt (0 : Int32) x0)), .val (.int 3), .val (.ref a), .val (.int 3), .val (.int 1), .val (.int x1)] [(.int (own_bt (own_bt (0 : Int32) x0) x1))])
  refine OwG.ac (mkF m 61 #[.val (.ref a), .val (.ref sb), .val (.int (own_bt (own_bt (0 : Int32) x0) x1)), .val (.int ((3 : Int32) + (8 : Int32))), .val (.ref a), .val (.int 3), .val (.int 1), .val (.int x1)] []) (fun tQ kQ => ?_) ?_
  · refine XS.istoreN P.here hx rfl (dc d2_57) rfl (l' := #[.val (.ref a), .val (.ref sb), .val (.int (own_bt (own_bt (0 : Int32) x0) x1)), .val (.int 3), .val (.ref a), .val (.int 3), .val (.int 1), .val (.int x1)]) rfl ?_
    exact XS.iinc P.here hx rfl (dc d2_58) rfl (l' := #[.val (.ref a), .val (.ref sb), .val (.int (own_bt (own_bt (0 : Int32) x0) x1)), .val (.int ((3 : Int32) + (8 : Int32))), .val (.ref a), .val (.int 3), .val (.int 1), .val (.int x1)]) rfl kQ
  rw [show ((3 : Int32) + (8 : Int32)) = (11 : Int32) from by decide]
  show OwG p e below s _ _ _ _ T (mkF m 61 #[.val (.ref a), .val (.ref sb), .val (.int (own_bt (own_bt (0 : Int32) x0) x1)), .val (.int 11), .val (.ref a), .val (.int 3), .val (.int 1), .val (.int x1)] [])
  refine OwG.ac (mkF m 66 #[.val (.ref a), .val (.ref sb), .val (.int (own_bt (own_bt (0 : Int32) x0) x1)), .val (.int 11), .val (.ref a), .val (.int 3), .val (.int 1), .val (.int x1)] []) (fun tQ kQ => ?_) ?_
  · refine XS.iloadN P.here hx rfl (dc d2_61) rfl ?_
    refine XS.iconst P.here hx rfl (dc d2_62) ?_
    exact XS.icmpNo P.here hx rfl (dc d2_63) rfl (flt (by decide)).1 kQ
  refine own_sg (N := 8) (k := 1) (vs := (own_vz [(own_dg (own_bt (0 : Int32) x0) (3 : Int32))] 7)) (b' := (6 : Int32)) (by decide) hw hx hby hml hown hZ S2 hzC SAl (by decide) rfl (by decide) g_sb g_t ne_sb_t ne_a_sb ne_a_t ne_al_sb ne_al_t sz_sb sz_t P Z0 OL KP V_a V_al E_sb F_value_sb F_coder_sb F_count_sb V_t E_t ?_
  clear P Z0 OL KP V_a V_al E_sb F_value_sb F_coder_sb F_count_sb V_t E_t
  intro T h4 P Z0 OL KP V_a V_al E_sb F_value_sb F_coder_sb F_count_sb V_t E_t
  replace F_count_sb : Fld Z h4 sb "java/lang/AbstractStringBuilder" "count" "I" (.int (Int32.ofNat 2)) := F_count_sb
  replace V_t : Arv Z h4 t kt .byte (Int32.ofNat 8) (own_vz [(own_dg (own_bt (0 : Int32) x0) (3 : Int32)), (own_dg (own_bt (own_bt (0 : Int32) x0) x1) (6 : Int32))] 6) (.int 0) := V_t
  show OwG p e below s _ _ _ _ T (mkF m 61 #[.val (.ref a), .val (.ref sb), .val (.int (own_bt (own_bt (0 : Int32) x0) x1)), .val (.int 6), .val (.ref a), .val (.int 3), .val (.int 1), .val (.int x1)] [])
  refine OwG.ac (mkF m 66 #[.val (.ref a), .val (.ref sb), .val (.int (own_bt (own_bt (0 : Int32) x0) x1)), .val (.int 6), .val (.ref a), .val (.int 3), .val (.int 1), .val (.int x1)] []) (fun tQ kQ => ?_) ?_
  · refine XS.iloadN P.here hx rfl (dc d2_61) rfl ?_
    refine XS.iconst P.here hx rfl (dc d2_62) ?_
    exact XS.icmpNo P.here hx rfl (dc d2_63) rfl (flt (by decide)).1 kQ
  refine own_sg (N := 8) (k := 2) (vs := (own_vz [(own_dg (own_bt (0 : Int32) x0) (3 : Int32)), (own_dg (own_bt (own_bt (0 : Int32) x0) x1) (6 : Int32))] 6)) (b' := (1 : Int32)) (by decide) hw hx hby hml hown hZ S2 hzC SAl (by decide) rfl (by decide) g_sb g_t ne_sb_t ne_a_sb ne_a_t ne_al_sb ne_al_t sz_sb sz_t P Z0 OL KP V_a V_al E_sb F_value_sb F_coder_sb F_count_sb V_t E_t ?_
  clear P Z0 OL KP V_a V_al E_sb F_value_sb F_coder_sb F_count_sb V_t E_t
  intro T h5 P Z0 OL KP V_a V_al E_sb F_value_sb F_coder_sb F_count_sb V_t E_t
  replace F_count_sb : Fld Z h5 sb "java/lang/AbstractStringBuilder" "count" "I" (.int (Int32.ofNat 3)) := F_count_sb
  replace V_t : Arv Z h5 t kt .byte (Int32.ofNat 8) (own_vz [(own_dg (own_bt (0 : Int32) x0) (3 : Int32)), (own_dg (own_bt (own_bt (0 : Int32) x0) x1) (6 : Int32)), (own_dg (own_bt (own_bt (0 : Int32) x0) x1) (1 : Int32))] 5) (.int 0) := V_t
  show OwG p e below s _ _ _ _ T (mkF m 61 #[.val (.ref a), .val (.ref sb), .val (.int (own_bt (own_bt (0 : Int32) x0) x1)), .val (.int 1), .val (.ref a), .val (.int 3), .val (.int 1), .val (.int x1)] [])
  refine OwG.ac (mkF m 32 #[.val (.ref a), .val (.ref sb), .val (.int (own_bt (own_bt (0 : Int32) x0) x1)), .val (.int 1), .val (.ref a), .val (.int 3), .val (.int ((1 : Int32) + (1 : Int32))), .val (.int x1)] []) (fun tQ kQ => ?_) ?_
  · refine XS.iloadN P.here hx rfl (dc d2_61) rfl ?_
    refine XS.iconst P.here hx rfl (dc d2_62) ?_
    refine XS.icmpYes P.here hx rfl (pc0 := 63) (pc' := 87) rfl (dc d2_63) rfl (tlt (by decide)).1 (by decide) (by decide) ?_
    refine XS.iinc P.here hx rfl (dc d2_87) rfl (l' := #[.val (.ref a), .val (.ref sb), .val (.int (own_bt (own_bt (0 : Int32) x0) x1)), .val (.int 1), .val (.ref a), .val (.int 3), .val (.int ((1 : Int32) + (1 : Int32))), .val (.int x1)]) rfl ?_
    exact XS.goto P.here hx rfl (pc0 := 90) (pc' := 32) rfl (dc d2_90) (by decide) (by decide) kQ
  rw [show ((1 : Int32) + (1 : Int32)) = (2 : Int32) from by decide]
  show OwG p e below s _ _ _ _ T (mkF m 32 #[.val (.ref a), .val (.ref sb), .val (.int (own_bt (own_bt (0 : Int32) x0) x1)), .val (.int 1), .val (.ref a), .val (.int 3), .val (.int 2), .val (.int x1)] [])
  refine OwG.ac (mkF m 43 #[.val (.ref a), .val (.ref sb), .val (.int (own_bt (own_bt (0 : Int32) x0) x1)), .val (.int 1), .val (.ref a), .val (.int 3), .val (.int 2), .val (.int x1)] [(.int 2), (.ref a)]) (fun tQ kQ => ?_) ?_
  · refine XS.iload P.here hx rfl (dc d2_32) rfl ?_
    refine XS.iload P.here hx rfl (dc d2_34) rfl ?_
    refine XS.icmpNo P.here hx rfl (dc d2_36) rfl (tlt (by decide)).2.1 ?_
    refine XS.aload P.here hx rfl (dc d2_39) rfl rfl ?_
    exact XS.iload P.here hx rfl (dc d2_41) rfl kQ
  obtain ⟨own_cl, own_A, own_q1, own_S, own_M, own_H, own_U⟩ := id V_a
  obtain ⟨own_L, own_X, own_e, own_N⟩ := id P
  have own_Z := hZ
  have own_in := inb_of own_S (j := (2 : Int32)) ⟨(by decide), (by decide)⟩
  refine OwG.ac (mkF m 57 #[.val (.ref a), .val (.ref sb), .val (.int (own_bt (own_bt (0 : Int32) x0) x1)), .val (.int 1), .val (.ref a), .val (.int 3), .val (.int 2), .val (.int x2)] [(.int (((own_bt (own_bt (0 : Int32) x0) x1) <<< ((8 : Int32) &&& 31)) ||| (x2 &&& (255 : Int32))))]) (fun tQ kQ => ?_) ?_
  · refine own_X.baloadBytes hx (j := (2 : Int32)) (v := (.int x2)) (by rw [own_e]; exact own_A.1) (State.isArrayOf_alike own_Z.alike own_A.2.1) own_A.2.2 own_in (Has.at own_H own_in rfl) (g := (mkF m 43 #[.val (.ref a), .val (.ref sb), .val (.int (own_bt (own_bt (0 : Int32) x0) x1)), .val (.int 1), .val (.ref a), .val (.int 3), .val (.int 2), .val (.int x1)] [(.int 2), (.ref a)])) rfl rfl (dc d2_43) _ ?_
    refine XS.istore P.here hx rfl (dc d2_44) rfl (l' := #[.val (.ref a), .val (.ref sb), .val (.int (own_bt (own_bt (0 : Int32) x0) x1)), .val (.int 1), .val (.ref a), .val (.int 3), .val (.int 2), .val (.int x2)]) rfl ?_
    refine XS.iloadN P.here hx rfl (dc d2_46) rfl ?_
    refine XS.bipush P.here hx rfl (dc d2_47) ?_
    refine XS.ishl P.here hx rfl (dc d2_49) rfl ?_
    refine XS.iload P.here hx rfl (dc d2_50) rfl ?_
    refine XS.sipush P.here hx rfl (dc d2_52) ?_
    refine XS.iand P.here hx rfl (dc d2_55) rfl ?_
    exact XS.ior P.here hx rfl (dc d2_56) rfl kQ
  rw [show (((own_bt (own_bt (0 : Int32) x0) x1) <<< ((8 : Int32) &&& 31)) ||| (x2 &&& (255 : Int32))) = (own_bt (own_bt (own_bt (0 : Int32) x0) x1) x2) from rfl]
  show OwG p e below s _ _ _ _ T (mkF m 57 #[.val (.ref a), .val (.ref sb), .val (.int (own_bt (own_bt (0 : Int32) x0) x1)), .val (.int 1), .val (.ref a), .val (.int 3), .val (.int 2), .val (.int x2)] [(.int (own_bt (own_bt (own_bt (0 : Int32) x0) x1) x2))])
  refine OwG.ac (mkF m 61 #[.val (.ref a), .val (.ref sb), .val (.int (own_bt (own_bt (own_bt (0 : Int32) x0) x1) x2)), .val (.int ((1 : Int32) + (8 : Int32))), .val (.ref a), .val (.int 3), .val (.int 2), .val (.int x2)] []) (fun tQ kQ => ?_) ?_
  · refine XS.istoreN P.here hx rfl (dc d2_57) rfl (l' := #[.val (.ref a), .val (.ref sb), .val (.int (own_bt (own_bt (own_bt (0 : Int32) x0) x1) x2)), .val (.int 1), .val (.ref a), .val (.int 3), .val (.int 2), .val (.int x2)]) rfl ?_
    exact XS.iinc P.here hx rfl (dc d2_58) rfl (l' := #[.val (.ref a), .val (.ref sb), .val (.int (own_bt (own_bt (own_bt (0 : Int32) x0) x1) x2)), .val (.int ((1 : Int32) + (8 : Int32))), .val (.ref a), .val (.int 3), .val (.int 2), .val (.int x2)]) rfl kQ
  rw [show ((1 : Int32) + (8 : Int32)) = (9 : Int32) from by decide]
  show OwG p e below s _ _ _ _ T (mkF m 61 #[.val (.ref a), .val (.ref sb), .val (.int (own_bt (own_bt (own_bt (0 : Int32) x0) x1) x2)), .val (.int 9), .val (.ref a), .val (.int 3), .val (.int 2), .val (.int x2)] [])
  refine OwG.ac (mkF m 66 #[.val (.ref a), .val (.ref sb), .val (.int (own_bt (own_bt (own_bt (0 : Int32) x0) x1) x2)), .val (.int 9), .val (.ref a), .val (.int 3), .val (.int 2), .val (.int x2)] []) (fun tQ kQ => ?_) ?_
  · refine XS.iloadN P.here hx rfl (dc d2_61) rfl ?_
    refine XS.iconst P.here hx rfl (dc d2_62) ?_
    exact XS.icmpNo P.here hx rfl (dc d2_63) rfl (flt (by decide)).1 kQ
  refine own_sg (N := 8) (k := 3) (vs := (own_vz [(own_dg (own_bt (0 : Int32) x0) (3 : Int32)), (own_dg (own_bt (own_bt (0 : Int32) x0) x1) (6 : Int32)), (own_dg (own_bt (own_bt (0 : Int32) x0) x1) (1 : Int32))] 5)) (b' := (4 : Int32)) (by decide) hw hx hby hml hown hZ S2 hzC SAl (by decide) rfl (by decide) g_sb g_t ne_sb_t ne_a_sb ne_a_t ne_al_sb ne_al_t sz_sb sz_t P Z0 OL KP V_a V_al E_sb F_value_sb F_coder_sb F_count_sb V_t E_t ?_
  clear P Z0 OL KP V_a V_al E_sb F_value_sb F_coder_sb F_count_sb V_t E_t
  intro T h6 P Z0 OL KP V_a V_al E_sb F_value_sb F_coder_sb F_count_sb V_t E_t
  replace F_count_sb : Fld Z h6 sb "java/lang/AbstractStringBuilder" "count" "I" (.int (Int32.ofNat 4)) := F_count_sb
  replace V_t : Arv Z h6 t kt .byte (Int32.ofNat 8) (own_vz [(own_dg (own_bt (0 : Int32) x0) (3 : Int32)), (own_dg (own_bt (own_bt (0 : Int32) x0) x1) (6 : Int32)), (own_dg (own_bt (own_bt (0 : Int32) x0) x1) (1 : Int32)), (own_dg (own_bt (own_bt (own_bt (0 : Int32) x0) x1) x2) (4 : Int32))] 4) (.int 0) := V_t
  show OwG p e below s _ _ _ _ T (mkF m 61 #[.val (.ref a), .val (.ref sb), .val (.int (own_bt (own_bt (own_bt (0 : Int32) x0) x1) x2)), .val (.int 4), .val (.ref a), .val (.int 3), .val (.int 2), .val (.int x2)] [])
  refine OwG.ac (mkF m 32 #[.val (.ref a), .val (.ref sb), .val (.int (own_bt (own_bt (own_bt (0 : Int32) x0) x1) x2)), .val (.int 4), .val (.ref a), .val (.int 3), .val (.int ((2 : Int32) + (1 : Int32))), .val (.int x2)] []) (fun tQ kQ => ?_) ?_
  · refine XS.iloadN P.here hx rfl (dc d2_61) rfl ?_
    refine XS.iconst P.here hx rfl (dc d2_62) ?_
    refine XS.icmpYes P.here hx rfl (pc0 := 63) (pc' := 87) rfl (dc d2_63) rfl (tlt (by decide)).1 (by decide) (by decide) ?_
    refine XS.iinc P.here hx rfl (dc d2_87) rfl (l' := #[.val (.ref a), .val (.ref sb), .val (.int (own_bt (own_bt (own_bt (0 : Int32) x0) x1) x2)), .val (.int 4), .val (.ref a), .val (.int 3), .val (.int ((2 : Int32) + (1 : Int32))), .val (.int x2)]) rfl ?_
    exact XS.goto P.here hx rfl (pc0 := 90) (pc' := 32) rfl (dc d2_90) (by decide) (by decide) kQ
  rw [show ((2 : Int32) + (1 : Int32)) = (3 : Int32) from by decide]
  show OwG p e below s _ _ _ _ T (mkF m 32 #[.val (.ref a), .val (.ref sb), .val (.int (own_bt (own_bt (own_bt (0 : Int32) x0) x1) x2)), .val (.int 4), .val (.ref a), .val (.int 3), .val (.int 3), .val (.int x2)] [])
  refine OwG.ac (mkF m 97 #[.val (.ref a), .val (.ref sb), .val (.int (own_bt (own_bt (own_bt (0 : Int32) x0) x1) x2)), .val (.int 4), .val (.ref a), .val (.int 3), .val (.int 3), .val (.int x2)] []) (fun tQ kQ => ?_) ?_
  · refine XS.iload P.here hx rfl (dc d2_32) rfl ?_
    refine XS.iload P.here hx rfl (dc d2_34) rfl ?_
    refine XS.icmpYes P.here hx rfl (pc0 := 36) (pc' := 93) rfl (dc d2_36) rfl (flt (by decide)).2.1 (by decide) (by decide) ?_
    refine XS.iloadN P.here hx rfl (dc d2_93) rfl ?_
    exact XS.ifNo P.here hx rfl (dc d2_94) rfl ((if0 _ _).trans (tlt (by decide)).2.2.2) kQ
  refine own_sl (N := 8) (k := 4) (vs := (own_vz [(own_dg (own_bt (0 : Int32) x0) (3 : Int32)), (own_dg (own_bt (own_bt (0 : Int32) x0) x1) (6 : Int32)), (own_dg (own_bt (own_bt (0 : Int32) x0) x1) (1 : Int32)), (own_dg (own_bt (own_bt (own_bt (0 : Int32) x0) x1) x2) (4 : Int32))] 4)) hw hx hby hml hown hZ S2 hzC SAl (by decide) rfl (by decide) g_sb g_t ne_sb_t ne_a_sb ne_a_t ne_al_sb ne_al_t sz_sb sz_t P Z0 OL KP V_a V_al E_sb F_value_sb F_coder_sb F_count_sb V_t E_t ?_
  clear P Z0 OL KP V_a V_al E_sb F_value_sb F_coder_sb F_count_sb V_t E_t
  intro T h7 P Z0 OL KP V_a V_al E_sb F_value_sb F_coder_sb F_count_sb V_t E_t
  replace F_count_sb : Fld Z h7 sb "java/lang/AbstractStringBuilder" "count" "I" (.int (Int32.ofNat 5)) := F_count_sb
  replace V_t : Arv Z h7 t kt .byte (Int32.ofNat 8) (own_vz [(own_dg (own_bt (0 : Int32) x0) (3 : Int32)), (own_dg (own_bt (own_bt (0 : Int32) x0) x1) (6 : Int32)), (own_dg (own_bt (own_bt (0 : Int32) x0) x1) (1 : Int32)), (own_dg (own_bt (own_bt (own_bt (0 : Int32) x0) x1) x2) (4 : Int32)), (own_dl (own_bt (own_bt (own_bt (0 : Int32) x0) x1) x2) (4 : Int32))] 3) (.int 0) := V_t
  show OwG p e below s _ _ _ _ T (mkF m 114 #[.val (.ref a), .val (.ref sb), .val (.int (own_bt (own_bt (own_bt (0 : Int32) x0) x1) x2)), .val (.int 4), .val (.ref a), .val (.int 3), .val (.int 3), .val (.int x2)] [])
  refine own_sp (N := 8) (k := 5) (vs := (own_vz [(own_dg (own_bt (0 : Int32) x0) (3 : Int32)), (own_dg (own_bt (own_bt (0 : Int32) x0) x1) (6 : Int32)), (own_dg (own_bt (own_bt (0 : Int32) x0) x1) (1 : Int32)), (own_dg (own_bt (own_bt (own_bt (0 : Int32) x0) x1) x2) (4 : Int32)), (own_dl (own_bt (own_bt (own_bt (0 : Int32) x0) x1) x2) (4 : Int32))] 3)) (by decide) hw hx hby hml hown hZ S2 hzC SAl (by decide) rfl (by decide) g_sb g_t ne_sb_t ne_a_sb ne_a_t ne_al_sb ne_al_t sz_sb sz_t P Z0 OL KP V_a V_al E_sb F_value_sb F_coder_sb F_count_sb V_t E_t ?_
  clear P Z0 OL KP V_a V_al E_sb F_value_sb F_coder_sb F_count_sb V_t E_t
  intro T h8 P Z0 OL KP V_a V_al E_sb F_value_sb F_coder_sb F_count_sb V_t E_t
  replace F_count_sb : Fld Z h8 sb "java/lang/AbstractStringBuilder" "count" "I" (.int (Int32.ofNat 6)) := F_count_sb
  replace V_t : Arv Z h8 t kt .byte (Int32.ofNat 8) (own_vz [(own_dg (own_bt (0 : Int32) x0) (3 : Int32)), (own_dg (own_bt (own_bt (0 : Int32) x0) x1) (6 : Int32)), (own_dg (own_bt (own_bt (0 : Int32) x0) x1) (1 : Int32)), (own_dg (own_bt (own_bt (own_bt (0 : Int32) x0) x1) x2) (4 : Int32)), (own_dl (own_bt (own_bt (own_bt (0 : Int32) x0) x1) x2) (4 : Int32)), (61 : Int32)] 2) (.int 0) := V_t
  show OwG p e below s _ _ _ _ T (mkF m 114 #[.val (.ref a), .val (.ref sb), .val (.int (own_bt (own_bt (own_bt (0 : Int32) x0) x1) x2)), .val (.int 4), .val (.ref a), .val (.int 3), .val (.int 3), .val (.int x2)] [])
  refine own_sp (N := 8) (k := 6) (vs := (own_vz [(own_dg (own_bt (0 : Int32) x0) (3 : Int32)), (own_dg (own_bt (own_bt (0 : Int32) x0) x1) (6 : Int32)), (own_dg (own_bt (own_bt (0 : Int32) x0) x1) (1 : Int32)), (own_dg (own_bt (own_bt (own_bt (0 : Int32) x0) x1) x2) (4 : Int32)), (own_dl (own_bt (own_bt (own_bt (0 : Int32) x0) x1) x2) (4 : Int32)), (61 : Int32)] 2)) (by decide) hw hx hby hml hown hZ S2 hzC SAl (by decide) rfl (by decide) g_sb g_t ne_sb_t ne_a_sb ne_a_t ne_al_sb ne_al_t sz_sb sz_t P Z0 OL KP V_a V_al E_sb F_value_sb F_coder_sb F_count_sb V_t E_t ?_
  clear P Z0 OL KP V_a V_al E_sb F_value_sb F_coder_sb F_count_sb V_t E_t
  intro T h9 P Z0 OL KP V_a V_al E_sb F_value_sb F_coder_sb F_count_sb V_t E_t
  replace F_count_sb : Fld Z h9 sb "java/lang/AbstractStringBuilder" "count" "I" (.int (Int32.ofNat 7)) := F_count_sb
  replace V_t : Arv Z h9 t kt .byte (Int32.ofNat 8) (own_vz [(own_dg (own_bt (0 : Int32) x0) (3 : Int32)), (own_dg (own_bt (own_bt (0 : Int32) x0) x1) (6 : Int32)), (own_dg (own_bt (own_bt (0 : Int32) x0) x1) (1 : Int32)), (own_dg (own_bt (own_bt (own_bt (0 : Int32) x0) x1) x2) (4 : Int32)), (own_dl (own_bt (own_bt (own_bt (0 : Int32) x0) x1) x2) (4 : Int32)), (61 : Int32), (61 : Int32)] 1) (.int 0) := V_t
  show OwG p e below s _ _ _ _ T (mkF m 114 #[.val (.ref a), .val (.ref sb), .val (.int (own_bt (own_bt (own_bt (0 : Int32) x0) x1) x2)), .val (.int 4), .val (.ref a), .val (.int 3), .val (.int 3), .val (.int x2)] [])
  refine own_sp (N := 8) (k := 7) (vs := (own_vz [(own_dg (own_bt (0 : Int32) x0) (3 : Int32)), (own_dg (own_bt (own_bt (0 : Int32) x0) x1) (6 : Int32)), (own_dg (own_bt (own_bt (0 : Int32) x0) x1) (1 : Int32)), (own_dg (own_bt (own_bt (own_bt (0 : Int32) x0) x1) x2) (4 : Int32)), (own_dl (own_bt (own_bt (own_bt (0 : Int32) x0) x1) x2) (4 : Int32)), (61 : Int32), (61 : Int32)] 1)) (by decide) hw hx hby hml hown hZ S2 hzC SAl (by decide) rfl (by decide) g_sb g_t ne_sb_t ne_a_sb ne_a_t ne_al_sb ne_al_t sz_sb sz_t P Z0 OL KP V_a V_al E_sb F_value_sb F_coder_sb F_count_sb V_t E_t ?_
  clear P Z0 OL KP V_a V_al E_sb F_value_sb F_coder_sb F_count_sb V_t E_t
  intro T h10 P Z0 OL KP V_a V_al E_sb F_value_sb F_coder_sb F_count_sb V_t E_t
  replace F_count_sb : Fld Z h10 sb "java/lang/AbstractStringBuilder" "count" "I" (.int (Int32.ofNat 8)) := F_count_sb
  replace V_t : Arv Z h10 t kt .byte (Int32.ofNat 8) (own_vz [(own_dg (own_bt (0 : Int32) x0) (3 : Int32)), (own_dg (own_bt (own_bt (0 : Int32) x0) x1) (6 : Int32)), (own_dg (own_bt (own_bt (0 : Int32) x0) x1) (1 : Int32)), (own_dg (own_bt (own_bt (own_bt (0 : Int32) x0) x1) x2) (4 : Int32)), (own_dl (own_bt (own_bt (own_bt (0 : Int32) x0) x1) x2) (4 : Int32)), (61 : Int32), (61 : Int32), (61 : Int32)] 0) (.int 0) := V_t
  show OwG p e below s _ _ _ _ T (mkF m 114 #[.val (.ref a), .val (.ref sb), .val (.int (own_bt (own_bt (own_bt (0 : Int32) x0) x1) x2)), .val (.int 4), .val (.ref a), .val (.int 3), .val (.int 3), .val (.int x2)] [])
  refine OwG.ac (mkF m 115 #[.val (.ref a), .val (.ref sb), .val (.int (own_bt (own_bt (own_bt (0 : Int32) x0) x1) x2)), .val (.int 4), .val (.ref a), .val (.int 3), .val (.int 3), .val (.int x2)] [(.ref sb)]) (fun tQ kQ => ?_) ?_
  · exact XS.aloadN P.here hx rfl (dc d2_114) rfl rfl kQ
  refine P.virtual hx hZ (y := (⟨"java/lang/StringBuilder", "length", "()I"⟩ : MethodName)) hown (own_w hw 60 rfl) (own_w hw 61 rfl) (own_w hw 63 rfl) (own_w hw 62 rfl) (by decide) (OwM.back (W := 0) (rmSl l Z a0 hw sb (Int32.ofNat 8) h10 n0 Z0 E_sb F_count_sb) hZ (own_w hw 64 rfl) (own_w hw 13 rfl) (own_le rfl) (own_le rfl)) (fun _ _ _ q => q.2) E_sb rfl (by rw [hml]; rfl) (argsL := []) (rest := []) (lenOf pd___I rfl) rfl (own_le rfl) (dc d2_115) rfl (own_le rfl) (own_le rfl) fun T own_v own_L h11 own_e P own_q => ?_
  obtain ⟨⟨rfl, own_hh⟩, -⟩ := own_q
  rw [own_hh] at P
  clear own_e own_hh
  show OwG p e below s _ _ _ _ T (mkF m 118 #[.val (.ref a), .val (.ref sb), .val (.int (own_bt (own_bt (own_bt (0 : Int32) x0) x1) x2)), .val (.int 4), .val (.ref a), .val (.int 3), .val (.int 3), .val (.int x2)] [(.int (Int32.ofNat 8))])
  refine OwG.ac (mkF m 120 #[.val (.ref a), .val (.ref sb), .val (.int (own_bt (own_bt (own_bt (0 : Int32) x0) x1) x2)), .val (.int 4), .val (.ref a), .val (.int 3), .val (.int 3), .val (.int x2)] [(.int 8), (.int (Int32.ofNat 8))]) (fun tQ kQ => ?_) ?_
  · exact XS.bipush P.here hx rfl (dc d2_118) kQ
  obtain ⟨own_L, own_X, own_rest⟩ := id P
  refine OwG.ac (mkF m 135 #[.val (.ref a), .val (.ref sb), .val (.int (own_bt (own_bt (own_bt (0 : Int32) x0) x1) x2)), .val (.int 4), .val (.ref a), .val (.int 3), .val (.int 3), .val (.int x2)] [(.ref sb)]) (fun tQ kQ => ?_) ?_
  · refine Jvm.RoadKit.iremM (g := (mkF m 120 #[.val (.ref a), .val (.ref sb), .val (.int (own_bt (own_bt (own_bt (0 : Int32) x0) x1) x2)), .val (.int 4), .val (.ref a), .val (.int 3), .val (.int 3), .val (.int x2)] [(.int 8), (.int (Int32.ofNat 8))])) own_X hx rfl (dc d2_120) rfl (by decide) ?_
    refine XS.ifYes P.here hx rfl (pc0 := 121) (pc' := 134) rfl (dc d2_121) rfl ((if0 _ _).trans (teq (by decide)).1) (by decide) (by decide) ?_
    exact XS.aloadN P.here hx rfl (dc d2_134) rfl rfl kQ
  refine P.virtual hx hZ (y := (⟨"java/lang/StringBuilder", "toString", "()Ljava/lang/String;"⟩ : MethodName)) hown (own_w hw 69 rfl) (own_w hw 70 rfl) (own_w hw 72 rfl) (own_w hw 71 rfl) (by decide) (OwM.back (W := 0) (rmTs l Z a0 hw sb t kt 8 (own_vz [(own_dg (own_bt (0 : Int32) x0) (3 : Int32)), (own_dg (own_bt (own_bt (0 : Int32) x0) x1) (6 : Int32)), (own_dg (own_bt (own_bt (0 : Int32) x0) x1) (1 : Int32)), (own_dg (own_bt (own_bt (own_bt (0 : Int32) x0) x1) x2) (4 : Int32)), (own_dl (own_bt (own_bt (own_bt (0 : Int32) x0) x1) x2) (4 : Int32)), (61 : Int32), (61 : Int32), (61 : Int32)] 0) zC h10 n0 Z0 S2 hzC OL E_sb F_value_sb F_coder_sb F_count_sb V_t E_t (by decide)) hZ (own_w hw 73 rfl) (own_w hw 13 rfl) (own_le rfl) (own_le rfl)) (fun _ _ _ q => q.2) E_sb rfl (by rw [hml]; rfl) (argsL := []) (rest := []) (lenOf pd___Ljava_lang_String_ rfl) rfl (own_le rfl) (dc d2_135) rfl (own_le rfl) (own_le rfl) fun T own_v own_L h12 own_e P own_q => ?_
  obtain ⟨⟨x, u, rfl, K, E_x, F1, F2, V_u⟩, -⟩ := own_q
  clear own_e
  replace V_a := V_a.keep K nin0
  replace V_al := V_al.keep K nin0
  replace E_sb := E_sb.keep K
  replace F_value_sb := F_value_sb.keep K nin0
  replace F_coder_sb := F_coder_sb.keep K nin0
  replace F_count_sb := F_count_sb.keep K nin0
  replace V_t := V_t.keep K nin0
  replace E_t := E_t.keep K
  replace Z0 := Nat.le_trans Z0 K.1
  replace OL := OL.keep K all0
  replace KP := KP.trans K all0
  show OwG p e below s _ _ _ _ T (mkF m 138 #[.val (.ref a), .val (.ref sb), .val (.int (own_bt (own_bt (own_bt (0 : Int32) x0) x1) x2)), .val (.int 4), .val (.ref a), .val (.int 3), .val (.int 3), .val (.int x2)] [(.ref x)])
  exact P.retR hx hlk hret rfl rfl (dc d2_138) (own_le rfl) (own_le rfl) ⟨x, u, kt, rfl, KP, E_x, F1, F2, V_u⟩
set_option maxRecDepth 65536 in
set_option maxHeartbeats 40000000 in
theorem rmE4 (l : Launch) (Z : State) (a0 : Array Value) (hw : ∀ d ∈ tables_1, d.before a0 Z = true) (a al : Addr) (ka kal : ClassId) (dal : Value) (zC : Int32) (x0 x1 x2 x3 : Int32) (h0 : Heap) (n0 : Nat) (Z0 : n0 ≤ h0.size) (S2 : Sta Z Z.heap "java/lang/String" "COMPACT_STRINGS" "Z" (.int zC)) (hzC : ¬ zC = 0) (OL : Old Z n0 h0) (SAl : Sta Z Z.heap "com/example/grawl/grawl/util/Base32" "ALPHABET" "[C" (.ref al)) (V_a : Arv Z h0 a ka .byte (4 : Int32) [(.int x0), (.int x1), (.int x2), (.int x3)] (.int 0)) (V_al : Arv Z h0 al kal .char (32 : Int32) own_alist dal) :
    OwM l Z (⟨"com/example/grawl/grawl/util/Base32", "encode", "([B)Ljava/lang/String;"⟩ : MethodName) prog_8_method_2_code 8 (some (.object "java/lang/String")) ({ frames := 5, cells := 4, slots := 40, locals := 84 } : Room) n0 #[(.ref a)] h0 (fun v h => ∃ (x u : Addr) (ku : ClassId), v = some (.ref x) ∧ Keep h0 h [] ∧ Exa Z h x "java/lang/String" ∧ Fld Z h x "java/lang/String" "value" "[B" (.ref u) ∧ Fld Z h x "java/lang/String" "coder" "B" (.int 0) ∧ Arv Z h u ku .byte (Int32.ofNat 8) (own_vz [(own_dg (own_bt (0 : Int32) x0) (3 : Int32)), (own_dg (own_bt (own_bt (0 : Int32) x0) x1) (6 : Int32)), (own_dg (own_bt (own_bt (0 : Int32) x0) x1) (1 : Int32)), (own_dg (own_bt (own_bt (own_bt (0 : Int32) x0) x1) x2) (4 : Int32)), (own_dg (own_bt (own_bt (own_bt (own_bt (0 : Int32) x0) x1) x2) x3) (7 : Int32)), (own_dg (own_bt (own_bt (own_bt (own_bt (0 : Int32) x0) x1) x2) x3) (2 : Int32)), (own_dl (own_bt (own_bt (own_bt (own_bt (0 : Int32) x0) x1) x2) x3) (2 : Int32)), (61 : Int32)] 0) (.int 0)) := by
  refine OwM.mk (plainFor_of_name pn_com_example_grawl_grawl_util_Base32) ?_
  intro p e s m below meth cD T hx hby hml hown hnm hret hlk hZ P
  have dc := @Jvm.hb cD _ hby
  refine OwG.cast (show entryFrame m #[(.ref a)] 8 = mkF m 0 #[.val (.ref a), .unset, .unset, .unset, .unset, .unset, .unset, .unset] [] from by first | (simp [entryFrame, mkF, argsToLocals, Value.category]; done) | rfl) ?_
  have KP := Keep.refl h0 []
  refine P.newO hx hZ hown (own_w hw 11 rfl) (own_w hw 12 rfl) (own_w hw 13 rfl) rfl (dc d2_0) (own_le rfl) (own_le rfl) fun T h1 sb gsb P E A D => ?_
  have ne_a_sb : a ≠ sb := Nat.ne_of_lt (Nat.lt_of_lt_of_le V_a.lt (Nat.le_of_eq gsb.symm))
  have ne_sb_a := Ne.symm ne_a_sb
  have ne_al_sb : al ≠ sb := Nat.ne_of_lt (Nat.lt_of_lt_of_le V_al.lt (Nat.le_of_eq gsb.symm))
  have ne_sb_al := Ne.symm ne_al_sb
  have g_sb : n0 ≤ sb := Nat.le_trans Z0 (Nat.le_of_eq gsb.symm)
  have sz_sb : h0.size ≤ sb := Nat.le_trans KP.1 (Nat.le_of_eq gsb.symm)
  replace V_a := V_a.ext E
  replace V_al := V_al.ext E
  replace Z0 := Nat.le_trans Z0 E.1
  replace OL := OL.ext E
  replace KP := KP.ext E
  have E_sb := A
  have F_value_sb : Fld Z h1 sb "java/lang/AbstractStringBuilder" "value" "[B" .null := D (Or.inl (own_w hw 29 rfl)) (ty := (.array .byte)) (by decide)
  have F_coder_sb : Fld Z h1 sb "java/lang/AbstractStringBuilder" "coder" "B" (.int 0) := D (Or.inl (own_w hw 31 rfl)) (ty := .byte) (by decide)
  have F_count_sb : Fld Z h1 sb "java/lang/AbstractStringBuilder" "count" "I" (.int 0) := D (Or.inl (own_w hw 45 rfl)) (ty := .int) (by decide)
  clear A D E
  show OwG p e below s _ _ _ _ T (mkF m 3 #[.val (.ref a), .unset, .unset, .unset, .unset, .unset, .unset, .unset] [(.ref sb)])
  refine OwG.ac (mkF m 5 #[.val (.ref a), .unset, .unset, .unset, .unset, .unset, .unset, .unset] [(.ref a), (.ref sb), (.ref sb)]) (fun tQ kQ => ?_) ?_
  · refine XS.dup P.here hx rfl (dc d2_3) rfl rfl ?_
    exact XS.aloadN P.here hx rfl (dc d2_4) rfl rfl kQ
  obtain ⟨own_cl, own_A, own_q1, own_S, own_M, own_H, own_U⟩ := id V_a
  obtain ⟨own_L, own_X, own_e, own_N⟩ := id P
  have own_Z := hZ
  refine OwG.ac (mkF m 13 #[.val (.ref a), .unset, .unset, .unset, .unset, .unset, .unset, .unset] [(.int ((((4 : Int32) + (4 : Int32)) / (5 : Int32)) * (8 : Int32))), (.ref sb), (.ref sb)]) (fun tQ kQ => ?_) ?_
  · refine own_X.arraylength hx (by rw [own_e]; exact own_A.1) (State.isArrayOf_alike own_Z.alike own_A.2.1) (g := (mkF m 5 #[.val (.ref a), .unset, .unset, .unset, .unset, .unset, .unset, .unset] [(.ref a), (.ref sb), (.ref sb)])) rfl rfl (dc d2_5) _ ?_
    rw [len_of own_S own_M]
    refine XS.iconst P.here hx rfl (dc d2_6) ?_
    refine XS.iadd P.here hx rfl (dc d2_7) rfl ?_
    refine XS.iconst P.here hx rfl (dc d2_8) ?_
    refine XS.idiv P.here hx rfl (dc d2_9) rfl (by decide) ?_
    refine XS.bipush P.here hx rfl (dc d2_10) ?_
    exact XS.imul P.here hx rfl (dc d2_12) rfl kQ
  rw [show ((((4 : Int32) + (4 : Int32)) / (5 : Int32)) * (8 : Int32)) = (Int32.ofNat 8) from by decide]
  show OwG p e below s _ _ _ _ T (mkF m 13 #[.val (.ref a), .unset, .unset, .unset, .unset, .unset, .unset, .unset] [(.int (Int32.ofNat 8)), (.ref sb), (.ref sb)])
  refine P.special hx hZ (y := (⟨"java/lang/StringBuilder", "<init>", "(I)V"⟩ : MethodName)) rfl hown (own_w hw 14 rfl) (own_w hw 15 rfl) (own_w hw 16 rfl) (by decide) (OwM.back (W := 1) (rmSi l Z a0 hw sb 8 zC h1 n0 Z0 S2 hzC OL (by decide) g_sb E_sb F_value_sb F_coder_sb F_count_sb) hZ (own_w hw 16 rfl) (own_w hw 13 rfl) (own_le rfl) (own_le rfl)) (fun _ _ _ q => q.2) rfl (by rw [hml]; rfl) (a := sb) (argsL := [(.int (Int32.ofNat 8))]) (rest := [(.ref sb)]) (lenOf pd__I_V rfl) rfl (own_le rfl) (dc d2_13) rfl (own_le rfl) (own_le rfl) fun T own_v own_L h2 own_e P own_q => ?_
  obtain ⟨⟨rfl, K, t, kt, gt, F_value_sb', F_coder_sb', F_count_sb', V_t, E_t⟩, -⟩ := own_q
  show OwG p e below s _ _ _ _ T (mkF m 16 #[.val (.ref a), .unset, .unset, .unset, .unset, .unset, .unset, .unset] [(.ref sb)])
  clear own_e
  have ne_a_t : a ≠ t := Nat.ne_of_lt (Nat.lt_of_lt_of_le V_a.lt (Nat.le_of_eq gt.symm))
  have ne_t_a := Ne.symm ne_a_t
  have ne_al_t : al ≠ t := Nat.ne_of_lt (Nat.lt_of_lt_of_le V_al.lt (Nat.le_of_eq gt.symm))
  have ne_t_al := Ne.symm ne_al_t
  have ne_sb_t : sb ≠ t := Nat.ne_of_lt (Nat.lt_of_lt_of_le E_sb.lt (Nat.le_of_eq gt.symm))
  have ne_t_sb := Ne.symm ne_sb_t
  have g_t : n0 ≤ t := Nat.le_trans Z0 (Nat.le_of_eq gt.symm)
  have sz_t : h0.size ≤ t := Nat.le_trans KP.1 (Nat.le_of_eq gt.symm)
  replace V_a := V_a.keep K (ninS ne_a_sb nin0)
  replace V_al := V_al.keep K (ninS ne_al_sb nin0)
  replace E_sb := E_sb.keep K
  replace Z0 := Nat.le_trans Z0 K.1
  replace OL := OL.keep K (allS g_sb all0)
  replace KP := KP.trans K (allS (Or.inr sz_sb) all0)
  clear F_value_sb
  have F_value_sb := F_value_sb'
  clear F_value_sb'
  clear F_coder_sb
  have F_coder_sb := F_coder_sb'
  clear F_coder_sb'
  clear F_count_sb
  have F_count_sb := F_count_sb'
  clear F_count_sb'
  replace F_count_sb : Fld Z h2 sb "java/lang/AbstractStringBuilder" "count" "I" (.int (Int32.ofNat 0)) := F_count_sb
  replace V_t : Arv Z h2 t kt .byte (Int32.ofNat 8) (own_vz [] 8) (.int 0) := V_t
  refine OwG.ac (mkF m 26 #[.val (.ref a), .val (.ref sb), .val (.int 0), .val (.int 0), .val (.ref a), .unset, .unset, .unset] [(.ref a)]) (fun tQ kQ => ?_) ?_
  · refine XS.astoreN P.here hx rfl (dc d2_16) rfl rfl (l' := #[.val (.ref a), .val (.ref sb), .unset, .unset, .unset, .unset, .unset, .unset]) rfl ?_
    refine XS.iconst P.here hx rfl (dc d2_17) ?_
    refine XS.istoreN P.here hx rfl (dc d2_18) rfl (l' := #[.val (.ref a), .val (.ref sb), .val (.int 0), .unset, .unset, .unset, .unset, .unset]) rfl ?_
    refine XS.iconst P.here hx rfl (dc d2_19) ?_
    refine XS.istoreN P.here hx rfl (dc d2_20) rfl (l' := #[.val (.ref a), .val (.ref sb), .val (.int 0), .val (.int 0), .unset, .unset, .unset, .unset]) rfl ?_
    refine XS.aloadN P.here hx rfl (dc d2_21) rfl rfl ?_
    refine XS.astore P.here hx rfl (dc d2_22) rfl rfl (l' := #[.val (.ref a), .val (.ref sb), .val (.int 0), .val (.int 0), .val (.ref a), .unset, .unset, .unset]) rfl ?_
    exact XS.aload P.here hx rfl (dc d2_24) rfl rfl kQ
  obtain ⟨own_cl, own_A, own_q1, own_S, own_M, own_H, own_U⟩ := id V_a
  obtain ⟨own_L, own_X, own_e, own_N⟩ := id P
  have own_Z := hZ
  refine OwG.ac (mkF m 32 #[.val (.ref a), .val (.ref sb), .val (.int 0), .val (.int 0), .val (.ref a), .val (.int 4), .val (.int 0), .unset] []) (fun tQ kQ => ?_) ?_
  · refine own_X.arraylength hx (by rw [own_e]; exact own_A.1) (State.isArrayOf_alike own_Z.alike own_A.2.1) (g := (mkF m 26 #[.val (.ref a), .val (.ref sb), .val (.int 0), .val (.int 0), .val (.ref a), .unset, .unset, .unset] [(.ref a)])) rfl rfl (dc d2_26) _ ?_
    rw [len_of own_S own_M]
    refine XS.istore P.here hx rfl (dc d2_27) rfl (l' := #[.val (.ref a), .val (.ref sb), .val (.int 0), .val (.int 0), .val (.ref a), .val (.int 4), .unset, .unset]) rfl ?_
    refine XS.iconst P.here hx rfl (dc d2_29) ?_
    exact XS.istore P.here hx rfl (dc d2_30) rfl (l' := #[.val (.ref a), .val (.ref sb), .val (.int 0), .val (.int 0), .val (.ref a), .val (.int 4), .val (.int 0), .unset]) rfl kQ
  replace P := P.wide (k' := 2) (n' := 20) (by decide) (by decide)
  refine OwG.ac (mkF m 43 #[.val (.ref a), .val (.ref sb), .val (.int 0), .val (.int 0), .val (.ref a), .val (.int 4), .val (.int 0), .unset] [(.int 0), (.ref a)]) (fun tQ kQ => ?_) ?_
  · refine XS.iload P.here hx rfl (dc d2_32) rfl ?_
    refine XS.iload P.here hx rfl (dc d2_34) rfl ?_
    refine XS.icmpNo P.here hx rfl (dc d2_36) rfl (tlt (by decide)).2.1 ?_
    refine XS.aload P.here hx rfl (dc d2_39) rfl rfl ?_
    exact XS.iload P.here hx rfl (dc d2_41) rfl kQ
  obtain ⟨own_cl, own_A, own_q1, own_S, own_M, own_H, own_U⟩ := id V_a
  obtain ⟨own_L, own_X, own_e, own_N⟩ := id P
  have own_Z := hZ
  have own_in := inb_of own_S (j := (0 : Int32)) ⟨(by decide), (by decide)⟩
  refine OwG.ac (mkF m 57 #[.val (.ref a), .val (.ref sb), .val (.int 0), .val (.int 0), .val (.ref a), .val (.int 4), .val (.int 0), .val (.int x0)] [(.int (((0 : Int32) <<< ((8 : Int32) &&& 31)) ||| (x0 &&& (255 : Int32))))]) (fun tQ kQ => ?_) ?_
  · refine own_X.baloadBytes hx (j := (0 : Int32)) (v := (.int x0)) (by rw [own_e]; exact own_A.1) (State.isArrayOf_alike own_Z.alike own_A.2.1) own_A.2.2 own_in (Has.at own_H own_in rfl) (g := (mkF m 43 #[.val (.ref a), .val (.ref sb), .val (.int 0), .val (.int 0), .val (.ref a), .val (.int 4), .val (.int 0), .unset] [(.int 0), (.ref a)])) rfl rfl (dc d2_43) _ ?_
    refine XS.istore P.here hx rfl (dc d2_44) rfl (l' := #[.val (.ref a), .val (.ref sb), .val (.int 0), .val (.int 0), .val (.ref a), .val (.int 4), .val (.int 0), .val (.int x0)]) rfl ?_
    refine XS.iloadN P.here hx rfl (dc d2_46) rfl ?_
    refine XS.bipush P.here hx rfl (dc d2_47) ?_
    refine XS.ishl P.here hx rfl (dc d2_49) rfl ?_
    refine XS.iload P.here hx rfl (dc d2_50) rfl ?_
    refine XS.sipush P.here hx rfl (dc d2_52) ?_
    refine XS.iand P.here hx rfl (dc d2_55) rfl ?_
    exact XS.ior P.here hx rfl (dc d2_56) rfl kQ
  rw [show (((0 : Int32) <<< ((8 : Int32) &&& 31)) ||| (x0 &&& (255 : Int32))) = (own_bt (0 : Int32) x0) from rfl]
  show OwG p e below s _ _ _ _ T (mkF m 57 #[.val (.ref a), .val (.ref sb), .val (.int 0), .val (.int 0), .val (.ref a), .val (.int 4), .val (.int 0), .val (.int x0)] [(.int (own_bt (0 : Int32) x0))])
  refine OwG.ac (mkF m 61 #[.val (.ref a), .val (.ref sb), .val (.int (own_bt (0 : Int32) x0)), .val (.int ((0 : Int32) + (8 : Int32))), .val (.ref a), .val (.int 4), .val (.int 0), .val (.int x0)] []) (fun tQ kQ => ?_) ?_
  · refine XS.istoreN P.here hx rfl (dc d2_57) rfl (l' := #[.val (.ref a), .val (.ref sb), .val (.int (own_bt (0 : Int32) x0)), .val (.int 0), .val (.ref a), .val (.int 4), .val (.int 0), .val (.int x0)]) rfl ?_
    exact XS.iinc P.here hx rfl (dc d2_58) rfl (l' := #[.val (.ref a), .val (.ref sb), .val (.int (own_bt (0 : Int32) x0)), .val (.int ((0 : Int32) + (8 : Int32))), .val (.ref a), .val (.int 4), .val (.int 0), .val (.int x0)]) rfl kQ
  rw [show ((0 : Int32) + (8 : Int32)) = (8 : Int32) from by decide]
  show OwG p e below s _ _ _ _ T (mkF m 61 #[.val (.ref a), .val (.ref sb), .val (.int (own_bt (0 : Int32) x0)), .val (.int 8), .val (.ref a), .val (.int 4), .val (.int 0), .val (.int x0)] [])
  refine OwG.ac (mkF m 66 #[.val (.ref a), .val (.ref sb), .val (.int (own_bt (0 : Int32) x0)), .val (.int 8), .val (.ref a), .val (.int 4), .val (.int 0), .val (.int x0)] []) (fun tQ kQ => ?_) ?_
  · refine XS.iloadN P.here hx rfl (dc d2_61) rfl ?_
    refine XS.iconst P.here hx rfl (dc d2_62) ?_
    exact XS.icmpNo P.here hx rfl (dc d2_63) rfl (flt (by decide)).1 kQ
  refine own_sg (N := 8) (k := 0) (vs := (own_vz [] 8)) (b' := (3 : Int32)) (by decide) hw hx hby hml hown hZ S2 hzC SAl (by decide) rfl (by decide) g_sb g_t ne_sb_t ne_a_sb ne_a_t ne_al_sb ne_al_t sz_sb sz_t P Z0 OL KP V_a V_al E_sb F_value_sb F_coder_sb F_count_sb V_t E_t ?_
  clear P Z0 OL KP V_a V_al E_sb F_value_sb F_coder_sb F_count_sb V_t E_t
  intro T h3 P Z0 OL KP V_a V_al E_sb F_value_sb F_coder_sb F_count_sb V_t E_t
  replace F_count_sb : Fld Z h3 sb "java/lang/AbstractStringBuilder" "count" "I" (.int (Int32.ofNat 1)) := F_count_sb
  replace V_t : Arv Z h3 t kt .byte (Int32.ofNat 8) (own_vz [(own_dg (own_bt (0 : Int32) x0) (3 : Int32))] 7) (.int 0) := V_t
  show OwG p e below s _ _ _ _ T (mkF m 61 #[.val (.ref a), .val (.ref sb), .val (.int (own_bt (0 : Int32) x0)), .val (.int 3), .val (.ref a), .val (.int 4), .val (.int 0), .val (.int x0)] [])
  refine OwG.ac (mkF m 32 #[.val (.ref a), .val (.ref sb), .val (.int (own_bt (0 : Int32) x0)), .val (.int 3), .val (.ref a), .val (.int 4), .val (.int ((0 : Int32) + (1 : Int32))), .val (.int x0)] []) (fun tQ kQ => ?_) ?_
  · refine XS.iloadN P.here hx rfl (dc d2_61) rfl ?_
    refine XS.iconst P.here hx rfl (dc d2_62) ?_
    refine XS.icmpYes P.here hx rfl (pc0 := 63) (pc' := 87) rfl (dc d2_63) rfl (tlt (by decide)).1 (by decide) (by decide) ?_
    refine XS.iinc P.here hx rfl (dc d2_87) rfl (l' := #[.val (.ref a), .val (.ref sb), .val (.int (own_bt (0 : Int32) x0)), .val (.int 3), .val (.ref a), .val (.int 4), .val (.int ((0 : Int32) + (1 : Int32))), .val (.int x0)]) rfl ?_
    exact XS.goto P.here hx rfl (pc0 := 90) (pc' := 32) rfl (dc d2_90) (by decide) (by decide) kQ
  rw [show ((0 : Int32) + (1 : Int32)) = (1 : Int32) from by decide]
  show OwG p e below s _ _ _ _ T (mkF m 32 #[.val (.ref a), .val (.ref sb), .val (.int (own_bt (0 : Int32) x0)), .val (.int 3), .val (.ref a), .val (.int 4), .val (.int 1), .val (.int x0)] [])
  refine OwG.ac (mkF m 43 #[.val (.ref a), .val (.ref sb), .val (.int (own_bt (0 : Int32) x0)), .val (.int 3), .val (.ref a), .val (.int 4), .val (.int 1), .val (.int x0)] [(.int 1), (.ref a)]) (fun tQ kQ => ?_) ?_
  · refine XS.iload P.here hx rfl (dc d2_32) rfl ?_
    refine XS.iload P.here hx rfl (dc d2_34) rfl ?_
    refine XS.icmpNo P.here hx rfl (dc d2_36) rfl (tlt (by decide)).2.1 ?_
    refine XS.aload P.here hx rfl (dc d2_39) rfl rfl ?_
    exact XS.iload P.here hx rfl (dc d2_41) rfl kQ
  obtain ⟨own_cl, own_A, own_q1, own_S, own_M, own_H, own_U⟩ := id V_a
  obtain ⟨own_L, own_X, own_e, own_N⟩ := id P
  have own_Z := hZ
  have own_in := inb_of own_S (j := (1 : Int32)) ⟨(by decide), (by decide)⟩
  refine OwG.ac (mkF m 57 #[.val (.ref a), .val (.ref sb), .val (.int (own_bt (0 : Int32) x0)), .val (.int 3), .val (.ref a), .val (.int 4), .val (.int 1), .val (.int x1)] [(.int (((own_bt (0 : Int32) x0) <<< ((8 : Int32) &&& 31)) ||| (x1 &&& (255 : Int32))))]) (fun tQ kQ => ?_) ?_
  · refine own_X.baloadBytes hx (j := (1 : Int32)) (v := (.int x1)) (by rw [own_e]; exact own_A.1) (State.isArrayOf_alike own_Z.alike own_A.2.1) own_A.2.2 own_in (Has.at own_H own_in rfl) (g := (mkF m 43 #[.val (.ref a), .val (.ref sb), .val (.int (own_bt (0 : Int32) x0)), .val (.int 3), .val (.ref a), .val (.int 4), .val (.int 1), .val (.int x0)] [(.int 1), (.ref a)])) rfl rfl (dc d2_43) _ ?_
    refine XS.istore P.here hx rfl (dc d2_44) rfl (l' := #[.val (.ref a), .val (.ref sb), .val (.int (own_bt (0 : Int32) x0)), .val (.int 3), .val (.ref a), .val (.int 4), .val (.int 1), .val (.int x1)]) rfl ?_
    refine XS.iloadN P.here hx rfl (dc d2_46) rfl ?_
    refine XS.bipush P.here hx rfl (dc d2_47) ?_
    refine XS.ishl P.here hx rfl (dc d2_49) rfl ?_
    refine XS.iload P.here hx rfl (dc d2_50) rfl ?_
    refine XS.sipush P.here hx rfl (dc d2_52) ?_
    refine XS.iand P.here hx rfl (dc d2_55) rfl ?_
    exact XS.ior P.here hx rfl (dc d2_56) rfl kQ
  rw [show (((own_bt (0 : Int32) x0) <<< ((8 : Int32) &&& 31)) ||| (x1 &&& (255 : Int32))) = (own_bt (own_bt (0 : Int32) x0) x1) from rfl]
  show OwG p e below s _ _ _ _ T (mkF m 57 #[.val (.ref a), .val (.ref sb), .val (.int (own_bt (0 : Int32) x0)), .val (.int 3), .val (.ref a), .val (.int 4), .val (.int 1), .val (.int x1)] [(.int (own_bt (own_bt (0 : Int32) x0) x1))])
  refine OwG.ac (mkF m 61 #[.val (.ref a), .val (.ref sb), .val (.int (own_bt (own_bt (0 : Int32) x0) x1)), .val (.int ((3 : Int32) + (8 : Int32))), .val (.ref a), .val (.int 4), .val (.int 1), .val (.int x1)] []) (fun tQ kQ => ?_) ?_
  · refine XS.istoreN P.here hx rfl (dc d2_57) rfl (l' := #[.val (.ref a), .val (.ref sb), .val (.int (own_bt (own_bt (0 : Int32) x0) x1)), .val (.int 3), .val (.ref a), .val (.int 4), .val (.int 1), .val (.int x1)]) rfl ?_
    exact XS.iinc P.here hx rfl (dc d2_58) rfl (l' := #[.val (.ref a), .val (.ref sb), .val (.int (own_bt (own_bt (0 : Int32) x0) x1)), .val (.int ((3 : Int32) + (8 : Int32))), .val (.ref a), .val (.int 4), .val (.int 1), .val (.int x1)]) rfl kQ
  rw [show ((3 : Int32) + (8 : Int32)) = (11 : Int32) from by decide]
  show OwG p e below s _ _ _ _ T (mkF m 61 #[.val (.ref a), .val (.ref sb), .val (.int (own_bt (own_bt (0 : Int32) x0) x1)), .val (.int 11), .val (.ref a), .val (.int 4), .val (.int 1), .val (.int x1)] [])
  refine OwG.ac (mkF m 66 #[.val (.ref a), .val (.ref sb), .val (.int (own_bt (own_bt (0 : Int32) x0) x1)), .val (.int 11), .val (.ref a), .val (.int 4), .val (.int 1), .val (.int x1)] []) (fun tQ kQ => ?_) ?_
  · refine XS.iloadN P.here hx rfl (dc d2_61) rfl ?_
    refine XS.iconst P.here hx rfl (dc d2_62) ?_
    exact XS.icmpNo P.here hx rfl (dc d2_63) rfl (flt (by decide)).1 kQ
  refine own_sg (N := 8) (k := 1) (vs := (own_vz [(own_dg (own_bt (0 : Int32) x0) (3 : Int32))] 7)) (b' := (6 : Int32)) (by decide) hw hx hby hml hown hZ S2 hzC SAl (by decide) rfl (by decide) g_sb g_t ne_sb_t ne_a_sb ne_a_t ne_al_sb ne_al_t sz_sb sz_t P Z0 OL KP V_a V_al E_sb F_value_sb F_coder_sb F_count_sb V_t E_t ?_
  clear P Z0 OL KP V_a V_al E_sb F_value_sb F_coder_sb F_count_sb V_t E_t
  intro T h4 P Z0 OL KP V_a V_al E_sb F_value_sb F_coder_sb F_count_sb V_t E_t
  replace F_count_sb : Fld Z h4 sb "java/lang/AbstractStringBuilder" "count" "I" (.int (Int32.ofNat 2)) := F_count_sb
  replace V_t : Arv Z h4 t kt .byte (Int32.ofNat 8) (own_vz [(own_dg (own_bt (0 : Int32) x0) (3 : Int32)), (own_dg (own_bt (own_bt (0 : Int32) x0) x1) (6 : Int32))] 6) (.int 0) := V_t
  show OwG p e below s _ _ _ _ T (mkF m 61 #[.val (.ref a), .val (.ref sb), .val (.int (own_bt (own_bt (0 : Int32) x0) x1)), .val (.int 6), .val (.ref a), .val (.int 4), .val (.int 1), .val (.int x1)] [])
  refine OwG.ac (mkF m 66 #[.val (.ref a), .val (.ref sb), .val (.int (own_bt (own_bt (0 : Int32) x0) x1)), .val (.int 6), .val (.ref a), .val (.int 4), .val (.int 1), .val (.int x1)] []) (fun tQ kQ => ?_) ?_
  · refine XS.iloadN P.here hx rfl (dc d2_61) rfl ?_
    refine XS.iconst P.here hx rfl (dc d2_62) ?_
    exact XS.icmpNo P.here hx rfl (dc d2_63) rfl (flt (by decide)).1 kQ
  refine own_sg (N := 8) (k := 2) (vs := (own_vz [(own_dg (own_bt (0 : Int32) x0) (3 : Int32)), (own_dg (own_bt (own_bt (0 : Int32) x0) x1) (6 : Int32))] 6)) (b' := (1 : Int32)) (by decide) hw hx hby hml hown hZ S2 hzC SAl (by decide) rfl (by decide) g_sb g_t ne_sb_t ne_a_sb ne_a_t ne_al_sb ne_al_t sz_sb sz_t P Z0 OL KP V_a V_al E_sb F_value_sb F_coder_sb F_count_sb V_t E_t ?_
  clear P Z0 OL KP V_a V_al E_sb F_value_sb F_coder_sb F_count_sb V_t E_t
  intro T h5 P Z0 OL KP V_a V_al E_sb F_value_sb F_coder_sb F_count_sb V_t E_t
  replace F_count_sb : Fld Z h5 sb "java/lang/AbstractStringBuilder" "count" "I" (.int (Int32.ofNat 3)) := F_count_sb
  replace V_t : Arv Z h5 t kt .byte (Int32.ofNat 8) (own_vz [(own_dg (own_bt (0 : Int32) x0) (3 : Int32)), (own_dg (own_bt (own_bt (0 : Int32) x0) x1) (6 : Int32)), (own_dg (own_bt (own_bt (0 : Int32) x0) x1) (1 : Int32))] 5) (.int 0) := V_t
  show OwG p e below s _ _ _ _ T (mkF m 61 #[.val (.ref a), .val (.ref sb), .val (.int (own_bt (own_bt (0 : Int32) x0) x1)), .val (.int 1), .val (.ref a), .val (.int 4), .val (.int 1), .val (.int x1)] [])
  refine OwG.ac (mkF m 32 #[.val (.ref a), .val (.ref sb), .val (.int (own_bt (own_bt (0 : Int32) x0) x1)), .val (.int 1), .val (.ref a), .val (.int 4), .val (.int ((1 : Int32) + (1 : Int32))), .val (.int x1)] []) (fun tQ kQ => ?_) ?_
  · refine XS.iloadN P.here hx rfl (dc d2_61) rfl ?_
    refine XS.iconst P.here hx rfl (dc d2_62) ?_
    refine XS.icmpYes P.here hx rfl (pc0 := 63) (pc' := 87) rfl (dc d2_63) rfl (tlt (by decide)).1 (by decide) (by decide) ?_
    refine XS.iinc P.here hx rfl (dc d2_87) rfl (l' := #[.val (.ref a), .val (.ref sb), .val (.int (own_bt (own_bt (0 : Int32) x0) x1)), .val (.int 1), .val (.ref a), .val (.int 4), .val (.int ((1 : Int32) + (1 : Int32))), .val (.int x1)]) rfl ?_
    exact XS.goto P.here hx rfl (pc0 := 90) (pc' := 32) rfl (dc d2_90) (by decide) (by decide) kQ
  rw [show ((1 : Int32) + (1 : Int32)) = (2 : Int32) from by decide]
  show OwG p e below s _ _ _ _ T (mkF m 32 #[.val (.ref a), .val (.ref sb), .val (.int (own_bt (own_bt (0 : Int32) x0) x1)), .val (.int 1), .val (.ref a), .val (.int 4), .val (.int 2), .val (.int x1)] [])
  refine OwG.ac (mkF m 43 #[.val (.ref a), .val (.ref sb), .val (.int (own_bt (own_bt (0 : Int32) x0) x1)), .val (.int 1), .val (.ref a), .val (.int 4), .val (.int 2), .val (.int x1)] [(.int 2), (.ref a)]) (fun tQ kQ => ?_) ?_
  · refine XS.iload P.here hx rfl (dc d2_32) rfl ?_
    refine XS.iload P.here hx rfl (dc d2_34) rfl ?_
    refine XS.icmpNo P.here hx rfl (dc d2_36) rfl (tlt (by decide)).2.1 ?_
    refine XS.aload P.here hx rfl (dc d2_39) rfl rfl ?_
    exact XS.iload P.here hx rfl (dc d2_41) rfl kQ
  obtain ⟨own_cl, own_A, own_q1, own_S, own_M, own_H, own_U⟩ := id V_a
  obtain ⟨own_L, own_X, own_e, own_N⟩ := id P
  have own_Z := hZ
  have own_in := inb_of own_S (j := (2 : Int32)) ⟨(by decide), (by decide)⟩
  refine OwG.ac (mkF m 57 #[.val (.ref a), .val (.ref sb), .val (.int (own_bt (own_bt (0 : Int32) x0) x1)), .val (.int 1), .val (.ref a), .val (.int 4), .val (.int 2), .val (.int x2)] [(.int (((own_bt (own_bt (0 : Int32) x0) x1) <<< ((8 : Int32) &&& 31)) ||| (x2 &&& (255 : Int32))))]) (fun tQ kQ => ?_) ?_
  · refine own_X.baloadBytes hx (j := (2 : Int32)) (v := (.int x2)) (by rw [own_e]; exact own_A.1) (State.isArrayOf_alike own_Z.alike own_A.2.1) own_A.2.2 own_in (Has.at own_H own_in rfl) (g := (mkF m 43 #[.val (.ref a), .val (.ref sb), .val (.int (own_bt (own_bt (0 : Int32) x0) x1)), .val (.int 1), .val (.ref a), .val (.int 4), .val (.int 2), .val (.int x1)] [(.int 2), (.ref a)])) rfl rfl (dc d2_43) _ ?_
    refine XS.istore P.here hx rfl (dc d2_44) rfl (l' := #[.val (.ref a), .val (.ref sb), .val (.int (own_bt (own_bt (0 : Int32) x0) x1)), .val (.int 1), .val (.ref a), .val (.int 4), .val (.int 2), .val (.int x2)]) rfl ?_
    refine XS.iloadN P.here hx rfl (dc d2_46) rfl ?_
    refine XS.bipush P.here hx rfl (dc d2_47) ?_
    refine XS.ishl P.here hx rfl (dc d2_49) rfl ?_
    refine XS.iload P.here hx rfl (dc d2_50) rfl ?_
    refine XS.sipush P.here hx rfl (dc d2_52) ?_
    refine XS.iand P.here hx rfl (dc d2_55) rfl ?_
    exact XS.ior P.here hx rfl (dc d2_56) rfl kQ
  rw [show (((own_bt (own_bt (0 : Int32) x0) x1) <<< ((8 : Int32) &&& 31)) ||| (x2 &&& (255 : Int32))) = (own_bt (own_bt (own_bt (0 : Int32) x0) x1) x2) from rfl]
  show OwG p e below s _ _ _ _ T (mkF m 57 #[.val (.ref a), .val (.ref sb), .val (.int (own_bt (own_bt (0 : Int32) x0) x1)), .val (.int 1), .val (.ref a), .val (.int 4), .val (.int 2), .val (.int x2)] [(.int (own_bt (own_bt (own_bt (0 : Int32) x0) x1) x2))])
  refine OwG.ac (mkF m 61 #[.val (.ref a), .val (.ref sb), .val (.int (own_bt (own_bt (own_bt (0 : Int32) x0) x1) x2)), .val (.int ((1 : Int32) + (8 : Int32))), .val (.ref a), .val (.int 4), .val (.int 2), .val (.int x2)] []) (fun tQ kQ => ?_) ?_
  · refine XS.istoreN P.here hx rfl (dc d2_57) rfl (l' := #[.val (.ref a), .val (.ref sb), .val (.int (own_bt (own_bt (own_bt (0 : Int32) x0) x1) x2)), .val (.int 1), .val (.ref a), .val (.int 4), .val (.int 2), .val (.int x2)]) rfl ?_
    exact XS.iinc P.here hx rfl (dc d2_58) rfl (l' := #[.val (.ref a), .val (.ref sb), .val (.int (own_bt (own_bt (own_bt (0 : Int32) x0) x1) x2)), .val (.int ((1 : Int32) + (8 : Int32))), .val (.ref a), .val (.int 4), .val (.int 2), .val (.int x2)]) rfl kQ
  rw [show ((1 : Int32) + (8 : Int32)) = (9 : Int32) from by decide]
  show OwG p e below s _ _ _ _ T (mkF m 61 #[.val (.ref a), .val (.ref sb), .val (.int (own_bt (own_bt (own_bt (0 : Int32) x0) x1) x2)), .val (.int 9), .val (.ref a), .val (.int 4), .val (.int 2), .val (.int x2)] [])
  refine OwG.ac (mkF m 66 #[.val (.ref a), .val (.ref sb), .val (.int (own_bt (own_bt (own_bt (0 : Int32) x0) x1) x2)), .val (.int 9), .val (.ref a), .val (.int 4), .val (.int 2), .val (.int x2)] []) (fun tQ kQ => ?_) ?_
  · refine XS.iloadN P.here hx rfl (dc d2_61) rfl ?_
    refine XS.iconst P.here hx rfl (dc d2_62) ?_
    exact XS.icmpNo P.here hx rfl (dc d2_63) rfl (flt (by decide)).1 kQ
  refine own_sg (N := 8) (k := 3) (vs := (own_vz [(own_dg (own_bt (0 : Int32) x0) (3 : Int32)), (own_dg (own_bt (own_bt (0 : Int32) x0) x1) (6 : Int32)), (own_dg (own_bt (own_bt (0 : Int32) x0) x1) (1 : Int32))] 5)) (b' := (4 : Int32)) (by decide) hw hx hby hml hown hZ S2 hzC SAl (by decide) rfl (by decide) g_sb g_t ne_sb_t ne_a_sb ne_a_t ne_al_sb ne_al_t sz_sb sz_t P Z0 OL KP V_a V_al E_sb F_value_sb F_coder_sb F_count_sb V_t E_t ?_
  clear P Z0 OL KP V_a V_al E_sb F_value_sb F_coder_sb F_count_sb V_t E_t
  intro T h6 P Z0 OL KP V_a V_al E_sb F_value_sb F_coder_sb F_count_sb V_t E_t
  replace F_count_sb : Fld Z h6 sb "java/lang/AbstractStringBuilder" "count" "I" (.int (Int32.ofNat 4)) := F_count_sb
  replace V_t : Arv Z h6 t kt .byte (Int32.ofNat 8) (own_vz [(own_dg (own_bt (0 : Int32) x0) (3 : Int32)), (own_dg (own_bt (own_bt (0 : Int32) x0) x1) (6 : Int32)), (own_dg (own_bt (own_bt (0 : Int32) x0) x1) (1 : Int32)), (own_dg (own_bt (own_bt (own_bt (0 : Int32) x0) x1) x2) (4 : Int32))] 4) (.int 0) := V_t
  show OwG p e below s _ _ _ _ T (mkF m 61 #[.val (.ref a), .val (.ref sb), .val (.int (own_bt (own_bt (own_bt (0 : Int32) x0) x1) x2)), .val (.int 4), .val (.ref a), .val (.int 4), .val (.int 2), .val (.int x2)] [])
  refine OwG.ac (mkF m 32 #[.val (.ref a), .val (.ref sb), .val (.int (own_bt (own_bt (own_bt (0 : Int32) x0) x1) x2)), .val (.int 4), .val (.ref a), .val (.int 4), .val (.int ((2 : Int32) + (1 : Int32))), .val (.int x2)] []) (fun tQ kQ => ?_) ?_
  · refine XS.iloadN P.here hx rfl (dc d2_61) rfl ?_
    refine XS.iconst P.here hx rfl (dc d2_62) ?_
    refine XS.icmpYes P.here hx rfl (pc0 := 63) (pc' := 87) rfl (dc d2_63) rfl (tlt (by decide)).1 (by decide) (by decide) ?_
    refine XS.iinc P.here hx rfl (dc d2_87) rfl (l' := #[.val (.ref a), .val (.ref sb), .val (.int (own_bt (own_bt (own_bt (0 : Int32) x0) x1) x2)), .val (.int 4), .val (.ref a), .val (.int 4), .val (.int ((2 : Int32) + (1 : Int32))), .val (.int x2)]) rfl ?_
    exact XS.goto P.here hx rfl (pc0 := 90) (pc' := 32) rfl (dc d2_90) (by decide) (by decide) kQ
  rw [show ((2 : Int32) + (1 : Int32)) = (3 : Int32) from by decide]
  show OwG p e below s _ _ _ _ T (mkF m 32 #[.val (.ref a), .val (.ref sb), .val (.int (own_bt (own_bt (own_bt (0 : Int32) x0) x1) x2)), .val (.int 4), .val (.ref a), .val (.int 4), .val (.int 3), .val (.int x2)] [])
  refine OwG.ac (mkF m 43 #[.val (.ref a), .val (.ref sb), .val (.int (own_bt (own_bt (own_bt (0 : Int32) x0) x1) x2)), .val (.int 4), .val (.ref a), .val (.int 4), .val (.int 3), .val (.int x2)] [(.int 3), (.ref a)]) (fun tQ kQ => ?_) ?_
  · refine XS.iload P.here hx rfl (dc d2_32) rfl ?_
    refine XS.iload P.here hx rfl (dc d2_34) rfl ?_
    refine XS.icmpNo P.here hx rfl (dc d2_36) rfl (tlt (by decide)).2.1 ?_
    refine XS.aload P.here hx rfl (dc d2_39) rfl rfl ?_
    exact XS.iload P.here hx rfl (dc d2_41) rfl kQ
  obtain ⟨own_cl, own_A, own_q1, own_S, own_M, own_H, own_U⟩ := id V_a
  obtain ⟨own_L, own_X, own_e, own_N⟩ := id P
  have own_Z := hZ
  have own_in := inb_of own_S (j := (3 : Int32)) ⟨(by decide), (by decide)⟩
  refine OwG.ac (mkF m 57 #[.val (.ref a), .val (.ref sb), .val (.int (own_bt (own_bt (own_bt (0 : Int32) x0) x1) x2)), .val (.int 4), .val (.ref a), .val (.int 4), .val (.int 3), .val (.int x3)] [(.int (((own_bt (own_bt (own_bt (0 : Int32) x0) x1) x2) <<< ((8 : Int32) &&& 31)) ||| (x3 &&& (255 : Int32))))]) (fun tQ kQ => ?_) ?_
  · refine own_X.baloadBytes hx (j := (3 : Int32)) (v := (.int x3)) (by rw [own_e]; exact own_A.1) (State.isArrayOf_alike own_Z.alike own_A.2.1) own_A.2.2 own_in (Has.at own_H own_in rfl) (g := (mkF m 43 #[.val (.ref a), .val (.ref sb), .val (.int (own_bt (own_bt (own_bt (0 : Int32) x0) x1) x2)), .val (.int 4), .val (.ref a), .val (.int 4), .val (.int 3), .val (.int x2)] [(.int 3), (.ref a)])) rfl rfl (dc d2_43) _ ?_
    refine XS.istore P.here hx rfl (dc d2_44) rfl (l' := #[.val (.ref a), .val (.ref sb), .val (.int (own_bt (own_bt (own_bt (0 : Int32) x0) x1) x2)), .val (.int 4), .val (.ref a), .val (.int 4), .val (.int 3), .val (.int x3)]) rfl ?_
    refine XS.iloadN P.here hx rfl (dc d2_46) rfl ?_
    refine XS.bipush P.here hx rfl (dc d2_47) ?_
    refine XS.ishl P.here hx rfl (dc d2_49) rfl ?_
    refine XS.iload P.here hx rfl (dc d2_50) rfl ?_
    refine XS.sipush P.here hx rfl (dc d2_52) ?_
    refine XS.iand P.here hx rfl (dc d2_55) rfl ?_
    exact XS.ior P.here hx rfl (dc d2_56) rfl kQ
  rw [show (((own_bt (own_bt (own_bt (0 : Int32) x0) x1) x2) <<< ((8 : Int32) &&& 31)) ||| (x3 &&& (255 : Int32))) = (own_bt (own_bt (own_bt (own_bt (0 : Int32) x0) x1) x2) x3) from rfl]
  show OwG p e below s _ _ _ _ T (mkF m 57 #[.val (.ref a), .val (.ref sb), .val (.int (own_bt (own_bt (own_bt (0 : Int32) x0) x1) x2)), .val (.int 4), .val (.ref a), .val (.int 4), .val (.int 3), .val (.int x3)] [(.int (own_bt (own_bt (own_bt (own_bt (0 : Int32) x0) x1) x2) x3))])
  refine OwG.ac (mkF m 61 #[.val (.ref a), .val (.ref sb), .val (.int (own_bt (own_bt (own_bt (own_bt (0 : Int32) x0) x1) x2) x3)), .val (.int ((4 : Int32) + (8 : Int32))), .val (.ref a), .val (.int 4), .val (.int 3), .val (.int x3)] []) (fun tQ kQ => ?_) ?_
  · refine XS.istoreN P.here hx rfl (dc d2_57) rfl (l' := #[.val (.ref a), .val (.ref sb), .val (.int (own_bt (own_bt (own_bt (own_bt (0 : Int32) x0) x1) x2) x3)), .val (.int 4), .val (.ref a), .val (.int 4), .val (.int 3), .val (.int x3)]) rfl ?_
    exact XS.iinc P.here hx rfl (dc d2_58) rfl (l' := #[.val (.ref a), .val (.ref sb), .val (.int (own_bt (own_bt (own_bt (own_bt (0 : Int32) x0) x1) x2) x3)), .val (.int ((4 : Int32) + (8 : Int32))), .val (.ref a), .val (.int 4), .val (.int 3), .val (.int x3)]) rfl kQ
  rw [show ((4 : Int32) + (8 : Int32)) = (12 : Int32) from by decide]
  show OwG p e below s _ _ _ _ T (mkF m 61 #[.val (.ref a), .val (.ref sb), .val (.int (own_bt (own_bt (own_bt (own_bt (0 : Int32) x0) x1) x2) x3)), .val (.int 12), .val (.ref a), .val (.int 4), .val (.int 3), .val (.int x3)] [])
  refine OwG.ac (mkF m 66 #[.val (.ref a), .val (.ref sb), .val (.int (own_bt (own_bt (own_bt (own_bt (0 : Int32) x0) x1) x2) x3)), .val (.int 12), .val (.ref a), .val (.int 4), .val (.int 3), .val (.int x3)] []) (fun tQ kQ => ?_) ?_
  · refine XS.iloadN P.here hx rfl (dc d2_61) rfl ?_
    refine XS.iconst P.here hx rfl (dc d2_62) ?_
    exact XS.icmpNo P.here hx rfl (dc d2_63) rfl (flt (by decide)).1 kQ
  refine own_sg (N := 8) (k := 4) (vs := (own_vz [(own_dg (own_bt (0 : Int32) x0) (3 : Int32)), (own_dg (own_bt (own_bt (0 : Int32) x0) x1) (6 : Int32)), (own_dg (own_bt (own_bt (0 : Int32) x0) x1) (1 : Int32)), (own_dg (own_bt (own_bt (own_bt (0 : Int32) x0) x1) x2) (4 : Int32))] 4)) (b' := (7 : Int32)) (by decide) hw hx hby hml hown hZ S2 hzC SAl (by decide) rfl (by decide) g_sb g_t ne_sb_t ne_a_sb ne_a_t ne_al_sb ne_al_t sz_sb sz_t P Z0 OL KP V_a V_al E_sb F_value_sb F_coder_sb F_count_sb V_t E_t ?_
  clear P Z0 OL KP V_a V_al E_sb F_value_sb F_coder_sb F_count_sb V_t E_t
  intro T h7 P Z0 OL KP V_a V_al E_sb F_value_sb F_coder_sb F_count_sb V_t E_t
  replace F_count_sb : Fld Z h7 sb "java/lang/AbstractStringBuilder" "count" "I" (.int (Int32.ofNat 5)) := F_count_sb
  replace V_t : Arv Z h7 t kt .byte (Int32.ofNat 8) (own_vz [(own_dg (own_bt (0 : Int32) x0) (3 : Int32)), (own_dg (own_bt (own_bt (0 : Int32) x0) x1) (6 : Int32)), (own_dg (own_bt (own_bt (0 : Int32) x0) x1) (1 : Int32)), (own_dg (own_bt (own_bt (own_bt (0 : Int32) x0) x1) x2) (4 : Int32)), (own_dg (own_bt (own_bt (own_bt (own_bt (0 : Int32) x0) x1) x2) x3) (7 : Int32))] 3) (.int 0) := V_t
  show OwG p e below s _ _ _ _ T (mkF m 61 #[.val (.ref a), .val (.ref sb), .val (.int (own_bt (own_bt (own_bt (own_bt (0 : Int32) x0) x1) x2) x3)), .val (.int 7), .val (.ref a), .val (.int 4), .val (.int 3), .val (.int x3)] [])
  refine OwG.ac (mkF m 66 #[.val (.ref a), .val (.ref sb), .val (.int (own_bt (own_bt (own_bt (own_bt (0 : Int32) x0) x1) x2) x3)), .val (.int 7), .val (.ref a), .val (.int 4), .val (.int 3), .val (.int x3)] []) (fun tQ kQ => ?_) ?_
  · refine XS.iloadN P.here hx rfl (dc d2_61) rfl ?_
    refine XS.iconst P.here hx rfl (dc d2_62) ?_
    exact XS.icmpNo P.here hx rfl (dc d2_63) rfl (flt (by decide)).1 kQ
  refine own_sg (N := 8) (k := 5) (vs := (own_vz [(own_dg (own_bt (0 : Int32) x0) (3 : Int32)), (own_dg (own_bt (own_bt (0 : Int32) x0) x1) (6 : Int32)), (own_dg (own_bt (own_bt (0 : Int32) x0) x1) (1 : Int32)), (own_dg (own_bt (own_bt (own_bt (0 : Int32) x0) x1) x2) (4 : Int32)), (own_dg (own_bt (own_bt (own_bt (own_bt (0 : Int32) x0) x1) x2) x3) (7 : Int32))] 3)) (b' := (2 : Int32)) (by decide) hw hx hby hml hown hZ S2 hzC SAl (by decide) rfl (by decide) g_sb g_t ne_sb_t ne_a_sb ne_a_t ne_al_sb ne_al_t sz_sb sz_t P Z0 OL KP V_a V_al E_sb F_value_sb F_coder_sb F_count_sb V_t E_t ?_
  clear P Z0 OL KP V_a V_al E_sb F_value_sb F_coder_sb F_count_sb V_t E_t
  intro T h8 P Z0 OL KP V_a V_al E_sb F_value_sb F_coder_sb F_count_sb V_t E_t
  replace F_count_sb : Fld Z h8 sb "java/lang/AbstractStringBuilder" "count" "I" (.int (Int32.ofNat 6)) := F_count_sb
  replace V_t : Arv Z h8 t kt .byte (Int32.ofNat 8) (own_vz [(own_dg (own_bt (0 : Int32) x0) (3 : Int32)), (own_dg (own_bt (own_bt (0 : Int32) x0) x1) (6 : Int32)), (own_dg (own_bt (own_bt (0 : Int32) x0) x1) (1 : Int32)), (own_dg (own_bt (own_bt (own_bt (0 : Int32) x0) x1) x2) (4 : Int32)), (own_dg (own_bt (own_bt (own_bt (own_bt (0 : Int32) x0) x1) x2) x3) (7 : Int32)), (own_dg (own_bt (own_bt (own_bt (own_bt (0 : Int32) x0) x1) x2) x3) (2 : Int32))] 2) (.int 0) := V_t
  show OwG p e below s _ _ _ _ T (mkF m 61 #[.val (.ref a), .val (.ref sb), .val (.int (own_bt (own_bt (own_bt (own_bt (0 : Int32) x0) x1) x2) x3)), .val (.int 2), .val (.ref a), .val (.int 4), .val (.int 3), .val (.int x3)] [])
  refine OwG.ac (mkF m 32 #[.val (.ref a), .val (.ref sb), .val (.int (own_bt (own_bt (own_bt (own_bt (0 : Int32) x0) x1) x2) x3)), .val (.int 2), .val (.ref a), .val (.int 4), .val (.int ((3 : Int32) + (1 : Int32))), .val (.int x3)] []) (fun tQ kQ => ?_) ?_
  · refine XS.iloadN P.here hx rfl (dc d2_61) rfl ?_
    refine XS.iconst P.here hx rfl (dc d2_62) ?_
    refine XS.icmpYes P.here hx rfl (pc0 := 63) (pc' := 87) rfl (dc d2_63) rfl (tlt (by decide)).1 (by decide) (by decide) ?_
    refine XS.iinc P.here hx rfl (dc d2_87) rfl (l' := #[.val (.ref a), .val (.ref sb), .val (.int (own_bt (own_bt (own_bt (own_bt (0 : Int32) x0) x1) x2) x3)), .val (.int 2), .val (.ref a), .val (.int 4), .val (.int ((3 : Int32) + (1 : Int32))), .val (.int x3)]) rfl ?_
    exact XS.goto P.here hx rfl (pc0 := 90) (pc' := 32) rfl (dc d2_90) (by decide) (by decide) kQ
  rw [show ((3 : Int32) + (1 : Int32)) = (4 : Int32) from by decide]
  show OwG p e below s _ _ _ _ T (mkF m 32 #[.val (.ref a), .val (.ref sb), .val (.int (own_bt (own_bt (own_bt (own_bt (0 : Int32) x0) x1) x2) x3)), .val (.int 2), .val (.ref a), .val (.int 4), .val (.int 4), .val (.int x3)] [])
  refine OwG.ac (mkF m 97 #[.val (.ref a), .val (.ref sb), .val (.int (own_bt (own_bt (own_bt (own_bt (0 : Int32) x0) x1) x2) x3)), .val (.int 2), .val (.ref a), .val (.int 4), .val (.int 4), .val (.int x3)] []) (fun tQ kQ => ?_) ?_
  · refine XS.iload P.here hx rfl (dc d2_32) rfl ?_
    refine XS.iload P.here hx rfl (dc d2_34) rfl ?_
    refine XS.icmpYes P.here hx rfl (pc0 := 36) (pc' := 93) rfl (dc d2_36) rfl (flt (by decide)).2.1 (by decide) (by decide) ?_
    refine XS.iloadN P.here hx rfl (dc d2_93) rfl ?_
    exact XS.ifNo P.here hx rfl (dc d2_94) rfl ((if0 _ _).trans (tlt (by decide)).2.2.2) kQ
  refine own_sl (N := 8) (k := 6) (vs := (own_vz [(own_dg (own_bt (0 : Int32) x0) (3 : Int32)), (own_dg (own_bt (own_bt (0 : Int32) x0) x1) (6 : Int32)), (own_dg (own_bt (own_bt (0 : Int32) x0) x1) (1 : Int32)), (own_dg (own_bt (own_bt (own_bt (0 : Int32) x0) x1) x2) (4 : Int32)), (own_dg (own_bt (own_bt (own_bt (own_bt (0 : Int32) x0) x1) x2) x3) (7 : Int32)), (own_dg (own_bt (own_bt (own_bt (own_bt (0 : Int32) x0) x1) x2) x3) (2 : Int32))] 2)) hw hx hby hml hown hZ S2 hzC SAl (by decide) rfl (by decide) g_sb g_t ne_sb_t ne_a_sb ne_a_t ne_al_sb ne_al_t sz_sb sz_t P Z0 OL KP V_a V_al E_sb F_value_sb F_coder_sb F_count_sb V_t E_t ?_
  clear P Z0 OL KP V_a V_al E_sb F_value_sb F_coder_sb F_count_sb V_t E_t
  intro T h9 P Z0 OL KP V_a V_al E_sb F_value_sb F_coder_sb F_count_sb V_t E_t
  replace F_count_sb : Fld Z h9 sb "java/lang/AbstractStringBuilder" "count" "I" (.int (Int32.ofNat 7)) := F_count_sb
  replace V_t : Arv Z h9 t kt .byte (Int32.ofNat 8) (own_vz [(own_dg (own_bt (0 : Int32) x0) (3 : Int32)), (own_dg (own_bt (own_bt (0 : Int32) x0) x1) (6 : Int32)), (own_dg (own_bt (own_bt (0 : Int32) x0) x1) (1 : Int32)), (own_dg (own_bt (own_bt (own_bt (0 : Int32) x0) x1) x2) (4 : Int32)), (own_dg (own_bt (own_bt (own_bt (own_bt (0 : Int32) x0) x1) x2) x3) (7 : Int32)), (own_dg (own_bt (own_bt (own_bt (own_bt (0 : Int32) x0) x1) x2) x3) (2 : Int32)), (own_dl (own_bt (own_bt (own_bt (own_bt (0 : Int32) x0) x1) x2) x3) (2 : Int32))] 1) (.int 0) := V_t
  show OwG p e below s _ _ _ _ T (mkF m 114 #[.val (.ref a), .val (.ref sb), .val (.int (own_bt (own_bt (own_bt (own_bt (0 : Int32) x0) x1) x2) x3)), .val (.int 2), .val (.ref a), .val (.int 4), .val (.int 4), .val (.int x3)] [])
  refine own_sp (N := 8) (k := 7) (vs := (own_vz [(own_dg (own_bt (0 : Int32) x0) (3 : Int32)), (own_dg (own_bt (own_bt (0 : Int32) x0) x1) (6 : Int32)), (own_dg (own_bt (own_bt (0 : Int32) x0) x1) (1 : Int32)), (own_dg (own_bt (own_bt (own_bt (0 : Int32) x0) x1) x2) (4 : Int32)), (own_dg (own_bt (own_bt (own_bt (own_bt (0 : Int32) x0) x1) x2) x3) (7 : Int32)), (own_dg (own_bt (own_bt (own_bt (own_bt (0 : Int32) x0) x1) x2) x3) (2 : Int32)), (own_dl (own_bt (own_bt (own_bt (own_bt (0 : Int32) x0) x1) x2) x3) (2 : Int32))] 1)) (by decide) hw hx hby hml hown hZ S2 hzC SAl (by decide) rfl (by decide) g_sb g_t ne_sb_t ne_a_sb ne_a_t ne_al_sb ne_al_t sz_sb sz_t P Z0 OL KP V_a V_al E_sb F_value_sb F_coder_sb F_count_sb V_t E_t ?_
  clear P Z0 OL KP V_a V_al E_sb F_value_sb F_coder_sb F_count_sb V_t E_t
  intro T h10 P Z0 OL KP V_a V_al E_sb F_value_sb F_coder_sb F_count_sb V_t E_t
  replace F_count_sb : Fld Z h10 sb "java/lang/AbstractStringBuilder" "count" "I" (.int (Int32.ofNat 8)) := F_count_sb
  replace V_t : Arv Z h10 t kt .byte (Int32.ofNat 8) (own_vz [(own_dg (own_bt (0 : Int32) x0) (3 : Int32)), (own_dg (own_bt (own_bt (0 : Int32) x0) x1) (6 : Int32)), (own_dg (own_bt (own_bt (0 : Int32) x0) x1) (1 : Int32)), (own_dg (own_bt (own_bt (own_bt (0 : Int32) x0) x1) x2) (4 : Int32)), (own_dg (own_bt (own_bt (own_bt (own_bt (0 : Int32) x0) x1) x2) x3) (7 : Int32)), (own_dg (own_bt (own_bt (own_bt (own_bt (0 : Int32) x0) x1) x2) x3) (2 : Int32)), (own_dl (own_bt (own_bt (own_bt (own_bt (0 : Int32) x0) x1) x2) x3) (2 : Int32)), (61 : Int32)] 0) (.int 0) := V_t
  show OwG p e below s _ _ _ _ T (mkF m 114 #[.val (.ref a), .val (.ref sb), .val (.int (own_bt (own_bt (own_bt (own_bt (0 : Int32) x0) x1) x2) x3)), .val (.int 2), .val (.ref a), .val (.int 4), .val (.int 4), .val (.int x3)] [])
  refine OwG.ac (mkF m 115 #[.val (.ref a), .val (.ref sb), .val (.int (own_bt (own_bt (own_bt (own_bt (0 : Int32) x0) x1) x2) x3)), .val (.int 2), .val (.ref a), .val (.int 4), .val (.int 4), .val (.int x3)] [(.ref sb)]) (fun tQ kQ => ?_) ?_
  · exact XS.aloadN P.here hx rfl (dc d2_114) rfl rfl kQ
  refine P.virtual hx hZ (y := (⟨"java/lang/StringBuilder", "length", "()I"⟩ : MethodName)) hown (own_w hw 60 rfl) (own_w hw 61 rfl) (own_w hw 63 rfl) (own_w hw 62 rfl) (by decide) (OwM.back (W := 0) (rmSl l Z a0 hw sb (Int32.ofNat 8) h10 n0 Z0 E_sb F_count_sb) hZ (own_w hw 64 rfl) (own_w hw 13 rfl) (own_le rfl) (own_le rfl)) (fun _ _ _ q => q.2) E_sb rfl (by rw [hml]; rfl) (argsL := []) (rest := []) (lenOf pd___I rfl) rfl (own_le rfl) (dc d2_115) rfl (own_le rfl) (own_le rfl) fun T own_v own_L h11 own_e P own_q => ?_
  obtain ⟨⟨rfl, own_hh⟩, -⟩ := own_q
  rw [own_hh] at P
  clear own_e own_hh
  show OwG p e below s _ _ _ _ T (mkF m 118 #[.val (.ref a), .val (.ref sb), .val (.int (own_bt (own_bt (own_bt (own_bt (0 : Int32) x0) x1) x2) x3)), .val (.int 2), .val (.ref a), .val (.int 4), .val (.int 4), .val (.int x3)] [(.int (Int32.ofNat 8))])
  refine OwG.ac (mkF m 120 #[.val (.ref a), .val (.ref sb), .val (.int (own_bt (own_bt (own_bt (own_bt (0 : Int32) x0) x1) x2) x3)), .val (.int 2), .val (.ref a), .val (.int 4), .val (.int 4), .val (.int x3)] [(.int 8), (.int (Int32.ofNat 8))]) (fun tQ kQ => ?_) ?_
  · exact XS.bipush P.here hx rfl (dc d2_118) kQ
  obtain ⟨own_L, own_X, own_rest⟩ := id P
  refine OwG.ac (mkF m 135 #[.val (.ref a), .val (.ref sb), .val (.int (own_bt (own_bt (own_bt (own_bt (0 : Int32) x0) x1) x2) x3)), .val (.int 2), .val (.ref a), .val (.int 4), .val (.int 4), .val (.int x3)] [(.ref sb)]) (fun tQ kQ => ?_) ?_
  · refine Jvm.RoadKit.iremM (g := (mkF m 120 #[.val (.ref a), .val (.ref sb), .val (.int (own_bt (own_bt (own_bt (own_bt (0 : Int32) x0) x1) x2) x3)), .val (.int 2), .val (.ref a), .val (.int 4), .val (.int 4), .val (.int x3)] [(.int 8), (.int (Int32.ofNat 8))])) own_X hx rfl (dc d2_120) rfl (by decide) ?_
    refine XS.ifYes P.here hx rfl (pc0 := 121) (pc' := 134) rfl (dc d2_121) rfl ((if0 _ _).trans (teq (by decide)).1) (by decide) (by decide) ?_
    exact XS.aloadN P.here hx rfl (dc d2_134) rfl rfl kQ
  refine P.virtual hx hZ (y := (⟨"java/lang/StringBuilder", "toString", "()Ljava/lang/String;"⟩ : MethodName)) hown (own_w hw 69 rfl) (own_w hw 70 rfl) (own_w hw 72 rfl) (own_w hw 71 rfl) (by decide) (OwM.back (W := 0) (rmTs l Z a0 hw sb t kt 8 (own_vz [(own_dg (own_bt (0 : Int32) x0) (3 : Int32)), (own_dg (own_bt (own_bt (0 : Int32) x0) x1) (6 : Int32)), (own_dg (own_bt (own_bt (0 : Int32) x0) x1) (1 : Int32)), (own_dg (own_bt (own_bt (own_bt (0 : Int32) x0) x1) x2) (4 : Int32)), (own_dg (own_bt (own_bt (own_bt (own_bt (0 : Int32) x0) x1) x2) x3) (7 : Int32)), (own_dg (own_bt (own_bt (own_bt (own_bt (0 : Int32) x0) x1) x2) x3) (2 : Int32)), (own_dl (own_bt (own_bt (own_bt (own_bt (0 : Int32) x0) x1) x2) x3) (2 : Int32)), (61 : Int32)] 0) zC h10 n0 Z0 S2 hzC OL E_sb F_value_sb F_coder_sb F_count_sb V_t E_t (by decide)) hZ (own_w hw 73 rfl) (own_w hw 13 rfl) (own_le rfl) (own_le rfl)) (fun _ _ _ q => q.2) E_sb rfl (by rw [hml]; rfl) (argsL := []) (rest := []) (lenOf pd___Ljava_lang_String_ rfl) rfl (own_le rfl) (dc d2_135) rfl (own_le rfl) (own_le rfl) fun T own_v own_L h12 own_e P own_q => ?_
  obtain ⟨⟨x, u, rfl, K, E_x, F1, F2, V_u⟩, -⟩ := own_q
  clear own_e
  replace V_a := V_a.keep K nin0
  replace V_al := V_al.keep K nin0
  replace E_sb := E_sb.keep K
  replace F_value_sb := F_value_sb.keep K nin0
  replace F_coder_sb := F_coder_sb.keep K nin0
  replace F_count_sb := F_count_sb.keep K nin0
  replace V_t := V_t.keep K nin0
  replace E_t := E_t.keep K
  replace Z0 := Nat.le_trans Z0 K.1
  replace OL := OL.keep K all0
  replace KP := KP.trans K all0
  show OwG p e below s _ _ _ _ T (mkF m 138 #[.val (.ref a), .val (.ref sb), .val (.int (own_bt (own_bt (own_bt (own_bt (0 : Int32) x0) x1) x2) x3)), .val (.int 2), .val (.ref a), .val (.int 4), .val (.int 4), .val (.int x3)] [(.ref x)])
  exact P.retR hx hlk hret rfl rfl (dc d2_138) (own_le rfl) (own_le rfl) ⟨x, u, kt, rfl, KP, E_x, F1, F2, V_u⟩
set_option maxRecDepth 65536 in
set_option maxHeartbeats 40000000 in
theorem rmE5 (l : Launch) (Z : State) (a0 : Array Value) (hw : ∀ d ∈ tables_1, d.before a0 Z = true) (a al : Addr) (ka kal : ClassId) (dal : Value) (zC : Int32) (x0 x1 x2 x3 x4 : Int32) (h0 : Heap) (n0 : Nat) (Z0 : n0 ≤ h0.size) (S2 : Sta Z Z.heap "java/lang/String" "COMPACT_STRINGS" "Z" (.int zC)) (hzC : ¬ zC = 0) (OL : Old Z n0 h0) (SAl : Sta Z Z.heap "com/example/grawl/grawl/util/Base32" "ALPHABET" "[C" (.ref al)) (V_a : Arv Z h0 a ka .byte (5 : Int32) [(.int x0), (.int x1), (.int x2), (.int x3), (.int x4)] (.int 0)) (V_al : Arv Z h0 al kal .char (32 : Int32) own_alist dal) :
    OwM l Z (⟨"com/example/grawl/grawl/util/Base32", "encode", "([B)Ljava/lang/String;"⟩ : MethodName) prog_8_method_2_code 8 (some (.object "java/lang/String")) ({ frames := 5, cells := 4, slots := 40, locals := 84 } : Room) n0 #[(.ref a)] h0 (fun v h => ∃ (x u : Addr) (ku : ClassId), v = some (.ref x) ∧ Keep h0 h [] ∧ Exa Z h x "java/lang/String" ∧ Fld Z h x "java/lang/String" "value" "[B" (.ref u) ∧ Fld Z h x "java/lang/String" "coder" "B" (.int 0) ∧ Arv Z h u ku .byte (Int32.ofNat 8) (own_vz [(own_dg (own_bt (0 : Int32) x0) (3 : Int32)), (own_dg (own_bt (own_bt (0 : Int32) x0) x1) (6 : Int32)), (own_dg (own_bt (own_bt (0 : Int32) x0) x1) (1 : Int32)), (own_dg (own_bt (own_bt (own_bt (0 : Int32) x0) x1) x2) (4 : Int32)), (own_dg (own_bt (own_bt (own_bt (own_bt (0 : Int32) x0) x1) x2) x3) (7 : Int32)), (own_dg (own_bt (own_bt (own_bt (own_bt (0 : Int32) x0) x1) x2) x3) (2 : Int32)), (own_dg (own_bt (own_bt (own_bt (own_bt (own_bt (0 : Int32) x0) x1) x2) x3) x4) (5 : Int32)), (own_dg (own_bt (own_bt (own_bt (own_bt (own_bt (0 : Int32) x0) x1) x2) x3) x4) (0 : Int32))] 0) (.int 0)) := by
  refine OwM.mk (plainFor_of_name pn_com_example_grawl_grawl_util_Base32) ?_
  intro p e s m below meth cD T hx hby hml hown hnm hret hlk hZ P
  have dc := @Jvm.hb cD _ hby
  refine OwG.cast (show entryFrame m #[(.ref a)] 8 = mkF m 0 #[.val (.ref a), .unset, .unset, .unset, .unset, .unset, .unset, .unset] [] from by first | (simp [entryFrame, mkF, argsToLocals, Value.category]; done) | rfl) ?_
  have KP := Keep.refl h0 []
  refine P.newO hx hZ hown (own_w hw 11 rfl) (own_w hw 12 rfl) (own_w hw 13 rfl) rfl (dc d2_0) (own_le rfl) (own_le rfl) fun T h1 sb gsb P E A D => ?_
  have ne_a_sb : a ≠ sb := Nat.ne_of_lt (Nat.lt_of_lt_of_le V_a.lt (Nat.le_of_eq gsb.symm))
  have ne_sb_a := Ne.symm ne_a_sb
  have ne_al_sb : al ≠ sb := Nat.ne_of_lt (Nat.lt_of_lt_of_le V_al.lt (Nat.le_of_eq gsb.symm))
  have ne_sb_al := Ne.symm ne_al_sb
  have g_sb : n0 ≤ sb := Nat.le_trans Z0 (Nat.le_of_eq gsb.symm)
  have sz_sb : h0.size ≤ sb := Nat.le_trans KP.1 (Nat.le_of_eq gsb.symm)
  replace V_a := V_a.ext E
  replace V_al := V_al.ext E
  replace Z0 := Nat.le_trans Z0 E.1
  replace OL := OL.ext E
  replace KP := KP.ext E
  have E_sb := A
  have F_value_sb : Fld Z h1 sb "java/lang/AbstractStringBuilder" "value" "[B" .null := D (Or.inl (own_w hw 29 rfl)) (ty := (.array .byte)) (by decide)
  have F_coder_sb : Fld Z h1 sb "java/lang/AbstractStringBuilder" "coder" "B" (.int 0) := D (Or.inl (own_w hw 31 rfl)) (ty := .byte) (by decide)
  have F_count_sb : Fld Z h1 sb "java/lang/AbstractStringBuilder" "count" "I" (.int 0) := D (Or.inl (own_w hw 45 rfl)) (ty := .int) (by decide)
  clear A D E
  show OwG p e below s _ _ _ _ T (mkF m 3 #[.val (.ref a), .unset, .unset, .unset, .unset, .unset, .unset, .unset] [(.ref sb)])
  refine OwG.ac (mkF m 5 #[.val (.ref a), .unset, .unset, .unset, .unset, .unset, .unset, .unset] [(.ref a), (.ref sb), (.ref sb)]) (fun tQ kQ => ?_) ?_
  · refine XS.dup P.here hx rfl (dc d2_3) rfl rfl ?_
    exact XS.aloadN P.here hx rfl (dc d2_4) rfl rfl kQ
  obtain ⟨own_cl, own_A, own_q1, own_S, own_M, own_H, own_U⟩ := id V_a
  obtain ⟨own_L, own_X, own_e, own_N⟩ := id P
  have own_Z := hZ
  refine OwG.ac (mkF m 13 #[.val (.ref a), .unset, .unset, .unset, .unset, .unset, .unset, .unset] [(.int ((((5 : Int32) + (4 : Int32)) / (5 : Int32)) * (8 : Int32))), (.ref sb), (.ref sb)]) (fun tQ kQ => ?_) ?_
  · refine own_X.arraylength hx (by rw [own_e]; exact own_A.1) (State.isArrayOf_alike own_Z.alike own_A.2.1) (g := (mkF m 5 #[.val (.ref a), .unset, .unset, .unset, .unset, .unset, .unset, .unset] [(.ref a), (.ref sb), (.ref sb)])) rfl rfl (dc d2_5) _ ?_
    rw [len_of own_S own_M]
    refine XS.iconst P.here hx rfl (dc d2_6) ?_
    refine XS.iadd P.here hx rfl (dc d2_7) rfl ?_
    refine XS.iconst P.here hx rfl (dc d2_8) ?_
    refine XS.idiv P.here hx rfl (dc d2_9) rfl (by decide) ?_
    refine XS.bipush P.here hx rfl (dc d2_10) ?_
    exact XS.imul P.here hx rfl (dc d2_12) rfl kQ
  rw [show ((((5 : Int32) + (4 : Int32)) / (5 : Int32)) * (8 : Int32)) = (Int32.ofNat 8) from by decide]
  show OwG p e below s _ _ _ _ T (mkF m 13 #[.val (.ref a), .unset, .unset, .unset, .unset, .unset, .unset, .unset] [(.int (Int32.ofNat 8)), (.ref sb), (.ref sb)])
  refine P.special hx hZ (y := (⟨"java/lang/StringBuilder", "<init>", "(I)V"⟩ : MethodName)) rfl hown (own_w hw 14 rfl) (own_w hw 15 rfl) (own_w hw 16 rfl) (by decide) (OwM.back (W := 1) (rmSi l Z a0 hw sb 8 zC h1 n0 Z0 S2 hzC OL (by decide) g_sb E_sb F_value_sb F_coder_sb F_count_sb) hZ (own_w hw 16 rfl) (own_w hw 13 rfl) (own_le rfl) (own_le rfl)) (fun _ _ _ q => q.2) rfl (by rw [hml]; rfl) (a := sb) (argsL := [(.int (Int32.ofNat 8))]) (rest := [(.ref sb)]) (lenOf pd__I_V rfl) rfl (own_le rfl) (dc d2_13) rfl (own_le rfl) (own_le rfl) fun T own_v own_L h2 own_e P own_q => ?_
  obtain ⟨⟨rfl, K, t, kt, gt, F_value_sb', F_coder_sb', F_count_sb', V_t, E_t⟩, -⟩ := own_q
  show OwG p e below s _ _ _ _ T (mkF m 16 #[.val (.ref a), .unset, .unset, .unset, .unset, .unset, .unset, .unset] [(.ref sb)])
  clear own_e
  have ne_a_t : a ≠ t := Nat.ne_of_lt (Nat.lt_of_lt_of_le V_a.lt (Nat.le_of_eq gt.symm))
  have ne_t_a := Ne.symm ne_a_t
  have ne_al_t : al ≠ t := Nat.ne_of_lt (Nat.lt_of_lt_of_le V_al.lt (Nat.le_of_eq gt.symm))
  have ne_t_al := Ne.symm ne_al_t
  have ne_sb_t : sb ≠ t := Nat.ne_of_lt (Nat.lt_of_lt_of_le E_sb.lt (Nat.le_of_eq gt.symm))
  have ne_t_sb := Ne.symm ne_sb_t
  have g_t : n0 ≤ t := Nat.le_trans Z0 (Nat.le_of_eq gt.symm)
  have sz_t : h0.size ≤ t := Nat.le_trans KP.1 (Nat.le_of_eq gt.symm)
  replace V_a := V_a.keep K (ninS ne_a_sb nin0)
  replace V_al := V_al.keep K (ninS ne_al_sb nin0)
  replace E_sb := E_sb.keep K
  replace Z0 := Nat.le_trans Z0 K.1
  replace OL := OL.keep K (allS g_sb all0)
  replace KP := KP.trans K (allS (Or.inr sz_sb) all0)
  clear F_value_sb
  have F_value_sb := F_value_sb'
  clear F_value_sb'
  clear F_coder_sb
  have F_coder_sb := F_coder_sb'
  clear F_coder_sb'
  clear F_count_sb
  have F_count_sb := F_count_sb'
  clear F_count_sb'
  replace F_count_sb : Fld Z h2 sb "java/lang/AbstractStringBuilder" "count" "I" (.int (Int32.ofNat 0)) := F_count_sb
  replace V_t : Arv Z h2 t kt .byte (Int32.ofNat 8) (own_vz [] 8) (.int 0) := V_t
  refine OwG.ac (mkF m 26 #[.val (.ref a), .val (.ref sb), .val (.int 0), .val (.int 0), .val (.ref a), .unset, .unset, .unset] [(.ref a)]) (fun tQ kQ => ?_) ?_
  · refine XS.astoreN P.here hx rfl (dc d2_16) rfl rfl (l' := #[.val (.ref a), .val (.ref sb), .unset, .unset, .unset, .unset, .unset, .unset]) rfl ?_
    refine XS.iconst P.here hx rfl (dc d2_17) ?_
    refine XS.istoreN P.here hx rfl (dc d2_18) rfl (l' := #[.val (.ref a), .val (.ref sb), .val (.int 0), .unset, .unset, .unset, .unset, .unset]) rfl ?_
    refine XS.iconst P.here hx rfl (dc d2_19) ?_
    refine XS.istoreN P.here hx rfl (dc d2_20) rfl (l' := #[.val (.ref a), .val (.ref sb), .val (.int 0), .val (.int 0), .unset, .unset, .unset, .unset]) rfl ?_
    refine XS.aloadN P.here hx rfl (dc d2_21) rfl rfl ?_
    refine XS.astore P.here hx rfl (dc d2_22) rfl rfl (l' := #[.val (.ref a), .val (.ref sb), .val (.int 0), .val (.int 0), .val (.ref a), .unset, .unset, .unset]) rfl ?_
    exact XS.aload P.here hx rfl (dc d2_24) rfl rfl kQ
  obtain ⟨own_cl, own_A, own_q1, own_S, own_M, own_H, own_U⟩ := id V_a
  obtain ⟨own_L, own_X, own_e, own_N⟩ := id P
  have own_Z := hZ
  refine OwG.ac (mkF m 32 #[.val (.ref a), .val (.ref sb), .val (.int 0), .val (.int 0), .val (.ref a), .val (.int 5), .val (.int 0), .unset] []) (fun tQ kQ => ?_) ?_
  · refine own_X.arraylength hx (by rw [own_e]; exact own_A.1) (State.isArrayOf_alike own_Z.alike own_A.2.1) (g := (mkF m 26 #[.val (.ref a), .val (.ref sb), .val (.int 0), .val (.int 0), .val (.ref a), .unset, .unset, .unset] [(.ref a)])) rfl rfl (dc d2_26) _ ?_
    rw [len_of own_S own_M]
    refine XS.istore P.here hx rfl (dc d2_27) rfl (l' := #[.val (.ref a), .val (.ref sb), .val (.int 0), .val (.int 0), .val (.ref a), .val (.int 5), .unset, .unset]) rfl ?_
    refine XS.iconst P.here hx rfl (dc d2_29) ?_
    exact XS.istore P.here hx rfl (dc d2_30) rfl (l' := #[.val (.ref a), .val (.ref sb), .val (.int 0), .val (.int 0), .val (.ref a), .val (.int 5), .val (.int 0), .unset]) rfl kQ
  replace P := P.wide (k' := 2) (n' := 20) (by decide) (by decide)
  refine OwG.ac (mkF m 43 #[.val (.ref a), .val (.ref sb), .val (.int 0), .val (.int 0), .val (.ref a), .val (.int 5), .val (.int 0), .unset] [(.int 0), (.ref a)]) (fun tQ kQ => ?_) ?_
  · refine XS.iload P.here hx rfl (dc d2_32) rfl ?_
    refine XS.iload P.here hx rfl (dc d2_34) rfl ?_
    refine XS.icmpNo P.here hx rfl (dc d2_36) rfl (tlt (by decide)).2.1 ?_
    refine XS.aload P.here hx rfl (dc d2_39) rfl rfl ?_
    exact XS.iload P.here hx rfl (dc d2_41) rfl kQ
  obtain ⟨own_cl, own_A, own_q1, own_S, own_M, own_H, own_U⟩ := id V_a
  obtain ⟨own_L, own_X, own_e, own_N⟩ := id P
  have own_Z := hZ
  have own_in := inb_of own_S (j := (0 : Int32)) ⟨(by decide), (by decide)⟩
  refine OwG.ac (mkF m 57 #[.val (.ref a), .val (.ref sb), .val (.int 0), .val (.int 0), .val (.ref a), .val (.int 5), .val (.int 0), .val (.int x0)] [(.int (((0 : Int32) <<< ((8 : Int32) &&& 31)) ||| (x0 &&& (255 : Int32))))]) (fun tQ kQ => ?_) ?_
  · refine own_X.baloadBytes hx (j := (0 : Int32)) (v := (.int x0)) (by rw [own_e]; exact own_A.1) (State.isArrayOf_alike own_Z.alike own_A.2.1) own_A.2.2 own_in (Has.at own_H own_in rfl) (g := (mkF m 43 #[.val (.ref a), .val (.ref sb), .val (.int 0), .val (.int 0), .val (.ref a), .val (.int 5), .val (.int 0), .unset] [(.int 0), (.ref a)])) rfl rfl (dc d2_43) _ ?_
    refine XS.istore P.here hx rfl (dc d2_44) rfl (l' := #[.val (.ref a), .val (.ref sb), .val (.int 0), .val (.int 0), .val (.ref a), .val (.int 5), .val (.int 0), .val (.int x0)]) rfl ?_
    refine XS.iloadN P.here hx rfl (dc d2_46) rfl ?_
    refine XS.bipush P.here hx rfl (dc d2_47) ?_
    refine XS.ishl P.here hx rfl (dc d2_49) rfl ?_
    refine XS.iload P.here hx rfl (dc d2_50) rfl ?_
    refine XS.sipush P.here hx rfl (dc d2_52) ?_
    refine XS.iand P.here hx rfl (dc d2_55) rfl ?_
    exact XS.ior P.here hx rfl (dc d2_56) rfl kQ
  rw [show (((0 : Int32) <<< ((8 : Int32) &&& 31)) ||| (x0 &&& (255 : Int32))) = (own_bt (0 : Int32) x0) from rfl]
  show OwG p e below s _ _ _ _ T (mkF m 57 #[.val (.ref a), .val (.ref sb), .val (.int 0), .val (.int 0), .val (.ref a), .val (.int 5), .val (.int 0), .val (.int x0)] [(.int (own_bt (0 : Int32) x0))])
  refine OwG.ac (mkF m 61 #[.val (.ref a), .val (.ref sb), .val (.int (own_bt (0 : Int32) x0)), .val (.int ((0 : Int32) + (8 : Int32))), .val (.ref a), .val (.int 5), .val (.int 0), .val (.int x0)] []) (fun tQ kQ => ?_) ?_
  · refine XS.istoreN P.here hx rfl (dc d2_57) rfl (l' := #[.val (.ref a), .val (.ref sb), .val (.int (own_bt (0 : Int32) x0)), .val (.int 0), .val (.ref a), .val (.int 5), .val (.int 0), .val (.int x0)]) rfl ?_
    exact XS.iinc P.here hx rfl (dc d2_58) rfl (l' := #[.val (.ref a), .val (.ref sb), .val (.int (own_bt (0 : Int32) x0)), .val (.int ((0 : Int32) + (8 : Int32))), .val (.ref a), .val (.int 5), .val (.int 0), .val (.int x0)]) rfl kQ
  rw [show ((0 : Int32) + (8 : Int32)) = (8 : Int32) from by decide]
  show OwG p e below s _ _ _ _ T (mkF m 61 #[.val (.ref a), .val (.ref sb), .val (.int (own_bt (0 : Int32) x0)), .val (.int 8), .val (.ref a), .val (.int 5), .val (.int 0), .val (.int x0)] [])
  refine OwG.ac (mkF m 66 #[.val (.ref a), .val (.ref sb), .val (.int (own_bt (0 : Int32) x0)), .val (.int 8), .val (.ref a), .val (.int 5), .val (.int 0), .val (.int x0)] []) (fun tQ kQ => ?_) ?_
  · refine XS.iloadN P.here hx rfl (dc d2_61) rfl ?_
    refine XS.iconst P.here hx rfl (dc d2_62) ?_
    exact XS.icmpNo P.here hx rfl (dc d2_63) rfl (flt (by decide)).1 kQ
  refine own_sg (N := 8) (k := 0) (vs := (own_vz [] 8)) (b' := (3 : Int32)) (by decide) hw hx hby hml hown hZ S2 hzC SAl (by decide) rfl (by decide) g_sb g_t ne_sb_t ne_a_sb ne_a_t ne_al_sb ne_al_t sz_sb sz_t P Z0 OL KP V_a V_al E_sb F_value_sb F_coder_sb F_count_sb V_t E_t ?_
  clear P Z0 OL KP V_a V_al E_sb F_value_sb F_coder_sb F_count_sb V_t E_t
  intro T h3 P Z0 OL KP V_a V_al E_sb F_value_sb F_coder_sb F_count_sb V_t E_t
  replace F_count_sb : Fld Z h3 sb "java/lang/AbstractStringBuilder" "count" "I" (.int (Int32.ofNat 1)) := F_count_sb
  replace V_t : Arv Z h3 t kt .byte (Int32.ofNat 8) (own_vz [(own_dg (own_bt (0 : Int32) x0) (3 : Int32))] 7) (.int 0) := V_t
  show OwG p e below s _ _ _ _ T (mkF m 61 #[.val (.ref a), .val (.ref sb), .val (.int (own_bt (0 : Int32) x0)), .val (.int 3), .val (.ref a), .val (.int 5), .val (.int 0), .val (.int x0)] [])
  refine OwG.ac (mkF m 32 #[.val (.ref a), .val (.ref sb), .val (.int (own_bt (0 : Int32) x0)), .val (.int 3), .val (.ref a), .val (.int 5), .val (.int ((0 : Int32) + (1 : Int32))), .val (.int x0)] []) (fun tQ kQ => ?_) ?_
  · refine XS.iloadN P.here hx rfl (dc d2_61) rfl ?_
    refine XS.iconst P.here hx rfl (dc d2_62) ?_
    refine XS.icmpYes P.here hx rfl (pc0 := 63) (pc' := 87) rfl (dc d2_63) rfl (tlt (by decide)).1 (by decide) (by decide) ?_
    refine XS.iinc P.here hx rfl (dc d2_87) rfl (l' := #[.val (.ref a), .val (.ref sb), .val (.int (own_bt (0 : Int32) x0)), .val (.int 3), .val (.ref a), .val (.int 5), .val (.int ((0 : Int32) + (1 : Int32))), .val (.int x0)]) rfl ?_
    exact XS.goto P.here hx rfl (pc0 := 90) (pc' := 32) rfl (dc d2_90) (by decide) (by decide) kQ
  rw [show ((0 : Int32) + (1 : Int32)) = (1 : Int32) from by decide]
  show OwG p e below s _ _ _ _ T (mkF m 32 #[.val (.ref a), .val (.ref sb), .val (.int (own_bt (0 : Int32) x0)), .val (.int 3), .val (.ref a), .val (.int 5), .val (.int 1), .val (.int x0)] [])
  refine OwG.ac (mkF m 43 #[.val (.ref a), .val (.ref sb), .val (.int (own_bt (0 : Int32) x0)), .val (.int 3), .val (.ref a), .val (.int 5), .val (.int 1), .val (.int x0)] [(.int 1), (.ref a)]) (fun tQ kQ => ?_) ?_
  · refine XS.iload P.here hx rfl (dc d2_32) rfl ?_
    refine XS.iload P.here hx rfl (dc d2_34) rfl ?_
    refine XS.icmpNo P.here hx rfl (dc d2_36) rfl (tlt (by decide)).2.1 ?_
    refine XS.aload P.here hx rfl (dc d2_39) rfl rfl ?_
    exact XS.iload P.here hx rfl (dc d2_41) rfl kQ
  obtain ⟨own_cl, own_A, own_q1, own_S, own_M, own_H, own_U⟩ := id V_a
  obtain ⟨own_L, own_X, own_e, own_N⟩ := id P
  have own_Z := hZ
  have own_in := inb_of own_S (j := (1 : Int32)) ⟨(by decide), (by decide)⟩
  refine OwG.ac (mkF m 57 #[.val (.ref a), .val (.ref sb), .val (.int (own_bt (0 : Int32) x0)), .val (.int 3), .val (.ref a), .val (.int 5), .val (.int 1), .val (.int x1)] [(.int (((own_bt (0 : Int32) x0) <<< ((8 : Int32) &&& 31)) ||| (x1 &&& (255 : Int32))))]) (fun tQ kQ => ?_) ?_
  · refine own_X.baloadBytes hx (j := (1 : Int32)) (v := (.int x1)) (by rw [own_e]; exact own_A.1) (State.isArrayOf_alike own_Z.alike own_A.2.1) own_A.2.2 own_in (Has.at own_H own_in rfl) (g := (mkF m 43 #[.val (.ref a), .val (.ref sb), .val (.int (own_bt (0 : Int32) x0)), .val (.int 3), .val (.ref a), .val (.int 5), .val (.int 1), .val (.int x0)] [(.int 1), (.ref a)])) rfl rfl (dc d2_43) _ ?_
    refine XS.istore P.here hx rfl (dc d2_44) rfl (l' := #[.val (.ref a), .val (.ref sb), .val (.int (own_bt (0 : Int32) x0)), .val (.int 3), .val (.ref a), .val (.int 5), .val (.int 1), .val (.int x1)]) rfl ?_
    refine XS.iloadN P.here hx rfl (dc d2_46) rfl ?_
    refine XS.bipush P.here hx rfl (dc d2_47) ?_
    refine XS.ishl P.here hx rfl (dc d2_49) rfl ?_
    refine XS.iload P.here hx rfl (dc d2_50) rfl ?_
    refine XS.sipush P.here hx rfl (dc d2_52) ?_
    refine XS.iand P.here hx rfl (dc d2_55) rfl ?_
    exact XS.ior P.here hx rfl (dc d2_56) rfl kQ
  rw [show (((own_bt (0 : Int32) x0) <<< ((8 : Int32) &&& 31)) ||| (x1 &&& (255 : Int32))) = (own_bt (own_bt (0 : Int32) x0) x1) from rfl]
  show OwG p e below s _ _ _ _ T (mkF m 57 #[.val (.ref a), .val (.ref sb), .val (.int (own_bt (0 : Int32) x0)), .val (.int 3), .val (.ref a), .val (.int 5), .val (.int 1), .val (.int x1)] [(.int (own_bt (own_bt (0 : Int32) x0) x1))])
  refine OwG.ac (mkF m 61 #[.val (.ref a), .val (.ref sb), .val (.int (own_bt (own_bt (0 : Int32) x0) x1)), .val (.int ((3 : Int32) + (8 : Int32))), .val (.ref a), .val (.int 5), .val (.int 1), .val (.int x1)] []) (fun tQ kQ => ?_) ?_
  · refine XS.istoreN P.here hx rfl (dc d2_57) rfl (l' := #[.val (.ref a), .val (.ref sb), .val (.int (own_bt (own_bt (0 : Int32) x0) x1)), .val (.int 3), .val (.ref a), .val (.int 5), .val (.int 1), .val (.int x1)]) rfl ?_
    exact XS.iinc P.here hx rfl (dc d2_58) rfl (l' := #[.val (.ref a), .val (.ref sb), .val (.int (own_bt (own_bt (0 : Int32) x0) x1)), .val (.int ((3 : Int32) + (8 : Int32))), .val (.ref a), .val (.int 5), .val (.int 1), .val (.int x1)]) rfl kQ
  rw [show ((3 : Int32) + (8 : Int32)) = (11 : Int32) from by decide]
  show OwG p e below s _ _ _ _ T (mkF m 61 #[.val (.ref a), .val (.ref sb), .val (.int (own_bt (own_bt (0 : Int32) x0) x1)), .val (.int 11), .val (.ref a), .val (.int 5), .val (.int 1), .val (.int x1)] [])
  refine OwG.ac (mkF m 66 #[.val (.ref a), .val (.ref sb), .val (.int (own_bt (own_bt (0 : Int32) x0) x1)), .val (.int 11), .val (.ref a), .val (.int 5), .val (.int 1), .val (.int x1)] []) (fun tQ kQ => ?_) ?_
  · refine XS.iloadN P.here hx rfl (dc d2_61) rfl ?_
    refine XS.iconst P.here hx rfl (dc d2_62) ?_
    exact XS.icmpNo P.here hx rfl (dc d2_63) rfl (flt (by decide)).1 kQ
  refine own_sg (N := 8) (k := 1) (vs := (own_vz [(own_dg (own_bt (0 : Int32) x0) (3 : Int32))] 7)) (b' := (6 : Int32)) (by decide) hw hx hby hml hown hZ S2 hzC SAl (by decide) rfl (by decide) g_sb g_t ne_sb_t ne_a_sb ne_a_t ne_al_sb ne_al_t sz_sb sz_t P Z0 OL KP V_a V_al E_sb F_value_sb F_coder_sb F_count_sb V_t E_t ?_
  clear P Z0 OL KP V_a V_al E_sb F_value_sb F_coder_sb F_count_sb V_t E_t
  intro T h4 P Z0 OL KP V_a V_al E_sb F_value_sb F_coder_sb F_count_sb V_t E_t
  replace F_count_sb : Fld Z h4 sb "java/lang/AbstractStringBuilder" "count" "I" (.int (Int32.ofNat 2)) := F_count_sb
  replace V_t : Arv Z h4 t kt .byte (Int32.ofNat 8) (own_vz [(own_dg (own_bt (0 : Int32) x0) (3 : Int32)), (own_dg (own_bt (own_bt (0 : Int32) x0) x1) (6 : Int32))] 6) (.int 0) := V_t
  show OwG p e below s _ _ _ _ T (mkF m 61 #[.val (.ref a), .val (.ref sb), .val (.int (own_bt (own_bt (0 : Int32) x0) x1)), .val (.int 6), .val (.ref a), .val (.int 5), .val (.int 1), .val (.int x1)] [])
  refine OwG.ac (mkF m 66 #[.val (.ref a), .val (.ref sb), .val (.int (own_bt (own_bt (0 : Int32) x0) x1)), .val (.int 6), .val (.ref a), .val (.int 5), .val (.int 1), .val (.int x1)] []) (fun tQ kQ => ?_) ?_
  · refine XS.iloadN P.here hx rfl (dc d2_61) rfl ?_
    refine XS.iconst P.here hx rfl (dc d2_62) ?_
    exact XS.icmpNo P.here hx rfl (dc d2_63) rfl (flt (by decide)).1 kQ
  refine own_sg (N := 8) (k := 2) (vs := (own_vz [(own_dg (own_bt (0 : Int32) x0) (3 : Int32)), (own_dg (own_bt (own_bt (0 : Int32) x0) x1) (6 : Int32))] 6)) (b' := (1 : Int32)) (by decide) hw hx hby hml hown hZ S2 hzC SAl (by decide) rfl (by decide) g_sb g_t ne_sb_t ne_a_sb ne_a_t ne_al_sb ne_al_t sz_sb sz_t P Z0 OL KP V_a V_al E_sb F_value_sb F_coder_sb F_count_sb V_t E_t ?_
  clear P Z0 OL KP V_a V_al E_sb F_value_sb F_coder_sb F_count_sb V_t E_t
  intro T h5 P Z0 OL KP V_a V_al E_sb F_value_sb F_coder_sb F_count_sb V_t E_t
  replace F_count_sb : Fld Z h5 sb "java/lang/AbstractStringBuilder" "count" "I" (.int (Int32.ofNat 3)) := F_count_sb
  replace V_t : Arv Z h5 t kt .byte (Int32.ofNat 8) (own_vz [(own_dg (own_bt (0 : Int32) x0) (3 : Int32)), (own_dg (own_bt (own_bt (0 : Int32) x0) x1) (6 : Int32)), (own_dg (own_bt (own_bt (0 : Int32) x0) x1) (1 : Int32))] 5) (.int 0) := V_t
  show OwG p e below s _ _ _ _ T (mkF m 61 #[.val (.ref a), .val (.ref sb), .val (.int (own_bt (own_bt (0 : Int32) x0) x1)), .val (.int 1), .val (.ref a), .val (.int 5), .val (.int 1), .val (.int x1)] [])
  refine OwG.ac (mkF m 32 #[.val (.ref a), .val (.ref sb), .val (.int (own_bt (own_bt (0 : Int32) x0) x1)), .val (.int 1), .val (.ref a), .val (.int 5), .val (.int ((1 : Int32) + (1 : Int32))), .val (.int x1)] []) (fun tQ kQ => ?_) ?_
  · refine XS.iloadN P.here hx rfl (dc d2_61) rfl ?_
    refine XS.iconst P.here hx rfl (dc d2_62) ?_
    refine XS.icmpYes P.here hx rfl (pc0 := 63) (pc' := 87) rfl (dc d2_63) rfl (tlt (by decide)).1 (by decide) (by decide) ?_
    refine XS.iinc P.here hx rfl (dc d2_87) rfl (l' := #[.val (.ref a), .val (.ref sb), .val (.int (own_bt (own_bt (0 : Int32) x0) x1)), .val (.int 1), .val (.ref a), .val (.int 5), .val (.int ((1 : Int32) + (1 : Int32))), .val (.int x1)]) rfl ?_
    exact XS.goto P.here hx rfl (pc0 := 90) (pc' := 32) rfl (dc d2_90) (by decide) (by decide) kQ
  rw [show ((1 : Int32) + (1 : Int32)) = (2 : Int32) from by decide]
  show OwG p e below s _ _ _ _ T (mkF m 32 #[.val (.ref a), .val (.ref sb), .val (.int (own_bt (own_bt (0 : Int32) x0) x1)), .val (.int 1), .val (.ref a), .val (.int 5), .val (.int 2), .val (.int x1)] [])
  refine OwG.ac (mkF m 43 #[.val (.ref a), .val (.ref sb), .val (.int (own_bt (own_bt (0 : Int32) x0) x1)), .val (.int 1), .val (.ref a), .val (.int 5), .val (.int 2), .val (.int x1)] [(.int 2), (.ref a)]) (fun tQ kQ => ?_) ?_
  · refine XS.iload P.here hx rfl (dc d2_32) rfl ?_
    refine XS.iload P.here hx rfl (dc d2_34) rfl ?_
    refine XS.icmpNo P.here hx rfl (dc d2_36) rfl (tlt (by decide)).2.1 ?_
    refine XS.aload P.here hx rfl (dc d2_39) rfl rfl ?_
    exact XS.iload P.here hx rfl (dc d2_41) rfl kQ
  obtain ⟨own_cl, own_A, own_q1, own_S, own_M, own_H, own_U⟩ := id V_a
  obtain ⟨own_L, own_X, own_e, own_N⟩ := id P
  have own_Z := hZ
  have own_in := inb_of own_S (j := (2 : Int32)) ⟨(by decide), (by decide)⟩
  refine OwG.ac (mkF m 57 #[.val (.ref a), .val (.ref sb), .val (.int (own_bt (own_bt (0 : Int32) x0) x1)), .val (.int 1), .val (.ref a), .val (.int 5), .val (.int 2), .val (.int x2)] [(.int (((own_bt (own_bt (0 : Int32) x0) x1) <<< ((8 : Int32) &&& 31)) ||| (x2 &&& (255 : Int32))))]) (fun tQ kQ => ?_) ?_
  · refine own_X.baloadBytes hx (j := (2 : Int32)) (v := (.int x2)) (by rw [own_e]; exact own_A.1) (State.isArrayOf_alike own_Z.alike own_A.2.1) own_A.2.2 own_in (Has.at own_H own_in rfl) (g := (mkF m 43 #[.val (.ref a), .val (.ref sb), .val (.int (own_bt (own_bt (0 : Int32) x0) x1)), .val (.int 1), .val (.ref a), .val (.int 5), .val (.int 2), .val (.int x1)] [(.int 2), (.ref a)])) rfl rfl (dc d2_43) _ ?_
    refine XS.istore P.here hx rfl (dc d2_44) rfl (l' := #[.val (.ref a), .val (.ref sb), .val (.int (own_bt (own_bt (0 : Int32) x0) x1)), .val (.int 1), .val (.ref a), .val (.int 5), .val (.int 2), .val (.int x2)]) rfl ?_
    refine XS.iloadN P.here hx rfl (dc d2_46) rfl ?_
    refine XS.bipush P.here hx rfl (dc d2_47) ?_
    refine XS.ishl P.here hx rfl (dc d2_49) rfl ?_
    refine XS.iload P.here hx rfl (dc d2_50) rfl ?_
    refine XS.sipush P.here hx rfl (dc d2_52) ?_
    refine XS.iand P.here hx rfl (dc d2_55) rfl ?_
    exact XS.ior P.here hx rfl (dc d2_56) rfl kQ
  rw [show (((own_bt (own_bt (0 : Int32) x0) x1) <<< ((8 : Int32) &&& 31)) ||| (x2 &&& (255 : Int32))) = (own_bt (own_bt (own_bt (0 : Int32) x0) x1) x2) from rfl]
  show OwG p e below s _ _ _ _ T (mkF m 57 #[.val (.ref a), .val (.ref sb), .val (.int (own_bt (own_bt (0 : Int32) x0) x1)), .val (.int 1), .val (.ref a), .val (.int 5), .val (.int 2), .val (.int x2)] [(.int (own_bt (own_bt (own_bt (0 : Int32) x0) x1) x2))])
  refine OwG.ac (mkF m 61 #[.val (.ref a), .val (.ref sb), .val (.int (own_bt (own_bt (own_bt (0 : Int32) x0) x1) x2)), .val (.int ((1 : Int32) + (8 : Int32))), .val (.ref a), .val (.int 5), .val (.int 2), .val (.int x2)] []) (fun tQ kQ => ?_) ?_
  · refine XS.istoreN P.here hx rfl (dc d2_57) rfl (l' := #[.val (.ref a), .val (.ref sb), .val (.int (own_bt (own_bt (own_bt (0 : Int32) x0) x1) x2)), .val (.int 1), .val (.ref a), .val (.int 5), .val (.int 2), .val (.int x2)]) rfl ?_
    exact XS.iinc P.here hx rfl (dc d2_58) rfl (l' := #[.val (.ref a), .val (.ref sb), .val (.int (own_bt (own_bt (own_bt (0 : Int32) x0) x1) x2)), .val (.int ((1 : Int32) + (8 : Int32))), .val (.ref a), .val (.int 5), .val (.int 2), .val (.int x2)]) rfl kQ
  rw [show ((1 : Int32) + (8 : Int32)) = (9 : Int32) from by decide]
  show OwG p e below s _ _ _ _ T (mkF m 61 #[.val (.ref a), .val (.ref sb), .val (.int (own_bt (own_bt (own_bt (0 : Int32) x0) x1) x2)), .val (.int 9), .val (.ref a), .val (.int 5), .val (.int 2), .val (.int x2)] [])
  refine OwG.ac (mkF m 66 #[.val (.ref a), .val (.ref sb), .val (.int (own_bt (own_bt (own_bt (0 : Int32) x0) x1) x2)), .val (.int 9), .val (.ref a), .val (.int 5), .val (.int 2), .val (.int x2)] []) (fun tQ kQ => ?_) ?_
  · refine XS.iloadN P.here hx rfl (dc d2_61) rfl ?_
    refine XS.iconst P.here hx rfl (dc d2_62) ?_
    exact XS.icmpNo P.here hx rfl (dc d2_63) rfl (flt (by decide)).1 kQ
  refine own_sg (N := 8) (k := 3) (vs := (own_vz [(own_dg (own_bt (0 : Int32) x0) (3 : Int32)), (own_dg (own_bt (own_bt (0 : Int32) x0) x1) (6 : Int32)), (own_dg (own_bt (own_bt (0 : Int32) x0) x1) (1 : Int32))] 5)) (b' := (4 : Int32)) (by decide) hw hx hby hml hown hZ S2 hzC SAl (by decide) rfl (by decide) g_sb g_t ne_sb_t ne_a_sb ne_a_t ne_al_sb ne_al_t sz_sb sz_t P Z0 OL KP V_a V_al E_sb F_value_sb F_coder_sb F_count_sb V_t E_t ?_
  clear P Z0 OL KP V_a V_al E_sb F_value_sb F_coder_sb F_count_sb V_t E_t
  intro T h6 P Z0 OL KP V_a V_al E_sb F_value_sb F_coder_sb F_count_sb V_t E_t
  replace F_count_sb : Fld Z h6 sb "java/lang/AbstractStringBuilder" "count" "I" (.int (Int32.ofNat 4)) := F_count_sb
  replace V_t : Arv Z h6 t kt .byte (Int32.ofNat 8) (own_vz [(own_dg (own_bt (0 : Int32) x0) (3 : Int32)), (own_dg (own_bt (own_bt (0 : Int32) x0) x1) (6 : Int32)), (own_dg (own_bt (own_bt (0 : Int32) x0) x1) (1 : Int32)), (own_dg (own_bt (own_bt (own_bt (0 : Int32) x0) x1) x2) (4 : Int32))] 4) (.int 0) := V_t
  show OwG p e below s _ _ _ _ T (mkF m 61 #[.val (.ref a), .val (.ref sb), .val (.int (own_bt (own_bt (own_bt (0 : Int32) x0) x1) x2)), .val (.int 4), .val (.ref a), .val (.int 5), .val (.int 2), .val (.int x2)] [])
  refine OwG.ac (mkF m 32 #[.val (.ref a), .val (.ref sb), .val (.int (own_bt (own_bt (own_bt (0 : Int32) x0) x1) x2)), .val (.int 4), .val (.ref a), .val (.int 5), .val (.int ((2 : Int32) + (1 : Int32))), .val (.int x2)] []) (fun tQ kQ => ?_) ?_
  · refine XS.iloadN P.here hx rfl (dc d2_61) rfl ?_
    refine XS.iconst P.here hx rfl (dc d2_62) ?_
    refine XS.icmpYes P.here hx rfl (pc0 := 63) (pc' := 87) rfl (dc d2_63) rfl (tlt (by decide)).1 (by decide) (by decide) ?_
    refine XS.iinc P.here hx rfl (dc d2_87) rfl (l' := #[.val (.ref a), .val (.ref sb), .val (.int (own_bt (own_bt (own_bt (0 : Int32) x0) x1) x2)), .val (.int 4), .val (.ref a), .val (.int 5), .val (.int ((2 : Int32) + (1 : Int32))), .val (.int x2)]) rfl ?_
    exact XS.goto P.here hx rfl (pc0 := 90) (pc' := 32) rfl (dc d2_90) (by decide) (by decide) kQ
  rw [show ((2 : Int32) + (1 : Int32)) = (3 : Int32) from by decide]
  show OwG p e below s _ _ _ _ T (mkF m 32 #[.val (.ref a), .val (.ref sb), .val (.int (own_bt (own_bt (own_bt (0 : Int32) x0) x1) x2)), .val (.int 4), .val (.ref a), .val (.int 5), .val (.int 3), .val (.int x2)] [])
  refine OwG.ac (mkF m 43 #[.val (.ref a), .val (.ref sb), .val (.int (own_bt (own_bt (own_bt (0 : Int32) x0) x1) x2)), .val (.int 4), .val (.ref a), .val (.int 5), .val (.int 3), .val (.int x2)] [(.int 3), (.ref a)]) (fun tQ kQ => ?_) ?_
  · refine XS.iload P.here hx rfl (dc d2_32) rfl ?_
    refine XS.iload P.here hx rfl (dc d2_34) rfl ?_
    refine XS.icmpNo P.here hx rfl (dc d2_36) rfl (tlt (by decide)).2.1 ?_
    refine XS.aload P.here hx rfl (dc d2_39) rfl rfl ?_
    exact XS.iload P.here hx rfl (dc d2_41) rfl kQ
  obtain ⟨own_cl, own_A, own_q1, own_S, own_M, own_H, own_U⟩ := id V_a
  obtain ⟨own_L, own_X, own_e, own_N⟩ := id P
  have own_Z := hZ
  have own_in := inb_of own_S (j := (3 : Int32)) ⟨(by decide), (by decide)⟩
  refine OwG.ac (mkF m 57 #[.val (.ref a), .val (.ref sb), .val (.int (own_bt (own_bt (own_bt (0 : Int32) x0) x1) x2)), .val (.int 4), .val (.ref a), .val (.int 5), .val (.int 3), .val (.int x3)] [(.int (((own_bt (own_bt (own_bt (0 : Int32) x0) x1) x2) <<< ((8 : Int32) &&& 31)) ||| (x3 &&& (255 : Int32))))]) (fun tQ kQ => ?_) ?_
  · refine own_X.baloadBytes hx (j := (3 : Int32)) (v := (.int x3)) (by rw [own_e]; exact own_A.1) (State.isArrayOf_alike own_Z.alike own_A.2.1) own_A.2.2 own_in (Has.at own_H own_in rfl) (g := (mkF m 43 #[.val (.ref a), .val (.ref sb), .val (.int (own_bt (own_bt (own_bt (0 : Int32) x0) x1) x2)), .val (.int 4), .val (.ref a), .val (.int 5), .val (.int 3), .val (.int x2)] [(.int 3), (.ref a)])) rfl rfl (dc d2_43) _ ?_
    refine XS.istore P.here hx rfl (dc d2_44) rfl (l' := #[.val (.ref a), .val (.ref sb), .val (.int (own_bt (own_bt (own_bt (0 : Int32) x0) x1) x2)), .val (.int 4), .val (.ref a), .val (.int 5), .val (.int 3), .val (.int x3)]) rfl ?_
    refine XS.iloadN P.here hx rfl (dc d2_46) rfl ?_
    refine XS.bipush P.here hx rfl (dc d2_47) ?_
    refine XS.ishl P.here hx rfl (dc d2_49) rfl ?_
    refine XS.iload P.here hx rfl (dc d2_50) rfl ?_
    refine XS.sipush P.here hx rfl (dc d2_52) ?_
    refine XS.iand P.here hx rfl (dc d2_55) rfl ?_
    exact XS.ior P.here hx rfl (dc d2_56) rfl kQ
  rw [show (((own_bt (own_bt (own_bt (0 : Int32) x0) x1) x2) <<< ((8 : Int32) &&& 31)) ||| (x3 &&& (255 : Int32))) = (own_bt (own_bt (own_bt (own_bt (0 : Int32) x0) x1) x2) x3) from rfl]
  show OwG p e below s _ _ _ _ T (mkF m 57 #[.val (.ref a), .val (.ref sb), .val (.int (own_bt (own_bt (own_bt (0 : Int32) x0) x1) x2)), .val (.int 4), .val (.ref a), .val (.int 5), .val (.int 3), .val (.int x3)] [(.int (own_bt (own_bt (own_bt (own_bt (0 : Int32) x0) x1) x2) x3))])
  refine OwG.ac (mkF m 61 #[.val (.ref a), .val (.ref sb), .val (.int (own_bt (own_bt (own_bt (own_bt (0 : Int32) x0) x1) x2) x3)), .val (.int ((4 : Int32) + (8 : Int32))), .val (.ref a), .val (.int 5), .val (.int 3), .val (.int x3)] []) (fun tQ kQ => ?_) ?_
  · refine XS.istoreN P.here hx rfl (dc d2_57) rfl (l' := #[.val (.ref a), .val (.ref sb), .val (.int (own_bt (own_bt (own_bt (own_bt (0 : Int32) x0) x1) x2) x3)), .val (.int 4), .val (.ref a), .val (.int 5), .val (.int 3), .val (.int x3)]) rfl ?_
    exact XS.iinc P.here hx rfl (dc d2_58) rfl (l' := #[.val (.ref a), .val (.ref sb), .val (.int (own_bt (own_bt (own_bt (own_bt (0 : Int32) x0) x1) x2) x3)), .val (.int ((4 : Int32) + (8 : Int32))), .val (.ref a), .val (.int 5), .val (.int 3), .val (.int x3)]) rfl kQ
  rw [show ((4 : Int32) + (8 : Int32)) = (12 : Int32) from by decide]
  show OwG p e below s _ _ _ _ T (mkF m 61 #[.val (.ref a), .val (.ref sb), .val (.int (own_bt (own_bt (own_bt (own_bt (0 : Int32) x0) x1) x2) x3)), .val (.int 12), .val (.ref a), .val (.int 5), .val (.int 3), .val (.int x3)] [])
  refine OwG.ac (mkF m 66 #[.val (.ref a), .val (.ref sb), .val (.int (own_bt (own_bt (own_bt (own_bt (0 : Int32) x0) x1) x2) x3)), .val (.int 12), .val (.ref a), .val (.int 5), .val (.int 3), .val (.int x3)] []) (fun tQ kQ => ?_) ?_
  · refine XS.iloadN P.here hx rfl (dc d2_61) rfl ?_
    refine XS.iconst P.here hx rfl (dc d2_62) ?_
    exact XS.icmpNo P.here hx rfl (dc d2_63) rfl (flt (by decide)).1 kQ
  refine own_sg (N := 8) (k := 4) (vs := (own_vz [(own_dg (own_bt (0 : Int32) x0) (3 : Int32)), (own_dg (own_bt (own_bt (0 : Int32) x0) x1) (6 : Int32)), (own_dg (own_bt (own_bt (0 : Int32) x0) x1) (1 : Int32)), (own_dg (own_bt (own_bt (own_bt (0 : Int32) x0) x1) x2) (4 : Int32))] 4)) (b' := (7 : Int32)) (by decide) hw hx hby hml hown hZ S2 hzC SAl (by decide) rfl (by decide) g_sb g_t ne_sb_t ne_a_sb ne_a_t ne_al_sb ne_al_t sz_sb sz_t P Z0 OL KP V_a V_al E_sb F_value_sb F_coder_sb F_count_sb V_t E_t ?_
  clear P Z0 OL KP V_a V_al E_sb F_value_sb F_coder_sb F_count_sb V_t E_t
  intro T h7 P Z0 OL KP V_a V_al E_sb F_value_sb F_coder_sb F_count_sb V_t E_t
  replace F_count_sb : Fld Z h7 sb "java/lang/AbstractStringBuilder" "count" "I" (.int (Int32.ofNat 5)) := F_count_sb
  replace V_t : Arv Z h7 t kt .byte (Int32.ofNat 8) (own_vz [(own_dg (own_bt (0 : Int32) x0) (3 : Int32)), (own_dg (own_bt (own_bt (0 : Int32) x0) x1) (6 : Int32)), (own_dg (own_bt (own_bt (0 : Int32) x0) x1) (1 : Int32)), (own_dg (own_bt (own_bt (own_bt (0 : Int32) x0) x1) x2) (4 : Int32)), (own_dg (own_bt (own_bt (own_bt (own_bt (0 : Int32) x0) x1) x2) x3) (7 : Int32))] 3) (.int 0) := V_t
  show OwG p e below s _ _ _ _ T (mkF m 61 #[.val (.ref a), .val (.ref sb), .val (.int (own_bt (own_bt (own_bt (own_bt (0 : Int32) x0) x1) x2) x3)), .val (.int 7), .val (.ref a), .val (.int 5), .val (.int 3), .val (.int x3)] [])
  refine OwG.ac (mkF m 66 #[.val (.ref a), .val (.ref sb), .val (.int (own_bt (own_bt (own_bt (own_bt (0 : Int32) x0) x1) x2) x3)), .val (.int 7), .val (.ref a), .val (.int 5), .val (.int 3), .val (.int x3)] []) (fun tQ kQ => ?_) ?_
  · refine XS.iloadN P.here hx rfl (dc d2_61) rfl ?_
    refine XS.iconst P.here hx rfl (dc d2_62) ?_
    exact XS.icmpNo P.here hx rfl (dc d2_63) rfl (flt (by decide)).1 kQ
  refine own_sg (N := 8) (k := 5) (vs := (own_vz [(own_dg (own_bt (0 : Int32) x0) (3 : Int32)), (own_dg (own_bt (own_bt (0 : Int32) x0) x1) (6 : Int32)), (own_dg (own_bt (own_bt (0 : Int32) x0) x1) (1 : Int32)), (own_dg (own_bt (own_bt (own_bt (0 : Int32) x0) x1) x2) (4 : Int32)), (own_dg (own_bt (own_bt (own_bt (own_bt (0 : Int32) x0) x1) x2) x3) (7 : Int32))] 3)) (b' := (2 : Int32)) (by decide) hw hx hby hml hown hZ S2 hzC SAl (by decide) rfl (by decide) g_sb g_t ne_sb_t ne_a_sb ne_a_t ne_al_sb ne_al_t sz_sb sz_t P Z0 OL KP V_a V_al E_sb F_value_sb F_coder_sb F_count_sb V_t E_t ?_
  clear P Z0 OL KP V_a V_al E_sb F_value_sb F_coder_sb F_count_sb V_t E_t
  intro T h8 P Z0 OL KP V_a V_al E_sb F_value_sb F_coder_sb F_count_sb V_t E_t
  replace F_count_sb : Fld Z h8 sb "java/lang/AbstractStringBuilder" "count" "I" (.int (Int32.ofNat 6)) := F_count_sb
  replace V_t : Arv Z h8 t kt .byte (Int32.ofNat 8) (own_vz [(own_dg (own_bt (0 : Int32) x0) (3 : Int32)), (own_dg (own_bt (own_bt (0 : Int32) x0) x1) (6 : Int32)), (own_dg (own_bt (own_bt (0 : Int32) x0) x1) (1 : Int32)), (own_dg (own_bt (own_bt (own_bt (0 : Int32) x0) x1) x2) (4 : Int32)), (own_dg (own_bt (own_bt (own_bt (own_bt (0 : Int32) x0) x1) x2) x3) (7 : Int32)), (own_dg (own_bt (own_bt (own_bt (own_bt (0 : Int32) x0) x1) x2) x3) (2 : Int32))] 2) (.int 0) := V_t
  show OwG p e below s _ _ _ _ T (mkF m 61 #[.val (.ref a), .val (.ref sb), .val (.int (own_bt (own_bt (own_bt (own_bt (0 : Int32) x0) x1) x2) x3)), .val (.int 2), .val (.ref a), .val (.int 5), .val (.int 3), .val (.int x3)] [])
  refine OwG.ac (mkF m 32 #[.val (.ref a), .val (.ref sb), .val (.int (own_bt (own_bt (own_bt (own_bt (0 : Int32) x0) x1) x2) x3)), .val (.int 2), .val (.ref a), .val (.int 5), .val (.int ((3 : Int32) + (1 : Int32))), .val (.int x3)] []) (fun tQ kQ => ?_) ?_
  · refine XS.iloadN P.here hx rfl (dc d2_61) rfl ?_
    refine XS.iconst P.here hx rfl (dc d2_62) ?_
    refine XS.icmpYes P.here hx rfl (pc0 := 63) (pc' := 87) rfl (dc d2_63) rfl (tlt (by decide)).1 (by decide) (by decide) ?_
    refine XS.iinc P.here hx rfl (dc d2_87) rfl (l' := #[.val (.ref a), .val (.ref sb), .val (.int (own_bt (own_bt (own_bt (own_bt (0 : Int32) x0) x1) x2) x3)), .val (.int 2), .val (.ref a), .val (.int 5), .val (.int ((3 : Int32) + (1 : Int32))), .val (.int x3)]) rfl ?_
    exact XS.goto P.here hx rfl (pc0 := 90) (pc' := 32) rfl (dc d2_90) (by decide) (by decide) kQ
  rw [show ((3 : Int32) + (1 : Int32)) = (4 : Int32) from by decide]
  show OwG p e below s _ _ _ _ T (mkF m 32 #[.val (.ref a), .val (.ref sb), .val (.int (own_bt (own_bt (own_bt (own_bt (0 : Int32) x0) x1) x2) x3)), .val (.int 2), .val (.ref a), .val (.int 5), .val (.int 4), .val (.int x3)] [])
  refine OwG.ac (mkF m 43 #[.val (.ref a), .val (.ref sb), .val (.int (own_bt (own_bt (own_bt (own_bt (0 : Int32) x0) x1) x2) x3)), .val (.int 2), .val (.ref a), .val (.int 5), .val (.int 4), .val (.int x3)] [(.int 4), (.ref a)]) (fun tQ kQ => ?_) ?_
  · refine XS.iload P.here hx rfl (dc d2_32) rfl ?_
    refine XS.iload P.here hx rfl (dc d2_34) rfl ?_
    refine XS.icmpNo P.here hx rfl (dc d2_36) rfl (tlt (by decide)).2.1 ?_
    refine XS.aload P.here hx rfl (dc d2_39) rfl rfl ?_
    exact XS.iload P.here hx rfl (dc d2_41) rfl kQ
  obtain ⟨own_cl, own_A, own_q1, own_S, own_M, own_H, own_U⟩ := id V_a
  obtain ⟨own_L, own_X, own_e, own_N⟩ := id P
  have own_Z := hZ
  have own_in := inb_of own_S (j := (4 : Int32)) ⟨(by decide), (by decide)⟩
  refine OwG.ac (mkF m 57 #[.val (.ref a), .val (.ref sb), .val (.int (own_bt (own_bt (own_bt (own_bt (0 : Int32) x0) x1) x2) x3)), .val (.int 2), .val (.ref a), .val (.int 5), .val (.int 4), .val (.int x4)] [(.int (((own_bt (own_bt (own_bt (own_bt (0 : Int32) x0) x1) x2) x3) <<< ((8 : Int32) &&& 31)) ||| (x4 &&& (255 : Int32))))]) (fun tQ kQ => ?_) ?_
  · refine own_X.baloadBytes hx (j := (4 : Int32)) (v := (.int x4)) (by rw [own_e]; exact own_A.1) (State.isArrayOf_alike own_Z.alike own_A.2.1) own_A.2.2 own_in (Has.at own_H own_in rfl) (g := (mkF m 43 #[.val (.ref a), .val (.ref sb), .val (.int (own_bt (own_bt (own_bt (own_bt (0 : Int32) x0) x1) x2) x3)), .val (.int 2), .val (.ref a), .val (.int 5), .val (.int 4), .val (.int x3)] [(.int 4), (.ref a)])) rfl rfl (dc d2_43) _ ?_
    refine XS.istore P.here hx rfl (dc d2_44) rfl (l' := #[.val (.ref a), .val (.ref sb), .val (.int (own_bt (own_bt (own_bt (own_bt (0 : Int32) x0) x1) x2) x3)), .val (.int 2), .val (.ref a), .val (.int 5), .val (.int 4), .val (.int x4)]) rfl ?_
    refine XS.iloadN P.here hx rfl (dc d2_46) rfl ?_
    refine XS.bipush P.here hx rfl (dc d2_47) ?_
    refine XS.ishl P.here hx rfl (dc d2_49) rfl ?_
    refine XS.iload P.here hx rfl (dc d2_50) rfl ?_
    refine XS.sipush P.here hx rfl (dc d2_52) ?_
    refine XS.iand P.here hx rfl (dc d2_55) rfl ?_
    exact XS.ior P.here hx rfl (dc d2_56) rfl kQ
  rw [show (((own_bt (own_bt (own_bt (own_bt (0 : Int32) x0) x1) x2) x3) <<< ((8 : Int32) &&& 31)) ||| (x4 &&& (255 : Int32))) = (own_bt (own_bt (own_bt (own_bt (own_bt (0 : Int32) x0) x1) x2) x3) x4) from rfl]
  show OwG p e below s _ _ _ _ T (mkF m 57 #[.val (.ref a), .val (.ref sb), .val (.int (own_bt (own_bt (own_bt (own_bt (0 : Int32) x0) x1) x2) x3)), .val (.int 2), .val (.ref a), .val (.int 5), .val (.int 4), .val (.int x4)] [(.int (own_bt (own_bt (own_bt (own_bt (own_bt (0 : Int32) x0) x1) x2) x3) x4))])
  refine OwG.ac (mkF m 61 #[.val (.ref a), .val (.ref sb), .val (.int (own_bt (own_bt (own_bt (own_bt (own_bt (0 : Int32) x0) x1) x2) x3) x4)), .val (.int ((2 : Int32) + (8 : Int32))), .val (.ref a), .val (.int 5), .val (.int 4), .val (.int x4)] []) (fun tQ kQ => ?_) ?_
  · refine XS.istoreN P.here hx rfl (dc d2_57) rfl (l' := #[.val (.ref a), .val (.ref sb), .val (.int (own_bt (own_bt (own_bt (own_bt (own_bt (0 : Int32) x0) x1) x2) x3) x4)), .val (.int 2), .val (.ref a), .val (.int 5), .val (.int 4), .val (.int x4)]) rfl ?_
    exact XS.iinc P.here hx rfl (dc d2_58) rfl (l' := #[.val (.ref a), .val (.ref sb), .val (.int (own_bt (own_bt (own_bt (own_bt (own_bt (0 : Int32) x0) x1) x2) x3) x4)), .val (.int ((2 : Int32) + (8 : Int32))), .val (.ref a), .val (.int 5), .val (.int 4), .val (.int x4)]) rfl kQ
  rw [show ((2 : Int32) + (8 : Int32)) = (10 : Int32) from by decide]
  show OwG p e below s _ _ _ _ T (mkF m 61 #[.val (.ref a), .val (.ref sb), .val (.int (own_bt (own_bt (own_bt (own_bt (own_bt (0 : Int32) x0) x1) x2) x3) x4)), .val (.int 10), .val (.ref a), .val (.int 5), .val (.int 4), .val (.int x4)] [])
  refine OwG.ac (mkF m 66 #[.val (.ref a), .val (.ref sb), .val (.int (own_bt (own_bt (own_bt (own_bt (own_bt (0 : Int32) x0) x1) x2) x3) x4)), .val (.int 10), .val (.ref a), .val (.int 5), .val (.int 4), .val (.int x4)] []) (fun tQ kQ => ?_) ?_
  · refine XS.iloadN P.here hx rfl (dc d2_61) rfl ?_
    refine XS.iconst P.here hx rfl (dc d2_62) ?_
    exact XS.icmpNo P.here hx rfl (dc d2_63) rfl (flt (by decide)).1 kQ
  refine own_sg (N := 8) (k := 6) (vs := (own_vz [(own_dg (own_bt (0 : Int32) x0) (3 : Int32)), (own_dg (own_bt (own_bt (0 : Int32) x0) x1) (6 : Int32)), (own_dg (own_bt (own_bt (0 : Int32) x0) x1) (1 : Int32)), (own_dg (own_bt (own_bt (own_bt (0 : Int32) x0) x1) x2) (4 : Int32)), (own_dg (own_bt (own_bt (own_bt (own_bt (0 : Int32) x0) x1) x2) x3) (7 : Int32)), (own_dg (own_bt (own_bt (own_bt (own_bt (0 : Int32) x0) x1) x2) x3) (2 : Int32))] 2)) (b' := (5 : Int32)) (by decide) hw hx hby hml hown hZ S2 hzC SAl (by decide) rfl (by decide) g_sb g_t ne_sb_t ne_a_sb ne_a_t ne_al_sb ne_al_t sz_sb sz_t P Z0 OL KP V_a V_al E_sb F_value_sb F_coder_sb F_count_sb V_t E_t ?_
  clear P Z0 OL KP V_a V_al E_sb F_value_sb F_coder_sb F_count_sb V_t E_t
  intro T h9 P Z0 OL KP V_a V_al E_sb F_value_sb F_coder_sb F_count_sb V_t E_t
  replace F_count_sb : Fld Z h9 sb "java/lang/AbstractStringBuilder" "count" "I" (.int (Int32.ofNat 7)) := F_count_sb
  replace V_t : Arv Z h9 t kt .byte (Int32.ofNat 8) (own_vz [(own_dg (own_bt (0 : Int32) x0) (3 : Int32)), (own_dg (own_bt (own_bt (0 : Int32) x0) x1) (6 : Int32)), (own_dg (own_bt (own_bt (0 : Int32) x0) x1) (1 : Int32)), (own_dg (own_bt (own_bt (own_bt (0 : Int32) x0) x1) x2) (4 : Int32)), (own_dg (own_bt (own_bt (own_bt (own_bt (0 : Int32) x0) x1) x2) x3) (7 : Int32)), (own_dg (own_bt (own_bt (own_bt (own_bt (0 : Int32) x0) x1) x2) x3) (2 : Int32)), (own_dg (own_bt (own_bt (own_bt (own_bt (own_bt (0 : Int32) x0) x1) x2) x3) x4) (5 : Int32))] 1) (.int 0) := V_t
  show OwG p e below s _ _ _ _ T (mkF m 61 #[.val (.ref a), .val (.ref sb), .val (.int (own_bt (own_bt (own_bt (own_bt (own_bt (0 : Int32) x0) x1) x2) x3) x4)), .val (.int 5), .val (.ref a), .val (.int 5), .val (.int 4), .val (.int x4)] [])
  refine OwG.ac (mkF m 66 #[.val (.ref a), .val (.ref sb), .val (.int (own_bt (own_bt (own_bt (own_bt (own_bt (0 : Int32) x0) x1) x2) x3) x4)), .val (.int 5), .val (.ref a), .val (.int 5), .val (.int 4), .val (.int x4)] []) (fun tQ kQ => ?_) ?_
  · refine XS.iloadN P.here hx rfl (dc d2_61) rfl ?_
    refine XS.iconst P.here hx rfl (dc d2_62) ?_
    exact XS.icmpNo P.here hx rfl (dc d2_63) rfl (flt (by decide)).1 kQ
  refine own_sg (N := 8) (k := 7) (vs := (own_vz [(own_dg (own_bt (0 : Int32) x0) (3 : Int32)), (own_dg (own_bt (own_bt (0 : Int32) x0) x1) (6 : Int32)), (own_dg (own_bt (own_bt (0 : Int32) x0) x1) (1 : Int32)), (own_dg (own_bt (own_bt (own_bt (0 : Int32) x0) x1) x2) (4 : Int32)), (own_dg (own_bt (own_bt (own_bt (own_bt (0 : Int32) x0) x1) x2) x3) (7 : Int32)), (own_dg (own_bt (own_bt (own_bt (own_bt (0 : Int32) x0) x1) x2) x3) (2 : Int32)), (own_dg (own_bt (own_bt (own_bt (own_bt (own_bt (0 : Int32) x0) x1) x2) x3) x4) (5 : Int32))] 1)) (b' := (0 : Int32)) (by decide) hw hx hby hml hown hZ S2 hzC SAl (by decide) rfl (by decide) g_sb g_t ne_sb_t ne_a_sb ne_a_t ne_al_sb ne_al_t sz_sb sz_t P Z0 OL KP V_a V_al E_sb F_value_sb F_coder_sb F_count_sb V_t E_t ?_
  clear P Z0 OL KP V_a V_al E_sb F_value_sb F_coder_sb F_count_sb V_t E_t
  intro T h10 P Z0 OL KP V_a V_al E_sb F_value_sb F_coder_sb F_count_sb V_t E_t
  replace F_count_sb : Fld Z h10 sb "java/lang/AbstractStringBuilder" "count" "I" (.int (Int32.ofNat 8)) := F_count_sb
  replace V_t : Arv Z h10 t kt .byte (Int32.ofNat 8) (own_vz [(own_dg (own_bt (0 : Int32) x0) (3 : Int32)), (own_dg (own_bt (own_bt (0 : Int32) x0) x1) (6 : Int32)), (own_dg (own_bt (own_bt (0 : Int32) x0) x1) (1 : Int32)), (own_dg (own_bt (own_bt (own_bt (0 : Int32) x0) x1) x2) (4 : Int32)), (own_dg (own_bt (own_bt (own_bt (own_bt (0 : Int32) x0) x1) x2) x3) (7 : Int32)), (own_dg (own_bt (own_bt (own_bt (own_bt (0 : Int32) x0) x1) x2) x3) (2 : Int32)), (own_dg (own_bt (own_bt (own_bt (own_bt (own_bt (0 : Int32) x0) x1) x2) x3) x4) (5 : Int32)), (own_dg (own_bt (own_bt (own_bt (own_bt (own_bt (0 : Int32) x0) x1) x2) x3) x4) (0 : Int32))] 0) (.int 0) := V_t
  show OwG p e below s _ _ _ _ T (mkF m 61 #[.val (.ref a), .val (.ref sb), .val (.int (own_bt (own_bt (own_bt (own_bt (own_bt (0 : Int32) x0) x1) x2) x3) x4)), .val (.int 0), .val (.ref a), .val (.int 5), .val (.int 4), .val (.int x4)] [])
  refine OwG.ac (mkF m 32 #[.val (.ref a), .val (.ref sb), .val (.int (own_bt (own_bt (own_bt (own_bt (own_bt (0 : Int32) x0) x1) x2) x3) x4)), .val (.int 0), .val (.ref a), .val (.int 5), .val (.int ((4 : Int32) + (1 : Int32))), .val (.int x4)] []) (fun tQ kQ => ?_) ?_
  · refine XS.iloadN P.here hx rfl (dc d2_61) rfl ?_
    refine XS.iconst P.here hx rfl (dc d2_62) ?_
    refine XS.icmpYes P.here hx rfl (pc0 := 63) (pc' := 87) rfl (dc d2_63) rfl (tlt (by decide)).1 (by decide) (by decide) ?_
    refine XS.iinc P.here hx rfl (dc d2_87) rfl (l' := #[.val (.ref a), .val (.ref sb), .val (.int (own_bt (own_bt (own_bt (own_bt (own_bt (0 : Int32) x0) x1) x2) x3) x4)), .val (.int 0), .val (.ref a), .val (.int 5), .val (.int ((4 : Int32) + (1 : Int32))), .val (.int x4)]) rfl ?_
    exact XS.goto P.here hx rfl (pc0 := 90) (pc' := 32) rfl (dc d2_90) (by decide) (by decide) kQ
  rw [show ((4 : Int32) + (1 : Int32)) = (5 : Int32) from by decide]
  show OwG p e below s _ _ _ _ T (mkF m 32 #[.val (.ref a), .val (.ref sb), .val (.int (own_bt (own_bt (own_bt (own_bt (own_bt (0 : Int32) x0) x1) x2) x3) x4)), .val (.int 0), .val (.ref a), .val (.int 5), .val (.int 5), .val (.int x4)] [])
  refine OwG.ac (mkF m 115 #[.val (.ref a), .val (.ref sb), .val (.int (own_bt (own_bt (own_bt (own_bt (own_bt (0 : Int32) x0) x1) x2) x3) x4)), .val (.int 0), .val (.ref a), .val (.int 5), .val (.int 5), .val (.int x4)] [(.ref sb)]) (fun tQ kQ => ?_) ?_
  · refine XS.iload P.here hx rfl (dc d2_32) rfl ?_
    refine XS.iload P.here hx rfl (dc d2_34) rfl ?_
    refine XS.icmpYes P.here hx rfl (pc0 := 36) (pc' := 93) rfl (dc d2_36) rfl (flt (by decide)).2.1 (by decide) (by decide) ?_
    refine XS.iloadN P.here hx rfl (dc d2_93) rfl ?_
    refine XS.ifYes P.here hx rfl (pc0 := 94) (pc' := 114) rfl (dc d2_94) rfl ((if0 _ _).trans (flt (by decide)).2.2.2) (by decide) (by decide) ?_
    exact XS.aloadN P.here hx rfl (dc d2_114) rfl rfl kQ
  refine P.virtual hx hZ (y := (⟨"java/lang/StringBuilder", "length", "()I"⟩ : MethodName)) hown (own_w hw 60 rfl) (own_w hw 61 rfl) (own_w hw 63 rfl) (own_w hw 62 rfl) (by decide) (OwM.back (W := 0) (rmSl l Z a0 hw sb (Int32.ofNat 8) h10 n0 Z0 E_sb F_count_sb) hZ (own_w hw 64 rfl) (own_w hw 13 rfl) (own_le rfl) (own_le rfl)) (fun _ _ _ q => q.2) E_sb rfl (by rw [hml]; rfl) (argsL := []) (rest := []) (lenOf pd___I rfl) rfl (own_le rfl) (dc d2_115) rfl (own_le rfl) (own_le rfl) fun T own_v own_L h11 own_e P own_q => ?_
  obtain ⟨⟨rfl, own_hh⟩, -⟩ := own_q
  rw [own_hh] at P
  clear own_e own_hh
  show OwG p e below s _ _ _ _ T (mkF m 118 #[.val (.ref a), .val (.ref sb), .val (.int (own_bt (own_bt (own_bt (own_bt (own_bt (0 : Int32) x0) x1) x2) x3) x4)), .val (.int 0), .val (.ref a), .val (.int 5), .val (.int 5), .val (.int x4)] [(.int (Int32.ofNat 8))])
  refine OwG.ac (mkF m 120 #[.val (.ref a), .val (.ref sb), .val (.int (own_bt (own_bt (own_bt (own_bt (own_bt (0 : Int32) x0) x1) x2) x3) x4)), .val (.int 0), .val (.ref a), .val (.int 5), .val (.int 5), .val (.int x4)] [(.int 8), (.int (Int32.ofNat 8))]) (fun tQ kQ => ?_) ?_
  · exact XS.bipush P.here hx rfl (dc d2_118) kQ
  obtain ⟨own_L, own_X, own_rest⟩ := id P
  refine OwG.ac (mkF m 135 #[.val (.ref a), .val (.ref sb), .val (.int (own_bt (own_bt (own_bt (own_bt (own_bt (0 : Int32) x0) x1) x2) x3) x4)), .val (.int 0), .val (.ref a), .val (.int 5), .val (.int 5), .val (.int x4)] [(.ref sb)]) (fun tQ kQ => ?_) ?_
  · refine Jvm.RoadKit.iremM (g := (mkF m 120 #[.val (.ref a), .val (.ref sb), .val (.int (own_bt (own_bt (own_bt (own_bt (own_bt (0 : Int32) x0) x1) x2) x3) x4)), .val (.int 0), .val (.ref a), .val (.int 5), .val (.int 5), .val (.int x4)] [(.int 8), (.int (Int32.ofNat 8))])) own_X hx rfl (dc d2_120) rfl (by decide) ?_
    refine XS.ifYes P.here hx rfl (pc0 := 121) (pc' := 134) rfl (dc d2_121) rfl ((if0 _ _).trans (teq (by decide)).1) (by decide) (by decide) ?_
    exact XS.aloadN P.here hx rfl (dc d2_134) rfl rfl kQ
  refine P.virtual hx hZ (y := (⟨"java/lang/StringBuilder", "toString", "()Ljava/lang/String;"⟩ : MethodName)) hown (own_w hw 69 rfl) (own_w hw 70 rfl) (own_w hw 72 rfl) (own_w hw 71 rfl) (by decide) (OwM.back (W := 0) (rmTs l Z a0 hw sb t kt 8 (own_vz [(own_dg (own_bt (0 : Int32) x0) (3 : Int32)), (own_dg (own_bt (own_bt (0 : Int32) x0) x1) (6 : Int32)), (own_dg (own_bt (own_bt (0 : Int32) x0) x1) (1 : Int32)), (own_dg (own_bt (own_bt (own_bt (0 : Int32) x0) x1) x2) (4 : Int32)), (own_dg (own_bt (own_bt (own_bt (own_bt (0 : Int32) x0) x1) x2) x3) (7 : Int32)), (own_dg (own_bt (own_bt (own_bt (own_bt (0 : Int32) x0) x1) x2) x3) (2 : Int32)), (own_dg (own_bt (own_bt (own_bt (own_bt (own_bt (0 : Int32) x0) x1) x2) x3) x4) (5 : Int32)), (own_dg (own_bt (own_bt (own_bt (own_bt (own_bt (0 : Int32) x0) x1) x2) x3) x4) (0 : Int32))] 0) zC h10 n0 Z0 S2 hzC OL E_sb F_value_sb F_coder_sb F_count_sb V_t E_t (by decide)) hZ (own_w hw 73 rfl) (own_w hw 13 rfl) (own_le rfl) (own_le rfl)) (fun _ _ _ q => q.2) E_sb rfl (by rw [hml]; rfl) (argsL := []) (rest := []) (lenOf pd___Ljava_lang_String_ rfl) rfl (own_le rfl) (dc d2_135) rfl (own_le rfl) (own_le rfl) fun T own_v own_L h12 own_e P own_q => ?_
  obtain ⟨⟨x, u, rfl, K, E_x, F1, F2, V_u⟩, -⟩ := own_q
  clear own_e
  replace V_a := V_a.keep K nin0
  replace V_al := V_al.keep K nin0
  replace E_sb := E_sb.keep K
  replace F_value_sb := F_value_sb.keep K nin0
  replace F_coder_sb := F_coder_sb.keep K nin0
  replace F_count_sb := F_count_sb.keep K nin0
  replace V_t := V_t.keep K nin0
  replace E_t := E_t.keep K
  replace Z0 := Nat.le_trans Z0 K.1
  replace OL := OL.keep K all0
  replace KP := KP.trans K all0
  show OwG p e below s _ _ _ _ T (mkF m 138 #[.val (.ref a), .val (.ref sb), .val (.int (own_bt (own_bt (own_bt (own_bt (own_bt (0 : Int32) x0) x1) x2) x3) x4)), .val (.int 0), .val (.ref a), .val (.int 5), .val (.int 5), .val (.int x4)] [(.ref x)])
  exact P.retR hx hlk hret rfl rfl (dc d2_138) (own_le rfl) (own_le rfl) ⟨x, u, kt, rfl, KP, E_x, F1, F2, V_u⟩
set_option maxRecDepth 65536 in
set_option maxHeartbeats 40000000 in
theorem rmE6 (l : Launch) (Z : State) (a0 : Array Value) (hw : ∀ d ∈ tables_1, d.before a0 Z = true) (a al : Addr) (ka kal : ClassId) (dal : Value) (zC : Int32) (x0 x1 x2 x3 x4 x5 : Int32) (h0 : Heap) (n0 : Nat) (Z0 : n0 ≤ h0.size) (S2 : Sta Z Z.heap "java/lang/String" "COMPACT_STRINGS" "Z" (.int zC)) (hzC : ¬ zC = 0) (OL : Old Z n0 h0) (SAl : Sta Z Z.heap "com/example/grawl/grawl/util/Base32" "ALPHABET" "[C" (.ref al)) (V_a : Arv Z h0 a ka .byte (6 : Int32) [(.int x0), (.int x1), (.int x2), (.int x3), (.int x4), (.int x5)] (.int 0)) (V_al : Arv Z h0 al kal .char (32 : Int32) own_alist dal) :
    OwM l Z (⟨"com/example/grawl/grawl/util/Base32", "encode", "([B)Ljava/lang/String;"⟩ : MethodName) prog_8_method_2_code 8 (some (.object "java/lang/String")) ({ frames := 5, cells := 4, slots := 40, locals := 84 } : Room) n0 #[(.ref a)] h0 (fun v h => ∃ (x u : Addr) (ku : ClassId), v = some (.ref x) ∧ Keep h0 h [] ∧ Exa Z h x "java/lang/String" ∧ Fld Z h x "java/lang/String" "value" "[B" (.ref u) ∧ Fld Z h x "java/lang/String" "coder" "B" (.int 0) ∧ Arv Z h u ku .byte (Int32.ofNat 16) (own_vz [(own_dg (own_bt (0 : Int32) x0) (3 : Int32)), (own_dg (own_bt (own_bt (0 : Int32) x0) x1) (6 : Int32)), (own_dg (own_bt (own_bt (0 : Int32) x0) x1) (1 : Int32)), (own_dg (own_bt (own_bt (own_bt (0 : Int32) x0) x1) x2) (4 : Int32)), (own_dg (own_bt (own_bt (own_bt (own_bt (0 : Int32) x0) x1) x2) x3) (7 : Int32)), (own_dg (own_bt (own_bt (own_bt (own_bt (0 : Int32) x0) x1) x2) x3) (2 : Int32)), (own_dg (own_bt (own_bt (own_bt (own_bt (own_bt (0 : Int32) x0) x1) x2) x3) x4) (5 : Int32)), (own_dg (own_bt (own_bt (own_bt (own_bt (own_bt (0 : Int32) x0) x1) x2) x3) x4) (0 : Int32)), (own_dg (own_bt (own_bt (own_bt (own_bt (own_bt (own_bt (0 : Int32) x0) x1) x2) x3) x4) x5) (3 : Int32)), (own_dl (own_bt (own_bt (own_bt (own_bt (own_bt (own_bt (0 : Int32) x0) x1) x2) x3) x4) x5) (3 : Int32)), (61 : Int32), (61 : Int32), (61 : Int32), (61 : Int32), (61 : Int32), (61 : Int32)] 0) (.int 0)) := by
  refine OwM.mk (plainFor_of_name pn_com_example_grawl_grawl_util_Base32) ?_
  intro p e s m below meth cD T hx hby hml hown hnm hret hlk hZ P
  have dc := @Jvm.hb cD _ hby
  refine OwG.cast (show entryFrame m #[(.ref a)] 8 = mkF m 0 #[.val (.ref a), .unset, .unset, .unset, .unset, .unset, .unset, .unset] [] from by first | (simp [entryFrame, mkF, argsToLocals, Value.category]; done) | rfl) ?_
  have KP := Keep.refl h0 []
  refine P.newO hx hZ hown (own_w hw 11 rfl) (own_w hw 12 rfl) (own_w hw 13 rfl) rfl (dc d2_0) (own_le rfl) (own_le rfl) fun T h1 sb gsb P E A D => ?_
  have ne_a_sb : a ≠ sb := Nat.ne_of_lt (Nat.lt_of_lt_of_le V_a.lt (Nat.le_of_eq gsb.symm))
  have ne_sb_a := Ne.symm ne_a_sb
  have ne_al_sb : al ≠ sb := Nat.ne_of_lt (Nat.lt_of_lt_of_le V_al.lt (Nat.le_of_eq gsb.symm))
  have ne_sb_al := Ne.symm ne_al_sb
  have g_sb : n0 ≤ sb := Nat.le_trans Z0 (Nat.le_of_eq gsb.symm)
  have sz_sb : h0.size ≤ sb := Nat.le_trans KP.1 (Nat.le_of_eq gsb.symm)
  replace V_a := V_a.ext E
  replace V_al := V_al.ext E
  replace Z0 := Nat.le_trans Z0 E.1
  replace OL := OL.ext E
  replace KP := KP.ext E
  have E_sb := A
  have F_value_sb : Fld Z h1 sb "java/lang/AbstractStringBuilder" "value" "[B" .null := D (Or.inl (own_w hw 29 rfl)) (ty := (.array .byte)) (by decide)
  have F_coder_sb : Fld Z h1 sb "java/lang/AbstractStringBuilder" "coder" "B" (.int 0) := D (Or.inl (own_w hw 31 rfl)) (ty := .byte) (by decide)
  have F_count_sb : Fld Z h1 sb "java/lang/AbstractStringBuilder" "count" "I" (.int 0) := D (Or.inl (own_w hw 45 rfl)) (ty := .int) (by decide)
  clear A D E
  show OwG p e below s _ _ _ _ T (mkF m 3 #[.val (.ref a), .unset, .unset, .unset, .unset, .unset, .unset, .unset] [(.ref sb)])
  refine OwG.ac (mkF m 5 #[.val (.ref a), .unset, .unset, .unset, .unset, .unset, .unset, .unset] [(.ref a), (.ref sb), (.ref sb)]) (fun tQ kQ => ?_) ?_
  · refine XS.dup P.here hx rfl (dc d2_3) rfl rfl ?_
    exact XS.aloadN P.here hx rfl (dc d2_4) rfl rfl kQ
  obtain ⟨own_cl, own_A, own_q1, own_S, own_M, own_H, own_U⟩ := id V_a
  obtain ⟨own_L, own_X, own_e, own_N⟩ := id P
  have own_Z := hZ
  refine OwG.ac (mkF m 13 #[.val (.ref a), .unset, .unset, .unset, .unset, .unset, .unset, .unset] [(.int ((((6 : Int32) + (4 : Int32)) / (5 : Int32)) * (8 : Int32))), (.ref sb), (.ref sb)]) (fun tQ kQ => ?_) ?_
  · refine own_X.arraylength hx (by rw [own_e]; exact own_A.1) (State.isArrayOf_alike own_Z.alike own_A.2.1) (g := (mkF m 5 #[.val (.ref a), .unset, .unset, .unset, .unset, .unset, .unset, .unset] [(.ref a), (.ref sb), (.ref sb)])) rfl rfl (dc d2_5) _ ?_
    rw [len_of own_S own_M]
    refine XS.iconst P.here hx rfl (dc d2_6) ?_
    refine XS.iadd P.here hx rfl (dc d2_7) rfl ?_
    refine XS.iconst P.here hx rfl (dc d2_8) ?_
    refine XS.idiv P.here hx rfl (dc d2_9) rfl (by decide) ?_
    refine XS.bipush P.here hx rfl (dc d2_10) ?_
    exact XS.imul P.here hx rfl (dc d2_12) rfl kQ
  rw [show ((((6 : Int32) + (4 : Int32)) / (5 : Int32)) * (8 : Int32)) = (Int32.ofNat 16) from by decide]
  show OwG p e below s _ _ _ _ T (mkF m 13 #[.val (.ref a), .unset, .unset, .unset, .unset, .unset, .unset, .unset] [(.int (Int32.ofNat 16)), (.ref sb), (.ref sb)])
  refine P.special hx hZ (y := (⟨"java/lang/StringBuilder", "<init>", "(I)V"⟩ : MethodName)) rfl hown (own_w hw 14 rfl) (own_w hw 15 rfl) (own_w hw 16 rfl) (by decide) (OwM.back (W := 1) (rmSi l Z a0 hw sb 16 zC h1 n0 Z0 S2 hzC OL (by decide) g_sb E_sb F_value_sb F_coder_sb F_count_sb) hZ (own_w hw 16 rfl) (own_w hw 13 rfl) (own_le rfl) (own_le rfl)) (fun _ _ _ q => q.2) rfl (by rw [hml]; rfl) (a := sb) (argsL := [(.int (Int32.ofNat 16))]) (rest := [(.ref sb)]) (lenOf pd__I_V rfl) rfl (own_le rfl) (dc d2_13) rfl (own_le rfl) (own_le rfl) fun T own_v own_L h2 own_e P own_q => ?_
  obtain ⟨⟨rfl, K, t, kt, gt, F_value_sb', F_coder_sb', F_count_sb', V_t, E_t⟩, -⟩ := own_q
  show OwG p e below s _ _ _ _ T (mkF m 16 #[.val (.ref a), .unset, .unset, .unset, .unset, .unset, .unset, .unset] [(.ref sb)])
  clear own_e
  have ne_a_t : a ≠ t := Nat.ne_of_lt (Nat.lt_of_lt_of_le V_a.lt (Nat.le_of_eq gt.symm))
  have ne_t_a := Ne.symm ne_a_t
  have ne_al_t : al ≠ t := Nat.ne_of_lt (Nat.lt_of_lt_of_le V_al.lt (Nat.le_of_eq gt.symm))
  have ne_t_al := Ne.symm ne_al_t
  have ne_sb_t : sb ≠ t := Nat.ne_of_lt (Nat.lt_of_lt_of_le E_sb.lt (Nat.le_of_eq gt.symm))
  have ne_t_sb := Ne.symm ne_sb_t
  have g_t : n0 ≤ t := Nat.le_trans Z0 (Nat.le_of_eq gt.symm)
  have sz_t : h0.size ≤ t := Nat.le_trans KP.1 (Nat.le_of_eq gt.symm)
  replace V_a := V_a.keep K (ninS ne_a_sb nin0)
  replace V_al := V_al.keep K (ninS ne_al_sb nin0)
  replace E_sb := E_sb.keep K
  replace Z0 := Nat.le_trans Z0 K.1
  replace OL := OL.keep K (allS g_sb all0)
  replace KP := KP.trans K (allS (Or.inr sz_sb) all0)
  clear F_value_sb
  have F_value_sb := F_value_sb'
  clear F_value_sb'
  clear F_coder_sb
  have F_coder_sb := F_coder_sb'
  clear F_coder_sb'
  clear F_count_sb
  have F_count_sb := F_count_sb'
  clear F_count_sb'
  replace F_count_sb : Fld Z h2 sb "java/lang/AbstractStringBuilder" "count" "I" (.int (Int32.ofNat 0)) := F_count_sb
  replace V_t : Arv Z h2 t kt .byte (Int32.ofNat 16) (own_vz [] 16) (.int 0) := V_t
  refine OwG.ac (mkF m 26 #[.val (.ref a), .val (.ref sb), .val (.int 0), .val (.int 0), .val (.ref a), .unset, .unset, .unset] [(.ref a)]) (fun tQ kQ => ?_) ?_
  · refine XS.astoreN P.here hx rfl (dc d2_16) rfl rfl (l' := #[.val (.ref a), .val (.ref sb), .unset, .unset, .unset, .unset, .unset, .unset]) rfl ?_
    refine XS.iconst P.here hx rfl (dc d2_17) ?_
    refine XS.istoreN P.here hx rfl (dc d2_18) rfl (l' := #[.val (.ref a), .val (.ref sb), .val (.int 0), .unset, .unset, .unset, .unset, .unset]) rfl ?_
    refine XS.iconst P.here hx rfl (dc d2_19) ?_
    refine XS.istoreN P.here hx rfl (dc d2_20) rfl (l' := #[.val (.ref a), .val (.ref sb), .val (.int 0), .val (.int 0), .unset, .unset, .unset, .unset]) rfl ?_
    refine XS.aloadN P.here hx rfl (dc d2_21) rfl rfl ?_
    refine XS.astore P.here hx rfl (dc d2_22) rfl rfl (l' := #[.val (.ref a), .val (.ref sb), .val (.int 0), .val (.int 0), .val (.ref a), .unset, .unset, .unset]) rfl ?_
    exact XS.aload P.here hx rfl (dc d2_24) rfl rfl kQ
  obtain ⟨own_cl, own_A, own_q1, own_S, own_M, own_H, own_U⟩ := id V_a
  obtain ⟨own_L, own_X, own_e, own_N⟩ := id P
  have own_Z := hZ
  refine OwG.ac (mkF m 32 #[.val (.ref a), .val (.ref sb), .val (.int 0), .val (.int 0), .val (.ref a), .val (.int 6), .val (.int 0), .unset] []) (fun tQ kQ => ?_) ?_
  · refine own_X.arraylength hx (by rw [own_e]; exact own_A.1) (State.isArrayOf_alike own_Z.alike own_A.2.1) (g := (mkF m 26 #[.val (.ref a), .val (.ref sb), .val (.int 0), .val (.int 0), .val (.ref a), .unset, .unset, .unset] [(.ref a)])) rfl rfl (dc d2_26) _ ?_
    rw [len_of own_S own_M]
    refine XS.istore P.here hx rfl (dc d2_27) rfl (l' := #[.val (.ref a), .val (.ref sb), .val (.int 0), .val (.int 0), .val (.ref a), .val (.int 6), .unset, .unset]) rfl ?_
    refine XS.iconst P.here hx rfl (dc d2_29) ?_
    exact XS.istore P.here hx rfl (dc d2_30) rfl (l' := #[.val (.ref a), .val (.ref sb), .val (.int 0), .val (.int 0), .val (.ref a), .val (.int 6), .val (.int 0), .unset]) rfl kQ
  replace P := P.wide (k' := 2) (n' := 20) (by decide) (by decide)
  refine OwG.ac (mkF m 43 #[.val (.ref a), .val (.ref sb), .val (.int 0), .val (.int 0), .val (.ref a), .val (.int 6), .val (.int 0), .unset] [(.int 0), (.ref a)]) (fun tQ kQ => ?_) ?_
  · refine XS.iload P.here hx rfl (dc d2_32) rfl ?_
    refine XS.iload P.here hx rfl (dc d2_34) rfl ?_
    refine XS.icmpNo P.here hx rfl (dc d2_36) rfl (tlt (by decide)).2.1 ?_
    refine XS.aload P.here hx rfl (dc d2_39) rfl rfl ?_
    exact XS.iload P.here hx rfl (dc d2_41) rfl kQ
  obtain ⟨own_cl, own_A, own_q1, own_S, own_M, own_H, own_U⟩ := id V_a
  obtain ⟨own_L, own_X, own_e, own_N⟩ := id P
  have own_Z := hZ
  have own_in := inb_of own_S (j := (0 : Int32)) ⟨(by decide), (by decide)⟩
  refine OwG.ac (mkF m 57 #[.val (.ref a), .val (.ref sb), .val (.int 0), .val (.int 0), .val (.ref a), .val (.int 6), .val (.int 0), .val (.int x0)] [(.int (((0 : Int32) <<< ((8 : Int32) &&& 31)) ||| (x0 &&& (255 : Int32))))]) (fun tQ kQ => ?_) ?_
  · refine own_X.baloadBytes hx (j := (0 : Int32)) (v := (.int x0)) (by rw [own_e]; exact own_A.1) (State.isArrayOf_alike own_Z.alike own_A.2.1) own_A.2.2 own_in (Has.at own_H own_in rfl) (g := (mkF m 43 #[.val (.ref a), .val (.ref sb), .val (.int 0), .val (.int 0), .val (.ref a), .val (.int 6), .val (.int 0), .unset] [(.int 0), (.ref a)])) rfl rfl (dc d2_43) _ ?_
    refine XS.istore P.here hx rfl (dc d2_44) rfl (l' := #[.val (.ref a), .val (.ref sb), .val (.int 0), .val (.int 0), .val (.ref a), .val (.int 6), .val (.int 0), .val (.int x0)]) rfl ?_
    refine XS.iloadN P.here hx rfl (dc d2_46) rfl ?_
    refine XS.bipush P.here hx rfl (dc d2_47) ?_
    refine XS.ishl P.here hx rfl (dc d2_49) rfl ?_
    refine XS.iload P.here hx rfl (dc d2_50) rfl ?_
    refine XS.sipush P.here hx rfl (dc d2_52) ?_
    refine XS.iand P.here hx rfl (dc d2_55) rfl ?_
    exact XS.ior P.here hx rfl (dc d2_56) rfl kQ
  rw [show (((0 : Int32) <<< ((8 : Int32) &&& 31)) ||| (x0 &&& (255 : Int32))) = (own_bt (0 : Int32) x0) from rfl]
  show OwG p e below s _ _ _ _ T (mkF m 57 #[.val (.ref a), .val (.ref sb), .val (.int 0), .val (.int 0), .val (.ref a), .val (.int 6), .val (.int 0), .val (.int x0)] [(.int (own_bt (0 : Int32) x0))])
  refine OwG.ac (mkF m 61 #[.val (.ref a), .val (.ref sb), .val (.int (own_bt (0 : Int32) x0)), .val (.int ((0 : Int32) + (8 : Int32))), .val (.ref a), .val (.int 6), .val (.int 0), .val (.int x0)] []) (fun tQ kQ => ?_) ?_
  · refine XS.istoreN P.here hx rfl (dc d2_57) rfl (l' := #[.val (.ref a), .val (.ref sb), .val (.int (own_bt (0 : Int32) x0)), .val (.int 0), .val (.ref a), .val (.int 6), .val (.int 0), .val (.int x0)]) rfl ?_
    exact XS.iinc P.here hx rfl (dc d2_58) rfl (l' := #[.val (.ref a), .val (.ref sb), .val (.int (own_bt (0 : Int32) x0)), .val (.int ((0 : Int32) + (8 : Int32))), .val (.ref a), .val (.int 6), .val (.int 0), .val (.int x0)]) rfl kQ
  rw [show ((0 : Int32) + (8 : Int32)) = (8 : Int32) from by decide]
  show OwG p e below s _ _ _ _ T (mkF m 61 #[.val (.ref a), .val (.ref sb), .val (.int (own_bt (0 : Int32) x0)), .val (.int 8), .val (.ref a), .val (.int 6), .val (.int 0), .val (.int x0)] [])
  refine OwG.ac (mkF m 66 #[.val (.ref a), .val (.ref sb), .val (.int (own_bt (0 : Int32) x0)), .val (.int 8), .val (.ref a), .val (.int 6), .val (.int 0), .val (.int x0)] []) (fun tQ kQ => ?_) ?_
  · refine XS.iloadN P.here hx rfl (dc d2_61) rfl ?_
    refine XS.iconst P.here hx rfl (dc d2_62) ?_
    exact XS.icmpNo P.here hx rfl (dc d2_63) rfl (flt (by decide)).1 kQ
  refine own_sg (N := 16) (k := 0) (vs := (own_vz [] 16)) (b' := (3 : Int32)) (by decide) hw hx hby hml hown hZ S2 hzC SAl (by decide) rfl (by decide) g_sb g_t ne_sb_t ne_a_sb ne_a_t ne_al_sb ne_al_t sz_sb sz_t P Z0 OL KP V_a V_al E_sb F_value_sb F_coder_sb F_count_sb V_t E_t ?_
  clear P Z0 OL KP V_a V_al E_sb F_value_sb F_coder_sb F_count_sb V_t E_t
  intro T h3 P Z0 OL KP V_a V_al E_sb F_value_sb F_coder_sb F_count_sb V_t E_t
  replace F_count_sb : Fld Z h3 sb "java/lang/AbstractStringBuilder" "count" "I" (.int (Int32.ofNat 1)) := F_count_sb
  replace V_t : Arv Z h3 t kt .byte (Int32.ofNat 16) (own_vz [(own_dg (own_bt (0 : Int32) x0) (3 : Int32))] 15) (.int 0) := V_t
  show OwG p e below s _ _ _ _ T (mkF m 61 #[.val (.ref a), .val (.ref sb), .val (.int (own_bt (0 : Int32) x0)), .val (.int 3), .val (.ref a), .val (.int 6), .val (.int 0), .val (.int x0)] [])
  refine OwG.ac (mkF m 32 #[.val (.ref a), .val (.ref sb), .val (.int (own_bt (0 : Int32) x0)), .val (.int 3), .val (.ref a), .val (.int 6), .val (.int ((0 : Int32) + (1 : Int32))), .val (.int x0)] []) (fun tQ kQ => ?_) ?_
  · refine XS.iloadN P.here hx rfl (dc d2_61) rfl ?_
    refine XS.iconst P.here hx rfl (dc d2_62) ?_
    refine XS.icmpYes P.here hx rfl (pc0 := 63) (pc' := 87) rfl (dc d2_63) rfl (tlt (by decide)).1 (by decide) (by decide) ?_
    refine XS.iinc P.here hx rfl (dc d2_87) rfl (l' := #[.val (.ref a), .val (.ref sb), .val (.int (own_bt (0 : Int32) x0)), .val (.int 3), .val (.ref a), .val (.int 6), .val (.int ((0 : Int32) + (1 : Int32))), .val (.int x0)]) rfl ?_
    exact XS.goto P.here hx rfl (pc0 := 90) (pc' := 32) rfl (dc d2_90) (by decide) (by decide) kQ
  rw [show ((0 : Int32) + (1 : Int32)) = (1 : Int32) from by decide]
  show OwG p e below s _ _ _ _ T (mkF m 32 #[.val (.ref a), .val (.ref sb), .val (.int (own_bt (0 : Int32) x0)), .val (.int 3), .val (.ref a), .val (.int 6), .val (.int 1), .val (.int x0)] [])
  refine OwG.ac (mkF m 43 #[.val (.ref a), .val (.ref sb), .val (.int (own_bt (0 : Int32) x0)), .val (.int 3), .val (.ref a), .val (.int 6), .val (.int 1), .val (.int x0)] [(.int 1), (.ref a)]) (fun tQ kQ => ?_) ?_
  · refine XS.iload P.here hx rfl (dc d2_32) rfl ?_
    refine XS.iload P.here hx rfl (dc d2_34) rfl ?_
    refine XS.icmpNo P.here hx rfl (dc d2_36) rfl (tlt (by decide)).2.1 ?_
    refine XS.aload P.here hx rfl (dc d2_39) rfl rfl ?_
    exact XS.iload P.here hx rfl (dc d2_41) rfl kQ
  obtain ⟨own_cl, own_A, own_q1, own_S, own_M, own_H, own_U⟩ := id V_a
  obtain ⟨own_L, own_X, own_e, own_N⟩ := id P
  have own_Z := hZ
  have own_in := inb_of own_S (j := (1 : Int32)) ⟨(by decide), (by decide)⟩
  refine OwG.ac (mkF m 57 #[.val (.ref a), .val (.ref sb), .val (.int (own_bt (0 : Int32) x0)), .val (.int 3), .val (.ref a), .val (.int 6), .val (.int 1), .val (.int x1)] [(.int (((own_bt (0 : Int32) x0) <<< ((8 : Int32) &&& 31)) ||| (x1 &&& (255 : Int32))))]) (fun tQ kQ => ?_) ?_
  · refine own_X.baloadBytes hx (j := (1 : Int32)) (v := (.int x1)) (by rw [own_e]; exact own_A.1) (State.isArrayOf_alike own_Z.alike own_A.2.1) own_A.2.2 own_in (Has.at own_H own_in rfl) (g := (mkF m 43 #[.val (.ref a), .val (.ref sb), .val (.int (own_bt (0 : Int32) x0)), .val (.int 3), .val (.ref a), .val (.int 6), .val (.int 1), .val (.int x0)] [(.int 1), (.ref a)])) rfl rfl (dc d2_43) _ ?_
    refine XS.istore P.here hx rfl (dc d2_44) rfl (l' := #[.val (.ref a), .val (.ref sb), .val (.int (own_bt (0 : Int32) x0)), .val (.int 3), .val (.ref a), .val (.int 6), .val (.int 1), .val (.int x1)]) rfl ?_
    refine XS.iloadN P.here hx rfl (dc d2_46) rfl ?_
    refine XS.bipush P.here hx rfl (dc d2_47) ?_
    refine XS.ishl P.here hx rfl (dc d2_49) rfl ?_
    refine XS.iload P.here hx rfl (dc d2_50) rfl ?_
    refine XS.sipush P.here hx rfl (dc d2_52) ?_
    refine XS.iand P.here hx rfl (dc d2_55) rfl ?_
    exact XS.ior P.here hx rfl (dc d2_56) rfl kQ
  rw [show (((own_bt (0 : Int32) x0) <<< ((8 : Int32) &&& 31)) ||| (x1 &&& (255 : Int32))) = (own_bt (own_bt (0 : Int32) x0) x1) from rfl]
  show OwG p e below s _ _ _ _ T (mkF m 57 #[.val (.ref a), .val (.ref sb), .val (.int (own_bt (0 : Int32) x0)), .val (.int 3), .val (.ref a), .val (.int 6), .val (.int 1), .val (.int x1)] [(.int (own_bt (own_bt (0 : Int32) x0) x1))])
  refine OwG.ac (mkF m 61 #[.val (.ref a), .val (.ref sb), .val (.int (own_bt (own_bt (0 : Int32) x0) x1)), .val (.int ((3 : Int32) + (8 : Int32))), .val (.ref a), .val (.int 6), .val (.int 1), .val (.int x1)] []) (fun tQ kQ => ?_) ?_
  · refine XS.istoreN P.here hx rfl (dc d2_57) rfl (l' := #[.val (.ref a), .val (.ref sb), .val (.int (own_bt (own_bt (0 : Int32) x0) x1)), .val (.int 3), .val (.ref a), .val (.int 6), .val (.int 1), .val (.int x1)]) rfl ?_
    exact XS.iinc P.here hx rfl (dc d2_58) rfl (l' := #[.val (.ref a), .val (.ref sb), .val (.int (own_bt (own_bt (0 : Int32) x0) x1)), .val (.int ((3 : Int32) + (8 : Int32))), .val (.ref a), .val (.int 6), .val (.int 1), .val (.int x1)]) rfl kQ
  rw [show ((3 : Int32) + (8 : Int32)) = (11 : Int32) from by decide]
  show OwG p e below s _ _ _ _ T (mkF m 61 #[.val (.ref a), .val (.ref sb), .val (.int (own_bt (own_bt (0 : Int32) x0) x1)), .val (.int 11), .val (.ref a), .val (.int 6), .val (.int 1), .val (.int x1)] [])
  refine OwG.ac (mkF m 66 #[.val (.ref a), .val (.ref sb), .val (.int (own_bt (own_bt (0 : Int32) x0) x1)), .val (.int 11), .val (.ref a), .val (.int 6), .val (.int 1), .val (.int x1)] []) (fun tQ kQ => ?_) ?_
  · refine XS.iloadN P.here hx rfl (dc d2_61) rfl ?_
    refine XS.iconst P.here hx rfl (dc d2_62) ?_
    exact XS.icmpNo P.here hx rfl (dc d2_63) rfl (flt (by decide)).1 kQ
  refine own_sg (N := 16) (k := 1) (vs := (own_vz [(own_dg (own_bt (0 : Int32) x0) (3 : Int32))] 15)) (b' := (6 : Int32)) (by decide) hw hx hby hml hown hZ S2 hzC SAl (by decide) rfl (by decide) g_sb g_t ne_sb_t ne_a_sb ne_a_t ne_al_sb ne_al_t sz_sb sz_t P Z0 OL KP V_a V_al E_sb F_value_sb F_coder_sb F_count_sb V_t E_t ?_
  clear P Z0 OL KP V_a V_al E_sb F_value_sb F_coder_sb F_count_sb V_t E_t
  intro T h4 P Z0 OL KP V_a V_al E_sb F_value_sb F_coder_sb F_count_sb V_t E_t
  replace F_count_sb : Fld Z h4 sb "java/lang/AbstractStringBuilder" "count" "I" (.int (Int32.ofNat 2)) := F_count_sb
  replace V_t : Arv Z h4 t kt .byte (Int32.ofNat 16) (own_vz [(own_dg (own_bt (0 : Int32) x0) (3 : Int32)), (own_dg (own_bt (own_bt (0 : Int32) x0) x1) (6 : Int32))] 14) (.int 0) := V_t
  show OwG p e below s _ _ _ _ T (mkF m 61 #[.val (.ref a), .val (.ref sb), .val (.int (own_bt (own_bt (0 : Int32) x0) x1)), .val (.int 6), .val (.ref a), .val (.int 6), .val (.int 1), .val (.int x1)] [])
  refine OwG.ac (mkF m 66 #[.val (.ref a), .val (.ref sb), .val (.int (own_bt (own_bt (0 : Int32) x0) x1)), .val (.int 6), .val (.ref a), .val (.int 6), .val (.int 1), .val (.int x1)] []) (fun tQ kQ => ?_) ?_
  · refine XS.iloadN P.here hx rfl (dc d2_61) rfl ?_
    refine XS.iconst P.here hx rfl (dc d2_62) ?_
    exact XS.icmpNo P.here hx rfl (dc d2_63) rfl (flt (by decide)).1 kQ
  refine own_sg (N := 16) (k := 2) (vs := (own_vz [(own_dg (own_bt (0 : Int32) x0) (3 : Int32)), (own_dg (own_bt (own_bt (0 : Int32) x0) x1) (6 : Int32))] 14)) (b' := (1 : Int32)) (by decide) hw hx hby hml hown hZ S2 hzC SAl (by decide) rfl (by decide) g_sb g_t ne_sb_t ne_a_sb ne_a_t ne_al_sb ne_al_t sz_sb sz_t P Z0 OL KP V_a V_al E_sb F_value_sb F_coder_sb F_count_sb V_t E_t ?_
  clear P Z0 OL KP V_a V_al E_sb F_value_sb F_coder_sb F_count_sb V_t E_t
  intro T h5 P Z0 OL KP V_a V_al E_sb F_value_sb F_coder_sb F_count_sb V_t E_t
  replace F_count_sb : Fld Z h5 sb "java/lang/AbstractStringBuilder" "count" "I" (.int (Int32.ofNat 3)) := F_count_sb
  replace V_t : Arv Z h5 t kt .byte (Int32.ofNat 16) (own_vz [(own_dg (own_bt (0 : Int32) x0) (3 : Int32)), (own_dg (own_bt (own_bt (0 : Int32) x0) x1) (6 : Int32)), (own_dg (own_bt (own_bt (0 : Int32) x0) x1) (1 : Int32))] 13) (.int 0) := V_t
  show OwG p e below s _ _ _ _ T (mkF m 61 #[.val (.ref a), .val (.ref sb), .val (.int (own_bt (own_bt (0 : Int32) x0) x1)), .val (.int 1), .val (.ref a), .val (.int 6), .val (.int 1), .val (.int x1)] [])
  refine OwG.ac (mkF m 32 #[.val (.ref a), .val (.ref sb), .val (.int (own_bt (own_bt (0 : Int32) x0) x1)), .val (.int 1), .val (.ref a), .val (.int 6), .val (.int ((1 : Int32) + (1 : Int32))), .val (.int x1)] []) (fun tQ kQ => ?_) ?_
  · refine XS.iloadN P.here hx rfl (dc d2_61) rfl ?_
    refine XS.iconst P.here hx rfl (dc d2_62) ?_
    refine XS.icmpYes P.here hx rfl (pc0 := 63) (pc' := 87) rfl (dc d2_63) rfl (tlt (by decide)).1 (by decide) (by decide) ?_
    refine XS.iinc P.here hx rfl (dc d2_87) rfl (l' := #[.val (.ref a), .val (.ref sb), .val (.int (own_bt (own_bt (0 : Int32) x0) x1)), .val (.int 1), .val (.ref a), .val (.int 6), .val (.int ((1 : Int32) + (1 : Int32))), .val (.int x1)]) rfl ?_
    exact XS.goto P.here hx rfl (pc0 := 90) (pc' := 32) rfl (dc d2_90) (by decide) (by decide) kQ
  rw [show ((1 : Int32) + (1 : Int32)) = (2 : Int32) from by decide]
  show OwG p e below s _ _ _ _ T (mkF m 32 #[.val (.ref a), .val (.ref sb), .val (.int (own_bt (own_bt (0 : Int32) x0) x1)), .val (.int 1), .val (.ref a), .val (.int 6), .val (.int 2), .val (.int x1)] [])
  refine OwG.ac (mkF m 43 #[.val (.ref a), .val (.ref sb), .val (.int (own_bt (own_bt (0 : Int32) x0) x1)), .val (.int 1), .val (.ref a), .val (.int 6), .val (.int 2), .val (.int x1)] [(.int 2), (.ref a)]) (fun tQ kQ => ?_) ?_
  · refine XS.iload P.here hx rfl (dc d2_32) rfl ?_
    refine XS.iload P.here hx rfl (dc d2_34) rfl ?_
    refine XS.icmpNo P.here hx rfl (dc d2_36) rfl (tlt (by decide)).2.1 ?_
    refine XS.aload P.here hx rfl (dc d2_39) rfl rfl ?_
    exact XS.iload P.here hx rfl (dc d2_41) rfl kQ
  obtain ⟨own_cl, own_A, own_q1, own_S, own_M, own_H, own_U⟩ := id V_a
  obtain ⟨own_L, own_X, own_e, own_N⟩ := id P
  have own_Z := hZ
  have own_in := inb_of own_S (j := (2 : Int32)) ⟨(by decide), (by decide)⟩
  refine OwG.ac (mkF m 57 #[.val (.ref a), .val (.ref sb), .val (.int (own_bt (own_bt (0 : Int32) x0) x1)), .val (.int 1), .val (.ref a), .val (.int 6), .val (.int 2), .val (.int x2)] [(.int (((own_bt (own_bt (0 : Int32) x0) x1) <<< ((8 : Int32) &&& 31)) ||| (x2 &&& (255 : Int32))))]) (fun tQ kQ => ?_) ?_
  · refine own_X.baloadBytes hx (j := (2 : Int32)) (v := (.int x2)) (by rw [own_e]; exact own_A.1) (State.isArrayOf_alike own_Z.alike own_A.2.1) own_A.2.2 own_in (Has.at own_H own_in rfl) (g := (mkF m 43 #[.val (.ref a), .val (.ref sb), .val (.int (own_bt (own_bt (0 : Int32) x0) x1)), .val (.int 1), .val (.ref a), .val (.int 6), .val (.int 2), .val (.int x1)] [(.int 2), (.ref a)])) rfl rfl (dc d2_43) _ ?_
    refine XS.istore P.here hx rfl (dc d2_44) rfl (l' := #[.val (.ref a), .val (.ref sb), .val (.int (own_bt (own_bt (0 : Int32) x0) x1)), .val (.int 1), .val (.ref a), .val (.int 6), .val (.int 2), .val (.int x2)]) rfl ?_
    refine XS.iloadN P.here hx rfl (dc d2_46) rfl ?_
    refine XS.bipush P.here hx rfl (dc d2_47) ?_
    refine XS.ishl P.here hx rfl (dc d2_49) rfl ?_
    refine XS.iload P.here hx rfl (dc d2_50) rfl ?_
    refine XS.sipush P.here hx rfl (dc d2_52) ?_
    refine XS.iand P.here hx rfl (dc d2_55) rfl ?_
    exact XS.ior P.here hx rfl (dc d2_56) rfl kQ
  rw [show (((own_bt (own_bt (0 : Int32) x0) x1) <<< ((8 : Int32) &&& 31)) ||| (x2 &&& (255 : Int32))) = (own_bt (own_bt (own_bt (0 : Int32) x0) x1) x2) from rfl]
  show OwG p e below s _ _ _ _ T (mkF m 57 #[.val (.ref a), .val (.ref sb), .val (.int (own_bt (own_bt (0 : Int32) x0) x1)), .val (.int 1), .val (.ref a), .val (.int 6), .val (.int 2), .val (.int x2)] [(.int (own_bt (own_bt (own_bt (0 : Int32) x0) x1) x2))])
  refine OwG.ac (mkF m 61 #[.val (.ref a), .val (.ref sb), .val (.int (own_bt (own_bt (own_bt (0 : Int32) x0) x1) x2)), .val (.int ((1 : Int32) + (8 : Int32))), .val (.ref a), .val (.int 6), .val (.int 2), .val (.int x2)] []) (fun tQ kQ => ?_) ?_
  · refine XS.istoreN P.here hx rfl (dc d2_57) rfl (l' := #[.val (.ref a), .val (.ref sb), .val (.int (own_bt (own_bt (own_bt (0 : Int32) x0) x1) x2)), .val (.int 1), .val (.ref a), .val (.int 6), .val (.int 2), .val (.int x2)]) rfl ?_
    exact XS.iinc P.here hx rfl (dc d2_58) rfl (l' := #[.val (.ref a), .val (.ref sb), .val (.int (own_bt (own_bt (own_bt (0 : Int32) x0) x1) x2)), .val (.int ((1 : Int32) + (8 : Int32))), .val (.ref a), .val (.int 6), .val (.int 2), .val (.int x2)]) rfl kQ
  rw [show ((1 : Int32) + (8 : Int32)) = (9 : Int32) from by decide]
  show OwG p e below s _ _ _ _ T (mkF m 61 #[.val (.ref a), .val (.ref sb), .val (.int (own_bt (own_bt (own_bt (0 : Int32) x0) x1) x2)), .val (.int 9), .val (.ref a), .val (.int 6), .val (.int 2), .val (.int x2)] [])
  refine OwG.ac (mkF m 66 #[.val (.ref a), .val (.ref sb), .val (.int (own_bt (own_bt (own_bt (0 : Int32) x0) x1) x2)), .val (.int 9), .val (.ref a), .val (.int 6), .val (.int 2), .val (.int x2)] []) (fun tQ kQ => ?_) ?_
  · refine XS.iloadN P.here hx rfl (dc d2_61) rfl ?_
    refine XS.iconst P.here hx rfl (dc d2_62) ?_
    exact XS.icmpNo P.here hx rfl (dc d2_63) rfl (flt (by decide)).1 kQ
  refine own_sg (N := 16) (k := 3) (vs := (own_vz [(own_dg (own_bt (0 : Int32) x0) (3 : Int32)), (own_dg (own_bt (own_bt (0 : Int32) x0) x1) (6 : Int32)), (own_dg (own_bt (own_bt (0 : Int32) x0) x1) (1 : Int32))] 13)) (b' := (4 : Int32)) (by decide) hw hx hby hml hown hZ S2 hzC SAl (by decide) rfl (by decide) g_sb g_t ne_sb_t ne_a_sb ne_a_t ne_al_sb ne_al_t sz_sb sz_t P Z0 OL KP V_a V_al E_sb F_value_sb F_coder_sb F_count_sb V_t E_t ?_
  clear P Z0 OL KP V_a V_al E_sb F_value_sb F_coder_sb F_count_sb V_t E_t
  intro T h6 P Z0 OL KP V_a V_al E_sb F_value_sb F_coder_sb F_count_sb V_t E_t
  replace F_count_sb : Fld Z h6 sb "java/lang/AbstractStringBuilder" "count" "I" (.int (Int32.ofNat 4)) := F_count_sb
  replace V_t : Arv Z h6 t kt .byte (Int32.ofNat 16) (own_vz [(own_dg (own_bt (0 : Int32) x0) (3 : Int32)), (own_dg (own_bt (own_bt (0 : Int32) x0) x1) (6 : Int32)), (own_dg (own_bt (own_bt (0 : Int32) x0) x1) (1 : Int32)), (own_dg (own_bt (own_bt (own_bt (0 : Int32) x0) x1) x2) (4 : Int32))] 12) (.int 0) := V_t
  show OwG p e below s _ _ _ _ T (mkF m 61 #[.val (.ref a), .val (.ref sb), .val (.int (own_bt (own_bt (own_bt (0 : Int32) x0) x1) x2)), .val (.int 4), .val (.ref a), .val (.int 6), .val (.int 2), .val (.int x2)] [])
  refine OwG.ac (mkF m 32 #[.val (.ref a), .val (.ref sb), .val (.int (own_bt (own_bt (own_bt (0 : Int32) x0) x1) x2)), .val (.int 4), .val (.ref a), .val (.int 6), .val (.int ((2 : Int32) + (1 : Int32))), .val (.int x2)] []) (fun tQ kQ => ?_) ?_
  · refine XS.iloadN P.here hx rfl (dc d2_61) rfl ?_
    refine XS.iconst P.here hx rfl (dc d2_62) ?_
    refine XS.icmpYes P.here hx rfl (pc0 := 63) (pc' := 87) rfl (dc d2_63) rfl (tlt (by decide)).1 (by decide) (by decide) ?_
    refine XS.iinc P.here hx rfl (dc d2_87) rfl (l' := #[.val (.ref a), .val (.ref sb), .val (.int (own_bt (own_bt (own_bt (0 : Int32) x0) x1) x2)), .val (.int 4), .val (.ref a), .val (.int 6), .val (.int ((2 : Int32) + (1 : Int32))), .val (.int x2)]) rfl ?_
    exact XS.goto P.here hx rfl (pc0 := 90) (pc' := 32) rfl (dc d2_90) (by decide) (by decide) kQ
  rw [show ((2 : Int32) + (1 : Int32)) = (3 : Int32) from by decide]
  show OwG p e below s _ _ _ _ T (mkF m 32 #[.val (.ref a), .val (.ref sb), .val (.int (own_bt (own_bt (own_bt (0 : Int32) x0) x1) x2)), .val (.int 4), .val (.ref a), .val (.int 6), .val (.int 3), .val (.int x2)] [])
  refine OwG.ac (mkF m 43 #[.val (.ref a), .val (.ref sb), .val (.int (own_bt (own_bt (own_bt (0 : Int32) x0) x1) x2)), .val (.int 4), .val (.ref a), .val (.int 6), .val (.int 3), .val (.int x2)] [(.int 3), (.ref a)]) (fun tQ kQ => ?_) ?_
  · refine XS.iload P.here hx rfl (dc d2_32) rfl ?_
    refine XS.iload P.here hx rfl (dc d2_34) rfl ?_
    refine XS.icmpNo P.here hx rfl (dc d2_36) rfl (tlt (by decide)).2.1 ?_
    refine XS.aload P.here hx rfl (dc d2_39) rfl rfl ?_
    exact XS.iload P.here hx rfl (dc d2_41) rfl kQ
  obtain ⟨own_cl, own_A, own_q1, own_S, own_M, own_H, own_U⟩ := id V_a
  obtain ⟨own_L, own_X, own_e, own_N⟩ := id P
  have own_Z := hZ
  have own_in := inb_of own_S (j := (3 : Int32)) ⟨(by decide), (by decide)⟩
  refine OwG.ac (mkF m 57 #[.val (.ref a), .val (.ref sb), .val (.int (own_bt (own_bt (own_bt (0 : Int32) x0) x1) x2)), .val (.int 4), .val (.ref a), .val (.int 6), .val (.int 3), .val (.int x3)] [(.int (((own_bt (own_bt (own_bt (0 : Int32) x0) x1) x2) <<< ((8 : Int32) &&& 31)) ||| (x3 &&& (255 : Int32))))]) (fun tQ kQ => ?_) ?_
  · refine own_X.baloadBytes hx (j := (3 : Int32)) (v := (.int x3)) (by rw [own_e]; exact own_A.1) (State.isArrayOf_alike own_Z.alike own_A.2.1) own_A.2.2 own_in (Has.at own_H own_in rfl) (g := (mkF m 43 #[.val (.ref a), .val (.ref sb), .val (.int (own_bt (own_bt (own_bt (0 : Int32) x0) x1) x2)), .val (.int 4), .val (.ref a), .val (.int 6), .val (.int 3), .val (.int x2)] [(.int 3), (.ref a)])) rfl rfl (dc d2_43) _ ?_
    refine XS.istore P.here hx rfl (dc d2_44) rfl (l' := #[.val (.ref a), .val (.ref sb), .val (.int (own_bt (own_bt (own_bt (0 : Int32) x0) x1) x2)), .val (.int 4), .val (.ref a), .val (.int 6), .val (.int 3), .val (.int x3)]) rfl ?_
    refine XS.iloadN P.here hx rfl (dc d2_46) rfl ?_
    refine XS.bipush P.here hx rfl (dc d2_47) ?_
    refine XS.ishl P.here hx rfl (dc d2_49) rfl ?_
    refine XS.iload P.here hx rfl (dc d2_50) rfl ?_
    refine XS.sipush P.here hx rfl (dc d2_52) ?_
    refine XS.iand P.here hx rfl (dc d2_55) rfl ?_
    exact XS.ior P.here hx rfl (dc d2_56) rfl kQ
  rw [show (((own_bt (own_bt (own_bt (0 : Int32) x0) x1) x2) <<< ((8 : Int32) &&& 31)) ||| (x3 &&& (255 : Int32))) = (own_bt (own_bt (own_bt (own_bt (0 : Int32) x0) x1) x2) x3) from rfl]
  show OwG p e below s _ _ _ _ T (mkF m 57 #[.val (.ref a), .val (.ref sb), .val (.int (own_bt (own_bt (own_bt (0 : Int32) x0) x1) x2)), .val (.int 4), .val (.ref a), .val (.int 6), .val (.int 3), .val (.int x3)] [(.int (own_bt (own_bt (own_bt (own_bt (0 : Int32) x0) x1) x2) x3))])
  refine OwG.ac (mkF m 61 #[.val (.ref a), .val (.ref sb), .val (.int (own_bt (own_bt (own_bt (own_bt (0 : Int32) x0) x1) x2) x3)), .val (.int ((4 : Int32) + (8 : Int32))), .val (.ref a), .val (.int 6), .val (.int 3), .val (.int x3)] []) (fun tQ kQ => ?_) ?_
  · refine XS.istoreN P.here hx rfl (dc d2_57) rfl (l' := #[.val (.ref a), .val (.ref sb), .val (.int (own_bt (own_bt (own_bt (own_bt (0 : Int32) x0) x1) x2) x3)), .val (.int 4), .val (.ref a), .val (.int 6), .val (.int 3), .val (.int x3)]) rfl ?_
    exact XS.iinc P.here hx rfl (dc d2_58) rfl (l' := #[.val (.ref a), .val (.ref sb), .val (.int (own_bt (own_bt (own_bt (own_bt (0 : Int32) x0) x1) x2) x3)), .val (.int ((4 : Int32) + (8 : Int32))), .val (.ref a), .val (.int 6), .val (.int 3), .val (.int x3)]) rfl kQ
  rw [show ((4 : Int32) + (8 : Int32)) = (12 : Int32) from by decide]
  show OwG p e below s _ _ _ _ T (mkF m 61 #[.val (.ref a), .val (.ref sb), .val (.int (own_bt (own_bt (own_bt (own_bt (0 : Int32) x0) x1) x2) x3)), .val (.int 12), .val (.ref a), .val (.int 6), .val (.int 3), .val (.int x3)] [])
  refine OwG.ac (mkF m 66 #[.val (.ref a), .val (.ref sb), .val (.int (own_bt (own_bt (own_bt (own_bt (0 : Int32) x0) x1) x2) x3)), .val (.int 12), .val (.ref a), .val (.int 6), .val (.int 3), .val (.int x3)] []) (fun tQ kQ => ?_) ?_
  · refine XS.iloadN P.here hx rfl (dc d2_61) rfl ?_
    refine XS.iconst P.here hx rfl (dc d2_62) ?_
    exact XS.icmpNo P.here hx rfl (dc d2_63) rfl (flt (by decide)).1 kQ
  refine own_sg (N := 16) (k := 4) (vs := (own_vz [(own_dg (own_bt (0 : Int32) x0) (3 : Int32)), (own_dg (own_bt (own_bt (0 : Int32) x0) x1) (6 : Int32)), (own_dg (own_bt (own_bt (0 : Int32) x0) x1) (1 : Int32)), (own_dg (own_bt (own_bt (own_bt (0 : Int32) x0) x1) x2) (4 : Int32))] 12)) (b' := (7 : Int32)) (by decide) hw hx hby hml hown hZ S2 hzC SAl (by decide) rfl (by decide) g_sb g_t ne_sb_t ne_a_sb ne_a_t ne_al_sb ne_al_t sz_sb sz_t P Z0 OL KP V_a V_al E_sb F_value_sb F_coder_sb F_count_sb V_t E_t ?_
  clear P Z0 OL KP V_a V_al E_sb F_value_sb F_coder_sb F_count_sb V_t E_t
  intro T h7 P Z0 OL KP V_a V_al E_sb F_value_sb F_coder_sb F_count_sb V_t E_t
  replace F_count_sb : Fld Z h7 sb "java/lang/AbstractStringBuilder" "count" "I" (.int (Int32.ofNat 5)) := F_count_sb
  replace V_t : Arv Z h7 t kt .byte (Int32.ofNat 16) (own_vz [(own_dg (own_bt (0 : Int32) x0) (3 : Int32)), (own_dg (own_bt (own_bt (0 : Int32) x0) x1) (6 : Int32)), (own_dg (own_bt (own_bt (0 : Int32) x0) x1) (1 : Int32)), (own_dg (own_bt (own_bt (own_bt (0 : Int32) x0) x1) x2) (4 : Int32)), (own_dg (own_bt (own_bt (own_bt (own_bt (0 : Int32) x0) x1) x2) x3) (7 : Int32))] 11) (.int 0) := V_t
  show OwG p e below s _ _ _ _ T (mkF m 61 #[.val (.ref a), .val (.ref sb), .val (.int (own_bt (own_bt (own_bt (own_bt (0 : Int32) x0) x1) x2) x3)), .val (.int 7), .val (.ref a), .val (.int 6), .val (.int 3), .val (.int x3)] [])
  refine OwG.ac (mkF m 66 #[.val (.ref a), .val (.ref sb), .val (.int (own_bt (own_bt (own_bt (own_bt (0 : Int32) x0) x1) x2) x3)), .val (.int 7), .val (.ref a), .val (.int 6), .val (.int 3), .val (.int x3)] []) (fun tQ kQ => ?_) ?_
  · refine XS.iloadN P.here hx rfl (dc d2_61) rfl ?_
    refine XS.iconst P.here hx rfl (dc d2_62) ?_
    exact XS.icmpNo P.here hx rfl (dc d2_63) rfl (flt (by decide)).1 kQ
  refine own_sg (N := 16) (k := 5) (vs := (own_vz [(own_dg (own_bt (0 : Int32) x0) (3 : Int32)), (own_dg (own_bt (own_bt (0 : Int32) x0) x1) (6 : Int32)), (own_dg (own_bt (own_bt (0 : Int32) x0) x1) (1 : Int32)), (own_dg (own_bt (own_bt (own_bt (0 : Int32) x0) x1) x2) (4 : Int32)), (own_dg (own_bt (own_bt (own_bt (own_bt (0 : Int32) x0) x1) x2) x3) (7 : Int32))] 11)) (b' := (2 : Int32)) (by decide) hw hx hby hml hown hZ S2 hzC SAl (by decide) rfl (by decide) g_sb g_t ne_sb_t ne_a_sb ne_a_t ne_al_sb ne_al_t sz_sb sz_t P Z0 OL KP V_a V_al E_sb F_value_sb F_coder_sb F_count_sb V_t E_t ?_
  clear P Z0 OL KP V_a V_al E_sb F_value_sb F_coder_sb F_count_sb V_t E_t
  intro T h8 P Z0 OL KP V_a V_al E_sb F_value_sb F_coder_sb F_count_sb V_t E_t
  replace F_count_sb : Fld Z h8 sb "java/lang/AbstractStringBuilder" "count" "I" (.int (Int32.ofNat 6)) := F_count_sb
  replace V_t : Arv Z h8 t kt .byte (Int32.ofNat 16) (own_vz [(own_dg (own_bt (0 : Int32) x0) (3 : Int32)), (own_dg (own_bt (own_bt (0 : Int32) x0) x1) (6 : Int32)), (own_dg (own_bt (own_bt (0 : Int32) x0) x1) (1 : Int32)), (own_dg (own_bt (own_bt (own_bt (0 : Int32) x0) x1) x2) (4 : Int32)), (own_dg (own_bt (own_bt (own_bt (own_bt (0 : Int32) x0) x1) x2) x3) (7 : Int32)), (own_dg (own_bt (own_bt (own_bt (own_bt (0 : Int32) x0) x1) x2) x3) (2 : Int32))] 10) (.int 0) := V_t
  show OwG p e below s _ _ _ _ T (mkF m 61 #[.val (.ref a), .val (.ref sb), .val (.int (own_bt (own_bt (own_bt (own_bt (0 : Int32) x0) x1) x2) x3)), .val (.int 2), .val (.ref a), .val (.int 6), .val (.int 3), .val (.int x3)] [])
  refine OwG.ac (mkF m 32 #[.val (.ref a), .val (.ref sb), .val (.int (own_bt (own_bt (own_bt (own_bt (0 : Int32) x0) x1) x2) x3)), .val (.int 2), .val (.ref a), .val (.int 6), .val (.int ((3 : Int32) + (1 : Int32))), .val (.int x3)] []) (fun tQ kQ => ?_) ?_
  · refine XS.iloadN P.here hx rfl (dc d2_61) rfl ?_
    refine XS.iconst P.here hx rfl (dc d2_62) ?_
    refine XS.icmpYes P.here hx rfl (pc0 := 63) (pc' := 87) rfl (dc d2_63) rfl (tlt (by decide)).1 (by decide) (by decide) ?_
    refine XS.iinc P.here hx rfl (dc d2_87) rfl (l' := #[.val (.ref a), .val (.ref sb), .val (.int (own_bt (own_bt (own_bt (own_bt (0 : Int32) x0) x1) x2) x3)), .val (.int 2), .val (.ref a), .val (.int 6), .val (.int ((3 : Int32) + (1 : Int32))), .val (.int x3)]) rfl ?_
    exact XS.goto P.here hx rfl (pc0 := 90) (pc' := 32) rfl (dc d2_90) (by decide) (by decide) kQ
  rw [show ((3 : Int32) + (1 : Int32)) = (4 : Int32) from by decide]
  show OwG p e below s _ _ _ _ T (mkF m 32 #[.val (.ref a), .val (.ref sb), .val (.int (own_bt (own_bt (own_bt (own_bt (0 : Int32) x0) x1) x2) x3)), .val (.int 2), .val (.ref a), .val (.int 6), .val (.int 4), .val (.int x3)] [])
  refine OwG.ac (mkF m 43 #[.val (.ref a), .val (.ref sb), .val (.int (own_bt (own_bt (own_bt (own_bt (0 : Int32) x0) x1) x2) x3)), .val (.int 2), .val (.ref a), .val (.int 6), .val (.int 4), .val (.int x3)] [(.int 4), (.ref a)]) (fun tQ kQ => ?_) ?_
  · refine XS.iload P.here hx rfl (dc d2_32) rfl ?_
    refine XS.iload P.here hx rfl (dc d2_34) rfl ?_
    refine XS.icmpNo P.here hx rfl (dc d2_36) rfl (tlt (by decide)).2.1 ?_
    refine XS.aload P.here hx rfl (dc d2_39) rfl rfl ?_
    exact XS.iload P.here hx rfl (dc d2_41) rfl kQ
  obtain ⟨own_cl, own_A, own_q1, own_S, own_M, own_H, own_U⟩ := id V_a
  obtain ⟨own_L, own_X, own_e, own_N⟩ := id P
  have own_Z := hZ
  have own_in := inb_of own_S (j := (4 : Int32)) ⟨(by decide), (by decide)⟩
  refine OwG.ac (mkF m 57 #[.val (.ref a), .val (.ref sb), .val (.int (own_bt (own_bt (own_bt (own_bt (0 : Int32) x0) x1) x2) x3)), .val (.int 2), .val (.ref a), .val (.int 6), .val (.int 4), .val (.int x4)] [(.int (((own_bt (own_bt (own_bt (own_bt (0 : Int32) x0) x1) x2) x3) <<< ((8 : Int32) &&& 31)) ||| (x4 &&& (255 : Int32))))]) (fun tQ kQ => ?_) ?_
  · refine own_X.baloadBytes hx (j := (4 : Int32)) (v := (.int x4)) (by rw [own_e]; exact own_A.1) (State.isArrayOf_alike own_Z.alike own_A.2.1) own_A.2.2 own_in (Has.at own_H own_in rfl) (g := (mkF m 43 #[.val (.ref a), .val (.ref sb), .val (.int (own_bt (own_bt (own_bt (own_bt (0 : Int32) x0) x1) x2) x3)), .val (.int 2), .val (.ref a), .val (.int 6), .val (.int 4), .val (.int x3)] [(.int 4), (.ref a)])) rfl rfl (dc d2_43) _ ?_
    refine XS.istore P.here hx rfl (dc d2_44) rfl (l' := #[.val (.ref a), .val (.ref sb), .val (.int (own_bt (own_bt (own_bt (own_bt (0 : Int32) x0) x1) x2) x3)), .val (.int 2), .val (.ref a), .val (.int 6), .val (.int 4), .val (.int x4)]) rfl ?_
    refine XS.iloadN P.here hx rfl (dc d2_46) rfl ?_
    refine XS.bipush P.here hx rfl (dc d2_47) ?_
    refine XS.ishl P.here hx rfl (dc d2_49) rfl ?_
    refine XS.iload P.here hx rfl (dc d2_50) rfl ?_
    refine XS.sipush P.here hx rfl (dc d2_52) ?_
    refine XS.iand P.here hx rfl (dc d2_55) rfl ?_
    exact XS.ior P.here hx rfl (dc d2_56) rfl kQ
  rw [show (((own_bt (own_bt (own_bt (own_bt (0 : Int32) x0) x1) x2) x3) <<< ((8 : Int32) &&& 31)) ||| (x4 &&& (255 : Int32))) = (own_bt (own_bt (own_bt (own_bt (own_bt (0 : Int32) x0) x1) x2) x3) x4) from rfl]
  show OwG p e below s _ _ _ _ T (mkF m 57 #[.val (.ref a), .val (.ref sb), .val (.int (own_bt (own_bt (own_bt (own_bt (0 : Int32) x0) x1) x2) x3)), .val (.int 2), .val (.ref a), .val (.int 6), .val (.int 4), .val (.int x4)] [(.int (own_bt (own_bt (own_bt (own_bt (own_bt (0 : Int32) x0) x1) x2) x3) x4))])
  refine OwG.ac (mkF m 61 #[.val (.ref a), .val (.ref sb), .val (.int (own_bt (own_bt (own_bt (own_bt (own_bt (0 : Int32) x0) x1) x2) x3) x4)), .val (.int ((2 : Int32) + (8 : Int32))), .val (.ref a), .val (.int 6), .val (.int 4), .val (.int x4)] []) (fun tQ kQ => ?_) ?_
  · refine XS.istoreN P.here hx rfl (dc d2_57) rfl (l' := #[.val (.ref a), .val (.ref sb), .val (.int (own_bt (own_bt (own_bt (own_bt (own_bt (0 : Int32) x0) x1) x2) x3) x4)), .val (.int 2), .val (.ref a), .val (.int 6), .val (.int 4), .val (.int x4)]) rfl ?_
    exact XS.iinc P.here hx rfl (dc d2_58) rfl (l' := #[.val (.ref a), .val (.ref sb), .val (.int (own_bt (own_bt (own_bt (own_bt (own_bt (0 : Int32) x0) x1) x2) x3) x4)), .val (.int ((2 : Int32) + (8 : Int32))), .val (.ref a), .val (.int 6), .val (.int 4), .val (.int x4)]) rfl kQ
  rw [show ((2 : Int32) + (8 : Int32)) = (10 : Int32) from by decide]
  show OwG p e below s _ _ _ _ T (mkF m 61 #[.val (.ref a), .val (.ref sb), .val (.int (own_bt (own_bt (own_bt (own_bt (own_bt (0 : Int32) x0) x1) x2) x3) x4)), .val (.int 10), .val (.ref a), .val (.int 6), .val (.int 4), .val (.int x4)] [])
  refine OwG.ac (mkF m 66 #[.val (.ref a), .val (.ref sb), .val (.int (own_bt (own_bt (own_bt (own_bt (own_bt (0 : Int32) x0) x1) x2) x3) x4)), .val (.int 10), .val (.ref a), .val (.int 6), .val (.int 4), .val (.int x4)] []) (fun tQ kQ => ?_) ?_
  · refine XS.iloadN P.here hx rfl (dc d2_61) rfl ?_
    refine XS.iconst P.here hx rfl (dc d2_62) ?_
    exact XS.icmpNo P.here hx rfl (dc d2_63) rfl (flt (by decide)).1 kQ
  refine own_sg (N := 16) (k := 6) (vs := (own_vz [(own_dg (own_bt (0 : Int32) x0) (3 : Int32)), (own_dg (own_bt (own_bt (0 : Int32) x0) x1) (6 : Int32)), (own_dg (own_bt (own_bt (0 : Int32) x0) x1) (1 : Int32)), (own_dg (own_bt (own_bt (own_bt (0 : Int32) x0) x1) x2) (4 : Int32)), (own_dg (own_bt (own_bt (own_bt (own_bt (0 : Int32) x0) x1) x2) x3) (7 : Int32)), (own_dg (own_bt (own_bt (own_bt (own_bt (0 : Int32) x0) x1) x2) x3) (2 : Int32))] 10)) (b' := (5 : Int32)) (by decide) hw hx hby hml hown hZ S2 hzC SAl (by decide) rfl (by decide) g_sb g_t ne_sb_t ne_a_sb ne_a_t ne_al_sb ne_al_t sz_sb sz_t P Z0 OL KP V_a V_al E_sb F_value_sb F_coder_sb F_count_sb V_t E_t ?_
  clear P Z0 OL KP V_a V_al E_sb F_value_sb F_coder_sb F_count_sb V_t E_t
  intro T h9 P Z0 OL KP V_a V_al E_sb F_value_sb F_coder_sb F_count_sb V_t E_t
  replace F_count_sb : Fld Z h9 sb "java/lang/AbstractStringBuilder" "count" "I" (.int (Int32.ofNat 7)) := F_count_sb
  replace V_t : Arv Z h9 t kt .byte (Int32.ofNat 16) (own_vz [(own_dg (own_bt (0 : Int32) x0) (3 : Int32)), (own_dg (own_bt (own_bt (0 : Int32) x0) x1) (6 : Int32)), (own_dg (own_bt (own_bt (0 : Int32) x0) x1) (1 : Int32)), (own_dg (own_bt (own_bt (own_bt (0 : Int32) x0) x1) x2) (4 : Int32)), (own_dg (own_bt (own_bt (own_bt (own_bt (0 : Int32) x0) x1) x2) x3) (7 : Int32)), (own_dg (own_bt (own_bt (own_bt (own_bt (0 : Int32) x0) x1) x2) x3) (2 : Int32)), (own_dg (own_bt (own_bt (own_bt (own_bt (own_bt (0 : Int32) x0) x1) x2) x3) x4) (5 : Int32))] 9) (.int 0) := V_t
  show OwG p e below s _ _ _ _ T (mkF m 61 #[.val (.ref a), .val (.ref sb), .val (.int (own_bt (own_bt (own_bt (own_bt (own_bt (0 : Int32) x0) x1) x2) x3) x4)), .val (.int 5), .val (.ref a), .val (.int 6), .val (.int 4), .val (.int x4)] [])
  refine OwG.ac (mkF m 66 #[.val (.ref a), .val (.ref sb), .val (.int (own_bt (own_bt (own_bt (own_bt (own_bt (0 : Int32) x0) x1) x2) x3) x4)), .val (.int 5), .val (.ref a), .val (.int 6), .val (.int 4), .val (.int x4)] []) (fun tQ kQ => ?_) ?_
  · refine XS.iloadN P.here hx rfl (dc d2_61) rfl ?_
    refine XS.iconst P.here hx rfl (dc d2_62) ?_
    exact XS.icmpNo P.here hx rfl (dc d2_63) rfl (flt (by decide)).1 kQ
  refine own_sg (N := 16) (k := 7) (vs := (own_vz [(own_dg (own_bt (0 : Int32) x0) (3 : Int32)), (own_dg (own_bt (own_bt (0 : Int32) x0) x1) (6 : Int32)), (own_dg (own_bt (own_bt (0 : Int32) x0) x1) (1 : Int32)), (own_dg (own_bt (own_bt (own_bt (0 : Int32) x0) x1) x2) (4 : Int32)), (own_dg (own_bt (own_bt (own_bt (own_bt (0 : Int32) x0) x1) x2) x3) (7 : Int32)), (own_dg (own_bt (own_bt (own_bt (own_bt (0 : Int32) x0) x1) x2) x3) (2 : Int32)), (own_dg (own_bt (own_bt (own_bt (own_bt (own_bt (0 : Int32) x0) x1) x2) x3) x4) (5 : Int32))] 9)) (b' := (0 : Int32)) (by decide) hw hx hby hml hown hZ S2 hzC SAl (by decide) rfl (by decide) g_sb g_t ne_sb_t ne_a_sb ne_a_t ne_al_sb ne_al_t sz_sb sz_t P Z0 OL KP V_a V_al E_sb F_value_sb F_coder_sb F_count_sb V_t E_t ?_
  clear P Z0 OL KP V_a V_al E_sb F_value_sb F_coder_sb F_count_sb V_t E_t
  intro T h10 P Z0 OL KP V_a V_al E_sb F_value_sb F_coder_sb F_count_sb V_t E_t
  replace F_count_sb : Fld Z h10 sb "java/lang/AbstractStringBuilder" "count" "I" (.int (Int32.ofNat 8)) := F_count_sb
  replace V_t : Arv Z h10 t kt .byte (Int32.ofNat 16) (own_vz [(own_dg (own_bt (0 : Int32) x0) (3 : Int32)), (own_dg (own_bt (own_bt (0 : Int32) x0) x1) (6 : Int32)), (own_dg (own_bt (own_bt (0 : Int32) x0) x1) (1 : Int32)), (own_dg (own_bt (own_bt (own_bt (0 : Int32) x0) x1) x2) (4 : Int32)), (own_dg (own_bt (own_bt (own_bt (own_bt (0 : Int32) x0) x1) x2) x3) (7 : Int32)), (own_dg (own_bt (own_bt (own_bt (own_bt (0 : Int32) x0) x1) x2) x3) (2 : Int32)), (own_dg (own_bt (own_bt (own_bt (own_bt (own_bt (0 : Int32) x0) x1) x2) x3) x4) (5 : Int32)), (own_dg (own_bt (own_bt (own_bt (own_bt (own_bt (0 : Int32) x0) x1) x2) x3) x4) (0 : Int32))] 8) (.int 0) := V_t
  show OwG p e below s _ _ _ _ T (mkF m 61 #[.val (.ref a), .val (.ref sb), .val (.int (own_bt (own_bt (own_bt (own_bt (own_bt (0 : Int32) x0) x1) x2) x3) x4)), .val (.int 0), .val (.ref a), .val (.int 6), .val (.int 4), .val (.int x4)] [])
  refine OwG.ac (mkF m 32 #[.val (.ref a), .val (.ref sb), .val (.int (own_bt (own_bt (own_bt (own_bt (own_bt (0 : Int32) x0) x1) x2) x3) x4)), .val (.int 0), .val (.ref a), .val (.int 6), .val (.int ((4 : Int32) + (1 : Int32))), .val (.int x4)] []) (fun tQ kQ => ?_) ?_
  · refine XS.iloadN P.here hx rfl (dc d2_61) rfl ?_
    refine XS.iconst P.here hx rfl (dc d2_62) ?_
    refine XS.icmpYes P.here hx rfl (pc0 := 63) (pc' := 87) rfl (dc d2_63) rfl (tlt (by decide)).1 (by decide) (by decide) ?_
    refine XS.iinc P.here hx rfl (dc d2_87) rfl (l' := #[.val (.ref a), .val (.ref sb), .val (.int (own_bt (own_bt (own_bt (own_bt (own_bt (0 : Int32) x0) x1) x2) x3) x4)), .val (.int 0), .val (.ref a), .val (.int 6), .val (.int ((4 : Int32) + (1 : Int32))), .val (.int x4)]) rfl ?_
    exact XS.goto P.here hx rfl (pc0 := 90) (pc' := 32) rfl (dc d2_90) (by decide) (by decide) kQ
  rw [show ((4 : Int32) + (1 : Int32)) = (5 : Int32) from by decide]
  show OwG p e below s _ _ _ _ T (mkF m 32 #[.val (.ref a), .val (.ref sb), .val (.int (own_bt (own_bt (own_bt (own_bt (own_bt (0 : Int32) x0) x1) x2) x3) x4)), .val (.int 0), .val (.ref a), .val (.int 6), .val (.int 5), .val (.int x4)] [])
  refine OwG.ac (mkF m 43 #[.val (.ref a), .val (.ref sb), .val (.int (own_bt (own_bt (own_bt (own_bt (own_bt (0 : Int32) x0) x1) x2) x3) x4)), .val (.int 0), .val (.ref a), .val (.int 6), .val (.int 5), .val (.int x4)] [(.int 5), (.ref a)]) (fun tQ kQ => ?_) ?_
  · refine XS.iload P.here hx rfl (dc d2_32) rfl ?_
    refine XS.iload P.here hx rfl (dc d2_34) rfl ?_
    refine XS.icmpNo P.here hx rfl (dc d2_36) rfl (tlt (by decide)).2.1 ?_
    refine XS.aload P.here hx rfl (dc d2_39) rfl rfl ?_
    exact XS.iload P.here hx rfl (dc d2_41) rfl kQ
  obtain ⟨own_cl, own_A, own_q1, own_S, own_M, own_H, own_U⟩ := id V_a
  obtain ⟨own_L, own_X, own_e, own_N⟩ := id P
  have own_Z := hZ
  have own_in := inb_of own_S (j := (5 : Int32)) ⟨(by decide), (by decide)⟩
  refine OwG.ac (mkF m 57 #[.val (.ref a), .val (.ref sb), .val (.int (own_bt (own_bt (own_bt (own_bt (own_bt (0 : Int32) x0) x1) x2) x3) x4)), .val (.int 0), .val (.ref a), .val (.int 6), .val (.int 5), .val (.int x5)] [(.int (((own_bt (own_bt (own_bt (own_bt (own_bt (0 : Int32) x0) x1) x2) x3) x4) <<< ((8 : Int32) &&& 31)) ||| (x5 &&& (255 : Int32))))]) (fun tQ kQ => ?_) ?_
  · refine own_X.baloadBytes hx (j := (5 : Int32)) (v := (.int x5)) (by rw [own_e]; exact own_A.1) (State.isArrayOf_alike own_Z.alike own_A.2.1) own_A.2.2 own_in (Has.at own_H own_in rfl) (g := (mkF m 43 #[.val (.ref a), .val (.ref sb), .val (.int (own_bt (own_bt (own_bt (own_bt (own_bt (0 : Int32) x0) x1) x2) x3) x4)), .val (.int 0), .val (.ref a), .val (.int 6), .val (.int 5), .val (.int x4)] [(.int 5), (.ref a)])) rfl rfl (dc d2_43) _ ?_
    refine XS.istore P.here hx rfl (dc d2_44) rfl (l' := #[.val (.ref a), .val (.ref sb), .val (.int (own_bt (own_bt (own_bt (own_bt (own_bt (0 : Int32) x0) x1) x2) x3) x4)), .val (.int 0), .val (.ref a), .val (.int 6), .val (.int 5), .val (.int x5)]) rfl ?_
    refine XS.iloadN P.here hx rfl (dc d2_46) rfl ?_
    refine XS.bipush P.here hx rfl (dc d2_47) ?_
    refine XS.ishl P.here hx rfl (dc d2_49) rfl ?_
    refine XS.iload P.here hx rfl (dc d2_50) rfl ?_
    refine XS.sipush P.here hx rfl (dc d2_52) ?_
    refine XS.iand P.here hx rfl (dc d2_55) rfl ?_
    exact XS.ior P.here hx rfl (dc d2_56) rfl kQ
  rw [show (((own_bt (own_bt (own_bt (own_bt (own_bt (0 : Int32) x0) x1) x2) x3) x4) <<< ((8 : Int32) &&& 31)) ||| (x5 &&& (255 : Int32))) = (own_bt (own_bt (own_bt (own_bt (own_bt (own_bt (0 : Int32) x0) x1) x2) x3) x4) x5) from rfl]
  show OwG p e below s _ _ _ _ T (mkF m 57 #[.val (.ref a), .val (.ref sb), .val (.int (own_bt (own_bt (own_bt (own_bt (own_bt (0 : Int32) x0) x1) x2) x3) x4)), .val (.int 0), .val (.ref a), .val (.int 6), .val (.int 5), .val (.int x5)] [(.int (own_bt (own_bt (own_bt (own_bt (own_bt (own_bt (0 : Int32) x0) x1) x2) x3) x4) x5))])
  refine OwG.ac (mkF m 61 #[.val (.ref a), .val (.ref sb), .val (.int (own_bt (own_bt (own_bt (own_bt (own_bt (own_bt (0 : Int32) x0) x1) x2) x3) x4) x5)), .val (.int ((0 : Int32) + (8 : Int32))), .val (.ref a), .val (.int 6), .val (.int 5), .val (.int x5)] []) (fun tQ kQ => ?_) ?_
  · refine XS.istoreN P.here hx rfl (dc d2_57) rfl (l' := #[.val (.ref a), .val (.ref sb), .val (.int (own_bt (own_bt (own_bt (own_bt (own_bt (own_bt (0 : Int32) x0) x1) x2) x3) x4) x5)), .val (.int 0), .val (.ref a), .val (.int 6), .val (.int 5), .val (.int x5)]) rfl ?_
    exact XS.iinc P.here hx rfl (dc d2_58) rfl (l' := #[.val (.ref a), .val (.ref sb), .val (.int (own_bt (own_bt (own_bt (own_bt (own_bt (own_bt (0 : Int32) x0) x1) x2) x3) x4) x5)), .val (.int ((0 : Int32) + (8 : Int32))), .val (.ref a), .val (.int 6), .val (.int 5), .val (.int x5)]) rfl kQ
  rw [show ((0 : Int32) + (8 : Int32)) = (8 : Int32) from by decide]
  show OwG p e below s _ _ _ _ T (mkF m 61 #[.val (.ref a), .val (.ref sb), .val (.int (own_bt (own_bt (own_bt (own_bt (own_bt (own_bt (0 : Int32) x0) x1) x2) x3) x4) x5)), .val (.int 8), .val (.ref a), .val (.int 6), .val (.int 5), .val (.int x5)] [])
  refine OwG.ac (mkF m 66 #[.val (.ref a), .val (.ref sb), .val (.int (own_bt (own_bt (own_bt (own_bt (own_bt (own_bt (0 : Int32) x0) x1) x2) x3) x4) x5)), .val (.int 8), .val (.ref a), .val (.int 6), .val (.int 5), .val (.int x5)] []) (fun tQ kQ => ?_) ?_
  · refine XS.iloadN P.here hx rfl (dc d2_61) rfl ?_
    refine XS.iconst P.here hx rfl (dc d2_62) ?_
    exact XS.icmpNo P.here hx rfl (dc d2_63) rfl (flt (by decide)).1 kQ
  refine own_sg (N := 16) (k := 8) (vs := (own_vz [(own_dg (own_bt (0 : Int32) x0) (3 : Int32)), (own_dg (own_bt (own_bt (0 : Int32) x0) x1) (6 : Int32)), (own_dg (own_bt (own_bt (0 : Int32) x0) x1) (1 : Int32)), (own_dg (own_bt (own_bt (own_bt (0 : Int32) x0) x1) x2) (4 : Int32)), (own_dg (own_bt (own_bt (own_bt (own_bt (0 : Int32) x0) x1) x2) x3) (7 : Int32)), (own_dg (own_bt (own_bt (own_bt (own_bt (0 : Int32) x0) x1) x2) x3) (2 : Int32)), (own_dg (own_bt (own_bt (own_bt (own_bt (own_bt (0 : Int32) x0) x1) x2) x3) x4) (5 : Int32)), (own_dg (own_bt (own_bt (own_bt (own_bt (own_bt (0 : Int32) x0) x1) x2) x3) x4) (0 : Int32))] 8)) (b' := (3 : Int32)) (by decide) hw hx hby hml hown hZ S2 hzC SAl (by decide) rfl (by decide) g_sb g_t ne_sb_t ne_a_sb ne_a_t ne_al_sb ne_al_t sz_sb sz_t P Z0 OL KP V_a V_al E_sb F_value_sb F_coder_sb F_count_sb V_t E_t ?_
  clear P Z0 OL KP V_a V_al E_sb F_value_sb F_coder_sb F_count_sb V_t E_t
  intro T h11 P Z0 OL KP V_a V_al E_sb F_value_sb F_coder_sb F_count_sb V_t E_t
  replace F_count_sb : Fld Z h11 sb "java/lang/AbstractStringBuilder" "count" "I" (.int (Int32.ofNat 9)) := F_count_sb
  replace V_t : Arv Z h11 t kt .byte (Int32.ofNat 16) (own_vz [(own_dg (own_bt (0 : Int32) x0) (3 : Int32)), (own_dg (own_bt (own_bt (0 : Int32) x0) x1) (6 : Int32)), (own_dg (own_bt (own_bt (0 : Int32) x0) x1) (1 : Int32)), (own_dg (own_bt (own_bt (own_bt (0 : Int32) x0) x1) x2) (4 : Int32)), (own_dg (own_bt (own_bt (own_bt (own_bt (0 : Int32) x0) x1) x2) x3) (7 : Int32)), (own_dg (own_bt (own_bt (own_bt (own_bt (0 : Int32) x0) x1) x2) x3) (2 : Int32)), (own_dg (own_bt (own_bt (own_bt (own_bt (own_bt (0 : Int32) x0) x1) x2) x3) x4) (5 : Int32)), (own_dg (own_bt (own_bt (own_bt (own_bt (own_bt (0 : Int32) x0) x1) x2) x3) x4) (0 : Int32)), (own_dg (own_bt (own_bt (own_bt (own_bt (own_bt (own_bt (0 : Int32) x0) x1) x2) x3) x4) x5) (3 : Int32))] 7) (.int 0) := V_t
  show OwG p e below s _ _ _ _ T (mkF m 61 #[.val (.ref a), .val (.ref sb), .val (.int (own_bt (own_bt (own_bt (own_bt (own_bt (own_bt (0 : Int32) x0) x1) x2) x3) x4) x5)), .val (.int 3), .val (.ref a), .val (.int 6), .val (.int 5), .val (.int x5)] [])
  refine OwG.ac (mkF m 32 #[.val (.ref a), .val (.ref sb), .val (.int (own_bt (own_bt (own_bt (own_bt (own_bt (own_bt (0 : Int32) x0) x1) x2) x3) x4) x5)), .val (.int 3), .val (.ref a), .val (.int 6), .val (.int ((5 : Int32) + (1 : Int32))), .val (.int x5)] []) (fun tQ kQ => ?_) ?_
  · refine XS.iloadN P.here hx rfl (dc d2_61) rfl ?_
    refine XS.iconst P.here hx rfl (dc d2_62) ?_
    refine XS.icmpYes P.here hx rfl (pc0 := 63) (pc' := 87) rfl (dc d2_63) rfl (tlt (by decide)).1 (by decide) (by decide) ?_
    refine XS.iinc P.here hx rfl (dc d2_87) rfl (l' := #[.val (.ref a), .val (.ref sb), .val (.int (own_bt (own_bt (own_bt (own_bt (own_bt (own_bt (0 : Int32) x0) x1) x2) x3) x4) x5)), .val (.int 3), .val (.ref a), .val (.int 6), .val (.int ((5 : Int32) + (1 : Int32))), .val (.int x5)]) rfl ?_
    exact XS.goto P.here hx rfl (pc0 := 90) (pc' := 32) rfl (dc d2_90) (by decide) (by decide) kQ
  rw [show ((5 : Int32) + (1 : Int32)) = (6 : Int32) from by decide]
  show OwG p e below s _ _ _ _ T (mkF m 32 #[.val (.ref a), .val (.ref sb), .val (.int (own_bt (own_bt (own_bt (own_bt (own_bt (own_bt (0 : Int32) x0) x1) x2) x3) x4) x5)), .val (.int 3), .val (.ref a), .val (.int 6), .val (.int 6), .val (.int x5)] [])
  refine OwG.ac (mkF m 97 #[.val (.ref a), .val (.ref sb), .val (.int (own_bt (own_bt (own_bt (own_bt (own_bt (own_bt (0 : Int32) x0) x1) x2) x3) x4) x5)), .val (.int 3), .val (.ref a), .val (.int 6), .val (.int 6), .val (.int x5)] []) (fun tQ kQ => ?_) ?_
  · refine XS.iload P.here hx rfl (dc d2_32) rfl ?_
    refine XS.iload P.here hx rfl (dc d2_34) rfl ?_
    refine XS.icmpYes P.here hx rfl (pc0 := 36) (pc' := 93) rfl (dc d2_36) rfl (flt (by decide)).2.1 (by decide) (by decide) ?_
    refine XS.iloadN P.here hx rfl (dc d2_93) rfl ?_
    exact XS.ifNo P.here hx rfl (dc d2_94) rfl ((if0 _ _).trans (tlt (by decide)).2.2.2) kQ
  refine own_sl (N := 16) (k := 9) (vs := (own_vz [(own_dg (own_bt (0 : Int32) x0) (3 : Int32)), (own_dg (own_bt (own_bt (0 : Int32) x0) x1) (6 : Int32)), (own_dg (own_bt (own_bt (0 : Int32) x0) x1) (1 : Int32)), (own_dg (own_bt (own_bt (own_bt (0 : Int32) x0) x1) x2) (4 : Int32)), (own_dg (own_bt (own_bt (own_bt (own_bt (0 : Int32) x0) x1) x2) x3) (7 : Int32)), (own_dg (own_bt (own_bt (own_bt (own_bt (0 : Int32) x0) x1) x2) x3) (2 : Int32)), (own_dg (own_bt (own_bt (own_bt (own_bt (own_bt (0 : Int32) x0) x1) x2) x3) x4) (5 : Int32)), (own_dg (own_bt (own_bt (own_bt (own_bt (own_bt (0 : Int32) x0) x1) x2) x3) x4) (0 : Int32)), (own_dg (own_bt (own_bt (own_bt (own_bt (own_bt (own_bt (0 : Int32) x0) x1) x2) x3) x4) x5) (3 : Int32))] 7)) hw hx hby hml hown hZ S2 hzC SAl (by decide) rfl (by decide) g_sb g_t ne_sb_t ne_a_sb ne_a_t ne_al_sb ne_al_t sz_sb sz_t P Z0 OL KP V_a V_al E_sb F_value_sb F_coder_sb F_count_sb V_t E_t ?_
  clear P Z0 OL KP V_a V_al E_sb F_value_sb F_coder_sb F_count_sb V_t E_t
  intro T h12 P Z0 OL KP V_a V_al E_sb F_value_sb F_coder_sb F_count_sb V_t E_t
  replace F_count_sb : Fld Z h12 sb "java/lang/AbstractStringBuilder" "count" "I" (.int (Int32.ofNat 10)) := F_count_sb
  replace V_t : Arv Z h12 t kt .byte (Int32.ofNat 16) (own_vz [(own_dg (own_bt (0 : Int32) x0) (3 : Int32)), (own_dg (own_bt (own_bt (0 : Int32) x0) x1) (6 : Int32)), (own_dg (own_bt (own_bt (0 : Int32) x0) x1) (1 : Int32)), (own_dg (own_bt (own_bt (own_bt (0 : Int32) x0) x1) x2) (4 : Int32)), (own_dg (own_bt (own_bt (own_bt (own_bt (0 : Int32) x0) x1) x2) x3) (7 : Int32)), (own_dg (own_bt (own_bt (own_bt (own_bt (0 : Int32) x0) x1) x2) x3) (2 : Int32)), (own_dg (own_bt (own_bt (own_bt (own_bt (own_bt (0 : Int32) x0) x1) x2) x3) x4) (5 : Int32)), (own_dg (own_bt (own_bt (own_bt (own_bt (own_bt (0 : Int32) x0) x1) x2) x3) x4) (0 : Int32)), (own_dg (own_bt (own_bt (own_bt (own_bt (own_bt (own_bt (0 : Int32) x0) x1) x2) x3) x4) x5) (3 : Int32)), (own_dl (own_bt (own_bt (own_bt (own_bt (own_bt (own_bt (0 : Int32) x0) x1) x2) x3) x4) x5) (3 : Int32))] 6) (.int 0) := V_t
  show OwG p e below s _ _ _ _ T (mkF m 114 #[.val (.ref a), .val (.ref sb), .val (.int (own_bt (own_bt (own_bt (own_bt (own_bt (own_bt (0 : Int32) x0) x1) x2) x3) x4) x5)), .val (.int 3), .val (.ref a), .val (.int 6), .val (.int 6), .val (.int x5)] [])
  refine own_sp (N := 16) (k := 10) (vs := (own_vz [(own_dg (own_bt (0 : Int32) x0) (3 : Int32)), (own_dg (own_bt (own_bt (0 : Int32) x0) x1) (6 : Int32)), (own_dg (own_bt (own_bt (0 : Int32) x0) x1) (1 : Int32)), (own_dg (own_bt (own_bt (own_bt (0 : Int32) x0) x1) x2) (4 : Int32)), (own_dg (own_bt (own_bt (own_bt (own_bt (0 : Int32) x0) x1) x2) x3) (7 : Int32)), (own_dg (own_bt (own_bt (own_bt (own_bt (0 : Int32) x0) x1) x2) x3) (2 : Int32)), (own_dg (own_bt (own_bt (own_bt (own_bt (own_bt (0 : Int32) x0) x1) x2) x3) x4) (5 : Int32)), (own_dg (own_bt (own_bt (own_bt (own_bt (own_bt (0 : Int32) x0) x1) x2) x3) x4) (0 : Int32)), (own_dg (own_bt (own_bt (own_bt (own_bt (own_bt (own_bt (0 : Int32) x0) x1) x2) x3) x4) x5) (3 : Int32)), (own_dl (own_bt (own_bt (own_bt (own_bt (own_bt (own_bt (0 : Int32) x0) x1) x2) x3) x4) x5) (3 : Int32))] 6)) (by decide) hw hx hby hml hown hZ S2 hzC SAl (by decide) rfl (by decide) g_sb g_t ne_sb_t ne_a_sb ne_a_t ne_al_sb ne_al_t sz_sb sz_t P Z0 OL KP V_a V_al E_sb F_value_sb F_coder_sb F_count_sb V_t E_t ?_
  clear P Z0 OL KP V_a V_al E_sb F_value_sb F_coder_sb F_count_sb V_t E_t
  intro T h13 P Z0 OL KP V_a V_al E_sb F_value_sb F_coder_sb F_count_sb V_t E_t
  replace F_count_sb : Fld Z h13 sb "java/lang/AbstractStringBuilder" "count" "I" (.int (Int32.ofNat 11)) := F_count_sb
  replace V_t : Arv Z h13 t kt .byte (Int32.ofNat 16) (own_vz [(own_dg (own_bt (0 : Int32) x0) (3 : Int32)), (own_dg (own_bt (own_bt (0 : Int32) x0) x1) (6 : Int32)), (own_dg (own_bt (own_bt (0 : Int32) x0) x1) (1 : Int32)), (own_dg (own_bt (own_bt (own_bt (0 : Int32) x0) x1) x2) (4 : Int32)), (own_dg (own_bt (own_bt (own_bt (own_bt (0 : Int32) x0) x1) x2) x3) (7 : Int32)), (own_dg (own_bt (own_bt (own_bt (own_bt (0 : Int32) x0) x1) x2) x3) (2 : Int32)), (own_dg (own_bt (own_bt (own_bt (own_bt (own_bt (0 : Int32) x0) x1) x2) x3) x4) (5 : Int32)), (own_dg (own_bt (own_bt (own_bt (own_bt (own_bt (0 : Int32) x0) x1) x2) x3) x4) (0 : Int32)), (own_dg (own_bt (own_bt (own_bt (own_bt (own_bt (own_bt (0 : Int32) x0) x1) x2) x3) x4) x5) (3 : Int32)), (own_dl (own_bt (own_bt (own_bt (own_bt (own_bt (own_bt (0 : Int32) x0) x1) x2) x3) x4) x5) (3 : Int32)), (61 : Int32)] 5) (.int 0) := V_t
  show OwG p e below s _ _ _ _ T (mkF m 114 #[.val (.ref a), .val (.ref sb), .val (.int (own_bt (own_bt (own_bt (own_bt (own_bt (own_bt (0 : Int32) x0) x1) x2) x3) x4) x5)), .val (.int 3), .val (.ref a), .val (.int 6), .val (.int 6), .val (.int x5)] [])
  refine own_sp (N := 16) (k := 11) (vs := (own_vz [(own_dg (own_bt (0 : Int32) x0) (3 : Int32)), (own_dg (own_bt (own_bt (0 : Int32) x0) x1) (6 : Int32)), (own_dg (own_bt (own_bt (0 : Int32) x0) x1) (1 : Int32)), (own_dg (own_bt (own_bt (own_bt (0 : Int32) x0) x1) x2) (4 : Int32)), (own_dg (own_bt (own_bt (own_bt (own_bt (0 : Int32) x0) x1) x2) x3) (7 : Int32)), (own_dg (own_bt (own_bt (own_bt (own_bt (0 : Int32) x0) x1) x2) x3) (2 : Int32)), (own_dg (own_bt (own_bt (own_bt (own_bt (own_bt (0 : Int32) x0) x1) x2) x3) x4) (5 : Int32)), (own_dg (own_bt (own_bt (own_bt (own_bt (own_bt (0 : Int32) x0) x1) x2) x3) x4) (0 : Int32)), (own_dg (own_bt (own_bt (own_bt (own_bt (own_bt (own_bt (0 : Int32) x0) x1) x2) x3) x4) x5) (3 : Int32)), (own_dl (own_bt (own_bt (own_bt (own_bt (own_bt (own_bt (0 : Int32) x0) x1) x2) x3) x4) x5) (3 : Int32)), (61 : Int32)] 5)) (by decide) hw hx hby hml hown hZ S2 hzC SAl (by decide) rfl (by decide) g_sb g_t ne_sb_t ne_a_sb ne_a_t ne_al_sb ne_al_t sz_sb sz_t P Z0 OL KP V_a V_al E_sb F_value_sb F_coder_sb F_count_sb V_t E_t ?_
  clear P Z0 OL KP V_a V_al E_sb F_value_sb F_coder_sb F_count_sb V_t E_t
  intro T h14 P Z0 OL KP V_a V_al E_sb F_value_sb F_coder_sb F_count_sb V_t E_t
  replace F_count_sb : Fld Z h14 sb "java/lang/AbstractStringBuilder" "count" "I" (.int (Int32.ofNat 12)) := F_count_sb
  replace V_t : Arv Z h14 t kt .byte (Int32.ofNat 16) (own_vz [(own_dg (own_bt (0 : Int32) x0) (3 : Int32)), (own_dg (own_bt (own_bt (0 : Int32) x0) x1) (6 : Int32)), (own_dg (own_bt (own_bt (0 : Int32) x0) x1) (1 : Int32)), (own_dg (own_bt (own_bt (own_bt (0 : Int32) x0) x1) x2) (4 : Int32)), (own_dg (own_bt (own_bt (own_bt (own_bt (0 : Int32) x0) x1) x2) x3) (7 : Int32)), (own_dg (own_bt (own_bt (own_bt (own_bt (0 : Int32) x0) x1) x2) x3) (2 : Int32)), (own_dg (own_bt (own_bt (own_bt (own_bt (own_bt (0 : Int32) x0) x1) x2) x3) x4) (5 : Int32)), (own_dg (own_bt (own_bt (own_bt (own_bt (own_bt (0 : Int32) x0) x1) x2) x3) x4) (0 : Int32)), (own_dg (own_bt (own_bt (own_bt (own_bt (own_bt (own_bt (0 : Int32) x0) x1) x2) x3) x4) x5) (3 : Int32)), (own_dl (own_bt (own_bt (own_bt (own_bt (own_bt (own_bt (0 : Int32) x0) x1) x2) x3) x4) x5) (3 : Int32)), (61 : Int32), (61 : Int32)] 4) (.int 0) := V_t
  show OwG p e below s _ _ _ _ T (mkF m 114 #[.val (.ref a), .val (.ref sb), .val (.int (own_bt (own_bt (own_bt (own_bt (own_bt (own_bt (0 : Int32) x0) x1) x2) x3) x4) x5)), .val (.int 3), .val (.ref a), .val (.int 6), .val (.int 6), .val (.int x5)] [])
  refine own_sp (N := 16) (k := 12) (vs := (own_vz [(own_dg (own_bt (0 : Int32) x0) (3 : Int32)), (own_dg (own_bt (own_bt (0 : Int32) x0) x1) (6 : Int32)), (own_dg (own_bt (own_bt (0 : Int32) x0) x1) (1 : Int32)), (own_dg (own_bt (own_bt (own_bt (0 : Int32) x0) x1) x2) (4 : Int32)), (own_dg (own_bt (own_bt (own_bt (own_bt (0 : Int32) x0) x1) x2) x3) (7 : Int32)), (own_dg (own_bt (own_bt (own_bt (own_bt (0 : Int32) x0) x1) x2) x3) (2 : Int32)), (own_dg (own_bt (own_bt (own_bt (own_bt (own_bt (0 : Int32) x0) x1) x2) x3) x4) (5 : Int32)), (own_dg (own_bt (own_bt (own_bt (own_bt (own_bt (0 : Int32) x0) x1) x2) x3) x4) (0 : Int32)), (own_dg (own_bt (own_bt (own_bt (own_bt (own_bt (own_bt (0 : Int32) x0) x1) x2) x3) x4) x5) (3 : Int32)), (own_dl (own_bt (own_bt (own_bt (own_bt (own_bt (own_bt (0 : Int32) x0) x1) x2) x3) x4) x5) (3 : Int32)), (61 : Int32), (61 : Int32)] 4)) (by decide) hw hx hby hml hown hZ S2 hzC SAl (by decide) rfl (by decide) g_sb g_t ne_sb_t ne_a_sb ne_a_t ne_al_sb ne_al_t sz_sb sz_t P Z0 OL KP V_a V_al E_sb F_value_sb F_coder_sb F_count_sb V_t E_t ?_
  clear P Z0 OL KP V_a V_al E_sb F_value_sb F_coder_sb F_count_sb V_t E_t
  intro T h15 P Z0 OL KP V_a V_al E_sb F_value_sb F_coder_sb F_count_sb V_t E_t
  replace F_count_sb : Fld Z h15 sb "java/lang/AbstractStringBuilder" "count" "I" (.int (Int32.ofNat 13)) := F_count_sb
  replace V_t : Arv Z h15 t kt .byte (Int32.ofNat 16) (own_vz [(own_dg (own_bt (0 : Int32) x0) (3 : Int32)), (own_dg (own_bt (own_bt (0 : Int32) x0) x1) (6 : Int32)), (own_dg (own_bt (own_bt (0 : Int32) x0) x1) (1 : Int32)), (own_dg (own_bt (own_bt (own_bt (0 : Int32) x0) x1) x2) (4 : Int32)), (own_dg (own_bt (own_bt (own_bt (own_bt (0 : Int32) x0) x1) x2) x3) (7 : Int32)), (own_dg (own_bt (own_bt (own_bt (own_bt (0 : Int32) x0) x1) x2) x3) (2 : Int32)), (own_dg (own_bt (own_bt (own_bt (own_bt (own_bt (0 : Int32) x0) x1) x2) x3) x4) (5 : Int32)), (own_dg (own_bt (own_bt (own_bt (own_bt (own_bt (0 : Int32) x0) x1) x2) x3) x4) (0 : Int32)), (own_dg (own_bt (own_bt (own_bt (own_bt (own_bt (own_bt (0 : Int32) x0) x1) x2) x3) x4) x5) (3 : Int32)), (own_dl (own_bt (own_bt (own_bt (own_bt (own_bt (own_bt (0 : Int32) x0) x1) x2) x3) x4) x5) (3 : Int32)), (61 : Int32), (61 : Int32), (61 : Int32)] 3) (.int 0) := V_t
  show OwG p e below s _ _ _ _ T (mkF m 114 #[.val (.ref a), .val (.ref sb), .val (.int (own_bt (own_bt (own_bt (own_bt (own_bt (own_bt (0 : Int32) x0) x1) x2) x3) x4) x5)), .val (.int 3), .val (.ref a), .val (.int 6), .val (.int 6), .val (.int x5)] [])
  refine own_sp (N := 16) (k := 13) (vs := (own_vz [(own_dg (own_bt (0 : Int32) x0) (3 : Int32)), (own_dg (own_bt (own_bt (0 : Int32) x0) x1) (6 : Int32)), (own_dg (own_bt (own_bt (0 : Int32) x0) x1) (1 : Int32)), (own_dg (own_bt (own_bt (own_bt (0 : Int32) x0) x1) x2) (4 : Int32)), (own_dg (own_bt (own_bt (own_bt (own_bt (0 : Int32) x0) x1) x2) x3) (7 : Int32)), (own_dg (own_bt (own_bt (own_bt (own_bt (0 : Int32) x0) x1) x2) x3) (2 : Int32)), (own_dg (own_bt (own_bt (own_bt (own_bt (own_bt (0 : Int32) x0) x1) x2) x3) x4) (5 : Int32)), (own_dg (own_bt (own_bt (own_bt (own_bt (own_bt (0 : Int32) x0) x1) x2) x3) x4) (0 : Int32)), (own_dg (own_bt (own_bt (own_bt (own_bt (own_bt (own_bt (0 : Int32) x0) x1) x2) x3) x4) x5) (3 : Int32)), (own_dl (own_bt (own_bt (own_bt (own_bt (own_bt (own_bt (0 : Int32) x0) x1) x2) x3) x4) x5) (3 : Int32)), (61 : Int32), (61 : Int32), (61 : Int32)] 3)) (by decide) hw hx hby hml hown hZ S2 hzC SAl (by decide) rfl (by decide) g_sb g_t ne_sb_t ne_a_sb ne_a_t ne_al_sb ne_al_t sz_sb sz_t P Z0 OL KP V_a V_al E_sb F_value_sb F_coder_sb F_count_sb V_t E_t ?_
  clear P Z0 OL KP V_a V_al E_sb F_value_sb F_coder_sb F_count_sb V_t E_t
  intro T h16 P Z0 OL KP V_a V_al E_sb F_value_sb F_coder_sb F_count_sb V_t E_t
  replace F_count_sb : Fld Z h16 sb "java/lang/AbstractStringBuilder" "count" "I" (.int (Int32.ofNat 14)) := F_count_sb
  replace V_t : Arv Z h16 t kt .byte (Int32.ofNat 16) (own_vz [(own_dg (own_bt (0 : Int32) x0) (3 : Int32)), (own_dg (own_bt (own_bt (0 : Int32) x0) x1) (6 : Int32)), (own_dg (own_bt (own_bt (0 : Int32) x0) x1) (1 : Int32)), (own_dg (own_bt (own_bt (own_bt (0 : Int32) x0) x1) x2) (4 : Int32)), (own_dg (own_bt (own_bt (own_bt (own_bt (0 : Int32) x0) x1) x2) x3) (7 : Int32)), (own_dg (own_bt (own_bt (own_bt (own_bt (0 : Int32) x0) x1) x2) x3) (2 : Int32)), (own_dg (own_bt (own_bt (own_bt (own_bt (own_bt (0 : Int32) x0) x1) x2) x3) x4) (5 : Int32)), (own_dg (own_bt (own_bt (own_bt (own_bt (own_bt (0 : Int32) x0) x1) x2) x3) x4) (0 : Int32)), (own_dg (own_bt (own_bt (own_bt (own_bt (own_bt (own_bt (0 : Int32) x0) x1) x2) x3) x4) x5) (3 : Int32)), (own_dl (own_bt (own_bt (own_bt (own_bt (own_bt (own_bt (0 : Int32) x0) x1) x2) x3) x4) x5) (3 : Int32)), (61 : Int32), (61 : Int32), (61 : Int32), (61 : Int32)] 2) (.int 0) := V_t
  show OwG p e below s _ _ _ _ T (mkF m 114 #[.val (.ref a), .val (.ref sb), .val (.int (own_bt (own_bt (own_bt (own_bt (own_bt (own_bt (0 : Int32) x0) x1) x2) x3) x4) x5)), .val (.int 3), .val (.ref a), .val (.int 6), .val (.int 6), .val (.int x5)] [])
  refine own_sp (N := 16) (k := 14) (vs := (own_vz [(own_dg (own_bt (0 : Int32) x0) (3 : Int32)), (own_dg (own_bt (own_bt (0 : Int32) x0) x1) (6 : Int32)), (own_dg (own_bt (own_bt (0 : Int32) x0) x1) (1 : Int32)), (own_dg (own_bt (own_bt (own_bt (0 : Int32) x0) x1) x2) (4 : Int32)), (own_dg (own_bt (own_bt (own_bt (own_bt (0 : Int32) x0) x1) x2) x3) (7 : Int32)), (own_dg (own_bt (own_bt (own_bt (own_bt (0 : Int32) x0) x1) x2) x3) (2 : Int32)), (own_dg (own_bt (own_bt (own_bt (own_bt (own_bt (0 : Int32) x0) x1) x2) x3) x4) (5 : Int32)), (own_dg (own_bt (own_bt (own_bt (own_bt (own_bt (0 : Int32) x0) x1) x2) x3) x4) (0 : Int32)), (own_dg (own_bt (own_bt (own_bt (own_bt (own_bt (own_bt (0 : Int32) x0) x1) x2) x3) x4) x5) (3 : Int32)), (own_dl (own_bt (own_bt (own_bt (own_bt (own_bt (own_bt (0 : Int32) x0) x1) x2) x3) x4) x5) (3 : Int32)), (61 : Int32), (61 : Int32), (61 : Int32), (61 : Int32)] 2)) (by decide) hw hx hby hml hown hZ S2 hzC SAl (by decide) rfl (by decide) g_sb g_t ne_sb_t ne_a_sb ne_a_t ne_al_sb ne_al_t sz_sb sz_t P Z0 OL KP V_a V_al E_sb F_value_sb F_coder_sb F_count_sb V_t E_t ?_
  clear P Z0 OL KP V_a V_al E_sb F_value_sb F_coder_sb F_count_sb V_t E_t
  intro T h17 P Z0 OL KP V_a V_al E_sb F_value_sb F_coder_sb F_count_sb V_t E_t
  replace F_count_sb : Fld Z h17 sb "java/lang/AbstractStringBuilder" "count" "I" (.int (Int32.ofNat 15)) := F_count_sb
  replace V_t : Arv Z h17 t kt .byte (Int32.ofNat 16) (own_vz [(own_dg (own_bt (0 : Int32) x0) (3 : Int32)), (own_dg (own_bt (own_bt (0 : Int32) x0) x1) (6 : Int32)), (own_dg (own_bt (own_bt (0 : Int32) x0) x1) (1 : Int32)), (own_dg (own_bt (own_bt (own_bt (0 : Int32) x0) x1) x2) (4 : Int32)), (own_dg (own_bt (own_bt (own_bt (own_bt (0 : Int32) x0) x1) x2) x3) (7 : Int32)), (own_dg (own_bt (own_bt (own_bt (own_bt (0 : Int32) x0) x1) x2) x3) (2 : Int32)), (own_dg (own_bt (own_bt (own_bt (own_bt (own_bt (0 : Int32) x0) x1) x2) x3) x4) (5 : Int32)), (own_dg (own_bt (own_bt (own_bt (own_bt (own_bt (0 : Int32) x0) x1) x2) x3) x4) (0 : Int32)), (own_dg (own_bt (own_bt (own_bt (own_bt (own_bt (own_bt (0 : Int32) x0) x1) x2) x3) x4) x5) (3 : Int32)), (own_dl (own_bt (own_bt (own_bt (own_bt (own_bt (own_bt (0 : Int32) x0) x1) x2) x3) x4) x5) (3 : Int32)), (61 : Int32), (61 : Int32), (61 : Int32), (61 : Int32), (61 : Int32)] 1) (.int 0) := V_t
  show OwG p e below s _ _ _ _ T (mkF m 114 #[.val (.ref a), .val (.ref sb), .val (.int (own_bt (own_bt (own_bt (own_bt (own_bt (own_bt (0 : Int32) x0) x1) x2) x3) x4) x5)), .val (.int 3), .val (.ref a), .val (.int 6), .val (.int 6), .val (.int x5)] [])
  refine own_sp (N := 16) (k := 15) (vs := (own_vz [(own_dg (own_bt (0 : Int32) x0) (3 : Int32)), (own_dg (own_bt (own_bt (0 : Int32) x0) x1) (6 : Int32)), (own_dg (own_bt (own_bt (0 : Int32) x0) x1) (1 : Int32)), (own_dg (own_bt (own_bt (own_bt (0 : Int32) x0) x1) x2) (4 : Int32)), (own_dg (own_bt (own_bt (own_bt (own_bt (0 : Int32) x0) x1) x2) x3) (7 : Int32)), (own_dg (own_bt (own_bt (own_bt (own_bt (0 : Int32) x0) x1) x2) x3) (2 : Int32)), (own_dg (own_bt (own_bt (own_bt (own_bt (own_bt (0 : Int32) x0) x1) x2) x3) x4) (5 : Int32)), (own_dg (own_bt (own_bt (own_bt (own_bt (own_bt (0 : Int32) x0) x1) x2) x3) x4) (0 : Int32)), (own_dg (own_bt (own_bt (own_bt (own_bt (own_bt (own_bt (0 : Int32) x0) x1) x2) x3) x4) x5) (3 : Int32)), (own_dl (own_bt (own_bt (own_bt (own_bt (own_bt (own_bt (0 : Int32) x0) x1) x2) x3) x4) x5) (3 : Int32)), (61 : Int32), (61 : Int32), (61 : Int32), (61 : Int32), (61 : Int32)] 1)) (by decide) hw hx hby hml hown hZ S2 hzC SAl (by decide) rfl (by decide) g_sb g_t ne_sb_t ne_a_sb ne_a_t ne_al_sb ne_al_t sz_sb sz_t P Z0 OL KP V_a V_al E_sb F_value_sb F_coder_sb F_count_sb V_t E_t ?_
  clear P Z0 OL KP V_a V_al E_sb F_value_sb F_coder_sb F_count_sb V_t E_t
  intro T h18 P Z0 OL KP V_a V_al E_sb F_value_sb F_coder_sb F_count_sb V_t E_t
  replace F_count_sb : Fld Z h18 sb "java/lang/AbstractStringBuilder" "count" "I" (.int (Int32.ofNat 16)) := F_count_sb
  replace V_t : Arv Z h18 t kt .byte (Int32.ofNat 16) (own_vz [(own_dg (own_bt (0 : Int32) x0) (3 : Int32)), (own_dg (own_bt (own_bt (0 : Int32) x0) x1) (6 : Int32)), (own_dg (own_bt (own_bt (0 : Int32) x0) x1) (1 : Int32)), (own_dg (own_bt (own_bt (own_bt (0 : Int32) x0) x1) x2) (4 : Int32)), (own_dg (own_bt (own_bt (own_bt (own_bt (0 : Int32) x0) x1) x2) x3) (7 : Int32)), (own_dg (own_bt (own_bt (own_bt (own_bt (0 : Int32) x0) x1) x2) x3) (2 : Int32)), (own_dg (own_bt (own_bt (own_bt (own_bt (own_bt (0 : Int32) x0) x1) x2) x3) x4) (5 : Int32)), (own_dg (own_bt (own_bt (own_bt (own_bt (own_bt (0 : Int32) x0) x1) x2) x3) x4) (0 : Int32)), (own_dg (own_bt (own_bt (own_bt (own_bt (own_bt (own_bt (0 : Int32) x0) x1) x2) x3) x4) x5) (3 : Int32)), (own_dl (own_bt (own_bt (own_bt (own_bt (own_bt (own_bt (0 : Int32) x0) x1) x2) x3) x4) x5) (3 : Int32)), (61 : Int32), (61 : Int32), (61 : Int32), (61 : Int32), (61 : Int32), (61 : Int32)] 0) (.int 0) := V_t
  show OwG p e below s _ _ _ _ T (mkF m 114 #[.val (.ref a), .val (.ref sb), .val (.int (own_bt (own_bt (own_bt (own_bt (own_bt (own_bt (0 : Int32) x0) x1) x2) x3) x4) x5)), .val (.int 3), .val (.ref a), .val (.int 6), .val (.int 6), .val (.int x5)] [])
  refine OwG.ac (mkF m 115 #[.val (.ref a), .val (.ref sb), .val (.int (own_bt (own_bt (own_bt (own_bt (own_bt (own_bt (0 : Int32) x0) x1) x2) x3) x4) x5)), .val (.int 3), .val (.ref a), .val (.int 6), .val (.int 6), .val (.int x5)] [(.ref sb)]) (fun tQ kQ => ?_) ?_
  · exact XS.aloadN P.here hx rfl (dc d2_114) rfl rfl kQ
  refine P.virtual hx hZ (y := (⟨"java/lang/StringBuilder", "length", "()I"⟩ : MethodName)) hown (own_w hw 60 rfl) (own_w hw 61 rfl) (own_w hw 63 rfl) (own_w hw 62 rfl) (by decide) (OwM.back (W := 0) (rmSl l Z a0 hw sb (Int32.ofNat 16) h18 n0 Z0 E_sb F_count_sb) hZ (own_w hw 64 rfl) (own_w hw 13 rfl) (own_le rfl) (own_le rfl)) (fun _ _ _ q => q.2) E_sb rfl (by rw [hml]; rfl) (argsL := []) (rest := []) (lenOf pd___I rfl) rfl (own_le rfl) (dc d2_115) rfl (own_le rfl) (own_le rfl) fun T own_v own_L h19 own_e P own_q => ?_
  obtain ⟨⟨rfl, own_hh⟩, -⟩ := own_q
  rw [own_hh] at P
  clear own_e own_hh
  show OwG p e below s _ _ _ _ T (mkF m 118 #[.val (.ref a), .val (.ref sb), .val (.int (own_bt (own_bt (own_bt (own_bt (own_bt (own_bt (0 : Int32) x0) x1) x2) x3) x4) x5)), .val (.int 3), .val (.ref a), .val (.int 6), .val (.int 6), .val (.int x5)] [(.int (Int32.ofNat 16))])
  refine OwG.ac (mkF m 120 #[.val (.ref a), .val (.ref sb), .val (.int (own_bt (own_bt (own_bt (own_bt (own_bt (own_bt (0 : Int32) x0) x1) x2) x3) x4) x5)), .val (.int 3), .val (.ref a), .val (.int 6), .val (.int 6), .val (.int x5)] [(.int 8), (.int (Int32.ofNat 16))]) (fun tQ kQ => ?_) ?_
  · exact XS.bipush P.here hx rfl (dc d2_118) kQ
  obtain ⟨own_L, own_X, own_rest⟩ := id P
  refine OwG.ac (mkF m 135 #[.val (.ref a), .val (.ref sb), .val (.int (own_bt (own_bt (own_bt (own_bt (own_bt (own_bt (0 : Int32) x0) x1) x2) x3) x4) x5)), .val (.int 3), .val (.ref a), .val (.int 6), .val (.int 6), .val (.int x5)] [(.ref sb)]) (fun tQ kQ => ?_) ?_
  · refine Jvm.RoadKit.iremM (g := (mkF m 120 #[.val (.ref a), .val (.ref sb), .val (.int (own_bt (own_bt (own_bt (own_bt (own_bt (own_bt (0 : Int32) x0) x1) x2) x3) x4) x5)), .val (.int 3), .val (.ref a), .val (.int 6), .val (.int 6), .val (.int x5)] [(.int 8), (.int (Int32.ofNat 16))])) own_X hx rfl (dc d2_120) rfl (by decide) ?_
    refine XS.ifYes P.here hx rfl (pc0 := 121) (pc' := 134) rfl (dc d2_121) rfl ((if0 _ _).trans (teq (by decide)).1) (by decide) (by decide) ?_
    exact XS.aloadN P.here hx rfl (dc d2_134) rfl rfl kQ
  refine P.virtual hx hZ (y := (⟨"java/lang/StringBuilder", "toString", "()Ljava/lang/String;"⟩ : MethodName)) hown (own_w hw 69 rfl) (own_w hw 70 rfl) (own_w hw 72 rfl) (own_w hw 71 rfl) (by decide) (OwM.back (W := 0) (rmTs l Z a0 hw sb t kt 16 (own_vz [(own_dg (own_bt (0 : Int32) x0) (3 : Int32)), (own_dg (own_bt (own_bt (0 : Int32) x0) x1) (6 : Int32)), (own_dg (own_bt (own_bt (0 : Int32) x0) x1) (1 : Int32)), (own_dg (own_bt (own_bt (own_bt (0 : Int32) x0) x1) x2) (4 : Int32)), (own_dg (own_bt (own_bt (own_bt (own_bt (0 : Int32) x0) x1) x2) x3) (7 : Int32)), (own_dg (own_bt (own_bt (own_bt (own_bt (0 : Int32) x0) x1) x2) x3) (2 : Int32)), (own_dg (own_bt (own_bt (own_bt (own_bt (own_bt (0 : Int32) x0) x1) x2) x3) x4) (5 : Int32)), (own_dg (own_bt (own_bt (own_bt (own_bt (own_bt (0 : Int32) x0) x1) x2) x3) x4) (0 : Int32)), (own_dg (own_bt (own_bt (own_bt (own_bt (own_bt (own_bt (0 : Int32) x0) x1) x2) x3) x4) x5) (3 : Int32)), (own_dl (own_bt (own_bt (own_bt (own_bt (own_bt (own_bt (0 : Int32) x0) x1) x2) x3) x4) x5) (3 : Int32)), (61 : Int32), (61 : Int32), (61 : Int32), (61 : Int32), (61 : Int32), (61 : Int32)] 0) zC h18 n0 Z0 S2 hzC OL E_sb F_value_sb F_coder_sb F_count_sb V_t E_t (by decide)) hZ (own_w hw 73 rfl) (own_w hw 13 rfl) (own_le rfl) (own_le rfl)) (fun _ _ _ q => q.2) E_sb rfl (by rw [hml]; rfl) (argsL := []) (rest := []) (lenOf pd___Ljava_lang_String_ rfl) rfl (own_le rfl) (dc d2_135) rfl (own_le rfl) (own_le rfl) fun T own_v own_L h20 own_e P own_q => ?_
  obtain ⟨⟨x, u, rfl, K, E_x, F1, F2, V_u⟩, -⟩ := own_q
  clear own_e
  replace V_a := V_a.keep K nin0
  replace V_al := V_al.keep K nin0
  replace E_sb := E_sb.keep K
  replace F_value_sb := F_value_sb.keep K nin0
  replace F_coder_sb := F_coder_sb.keep K nin0
  replace F_count_sb := F_count_sb.keep K nin0
  replace V_t := V_t.keep K nin0
  replace E_t := E_t.keep K
  replace Z0 := Nat.le_trans Z0 K.1
  replace OL := OL.keep K all0
  replace KP := KP.trans K all0
  show OwG p e below s _ _ _ _ T (mkF m 138 #[.val (.ref a), .val (.ref sb), .val (.int (own_bt (own_bt (own_bt (own_bt (own_bt (own_bt (0 : Int32) x0) x1) x2) x3) x4) x5)), .val (.int 3), .val (.ref a), .val (.int 6), .val (.int 6), .val (.int x5)] [(.ref x)])
  exact P.retR hx hlk hret rfl rfl (dc d2_138) (own_le rfl) (own_le rfl) ⟨x, u, kt, rfl, KP, E_x, F1, F2, V_u⟩
theorem own_byb (x : Int64) : 0 ≤ ((x &&& (255 : Int64)).toInt32).toInt ∧ ((x &&& (255 : Int64)).toInt32).toInt < 256 := by
  have h := c_maskL x 255 8 (by decide) (by decide)
  have r := c_l2i (x &&& 255)
  have g := rng32 ((x &&& (255 : Int64)).toInt32)
  omega
theorem own_byi (x : Int32) : 0 ≤ (x &&& (255 : Int32)).toInt ∧ (x &&& (255 : Int32)).toInt < 256 := by
  have h := c_mask x 255 8 (by decide) (by decide)
  omega
theorem own_n7 (x : Int32) : (x &&& (2147483647 : Int32)) % (7 : Int32) = 0 ∨ (x &&& (2147483647 : Int32)) % (7 : Int32) = 1 ∨ (x &&& (2147483647 : Int32)) % (7 : Int32) = 2 ∨ (x &&& (2147483647 : Int32)) % (7 : Int32) = 3 ∨ (x &&& (2147483647 : Int32)) % (7 : Int32) = 4 ∨ (x &&& (2147483647 : Int32)) % (7 : Int32) = 5 ∨ (x &&& (2147483647 : Int32)) % (7 : Int32) = 6 := by
  have h := c_mask x 2147483647 31 (by decide) (by decide)
  have r := (c_irem (x &&& (2147483647 : Int32)) 7 7 rfl).1 (by omega)
  have t : ∀ z : Int32, z.toInt = 0 ∨ z.toInt = 1 ∨ z.toInt = 2 ∨ z.toInt = 3 ∨ z.toInt = 4 ∨ z.toInt = 5 ∨ z.toInt = 6 → z = 0 ∨ z = 1 ∨ z = 2 ∨ z = 3 ∨ z = 4 ∨ z = 5 ∨ z = 6 := by
    intro z hz
    rcases hz with q | q | q | q | q | q | q
    · exact Or.inl (Int32.toInt_inj.mp q)
    · exact Or.inr (Or.inl (Int32.toInt_inj.mp q))
    · exact Or.inr (Or.inr (Or.inl (Int32.toInt_inj.mp q)))
    · exact Or.inr (Or.inr (Or.inr (Or.inl (Int32.toInt_inj.mp q))))
    · exact Or.inr (Or.inr (Or.inr (Or.inr (Or.inl (Int32.toInt_inj.mp q)))))
    · exact Or.inr (Or.inr (Or.inr (Or.inr (Or.inr (Or.inl (Int32.toInt_inj.mp q))))))
    · exact Or.inr (Or.inr (Or.inr (Or.inr (Or.inr (Or.inr (Int32.toInt_inj.mp q))))))
  exact t _ (by omega)
theorem own_bt_to {z b : Int32} (h0 : 0 ≤ b.toInt) (h1 : b.toInt < 256) : (own_bt z (StrChars.lo8 b)).toInt % 65536 = (z.toInt % 256) * 256 + b.toInt := by
  have e : StrChars.lo8 b &&& (255 : Int32) = b := StrChars.lo8_mask (by rw [Int32.lt_iff_toInt_lt, show (0 : Int32).toInt = 0 from rfl]; omega) (by rw [Int32.lt_iff_toInt_lt, show (255 : Int32).toInt = 255 from rfl]; omega)
  unfold own_bt
  rw [e]
  have s := c_ishl z 8 8 (by decide)
  have q := c_or (z <<< ((8 : Int32) &&& 31)) b 8 (by decide) 256 (by decide) (by omega) h0 h1
  omega
theorem own_dg_to (z : Int32) (k : Int32) (kn : Nat) (hk : k.toBitVec.toNat % 32 = kn) : ((z >>> (k &&& 31)) &&& (31 : Int32)).toInt = z.toInt / (2 ^ kn : Nat) % 32 := by
  have h := c_mask (z >>> (k &&& 31)) 31 5 (by decide) (by decide)
  have r := c_ishr z k kn hk
  rw [h, r]; rfl
theorem own_dl_to (z : Int32) (k : Int32) (kn : Nat) (hk : ((5 : Int32) - k).toBitVec.toNat % 32 = kn) : ((z <<< (((5 : Int32) - k) &&& 31)) &&& (31 : Int32)).toInt = z.toInt * (2 ^ kn : Nat) % 32 := by
  have h := c_mask (z <<< (((5 : Int32) - k) &&& 31)) 31 5 (by decide) (by decide)
  have r := c_ishl z ((5 : Int32) - k) kn hk
  rw [h]; omega
theorem own_v_to {b0 b1 b2 b3 b4 : Int32} (h0 : 0 ≤ b0.toInt ∧ b0.toInt < 256) (h1 : 0 ≤ b1.toInt ∧ b1.toInt < 256) (h2 : 0 ≤ b2.toInt ∧ b2.toInt < 256) (h3 : 0 ≤ b3.toInt ∧ b3.toInt < 256) (h4 : 0 ≤ b4.toInt ∧ b4.toInt < 256) :
    (((((b0.toInt64 <<< ((32 : Int32) &&& 0x3f).toInt64) ||| (b1.toInt64 <<< ((24 : Int32) &&& 0x3f).toInt64)) ||| (b2.toInt64 <<< ((16 : Int32) &&& 0x3f).toInt64)) ||| (b3.toInt64 <<< ((8 : Int32) &&& 0x3f).toInt64)) ||| b4.toInt64).toInt = b0.toInt * 4294967296 + b1.toInt * 16777216 + b2.toInt * 65536 + b3.toInt * 256 + b4.toInt := by
  have e0 := c_i2l b0
  have e1 := c_i2l b1
  have e2 := c_i2l b2
  have e3 := c_i2l b3
  have e4 := c_i2l b4
  have s0 := c_lshl b0.toInt64 32 32 (by decide)
  have s1 := c_lshl b1.toInt64 24 24 (by decide)
  have s2 := c_lshl b2.toInt64 16 16 (by decide)
  have s3 := c_lshl b3.toInt64 8 8 (by decide)
  generalize b0.toInt64 <<< ((32 : Int32) &&& 0x3f).toInt64 = y0 at *
  generalize b1.toInt64 <<< ((24 : Int32) &&& 0x3f).toInt64 = y1 at *
  generalize b2.toInt64 <<< ((16 : Int32) &&& 0x3f).toInt64 = y2 at *
  generalize b3.toInt64 <<< ((8 : Int32) &&& 0x3f).toInt64 = y3 at *
  generalize b4.toInt64 = y4 at *
  have g0 := rng64 y0
  have g1 := rng64 y1
  have g2 := rng64 y2
  have g3 := rng64 y3
  have t1 := c_orL y0 y1 32 (by decide) 4294967296 (by decide) (by omega) (by omega) (by omega)
  generalize y0 ||| y1 = w1 at *
  have k1 := rng64 w1
  have t2 := c_orL w1 y2 24 (by decide) 16777216 (by decide) (by omega) (by omega) (by omega)
  generalize w1 ||| y2 = w2 at *
  have k2 := rng64 w2
  have t3 := c_orL w2 y3 16 (by decide) 65536 (by decide) (by omega) (by omega) (by omega)
  generalize w2 ||| y3 = w3 at *
  have k3 := rng64 w3
  have t4 := c_orL w3 y4 8 (by decide) 256 (by decide) (by omega) (by omega) (by omega)
  generalize w3 ||| y4 = w4 at *
  have k4 := rng64 w4
  omega
theorem own_ix_to (v : Int64) (i : Int32) (k : Nat) (hk : ((35 : Int32) - ((5 : Int32) * i)).toBitVec.toNat % 64 = k) (hk0 : 0 < k ∨ (k = 0 ∧ (((35 : Int32) - ((5 : Int32) * i)) &&& 0x3f).toInt64.toUInt64 = 0)) (h0 : 0 ≤ v.toInt) (h1 : v.toInt < 1099511627776) : ((((v.toUInt64 >>> (((35 : Int32) - ((5 : Int32) * i)) &&& 0x3f).toInt64.toUInt64).toInt64) &&& (31 : Int64)).toInt32).toInt = v.toInt / (2 ^ k : Nat) % 32 := by
  have e : ((v.toUInt64 >>> (((35 : Int32) - ((5 : Int32) * i)) &&& 0x3f).toInt64.toUInt64).toInt64).toInt = v.toInt / (2 ^ k : Nat) := by
    have e2 : v.toInt % 18446744073709551616 = v.toInt := by omega
    rcases hk0 with q | ⟨q, q'⟩
    · rw [c_lushr v _ k hk q, e2]
    · subst q
      rw [q']
      have e3 : (v.toUInt64 >>> (0 : UInt64)).toInt64 = v := by simp
      rw [e3]; simp
  have h := c_maskL ((v.toUInt64 >>> (((35 : Int32) - ((5 : Int32) * i)) &&& 0x3f).toInt64.toUInt64).toInt64) 31 5 (by decide) (by decide)
  have r := c_l2i (((v.toUInt64 >>> (((35 : Int32) - ((5 : Int32) * i)) &&& 0x3f).toInt64.toUInt64).toInt64) &&& (31 : Int64))
  have g := rng32 ((((v.toUInt64 >>> (((35 : Int32) - ((5 : Int32) * i)) &&& 0x3f).toInt64.toUInt64).toInt64) &&& (31 : Int64)).toInt32)
  rw [e] at h
  omega
theorem own_eq1 {v : Int64} {b0 : Int32} (h0 : 0 ≤ b0.toInt ∧ b0.toInt < 256) (hv : v.toInt = b0.toInt * 4294967296) :
    ([(own_dg (own_bt (0 : Int32) (StrChars.lo8 b0)) (3 : Int32)), (own_dl (own_bt (0 : Int32) (StrChars.lo8 b0)) (3 : Int32)), (61 : Int32), (61 : Int32), (61 : Int32), (61 : Int32), (61 : Int32), (61 : Int32)] : List Int32) = [(own_sy v (0 : Int32) (2 : Int32)), (own_sy v (1 : Int32) (2 : Int32)), (own_sy v (2 : Int32) (2 : Int32)), (own_sy v (3 : Int32) (2 : Int32)), (own_sy v (4 : Int32) (2 : Int32)), (own_sy v (5 : Int32) (2 : Int32)), (own_sy v (6 : Int32) (2 : Int32)), (own_sy v (7 : Int32) (2 : Int32))] := by
  have t0 := own_bt_to (z := (0 : Int32)) h0.1 h0.2
  generalize own_bt (0 : Int32) (StrChars.lo8 b0) = z0 at *
  have u0 : (0 : Int32).toInt = 0 := rfl
  have v0 : 0 ≤ v.toInt ∧ v.toInt < 1099511627776 := by omega
  have q0 : own_dg z0 (3 : Int32) = (own_sy v (0 : Int32) (2 : Int32)) := by
    rw [show (own_sy v (0 : Int32) (2 : Int32)) = own_al ((((v.toUInt64 >>> (((35 : Int32) - ((5 : Int32) * (0 : Int32))) &&& 0x3f).toInt64.toUInt64).toInt64) &&& (31 : Int64)).toInt32) from if_pos (by decide)]
    refine congrArg own_al (Int32.toInt_inj.mp ?_)
    rw [own_dg_to z0 3 3 (by decide)]
    rw [own_ix_to v 0 35 (by decide) (Or.inl (by decide)) v0.1 v0.2]
    omega
  have q1 : own_dl z0 (3 : Int32) = (own_sy v (1 : Int32) (2 : Int32)) := by
    rw [show (own_sy v (1 : Int32) (2 : Int32)) = own_al ((((v.toUInt64 >>> (((35 : Int32) - ((5 : Int32) * (1 : Int32))) &&& 0x3f).toInt64.toUInt64).toInt64) &&& (31 : Int64)).toInt32) from if_pos (by decide)]
    refine congrArg own_al (Int32.toInt_inj.mp ?_)
    rw [own_dl_to z0 3 2 (by decide)]
    rw [own_ix_to v 1 30 (by decide) (Or.inl (by decide)) v0.1 v0.2]
    omega
  have p2 : (own_sy v (2 : Int32) (2 : Int32)) = 61 := if_neg (by decide)
  have p3 : (own_sy v (3 : Int32) (2 : Int32)) = 61 := if_neg (by decide)
  have p4 : (own_sy v (4 : Int32) (2 : Int32)) = 61 := if_neg (by decide)
  have p5 : (own_sy v (5 : Int32) (2 : Int32)) = 61 := if_neg (by decide)
  have p6 : (own_sy v (6 : Int32) (2 : Int32)) = 61 := if_neg (by decide)
  have p7 : (own_sy v (7 : Int32) (2 : Int32)) = 61 := if_neg (by decide)
  rw [q0, q1, p2, p3, p4, p5, p6, p7]
theorem own_eq2 {v : Int64} {b0 b1 : Int32} (h0 : 0 ≤ b0.toInt ∧ b0.toInt < 256) (h1 : 0 ≤ b1.toInt ∧ b1.toInt < 256) (hv : v.toInt = b0.toInt * 4294967296 + b1.toInt * 16777216) :
    ([(own_dg (own_bt (0 : Int32) (StrChars.lo8 b0)) (3 : Int32)), (own_dg (own_bt (own_bt (0 : Int32) (StrChars.lo8 b0)) (StrChars.lo8 b1)) (6 : Int32)), (own_dg (own_bt (own_bt (0 : Int32) (StrChars.lo8 b0)) (StrChars.lo8 b1)) (1 : Int32)), (own_dl (own_bt (own_bt (0 : Int32) (StrChars.lo8 b0)) (StrChars.lo8 b1)) (1 : Int32)), (61 : Int32), (61 : Int32), (61 : Int32), (61 : Int32)] : List Int32) = [(own_sy v (0 : Int32) (4 : Int32)), (own_sy v (1 : Int32) (4 : Int32)), (own_sy v (2 : Int32) (4 : Int32)), (own_sy v (3 : Int32) (4 : Int32)), (own_sy v (4 : Int32) (4 : Int32)), (own_sy v (5 : Int32) (4 : Int32)), (own_sy v (6 : Int32) (4 : Int32)), (own_sy v (7 : Int32) (4 : Int32))] := by
  have t0 := own_bt_to (z := (0 : Int32)) h0.1 h0.2
  generalize own_bt (0 : Int32) (StrChars.lo8 b0) = z0 at *
  have t1 := own_bt_to (z := z0) h1.1 h1.2
  generalize own_bt z0 (StrChars.lo8 b1) = z1 at *
  have u0 : (0 : Int32).toInt = 0 := rfl
  have v0 : 0 ≤ v.toInt ∧ v.toInt < 1099511627776 := by omega
  have q0 : own_dg z0 (3 : Int32) = (own_sy v (0 : Int32) (4 : Int32)) := by
    rw [show (own_sy v (0 : Int32) (4 : Int32)) = own_al ((((v.toUInt64 >>> (((35 : Int32) - ((5 : Int32) * (0 : Int32))) &&& 0x3f).toInt64.toUInt64).toInt64) &&& (31 : Int64)).toInt32) from if_pos (by decide)]
    refine congrArg own_al (Int32.toInt_inj.mp ?_)
    rw [own_dg_to z0 3 3 (by decide)]
    rw [own_ix_to v 0 35 (by decide) (Or.inl (by decide)) v0.1 v0.2]
    omega
  have q1 : own_dg z1 (6 : Int32) = (own_sy v (1 : Int32) (4 : Int32)) := by
    rw [show (own_sy v (1 : Int32) (4 : Int32)) = own_al ((((v.toUInt64 >>> (((35 : Int32) - ((5 : Int32) * (1 : Int32))) &&& 0x3f).toInt64.toUInt64).toInt64) &&& (31 : Int64)).toInt32) from if_pos (by decide)]
    refine congrArg own_al (Int32.toInt_inj.mp ?_)
    rw [own_dg_to z1 6 6 (by decide)]
    rw [own_ix_to v 1 30 (by decide) (Or.inl (by decide)) v0.1 v0.2]
    omega
  have q2 : own_dg z1 (1 : Int32) = (own_sy v (2 : Int32) (4 : Int32)) := by
    rw [show (own_sy v (2 : Int32) (4 : Int32)) = own_al ((((v.toUInt64 >>> (((35 : Int32) - ((5 : Int32) * (2 : Int32))) &&& 0x3f).toInt64.toUInt64).toInt64) &&& (31 : Int64)).toInt32) from if_pos (by decide)]
    refine congrArg own_al (Int32.toInt_inj.mp ?_)
    rw [own_dg_to z1 1 1 (by decide)]
    rw [own_ix_to v 2 25 (by decide) (Or.inl (by decide)) v0.1 v0.2]
    omega
  have q3 : own_dl z1 (1 : Int32) = (own_sy v (3 : Int32) (4 : Int32)) := by
    rw [show (own_sy v (3 : Int32) (4 : Int32)) = own_al ((((v.toUInt64 >>> (((35 : Int32) - ((5 : Int32) * (3 : Int32))) &&& 0x3f).toInt64.toUInt64).toInt64) &&& (31 : Int64)).toInt32) from if_pos (by decide)]
    refine congrArg own_al (Int32.toInt_inj.mp ?_)
    rw [own_dl_to z1 1 4 (by decide)]
    rw [own_ix_to v 3 20 (by decide) (Or.inl (by decide)) v0.1 v0.2]
    omega
  have p4 : (own_sy v (4 : Int32) (4 : Int32)) = 61 := if_neg (by decide)
  have p5 : (own_sy v (5 : Int32) (4 : Int32)) = 61 := if_neg (by decide)
  have p6 : (own_sy v (6 : Int32) (4 : Int32)) = 61 := if_neg (by decide)
  have p7 : (own_sy v (7 : Int32) (4 : Int32)) = 61 := if_neg (by decide)
  rw [q0, q1, q2, q3, p4, p5, p6, p7]
theorem own_eq3 {v : Int64} {b0 b1 b2 : Int32} (h0 : 0 ≤ b0.toInt ∧ b0.toInt < 256) (h1 : 0 ≤ b1.toInt ∧ b1.toInt < 256) (h2 : 0 ≤ b2.toInt ∧ b2.toInt < 256) (hv : v.toInt = b0.toInt * 4294967296 + b1.toInt * 16777216 + b2.toInt * 65536) :
    ([(own_dg (own_bt (0 : Int32) (StrChars.lo8 b0)) (3 : Int32)), (own_dg (own_bt (own_bt (0 : Int32) (StrChars.lo8 b0)) (StrChars.lo8 b1)) (6 : Int32)), (own_dg (own_bt (own_bt (0 : Int32) (StrChars.lo8 b0)) (StrChars.lo8 b1)) (1 : Int32)), (own_dg (own_bt (own_bt (own_bt (0 : Int32) (StrChars.lo8 b0)) (StrChars.lo8 b1)) (StrChars.lo8 b2)) (4 : Int32)), (own_dl (own_bt (own_bt (own_bt (0 : Int32) (StrChars.lo8 b0)) (StrChars.lo8 b1)) (StrChars.lo8 b2)) (4 : Int32)), (61 : Int32), (61 : Int32), (61 : Int32)] : List Int32) = [(own_sy v (0 : Int32) (5 : Int32)), (own_sy v (1 : Int32) (5 : Int32)), (own_sy v (2 : Int32) (5 : Int32)), (own_sy v (3 : Int32) (5 : Int32)), (own_sy v (4 : Int32) (5 : Int32)), (own_sy v (5 : Int32) (5 : Int32)), (own_sy v (6 : Int32) (5 : Int32)), (own_sy v (7 : Int32) (5 : Int32))] := by
  have t0 := own_bt_to (z := (0 : Int32)) h0.1 h0.2
  generalize own_bt (0 : Int32) (StrChars.lo8 b0) = z0 at *
  have t1 := own_bt_to (z := z0) h1.1 h1.2
  generalize own_bt z0 (StrChars.lo8 b1) = z1 at *
  have t2 := own_bt_to (z := z1) h2.1 h2.2
  generalize own_bt z1 (StrChars.lo8 b2) = z2 at *
  have u0 : (0 : Int32).toInt = 0 := rfl
  have v0 : 0 ≤ v.toInt ∧ v.toInt < 1099511627776 := by omega
  have q0 : own_dg z0 (3 : Int32) = (own_sy v (0 : Int32) (5 : Int32)) := by
    rw [show (own_sy v (0 : Int32) (5 : Int32)) = own_al ((((v.toUInt64 >>> (((35 : Int32) - ((5 : Int32) * (0 : Int32))) &&& 0x3f).toInt64.toUInt64).toInt64) &&& (31 : Int64)).toInt32) from if_pos (by decide)]
    refine congrArg own_al (Int32.toInt_inj.mp ?_)
    rw [own_dg_to z0 3 3 (by decide)]
    rw [own_ix_to v 0 35 (by decide) (Or.inl (by decide)) v0.1 v0.2]
    omega
  have q1 : own_dg z1 (6 : Int32) = (own_sy v (1 : Int32) (5 : Int32)) := by
    rw [show (own_sy v (1 : Int32) (5 : Int32)) = own_al ((((v.toUInt64 >>> (((35 : Int32) - ((5 : Int32) * (1 : Int32))) &&& 0x3f).toInt64.toUInt64).toInt64) &&& (31 : Int64)).toInt32) from if_pos (by decide)]
    refine congrArg own_al (Int32.toInt_inj.mp ?_)
    rw [own_dg_to z1 6 6 (by decide)]
    rw [own_ix_to v 1 30 (by decide) (Or.inl (by decide)) v0.1 v0.2]
    omega
  have q2 : own_dg z1 (1 : Int32) = (own_sy v (2 : Int32) (5 : Int32)) := by
    rw [show (own_sy v (2 : Int32) (5 : Int32)) = own_al ((((v.toUInt64 >>> (((35 : Int32) - ((5 : Int32) * (2 : Int32))) &&& 0x3f).toInt64.toUInt64).toInt64) &&& (31 : Int64)).toInt32) from if_pos (by decide)]
    refine congrArg own_al (Int32.toInt_inj.mp ?_)
    rw [own_dg_to z1 1 1 (by decide)]
    rw [own_ix_to v 2 25 (by decide) (Or.inl (by decide)) v0.1 v0.2]
    omega
  have q3 : own_dg z2 (4 : Int32) = (own_sy v (3 : Int32) (5 : Int32)) := by
    rw [show (own_sy v (3 : Int32) (5 : Int32)) = own_al ((((v.toUInt64 >>> (((35 : Int32) - ((5 : Int32) * (3 : Int32))) &&& 0x3f).toInt64.toUInt64).toInt64) &&& (31 : Int64)).toInt32) from if_pos (by decide)]
    refine congrArg own_al (Int32.toInt_inj.mp ?_)
    rw [own_dg_to z2 4 4 (by decide)]
    rw [own_ix_to v 3 20 (by decide) (Or.inl (by decide)) v0.1 v0.2]
    omega
  have q4 : own_dl z2 (4 : Int32) = (own_sy v (4 : Int32) (5 : Int32)) := by
    rw [show (own_sy v (4 : Int32) (5 : Int32)) = own_al ((((v.toUInt64 >>> (((35 : Int32) - ((5 : Int32) * (4 : Int32))) &&& 0x3f).toInt64.toUInt64).toInt64) &&& (31 : Int64)).toInt32) from if_pos (by decide)]
    refine congrArg own_al (Int32.toInt_inj.mp ?_)
    rw [own_dl_to z2 4 1 (by decide)]
    rw [own_ix_to v 4 15 (by decide) (Or.inl (by decide)) v0.1 v0.2]
    omega
  have p5 : (own_sy v (5 : Int32) (5 : Int32)) = 61 := if_neg (by decide)
  have p6 : (own_sy v (6 : Int32) (5 : Int32)) = 61 := if_neg (by decide)
  have p7 : (own_sy v (7 : Int32) (5 : Int32)) = 61 := if_neg (by decide)
  rw [q0, q1, q2, q3, q4, p5, p6, p7]
theorem own_eq4 {v : Int64} {b0 b1 b2 b3 : Int32} (h0 : 0 ≤ b0.toInt ∧ b0.toInt < 256) (h1 : 0 ≤ b1.toInt ∧ b1.toInt < 256) (h2 : 0 ≤ b2.toInt ∧ b2.toInt < 256) (h3 : 0 ≤ b3.toInt ∧ b3.toInt < 256) (hv : v.toInt = b0.toInt * 4294967296 + b1.toInt * 16777216 + b2.toInt * 65536 + b3.toInt * 256) :
    ([(own_dg (own_bt (0 : Int32) (StrChars.lo8 b0)) (3 : Int32)), (own_dg (own_bt (own_bt (0 : Int32) (StrChars.lo8 b0)) (StrChars.lo8 b1)) (6 : Int32)), (own_dg (own_bt (own_bt (0 : Int32) (StrChars.lo8 b0)) (StrChars.lo8 b1)) (1 : Int32)), (own_dg (own_bt (own_bt (own_bt (0 : Int32) (StrChars.lo8 b0)) (StrChars.lo8 b1)) (StrChars.lo8 b2)) (4 : Int32)), (own_dg (own_bt (own_bt (own_bt (own_bt (0 : Int32) (StrChars.lo8 b0)) (StrChars.lo8 b1)) (StrChars.lo8 b2)) (StrChars.lo8 b3)) (7 : Int32)), (own_dg (own_bt (own_bt (own_bt (own_bt (0 : Int32) (StrChars.lo8 b0)) (StrChars.lo8 b1)) (StrChars.lo8 b2)) (StrChars.lo8 b3)) (2 : Int32)), (own_dl (own_bt (own_bt (own_bt (own_bt (0 : Int32) (StrChars.lo8 b0)) (StrChars.lo8 b1)) (StrChars.lo8 b2)) (StrChars.lo8 b3)) (2 : Int32)), (61 : Int32)] : List Int32) = [(own_sy v (0 : Int32) (7 : Int32)), (own_sy v (1 : Int32) (7 : Int32)), (own_sy v (2 : Int32) (7 : Int32)), (own_sy v (3 : Int32) (7 : Int32)), (own_sy v (4 : Int32) (7 : Int32)), (own_sy v (5 : Int32) (7 : Int32)), (own_sy v (6 : Int32) (7 : Int32)), (own_sy v (7 : Int32) (7 : Int32))] := by
  have t0 := own_bt_to (z := (0 : Int32)) h0.1 h0.2
  generalize own_bt (0 : Int32) (StrChars.lo8 b0) = z0 at *
  have t1 := own_bt_to (z := z0) h1.1 h1.2
  generalize own_bt z0 (StrChars.lo8 b1) = z1 at *
  have t2 := own_bt_to (z := z1) h2.1 h2.2
  generalize own_bt z1 (StrChars.lo8 b2) = z2 at *
  have t3 := own_bt_to (z := z2) h3.1 h3.2
  generalize own_bt z2 (StrChars.lo8 b3) = z3 at *
  have u0 : (0 : Int32).toInt = 0 := rfl
  have v0 : 0 ≤ v.toInt ∧ v.toInt < 1099511627776 := by omega
  have q0 : own_dg z0 (3 : Int32) = (own_sy v (0 : Int32) (7 : Int32)) := by
    rw [show (own_sy v (0 : Int32) (7 : Int32)) = own_al ((((v.toUInt64 >>> (((35 : Int32) - ((5 : Int32) * (0 : Int32))) &&& 0x3f).toInt64.toUInt64).toInt64) &&& (31 : Int64)).toInt32) from if_pos (by decide)]
    refine congrArg own_al (Int32.toInt_inj.mp ?_)
    rw [own_dg_to z0 3 3 (by decide)]
    rw [own_ix_to v 0 35 (by decide) (Or.inl (by decide)) v0.1 v0.2]
    omega
  have q1 : own_dg z1 (6 : Int32) = (own_sy v (1 : Int32) (7 : Int32)) := by
    rw [show (own_sy v (1 : Int32) (7 : Int32)) = own_al ((((v.toUInt64 >>> (((35 : Int32) - ((5 : Int32) * (1 : Int32))) &&& 0x3f).toInt64.toUInt64).toInt64) &&& (31 : Int64)).toInt32) from if_pos (by decide)]
    refine congrArg own_al (Int32.toInt_inj.mp ?_)
    rw [own_dg_to z1 6 6 (by decide)]
    rw [own_ix_to v 1 30 (by decide) (Or.inl (by decide)) v0.1 v0.2]
    omega
  have q2 : own_dg z1 (1 : Int32) = (own_sy v (2 : Int32) (7 : Int32)) := by
    rw [show (own_sy v (2 : Int32) (7 : Int32)) = own_al ((((v.toUInt64 >>> (((35 : Int32) - ((5 : Int32) * (2 : Int32))) &&& 0x3f).toInt64.toUInt64).toInt64) &&& (31 : Int64)).toInt32) from if_pos (by decide)]
    refine congrArg own_al (Int32.toInt_inj.mp ?_)
    rw [own_dg_to z1 1 1 (by decide)]
    rw [own_ix_to v 2 25 (by decide) (Or.inl (by decide)) v0.1 v0.2]
    omega
  have q3 : own_dg z2 (4 : Int32) = (own_sy v (3 : Int32) (7 : Int32)) := by
    rw [show (own_sy v (3 : Int32) (7 : Int32)) = own_al ((((v.toUInt64 >>> (((35 : Int32) - ((5 : Int32) * (3 : Int32))) &&& 0x3f).toInt64.toUInt64).toInt64) &&& (31 : Int64)).toInt32) from if_pos (by decide)]
    refine congrArg own_al (Int32.toInt_inj.mp ?_)
    rw [own_dg_to z2 4 4 (by decide)]
    rw [own_ix_to v 3 20 (by decide) (Or.inl (by decide)) v0.1 v0.2]
    omega
  have q4 : own_dg z3 (7 : Int32) = (own_sy v (4 : Int32) (7 : Int32)) := by
    rw [show (own_sy v (4 : Int32) (7 : Int32)) = own_al ((((v.toUInt64 >>> (((35 : Int32) - ((5 : Int32) * (4 : Int32))) &&& 0x3f).toInt64.toUInt64).toInt64) &&& (31 : Int64)).toInt32) from if_pos (by decide)]
    refine congrArg own_al (Int32.toInt_inj.mp ?_)
    rw [own_dg_to z3 7 7 (by decide)]
    rw [own_ix_to v 4 15 (by decide) (Or.inl (by decide)) v0.1 v0.2]
    omega
  have q5 : own_dg z3 (2 : Int32) = (own_sy v (5 : Int32) (7 : Int32)) := by
    rw [show (own_sy v (5 : Int32) (7 : Int32)) = own_al ((((v.toUInt64 >>> (((35 : Int32) - ((5 : Int32) * (5 : Int32))) &&& 0x3f).toInt64.toUInt64).toInt64) &&& (31 : Int64)).toInt32) from if_pos (by decide)]
    refine congrArg own_al (Int32.toInt_inj.mp ?_)
    rw [own_dg_to z3 2 2 (by decide)]
    rw [own_ix_to v 5 10 (by decide) (Or.inl (by decide)) v0.1 v0.2]
    omega
  have q6 : own_dl z3 (2 : Int32) = (own_sy v (6 : Int32) (7 : Int32)) := by
    rw [show (own_sy v (6 : Int32) (7 : Int32)) = own_al ((((v.toUInt64 >>> (((35 : Int32) - ((5 : Int32) * (6 : Int32))) &&& 0x3f).toInt64.toUInt64).toInt64) &&& (31 : Int64)).toInt32) from if_pos (by decide)]
    refine congrArg own_al (Int32.toInt_inj.mp ?_)
    rw [own_dl_to z3 2 3 (by decide)]
    rw [own_ix_to v 6 5 (by decide) (Or.inl (by decide)) v0.1 v0.2]
    omega
  have p7 : (own_sy v (7 : Int32) (7 : Int32)) = 61 := if_neg (by decide)
  rw [q0, q1, q2, q3, q4, q5, q6, p7]
theorem own_eq5 {v : Int64} {b0 b1 b2 b3 b4 : Int32} (h0 : 0 ≤ b0.toInt ∧ b0.toInt < 256) (h1 : 0 ≤ b1.toInt ∧ b1.toInt < 256) (h2 : 0 ≤ b2.toInt ∧ b2.toInt < 256) (h3 : 0 ≤ b3.toInt ∧ b3.toInt < 256) (h4 : 0 ≤ b4.toInt ∧ b4.toInt < 256) (hv : v.toInt = b0.toInt * 4294967296 + b1.toInt * 16777216 + b2.toInt * 65536 + b3.toInt * 256 + b4.toInt * 1) :
    ([(own_dg (own_bt (0 : Int32) (StrChars.lo8 b0)) (3 : Int32)), (own_dg (own_bt (own_bt (0 : Int32) (StrChars.lo8 b0)) (StrChars.lo8 b1)) (6 : Int32)), (own_dg (own_bt (own_bt (0 : Int32) (StrChars.lo8 b0)) (StrChars.lo8 b1)) (1 : Int32)), (own_dg (own_bt (own_bt (own_bt (0 : Int32) (StrChars.lo8 b0)) (StrChars.lo8 b1)) (StrChars.lo8 b2)) (4 : Int32)), (own_dg (own_bt (own_bt (own_bt (own_bt (0 : Int32) (StrChars.lo8 b0)) (StrChars.lo8 b1)) (StrChars.lo8 b2)) (StrChars.lo8 b3)) (7 : Int32)), (own_dg (own_bt (own_bt (own_bt (own_bt (0 : Int32) (StrChars.lo8 b0)) (StrChars.lo8 b1)) (StrChars.lo8 b2)) (StrChars.lo8 b3)) (2 : Int32)), (own_dg (own_bt (own_bt (own_bt (own_bt (own_bt (0 : Int32) (StrChars.lo8 b0)) (StrChars.lo8 b1)) (StrChars.lo8 b2)) (StrChars.lo8 b3)) (StrChars.lo8 b4)) (5 : Int32)), (own_dg (own_bt (own_bt (own_bt (own_bt (own_bt (0 : Int32) (StrChars.lo8 b0)) (StrChars.lo8 b1)) (StrChars.lo8 b2)) (StrChars.lo8 b3)) (StrChars.lo8 b4)) (0 : Int32))] : List Int32) = [(own_sy v (0 : Int32) (8 : Int32)), (own_sy v (1 : Int32) (8 : Int32)), (own_sy v (2 : Int32) (8 : Int32)), (own_sy v (3 : Int32) (8 : Int32)), (own_sy v (4 : Int32) (8 : Int32)), (own_sy v (5 : Int32) (8 : Int32)), (own_sy v (6 : Int32) (8 : Int32)), (own_sy v (7 : Int32) (8 : Int32))] := by
  have t0 := own_bt_to (z := (0 : Int32)) h0.1 h0.2
  generalize own_bt (0 : Int32) (StrChars.lo8 b0) = z0 at *
  have t1 := own_bt_to (z := z0) h1.1 h1.2
  generalize own_bt z0 (StrChars.lo8 b1) = z1 at *
  have t2 := own_bt_to (z := z1) h2.1 h2.2
  generalize own_bt z1 (StrChars.lo8 b2) = z2 at *
  have t3 := own_bt_to (z := z2) h3.1 h3.2
  generalize own_bt z2 (StrChars.lo8 b3) = z3 at *
  have t4 := own_bt_to (z := z3) h4.1 h4.2
  generalize own_bt z3 (StrChars.lo8 b4) = z4 at *
  have u0 : (0 : Int32).toInt = 0 := rfl
  have v0 : 0 ≤ v.toInt ∧ v.toInt < 1099511627776 := by omega
  have q0 : own_dg z0 (3 : Int32) = (own_sy v (0 : Int32) (8 : Int32)) := by
    rw [show (own_sy v (0 : Int32) (8 : Int32)) = own_al ((((v.toUInt64 >>> (((35 : Int32) - ((5 : Int32) * (0 : Int32))) &&& 0x3f).toInt64.toUInt64).toInt64) &&& (31 : Int64)).toInt32) from if_pos (by decide)]
    refine congrArg own_al (Int32.toInt_inj.mp ?_)
    rw [own_dg_to z0 3 3 (by decide)]
    rw [own_ix_to v 0 35 (by decide) (Or.inl (by decide)) v0.1 v0.2]
    omega
  have q1 : own_dg z1 (6 : Int32) = (own_sy v (1 : Int32) (8 : Int32)) := by
    rw [show (own_sy v (1 : Int32) (8 : Int32)) = own_al ((((v.toUInt64 >>> (((35 : Int32) - ((5 : Int32) * (1 : Int32))) &&& 0x3f).toInt64.toUInt64).toInt64) &&& (31 : Int64)).toInt32) from if_pos (by decide)]
    refine congrArg own_al (Int32.toInt_inj.mp ?_)
    rw [own_dg_to z1 6 6 (by decide)]
    rw [own_ix_to v 1 30 (by decide) (Or.inl (by decide)) v0.1 v0.2]
    omega
  have q2 : own_dg z1 (1 : Int32) = (own_sy v (2 : Int32) (8 : Int32)) := by
    rw [show (own_sy v (2 : Int32) (8 : Int32)) = own_al ((((v.toUInt64 >>> (((35 : Int32) - ((5 : Int32) * (2 : Int32))) &&& 0x3f).toInt64.toUInt64).toInt64) &&& (31 : Int64)).toInt32) from if_pos (by decide)]
    refine congrArg own_al (Int32.toInt_inj.mp ?_)
    rw [own_dg_to z1 1 1 (by decide)]
    rw [own_ix_to v 2 25 (by decide) (Or.inl (by decide)) v0.1 v0.2]
    omega
  have q3 : own_dg z2 (4 : Int32) = (own_sy v (3 : Int32) (8 : Int32)) := by
    rw [show (own_sy v (3 : Int32) (8 : Int32)) = own_al ((((v.toUInt64 >>> (((35 : Int32) - ((5 : Int32) * (3 : Int32))) &&& 0x3f).toInt64.toUInt64).toInt64) &&& (31 : Int64)).toInt32) from if_pos (by decide)]
    refine congrArg own_al (Int32.toInt_inj.mp ?_)
    rw [own_dg_to z2 4 4 (by decide)]
    rw [own_ix_to v 3 20 (by decide) (Or.inl (by decide)) v0.1 v0.2]
    omega
  have q4 : own_dg z3 (7 : Int32) = (own_sy v (4 : Int32) (8 : Int32)) := by
    rw [show (own_sy v (4 : Int32) (8 : Int32)) = own_al ((((v.toUInt64 >>> (((35 : Int32) - ((5 : Int32) * (4 : Int32))) &&& 0x3f).toInt64.toUInt64).toInt64) &&& (31 : Int64)).toInt32) from if_pos (by decide)]
    refine congrArg own_al (Int32.toInt_inj.mp ?_)
    rw [own_dg_to z3 7 7 (by decide)]
    rw [own_ix_to v 4 15 (by decide) (Or.inl (by decide)) v0.1 v0.2]
    omega
  have q5 : own_dg z3 (2 : Int32) = (own_sy v (5 : Int32) (8 : Int32)) := by
    rw [show (own_sy v (5 : Int32) (8 : Int32)) = own_al ((((v.toUInt64 >>> (((35 : Int32) - ((5 : Int32) * (5 : Int32))) &&& 0x3f).toInt64.toUInt64).toInt64) &&& (31 : Int64)).toInt32) from if_pos (by decide)]
    refine congrArg own_al (Int32.toInt_inj.mp ?_)
    rw [own_dg_to z3 2 2 (by decide)]
    rw [own_ix_to v 5 10 (by decide) (Or.inl (by decide)) v0.1 v0.2]
    omega
  have q6 : own_dg z4 (5 : Int32) = (own_sy v (6 : Int32) (8 : Int32)) := by
    rw [show (own_sy v (6 : Int32) (8 : Int32)) = own_al ((((v.toUInt64 >>> (((35 : Int32) - ((5 : Int32) * (6 : Int32))) &&& 0x3f).toInt64.toUInt64).toInt64) &&& (31 : Int64)).toInt32) from if_pos (by decide)]
    refine congrArg own_al (Int32.toInt_inj.mp ?_)
    rw [own_dg_to z4 5 5 (by decide)]
    rw [own_ix_to v 6 5 (by decide) (Or.inl (by decide)) v0.1 v0.2]
    omega
  have q7 : own_dg z4 (0 : Int32) = (own_sy v (7 : Int32) (8 : Int32)) := by
    rw [show (own_sy v (7 : Int32) (8 : Int32)) = own_al ((((v.toUInt64 >>> (((35 : Int32) - ((5 : Int32) * (7 : Int32))) &&& 0x3f).toInt64.toUInt64).toInt64) &&& (31 : Int64)).toInt32) from if_pos (by decide)]
    refine congrArg own_al (Int32.toInt_inj.mp ?_)
    rw [own_dg_to z4 0 0 (by decide)]
    rw [own_ix_to v 7 0 (by decide) (Or.inr ⟨rfl, by decide⟩) v0.1 v0.2]
    omega
  rw [q0, q1, q2, q3, q4, q5, q6, q7]
theorem own_eq6 {v : Int64} {b0 b1 b2 b3 b4 b5 : Int32} (h0 : 0 ≤ b0.toInt ∧ b0.toInt < 256) (h1 : 0 ≤ b1.toInt ∧ b1.toInt < 256) (h2 : 0 ≤ b2.toInt ∧ b2.toInt < 256) (h3 : 0 ≤ b3.toInt ∧ b3.toInt < 256) (h4 : 0 ≤ b4.toInt ∧ b4.toInt < 256) (h5 : 0 ≤ b5.toInt ∧ b5.toInt < 256) (hv : v.toInt = b0.toInt * 4294967296 + b1.toInt * 16777216 + b2.toInt * 65536 + b3.toInt * 256 + b4.toInt * 1) :
    ([(own_dg (own_bt (0 : Int32) (StrChars.lo8 b0)) (3 : Int32)), (own_dg (own_bt (own_bt (0 : Int32) (StrChars.lo8 b0)) (StrChars.lo8 b1)) (6 : Int32)), (own_dg (own_bt (own_bt (0 : Int32) (StrChars.lo8 b0)) (StrChars.lo8 b1)) (1 : Int32)), (own_dg (own_bt (own_bt (own_bt (0 : Int32) (StrChars.lo8 b0)) (StrChars.lo8 b1)) (StrChars.lo8 b2)) (4 : Int32)), (own_dg (own_bt (own_bt (own_bt (own_bt (0 : Int32) (StrChars.lo8 b0)) (StrChars.lo8 b1)) (StrChars.lo8 b2)) (StrChars.lo8 b3)) (7 : Int32)), (own_dg (own_bt (own_bt (own_bt (own_bt (0 : Int32) (StrChars.lo8 b0)) (StrChars.lo8 b1)) (StrChars.lo8 b2)) (StrChars.lo8 b3)) (2 : Int32)), (own_dg (own_bt (own_bt (own_bt (own_bt (own_bt (0 : Int32) (StrChars.lo8 b0)) (StrChars.lo8 b1)) (StrChars.lo8 b2)) (StrChars.lo8 b3)) (StrChars.lo8 b4)) (5 : Int32)), (own_dg (own_bt (own_bt (own_bt (own_bt (own_bt (0 : Int32) (StrChars.lo8 b0)) (StrChars.lo8 b1)) (StrChars.lo8 b2)) (StrChars.lo8 b3)) (StrChars.lo8 b4)) (0 : Int32)), (own_dg (own_bt (own_bt (own_bt (own_bt (own_bt (own_bt (0 : Int32) (StrChars.lo8 b0)) (StrChars.lo8 b1)) (StrChars.lo8 b2)) (StrChars.lo8 b3)) (StrChars.lo8 b4)) (StrChars.lo8 b5)) (3 : Int32)), (own_dl (own_bt (own_bt (own_bt (own_bt (own_bt (own_bt (0 : Int32) (StrChars.lo8 b0)) (StrChars.lo8 b1)) (StrChars.lo8 b2)) (StrChars.lo8 b3)) (StrChars.lo8 b4)) (StrChars.lo8 b5)) (3 : Int32)), (61 : Int32), (61 : Int32), (61 : Int32), (61 : Int32), (61 : Int32), (61 : Int32)] : List Int32) = [(own_sy v (0 : Int32) (8 : Int32)), (own_sy v (1 : Int32) (8 : Int32)), (own_sy v (2 : Int32) (8 : Int32)), (own_sy v (3 : Int32) (8 : Int32)), (own_sy v (4 : Int32) (8 : Int32)), (own_sy v (5 : Int32) (8 : Int32)), (own_sy v (6 : Int32) (8 : Int32)), (own_sy v (7 : Int32) (8 : Int32)), (own_al (b5 >>> ((3 : Int32) &&& 31))), (own_al ((b5 &&& (7 : Int32)) <<< ((2 : Int32) &&& 31))), (61 : Int32), (61 : Int32), (61 : Int32), (61 : Int32), (61 : Int32), (61 : Int32)] := by
  have t0 := own_bt_to (z := (0 : Int32)) h0.1 h0.2
  generalize own_bt (0 : Int32) (StrChars.lo8 b0) = z0 at *
  have t1 := own_bt_to (z := z0) h1.1 h1.2
  generalize own_bt z0 (StrChars.lo8 b1) = z1 at *
  have t2 := own_bt_to (z := z1) h2.1 h2.2
  generalize own_bt z1 (StrChars.lo8 b2) = z2 at *
  have t3 := own_bt_to (z := z2) h3.1 h3.2
  generalize own_bt z2 (StrChars.lo8 b3) = z3 at *
  have t4 := own_bt_to (z := z3) h4.1 h4.2
  generalize own_bt z3 (StrChars.lo8 b4) = z4 at *
  have t5 := own_bt_to (z := z4) h5.1 h5.2
  generalize own_bt z4 (StrChars.lo8 b5) = z5 at *
  have u0 : (0 : Int32).toInt = 0 := rfl
  have v0 : 0 ≤ v.toInt ∧ v.toInt < 1099511627776 := by omega
  have q0 : own_dg z0 (3 : Int32) = (own_sy v (0 : Int32) (8 : Int32)) := by
    rw [show (own_sy v (0 : Int32) (8 : Int32)) = own_al ((((v.toUInt64 >>> (((35 : Int32) - ((5 : Int32) * (0 : Int32))) &&& 0x3f).toInt64.toUInt64).toInt64) &&& (31 : Int64)).toInt32) from if_pos (by decide)]
    refine congrArg own_al (Int32.toInt_inj.mp ?_)
    rw [own_dg_to z0 3 3 (by decide)]
    rw [own_ix_to v 0 35 (by decide) (Or.inl (by decide)) v0.1 v0.2]
    omega
  have q1 : own_dg z1 (6 : Int32) = (own_sy v (1 : Int32) (8 : Int32)) := by
    rw [show (own_sy v (1 : Int32) (8 : Int32)) = own_al ((((v.toUInt64 >>> (((35 : Int32) - ((5 : Int32) * (1 : Int32))) &&& 0x3f).toInt64.toUInt64).toInt64) &&& (31 : Int64)).toInt32) from if_pos (by decide)]
    refine congrArg own_al (Int32.toInt_inj.mp ?_)
    rw [own_dg_to z1 6 6 (by decide)]
    rw [own_ix_to v 1 30 (by decide) (Or.inl (by decide)) v0.1 v0.2]
    omega
  have q2 : own_dg z1 (1 : Int32) = (own_sy v (2 : Int32) (8 : Int32)) := by
    rw [show (own_sy v (2 : Int32) (8 : Int32)) = own_al ((((v.toUInt64 >>> (((35 : Int32) - ((5 : Int32) * (2 : Int32))) &&& 0x3f).toInt64.toUInt64).toInt64) &&& (31 : Int64)).toInt32) from if_pos (by decide)]
    refine congrArg own_al (Int32.toInt_inj.mp ?_)
    rw [own_dg_to z1 1 1 (by decide)]
    rw [own_ix_to v 2 25 (by decide) (Or.inl (by decide)) v0.1 v0.2]
    omega
  have q3 : own_dg z2 (4 : Int32) = (own_sy v (3 : Int32) (8 : Int32)) := by
    rw [show (own_sy v (3 : Int32) (8 : Int32)) = own_al ((((v.toUInt64 >>> (((35 : Int32) - ((5 : Int32) * (3 : Int32))) &&& 0x3f).toInt64.toUInt64).toInt64) &&& (31 : Int64)).toInt32) from if_pos (by decide)]
    refine congrArg own_al (Int32.toInt_inj.mp ?_)
    rw [own_dg_to z2 4 4 (by decide)]
    rw [own_ix_to v 3 20 (by decide) (Or.inl (by decide)) v0.1 v0.2]
    omega
  have q4 : own_dg z3 (7 : Int32) = (own_sy v (4 : Int32) (8 : Int32)) := by
    rw [show (own_sy v (4 : Int32) (8 : Int32)) = own_al ((((v.toUInt64 >>> (((35 : Int32) - ((5 : Int32) * (4 : Int32))) &&& 0x3f).toInt64.toUInt64).toInt64) &&& (31 : Int64)).toInt32) from if_pos (by decide)]
    refine congrArg own_al (Int32.toInt_inj.mp ?_)
    rw [own_dg_to z3 7 7 (by decide)]
    rw [own_ix_to v 4 15 (by decide) (Or.inl (by decide)) v0.1 v0.2]
    omega
  have q5 : own_dg z3 (2 : Int32) = (own_sy v (5 : Int32) (8 : Int32)) := by
    rw [show (own_sy v (5 : Int32) (8 : Int32)) = own_al ((((v.toUInt64 >>> (((35 : Int32) - ((5 : Int32) * (5 : Int32))) &&& 0x3f).toInt64.toUInt64).toInt64) &&& (31 : Int64)).toInt32) from if_pos (by decide)]
    refine congrArg own_al (Int32.toInt_inj.mp ?_)
    rw [own_dg_to z3 2 2 (by decide)]
    rw [own_ix_to v 5 10 (by decide) (Or.inl (by decide)) v0.1 v0.2]
    omega
  have q6 : own_dg z4 (5 : Int32) = (own_sy v (6 : Int32) (8 : Int32)) := by
    rw [show (own_sy v (6 : Int32) (8 : Int32)) = own_al ((((v.toUInt64 >>> (((35 : Int32) - ((5 : Int32) * (6 : Int32))) &&& 0x3f).toInt64.toUInt64).toInt64) &&& (31 : Int64)).toInt32) from if_pos (by decide)]
    refine congrArg own_al (Int32.toInt_inj.mp ?_)
    rw [own_dg_to z4 5 5 (by decide)]
    rw [own_ix_to v 6 5 (by decide) (Or.inl (by decide)) v0.1 v0.2]
    omega
  have q7 : own_dg z4 (0 : Int32) = (own_sy v (7 : Int32) (8 : Int32)) := by
    rw [show (own_sy v (7 : Int32) (8 : Int32)) = own_al ((((v.toUInt64 >>> (((35 : Int32) - ((5 : Int32) * (7 : Int32))) &&& 0x3f).toInt64.toUInt64).toInt64) &&& (31 : Int64)).toInt32) from if_pos (by decide)]
    refine congrArg own_al (Int32.toInt_inj.mp ?_)
    rw [own_dg_to z4 0 0 (by decide)]
    rw [own_ix_to v 7 0 (by decide) (Or.inr ⟨rfl, by decide⟩) v0.1 v0.2]
    omega
  have q8 : own_dg z5 (3 : Int32) = (own_al (b5 >>> ((3 : Int32) &&& 31))) := by
    refine congrArg own_al (Int32.toInt_inj.mp ?_)
    rw [own_dg_to z5 3 3 (by decide)]
    rw [c_ishr b5 3 3 (by decide)]
    omega
  have q9 : own_dl z5 (3 : Int32) = (own_al ((b5 &&& (7 : Int32)) <<< ((2 : Int32) &&& 31))) := by
    refine congrArg own_al (Int32.toInt_inj.mp ?_)
    rw [own_dl_to z5 3 2 (by decide)]
    have r1 := c_mask b5 7 3 (by decide) (by decide)
    have r2 := c_ishl (b5 &&& (7 : Int32)) 2 2 (by decide)
    have r3 := rng32 ((b5 &&& (7 : Int32)) <<< ((2 : Int32) &&& 31))
    omega
  rw [q0, q1, q2, q3, q4, q5, q6, q7, q8, q9]
theorem own_wEmp : ∀ d ∈ StrChars.Road.wordsEmp, d ∈ tables_1 := by decide +kernel
def own_EM (i : Int32) (h : Heap) (n0 : Nat) (v : Option Value) (h' : Heap) (L : List Loc) : Prop := v = some (.int i) ∧ h' = h ∧ Fr n0 L
theorem own_empB {p : Program} {l : Launch} {e : Env} {R : Room} {s : State} {args : Array Value} {below : List Frame} {W : Nat} {Z : State} {a0 : Array Value} {h : Heap} {n0 : Nat} (hZ : Z.Warmed39 s.vm) (hw : ∀ d ∈ tables_1, d.before a0 Z = true)
    {x t : Addr} {kb : ClassId} {N2 : Int32} {vs : List Value} (E : Exa Z h x "java/lang/String") (V : Fld Z h x "java/lang/String" "value" "[B" (.ref t)) (C : Fld Z h x "java/lang/String" "coder" "B" (.int 0)) (K : Arv Z h t kb .byte N2 vs (.int 0)) (hc : StrChars.Road.CodA [] 0 N2 vs) (hfr : 1 ≤ R.frames) (hlo : W + 12 ≤ R.locals) :
    Back l R p e below s args (⟨"java/lang/String", "isEmpty", "()Z"⟩ : MethodName) 3 W (fun P a => a = #[.ref x] ∧ P.U.heap = h ∧ P.cells + 0 ≤ R.cells ∧ P.slots + 0 ≤ R.slots)
      (fun P _ v B => ∃ L, own_EM 1 h n0 v B.U.heap L ∧ B.locs = P.locs ++ L ∧ B.cells = P.cells + 0 ∧ B.slots = P.slots + 0) :=
  Back.mono (StrChars.Road.empW hZ (fun d hd => hw d (own_wEmp d hd)) (kI := 4) (own_w hw 75 rfl) E V C K hc own_a0 (by decide) hfr hlo) (fun _ _ q => q) (fun P a v B _ hq => by
    obtain ⟨L, ⟨q1, q2, q3⟩, r⟩ := hq
    exact ⟨L, ⟨q1, q3, by rw [q2]; exact Fr.nil _⟩, r⟩)
theorem own_61 : ¬ (61 : Int32) < 0 ∧ ¬ (255 : Int32) < (61 : Int32) := by decide
theorem own_bq8 {b : Int32} (h : 0 ≤ b.toInt ∧ b.toInt < 256) : 0 ≤ (b >>> ((3 : Int32) &&& 31)).toInt ∧ (b >>> ((3 : Int32) &&& 31)).toInt < 32 := by
  rw [c_ishr b 3 3 (by decide)]; omega
theorem own_bq9 {b : Int32} (h : 0 ≤ b.toInt ∧ b.toInt < 256) : 0 ≤ ((b &&& (7 : Int32)) <<< ((2 : Int32) &&& 31)).toInt ∧ ((b &&& (7 : Int32)) <<< ((2 : Int32) &&& 31)).toInt < 32 := by
  have r1 := c_mask b 7 3 (by decide) (by decide)
  have r2 := c_ishl (b &&& (7 : Int32)) 2 2 (by decide)
  have r3 := rng32 ((b &&& (7 : Int32)) <<< ((2 : Int32) &&& 31))
  omega
theorem pd__JII_C : parseMethodDescriptor "(JII)C" = some ⟨[.long, .int, .int], some .char⟩ := by decide +kernel
theorem pd___C_V : parseMethodDescriptor "([C)V" = some ⟨[(.array .char)], none⟩ := by decide +kernel
theorem pd__Ljava_lang_Object__Z : parseMethodDescriptor "(Ljava/lang/Object;)Z" = some ⟨[(.object "java/lang/Object")], some .boolean⟩ := by decide +kernel
theorem pd__II_I : parseMethodDescriptor "(II)I" = some ⟨[.int, .int], some .int⟩ := by decide +kernel
theorem pd___B_Ljava_lang_String_ : parseMethodDescriptor "([B)Ljava/lang/String;" = some ⟨[(.array .byte)], some (.object "java/lang/String")⟩ := by decide +kernel
theorem own_or {args : Array Value} {s : State} {idx : List Nat} {a b : Cond} (h : (Cond.or a b).value args s none s idx = some true) : a.value args s none s idx = some true ∨ b.value args s none s idx = some true := by
  simp only [Cond.value] at h
  split at h
  · exact Or.inr h
  · exact Or.inl h
theorem own_elm {args : Array Value} {s : State} {t : Term} {al : Addr} {c : Cell} {k : Nat} {q : Int64} {z : Int32} (et : t.eval args s none [k] s = some (.ref al)) (hA : s.arrayAt? al = some c) (hk : k < 32)
    (h : (Cond.eq (.op1 .i2l (.elem t (.index 0))) (.op2 .ladd (.op1 .i2l (.index 0)) (.long q))).value args s none s [k] = some true) (hz : (Int32.ofNat k).toInt64 + q = z.toInt64) : c.slots[k]? = some (.int z) := by
  have nn : ¬ Int32.ofNat k < 0 := by
    rw [Int32.lt_iff_toInt_lt, Int32.toInt_ofNat_of_lt (by omega), show (0 : Int32).toInt = 0 from rfl]; omega
  have ck : (Int32.ofNat k).toNatClampNeg = k := Int32.toNatClampNeg_ofNat_of_lt (by omega)
  have ei : (Term.index 0).eval args s none [k] s = some (.int (Int32.ofNat k)) := by
    have q := idx_at (s := s) (args := args) (first := s) (o := none) nn
    rw [ck] at q; exact q
  have el := i2l_at (Z := s) ei
  have er : (Term.op2 .ladd (.op1 .i2l (.index 0)) (.long q)).eval args s none [k] s = some (.long ((Int32.ofNat k).toInt64 + q)) := by
    rw [Term.eval, el]; rfl
  have e1 := eqv_l er h
  have e2 := elem_f et ei hA nn
  rw [ck] at e2
  rw [Term.eval, e2] at e1
  cases hs : c.slots[k]? with
  | none => rw [hs] at e1; simp at e1
  | some v =>
    rw [hs] at e1
    cases v <;> simp [Unary.apply] at e1
    rename_i x
    rw [hz] at e1
    have : x = z := Int32.toInt_inj.mp (by rw [← Int32.toInt_toInt64 x, ← Int32.toInt_toInt64 z, e1])
    rw [this]
theorem own_alph {args : Array Value} {s : State} (hn : narrow_1.value args s none s [] = some true) : ∃ (al : Addr) (kal : ClassId), (Term.static "com/example/grawl/grawl/util/Base32" "ALPHABET" "[C").eval args s none [] s = some (.ref al) ∧ Arv s s.heap al kal .char (32 : Int32) own_alist (.int 0) := by
  unfold narrow_1 at hn
  obtain ⟨n1, n2⟩ := and_e hn
  obtain ⟨n2, n3⟩ := and_e n2
  obtain ⟨n3, n4⟩ := and_e n3
  obtain ⟨al, eal⟩ := arr_v n1
  obtain ⟨c, A⟩ := Arr.start eal n1
  have hA := A.fin (Vm.Alike.refl _)
  have el := own_eqv n2
  have hsz : c.slots.size = 32 := by
    by_cases q : c.slots.size < 2 ^ 31
    · rw [len_f eal hA q] at el
      have e1 : c.slots.size.toInt32 = 32 := by simpa using el
      have e2 := congrArg Int32.toInt e1
      have e3 : c.slots.size.toInt32.toInt = c.slots.size := Int32.toInt_ofNat_of_lt q
      rw [e3, show (32 : Int32).toInt = 32 from rfl] at e2
      omega
    · exfalso
      rw [Term.eval, eal] at el
      simp [hA, q] at el
  have key : ∀ k, k < 32 → c.slots[k]? = some (.int (own_al (Int32.ofNat k))) := by
    intro k hk
    have ek : (Term.static "com/example/grawl/grawl/util/Base32" "ALPHABET" "[C").eval args s none [k] s = some (.ref al) := eal
    have t1 : ∀ k : Fin 32, k.val < 26 → ¬ (26 : Int32) ≤ Int32.ofNat k.val ∧ (Int32.ofNat k.val).toInt64 + 65 = (own_al (Int32.ofNat k.val)).toInt64 := by decide +kernel
    have t2 : ∀ k : Fin 32, ¬ k.val < 26 → ¬ Int32.ofNat k.val < (26 : Int32) ∧ (Int32.ofNat k.val).toInt64 + 24 = (own_al (Int32.ofNat k.val)).toInt64 := by decide +kernel
    by_cases h26 : k < 26
    · obtain ⟨u1, u2⟩ := t1 ⟨k, hk⟩ h26
      rcases own_or (Cond.all_elim eal hA n3 k (by omega)) with r | r
      · exfalso
        simp [Cond.value, Term.eval] at r
        exact u1 r
      · exact own_elm ek hA hk r u2
    · obtain ⟨u1, u2⟩ := t2 ⟨k, hk⟩ h26
      rcases own_or (Cond.all_elim eal hA n4 k (by omega)) with r | r
      · exfalso
        simp [Cond.value, Term.eval] at r
        exact u1 r
      · exact own_elm ek hA hk r u2
  refine ⟨al, c.cls, eal, c, A, rfl, by rw [hsz]; rfl, by decide, fun k hk => ?_, fun k hk => ?_⟩
  · rw [hsz] at hk
    rw [key k hk]
    simp [own_alist, List.getD_eq_getElem?_getD, hk]
  · rw [hsz] at hk
    have t : ∀ k : Fin 32, fits .char (own_alist.getD k.val (.int 0)) = true := by decide +kernel
    exact t ⟨k, hk⟩
set_option maxRecDepth 65536 in
set_option maxHeartbeats 40000000 in
theorem rm0 (l : Launch) (Z : State) (a0 : Array Value) (hw : ∀ d ∈ tables_1, d.before a0 Z = true) (ws : List Jvm.Cond) (q : Int64) (p2 : Int32) (p3 : Int32) (zC : Int32) (al : Addr) (kal : ClassId) (dal : Value) (h0 : Heap) (n0 : Nat) (Z0 : n0 ≤ h0.size) (S2 : Sta Z Z.heap "java/lang/String" "COMPACT_STRINGS" "Z" (.int zC)) (hzC : ¬ zC = 0) (OL : Old Z n0 h0) (SAl : Sta Z Z.heap "com/example/grawl/grawl/util/Base32" "ALPHABET" "[C" (.ref al)) (V_al : Arv Z h0 al kal .char (32 : Int32) own_alist dal) :
    MetFree l x (head1 (Jvm.Cond.code x code maxLocals ret :: ws) room_1) (fun a U => a = #[(.long q), (.int p2), (.int p3)] ∧ Z.Warmed39 U.vm ∧ U.heap = h0) (fun _ _ _ _ _ => True) (fun _ U o U' => ∃ v L, o = .returned v ∧ ((fun v h => v = some (Value.int (1 : Int32))) v U'.heap ∧ Fr n0 L) ∧ FrameEnd U o U' L room_1.cells room_1.slots) := by
  refine OwM.of (Q := fun v h => v = some (Value.int (1 : Int32))) (plainFor_of_name pn_com_example_grawl_grawl_util_Base32EncodePinLaw) ?_
  intro p e s m below meth cD T hx hby hml hown hnm hret hlk hZ P
  have dc := @Jvm.hb cD _ hby
  replace hml : cD.maxLocals = 18 := hml
  replace hown : s.vm.findClass "com/example/grawl/grawl/util/Base32EncodePinLaw" = some m.cls := hown
  refine OwG.cast (show entryFrame m #[(.long q), (.int p2), (.int p3)] maxLocals = mkF m 0 #[.val (.long q), .second, .val (.int p2), .val (.int p3), .unset, .unset, .unset, .unset, .unset, .unset, .unset, .unset, .unset, .unset, .unset, .unset, .unset, .unset] [] from by first | (simp [entryFrame, mkF, argsToLocals, Value.category, maxLocals]; done) | rfl) ?_
  refine OwG.ac (mkF m 1 #[.val (.long q), .second, .val (.int p2), .val (.int p3), .unset, .unset, .unset, .unset, .unset, .unset, .unset, .unset, .unset, .unset, .unset, .unset, .unset, .unset] [(.int p3)]) (fun tQ kQ => ?_) ?_
  · exact XS.iloadN P.here hx rfl (dc at_0) rfl kQ
  obtain ⟨own_L, own_X, own_rest⟩ := id P
  refine OwG.ac (mkF m 6 #[.val (.long q), .second, .val (.int p2), .val (.int p3), .unset, .unset, .unset, .unset, .unset, .unset, .unset, .unset, .unset, .unset, .unset, .unset, .unset, .unset] [(.int 7), (.int (p3 &&& (2147483647 : Int32)))]) (fun tQ kQ => ?_) ?_
  · refine own_X.ldcInt hx hown (mvT hZ (own_w hw 0 rfl)) (g := (mkF m 1 #[.val (.long q), .second, .val (.int p2), .val (.int p3), .unset, .unset, .unset, .unset, .unset, .unset, .unset, .unset, .unset, .unset, .unset, .unset, .unset, .unset] [(.int p3)])) rfl (dc at_1) _ ?_
    refine XS.iand P.here hx rfl (dc at_3) rfl ?_
    exact XS.bipush P.here hx rfl (dc at_4) kQ
  obtain ⟨own_L, own_X, own_rest⟩ := id P
  refine OwG.ac (mkF m 7 #[.val (.long q), .second, .val (.int p2), .val (.int p3), .unset, .unset, .unset, .unset, .unset, .unset, .unset, .unset, .unset, .unset, .unset, .unset, .unset, .unset] [(.int ((p3 &&& (2147483647 : Int32)) % (7 : Int32)))]) (fun tQ kQ => ?_) ?_
  · exact Jvm.RoadKit.iremM (g := (mkF m 6 #[.val (.long q), .second, .val (.int p2), .val (.int p3), .unset, .unset, .unset, .unset, .unset, .unset, .unset, .unset, .unset, .unset, .unset, .unset, .unset, .unset] [(.int 7), (.int (p3 &&& (2147483647 : Int32)))])) own_X hx rfl (dc at_6) rfl (by decide) kQ
  obtain ⟨nn, e_nn, h_nn⟩ : ∃ z : Int32, ((p3 &&& (2147483647 : Int32)) % (7 : Int32)) = z ∧ (z = 0 ∨ z = 1 ∨ z = 2 ∨ z = 3 ∨ z = 4 ∨ z = 5 ∨ z = 6) := ⟨_, rfl, own_n7 _⟩
  rw [show ((p3 &&& (2147483647 : Int32)) % (7 : Int32)) = nn from e_nn]
  show OwG p e below s _ _ _ _ T (mkF m 7 #[.val (.long q), .second, .val (.int p2), .val (.int p3), .unset, .unset, .unset, .unset, .unset, .unset, .unset, .unset, .unset, .unset, .unset, .unset, .unset, .unset] [(.int nn)])
  refine OwG.ac (mkF m 10 #[.val (.long q), .second, .val (.int p2), .val (.int p3), .val (.int nn), .unset, .unset, .unset, .unset, .unset, .unset, .unset, .unset, .unset, .unset, .unset, .unset, .unset] [(.long q)]) (fun tQ kQ => ?_) ?_
  · refine XS.istore P.here hx rfl (dc at_7) rfl (l' := #[.val (.long q), .second, .val (.int p2), .val (.int p3), .val (.int nn), .unset, .unset, .unset, .unset, .unset, .unset, .unset, .unset, .unset, .unset, .unset, .unset, .unset]) rfl ?_
    exact XS.lloadN P.here hx rfl (dc at_9) rfl kQ
  obtain ⟨own_L, own_X, own_rest⟩ := id P
  refine OwG.ac (mkF m 15 #[.val (.long q), .second, .val (.int p2), .val (.int p3), .val (.int nn), .unset, .unset, .unset, .unset, .unset, .unset, .unset, .unset, .unset, .unset, .unset, .unset, .unset] [(.int ((q &&& (255 : Int64)).toInt32))]) (fun tQ kQ => ?_) ?_
  · refine own_X.ldc2Long hx hown (mvT hZ (own_w hw 1 rfl)) (g := (mkF m 10 #[.val (.long q), .second, .val (.int p2), .val (.int p3), .val (.int nn), .unset, .unset, .unset, .unset, .unset, .unset, .unset, .unset, .unset, .unset, .unset, .unset, .unset] [(.long q)])) rfl (dc at_10) _ ?_
    refine XS.land P.here hx rfl (dc at_13) rfl ?_
    exact XS.l2i P.here hx rfl (dc at_14) rfl kQ
  obtain ⟨b0, e_b0, h_b0⟩ : ∃ z : Int32, ((q &&& (255 : Int64)).toInt32) = z ∧ (0 ≤ z.toInt ∧ z.toInt < 256) := ⟨_, rfl, own_byb _⟩
  rw [show ((q &&& (255 : Int64)).toInt32) = b0 from e_b0]
  show OwG p e below s _ _ _ _ T (mkF m 15 #[.val (.long q), .second, .val (.int p2), .val (.int p3), .val (.int nn), .unset, .unset, .unset, .unset, .unset, .unset, .unset, .unset, .unset, .unset, .unset, .unset, .unset] [(.int b0)])
  refine OwG.ac (mkF m 21 #[.val (.long q), .second, .val (.int p2), .val (.int p3), .val (.int nn), .val (.int b0), .unset, .unset, .unset, .unset, .unset, .unset, .unset, .unset, .unset, .unset, .unset, .unset] [(.long ((q.toUInt64 >>> ((8 : Int32) &&& 0x3f).toInt64.toUInt64).toInt64))]) (fun tQ kQ => ?_) ?_
  · refine XS.istore P.here hx rfl (dc at_15) rfl (l' := #[.val (.long q), .second, .val (.int p2), .val (.int p3), .val (.int nn), .val (.int b0), .unset, .unset, .unset, .unset, .unset, .unset, .unset, .unset, .unset, .unset, .unset, .unset]) rfl ?_
    refine XS.lloadN P.here hx rfl (dc at_17) rfl ?_
    refine XS.bipush P.here hx rfl (dc at_18) ?_
    exact XS.lushr P.here hx rfl (dc at_20) rfl kQ
  obtain ⟨own_L, own_X, own_rest⟩ := id P
  refine OwG.ac (mkF m 26 #[.val (.long q), .second, .val (.int p2), .val (.int p3), .val (.int nn), .val (.int b0), .unset, .unset, .unset, .unset, .unset, .unset, .unset, .unset, .unset, .unset, .unset, .unset] [(.int ((((q.toUInt64 >>> ((8 : Int32) &&& 0x3f).toInt64.toUInt64).toInt64) &&& (255 : Int64)).toInt32))]) (fun tQ kQ => ?_) ?_
  · refine own_X.ldc2Long hx hown (mvT hZ (own_w hw 1 rfl)) (g := (mkF m 21 #[.val (.long q), .second, .val (.int p2), .val (.int p3), .val (.int nn), .val (.int b0), .unset, .unset, .unset, .unset, .unset, .unset, .unset, .unset, .unset, .unset, .unset, .unset] [(.long ((q.toUInt64 >>> ((8 : Int32) &&& 0x3f).toInt64.toUInt64).toInt64))])) rfl (dc at_21) _ ?_
    refine XS.land P.here hx rfl (dc at_24) rfl ?_
    exact XS.l2i P.here hx rfl (dc at_25) rfl kQ
  obtain ⟨b1, e_b1, h_b1⟩ : ∃ z : Int32, ((((q.toUInt64 >>> ((8 : Int32) &&& 0x3f).toInt64.toUInt64).toInt64) &&& (255 : Int64)).toInt32) = z ∧ (0 ≤ z.toInt ∧ z.toInt < 256) := ⟨_, rfl, own_byb _⟩
  rw [show ((((q.toUInt64 >>> ((8 : Int32) &&& 0x3f).toInt64.toUInt64).toInt64) &&& (255 : Int64)).toInt32) = b1 from e_b1]
  show OwG p e below s _ _ _ _ T (mkF m 26 #[.val (.long q), .second, .val (.int p2), .val (.int p3), .val (.int nn), .val (.int b0), .unset, .unset, .unset, .unset, .unset, .unset, .unset, .unset, .unset, .unset, .unset, .unset] [(.int b1)])
  refine OwG.ac (mkF m 32 #[.val (.long q), .second, .val (.int p2), .val (.int p3), .val (.int nn), .val (.int b0), .val (.int b1), .unset, .unset, .unset, .unset, .unset, .unset, .unset, .unset, .unset, .unset, .unset] [(.long ((q.toUInt64 >>> ((16 : Int32) &&& 0x3f).toInt64.toUInt64).toInt64))]) (fun tQ kQ => ?_) ?_
  · refine XS.istore P.here hx rfl (dc at_26) rfl (l' := #[.val (.long q), .second, .val (.int p2), .val (.int p3), .val (.int nn), .val (.int b0), .val (.int b1), .unset, .unset, .unset, .unset, .unset, .unset, .unset, .unset, .unset, .unset, .unset]) rfl ?_
    refine XS.lloadN P.here hx rfl (dc at_28) rfl ?_
    refine XS.bipush P.here hx rfl (dc at_29) ?_
    exact XS.lushr P.here hx rfl (dc at_31) rfl kQ
  obtain ⟨own_L, own_X, own_rest⟩ := id P
  refine OwG.ac (mkF m 37 #[.val (.long q), .second, .val (.int p2), .val (.int p3), .val (.int nn), .val (.int b0), .val (.int b1), .unset, .unset, .unset, .unset, .unset, .unset, .unset, .unset, .unset, .unset, .unset] [(.int ((((q.toUInt64 >>> ((16 : Int32) &&& 0x3f).toInt64.toUInt64).toInt64) &&& (255 : Int64)).toInt32))]) (fun tQ kQ => ?_) ?_
  · refine own_X.ldc2Long hx hown (mvT hZ (own_w hw 1 rfl)) (g := (mkF m 32 #[.val (.long q), .second, .val (.int p2), .val (.int p3), .val (.int nn), .val (.int b0), .val (.int b1), .unset, .unset, .unset, .unset, .unset, .unset, .unset, .unset, .unset, .unset, .unset] [(.long ((q.toUInt64 >>> ((16 : Int32) &&& 0x3f).toInt64.toUInt64).toInt64))])) rfl (dc at_32) _ ?_
    refine XS.land P.here hx rfl (dc at_35) rfl ?_
    exact XS.l2i P.here hx rfl (dc at_36) rfl kQ
  obtain ⟨b2, e_b2, h_b2⟩ : ∃ z : Int32, ((((q.toUInt64 >>> ((16 : Int32) &&& 0x3f).toInt64.toUInt64).toInt64) &&& (255 : Int64)).toInt32) = z ∧ (0 ≤ z.toInt ∧ z.toInt < 256) := ⟨_, rfl, own_byb _⟩
  rw [show ((((q.toUInt64 >>> ((16 : Int32) &&& 0x3f).toInt64.toUInt64).toInt64) &&& (255 : Int64)).toInt32) = b2 from e_b2]
  show OwG p e below s _ _ _ _ T (mkF m 37 #[.val (.long q), .second, .val (.int p2), .val (.int p3), .val (.int nn), .val (.int b0), .val (.int b1), .unset, .unset, .unset, .unset, .unset, .unset, .unset, .unset, .unset, .unset, .unset] [(.int b2)])
  refine OwG.ac (mkF m 43 #[.val (.long q), .second, .val (.int p2), .val (.int p3), .val (.int nn), .val (.int b0), .val (.int b1), .val (.int b2), .unset, .unset, .unset, .unset, .unset, .unset, .unset, .unset, .unset, .unset] [(.long ((q.toUInt64 >>> ((24 : Int32) &&& 0x3f).toInt64.toUInt64).toInt64))]) (fun tQ kQ => ?_) ?_
  · refine XS.istore P.here hx rfl (dc at_37) rfl (l' := #[.val (.long q), .second, .val (.int p2), .val (.int p3), .val (.int nn), .val (.int b0), .val (.int b1), .val (.int b2), .unset, .unset, .unset, .unset, .unset, .unset, .unset, .unset, .unset, .unset]) rfl ?_
    refine XS.lloadN P.here hx rfl (dc at_39) rfl ?_
    refine XS.bipush P.here hx rfl (dc at_40) ?_
    exact XS.lushr P.here hx rfl (dc at_42) rfl kQ
  obtain ⟨own_L, own_X, own_rest⟩ := id P
  refine OwG.ac (mkF m 48 #[.val (.long q), .second, .val (.int p2), .val (.int p3), .val (.int nn), .val (.int b0), .val (.int b1), .val (.int b2), .unset, .unset, .unset, .unset, .unset, .unset, .unset, .unset, .unset, .unset] [(.int ((((q.toUInt64 >>> ((24 : Int32) &&& 0x3f).toInt64.toUInt64).toInt64) &&& (255 : Int64)).toInt32))]) (fun tQ kQ => ?_) ?_
  · refine own_X.ldc2Long hx hown (mvT hZ (own_w hw 1 rfl)) (g := (mkF m 43 #[.val (.long q), .second, .val (.int p2), .val (.int p3), .val (.int nn), .val (.int b0), .val (.int b1), .val (.int b2), .unset, .unset, .unset, .unset, .unset, .unset, .unset, .unset, .unset, .unset] [(.long ((q.toUInt64 >>> ((24 : Int32) &&& 0x3f).toInt64.toUInt64).toInt64))])) rfl (dc at_43) _ ?_
    refine XS.land P.here hx rfl (dc at_46) rfl ?_
    exact XS.l2i P.here hx rfl (dc at_47) rfl kQ
  obtain ⟨b3, e_b3, h_b3⟩ : ∃ z : Int32, ((((q.toUInt64 >>> ((24 : Int32) &&& 0x3f).toInt64.toUInt64).toInt64) &&& (255 : Int64)).toInt32) = z ∧ (0 ≤ z.toInt ∧ z.toInt < 256) := ⟨_, rfl, own_byb _⟩
  rw [show ((((q.toUInt64 >>> ((24 : Int32) &&& 0x3f).toInt64.toUInt64).toInt64) &&& (255 : Int64)).toInt32) = b3 from e_b3]
  show OwG p e below s _ _ _ _ T (mkF m 48 #[.val (.long q), .second, .val (.int p2), .val (.int p3), .val (.int nn), .val (.int b0), .val (.int b1), .val (.int b2), .unset, .unset, .unset, .unset, .unset, .unset, .unset, .unset, .unset, .unset] [(.int b3)])
  refine OwG.ac (mkF m 54 #[.val (.long q), .second, .val (.int p2), .val (.int p3), .val (.int nn), .val (.int b0), .val (.int b1), .val (.int b2), .val (.int b3), .unset, .unset, .unset, .unset, .unset, .unset, .unset, .unset, .unset] [(.long ((q.toUInt64 >>> ((32 : Int32) &&& 0x3f).toInt64.toUInt64).toInt64))]) (fun tQ kQ => ?_) ?_
  · refine XS.istore P.here hx rfl (dc at_48) rfl (l' := #[.val (.long q), .second, .val (.int p2), .val (.int p3), .val (.int nn), .val (.int b0), .val (.int b1), .val (.int b2), .val (.int b3), .unset, .unset, .unset, .unset, .unset, .unset, .unset, .unset, .unset]) rfl ?_
    refine XS.lloadN P.here hx rfl (dc at_50) rfl ?_
    refine XS.bipush P.here hx rfl (dc at_51) ?_
    exact XS.lushr P.here hx rfl (dc at_53) rfl kQ
  obtain ⟨own_L, own_X, own_rest⟩ := id P
  refine OwG.ac (mkF m 59 #[.val (.long q), .second, .val (.int p2), .val (.int p3), .val (.int nn), .val (.int b0), .val (.int b1), .val (.int b2), .val (.int b3), .unset, .unset, .unset, .unset, .unset, .unset, .unset, .unset, .unset] [(.int ((((q.toUInt64 >>> ((32 : Int32) &&& 0x3f).toInt64.toUInt64).toInt64) &&& (255 : Int64)).toInt32))]) (fun tQ kQ => ?_) ?_
  · refine own_X.ldc2Long hx hown (mvT hZ (own_w hw 1 rfl)) (g := (mkF m 54 #[.val (.long q), .second, .val (.int p2), .val (.int p3), .val (.int nn), .val (.int b0), .val (.int b1), .val (.int b2), .val (.int b3), .unset, .unset, .unset, .unset, .unset, .unset, .unset, .unset, .unset] [(.long ((q.toUInt64 >>> ((32 : Int32) &&& 0x3f).toInt64.toUInt64).toInt64))])) rfl (dc at_54) _ ?_
    refine XS.land P.here hx rfl (dc at_57) rfl ?_
    exact XS.l2i P.here hx rfl (dc at_58) rfl kQ
  obtain ⟨b4, e_b4, h_b4⟩ : ∃ z : Int32, ((((q.toUInt64 >>> ((32 : Int32) &&& 0x3f).toInt64.toUInt64).toInt64) &&& (255 : Int64)).toInt32) = z ∧ (0 ≤ z.toInt ∧ z.toInt < 256) := ⟨_, rfl, own_byb _⟩
  rw [show ((((q.toUInt64 >>> ((32 : Int32) &&& 0x3f).toInt64.toUInt64).toInt64) &&& (255 : Int64)).toInt32) = b4 from e_b4]
  show OwG p e below s _ _ _ _ T (mkF m 59 #[.val (.long q), .second, .val (.int p2), .val (.int p3), .val (.int nn), .val (.int b0), .val (.int b1), .val (.int b2), .val (.int b3), .unset, .unset, .unset, .unset, .unset, .unset, .unset, .unset, .unset] [(.int b4)])
  refine OwG.ac (mkF m 66 #[.val (.long q), .second, .val (.int p2), .val (.int p3), .val (.int nn), .val (.int b0), .val (.int b1), .val (.int b2), .val (.int b3), .val (.int b4), .unset, .unset, .unset, .unset, .unset, .unset, .unset, .unset] [(.int (p2 &&& (255 : Int32)))]) (fun tQ kQ => ?_) ?_
  · refine XS.istore P.here hx rfl (dc at_59) rfl (l' := #[.val (.long q), .second, .val (.int p2), .val (.int p3), .val (.int nn), .val (.int b0), .val (.int b1), .val (.int b2), .val (.int b3), .val (.int b4), .unset, .unset, .unset, .unset, .unset, .unset, .unset, .unset]) rfl ?_
    refine XS.iloadN P.here hx rfl (dc at_61) rfl ?_
    refine XS.sipush P.here hx rfl (dc at_62) ?_
    exact XS.iand P.here hx rfl (dc at_65) rfl kQ
  obtain ⟨b5, e_b5, h_b5⟩ : ∃ z : Int32, (p2 &&& (255 : Int32)) = z ∧ (0 ≤ z.toInt ∧ z.toInt < 256) := ⟨_, rfl, own_byi _⟩
  rw [show (p2 &&& (255 : Int32)) = b5 from e_b5]
  show OwG p e below s _ _ _ _ T (mkF m 66 #[.val (.long q), .second, .val (.int p2), .val (.int p3), .val (.int nn), .val (.int b0), .val (.int b1), .val (.int b2), .val (.int b3), .val (.int b4), .unset, .unset, .unset, .unset, .unset, .unset, .unset, .unset] [(.int b5)])
  refine OwG.ac (mkF m 70 #[.val (.long q), .second, .val (.int p2), .val (.int p3), .val (.int nn), .val (.int b0), .val (.int b1), .val (.int b2), .val (.int b3), .val (.int b4), .val (.int b5), .unset, .unset, .unset, .unset, .unset, .unset, .unset] [(.int nn)]) (fun tQ kQ => ?_) ?_
  · refine XS.istore P.here hx rfl (dc at_66) rfl (l' := #[.val (.long q), .second, .val (.int p2), .val (.int p3), .val (.int nn), .val (.int b0), .val (.int b1), .val (.int b2), .val (.int b3), .val (.int b4), .val (.int b5), .unset, .unset, .unset, .unset, .unset, .unset, .unset]) rfl ?_
    exact XS.iload P.here hx rfl (dc at_68) rfl kQ
  have k302 : ∀ (T : State) (hJ_k302 : Heap) (a : Addr) (x : Addr) (u : Addr) (ku : ClassId) (v : Int64) (n4 : Int32) (m12 : Int32) (cnt : Int32) (ds : List Int32), OwP p l e room_1 s m #[(.long q), (.int p2), (.int p3)] below meth cD n0 T hJ_k302 5 45 → (n0 ≤ hJ_k302.size) → (Old Z n0 hJ_k302) → (Arv Z hJ_k302 al kal .char (32 : Int32) own_alist dal) → (¬ n4 = 0) → (¬ n4 = 6) → (Exa Z hJ_k302 x "java/lang/String") → (Fld Z hJ_k302 x "java/lang/String" "value" "[B" (.ref u)) → (Fld Z hJ_k302 x "java/lang/String" "coder" "B" (.int 0)) → (Arv Z hJ_k302 u ku .byte (Int32.ofNat 8) (own_vz ds 0) (.int 0)) → (ds = [own_sy v (0 : Int32) cnt, own_sy v (1 : Int32) cnt, own_sy v (2 : Int32) cnt, own_sy v (3 : Int32) cnt, own_sy v (4 : Int32) cnt, own_sy v (5 : Int32) cnt, own_sy v (6 : Int32) cnt, own_sy v (7 : Int32) cnt]) → OwG p e below s n0 room_1.cells room_1.slots (fun v h => v = some (Value.int (1 : Int32))) T (mkF m 302 #[.val (.long q), .second, .val (.int p2), .val (.int p3), .val (.int n4), .val (.int b0), .val (.int b1), .val (.int b2), .val (.int b3), .val (.int b4), .val (.int b5), .val (.ref a), .val (.int m12), .val (.long v), .second, .val (.int cnt), .val (.ref x), .unset] []) := by
   intro T hJ_k302 a x u ku v n4 m12 cnt ds P Z0 OL V_al hn0 hn6 E_x F_value_x F_coder_x V_u own_q
   refine OwG.ac (mkF m 327 #[.val (.long q), .second, .val (.int p2), .val (.int p3), .val (.int n4), .val (.int b0), .val (.int b1), .val (.int b2), .val (.int b3), .val (.int b4), .val (.int b5), .val (.ref a), .val (.int m12), .val (.long v), .second, .val (.int cnt), .val (.ref x), .unset] [(.int 8)]) (fun tQ kQ => ?_) ?_
   · refine XS.iload P.here hx rfl (dc at_302) rfl ?_
     refine XS.ifYes P.here hx rfl (pc0 := 304) (pc' := 313) rfl (dc at_304) rfl ((if0 _ _).trans (feq hn0).2) (by decide) (by decide) ?_
     refine XS.iload P.here hx rfl (dc at_313) rfl ?_
     refine XS.bipush P.here hx rfl (dc at_315) ?_
     refine XS.icmpYes P.here hx rfl (pc0 := 317) (pc' := 325) rfl (dc at_317) rfl (feq hn6).2 (by decide) (by decide) ?_
     exact XS.bipush P.here hx rfl (dc at_325) kQ
   refine P.newP hx hZ (own_w hw 109 rfl) rfl (dc at_327) rfl (by decide) (cap := 8) (by decide) (by decide) (own_le rfl) (own_le rfl) fun T h1 ca kca gca P E V_ca => ?_
   have ne_al_ca : al ≠ ca := Nat.ne_of_lt (Nat.lt_of_lt_of_le V_al.lt (Nat.le_of_eq gca.symm))
   have ne_ca_al := Ne.symm ne_al_ca
   have ne_x_ca : x ≠ ca := Nat.ne_of_lt (Nat.lt_of_lt_of_le E_x.lt (Nat.le_of_eq gca.symm))
   have ne_ca_x := Ne.symm ne_x_ca
   have ne_u_ca : u ≠ ca := Nat.ne_of_lt (Nat.lt_of_lt_of_le V_u.lt (Nat.le_of_eq gca.symm))
   have ne_ca_u := Ne.symm ne_u_ca
   have g_ca : n0 ≤ ca := Nat.le_trans Z0 (Nat.le_of_eq gca.symm)
   replace V_al := V_al.ext E
   replace E_x := E_x.ext E
   replace F_value_x := F_value_x.ext E
   replace F_coder_x := F_coder_x.ext E
   replace V_u := V_u.ext E
   replace Z0 := Nat.le_trans Z0 E.1
   replace OL := OL.ext E
   clear E
   replace V_ca : Arv Z h1 ca kca .char (8 : Int32) [(.int 0), (.int 0), (.int 0), (.int 0), (.int 0), (.int 0), (.int 0), (.int 0)] (.int 0) := V_ca.pad (pad_rep [] (.int 0) 8)
   show OwG p e below s _ _ _ _ T (mkF m 329 #[.val (.long q), .second, .val (.int p2), .val (.int p3), .val (.int n4), .val (.int b0), .val (.int b1), .val (.int b2), .val (.int b3), .val (.int b4), .val (.int b5), .val (.ref a), .val (.int m12), .val (.long v), .second, .val (.int cnt), .val (.ref x), .unset] [(.ref ca)])
   refine OwG.ac (mkF m 339 #[.val (.long q), .second, .val (.int p2), .val (.int p3), .val (.int n4), .val (.int b0), .val (.int b1), .val (.int b2), .val (.int b3), .val (.int b4), .val (.int b5), .val (.ref a), .val (.int m12), .val (.long v), .second, .val (.int cnt), .val (.ref x), .val (.ref ca)] [(.int cnt), (.int 0), (.long v), (.int 0), (.ref ca)]) (fun tQ kQ => ?_) ?_
   · refine XS.astore P.here hx rfl (dc at_329) rfl rfl (l' := #[.val (.long q), .second, .val (.int p2), .val (.int p3), .val (.int n4), .val (.int b0), .val (.int b1), .val (.int b2), .val (.int b3), .val (.int b4), .val (.int b5), .val (.ref a), .val (.int m12), .val (.long v), .second, .val (.int cnt), .val (.ref x), .val (.ref ca)]) rfl ?_
     refine XS.aload P.here hx rfl (dc at_331) rfl rfl ?_
     refine XS.iconst P.here hx rfl (dc at_333) ?_
     refine XS.lload P.here hx rfl (dc at_334) rfl ?_
     refine XS.iconst P.here hx rfl (dc at_336) ?_
     exact XS.iload P.here hx rfl (dc at_337) rfl kQ
   refine P.stat hx hZ (y := (⟨"com/example/grawl/grawl/util/Base32EncodePinLaw", "sym", "(JII)C"⟩ : MethodName)) hown (own_w hw 110 rfl) (own_w hw 111 rfl) (own_w hw 112 rfl) (own_w hw 113 rfl) (by decide) (OwM.back (W := 2) (rmSy l Z a0 hw v (0 : Int32) cnt h1 n0 Z0) hZ (own_w hw 113 rfl) (own_w hw 112 rfl) (own_le rfl) (own_le rfl)) (fun _ _ _ q => q.2) rfl (by rw [hml]; rfl) (argsL := [(.long v), (.int 0), (.int cnt)]) (rest := [(.int 0), (.ref ca)]) (lenOf pd__JII_C rfl) rfl (own_le rfl) (dc at_339) rfl (own_le rfl) (own_le rfl) fun T own_v own_L h2 own_e P own_q => ?_
   obtain ⟨⟨rfl, own_hh⟩, -⟩ := own_q
   rw [own_hh] at P
   clear own_e own_hh
   show OwG p e below s _ _ _ _ T (mkF m 342 #[.val (.long q), .second, .val (.int p2), .val (.int p3), .val (.int n4), .val (.int b0), .val (.int b1), .val (.int b2), .val (.int b3), .val (.int b4), .val (.int b5), .val (.ref a), .val (.int m12), .val (.long v), .second, .val (.int cnt), .val (.ref x), .val (.ref ca)] [(.int (own_sy v (0 : Int32) cnt)), (.int 0), (.ref ca)])
   obtain ⟨c0, e_c0, h_c0⟩ : ∃ z : Int32, (own_sy v (0 : Int32) cnt) = z ∧ (¬ z < 0 ∧ ¬ (255 : Int32) < z) := ⟨_, rfl, own_syb _ _ _⟩
   rw [show (own_sy v (0 : Int32) cnt) = c0 from e_c0]
   show OwG p e below s _ _ _ _ T (mkF m 342 #[.val (.long q), .second, .val (.int p2), .val (.int p3), .val (.int n4), .val (.int b0), .val (.int b1), .val (.int b2), .val (.int b3), .val (.int b4), .val (.int b5), .val (.ref a), .val (.int m12), .val (.long v), .second, .val (.int cnt), .val (.ref x), .val (.ref ca)] [(.int c0), (.int 0), (.ref ca)])
   refine P.stC hx hZ V_ca (j := (0 : Int32)) (by decide) (by decide) (i := 0) rfl (Nat.le_of_ble_eq_true rfl) rfl rfl (dc at_342) g_ca fun T h3 P W V' => ?_
   replace V_al := V_al.other W ne_al_ca
   replace E_x := E_x.wr W
   replace F_value_x := F_value_x.other W (Or.inl ne_x_ca)
   replace F_coder_x := F_coder_x.other W (Or.inl ne_x_ca)
   replace V_u := V_u.other W ne_u_ca
   replace Z0 := Nat.le_trans Z0 (Keep.of_wr W).1
   replace OL := OL.wr W g_ca
   replace V_ca := V'
   clear W V'
   show OwG p e below s _ _ _ _ T (mkF m 343 #[.val (.long q), .second, .val (.int p2), .val (.int p3), .val (.int n4), .val (.int b0), .val (.int b1), .val (.int b2), .val (.int b3), .val (.int b4), .val (.int b5), .val (.ref a), .val (.int m12), .val (.long v), .second, .val (.int cnt), .val (.ref x), .val (.ref ca)] [])
   rw [own_narc (own_up h_c0).1 (own_up h_c0).2] at V_ca
   replace V_ca : Arv Z h3 ca kca .char (8 : Int32) [(.int c0), (.int 0), (.int 0), (.int 0), (.int 0), (.int 0), (.int 0), (.int 0)] (.int 0) := V_ca
   refine OwG.ac (mkF m 351 #[.val (.long q), .second, .val (.int p2), .val (.int p3), .val (.int n4), .val (.int b0), .val (.int b1), .val (.int b2), .val (.int b3), .val (.int b4), .val (.int b5), .val (.ref a), .val (.int m12), .val (.long v), .second, .val (.int cnt), .val (.ref x), .val (.ref ca)] [(.int cnt), (.int 1), (.long v), (.int 1), (.ref ca)]) (fun tQ kQ => ?_) ?_
   · refine XS.aload P.here hx rfl (dc at_343) rfl rfl ?_
     refine XS.iconst P.here hx rfl (dc at_345) ?_
     refine XS.lload P.here hx rfl (dc at_346) rfl ?_
     refine XS.iconst P.here hx rfl (dc at_348) ?_
     exact XS.iload P.here hx rfl (dc at_349) rfl kQ
   refine P.stat hx hZ (y := (⟨"com/example/grawl/grawl/util/Base32EncodePinLaw", "sym", "(JII)C"⟩ : MethodName)) hown (own_w hw 110 rfl) (own_w hw 111 rfl) (own_w hw 112 rfl) (own_w hw 113 rfl) (by decide) (OwM.back (W := 2) (rmSy l Z a0 hw v (1 : Int32) cnt h3 n0 Z0) hZ (own_w hw 113 rfl) (own_w hw 112 rfl) (own_le rfl) (own_le rfl)) (fun _ _ _ q => q.2) rfl (by rw [hml]; rfl) (argsL := [(.long v), (.int 1), (.int cnt)]) (rest := [(.int 1), (.ref ca)]) (lenOf pd__JII_C rfl) rfl (own_le rfl) (dc at_351) rfl (own_le rfl) (own_le rfl) fun T own_v own_L h4 own_e P own_q => ?_
   obtain ⟨⟨rfl, own_hh⟩, -⟩ := own_q
   rw [own_hh] at P
   clear own_e own_hh
   show OwG p e below s _ _ _ _ T (mkF m 354 #[.val (.long q), .second, .val (.int p2), .val (.int p3), .val (.int n4), .val (.int b0), .val (.int b1), .val (.int b2), .val (.int b3), .val (.int b4), .val (.int b5), .val (.ref a), .val (.int m12), .val (.long v), .second, .val (.int cnt), .val (.ref x), .val (.ref ca)] [(.int (own_sy v (1 : Int32) cnt)), (.int 1), (.ref ca)])
   obtain ⟨c1, e_c1, h_c1⟩ : ∃ z : Int32, (own_sy v (1 : Int32) cnt) = z ∧ (¬ z < 0 ∧ ¬ (255 : Int32) < z) := ⟨_, rfl, own_syb _ _ _⟩
   rw [show (own_sy v (1 : Int32) cnt) = c1 from e_c1]
   show OwG p e below s _ _ _ _ T (mkF m 354 #[.val (.long q), .second, .val (.int p2), .val (.int p3), .val (.int n4), .val (.int b0), .val (.int b1), .val (.int b2), .val (.int b3), .val (.int b4), .val (.int b5), .val (.ref a), .val (.int m12), .val (.long v), .second, .val (.int cnt), .val (.ref x), .val (.ref ca)] [(.int c1), (.int 1), (.ref ca)])
   refine P.stC hx hZ V_ca (j := (1 : Int32)) (by decide) (by decide) (i := 1) rfl (Nat.le_of_ble_eq_true rfl) rfl rfl (dc at_354) g_ca fun T h5 P W V' => ?_
   replace V_al := V_al.other W ne_al_ca
   replace E_x := E_x.wr W
   replace F_value_x := F_value_x.other W (Or.inl ne_x_ca)
   replace F_coder_x := F_coder_x.other W (Or.inl ne_x_ca)
   replace V_u := V_u.other W ne_u_ca
   replace Z0 := Nat.le_trans Z0 (Keep.of_wr W).1
   replace OL := OL.wr W g_ca
   replace V_ca := V'
   clear W V'
   show OwG p e below s _ _ _ _ T (mkF m 355 #[.val (.long q), .second, .val (.int p2), .val (.int p3), .val (.int n4), .val (.int b0), .val (.int b1), .val (.int b2), .val (.int b3), .val (.int b4), .val (.int b5), .val (.ref a), .val (.int m12), .val (.long v), .second, .val (.int cnt), .val (.ref x), .val (.ref ca)] [])
   rw [own_narc (own_up h_c1).1 (own_up h_c1).2] at V_ca
   replace V_ca : Arv Z h5 ca kca .char (8 : Int32) [(.int c0), (.int c1), (.int 0), (.int 0), (.int 0), (.int 0), (.int 0), (.int 0)] (.int 0) := V_ca
   refine OwG.ac (mkF m 363 #[.val (.long q), .second, .val (.int p2), .val (.int p3), .val (.int n4), .val (.int b0), .val (.int b1), .val (.int b2), .val (.int b3), .val (.int b4), .val (.int b5), .val (.ref a), .val (.int m12), .val (.long v), .second, .val (.int cnt), .val (.ref x), .val (.ref ca)] [(.int cnt), (.int 2), (.long v), (.int 2), (.ref ca)]) (fun tQ kQ => ?_) ?_
   · refine XS.aload P.here hx rfl (dc at_355) rfl rfl ?_
     refine XS.iconst P.here hx rfl (dc at_357) ?_
     refine XS.lload P.here hx rfl (dc at_358) rfl ?_
     refine XS.iconst P.here hx rfl (dc at_360) ?_
     exact XS.iload P.here hx rfl (dc at_361) rfl kQ
   refine P.stat hx hZ (y := (⟨"com/example/grawl/grawl/util/Base32EncodePinLaw", "sym", "(JII)C"⟩ : MethodName)) hown (own_w hw 110 rfl) (own_w hw 111 rfl) (own_w hw 112 rfl) (own_w hw 113 rfl) (by decide) (OwM.back (W := 2) (rmSy l Z a0 hw v (2 : Int32) cnt h5 n0 Z0) hZ (own_w hw 113 rfl) (own_w hw 112 rfl) (own_le rfl) (own_le rfl)) (fun _ _ _ q => q.2) rfl (by rw [hml]; rfl) (argsL := [(.long v), (.int 2), (.int cnt)]) (rest := [(.int 2), (.ref ca)]) (lenOf pd__JII_C rfl) rfl (own_le rfl) (dc at_363) rfl (own_le rfl) (own_le rfl) fun T own_v own_L h6 own_e P own_q => ?_
   obtain ⟨⟨rfl, own_hh⟩, -⟩ := own_q
   rw [own_hh] at P
   clear own_e own_hh
   show OwG p e below s _ _ _ _ T (mkF m 366 #[.val (.long q), .second, .val (.int p2), .val (.int p3), .val (.int n4), .val (.int b0), .val (.int b1), .val (.int b2), .val (.int b3), .val (.int b4), .val (.int b5), .val (.ref a), .val (.int m12), .val (.long v), .second, .val (.int cnt), .val (.ref x), .val (.ref ca)] [(.int (own_sy v (2 : Int32) cnt)), (.int 2), (.ref ca)])
   obtain ⟨c2, e_c2, h_c2⟩ : ∃ z : Int32, (own_sy v (2 : Int32) cnt) = z ∧ (¬ z < 0 ∧ ¬ (255 : Int32) < z) := ⟨_, rfl, own_syb _ _ _⟩
   rw [show (own_sy v (2 : Int32) cnt) = c2 from e_c2]
   show OwG p e below s _ _ _ _ T (mkF m 366 #[.val (.long q), .second, .val (.int p2), .val (.int p3), .val (.int n4), .val (.int b0), .val (.int b1), .val (.int b2), .val (.int b3), .val (.int b4), .val (.int b5), .val (.ref a), .val (.int m12), .val (.long v), .second, .val (.int cnt), .val (.ref x), .val (.ref ca)] [(.int c2), (.int 2), (.ref ca)])
   refine P.stC hx hZ V_ca (j := (2 : Int32)) (by decide) (by decide) (i := 2) rfl (Nat.le_of_ble_eq_true rfl) rfl rfl (dc at_366) g_ca fun T h7 P W V' => ?_
   replace V_al := V_al.other W ne_al_ca
   replace E_x := E_x.wr W
   replace F_value_x := F_value_x.other W (Or.inl ne_x_ca)
   replace F_coder_x := F_coder_x.other W (Or.inl ne_x_ca)
   replace V_u := V_u.other W ne_u_ca
   replace Z0 := Nat.le_trans Z0 (Keep.of_wr W).1
   replace OL := OL.wr W g_ca
   replace V_ca := V'
   clear W V'
   show OwG p e below s _ _ _ _ T (mkF m 367 #[.val (.long q), .second, .val (.int p2), .val (.int p3), .val (.int n4), .val (.int b0), .val (.int b1), .val (.int b2), .val (.int b3), .val (.int b4), .val (.int b5), .val (.ref a), .val (.int m12), .val (.long v), .second, .val (.int cnt), .val (.ref x), .val (.ref ca)] [])
   rw [own_narc (own_up h_c2).1 (own_up h_c2).2] at V_ca
   replace V_ca : Arv Z h7 ca kca .char (8 : Int32) [(.int c0), (.int c1), (.int c2), (.int 0), (.int 0), (.int 0), (.int 0), (.int 0)] (.int 0) := V_ca
   refine OwG.ac (mkF m 375 #[.val (.long q), .second, .val (.int p2), .val (.int p3), .val (.int n4), .val (.int b0), .val (.int b1), .val (.int b2), .val (.int b3), .val (.int b4), .val (.int b5), .val (.ref a), .val (.int m12), .val (.long v), .second, .val (.int cnt), .val (.ref x), .val (.ref ca)] [(.int cnt), (.int 3), (.long v), (.int 3), (.ref ca)]) (fun tQ kQ => ?_) ?_
   · refine XS.aload P.here hx rfl (dc at_367) rfl rfl ?_
     refine XS.iconst P.here hx rfl (dc at_369) ?_
     refine XS.lload P.here hx rfl (dc at_370) rfl ?_
     refine XS.iconst P.here hx rfl (dc at_372) ?_
     exact XS.iload P.here hx rfl (dc at_373) rfl kQ
   refine P.stat hx hZ (y := (⟨"com/example/grawl/grawl/util/Base32EncodePinLaw", "sym", "(JII)C"⟩ : MethodName)) hown (own_w hw 110 rfl) (own_w hw 111 rfl) (own_w hw 112 rfl) (own_w hw 113 rfl) (by decide) (OwM.back (W := 2) (rmSy l Z a0 hw v (3 : Int32) cnt h7 n0 Z0) hZ (own_w hw 113 rfl) (own_w hw 112 rfl) (own_le rfl) (own_le rfl)) (fun _ _ _ q => q.2) rfl (by rw [hml]; rfl) (argsL := [(.long v), (.int 3), (.int cnt)]) (rest := [(.int 3), (.ref ca)]) (lenOf pd__JII_C rfl) rfl (own_le rfl) (dc at_375) rfl (own_le rfl) (own_le rfl) fun T own_v own_L h8 own_e P own_q => ?_
   obtain ⟨⟨rfl, own_hh⟩, -⟩ := own_q
   rw [own_hh] at P
   clear own_e own_hh
   show OwG p e below s _ _ _ _ T (mkF m 378 #[.val (.long q), .second, .val (.int p2), .val (.int p3), .val (.int n4), .val (.int b0), .val (.int b1), .val (.int b2), .val (.int b3), .val (.int b4), .val (.int b5), .val (.ref a), .val (.int m12), .val (.long v), .second, .val (.int cnt), .val (.ref x), .val (.ref ca)] [(.int (own_sy v (3 : Int32) cnt)), (.int 3), (.ref ca)])
   obtain ⟨c3, e_c3, h_c3⟩ : ∃ z : Int32, (own_sy v (3 : Int32) cnt) = z ∧ (¬ z < 0 ∧ ¬ (255 : Int32) < z) := ⟨_, rfl, own_syb _ _ _⟩
   rw [show (own_sy v (3 : Int32) cnt) = c3 from e_c3]
   show OwG p e below s _ _ _ _ T (mkF m 378 #[.val (.long q), .second, .val (.int p2), .val (.int p3), .val (.int n4), .val (.int b0), .val (.int b1), .val (.int b2), .val (.int b3), .val (.int b4), .val (.int b5), .val (.ref a), .val (.int m12), .val (.long v), .second, .val (.int cnt), .val (.ref x), .val (.ref ca)] [(.int c3), (.int 3), (.ref ca)])
   refine P.stC hx hZ V_ca (j := (3 : Int32)) (by decide) (by decide) (i := 3) rfl (Nat.le_of_ble_eq_true rfl) rfl rfl (dc at_378) g_ca fun T h9 P W V' => ?_
   replace V_al := V_al.other W ne_al_ca
   replace E_x := E_x.wr W
   replace F_value_x := F_value_x.other W (Or.inl ne_x_ca)
   replace F_coder_x := F_coder_x.other W (Or.inl ne_x_ca)
   replace V_u := V_u.other W ne_u_ca
   replace Z0 := Nat.le_trans Z0 (Keep.of_wr W).1
   replace OL := OL.wr W g_ca
   replace V_ca := V'
   clear W V'
   show OwG p e below s _ _ _ _ T (mkF m 379 #[.val (.long q), .second, .val (.int p2), .val (.int p3), .val (.int n4), .val (.int b0), .val (.int b1), .val (.int b2), .val (.int b3), .val (.int b4), .val (.int b5), .val (.ref a), .val (.int m12), .val (.long v), .second, .val (.int cnt), .val (.ref x), .val (.ref ca)] [])
   rw [own_narc (own_up h_c3).1 (own_up h_c3).2] at V_ca
   replace V_ca : Arv Z h9 ca kca .char (8 : Int32) [(.int c0), (.int c1), (.int c2), (.int c3), (.int 0), (.int 0), (.int 0), (.int 0)] (.int 0) := V_ca
   refine OwG.ac (mkF m 387 #[.val (.long q), .second, .val (.int p2), .val (.int p3), .val (.int n4), .val (.int b0), .val (.int b1), .val (.int b2), .val (.int b3), .val (.int b4), .val (.int b5), .val (.ref a), .val (.int m12), .val (.long v), .second, .val (.int cnt), .val (.ref x), .val (.ref ca)] [(.int cnt), (.int 4), (.long v), (.int 4), (.ref ca)]) (fun tQ kQ => ?_) ?_
   · refine XS.aload P.here hx rfl (dc at_379) rfl rfl ?_
     refine XS.iconst P.here hx rfl (dc at_381) ?_
     refine XS.lload P.here hx rfl (dc at_382) rfl ?_
     refine XS.iconst P.here hx rfl (dc at_384) ?_
     exact XS.iload P.here hx rfl (dc at_385) rfl kQ
   refine P.stat hx hZ (y := (⟨"com/example/grawl/grawl/util/Base32EncodePinLaw", "sym", "(JII)C"⟩ : MethodName)) hown (own_w hw 110 rfl) (own_w hw 111 rfl) (own_w hw 112 rfl) (own_w hw 113 rfl) (by decide) (OwM.back (W := 2) (rmSy l Z a0 hw v (4 : Int32) cnt h9 n0 Z0) hZ (own_w hw 113 rfl) (own_w hw 112 rfl) (own_le rfl) (own_le rfl)) (fun _ _ _ q => q.2) rfl (by rw [hml]; rfl) (argsL := [(.long v), (.int 4), (.int cnt)]) (rest := [(.int 4), (.ref ca)]) (lenOf pd__JII_C rfl) rfl (own_le rfl) (dc at_387) rfl (own_le rfl) (own_le rfl) fun T own_v own_L h10 own_e P own_q => ?_
   obtain ⟨⟨rfl, own_hh⟩, -⟩ := own_q
   rw [own_hh] at P
   clear own_e own_hh
   show OwG p e below s _ _ _ _ T (mkF m 390 #[.val (.long q), .second, .val (.int p2), .val (.int p3), .val (.int n4), .val (.int b0), .val (.int b1), .val (.int b2), .val (.int b3), .val (.int b4), .val (.int b5), .val (.ref a), .val (.int m12), .val (.long v), .second, .val (.int cnt), .val (.ref x), .val (.ref ca)] [(.int (own_sy v (4 : Int32) cnt)), (.int 4), (.ref ca)])
   obtain ⟨c4, e_c4, h_c4⟩ : ∃ z : Int32, (own_sy v (4 : Int32) cnt) = z ∧ (¬ z < 0 ∧ ¬ (255 : Int32) < z) := ⟨_, rfl, own_syb _ _ _⟩
   rw [show (own_sy v (4 : Int32) cnt) = c4 from e_c4]
   show OwG p e below s _ _ _ _ T (mkF m 390 #[.val (.long q), .second, .val (.int p2), .val (.int p3), .val (.int n4), .val (.int b0), .val (.int b1), .val (.int b2), .val (.int b3), .val (.int b4), .val (.int b5), .val (.ref a), .val (.int m12), .val (.long v), .second, .val (.int cnt), .val (.ref x), .val (.ref ca)] [(.int c4), (.int 4), (.ref ca)])
   refine P.stC hx hZ V_ca (j := (4 : Int32)) (by decide) (by decide) (i := 4) rfl (Nat.le_of_ble_eq_true rfl) rfl rfl (dc at_390) g_ca fun T h11 P W V' => ?_
   replace V_al := V_al.other W ne_al_ca
   replace E_x := E_x.wr W
   replace F_value_x := F_value_x.other W (Or.inl ne_x_ca)
   replace F_coder_x := F_coder_x.other W (Or.inl ne_x_ca)
   replace V_u := V_u.other W ne_u_ca
   replace Z0 := Nat.le_trans Z0 (Keep.of_wr W).1
   replace OL := OL.wr W g_ca
   replace V_ca := V'
   clear W V'
   show OwG p e below s _ _ _ _ T (mkF m 391 #[.val (.long q), .second, .val (.int p2), .val (.int p3), .val (.int n4), .val (.int b0), .val (.int b1), .val (.int b2), .val (.int b3), .val (.int b4), .val (.int b5), .val (.ref a), .val (.int m12), .val (.long v), .second, .val (.int cnt), .val (.ref x), .val (.ref ca)] [])
   rw [own_narc (own_up h_c4).1 (own_up h_c4).2] at V_ca
   replace V_ca : Arv Z h11 ca kca .char (8 : Int32) [(.int c0), (.int c1), (.int c2), (.int c3), (.int c4), (.int 0), (.int 0), (.int 0)] (.int 0) := V_ca
   refine OwG.ac (mkF m 399 #[.val (.long q), .second, .val (.int p2), .val (.int p3), .val (.int n4), .val (.int b0), .val (.int b1), .val (.int b2), .val (.int b3), .val (.int b4), .val (.int b5), .val (.ref a), .val (.int m12), .val (.long v), .second, .val (.int cnt), .val (.ref x), .val (.ref ca)] [(.int cnt), (.int 5), (.long v), (.int 5), (.ref ca)]) (fun tQ kQ => ?_) ?_
   · refine XS.aload P.here hx rfl (dc at_391) rfl rfl ?_
     refine XS.iconst P.here hx rfl (dc at_393) ?_
     refine XS.lload P.here hx rfl (dc at_394) rfl ?_
     refine XS.iconst P.here hx rfl (dc at_396) ?_
     exact XS.iload P.here hx rfl (dc at_397) rfl kQ
   refine P.stat hx hZ (y := (⟨"com/example/grawl/grawl/util/Base32EncodePinLaw", "sym", "(JII)C"⟩ : MethodName)) hown (own_w hw 110 rfl) (own_w hw 111 rfl) (own_w hw 112 rfl) (own_w hw 113 rfl) (by decide) (OwM.back (W := 2) (rmSy l Z a0 hw v (5 : Int32) cnt h11 n0 Z0) hZ (own_w hw 113 rfl) (own_w hw 112 rfl) (own_le rfl) (own_le rfl)) (fun _ _ _ q => q.2) rfl (by rw [hml]; rfl) (argsL := [(.long v), (.int 5), (.int cnt)]) (rest := [(.int 5), (.ref ca)]) (lenOf pd__JII_C rfl) rfl (own_le rfl) (dc at_399) rfl (own_le rfl) (own_le rfl) fun T own_v own_L h12 own_e P own_q => ?_
   obtain ⟨⟨rfl, own_hh⟩, -⟩ := own_q
   rw [own_hh] at P
   clear own_e own_hh
   show OwG p e below s _ _ _ _ T (mkF m 402 #[.val (.long q), .second, .val (.int p2), .val (.int p3), .val (.int n4), .val (.int b0), .val (.int b1), .val (.int b2), .val (.int b3), .val (.int b4), .val (.int b5), .val (.ref a), .val (.int m12), .val (.long v), .second, .val (.int cnt), .val (.ref x), .val (.ref ca)] [(.int (own_sy v (5 : Int32) cnt)), (.int 5), (.ref ca)])
   obtain ⟨c5, e_c5, h_c5⟩ : ∃ z : Int32, (own_sy v (5 : Int32) cnt) = z ∧ (¬ z < 0 ∧ ¬ (255 : Int32) < z) := ⟨_, rfl, own_syb _ _ _⟩
   rw [show (own_sy v (5 : Int32) cnt) = c5 from e_c5]
   show OwG p e below s _ _ _ _ T (mkF m 402 #[.val (.long q), .second, .val (.int p2), .val (.int p3), .val (.int n4), .val (.int b0), .val (.int b1), .val (.int b2), .val (.int b3), .val (.int b4), .val (.int b5), .val (.ref a), .val (.int m12), .val (.long v), .second, .val (.int cnt), .val (.ref x), .val (.ref ca)] [(.int c5), (.int 5), (.ref ca)])
   refine P.stC hx hZ V_ca (j := (5 : Int32)) (by decide) (by decide) (i := 5) rfl (Nat.le_of_ble_eq_true rfl) rfl rfl (dc at_402) g_ca fun T h13 P W V' => ?_
   replace V_al := V_al.other W ne_al_ca
   replace E_x := E_x.wr W
   replace F_value_x := F_value_x.other W (Or.inl ne_x_ca)
   replace F_coder_x := F_coder_x.other W (Or.inl ne_x_ca)
   replace V_u := V_u.other W ne_u_ca
   replace Z0 := Nat.le_trans Z0 (Keep.of_wr W).1
   replace OL := OL.wr W g_ca
   replace V_ca := V'
   clear W V'
   show OwG p e below s _ _ _ _ T (mkF m 403 #[.val (.long q), .second, .val (.int p2), .val (.int p3), .val (.int n4), .val (.int b0), .val (.int b1), .val (.int b2), .val (.int b3), .val (.int b4), .val (.int b5), .val (.ref a), .val (.int m12), .val (.long v), .second, .val (.int cnt), .val (.ref x), .val (.ref ca)] [])
   rw [own_narc (own_up h_c5).1 (own_up h_c5).2] at V_ca
   replace V_ca : Arv Z h13 ca kca .char (8 : Int32) [(.int c0), (.int c1), (.int c2), (.int c3), (.int c4), (.int c5), (.int 0), (.int 0)] (.int 0) := V_ca
   refine OwG.ac (mkF m 413 #[.val (.long q), .second, .val (.int p2), .val (.int p3), .val (.int n4), .val (.int b0), .val (.int b1), .val (.int b2), .val (.int b3), .val (.int b4), .val (.int b5), .val (.ref a), .val (.int m12), .val (.long v), .second, .val (.int cnt), .val (.ref x), .val (.ref ca)] [(.int cnt), (.int 6), (.long v), (.int 6), (.ref ca)]) (fun tQ kQ => ?_) ?_
   · refine XS.aload P.here hx rfl (dc at_403) rfl rfl ?_
     refine XS.bipush P.here hx rfl (dc at_405) ?_
     refine XS.lload P.here hx rfl (dc at_407) rfl ?_
     refine XS.bipush P.here hx rfl (dc at_409) ?_
     exact XS.iload P.here hx rfl (dc at_411) rfl kQ
   refine P.stat hx hZ (y := (⟨"com/example/grawl/grawl/util/Base32EncodePinLaw", "sym", "(JII)C"⟩ : MethodName)) hown (own_w hw 110 rfl) (own_w hw 111 rfl) (own_w hw 112 rfl) (own_w hw 113 rfl) (by decide) (OwM.back (W := 2) (rmSy l Z a0 hw v (6 : Int32) cnt h13 n0 Z0) hZ (own_w hw 113 rfl) (own_w hw 112 rfl) (own_le rfl) (own_le rfl)) (fun _ _ _ q => q.2) rfl (by rw [hml]; rfl) (argsL := [(.long v), (.int 6), (.int cnt)]) (rest := [(.int 6), (.ref ca)]) (lenOf pd__JII_C rfl) rfl (own_le rfl) (dc at_413) rfl (own_le rfl) (own_le rfl) fun T own_v own_L h14 own_e P own_q => ?_
   obtain ⟨⟨rfl, own_hh⟩, -⟩ := own_q
   rw [own_hh] at P
   clear own_e own_hh
   show OwG p e below s _ _ _ _ T (mkF m 416 #[.val (.long q), .second, .val (.int p2), .val (.int p3), .val (.int n4), .val (.int b0), .val (.int b1), .val (.int b2), .val (.int b3), .val (.int b4), .val (.int b5), .val (.ref a), .val (.int m12), .val (.long v), .second, .val (.int cnt), .val (.ref x), .val (.ref ca)] [(.int (own_sy v (6 : Int32) cnt)), (.int 6), (.ref ca)])
   obtain ⟨c6, e_c6, h_c6⟩ : ∃ z : Int32, (own_sy v (6 : Int32) cnt) = z ∧ (¬ z < 0 ∧ ¬ (255 : Int32) < z) := ⟨_, rfl, own_syb _ _ _⟩
   rw [show (own_sy v (6 : Int32) cnt) = c6 from e_c6]
   show OwG p e below s _ _ _ _ T (mkF m 416 #[.val (.long q), .second, .val (.int p2), .val (.int p3), .val (.int n4), .val (.int b0), .val (.int b1), .val (.int b2), .val (.int b3), .val (.int b4), .val (.int b5), .val (.ref a), .val (.int m12), .val (.long v), .second, .val (.int cnt), .val (.ref x), .val (.ref ca)] [(.int c6), (.int 6), (.ref ca)])
   refine P.stC hx hZ V_ca (j := (6 : Int32)) (by decide) (by decide) (i := 6) rfl (Nat.le_of_ble_eq_true rfl) rfl rfl (dc at_416) g_ca fun T h15 P W V' => ?_
   replace V_al := V_al.other W ne_al_ca
   replace E_x := E_x.wr W
   replace F_value_x := F_value_x.other W (Or.inl ne_x_ca)
   replace F_coder_x := F_coder_x.other W (Or.inl ne_x_ca)
   replace V_u := V_u.other W ne_u_ca
   replace Z0 := Nat.le_trans Z0 (Keep.of_wr W).1
   replace OL := OL.wr W g_ca
   replace V_ca := V'
   clear W V'
   show OwG p e below s _ _ _ _ T (mkF m 417 #[.val (.long q), .second, .val (.int p2), .val (.int p3), .val (.int n4), .val (.int b0), .val (.int b1), .val (.int b2), .val (.int b3), .val (.int b4), .val (.int b5), .val (.ref a), .val (.int m12), .val (.long v), .second, .val (.int cnt), .val (.ref x), .val (.ref ca)] [])
   rw [own_narc (own_up h_c6).1 (own_up h_c6).2] at V_ca
   replace V_ca : Arv Z h15 ca kca .char (8 : Int32) [(.int c0), (.int c1), (.int c2), (.int c3), (.int c4), (.int c5), (.int c6), (.int 0)] (.int 0) := V_ca
   refine OwG.ac (mkF m 427 #[.val (.long q), .second, .val (.int p2), .val (.int p3), .val (.int n4), .val (.int b0), .val (.int b1), .val (.int b2), .val (.int b3), .val (.int b4), .val (.int b5), .val (.ref a), .val (.int m12), .val (.long v), .second, .val (.int cnt), .val (.ref x), .val (.ref ca)] [(.int cnt), (.int 7), (.long v), (.int 7), (.ref ca)]) (fun tQ kQ => ?_) ?_
   · refine XS.aload P.here hx rfl (dc at_417) rfl rfl ?_
     refine XS.bipush P.here hx rfl (dc at_419) ?_
     refine XS.lload P.here hx rfl (dc at_421) rfl ?_
     refine XS.bipush P.here hx rfl (dc at_423) ?_
     exact XS.iload P.here hx rfl (dc at_425) rfl kQ
   refine P.stat hx hZ (y := (⟨"com/example/grawl/grawl/util/Base32EncodePinLaw", "sym", "(JII)C"⟩ : MethodName)) hown (own_w hw 110 rfl) (own_w hw 111 rfl) (own_w hw 112 rfl) (own_w hw 113 rfl) (by decide) (OwM.back (W := 2) (rmSy l Z a0 hw v (7 : Int32) cnt h15 n0 Z0) hZ (own_w hw 113 rfl) (own_w hw 112 rfl) (own_le rfl) (own_le rfl)) (fun _ _ _ q => q.2) rfl (by rw [hml]; rfl) (argsL := [(.long v), (.int 7), (.int cnt)]) (rest := [(.int 7), (.ref ca)]) (lenOf pd__JII_C rfl) rfl (own_le rfl) (dc at_427) rfl (own_le rfl) (own_le rfl) fun T own_v own_L h16 own_e P own_q => ?_
   obtain ⟨⟨rfl, own_hh⟩, -⟩ := own_q
   rw [own_hh] at P
   clear own_e own_hh
   show OwG p e below s _ _ _ _ T (mkF m 430 #[.val (.long q), .second, .val (.int p2), .val (.int p3), .val (.int n4), .val (.int b0), .val (.int b1), .val (.int b2), .val (.int b3), .val (.int b4), .val (.int b5), .val (.ref a), .val (.int m12), .val (.long v), .second, .val (.int cnt), .val (.ref x), .val (.ref ca)] [(.int (own_sy v (7 : Int32) cnt)), (.int 7), (.ref ca)])
   obtain ⟨c7, e_c7, h_c7⟩ : ∃ z : Int32, (own_sy v (7 : Int32) cnt) = z ∧ (¬ z < 0 ∧ ¬ (255 : Int32) < z) := ⟨_, rfl, own_syb _ _ _⟩
   rw [show (own_sy v (7 : Int32) cnt) = c7 from e_c7]
   show OwG p e below s _ _ _ _ T (mkF m 430 #[.val (.long q), .second, .val (.int p2), .val (.int p3), .val (.int n4), .val (.int b0), .val (.int b1), .val (.int b2), .val (.int b3), .val (.int b4), .val (.int b5), .val (.ref a), .val (.int m12), .val (.long v), .second, .val (.int cnt), .val (.ref x), .val (.ref ca)] [(.int c7), (.int 7), (.ref ca)])
   refine P.stC hx hZ V_ca (j := (7 : Int32)) (by decide) (by decide) (i := 7) rfl (Nat.le_of_ble_eq_true rfl) rfl rfl (dc at_430) g_ca fun T h17 P W V' => ?_
   replace V_al := V_al.other W ne_al_ca
   replace E_x := E_x.wr W
   replace F_value_x := F_value_x.other W (Or.inl ne_x_ca)
   replace F_coder_x := F_coder_x.other W (Or.inl ne_x_ca)
   replace V_u := V_u.other W ne_u_ca
   replace Z0 := Nat.le_trans Z0 (Keep.of_wr W).1
   replace OL := OL.wr W g_ca
   replace V_ca := V'
   clear W V'
   show OwG p e below s _ _ _ _ T (mkF m 431 #[.val (.long q), .second, .val (.int p2), .val (.int p3), .val (.int n4), .val (.int b0), .val (.int b1), .val (.int b2), .val (.int b3), .val (.int b4), .val (.int b5), .val (.ref a), .val (.int m12), .val (.long v), .second, .val (.int cnt), .val (.ref x), .val (.ref ca)] [])
   rw [own_narc (own_up h_c7).1 (own_up h_c7).2] at V_ca
   replace V_ca : Arv Z h17 ca kca .char (8 : Int32) [(.int c0), (.int c1), (.int c2), (.int c3), (.int c4), (.int c5), (.int c6), (.int c7)] (.int 0) := V_ca
   refine OwG.ac (mkF m 509 #[.val (.long q), .second, .val (.int p2), .val (.int p3), .val (.int n4), .val (.int b0), .val (.int b1), .val (.int b2), .val (.int b3), .val (.int b4), .val (.int b5), .val (.ref a), .val (.int m12), .val (.long v), .second, .val (.int cnt), .val (.ref x), .val (.ref ca)] [(.ref x)]) (fun tQ kQ => ?_) ?_
   · refine XS.iload P.here hx rfl (dc at_431) rfl ?_
     refine XS.bipush P.here hx rfl (dc at_433) ?_
     refine XS.icmpYes P.here hx rfl (pc0 := 435) (pc' := 507) rfl (dc at_435) rfl (feq hn6).2 (by decide) (by decide) ?_
     exact XS.aload P.here hx rfl (dc at_507) rfl rfl kQ
   refine P.newO hx hZ hown (own_w hw 118 rfl) (own_w hw 75 rfl) (own_w hw 27 rfl) rfl (dc at_509) (own_le rfl) (own_le rfl) fun T h18 y gy P E A D => ?_
   have ne_al_y : al ≠ y := Nat.ne_of_lt (Nat.lt_of_lt_of_le V_al.lt (Nat.le_of_eq gy.symm))
   have ne_y_al := Ne.symm ne_al_y
   have ne_x_y : x ≠ y := Nat.ne_of_lt (Nat.lt_of_lt_of_le E_x.lt (Nat.le_of_eq gy.symm))
   have ne_y_x := Ne.symm ne_x_y
   have ne_u_y : u ≠ y := Nat.ne_of_lt (Nat.lt_of_lt_of_le V_u.lt (Nat.le_of_eq gy.symm))
   have ne_y_u := Ne.symm ne_u_y
   have ne_ca_y : ca ≠ y := Nat.ne_of_lt (Nat.lt_of_lt_of_le V_ca.lt (Nat.le_of_eq gy.symm))
   have ne_y_ca := Ne.symm ne_ca_y
   have g_y : n0 ≤ y := Nat.le_trans Z0 (Nat.le_of_eq gy.symm)
   replace V_al := V_al.ext E
   replace E_x := E_x.ext E
   replace F_value_x := F_value_x.ext E
   replace F_coder_x := F_coder_x.ext E
   replace V_u := V_u.ext E
   replace V_ca := V_ca.ext E
   replace Z0 := Nat.le_trans Z0 E.1
   replace OL := OL.ext E
   have E_y := A
   have F_coder_y : Fld Z h18 y "java/lang/String" "coder" "B" (.int 0) := D (Or.inr (own_w hw 93 rfl)) (ty := .byte) (by decide)
   have F_value_y : Fld Z h18 y "java/lang/String" "value" "[B" .null := D (Or.inr (own_w hw 108 rfl)) (ty := (.array .byte)) (by decide)
   clear A D E
   show OwG p e below s _ _ _ _ T (mkF m 512 #[.val (.long q), .second, .val (.int p2), .val (.int p3), .val (.int n4), .val (.int b0), .val (.int b1), .val (.int b2), .val (.int b3), .val (.int b4), .val (.int b5), .val (.ref a), .val (.int m12), .val (.long v), .second, .val (.int cnt), .val (.ref x), .val (.ref ca)] [(.ref y), (.ref x)])
   refine OwG.ac (mkF m 515 #[.val (.long q), .second, .val (.int p2), .val (.int p3), .val (.int n4), .val (.int b0), .val (.int b1), .val (.int b2), .val (.int b3), .val (.int b4), .val (.int b5), .val (.ref a), .val (.int m12), .val (.long v), .second, .val (.int cnt), .val (.ref x), .val (.ref ca)] [(.ref ca), (.ref y), (.ref y), (.ref x)]) (fun tQ kQ => ?_) ?_
   · refine XS.dup P.here hx rfl (dc at_512) rfl rfl ?_
     exact XS.aload P.here hx rfl (dc at_513) rfl rfl kQ
   have hws : ∀ d ∈ StrChars.Road.words, d.before a0 Z = true := fun d hd => hw d (own_words d hd)
   have hp : ∀ c ∈ ([c0, c1, c2, c3, c4, c5, c6, c7] : List Int32), ¬ c < 0 ∧ ¬ (255 : Int32) < c := (own_aS h_c0 (own_aS h_c1 (own_aS h_c2 (own_aS h_c3 (own_aS h_c4 (own_aS h_c5 (own_aS h_c6 (own_aS h_c7 own_a0))))))))
   refine P.special hx hZ (y := (⟨"java/lang/String", "<init>", "([C)V"⟩ : MethodName)) rfl hown (own_w hw 119 rfl) (own_w hw 120 rfl) (own_w hw 121 rfl) (by decide) (StrChars.Road.backV (W := 2) hZ hws (kI := 4) (own_w hw 75 rfl) (cs := ([c0, c1, c2, c3, c4, c5, c6, c7] : List Int32)) (bs := ([c0, c1, c2, c3, c4, c5, c6, c7] : List Int32).map (fun c => c.toInt8.toInt32)) (n := 8) g_y Z0 E_y F_value_y F_coder_y V_ca (S2.ext OL.2) hzC rfl rfl (by decide) (by decide) hp rfl (by decide) (by decide)) (fun _ _ _ q => q.2.1) rfl (by rw [hml]; rfl) (a := y) (argsL := [(.ref ca)]) (rest := [(.ref y), (.ref x)]) (lenOf pd___C_V rfl) rfl (own_le rfl) (dc at_515) rfl (own_le rfl) (own_le rfl) fun T own_v own_L h19 own_e P own_q => ?_
   obtain ⟨rfl, -, K, -, F_coder_y', t', kt', -, -, -, F_value_y', V_t'⟩ := own_q
   clear own_e
   replace V_al := V_al.keep K (ninS ne_al_y nin0)
   replace E_x := E_x.keep K
   replace F_value_x := F_value_x.keep K (ninS ne_x_y nin0)
   replace F_coder_x := F_coder_x.keep K (ninS ne_x_y nin0)
   replace V_u := V_u.keep K (ninS ne_u_y nin0)
   replace V_ca := V_ca.keep K (ninS ne_ca_y nin0)
   replace E_y := E_y.keep K
   replace Z0 := Nat.le_trans Z0 K.1
   replace OL := OL.keep K (allS g_y all0)
   show OwG p e below s _ _ _ _ T (mkF m 518 #[.val (.long q), .second, .val (.int p2), .val (.int p3), .val (.int n4), .val (.int b0), .val (.int b1), .val (.int b2), .val (.int b3), .val (.int b4), .val (.int b5), .val (.ref a), .val (.int m12), .val (.long v), .second, .val (.int cnt), .val (.ref x), .val (.ref ca)] [(.ref y), (.ref x)])
   rw [e_c0, e_c1, e_c2, e_c3, e_c4, e_c5, e_c6, e_c7] at own_q
   have own_pe : ∀ c ∈ ds, ¬ c < 0 ∧ ¬ (255 : Int32) < c := by rw [own_q]; exact hp
   refine P.virtual hx hZ (y := (⟨"java/lang/String", "equals", "(Ljava/lang/Object;)Z"⟩ : MethodName)) hown (own_w hw 136 rfl) (own_w hw 137 rfl) (own_w hw 139 rfl) (own_w hw 138 rfl) (by decide) (own_eqB (W := 0) (n0 := n0) hZ hw (cs := ds) E_x F_value_x F_coder_x V_u (Or.inl ⟨rfl, by rw [own_q]; rfl, by rw [own_q]; rfl, fun c hc => (own_pe c hc).2⟩) (fun c hc => own_up (own_pe c hc)) (by rw [own_q]; exact Nat.le_of_ble_eq_true rfl) E_y F_value_y' F_coder_y' V_t' (StrChars.Road.codOf rfl (fun c hc => (hp c hc).2)) (fun c hc => own_up (hp c hc)) (Nat.le_of_ble_eq_true rfl) (S2.ext OL.2) hzC (by decide) (by decide)) (fun _ _ _ q => q.2.2) E_x rfl (by rw [hml]; rfl) (argsL := [(.ref y)]) (rest := []) (lenOf pd__Ljava_lang_Object__Z rfl) rfl (own_le rfl) (dc at_518) rfl (own_le rfl) (own_le rfl) fun T own_v own_L h20 own_e P own_q => ?_
   obtain ⟨⟨i, rfl, own_i⟩, own_hh, -⟩ := own_q
   rw [own_hh] at P
   clear own_e own_hh
   show OwG p e below s _ _ _ _ T (mkF m 521 #[.val (.long q), .second, .val (.int p2), .val (.int p3), .val (.int n4), .val (.int b0), .val (.int b1), .val (.int b2), .val (.int b3), .val (.int b4), .val (.int b5), .val (.ref a), .val (.int m12), .val (.long v), .second, .val (.int cnt), .val (.ref x), .val (.ref ca)] [(.int i)])
   obtain rfl : i = 1 := own_i.elim (fun q => q.1) (fun q => absurd own_q q.2)
   exact P.retN hx hlk (t := .boolean) hret (by simp) (dc at_521) (own_le rfl) (own_le rfl) rfl
  rcases h_nn with rfl | rfl | rfl | rfl | rfl | rfl | rfl
  ·skip
   show OwG p e below s _ _ _ _ T (mkF m 70 #[.val (.long q), .second, .val (.int p2), .val (.int p3), .val (.int 0), .val (.int b0), .val (.int b1), .val (.int b2), .val (.int b3), .val (.int b4), .val (.int b5), .unset, .unset, .unset, .unset, .unset, .unset, .unset] [(.int 0)])
   refine P.newP hx hZ (own_w hw 2 rfl) rfl (dc at_70) rfl (by decide) (cap := 0) (by decide) (by decide) (own_le rfl) (own_le rfl) fun T h21 a ka ga P E V_a => ?_
   have ne_al_a : al ≠ a := Nat.ne_of_lt (Nat.lt_of_lt_of_le V_al.lt (Nat.le_of_eq ga.symm))
   have ne_a_al := Ne.symm ne_al_a
   have g_a : n0 ≤ a := Nat.le_trans Z0 (Nat.le_of_eq ga.symm)
   replace V_al := V_al.ext E
   replace Z0 := Nat.le_trans Z0 E.1
   replace OL := OL.ext E
   clear E
   show OwG p e below s _ _ _ _ T (mkF m 72 #[.val (.long q), .second, .val (.int p2), .val (.int p3), .val (.int 0), .val (.int b0), .val (.int b1), .val (.int b2), .val (.int b3), .val (.int b4), .val (.int b5), .unset, .unset, .unset, .unset, .unset, .unset, .unset] [(.ref a)])
   refine OwG.ac (mkF m 154 #[.val (.long q), .second, .val (.int p2), .val (.int p3), .val (.int 0), .val (.int b0), .val (.int b1), .val (.int b2), .val (.int b3), .val (.int b4), .val (.int b5), .val (.ref a), .unset, .unset, .unset, .unset, .unset, .unset] [(.int 5), (.int 0)]) (fun tQ kQ => ?_) ?_
   · refine XS.astore P.here hx rfl (dc at_72) rfl rfl (l' := #[.val (.long q), .second, .val (.int p2), .val (.int p3), .val (.int 0), .val (.int b0), .val (.int b1), .val (.int b2), .val (.int b3), .val (.int b4), .val (.int b5), .val (.ref a), .unset, .unset, .unset, .unset, .unset, .unset]) rfl ?_
     refine XS.iload P.here hx rfl (dc at_74) rfl ?_
     refine XS.ifYes P.here hx rfl (pc0 := 76) (pc' := 86) rfl (dc at_76) rfl ((if0 _ _).trans (flt (by decide)).2.2.2) (by decide) (by decide) ?_
     refine XS.iload P.here hx rfl (dc at_86) rfl ?_
     refine XS.iconst P.here hx rfl (dc at_88) ?_
     refine XS.icmpYes P.here hx rfl (pc0 := 89) (pc' := 99) rfl (dc at_89) rfl (flt (by decide)).2.2.2 (by decide) (by decide) ?_
     refine XS.iload P.here hx rfl (dc at_99) rfl ?_
     refine XS.iconst P.here hx rfl (dc at_101) ?_
     refine XS.icmpYes P.here hx rfl (pc0 := 102) (pc' := 112) rfl (dc at_102) rfl (flt (by decide)).2.2.2 (by decide) (by decide) ?_
     refine XS.iload P.here hx rfl (dc at_112) rfl ?_
     refine XS.iconst P.here hx rfl (dc at_114) ?_
     refine XS.icmpYes P.here hx rfl (pc0 := 115) (pc' := 125) rfl (dc at_115) rfl (flt (by decide)).2.2.2 (by decide) (by decide) ?_
     refine XS.iload P.here hx rfl (dc at_125) rfl ?_
     refine XS.iconst P.here hx rfl (dc at_127) ?_
     refine XS.icmpYes P.here hx rfl (pc0 := 128) (pc' := 138) rfl (dc at_128) rfl (flt (by decide)).2.2.2 (by decide) (by decide) ?_
     refine XS.iload P.here hx rfl (dc at_138) rfl ?_
     refine XS.iconst P.here hx rfl (dc at_140) ?_
     refine XS.icmpYes P.here hx rfl (pc0 := 141) (pc' := 151) rfl (dc at_141) rfl (flt (by decide)).2.2.2 (by decide) (by decide) ?_
     refine XS.iload P.here hx rfl (dc at_151) rfl ?_
     exact XS.iconst P.here hx rfl (dc at_153) kQ
   refine P.stat hx hZ (y := (⟨"java/lang/Math", "min", "(II)I"⟩ : MethodName)) hown (own_w hw 3 rfl) (own_w hw 4 rfl) (own_w hw 5 rfl) (own_w hw 6 rfl) (by decide) (OwM.back (W := 0) (rmMin l Z a0 hw (0 : Int32) (5 : Int32) h21 n0 Z0) hZ (own_w hw 6 rfl) (own_w hw 5 rfl) (own_le rfl) (own_le rfl)) (fun _ _ _ q => q.2) rfl (by rw [hml]; rfl) (argsL := [(.int 0), (.int 5)]) (rest := []) (lenOf pd__II_I rfl) rfl (own_le rfl) (dc at_154) rfl (own_le rfl) (own_le rfl) fun T own_v own_L h22 own_e P own_q => ?_
   obtain ⟨⟨rfl, own_hh⟩, -⟩ := own_q
   rw [own_hh] at P
   clear own_e own_hh
   show OwG p e below s _ _ _ _ T (mkF m 157 #[.val (.long q), .second, .val (.int p2), .val (.int p3), .val (.int 0), .val (.int b0), .val (.int b1), .val (.int b2), .val (.int b3), .val (.int b4), .val (.int b5), .val (.ref a), .unset, .unset, .unset, .unset, .unset, .unset] [(.int (if (5 : Int32) < (0 : Int32) then (5 : Int32) else (0 : Int32)))])
   rw [show (if (5 : Int32) < (0 : Int32) then (5 : Int32) else (0 : Int32)) = (0 : Int32) from by decide]
   show OwG p e below s _ _ _ _ T (mkF m 157 #[.val (.long q), .second, .val (.int p2), .val (.int p3), .val (.int 0), .val (.int b0), .val (.int b1), .val (.int b2), .val (.int b3), .val (.int b4), .val (.int b5), .val (.ref a), .unset, .unset, .unset, .unset, .unset, .unset] [(.int 0)])
   refine OwG.ac (mkF m 239 #[.val (.long q), .second, .val (.int p2), .val (.int p3), .val (.int 0), .val (.int b0), .val (.int b1), .val (.int b2), .val (.int b3), .val (.int b4), .val (.int b5), .val (.ref a), .val (.int 0), .unset, .unset, .unset, .unset, .unset] [(.long (((((((0 : Int32).toInt64) <<< ((32 : Int32) &&& 0x3f).toInt64) ||| (((0 : Int32).toInt64) <<< ((24 : Int32) &&& 0x3f).toInt64)) ||| (((0 : Int32).toInt64) <<< ((16 : Int32) &&& 0x3f).toInt64)) ||| (((0 : Int32).toInt64) <<< ((8 : Int32) &&& 0x3f).toInt64)) ||| ((0 : Int32).toInt64)))]) (fun tQ kQ => ?_) ?_
   · refine XS.istore P.here hx rfl (dc at_157) rfl (l' := #[.val (.long q), .second, .val (.int p2), .val (.int p3), .val (.int 0), .val (.int b0), .val (.int b1), .val (.int b2), .val (.int b3), .val (.int b4), .val (.int b5), .val (.ref a), .val (.int 0), .unset, .unset, .unset, .unset, .unset]) rfl ?_
     refine XS.iload P.here hx rfl (dc at_159) rfl ?_
     refine XS.ifYes P.here hx rfl (pc0 := 161) (pc' := 169) rfl (dc at_161) rfl ((if0 _ _).trans (flt (by decide)).2.2.2) (by decide) (by decide) ?_
     refine XS.iconst P.here hx rfl (dc at_169) ?_
     refine XS.i2l P.here hx rfl (dc at_170) rfl ?_
     refine XS.bipush P.here hx rfl (dc at_171) ?_
     refine XS.lshl P.here hx rfl (dc at_173) rfl ?_
     refine XS.iload P.here hx rfl (dc at_174) rfl ?_
     refine XS.iconst P.here hx rfl (dc at_176) ?_
     refine XS.icmpYes P.here hx rfl (pc0 := 177) (pc' := 185) rfl (dc at_177) rfl (flt (by decide)).2.2.2 (by decide) (by decide) ?_
     refine XS.iconst P.here hx rfl (dc at_185) ?_
     refine XS.i2l P.here hx rfl (dc at_186) rfl ?_
     refine XS.bipush P.here hx rfl (dc at_187) ?_
     refine XS.lshl P.here hx rfl (dc at_189) rfl ?_
     refine XS.lor P.here hx rfl (dc at_190) rfl ?_
     refine XS.iload P.here hx rfl (dc at_191) rfl ?_
     refine XS.iconst P.here hx rfl (dc at_193) ?_
     refine XS.icmpYes P.here hx rfl (pc0 := 194) (pc' := 202) rfl (dc at_194) rfl (flt (by decide)).2.2.2 (by decide) (by decide) ?_
     refine XS.iconst P.here hx rfl (dc at_202) ?_
     refine XS.i2l P.here hx rfl (dc at_203) rfl ?_
     refine XS.bipush P.here hx rfl (dc at_204) ?_
     refine XS.lshl P.here hx rfl (dc at_206) rfl ?_
     refine XS.lor P.here hx rfl (dc at_207) rfl ?_
     refine XS.iload P.here hx rfl (dc at_208) rfl ?_
     refine XS.iconst P.here hx rfl (dc at_210) ?_
     refine XS.icmpYes P.here hx rfl (pc0 := 211) (pc' := 219) rfl (dc at_211) rfl (flt (by decide)).2.2.2 (by decide) (by decide) ?_
     refine XS.iconst P.here hx rfl (dc at_219) ?_
     refine XS.i2l P.here hx rfl (dc at_220) rfl ?_
     refine XS.bipush P.here hx rfl (dc at_221) ?_
     refine XS.lshl P.here hx rfl (dc at_223) rfl ?_
     refine XS.lor P.here hx rfl (dc at_224) rfl ?_
     refine XS.iload P.here hx rfl (dc at_225) rfl ?_
     refine XS.iconst P.here hx rfl (dc at_227) ?_
     refine XS.icmpYes P.here hx rfl (pc0 := 228) (pc' := 236) rfl (dc at_228) rfl (flt (by decide)).2.2.2 (by decide) (by decide) ?_
     refine XS.iconst P.here hx rfl (dc at_236) ?_
     refine XS.i2l P.here hx rfl (dc at_237) rfl ?_
     exact XS.lor P.here hx rfl (dc at_238) rfl kQ
   obtain ⟨v, e_v⟩ : ∃ z : Int64, (((((((0 : Int32).toInt64) <<< ((32 : Int32) &&& 0x3f).toInt64) ||| (((0 : Int32).toInt64) <<< ((24 : Int32) &&& 0x3f).toInt64)) ||| (((0 : Int32).toInt64) <<< ((16 : Int32) &&& 0x3f).toInt64)) ||| (((0 : Int32).toInt64) <<< ((8 : Int32) &&& 0x3f).toInt64)) ||| ((0 : Int32).toInt64)) = z := ⟨_, rfl⟩
   rw [show (((((((0 : Int32).toInt64) <<< ((32 : Int32) &&& 0x3f).toInt64) ||| (((0 : Int32).toInt64) <<< ((24 : Int32) &&& 0x3f).toInt64)) ||| (((0 : Int32).toInt64) <<< ((16 : Int32) &&& 0x3f).toInt64)) ||| (((0 : Int32).toInt64) <<< ((8 : Int32) &&& 0x3f).toInt64)) ||| ((0 : Int32).toInt64)) = v from e_v]
   show OwG p e below s _ _ _ _ T (mkF m 239 #[.val (.long q), .second, .val (.int p2), .val (.int p3), .val (.int 0), .val (.int b0), .val (.int b1), .val (.int b2), .val (.int b3), .val (.int b4), .val (.int b5), .val (.ref a), .val (.int 0), .unset, .unset, .unset, .unset, .unset] [(.long v)])
   refine OwG.ac (mkF m 243 #[.val (.long q), .second, .val (.int p2), .val (.int p3), .val (.int 0), .val (.int b0), .val (.int b1), .val (.int b2), .val (.int b3), .val (.int b4), .val (.int b5), .val (.ref a), .val (.int 0), .val (.long v), .second, .unset, .unset, .unset] [(.int 0)]) (fun tQ kQ => ?_) ?_
   · refine XS.lstore P.here hx rfl (dc at_239) rfl (l' := #[.val (.long q), .second, .val (.int p2), .val (.int p3), .val (.int 0), .val (.int b0), .val (.int b1), .val (.int b2), .val (.int b3), .val (.int b4), .val (.int b5), .val (.ref a), .val (.int 0), .val (.long v), .second, .unset, .unset, .unset]) rfl ?_
     exact XS.iload P.here hx rfl (dc at_241) rfl kQ
   have hv := own_v_to (b0 := (0 : Int32)) (by decide) (b1 := (0 : Int32)) (by decide) (b2 := (0 : Int32)) (by decide) (b3 := (0 : Int32)) (by decide) (b4 := (0 : Int32)) (by decide)
   rw [e_v] at hv
   refine OwG.ac (mkF m 297 #[.val (.long q), .second, .val (.int p2), .val (.int p3), .val (.int 0), .val (.int b0), .val (.int b1), .val (.int b2), .val (.int b3), .val (.int b4), .val (.int b5), .val (.ref a), .val (.int 0), .val (.long v), .second, .val (.int 0), .unset, .unset] [(.ref a)]) (fun tQ kQ => ?_) ?_
   · refine XS.ifNo P.here hx rfl (dc at_243) rfl ((if0 _ _).trans (teq (by decide)).2) ?_
     refine XS.iconst P.here hx rfl (dc at_246) ?_
     refine XS.goto P.here hx rfl (pc0 := 247) (pc' := 293) rfl (dc at_247) (by decide) (by decide) ?_
     refine XS.istore P.here hx rfl (dc at_293) rfl (l' := #[.val (.long q), .second, .val (.int p2), .val (.int p3), .val (.int 0), .val (.int b0), .val (.int b1), .val (.int b2), .val (.int b3), .val (.int b4), .val (.int b5), .val (.ref a), .val (.int 0), .val (.long v), .second, .val (.int 0), .unset, .unset]) rfl ?_
     exact XS.aload P.here hx rfl (dc at_295) rfl rfl kQ
   refine P.stat hx hZ (y := (⟨"com/example/grawl/grawl/util/Base32", "encode", "([B)Ljava/lang/String;"⟩ : MethodName)) hown (own_w hw 7 rfl) (own_w hw 8 rfl) (own_w hw 9 rfl) (own_w hw 10 rfl) (by decide) (OwM.back (W := 0) (rmE0 l Z a0 hw a al ka kal dal zC  h21 n0 Z0 S2 hzC OL SAl V_a V_al) hZ (own_w hw 10 rfl) (own_w hw 9 rfl) (own_le rfl) (own_le rfl)) (fun _ _ _ q => q.2) rfl (by rw [hml]; rfl) (argsL := [(.ref a)]) (rest := []) (lenOf pd___B_Ljava_lang_String_ rfl) rfl (own_le rfl) (dc at_297) rfl (own_le rfl) (own_le rfl) fun T own_v own_L h23 own_e P own_q => ?_
   obtain ⟨⟨x, u, ku, rfl, K, E_x, F_value_x, F_coder_x, V_u⟩, -⟩ := own_q
   clear own_e
   replace V_al := V_al.keep K nin0
   replace V_a := V_a.keep K nin0
   replace Z0 := Nat.le_trans Z0 K.1
   replace OL := OL.keep K all0
   show OwG p e below s _ _ _ _ T (mkF m 300 #[.val (.long q), .second, .val (.int p2), .val (.int p3), .val (.int 0), .val (.int b0), .val (.int b1), .val (.int b2), .val (.int b3), .val (.int b4), .val (.int b5), .val (.ref a), .val (.int 0), .val (.long v), .second, .val (.int 0), .unset, .unset] [(.ref x)])
   refine OwG.ac (mkF m 309 #[.val (.long q), .second, .val (.int p2), .val (.int p3), .val (.int 0), .val (.int b0), .val (.int b1), .val (.int b2), .val (.int b3), .val (.int b4), .val (.int b5), .val (.ref a), .val (.int 0), .val (.long v), .second, .val (.int 0), .val (.ref x), .unset] [(.ref x)]) (fun tQ kQ => ?_) ?_
   · refine XS.astore P.here hx rfl (dc at_300) rfl rfl (l' := #[.val (.long q), .second, .val (.int p2), .val (.int p3), .val (.int 0), .val (.int b0), .val (.int b1), .val (.int b2), .val (.int b3), .val (.int b4), .val (.int b5), .val (.ref a), .val (.int 0), .val (.long v), .second, .val (.int 0), .val (.ref x), .unset]) rfl ?_
     refine XS.iload P.here hx rfl (dc at_302) rfl ?_
     refine XS.ifNo P.here hx rfl (dc at_304) rfl ((if0 _ _).trans (teq (by decide)).2) ?_
     exact XS.aload P.here hx rfl (dc at_307) rfl rfl kQ
   refine P.virtual hx hZ (y := (⟨"java/lang/String", "isEmpty", "()Z"⟩ : MethodName)) hown (own_w hw 145 rfl) (own_w hw 146 rfl) (own_w hw 148 rfl) (own_w hw 147 rfl) (by decide) (own_empB (W := 0) (n0 := n0) hZ hw E_x F_value_x F_coder_x V_u (Or.inl ⟨rfl, rfl, rfl, own_a0⟩) (own_le rfl) (own_le rfl)) (fun _ _ _ q => q.2.2) E_x rfl (by rw [hml]; rfl) (argsL := []) (rest := []) (lenOf pd___Z rfl) rfl (own_le rfl) (dc at_309) rfl (own_le rfl) (own_le rfl) fun T own_v own_L h24 own_e P own_q => ?_
   obtain ⟨rfl, own_hh, -⟩ := own_q
   rw [own_hh] at P
   clear own_e own_hh
   show OwG p e below s _ _ _ _ T (mkF m 312 #[.val (.long q), .second, .val (.int p2), .val (.int p3), .val (.int 0), .val (.int b0), .val (.int b1), .val (.int b2), .val (.int b3), .val (.int b4), .val (.int b5), .val (.ref a), .val (.int 0), .val (.long v), .second, .val (.int 0), .val (.ref x), .unset] [(.int 1)])
   exact P.retN hx hlk (t := .boolean) hret (by simp) (dc at_312) (own_le rfl) (own_le rfl) rfl
  ·skip
   show OwG p e below s _ _ _ _ T (mkF m 70 #[.val (.long q), .second, .val (.int p2), .val (.int p3), .val (.int 1), .val (.int b0), .val (.int b1), .val (.int b2), .val (.int b3), .val (.int b4), .val (.int b5), .unset, .unset, .unset, .unset, .unset, .unset, .unset] [(.int 1)])
   refine P.newP hx hZ (own_w hw 2 rfl) rfl (dc at_70) rfl (by decide) (cap := 1) (by decide) (by decide) (own_le rfl) (own_le rfl) fun T h25 a ka ga P E V_a => ?_
   have ne_al_a : al ≠ a := Nat.ne_of_lt (Nat.lt_of_lt_of_le V_al.lt (Nat.le_of_eq ga.symm))
   have ne_a_al := Ne.symm ne_al_a
   have g_a : n0 ≤ a := Nat.le_trans Z0 (Nat.le_of_eq ga.symm)
   replace V_al := V_al.ext E
   replace Z0 := Nat.le_trans Z0 E.1
   replace OL := OL.ext E
   clear E
   replace V_a : Arv Z h25 a ka .byte (1 : Int32) [(.int 0)] (.int 0) := V_a.pad (pad_rep [] (.int 0) 1)
   show OwG p e below s _ _ _ _ T (mkF m 72 #[.val (.long q), .second, .val (.int p2), .val (.int p3), .val (.int 1), .val (.int b0), .val (.int b1), .val (.int b2), .val (.int b3), .val (.int b4), .val (.int b5), .unset, .unset, .unset, .unset, .unset, .unset, .unset] [(.ref a)])
   refine OwG.ac (mkF m 85 #[.val (.long q), .second, .val (.int p2), .val (.int p3), .val (.int 1), .val (.int b0), .val (.int b1), .val (.int b2), .val (.int b3), .val (.int b4), .val (.int b5), .val (.ref a), .unset, .unset, .unset, .unset, .unset, .unset] [(.int (b0.toInt8.toInt32)), (.int 0), (.ref a)]) (fun tQ kQ => ?_) ?_
   · refine XS.astore P.here hx rfl (dc at_72) rfl rfl (l' := #[.val (.long q), .second, .val (.int p2), .val (.int p3), .val (.int 1), .val (.int b0), .val (.int b1), .val (.int b2), .val (.int b3), .val (.int b4), .val (.int b5), .val (.ref a), .unset, .unset, .unset, .unset, .unset, .unset]) rfl ?_
     refine XS.iload P.here hx rfl (dc at_74) rfl ?_
     refine XS.ifNo P.here hx rfl (dc at_76) rfl ((if0 _ _).trans (tlt (by decide)).2.2.2) ?_
     refine XS.aload P.here hx rfl (dc at_79) rfl rfl ?_
     refine XS.iconst P.here hx rfl (dc at_81) ?_
     refine XS.iload P.here hx rfl (dc at_82) rfl ?_
     exact XS.i2b P.here hx rfl (dc at_84) rfl kQ
   refine P.stB hx hZ V_a (j := (0 : Int32)) (by decide) (by decide) (i := 0) rfl (Nat.le_of_ble_eq_true rfl) rfl rfl (dc at_85) g_a fun T h26 P W V' => ?_
   replace V_al := V_al.other W ne_al_a
   replace Z0 := Nat.le_trans Z0 (Keep.of_wr W).1
   replace OL := OL.wr W g_a
   replace V_a := V'
   clear W V'
   show OwG p e below s _ _ _ _ T (mkF m 86 #[.val (.long q), .second, .val (.int p2), .val (.int p3), .val (.int 1), .val (.int b0), .val (.int b1), .val (.int b2), .val (.int b3), .val (.int b4), .val (.int b5), .val (.ref a), .unset, .unset, .unset, .unset, .unset, .unset] [])
   rw [own_i2b2] at V_a
   replace V_a : Arv Z h26 a ka .byte (1 : Int32) [(.int (StrChars.lo8 b0))] (.int 0) := V_a
   refine OwG.ac (mkF m 154 #[.val (.long q), .second, .val (.int p2), .val (.int p3), .val (.int 1), .val (.int b0), .val (.int b1), .val (.int b2), .val (.int b3), .val (.int b4), .val (.int b5), .val (.ref a), .unset, .unset, .unset, .unset, .unset, .unset] [(.int 5), (.int 1)]) (fun tQ kQ => ?_) ?_
   · refine XS.iload P.here hx rfl (dc at_86) rfl ?_
     refine XS.iconst P.here hx rfl (dc at_88) ?_
     refine XS.icmpYes P.here hx rfl (pc0 := 89) (pc' := 99) rfl (dc at_89) rfl (flt (by decide)).2.2.2 (by decide) (by decide) ?_
     refine XS.iload P.here hx rfl (dc at_99) rfl ?_
     refine XS.iconst P.here hx rfl (dc at_101) ?_
     refine XS.icmpYes P.here hx rfl (pc0 := 102) (pc' := 112) rfl (dc at_102) rfl (flt (by decide)).2.2.2 (by decide) (by decide) ?_
     refine XS.iload P.here hx rfl (dc at_112) rfl ?_
     refine XS.iconst P.here hx rfl (dc at_114) ?_
     refine XS.icmpYes P.here hx rfl (pc0 := 115) (pc' := 125) rfl (dc at_115) rfl (flt (by decide)).2.2.2 (by decide) (by decide) ?_
     refine XS.iload P.here hx rfl (dc at_125) rfl ?_
     refine XS.iconst P.here hx rfl (dc at_127) ?_
     refine XS.icmpYes P.here hx rfl (pc0 := 128) (pc' := 138) rfl (dc at_128) rfl (flt (by decide)).2.2.2 (by decide) (by decide) ?_
     refine XS.iload P.here hx rfl (dc at_138) rfl ?_
     refine XS.iconst P.here hx rfl (dc at_140) ?_
     refine XS.icmpYes P.here hx rfl (pc0 := 141) (pc' := 151) rfl (dc at_141) rfl (flt (by decide)).2.2.2 (by decide) (by decide) ?_
     refine XS.iload P.here hx rfl (dc at_151) rfl ?_
     exact XS.iconst P.here hx rfl (dc at_153) kQ
   refine P.stat hx hZ (y := (⟨"java/lang/Math", "min", "(II)I"⟩ : MethodName)) hown (own_w hw 3 rfl) (own_w hw 4 rfl) (own_w hw 5 rfl) (own_w hw 6 rfl) (by decide) (OwM.back (W := 0) (rmMin l Z a0 hw (1 : Int32) (5 : Int32) h26 n0 Z0) hZ (own_w hw 6 rfl) (own_w hw 5 rfl) (own_le rfl) (own_le rfl)) (fun _ _ _ q => q.2) rfl (by rw [hml]; rfl) (argsL := [(.int 1), (.int 5)]) (rest := []) (lenOf pd__II_I rfl) rfl (own_le rfl) (dc at_154) rfl (own_le rfl) (own_le rfl) fun T own_v own_L h27 own_e P own_q => ?_
   obtain ⟨⟨rfl, own_hh⟩, -⟩ := own_q
   rw [own_hh] at P
   clear own_e own_hh
   show OwG p e below s _ _ _ _ T (mkF m 157 #[.val (.long q), .second, .val (.int p2), .val (.int p3), .val (.int 1), .val (.int b0), .val (.int b1), .val (.int b2), .val (.int b3), .val (.int b4), .val (.int b5), .val (.ref a), .unset, .unset, .unset, .unset, .unset, .unset] [(.int (if (5 : Int32) < (1 : Int32) then (5 : Int32) else (1 : Int32)))])
   rw [show (if (5 : Int32) < (1 : Int32) then (5 : Int32) else (1 : Int32)) = (1 : Int32) from by decide]
   show OwG p e below s _ _ _ _ T (mkF m 157 #[.val (.long q), .second, .val (.int p2), .val (.int p3), .val (.int 1), .val (.int b0), .val (.int b1), .val (.int b2), .val (.int b3), .val (.int b4), .val (.int b5), .val (.ref a), .unset, .unset, .unset, .unset, .unset, .unset] [(.int 1)])
   refine OwG.ac (mkF m 239 #[.val (.long q), .second, .val (.int p2), .val (.int p3), .val (.int 1), .val (.int b0), .val (.int b1), .val (.int b2), .val (.int b3), .val (.int b4), .val (.int b5), .val (.ref a), .val (.int 1), .unset, .unset, .unset, .unset, .unset] [(.long ((((((b0.toInt64) <<< ((32 : Int32) &&& 0x3f).toInt64) ||| (((0 : Int32).toInt64) <<< ((24 : Int32) &&& 0x3f).toInt64)) ||| (((0 : Int32).toInt64) <<< ((16 : Int32) &&& 0x3f).toInt64)) ||| (((0 : Int32).toInt64) <<< ((8 : Int32) &&& 0x3f).toInt64)) ||| ((0 : Int32).toInt64)))]) (fun tQ kQ => ?_) ?_
   · refine XS.istore P.here hx rfl (dc at_157) rfl (l' := #[.val (.long q), .second, .val (.int p2), .val (.int p3), .val (.int 1), .val (.int b0), .val (.int b1), .val (.int b2), .val (.int b3), .val (.int b4), .val (.int b5), .val (.ref a), .val (.int 1), .unset, .unset, .unset, .unset, .unset]) rfl ?_
     refine XS.iload P.here hx rfl (dc at_159) rfl ?_
     refine XS.ifNo P.here hx rfl (dc at_161) rfl ((if0 _ _).trans (tlt (by decide)).2.2.2) ?_
     refine XS.iload P.here hx rfl (dc at_164) rfl ?_
     refine XS.goto P.here hx rfl (pc0 := 166) (pc' := 170) rfl (dc at_166) (by decide) (by decide) ?_
     refine XS.i2l P.here hx rfl (dc at_170) rfl ?_
     refine XS.bipush P.here hx rfl (dc at_171) ?_
     refine XS.lshl P.here hx rfl (dc at_173) rfl ?_
     refine XS.iload P.here hx rfl (dc at_174) rfl ?_
     refine XS.iconst P.here hx rfl (dc at_176) ?_
     refine XS.icmpYes P.here hx rfl (pc0 := 177) (pc' := 185) rfl (dc at_177) rfl (flt (by decide)).2.2.2 (by decide) (by decide) ?_
     refine XS.iconst P.here hx rfl (dc at_185) ?_
     refine XS.i2l P.here hx rfl (dc at_186) rfl ?_
     refine XS.bipush P.here hx rfl (dc at_187) ?_
     refine XS.lshl P.here hx rfl (dc at_189) rfl ?_
     refine XS.lor P.here hx rfl (dc at_190) rfl ?_
     refine XS.iload P.here hx rfl (dc at_191) rfl ?_
     refine XS.iconst P.here hx rfl (dc at_193) ?_
     refine XS.icmpYes P.here hx rfl (pc0 := 194) (pc' := 202) rfl (dc at_194) rfl (flt (by decide)).2.2.2 (by decide) (by decide) ?_
     refine XS.iconst P.here hx rfl (dc at_202) ?_
     refine XS.i2l P.here hx rfl (dc at_203) rfl ?_
     refine XS.bipush P.here hx rfl (dc at_204) ?_
     refine XS.lshl P.here hx rfl (dc at_206) rfl ?_
     refine XS.lor P.here hx rfl (dc at_207) rfl ?_
     refine XS.iload P.here hx rfl (dc at_208) rfl ?_
     refine XS.iconst P.here hx rfl (dc at_210) ?_
     refine XS.icmpYes P.here hx rfl (pc0 := 211) (pc' := 219) rfl (dc at_211) rfl (flt (by decide)).2.2.2 (by decide) (by decide) ?_
     refine XS.iconst P.here hx rfl (dc at_219) ?_
     refine XS.i2l P.here hx rfl (dc at_220) rfl ?_
     refine XS.bipush P.here hx rfl (dc at_221) ?_
     refine XS.lshl P.here hx rfl (dc at_223) rfl ?_
     refine XS.lor P.here hx rfl (dc at_224) rfl ?_
     refine XS.iload P.here hx rfl (dc at_225) rfl ?_
     refine XS.iconst P.here hx rfl (dc at_227) ?_
     refine XS.icmpYes P.here hx rfl (pc0 := 228) (pc' := 236) rfl (dc at_228) rfl (flt (by decide)).2.2.2 (by decide) (by decide) ?_
     refine XS.iconst P.here hx rfl (dc at_236) ?_
     refine XS.i2l P.here hx rfl (dc at_237) rfl ?_
     exact XS.lor P.here hx rfl (dc at_238) rfl kQ
   obtain ⟨v, e_v⟩ : ∃ z : Int64, ((((((b0.toInt64) <<< ((32 : Int32) &&& 0x3f).toInt64) ||| (((0 : Int32).toInt64) <<< ((24 : Int32) &&& 0x3f).toInt64)) ||| (((0 : Int32).toInt64) <<< ((16 : Int32) &&& 0x3f).toInt64)) ||| (((0 : Int32).toInt64) <<< ((8 : Int32) &&& 0x3f).toInt64)) ||| ((0 : Int32).toInt64)) = z := ⟨_, rfl⟩
   rw [show ((((((b0.toInt64) <<< ((32 : Int32) &&& 0x3f).toInt64) ||| (((0 : Int32).toInt64) <<< ((24 : Int32) &&& 0x3f).toInt64)) ||| (((0 : Int32).toInt64) <<< ((16 : Int32) &&& 0x3f).toInt64)) ||| (((0 : Int32).toInt64) <<< ((8 : Int32) &&& 0x3f).toInt64)) ||| ((0 : Int32).toInt64)) = v from e_v]
   show OwG p e below s _ _ _ _ T (mkF m 239 #[.val (.long q), .second, .val (.int p2), .val (.int p3), .val (.int 1), .val (.int b0), .val (.int b1), .val (.int b2), .val (.int b3), .val (.int b4), .val (.int b5), .val (.ref a), .val (.int 1), .unset, .unset, .unset, .unset, .unset] [(.long v)])
   refine OwG.ac (mkF m 243 #[.val (.long q), .second, .val (.int p2), .val (.int p3), .val (.int 1), .val (.int b0), .val (.int b1), .val (.int b2), .val (.int b3), .val (.int b4), .val (.int b5), .val (.ref a), .val (.int 1), .val (.long v), .second, .unset, .unset, .unset] [(.int 1)]) (fun tQ kQ => ?_) ?_
   · refine XS.lstore P.here hx rfl (dc at_239) rfl (l' := #[.val (.long q), .second, .val (.int p2), .val (.int p3), .val (.int 1), .val (.int b0), .val (.int b1), .val (.int b2), .val (.int b3), .val (.int b4), .val (.int b5), .val (.ref a), .val (.int 1), .val (.long v), .second, .unset, .unset, .unset]) rfl ?_
     exact XS.iload P.here hx rfl (dc at_241) rfl kQ
   have hv := own_v_to h_b0 (b1 := (0 : Int32)) (by decide) (b2 := (0 : Int32)) (by decide) (b3 := (0 : Int32)) (by decide) (b4 := (0 : Int32)) (by decide)
   rw [e_v] at hv
   refine OwG.ac (mkF m 297 #[.val (.long q), .second, .val (.int p2), .val (.int p3), .val (.int 1), .val (.int b0), .val (.int b1), .val (.int b2), .val (.int b3), .val (.int b4), .val (.int b5), .val (.ref a), .val (.int 1), .val (.long v), .second, .val (.int 2), .unset, .unset] [(.ref a)]) (fun tQ kQ => ?_) ?_
   · refine XS.ifYes P.here hx rfl (pc0 := 243) (pc' := 250) rfl (dc at_243) rfl ((if0 _ _).trans (feq (by decide)).2) (by decide) (by decide) ?_
     refine XS.iload P.here hx rfl (dc at_250) rfl ?_
     refine XS.iconst P.here hx rfl (dc at_252) ?_
     refine XS.icmpNo P.here hx rfl (dc at_253) rfl (teq (by decide)).2 ?_
     refine XS.iconst P.here hx rfl (dc at_256) ?_
     refine XS.goto P.here hx rfl (pc0 := 257) (pc' := 293) rfl (dc at_257) (by decide) (by decide) ?_
     refine XS.istore P.here hx rfl (dc at_293) rfl (l' := #[.val (.long q), .second, .val (.int p2), .val (.int p3), .val (.int 1), .val (.int b0), .val (.int b1), .val (.int b2), .val (.int b3), .val (.int b4), .val (.int b5), .val (.ref a), .val (.int 1), .val (.long v), .second, .val (.int 2), .unset, .unset]) rfl ?_
     exact XS.aload P.here hx rfl (dc at_295) rfl rfl kQ
   refine P.stat hx hZ (y := (⟨"com/example/grawl/grawl/util/Base32", "encode", "([B)Ljava/lang/String;"⟩ : MethodName)) hown (own_w hw 7 rfl) (own_w hw 8 rfl) (own_w hw 9 rfl) (own_w hw 10 rfl) (by decide) (OwM.back (W := 0) (rmE1 l Z a0 hw a al ka kal dal zC (StrChars.lo8 b0) h26 n0 Z0 S2 hzC OL SAl V_a V_al) hZ (own_w hw 10 rfl) (own_w hw 9 rfl) (own_le rfl) (own_le rfl)) (fun _ _ _ q => q.2) rfl (by rw [hml]; rfl) (argsL := [(.ref a)]) (rest := []) (lenOf pd___B_Ljava_lang_String_ rfl) rfl (own_le rfl) (dc at_297) rfl (own_le rfl) (own_le rfl) fun T own_v own_L h28 own_e P own_q => ?_
   obtain ⟨⟨x, u, ku, rfl, K, E_x, F_value_x, F_coder_x, V_u⟩, -⟩ := own_q
   clear own_e
   replace V_al := V_al.keep K nin0
   replace V_a := V_a.keep K nin0
   replace Z0 := Nat.le_trans Z0 K.1
   replace OL := OL.keep K all0
   show OwG p e below s _ _ _ _ T (mkF m 300 #[.val (.long q), .second, .val (.int p2), .val (.int p3), .val (.int 1), .val (.int b0), .val (.int b1), .val (.int b2), .val (.int b3), .val (.int b4), .val (.int b5), .val (.ref a), .val (.int 1), .val (.long v), .second, .val (.int 2), .unset, .unset] [(.ref x)])
   refine OwG.ac (mkF m 302 #[.val (.long q), .second, .val (.int p2), .val (.int p3), .val (.int 1), .val (.int b0), .val (.int b1), .val (.int b2), .val (.int b3), .val (.int b4), .val (.int b5), .val (.ref a), .val (.int 1), .val (.long v), .second, .val (.int 2), .val (.ref x), .unset] []) (fun tQ kQ => ?_) ?_
   · exact XS.astore P.here hx rfl (dc at_300) rfl rfl (l' := #[.val (.long q), .second, .val (.int p2), .val (.int p3), .val (.int 1), .val (.int b0), .val (.int b1), .val (.int b2), .val (.int b3), .val (.int b4), .val (.int b5), .val (.ref a), .val (.int 1), .val (.long v), .second, .val (.int 2), .val (.ref x), .unset]) rfl kQ
   have own_q := own_eq1 (v := v) h_b0 (by simpa using hv)
   exact k302 T h28 a x u ku v (1 : Int32) (1 : Int32) (2 : Int32) ([(own_dg (own_bt (0 : Int32) (StrChars.lo8 b0)) (3 : Int32)), (own_dl (own_bt (0 : Int32) (StrChars.lo8 b0)) (3 : Int32)), (61 : Int32), (61 : Int32), (61 : Int32), (61 : Int32), (61 : Int32), (61 : Int32)] : List Int32) (P.wide (by decide) (by decide)) Z0 OL V_al (by decide) (by decide) E_x F_value_x F_coder_x V_u own_q
  ·skip
   show OwG p e below s _ _ _ _ T (mkF m 70 #[.val (.long q), .second, .val (.int p2), .val (.int p3), .val (.int 2), .val (.int b0), .val (.int b1), .val (.int b2), .val (.int b3), .val (.int b4), .val (.int b5), .unset, .unset, .unset, .unset, .unset, .unset, .unset] [(.int 2)])
   refine P.newP hx hZ (own_w hw 2 rfl) rfl (dc at_70) rfl (by decide) (cap := 2) (by decide) (by decide) (own_le rfl) (own_le rfl) fun T h29 a ka ga P E V_a => ?_
   have ne_al_a : al ≠ a := Nat.ne_of_lt (Nat.lt_of_lt_of_le V_al.lt (Nat.le_of_eq ga.symm))
   have ne_a_al := Ne.symm ne_al_a
   have g_a : n0 ≤ a := Nat.le_trans Z0 (Nat.le_of_eq ga.symm)
   replace V_al := V_al.ext E
   replace Z0 := Nat.le_trans Z0 E.1
   replace OL := OL.ext E
   clear E
   replace V_a : Arv Z h29 a ka .byte (2 : Int32) [(.int 0), (.int 0)] (.int 0) := V_a.pad (pad_rep [] (.int 0) 2)
   show OwG p e below s _ _ _ _ T (mkF m 72 #[.val (.long q), .second, .val (.int p2), .val (.int p3), .val (.int 2), .val (.int b0), .val (.int b1), .val (.int b2), .val (.int b3), .val (.int b4), .val (.int b5), .unset, .unset, .unset, .unset, .unset, .unset, .unset] [(.ref a)])
   refine OwG.ac (mkF m 85 #[.val (.long q), .second, .val (.int p2), .val (.int p3), .val (.int 2), .val (.int b0), .val (.int b1), .val (.int b2), .val (.int b3), .val (.int b4), .val (.int b5), .val (.ref a), .unset, .unset, .unset, .unset, .unset, .unset] [(.int (b0.toInt8.toInt32)), (.int 0), (.ref a)]) (fun tQ kQ => ?_) ?_
   · refine XS.astore P.here hx rfl (dc at_72) rfl rfl (l' := #[.val (.long q), .second, .val (.int p2), .val (.int p3), .val (.int 2), .val (.int b0), .val (.int b1), .val (.int b2), .val (.int b3), .val (.int b4), .val (.int b5), .val (.ref a), .unset, .unset, .unset, .unset, .unset, .unset]) rfl ?_
     refine XS.iload P.here hx rfl (dc at_74) rfl ?_
     refine XS.ifNo P.here hx rfl (dc at_76) rfl ((if0 _ _).trans (tlt (by decide)).2.2.2) ?_
     refine XS.aload P.here hx rfl (dc at_79) rfl rfl ?_
     refine XS.iconst P.here hx rfl (dc at_81) ?_
     refine XS.iload P.here hx rfl (dc at_82) rfl ?_
     exact XS.i2b P.here hx rfl (dc at_84) rfl kQ
   refine P.stB hx hZ V_a (j := (0 : Int32)) (by decide) (by decide) (i := 0) rfl (Nat.le_of_ble_eq_true rfl) rfl rfl (dc at_85) g_a fun T h30 P W V' => ?_
   replace V_al := V_al.other W ne_al_a
   replace Z0 := Nat.le_trans Z0 (Keep.of_wr W).1
   replace OL := OL.wr W g_a
   replace V_a := V'
   clear W V'
   show OwG p e below s _ _ _ _ T (mkF m 86 #[.val (.long q), .second, .val (.int p2), .val (.int p3), .val (.int 2), .val (.int b0), .val (.int b1), .val (.int b2), .val (.int b3), .val (.int b4), .val (.int b5), .val (.ref a), .unset, .unset, .unset, .unset, .unset, .unset] [])
   rw [own_i2b2] at V_a
   replace V_a : Arv Z h30 a ka .byte (2 : Int32) [(.int (StrChars.lo8 b0)), (.int 0)] (.int 0) := V_a
   refine OwG.ac (mkF m 98 #[.val (.long q), .second, .val (.int p2), .val (.int p3), .val (.int 2), .val (.int b0), .val (.int b1), .val (.int b2), .val (.int b3), .val (.int b4), .val (.int b5), .val (.ref a), .unset, .unset, .unset, .unset, .unset, .unset] [(.int (b1.toInt8.toInt32)), (.int 1), (.ref a)]) (fun tQ kQ => ?_) ?_
   · refine XS.iload P.here hx rfl (dc at_86) rfl ?_
     refine XS.iconst P.here hx rfl (dc at_88) ?_
     refine XS.icmpNo P.here hx rfl (dc at_89) rfl (tlt (by decide)).2.2.2 ?_
     refine XS.aload P.here hx rfl (dc at_92) rfl rfl ?_
     refine XS.iconst P.here hx rfl (dc at_94) ?_
     refine XS.iload P.here hx rfl (dc at_95) rfl ?_
     exact XS.i2b P.here hx rfl (dc at_97) rfl kQ
   refine P.stB hx hZ V_a (j := (1 : Int32)) (by decide) (by decide) (i := 1) rfl (Nat.le_of_ble_eq_true rfl) rfl rfl (dc at_98) g_a fun T h31 P W V' => ?_
   replace V_al := V_al.other W ne_al_a
   replace Z0 := Nat.le_trans Z0 (Keep.of_wr W).1
   replace OL := OL.wr W g_a
   replace V_a := V'
   clear W V'
   show OwG p e below s _ _ _ _ T (mkF m 99 #[.val (.long q), .second, .val (.int p2), .val (.int p3), .val (.int 2), .val (.int b0), .val (.int b1), .val (.int b2), .val (.int b3), .val (.int b4), .val (.int b5), .val (.ref a), .unset, .unset, .unset, .unset, .unset, .unset] [])
   rw [own_i2b2] at V_a
   replace V_a : Arv Z h31 a ka .byte (2 : Int32) [(.int (StrChars.lo8 b0)), (.int (StrChars.lo8 b1))] (.int 0) := V_a
   refine OwG.ac (mkF m 154 #[.val (.long q), .second, .val (.int p2), .val (.int p3), .val (.int 2), .val (.int b0), .val (.int b1), .val (.int b2), .val (.int b3), .val (.int b4), .val (.int b5), .val (.ref a), .unset, .unset, .unset, .unset, .unset, .unset] [(.int 5), (.int 2)]) (fun tQ kQ => ?_) ?_
   · refine XS.iload P.here hx rfl (dc at_99) rfl ?_
     refine XS.iconst P.here hx rfl (dc at_101) ?_
     refine XS.icmpYes P.here hx rfl (pc0 := 102) (pc' := 112) rfl (dc at_102) rfl (flt (by decide)).2.2.2 (by decide) (by decide) ?_
     refine XS.iload P.here hx rfl (dc at_112) rfl ?_
     refine XS.iconst P.here hx rfl (dc at_114) ?_
     refine XS.icmpYes P.here hx rfl (pc0 := 115) (pc' := 125) rfl (dc at_115) rfl (flt (by decide)).2.2.2 (by decide) (by decide) ?_
     refine XS.iload P.here hx rfl (dc at_125) rfl ?_
     refine XS.iconst P.here hx rfl (dc at_127) ?_
     refine XS.icmpYes P.here hx rfl (pc0 := 128) (pc' := 138) rfl (dc at_128) rfl (flt (by decide)).2.2.2 (by decide) (by decide) ?_
     refine XS.iload P.here hx rfl (dc at_138) rfl ?_
     refine XS.iconst P.here hx rfl (dc at_140) ?_
     refine XS.icmpYes P.here hx rfl (pc0 := 141) (pc' := 151) rfl (dc at_141) rfl (flt (by decide)).2.2.2 (by decide) (by decide) ?_
     refine XS.iload P.here hx rfl (dc at_151) rfl ?_
     exact XS.iconst P.here hx rfl (dc at_153) kQ
   refine P.stat hx hZ (y := (⟨"java/lang/Math", "min", "(II)I"⟩ : MethodName)) hown (own_w hw 3 rfl) (own_w hw 4 rfl) (own_w hw 5 rfl) (own_w hw 6 rfl) (by decide) (OwM.back (W := 0) (rmMin l Z a0 hw (2 : Int32) (5 : Int32) h31 n0 Z0) hZ (own_w hw 6 rfl) (own_w hw 5 rfl) (own_le rfl) (own_le rfl)) (fun _ _ _ q => q.2) rfl (by rw [hml]; rfl) (argsL := [(.int 2), (.int 5)]) (rest := []) (lenOf pd__II_I rfl) rfl (own_le rfl) (dc at_154) rfl (own_le rfl) (own_le rfl) fun T own_v own_L h32 own_e P own_q => ?_
   obtain ⟨⟨rfl, own_hh⟩, -⟩ := own_q
   rw [own_hh] at P
   clear own_e own_hh
   show OwG p e below s _ _ _ _ T (mkF m 157 #[.val (.long q), .second, .val (.int p2), .val (.int p3), .val (.int 2), .val (.int b0), .val (.int b1), .val (.int b2), .val (.int b3), .val (.int b4), .val (.int b5), .val (.ref a), .unset, .unset, .unset, .unset, .unset, .unset] [(.int (if (5 : Int32) < (2 : Int32) then (5 : Int32) else (2 : Int32)))])
   rw [show (if (5 : Int32) < (2 : Int32) then (5 : Int32) else (2 : Int32)) = (2 : Int32) from by decide]
   show OwG p e below s _ _ _ _ T (mkF m 157 #[.val (.long q), .second, .val (.int p2), .val (.int p3), .val (.int 2), .val (.int b0), .val (.int b1), .val (.int b2), .val (.int b3), .val (.int b4), .val (.int b5), .val (.ref a), .unset, .unset, .unset, .unset, .unset, .unset] [(.int 2)])
   refine OwG.ac (mkF m 239 #[.val (.long q), .second, .val (.int p2), .val (.int p3), .val (.int 2), .val (.int b0), .val (.int b1), .val (.int b2), .val (.int b3), .val (.int b4), .val (.int b5), .val (.ref a), .val (.int 2), .unset, .unset, .unset, .unset, .unset] [(.long ((((((b0.toInt64) <<< ((32 : Int32) &&& 0x3f).toInt64) ||| ((b1.toInt64) <<< ((24 : Int32) &&& 0x3f).toInt64)) ||| (((0 : Int32).toInt64) <<< ((16 : Int32) &&& 0x3f).toInt64)) ||| (((0 : Int32).toInt64) <<< ((8 : Int32) &&& 0x3f).toInt64)) ||| ((0 : Int32).toInt64)))]) (fun tQ kQ => ?_) ?_
   · refine XS.istore P.here hx rfl (dc at_157) rfl (l' := #[.val (.long q), .second, .val (.int p2), .val (.int p3), .val (.int 2), .val (.int b0), .val (.int b1), .val (.int b2), .val (.int b3), .val (.int b4), .val (.int b5), .val (.ref a), .val (.int 2), .unset, .unset, .unset, .unset, .unset]) rfl ?_
     refine XS.iload P.here hx rfl (dc at_159) rfl ?_
     refine XS.ifNo P.here hx rfl (dc at_161) rfl ((if0 _ _).trans (tlt (by decide)).2.2.2) ?_
     refine XS.iload P.here hx rfl (dc at_164) rfl ?_
     refine XS.goto P.here hx rfl (pc0 := 166) (pc' := 170) rfl (dc at_166) (by decide) (by decide) ?_
     refine XS.i2l P.here hx rfl (dc at_170) rfl ?_
     refine XS.bipush P.here hx rfl (dc at_171) ?_
     refine XS.lshl P.here hx rfl (dc at_173) rfl ?_
     refine XS.iload P.here hx rfl (dc at_174) rfl ?_
     refine XS.iconst P.here hx rfl (dc at_176) ?_
     refine XS.icmpNo P.here hx rfl (dc at_177) rfl (tlt (by decide)).2.2.2 ?_
     refine XS.iload P.here hx rfl (dc at_180) rfl ?_
     refine XS.goto P.here hx rfl (pc0 := 182) (pc' := 186) rfl (dc at_182) (by decide) (by decide) ?_
     refine XS.i2l P.here hx rfl (dc at_186) rfl ?_
     refine XS.bipush P.here hx rfl (dc at_187) ?_
     refine XS.lshl P.here hx rfl (dc at_189) rfl ?_
     refine XS.lor P.here hx rfl (dc at_190) rfl ?_
     refine XS.iload P.here hx rfl (dc at_191) rfl ?_
     refine XS.iconst P.here hx rfl (dc at_193) ?_
     refine XS.icmpYes P.here hx rfl (pc0 := 194) (pc' := 202) rfl (dc at_194) rfl (flt (by decide)).2.2.2 (by decide) (by decide) ?_
     refine XS.iconst P.here hx rfl (dc at_202) ?_
     refine XS.i2l P.here hx rfl (dc at_203) rfl ?_
     refine XS.bipush P.here hx rfl (dc at_204) ?_
     refine XS.lshl P.here hx rfl (dc at_206) rfl ?_
     refine XS.lor P.here hx rfl (dc at_207) rfl ?_
     refine XS.iload P.here hx rfl (dc at_208) rfl ?_
     refine XS.iconst P.here hx rfl (dc at_210) ?_
     refine XS.icmpYes P.here hx rfl (pc0 := 211) (pc' := 219) rfl (dc at_211) rfl (flt (by decide)).2.2.2 (by decide) (by decide) ?_
     refine XS.iconst P.here hx rfl (dc at_219) ?_
     refine XS.i2l P.here hx rfl (dc at_220) rfl ?_
     refine XS.bipush P.here hx rfl (dc at_221) ?_
     refine XS.lshl P.here hx rfl (dc at_223) rfl ?_
     refine XS.lor P.here hx rfl (dc at_224) rfl ?_
     refine XS.iload P.here hx rfl (dc at_225) rfl ?_
     refine XS.iconst P.here hx rfl (dc at_227) ?_
     refine XS.icmpYes P.here hx rfl (pc0 := 228) (pc' := 236) rfl (dc at_228) rfl (flt (by decide)).2.2.2 (by decide) (by decide) ?_
     refine XS.iconst P.here hx rfl (dc at_236) ?_
     refine XS.i2l P.here hx rfl (dc at_237) rfl ?_
     exact XS.lor P.here hx rfl (dc at_238) rfl kQ
   obtain ⟨v, e_v⟩ : ∃ z : Int64, ((((((b0.toInt64) <<< ((32 : Int32) &&& 0x3f).toInt64) ||| ((b1.toInt64) <<< ((24 : Int32) &&& 0x3f).toInt64)) ||| (((0 : Int32).toInt64) <<< ((16 : Int32) &&& 0x3f).toInt64)) ||| (((0 : Int32).toInt64) <<< ((8 : Int32) &&& 0x3f).toInt64)) ||| ((0 : Int32).toInt64)) = z := ⟨_, rfl⟩
   rw [show ((((((b0.toInt64) <<< ((32 : Int32) &&& 0x3f).toInt64) ||| ((b1.toInt64) <<< ((24 : Int32) &&& 0x3f).toInt64)) ||| (((0 : Int32).toInt64) <<< ((16 : Int32) &&& 0x3f).toInt64)) ||| (((0 : Int32).toInt64) <<< ((8 : Int32) &&& 0x3f).toInt64)) ||| ((0 : Int32).toInt64)) = v from e_v]
   show OwG p e below s _ _ _ _ T (mkF m 239 #[.val (.long q), .second, .val (.int p2), .val (.int p3), .val (.int 2), .val (.int b0), .val (.int b1), .val (.int b2), .val (.int b3), .val (.int b4), .val (.int b5), .val (.ref a), .val (.int 2), .unset, .unset, .unset, .unset, .unset] [(.long v)])
   refine OwG.ac (mkF m 243 #[.val (.long q), .second, .val (.int p2), .val (.int p3), .val (.int 2), .val (.int b0), .val (.int b1), .val (.int b2), .val (.int b3), .val (.int b4), .val (.int b5), .val (.ref a), .val (.int 2), .val (.long v), .second, .unset, .unset, .unset] [(.int 2)]) (fun tQ kQ => ?_) ?_
   · refine XS.lstore P.here hx rfl (dc at_239) rfl (l' := #[.val (.long q), .second, .val (.int p2), .val (.int p3), .val (.int 2), .val (.int b0), .val (.int b1), .val (.int b2), .val (.int b3), .val (.int b4), .val (.int b5), .val (.ref a), .val (.int 2), .val (.long v), .second, .unset, .unset, .unset]) rfl ?_
     exact XS.iload P.here hx rfl (dc at_241) rfl kQ
   have hv := own_v_to h_b0 h_b1 (b2 := (0 : Int32)) (by decide) (b3 := (0 : Int32)) (by decide) (b4 := (0 : Int32)) (by decide)
   rw [e_v] at hv
   refine OwG.ac (mkF m 297 #[.val (.long q), .second, .val (.int p2), .val (.int p3), .val (.int 2), .val (.int b0), .val (.int b1), .val (.int b2), .val (.int b3), .val (.int b4), .val (.int b5), .val (.ref a), .val (.int 2), .val (.long v), .second, .val (.int 4), .unset, .unset] [(.ref a)]) (fun tQ kQ => ?_) ?_
   · refine XS.ifYes P.here hx rfl (pc0 := 243) (pc' := 250) rfl (dc at_243) rfl ((if0 _ _).trans (feq (by decide)).2) (by decide) (by decide) ?_
     refine XS.iload P.here hx rfl (dc at_250) rfl ?_
     refine XS.iconst P.here hx rfl (dc at_252) ?_
     refine XS.icmpYes P.here hx rfl (pc0 := 253) (pc' := 260) rfl (dc at_253) rfl (feq (by decide)).2 (by decide) (by decide) ?_
     refine XS.iload P.here hx rfl (dc at_260) rfl ?_
     refine XS.iconst P.here hx rfl (dc at_262) ?_
     refine XS.icmpNo P.here hx rfl (dc at_263) rfl (teq (by decide)).2 ?_
     refine XS.iconst P.here hx rfl (dc at_266) ?_
     refine XS.goto P.here hx rfl (pc0 := 267) (pc' := 293) rfl (dc at_267) (by decide) (by decide) ?_
     refine XS.istore P.here hx rfl (dc at_293) rfl (l' := #[.val (.long q), .second, .val (.int p2), .val (.int p3), .val (.int 2), .val (.int b0), .val (.int b1), .val (.int b2), .val (.int b3), .val (.int b4), .val (.int b5), .val (.ref a), .val (.int 2), .val (.long v), .second, .val (.int 4), .unset, .unset]) rfl ?_
     exact XS.aload P.here hx rfl (dc at_295) rfl rfl kQ
   refine P.stat hx hZ (y := (⟨"com/example/grawl/grawl/util/Base32", "encode", "([B)Ljava/lang/String;"⟩ : MethodName)) hown (own_w hw 7 rfl) (own_w hw 8 rfl) (own_w hw 9 rfl) (own_w hw 10 rfl) (by decide) (OwM.back (W := 0) (rmE2 l Z a0 hw a al ka kal dal zC (StrChars.lo8 b0) (StrChars.lo8 b1) h31 n0 Z0 S2 hzC OL SAl V_a V_al) hZ (own_w hw 10 rfl) (own_w hw 9 rfl) (own_le rfl) (own_le rfl)) (fun _ _ _ q => q.2) rfl (by rw [hml]; rfl) (argsL := [(.ref a)]) (rest := []) (lenOf pd___B_Ljava_lang_String_ rfl) rfl (own_le rfl) (dc at_297) rfl (own_le rfl) (own_le rfl) fun T own_v own_L h33 own_e P own_q => ?_
   obtain ⟨⟨x, u, ku, rfl, K, E_x, F_value_x, F_coder_x, V_u⟩, -⟩ := own_q
   clear own_e
   replace V_al := V_al.keep K nin0
   replace V_a := V_a.keep K nin0
   replace Z0 := Nat.le_trans Z0 K.1
   replace OL := OL.keep K all0
   show OwG p e below s _ _ _ _ T (mkF m 300 #[.val (.long q), .second, .val (.int p2), .val (.int p3), .val (.int 2), .val (.int b0), .val (.int b1), .val (.int b2), .val (.int b3), .val (.int b4), .val (.int b5), .val (.ref a), .val (.int 2), .val (.long v), .second, .val (.int 4), .unset, .unset] [(.ref x)])
   refine OwG.ac (mkF m 302 #[.val (.long q), .second, .val (.int p2), .val (.int p3), .val (.int 2), .val (.int b0), .val (.int b1), .val (.int b2), .val (.int b3), .val (.int b4), .val (.int b5), .val (.ref a), .val (.int 2), .val (.long v), .second, .val (.int 4), .val (.ref x), .unset] []) (fun tQ kQ => ?_) ?_
   · exact XS.astore P.here hx rfl (dc at_300) rfl rfl (l' := #[.val (.long q), .second, .val (.int p2), .val (.int p3), .val (.int 2), .val (.int b0), .val (.int b1), .val (.int b2), .val (.int b3), .val (.int b4), .val (.int b5), .val (.ref a), .val (.int 2), .val (.long v), .second, .val (.int 4), .val (.ref x), .unset]) rfl kQ
   have own_q := own_eq2 (v := v) h_b0 h_b1 (by simpa using hv)
   exact k302 T h33 a x u ku v (2 : Int32) (2 : Int32) (4 : Int32) ([(own_dg (own_bt (0 : Int32) (StrChars.lo8 b0)) (3 : Int32)), (own_dg (own_bt (own_bt (0 : Int32) (StrChars.lo8 b0)) (StrChars.lo8 b1)) (6 : Int32)), (own_dg (own_bt (own_bt (0 : Int32) (StrChars.lo8 b0)) (StrChars.lo8 b1)) (1 : Int32)), (own_dl (own_bt (own_bt (0 : Int32) (StrChars.lo8 b0)) (StrChars.lo8 b1)) (1 : Int32)), (61 : Int32), (61 : Int32), (61 : Int32), (61 : Int32)] : List Int32) (P.wide (by decide) (by decide)) Z0 OL V_al (by decide) (by decide) E_x F_value_x F_coder_x V_u own_q
  ·skip
   show OwG p e below s _ _ _ _ T (mkF m 70 #[.val (.long q), .second, .val (.int p2), .val (.int p3), .val (.int 3), .val (.int b0), .val (.int b1), .val (.int b2), .val (.int b3), .val (.int b4), .val (.int b5), .unset, .unset, .unset, .unset, .unset, .unset, .unset] [(.int 3)])
   refine P.newP hx hZ (own_w hw 2 rfl) rfl (dc at_70) rfl (by decide) (cap := 3) (by decide) (by decide) (own_le rfl) (own_le rfl) fun T h34 a ka ga P E V_a => ?_
   have ne_al_a : al ≠ a := Nat.ne_of_lt (Nat.lt_of_lt_of_le V_al.lt (Nat.le_of_eq ga.symm))
   have ne_a_al := Ne.symm ne_al_a
   have g_a : n0 ≤ a := Nat.le_trans Z0 (Nat.le_of_eq ga.symm)
   replace V_al := V_al.ext E
   replace Z0 := Nat.le_trans Z0 E.1
   replace OL := OL.ext E
   clear E
   replace V_a : Arv Z h34 a ka .byte (3 : Int32) [(.int 0), (.int 0), (.int 0)] (.int 0) := V_a.pad (pad_rep [] (.int 0) 3)
   show OwG p e below s _ _ _ _ T (mkF m 72 #[.val (.long q), .second, .val (.int p2), .val (.int p3), .val (.int 3), .val (.int b0), .val (.int b1), .val (.int b2), .val (.int b3), .val (.int b4), .val (.int b5), .unset, .unset, .unset, .unset, .unset, .unset, .unset] [(.ref a)])
   refine OwG.ac (mkF m 85 #[.val (.long q), .second, .val (.int p2), .val (.int p3), .val (.int 3), .val (.int b0), .val (.int b1), .val (.int b2), .val (.int b3), .val (.int b4), .val (.int b5), .val (.ref a), .unset, .unset, .unset, .unset, .unset, .unset] [(.int (b0.toInt8.toInt32)), (.int 0), (.ref a)]) (fun tQ kQ => ?_) ?_
   · refine XS.astore P.here hx rfl (dc at_72) rfl rfl (l' := #[.val (.long q), .second, .val (.int p2), .val (.int p3), .val (.int 3), .val (.int b0), .val (.int b1), .val (.int b2), .val (.int b3), .val (.int b4), .val (.int b5), .val (.ref a), .unset, .unset, .unset, .unset, .unset, .unset]) rfl ?_
     refine XS.iload P.here hx rfl (dc at_74) rfl ?_
     refine XS.ifNo P.here hx rfl (dc at_76) rfl ((if0 _ _).trans (tlt (by decide)).2.2.2) ?_
     refine XS.aload P.here hx rfl (dc at_79) rfl rfl ?_
     refine XS.iconst P.here hx rfl (dc at_81) ?_
     refine XS.iload P.here hx rfl (dc at_82) rfl ?_
     exact XS.i2b P.here hx rfl (dc at_84) rfl kQ
   refine P.stB hx hZ V_a (j := (0 : Int32)) (by decide) (by decide) (i := 0) rfl (Nat.le_of_ble_eq_true rfl) rfl rfl (dc at_85) g_a fun T h35 P W V' => ?_
   replace V_al := V_al.other W ne_al_a
   replace Z0 := Nat.le_trans Z0 (Keep.of_wr W).1
   replace OL := OL.wr W g_a
   replace V_a := V'
   clear W V'
   show OwG p e below s _ _ _ _ T (mkF m 86 #[.val (.long q), .second, .val (.int p2), .val (.int p3), .val (.int 3), .val (.int b0), .val (.int b1), .val (.int b2), .val (.int b3), .val (.int b4), .val (.int b5), .val (.ref a), .unset, .unset, .unset, .unset, .unset, .unset] [])
   rw [own_i2b2] at V_a
   replace V_a : Arv Z h35 a ka .byte (3 : Int32) [(.int (StrChars.lo8 b0)), (.int 0), (.int 0)] (.int 0) := V_a
   refine OwG.ac (mkF m 98 #[.val (.long q), .second, .val (.int p2), .val (.int p3), .val (.int 3), .val (.int b0), .val (.int b1), .val (.int b2), .val (.int b3), .val (.int b4), .val (.int b5), .val (.ref a), .unset, .unset, .unset, .unset, .unset, .unset] [(.int (b1.toInt8.toInt32)), (.int 1), (.ref a)]) (fun tQ kQ => ?_) ?_
   · refine XS.iload P.here hx rfl (dc at_86) rfl ?_
     refine XS.iconst P.here hx rfl (dc at_88) ?_
     refine XS.icmpNo P.here hx rfl (dc at_89) rfl (tlt (by decide)).2.2.2 ?_
     refine XS.aload P.here hx rfl (dc at_92) rfl rfl ?_
     refine XS.iconst P.here hx rfl (dc at_94) ?_
     refine XS.iload P.here hx rfl (dc at_95) rfl ?_
     exact XS.i2b P.here hx rfl (dc at_97) rfl kQ
   refine P.stB hx hZ V_a (j := (1 : Int32)) (by decide) (by decide) (i := 1) rfl (Nat.le_of_ble_eq_true rfl) rfl rfl (dc at_98) g_a fun T h36 P W V' => ?_
   replace V_al := V_al.other W ne_al_a
   replace Z0 := Nat.le_trans Z0 (Keep.of_wr W).1
   replace OL := OL.wr W g_a
   replace V_a := V'
   clear W V'
   show OwG p e below s _ _ _ _ T (mkF m 99 #[.val (.long q), .second, .val (.int p2), .val (.int p3), .val (.int 3), .val (.int b0), .val (.int b1), .val (.int b2), .val (.int b3), .val (.int b4), .val (.int b5), .val (.ref a), .unset, .unset, .unset, .unset, .unset, .unset] [])
   rw [own_i2b2] at V_a
   replace V_a : Arv Z h36 a ka .byte (3 : Int32) [(.int (StrChars.lo8 b0)), (.int (StrChars.lo8 b1)), (.int 0)] (.int 0) := V_a
   refine OwG.ac (mkF m 111 #[.val (.long q), .second, .val (.int p2), .val (.int p3), .val (.int 3), .val (.int b0), .val (.int b1), .val (.int b2), .val (.int b3), .val (.int b4), .val (.int b5), .val (.ref a), .unset, .unset, .unset, .unset, .unset, .unset] [(.int (b2.toInt8.toInt32)), (.int 2), (.ref a)]) (fun tQ kQ => ?_) ?_
   · refine XS.iload P.here hx rfl (dc at_99) rfl ?_
     refine XS.iconst P.here hx rfl (dc at_101) ?_
     refine XS.icmpNo P.here hx rfl (dc at_102) rfl (tlt (by decide)).2.2.2 ?_
     refine XS.aload P.here hx rfl (dc at_105) rfl rfl ?_
     refine XS.iconst P.here hx rfl (dc at_107) ?_
     refine XS.iload P.here hx rfl (dc at_108) rfl ?_
     exact XS.i2b P.here hx rfl (dc at_110) rfl kQ
   refine P.stB hx hZ V_a (j := (2 : Int32)) (by decide) (by decide) (i := 2) rfl (Nat.le_of_ble_eq_true rfl) rfl rfl (dc at_111) g_a fun T h37 P W V' => ?_
   replace V_al := V_al.other W ne_al_a
   replace Z0 := Nat.le_trans Z0 (Keep.of_wr W).1
   replace OL := OL.wr W g_a
   replace V_a := V'
   clear W V'
   show OwG p e below s _ _ _ _ T (mkF m 112 #[.val (.long q), .second, .val (.int p2), .val (.int p3), .val (.int 3), .val (.int b0), .val (.int b1), .val (.int b2), .val (.int b3), .val (.int b4), .val (.int b5), .val (.ref a), .unset, .unset, .unset, .unset, .unset, .unset] [])
   rw [own_i2b2] at V_a
   replace V_a : Arv Z h37 a ka .byte (3 : Int32) [(.int (StrChars.lo8 b0)), (.int (StrChars.lo8 b1)), (.int (StrChars.lo8 b2))] (.int 0) := V_a
   refine OwG.ac (mkF m 154 #[.val (.long q), .second, .val (.int p2), .val (.int p3), .val (.int 3), .val (.int b0), .val (.int b1), .val (.int b2), .val (.int b3), .val (.int b4), .val (.int b5), .val (.ref a), .unset, .unset, .unset, .unset, .unset, .unset] [(.int 5), (.int 3)]) (fun tQ kQ => ?_) ?_
   · refine XS.iload P.here hx rfl (dc at_112) rfl ?_
     refine XS.iconst P.here hx rfl (dc at_114) ?_
     refine XS.icmpYes P.here hx rfl (pc0 := 115) (pc' := 125) rfl (dc at_115) rfl (flt (by decide)).2.2.2 (by decide) (by decide) ?_
     refine XS.iload P.here hx rfl (dc at_125) rfl ?_
     refine XS.iconst P.here hx rfl (dc at_127) ?_
     refine XS.icmpYes P.here hx rfl (pc0 := 128) (pc' := 138) rfl (dc at_128) rfl (flt (by decide)).2.2.2 (by decide) (by decide) ?_
     refine XS.iload P.here hx rfl (dc at_138) rfl ?_
     refine XS.iconst P.here hx rfl (dc at_140) ?_
     refine XS.icmpYes P.here hx rfl (pc0 := 141) (pc' := 151) rfl (dc at_141) rfl (flt (by decide)).2.2.2 (by decide) (by decide) ?_
     refine XS.iload P.here hx rfl (dc at_151) rfl ?_
     exact XS.iconst P.here hx rfl (dc at_153) kQ
   refine P.stat hx hZ (y := (⟨"java/lang/Math", "min", "(II)I"⟩ : MethodName)) hown (own_w hw 3 rfl) (own_w hw 4 rfl) (own_w hw 5 rfl) (own_w hw 6 rfl) (by decide) (OwM.back (W := 0) (rmMin l Z a0 hw (3 : Int32) (5 : Int32) h37 n0 Z0) hZ (own_w hw 6 rfl) (own_w hw 5 rfl) (own_le rfl) (own_le rfl)) (fun _ _ _ q => q.2) rfl (by rw [hml]; rfl) (argsL := [(.int 3), (.int 5)]) (rest := []) (lenOf pd__II_I rfl) rfl (own_le rfl) (dc at_154) rfl (own_le rfl) (own_le rfl) fun T own_v own_L h38 own_e P own_q => ?_
   obtain ⟨⟨rfl, own_hh⟩, -⟩ := own_q
   rw [own_hh] at P
   clear own_e own_hh
   show OwG p e below s _ _ _ _ T (mkF m 157 #[.val (.long q), .second, .val (.int p2), .val (.int p3), .val (.int 3), .val (.int b0), .val (.int b1), .val (.int b2), .val (.int b3), .val (.int b4), .val (.int b5), .val (.ref a), .unset, .unset, .unset, .unset, .unset, .unset] [(.int (if (5 : Int32) < (3 : Int32) then (5 : Int32) else (3 : Int32)))])
   rw [show (if (5 : Int32) < (3 : Int32) then (5 : Int32) else (3 : Int32)) = (3 : Int32) from by decide]
   show OwG p e below s _ _ _ _ T (mkF m 157 #[.val (.long q), .second, .val (.int p2), .val (.int p3), .val (.int 3), .val (.int b0), .val (.int b1), .val (.int b2), .val (.int b3), .val (.int b4), .val (.int b5), .val (.ref a), .unset, .unset, .unset, .unset, .unset, .unset] [(.int 3)])
   refine OwG.ac (mkF m 239 #[.val (.long q), .second, .val (.int p2), .val (.int p3), .val (.int 3), .val (.int b0), .val (.int b1), .val (.int b2), .val (.int b3), .val (.int b4), .val (.int b5), .val (.ref a), .val (.int 3), .unset, .unset, .unset, .unset, .unset] [(.long ((((((b0.toInt64) <<< ((32 : Int32) &&& 0x3f).toInt64) ||| ((b1.toInt64) <<< ((24 : Int32) &&& 0x3f).toInt64)) ||| ((b2.toInt64) <<< ((16 : Int32) &&& 0x3f).toInt64)) ||| (((0 : Int32).toInt64) <<< ((8 : Int32) &&& 0x3f).toInt64)) ||| ((0 : Int32).toInt64)))]) (fun tQ kQ => ?_) ?_
   · refine XS.istore P.here hx rfl (dc at_157) rfl (l' := #[.val (.long q), .second, .val (.int p2), .val (.int p3), .val (.int 3), .val (.int b0), .val (.int b1), .val (.int b2), .val (.int b3), .val (.int b4), .val (.int b5), .val (.ref a), .val (.int 3), .unset, .unset, .unset, .unset, .unset]) rfl ?_
     refine XS.iload P.here hx rfl (dc at_159) rfl ?_
     refine XS.ifNo P.here hx rfl (dc at_161) rfl ((if0 _ _).trans (tlt (by decide)).2.2.2) ?_
     refine XS.iload P.here hx rfl (dc at_164) rfl ?_
     refine XS.goto P.here hx rfl (pc0 := 166) (pc' := 170) rfl (dc at_166) (by decide) (by decide) ?_
     refine XS.i2l P.here hx rfl (dc at_170) rfl ?_
     refine XS.bipush P.here hx rfl (dc at_171) ?_
     refine XS.lshl P.here hx rfl (dc at_173) rfl ?_
     refine XS.iload P.here hx rfl (dc at_174) rfl ?_
     refine XS.iconst P.here hx rfl (dc at_176) ?_
     refine XS.icmpNo P.here hx rfl (dc at_177) rfl (tlt (by decide)).2.2.2 ?_
     refine XS.iload P.here hx rfl (dc at_180) rfl ?_
     refine XS.goto P.here hx rfl (pc0 := 182) (pc' := 186) rfl (dc at_182) (by decide) (by decide) ?_
     refine XS.i2l P.here hx rfl (dc at_186) rfl ?_
     refine XS.bipush P.here hx rfl (dc at_187) ?_
     refine XS.lshl P.here hx rfl (dc at_189) rfl ?_
     refine XS.lor P.here hx rfl (dc at_190) rfl ?_
     refine XS.iload P.here hx rfl (dc at_191) rfl ?_
     refine XS.iconst P.here hx rfl (dc at_193) ?_
     refine XS.icmpNo P.here hx rfl (dc at_194) rfl (tlt (by decide)).2.2.2 ?_
     refine XS.iload P.here hx rfl (dc at_197) rfl ?_
     refine XS.goto P.here hx rfl (pc0 := 199) (pc' := 203) rfl (dc at_199) (by decide) (by decide) ?_
     refine XS.i2l P.here hx rfl (dc at_203) rfl ?_
     refine XS.bipush P.here hx rfl (dc at_204) ?_
     refine XS.lshl P.here hx rfl (dc at_206) rfl ?_
     refine XS.lor P.here hx rfl (dc at_207) rfl ?_
     refine XS.iload P.here hx rfl (dc at_208) rfl ?_
     refine XS.iconst P.here hx rfl (dc at_210) ?_
     refine XS.icmpYes P.here hx rfl (pc0 := 211) (pc' := 219) rfl (dc at_211) rfl (flt (by decide)).2.2.2 (by decide) (by decide) ?_
     refine XS.iconst P.here hx rfl (dc at_219) ?_
     refine XS.i2l P.here hx rfl (dc at_220) rfl ?_
     refine XS.bipush P.here hx rfl (dc at_221) ?_
     refine XS.lshl P.here hx rfl (dc at_223) rfl ?_
     refine XS.lor P.here hx rfl (dc at_224) rfl ?_
     refine XS.iload P.here hx rfl (dc at_225) rfl ?_
     refine XS.iconst P.here hx rfl (dc at_227) ?_
     refine XS.icmpYes P.here hx rfl (pc0 := 228) (pc' := 236) rfl (dc at_228) rfl (flt (by decide)).2.2.2 (by decide) (by decide) ?_
     refine XS.iconst P.here hx rfl (dc at_236) ?_
     refine XS.i2l P.here hx rfl (dc at_237) rfl ?_
     exact XS.lor P.here hx rfl (dc at_238) rfl kQ
   obtain ⟨v, e_v⟩ : ∃ z : Int64, ((((((b0.toInt64) <<< ((32 : Int32) &&& 0x3f).toInt64) ||| ((b1.toInt64) <<< ((24 : Int32) &&& 0x3f).toInt64)) ||| ((b2.toInt64) <<< ((16 : Int32) &&& 0x3f).toInt64)) ||| (((0 : Int32).toInt64) <<< ((8 : Int32) &&& 0x3f).toInt64)) ||| ((0 : Int32).toInt64)) = z := ⟨_, rfl⟩
   rw [show ((((((b0.toInt64) <<< ((32 : Int32) &&& 0x3f).toInt64) ||| ((b1.toInt64) <<< ((24 : Int32) &&& 0x3f).toInt64)) ||| ((b2.toInt64) <<< ((16 : Int32) &&& 0x3f).toInt64)) ||| (((0 : Int32).toInt64) <<< ((8 : Int32) &&& 0x3f).toInt64)) ||| ((0 : Int32).toInt64)) = v from e_v]
   show OwG p e below s _ _ _ _ T (mkF m 239 #[.val (.long q), .second, .val (.int p2), .val (.int p3), .val (.int 3), .val (.int b0), .val (.int b1), .val (.int b2), .val (.int b3), .val (.int b4), .val (.int b5), .val (.ref a), .val (.int 3), .unset, .unset, .unset, .unset, .unset] [(.long v)])
   refine OwG.ac (mkF m 243 #[.val (.long q), .second, .val (.int p2), .val (.int p3), .val (.int 3), .val (.int b0), .val (.int b1), .val (.int b2), .val (.int b3), .val (.int b4), .val (.int b5), .val (.ref a), .val (.int 3), .val (.long v), .second, .unset, .unset, .unset] [(.int 3)]) (fun tQ kQ => ?_) ?_
   · refine XS.lstore P.here hx rfl (dc at_239) rfl (l' := #[.val (.long q), .second, .val (.int p2), .val (.int p3), .val (.int 3), .val (.int b0), .val (.int b1), .val (.int b2), .val (.int b3), .val (.int b4), .val (.int b5), .val (.ref a), .val (.int 3), .val (.long v), .second, .unset, .unset, .unset]) rfl ?_
     exact XS.iload P.here hx rfl (dc at_241) rfl kQ
   have hv := own_v_to h_b0 h_b1 h_b2 (b3 := (0 : Int32)) (by decide) (b4 := (0 : Int32)) (by decide)
   rw [e_v] at hv
   refine OwG.ac (mkF m 297 #[.val (.long q), .second, .val (.int p2), .val (.int p3), .val (.int 3), .val (.int b0), .val (.int b1), .val (.int b2), .val (.int b3), .val (.int b4), .val (.int b5), .val (.ref a), .val (.int 3), .val (.long v), .second, .val (.int 5), .unset, .unset] [(.ref a)]) (fun tQ kQ => ?_) ?_
   · refine XS.ifYes P.here hx rfl (pc0 := 243) (pc' := 250) rfl (dc at_243) rfl ((if0 _ _).trans (feq (by decide)).2) (by decide) (by decide) ?_
     refine XS.iload P.here hx rfl (dc at_250) rfl ?_
     refine XS.iconst P.here hx rfl (dc at_252) ?_
     refine XS.icmpYes P.here hx rfl (pc0 := 253) (pc' := 260) rfl (dc at_253) rfl (feq (by decide)).2 (by decide) (by decide) ?_
     refine XS.iload P.here hx rfl (dc at_260) rfl ?_
     refine XS.iconst P.here hx rfl (dc at_262) ?_
     refine XS.icmpYes P.here hx rfl (pc0 := 263) (pc' := 270) rfl (dc at_263) rfl (feq (by decide)).2 (by decide) (by decide) ?_
     refine XS.iload P.here hx rfl (dc at_270) rfl ?_
     refine XS.iconst P.here hx rfl (dc at_272) ?_
     refine XS.icmpNo P.here hx rfl (dc at_273) rfl (teq (by decide)).2 ?_
     refine XS.iconst P.here hx rfl (dc at_276) ?_
     refine XS.goto P.here hx rfl (pc0 := 277) (pc' := 293) rfl (dc at_277) (by decide) (by decide) ?_
     refine XS.istore P.here hx rfl (dc at_293) rfl (l' := #[.val (.long q), .second, .val (.int p2), .val (.int p3), .val (.int 3), .val (.int b0), .val (.int b1), .val (.int b2), .val (.int b3), .val (.int b4), .val (.int b5), .val (.ref a), .val (.int 3), .val (.long v), .second, .val (.int 5), .unset, .unset]) rfl ?_
     exact XS.aload P.here hx rfl (dc at_295) rfl rfl kQ
   refine P.stat hx hZ (y := (⟨"com/example/grawl/grawl/util/Base32", "encode", "([B)Ljava/lang/String;"⟩ : MethodName)) hown (own_w hw 7 rfl) (own_w hw 8 rfl) (own_w hw 9 rfl) (own_w hw 10 rfl) (by decide) (OwM.back (W := 0) (rmE3 l Z a0 hw a al ka kal dal zC (StrChars.lo8 b0) (StrChars.lo8 b1) (StrChars.lo8 b2) h37 n0 Z0 S2 hzC OL SAl V_a V_al) hZ (own_w hw 10 rfl) (own_w hw 9 rfl) (own_le rfl) (own_le rfl)) (fun _ _ _ q => q.2) rfl (by rw [hml]; rfl) (argsL := [(.ref a)]) (rest := []) (lenOf pd___B_Ljava_lang_String_ rfl) rfl (own_le rfl) (dc at_297) rfl (own_le rfl) (own_le rfl) fun T own_v own_L h39 own_e P own_q => ?_
   obtain ⟨⟨x, u, ku, rfl, K, E_x, F_value_x, F_coder_x, V_u⟩, -⟩ := own_q
   clear own_e
   replace V_al := V_al.keep K nin0
   replace V_a := V_a.keep K nin0
   replace Z0 := Nat.le_trans Z0 K.1
   replace OL := OL.keep K all0
   show OwG p e below s _ _ _ _ T (mkF m 300 #[.val (.long q), .second, .val (.int p2), .val (.int p3), .val (.int 3), .val (.int b0), .val (.int b1), .val (.int b2), .val (.int b3), .val (.int b4), .val (.int b5), .val (.ref a), .val (.int 3), .val (.long v), .second, .val (.int 5), .unset, .unset] [(.ref x)])
   refine OwG.ac (mkF m 302 #[.val (.long q), .second, .val (.int p2), .val (.int p3), .val (.int 3), .val (.int b0), .val (.int b1), .val (.int b2), .val (.int b3), .val (.int b4), .val (.int b5), .val (.ref a), .val (.int 3), .val (.long v), .second, .val (.int 5), .val (.ref x), .unset] []) (fun tQ kQ => ?_) ?_
   · exact XS.astore P.here hx rfl (dc at_300) rfl rfl (l' := #[.val (.long q), .second, .val (.int p2), .val (.int p3), .val (.int 3), .val (.int b0), .val (.int b1), .val (.int b2), .val (.int b3), .val (.int b4), .val (.int b5), .val (.ref a), .val (.int 3), .val (.long v), .second, .val (.int 5), .val (.ref x), .unset]) rfl kQ
   have own_q := own_eq3 (v := v) h_b0 h_b1 h_b2 (by simpa using hv)
   exact k302 T h39 a x u ku v (3 : Int32) (3 : Int32) (5 : Int32) ([(own_dg (own_bt (0 : Int32) (StrChars.lo8 b0)) (3 : Int32)), (own_dg (own_bt (own_bt (0 : Int32) (StrChars.lo8 b0)) (StrChars.lo8 b1)) (6 : Int32)), (own_dg (own_bt (own_bt (0 : Int32) (StrChars.lo8 b0)) (StrChars.lo8 b1)) (1 : Int32)), (own_dg (own_bt (own_bt (own_bt (0 : Int32) (StrChars.lo8 b0)) (StrChars.lo8 b1)) (StrChars.lo8 b2)) (4 : Int32)), (own_dl (own_bt (own_bt (own_bt (0 : Int32) (StrChars.lo8 b0)) (StrChars.lo8 b1)) (StrChars.lo8 b2)) (4 : Int32)), (61 : Int32), (61 : Int32), (61 : Int32)] : List Int32) (P.wide (by decide) (by decide)) Z0 OL V_al (by decide) (by decide) E_x F_value_x F_coder_x V_u own_q
  ·skip
   show OwG p e below s _ _ _ _ T (mkF m 70 #[.val (.long q), .second, .val (.int p2), .val (.int p3), .val (.int 4), .val (.int b0), .val (.int b1), .val (.int b2), .val (.int b3), .val (.int b4), .val (.int b5), .unset, .unset, .unset, .unset, .unset, .unset, .unset] [(.int 4)])
   refine P.newP hx hZ (own_w hw 2 rfl) rfl (dc at_70) rfl (by decide) (cap := 4) (by decide) (by decide) (own_le rfl) (own_le rfl) fun T h40 a ka ga P E V_a => ?_
   have ne_al_a : al ≠ a := Nat.ne_of_lt (Nat.lt_of_lt_of_le V_al.lt (Nat.le_of_eq ga.symm))
   have ne_a_al := Ne.symm ne_al_a
   have g_a : n0 ≤ a := Nat.le_trans Z0 (Nat.le_of_eq ga.symm)
   replace V_al := V_al.ext E
   replace Z0 := Nat.le_trans Z0 E.1
   replace OL := OL.ext E
   clear E
   replace V_a : Arv Z h40 a ka .byte (4 : Int32) [(.int 0), (.int 0), (.int 0), (.int 0)] (.int 0) := V_a.pad (pad_rep [] (.int 0) 4)
   show OwG p e below s _ _ _ _ T (mkF m 72 #[.val (.long q), .second, .val (.int p2), .val (.int p3), .val (.int 4), .val (.int b0), .val (.int b1), .val (.int b2), .val (.int b3), .val (.int b4), .val (.int b5), .unset, .unset, .unset, .unset, .unset, .unset, .unset] [(.ref a)])
   refine OwG.ac (mkF m 85 #[.val (.long q), .second, .val (.int p2), .val (.int p3), .val (.int 4), .val (.int b0), .val (.int b1), .val (.int b2), .val (.int b3), .val (.int b4), .val (.int b5), .val (.ref a), .unset, .unset, .unset, .unset, .unset, .unset] [(.int (b0.toInt8.toInt32)), (.int 0), (.ref a)]) (fun tQ kQ => ?_) ?_
   · refine XS.astore P.here hx rfl (dc at_72) rfl rfl (l' := #[.val (.long q), .second, .val (.int p2), .val (.int p3), .val (.int 4), .val (.int b0), .val (.int b1), .val (.int b2), .val (.int b3), .val (.int b4), .val (.int b5), .val (.ref a), .unset, .unset, .unset, .unset, .unset, .unset]) rfl ?_
     refine XS.iload P.here hx rfl (dc at_74) rfl ?_
     refine XS.ifNo P.here hx rfl (dc at_76) rfl ((if0 _ _).trans (tlt (by decide)).2.2.2) ?_
     refine XS.aload P.here hx rfl (dc at_79) rfl rfl ?_
     refine XS.iconst P.here hx rfl (dc at_81) ?_
     refine XS.iload P.here hx rfl (dc at_82) rfl ?_
     exact XS.i2b P.here hx rfl (dc at_84) rfl kQ
   refine P.stB hx hZ V_a (j := (0 : Int32)) (by decide) (by decide) (i := 0) rfl (Nat.le_of_ble_eq_true rfl) rfl rfl (dc at_85) g_a fun T h41 P W V' => ?_
   replace V_al := V_al.other W ne_al_a
   replace Z0 := Nat.le_trans Z0 (Keep.of_wr W).1
   replace OL := OL.wr W g_a
   replace V_a := V'
   clear W V'
   show OwG p e below s _ _ _ _ T (mkF m 86 #[.val (.long q), .second, .val (.int p2), .val (.int p3), .val (.int 4), .val (.int b0), .val (.int b1), .val (.int b2), .val (.int b3), .val (.int b4), .val (.int b5), .val (.ref a), .unset, .unset, .unset, .unset, .unset, .unset] [])
   rw [own_i2b2] at V_a
   replace V_a : Arv Z h41 a ka .byte (4 : Int32) [(.int (StrChars.lo8 b0)), (.int 0), (.int 0), (.int 0)] (.int 0) := V_a
   refine OwG.ac (mkF m 98 #[.val (.long q), .second, .val (.int p2), .val (.int p3), .val (.int 4), .val (.int b0), .val (.int b1), .val (.int b2), .val (.int b3), .val (.int b4), .val (.int b5), .val (.ref a), .unset, .unset, .unset, .unset, .unset, .unset] [(.int (b1.toInt8.toInt32)), (.int 1), (.ref a)]) (fun tQ kQ => ?_) ?_
   · refine XS.iload P.here hx rfl (dc at_86) rfl ?_
     refine XS.iconst P.here hx rfl (dc at_88) ?_
     refine XS.icmpNo P.here hx rfl (dc at_89) rfl (tlt (by decide)).2.2.2 ?_
     refine XS.aload P.here hx rfl (dc at_92) rfl rfl ?_
     refine XS.iconst P.here hx rfl (dc at_94) ?_
     refine XS.iload P.here hx rfl (dc at_95) rfl ?_
     exact XS.i2b P.here hx rfl (dc at_97) rfl kQ
   refine P.stB hx hZ V_a (j := (1 : Int32)) (by decide) (by decide) (i := 1) rfl (Nat.le_of_ble_eq_true rfl) rfl rfl (dc at_98) g_a fun T h42 P W V' => ?_
   replace V_al := V_al.other W ne_al_a
   replace Z0 := Nat.le_trans Z0 (Keep.of_wr W).1
   replace OL := OL.wr W g_a
   replace V_a := V'
   clear W V'
   show OwG p e below s _ _ _ _ T (mkF m 99 #[.val (.long q), .second, .val (.int p2), .val (.int p3), .val (.int 4), .val (.int b0), .val (.int b1), .val (.int b2), .val (.int b3), .val (.int b4), .val (.int b5), .val (.ref a), .unset, .unset, .unset, .unset, .unset, .unset] [])
   rw [own_i2b2] at V_a
   replace V_a : Arv Z h42 a ka .byte (4 : Int32) [(.int (StrChars.lo8 b0)), (.int (StrChars.lo8 b1)), (.int 0), (.int 0)] (.int 0) := V_a
   refine OwG.ac (mkF m 111 #[.val (.long q), .second, .val (.int p2), .val (.int p3), .val (.int 4), .val (.int b0), .val (.int b1), .val (.int b2), .val (.int b3), .val (.int b4), .val (.int b5), .val (.ref a), .unset, .unset, .unset, .unset, .unset, .unset] [(.int (b2.toInt8.toInt32)), (.int 2), (.ref a)]) (fun tQ kQ => ?_) ?_
   · refine XS.iload P.here hx rfl (dc at_99) rfl ?_
     refine XS.iconst P.here hx rfl (dc at_101) ?_
     refine XS.icmpNo P.here hx rfl (dc at_102) rfl (tlt (by decide)).2.2.2 ?_
     refine XS.aload P.here hx rfl (dc at_105) rfl rfl ?_
     refine XS.iconst P.here hx rfl (dc at_107) ?_
     refine XS.iload P.here hx rfl (dc at_108) rfl ?_
     exact XS.i2b P.here hx rfl (dc at_110) rfl kQ
   refine P.stB hx hZ V_a (j := (2 : Int32)) (by decide) (by decide) (i := 2) rfl (Nat.le_of_ble_eq_true rfl) rfl rfl (dc at_111) g_a fun T h43 P W V' => ?_
   replace V_al := V_al.other W ne_al_a
   replace Z0 := Nat.le_trans Z0 (Keep.of_wr W).1
   replace OL := OL.wr W g_a
   replace V_a := V'
   clear W V'
   show OwG p e below s _ _ _ _ T (mkF m 112 #[.val (.long q), .second, .val (.int p2), .val (.int p3), .val (.int 4), .val (.int b0), .val (.int b1), .val (.int b2), .val (.int b3), .val (.int b4), .val (.int b5), .val (.ref a), .unset, .unset, .unset, .unset, .unset, .unset] [])
   rw [own_i2b2] at V_a
   replace V_a : Arv Z h43 a ka .byte (4 : Int32) [(.int (StrChars.lo8 b0)), (.int (StrChars.lo8 b1)), (.int (StrChars.lo8 b2)), (.int 0)] (.int 0) := V_a
   refine OwG.ac (mkF m 124 #[.val (.long q), .second, .val (.int p2), .val (.int p3), .val (.int 4), .val (.int b0), .val (.int b1), .val (.int b2), .val (.int b3), .val (.int b4), .val (.int b5), .val (.ref a), .unset, .unset, .unset, .unset, .unset, .unset] [(.int (b3.toInt8.toInt32)), (.int 3), (.ref a)]) (fun tQ kQ => ?_) ?_
   · refine XS.iload P.here hx rfl (dc at_112) rfl ?_
     refine XS.iconst P.here hx rfl (dc at_114) ?_
     refine XS.icmpNo P.here hx rfl (dc at_115) rfl (tlt (by decide)).2.2.2 ?_
     refine XS.aload P.here hx rfl (dc at_118) rfl rfl ?_
     refine XS.iconst P.here hx rfl (dc at_120) ?_
     refine XS.iload P.here hx rfl (dc at_121) rfl ?_
     exact XS.i2b P.here hx rfl (dc at_123) rfl kQ
   refine P.stB hx hZ V_a (j := (3 : Int32)) (by decide) (by decide) (i := 3) rfl (Nat.le_of_ble_eq_true rfl) rfl rfl (dc at_124) g_a fun T h44 P W V' => ?_
   replace V_al := V_al.other W ne_al_a
   replace Z0 := Nat.le_trans Z0 (Keep.of_wr W).1
   replace OL := OL.wr W g_a
   replace V_a := V'
   clear W V'
   show OwG p e below s _ _ _ _ T (mkF m 125 #[.val (.long q), .second, .val (.int p2), .val (.int p3), .val (.int 4), .val (.int b0), .val (.int b1), .val (.int b2), .val (.int b3), .val (.int b4), .val (.int b5), .val (.ref a), .unset, .unset, .unset, .unset, .unset, .unset] [])
   rw [own_i2b2] at V_a
   replace V_a : Arv Z h44 a ka .byte (4 : Int32) [(.int (StrChars.lo8 b0)), (.int (StrChars.lo8 b1)), (.int (StrChars.lo8 b2)), (.int (StrChars.lo8 b3))] (.int 0) := V_a
   refine OwG.ac (mkF m 154 #[.val (.long q), .second, .val (.int p2), .val (.int p3), .val (.int 4), .val (.int b0), .val (.int b1), .val (.int b2), .val (.int b3), .val (.int b4), .val (.int b5), .val (.ref a), .unset, .unset, .unset, .unset, .unset, .unset] [(.int 5), (.int 4)]) (fun tQ kQ => ?_) ?_
   · refine XS.iload P.here hx rfl (dc at_125) rfl ?_
     refine XS.iconst P.here hx rfl (dc at_127) ?_
     refine XS.icmpYes P.here hx rfl (pc0 := 128) (pc' := 138) rfl (dc at_128) rfl (flt (by decide)).2.2.2 (by decide) (by decide) ?_
     refine XS.iload P.here hx rfl (dc at_138) rfl ?_
     refine XS.iconst P.here hx rfl (dc at_140) ?_
     refine XS.icmpYes P.here hx rfl (pc0 := 141) (pc' := 151) rfl (dc at_141) rfl (flt (by decide)).2.2.2 (by decide) (by decide) ?_
     refine XS.iload P.here hx rfl (dc at_151) rfl ?_
     exact XS.iconst P.here hx rfl (dc at_153) kQ
   refine P.stat hx hZ (y := (⟨"java/lang/Math", "min", "(II)I"⟩ : MethodName)) hown (own_w hw 3 rfl) (own_w hw 4 rfl) (own_w hw 5 rfl) (own_w hw 6 rfl) (by decide) (OwM.back (W := 0) (rmMin l Z a0 hw (4 : Int32) (5 : Int32) h44 n0 Z0) hZ (own_w hw 6 rfl) (own_w hw 5 rfl) (own_le rfl) (own_le rfl)) (fun _ _ _ q => q.2) rfl (by rw [hml]; rfl) (argsL := [(.int 4), (.int 5)]) (rest := []) (lenOf pd__II_I rfl) rfl (own_le rfl) (dc at_154) rfl (own_le rfl) (own_le rfl) fun T own_v own_L h45 own_e P own_q => ?_
   obtain ⟨⟨rfl, own_hh⟩, -⟩ := own_q
   rw [own_hh] at P
   clear own_e own_hh
   show OwG p e below s _ _ _ _ T (mkF m 157 #[.val (.long q), .second, .val (.int p2), .val (.int p3), .val (.int 4), .val (.int b0), .val (.int b1), .val (.int b2), .val (.int b3), .val (.int b4), .val (.int b5), .val (.ref a), .unset, .unset, .unset, .unset, .unset, .unset] [(.int (if (5 : Int32) < (4 : Int32) then (5 : Int32) else (4 : Int32)))])
   rw [show (if (5 : Int32) < (4 : Int32) then (5 : Int32) else (4 : Int32)) = (4 : Int32) from by decide]
   show OwG p e below s _ _ _ _ T (mkF m 157 #[.val (.long q), .second, .val (.int p2), .val (.int p3), .val (.int 4), .val (.int b0), .val (.int b1), .val (.int b2), .val (.int b3), .val (.int b4), .val (.int b5), .val (.ref a), .unset, .unset, .unset, .unset, .unset, .unset] [(.int 4)])
   refine OwG.ac (mkF m 239 #[.val (.long q), .second, .val (.int p2), .val (.int p3), .val (.int 4), .val (.int b0), .val (.int b1), .val (.int b2), .val (.int b3), .val (.int b4), .val (.int b5), .val (.ref a), .val (.int 4), .unset, .unset, .unset, .unset, .unset] [(.long ((((((b0.toInt64) <<< ((32 : Int32) &&& 0x3f).toInt64) ||| ((b1.toInt64) <<< ((24 : Int32) &&& 0x3f).toInt64)) ||| ((b2.toInt64) <<< ((16 : Int32) &&& 0x3f).toInt64)) ||| ((b3.toInt64) <<< ((8 : Int32) &&& 0x3f).toInt64)) ||| ((0 : Int32).toInt64)))]) (fun tQ kQ => ?_) ?_
   · refine XS.istore P.here hx rfl (dc at_157) rfl (l' := #[.val (.long q), .second, .val (.int p2), .val (.int p3), .val (.int 4), .val (.int b0), .val (.int b1), .val (.int b2), .val (.int b3), .val (.int b4), .val (.int b5), .val (.ref a), .val (.int 4), .unset, .unset, .unset, .unset, .unset]) rfl ?_
     refine XS.iload P.here hx rfl (dc at_159) rfl ?_
     refine XS.ifNo P.here hx rfl (dc at_161) rfl ((if0 _ _).trans (tlt (by decide)).2.2.2) ?_
     refine XS.iload P.here hx rfl (dc at_164) rfl ?_
     refine XS.goto P.here hx rfl (pc0 := 166) (pc' := 170) rfl (dc at_166) (by decide) (by decide) ?_
     refine XS.i2l P.here hx rfl (dc at_170) rfl ?_
     refine XS.bipush P.here hx rfl (dc at_171) ?_
     refine XS.lshl P.here hx rfl (dc at_173) rfl ?_
     refine XS.iload P.here hx rfl (dc at_174) rfl ?_
     refine XS.iconst P.here hx rfl (dc at_176) ?_
     refine XS.icmpNo P.here hx rfl (dc at_177) rfl (tlt (by decide)).2.2.2 ?_
     refine XS.iload P.here hx rfl (dc at_180) rfl ?_
     refine XS.goto P.here hx rfl (pc0 := 182) (pc' := 186) rfl (dc at_182) (by decide) (by decide) ?_
     refine XS.i2l P.here hx rfl (dc at_186) rfl ?_
     refine XS.bipush P.here hx rfl (dc at_187) ?_
     refine XS.lshl P.here hx rfl (dc at_189) rfl ?_
     refine XS.lor P.here hx rfl (dc at_190) rfl ?_
     refine XS.iload P.here hx rfl (dc at_191) rfl ?_
     refine XS.iconst P.here hx rfl (dc at_193) ?_
     refine XS.icmpNo P.here hx rfl (dc at_194) rfl (tlt (by decide)).2.2.2 ?_
     refine XS.iload P.here hx rfl (dc at_197) rfl ?_
     refine XS.goto P.here hx rfl (pc0 := 199) (pc' := 203) rfl (dc at_199) (by decide) (by decide) ?_
     refine XS.i2l P.here hx rfl (dc at_203) rfl ?_
     refine XS.bipush P.here hx rfl (dc at_204) ?_
     refine XS.lshl P.here hx rfl (dc at_206) rfl ?_
     refine XS.lor P.here hx rfl (dc at_207) rfl ?_
     refine XS.iload P.here hx rfl (dc at_208) rfl ?_
     refine XS.iconst P.here hx rfl (dc at_210) ?_
     refine XS.icmpNo P.here hx rfl (dc at_211) rfl (tlt (by decide)).2.2.2 ?_
     refine XS.iload P.here hx rfl (dc at_214) rfl ?_
     refine XS.goto P.here hx rfl (pc0 := 216) (pc' := 220) rfl (dc at_216) (by decide) (by decide) ?_
     refine XS.i2l P.here hx rfl (dc at_220) rfl ?_
     refine XS.bipush P.here hx rfl (dc at_221) ?_
     refine XS.lshl P.here hx rfl (dc at_223) rfl ?_
     refine XS.lor P.here hx rfl (dc at_224) rfl ?_
     refine XS.iload P.here hx rfl (dc at_225) rfl ?_
     refine XS.iconst P.here hx rfl (dc at_227) ?_
     refine XS.icmpYes P.here hx rfl (pc0 := 228) (pc' := 236) rfl (dc at_228) rfl (flt (by decide)).2.2.2 (by decide) (by decide) ?_
     refine XS.iconst P.here hx rfl (dc at_236) ?_
     refine XS.i2l P.here hx rfl (dc at_237) rfl ?_
     exact XS.lor P.here hx rfl (dc at_238) rfl kQ
   obtain ⟨v, e_v⟩ : ∃ z : Int64, ((((((b0.toInt64) <<< ((32 : Int32) &&& 0x3f).toInt64) ||| ((b1.toInt64) <<< ((24 : Int32) &&& 0x3f).toInt64)) ||| ((b2.toInt64) <<< ((16 : Int32) &&& 0x3f).toInt64)) ||| ((b3.toInt64) <<< ((8 : Int32) &&& 0x3f).toInt64)) ||| ((0 : Int32).toInt64)) = z := ⟨_, rfl⟩
   rw [show ((((((b0.toInt64) <<< ((32 : Int32) &&& 0x3f).toInt64) ||| ((b1.toInt64) <<< ((24 : Int32) &&& 0x3f).toInt64)) ||| ((b2.toInt64) <<< ((16 : Int32) &&& 0x3f).toInt64)) ||| ((b3.toInt64) <<< ((8 : Int32) &&& 0x3f).toInt64)) ||| ((0 : Int32).toInt64)) = v from e_v]
   show OwG p e below s _ _ _ _ T (mkF m 239 #[.val (.long q), .second, .val (.int p2), .val (.int p3), .val (.int 4), .val (.int b0), .val (.int b1), .val (.int b2), .val (.int b3), .val (.int b4), .val (.int b5), .val (.ref a), .val (.int 4), .unset, .unset, .unset, .unset, .unset] [(.long v)])
   refine OwG.ac (mkF m 243 #[.val (.long q), .second, .val (.int p2), .val (.int p3), .val (.int 4), .val (.int b0), .val (.int b1), .val (.int b2), .val (.int b3), .val (.int b4), .val (.int b5), .val (.ref a), .val (.int 4), .val (.long v), .second, .unset, .unset, .unset] [(.int 4)]) (fun tQ kQ => ?_) ?_
   · refine XS.lstore P.here hx rfl (dc at_239) rfl (l' := #[.val (.long q), .second, .val (.int p2), .val (.int p3), .val (.int 4), .val (.int b0), .val (.int b1), .val (.int b2), .val (.int b3), .val (.int b4), .val (.int b5), .val (.ref a), .val (.int 4), .val (.long v), .second, .unset, .unset, .unset]) rfl ?_
     exact XS.iload P.here hx rfl (dc at_241) rfl kQ
   have hv := own_v_to h_b0 h_b1 h_b2 h_b3 (b4 := (0 : Int32)) (by decide)
   rw [e_v] at hv
   refine OwG.ac (mkF m 297 #[.val (.long q), .second, .val (.int p2), .val (.int p3), .val (.int 4), .val (.int b0), .val (.int b1), .val (.int b2), .val (.int b3), .val (.int b4), .val (.int b5), .val (.ref a), .val (.int 4), .val (.long v), .second, .val (.int 7), .unset, .unset] [(.ref a)]) (fun tQ kQ => ?_) ?_
   · refine XS.ifYes P.here hx rfl (pc0 := 243) (pc' := 250) rfl (dc at_243) rfl ((if0 _ _).trans (feq (by decide)).2) (by decide) (by decide) ?_
     refine XS.iload P.here hx rfl (dc at_250) rfl ?_
     refine XS.iconst P.here hx rfl (dc at_252) ?_
     refine XS.icmpYes P.here hx rfl (pc0 := 253) (pc' := 260) rfl (dc at_253) rfl (feq (by decide)).2 (by decide) (by decide) ?_
     refine XS.iload P.here hx rfl (dc at_260) rfl ?_
     refine XS.iconst P.here hx rfl (dc at_262) ?_
     refine XS.icmpYes P.here hx rfl (pc0 := 263) (pc' := 270) rfl (dc at_263) rfl (feq (by decide)).2 (by decide) (by decide) ?_
     refine XS.iload P.here hx rfl (dc at_270) rfl ?_
     refine XS.iconst P.here hx rfl (dc at_272) ?_
     refine XS.icmpYes P.here hx rfl (pc0 := 273) (pc' := 280) rfl (dc at_273) rfl (feq (by decide)).2 (by decide) (by decide) ?_
     refine XS.iload P.here hx rfl (dc at_280) rfl ?_
     refine XS.iconst P.here hx rfl (dc at_282) ?_
     refine XS.icmpNo P.here hx rfl (dc at_283) rfl (teq (by decide)).2 ?_
     refine XS.bipush P.here hx rfl (dc at_286) ?_
     refine XS.goto P.here hx rfl (pc0 := 288) (pc' := 293) rfl (dc at_288) (by decide) (by decide) ?_
     refine XS.istore P.here hx rfl (dc at_293) rfl (l' := #[.val (.long q), .second, .val (.int p2), .val (.int p3), .val (.int 4), .val (.int b0), .val (.int b1), .val (.int b2), .val (.int b3), .val (.int b4), .val (.int b5), .val (.ref a), .val (.int 4), .val (.long v), .second, .val (.int 7), .unset, .unset]) rfl ?_
     exact XS.aload P.here hx rfl (dc at_295) rfl rfl kQ
   refine P.stat hx hZ (y := (⟨"com/example/grawl/grawl/util/Base32", "encode", "([B)Ljava/lang/String;"⟩ : MethodName)) hown (own_w hw 7 rfl) (own_w hw 8 rfl) (own_w hw 9 rfl) (own_w hw 10 rfl) (by decide) (OwM.back (W := 0) (rmE4 l Z a0 hw a al ka kal dal zC (StrChars.lo8 b0) (StrChars.lo8 b1) (StrChars.lo8 b2) (StrChars.lo8 b3) h44 n0 Z0 S2 hzC OL SAl V_a V_al) hZ (own_w hw 10 rfl) (own_w hw 9 rfl) (own_le rfl) (own_le rfl)) (fun _ _ _ q => q.2) rfl (by rw [hml]; rfl) (argsL := [(.ref a)]) (rest := []) (lenOf pd___B_Ljava_lang_String_ rfl) rfl (own_le rfl) (dc at_297) rfl (own_le rfl) (own_le rfl) fun T own_v own_L h46 own_e P own_q => ?_
   obtain ⟨⟨x, u, ku, rfl, K, E_x, F_value_x, F_coder_x, V_u⟩, -⟩ := own_q
   clear own_e
   replace V_al := V_al.keep K nin0
   replace V_a := V_a.keep K nin0
   replace Z0 := Nat.le_trans Z0 K.1
   replace OL := OL.keep K all0
   show OwG p e below s _ _ _ _ T (mkF m 300 #[.val (.long q), .second, .val (.int p2), .val (.int p3), .val (.int 4), .val (.int b0), .val (.int b1), .val (.int b2), .val (.int b3), .val (.int b4), .val (.int b5), .val (.ref a), .val (.int 4), .val (.long v), .second, .val (.int 7), .unset, .unset] [(.ref x)])
   refine OwG.ac (mkF m 302 #[.val (.long q), .second, .val (.int p2), .val (.int p3), .val (.int 4), .val (.int b0), .val (.int b1), .val (.int b2), .val (.int b3), .val (.int b4), .val (.int b5), .val (.ref a), .val (.int 4), .val (.long v), .second, .val (.int 7), .val (.ref x), .unset] []) (fun tQ kQ => ?_) ?_
   · exact XS.astore P.here hx rfl (dc at_300) rfl rfl (l' := #[.val (.long q), .second, .val (.int p2), .val (.int p3), .val (.int 4), .val (.int b0), .val (.int b1), .val (.int b2), .val (.int b3), .val (.int b4), .val (.int b5), .val (.ref a), .val (.int 4), .val (.long v), .second, .val (.int 7), .val (.ref x), .unset]) rfl kQ
   have own_q := own_eq4 (v := v) h_b0 h_b1 h_b2 h_b3 (by simpa using hv)
   exact k302 T h46 a x u ku v (4 : Int32) (4 : Int32) (7 : Int32) ([(own_dg (own_bt (0 : Int32) (StrChars.lo8 b0)) (3 : Int32)), (own_dg (own_bt (own_bt (0 : Int32) (StrChars.lo8 b0)) (StrChars.lo8 b1)) (6 : Int32)), (own_dg (own_bt (own_bt (0 : Int32) (StrChars.lo8 b0)) (StrChars.lo8 b1)) (1 : Int32)), (own_dg (own_bt (own_bt (own_bt (0 : Int32) (StrChars.lo8 b0)) (StrChars.lo8 b1)) (StrChars.lo8 b2)) (4 : Int32)), (own_dg (own_bt (own_bt (own_bt (own_bt (0 : Int32) (StrChars.lo8 b0)) (StrChars.lo8 b1)) (StrChars.lo8 b2)) (StrChars.lo8 b3)) (7 : Int32)), (own_dg (own_bt (own_bt (own_bt (own_bt (0 : Int32) (StrChars.lo8 b0)) (StrChars.lo8 b1)) (StrChars.lo8 b2)) (StrChars.lo8 b3)) (2 : Int32)), (own_dl (own_bt (own_bt (own_bt (own_bt (0 : Int32) (StrChars.lo8 b0)) (StrChars.lo8 b1)) (StrChars.lo8 b2)) (StrChars.lo8 b3)) (2 : Int32)), (61 : Int32)] : List Int32) (P.wide (by decide) (by decide)) Z0 OL V_al (by decide) (by decide) E_x F_value_x F_coder_x V_u own_q
  ·skip
   show OwG p e below s _ _ _ _ T (mkF m 70 #[.val (.long q), .second, .val (.int p2), .val (.int p3), .val (.int 5), .val (.int b0), .val (.int b1), .val (.int b2), .val (.int b3), .val (.int b4), .val (.int b5), .unset, .unset, .unset, .unset, .unset, .unset, .unset] [(.int 5)])
   refine P.newP hx hZ (own_w hw 2 rfl) rfl (dc at_70) rfl (by decide) (cap := 5) (by decide) (by decide) (own_le rfl) (own_le rfl) fun T h47 a ka ga P E V_a => ?_
   have ne_al_a : al ≠ a := Nat.ne_of_lt (Nat.lt_of_lt_of_le V_al.lt (Nat.le_of_eq ga.symm))
   have ne_a_al := Ne.symm ne_al_a
   have g_a : n0 ≤ a := Nat.le_trans Z0 (Nat.le_of_eq ga.symm)
   replace V_al := V_al.ext E
   replace Z0 := Nat.le_trans Z0 E.1
   replace OL := OL.ext E
   clear E
   replace V_a : Arv Z h47 a ka .byte (5 : Int32) [(.int 0), (.int 0), (.int 0), (.int 0), (.int 0)] (.int 0) := V_a.pad (pad_rep [] (.int 0) 5)
   show OwG p e below s _ _ _ _ T (mkF m 72 #[.val (.long q), .second, .val (.int p2), .val (.int p3), .val (.int 5), .val (.int b0), .val (.int b1), .val (.int b2), .val (.int b3), .val (.int b4), .val (.int b5), .unset, .unset, .unset, .unset, .unset, .unset, .unset] [(.ref a)])
   refine OwG.ac (mkF m 85 #[.val (.long q), .second, .val (.int p2), .val (.int p3), .val (.int 5), .val (.int b0), .val (.int b1), .val (.int b2), .val (.int b3), .val (.int b4), .val (.int b5), .val (.ref a), .unset, .unset, .unset, .unset, .unset, .unset] [(.int (b0.toInt8.toInt32)), (.int 0), (.ref a)]) (fun tQ kQ => ?_) ?_
   · refine XS.astore P.here hx rfl (dc at_72) rfl rfl (l' := #[.val (.long q), .second, .val (.int p2), .val (.int p3), .val (.int 5), .val (.int b0), .val (.int b1), .val (.int b2), .val (.int b3), .val (.int b4), .val (.int b5), .val (.ref a), .unset, .unset, .unset, .unset, .unset, .unset]) rfl ?_
     refine XS.iload P.here hx rfl (dc at_74) rfl ?_
     refine XS.ifNo P.here hx rfl (dc at_76) rfl ((if0 _ _).trans (tlt (by decide)).2.2.2) ?_
     refine XS.aload P.here hx rfl (dc at_79) rfl rfl ?_
     refine XS.iconst P.here hx rfl (dc at_81) ?_
     refine XS.iload P.here hx rfl (dc at_82) rfl ?_
     exact XS.i2b P.here hx rfl (dc at_84) rfl kQ
   refine P.stB hx hZ V_a (j := (0 : Int32)) (by decide) (by decide) (i := 0) rfl (Nat.le_of_ble_eq_true rfl) rfl rfl (dc at_85) g_a fun T h48 P W V' => ?_
   replace V_al := V_al.other W ne_al_a
   replace Z0 := Nat.le_trans Z0 (Keep.of_wr W).1
   replace OL := OL.wr W g_a
   replace V_a := V'
   clear W V'
   show OwG p e below s _ _ _ _ T (mkF m 86 #[.val (.long q), .second, .val (.int p2), .val (.int p3), .val (.int 5), .val (.int b0), .val (.int b1), .val (.int b2), .val (.int b3), .val (.int b4), .val (.int b5), .val (.ref a), .unset, .unset, .unset, .unset, .unset, .unset] [])
   rw [own_i2b2] at V_a
   replace V_a : Arv Z h48 a ka .byte (5 : Int32) [(.int (StrChars.lo8 b0)), (.int 0), (.int 0), (.int 0), (.int 0)] (.int 0) := V_a
   refine OwG.ac (mkF m 98 #[.val (.long q), .second, .val (.int p2), .val (.int p3), .val (.int 5), .val (.int b0), .val (.int b1), .val (.int b2), .val (.int b3), .val (.int b4), .val (.int b5), .val (.ref a), .unset, .unset, .unset, .unset, .unset, .unset] [(.int (b1.toInt8.toInt32)), (.int 1), (.ref a)]) (fun tQ kQ => ?_) ?_
   · refine XS.iload P.here hx rfl (dc at_86) rfl ?_
     refine XS.iconst P.here hx rfl (dc at_88) ?_
     refine XS.icmpNo P.here hx rfl (dc at_89) rfl (tlt (by decide)).2.2.2 ?_
     refine XS.aload P.here hx rfl (dc at_92) rfl rfl ?_
     refine XS.iconst P.here hx rfl (dc at_94) ?_
     refine XS.iload P.here hx rfl (dc at_95) rfl ?_
     exact XS.i2b P.here hx rfl (dc at_97) rfl kQ
   refine P.stB hx hZ V_a (j := (1 : Int32)) (by decide) (by decide) (i := 1) rfl (Nat.le_of_ble_eq_true rfl) rfl rfl (dc at_98) g_a fun T h49 P W V' => ?_
   replace V_al := V_al.other W ne_al_a
   replace Z0 := Nat.le_trans Z0 (Keep.of_wr W).1
   replace OL := OL.wr W g_a
   replace V_a := V'
   clear W V'
   show OwG p e below s _ _ _ _ T (mkF m 99 #[.val (.long q), .second, .val (.int p2), .val (.int p3), .val (.int 5), .val (.int b0), .val (.int b1), .val (.int b2), .val (.int b3), .val (.int b4), .val (.int b5), .val (.ref a), .unset, .unset, .unset, .unset, .unset, .unset] [])
   rw [own_i2b2] at V_a
   replace V_a : Arv Z h49 a ka .byte (5 : Int32) [(.int (StrChars.lo8 b0)), (.int (StrChars.lo8 b1)), (.int 0), (.int 0), (.int 0)] (.int 0) := V_a
   refine OwG.ac (mkF m 111 #[.val (.long q), .second, .val (.int p2), .val (.int p3), .val (.int 5), .val (.int b0), .val (.int b1), .val (.int b2), .val (.int b3), .val (.int b4), .val (.int b5), .val (.ref a), .unset, .unset, .unset, .unset, .unset, .unset] [(.int (b2.toInt8.toInt32)), (.int 2), (.ref a)]) (fun tQ kQ => ?_) ?_
   · refine XS.iload P.here hx rfl (dc at_99) rfl ?_
     refine XS.iconst P.here hx rfl (dc at_101) ?_
     refine XS.icmpNo P.here hx rfl (dc at_102) rfl (tlt (by decide)).2.2.2 ?_
     refine XS.aload P.here hx rfl (dc at_105) rfl rfl ?_
     refine XS.iconst P.here hx rfl (dc at_107) ?_
     refine XS.iload P.here hx rfl (dc at_108) rfl ?_
     exact XS.i2b P.here hx rfl (dc at_110) rfl kQ
   refine P.stB hx hZ V_a (j := (2 : Int32)) (by decide) (by decide) (i := 2) rfl (Nat.le_of_ble_eq_true rfl) rfl rfl (dc at_111) g_a fun T h50 P W V' => ?_
   replace V_al := V_al.other W ne_al_a
   replace Z0 := Nat.le_trans Z0 (Keep.of_wr W).1
   replace OL := OL.wr W g_a
   replace V_a := V'
   clear W V'
   show OwG p e below s _ _ _ _ T (mkF m 112 #[.val (.long q), .second, .val (.int p2), .val (.int p3), .val (.int 5), .val (.int b0), .val (.int b1), .val (.int b2), .val (.int b3), .val (.int b4), .val (.int b5), .val (.ref a), .unset, .unset, .unset, .unset, .unset, .unset] [])
   rw [own_i2b2] at V_a
   replace V_a : Arv Z h50 a ka .byte (5 : Int32) [(.int (StrChars.lo8 b0)), (.int (StrChars.lo8 b1)), (.int (StrChars.lo8 b2)), (.int 0), (.int 0)] (.int 0) := V_a
   refine OwG.ac (mkF m 124 #[.val (.long q), .second, .val (.int p2), .val (.int p3), .val (.int 5), .val (.int b0), .val (.int b1), .val (.int b2), .val (.int b3), .val (.int b4), .val (.int b5), .val (.ref a), .unset, .unset, .unset, .unset, .unset, .unset] [(.int (b3.toInt8.toInt32)), (.int 3), (.ref a)]) (fun tQ kQ => ?_) ?_
   · refine XS.iload P.here hx rfl (dc at_112) rfl ?_
     refine XS.iconst P.here hx rfl (dc at_114) ?_
     refine XS.icmpNo P.here hx rfl (dc at_115) rfl (tlt (by decide)).2.2.2 ?_
     refine XS.aload P.here hx rfl (dc at_118) rfl rfl ?_
     refine XS.iconst P.here hx rfl (dc at_120) ?_
     refine XS.iload P.here hx rfl (dc at_121) rfl ?_
     exact XS.i2b P.here hx rfl (dc at_123) rfl kQ
   refine P.stB hx hZ V_a (j := (3 : Int32)) (by decide) (by decide) (i := 3) rfl (Nat.le_of_ble_eq_true rfl) rfl rfl (dc at_124) g_a fun T h51 P W V' => ?_
   replace V_al := V_al.other W ne_al_a
   replace Z0 := Nat.le_trans Z0 (Keep.of_wr W).1
   replace OL := OL.wr W g_a
   replace V_a := V'
   clear W V'
   show OwG p e below s _ _ _ _ T (mkF m 125 #[.val (.long q), .second, .val (.int p2), .val (.int p3), .val (.int 5), .val (.int b0), .val (.int b1), .val (.int b2), .val (.int b3), .val (.int b4), .val (.int b5), .val (.ref a), .unset, .unset, .unset, .unset, .unset, .unset] [])
   rw [own_i2b2] at V_a
   replace V_a : Arv Z h51 a ka .byte (5 : Int32) [(.int (StrChars.lo8 b0)), (.int (StrChars.lo8 b1)), (.int (StrChars.lo8 b2)), (.int (StrChars.lo8 b3)), (.int 0)] (.int 0) := V_a
   refine OwG.ac (mkF m 137 #[.val (.long q), .second, .val (.int p2), .val (.int p3), .val (.int 5), .val (.int b0), .val (.int b1), .val (.int b2), .val (.int b3), .val (.int b4), .val (.int b5), .val (.ref a), .unset, .unset, .unset, .unset, .unset, .unset] [(.int (b4.toInt8.toInt32)), (.int 4), (.ref a)]) (fun tQ kQ => ?_) ?_
   · refine XS.iload P.here hx rfl (dc at_125) rfl ?_
     refine XS.iconst P.here hx rfl (dc at_127) ?_
     refine XS.icmpNo P.here hx rfl (dc at_128) rfl (tlt (by decide)).2.2.2 ?_
     refine XS.aload P.here hx rfl (dc at_131) rfl rfl ?_
     refine XS.iconst P.here hx rfl (dc at_133) ?_
     refine XS.iload P.here hx rfl (dc at_134) rfl ?_
     exact XS.i2b P.here hx rfl (dc at_136) rfl kQ
   refine P.stB hx hZ V_a (j := (4 : Int32)) (by decide) (by decide) (i := 4) rfl (Nat.le_of_ble_eq_true rfl) rfl rfl (dc at_137) g_a fun T h52 P W V' => ?_
   replace V_al := V_al.other W ne_al_a
   replace Z0 := Nat.le_trans Z0 (Keep.of_wr W).1
   replace OL := OL.wr W g_a
   replace V_a := V'
   clear W V'
   show OwG p e below s _ _ _ _ T (mkF m 138 #[.val (.long q), .second, .val (.int p2), .val (.int p3), .val (.int 5), .val (.int b0), .val (.int b1), .val (.int b2), .val (.int b3), .val (.int b4), .val (.int b5), .val (.ref a), .unset, .unset, .unset, .unset, .unset, .unset] [])
   rw [own_i2b2] at V_a
   replace V_a : Arv Z h52 a ka .byte (5 : Int32) [(.int (StrChars.lo8 b0)), (.int (StrChars.lo8 b1)), (.int (StrChars.lo8 b2)), (.int (StrChars.lo8 b3)), (.int (StrChars.lo8 b4))] (.int 0) := V_a
   refine OwG.ac (mkF m 154 #[.val (.long q), .second, .val (.int p2), .val (.int p3), .val (.int 5), .val (.int b0), .val (.int b1), .val (.int b2), .val (.int b3), .val (.int b4), .val (.int b5), .val (.ref a), .unset, .unset, .unset, .unset, .unset, .unset] [(.int 5), (.int 5)]) (fun tQ kQ => ?_) ?_
   · refine XS.iload P.here hx rfl (dc at_138) rfl ?_
     refine XS.iconst P.here hx rfl (dc at_140) ?_
     refine XS.icmpYes P.here hx rfl (pc0 := 141) (pc' := 151) rfl (dc at_141) rfl (flt (by decide)).2.2.2 (by decide) (by decide) ?_
     refine XS.iload P.here hx rfl (dc at_151) rfl ?_
     exact XS.iconst P.here hx rfl (dc at_153) kQ
   refine P.stat hx hZ (y := (⟨"java/lang/Math", "min", "(II)I"⟩ : MethodName)) hown (own_w hw 3 rfl) (own_w hw 4 rfl) (own_w hw 5 rfl) (own_w hw 6 rfl) (by decide) (OwM.back (W := 0) (rmMin l Z a0 hw (5 : Int32) (5 : Int32) h52 n0 Z0) hZ (own_w hw 6 rfl) (own_w hw 5 rfl) (own_le rfl) (own_le rfl)) (fun _ _ _ q => q.2) rfl (by rw [hml]; rfl) (argsL := [(.int 5), (.int 5)]) (rest := []) (lenOf pd__II_I rfl) rfl (own_le rfl) (dc at_154) rfl (own_le rfl) (own_le rfl) fun T own_v own_L h53 own_e P own_q => ?_
   obtain ⟨⟨rfl, own_hh⟩, -⟩ := own_q
   rw [own_hh] at P
   clear own_e own_hh
   show OwG p e below s _ _ _ _ T (mkF m 157 #[.val (.long q), .second, .val (.int p2), .val (.int p3), .val (.int 5), .val (.int b0), .val (.int b1), .val (.int b2), .val (.int b3), .val (.int b4), .val (.int b5), .val (.ref a), .unset, .unset, .unset, .unset, .unset, .unset] [(.int (if (5 : Int32) < (5 : Int32) then (5 : Int32) else (5 : Int32)))])
   rw [show (if (5 : Int32) < (5 : Int32) then (5 : Int32) else (5 : Int32)) = (5 : Int32) from by decide]
   show OwG p e below s _ _ _ _ T (mkF m 157 #[.val (.long q), .second, .val (.int p2), .val (.int p3), .val (.int 5), .val (.int b0), .val (.int b1), .val (.int b2), .val (.int b3), .val (.int b4), .val (.int b5), .val (.ref a), .unset, .unset, .unset, .unset, .unset, .unset] [(.int 5)])
   refine OwG.ac (mkF m 239 #[.val (.long q), .second, .val (.int p2), .val (.int p3), .val (.int 5), .val (.int b0), .val (.int b1), .val (.int b2), .val (.int b3), .val (.int b4), .val (.int b5), .val (.ref a), .val (.int 5), .unset, .unset, .unset, .unset, .unset] [(.long ((((((b0.toInt64) <<< ((32 : Int32) &&& 0x3f).toInt64) ||| ((b1.toInt64) <<< ((24 : Int32) &&& 0x3f).toInt64)) ||| ((b2.toInt64) <<< ((16 : Int32) &&& 0x3f).toInt64)) ||| ((b3.toInt64) <<< ((8 : Int32) &&& 0x3f).toInt64)) ||| (b4.toInt64)))]) (fun tQ kQ => ?_) ?_
   · refine XS.istore P.here hx rfl (dc at_157) rfl (l' := #[.val (.long q), .second, .val (.int p2), .val (.int p3), .val (.int 5), .val (.int b0), .val (.int b1), .val (.int b2), .val (.int b3), .val (.int b4), .val (.int b5), .val (.ref a), .val (.int 5), .unset, .unset, .unset, .unset, .unset]) rfl ?_
     refine XS.iload P.here hx rfl (dc at_159) rfl ?_
     refine XS.ifNo P.here hx rfl (dc at_161) rfl ((if0 _ _).trans (tlt (by decide)).2.2.2) ?_
     refine XS.iload P.here hx rfl (dc at_164) rfl ?_
     refine XS.goto P.here hx rfl (pc0 := 166) (pc' := 170) rfl (dc at_166) (by decide) (by decide) ?_
     refine XS.i2l P.here hx rfl (dc at_170) rfl ?_
     refine XS.bipush P.here hx rfl (dc at_171) ?_
     refine XS.lshl P.here hx rfl (dc at_173) rfl ?_
     refine XS.iload P.here hx rfl (dc at_174) rfl ?_
     refine XS.iconst P.here hx rfl (dc at_176) ?_
     refine XS.icmpNo P.here hx rfl (dc at_177) rfl (tlt (by decide)).2.2.2 ?_
     refine XS.iload P.here hx rfl (dc at_180) rfl ?_
     refine XS.goto P.here hx rfl (pc0 := 182) (pc' := 186) rfl (dc at_182) (by decide) (by decide) ?_
     refine XS.i2l P.here hx rfl (dc at_186) rfl ?_
     refine XS.bipush P.here hx rfl (dc at_187) ?_
     refine XS.lshl P.here hx rfl (dc at_189) rfl ?_
     refine XS.lor P.here hx rfl (dc at_190) rfl ?_
     refine XS.iload P.here hx rfl (dc at_191) rfl ?_
     refine XS.iconst P.here hx rfl (dc at_193) ?_
     refine XS.icmpNo P.here hx rfl (dc at_194) rfl (tlt (by decide)).2.2.2 ?_
     refine XS.iload P.here hx rfl (dc at_197) rfl ?_
     refine XS.goto P.here hx rfl (pc0 := 199) (pc' := 203) rfl (dc at_199) (by decide) (by decide) ?_
     refine XS.i2l P.here hx rfl (dc at_203) rfl ?_
     refine XS.bipush P.here hx rfl (dc at_204) ?_
     refine XS.lshl P.here hx rfl (dc at_206) rfl ?_
     refine XS.lor P.here hx rfl (dc at_207) rfl ?_
     refine XS.iload P.here hx rfl (dc at_208) rfl ?_
     refine XS.iconst P.here hx rfl (dc at_210) ?_
     refine XS.icmpNo P.here hx rfl (dc at_211) rfl (tlt (by decide)).2.2.2 ?_
     refine XS.iload P.here hx rfl (dc at_214) rfl ?_
     refine XS.goto P.here hx rfl (pc0 := 216) (pc' := 220) rfl (dc at_216) (by decide) (by decide) ?_
     refine XS.i2l P.here hx rfl (dc at_220) rfl ?_
     refine XS.bipush P.here hx rfl (dc at_221) ?_
     refine XS.lshl P.here hx rfl (dc at_223) rfl ?_
     refine XS.lor P.here hx rfl (dc at_224) rfl ?_
     refine XS.iload P.here hx rfl (dc at_225) rfl ?_
     refine XS.iconst P.here hx rfl (dc at_227) ?_
     refine XS.icmpNo P.here hx rfl (dc at_228) rfl (tlt (by decide)).2.2.2 ?_
     refine XS.iload P.here hx rfl (dc at_231) rfl ?_
     refine XS.goto P.here hx rfl (pc0 := 233) (pc' := 237) rfl (dc at_233) (by decide) (by decide) ?_
     refine XS.i2l P.here hx rfl (dc at_237) rfl ?_
     exact XS.lor P.here hx rfl (dc at_238) rfl kQ
   obtain ⟨v, e_v⟩ : ∃ z : Int64, ((((((b0.toInt64) <<< ((32 : Int32) &&& 0x3f).toInt64) ||| ((b1.toInt64) <<< ((24 : Int32) &&& 0x3f).toInt64)) ||| ((b2.toInt64) <<< ((16 : Int32) &&& 0x3f).toInt64)) ||| ((b3.toInt64) <<< ((8 : Int32) &&& 0x3f).toInt64)) ||| (b4.toInt64)) = z := ⟨_, rfl⟩
   rw [show ((((((b0.toInt64) <<< ((32 : Int32) &&& 0x3f).toInt64) ||| ((b1.toInt64) <<< ((24 : Int32) &&& 0x3f).toInt64)) ||| ((b2.toInt64) <<< ((16 : Int32) &&& 0x3f).toInt64)) ||| ((b3.toInt64) <<< ((8 : Int32) &&& 0x3f).toInt64)) ||| (b4.toInt64)) = v from e_v]
   show OwG p e below s _ _ _ _ T (mkF m 239 #[.val (.long q), .second, .val (.int p2), .val (.int p3), .val (.int 5), .val (.int b0), .val (.int b1), .val (.int b2), .val (.int b3), .val (.int b4), .val (.int b5), .val (.ref a), .val (.int 5), .unset, .unset, .unset, .unset, .unset] [(.long v)])
   refine OwG.ac (mkF m 243 #[.val (.long q), .second, .val (.int p2), .val (.int p3), .val (.int 5), .val (.int b0), .val (.int b1), .val (.int b2), .val (.int b3), .val (.int b4), .val (.int b5), .val (.ref a), .val (.int 5), .val (.long v), .second, .unset, .unset, .unset] [(.int 5)]) (fun tQ kQ => ?_) ?_
   · refine XS.lstore P.here hx rfl (dc at_239) rfl (l' := #[.val (.long q), .second, .val (.int p2), .val (.int p3), .val (.int 5), .val (.int b0), .val (.int b1), .val (.int b2), .val (.int b3), .val (.int b4), .val (.int b5), .val (.ref a), .val (.int 5), .val (.long v), .second, .unset, .unset, .unset]) rfl ?_
     exact XS.iload P.here hx rfl (dc at_241) rfl kQ
   have hv := own_v_to h_b0 h_b1 h_b2 h_b3 h_b4
   rw [e_v] at hv
   refine OwG.ac (mkF m 297 #[.val (.long q), .second, .val (.int p2), .val (.int p3), .val (.int 5), .val (.int b0), .val (.int b1), .val (.int b2), .val (.int b3), .val (.int b4), .val (.int b5), .val (.ref a), .val (.int 5), .val (.long v), .second, .val (.int 8), .unset, .unset] [(.ref a)]) (fun tQ kQ => ?_) ?_
   · refine XS.ifYes P.here hx rfl (pc0 := 243) (pc' := 250) rfl (dc at_243) rfl ((if0 _ _).trans (feq (by decide)).2) (by decide) (by decide) ?_
     refine XS.iload P.here hx rfl (dc at_250) rfl ?_
     refine XS.iconst P.here hx rfl (dc at_252) ?_
     refine XS.icmpYes P.here hx rfl (pc0 := 253) (pc' := 260) rfl (dc at_253) rfl (feq (by decide)).2 (by decide) (by decide) ?_
     refine XS.iload P.here hx rfl (dc at_260) rfl ?_
     refine XS.iconst P.here hx rfl (dc at_262) ?_
     refine XS.icmpYes P.here hx rfl (pc0 := 263) (pc' := 270) rfl (dc at_263) rfl (feq (by decide)).2 (by decide) (by decide) ?_
     refine XS.iload P.here hx rfl (dc at_270) rfl ?_
     refine XS.iconst P.here hx rfl (dc at_272) ?_
     refine XS.icmpYes P.here hx rfl (pc0 := 273) (pc' := 280) rfl (dc at_273) rfl (feq (by decide)).2 (by decide) (by decide) ?_
     refine XS.iload P.here hx rfl (dc at_280) rfl ?_
     refine XS.iconst P.here hx rfl (dc at_282) ?_
     refine XS.icmpYes P.here hx rfl (pc0 := 283) (pc' := 291) rfl (dc at_283) rfl (feq (by decide)).2 (by decide) (by decide) ?_
     refine XS.bipush P.here hx rfl (dc at_291) ?_
     refine XS.istore P.here hx rfl (dc at_293) rfl (l' := #[.val (.long q), .second, .val (.int p2), .val (.int p3), .val (.int 5), .val (.int b0), .val (.int b1), .val (.int b2), .val (.int b3), .val (.int b4), .val (.int b5), .val (.ref a), .val (.int 5), .val (.long v), .second, .val (.int 8), .unset, .unset]) rfl ?_
     exact XS.aload P.here hx rfl (dc at_295) rfl rfl kQ
   refine P.stat hx hZ (y := (⟨"com/example/grawl/grawl/util/Base32", "encode", "([B)Ljava/lang/String;"⟩ : MethodName)) hown (own_w hw 7 rfl) (own_w hw 8 rfl) (own_w hw 9 rfl) (own_w hw 10 rfl) (by decide) (OwM.back (W := 0) (rmE5 l Z a0 hw a al ka kal dal zC (StrChars.lo8 b0) (StrChars.lo8 b1) (StrChars.lo8 b2) (StrChars.lo8 b3) (StrChars.lo8 b4) h52 n0 Z0 S2 hzC OL SAl V_a V_al) hZ (own_w hw 10 rfl) (own_w hw 9 rfl) (own_le rfl) (own_le rfl)) (fun _ _ _ q => q.2) rfl (by rw [hml]; rfl) (argsL := [(.ref a)]) (rest := []) (lenOf pd___B_Ljava_lang_String_ rfl) rfl (own_le rfl) (dc at_297) rfl (own_le rfl) (own_le rfl) fun T own_v own_L h54 own_e P own_q => ?_
   obtain ⟨⟨x, u, ku, rfl, K, E_x, F_value_x, F_coder_x, V_u⟩, -⟩ := own_q
   clear own_e
   replace V_al := V_al.keep K nin0
   replace V_a := V_a.keep K nin0
   replace Z0 := Nat.le_trans Z0 K.1
   replace OL := OL.keep K all0
   show OwG p e below s _ _ _ _ T (mkF m 300 #[.val (.long q), .second, .val (.int p2), .val (.int p3), .val (.int 5), .val (.int b0), .val (.int b1), .val (.int b2), .val (.int b3), .val (.int b4), .val (.int b5), .val (.ref a), .val (.int 5), .val (.long v), .second, .val (.int 8), .unset, .unset] [(.ref x)])
   refine OwG.ac (mkF m 302 #[.val (.long q), .second, .val (.int p2), .val (.int p3), .val (.int 5), .val (.int b0), .val (.int b1), .val (.int b2), .val (.int b3), .val (.int b4), .val (.int b5), .val (.ref a), .val (.int 5), .val (.long v), .second, .val (.int 8), .val (.ref x), .unset] []) (fun tQ kQ => ?_) ?_
   · exact XS.astore P.here hx rfl (dc at_300) rfl rfl (l' := #[.val (.long q), .second, .val (.int p2), .val (.int p3), .val (.int 5), .val (.int b0), .val (.int b1), .val (.int b2), .val (.int b3), .val (.int b4), .val (.int b5), .val (.ref a), .val (.int 5), .val (.long v), .second, .val (.int 8), .val (.ref x), .unset]) rfl kQ
   have own_q := own_eq5 (v := v) h_b0 h_b1 h_b2 h_b3 h_b4 (by simpa using hv)
   exact k302 T h54 a x u ku v (5 : Int32) (5 : Int32) (8 : Int32) ([(own_dg (own_bt (0 : Int32) (StrChars.lo8 b0)) (3 : Int32)), (own_dg (own_bt (own_bt (0 : Int32) (StrChars.lo8 b0)) (StrChars.lo8 b1)) (6 : Int32)), (own_dg (own_bt (own_bt (0 : Int32) (StrChars.lo8 b0)) (StrChars.lo8 b1)) (1 : Int32)), (own_dg (own_bt (own_bt (own_bt (0 : Int32) (StrChars.lo8 b0)) (StrChars.lo8 b1)) (StrChars.lo8 b2)) (4 : Int32)), (own_dg (own_bt (own_bt (own_bt (own_bt (0 : Int32) (StrChars.lo8 b0)) (StrChars.lo8 b1)) (StrChars.lo8 b2)) (StrChars.lo8 b3)) (7 : Int32)), (own_dg (own_bt (own_bt (own_bt (own_bt (0 : Int32) (StrChars.lo8 b0)) (StrChars.lo8 b1)) (StrChars.lo8 b2)) (StrChars.lo8 b3)) (2 : Int32)), (own_dg (own_bt (own_bt (own_bt (own_bt (own_bt (0 : Int32) (StrChars.lo8 b0)) (StrChars.lo8 b1)) (StrChars.lo8 b2)) (StrChars.lo8 b3)) (StrChars.lo8 b4)) (5 : Int32)), (own_dg (own_bt (own_bt (own_bt (own_bt (own_bt (0 : Int32) (StrChars.lo8 b0)) (StrChars.lo8 b1)) (StrChars.lo8 b2)) (StrChars.lo8 b3)) (StrChars.lo8 b4)) (0 : Int32))] : List Int32) (P.wide (by decide) (by decide)) Z0 OL V_al (by decide) (by decide) E_x F_value_x F_coder_x V_u own_q
  ·skip
   show OwG p e below s _ _ _ _ T (mkF m 70 #[.val (.long q), .second, .val (.int p2), .val (.int p3), .val (.int 6), .val (.int b0), .val (.int b1), .val (.int b2), .val (.int b3), .val (.int b4), .val (.int b5), .unset, .unset, .unset, .unset, .unset, .unset, .unset] [(.int 6)])
   refine P.newP hx hZ (own_w hw 2 rfl) rfl (dc at_70) rfl (by decide) (cap := 6) (by decide) (by decide) (own_le rfl) (own_le rfl) fun T h55 a ka ga P E V_a => ?_
   have ne_al_a : al ≠ a := Nat.ne_of_lt (Nat.lt_of_lt_of_le V_al.lt (Nat.le_of_eq ga.symm))
   have ne_a_al := Ne.symm ne_al_a
   have g_a : n0 ≤ a := Nat.le_trans Z0 (Nat.le_of_eq ga.symm)
   replace V_al := V_al.ext E
   replace Z0 := Nat.le_trans Z0 E.1
   replace OL := OL.ext E
   clear E
   replace V_a : Arv Z h55 a ka .byte (6 : Int32) [(.int 0), (.int 0), (.int 0), (.int 0), (.int 0), (.int 0)] (.int 0) := V_a.pad (pad_rep [] (.int 0) 6)
   show OwG p e below s _ _ _ _ T (mkF m 72 #[.val (.long q), .second, .val (.int p2), .val (.int p3), .val (.int 6), .val (.int b0), .val (.int b1), .val (.int b2), .val (.int b3), .val (.int b4), .val (.int b5), .unset, .unset, .unset, .unset, .unset, .unset, .unset] [(.ref a)])
   refine OwG.ac (mkF m 85 #[.val (.long q), .second, .val (.int p2), .val (.int p3), .val (.int 6), .val (.int b0), .val (.int b1), .val (.int b2), .val (.int b3), .val (.int b4), .val (.int b5), .val (.ref a), .unset, .unset, .unset, .unset, .unset, .unset] [(.int (b0.toInt8.toInt32)), (.int 0), (.ref a)]) (fun tQ kQ => ?_) ?_
   · refine XS.astore P.here hx rfl (dc at_72) rfl rfl (l' := #[.val (.long q), .second, .val (.int p2), .val (.int p3), .val (.int 6), .val (.int b0), .val (.int b1), .val (.int b2), .val (.int b3), .val (.int b4), .val (.int b5), .val (.ref a), .unset, .unset, .unset, .unset, .unset, .unset]) rfl ?_
     refine XS.iload P.here hx rfl (dc at_74) rfl ?_
     refine XS.ifNo P.here hx rfl (dc at_76) rfl ((if0 _ _).trans (tlt (by decide)).2.2.2) ?_
     refine XS.aload P.here hx rfl (dc at_79) rfl rfl ?_
     refine XS.iconst P.here hx rfl (dc at_81) ?_
     refine XS.iload P.here hx rfl (dc at_82) rfl ?_
     exact XS.i2b P.here hx rfl (dc at_84) rfl kQ
   refine P.stB hx hZ V_a (j := (0 : Int32)) (by decide) (by decide) (i := 0) rfl (Nat.le_of_ble_eq_true rfl) rfl rfl (dc at_85) g_a fun T h56 P W V' => ?_
   replace V_al := V_al.other W ne_al_a
   replace Z0 := Nat.le_trans Z0 (Keep.of_wr W).1
   replace OL := OL.wr W g_a
   replace V_a := V'
   clear W V'
   show OwG p e below s _ _ _ _ T (mkF m 86 #[.val (.long q), .second, .val (.int p2), .val (.int p3), .val (.int 6), .val (.int b0), .val (.int b1), .val (.int b2), .val (.int b3), .val (.int b4), .val (.int b5), .val (.ref a), .unset, .unset, .unset, .unset, .unset, .unset] [])
   rw [own_i2b2] at V_a
   replace V_a : Arv Z h56 a ka .byte (6 : Int32) [(.int (StrChars.lo8 b0)), (.int 0), (.int 0), (.int 0), (.int 0), (.int 0)] (.int 0) := V_a
   refine OwG.ac (mkF m 98 #[.val (.long q), .second, .val (.int p2), .val (.int p3), .val (.int 6), .val (.int b0), .val (.int b1), .val (.int b2), .val (.int b3), .val (.int b4), .val (.int b5), .val (.ref a), .unset, .unset, .unset, .unset, .unset, .unset] [(.int (b1.toInt8.toInt32)), (.int 1), (.ref a)]) (fun tQ kQ => ?_) ?_
   · refine XS.iload P.here hx rfl (dc at_86) rfl ?_
     refine XS.iconst P.here hx rfl (dc at_88) ?_
     refine XS.icmpNo P.here hx rfl (dc at_89) rfl (tlt (by decide)).2.2.2 ?_
     refine XS.aload P.here hx rfl (dc at_92) rfl rfl ?_
     refine XS.iconst P.here hx rfl (dc at_94) ?_
     refine XS.iload P.here hx rfl (dc at_95) rfl ?_
     exact XS.i2b P.here hx rfl (dc at_97) rfl kQ
   refine P.stB hx hZ V_a (j := (1 : Int32)) (by decide) (by decide) (i := 1) rfl (Nat.le_of_ble_eq_true rfl) rfl rfl (dc at_98) g_a fun T h57 P W V' => ?_
   replace V_al := V_al.other W ne_al_a
   replace Z0 := Nat.le_trans Z0 (Keep.of_wr W).1
   replace OL := OL.wr W g_a
   replace V_a := V'
   clear W V'
   show OwG p e below s _ _ _ _ T (mkF m 99 #[.val (.long q), .second, .val (.int p2), .val (.int p3), .val (.int 6), .val (.int b0), .val (.int b1), .val (.int b2), .val (.int b3), .val (.int b4), .val (.int b5), .val (.ref a), .unset, .unset, .unset, .unset, .unset, .unset] [])
   rw [own_i2b2] at V_a
   replace V_a : Arv Z h57 a ka .byte (6 : Int32) [(.int (StrChars.lo8 b0)), (.int (StrChars.lo8 b1)), (.int 0), (.int 0), (.int 0), (.int 0)] (.int 0) := V_a
   refine OwG.ac (mkF m 111 #[.val (.long q), .second, .val (.int p2), .val (.int p3), .val (.int 6), .val (.int b0), .val (.int b1), .val (.int b2), .val (.int b3), .val (.int b4), .val (.int b5), .val (.ref a), .unset, .unset, .unset, .unset, .unset, .unset] [(.int (b2.toInt8.toInt32)), (.int 2), (.ref a)]) (fun tQ kQ => ?_) ?_
   · refine XS.iload P.here hx rfl (dc at_99) rfl ?_
     refine XS.iconst P.here hx rfl (dc at_101) ?_
     refine XS.icmpNo P.here hx rfl (dc at_102) rfl (tlt (by decide)).2.2.2 ?_
     refine XS.aload P.here hx rfl (dc at_105) rfl rfl ?_
     refine XS.iconst P.here hx rfl (dc at_107) ?_
     refine XS.iload P.here hx rfl (dc at_108) rfl ?_
     exact XS.i2b P.here hx rfl (dc at_110) rfl kQ
   refine P.stB hx hZ V_a (j := (2 : Int32)) (by decide) (by decide) (i := 2) rfl (Nat.le_of_ble_eq_true rfl) rfl rfl (dc at_111) g_a fun T h58 P W V' => ?_
   replace V_al := V_al.other W ne_al_a
   replace Z0 := Nat.le_trans Z0 (Keep.of_wr W).1
   replace OL := OL.wr W g_a
   replace V_a := V'
   clear W V'
   show OwG p e below s _ _ _ _ T (mkF m 112 #[.val (.long q), .second, .val (.int p2), .val (.int p3), .val (.int 6), .val (.int b0), .val (.int b1), .val (.int b2), .val (.int b3), .val (.int b4), .val (.int b5), .val (.ref a), .unset, .unset, .unset, .unset, .unset, .unset] [])
   rw [own_i2b2] at V_a
   replace V_a : Arv Z h58 a ka .byte (6 : Int32) [(.int (StrChars.lo8 b0)), (.int (StrChars.lo8 b1)), (.int (StrChars.lo8 b2)), (.int 0), (.int 0), (.int 0)] (.int 0) := V_a
   refine OwG.ac (mkF m 124 #[.val (.long q), .second, .val (.int p2), .val (.int p3), .val (.int 6), .val (.int b0), .val (.int b1), .val (.int b2), .val (.int b3), .val (.int b4), .val (.int b5), .val (.ref a), .unset, .unset, .unset, .unset, .unset, .unset] [(.int (b3.toInt8.toInt32)), (.int 3), (.ref a)]) (fun tQ kQ => ?_) ?_
   · refine XS.iload P.here hx rfl (dc at_112) rfl ?_
     refine XS.iconst P.here hx rfl (dc at_114) ?_
     refine XS.icmpNo P.here hx rfl (dc at_115) rfl (tlt (by decide)).2.2.2 ?_
     refine XS.aload P.here hx rfl (dc at_118) rfl rfl ?_
     refine XS.iconst P.here hx rfl (dc at_120) ?_
     refine XS.iload P.here hx rfl (dc at_121) rfl ?_
     exact XS.i2b P.here hx rfl (dc at_123) rfl kQ
   refine P.stB hx hZ V_a (j := (3 : Int32)) (by decide) (by decide) (i := 3) rfl (Nat.le_of_ble_eq_true rfl) rfl rfl (dc at_124) g_a fun T h59 P W V' => ?_
   replace V_al := V_al.other W ne_al_a
   replace Z0 := Nat.le_trans Z0 (Keep.of_wr W).1
   replace OL := OL.wr W g_a
   replace V_a := V'
   clear W V'
   show OwG p e below s _ _ _ _ T (mkF m 125 #[.val (.long q), .second, .val (.int p2), .val (.int p3), .val (.int 6), .val (.int b0), .val (.int b1), .val (.int b2), .val (.int b3), .val (.int b4), .val (.int b5), .val (.ref a), .unset, .unset, .unset, .unset, .unset, .unset] [])
   rw [own_i2b2] at V_a
   replace V_a : Arv Z h59 a ka .byte (6 : Int32) [(.int (StrChars.lo8 b0)), (.int (StrChars.lo8 b1)), (.int (StrChars.lo8 b2)), (.int (StrChars.lo8 b3)), (.int 0), (.int 0)] (.int 0) := V_a
   refine OwG.ac (mkF m 137 #[.val (.long q), .second, .val (.int p2), .val (.int p3), .val (.int 6), .val (.int b0), .val (.int b1), .val (.int b2), .val (.int b3), .val (.int b4), .val (.int b5), .val (.ref a), .unset, .unset, .unset, .unset, .unset, .unset] [(.int (b4.toInt8.toInt32)), (.int 4), (.ref a)]) (fun tQ kQ => ?_) ?_
   · refine XS.iload P.here hx rfl (dc at_125) rfl ?_
     refine XS.iconst P.here hx rfl (dc at_127) ?_
     refine XS.icmpNo P.here hx rfl (dc at_128) rfl (tlt (by decide)).2.2.2 ?_
     refine XS.aload P.here hx rfl (dc at_131) rfl rfl ?_
     refine XS.iconst P.here hx rfl (dc at_133) ?_
     refine XS.iload P.here hx rfl (dc at_134) rfl ?_
     exact XS.i2b P.here hx rfl (dc at_136) rfl kQ
   refine P.stB hx hZ V_a (j := (4 : Int32)) (by decide) (by decide) (i := 4) rfl (Nat.le_of_ble_eq_true rfl) rfl rfl (dc at_137) g_a fun T h60 P W V' => ?_
   replace V_al := V_al.other W ne_al_a
   replace Z0 := Nat.le_trans Z0 (Keep.of_wr W).1
   replace OL := OL.wr W g_a
   replace V_a := V'
   clear W V'
   show OwG p e below s _ _ _ _ T (mkF m 138 #[.val (.long q), .second, .val (.int p2), .val (.int p3), .val (.int 6), .val (.int b0), .val (.int b1), .val (.int b2), .val (.int b3), .val (.int b4), .val (.int b5), .val (.ref a), .unset, .unset, .unset, .unset, .unset, .unset] [])
   rw [own_i2b2] at V_a
   replace V_a : Arv Z h60 a ka .byte (6 : Int32) [(.int (StrChars.lo8 b0)), (.int (StrChars.lo8 b1)), (.int (StrChars.lo8 b2)), (.int (StrChars.lo8 b3)), (.int (StrChars.lo8 b4)), (.int 0)] (.int 0) := V_a
   refine OwG.ac (mkF m 150 #[.val (.long q), .second, .val (.int p2), .val (.int p3), .val (.int 6), .val (.int b0), .val (.int b1), .val (.int b2), .val (.int b3), .val (.int b4), .val (.int b5), .val (.ref a), .unset, .unset, .unset, .unset, .unset, .unset] [(.int (b5.toInt8.toInt32)), (.int 5), (.ref a)]) (fun tQ kQ => ?_) ?_
   · refine XS.iload P.here hx rfl (dc at_138) rfl ?_
     refine XS.iconst P.here hx rfl (dc at_140) ?_
     refine XS.icmpNo P.here hx rfl (dc at_141) rfl (tlt (by decide)).2.2.2 ?_
     refine XS.aload P.here hx rfl (dc at_144) rfl rfl ?_
     refine XS.iconst P.here hx rfl (dc at_146) ?_
     refine XS.iload P.here hx rfl (dc at_147) rfl ?_
     exact XS.i2b P.here hx rfl (dc at_149) rfl kQ
   refine P.stB hx hZ V_a (j := (5 : Int32)) (by decide) (by decide) (i := 5) rfl (Nat.le_of_ble_eq_true rfl) rfl rfl (dc at_150) g_a fun T h61 P W V' => ?_
   replace V_al := V_al.other W ne_al_a
   replace Z0 := Nat.le_trans Z0 (Keep.of_wr W).1
   replace OL := OL.wr W g_a
   replace V_a := V'
   clear W V'
   show OwG p e below s _ _ _ _ T (mkF m 151 #[.val (.long q), .second, .val (.int p2), .val (.int p3), .val (.int 6), .val (.int b0), .val (.int b1), .val (.int b2), .val (.int b3), .val (.int b4), .val (.int b5), .val (.ref a), .unset, .unset, .unset, .unset, .unset, .unset] [])
   rw [own_i2b2] at V_a
   replace V_a : Arv Z h61 a ka .byte (6 : Int32) [(.int (StrChars.lo8 b0)), (.int (StrChars.lo8 b1)), (.int (StrChars.lo8 b2)), (.int (StrChars.lo8 b3)), (.int (StrChars.lo8 b4)), (.int (StrChars.lo8 b5))] (.int 0) := V_a
   refine OwG.ac (mkF m 154 #[.val (.long q), .second, .val (.int p2), .val (.int p3), .val (.int 6), .val (.int b0), .val (.int b1), .val (.int b2), .val (.int b3), .val (.int b4), .val (.int b5), .val (.ref a), .unset, .unset, .unset, .unset, .unset, .unset] [(.int 5), (.int 6)]) (fun tQ kQ => ?_) ?_
   · refine XS.iload P.here hx rfl (dc at_151) rfl ?_
     exact XS.iconst P.here hx rfl (dc at_153) kQ
   refine P.stat hx hZ (y := (⟨"java/lang/Math", "min", "(II)I"⟩ : MethodName)) hown (own_w hw 3 rfl) (own_w hw 4 rfl) (own_w hw 5 rfl) (own_w hw 6 rfl) (by decide) (OwM.back (W := 0) (rmMin l Z a0 hw (6 : Int32) (5 : Int32) h61 n0 Z0) hZ (own_w hw 6 rfl) (own_w hw 5 rfl) (own_le rfl) (own_le rfl)) (fun _ _ _ q => q.2) rfl (by rw [hml]; rfl) (argsL := [(.int 6), (.int 5)]) (rest := []) (lenOf pd__II_I rfl) rfl (own_le rfl) (dc at_154) rfl (own_le rfl) (own_le rfl) fun T own_v own_L h62 own_e P own_q => ?_
   obtain ⟨⟨rfl, own_hh⟩, -⟩ := own_q
   rw [own_hh] at P
   clear own_e own_hh
   show OwG p e below s _ _ _ _ T (mkF m 157 #[.val (.long q), .second, .val (.int p2), .val (.int p3), .val (.int 6), .val (.int b0), .val (.int b1), .val (.int b2), .val (.int b3), .val (.int b4), .val (.int b5), .val (.ref a), .unset, .unset, .unset, .unset, .unset, .unset] [(.int (if (5 : Int32) < (6 : Int32) then (5 : Int32) else (6 : Int32)))])
   rw [show (if (5 : Int32) < (6 : Int32) then (5 : Int32) else (6 : Int32)) = (5 : Int32) from by decide]
   show OwG p e below s _ _ _ _ T (mkF m 157 #[.val (.long q), .second, .val (.int p2), .val (.int p3), .val (.int 6), .val (.int b0), .val (.int b1), .val (.int b2), .val (.int b3), .val (.int b4), .val (.int b5), .val (.ref a), .unset, .unset, .unset, .unset, .unset, .unset] [(.int 5)])
   refine OwG.ac (mkF m 239 #[.val (.long q), .second, .val (.int p2), .val (.int p3), .val (.int 6), .val (.int b0), .val (.int b1), .val (.int b2), .val (.int b3), .val (.int b4), .val (.int b5), .val (.ref a), .val (.int 5), .unset, .unset, .unset, .unset, .unset] [(.long ((((((b0.toInt64) <<< ((32 : Int32) &&& 0x3f).toInt64) ||| ((b1.toInt64) <<< ((24 : Int32) &&& 0x3f).toInt64)) ||| ((b2.toInt64) <<< ((16 : Int32) &&& 0x3f).toInt64)) ||| ((b3.toInt64) <<< ((8 : Int32) &&& 0x3f).toInt64)) ||| (b4.toInt64)))]) (fun tQ kQ => ?_) ?_
   · refine XS.istore P.here hx rfl (dc at_157) rfl (l' := #[.val (.long q), .second, .val (.int p2), .val (.int p3), .val (.int 6), .val (.int b0), .val (.int b1), .val (.int b2), .val (.int b3), .val (.int b4), .val (.int b5), .val (.ref a), .val (.int 5), .unset, .unset, .unset, .unset, .unset]) rfl ?_
     refine XS.iload P.here hx rfl (dc at_159) rfl ?_
     refine XS.ifNo P.here hx rfl (dc at_161) rfl ((if0 _ _).trans (tlt (by decide)).2.2.2) ?_
     refine XS.iload P.here hx rfl (dc at_164) rfl ?_
     refine XS.goto P.here hx rfl (pc0 := 166) (pc' := 170) rfl (dc at_166) (by decide) (by decide) ?_
     refine XS.i2l P.here hx rfl (dc at_170) rfl ?_
     refine XS.bipush P.here hx rfl (dc at_171) ?_
     refine XS.lshl P.here hx rfl (dc at_173) rfl ?_
     refine XS.iload P.here hx rfl (dc at_174) rfl ?_
     refine XS.iconst P.here hx rfl (dc at_176) ?_
     refine XS.icmpNo P.here hx rfl (dc at_177) rfl (tlt (by decide)).2.2.2 ?_
     refine XS.iload P.here hx rfl (dc at_180) rfl ?_
     refine XS.goto P.here hx rfl (pc0 := 182) (pc' := 186) rfl (dc at_182) (by decide) (by decide) ?_
     refine XS.i2l P.here hx rfl (dc at_186) rfl ?_
     refine XS.bipush P.here hx rfl (dc at_187) ?_
     refine XS.lshl P.here hx rfl (dc at_189) rfl ?_
     refine XS.lor P.here hx rfl (dc at_190) rfl ?_
     refine XS.iload P.here hx rfl (dc at_191) rfl ?_
     refine XS.iconst P.here hx rfl (dc at_193) ?_
     refine XS.icmpNo P.here hx rfl (dc at_194) rfl (tlt (by decide)).2.2.2 ?_
     refine XS.iload P.here hx rfl (dc at_197) rfl ?_
     refine XS.goto P.here hx rfl (pc0 := 199) (pc' := 203) rfl (dc at_199) (by decide) (by decide) ?_
     refine XS.i2l P.here hx rfl (dc at_203) rfl ?_
     refine XS.bipush P.here hx rfl (dc at_204) ?_
     refine XS.lshl P.here hx rfl (dc at_206) rfl ?_
     refine XS.lor P.here hx rfl (dc at_207) rfl ?_
     refine XS.iload P.here hx rfl (dc at_208) rfl ?_
     refine XS.iconst P.here hx rfl (dc at_210) ?_
     refine XS.icmpNo P.here hx rfl (dc at_211) rfl (tlt (by decide)).2.2.2 ?_
     refine XS.iload P.here hx rfl (dc at_214) rfl ?_
     refine XS.goto P.here hx rfl (pc0 := 216) (pc' := 220) rfl (dc at_216) (by decide) (by decide) ?_
     refine XS.i2l P.here hx rfl (dc at_220) rfl ?_
     refine XS.bipush P.here hx rfl (dc at_221) ?_
     refine XS.lshl P.here hx rfl (dc at_223) rfl ?_
     refine XS.lor P.here hx rfl (dc at_224) rfl ?_
     refine XS.iload P.here hx rfl (dc at_225) rfl ?_
     refine XS.iconst P.here hx rfl (dc at_227) ?_
     refine XS.icmpNo P.here hx rfl (dc at_228) rfl (tlt (by decide)).2.2.2 ?_
     refine XS.iload P.here hx rfl (dc at_231) rfl ?_
     refine XS.goto P.here hx rfl (pc0 := 233) (pc' := 237) rfl (dc at_233) (by decide) (by decide) ?_
     refine XS.i2l P.here hx rfl (dc at_237) rfl ?_
     exact XS.lor P.here hx rfl (dc at_238) rfl kQ
   obtain ⟨v, e_v⟩ : ∃ z : Int64, ((((((b0.toInt64) <<< ((32 : Int32) &&& 0x3f).toInt64) ||| ((b1.toInt64) <<< ((24 : Int32) &&& 0x3f).toInt64)) ||| ((b2.toInt64) <<< ((16 : Int32) &&& 0x3f).toInt64)) ||| ((b3.toInt64) <<< ((8 : Int32) &&& 0x3f).toInt64)) ||| (b4.toInt64)) = z := ⟨_, rfl⟩
   rw [show ((((((b0.toInt64) <<< ((32 : Int32) &&& 0x3f).toInt64) ||| ((b1.toInt64) <<< ((24 : Int32) &&& 0x3f).toInt64)) ||| ((b2.toInt64) <<< ((16 : Int32) &&& 0x3f).toInt64)) ||| ((b3.toInt64) <<< ((8 : Int32) &&& 0x3f).toInt64)) ||| (b4.toInt64)) = v from e_v]
   show OwG p e below s _ _ _ _ T (mkF m 239 #[.val (.long q), .second, .val (.int p2), .val (.int p3), .val (.int 6), .val (.int b0), .val (.int b1), .val (.int b2), .val (.int b3), .val (.int b4), .val (.int b5), .val (.ref a), .val (.int 5), .unset, .unset, .unset, .unset, .unset] [(.long v)])
   refine OwG.ac (mkF m 243 #[.val (.long q), .second, .val (.int p2), .val (.int p3), .val (.int 6), .val (.int b0), .val (.int b1), .val (.int b2), .val (.int b3), .val (.int b4), .val (.int b5), .val (.ref a), .val (.int 5), .val (.long v), .second, .unset, .unset, .unset] [(.int 5)]) (fun tQ kQ => ?_) ?_
   · refine XS.lstore P.here hx rfl (dc at_239) rfl (l' := #[.val (.long q), .second, .val (.int p2), .val (.int p3), .val (.int 6), .val (.int b0), .val (.int b1), .val (.int b2), .val (.int b3), .val (.int b4), .val (.int b5), .val (.ref a), .val (.int 5), .val (.long v), .second, .unset, .unset, .unset]) rfl ?_
     exact XS.iload P.here hx rfl (dc at_241) rfl kQ
   have hv := own_v_to h_b0 h_b1 h_b2 h_b3 h_b4
   rw [e_v] at hv
   refine OwG.ac (mkF m 297 #[.val (.long q), .second, .val (.int p2), .val (.int p3), .val (.int 6), .val (.int b0), .val (.int b1), .val (.int b2), .val (.int b3), .val (.int b4), .val (.int b5), .val (.ref a), .val (.int 5), .val (.long v), .second, .val (.int 8), .unset, .unset] [(.ref a)]) (fun tQ kQ => ?_) ?_
   · refine XS.ifYes P.here hx rfl (pc0 := 243) (pc' := 250) rfl (dc at_243) rfl ((if0 _ _).trans (feq (by decide)).2) (by decide) (by decide) ?_
     refine XS.iload P.here hx rfl (dc at_250) rfl ?_
     refine XS.iconst P.here hx rfl (dc at_252) ?_
     refine XS.icmpYes P.here hx rfl (pc0 := 253) (pc' := 260) rfl (dc at_253) rfl (feq (by decide)).2 (by decide) (by decide) ?_
     refine XS.iload P.here hx rfl (dc at_260) rfl ?_
     refine XS.iconst P.here hx rfl (dc at_262) ?_
     refine XS.icmpYes P.here hx rfl (pc0 := 263) (pc' := 270) rfl (dc at_263) rfl (feq (by decide)).2 (by decide) (by decide) ?_
     refine XS.iload P.here hx rfl (dc at_270) rfl ?_
     refine XS.iconst P.here hx rfl (dc at_272) ?_
     refine XS.icmpYes P.here hx rfl (pc0 := 273) (pc' := 280) rfl (dc at_273) rfl (feq (by decide)).2 (by decide) (by decide) ?_
     refine XS.iload P.here hx rfl (dc at_280) rfl ?_
     refine XS.iconst P.here hx rfl (dc at_282) ?_
     refine XS.icmpYes P.here hx rfl (pc0 := 283) (pc' := 291) rfl (dc at_283) rfl (feq (by decide)).2 (by decide) (by decide) ?_
     refine XS.bipush P.here hx rfl (dc at_291) ?_
     refine XS.istore P.here hx rfl (dc at_293) rfl (l' := #[.val (.long q), .second, .val (.int p2), .val (.int p3), .val (.int 6), .val (.int b0), .val (.int b1), .val (.int b2), .val (.int b3), .val (.int b4), .val (.int b5), .val (.ref a), .val (.int 5), .val (.long v), .second, .val (.int 8), .unset, .unset]) rfl ?_
     exact XS.aload P.here hx rfl (dc at_295) rfl rfl kQ
   refine P.stat hx hZ (y := (⟨"com/example/grawl/grawl/util/Base32", "encode", "([B)Ljava/lang/String;"⟩ : MethodName)) hown (own_w hw 7 rfl) (own_w hw 8 rfl) (own_w hw 9 rfl) (own_w hw 10 rfl) (by decide) (OwM.back (W := 0) (rmE6 l Z a0 hw a al ka kal dal zC (StrChars.lo8 b0) (StrChars.lo8 b1) (StrChars.lo8 b2) (StrChars.lo8 b3) (StrChars.lo8 b4) (StrChars.lo8 b5) h61 n0 Z0 S2 hzC OL SAl V_a V_al) hZ (own_w hw 10 rfl) (own_w hw 9 rfl) (own_le rfl) (own_le rfl)) (fun _ _ _ q => q.2) rfl (by rw [hml]; rfl) (argsL := [(.ref a)]) (rest := []) (lenOf pd___B_Ljava_lang_String_ rfl) rfl (own_le rfl) (dc at_297) rfl (own_le rfl) (own_le rfl) fun T own_v own_L h63 own_e P own_q => ?_
   obtain ⟨⟨x, u, ku, rfl, K, E_x, F_value_x, F_coder_x, V_u⟩, -⟩ := own_q
   clear own_e
   replace V_al := V_al.keep K nin0
   replace V_a := V_a.keep K nin0
   replace Z0 := Nat.le_trans Z0 K.1
   replace OL := OL.keep K all0
   show OwG p e below s _ _ _ _ T (mkF m 300 #[.val (.long q), .second, .val (.int p2), .val (.int p3), .val (.int 6), .val (.int b0), .val (.int b1), .val (.int b2), .val (.int b3), .val (.int b4), .val (.int b5), .val (.ref a), .val (.int 5), .val (.long v), .second, .val (.int 8), .unset, .unset] [(.ref x)])
   refine OwG.ac (mkF m 302 #[.val (.long q), .second, .val (.int p2), .val (.int p3), .val (.int 6), .val (.int b0), .val (.int b1), .val (.int b2), .val (.int b3), .val (.int b4), .val (.int b5), .val (.ref a), .val (.int 5), .val (.long v), .second, .val (.int 8), .val (.ref x), .unset] []) (fun tQ kQ => ?_) ?_
   · exact XS.astore P.here hx rfl (dc at_300) rfl rfl (l' := #[.val (.long q), .second, .val (.int p2), .val (.int p3), .val (.int 6), .val (.int b0), .val (.int b1), .val (.int b2), .val (.int b3), .val (.int b4), .val (.int b5), .val (.ref a), .val (.int 5), .val (.long v), .second, .val (.int 8), .val (.ref x), .unset]) rfl kQ
   have own_q := own_eq6 (v := v) h_b0 h_b1 h_b2 h_b3 h_b4 h_b5 (by simpa using hv)
   refine OwG.ac (mkF m 327 #[.val (.long q), .second, .val (.int p2), .val (.int p3), .val (.int 6), .val (.int b0), .val (.int b1), .val (.int b2), .val (.int b3), .val (.int b4), .val (.int b5), .val (.ref a), .val (.int 5), .val (.long v), .second, .val (.int 8), .val (.ref x), .unset] [(.int 16)]) (fun tQ kQ => ?_) ?_
   · refine XS.iload P.here hx rfl (dc at_302) rfl ?_
     refine XS.ifYes P.here hx rfl (pc0 := 304) (pc' := 313) rfl (dc at_304) rfl ((if0 _ _).trans (feq (by decide)).2) (by decide) (by decide) ?_
     refine XS.iload P.here hx rfl (dc at_313) rfl ?_
     refine XS.bipush P.here hx rfl (dc at_315) ?_
     refine XS.icmpNo P.here hx rfl (dc at_317) rfl (teq rfl).2 ?_
     refine XS.bipush P.here hx rfl (dc at_320) ?_
     exact XS.goto P.here hx rfl (pc0 := 322) (pc' := 327) rfl (dc at_322) (by decide) (by decide) kQ
   refine P.newP hx hZ (own_w hw 109 rfl) rfl (dc at_327) rfl (by decide) (cap := 16) (by decide) (by decide) (own_le rfl) (own_le rfl) fun T h64 ca kca gca P E V_ca => ?_
   have ne_al_ca : al ≠ ca := Nat.ne_of_lt (Nat.lt_of_lt_of_le V_al.lt (Nat.le_of_eq gca.symm))
   have ne_ca_al := Ne.symm ne_al_ca
   have ne_a_ca : a ≠ ca := Nat.ne_of_lt (Nat.lt_of_lt_of_le V_a.lt (Nat.le_of_eq gca.symm))
   have ne_ca_a := Ne.symm ne_a_ca
   have ne_x_ca : x ≠ ca := Nat.ne_of_lt (Nat.lt_of_lt_of_le E_x.lt (Nat.le_of_eq gca.symm))
   have ne_ca_x := Ne.symm ne_x_ca
   have ne_u_ca : u ≠ ca := Nat.ne_of_lt (Nat.lt_of_lt_of_le V_u.lt (Nat.le_of_eq gca.symm))
   have ne_ca_u := Ne.symm ne_u_ca
   have g_ca : n0 ≤ ca := Nat.le_trans Z0 (Nat.le_of_eq gca.symm)
   replace V_al := V_al.ext E
   replace V_a := V_a.ext E
   replace E_x := E_x.ext E
   replace F_value_x := F_value_x.ext E
   replace F_coder_x := F_coder_x.ext E
   replace V_u := V_u.ext E
   replace Z0 := Nat.le_trans Z0 E.1
   replace OL := OL.ext E
   clear E
   replace V_ca : Arv Z h64 ca kca .char (16 : Int32) [(.int 0), (.int 0), (.int 0), (.int 0), (.int 0), (.int 0), (.int 0), (.int 0), (.int 0), (.int 0), (.int 0), (.int 0), (.int 0), (.int 0), (.int 0), (.int 0)] (.int 0) := V_ca.pad (pad_rep [] (.int 0) 16)
   show OwG p e below s _ _ _ _ T (mkF m 329 #[.val (.long q), .second, .val (.int p2), .val (.int p3), .val (.int 6), .val (.int b0), .val (.int b1), .val (.int b2), .val (.int b3), .val (.int b4), .val (.int b5), .val (.ref a), .val (.int 5), .val (.long v), .second, .val (.int 8), .val (.ref x), .unset] [(.ref ca)])
   refine OwG.ac (mkF m 339 #[.val (.long q), .second, .val (.int p2), .val (.int p3), .val (.int 6), .val (.int b0), .val (.int b1), .val (.int b2), .val (.int b3), .val (.int b4), .val (.int b5), .val (.ref a), .val (.int 5), .val (.long v), .second, .val (.int 8), .val (.ref x), .val (.ref ca)] [(.int 8), (.int 0), (.long v), (.int 0), (.ref ca)]) (fun tQ kQ => ?_) ?_
   · refine XS.astore P.here hx rfl (dc at_329) rfl rfl (l' := #[.val (.long q), .second, .val (.int p2), .val (.int p3), .val (.int 6), .val (.int b0), .val (.int b1), .val (.int b2), .val (.int b3), .val (.int b4), .val (.int b5), .val (.ref a), .val (.int 5), .val (.long v), .second, .val (.int 8), .val (.ref x), .val (.ref ca)]) rfl ?_
     refine XS.aload P.here hx rfl (dc at_331) rfl rfl ?_
     refine XS.iconst P.here hx rfl (dc at_333) ?_
     refine XS.lload P.here hx rfl (dc at_334) rfl ?_
     refine XS.iconst P.here hx rfl (dc at_336) ?_
     exact XS.iload P.here hx rfl (dc at_337) rfl kQ
   refine P.stat hx hZ (y := (⟨"com/example/grawl/grawl/util/Base32EncodePinLaw", "sym", "(JII)C"⟩ : MethodName)) hown (own_w hw 110 rfl) (own_w hw 111 rfl) (own_w hw 112 rfl) (own_w hw 113 rfl) (by decide) (OwM.back (W := 2) (rmSy l Z a0 hw v (0 : Int32) (8 : Int32) h64 n0 Z0) hZ (own_w hw 113 rfl) (own_w hw 112 rfl) (own_le rfl) (own_le rfl)) (fun _ _ _ q => q.2) rfl (by rw [hml]; rfl) (argsL := [(.long v), (.int 0), (.int 8)]) (rest := [(.int 0), (.ref ca)]) (lenOf pd__JII_C rfl) rfl (own_le rfl) (dc at_339) rfl (own_le rfl) (own_le rfl) fun T own_v own_L h65 own_e P own_q => ?_
   obtain ⟨⟨rfl, own_hh⟩, -⟩ := own_q
   rw [own_hh] at P
   clear own_e own_hh
   show OwG p e below s _ _ _ _ T (mkF m 342 #[.val (.long q), .second, .val (.int p2), .val (.int p3), .val (.int 6), .val (.int b0), .val (.int b1), .val (.int b2), .val (.int b3), .val (.int b4), .val (.int b5), .val (.ref a), .val (.int 5), .val (.long v), .second, .val (.int 8), .val (.ref x), .val (.ref ca)] [(.int (own_sy v (0 : Int32) (8 : Int32))), (.int 0), (.ref ca)])
   obtain ⟨c0, e_c0, h_c0⟩ : ∃ z : Int32, (own_sy v (0 : Int32) (8 : Int32)) = z ∧ (¬ z < 0 ∧ ¬ (255 : Int32) < z) := ⟨_, rfl, own_syb _ _ _⟩
   rw [show (own_sy v (0 : Int32) (8 : Int32)) = c0 from e_c0]
   show OwG p e below s _ _ _ _ T (mkF m 342 #[.val (.long q), .second, .val (.int p2), .val (.int p3), .val (.int 6), .val (.int b0), .val (.int b1), .val (.int b2), .val (.int b3), .val (.int b4), .val (.int b5), .val (.ref a), .val (.int 5), .val (.long v), .second, .val (.int 8), .val (.ref x), .val (.ref ca)] [(.int c0), (.int 0), (.ref ca)])
   refine P.stC hx hZ V_ca (j := (0 : Int32)) (by decide) (by decide) (i := 0) rfl (Nat.le_of_ble_eq_true rfl) rfl rfl (dc at_342) g_ca fun T h66 P W V' => ?_
   replace V_al := V_al.other W ne_al_ca
   replace V_a := V_a.other W ne_a_ca
   replace E_x := E_x.wr W
   replace F_value_x := F_value_x.other W (Or.inl ne_x_ca)
   replace F_coder_x := F_coder_x.other W (Or.inl ne_x_ca)
   replace V_u := V_u.other W ne_u_ca
   replace Z0 := Nat.le_trans Z0 (Keep.of_wr W).1
   replace OL := OL.wr W g_ca
   replace V_ca := V'
   clear W V'
   show OwG p e below s _ _ _ _ T (mkF m 343 #[.val (.long q), .second, .val (.int p2), .val (.int p3), .val (.int 6), .val (.int b0), .val (.int b1), .val (.int b2), .val (.int b3), .val (.int b4), .val (.int b5), .val (.ref a), .val (.int 5), .val (.long v), .second, .val (.int 8), .val (.ref x), .val (.ref ca)] [])
   rw [own_narc (own_up h_c0).1 (own_up h_c0).2] at V_ca
   replace V_ca : Arv Z h66 ca kca .char (16 : Int32) [(.int c0), (.int 0), (.int 0), (.int 0), (.int 0), (.int 0), (.int 0), (.int 0), (.int 0), (.int 0), (.int 0), (.int 0), (.int 0), (.int 0), (.int 0), (.int 0)] (.int 0) := V_ca
   refine OwG.ac (mkF m 351 #[.val (.long q), .second, .val (.int p2), .val (.int p3), .val (.int 6), .val (.int b0), .val (.int b1), .val (.int b2), .val (.int b3), .val (.int b4), .val (.int b5), .val (.ref a), .val (.int 5), .val (.long v), .second, .val (.int 8), .val (.ref x), .val (.ref ca)] [(.int 8), (.int 1), (.long v), (.int 1), (.ref ca)]) (fun tQ kQ => ?_) ?_
   · refine XS.aload P.here hx rfl (dc at_343) rfl rfl ?_
     refine XS.iconst P.here hx rfl (dc at_345) ?_
     refine XS.lload P.here hx rfl (dc at_346) rfl ?_
     refine XS.iconst P.here hx rfl (dc at_348) ?_
     exact XS.iload P.here hx rfl (dc at_349) rfl kQ
   refine P.stat hx hZ (y := (⟨"com/example/grawl/grawl/util/Base32EncodePinLaw", "sym", "(JII)C"⟩ : MethodName)) hown (own_w hw 110 rfl) (own_w hw 111 rfl) (own_w hw 112 rfl) (own_w hw 113 rfl) (by decide) (OwM.back (W := 2) (rmSy l Z a0 hw v (1 : Int32) (8 : Int32) h66 n0 Z0) hZ (own_w hw 113 rfl) (own_w hw 112 rfl) (own_le rfl) (own_le rfl)) (fun _ _ _ q => q.2) rfl (by rw [hml]; rfl) (argsL := [(.long v), (.int 1), (.int 8)]) (rest := [(.int 1), (.ref ca)]) (lenOf pd__JII_C rfl) rfl (own_le rfl) (dc at_351) rfl (own_le rfl) (own_le rfl) fun T own_v own_L h67 own_e P own_q => ?_
   obtain ⟨⟨rfl, own_hh⟩, -⟩ := own_q
   rw [own_hh] at P
   clear own_e own_hh
   show OwG p e below s _ _ _ _ T (mkF m 354 #[.val (.long q), .second, .val (.int p2), .val (.int p3), .val (.int 6), .val (.int b0), .val (.int b1), .val (.int b2), .val (.int b3), .val (.int b4), .val (.int b5), .val (.ref a), .val (.int 5), .val (.long v), .second, .val (.int 8), .val (.ref x), .val (.ref ca)] [(.int (own_sy v (1 : Int32) (8 : Int32))), (.int 1), (.ref ca)])
   obtain ⟨c1, e_c1, h_c1⟩ : ∃ z : Int32, (own_sy v (1 : Int32) (8 : Int32)) = z ∧ (¬ z < 0 ∧ ¬ (255 : Int32) < z) := ⟨_, rfl, own_syb _ _ _⟩
   rw [show (own_sy v (1 : Int32) (8 : Int32)) = c1 from e_c1]
   show OwG p e below s _ _ _ _ T (mkF m 354 #[.val (.long q), .second, .val (.int p2), .val (.int p3), .val (.int 6), .val (.int b0), .val (.int b1), .val (.int b2), .val (.int b3), .val (.int b4), .val (.int b5), .val (.ref a), .val (.int 5), .val (.long v), .second, .val (.int 8), .val (.ref x), .val (.ref ca)] [(.int c1), (.int 1), (.ref ca)])
   refine P.stC hx hZ V_ca (j := (1 : Int32)) (by decide) (by decide) (i := 1) rfl (Nat.le_of_ble_eq_true rfl) rfl rfl (dc at_354) g_ca fun T h68 P W V' => ?_
   replace V_al := V_al.other W ne_al_ca
   replace V_a := V_a.other W ne_a_ca
   replace E_x := E_x.wr W
   replace F_value_x := F_value_x.other W (Or.inl ne_x_ca)
   replace F_coder_x := F_coder_x.other W (Or.inl ne_x_ca)
   replace V_u := V_u.other W ne_u_ca
   replace Z0 := Nat.le_trans Z0 (Keep.of_wr W).1
   replace OL := OL.wr W g_ca
   replace V_ca := V'
   clear W V'
   show OwG p e below s _ _ _ _ T (mkF m 355 #[.val (.long q), .second, .val (.int p2), .val (.int p3), .val (.int 6), .val (.int b0), .val (.int b1), .val (.int b2), .val (.int b3), .val (.int b4), .val (.int b5), .val (.ref a), .val (.int 5), .val (.long v), .second, .val (.int 8), .val (.ref x), .val (.ref ca)] [])
   rw [own_narc (own_up h_c1).1 (own_up h_c1).2] at V_ca
   replace V_ca : Arv Z h68 ca kca .char (16 : Int32) [(.int c0), (.int c1), (.int 0), (.int 0), (.int 0), (.int 0), (.int 0), (.int 0), (.int 0), (.int 0), (.int 0), (.int 0), (.int 0), (.int 0), (.int 0), (.int 0)] (.int 0) := V_ca
   refine OwG.ac (mkF m 363 #[.val (.long q), .second, .val (.int p2), .val (.int p3), .val (.int 6), .val (.int b0), .val (.int b1), .val (.int b2), .val (.int b3), .val (.int b4), .val (.int b5), .val (.ref a), .val (.int 5), .val (.long v), .second, .val (.int 8), .val (.ref x), .val (.ref ca)] [(.int 8), (.int 2), (.long v), (.int 2), (.ref ca)]) (fun tQ kQ => ?_) ?_
   · refine XS.aload P.here hx rfl (dc at_355) rfl rfl ?_
     refine XS.iconst P.here hx rfl (dc at_357) ?_
     refine XS.lload P.here hx rfl (dc at_358) rfl ?_
     refine XS.iconst P.here hx rfl (dc at_360) ?_
     exact XS.iload P.here hx rfl (dc at_361) rfl kQ
   refine P.stat hx hZ (y := (⟨"com/example/grawl/grawl/util/Base32EncodePinLaw", "sym", "(JII)C"⟩ : MethodName)) hown (own_w hw 110 rfl) (own_w hw 111 rfl) (own_w hw 112 rfl) (own_w hw 113 rfl) (by decide) (OwM.back (W := 2) (rmSy l Z a0 hw v (2 : Int32) (8 : Int32) h68 n0 Z0) hZ (own_w hw 113 rfl) (own_w hw 112 rfl) (own_le rfl) (own_le rfl)) (fun _ _ _ q => q.2) rfl (by rw [hml]; rfl) (argsL := [(.long v), (.int 2), (.int 8)]) (rest := [(.int 2), (.ref ca)]) (lenOf pd__JII_C rfl) rfl (own_le rfl) (dc at_363) rfl (own_le rfl) (own_le rfl) fun T own_v own_L h69 own_e P own_q => ?_
   obtain ⟨⟨rfl, own_hh⟩, -⟩ := own_q
   rw [own_hh] at P
   clear own_e own_hh
   show OwG p e below s _ _ _ _ T (mkF m 366 #[.val (.long q), .second, .val (.int p2), .val (.int p3), .val (.int 6), .val (.int b0), .val (.int b1), .val (.int b2), .val (.int b3), .val (.int b4), .val (.int b5), .val (.ref a), .val (.int 5), .val (.long v), .second, .val (.int 8), .val (.ref x), .val (.ref ca)] [(.int (own_sy v (2 : Int32) (8 : Int32))), (.int 2), (.ref ca)])
   obtain ⟨c2, e_c2, h_c2⟩ : ∃ z : Int32, (own_sy v (2 : Int32) (8 : Int32)) = z ∧ (¬ z < 0 ∧ ¬ (255 : Int32) < z) := ⟨_, rfl, own_syb _ _ _⟩
   rw [show (own_sy v (2 : Int32) (8 : Int32)) = c2 from e_c2]
   show OwG p e below s _ _ _ _ T (mkF m 366 #[.val (.long q), .second, .val (.int p2), .val (.int p3), .val (.int 6), .val (.int b0), .val (.int b1), .val (.int b2), .val (.int b3), .val (.int b4), .val (.int b5), .val (.ref a), .val (.int 5), .val (.long v), .second, .val (.int 8), .val (.ref x), .val (.ref ca)] [(.int c2), (.int 2), (.ref ca)])
   refine P.stC hx hZ V_ca (j := (2 : Int32)) (by decide) (by decide) (i := 2) rfl (Nat.le_of_ble_eq_true rfl) rfl rfl (dc at_366) g_ca fun T h70 P W V' => ?_
   replace V_al := V_al.other W ne_al_ca
   replace V_a := V_a.other W ne_a_ca
   replace E_x := E_x.wr W
   replace F_value_x := F_value_x.other W (Or.inl ne_x_ca)
   replace F_coder_x := F_coder_x.other W (Or.inl ne_x_ca)
   replace V_u := V_u.other W ne_u_ca
   replace Z0 := Nat.le_trans Z0 (Keep.of_wr W).1
   replace OL := OL.wr W g_ca
   replace V_ca := V'
   clear W V'
   show OwG p e below s _ _ _ _ T (mkF m 367 #[.val (.long q), .second, .val (.int p2), .val (.int p3), .val (.int 6), .val (.int b0), .val (.int b1), .val (.int b2), .val (.int b3), .val (.int b4), .val (.int b5), .val (.ref a), .val (.int 5), .val (.long v), .second, .val (.int 8), .val (.ref x), .val (.ref ca)] [])
   rw [own_narc (own_up h_c2).1 (own_up h_c2).2] at V_ca
   replace V_ca : Arv Z h70 ca kca .char (16 : Int32) [(.int c0), (.int c1), (.int c2), (.int 0), (.int 0), (.int 0), (.int 0), (.int 0), (.int 0), (.int 0), (.int 0), (.int 0), (.int 0), (.int 0), (.int 0), (.int 0)] (.int 0) := V_ca
   refine OwG.ac (mkF m 375 #[.val (.long q), .second, .val (.int p2), .val (.int p3), .val (.int 6), .val (.int b0), .val (.int b1), .val (.int b2), .val (.int b3), .val (.int b4), .val (.int b5), .val (.ref a), .val (.int 5), .val (.long v), .second, .val (.int 8), .val (.ref x), .val (.ref ca)] [(.int 8), (.int 3), (.long v), (.int 3), (.ref ca)]) (fun tQ kQ => ?_) ?_
   · refine XS.aload P.here hx rfl (dc at_367) rfl rfl ?_
     refine XS.iconst P.here hx rfl (dc at_369) ?_
     refine XS.lload P.here hx rfl (dc at_370) rfl ?_
     refine XS.iconst P.here hx rfl (dc at_372) ?_
     exact XS.iload P.here hx rfl (dc at_373) rfl kQ
   refine P.stat hx hZ (y := (⟨"com/example/grawl/grawl/util/Base32EncodePinLaw", "sym", "(JII)C"⟩ : MethodName)) hown (own_w hw 110 rfl) (own_w hw 111 rfl) (own_w hw 112 rfl) (own_w hw 113 rfl) (by decide) (OwM.back (W := 2) (rmSy l Z a0 hw v (3 : Int32) (8 : Int32) h70 n0 Z0) hZ (own_w hw 113 rfl) (own_w hw 112 rfl) (own_le rfl) (own_le rfl)) (fun _ _ _ q => q.2) rfl (by rw [hml]; rfl) (argsL := [(.long v), (.int 3), (.int 8)]) (rest := [(.int 3), (.ref ca)]) (lenOf pd__JII_C rfl) rfl (own_le rfl) (dc at_375) rfl (own_le rfl) (own_le rfl) fun T own_v own_L h71 own_e P own_q => ?_
   obtain ⟨⟨rfl, own_hh⟩, -⟩ := own_q
   rw [own_hh] at P
   clear own_e own_hh
   show OwG p e below s _ _ _ _ T (mkF m 378 #[.val (.long q), .second, .val (.int p2), .val (.int p3), .val (.int 6), .val (.int b0), .val (.int b1), .val (.int b2), .val (.int b3), .val (.int b4), .val (.int b5), .val (.ref a), .val (.int 5), .val (.long v), .second, .val (.int 8), .val (.ref x), .val (.ref ca)] [(.int (own_sy v (3 : Int32) (8 : Int32))), (.int 3), (.ref ca)])
   obtain ⟨c3, e_c3, h_c3⟩ : ∃ z : Int32, (own_sy v (3 : Int32) (8 : Int32)) = z ∧ (¬ z < 0 ∧ ¬ (255 : Int32) < z) := ⟨_, rfl, own_syb _ _ _⟩
   rw [show (own_sy v (3 : Int32) (8 : Int32)) = c3 from e_c3]
   show OwG p e below s _ _ _ _ T (mkF m 378 #[.val (.long q), .second, .val (.int p2), .val (.int p3), .val (.int 6), .val (.int b0), .val (.int b1), .val (.int b2), .val (.int b3), .val (.int b4), .val (.int b5), .val (.ref a), .val (.int 5), .val (.long v), .second, .val (.int 8), .val (.ref x), .val (.ref ca)] [(.int c3), (.int 3), (.ref ca)])
   refine P.stC hx hZ V_ca (j := (3 : Int32)) (by decide) (by decide) (i := 3) rfl (Nat.le_of_ble_eq_true rfl) rfl rfl (dc at_378) g_ca fun T h72 P W V' => ?_
   replace V_al := V_al.other W ne_al_ca
   replace V_a := V_a.other W ne_a_ca
   replace E_x := E_x.wr W
   replace F_value_x := F_value_x.other W (Or.inl ne_x_ca)
   replace F_coder_x := F_coder_x.other W (Or.inl ne_x_ca)
   replace V_u := V_u.other W ne_u_ca
   replace Z0 := Nat.le_trans Z0 (Keep.of_wr W).1
   replace OL := OL.wr W g_ca
   replace V_ca := V'
   clear W V'
   show OwG p e below s _ _ _ _ T (mkF m 379 #[.val (.long q), .second, .val (.int p2), .val (.int p3), .val (.int 6), .val (.int b0), .val (.int b1), .val (.int b2), .val (.int b3), .val (.int b4), .val (.int b5), .val (.ref a), .val (.int 5), .val (.long v), .second, .val (.int 8), .val (.ref x), .val (.ref ca)] [])
   rw [own_narc (own_up h_c3).1 (own_up h_c3).2] at V_ca
   replace V_ca : Arv Z h72 ca kca .char (16 : Int32) [(.int c0), (.int c1), (.int c2), (.int c3), (.int 0), (.int 0), (.int 0), (.int 0), (.int 0), (.int 0), (.int 0), (.int 0), (.int 0), (.int 0), (.int 0), (.int 0)] (.int 0) := V_ca
   refine OwG.ac (mkF m 387 #[.val (.long q), .second, .val (.int p2), .val (.int p3), .val (.int 6), .val (.int b0), .val (.int b1), .val (.int b2), .val (.int b3), .val (.int b4), .val (.int b5), .val (.ref a), .val (.int 5), .val (.long v), .second, .val (.int 8), .val (.ref x), .val (.ref ca)] [(.int 8), (.int 4), (.long v), (.int 4), (.ref ca)]) (fun tQ kQ => ?_) ?_
   · refine XS.aload P.here hx rfl (dc at_379) rfl rfl ?_
     refine XS.iconst P.here hx rfl (dc at_381) ?_
     refine XS.lload P.here hx rfl (dc at_382) rfl ?_
     refine XS.iconst P.here hx rfl (dc at_384) ?_
     exact XS.iload P.here hx rfl (dc at_385) rfl kQ
   refine P.stat hx hZ (y := (⟨"com/example/grawl/grawl/util/Base32EncodePinLaw", "sym", "(JII)C"⟩ : MethodName)) hown (own_w hw 110 rfl) (own_w hw 111 rfl) (own_w hw 112 rfl) (own_w hw 113 rfl) (by decide) (OwM.back (W := 2) (rmSy l Z a0 hw v (4 : Int32) (8 : Int32) h72 n0 Z0) hZ (own_w hw 113 rfl) (own_w hw 112 rfl) (own_le rfl) (own_le rfl)) (fun _ _ _ q => q.2) rfl (by rw [hml]; rfl) (argsL := [(.long v), (.int 4), (.int 8)]) (rest := [(.int 4), (.ref ca)]) (lenOf pd__JII_C rfl) rfl (own_le rfl) (dc at_387) rfl (own_le rfl) (own_le rfl) fun T own_v own_L h73 own_e P own_q => ?_
   obtain ⟨⟨rfl, own_hh⟩, -⟩ := own_q
   rw [own_hh] at P
   clear own_e own_hh
   show OwG p e below s _ _ _ _ T (mkF m 390 #[.val (.long q), .second, .val (.int p2), .val (.int p3), .val (.int 6), .val (.int b0), .val (.int b1), .val (.int b2), .val (.int b3), .val (.int b4), .val (.int b5), .val (.ref a), .val (.int 5), .val (.long v), .second, .val (.int 8), .val (.ref x), .val (.ref ca)] [(.int (own_sy v (4 : Int32) (8 : Int32))), (.int 4), (.ref ca)])
   obtain ⟨c4, e_c4, h_c4⟩ : ∃ z : Int32, (own_sy v (4 : Int32) (8 : Int32)) = z ∧ (¬ z < 0 ∧ ¬ (255 : Int32) < z) := ⟨_, rfl, own_syb _ _ _⟩
   rw [show (own_sy v (4 : Int32) (8 : Int32)) = c4 from e_c4]
   show OwG p e below s _ _ _ _ T (mkF m 390 #[.val (.long q), .second, .val (.int p2), .val (.int p3), .val (.int 6), .val (.int b0), .val (.int b1), .val (.int b2), .val (.int b3), .val (.int b4), .val (.int b5), .val (.ref a), .val (.int 5), .val (.long v), .second, .val (.int 8), .val (.ref x), .val (.ref ca)] [(.int c4), (.int 4), (.ref ca)])
   refine P.stC hx hZ V_ca (j := (4 : Int32)) (by decide) (by decide) (i := 4) rfl (Nat.le_of_ble_eq_true rfl) rfl rfl (dc at_390) g_ca fun T h74 P W V' => ?_
   replace V_al := V_al.other W ne_al_ca
   replace V_a := V_a.other W ne_a_ca
   replace E_x := E_x.wr W
   replace F_value_x := F_value_x.other W (Or.inl ne_x_ca)
   replace F_coder_x := F_coder_x.other W (Or.inl ne_x_ca)
   replace V_u := V_u.other W ne_u_ca
   replace Z0 := Nat.le_trans Z0 (Keep.of_wr W).1
   replace OL := OL.wr W g_ca
   replace V_ca := V'
   clear W V'
   show OwG p e below s _ _ _ _ T (mkF m 391 #[.val (.long q), .second, .val (.int p2), .val (.int p3), .val (.int 6), .val (.int b0), .val (.int b1), .val (.int b2), .val (.int b3), .val (.int b4), .val (.int b5), .val (.ref a), .val (.int 5), .val (.long v), .second, .val (.int 8), .val (.ref x), .val (.ref ca)] [])
   rw [own_narc (own_up h_c4).1 (own_up h_c4).2] at V_ca
   replace V_ca : Arv Z h74 ca kca .char (16 : Int32) [(.int c0), (.int c1), (.int c2), (.int c3), (.int c4), (.int 0), (.int 0), (.int 0), (.int 0), (.int 0), (.int 0), (.int 0), (.int 0), (.int 0), (.int 0), (.int 0)] (.int 0) := V_ca
   refine OwG.ac (mkF m 399 #[.val (.long q), .second, .val (.int p2), .val (.int p3), .val (.int 6), .val (.int b0), .val (.int b1), .val (.int b2), .val (.int b3), .val (.int b4), .val (.int b5), .val (.ref a), .val (.int 5), .val (.long v), .second, .val (.int 8), .val (.ref x), .val (.ref ca)] [(.int 8), (.int 5), (.long v), (.int 5), (.ref ca)]) (fun tQ kQ => ?_) ?_
   · refine XS.aload P.here hx rfl (dc at_391) rfl rfl ?_
     refine XS.iconst P.here hx rfl (dc at_393) ?_
     refine XS.lload P.here hx rfl (dc at_394) rfl ?_
     refine XS.iconst P.here hx rfl (dc at_396) ?_
     exact XS.iload P.here hx rfl (dc at_397) rfl kQ
   refine P.stat hx hZ (y := (⟨"com/example/grawl/grawl/util/Base32EncodePinLaw", "sym", "(JII)C"⟩ : MethodName)) hown (own_w hw 110 rfl) (own_w hw 111 rfl) (own_w hw 112 rfl) (own_w hw 113 rfl) (by decide) (OwM.back (W := 2) (rmSy l Z a0 hw v (5 : Int32) (8 : Int32) h74 n0 Z0) hZ (own_w hw 113 rfl) (own_w hw 112 rfl) (own_le rfl) (own_le rfl)) (fun _ _ _ q => q.2) rfl (by rw [hml]; rfl) (argsL := [(.long v), (.int 5), (.int 8)]) (rest := [(.int 5), (.ref ca)]) (lenOf pd__JII_C rfl) rfl (own_le rfl) (dc at_399) rfl (own_le rfl) (own_le rfl) fun T own_v own_L h75 own_e P own_q => ?_
   obtain ⟨⟨rfl, own_hh⟩, -⟩ := own_q
   rw [own_hh] at P
   clear own_e own_hh
   show OwG p e below s _ _ _ _ T (mkF m 402 #[.val (.long q), .second, .val (.int p2), .val (.int p3), .val (.int 6), .val (.int b0), .val (.int b1), .val (.int b2), .val (.int b3), .val (.int b4), .val (.int b5), .val (.ref a), .val (.int 5), .val (.long v), .second, .val (.int 8), .val (.ref x), .val (.ref ca)] [(.int (own_sy v (5 : Int32) (8 : Int32))), (.int 5), (.ref ca)])
   obtain ⟨c5, e_c5, h_c5⟩ : ∃ z : Int32, (own_sy v (5 : Int32) (8 : Int32)) = z ∧ (¬ z < 0 ∧ ¬ (255 : Int32) < z) := ⟨_, rfl, own_syb _ _ _⟩
   rw [show (own_sy v (5 : Int32) (8 : Int32)) = c5 from e_c5]
   show OwG p e below s _ _ _ _ T (mkF m 402 #[.val (.long q), .second, .val (.int p2), .val (.int p3), .val (.int 6), .val (.int b0), .val (.int b1), .val (.int b2), .val (.int b3), .val (.int b4), .val (.int b5), .val (.ref a), .val (.int 5), .val (.long v), .second, .val (.int 8), .val (.ref x), .val (.ref ca)] [(.int c5), (.int 5), (.ref ca)])
   refine P.stC hx hZ V_ca (j := (5 : Int32)) (by decide) (by decide) (i := 5) rfl (Nat.le_of_ble_eq_true rfl) rfl rfl (dc at_402) g_ca fun T h76 P W V' => ?_
   replace V_al := V_al.other W ne_al_ca
   replace V_a := V_a.other W ne_a_ca
   replace E_x := E_x.wr W
   replace F_value_x := F_value_x.other W (Or.inl ne_x_ca)
   replace F_coder_x := F_coder_x.other W (Or.inl ne_x_ca)
   replace V_u := V_u.other W ne_u_ca
   replace Z0 := Nat.le_trans Z0 (Keep.of_wr W).1
   replace OL := OL.wr W g_ca
   replace V_ca := V'
   clear W V'
   show OwG p e below s _ _ _ _ T (mkF m 403 #[.val (.long q), .second, .val (.int p2), .val (.int p3), .val (.int 6), .val (.int b0), .val (.int b1), .val (.int b2), .val (.int b3), .val (.int b4), .val (.int b5), .val (.ref a), .val (.int 5), .val (.long v), .second, .val (.int 8), .val (.ref x), .val (.ref ca)] [])
   rw [own_narc (own_up h_c5).1 (own_up h_c5).2] at V_ca
   replace V_ca : Arv Z h76 ca kca .char (16 : Int32) [(.int c0), (.int c1), (.int c2), (.int c3), (.int c4), (.int c5), (.int 0), (.int 0), (.int 0), (.int 0), (.int 0), (.int 0), (.int 0), (.int 0), (.int 0), (.int 0)] (.int 0) := V_ca
   refine OwG.ac (mkF m 413 #[.val (.long q), .second, .val (.int p2), .val (.int p3), .val (.int 6), .val (.int b0), .val (.int b1), .val (.int b2), .val (.int b3), .val (.int b4), .val (.int b5), .val (.ref a), .val (.int 5), .val (.long v), .second, .val (.int 8), .val (.ref x), .val (.ref ca)] [(.int 8), (.int 6), (.long v), (.int 6), (.ref ca)]) (fun tQ kQ => ?_) ?_
   · refine XS.aload P.here hx rfl (dc at_403) rfl rfl ?_
     refine XS.bipush P.here hx rfl (dc at_405) ?_
     refine XS.lload P.here hx rfl (dc at_407) rfl ?_
     refine XS.bipush P.here hx rfl (dc at_409) ?_
     exact XS.iload P.here hx rfl (dc at_411) rfl kQ
   refine P.stat hx hZ (y := (⟨"com/example/grawl/grawl/util/Base32EncodePinLaw", "sym", "(JII)C"⟩ : MethodName)) hown (own_w hw 110 rfl) (own_w hw 111 rfl) (own_w hw 112 rfl) (own_w hw 113 rfl) (by decide) (OwM.back (W := 2) (rmSy l Z a0 hw v (6 : Int32) (8 : Int32) h76 n0 Z0) hZ (own_w hw 113 rfl) (own_w hw 112 rfl) (own_le rfl) (own_le rfl)) (fun _ _ _ q => q.2) rfl (by rw [hml]; rfl) (argsL := [(.long v), (.int 6), (.int 8)]) (rest := [(.int 6), (.ref ca)]) (lenOf pd__JII_C rfl) rfl (own_le rfl) (dc at_413) rfl (own_le rfl) (own_le rfl) fun T own_v own_L h77 own_e P own_q => ?_
   obtain ⟨⟨rfl, own_hh⟩, -⟩ := own_q
   rw [own_hh] at P
   clear own_e own_hh
   show OwG p e below s _ _ _ _ T (mkF m 416 #[.val (.long q), .second, .val (.int p2), .val (.int p3), .val (.int 6), .val (.int b0), .val (.int b1), .val (.int b2), .val (.int b3), .val (.int b4), .val (.int b5), .val (.ref a), .val (.int 5), .val (.long v), .second, .val (.int 8), .val (.ref x), .val (.ref ca)] [(.int (own_sy v (6 : Int32) (8 : Int32))), (.int 6), (.ref ca)])
   obtain ⟨c6, e_c6, h_c6⟩ : ∃ z : Int32, (own_sy v (6 : Int32) (8 : Int32)) = z ∧ (¬ z < 0 ∧ ¬ (255 : Int32) < z) := ⟨_, rfl, own_syb _ _ _⟩
   rw [show (own_sy v (6 : Int32) (8 : Int32)) = c6 from e_c6]
   show OwG p e below s _ _ _ _ T (mkF m 416 #[.val (.long q), .second, .val (.int p2), .val (.int p3), .val (.int 6), .val (.int b0), .val (.int b1), .val (.int b2), .val (.int b3), .val (.int b4), .val (.int b5), .val (.ref a), .val (.int 5), .val (.long v), .second, .val (.int 8), .val (.ref x), .val (.ref ca)] [(.int c6), (.int 6), (.ref ca)])
   refine P.stC hx hZ V_ca (j := (6 : Int32)) (by decide) (by decide) (i := 6) rfl (Nat.le_of_ble_eq_true rfl) rfl rfl (dc at_416) g_ca fun T h78 P W V' => ?_
   replace V_al := V_al.other W ne_al_ca
   replace V_a := V_a.other W ne_a_ca
   replace E_x := E_x.wr W
   replace F_value_x := F_value_x.other W (Or.inl ne_x_ca)
   replace F_coder_x := F_coder_x.other W (Or.inl ne_x_ca)
   replace V_u := V_u.other W ne_u_ca
   replace Z0 := Nat.le_trans Z0 (Keep.of_wr W).1
   replace OL := OL.wr W g_ca
   replace V_ca := V'
   clear W V'
   show OwG p e below s _ _ _ _ T (mkF m 417 #[.val (.long q), .second, .val (.int p2), .val (.int p3), .val (.int 6), .val (.int b0), .val (.int b1), .val (.int b2), .val (.int b3), .val (.int b4), .val (.int b5), .val (.ref a), .val (.int 5), .val (.long v), .second, .val (.int 8), .val (.ref x), .val (.ref ca)] [])
   rw [own_narc (own_up h_c6).1 (own_up h_c6).2] at V_ca
   replace V_ca : Arv Z h78 ca kca .char (16 : Int32) [(.int c0), (.int c1), (.int c2), (.int c3), (.int c4), (.int c5), (.int c6), (.int 0), (.int 0), (.int 0), (.int 0), (.int 0), (.int 0), (.int 0), (.int 0), (.int 0)] (.int 0) := V_ca
   refine OwG.ac (mkF m 427 #[.val (.long q), .second, .val (.int p2), .val (.int p3), .val (.int 6), .val (.int b0), .val (.int b1), .val (.int b2), .val (.int b3), .val (.int b4), .val (.int b5), .val (.ref a), .val (.int 5), .val (.long v), .second, .val (.int 8), .val (.ref x), .val (.ref ca)] [(.int 8), (.int 7), (.long v), (.int 7), (.ref ca)]) (fun tQ kQ => ?_) ?_
   · refine XS.aload P.here hx rfl (dc at_417) rfl rfl ?_
     refine XS.bipush P.here hx rfl (dc at_419) ?_
     refine XS.lload P.here hx rfl (dc at_421) rfl ?_
     refine XS.bipush P.here hx rfl (dc at_423) ?_
     exact XS.iload P.here hx rfl (dc at_425) rfl kQ
   refine P.stat hx hZ (y := (⟨"com/example/grawl/grawl/util/Base32EncodePinLaw", "sym", "(JII)C"⟩ : MethodName)) hown (own_w hw 110 rfl) (own_w hw 111 rfl) (own_w hw 112 rfl) (own_w hw 113 rfl) (by decide) (OwM.back (W := 2) (rmSy l Z a0 hw v (7 : Int32) (8 : Int32) h78 n0 Z0) hZ (own_w hw 113 rfl) (own_w hw 112 rfl) (own_le rfl) (own_le rfl)) (fun _ _ _ q => q.2) rfl (by rw [hml]; rfl) (argsL := [(.long v), (.int 7), (.int 8)]) (rest := [(.int 7), (.ref ca)]) (lenOf pd__JII_C rfl) rfl (own_le rfl) (dc at_427) rfl (own_le rfl) (own_le rfl) fun T own_v own_L h79 own_e P own_q => ?_
   obtain ⟨⟨rfl, own_hh⟩, -⟩ := own_q
   rw [own_hh] at P
   clear own_e own_hh
   show OwG p e below s _ _ _ _ T (mkF m 430 #[.val (.long q), .second, .val (.int p2), .val (.int p3), .val (.int 6), .val (.int b0), .val (.int b1), .val (.int b2), .val (.int b3), .val (.int b4), .val (.int b5), .val (.ref a), .val (.int 5), .val (.long v), .second, .val (.int 8), .val (.ref x), .val (.ref ca)] [(.int (own_sy v (7 : Int32) (8 : Int32))), (.int 7), (.ref ca)])
   obtain ⟨c7, e_c7, h_c7⟩ : ∃ z : Int32, (own_sy v (7 : Int32) (8 : Int32)) = z ∧ (¬ z < 0 ∧ ¬ (255 : Int32) < z) := ⟨_, rfl, own_syb _ _ _⟩
   rw [show (own_sy v (7 : Int32) (8 : Int32)) = c7 from e_c7]
   show OwG p e below s _ _ _ _ T (mkF m 430 #[.val (.long q), .second, .val (.int p2), .val (.int p3), .val (.int 6), .val (.int b0), .val (.int b1), .val (.int b2), .val (.int b3), .val (.int b4), .val (.int b5), .val (.ref a), .val (.int 5), .val (.long v), .second, .val (.int 8), .val (.ref x), .val (.ref ca)] [(.int c7), (.int 7), (.ref ca)])
   refine P.stC hx hZ V_ca (j := (7 : Int32)) (by decide) (by decide) (i := 7) rfl (Nat.le_of_ble_eq_true rfl) rfl rfl (dc at_430) g_ca fun T h80 P W V' => ?_
   replace V_al := V_al.other W ne_al_ca
   replace V_a := V_a.other W ne_a_ca
   replace E_x := E_x.wr W
   replace F_value_x := F_value_x.other W (Or.inl ne_x_ca)
   replace F_coder_x := F_coder_x.other W (Or.inl ne_x_ca)
   replace V_u := V_u.other W ne_u_ca
   replace Z0 := Nat.le_trans Z0 (Keep.of_wr W).1
   replace OL := OL.wr W g_ca
   replace V_ca := V'
   clear W V'
   show OwG p e below s _ _ _ _ T (mkF m 431 #[.val (.long q), .second, .val (.int p2), .val (.int p3), .val (.int 6), .val (.int b0), .val (.int b1), .val (.int b2), .val (.int b3), .val (.int b4), .val (.int b5), .val (.ref a), .val (.int 5), .val (.long v), .second, .val (.int 8), .val (.ref x), .val (.ref ca)] [])
   rw [own_narc (own_up h_c7).1 (own_up h_c7).2] at V_ca
   replace V_ca : Arv Z h80 ca kca .char (16 : Int32) [(.int c0), (.int c1), (.int c2), (.int c3), (.int c4), (.int c5), (.int c6), (.int c7), (.int 0), (.int 0), (.int 0), (.int 0), (.int 0), (.int 0), (.int 0), (.int 0)] (.int 0) := V_ca
   refine OwG.ac (mkF m 446 #[.val (.long q), .second, .val (.int p2), .val (.int p3), .val (.int 6), .val (.int b0), .val (.int b1), .val (.int b2), .val (.int b3), .val (.int b4), .val (.int b5), .val (.ref a), .val (.int 5), .val (.long v), .second, .val (.int 8), .val (.ref x), .val (.ref ca)] [(.int (b5 >>> ((3 : Int32) &&& 31))), (.int 8), (.ref ca)]) (fun tQ kQ => ?_) ?_
   · refine XS.iload P.here hx rfl (dc at_431) rfl ?_
     refine XS.bipush P.here hx rfl (dc at_433) ?_
     refine XS.icmpNo P.here hx rfl (dc at_435) rfl (teq rfl).2 ?_
     refine XS.aload P.here hx rfl (dc at_438) rfl rfl ?_
     refine XS.bipush P.here hx rfl (dc at_440) ?_
     refine XS.iload P.here hx rfl (dc at_442) rfl ?_
     refine XS.iconst P.here hx rfl (dc at_444) ?_
     exact XS.ishr P.here hx rfl (dc at_445) rfl kQ
   refine P.stat hx hZ (y := (⟨"com/example/grawl/grawl/util/Base32EncodePinLaw", "alpha", "(I)C"⟩ : MethodName)) hown (own_w hw 115 rfl) (own_w hw 116 rfl) (own_w hw 112 rfl) (own_w hw 117 rfl) (by decide) (OwM.back (W := 2) (rmAl l Z a0 hw (b5 >>> ((3 : Int32) &&& 31)) h80 n0 Z0 (own_bq8 h_b5).1 (own_bq8 h_b5).2) hZ (own_w hw 117 rfl) (own_w hw 112 rfl) (own_le rfl) (own_le rfl)) (fun _ _ _ q => q.2) rfl (by rw [hml]; rfl) (argsL := [(.int (b5 >>> ((3 : Int32) &&& 31)))]) (rest := [(.int 8), (.ref ca)]) (lenOf pd__I_C rfl) rfl (own_le rfl) (dc at_446) rfl (own_le rfl) (own_le rfl) fun T own_v own_L h81 own_e P own_q => ?_
   obtain ⟨⟨rfl, own_hh⟩, -⟩ := own_q
   rw [own_hh] at P
   clear own_e own_hh
   show OwG p e below s _ _ _ _ T (mkF m 449 #[.val (.long q), .second, .val (.int p2), .val (.int p3), .val (.int 6), .val (.int b0), .val (.int b1), .val (.int b2), .val (.int b3), .val (.int b4), .val (.int b5), .val (.ref a), .val (.int 5), .val (.long v), .second, .val (.int 8), .val (.ref x), .val (.ref ca)] [(.int (own_al (b5 >>> ((3 : Int32) &&& 31)))), (.int 8), (.ref ca)])
   obtain ⟨c8, e_c8, h_c8⟩ : ∃ z : Int32, (own_al (b5 >>> ((3 : Int32) &&& 31))) = z ∧ (¬ z < 0 ∧ ¬ (255 : Int32) < z) := ⟨_, rfl, own_al_bd (own_bq8 h_b5).1 (own_bq8 h_b5).2⟩
   rw [show (own_al (b5 >>> ((3 : Int32) &&& 31))) = c8 from e_c8]
   show OwG p e below s _ _ _ _ T (mkF m 449 #[.val (.long q), .second, .val (.int p2), .val (.int p3), .val (.int 6), .val (.int b0), .val (.int b1), .val (.int b2), .val (.int b3), .val (.int b4), .val (.int b5), .val (.ref a), .val (.int 5), .val (.long v), .second, .val (.int 8), .val (.ref x), .val (.ref ca)] [(.int c8), (.int 8), (.ref ca)])
   refine P.stC hx hZ V_ca (j := (8 : Int32)) (by decide) (by decide) (i := 8) rfl (Nat.le_of_ble_eq_true rfl) rfl rfl (dc at_449) g_ca fun T h82 P W V' => ?_
   replace V_al := V_al.other W ne_al_ca
   replace V_a := V_a.other W ne_a_ca
   replace E_x := E_x.wr W
   replace F_value_x := F_value_x.other W (Or.inl ne_x_ca)
   replace F_coder_x := F_coder_x.other W (Or.inl ne_x_ca)
   replace V_u := V_u.other W ne_u_ca
   replace Z0 := Nat.le_trans Z0 (Keep.of_wr W).1
   replace OL := OL.wr W g_ca
   replace V_ca := V'
   clear W V'
   show OwG p e below s _ _ _ _ T (mkF m 450 #[.val (.long q), .second, .val (.int p2), .val (.int p3), .val (.int 6), .val (.int b0), .val (.int b1), .val (.int b2), .val (.int b3), .val (.int b4), .val (.int b5), .val (.ref a), .val (.int 5), .val (.long v), .second, .val (.int 8), .val (.ref x), .val (.ref ca)] [])
   rw [own_narc (own_up h_c8).1 (own_up h_c8).2] at V_ca
   replace V_ca : Arv Z h82 ca kca .char (16 : Int32) [(.int c0), (.int c1), (.int c2), (.int c3), (.int c4), (.int c5), (.int c6), (.int c7), (.int c8), (.int 0), (.int 0), (.int 0), (.int 0), (.int 0), (.int 0), (.int 0)] (.int 0) := V_ca
   refine OwG.ac (mkF m 461 #[.val (.long q), .second, .val (.int p2), .val (.int p3), .val (.int 6), .val (.int b0), .val (.int b1), .val (.int b2), .val (.int b3), .val (.int b4), .val (.int b5), .val (.ref a), .val (.int 5), .val (.long v), .second, .val (.int 8), .val (.ref x), .val (.ref ca)] [(.int ((b5 &&& (7 : Int32)) <<< ((2 : Int32) &&& 31))), (.int 9), (.ref ca)]) (fun tQ kQ => ?_) ?_
   · refine XS.aload P.here hx rfl (dc at_450) rfl rfl ?_
     refine XS.bipush P.here hx rfl (dc at_452) ?_
     refine XS.iload P.here hx rfl (dc at_454) rfl ?_
     refine XS.bipush P.here hx rfl (dc at_456) ?_
     refine XS.iand P.here hx rfl (dc at_458) rfl ?_
     refine XS.iconst P.here hx rfl (dc at_459) ?_
     exact XS.ishl P.here hx rfl (dc at_460) rfl kQ
   refine P.stat hx hZ (y := (⟨"com/example/grawl/grawl/util/Base32EncodePinLaw", "alpha", "(I)C"⟩ : MethodName)) hown (own_w hw 115 rfl) (own_w hw 116 rfl) (own_w hw 112 rfl) (own_w hw 117 rfl) (by decide) (OwM.back (W := 2) (rmAl l Z a0 hw ((b5 &&& (7 : Int32)) <<< ((2 : Int32) &&& 31)) h82 n0 Z0 (own_bq9 h_b5).1 (own_bq9 h_b5).2) hZ (own_w hw 117 rfl) (own_w hw 112 rfl) (own_le rfl) (own_le rfl)) (fun _ _ _ q => q.2) rfl (by rw [hml]; rfl) (argsL := [(.int ((b5 &&& (7 : Int32)) <<< ((2 : Int32) &&& 31)))]) (rest := [(.int 9), (.ref ca)]) (lenOf pd__I_C rfl) rfl (own_le rfl) (dc at_461) rfl (own_le rfl) (own_le rfl) fun T own_v own_L h83 own_e P own_q => ?_
   obtain ⟨⟨rfl, own_hh⟩, -⟩ := own_q
   rw [own_hh] at P
   clear own_e own_hh
   show OwG p e below s _ _ _ _ T (mkF m 464 #[.val (.long q), .second, .val (.int p2), .val (.int p3), .val (.int 6), .val (.int b0), .val (.int b1), .val (.int b2), .val (.int b3), .val (.int b4), .val (.int b5), .val (.ref a), .val (.int 5), .val (.long v), .second, .val (.int 8), .val (.ref x), .val (.ref ca)] [(.int (own_al ((b5 &&& (7 : Int32)) <<< ((2 : Int32) &&& 31)))), (.int 9), (.ref ca)])
   obtain ⟨c9, e_c9, h_c9⟩ : ∃ z : Int32, (own_al ((b5 &&& (7 : Int32)) <<< ((2 : Int32) &&& 31))) = z ∧ (¬ z < 0 ∧ ¬ (255 : Int32) < z) := ⟨_, rfl, own_al_bd (own_bq9 h_b5).1 (own_bq9 h_b5).2⟩
   rw [show (own_al ((b5 &&& (7 : Int32)) <<< ((2 : Int32) &&& 31))) = c9 from e_c9]
   show OwG p e below s _ _ _ _ T (mkF m 464 #[.val (.long q), .second, .val (.int p2), .val (.int p3), .val (.int 6), .val (.int b0), .val (.int b1), .val (.int b2), .val (.int b3), .val (.int b4), .val (.int b5), .val (.ref a), .val (.int 5), .val (.long v), .second, .val (.int 8), .val (.ref x), .val (.ref ca)] [(.int c9), (.int 9), (.ref ca)])
   refine P.stC hx hZ V_ca (j := (9 : Int32)) (by decide) (by decide) (i := 9) rfl (Nat.le_of_ble_eq_true rfl) rfl rfl (dc at_464) g_ca fun T h84 P W V' => ?_
   replace V_al := V_al.other W ne_al_ca
   replace V_a := V_a.other W ne_a_ca
   replace E_x := E_x.wr W
   replace F_value_x := F_value_x.other W (Or.inl ne_x_ca)
   replace F_coder_x := F_coder_x.other W (Or.inl ne_x_ca)
   replace V_u := V_u.other W ne_u_ca
   replace Z0 := Nat.le_trans Z0 (Keep.of_wr W).1
   replace OL := OL.wr W g_ca
   replace V_ca := V'
   clear W V'
   show OwG p e below s _ _ _ _ T (mkF m 465 #[.val (.long q), .second, .val (.int p2), .val (.int p3), .val (.int 6), .val (.int b0), .val (.int b1), .val (.int b2), .val (.int b3), .val (.int b4), .val (.int b5), .val (.ref a), .val (.int 5), .val (.long v), .second, .val (.int 8), .val (.ref x), .val (.ref ca)] [])
   rw [own_narc (own_up h_c9).1 (own_up h_c9).2] at V_ca
   replace V_ca : Arv Z h84 ca kca .char (16 : Int32) [(.int c0), (.int c1), (.int c2), (.int c3), (.int c4), (.int c5), (.int c6), (.int c7), (.int c8), (.int c9), (.int 0), (.int 0), (.int 0), (.int 0), (.int 0), (.int 0)] (.int 0) := V_ca
   refine OwG.ac (mkF m 471 #[.val (.long q), .second, .val (.int p2), .val (.int p3), .val (.int 6), .val (.int b0), .val (.int b1), .val (.int b2), .val (.int b3), .val (.int b4), .val (.int b5), .val (.ref a), .val (.int 5), .val (.long v), .second, .val (.int 8), .val (.ref x), .val (.ref ca)] [(.int 61), (.int 10), (.ref ca)]) (fun tQ kQ => ?_) ?_
   · refine XS.aload P.here hx rfl (dc at_465) rfl rfl ?_
     refine XS.bipush P.here hx rfl (dc at_467) ?_
     exact XS.bipush P.here hx rfl (dc at_469) kQ
   refine P.stC hx hZ V_ca (j := (10 : Int32)) (by decide) (by decide) (i := 10) rfl (Nat.le_of_ble_eq_true rfl) rfl rfl (dc at_471) g_ca fun T h85 P W V' => ?_
   replace V_al := V_al.other W ne_al_ca
   replace V_a := V_a.other W ne_a_ca
   replace E_x := E_x.wr W
   replace F_value_x := F_value_x.other W (Or.inl ne_x_ca)
   replace F_coder_x := F_coder_x.other W (Or.inl ne_x_ca)
   replace V_u := V_u.other W ne_u_ca
   replace Z0 := Nat.le_trans Z0 (Keep.of_wr W).1
   replace OL := OL.wr W g_ca
   replace V_ca := V'
   clear W V'
   show OwG p e below s _ _ _ _ T (mkF m 472 #[.val (.long q), .second, .val (.int p2), .val (.int p3), .val (.int 6), .val (.int b0), .val (.int b1), .val (.int b2), .val (.int b3), .val (.int b4), .val (.int b5), .val (.ref a), .val (.int 5), .val (.long v), .second, .val (.int 8), .val (.ref x), .val (.ref ca)] [])
   replace V_ca : Arv Z h85 ca kca .char (16 : Int32) [(.int c0), (.int c1), (.int c2), (.int c3), (.int c4), (.int c5), (.int c6), (.int c7), (.int c8), (.int c9), (.int 61), (.int 0), (.int 0), (.int 0), (.int 0), (.int 0)] (.int 0) := V_ca
   refine OwG.ac (mkF m 478 #[.val (.long q), .second, .val (.int p2), .val (.int p3), .val (.int 6), .val (.int b0), .val (.int b1), .val (.int b2), .val (.int b3), .val (.int b4), .val (.int b5), .val (.ref a), .val (.int 5), .val (.long v), .second, .val (.int 8), .val (.ref x), .val (.ref ca)] [(.int 61), (.int 11), (.ref ca)]) (fun tQ kQ => ?_) ?_
   · refine XS.aload P.here hx rfl (dc at_472) rfl rfl ?_
     refine XS.bipush P.here hx rfl (dc at_474) ?_
     exact XS.bipush P.here hx rfl (dc at_476) kQ
   refine P.stC hx hZ V_ca (j := (11 : Int32)) (by decide) (by decide) (i := 11) rfl (Nat.le_of_ble_eq_true rfl) rfl rfl (dc at_478) g_ca fun T h86 P W V' => ?_
   replace V_al := V_al.other W ne_al_ca
   replace V_a := V_a.other W ne_a_ca
   replace E_x := E_x.wr W
   replace F_value_x := F_value_x.other W (Or.inl ne_x_ca)
   replace F_coder_x := F_coder_x.other W (Or.inl ne_x_ca)
   replace V_u := V_u.other W ne_u_ca
   replace Z0 := Nat.le_trans Z0 (Keep.of_wr W).1
   replace OL := OL.wr W g_ca
   replace V_ca := V'
   clear W V'
   show OwG p e below s _ _ _ _ T (mkF m 479 #[.val (.long q), .second, .val (.int p2), .val (.int p3), .val (.int 6), .val (.int b0), .val (.int b1), .val (.int b2), .val (.int b3), .val (.int b4), .val (.int b5), .val (.ref a), .val (.int 5), .val (.long v), .second, .val (.int 8), .val (.ref x), .val (.ref ca)] [])
   replace V_ca : Arv Z h86 ca kca .char (16 : Int32) [(.int c0), (.int c1), (.int c2), (.int c3), (.int c4), (.int c5), (.int c6), (.int c7), (.int c8), (.int c9), (.int 61), (.int 61), (.int 0), (.int 0), (.int 0), (.int 0)] (.int 0) := V_ca
   refine OwG.ac (mkF m 485 #[.val (.long q), .second, .val (.int p2), .val (.int p3), .val (.int 6), .val (.int b0), .val (.int b1), .val (.int b2), .val (.int b3), .val (.int b4), .val (.int b5), .val (.ref a), .val (.int 5), .val (.long v), .second, .val (.int 8), .val (.ref x), .val (.ref ca)] [(.int 61), (.int 12), (.ref ca)]) (fun tQ kQ => ?_) ?_
   · refine XS.aload P.here hx rfl (dc at_479) rfl rfl ?_
     refine XS.bipush P.here hx rfl (dc at_481) ?_
     exact XS.bipush P.here hx rfl (dc at_483) kQ
   refine P.stC hx hZ V_ca (j := (12 : Int32)) (by decide) (by decide) (i := 12) rfl (Nat.le_of_ble_eq_true rfl) rfl rfl (dc at_485) g_ca fun T h87 P W V' => ?_
   replace V_al := V_al.other W ne_al_ca
   replace V_a := V_a.other W ne_a_ca
   replace E_x := E_x.wr W
   replace F_value_x := F_value_x.other W (Or.inl ne_x_ca)
   replace F_coder_x := F_coder_x.other W (Or.inl ne_x_ca)
   replace V_u := V_u.other W ne_u_ca
   replace Z0 := Nat.le_trans Z0 (Keep.of_wr W).1
   replace OL := OL.wr W g_ca
   replace V_ca := V'
   clear W V'
   show OwG p e below s _ _ _ _ T (mkF m 486 #[.val (.long q), .second, .val (.int p2), .val (.int p3), .val (.int 6), .val (.int b0), .val (.int b1), .val (.int b2), .val (.int b3), .val (.int b4), .val (.int b5), .val (.ref a), .val (.int 5), .val (.long v), .second, .val (.int 8), .val (.ref x), .val (.ref ca)] [])
   replace V_ca : Arv Z h87 ca kca .char (16 : Int32) [(.int c0), (.int c1), (.int c2), (.int c3), (.int c4), (.int c5), (.int c6), (.int c7), (.int c8), (.int c9), (.int 61), (.int 61), (.int 61), (.int 0), (.int 0), (.int 0)] (.int 0) := V_ca
   refine OwG.ac (mkF m 492 #[.val (.long q), .second, .val (.int p2), .val (.int p3), .val (.int 6), .val (.int b0), .val (.int b1), .val (.int b2), .val (.int b3), .val (.int b4), .val (.int b5), .val (.ref a), .val (.int 5), .val (.long v), .second, .val (.int 8), .val (.ref x), .val (.ref ca)] [(.int 61), (.int 13), (.ref ca)]) (fun tQ kQ => ?_) ?_
   · refine XS.aload P.here hx rfl (dc at_486) rfl rfl ?_
     refine XS.bipush P.here hx rfl (dc at_488) ?_
     exact XS.bipush P.here hx rfl (dc at_490) kQ
   refine P.stC hx hZ V_ca (j := (13 : Int32)) (by decide) (by decide) (i := 13) rfl (Nat.le_of_ble_eq_true rfl) rfl rfl (dc at_492) g_ca fun T h88 P W V' => ?_
   replace V_al := V_al.other W ne_al_ca
   replace V_a := V_a.other W ne_a_ca
   replace E_x := E_x.wr W
   replace F_value_x := F_value_x.other W (Or.inl ne_x_ca)
   replace F_coder_x := F_coder_x.other W (Or.inl ne_x_ca)
   replace V_u := V_u.other W ne_u_ca
   replace Z0 := Nat.le_trans Z0 (Keep.of_wr W).1
   replace OL := OL.wr W g_ca
   replace V_ca := V'
   clear W V'
   show OwG p e below s _ _ _ _ T (mkF m 493 #[.val (.long q), .second, .val (.int p2), .val (.int p3), .val (.int 6), .val (.int b0), .val (.int b1), .val (.int b2), .val (.int b3), .val (.int b4), .val (.int b5), .val (.ref a), .val (.int 5), .val (.long v), .second, .val (.int 8), .val (.ref x), .val (.ref ca)] [])
   replace V_ca : Arv Z h88 ca kca .char (16 : Int32) [(.int c0), (.int c1), (.int c2), (.int c3), (.int c4), (.int c5), (.int c6), (.int c7), (.int c8), (.int c9), (.int 61), (.int 61), (.int 61), (.int 61), (.int 0), (.int 0)] (.int 0) := V_ca
   refine OwG.ac (mkF m 499 #[.val (.long q), .second, .val (.int p2), .val (.int p3), .val (.int 6), .val (.int b0), .val (.int b1), .val (.int b2), .val (.int b3), .val (.int b4), .val (.int b5), .val (.ref a), .val (.int 5), .val (.long v), .second, .val (.int 8), .val (.ref x), .val (.ref ca)] [(.int 61), (.int 14), (.ref ca)]) (fun tQ kQ => ?_) ?_
   · refine XS.aload P.here hx rfl (dc at_493) rfl rfl ?_
     refine XS.bipush P.here hx rfl (dc at_495) ?_
     exact XS.bipush P.here hx rfl (dc at_497) kQ
   refine P.stC hx hZ V_ca (j := (14 : Int32)) (by decide) (by decide) (i := 14) rfl (Nat.le_of_ble_eq_true rfl) rfl rfl (dc at_499) g_ca fun T h89 P W V' => ?_
   replace V_al := V_al.other W ne_al_ca
   replace V_a := V_a.other W ne_a_ca
   replace E_x := E_x.wr W
   replace F_value_x := F_value_x.other W (Or.inl ne_x_ca)
   replace F_coder_x := F_coder_x.other W (Or.inl ne_x_ca)
   replace V_u := V_u.other W ne_u_ca
   replace Z0 := Nat.le_trans Z0 (Keep.of_wr W).1
   replace OL := OL.wr W g_ca
   replace V_ca := V'
   clear W V'
   show OwG p e below s _ _ _ _ T (mkF m 500 #[.val (.long q), .second, .val (.int p2), .val (.int p3), .val (.int 6), .val (.int b0), .val (.int b1), .val (.int b2), .val (.int b3), .val (.int b4), .val (.int b5), .val (.ref a), .val (.int 5), .val (.long v), .second, .val (.int 8), .val (.ref x), .val (.ref ca)] [])
   replace V_ca : Arv Z h89 ca kca .char (16 : Int32) [(.int c0), (.int c1), (.int c2), (.int c3), (.int c4), (.int c5), (.int c6), (.int c7), (.int c8), (.int c9), (.int 61), (.int 61), (.int 61), (.int 61), (.int 61), (.int 0)] (.int 0) := V_ca
   refine OwG.ac (mkF m 506 #[.val (.long q), .second, .val (.int p2), .val (.int p3), .val (.int 6), .val (.int b0), .val (.int b1), .val (.int b2), .val (.int b3), .val (.int b4), .val (.int b5), .val (.ref a), .val (.int 5), .val (.long v), .second, .val (.int 8), .val (.ref x), .val (.ref ca)] [(.int 61), (.int 15), (.ref ca)]) (fun tQ kQ => ?_) ?_
   · refine XS.aload P.here hx rfl (dc at_500) rfl rfl ?_
     refine XS.bipush P.here hx rfl (dc at_502) ?_
     exact XS.bipush P.here hx rfl (dc at_504) kQ
   refine P.stC hx hZ V_ca (j := (15 : Int32)) (by decide) (by decide) (i := 15) rfl (Nat.le_of_ble_eq_true rfl) rfl rfl (dc at_506) g_ca fun T h90 P W V' => ?_
   replace V_al := V_al.other W ne_al_ca
   replace V_a := V_a.other W ne_a_ca
   replace E_x := E_x.wr W
   replace F_value_x := F_value_x.other W (Or.inl ne_x_ca)
   replace F_coder_x := F_coder_x.other W (Or.inl ne_x_ca)
   replace V_u := V_u.other W ne_u_ca
   replace Z0 := Nat.le_trans Z0 (Keep.of_wr W).1
   replace OL := OL.wr W g_ca
   replace V_ca := V'
   clear W V'
   show OwG p e below s _ _ _ _ T (mkF m 507 #[.val (.long q), .second, .val (.int p2), .val (.int p3), .val (.int 6), .val (.int b0), .val (.int b1), .val (.int b2), .val (.int b3), .val (.int b4), .val (.int b5), .val (.ref a), .val (.int 5), .val (.long v), .second, .val (.int 8), .val (.ref x), .val (.ref ca)] [])
   replace V_ca : Arv Z h90 ca kca .char (16 : Int32) [(.int c0), (.int c1), (.int c2), (.int c3), (.int c4), (.int c5), (.int c6), (.int c7), (.int c8), (.int c9), (.int 61), (.int 61), (.int 61), (.int 61), (.int 61), (.int 61)] (.int 0) := V_ca
   refine OwG.ac (mkF m 509 #[.val (.long q), .second, .val (.int p2), .val (.int p3), .val (.int 6), .val (.int b0), .val (.int b1), .val (.int b2), .val (.int b3), .val (.int b4), .val (.int b5), .val (.ref a), .val (.int 5), .val (.long v), .second, .val (.int 8), .val (.ref x), .val (.ref ca)] [(.ref x)]) (fun tQ kQ => ?_) ?_
   · exact XS.aload P.here hx rfl (dc at_507) rfl rfl kQ
   refine P.newO hx hZ hown (own_w hw 118 rfl) (own_w hw 75 rfl) (own_w hw 27 rfl) rfl (dc at_509) (own_le rfl) (own_le rfl) fun T h91 y gy P E A D => ?_
   have ne_al_y : al ≠ y := Nat.ne_of_lt (Nat.lt_of_lt_of_le V_al.lt (Nat.le_of_eq gy.symm))
   have ne_y_al := Ne.symm ne_al_y
   have ne_a_y : a ≠ y := Nat.ne_of_lt (Nat.lt_of_lt_of_le V_a.lt (Nat.le_of_eq gy.symm))
   have ne_y_a := Ne.symm ne_a_y
   have ne_x_y : x ≠ y := Nat.ne_of_lt (Nat.lt_of_lt_of_le E_x.lt (Nat.le_of_eq gy.symm))
   have ne_y_x := Ne.symm ne_x_y
   have ne_u_y : u ≠ y := Nat.ne_of_lt (Nat.lt_of_lt_of_le V_u.lt (Nat.le_of_eq gy.symm))
   have ne_y_u := Ne.symm ne_u_y
   have ne_ca_y : ca ≠ y := Nat.ne_of_lt (Nat.lt_of_lt_of_le V_ca.lt (Nat.le_of_eq gy.symm))
   have ne_y_ca := Ne.symm ne_ca_y
   have g_y : n0 ≤ y := Nat.le_trans Z0 (Nat.le_of_eq gy.symm)
   replace V_al := V_al.ext E
   replace V_a := V_a.ext E
   replace E_x := E_x.ext E
   replace F_value_x := F_value_x.ext E
   replace F_coder_x := F_coder_x.ext E
   replace V_u := V_u.ext E
   replace V_ca := V_ca.ext E
   replace Z0 := Nat.le_trans Z0 E.1
   replace OL := OL.ext E
   have E_y := A
   have F_coder_y : Fld Z h91 y "java/lang/String" "coder" "B" (.int 0) := D (Or.inr (own_w hw 93 rfl)) (ty := .byte) (by decide)
   have F_value_y : Fld Z h91 y "java/lang/String" "value" "[B" .null := D (Or.inr (own_w hw 108 rfl)) (ty := (.array .byte)) (by decide)
   clear A D E
   show OwG p e below s _ _ _ _ T (mkF m 512 #[.val (.long q), .second, .val (.int p2), .val (.int p3), .val (.int 6), .val (.int b0), .val (.int b1), .val (.int b2), .val (.int b3), .val (.int b4), .val (.int b5), .val (.ref a), .val (.int 5), .val (.long v), .second, .val (.int 8), .val (.ref x), .val (.ref ca)] [(.ref y), (.ref x)])
   refine OwG.ac (mkF m 515 #[.val (.long q), .second, .val (.int p2), .val (.int p3), .val (.int 6), .val (.int b0), .val (.int b1), .val (.int b2), .val (.int b3), .val (.int b4), .val (.int b5), .val (.ref a), .val (.int 5), .val (.long v), .second, .val (.int 8), .val (.ref x), .val (.ref ca)] [(.ref ca), (.ref y), (.ref y), (.ref x)]) (fun tQ kQ => ?_) ?_
   · refine XS.dup P.here hx rfl (dc at_512) rfl rfl ?_
     exact XS.aload P.here hx rfl (dc at_513) rfl rfl kQ
   have hws : ∀ d ∈ StrChars.Road.words, d.before a0 Z = true := fun d hd => hw d (own_words d hd)
   have hp : ∀ c ∈ ([c0, c1, c2, c3, c4, c5, c6, c7, c8, c9, (61 : Int32), (61 : Int32), (61 : Int32), (61 : Int32), (61 : Int32), (61 : Int32)] : List Int32), ¬ c < 0 ∧ ¬ (255 : Int32) < c := (own_aS h_c0 (own_aS h_c1 (own_aS h_c2 (own_aS h_c3 (own_aS h_c4 (own_aS h_c5 (own_aS h_c6 (own_aS h_c7 (own_aS h_c8 (own_aS h_c9 (own_aS own_61 (own_aS own_61 (own_aS own_61 (own_aS own_61 (own_aS own_61 (own_aS own_61 own_a0))))))))))))))))
   refine P.special hx hZ (y := (⟨"java/lang/String", "<init>", "([C)V"⟩ : MethodName)) rfl hown (own_w hw 119 rfl) (own_w hw 120 rfl) (own_w hw 121 rfl) (by decide) (StrChars.Road.backV (W := 2) hZ hws (kI := 4) (own_w hw 75 rfl) (cs := ([c0, c1, c2, c3, c4, c5, c6, c7, c8, c9, (61 : Int32), (61 : Int32), (61 : Int32), (61 : Int32), (61 : Int32), (61 : Int32)] : List Int32)) (bs := ([c0, c1, c2, c3, c4, c5, c6, c7, c8, c9, (61 : Int32), (61 : Int32), (61 : Int32), (61 : Int32), (61 : Int32), (61 : Int32)] : List Int32).map (fun c => c.toInt8.toInt32)) (n := 16) g_y Z0 E_y F_value_y F_coder_y V_ca (S2.ext OL.2) hzC rfl rfl (by decide) (by decide) hp rfl (by decide) (by decide)) (fun _ _ _ q => q.2.1) rfl (by rw [hml]; rfl) (a := y) (argsL := [(.ref ca)]) (rest := [(.ref y), (.ref x)]) (lenOf pd___C_V rfl) rfl (own_le rfl) (dc at_515) rfl (own_le rfl) (own_le rfl) fun T own_v own_L h92 own_e P own_q => ?_
   obtain ⟨rfl, -, K, -, F_coder_y', t', kt', -, -, -, F_value_y', V_t'⟩ := own_q
   clear own_e
   replace V_al := V_al.keep K (ninS ne_al_y nin0)
   replace V_a := V_a.keep K (ninS ne_a_y nin0)
   replace E_x := E_x.keep K
   replace F_value_x := F_value_x.keep K (ninS ne_x_y nin0)
   replace F_coder_x := F_coder_x.keep K (ninS ne_x_y nin0)
   replace V_u := V_u.keep K (ninS ne_u_y nin0)
   replace V_ca := V_ca.keep K (ninS ne_ca_y nin0)
   replace E_y := E_y.keep K
   replace Z0 := Nat.le_trans Z0 K.1
   replace OL := OL.keep K (allS g_y all0)
   show OwG p e below s _ _ _ _ T (mkF m 518 #[.val (.long q), .second, .val (.int p2), .val (.int p3), .val (.int 6), .val (.int b0), .val (.int b1), .val (.int b2), .val (.int b3), .val (.int b4), .val (.int b5), .val (.ref a), .val (.int 5), .val (.long v), .second, .val (.int 8), .val (.ref x), .val (.ref ca)] [(.ref y), (.ref x)])
   rw [e_c0, e_c1, e_c2, e_c3, e_c4, e_c5, e_c6, e_c7, e_c8, e_c9] at own_q
   have own_pe : ∀ c ∈ ([(own_dg (own_bt (0 : Int32) (StrChars.lo8 b0)) (3 : Int32)), (own_dg (own_bt (own_bt (0 : Int32) (StrChars.lo8 b0)) (StrChars.lo8 b1)) (6 : Int32)), (own_dg (own_bt (own_bt (0 : Int32) (StrChars.lo8 b0)) (StrChars.lo8 b1)) (1 : Int32)), (own_dg (own_bt (own_bt (own_bt (0 : Int32) (StrChars.lo8 b0)) (StrChars.lo8 b1)) (StrChars.lo8 b2)) (4 : Int32)), (own_dg (own_bt (own_bt (own_bt (own_bt (0 : Int32) (StrChars.lo8 b0)) (StrChars.lo8 b1)) (StrChars.lo8 b2)) (StrChars.lo8 b3)) (7 : Int32)), (own_dg (own_bt (own_bt (own_bt (own_bt (0 : Int32) (StrChars.lo8 b0)) (StrChars.lo8 b1)) (StrChars.lo8 b2)) (StrChars.lo8 b3)) (2 : Int32)), (own_dg (own_bt (own_bt (own_bt (own_bt (own_bt (0 : Int32) (StrChars.lo8 b0)) (StrChars.lo8 b1)) (StrChars.lo8 b2)) (StrChars.lo8 b3)) (StrChars.lo8 b4)) (5 : Int32)), (own_dg (own_bt (own_bt (own_bt (own_bt (own_bt (0 : Int32) (StrChars.lo8 b0)) (StrChars.lo8 b1)) (StrChars.lo8 b2)) (StrChars.lo8 b3)) (StrChars.lo8 b4)) (0 : Int32)), (own_dg (own_bt (own_bt (own_bt (own_bt (own_bt (own_bt (0 : Int32) (StrChars.lo8 b0)) (StrChars.lo8 b1)) (StrChars.lo8 b2)) (StrChars.lo8 b3)) (StrChars.lo8 b4)) (StrChars.lo8 b5)) (3 : Int32)), (own_dl (own_bt (own_bt (own_bt (own_bt (own_bt (own_bt (0 : Int32) (StrChars.lo8 b0)) (StrChars.lo8 b1)) (StrChars.lo8 b2)) (StrChars.lo8 b3)) (StrChars.lo8 b4)) (StrChars.lo8 b5)) (3 : Int32)), (61 : Int32), (61 : Int32), (61 : Int32), (61 : Int32), (61 : Int32), (61 : Int32)] : List Int32), ¬ c < 0 ∧ ¬ (255 : Int32) < c := by rw [own_q]; exact hp
   refine P.virtual hx hZ (y := (⟨"java/lang/String", "equals", "(Ljava/lang/Object;)Z"⟩ : MethodName)) hown (own_w hw 136 rfl) (own_w hw 137 rfl) (own_w hw 139 rfl) (own_w hw 138 rfl) (by decide) (own_eqB (W := 0) (n0 := n0) hZ hw (cs := ([(own_dg (own_bt (0 : Int32) (StrChars.lo8 b0)) (3 : Int32)), (own_dg (own_bt (own_bt (0 : Int32) (StrChars.lo8 b0)) (StrChars.lo8 b1)) (6 : Int32)), (own_dg (own_bt (own_bt (0 : Int32) (StrChars.lo8 b0)) (StrChars.lo8 b1)) (1 : Int32)), (own_dg (own_bt (own_bt (own_bt (0 : Int32) (StrChars.lo8 b0)) (StrChars.lo8 b1)) (StrChars.lo8 b2)) (4 : Int32)), (own_dg (own_bt (own_bt (own_bt (own_bt (0 : Int32) (StrChars.lo8 b0)) (StrChars.lo8 b1)) (StrChars.lo8 b2)) (StrChars.lo8 b3)) (7 : Int32)), (own_dg (own_bt (own_bt (own_bt (own_bt (0 : Int32) (StrChars.lo8 b0)) (StrChars.lo8 b1)) (StrChars.lo8 b2)) (StrChars.lo8 b3)) (2 : Int32)), (own_dg (own_bt (own_bt (own_bt (own_bt (own_bt (0 : Int32) (StrChars.lo8 b0)) (StrChars.lo8 b1)) (StrChars.lo8 b2)) (StrChars.lo8 b3)) (StrChars.lo8 b4)) (5 : Int32)), (own_dg (own_bt (own_bt (own_bt (own_bt (own_bt (0 : Int32) (StrChars.lo8 b0)) (StrChars.lo8 b1)) (StrChars.lo8 b2)) (StrChars.lo8 b3)) (StrChars.lo8 b4)) (0 : Int32)), (own_dg (own_bt (own_bt (own_bt (own_bt (own_bt (own_bt (0 : Int32) (StrChars.lo8 b0)) (StrChars.lo8 b1)) (StrChars.lo8 b2)) (StrChars.lo8 b3)) (StrChars.lo8 b4)) (StrChars.lo8 b5)) (3 : Int32)), (own_dl (own_bt (own_bt (own_bt (own_bt (own_bt (own_bt (0 : Int32) (StrChars.lo8 b0)) (StrChars.lo8 b1)) (StrChars.lo8 b2)) (StrChars.lo8 b3)) (StrChars.lo8 b4)) (StrChars.lo8 b5)) (3 : Int32)), (61 : Int32), (61 : Int32), (61 : Int32), (61 : Int32), (61 : Int32), (61 : Int32)] : List Int32)) E_x F_value_x F_coder_x V_u (Or.inl ⟨rfl, rfl, rfl, fun c hc => (own_pe c hc).2⟩) (fun c hc => own_up (own_pe c hc)) (Nat.le_of_ble_eq_true rfl) E_y F_value_y' F_coder_y' V_t' (StrChars.Road.codOf rfl (fun c hc => (hp c hc).2)) (fun c hc => own_up (hp c hc)) (Nat.le_of_ble_eq_true rfl) (S2.ext OL.2) hzC (by decide) (by decide)) (fun _ _ _ q => q.2.2) E_x rfl (by rw [hml]; rfl) (argsL := [(.ref y)]) (rest := []) (lenOf pd__Ljava_lang_Object__Z rfl) rfl (own_le rfl) (dc at_518) rfl (own_le rfl) (own_le rfl) fun T own_v own_L h93 own_e P own_q => ?_
   obtain ⟨⟨i, rfl, own_i⟩, own_hh, -⟩ := own_q
   rw [own_hh] at P
   clear own_e own_hh
   show OwG p e below s _ _ _ _ T (mkF m 521 #[.val (.long q), .second, .val (.int p2), .val (.int p3), .val (.int 6), .val (.int b0), .val (.int b1), .val (.int b2), .val (.int b3), .val (.int b4), .val (.int b5), .val (.ref a), .val (.int 5), .val (.long v), .second, .val (.int 8), .val (.ref x), .val (.ref ca)] [(.int i)])
   obtain rfl : i = 1 := own_i.elim (fun q => q.1) (fun q => absurd own_q q.2)
   exact P.retN hx hlk (t := .boolean) hret (by simp) (dc at_521) (own_le rfl) (own_le rfl) rfl
set_option maxRecDepth 65536 in
set_option maxHeartbeats 40000000 in
theorem comes_1 {Post : Tables → Env → Array Value → State → Outcome → State → Prop} (hpost : ∀ tb e args s v u, (limb_1_1.after args s (.returned v) u = true ∧ limb_1_2.after args s (.returned v) u = true ∧ True) → FrameEnd s (.returned v) u (Jvm.fieldLocs frame_1_writes args s ++ Jvm.arrayLocs frame_1_arrays args s ++ Jvm.staticLocs frame_1_statics s) 24 256 → Post tb e args s (.returned v) u) :
    ArmFor flags0 classFile x code maxLocals ret World_1 tables_1 room_1 Calls_1 rest_1 Pre_1 Post := by
  intro l hfl _ _ p e ha hc hk s m args below hf hA hF happ hP
  obtain ⟨hcalls, hrest, hpre⟩ := hP
  obtain ⟨-, -, -, hnamed, -, -, -, hat⟩ := (Spec.applies_iff hf).mp happ
  obtain ⟨hg, hn⟩ := and_e (Cond.before_iff.mp (show (Jvm.Cond.and given_1 narrow_1).before args s = true from hpre))
  obtain ⟨g1, g2⟩ := and_e hg
  obtain ⟨g3, g4⟩ := and_e g2
  obtain ⟨g5, g6⟩ := and_e g4
  obtain ⟨w0, w1, w2, rfl⟩ : ∃ w0 w1 w2 : Value, args = #[w0, w1, w2] := by
    have hs : args.size = 3 := by simpa [Cond.value, given_1] using g1
    obtain ⟨L⟩ := args
    match L, hs with
    | [w0, w1, w2], _ => exact ⟨w0, w1, w2, rfl⟩
  have hw := fun d (hd : d ∈ tables_1) => atoms_spec (ws := Jvm.Cond.code x code maxLocals ret :: tables_1) hat d (List.mem_cons_of_mem _ hd)
  have hfit : Fit s := fun {y c} hc i hi => by
    obtain ⟨ha, rfl⟩ := Array.getElem?_eq_some_iff.mp hc
    have q := List.all_eq_true.mp ((Array.all_eq_true_iff_forall_mem.mp hF) _ (Array.getElem_mem ha)) i (List.mem_range.mpr hi)
    simpa [Array.getElem?_eq_getElem hi] using q
  obtain ⟨hsets, hown0⟩ := atoms_of _ (rest_1_c_eq ▸ (show rest_1_c.before _ s = true from hrest))
  have hr0 := Cond.before_iff.mp hown0
  obtain ⟨i0, ei0⟩ := isL_v g3
  obtain rfl : w0 = (.long i0) := Option.some.inj ei0
  obtain ⟨i1, ei1⟩ := is_v g5
  obtain rfl : w1 = (.int i1) := Option.some.inj ei1
  obtain ⟨i2, ei2⟩ := is_v g6
  obtain rfl : w2 = (.int i2) := Option.some.inj ei2
  have n5 := not_v (Cond.before_iff.mp (hsets _ (List.mem_of_getElem? (i := 2) rfl)))
  obtain ⟨zC, ezC⟩ := is_v (Cond.before_iff.mp (hsets _ (List.mem_of_getElem? (i := 1) rfl)))
  have S2 : Sta s s.heap "java/lang/String" "COMPACT_STRINGS" "Z" (.int zC) := Sta.start ezC (Or.inl (hsets _ (List.mem_of_getElem? (i := 0) rfl)))
  have hzC : ¬ (zC = (0 : Int32)) := gotF (Cond.eq_ints ezC (Term.int_eval (0))) n5
  obtain ⟨al, kal, eal, V_al⟩ := own_alph hn
  have SAl : Sta s s.heap "com/example/grawl/grawl/util/Base32" "ALPHABET" "[C" (.ref al) := Sta.start eal (Or.inr ⟨(own_w hw 9 rfl), (own_w hw 33 rfl)⟩)
  obtain ⟨n, o, h1, h2, h3, _, L, rfl, ⟨rfl, N⟩, hq⟩ := rm0 l s _ hw tables_1 i0 i1 i2 zC al kal (.int 0) s.heap s.heap.size (Nat.le_refl _) S2 hzC (Old.start s) SAl V_al p e ha hc hk s m _ below hf ((Spec.applies_iff_loose hf).mp happ).1 ⟨rfl, State.Warmed39.refl s, rfl⟩ trivial
  refine ⟨n, _, h1, h2, h3, hpost _ _ _ _ _ _ ⟨Cond.after_iff.mpr rfl, Cond.after_iff.mpr (eq_i res_at (Term.int_eval (1)) rfl), trivial⟩ ⟨hq.1, hq.2.1, (hq.2.2.sift fun y hy => Or.inr (N y hy)).mono (by decide) (by decide)⟩⟩
theorem main_1_1 : Claimed_1_1 := comes_1 fun _ _ _ _ _ _ h hF => ⟨h.1, hF⟩
theorem main_1_2 : Claimed_1_2 := comes_1 fun _ _ _ _ _ _ h hF => ⟨h.2.1, hF⟩
end Jvm.Pilot.@@N@@
namespace Jvm.Pilot.@@N@@
open Jvm Jvm.ClassFile Sem Op Lib Jvm.Free Jvm.Stand Jvm.Pilot.@@N@@.Jvm.D
/-! MADE BY PROGRAM (witnessworld.py) out of the Statement's table words and the real class files: 25 classes; the members and pool entries that the words name. The judged class is class 1, her method 3. -/
namespace start1
open Jvm.ClassFile
def u (s : String) : CpInfo := .utf8 (stringToUtf16 s)
/-- a pool by its gaps: so many unusable entries, then the entry; so many at the end -/
def gap : Nat → List CpInfo → List CpInfo
  | 0, r => r
  | n + 1, r => .unusable :: gap n r
def poolList (es : List (Nat × CpInfo)) (last : Nat) : List CpInfo := es.foldr (fun e r => gap e.1 (e.2 :: r)) (gap last [])
def pool (es : List (Nat × CpInfo)) (last : Nat) : Array CpInfo := ⟨poolList es last⟩
def fileOf (pool : Array CpInfo) (this : Nat) (attrs : Array Attribute := #[]) (ms : Array MethodInfo := #[]) (fl : Nat := 33) (sup : Nat := 0) (ifs : Array Nat := #[]) (fds : Array FieldInfo := #[]) : ClassFile where
  minorVersion := 0
  majorVersion := 65
  constantPool := pool
  accessFlags := fl
  thisClass := this
  superClass := sup
  interfaces := ifs
  fields := fds
  methods := ms
  attributes := attrs
def plain (name : String) (sup : Option ClassId) : Class where
  name := name
  kind := .ordinary
  loader := none
  accessFlags := 33
  super := sup
  interfaces := #[]
  cf := none
  fields := #[]
  methods := #[]
  instanceTypes := #[]
  staticTypes := #[]
  resolved := #[]
  callSites := []
  init := .initialized
  statics := none
  mirror := none

def pool0 : Array CpInfo := pool [(5, u "<init>"), (0, u "()V"), (1, .class_ 10), (1, u "java/lang/Object"), (85, u "clone"), (0, u "()Ljava/lang/Object;")] 26

def k0c0 : Code := { maxStack := 0, maxLocals := 1, code := object_method_1_code, exceptionTable := #[], attributes := #[] }
def k0m0 : Method := { name := "<init>", desc := "()V", sig := { parameters := [], returnType := none }, accessFlags := 1, code := some k0c0 }
def k0m1 : Method := { name := "clone", desc := "()Ljava/lang/Object;", sig := { parameters := [], returnType := some (.object "java/lang/Object") }, accessFlags := 260, code := none }
/-- java/lang/Object -/
def k0 : Class := { plain "java/lang/Object" none with
  accessFlags := 33
  interfaces := #[]
  cf := some (fileOf pool0 8 #[] #[{ accessFlags := 1, nameIndex := 5, descriptorIndex := 6, attributes := #[] }, { accessFlags := 260, nameIndex := 96, descriptorIndex := 97, attributes := #[] }] 33 0 #[] #[])
  fields := #[]
  methods := #[k0m0, k0m1]
  instanceTypes := #[]
  staticTypes := #[]
  resolved := Array.replicate 124 none
  statics := none }

def pool1 : Array CpInfo := pool [(2, .class_ 4), (1, u "java/lang/Object"), (0, u "<init>"), (0, u "()V"), (0, .long 31), (1, .methodref 10 11), (0, .class_ 12), (0, .nameAndType 13 14), (0, u "com/example/grawl/grawl/util/Base32EncodePinLaw"), (0, u "alpha"), (0, u "(I)C"), (0, .integer 2147483647), (0, .long 255), (1, .methodref 19 20), (0, .class_ 21), (0, .nameAndType 22 23), (0, u "java/lang/Math"), (0, u "min"), (0, u "(II)I"), (0, .methodref 25 26), (0, .class_ 27), (0, .nameAndType 28 29), (0, u "com/example/grawl/grawl/util/Base32"), (0, u "encode"), (0, u "([B)Ljava/lang/String;"), (0, .methodref 31 32), (0, .class_ 33), (0, .nameAndType 34 35), (0, u "java/lang/String"), (0, u "isEmpty"), (0, u "()Z"), (0, .methodref 10 37), (0, .nameAndType 38 39), (0, u "sym"), (0, u "(JII)C"), (0, .methodref 31 41), (0, .nameAndType 5 42), (0, u "([C)V"), (0, .methodref 31 44), (0, .nameAndType 45 46), (0, u "equals"), (0, u "(Ljava/lang/Object;)Z"), (3, u "law"), (0, u "(JII)Z")] 6

def k1m0 : Method := { name := "<init>", desc := "()V", sig := { parameters := [], returnType := none }, accessFlags := 1, code := none }
def k1c1 : Code := { maxStack := 3, maxLocals := 1, code := method_2_code, exceptionTable := #[], attributes := #[] }
def k1m1 : Method := { name := "alpha", desc := "(I)C", sig := { parameters := [.int], returnType := some .char }, accessFlags := 10, code := some k1c1 }
def k1c2 : Code := { maxStack := 5, maxLocals := 4, code := method_3_code, exceptionTable := #[], attributes := #[] }
def k1m2 : Method := { name := "sym", desc := "(JII)C", sig := { parameters := [.long, .int, .int], returnType := some .char }, accessFlags := 10, code := some k1c2 }
def k1c3 : Code := { maxStack := 6, maxLocals := 18, code := code, exceptionTable := #[], attributes := #[] }
def k1m3 : Method := { name := "law", desc := "(JII)Z", sig := { parameters := [.long, .int, .int], returnType := some .boolean }, accessFlags := 9, code := some k1c3 }
/-- com/example/grawl/grawl/util/Base32EncodePinLaw -/
def k1 : Class := { plain "com/example/grawl/grawl/util/Base32EncodePinLaw" (some 0) with
  accessFlags := 49
  interfaces := #[]
  cf := some (fileOf pool1 10 #[] #[{ accessFlags := 1, nameIndex := 5, descriptorIndex := 6, attributes := #[] }, { accessFlags := 10, nameIndex := 13, descriptorIndex := 14, attributes := #[] }, { accessFlags := 10, nameIndex := 38, descriptorIndex := 39, attributes := #[] }, { accessFlags := 9, nameIndex := 50, descriptorIndex := 51, attributes := #[] }] 49 2 #[] #[])
  fields := #[]
  methods := #[k1m0, k1m1, k1m2, k1m3]
  instanceTypes := #[]
  staticTypes := #[]
  resolved := Array.replicate 58 none
  statics := none }

def pool2 : Array CpInfo := pool [(1, .class_ 2), (0, u "java/lang/Math"), (1, .class_ 6), (1, u "java/lang/Object"), (0, u "<init>"), (0, u "()V"), (89, .class_ 100), (1, u "java/lang/Math$RandomNumberGeneratorHolder"), (71, u "negativeZeroFloatBits"), (0, u "J"), (2, u "negativeZeroDoubleBits"), (24, u "min"), (43, u "$assertionsDisabled"), (0, u "Z"), (88, u "(II)I"), (2, u "twoToTheDoubleScaleDown"), (0, u "D"), (4, u "twoToTheDoubleScaleUp"), (9, u "E"), (3, u "PI"), (2, u "TAU"), (2, u "DEGREES_TO_RADIANS"), (0, u "RADIANS_TO_DEGREES")] 94

def k2m0 : Method := { name := "<init>", desc := "()V", sig := { parameters := [], returnType := none }, accessFlags := 2, code := none }
def k2c1 : Code := { maxStack := 2, maxLocals := 2, code := jdk_29_method_69_code, exceptionTable := #[], attributes := #[] }
def k2m1 : Method := { name := "min", desc := "(II)I", sig := { parameters := [.int, .int], returnType := some .int }, accessFlags := 9, code := some k2c1 }
/-- java/lang/Math -/
def k2 : Class := { plain "java/lang/Math" (some 0) with
  accessFlags := 49
  interfaces := #[]
  cf := some (fileOf pool2 1 #[.nestMembers #[98]] #[{ accessFlags := 2, nameIndex := 7, descriptorIndex := 8, attributes := #[] }, { accessFlags := 9, nameIndex := 201, descriptorIndex := 335, attributes := #[] }] 49 4 #[] #[{ accessFlags := 25, nameIndex := 354, descriptorIndex := 339, attributes := #[] }, { accessFlags := 25, nameIndex := 358, descriptorIndex := 339, attributes := #[] }, { accessFlags := 25, nameIndex := 361, descriptorIndex := 339, attributes := #[] }, { accessFlags := 26, nameIndex := 364, descriptorIndex := 339, attributes := #[] }, { accessFlags := 26, nameIndex := 365, descriptorIndex := 339, attributes := #[] }, { accessFlags := 26, nameIndex := 172, descriptorIndex := 173, attributes := #[] }, { accessFlags := 26, nameIndex := 176, descriptorIndex := 173, attributes := #[] }, { accessFlags := 8, nameIndex := 344, descriptorIndex := 339, attributes := #[] }, { accessFlags := 8, nameIndex := 338, descriptorIndex := 339, attributes := #[] }, { accessFlags := 4120, nameIndex := 245, descriptorIndex := 246, attributes := #[] }])
  fields := #[{ name := "E", type := .double, accessFlags := 25, slot := 0, constantValue := 0 }, { name := "PI", type := .double, accessFlags := 25, slot := 1, constantValue := 0 }, { name := "TAU", type := .double, accessFlags := 25, slot := 2, constantValue := 0 }, { name := "DEGREES_TO_RADIANS", type := .double, accessFlags := 26, slot := 3, constantValue := 0 }, { name := "RADIANS_TO_DEGREES", type := .double, accessFlags := 26, slot := 4, constantValue := 0 }, { name := "negativeZeroFloatBits", type := .long, accessFlags := 26, slot := 5, constantValue := 0 }, { name := "negativeZeroDoubleBits", type := .long, accessFlags := 26, slot := 6, constantValue := 0 }, { name := "twoToTheDoubleScaleUp", type := .double, accessFlags := 8, slot := 7, constantValue := 0 }, { name := "twoToTheDoubleScaleDown", type := .double, accessFlags := 8, slot := 8, constantValue := 0 }, { name := "$assertionsDisabled", type := .boolean, accessFlags := 4120, slot := 9, constantValue := 0 }]
  methods := #[k2m0, k2m1]
  instanceTypes := #[]
  staticTypes := #[.double, .double, .double, .double, .double, .long, .long, .double, .double, .boolean]
  resolved := Array.replicate 460 none
  statics := none }

def pool3 : Array CpInfo := pool [(2, .class_ 4), (1, u "java/lang/Object"), (0, u "<init>"), (0, u "()V"), (0, .class_ 8), (0, u "java/lang/StringBuilder"), (0, .methodref 7 10), (0, .nameAndType 5 11), (0, u "(I)V"), (0, .fieldref 13 14), (0, .class_ 15), (0, .nameAndType 16 17), (0, u "com/example/grawl/grawl/util/Base32"), (0, u "ALPHABET"), (0, u "[C"), (0, .methodref 7 19), (0, .nameAndType 20 21), (0, u "append"), (0, u "(C)Ljava/lang/StringBuilder;"), (0, .methodref 7 23), (0, .nameAndType 24 25), (0, u "length"), (0, u "()I"), (0, .methodref 7 27), (0, .nameAndType 28 29), (0, u "toString"), (0, u "()Ljava/lang/String;"), (10, u "encode"), (0, u "([B)Ljava/lang/String;")] 6

def k3m0 : Method := { name := "<init>", desc := "()V", sig := { parameters := [], returnType := none }, accessFlags := 2, code := none }
def k3c1 : Code := { maxStack := 5, maxLocals := 8, code := prog_8_method_2_code, exceptionTable := #[], attributes := #[] }
def k3m1 : Method := { name := "encode", desc := "([B)Ljava/lang/String;", sig := { parameters := [(.array .byte)], returnType := some (.object "java/lang/String") }, accessFlags := 9, code := some k3c1 }
/-- com/example/grawl/grawl/util/Base32 -/
def k3 : Class := { plain "com/example/grawl/grawl/util/Base32" (some 0) with
  accessFlags := 33
  interfaces := #[]
  cf := some (fileOf pool3 13 #[] #[{ accessFlags := 2, nameIndex := 5, descriptorIndex := 6, attributes := #[] }, { accessFlags := 9, nameIndex := 40, descriptorIndex := 41, attributes := #[] }] 33 2 #[] #[{ accessFlags := 26, nameIndex := 16, descriptorIndex := 17, attributes := #[] }])
  fields := #[{ name := "ALPHABET", type := (.array .char), accessFlags := 26, slot := 0, constantValue := 0 }]
  methods := #[k3m0, k3m1]
  instanceTypes := #[]
  staticTypes := #[(.array .char)]
  resolved := Array.replicate 48 none
  statics := some 0 }

def pool4 : Array CpInfo := pool [(1, .class_ 2), (0, u "java/lang/Appendable"), (0, .class_ 4), (0, u "java/lang/Object")] 9

/-- java/lang/Appendable -/
def k4 : Class := { plain "java/lang/Appendable" (some 0) with
  accessFlags := 1537
  interfaces := #[]
  cf := some (fileOf pool4 1 #[] #[] 1537 3 #[] #[])
  fields := #[]
  methods := #[]
  instanceTypes := #[]
  staticTypes := #[]
  resolved := Array.replicate 14 none
  statics := none }

def pool5 : Array CpInfo := pool [(2, .class_ 4), (1, u "java/lang/CharSequence"), (42, .class_ 48), (0, u "java/lang/CharSequence$1CodePointIterator"), (10, .class_ 60), (0, u "java/lang/CharSequence$1CharIterator"), (5, .class_ 67), (0, u "java/lang/Object")] 63

/-- java/lang/CharSequence -/
def k5 : Class := { plain "java/lang/CharSequence" (some 0) with
  accessFlags := 1537
  interfaces := #[]
  cf := some (fileOf pool5 2 #[.nestMembers #[47, 59]] #[] 1537 66 #[] #[])
  fields := #[]
  methods := #[]
  instanceTypes := #[]
  staticTypes := #[]
  resolved := Array.replicate 131 none
  statics := none }

def pool6 : Array CpInfo := pool [(1, .class_ 2), (0, u "java/lang/String"), (0, .methodref 4 5), (0, .class_ 6), (0, .nameAndType 7 8), (0, u "java/lang/Object"), (0, u "<init>"), (0, u "()V"), (1, .class_ 12), (1, u "java/lang/AbstractStringBuilder"), (0, u "EMPTYVALUE"), (0, u "[B"), (0, .fieldref 10 16), (0, .nameAndType 17 14), (0, u "value"), (0, .fieldref 1 19), (0, .nameAndType 20 21), (0, u "COMPACT_STRINGS"), (0, u "Z"), (0, .fieldref 10 23), (0, .nameAndType 24 25), (0, u "coder"), (0, u "B"), (8, u "length"), (0, u "()I"), (9, u "append"), (2, .class_ 49), (0, u "java/lang/CharSequence"), (25, u "maybeLatin1"), (3, .fieldref 10 80), (0, .nameAndType 81 82), (0, u "count"), (0, u "I"), (0, .methodref 10 84), (0, .nameAndType 85 86), (0, u "isLatin1"), (0, u "()Z"), (1, .class_ 90), (1, u "java/lang/StringLatin1"), (9, .methodref 10 101), (0, .nameAndType 102 103), (0, u "ensureCapacityInternal"), (0, u "(I)V"), (87, .methodref 88 192), (0, .nameAndType 193 194), (0, u "canEncode"), (0, u "(C)Z"), (97, u "(C)Ljava/lang/AbstractStringBuilder;"), (110, u "()[B"), (40, .class_ 445), (0, u "java/lang/Appendable"), (106, u "getValue")] 56

def k6m0 : Method := { name := "<init>", desc := "()V", sig := { parameters := [], returnType := none }, accessFlags := 0, code := none }
def k6c1 : Code := { maxStack := 2, maxLocals := 2, code := jdk_68_method_2_code, exceptionTable := #[], attributes := #[] }
def k6m1 : Method := { name := "<init>", desc := "(I)V", sig := { parameters := [.int], returnType := none }, accessFlags := 0, code := some k6c1 }
def k6c2 : Code := { maxStack := 1, maxLocals := 1, code := jdk_68_method_6_code, exceptionTable := #[], attributes := #[] }
def k6m2 : Method := { name := "length", desc := "()I", sig := { parameters := [], returnType := some .int }, accessFlags := 1, code := some k6c2 }
def k6c3 : Code := { maxStack := 4, maxLocals := 3, code := jdk_68_method_9_code, exceptionTable := #[], attributes := #[] }
def k6m3 : Method := { name := "ensureCapacityInternal", desc := "(I)V", sig := { parameters := [.int], returnType := none }, accessFlags := 2, code := some k6c3 }
def k6c4 : Code := { maxStack := 5, maxLocals := 2, code := jdk_68_method_31_code, exceptionTable := #[], attributes := #[] }
def k6m4 : Method := { name := "append", desc := "(C)Ljava/lang/AbstractStringBuilder;", sig := { parameters := [.char], returnType := some (.object "java/lang/AbstractStringBuilder") }, accessFlags := 1, code := some k6c4 }
def k6c5 : Code := { maxStack := 1, maxLocals := 1, code := jdk_68_method_64_code, exceptionTable := #[], attributes := #[] }
def k6m5 : Method := { name := "getValue", desc := "()[B", sig := { parameters := [], returnType := some (.array .byte) }, accessFlags := 16, code := some k6c5 }
def k6c6 : Code := { maxStack := 1, maxLocals := 1, code := jdk_68_method_68_code, exceptionTable := #[], attributes := #[] }
def k6m6 : Method := { name := "isLatin1", desc := "()Z", sig := { parameters := [], returnType := some .boolean }, accessFlags := 16, code := some k6c6 }
/-- java/lang/AbstractStringBuilder -/
def k6 : Class := { plain "java/lang/AbstractStringBuilder" (some 0) with
  accessFlags := 1056
  interfaces := #[4, 5]
  cf := some (fileOf pool6 10 #[] #[{ accessFlags := 0, nameIndex := 7, descriptorIndex := 8, attributes := #[] }, { accessFlags := 0, nameIndex := 7, descriptorIndex := 103, attributes := #[] }, { accessFlags := 1, nameIndex := 34, descriptorIndex := 35, attributes := #[] }, { accessFlags := 2, nameIndex := 102, descriptorIndex := 103, attributes := #[] }, { accessFlags := 1, nameIndex := 45, descriptorIndex := 292, attributes := #[] }, { accessFlags := 16, nameIndex := 552, descriptorIndex := 403, attributes := #[] }, { accessFlags := 16, nameIndex := 85, descriptorIndex := 86, attributes := #[] }] 1056 4 #[444, 48] #[{ accessFlags := 0, nameIndex := 17, descriptorIndex := 14, attributes := #[] }, { accessFlags := 0, nameIndex := 24, descriptorIndex := 25, attributes := #[] }, { accessFlags := 0, nameIndex := 75, descriptorIndex := 21, attributes := #[] }, { accessFlags := 0, nameIndex := 81, descriptorIndex := 82, attributes := #[] }, { accessFlags := 26, nameIndex := 13, descriptorIndex := 14, attributes := #[] }])
  fields := #[{ name := "value", type := (.array .byte), accessFlags := 0, slot := 0, constantValue := 0 }, { name := "coder", type := .byte, accessFlags := 0, slot := 1, constantValue := 0 }, { name := "maybeLatin1", type := .boolean, accessFlags := 0, slot := 2, constantValue := 0 }, { name := "count", type := .int, accessFlags := 0, slot := 3, constantValue := 0 }, { name := "EMPTYVALUE", type := (.array .byte), accessFlags := 26, slot := 0, constantValue := 0 }]
  methods := #[k6m0, k6m1, k6m2, k6m3, k6m4, k6m5, k6m6]
  instanceTypes := #[(.array .byte), .byte, .boolean, .int]
  staticTypes := #[(.array .byte)]
  resolved := Array.replicate 609 none
  statics := none }

def pool7 : Array CpInfo := pool [(1, .class_ 2), (0, u "java/io/Serializable"), (0, .class_ 4), (0, u "java/lang/Object")] 2

/-- java/io/Serializable -/
def k7 : Class := { plain "java/io/Serializable" (some 0) with
  accessFlags := 1537
  interfaces := #[]
  cf := some (fileOf pool7 1 #[] #[] 1537 3 #[] #[])
  fields := #[]
  methods := #[]
  instanceTypes := #[]
  staticTypes := #[]
  resolved := Array.replicate 7 none
  statics := none }

def pool8 : Array CpInfo := pool [(1, .class_ 2), (0, u "java/lang/Comparable"), (0, .class_ 4), (0, u "java/lang/Object")] 7

/-- java/lang/Comparable -/
def k8 : Class := { plain "java/lang/Comparable" (some 0) with
  accessFlags := 1537
  interfaces := #[]
  cf := some (fileOf pool8 1 #[] #[] 1537 3 #[] #[])
  fields := #[]
  methods := #[]
  instanceTypes := #[]
  staticTypes := #[]
  resolved := Array.replicate 12 none
  statics := none }

def pool9 : Array CpInfo := pool [(1, .methodref 2 3), (0, .class_ 4), (0, .nameAndType 5 6), (0, u "java/lang/AbstractStringBuilder"), (0, u "<init>"), (0, u "(I)V"), (11, .class_ 20), (1, u "java/lang/String"), (3, .class_ 26), (1, u "java/lang/StringBuilder"), (0, u "append"), (22, .methodref 2 51), (0, .nameAndType 27 52), (0, u "(C)Ljava/lang/AbstractStringBuilder;"), (84, .methodref 18 138), (0, .nameAndType 5 139), (0, u "(Ljava/lang/StringBuilder;)V"), (5, u "()V"), (10, u "()I"), (129, u "(C)Ljava/lang/StringBuilder;"), (56, .methodref 2 344), (0, .nameAndType 345 156), (0, u "length"), (3, .class_ 350), (0, u "java/lang/Appendable"), (0, .class_ 352), (0, u "java/io/Serializable"), (0, .class_ 354), (0, u "java/lang/Comparable"), (0, .class_ 356), (0, u "java/lang/CharSequence"), (0, u "serialVersionUID"), (0, u "J"), (40, u "toString"), (0, u "()Ljava/lang/String;")] 21

def k9m0 : Method := { name := "<init>", desc := "()V", sig := { parameters := [], returnType := none }, accessFlags := 1, code := none }
def k9c1 : Code := { maxStack := 2, maxLocals := 2, code := jdk_67_method_2_code, exceptionTable := #[], attributes := #[] }
def k9m1 : Method := { name := "<init>", desc := "(I)V", sig := { parameters := [.int], returnType := none }, accessFlags := 1, code := some k9c1 }
def k9c2 : Code := { maxStack := 2, maxLocals := 2, code := jdk_67_method_14_code, exceptionTable := #[], attributes := #[] }
def k9m2 : Method := { name := "append", desc := "(C)Ljava/lang/StringBuilder;", sig := { parameters := [.char], returnType := some (.object "java/lang/StringBuilder") }, accessFlags := 1, code := some k9c2 }
def k9c3 : Code := { maxStack := 3, maxLocals := 1, code := jdk_67_method_42_code, exceptionTable := #[], attributes := #[] }
def k9m3 : Method := { name := "toString", desc := "()Ljava/lang/String;", sig := { parameters := [], returnType := some (.object "java/lang/String") }, accessFlags := 1, code := some k9c3 }
def k9c4 : Code := { maxStack := 1, maxLocals := 1, code := jdk_67_method_93_code, exceptionTable := #[], attributes := #[] }
def k9m4 : Method := { name := "length", desc := "()I", sig := { parameters := [], returnType := some .int }, accessFlags := 4161, code := some k9c4 }
/-- java/lang/StringBuilder -/
def k9 : Class := { plain "java/lang/StringBuilder" (some 6) with
  accessFlags := 49
  interfaces := #[4, 7, 8, 5]
  cf := some (fileOf pool9 24 #[] #[{ accessFlags := 1, nameIndex := 5, descriptorIndex := 145, attributes := #[] }, { accessFlags := 1, nameIndex := 5, descriptorIndex := 6, attributes := #[] }, { accessFlags := 1, nameIndex := 27, descriptorIndex := 286, attributes := #[] }, { accessFlags := 1, nameIndex := 399, descriptorIndex := 400, attributes := #[] }, { accessFlags := 4161, nameIndex := 345, descriptorIndex := 156, attributes := #[] }] 49 2 #[349, 351, 353, 355] #[{ accessFlags := 24, nameIndex := 357, descriptorIndex := 358, attributes := #[] }])
  fields := #[{ name := "serialVersionUID", type := .long, accessFlags := 24, slot := 0, constantValue := 0 }]
  methods := #[k9m0, k9m1, k9m2, k9m3, k9m4]
  instanceTypes := #[(.array .byte), .byte, .boolean, .int]
  staticTypes := #[.long]
  resolved := Array.replicate 422 none
  statics := none }

def pool10 : Array CpInfo := pool [(1, .class_ 2), (0, u "java/lang/constant/Constable"), (0, .class_ 4), (0, u "java/lang/Object")] 6

/-- java/lang/constant/Constable -/
def k10 : Class := { plain "java/lang/constant/Constable" (some 0) with
  accessFlags := 1537
  interfaces := #[]
  cf := some (fileOf pool10 1 #[] #[] 1537 3 #[] #[])
  fields := #[]
  methods := #[]
  instanceTypes := #[]
  staticTypes := #[]
  resolved := Array.replicate 11 none
  statics := none }

def pool11 : Array CpInfo := pool [(1, .class_ 2), (0, u "java/lang/constant/ConstantDesc"), (0, .class_ 4), (0, u "java/lang/Object")] 32

/-- java/lang/constant/ConstantDesc -/
def k11 : Class := { plain "java/lang/constant/ConstantDesc" (some 0) with
  accessFlags := 1537
  interfaces := #[]
  cf := some (fileOf pool11 1 #[] #[] 1537 3 #[] #[])
  fields := #[]
  methods := #[]
  instanceTypes := #[]
  staticTypes := #[]
  resolved := Array.replicate 37 none
  statics := none }

def pool12 : Array CpInfo := pool [(1, .methodref 2 3), (0, .class_ 4), (0, .nameAndType 5 6), (0, u "java/lang/Object"), (0, u "<init>"), (0, u "()V"), (2, .fieldref 10 11), (0, .class_ 12), (0, .nameAndType 13 14), (0, u "java/lang/String"), (0, u "value"), (0, u "[B"), (0, .fieldref 10 16), (0, .nameAndType 17 18), (0, u "coder"), (0, u "B"), (2, u "hash"), (0, u "I"), (2, u "hashIsZero"), (0, u "Z"), (0, .methodref 10 28), (0, .nameAndType 5 29), (0, u "([CIILjava/lang/Void;)V"), (8, .fieldref 10 39), (0, .nameAndType 40 26), (0, u "COMPACT_STRINGS"), (1, .class_ 44), (1, u "java/lang/StringUTF16"), (0, u "compress"), (1, .methodref 42 48), (0, .nameAndType 49 50), (0, u "coderFromArrayLen"), (0, u "([BI)B"), (3, .methodref 55 56), (0, .class_ 57), (0, .nameAndType 58 59), (0, u "java/util/Arrays"), (0, u "copyOfRange"), (0, u "([BII)[B"), (47, .class_ 109), (1, u "java/lang/StringLatin1"), (32, u "()Z"), (34, .methodref 42 178), (0, .nameAndType 45 179), (0, u "([CII)[B"), (154, u "()I"), (5, u "()[B"), (148, .methodref 10 490), (0, .nameAndType 5 491), (0, u "(Ljava/lang/AbstractStringBuilder;Ljava/lang/Void;)V"), (1, .nameAndType 494 142), (0, u "isLatin1"), (11, .nameAndType 507 334), (0, u "length"), (33, .methodref 107 542), (0, .nameAndType 543 544), (0, u "equals"), (0, u "([B[B)Z"), (4, .methodref 550 506), (0, .class_ 551), (0, u "java/lang/AbstractStringBuilder"), (0, .methodref 550 553), (0, .nameAndType 554 340), (0, u "getValue"), (18, u "(Ljava/lang/Object;)Z"), (1, .class_ 576), (0, u "java/lang/CharSequence"), (22, u "CASE_INSENSITIVE_ORDER"), (0, u "Ljava/util/Comparator;"), (91, u "isEmpty"), (317, u "([C)V"), (36, .methodref 550 493), (53, u "serialPersistentFields"), (0, u "[Ljava/io/ObjectStreamField;"), (0, .class_ 1104), (0, u "java/lang/String$CaseInsensitiveComparator"), (1, .class_ 1107), (0, u "java/io/Serializable"), (0, .class_ 1109), (0, u "java/lang/Comparable"), (0, .class_ 1111), (0, u "java/lang/constant/Constable"), (0, .class_ 1113), (0, u "java/lang/constant/ConstantDesc"), (2, u "serialVersionUID"), (0, u "J"), (3, u "REPL"), (0, u "C"), (2, u "LATIN1"), (1, u "UTF16"), (105, u "(Ljava/lang/StringBuilder;)V")] 217

def k12m0 : Method := { name := "<init>", desc := "()V", sig := { parameters := [], returnType := none }, accessFlags := 1, code := none }
def k12c1 : Code := { maxStack := 5, maxLocals := 2, code := jdk_42_method_3_code, exceptionTable := #[], attributes := #[] }
def k12m1 : Method := { name := "<init>", desc := "([C)V", sig := { parameters := [(.array .char)], returnType := none }, accessFlags := 1, code := some k12c1 }
def k12c2 : Code := { maxStack := 3, maxLocals := 2, code := jdk_42_method_53_code, exceptionTable := #[], attributes := #[] }
def k12m2 : Method := { name := "<init>", desc := "(Ljava/lang/StringBuilder;)V", sig := { parameters := [(.object "java/lang/StringBuilder")], returnType := none }, accessFlags := 1, code := some k12c2 }
def k12c3 : Code := { maxStack := 1, maxLocals := 1, code := jdk_42_method_55_code, exceptionTable := #[], attributes := #[] }
def k12m3 : Method := { name := "isEmpty", desc := "()Z", sig := { parameters := [], returnType := some .boolean }, accessFlags := 1, code := some k12c3 }
def k12c4 : Code := { maxStack := 2, maxLocals := 3, code := jdk_42_method_66_code, exceptionTable := #[], attributes := #[] }
def k12m4 : Method := { name := "equals", desc := "(Ljava/lang/Object;)Z", sig := { parameters := [(.object "java/lang/Object")], returnType := some .boolean }, accessFlags := 1, code := some k12c4 }
def k12c5 : Code := { maxStack := 4, maxLocals := 6, code := jdk_42_method_149_code, exceptionTable := #[], attributes := #[] }
def k12m5 : Method := { name := "<init>", desc := "([CIILjava/lang/Void;)V", sig := { parameters := [(.array .char), .int, .int, (.object "java/lang/Void")], returnType := none }, accessFlags := 2, code := some k12c5 }
def k12c6 : Code := { maxStack := 5, maxLocals := 5, code := jdk_42_method_150_code, exceptionTable := #[], attributes := #[] }
def k12m6 : Method := { name := "<init>", desc := "(Ljava/lang/AbstractStringBuilder;Ljava/lang/Void;)V", sig := { parameters := [(.object "java/lang/AbstractStringBuilder"), (.object "java/lang/Void")], returnType := none }, accessFlags := 0, code := some k12c6 }
/-- java/lang/String -/
def k12 : Class := { plain "java/lang/String" (some 0) with
  accessFlags := 49
  interfaces := #[7, 8, 5, 10, 11]
  cf := some (fileOf pool12 10 #[.nestMembers #[1103]] #[{ accessFlags := 1, nameIndex := 5, descriptorIndex := 6, attributes := #[] }, { accessFlags := 1, nameIndex := 5, descriptorIndex := 1010, attributes := #[] }, { accessFlags := 1, nameIndex := 5, descriptorIndex := 1233, attributes := #[] }, { accessFlags := 1, nameIndex := 692, descriptorIndex := 142, attributes := #[] }, { accessFlags := 1, nameIndex := 543, descriptorIndex := 573, attributes := #[] }, { accessFlags := 2, nameIndex := 5, descriptorIndex := 29, attributes := #[] }, { accessFlags := 0, nameIndex := 5, descriptorIndex := 491, attributes := #[] }] 49 2 #[1106, 1108, 575, 1110, 1112] #[{ accessFlags := 18, nameIndex := 13, descriptorIndex := 14, attributes := #[] }, { accessFlags := 18, nameIndex := 17, descriptorIndex := 18, attributes := #[] }, { accessFlags := 2, nameIndex := 21, descriptorIndex := 22, attributes := #[] }, { accessFlags := 2, nameIndex := 25, descriptorIndex := 26, attributes := #[] }, { accessFlags := 26, nameIndex := 1116, descriptorIndex := 1117, attributes := #[] }, { accessFlags := 24, nameIndex := 40, descriptorIndex := 26, attributes := #[] }, { accessFlags := 26, nameIndex := 1101, descriptorIndex := 1102, attributes := #[] }, { accessFlags := 26, nameIndex := 1121, descriptorIndex := 1122, attributes := #[] }, { accessFlags := 25, nameIndex := 599, descriptorIndex := 600, attributes := #[] }, { accessFlags := 24, nameIndex := 1125, descriptorIndex := 18, attributes := #[] }, { accessFlags := 24, nameIndex := 1127, descriptorIndex := 18, attributes := #[] }])
  fields := #[{ name := "value", type := (.array .byte), accessFlags := 18, slot := 0, constantValue := 0 }, { name := "coder", type := .byte, accessFlags := 18, slot := 1, constantValue := 0 }, { name := "hash", type := .int, accessFlags := 2, slot := 2, constantValue := 0 }, { name := "hashIsZero", type := .boolean, accessFlags := 2, slot := 3, constantValue := 0 }, { name := "serialVersionUID", type := .long, accessFlags := 26, slot := 0, constantValue := 0 }, { name := "COMPACT_STRINGS", type := .boolean, accessFlags := 24, slot := 1, constantValue := 0 }, { name := "serialPersistentFields", type := (.array (.object "java/io/ObjectStreamField")), accessFlags := 26, slot := 2, constantValue := 0 }, { name := "REPL", type := .char, accessFlags := 26, slot := 3, constantValue := 0 }, { name := "CASE_INSENSITIVE_ORDER", type := (.object "java/util/Comparator"), accessFlags := 25, slot := 4, constantValue := 0 }, { name := "LATIN1", type := .byte, accessFlags := 24, slot := 5, constantValue := 0 }, { name := "UTF16", type := .byte, accessFlags := 24, slot := 6, constantValue := 0 }]
  methods := #[k12m0, k12m1, k12m2, k12m3, k12m4, k12m5, k12m6]
  instanceTypes := #[(.array .byte), .byte, .int, .boolean]
  staticTypes := #[.long, .boolean, (.array (.object "java/io/ObjectStreamField")), .char, (.object "java/util/Comparator"), .byte, .byte]
  resolved := Array.replicate 1451 none
  statics := some 1 }

def pool13 : Array CpInfo := pool [(4, .class_ 6), (1, u "java/lang/Object"), (0, u "<init>"), (0, u "()V"), (5, .class_ 16), (1, u "java/lang/StringLatin1"), (73, u "canEncode"), (14, u "(C)Z"), (15, u "$assertionsDisabled"), (0, u "Z"), (98, .class_ 223), (1, u "java/lang/StringLatin1$LinesSpliterator"), (57, u "equals"), (0, u "([B[B)Z"), (107, .class_ 391), (0, u "java/lang/StringLatin1$CharsSpliterator")] 3

def k13m0 : Method := { name := "<init>", desc := "()V", sig := { parameters := [], returnType := none }, accessFlags := 0, code := none }
def k13c1 : Code := { maxStack := 2, maxLocals := 1, code := jdk_43_method_3_code, exceptionTable := #[], attributes := #[] }
def k13m1 : Method := { name := "canEncode", desc := "(C)Z", sig := { parameters := [.char], returnType := some .boolean }, accessFlags := 9, code := some k13c1 }
def k13c2 : Code := { maxStack := 3, maxLocals := 3, code := jdk_43_method_13_code, exceptionTable := #[], attributes := #[] }
def k13m2 : Method := { name := "equals", desc := "([B[B)Z", sig := { parameters := [(.array .byte), (.array .byte)], returnType := some .boolean }, accessFlags := 9, code := some k13c2 }
/-- java/lang/StringLatin1 -/
def k13 : Class := { plain "java/lang/StringLatin1" (some 0) with
  accessFlags := 48
  interfaces := #[]
  cf := some (fileOf pool13 14 #[.nestMembers #[390, 221]] #[{ accessFlags := 0, nameIndex := 7, descriptorIndex := 8, attributes := #[] }, { accessFlags := 9, nameIndex := 90, descriptorIndex := 105, attributes := #[] }, { accessFlags := 9, nameIndex := 281, descriptorIndex := 282, attributes := #[] }] 48 4 #[] #[{ accessFlags := 4120, nameIndex := 121, descriptorIndex := 122, attributes := #[] }])
  fields := #[{ name := "$assertionsDisabled", type := .boolean, accessFlags := 4120, slot := 0, constantValue := 0 }]
  methods := #[k13m0, k13m1, k13m2]
  instanceTypes := #[]
  staticTypes := #[.boolean]
  resolved := Array.replicate 395 none
  statics := none }

def pool14 : Array CpInfo := pool [(2, .class_ 4), (1, u "java/lang/Object"), (0, u "<init>"), (0, u "()V"), (7, .class_ 16), (1, u "java/util/Arrays"), (57, .class_ 76), (1, u "java/util/Arrays$NaturalOrder"), (32, u "()Ljava/lang/Object;"), (3, .class_ 115), (1, u "java/util/Arrays$LegacyMergeSort"), (1, u "Z"), (10, .nameAndType 129 109), (0, u "clone"), (9, u "copyOfRange"), (170, .methodref 311 128), (0, .class_ 312), (0, u "[B"), (29, u "([BII)[B"), (32, .class_ 376), (0, u "java/util/Arrays$ArrayList"), (68, u "$assertionsDisabled"), (269, u "MIN_ARRAY_SORT_GRAN"), (0, u "I"), (2, u "INSERTIONSORT_THRESHOLD"), (255, .class_ 976), (0, u "java/util/Arrays$ArrayItr")] 52

def k14m0 : Method := { name := "<init>", desc := "()V", sig := { parameters := [], returnType := none }, accessFlags := 2, code := none }
def k14c1 : Code := { maxStack := 3, maxLocals := 3, code := jdk_65_method_132_code, exceptionTable := #[], attributes := #[] }
def k14m1 : Method := { name := "copyOfRange", desc := "([BII)[B", sig := { parameters := [(.array .byte), .int, .int], returnType := some (.array .byte) }, accessFlags := 9, code := some k14c1 }
/-- java/util/Arrays -/
def k14 : Class := { plain "java/util/Arrays" (some 0) with
  accessFlags := 49
  interfaces := #[]
  cf := some (fileOf pool14 14 #[.nestMembers #[975, 375, 113, 74]] #[{ accessFlags := 2, nameIndex := 5, descriptorIndex := 6, attributes := #[] }, { accessFlags := 9, nameIndex := 139, descriptorIndex := 342, attributes := #[] }] 49 2 #[] #[{ accessFlags := 26, nameIndex := 715, descriptorIndex := 716, attributes := #[] }, { accessFlags := 26, nameIndex := 719, descriptorIndex := 716, attributes := #[] }, { accessFlags := 4120, nameIndex := 445, descriptorIndex := 117, attributes := #[] }])
  fields := #[{ name := "MIN_ARRAY_SORT_GRAN", type := .int, accessFlags := 26, slot := 0, constantValue := 0 }, { name := "INSERTIONSORT_THRESHOLD", type := .int, accessFlags := 26, slot := 1, constantValue := 0 }, { name := "$assertionsDisabled", type := .boolean, accessFlags := 4120, slot := 2, constantValue := 0 }]
  methods := #[k14m0, k14m1]
  instanceTypes := #[]
  staticTypes := #[.int, .int, .boolean]
  resolved := Array.replicate 1029 none
  statics := none }

def pool15 : Array CpInfo := pool [(1, .class_ 2), (0, u "java/lang/Cloneable"), (0, .class_ 4), (0, u "java/lang/Object")] 2

/-- java/lang/Cloneable -/
def k15 : Class := { plain "java/lang/Cloneable" (some 0) with
  accessFlags := 1537
  interfaces := #[]
  cf := some (fileOf pool15 1 #[] #[] 1537 3 #[] #[])
  fields := #[]
  methods := #[]
  instanceTypes := #[]
  staticTypes := #[]
  resolved := Array.replicate 7 none
  statics := none }

def pool16 : Array CpInfo := pool [(6, .class_ 8), (1, u "java/lang/Object"), (0, u "<init>"), (0, u "()V"), (1, .class_ 14), (1, u "java/lang/StringUTF16"), (31, u "$assertionsDisabled"), (0, u "Z"), (13, u "HI_BYTE_SHIFT"), (0, u "I"), (2, u "LO_BYTE_SHIFT"), (49, .methodref 12 116), (0, .nameAndType 117 118), (0, u "compress"), (0, u "([CI[BII)I"), (3, u "([CII)[B"), (138, u "coderFromArrayLen"), (0, u "([BI)B"), (106, .class_ 371), (1, u "java/lang/StringUTF16$LinesSpliterator"), (58, u "MAX_LENGTH"), (196, .class_ 628), (0, u "java/lang/StringUTF16$CodePointsSpliterator"), (0, .class_ 630), (0, u "java/lang/StringUTF16$CharsSpliterator")] 4

def k16m0 : Method := { name := "<init>", desc := "()V", sig := { parameters := [], returnType := none }, accessFlags := 0, code := none }
def k16c1 : Code := { maxStack := 2, maxLocals := 2, code := jdk_52_method_15_code, exceptionTable := #[], attributes := #[] }
def k16m1 : Method := { name := "coderFromArrayLen", desc := "([BI)B", sig := { parameters := [(.array .byte), .int], returnType := some .byte }, accessFlags := 8, code := some k16c1 }
def k16c2 : Code := { maxStack := 5, maxLocals := 6, code := jdk_52_method_16_code, exceptionTable := #[], attributes := #[] }
def k16m2 : Method := { name := "compress", desc := "([CII)[B", sig := { parameters := [(.array .char), .int, .int], returnType := some (.array .byte) }, accessFlags := 9, code := some k16c2 }
def k16c3 : Code := { maxStack := 3, maxLocals := 7, code := jdk_52_method_21_code, exceptionTable := #[], attributes := #[] }
def k16m3 : Method := { name := "compress", desc := "([CI[BII)I", sig := { parameters := [(.array .char), .int, (.array .byte), .int, .int], returnType := some .int }, accessFlags := 9, code := some k16c3 }
/-- java/lang/StringUTF16 -/
def k16 : Class := { plain "java/lang/StringUTF16" (some 0) with
  accessFlags := 48
  interfaces := #[]
  cf := some (fileOf pool16 12 #[.nestMembers #[627, 629, 369]] #[{ accessFlags := 0, nameIndex := 9, descriptorIndex := 10, attributes := #[] }, { accessFlags := 8, nameIndex := 261, descriptorIndex := 262, attributes := #[] }, { accessFlags := 9, nameIndex := 117, descriptorIndex := 122, attributes := #[] }, { accessFlags := 9, nameIndex := 117, descriptorIndex := 118, attributes := #[] }] 48 6 #[] #[{ accessFlags := 26, nameIndex := 61, descriptorIndex := 62, attributes := #[] }, { accessFlags := 26, nameIndex := 65, descriptorIndex := 62, attributes := #[] }, { accessFlags := 24, nameIndex := 430, descriptorIndex := 62, attributes := #[] }, { accessFlags := 4120, nameIndex := 46, descriptorIndex := 47, attributes := #[] }])
  fields := #[{ name := "HI_BYTE_SHIFT", type := .int, accessFlags := 26, slot := 0, constantValue := 0 }, { name := "LO_BYTE_SHIFT", type := .int, accessFlags := 26, slot := 1, constantValue := 0 }, { name := "MAX_LENGTH", type := .int, accessFlags := 24, slot := 2, constantValue := 0 }, { name := "$assertionsDisabled", type := .boolean, accessFlags := 4120, slot := 3, constantValue := 0 }]
  methods := #[k16m0, k16m1, k16m2, k16m3]
  instanceTypes := #[]
  staticTypes := #[.int, .int, .int, .boolean]
  resolved := Array.replicate 635 none
  statics := none }

def pool17 : Array CpInfo := pool [(2, .class_ 4), (1, u "java/lang/Object"), (0, u "<init>"), (0, u "()V"), (17, .class_ 26), (1, u "jdk/internal/util/Preconditions"), (28, .class_ 56), (0, u "jdk/internal/util/Preconditions$4"), (57, .class_ 115), (0, u "jdk/internal/util/Preconditions$1"), (7, u "SIOOBE_FORMATTER"), (0, u "Ljava/util/function/BiFunction;"), (0, .class_ 126), (0, u "jdk/internal/util/Preconditions$2"), (3, u "AIOOBE_FORMATTER"), (0, .class_ 132), (0, u "jdk/internal/util/Preconditions$3"), (3, u "IOOBE_FORMATTER")] 57

def k17m0 : Method := { name := "<init>", desc := "()V", sig := { parameters := [], returnType := none }, accessFlags := 1, code := none }
/-- jdk/internal/util/Preconditions -/
def k17 : Class := { plain "jdk/internal/util/Preconditions" (some 0) with
  accessFlags := 33
  interfaces := #[]
  cf := some (fileOf pool17 24 #[.nestMembers #[55, 131, 125, 114]] #[{ accessFlags := 1, nameIndex := 5, descriptorIndex := 6, attributes := #[] }] 33 2 #[] #[{ accessFlags := 25, nameIndex := 123, descriptorIndex := 124, attributes := #[] }, { accessFlags := 25, nameIndex := 130, descriptorIndex := 124, attributes := #[] }, { accessFlags := 25, nameIndex := 136, descriptorIndex := 124, attributes := #[] }])
  fields := #[{ name := "SIOOBE_FORMATTER", type := (.object "java/util/function/BiFunction"), accessFlags := 25, slot := 0, constantValue := 0 }, { name := "AIOOBE_FORMATTER", type := (.object "java/util/function/BiFunction"), accessFlags := 25, slot := 1, constantValue := 0 }, { name := "IOOBE_FORMATTER", type := (.object "java/util/function/BiFunction"), accessFlags := 25, slot := 2, constantValue := 0 }]
  methods := #[k17m0]
  instanceTypes := #[]
  staticTypes := #[(.object "java/util/function/BiFunction"), (.object "java/util/function/BiFunction"), (.object "java/util/function/BiFunction")]
  resolved := Array.replicate 194 none
  statics := some 2 }

def pool18 : Array CpInfo := pool [(9, u "<init>"), (6, .class_ 18), (1, u "java/lang/Object"), (0, u "()V"), (1, .class_ 23), (1, u "jdk/internal/util/ArraysSupport"), (0, u "LOG2_ARRAY_LONG_INDEX_SCALE"), (0, u "I"), (2, u "U"), (0, u "Ljdk/internal/misc/Unsafe;"), (8, u "BIG_ENDIAN"), (0, u "Z"), (8, u "LOG2_BYTE_BIT_SIZE"), (4, u "LOG2_ARRAY_INT_INDEX_SCALE"), (54, u "JLA"), (0, u "Ljdk/internal/access/JavaLangAccess;"), (11, u "LOG2_ARRAY_BOOLEAN_INDEX_SCALE"), (9, u "LOG2_ARRAY_BYTE_INDEX_SCALE"), (5, u "LOG2_ARRAY_CHAR_INDEX_SCALE"), (5, u "LOG2_ARRAY_SHORT_INDEX_SCALE"), (18, u "LOG2_ARRAY_FLOAT_INDEX_SCALE"), (24, u "LOG2_ARRAY_DOUBLE_INDEX_SCALE"), (89, u "T_BOOLEAN"), (2, u "T_CHAR"), (1, u "T_FLOAT"), (1, u "T_DOUBLE"), (1, u "T_BYTE"), (1, u "T_SHORT"), (1, u "T_INT"), (1, u "T_LONG"), (1, u "SOFT_MAX_ARRAY_LENGTH")] 83

def k18m0 : Method := { name := "<init>", desc := "()V", sig := { parameters := [], returnType := none }, accessFlags := 2, code := none }
/-- jdk/internal/util/ArraysSupport -/
def k18 : Class := { plain "jdk/internal/util/ArraysSupport" (some 0) with
  accessFlags := 33
  interfaces := #[]
  cf := some (fileOf pool18 21 #[] #[{ accessFlags := 2, nameIndex := 9, descriptorIndex := 19, attributes := #[] }] 33 16 #[] #[{ accessFlags := 24, nameIndex := 28, descriptorIndex := 29, attributes := #[] }, { accessFlags := 26, nameIndex := 38, descriptorIndex := 39, attributes := #[] }, { accessFlags := 25, nameIndex := 121, descriptorIndex := 25, attributes := #[] }, { accessFlags := 25, nameIndex := 131, descriptorIndex := 25, attributes := #[] }, { accessFlags := 25, nameIndex := 137, descriptorIndex := 25, attributes := #[] }, { accessFlags := 25, nameIndex := 143, descriptorIndex := 25, attributes := #[] }, { accessFlags := 25, nameIndex := 53, descriptorIndex := 25, attributes := #[] }, { accessFlags := 25, nameIndex := 24, descriptorIndex := 25, attributes := #[] }, { accessFlags := 25, nameIndex := 162, descriptorIndex := 25, attributes := #[] }, { accessFlags := 25, nameIndex := 187, descriptorIndex := 25, attributes := #[] }, { accessFlags := 26, nameIndex := 48, descriptorIndex := 25, attributes := #[] }, { accessFlags := 25, nameIndex := 277, descriptorIndex := 25, attributes := #[] }, { accessFlags := 25, nameIndex := 280, descriptorIndex := 25, attributes := #[] }, { accessFlags := 25, nameIndex := 282, descriptorIndex := 25, attributes := #[] }, { accessFlags := 25, nameIndex := 284, descriptorIndex := 25, attributes := #[] }, { accessFlags := 25, nameIndex := 286, descriptorIndex := 25, attributes := #[] }, { accessFlags := 25, nameIndex := 288, descriptorIndex := 25, attributes := #[] }, { accessFlags := 25, nameIndex := 290, descriptorIndex := 25, attributes := #[] }, { accessFlags := 25, nameIndex := 292, descriptorIndex := 25, attributes := #[] }, { accessFlags := 26, nameIndex := 108, descriptorIndex := 109, attributes := #[] }, { accessFlags := 25, nameIndex := 294, descriptorIndex := 25, attributes := #[] }])
  fields := #[{ name := "U", type := (.object "jdk/internal/misc/Unsafe"), accessFlags := 24, slot := 0, constantValue := 0 }, { name := "BIG_ENDIAN", type := .boolean, accessFlags := 26, slot := 1, constantValue := 0 }, { name := "LOG2_ARRAY_BOOLEAN_INDEX_SCALE", type := .int, accessFlags := 25, slot := 2, constantValue := 0 }, { name := "LOG2_ARRAY_BYTE_INDEX_SCALE", type := .int, accessFlags := 25, slot := 3, constantValue := 0 }, { name := "LOG2_ARRAY_CHAR_INDEX_SCALE", type := .int, accessFlags := 25, slot := 4, constantValue := 0 }, { name := "LOG2_ARRAY_SHORT_INDEX_SCALE", type := .int, accessFlags := 25, slot := 5, constantValue := 0 }, { name := "LOG2_ARRAY_INT_INDEX_SCALE", type := .int, accessFlags := 25, slot := 6, constantValue := 0 }, { name := "LOG2_ARRAY_LONG_INDEX_SCALE", type := .int, accessFlags := 25, slot := 7, constantValue := 0 }, { name := "LOG2_ARRAY_FLOAT_INDEX_SCALE", type := .int, accessFlags := 25, slot := 8, constantValue := 0 }, { name := "LOG2_ARRAY_DOUBLE_INDEX_SCALE", type := .int, accessFlags := 25, slot := 9, constantValue := 0 }, { name := "LOG2_BYTE_BIT_SIZE", type := .int, accessFlags := 26, slot := 10, constantValue := 0 }, { name := "T_BOOLEAN", type := .int, accessFlags := 25, slot := 11, constantValue := 0 }, { name := "T_CHAR", type := .int, accessFlags := 25, slot := 12, constantValue := 0 }, { name := "T_FLOAT", type := .int, accessFlags := 25, slot := 13, constantValue := 0 }, { name := "T_DOUBLE", type := .int, accessFlags := 25, slot := 14, constantValue := 0 }, { name := "T_BYTE", type := .int, accessFlags := 25, slot := 15, constantValue := 0 }, { name := "T_SHORT", type := .int, accessFlags := 25, slot := 16, constantValue := 0 }, { name := "T_INT", type := .int, accessFlags := 25, slot := 17, constantValue := 0 }, { name := "T_LONG", type := .int, accessFlags := 25, slot := 18, constantValue := 0 }, { name := "JLA", type := (.object "jdk/internal/access/JavaLangAccess"), accessFlags := 26, slot := 19, constantValue := 0 }, { name := "SOFT_MAX_ARRAY_LENGTH", type := .int, accessFlags := 25, slot := 20, constantValue := 0 }]
  methods := #[k18m0]
  instanceTypes := #[]
  staticTypes := #[(.object "jdk/internal/misc/Unsafe"), .boolean, .int, .int, .int, .int, .int, .int, .int, .int, .int, .int, .int, .int, .int, .int, .int, .int, .int, (.object "jdk/internal/access/JavaLangAccess"), .int]
  resolved := Array.replicate 378 none
  statics := none }

/-- the primitive byte -/
def k19 : Class := { plain "byte" none with kind := .primitive 'B', accessFlags := 0x411 }
/-- [B -/
def k20 : Class := { plain "[B" (some 0) with kind := .array 19 .byte, interfaces := #[15, 7], accessFlags := 1041 }

/-- the primitive char -/
def k21 : Class := { plain "char" none with kind := .primitive 'C', accessFlags := 0x411 }
/-- [C -/
def k22 : Class := { plain "[C" (some 0) with kind := .array 21 .char, interfaces := #[15, 7], accessFlags := 1041 }

/-- the primitive int -/
def k23 : Class := { plain "int" none with kind := .primitive 'I', accessFlags := 0x411 }
/-- [I -/
def k24 : Class := { plain "[I" (some 0) with kind := .array 23 .int, interfaces := #[15, 7], accessFlags := 1041 }

def heap : Heap := #[{ cls := 3, slots := #[.ref 3], vm := .statics 3 },
  { cls := 12, slots := #[.long 0, .int 1, .null, .int 0, .null, .int 0, .int 0], vm := .statics 12 },
  { cls := 17, slots := #[.null, .null, .null], vm := .statics 17 },
  { cls := 22, slots := #[.int 65, .int 66, .int 67, .int 68, .int 69, .int 70, .int 71, .int 72, .int 73, .int 74, .int 75, .int 76, .int 77, .int 78, .int 79, .int 80, .int 81, .int 82, .int 83, .int 84, .int 85, .int 86, .int 87, .int 88, .int 89, .int 90, .int 50, .int 51, .int 52, .int 53, .int 54, .int 55], vm := .none }]
def classes : Array Class := #[k0, k1, k2, k3, k4, k5, k6, k7, k8, k9, k10, k11, k12, k13, k14, k15, k16, k17, k18, k19, k20, k21, k22, k23, k24]
def interned : List (Array UInt16 × Addr) := []
def slotsUsed : Nat := 43
def theMethod : MethodId := ⟨1, 3⟩
def args0 : Array Value := #[.long 5, .int 6, .int 7]
def aboutOver (below : List Frame) : State where
  vm := { classes := classes, interned := interned.toArray }
  heap := heap
  slotsUsed := slotsUsed
  threads := #[{ frames := .invoking theMethod args0 :: below }]
def below0 : List Frame := [.native { method := ⟨0, 0⟩, args := #[] }]
def about1 : State := aboutOver below0
def p0 : Program := .bare "" "" ""
def e0 : Env := launch0.env 0 0 0
theorem w_frames : about1.frames = Frame.invoking theMethod args0 :: below0 := rfl
set_option maxRecDepth 65536 in
theorem w_args : argsFit about1.vm theMethod args0 = true := by decide +kernel
set_option maxRecDepth 65536 in
theorem w_heap : heapFits about1 = true := by decide +kernel
set_option maxRecDepth 65536 in
theorem w_runnable : about1.curStatus? = some .runnable := by decide +kernel
set_option maxRecDepth 65536 in
theorem w_alone : about1.alone = true := by decide +kernel
set_option maxRecDepth 65536 in
theorem w_named : about1.methodNamed? x = some theMethod := by decide +kernel
set_option maxRecDepth 65536 in
theorem w_hears : about1.hears theMethod below0 = true := by decide +kernel
set_option maxRecDepth 65536 in
theorem w_ripe : about1.ripe theMethod args0 below0 = true := by decide +kernel
theorem w_running : about1.status = .running := rfl
set_option maxRecDepth 65536 in
theorem w_room : about1.hasRoom e0.platform room_1 = true :=
  launch0.hasRoom_least _ room_1 (by decide +kernel) (by decide +kernel) (by decide +kernel) (by decide +kernel) (by decide +kernel) (by decide +kernel)
theorem allAtoms_all (ts : List Jvm.Cond) (a : Array Jvm.Value) (st : Jvm.State) : (allAtoms ts).before a st = ts.all (fun c => c.before a st) := by
  induction ts with
  | nil => rfl
  | cons c t ih =>
    show (Jvm.Cond.and c (allAtoms t)).before a st = _
    rw [Jvm.Cond.before_and, ih, List.all_cons]
def words1 : List Jvm.Cond := Jvm.Cond.code x code maxLocals ret :: tables_1
/-- a 'code' word, met by the world's own term for the bytes: nothing is compared byte by byte -/
theorem code_word {y : MethodName} {bytes : ByteArray} {mx : Nat} {rt : Option FieldType} {a : Array Value} {s : State} {m : MethodId} {meth : Method} {c : Code} (h1 : s.methodNamed? y = some m) (h2 : s.vm.method? m = some meth) (h3 : meth.code = some c) (h4 : c.code = bytes)
    (h5 : (c.maxLocals == mx && c.exceptionTable.isEmpty && decide (c.maxStack ≤ mostOperands) && decide (meth.sig.returnType = rt) && !meth.locks && decide (parseMethodDescriptor y.desc = some meth.sig)) = true) : (Jvm.Cond.code y bytes mx rt).before a s = true := by
  simp only [Bool.and_eq_true, beq_iff_eq, Bool.not_eq_true', decide_eq_true_eq] at h5
  obtain ⟨⟨⟨⟨⟨g1, g2⟩, g3⟩, g4⟩, g5⟩, g6⟩ := h5
  simp [Cond.before, Cond.holds, Cond.value, h1, h2, h3, h4, g1, g2, g3, g4, g5, g6]
def isCode : Jvm.Cond → Bool
  | .code _ _ _ _ => true
  | _ => false
theorem all_split {L : List Jvm.Cond} {P : Jvm.Cond → Bool} (h1 : L.all (fun c => isCode c || P c) = true) (h2 : ∀ c ∈ L.filter isCode, P c = true) : L.all P = true := by
  refine List.all_eq_true.mpr fun c hc => ?_
  have h := List.all_eq_true.mp h1 c hc
  rcases Bool.eq_false_or_eq_true (isCode c) with hi | hi
  · exact h2 c (List.mem_filter.mpr ⟨hc, hi⟩)
  · simpa [hi] using h
set_option maxRecDepth 65536 in
theorem w_c0 : (Jvm.Cond.code x code maxLocals ret).before args0 about1 = true := code_word (m := ⟨1, 3⟩) (meth := k1m3) (c := k1c3) (by decide +kernel) rfl rfl rfl (by decide +kernel)
set_option maxRecDepth 65536 in
theorem w_c1 : (Jvm.Cond.code ({ cls := "java/lang/Math", name := "min", desc := "(II)I" } : Jvm.MethodName) jdk_29_method_69_code (2 : Nat) (Option.some Jvm.ClassFile.FieldType.int)).before args0 about1 = true := code_word (m := ⟨2, 1⟩) (meth := k2m1) (c := k2c1) (by decide +kernel) rfl rfl rfl (by decide +kernel)
set_option maxRecDepth 65536 in
theorem w_c2 : (Jvm.Cond.code ({ cls := "com/example/grawl/grawl/util/Base32", name := "encode", desc := "([B)Ljava/lang/String;" } : Jvm.MethodName) prog_8_method_2_code (8 : Nat) (Option.some (Jvm.ClassFile.FieldType.object "java/lang/String"))).before args0 about1 = true := code_word (m := ⟨3, 1⟩) (meth := k3m1) (c := k3c1) (by decide +kernel) rfl rfl rfl (by decide +kernel)
set_option maxRecDepth 65536 in
theorem w_c3 : (Jvm.Cond.code ({ cls := "java/lang/StringBuilder", name := "<init>", desc := "(I)V" } : Jvm.MethodName) jdk_67_method_2_code (2 : Nat) (Option.none : Option Jvm.ClassFile.FieldType)).before args0 about1 = true := code_word (m := ⟨9, 1⟩) (meth := k9m1) (c := k9c1) (by decide +kernel) rfl rfl rfl (by decide +kernel)
set_option maxRecDepth 65536 in
theorem w_c4 : (Jvm.Cond.code ({ cls := "java/lang/AbstractStringBuilder", name := "<init>", desc := "(I)V" } : Jvm.MethodName) jdk_68_method_2_code (2 : Nat) (Option.none : Option Jvm.ClassFile.FieldType)).before args0 about1 = true := code_word (m := ⟨6, 1⟩) (meth := k6m1) (c := k6c1) (by decide +kernel) rfl rfl rfl (by decide +kernel)
set_option maxRecDepth 65536 in
theorem w_c5 : (Jvm.Cond.code ({ cls := "java/lang/Object", name := "<init>", desc := "()V" } : Jvm.MethodName) object_method_1_code (1 : Nat) (Option.none : Option Jvm.ClassFile.FieldType)).before args0 about1 = true := code_word (m := ⟨0, 0⟩) (meth := k0m0) (c := k0c0) (by decide +kernel) rfl rfl rfl (by decide +kernel)
set_option maxRecDepth 65536 in
theorem w_c6 : (Jvm.Cond.code ({ cls := "java/lang/StringBuilder", name := "append", desc := "(C)Ljava/lang/StringBuilder;" } : Jvm.MethodName) jdk_67_method_14_code (2 : Nat) (Option.some (Jvm.ClassFile.FieldType.object "java/lang/StringBuilder"))).before args0 about1 = true := code_word (m := ⟨9, 2⟩) (meth := k9m2) (c := k9c2) (by decide +kernel) rfl rfl rfl (by decide +kernel)
set_option maxRecDepth 65536 in
theorem w_c7 : (Jvm.Cond.code ({ cls := "java/lang/AbstractStringBuilder", name := "append", desc := "(C)Ljava/lang/AbstractStringBuilder;" } : Jvm.MethodName) jdk_68_method_31_code (2 : Nat) (Option.some (Jvm.ClassFile.FieldType.object "java/lang/AbstractStringBuilder"))).before args0 about1 = true := code_word (m := ⟨6, 4⟩) (meth := k6m4) (c := k6c4) (by decide +kernel) rfl rfl rfl (by decide +kernel)
set_option maxRecDepth 65536 in
theorem w_c8 : (Jvm.Cond.code ({ cls := "java/lang/AbstractStringBuilder", name := "ensureCapacityInternal", desc := "(I)V" } : Jvm.MethodName) jdk_68_method_9_code (3 : Nat) (Option.none : Option Jvm.ClassFile.FieldType)).before args0 about1 = true := code_word (m := ⟨6, 3⟩) (meth := k6m3) (c := k6c3) (by decide +kernel) rfl rfl rfl (by decide +kernel)
set_option maxRecDepth 65536 in
theorem w_c9 : (Jvm.Cond.code ({ cls := "java/lang/AbstractStringBuilder", name := "isLatin1", desc := "()Z" } : Jvm.MethodName) jdk_68_method_68_code (1 : Nat) (Option.some Jvm.ClassFile.FieldType.boolean)).before args0 about1 = true := code_word (m := ⟨6, 6⟩) (meth := k6m6) (c := k6c6) (by decide +kernel) rfl rfl rfl (by decide +kernel)
set_option maxRecDepth 65536 in
theorem w_c10 : (Jvm.Cond.code ({ cls := "java/lang/StringLatin1", name := "canEncode", desc := "(C)Z" } : Jvm.MethodName) jdk_43_method_3_code (1 : Nat) (Option.some Jvm.ClassFile.FieldType.boolean)).before args0 about1 = true := code_word (m := ⟨13, 1⟩) (meth := k13m1) (c := k13c1) (by decide +kernel) rfl rfl rfl (by decide +kernel)
set_option maxRecDepth 65536 in
theorem w_c11 : (Jvm.Cond.code ({ cls := "java/lang/StringBuilder", name := "length", desc := "()I" } : Jvm.MethodName) jdk_67_method_93_code (1 : Nat) (Option.some Jvm.ClassFile.FieldType.int)).before args0 about1 = true := code_word (m := ⟨9, 4⟩) (meth := k9m4) (c := k9c4) (by decide +kernel) rfl rfl rfl (by decide +kernel)
set_option maxRecDepth 65536 in
theorem w_c12 : (Jvm.Cond.code ({ cls := "java/lang/AbstractStringBuilder", name := "length", desc := "()I" } : Jvm.MethodName) jdk_68_method_6_code (1 : Nat) (Option.some Jvm.ClassFile.FieldType.int)).before args0 about1 = true := code_word (m := ⟨6, 2⟩) (meth := k6m2) (c := k6c2) (by decide +kernel) rfl rfl rfl (by decide +kernel)
set_option maxRecDepth 65536 in
theorem w_c13 : (Jvm.Cond.code ({ cls := "java/lang/StringBuilder", name := "toString", desc := "()Ljava/lang/String;" } : Jvm.MethodName) jdk_67_method_42_code (1 : Nat) (Option.some (Jvm.ClassFile.FieldType.object "java/lang/String"))).before args0 about1 = true := code_word (m := ⟨9, 3⟩) (meth := k9m3) (c := k9c3) (by decide +kernel) rfl rfl rfl (by decide +kernel)
set_option maxRecDepth 65536 in
theorem w_c14 : (Jvm.Cond.code ({ cls := "java/lang/String", name := "<init>", desc := "(Ljava/lang/StringBuilder;)V" } : Jvm.MethodName) jdk_42_method_53_code (2 : Nat) (Option.none : Option Jvm.ClassFile.FieldType)).before args0 about1 = true := code_word (m := ⟨12, 2⟩) (meth := k12m2) (c := k12c2) (by decide +kernel) rfl rfl rfl (by decide +kernel)
set_option maxRecDepth 65536 in
theorem w_c15 : (Jvm.Cond.code ({ cls := "java/lang/String", name := "<init>", desc := "(Ljava/lang/AbstractStringBuilder;Ljava/lang/Void;)V" } : Jvm.MethodName) jdk_42_method_150_code (5 : Nat) (Option.none : Option Jvm.ClassFile.FieldType)).before args0 about1 = true := code_word (m := ⟨12, 6⟩) (meth := k12m6) (c := k12c6) (by decide +kernel) rfl rfl rfl (by decide +kernel)
set_option maxRecDepth 65536 in
theorem w_c16 : (Jvm.Cond.code ({ cls := "java/lang/AbstractStringBuilder", name := "getValue", desc := "()[B" } : Jvm.MethodName) jdk_68_method_64_code (1 : Nat) (Option.some (Jvm.ClassFile.FieldType.array Jvm.ClassFile.FieldType.byte))).before args0 about1 = true := code_word (m := ⟨6, 5⟩) (meth := k6m5) (c := k6c5) (by decide +kernel) rfl rfl rfl (by decide +kernel)
set_option maxRecDepth 65536 in
theorem w_c17 : (Jvm.Cond.code ({ cls := "java/util/Arrays", name := "copyOfRange", desc := "([BII)[B" } : Jvm.MethodName) jdk_65_method_132_code (3 : Nat) (Option.some (Jvm.ClassFile.FieldType.array Jvm.ClassFile.FieldType.byte))).before args0 about1 = true := code_word (m := ⟨14, 1⟩) (meth := k14m1) (c := k14c1) (by decide +kernel) rfl rfl rfl (by decide +kernel)
set_option maxRecDepth 65536 in
theorem w_c18 : (Jvm.Cond.code ({ cls := "com/example/grawl/grawl/util/Base32EncodePinLaw", name := "sym", desc := "(JII)C" } : Jvm.MethodName) method_3_code (4 : Nat) (Option.some Jvm.ClassFile.FieldType.char)).before args0 about1 = true := code_word (m := ⟨1, 2⟩) (meth := k1m2) (c := k1c2) (by decide +kernel) rfl rfl rfl (by decide +kernel)
set_option maxRecDepth 65536 in
theorem w_c19 : (Jvm.Cond.code ({ cls := "com/example/grawl/grawl/util/Base32EncodePinLaw", name := "alpha", desc := "(I)C" } : Jvm.MethodName) method_2_code (1 : Nat) (Option.some Jvm.ClassFile.FieldType.char)).before args0 about1 = true := code_word (m := ⟨1, 1⟩) (meth := k1m1) (c := k1c1) (by decide +kernel) rfl rfl rfl (by decide +kernel)
set_option maxRecDepth 65536 in
theorem w_c20 : (Jvm.Cond.code ({ cls := "java/lang/String", name := "<init>", desc := "([C)V" } : Jvm.MethodName) jdk_42_method_3_code (2 : Nat) (Option.none : Option Jvm.ClassFile.FieldType)).before args0 about1 = true := code_word (m := ⟨12, 1⟩) (meth := k12m1) (c := k12c1) (by decide +kernel) rfl rfl rfl (by decide +kernel)
set_option maxRecDepth 65536 in
theorem w_c21 : (Jvm.Cond.code ({ cls := "java/lang/String", name := "<init>", desc := "([CIILjava/lang/Void;)V" } : Jvm.MethodName) jdk_42_method_149_code (6 : Nat) (Option.none : Option Jvm.ClassFile.FieldType)).before args0 about1 = true := code_word (m := ⟨12, 5⟩) (meth := k12m5) (c := k12c5) (by decide +kernel) rfl rfl rfl (by decide +kernel)
set_option maxRecDepth 65536 in
theorem w_c22 : (Jvm.Cond.code ({ cls := "java/lang/StringUTF16", name := "compress", desc := "([CII)[B" } : Jvm.MethodName) jdk_52_method_16_code (6 : Nat) (Option.some (Jvm.ClassFile.FieldType.array Jvm.ClassFile.FieldType.byte))).before args0 about1 = true := code_word (m := ⟨16, 2⟩) (meth := k16m2) (c := k16c2) (by decide +kernel) rfl rfl rfl (by decide +kernel)
set_option maxRecDepth 65536 in
theorem w_c23 : (Jvm.Cond.code ({ cls := "java/lang/StringUTF16", name := "compress", desc := "([CI[BII)I" } : Jvm.MethodName) jdk_52_method_21_code (7 : Nat) (Option.some Jvm.ClassFile.FieldType.int)).before args0 about1 = true := code_word (m := ⟨16, 3⟩) (meth := k16m3) (c := k16c3) (by decide +kernel) rfl rfl rfl (by decide +kernel)
set_option maxRecDepth 65536 in
theorem w_c24 : (Jvm.Cond.code ({ cls := "java/lang/StringUTF16", name := "coderFromArrayLen", desc := "([BI)B" } : Jvm.MethodName) jdk_52_method_15_code (2 : Nat) (Option.some Jvm.ClassFile.FieldType.byte)).before args0 about1 = true := code_word (m := ⟨16, 1⟩) (meth := k16m1) (c := k16c1) (by decide +kernel) rfl rfl rfl (by decide +kernel)
set_option maxRecDepth 65536 in
theorem w_c25 : (Jvm.Cond.code ({ cls := "java/lang/String", name := "equals", desc := "(Ljava/lang/Object;)Z" } : Jvm.MethodName) jdk_42_method_66_code (3 : Nat) (Option.some Jvm.ClassFile.FieldType.boolean)).before args0 about1 = true := code_word (m := ⟨12, 4⟩) (meth := k12m4) (c := k12c4) (by decide +kernel) rfl rfl rfl (by decide +kernel)
set_option maxRecDepth 65536 in
theorem w_c26 : (Jvm.Cond.code ({ cls := "java/lang/StringLatin1", name := "equals", desc := "([B[B)Z" } : Jvm.MethodName) jdk_43_method_13_code (3 : Nat) (Option.some Jvm.ClassFile.FieldType.boolean)).before args0 about1 = true := code_word (m := ⟨13, 2⟩) (meth := k13m2) (c := k13c2) (by decide +kernel) rfl rfl rfl (by decide +kernel)
set_option maxRecDepth 65536 in
theorem w_c27 : (Jvm.Cond.code ({ cls := "java/lang/String", name := "isEmpty", desc := "()Z" } : Jvm.MethodName) jdk_42_method_55_code (1 : Nat) (Option.some Jvm.ClassFile.FieldType.boolean)).before args0 about1 = true := code_word (m := ⟨12, 3⟩) (meth := k12m3) (c := k12c3) (by decide +kernel) rfl rfl rfl (by decide +kernel)
def codes1 : List Jvm.Cond := [Jvm.Cond.code x code maxLocals ret, Jvm.Cond.code ({ cls := "java/lang/Math", name := "min", desc := "(II)I" } : Jvm.MethodName) jdk_29_method_69_code (2 : Nat) (Option.some Jvm.ClassFile.FieldType.int), Jvm.Cond.code ({ cls := "com/example/grawl/grawl/util/Base32", name := "encode", desc := "([B)Ljava/lang/String;" } : Jvm.MethodName) prog_8_method_2_code (8 : Nat) (Option.some (Jvm.ClassFile.FieldType.object "java/lang/String")), Jvm.Cond.code ({ cls := "java/lang/StringBuilder", name := "<init>", desc := "(I)V" } : Jvm.MethodName) jdk_67_method_2_code (2 : Nat) (Option.none : Option Jvm.ClassFile.FieldType), Jvm.Cond.code ({ cls := "java/lang/AbstractStringBuilder", name := "<init>", desc := "(I)V" } : Jvm.MethodName) jdk_68_method_2_code (2 : Nat) (Option.none : Option Jvm.ClassFile.FieldType), Jvm.Cond.code ({ cls := "java/lang/Object", name := "<init>", desc := "()V" } : Jvm.MethodName) object_method_1_code (1 : Nat) (Option.none : Option Jvm.ClassFile.FieldType), Jvm.Cond.code ({ cls := "java/lang/StringBuilder", name := "append", desc := "(C)Ljava/lang/StringBuilder;" } : Jvm.MethodName) jdk_67_method_14_code (2 : Nat) (Option.some (Jvm.ClassFile.FieldType.object "java/lang/StringBuilder")), Jvm.Cond.code ({ cls := "java/lang/AbstractStringBuilder", name := "append", desc := "(C)Ljava/lang/AbstractStringBuilder;" } : Jvm.MethodName) jdk_68_method_31_code (2 : Nat) (Option.some (Jvm.ClassFile.FieldType.object "java/lang/AbstractStringBuilder")), Jvm.Cond.code ({ cls := "java/lang/AbstractStringBuilder", name := "ensureCapacityInternal", desc := "(I)V" } : Jvm.MethodName) jdk_68_method_9_code (3 : Nat) (Option.none : Option Jvm.ClassFile.FieldType), Jvm.Cond.code ({ cls := "java/lang/AbstractStringBuilder", name := "isLatin1", desc := "()Z" } : Jvm.MethodName) jdk_68_method_68_code (1 : Nat) (Option.some Jvm.ClassFile.FieldType.boolean), Jvm.Cond.code ({ cls := "java/lang/StringLatin1", name := "canEncode", desc := "(C)Z" } : Jvm.MethodName) jdk_43_method_3_code (1 : Nat) (Option.some Jvm.ClassFile.FieldType.boolean), Jvm.Cond.code ({ cls := "java/lang/StringBuilder", name := "length", desc := "()I" } : Jvm.MethodName) jdk_67_method_93_code (1 : Nat) (Option.some Jvm.ClassFile.FieldType.int), Jvm.Cond.code ({ cls := "java/lang/AbstractStringBuilder", name := "length", desc := "()I" } : Jvm.MethodName) jdk_68_method_6_code (1 : Nat) (Option.some Jvm.ClassFile.FieldType.int), Jvm.Cond.code ({ cls := "java/lang/StringBuilder", name := "toString", desc := "()Ljava/lang/String;" } : Jvm.MethodName) jdk_67_method_42_code (1 : Nat) (Option.some (Jvm.ClassFile.FieldType.object "java/lang/String")), Jvm.Cond.code ({ cls := "java/lang/String", name := "<init>", desc := "(Ljava/lang/StringBuilder;)V" } : Jvm.MethodName) jdk_42_method_53_code (2 : Nat) (Option.none : Option Jvm.ClassFile.FieldType), Jvm.Cond.code ({ cls := "java/lang/String", name := "<init>", desc := "(Ljava/lang/AbstractStringBuilder;Ljava/lang/Void;)V" } : Jvm.MethodName) jdk_42_method_150_code (5 : Nat) (Option.none : Option Jvm.ClassFile.FieldType), Jvm.Cond.code ({ cls := "java/lang/AbstractStringBuilder", name := "getValue", desc := "()[B" } : Jvm.MethodName) jdk_68_method_64_code (1 : Nat) (Option.some (Jvm.ClassFile.FieldType.array Jvm.ClassFile.FieldType.byte)), Jvm.Cond.code ({ cls := "java/util/Arrays", name := "copyOfRange", desc := "([BII)[B" } : Jvm.MethodName) jdk_65_method_132_code (3 : Nat) (Option.some (Jvm.ClassFile.FieldType.array Jvm.ClassFile.FieldType.byte)), Jvm.Cond.code ({ cls := "com/example/grawl/grawl/util/Base32EncodePinLaw", name := "sym", desc := "(JII)C" } : Jvm.MethodName) method_3_code (4 : Nat) (Option.some Jvm.ClassFile.FieldType.char), Jvm.Cond.code ({ cls := "com/example/grawl/grawl/util/Base32EncodePinLaw", name := "alpha", desc := "(I)C" } : Jvm.MethodName) method_2_code (1 : Nat) (Option.some Jvm.ClassFile.FieldType.char), Jvm.Cond.code ({ cls := "java/lang/String", name := "<init>", desc := "([C)V" } : Jvm.MethodName) jdk_42_method_3_code (2 : Nat) (Option.none : Option Jvm.ClassFile.FieldType), Jvm.Cond.code ({ cls := "java/lang/String", name := "<init>", desc := "([CIILjava/lang/Void;)V" } : Jvm.MethodName) jdk_42_method_149_code (6 : Nat) (Option.none : Option Jvm.ClassFile.FieldType), Jvm.Cond.code ({ cls := "java/lang/StringUTF16", name := "compress", desc := "([CII)[B" } : Jvm.MethodName) jdk_52_method_16_code (6 : Nat) (Option.some (Jvm.ClassFile.FieldType.array Jvm.ClassFile.FieldType.byte)), Jvm.Cond.code ({ cls := "java/lang/StringUTF16", name := "compress", desc := "([CI[BII)I" } : Jvm.MethodName) jdk_52_method_21_code (7 : Nat) (Option.some Jvm.ClassFile.FieldType.int), Jvm.Cond.code ({ cls := "java/lang/StringUTF16", name := "coderFromArrayLen", desc := "([BI)B" } : Jvm.MethodName) jdk_52_method_15_code (2 : Nat) (Option.some Jvm.ClassFile.FieldType.byte), Jvm.Cond.code ({ cls := "java/lang/String", name := "equals", desc := "(Ljava/lang/Object;)Z" } : Jvm.MethodName) jdk_42_method_66_code (3 : Nat) (Option.some Jvm.ClassFile.FieldType.boolean), Jvm.Cond.code ({ cls := "java/lang/StringLatin1", name := "equals", desc := "([B[B)Z" } : Jvm.MethodName) jdk_43_method_13_code (3 : Nat) (Option.some Jvm.ClassFile.FieldType.boolean), Jvm.Cond.code ({ cls := "java/lang/String", name := "isEmpty", desc := "()Z" } : Jvm.MethodName) jdk_42_method_55_code (1 : Nat) (Option.some Jvm.ClassFile.FieldType.boolean)]
set_option maxRecDepth 65536 in
theorem codes_eq : words1.filter isCode = codes1 := rfl
theorem w_codes : ∀ c ∈ words1.filter isCode, c.before args0 about1 = true := by
  rw [codes_eq]
  intro c hc
  simp only [codes1, List.mem_cons, List.not_mem_nil, or_false] at hc
  rcases hc with rfl | rfl | rfl | rfl | rfl | rfl | rfl | rfl | rfl | rfl | rfl | rfl | rfl | rfl | rfl | rfl | rfl | rfl | rfl | rfl | rfl | rfl | rfl | rfl | rfl | rfl | rfl | rfl
  · exact w_c0
  · exact w_c1
  · exact w_c2
  · exact w_c3
  · exact w_c4
  · exact w_c5
  · exact w_c6
  · exact w_c7
  · exact w_c8
  · exact w_c9
  · exact w_c10
  · exact w_c11
  · exact w_c12
  · exact w_c13
  · exact w_c14
  · exact w_c15
  · exact w_c16
  · exact w_c17
  · exact w_c18
  · exact w_c19
  · exact w_c20
  · exact w_c21
  · exact w_c22
  · exact w_c23
  · exact w_c24
  · exact w_c25
  · exact w_c26
  · exact w_c27
set_option maxRecDepth 65536 in
theorem w_t1 : (words1.take 24).all (fun c => isCode c || c.before args0 about1) = true := by decide +kernel
set_option maxRecDepth 65536 in
theorem w_t2 : ((words1.drop 24).take 24).all (fun c => isCode c || c.before args0 about1) = true := by decide +kernel
set_option maxRecDepth 65536 in
theorem w_t3 : (((words1.drop 24).drop 24).take 24).all (fun c => isCode c || c.before args0 about1) = true := by decide +kernel
set_option maxRecDepth 65536 in
theorem w_t4 : ((((words1.drop 24).drop 24).drop 24).take 24).all (fun c => isCode c || c.before args0 about1) = true := by decide +kernel
set_option maxRecDepth 65536 in
theorem w_t5 : (((((words1.drop 24).drop 24).drop 24).drop 24).take 24).all (fun c => isCode c || c.before args0 about1) = true := by decide +kernel
set_option maxRecDepth 65536 in
theorem w_t6 : ((((((words1.drop 24).drop 24).drop 24).drop 24).drop 24).take 24).all (fun c => isCode c || c.before args0 about1) = true := by decide +kernel
set_option maxRecDepth 65536 in
theorem w_t7 : ((((((words1.drop 24).drop 24).drop 24).drop 24).drop 24).drop 24).all (fun c => isCode c || c.before args0 about1) = true := by decide +kernel
theorem w_tables : (allAtoms (Jvm.Cond.code x code maxLocals ret :: tables_1)).before args0 about1 = true := by
  rw [allAtoms_all]
  show words1.all (fun c => c.before args0 about1) = true
  refine all_split ?_ w_codes
  rw [← List.take_append_drop 24 words1, List.all_append, w_t1, ← List.take_append_drop 24 (words1.drop 24), List.all_append, w_t2, ← List.take_append_drop 24 ((words1.drop 24).drop 24), List.all_append, w_t3, ← List.take_append_drop 24 (((words1.drop 24).drop 24).drop 24), List.all_append, w_t4, ← List.take_append_drop 24 ((((words1.drop 24).drop 24).drop 24).drop 24), List.all_append, w_t5, ← List.take_append_drop 24 (((((words1.drop 24).drop 24).drop 24).drop 24).drop 24), List.all_append, w_t6, w_t7]
  rfl
set_option maxRecDepth 65536 in
theorem w_rest : rest_1_c.before args0 about1 = true := by decide +kernel
set_option maxRecDepth 65536 in
theorem w_case : (Jvm.Cond.and given_1 narrow_1).before args0 about1 = true := by decide +kernel
theorem w_applies : (headSpec (Jvm.Cond.code x code maxLocals ret :: tables_1) room_1).applies x e0.platform about1 = true :=
  (Spec.applies_iff w_frames).mpr ⟨w_running, w_runnable, w_alone, w_named, w_hears, w_ripe, w_room, w_tables⟩
theorem atStart : AtStart classFile x code maxLocals ret World_1 tables_1 room_1 Calls_1 rest_1 Pre_1 launch0 p0 e0 about1 theMethod args0 below0 :=
  ⟨lists_1, trivial, launch0.admits_env _ _ _, launch0.least_env, fairChoices_fair.cas, fairChoices_fair.clock, w_frames, w_args, w_heap, w_applies, trivial, w_rest, w_case⟩
end start1
theorem witness_1 : WitnessClaimed_1 := ⟨start1.p0, start1.e0, start1.about1, start1.theMethod, start1.args0, start1.below0, start1.atStart⟩
end Jvm.Pilot.@@N@@
