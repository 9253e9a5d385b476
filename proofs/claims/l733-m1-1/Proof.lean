import JvmDerived
import JvmDerived.Pilot.@@N@@Statement
import JvmDerived.Pilot.@@N@@Code
set_option linter.unusedVariables false
set_option linter.unusedSimpArgs false
/- laws to paste: Road.backV (cut by pick.py; bodies as the Statement names them) -/
namespace Jvm.Pilot.@@N@@
namespace StrChars
open Jvm Sem ClassFile Op Lib Jvm.Stand Jvm.Free.XT Jvm.Free.ALB Jvm.Free.JM Jvm.Free
open Jvm.Lib.Cold (StaticIs)
/-- a char array whose places are chars -/
def Ch (a : Addr) (A : Cell) (U : State) : Prop := Arr .char a A U ∧ Typed .char A
theorem Ch.mv {a : Addr} {A : Cell} {U U' : State} (h : Ch a A U) (hal : U.vm.Alike U'.vm) (hh : U'.heap = U.heap) : Ch a A U' := ⟨h.1.mv hal hh, h.2⟩
theorem Ch.keep {a : Addr} {A : Cell} {U U' : State} (h : Ch a A U) (hal : U.vm.Alike U'.vm) (hk : U'.heap[a]? = some A) : Ch a A U' := ⟨h.1.keep hal hk, h.2⟩
/-- what place i of a char[]'s cell holds -/
def cv (A : Cell) (i : Nat) : Int32 := match A.slots[i]? with | some (.int x) => x | _ => 0
theorem Ch.get {a : Addr} {A : Cell} {U : State} (h : Ch a A U) {i : Nat} (hi : i < A.slots.size) : A.slots[i]? = some (.int (cv A i)) := by
  have e := Array.getElem?_eq_getElem hi
  have f := h.2 i _ e
  unfold cv; rw [e]
  generalize A.slots[i] = v at f
  cases v <;> simp [fits] at f ⊢
/-- the byte that i2b leaves of a char -/
def lo8 (x : Int32) : Int32 := x.toInt8.toInt32
theorem fits_lo8 (y : Int32) : fits .byte (.int (lo8 y)) = true := by
  have h1 := y.toInt8.le_toInt
  have h2 := y.toInt8.toInt_lt
  simp only [lo8, fits, Bool.and_eq_true, decide_eq_true_eq, Int32.le_iff_toInt_le, Int8.toInt_toInt32, show (-128 : Int32).toInt = -128 from by decide, show (127 : Int32).toInt = 127 from by decide]
  omega
/-- A' is A but that each place j of lo .. hi - 1 holds f j -/
def Laid (A A' : Cell) (lo hi : Nat) (f : Nat → Value) : Prop := A'.cls = A.cls ∧ A'.vm = A.vm ∧ A'.slots.size = A.slots.size ∧ ∀ i, A'.slots[i]? = if lo ≤ i ∧ i < hi then some (f i) else A.slots[i]?
theorem Laid.zero (A : Cell) (lo : Nat) (f : Nat → Value) : Laid A A lo (lo + 0) f := ⟨rfl, rfl, rfl, fun i => by rw [if_neg (by omega)]⟩
theorem Laid.step {A Ak : Cell} {lo k : Nat} {f : Nat → Value} {v : Value} (h : Laid A Ak lo k f) (hlo : lo ≤ k) (hk : k < Ak.slots.size) (hv : v = f k) : Laid A (Ak.setSlot k v) lo (k + 1) f := by
  refine ⟨h.1, h.2.1, by simpa [Cell.setSlot] using h.2.2.1, fun i => ?_⟩
  by_cases e : k = i
  · subst e; rw [Cell.slots_setSlot_self v hk, if_pos (by omega), hv]
  · rw [Cell.slots_setSlot_ne v e, h.2.2.2 i]
    by_cases q : lo ≤ i ∧ i < k
    · rw [if_pos q, if_pos (by omega)]
    · rw [if_neg q, if_neg (by omega)]
def U16 : String := "java/lang/StringUTF16"
namespace Cmp5
def yN : MethodName := ⟨"java/lang/StringUTF16", "compress", "([CI[BII)I"⟩
abbrev yB : ByteArray := jdk_52_method_21_code
theorem d0 : decode yB 0 = .ok (.iconst 0, 1) := by decide +kernel
theorem d1 : decode yB 1 = .ok (.istore 5, 2) := by decide +kernel
theorem d3 : decode yB 3 = .ok (.iload 5, 2) := by decide +kernel
theorem d5 : decode yB 5 = .ok (.iload 4, 2) := by decide +kernel
theorem d7 : decode yB 7 = .ok (.if_icmp (.ge) 37, 3) := by decide +kernel
theorem d10 : decode yB 10 = .ok (.aload_n 0, 1) := by decide +kernel
theorem d11 : decode yB 11 = .ok (.iload_n 1, 1) := by decide +kernel
theorem d12 : decode yB 12 = .ok (.caload, 1) := by decide +kernel
theorem d13 : decode yB 13 = .ok (.istore 6, 2) := by decide +kernel
theorem d15 : decode yB 15 = .ok (.iload 6, 2) := by decide +kernel
theorem d17 : decode yB 17 = .ok (.sipush 255, 3) := by decide +kernel
theorem d20 : decode yB 20 = .ok (.if_icmp (.le) 6, 3) := by decide +kernel
theorem d26 : decode yB 26 = .ok (.aload_n 2, 1) := by decide +kernel
theorem d27 : decode yB 27 = .ok (.iload_n 3, 1) := by decide +kernel
theorem d28 : decode yB 28 = .ok (.iload 6, 2) := by decide +kernel
theorem d30 : decode yB 30 = .ok (.i2b, 1) := by decide +kernel
theorem d31 : decode yB 31 = .ok (.bastore, 1) := by decide +kernel
theorem d32 : decode yB 32 = .ok (.iinc 1 1, 3) := by decide +kernel
theorem d35 : decode yB 35 = .ok (.iinc 3 1, 3) := by decide +kernel
theorem d38 : decode yB 38 = .ok (.iinc 5 1, 3) := by decide +kernel
theorem d41 : decode yB 41 = .ok (.goto (-38), 3) := by decide +kernel
theorem d44 : decode yB 44 = .ok (.iload 4, 2) := by decide +kernel
theorem d46 : decode yB 46 = .ok (.ireturn, 1) := by decide +kernel
def site : List Cond := []
def tab : Cond := tabOf yN yB 7 (some .int) site
def P (b : Addr) (A : Cell) (d : Addr) (B : Cell) (o q len : Nat) (args : Array Value) (s : State) : Prop := args = #[.ref b, .int (Int32.ofNat o), .ref d, .int (Int32.ofNat q), .int (Int32.ofNat len)] ∧ Ch b A s ∧ Arr .byte d B s ∧ b ≠ d ∧ o + len ≤ A.slots.size ∧ q + len ≤ B.slots.size ∧ ∀ i, i < len → ¬ 255 < cv A (o + i)
def E (b : Addr) (A : Cell) (d : Addr) (B : Cell) (o q len : Nat) (r : Option Value) (s u : State) : Prop := r = some (.int (Int32.ofNat len)) ∧ ∃ B', Put d B' s u ∧ Laid B B' q (q + len) (fun j => Value.int (lo8 (cv A (o + (j - q)))))
/-- no char of the range above 255: len; the places written hold each char's low byte -/
theorem law (l : Launch) (b : Addr) (A : Cell) (d : Addr) (B : Cell) (o q len : Nat) : Law l yN 5 5 0 0 yB 7 (some .int) site (P b A d B o q len) (E b A d B o q len) (copyLocs d q len) 0 0 := by
  refine Law.of_walk (plainFor_of_name (by decide +kernel)) (by decide +kernel) (by decide +kernel) (by decide) (fun _ _ h => by rw [h.1]; rfl) (fun _ U U' hal hh h => ⟨h.1, h.2.1.mv hal hh, h.2.2.1.mv hal hh, h.2.2.2⟩) (fun r U U' V V' h1 hal h2 h => ⟨h.1, h.2.elim fun B' q => ⟨B', q.1.mv h1 h2, q.2⟩⟩) ?_
  intro p e s m args below meth c s₁ X0 hexec hbytes hml hret hlk hnm hown hh0 W hP
  obtain ⟨rfl, hA, hB, hne, l1, l2, hp⟩ := hP
  have c1 : Steps p.tables e below (s₁.setTop (entryFrame m #[.ref b, .int (Int32.ofNat o), .ref d, .int (Int32.ofNat q), .int (Int32.ofNat len)] 7)) (s₁.setTop (mkF m 0 #[.val (.ref b), .val (.int (Int32.ofNat o)), .val (.ref d), .val (.int (Int32.ofNat q)), .val (.int (Int32.ofNat len)), .unset, .unset] [])) := entry rfl
  have hA0 := hA.1.mv X0.warmed.alike hh0
  have hB0 := hB.mv X0.warmed.alike hh0
  have a31 := hA.1.2.2.2
  have c2 : Steps p.tables e below (s₁.setTop (entryFrame m #[.ref b, .int (Int32.ofNat o), .ref d, .int (Int32.ofNat q), .int (Int32.ofNat len)] 7)) (s₁.setTop (mkF m 3 #[.val (.ref b), .val (.int (Int32.ofNat o)), .val (.ref d), .val (.int (Int32.ofNat q)), .val (.int (Int32.ofNat len)), .val (.int 0), .unset] [])) := c1.trans (by
    refine iconstV X0.here hexec rfl 0 (hb hbytes d0) (by decide) ?_
    refine XS.istore X0.here hexec rfl (hb hbytes d1) rfl rfl ?_
    exact Steps.refl _)
  have loop : ∀ (r i : Nat), i + r = len → ∀ (z : Slot), (z = .unset ∨ ∃ w, z = .val w ∧ w.category = 1) → ∀ (Tl : State) (Bk : Cell), Stand p l e { frames := 0, locals := 0, cells := 0, slots := 0 } s m #[.ref b, .int (Int32.ofNat o), .ref d, .int (Int32.ofNat q), .int (Int32.ofNat len)] below meth c Tl ([] ++ copyLocs d q i) 0 0 → Put d Bk s₁ Tl → Laid B Bk q (q + i) (fun j => Value.int (lo8 (cv A (o + (j - q))))) →
      Steps p.tables e below (s₁.setTop (entryFrame m #[.ref b, .int (Int32.ofNat o), .ref d, .int (Int32.ofNat q), .int (Int32.ofNat len)] 7)) (Tl.setTop (mkF m 3 #[.val (.ref b), .val (.int (Int32.ofNat (o + i))), .val (.ref d), .val (.int (Int32.ofNat (q + i))), .val (.int (Int32.ofNat len)), .val (.int (Int32.ofNat i)), z] [])) → ∃ (T' : State) (B' : Cell) (z' : Slot), Stand p l e { frames := 0, locals := 0, cells := 0, slots := 0 } s m #[.ref b, .int (Int32.ofNat o), .ref d, .int (Int32.ofNat q), .int (Int32.ofNat len)] below meth c T' ([] ++ copyLocs d q len) 0 0 ∧ Put d B' s₁ T' ∧ Laid B B' q (q + len) (fun j => Value.int (lo8 (cv A (o + (j - q))))) ∧
      Steps p.tables e below (s₁.setTop (entryFrame m #[.ref b, .int (Int32.ofNat o), .ref d, .int (Int32.ofNat q), .int (Int32.ofNat len)] 7)) (T'.setTop (mkF m 3 #[.val (.ref b), .val (.int (Int32.ofNat (o + len))), .val (.ref d), .val (.int (Int32.ofNat (q + len))), .val (.int (Int32.ofNat len)), .val (.int (Int32.ofNat len)), z'] [])) := by
    intro r
    induction r with
    | zero =>
      intro i hi z hz Tl Bk Xl pl fl cl
      have hil : i = len := by omega
      rw [hil] at Xl fl cl
      exact ⟨Tl, Bk, z, Xl, pl, fl, cl⟩
    | succ r ih =>
      intro i hi z hz Tl Bk Xl pl fl cl
      have all := X0.warmed.alike.symm.trans Xl.warmed.alike
      have hAl := hA0.keep all (pl.other hne hA0.1)
      have hBk := hB0.like all pl.1 fl.1 fl.2.1 fl.2.2.1
      have hlt : q + i < Bk.slots.size := by rw [fl.2.2.1]; omega
      have c3 : Steps p.tables e below (s₁.setTop (entryFrame m #[.ref b, .int (Int32.ofNat o), .ref d, .int (Int32.ofNat q), .int (Int32.ofNat len)] 7)) (Tl.setTop (mkF m 12 #[.val (.ref b), .val (.int (Int32.ofNat (o + i))), .val (.ref d), .val (.int (Int32.ofNat (q + i))), .val (.int (Int32.ofNat len)), .val (.int (Int32.ofNat i)), z] [.int (Int32.ofNat (o + i)), .ref b])) := cl.trans (by
        refine XS.iload Xl.here hexec rfl (hb hbytes d3) rfl ?_
        refine XS.iload Xl.here hexec rfl (hb hbytes d5) rfl ?_
        refine XS.icmpNo Xl.here hexec rfl (hb hbytes d7) rfl (ii_ge_f (lt32 (by omega) (by omega))) ?_
        refine XS.aloadN Xl.here hexec rfl (hb hbytes d10) rfl rfl ?_
        refine XS.iloadN Xl.here hexec rfl (hb hbytes d11) rfl ?_
        exact Steps.refl _)
      have c4 : Steps p.tables e below (s₁.setTop (entryFrame m #[.ref b, .int (Int32.ofNat o), .ref d, .int (Int32.ofNat q), .int (Int32.ofNat len)] 7)) (Tl.setTop (mkF m 13 #[.val (.ref b), .val (.int (Int32.ofNat (o + i))), .val (.ref d), .val (.int (Int32.ofNat (q + i))), .val (.int (Int32.ofNat len)), .val (.int (Int32.ofNat i)), z] [.int (cv A (o + i))])) := c3.trans (by
        refine Xl.aget hexec hAl rfl (hA.get (i := o + i) (by omega)) rfl rfl (hb hbytes d12) ?_
        exact Steps.refl _)
      have c5 : Steps p.tables e below (s₁.setTop (entryFrame m #[.ref b, .int (Int32.ofNat o), .ref d, .int (Int32.ofNat q), .int (Int32.ofNat len)] 7)) (Tl.setTop (mkF m 15 #[.val (.ref b), .val (.int (Int32.ofNat (o + i))), .val (.ref d), .val (.int (Int32.ofNat (q + i))), .val (.int (Int32.ofNat len)), .val (.int (Int32.ofNat i)), .val (.int (cv A (o + i)))] [])) := c4.trans (by
        refine XS.istoreS Xl.here hexec rfl (hb hbytes d13) rfl rfl hz ?_
        exact Steps.refl _)
      have c6 : Steps p.tables e below (s₁.setTop (entryFrame m #[.ref b, .int (Int32.ofNat o), .ref d, .int (Int32.ofNat q), .int (Int32.ofNat len)] 7)) (Tl.setTop (mkF m 31 #[.val (.ref b), .val (.int (Int32.ofNat (o + i))), .val (.ref d), .val (.int (Int32.ofNat (q + i))), .val (.int (Int32.ofNat len)), .val (.int (Int32.ofNat i)), .val (.int (cv A (o + i)))] [.int (lo8 (cv A (o + i))), .int (Int32.ofNat (q + i)), .ref d])) := c5.trans (by
        refine XS.iload Xl.here hexec rfl (hb hbytes d15) rfl ?_
        refine sipushV Xl.here hexec rfl 255 (hb hbytes d17) (by decide) ?_
        refine XS.icmpYes Xl.here hexec rfl (pc0 := 20) rfl (hb hbytes d20) rfl (ii_le_t (hp i (by omega))) (by decide) rfl ?_
        refine XS.aloadN Xl.here hexec rfl (hb hbytes d26) rfl rfl ?_
        refine XS.iloadN Xl.here hexec rfl (hb hbytes d27) rfl ?_
        refine XS.iload Xl.here hexec rfl (hb hbytes d28) rfl ?_
        refine i2b Xl.here hexec rfl (hb hbytes d30) rfl ?_
        exact Steps.refl _)
      obtain ⟨T7, X7, p7, st7⟩ := Xl.aput hexec hBk rfl hlt rfl (fits_lo8 (cv A (o + i))) (g := (mkF m 31 #[.val (.ref b), .val (.int (Int32.ofNat (o + i))), .val (.ref d), .val (.int (Int32.ofNat (q + i))), .val (.int (Int32.ofNat len)), .val (.int (Int32.ofNat i)), .val (.int (cv A (o + i)))] [.int (lo8 (cv A (o + i))), .int (Int32.ofNat (q + i)), .ref d])) rfl (rest := []) rfl (hb hbytes d31)
      have c8 : Steps p.tables e below (s₁.setTop (entryFrame m #[.ref b, .int (Int32.ofNat o), .ref d, .int (Int32.ofNat q), .int (Int32.ofNat len)] 7)) (T7.setTop (mkF m 32 #[.val (.ref b), .val (.int (Int32.ofNat (o + i))), .val (.ref d), .val (.int (Int32.ofNat (q + i))), .val (.int (Int32.ofNat len)), .val (.int (Int32.ofNat i)), .val (.int (cv A (o + i)))] [])) := c6.trans (st7 _ (Steps.refl _))
      have c9 : Steps p.tables e below (s₁.setTop (entryFrame m #[.ref b, .int (Int32.ofNat o), .ref d, .int (Int32.ofNat q), .int (Int32.ofNat len)] 7)) (T7.setTop (mkF m 3 #[.val (.ref b), .val (.int (Int32.ofNat (o + i) + 1)), .val (.ref d), .val (.int (Int32.ofNat (q + i) + 1)), .val (.int (Int32.ofNat len)), .val (.int (Int32.ofNat i + 1)), .val (.int (cv A (o + i)))] [])) := c8.trans (by
        refine iincV X7.here hexec rfl 1 (hb hbytes d32) (by decide) rfl rfl ?_
        refine iincV X7.here hexec rfl 1 (hb hbytes d35) (by decide) rfl rfl ?_
        refine iincV X7.here hexec rfl 1 (hb hbytes d38) (by decide) rfl rfl ?_
        refine XS.goto X7.here hexec rfl (pc0 := 41) rfl (hb hbytes d41) (by decide) rfl ?_
        exact Steps.refl _)
      have c10 : Steps p.tables e below (s₁.setTop (entryFrame m #[.ref b, .int (Int32.ofNat o), .ref d, .int (Int32.ofNat q), .int (Int32.ofNat len)] 7)) (T7.setTop (mkF m 3 #[.val (.ref b), .val (.int (Int32.ofNat (o + (i + 1)))), .val (.ref d), .val (.int (Int32.ofNat (q + (i + 1)))), .val (.int (Int32.ofNat len)), .val (.int (Int32.ofNat (i + 1))), .val (.int (cv A (o + i)))] [])) := by
        have := c9
        rw [succ32, succ32, succ32] at this
        exact this
      exact ih (i + 1) (by omega) _ (Or.inr ⟨_, rfl, rfl⟩) T7 _ (by rw [copyLocs_step, ← List.append_assoc]; exact X7) (pl.trans p7) (fl.step (by omega) hlt (by simp)) c10
  obtain ⟨T9, B9, z9, X9, p9, f9, g9⟩ := loop len 0 (by omega) .unset (Or.inl rfl) s₁ B (by simpa [copyLocs] using X0) ⟨hB0.1, fun _ _ => rfl, rfl⟩ (Laid.zero _ _ _) c2
  have c11 : Steps p.tables e below (s₁.setTop (entryFrame m #[.ref b, .int (Int32.ofNat o), .ref d, .int (Int32.ofNat q), .int (Int32.ofNat len)] 7)) (T9.setTop (mkF m 46 #[.val (.ref b), .val (.int (Int32.ofNat (o + len))), .val (.ref d), .val (.int (Int32.ofNat (q + len))), .val (.int (Int32.ofNat len)), .val (.int (Int32.ofNat len)), z9] [.int (Int32.ofNat len)])) := g9.trans (by
    refine XS.iload X9.here hexec rfl (hb hbytes d3) rfl ?_
    refine XS.iload X9.here hexec rfl (hb hbytes d5) rfl ?_
    refine XS.icmpYes X9.here hexec rfl (pc0 := 7) rfl (hb hbytes d7) rfl (ii_ge_t (nlt32 (by omega) (Nat.le_refl _))) (by decide) rfl ?_
    refine XS.iload X9.here hexec rfl (hb hbytes d44) rfl ?_
    exact Steps.refl _)
  exact ⟨T9, some (.int (Int32.ofNat len)), _, _, _, X9, by simp, rfl, rfl, (fun h => by cases h), ⟨rfl, B9, p9.from hh0, f9⟩, fun fs hl => c11.trans (X9.ireturnOut hexec hret rfl (Or.inl rfl) (hb hbytes d46) hl)⟩
end Cmp5
namespace Cmp3
def yN : MethodName := ⟨"java/lang/StringUTF16", "compress", "([CII)[B"⟩
abbrev yB : ByteArray := jdk_52_method_16_code
theorem d0 : decode yB 0 = .ok (.iload_n 2, 1) := by decide +kernel
theorem d1 : decode yB 1 = .ok (.newarray .byte, 2) := by decide +kernel
theorem d3 : decode yB 3 = .ok (.astore_n 3, 1) := by decide +kernel
theorem d4 : decode yB 4 = .ok (.aload_n 0, 1) := by decide +kernel
theorem d5 : decode yB 5 = .ok (.iload_n 1, 1) := by decide +kernel
theorem d6 : decode yB 6 = .ok (.aload_n 3, 1) := by decide +kernel
theorem d7 : decode yB 7 = .ok (.iconst 0, 1) := by decide +kernel
theorem d8 : decode yB 8 = .ok (.iload_n 2, 1) := by decide +kernel
theorem d9 : decode yB 9 = .ok (.invokestatic 115, 3) := by decide +kernel
theorem d12 : decode yB 12 = .ok (.istore 4, 2) := by decide +kernel
theorem d14 : decode yB 14 = .ok (.iload 4, 2) := by decide +kernel
theorem d16 : decode yB 16 = .ok (.iload_n 2, 1) := by decide +kernel
theorem d17 : decode yB 17 = .ok (.if_icmp (.eq) 40, 3) := by decide +kernel
theorem d57 : decode yB 57 = .ok (.aload_n 3, 1) := by decide +kernel
theorem d58 : decode yB 58 = .ok (.areturn, 1) := by decide +kernel
def site : List Cond := [.arrayClass .byte, Cmp5.tab] ++ staticW U16 115 Cmp5.yN
def tab : Cond := tabOf yN yB 6 (some (.array .byte)) site
def P (b : Addr) (A : Cell) (o len : Nat) (args : Array Value) (s : State) : Prop := args = #[.ref b, .int (Int32.ofNat o), .int (Int32.ofNat len)] ∧ Ch b A s ∧ o + len ≤ A.slots.size ∧ len ≤ 536870912 ∧ ∀ i, i < len → ¬ 255 < cv A (o + i)
def E (b : Addr) (A : Cell) (o len : Nat) (r : Option Value) (s u : State) : Prop := NewArr .byte "[B" len (fun j => .int (lo8 (cv A (o + j)))) r s u ∧ u.heap.size = s.heap.size + 1
/-- no char of the range above 255: a new byte[] of their low bytes -/
theorem law (l : Launch) (b : Addr) (A : Cell) (o len : Nat) : Law l yN 3 3 1 18 yB 6 (some (.array .byte)) site (P b A o len) (E b A o len) [] 1 len := by
  refine Law.of_walk (plainFor_of_name (by decide +kernel)) (by decide +kernel) (by decide +kernel) (by decide) (fun _ _ h => by rw [h.1]; rfl) (fun _ U U' hal hh h => ⟨h.1, h.2.1.mv hal hh, h.2.2⟩) (fun r U U' V V' h1 hal h2 h => ⟨NewArr.mv r U U' V V' h1 hal h2 h.1, by rw [h1, h2]; exact h.2⟩) ?_
  intro p e s m args below meth c s₁ X0 hexec hbytes hml hret hlk hnm hown hh0 W hP
  obtain ⟨rfl, hA, l1, l2, hp⟩ := hP
  have a31 := hA.1.2.2.2
  have c1 : Steps p.tables e below (s₁.setTop (entryFrame m #[.ref b, .int (Int32.ofNat o), .int (Int32.ofNat len)] 6)) (s₁.setTop (mkF m 0 #[.val (.ref b), .val (.int (Int32.ofNat o)), .val (.int (Int32.ofNat len)), .unset, .unset, .unset] [])) := entry rfl
  have c2 : Steps p.tables e below (s₁.setTop (entryFrame m #[.ref b, .int (Int32.ofNat o), .int (Int32.ofNat len)] 6)) (s₁.setTop (mkF m 1 #[.val (.ref b), .val (.int (Int32.ofNat o)), .val (.int (Int32.ofNat len)), .unset, .unset, .unset] [.int (Int32.ofNat len)])) := c1.trans (by
    refine XS.iloadN X0.here hexec rfl (hb hbytes d0) rfl ?_
    exact Steps.refl _)
  obtain ⟨T3, B3, X3, ba3, bs3, bv3, bh3, bf3, st3⟩ := X0.anew hexec (atype := .byte) (wk W (.arrayClass .byte)) rfl (by show len * 1 ≤ _; omega) (by omega) (g := (mkF m 1 #[.val (.ref b), .val (.int (Int32.ofNat o)), .val (.int (Int32.ofNat len)), .unset, .unset, .unset] [.int (Int32.ofNat len)])) rfl (hb hbytes d1) (rest := []) rfl (Nat.le_refl _) (by show 0 + len ≤ len; omega)
  rw [hh0] at ba3 st3
  have kp3 : XT.Kept s T3 := (XT.Kept.of_eq hh0).push bh3
  have hA3 := hA.keep X3.warmed.alike (kp3 _ _ hA.1.1)
  have hne : b ≠ s.heap.size := hA.1.ne
  have c4 : Steps p.tables e below (s₁.setTop (entryFrame m #[.ref b, .int (Int32.ofNat o), .int (Int32.ofNat len)] 6)) (T3.setTop (mkF m 3 #[.val (.ref b), .val (.int (Int32.ofNat o)), .val (.int (Int32.ofNat len)), .unset, .unset, .unset] [.ref s.heap.size])) := c2.trans (st3 _ (Steps.refl _))
  have c5 : Steps p.tables e below (s₁.setTop (entryFrame m #[.ref b, .int (Int32.ofNat o), .int (Int32.ofNat len)] 6)) (T3.setTop (mkF m 9 #[.val (.ref b), .val (.int (Int32.ofNat o)), .val (.int (Int32.ofNat len)), .val (.ref s.heap.size), .unset, .unset] [.int (Int32.ofNat len), .int 0, .ref s.heap.size, .int (Int32.ofNat o), .ref b])) := c4.trans (by
    refine XS.astoreN X3.here hexec rfl (hb hbytes d3) rfl rfl rfl ?_
    refine XS.aloadN X3.here hexec rfl (hb hbytes d4) rfl rfl ?_
    refine XS.iloadN X3.here hexec rfl (hb hbytes d5) rfl ?_
    refine XS.aloadN X3.here hexec rfl (hb hbytes d6) rfl rfl ?_
    refine iconstV X3.here hexec rfl 0 (hb hbytes d7) (by decide) ?_
    refine XS.iloadN X3.here hexec rfl (hb hbytes d8) rfl ?_
    exact Steps.refl _)
  obtain ⟨v6, T6, X6, E6, g6⟩ := X3.callS hexec (Cmp5.law l b A s.heap.size B3 o 0 len) hown (wks W (staticW U16 115 Cmp5.yN)) (wk W Cmp5.tab) (W := 0) (Nat.le_of_ble_eq_true rfl) (Nat.le_of_ble_eq_true rfl) (Nat.le_refl _) (by show 0 + len + 0 ≤ len; omega) (g := (mkF m 9 #[.val (.ref b), .val (.int (Int32.ofNat o)), .val (.int (Int32.ofNat len)), .val (.ref s.heap.size), .unset, .unset] [.int (Int32.ofNat len), .int (Int32.ofNat 0), .ref s.heap.size, .int (Int32.ofNat o), .ref b])) rfl (by rw [hml]; rfl) c5 (argsL := [.ref b, .int (Int32.ofNat o), .ref s.heap.size, .int (Int32.ofNat 0), .int (Int32.ofNat len)]) (rest := []) rfl rfl (by show 2 * 0 + 0 ≤ _; decide) (hb hbytes d9) (⟨rfl, hA3, ba3, hne, l1, by rw [bs3]; simp, hp⟩)
  obtain ⟨rfl, B6, p6, f6⟩ := E6
  have c7 : Steps p.tables e below (s₁.setTop (entryFrame m #[.ref b, .int (Int32.ofNat o), .int (Int32.ofNat len)] 6)) (T6.setTop (mkF m 12 #[.val (.ref b), .val (.int (Int32.ofNat o)), .val (.int (Int32.ofNat len)), .val (.ref s.heap.size), .unset, .unset] [.int (Int32.ofNat len)])) := g6
  have c8 : Steps p.tables e below (s₁.setTop (entryFrame m #[.ref b, .int (Int32.ofNat o), .int (Int32.ofNat len)] 6)) (T6.setTop (mkF m 58 #[.val (.ref b), .val (.int (Int32.ofNat o)), .val (.int (Int32.ofNat len)), .val (.ref s.heap.size), .val (.int (Int32.ofNat len)), .unset] [.ref s.heap.size])) := c7.trans (by
    refine XS.istore X6.here hexec rfl (hb hbytes d12) rfl rfl ?_
    refine XS.iload X6.here hexec rfl (hb hbytes d14) rfl ?_
    refine XS.iloadN X6.here hexec rfl (hb hbytes d16) rfl ?_
    refine XS.icmpYes X6.here hexec rfl (pc0 := 17) rfl (hb hbytes d17) rfl (ii_eq_t rfl) (by decide) rfl ?_
    refine XS.aloadN X6.here hexec rfl (hb hbytes d57) rfl rfl ?_
    exact Steps.refl _)
  have X8 := X6.wide (L' := []) (cells' := 1) (slots' := len) (fun x hx hlt => by
    simp only [List.nil_append, copyLocs, List.mem_map, List.mem_range] at hx
    obtain ⟨i, -, rfl⟩ := hx
    exact absurd hlt (Nat.lt_irrefl _)) (Nat.le_refl _) (by omega)
  exact ⟨T6, some (.ref s.heap.size), _, _, _, X8, rfl, rfl, rfl, (fun h => by cases h), ⟨⟨rfl, B6, ba3.like (X3.warmed.alike.symm.trans X6.warmed.alike) p6.1 f6.1 f6.2.1 f6.2.2.1, f6.2.1.trans bv3, by rw [X6.warmed.alike.findClass, f6.1]; exact bf3, by rw [f6.2.2.1, bs3]; simp, fun j hj => by rw [f6.2.2.2 j, if_pos (by omega)]; rfl, kp3.put p6 (Nat.le_refl _)⟩, by rw [p6.2.2, bh3, hh0]; simp⟩, fun fs hl => c8.trans (X8.areturnOut hexec rfl hret rfl (hb hbytes d58) hl)⟩
end Cmp3
namespace CodL
def yN : MethodName := ⟨"java/lang/StringUTF16", "coderFromArrayLen", "([BI)B"⟩
abbrev yB : ByteArray := jdk_52_method_15_code
theorem d0 : decode yB 0 = .ok (.iload_n 1, 1) := by decide +kernel
theorem d1 : decode yB 1 = .ok (.aload_n 0, 1) := by decide +kernel
theorem d2 : decode yB 2 = .ok (.arraylength, 1) := by decide +kernel
theorem d3 : decode yB 3 = .ok (.isub, 1) := by decide +kernel
theorem d4 : decode yB 4 = .ok (.bipush 31, 2) := by decide +kernel
theorem d6 : decode yB 6 = .ok (.iushr, 1) := by decide +kernel
theorem d7 : decode yB 7 = .ok (.i2b, 1) := by decide +kernel
theorem d8 : decode yB 8 = .ok (.ireturn, 1) := by decide +kernel
def site : List Cond := []
def tab : Cond := tabOf yN yB 2 (some .byte) site
def P (d : Addr) (B : Cell) (args : Array Value) (s : State) : Prop := args = #[.ref d, .int (Int32.ofNat B.slots.size)] ∧ Arr .byte d B s
def E (r : Option Value) (s u : State) : Prop := XT.PureE (some (.int 0)) r s u
/-- an array as long as the number of chars: LATIN1 -/
theorem law (l : Launch) (d : Addr) (B : Cell) : Law l yN 2 2 0 0 yB 2 (some .byte) site (P d B) E [] 0 0 := by
  refine Law.of_walk (plainFor_of_name (by decide +kernel)) (by decide +kernel) (by decide +kernel) (by decide) (fun _ _ h => by rw [h.1]; rfl) (fun _ U U' hal hh h => ⟨h.1, h.2.mv hal hh⟩) (fun r U U' V V' h1 hal h2 h => XT.PureE.mv r U U' V V' h1 hal h2 h) ?_
  intro p e s m args below meth c s₁ X0 hexec hbytes hml hret hlk hnm hown hh0 W hP
  obtain ⟨rfl, hB⟩ := hP
  have hB0 := hB.mv X0.warmed.alike hh0
  have c1 : Steps p.tables e below (s₁.setTop (entryFrame m #[.ref d, .int (Int32.ofNat B.slots.size)] 2)) (s₁.setTop (mkF m 0 #[.val (.ref d), .val (.int (Int32.ofNat B.slots.size))] [])) := entry rfl
  have c2 : Steps p.tables e below (s₁.setTop (entryFrame m #[.ref d, .int (Int32.ofNat B.slots.size)] 2)) (s₁.setTop (mkF m 2 #[.val (.ref d), .val (.int (Int32.ofNat B.slots.size))] [.ref d, .int (Int32.ofNat B.slots.size)])) := c1.trans (by
    refine XS.iloadN X0.here hexec rfl (hb hbytes d0) rfl ?_
    refine XS.aloadN X0.here hexec rfl (hb hbytes d1) rfl rfl ?_
    exact Steps.refl _)
  have c3 : Steps p.tables e below (s₁.setTop (entryFrame m #[.ref d, .int (Int32.ofNat B.slots.size)] 2)) (s₁.setTop (mkF m 8 #[.val (.ref d), .val (.int (Int32.ofNat B.slots.size))] [.int (lo8 (ushr (Int32.ofNat B.slots.size - Int32.ofNat B.slots.size) 31))])) := c2.trans (by
    refine X0.alen hexec hB0 rfl rfl (hb hbytes d2) ?_
    refine XS.isub X0.here hexec rfl (hb hbytes d3) rfl ?_
    refine bipushV X0.here hexec rfl 31 (hb hbytes d4) (by decide) ?_
    refine iushr X0.here hexec rfl (hb hbytes d6) rfl ?_
    refine i2b X0.here hexec rfl (hb hbytes d7) rfl ?_
    exact Steps.refl _)
  have e0 : lo8 (ushr (Int32.ofNat B.slots.size - Int32.ofNat B.slots.size) 31) = 0 := by rw [Int32.sub_self]; decide
  rw [e0] at c3
  exact ⟨s₁, some (.int 0), _, _, _, X0, rfl, rfl, rfl, (fun h => by cases h), ⟨rfl, hh0⟩, fun fs hl => c3.trans (X0.ireturnOut hexec hret rfl (Or.inr (Or.inr (Or.inl rfl))) (hb hbytes d8) hl)⟩
end CodL
/-- the String at a is Latin-1 over a new byte[] (the heap's one new cell): the low bytes of the len chars of A from o on; every cell but a is kept -/
def Got (a : Addr) (D : Cell) (fV fC : Field) (A : Cell) (o len : Nat) (r : Option Value) (s u : State) : Prop := r = none ∧ ∃ D' V : Cell, Blank "java/lang/String" a D' u ∧ Same D D' [fV.slot, fC.slot] ∧ D'.slots[fV.slot]? = some (.ref s.heap.size) ∧ D'.slots[fC.slot]? = some (.int 0) ∧ Arr .byte s.heap.size V u ∧ V.vm = .none ∧ u.vm.findClass "[B" = some V.cls ∧ V.slots.size = len ∧ (∀ j, j < len → V.slots[j]? = some (.int (lo8 (cv A (o + j))))) ∧ (∀ (y : Addr) (c : Cell), y ≠ a → s.heap[y]? = some c → u.heap[y]? = some c) ∧ u.heap.size = s.heap.size + 1
theorem Got.mv {a : Addr} {D A : Cell} {fV fC : Field} {o len : Nat} : ∀ r (U U' V V' : State), U'.heap = U.heap → V.vm.Alike V'.vm → V'.heap = V.heap → Got a D fV fC A o len r U V → Got a D fV fC A o len r U' V' :=
  fun r U U' V V' h1 hal h2 ⟨e0, D', X, a1, a2, a3, a4, a5, a6, a7, a8, a9, a10, a11⟩ => ⟨e0, D', X, a1.mv hal h2, a2, by rw [h1]; exact a3, a4, by rw [h1]; exact a5.mv hal h2, a6, by rw [hal.findClass]; exact a7, a8, a9, by rw [h1, h2]; exact a10, by rw [h1, h2]; exact a11⟩
namespace New4
def yN : MethodName := ⟨"java/lang/String", "<init>", "([CIILjava/lang/Void;)V"⟩
abbrev yB : ByteArray := jdk_42_method_149_code
theorem d0 : decode yB 0 = .ok (.aload_n 0, 1) := by decide +kernel
theorem d1 : decode yB 1 = .ok (.invokespecial 1, 3) := by decide +kernel
theorem d4 : decode yB 4 = .ok (.iload_n 3, 1) := by decide +kernel
theorem d5 : decode yB 5 = .ok (.ifCond (.ne) 22, 3) := by decide +kernel
theorem d27 : decode yB 27 = .ok (.getstatic 38, 3) := by decide +kernel
theorem d30 : decode yB 30 = .ok (.ifCond (.eq) 28, 3) := by decide +kernel
theorem d33 : decode yB 33 = .ok (.aload_n 1, 1) := by decide +kernel
theorem d34 : decode yB 34 = .ok (.iload_n 2, 1) := by decide +kernel
theorem d35 : decode yB 35 = .ok (.iload_n 3, 1) := by decide +kernel
theorem d36 : decode yB 36 = .ok (.invokestatic 177, 3) := by decide +kernel
theorem d39 : decode yB 39 = .ok (.astore 5, 2) := by decide +kernel
theorem d41 : decode yB 41 = .ok (.aload_n 0, 1) := by decide +kernel
theorem d42 : decode yB 42 = .ok (.aload 5, 2) := by decide +kernel
theorem d44 : decode yB 44 = .ok (.iload_n 3, 1) := by decide +kernel
theorem d45 : decode yB 45 = .ok (.invokestatic 47, 3) := by decide +kernel
theorem d48 : decode yB 48 = .ok (.putfield 15, 3) := by decide +kernel
theorem d51 : decode yB 51 = .ok (.aload_n 0, 1) := by decide +kernel
theorem d52 : decode yB 52 = .ok (.aload 5, 2) := by decide +kernel
theorem d54 : decode yB 54 = .ok (.putfield 9, 3) := by decide +kernel
theorem d57 : decode yB 57 = .ok (.return_, 1) := by decide +kernel
def site : List Cond := [.fieldLink "java/lang/String" 38 "java/lang/String" "COMPACT_STRINGS" "Z", Cmp3.tab, CodL.tab, .laysFinal "java/lang/String" "java/lang/String" "value" "[B", .fieldLink "java/lang/String" 9 "java/lang/String" "value" "[B", .laysFinal "java/lang/String" "java/lang/String" "coder" "B", .fieldLink "java/lang/String" 15 "java/lang/String" "coder" "B"] ++ objW "java/lang/String" 1 ++ staticW "java/lang/String" 177 Cmp3.yN ++ staticW "java/lang/String" 47 CodL.yN
def tab : Cond := tabOf yN yB 6 none site
def P (a : Addr) (D : Cell) (fV fC : Field) (b : Addr) (A : Cell) (z : Int32) (o len : Nat) (args : Array Value) (s : State) : Prop := args = #[.ref a, .ref b, .int (Int32.ofNat o), .int (Int32.ofNat len), .null] ∧ Blank "java/lang/String" a D s ∧ Found "java/lang/String" "value" "[B" fV s ∧ Found "java/lang/String" "coder" "B" fC s ∧ Ch b A s ∧ StaticIs s "java/lang/String" "COMPACT_STRINGS" "Z" (.int z) ∧ ¬ z = 0 ∧ 0 < len ∧ o + len ≤ A.slots.size ∧ len ≤ 536870912 ∧ ∀ i, i < len → ¬ 255 < cv A (o + i)
def E (a : Addr) (D : Cell) (fV fC : Field) (A : Cell) (o len : Nat) (r : Option Value) (s u : State) : Prop := Got a D fV fC A o len r s u
/-- len > 0, no char of the range above 255: a Latin-1 String of their low bytes -/
theorem law (l : Launch) (a : Addr) (D : Cell) (fV fC : Field) (b : Addr) (A : Cell) (z : Int32) (o len : Nat) : Law l yN 5 4 2 35 yB 6 none site (P a D fV fC b A z o len) (E a D fV fC A o len) [⟨a, fC.slot⟩, ⟨a, fV.slot⟩] 1 len := by
  refine Law.of_walk (plainFor_of_name (by decide +kernel)) (by decide +kernel) (by decide +kernel) (by decide) (fun _ _ h => by rw [h.1]; rfl) (fun _ U U' hal hh h => ⟨h.1, h.2.1.mv hal hh, h.2.2.1.al hal, h.2.2.2.1.al hal, h.2.2.2.2.1.mv hal hh, h.2.2.2.2.2.1.there hal hh, h.2.2.2.2.2.2⟩) (fun r U U' V V' h1 hal h2 h => Got.mv r U U' V V' h1 hal h2 h) ?_
  intro p e s m args below meth c s₁ X0 hexec hbytes hml hret hlk hnm hown hh0 W hP
  obtain ⟨rfl, hB, f1, f2, hA, s1, hz, l0, l1, l2, hp⟩ := hP
  have a31 := hA.1.2.2.2
  have c1 : Steps p.tables e below (s₁.setTop (entryFrame m #[.ref a, .ref b, .int (Int32.ofNat o), .int (Int32.ofNat len), .null] 6)) (s₁.setTop (mkF m 0 #[.val (.ref a), .val (.ref b), .val (.int (Int32.ofNat o)), .val (.int (Int32.ofNat len)), .val .null, .unset] [])) := entry rfl
  have c2 : Steps p.tables e below (s₁.setTop (entryFrame m #[.ref a, .ref b, .int (Int32.ofNat o), .int (Int32.ofNat len), .null] 6)) (s₁.setTop (mkF m 1 #[.val (.ref a), .val (.ref b), .val (.int (Int32.ofNat o)), .val (.int (Int32.ofNat len)), .val .null, .unset] [.ref a])) := c1.trans (by
    refine XS.aloadN X0.here hexec rfl (hb hbytes d0) rfl rfl ?_
    exact Steps.refl _)
  obtain ⟨T3, X3, q3, st3⟩ := X0.oinit hexec hown (wks W (objW "java/lang/String" 1)) (g := (mkF m 1 #[.val (.ref a), .val (.ref b), .val (.int (Int32.ofNat o)), .val (.int (Int32.ofNat len)), .val .null, .unset] [.ref a])) rfl (by rw [hml]; rfl) (rest := []) rfl (hb hbytes d1) (W := 0) (by show 2 * 0 + 0 ≤ _; decide) (Nat.le_of_ble_eq_true rfl) (Nat.le_of_ble_eq_true rfl)
  have hh3 := q3.trans hh0
  have c4 : Steps p.tables e below (s₁.setTop (entryFrame m #[.ref a, .ref b, .int (Int32.ofNat o), .int (Int32.ofNat len), .null] 6)) (T3.setTop (mkF m 27 #[.val (.ref a), .val (.ref b), .val (.int (Int32.ofNat o)), .val (.int (Int32.ofNat len)), .val .null, .unset] [])) := (c2.trans (st3 _ (Steps.refl _))).trans (by
    refine XS.iloadN X3.here hexec rfl (hb hbytes d4) rfl ?_
    refine XS.ifYes X3.here hexec rfl (pc0 := 5) rfl (hb hbytes d5) rfl (i0_ne_t (nz32 (by omega) l0)) (by decide) rfl ?_
    exact Steps.refl _)
  obtain ⟨T5, X5, q5, st5⟩ := X3.sget hexec hown (wk W (.fieldLink "java/lang/String" 38 "java/lang/String" "COMPACT_STRINGS" "Z")) s1 (fun _ _ h => by rw [hh3]; exact h) (g := (mkF m 27 #[.val (.ref a), .val (.ref b), .val (.int (Int32.ofNat o)), .val (.int (Int32.ofNat len)), .val .null, .unset] [])) rfl (hb hbytes d27)
  have hh5 := q5.trans hh3
  have c6 : Steps p.tables e below (s₁.setTop (entryFrame m #[.ref a, .ref b, .int (Int32.ofNat o), .int (Int32.ofNat len), .null] 6)) (T5.setTop (mkF m 30 #[.val (.ref a), .val (.ref b), .val (.int (Int32.ofNat o)), .val (.int (Int32.ofNat len)), .val .null, .unset] [.int z])) := c4.trans (st5 _ (Steps.refl _))
  have c7 : Steps p.tables e below (s₁.setTop (entryFrame m #[.ref a, .ref b, .int (Int32.ofNat o), .int (Int32.ofNat len), .null] 6)) (T5.setTop (mkF m 36 #[.val (.ref a), .val (.ref b), .val (.int (Int32.ofNat o)), .val (.int (Int32.ofNat len)), .val .null, .unset] [.int (Int32.ofNat len), .int (Int32.ofNat o), .ref b])) := c6.trans (by
    refine XS.ifNo X5.here hexec rfl (hb hbytes d30) rfl (i0_eq_f hz) ?_
    refine XS.aloadN X5.here hexec rfl (hb hbytes d33) rfl rfl ?_
    refine XS.iloadN X5.here hexec rfl (hb hbytes d34) rfl ?_
    refine XS.iloadN X5.here hexec rfl (hb hbytes d35) rfl ?_
    exact Steps.refl _)
  obtain ⟨v8, T8, X8, E8, g8⟩ := X5.callS hexec (Cmp3.law l b A o len) hown (wks W (staticW "java/lang/String" 177 Cmp3.yN)) (wk W Cmp3.tab) (W := 0) (Nat.le_of_ble_eq_true rfl) (Nat.le_of_ble_eq_true rfl) (Nat.le_refl _) (by show 0 + len ≤ len; omega) (g := (mkF m 36 #[.val (.ref a), .val (.ref b), .val (.int (Int32.ofNat o)), .val (.int (Int32.ofNat len)), .val .null, .unset] [.int (Int32.ofNat len), .int (Int32.ofNat o), .ref b])) rfl (by rw [hml]; rfl) c7 (argsL := [.ref b, .int (Int32.ofNat o), .int (Int32.ofNat len)]) (rest := []) rfl rfl (by show 2 * 0 + 0 ≤ _; decide) (hb hbytes d36) (⟨rfl, hA.mv X5.warmed.alike hh5, l1, l2, hp⟩)
  obtain ⟨e8, z8⟩ := E8
  obtain ⟨rfl, N, n1, n2, n3, n4, n5, n6⟩ := NewArr.mv _ T5 s _ _ hh5.symm (Vm.Alike.refl _) rfl e8
  rw [hh5] at z8
  have hB1 := hB.keep X8.warmed.alike (n6 _ _ hB.1)
  have hne : s.heap.size ≠ a := (Nat.ne_of_lt (Array.getElem?_eq_some_iff.mp hB.1).1).symm
  have c9 : Steps p.tables e below (s₁.setTop (entryFrame m #[.ref a, .ref b, .int (Int32.ofNat o), .int (Int32.ofNat len), .null] 6)) (T8.setTop (mkF m 39 #[.val (.ref a), .val (.ref b), .val (.int (Int32.ofNat o)), .val (.int (Int32.ofNat len)), .val .null, .unset] [.ref s.heap.size])) := g8
  have c10 : Steps p.tables e below (s₁.setTop (entryFrame m #[.ref a, .ref b, .int (Int32.ofNat o), .int (Int32.ofNat len), .null] 6)) (T8.setTop (mkF m 45 #[.val (.ref a), .val (.ref b), .val (.int (Int32.ofNat o)), .val (.int (Int32.ofNat len)), .val .null, .val (.ref s.heap.size)] [.int (Int32.ofNat N.slots.size), .ref s.heap.size, .ref a])) := by
    have hc : Steps p.tables e below (s₁.setTop (entryFrame m #[.ref a, .ref b, .int (Int32.ofNat o), .int (Int32.ofNat len), .null] 6)) (T8.setTop (mkF m 45 #[.val (.ref a), .val (.ref b), .val (.int (Int32.ofNat o)), .val (.int (Int32.ofNat len)), .val .null, .val (.ref s.heap.size)] [.int (Int32.ofNat len), .ref s.heap.size, .ref a])) := c9.trans (by
      refine XS.astore X8.here hexec rfl (hb hbytes d39) rfl rfl rfl ?_
      refine XS.aloadN X8.here hexec rfl (hb hbytes d41) rfl rfl ?_
      refine XS.aload X8.here hexec rfl (hb hbytes d42) rfl rfl ?_
      refine XS.iloadN X8.here hexec rfl (hb hbytes d44) rfl ?_
      exact Steps.refl _)
    rw [n4]; exact hc
  obtain ⟨v11, T11, X11, E11, g11⟩ := X8.callS hexec (CodL.law l s.heap.size N) hown (wks W (staticW "java/lang/String" 47 CodL.yN)) (wk W CodL.tab) (W := 1) (Nat.le_of_ble_eq_true rfl) (Nat.le_of_ble_eq_true rfl) (Nat.le_refl _) (by show 0 + len + 0 ≤ len; omega) (g := (mkF m 45 #[.val (.ref a), .val (.ref b), .val (.int (Int32.ofNat o)), .val (.int (Int32.ofNat len)), .val .null, .val (.ref s.heap.size)] [.int (Int32.ofNat N.slots.size), .ref s.heap.size, .ref a])) rfl (by rw [hml]; rfl) c10 (argsL := [.ref s.heap.size, .int (Int32.ofNat N.slots.size)]) (rest := [.ref a]) rfl rfl (by show 2 * 0 + (1 + 0) ≤ _; decide) (hb hbytes d45) (⟨rfl, n1⟩)
  obtain ⟨rfl, q11⟩ := E11
  have hB11 := hB1.mv (X8.warmed.alike.symm.trans X11.warmed.alike) q11
  have c12 : Steps p.tables e below (s₁.setTop (entryFrame m #[.ref a, .ref b, .int (Int32.ofNat o), .int (Int32.ofNat len), .null] 6)) (T11.setTop (mkF m 48 #[.val (.ref a), .val (.ref b), .val (.int (Int32.ofNat o)), .val (.int (Int32.ofNat len)), .val .null, .val (.ref s.heap.size)] [.int 0, .ref a])) := g11
  obtain ⟨T13, X13, p13, bl13, sl13, st13⟩ := X11.finit hexec hown (wk W (.fieldLink "java/lang/String" 15 "java/lang/String" "coder" "B")) (Or.inr ⟨_, (wk W (.laysFinal "java/lang/String" "java/lang/String" "coder" "B"))⟩) (Or.inl ⟨rfl, hnm⟩) f2 (Or.inl rfl) hB11 (t := .byte) (by decide +kernel) rfl (g := (mkF m 48 #[.val (.ref a), .val (.ref b), .val (.int (Int32.ofNat o)), .val (.int (Int32.ofNat len)), .val .null, .val (.ref s.heap.size)] [.int 0, .ref a])) rfl (rest := []) rfl (hb hbytes d48)
  have c14 : Steps p.tables e below (s₁.setTop (entryFrame m #[.ref a, .ref b, .int (Int32.ofNat o), .int (Int32.ofNat len), .null] 6)) (T13.setTop (mkF m 54 #[.val (.ref a), .val (.ref b), .val (.int (Int32.ofNat o)), .val (.int (Int32.ofNat len)), .val .null, .val (.ref s.heap.size)] [.ref s.heap.size, .ref a])) := (c12.trans (st13 _ (Steps.refl _))).trans (by
    refine XS.aloadN X13.here hexec rfl (hb hbytes d51) rfl rfl ?_
    refine XS.aload X13.here hexec rfl (hb hbytes d52) rfl rfl ?_
    exact Steps.refl _)
  obtain ⟨T15, X15, p15, bl15, sl15, st15⟩ := X13.finit hexec hown (wk W (.fieldLink "java/lang/String" 9 "java/lang/String" "value" "[B")) (Or.inr ⟨_, (wk W (.laysFinal "java/lang/String" "java/lang/String" "value" "[B"))⟩) (Or.inl ⟨rfl, hnm⟩) f1 (Or.inl rfl) bl13 (t := (.array .byte)) (by decide +kernel) rfl (g := (mkF m 54 #[.val (.ref a), .val (.ref b), .val (.int (Int32.ofNat o)), .val (.int (Int32.ofNat len)), .val .null, .val (.ref s.heap.size)] [.ref s.heap.size, .ref a])) rfl (rest := []) rfl (hb hbytes d54)
  have c16 : Steps p.tables e below (s₁.setTop (entryFrame m #[.ref a, .ref b, .int (Int32.ofNat o), .int (Int32.ofNat len), .null] 6)) (T15.setTop (mkF m 57 #[.val (.ref a), .val (.ref b), .val (.int (Int32.ofNat o)), .val (.int (Int32.ofNat len)), .val .null, .val (.ref s.heap.size)] [])) := c14.trans (st15 _ (Steps.refl _))
  have ap := apart (Or.inr ⟨_, (wk W (.laysFinal "java/lang/String" "java/lang/String" "value" "[B"))⟩) (Or.inr ⟨_, (wk W (.laysFinal "java/lang/String" "java/lang/String" "coder" "B"))⟩) f1 f2 (t₁ := .array .byte) (t₂ := .byte) (by decide +kernel) (by decide +kernel) (by decide)
  have al := X8.warmed.alike.symm.trans X15.warmed.alike
  have n7 : T11.heap[s.heap.size]? = some N := by rw [q11]; exact n1.1
  exact ⟨T15, none, _, _, _, X15, by simp, rfl, by omega, (fun _ => rfl), ⟨rfl, _, N, bl15, ((Same.refl D _).set _ (by simp)).set _ (by simp), sl15, (Cell.slots_setSlot_ne _ ap).trans sl13, n1.keep al (p15.other hne (p13.other hne n7)), n2, by rw [al.findClass]; exact n3, n4, n5, fun y c h1 h2 => p15.other h1 (p13.other h1 (by rw [q11]; exact n6 y c h2)), by rw [p15.2.2, p13.2.2, q11]; exact z8⟩, fun fs hl => c16.trans (X15.returnOut hexec hret (hb hbytes d57) hl)⟩
end New4
namespace New1
def yN : MethodName := ⟨"java/lang/String", "<init>", "([C)V"⟩
abbrev yB : ByteArray := jdk_42_method_3_code
theorem d0 : decode yB 0 = .ok (.aload_n 0, 1) := by decide +kernel
theorem d1 : decode yB 1 = .ok (.aload_n 1, 1) := by decide +kernel
theorem d2 : decode yB 2 = .ok (.iconst 0, 1) := by decide +kernel
theorem d3 : decode yB 3 = .ok (.aload_n 1, 1) := by decide +kernel
theorem d4 : decode yB 4 = .ok (.arraylength, 1) := by decide +kernel
theorem d5 : decode yB 5 = .ok (.aconst_null, 1) := by decide +kernel
theorem d6 : decode yB 6 = .ok (.invokespecial 27, 3) := by decide +kernel
theorem d9 : decode yB 9 = .ok (.return_, 1) := by decide +kernel
def site : List Cond := [New4.tab] ++ initW "java/lang/String" 27 New4.yN
def tab : Cond := tabOf yN yB 2 none site
def P (a : Addr) (D : Cell) (fV fC : Field) (b : Addr) (A : Cell) (z : Int32) (args : Array Value) (s : State) : Prop := args = #[.ref a, .ref b] ∧ Blank "java/lang/String" a D s ∧ Found "java/lang/String" "value" "[B" fV s ∧ Found "java/lang/String" "coder" "B" fC s ∧ Ch b A s ∧ StaticIs s "java/lang/String" "COMPACT_STRINGS" "Z" (.int z) ∧ ¬ z = 0 ∧ 0 < A.slots.size ∧ A.slots.size ≤ 536870912 ∧ ∀ i, i < A.slots.size → ¬ 255 < cv A i
def E (a : Addr) (D : Cell) (fV fC : Field) (A : Cell) (r : Option Value) (s u : State) : Prop := Got a D fV fC A 0 A.slots.size r s u
/-- new String(chars), not empty, no char above 255: a Latin-1 String of their low bytes -/
theorem law (l : Launch) (a : Addr) (D : Cell) (fV fC : Field) (b : Addr) (A : Cell) (z : Int32) : Law l yN 2 1 3 52 yB 2 none site (P a D fV fC b A z) (E a D fV fC A) [⟨a, fC.slot⟩, ⟨a, fV.slot⟩] 1 A.slots.size := by
  refine Law.of_walk (plainFor_of_name (by decide +kernel)) (by decide +kernel) (by decide +kernel) (by decide) (fun _ _ h => by rw [h.1]; rfl) (fun _ U U' hal hh h => ⟨h.1, h.2.1.mv hal hh, h.2.2.1.al hal, h.2.2.2.1.al hal, h.2.2.2.2.1.mv hal hh, h.2.2.2.2.2.1.there hal hh, h.2.2.2.2.2.2⟩) (fun r U U' V V' h1 hal h2 h => Got.mv r U U' V V' h1 hal h2 h) ?_
  intro p e s m args below meth c s₁ X0 hexec hbytes hml hret hlk hnm hown hh0 W hP
  obtain ⟨rfl, hB, f1, f2, hA, s1, hz, l0, l2, hp⟩ := hP
  have c1 : Steps p.tables e below (s₁.setTop (entryFrame m #[.ref a, .ref b] 2)) (s₁.setTop (mkF m 0 #[.val (.ref a), .val (.ref b)] [])) := entry rfl
  have c2 : Steps p.tables e below (s₁.setTop (entryFrame m #[.ref a, .ref b] 2)) (s₁.setTop (mkF m 6 #[.val (.ref a), .val (.ref b)] [.null, .int (Int32.ofNat A.slots.size), .int 0, .ref b, .ref a])) := c1.trans (by
    refine XS.aloadN X0.here hexec rfl (hb hbytes d0) rfl rfl ?_
    refine XS.aloadN X0.here hexec rfl (hb hbytes d1) rfl rfl ?_
    refine iconstV X0.here hexec rfl 0 (hb hbytes d2) (by decide) ?_
    refine XS.aloadN X0.here hexec rfl (hb hbytes d3) rfl rfl ?_
    refine X0.alen hexec (hA.1.mv X0.warmed.alike hh0) rfl rfl (hb hbytes d4) ?_
    refine XS.aconstNull X0.here hexec rfl (hb hbytes d5) ?_
    exact Steps.refl _)
  obtain ⟨v3, T3, X3, E3, g3⟩ := X0.callN hexec (New4.law l a D fV fC b A z 0 A.slots.size) rfl hown (wks W (initW "java/lang/String" 27 New4.yN)) (W New4.tab (by simp only [site, List.mem_cons, List.mem_append, true_or, or_true])) (W := 0) (Nat.le_of_ble_eq_true rfl) (Nat.le_of_ble_eq_true rfl) (Nat.le_refl _) (by show 0 + A.slots.size ≤ A.slots.size; omega) (g := (mkF m 6 #[.val (.ref a), .val (.ref b)] [.null, .int (Int32.ofNat A.slots.size), .int (Int32.ofNat 0), .ref b, .ref a])) rfl (by rw [hml]; rfl) c2 (argsL := [.ref b, .int (Int32.ofNat 0), .int (Int32.ofNat A.slots.size), .null]) (rest := []) rfl rfl (by show 2 * 0 + 0 ≤ _; decide) (hb hbytes d6) (⟨rfl, hB.mv X0.warmed.alike hh0, f1.al X0.warmed.alike, f2.al X0.warmed.alike, hA.mv X0.warmed.alike hh0, s1.there X0.warmed.alike hh0, hz, l0, by omega, l2, fun i hi => by rw [Nat.zero_add]; exact hp i hi⟩)
  have e0 := Got.mv _ s₁ s _ _ hh0.symm (Vm.Alike.refl _) rfl E3
  obtain rfl := e0.1
  have c4 : Steps p.tables e below (s₁.setTop (entryFrame m #[.ref a, .ref b] 2)) (T3.setTop (mkF m 9 #[.val (.ref a), .val (.ref b)] [])) := g3
  exact ⟨T3, none, _, _, _, X3, by simp, rfl, by omega, (fun _ => rfl), e0, fun fs hl => c4.trans (X3.returnOut hexec hret (hb hbytes d9) hl)⟩
theorem pays {l : Launch} {R : Room} {p : Program} {e : Env} {below : List Frame} {s : State} {sargs : Array Value} {len W : Nat} (a : Addr) (D : Cell) (fV fC : Field) (b : Addr) (A : Cell) (z : Int32) (htab : tab.before sargs s = true) (hfr : 4 ≤ R.frames) (hlo : W + 65 ≤ R.locals) :
    Back l R p e below s sargs yN len W (fun A₁ a₁ => A₁.cells + 1 ≤ R.cells ∧ A₁.slots + A.slots.size ≤ R.slots ∧ P a D fV fC b A z a₁ A₁.U) (fun A₁ _ v₁ B₁ => E a D fV fC A v₁ A₁.U B₁.U ∧ B₁.locs = A₁.locs ++ [⟨a, fC.slot⟩, ⟨a, fV.slot⟩] ∧ B₁.cells = A₁.cells + 1 ∧ B₁.slots = A₁.slots + A.slots.size) :=
  (law l a D fV fC b A z).pays htab hfr (by omega)
end New1
end StrChars
namespace StrChars.Road
open Jvm Sem ClassFile Op Lib Jvm.Stand Jvm.Free Jvm.Free.XT
open Jvm.Lib.Cold (StaticIs)
abbrev ST : String := "java/lang/String"
/-- every table word that New1's law asks, flat -/
abbrev words : List Jvm.Cond := [.code New1.yN New1.yB 2 none, .initialized ST, .methodLink ST 27 New4.yN, .instanceMethod New4.yN,
  .code New4.yN New4.yB 6 none, .fieldLink ST 38 ST "COMPACT_STRINGS" "Z", .laysFinal ST ST "value" "[B", .fieldLink ST 9 ST "value" "[B", .laysFinal ST ST "coder" "B", .fieldLink ST 15 ST "coder" "B",
  .methodLink ST 1 Lib.objectInit, .instanceMethod Lib.objectInit, .code Lib.objectInit ⟨#[0xb1]⟩ 1 none, .methodLink ST 177 Cmp3.yN, .static Cmp3.yN, .methodLink ST 47 CodL.yN, .static CodL.yN,
  .code Cmp3.yN Cmp3.yB 6 (some (.array .byte)), .initialized U16, .arrayClass .byte, .methodLink U16 115 Cmp5.yN, .static Cmp5.yN, .code Cmp5.yN Cmp5.yB 7 (some .int), .code CodL.yN CodL.yB 2 (some .byte)]
theorem tab_of {a : Array Value} {s : State} (h : ∀ w ∈ words, w.before a s = true) : New1.tab.before a s = true := by
  have h5 : Cmp5.tab.before a s = true := unparts (wk h (.code Cmp5.yN Cmp5.yB 7 (some .int))) (wks h (.initialized Cmp5.yN.cls :: Cmp5.site))
  have hc : CodL.tab.before a s = true := unparts (wk h (.code CodL.yN CodL.yB 2 (some .byte))) (wks h (.initialized CodL.yN.cls :: CodL.site))
  have q5 : ∀ w ∈ Cmp5.tab :: words, w.before a s = true := fun w hw => (List.mem_cons.mp hw).elim (fun e => e ▸ h5) (h w)
  have h3 : Cmp3.tab.before a s = true := unparts (wk q5 (.code Cmp3.yN Cmp3.yB 6 (some (.array .byte)))) (wks q5 (.initialized Cmp3.yN.cls :: Cmp3.site))
  have q3 : ∀ w ∈ Cmp3.tab :: CodL.tab :: words, w.before a s = true := fun w hw => (List.mem_cons.mp hw).elim (fun e => e ▸ h3) fun hw => (List.mem_cons.mp hw).elim (fun e => e ▸ hc) (h w)
  have h4 : New4.tab.before a s = true := unparts (wk q3 (.code New4.yN New4.yB 6 none)) (wks q3 (.initialized New4.yN.cls :: New4.site))
  have q4 : ∀ w ∈ New4.tab :: words, w.before a s = true := fun w hw => (List.mem_cons.mp hw).elim (fun e => e ▸ h4) (h w)
  exact unparts (wk q4 (.code New1.yN New1.yB 2 none)) (wks q4 (.initialized New1.yN.cls :: New1.site))
/-- the words ride from the start Z to the walk's own state -/
theorem moved {Z s : State} {a0 args : Array Value} (hZ : Z.Warmed39 s.vm) (hw : ∀ d ∈ words, d.before a0 Z = true) : ∀ d ∈ words, d.before args s = true := fun d hd => by
  have q := hw d hd
  have t : ∀ d ∈ words, d = .arrayClass .byte ∨ (d.onTables && d.keepsFace) = true := by decide +kernel
  rcases t d hd with rfl | t
  · exact RoadKit.mvA hZ q
  · exact RoadKit.mv hZ q t
/-- WHAT COMES BACK, over the tables of the start Z: h the heap at the call, h' behind it -/
def Q (Z : State) (x : Addr) (A : Cell) (h : Heap) (v : Option Value) (h' : Heap) (L : List Loc) : Prop := v = none ∧ (∀ y ∈ L, y.base = x) ∧ RoadKit.Keep h h' [x] ∧ h'.size = h.size + 1 ∧ RoadKit.Exa Z h' x ST ∧ RoadKit.Fld Z h' x ST "value" "[B" (.ref h.size) ∧ RoadKit.Fld Z h' x ST "coder" "B" (.int 0) ∧
  (∃ V : Cell, RoadKit.Arr Z h' h.size V .byte ∧ V.vm = .none ∧ Z.vm.findClass "[B" = some V.cls ∧ V.slots.size = A.slots.size ∧ ∀ j, j < A.slots.size → V.slots[j]? = some (.int (lo8 (cv A j)))) ∧
  ∀ (O n d : String) (w : Value), RoadKit.Fld Z h x O n d w → RoadKit.slotOf Z O n d ≠ RoadKit.slotOf Z ST "value" "[B" → RoadKit.slotOf Z O n d ≠ RoadKit.slotOf Z ST "coder" "B" → RoadKit.Fld Z h' x O n d w
/-- **new String(chars) AT A CALL, IN THE ROAD'S FORM**: for specialBack behind newO: x the fresh String, b the char[] with the cell A -/
theorem back {p : Program} {l : Launch} {e : Env} {R : Room} {s : State} {args : Array Value} {below : List Frame} {len W : Nat} {Z : State} {a0 : Array Value} {h : Heap} (hZ : Z.Warmed39 s.vm) (hw : ∀ d ∈ words, d.before a0 Z = true) {kI : Nat} (wi : (Jvm.Cond.instantiable ST kI).before a0 Z = true)
    {x b : Addr} {A : Cell} {z : Int32} {v0 c0 : Value} (E : RoadKit.Exa Z h x ST) (V : RoadKit.Fld Z h x ST "value" "[B" v0) (C : RoadKit.Fld Z h x ST "coder" "B" c0) (K : RoadKit.Arr Z h b A .char) (hty : Typed .char A) (S : RoadKit.Sta Z h ST "COMPACT_STRINGS" "Z" (.int z)) (hz : ¬ z = 0)
    (l0 : 0 < A.slots.size) (l2 : A.slots.size ≤ 536870912) (hp : ∀ i, i < A.slots.size → ¬ 255 < cv A i) (hfr : 4 ≤ R.frames) (hlo : W + 65 ≤ R.locals) :
    Back l R p e below s args New1.yN len W (fun P a => a = #[.ref x, .ref b] ∧ P.U.heap = h ∧ P.cells + 1 ≤ R.cells ∧ P.slots + A.slots.size ≤ R.slots)
      (fun P _ v B => ∃ L, Q Z x A h v B.U.heap L ∧ B.locs = P.locs ++ L ∧ B.cells = P.cells + 1 ∧ B.slots = P.slots + A.slots.size) := by
  intro m meth c P g ig mk a X hg hsize hdg hW hn hp'
  obtain ⟨rfl, rfl, r1, r2⟩ := hp'
  have al : Z.vm.Alike P.U.vm := hZ.alike.trans X.warmed.alike
  obtain ⟨D, cfV, kV, iV, fV, hD, gV, stV, knV, obV, asV, slV⟩ := id V
  obtain ⟨D', cfC, kC, iC, fC, hD', gC, stC, -, -, asC, slC⟩ := id C
  cases hD.symm.trans hD'
  obtain ⟨D2, kD, e1, e2, e3, e4, e5⟩ := id E
  cases hD.symm.trans e1
  obtain ⟨c2, k2, i1, i2, i3, -⟩ := Cond.instantiable_spec wi
  cases e2.symm.trans i1
  cases e3.symm.trans i2
  obtain ⟨kU, u1, u2⟩ := al.2.2 _ _ e3
  have hB : Blank ST x D P.U := ⟨hD, ⟨knV, fun q hq => by rw [hq] at obV; cases obV⟩, by rw [al.findClass]; exact e2, kU, u1, by rw [u2]; exact i3, by rw [u2]; exact e5 i3⟩
  have F1 : Found ST "value" "[B" fV P.U := ⟨SBG.found_only al ⟨cfV, kV, iV, gV⟩, stV⟩
  have F2 : Found ST "coder" "B" fC P.U := ⟨SBG.found_only al ⟨cfC, kC, iC, gC⟩, stC⟩
  have hA : Ch b A P.U := ⟨⟨K.1, State.isArrayOf_alike al K.2.1, K.2.2, by omega⟩, hty⟩
  have hS : StaticIs P.U ST "COMPACT_STRINGS" "Z" (.int z) := by
    obtain ⟨cfS, iS, kS, fS, st, cS, t1, t2, t3, t4, t5, t6, t7⟩ := S
    exact StaticIs.there (s := { Z with heap := P.U.heap }) ⟨cfS, iS, kS, fS, st, cS, t1, t2, t3, t4, t5, (fun q => by rw [q] at t6; cases t6), t7⟩ al rfl
  obtain ⟨v, B, X', ⟨⟨hv, E', V', q1, q2, q3, q4, q5, q6, q7, q8, q9, q10, q11⟩, hl, hc, hs⟩, st⟩ := New1.pays x D fV fC b A z (tab_of (moved hZ hw)) hfr hlo m meth c P g ig mk _ X hg hsize hdg hW hn ⟨r1, r2, rfl, hB, F1, F2, hA, hS, hz, l0, l2, hp⟩
  have al' : Z.vm.Alike B.U.vm := hZ.alike.trans X'.warmed.alike
  have hsz : E'.slots.size = D.slots.size := by
    obtain ⟨-, -, -, kB, w1, w2, w3⟩ := q1
    obtain ⟨kB', y1, y2⟩ := al'.2.2 _ _ e3
    rw [q2.2.1] at w1
    cases w1.symm.trans y1
    rw [w3, e5 i3, y2]
  refine ⟨v, B, X', ⟨_, ⟨hv, ?_, ⟨by omega, fun y cy hy hn' => q10 y cy (by simpa using hn') hy, fun y cy hy => ?_⟩, q11, ⟨E', _, q1.1, by rw [q2.2.1]; exact e2, by rw [q2.2.1]; exact e3, by rw [q2.1]; exact obV, fun _ => by rw [hsz]; exact e5 i3⟩,
    ⟨E', cfV, kV, iV, fV, q1.1, gV, stV, by rw [q2.1]; exact knV, by rw [q2.1]; exact obV, by rw [q2.2.1]; exact asV, q3⟩, ⟨E', cfC, kC, iC, fC, q1.1, gC, stC, by rw [q2.1]; exact knV, by rw [q2.1]; exact obV, by rw [q2.2.1]; exact asC, q4⟩,
    ⟨V', ⟨q5.1, State.isArrayOf_alike al'.symm q5.2.1, q5.2.2.1⟩, q6, by rw [← al'.findClass]; exact q7, q8, fun j hj => by have := q9 j hj; rwa [Nat.zero_add] at this⟩, fun O n d w F n1 n2 => ?_⟩, hl, hc, hs⟩, st⟩
  · intro y hy
    simp only [List.mem_cons, List.not_mem_nil, or_false] at hy
    rcases hy with rfl | rfl <;> rfl
  · by_cases q : y = x
    · subst q
      cases hD.symm.trans hy
      exact ⟨E', q1.1, q2.2.1, q2.1, hsz⟩
    · exact ⟨cy, q10 y cy q hy, rfl, rfl, rfl⟩
  · obtain ⟨D3, cf, k, i, f, g1, g2, g3, g4, g5, g6, g7⟩ := F
    cases hD.symm.trans g1
    simp only [RoadKit.slotOf, g2, gV, gC, Option.map_some, Option.getD_some] at n1 n2
    exact ⟨E', cf, k, i, f, q1.1, g2, g3, by rw [q2.1]; exact g4, by rw [q2.1]; exact g5, by rw [q2.2.1]; exact g6, by rw [q2.2.2 f.slot (by simp [n1, n2])]; exact g7⟩
end StrChars.Road
namespace StrChars.Road
open Jvm Sem ClassFile Op Lib Jvm.Stand Jvm.Free Jvm.Free.XT
/-- WHAT COMES BACK, the byte[] as a list of values -/
def QA (Z : State) (x : Addr) (zn : Int32) (cs : List Int32) (h : Heap) (v : Option Value) (h' : Heap) (L : List Loc) : Prop := v = none ∧ (∀ y ∈ L, y.base = x) ∧ RoadKit.Keep h h' [x] ∧ h'.size = h.size + 1 ∧ RoadKit.Exa Z h' x ST ∧ RoadKit.Fld Z h' x ST "value" "[B" (.ref h.size) ∧ RoadKit.Fld Z h' x ST "coder" "B" (.int 0) ∧
  (∃ kb, Z.vm.findClass "[B" = some kb ∧ RoadKit.Arv Z h' h.size kb .byte zn (cs.map fun c => .int (lo8 c)) (.int 0)) ∧
  ∀ (O n d : String) (w : Value), RoadKit.Fld Z h x O n d w → RoadKit.slotOf Z O n d ≠ RoadKit.slotOf Z ST "value" "[B" → RoadKit.slotOf Z O n d ≠ RoadKit.slotOf Z ST "coder" "B" → RoadKit.Fld Z h' x O n d w
/-- **new String(chars) AT A CALL, THE ARRAYS AS LISTS**: the char[] at b holds cs, not empty, no char above 255 -/
theorem backArv {p : Program} {l : Launch} {e : Env} {R : Room} {s : State} {args : Array Value} {below : List Frame} {len W : Nat} {Z : State} {a0 : Array Value} {h : Heap} (hZ : Z.Warmed39 s.vm) (hw : ∀ d ∈ words, d.before a0 Z = true) {kI : Nat} (wi : (Jvm.Cond.instantiable ST kI).before a0 Z = true)
    {x b : Addr} {k : ClassId} {zn z : Int32} {cs : List Int32} {dv v0 c0 : Value} (E : RoadKit.Exa Z h x ST) (V : RoadKit.Fld Z h x ST "value" "[B" v0) (C : RoadKit.Fld Z h x ST "coder" "B" c0) (K : RoadKit.Arv Z h b k .char zn (cs.map Value.int) dv) (S : RoadKit.Sta Z h ST "COMPACT_STRINGS" "Z" (.int z)) (hz : ¬ z = 0)
    (hlen : zn.toNatClampNeg = cs.length) (h0 : 0 < cs.length) (hbig : cs.length ≤ 536870912) (hall : ∀ c ∈ cs, ¬ 255 < c) (hfr : 4 ≤ R.frames) (hlo : W + 65 ≤ R.locals) :
    Back l R p e below s args New1.yN len W (fun P a => a = #[.ref x, .ref b] ∧ P.U.heap = h ∧ P.cells + 1 ≤ R.cells ∧ P.slots + cs.length ≤ R.slots)
      (fun P _ v B => ∃ L, QA Z x zn cs h v B.U.heap L ∧ B.locs = P.locs ++ L ∧ B.cells = P.cells + 1 ∧ B.slots = P.slots + cs.length) := by
  obtain ⟨A, K1, K2, K3, K4, K5, K6⟩ := K
  have e : A.slots.size = cs.length := K3.trans hlen
  have hat : ∀ (i : Nat) (hi : i < cs.length), A.slots[i]? = some (.int cs[i]) := fun i hi => by rw [K5 i (by omega)]; simp [List.getD_eq_getElem?_getD, hi]
  have hcv : ∀ (i : Nat) (hi : i < cs.length), cv A i = cs[i] := fun i hi => by unfold cv; rw [hat i hi]
  have hty : Typed .char A := fun i v hv => by
    have hi : i < A.slots.size := (Array.getElem?_eq_some_iff.mp hv).1
    have q := K5 i hi
    rw [hv] at q
    rw [Option.some.inj q]
    exact K6 i hi
  refine Back.mono (back hZ hw wi E V C K1 hty S hz (by omega) (by omega) (fun i hi => by rw [hcv i (by omega)]; exact hall _ (List.getElem_mem _)) hfr hlo) (fun P a hp => ⟨hp.1, hp.2.1, hp.2.2.1, by rw [e]; exact hp.2.2.2⟩) (fun P a v B hp hq => ?_)
  obtain ⟨L, ⟨q1, q2, q3, q4, q5, q6, q7, ⟨V', v1, v2, v3, v4, v5⟩, q9⟩, hl, hc, hs⟩ := hq
  refine ⟨L, ⟨q1, q2, q3, q4, q5, q6, q7, ⟨V'.cls, v3, V', v1, rfl, by rw [v4, e, hlen], K4, fun i hi => ?_, fun i hi => ?_⟩, q9⟩, hl, hc, by rw [hs, e]⟩
  · have hi' : i < cs.length := by omega
    rw [v5 i (by omega), hcv i hi']; simp [List.getD_eq_getElem?_getD, hi']
  · have hi' : i < cs.length := by omega
    simp only [List.getD_eq_getElem?_getD, List.getElem?_map, List.getElem?_eq_getElem hi', Option.map_some, Option.getD_some]
    exact fits_lo8 _
end StrChars.Road
namespace StrChars.Road
open Jvm Sem ClassFile Op Lib Jvm.Stand Jvm.Free Jvm.Free.XT
/-- WHAT COMES BACK, in the writer's own shape -/
def QV (Z : State) (x : Addr) (N : Int32) (bs : List Int32) (h : Heap) (n0 : Nat) (v : Option Value) (h' : Heap) (L : List Loc) : Prop := v = none ∧ RoadKit.Fr n0 L ∧ RoadKit.Keep h h' [x] ∧ RoadKit.Exa Z h' x ST ∧ RoadKit.Fld Z h' x ST "coder" "B" (.int 0) ∧
  ∃ (t : Addr) (kb : ClassId), n0 ≤ t ∧ h.size ≤ t ∧ ¬ t = x ∧ RoadKit.Fld Z h' x ST "value" "[B" (.ref t) ∧ RoadKit.Arv Z h' t kb .byte N (bs.map Value.int) (.int 0)
/-- **new String(chars) AT A CALL, FOR THE WRITER**: a char[] of n known ints, each 0 to 255 -/
theorem backV {p : Program} {l : Launch} {e : Env} {R : Room} {s : State} {args : Array Value} {below : List Frame} {len W : Nat} {Z : State} {a0 : Array Value} {h : Heap} (hZ : Z.Warmed39 s.vm) (hw : ∀ d ∈ words, d.before a0 Z = true) {kI : Nat} (wi : (Jvm.Cond.instantiable ST kI).before a0 Z = true)
    {x b : Addr} {kC : ClassId} {cs bs : List Int32} {d v0 c0 : Value} {z N : Int32} {n n0 : Nat} (hx0 : n0 ≤ x) (hh0 : n0 ≤ h.size) (E : RoadKit.Exa Z h x ST) (V : RoadKit.Fld Z h x ST "value" "[B" v0) (C : RoadKit.Fld Z h x ST "coder" "B" c0) (K : RoadKit.Arv Z h b kC .char N (cs.map Value.int) d) (S : RoadKit.Sta Z h ST "COMPACT_STRINGS" "Z" (.int z)) (hz : ¬ z = 0)
    (hn : cs.length = n) (hN : N = Int32.ofNat n) (l0 : 0 < n) (l2 : n ≤ 4000) (hp : ∀ c ∈ cs, ¬ c < 0 ∧ ¬ (255 : Int32) < c) (hb : bs = cs.map (fun c => c.toInt8.toInt32)) (hfr : 4 ≤ R.frames) (hlo : W + 65 ≤ R.locals) :
    Back l R p e below s args (⟨"java/lang/String", "<init>", "([C)V"⟩ : MethodName) len W (fun P a => a = #[.ref x, .ref b] ∧ P.U.heap = h ∧ P.cells + 1 ≤ R.cells ∧ P.slots + n ≤ R.slots)
      (fun P _ v B => ∃ L, QV Z x N bs h n0 v B.U.heap L ∧ B.locs = P.locs ++ L ∧ B.cells = P.cells + 1 ∧ B.slots = P.slots + n) := by
  subst hn hN hb
  refine Back.mono (backArv hZ hw wi E V C K S hz (n32 (by omega)) l0 (by omega) (fun c hc => (hp c hc).2) hfr hlo) (fun P a hp => hp) (fun P a v B hp hq => ?_)
  obtain ⟨L, ⟨q1, q2, q3, q4, q5, q6, q7, ⟨kb, v1, v2⟩, q9⟩, hl, hc, hs⟩ := hq
  exact ⟨L, ⟨q1, fun y hy => by rw [q2 y hy]; exact hx0, q3, q5, q7, h.size, kb, hh0, Nat.le_refl _, Nat.ne_of_gt E.lt, q6, by rw [List.map_map]; exact v2⟩, hl, hc, hs⟩
end StrChars.Road
end Jvm.Pilot.@@N@@
namespace Jvm.Pilot.@@N@@
open Jvm Jvm.ClassFile Sem Op Lib Jvm.Free Jvm.Stand Jvm.LawKit Jvm.RoadKit Bundle Jvm.Pilot.@@N@@.Jvm.D
section Own
variable {p : Program} {l : Launch} {e : Env} {R : Room} {s : State} {m : MethodId} {args : Array Value} {below : List Frame} {meth : Method} {c : Code} {T : State} {k n : Nat} {Z : State} {a0 : Array Value} {h : Heap} {n0 KK NN : Nat} {Q : Option Value → Heap → Prop}
/-- from T with the top frame g the invocation comes to its end as Q asks -/
def OwG (p : Program) (e : Env) (below : List Frame) (s : State) (n0 KK NN : Nat) (Q : Option Value → Heap → Prop) (T : State) (g : JFrame) : Prop :=
  ∃ s₂ o, Steps p.tables e below (T.setTop g) s₂ ∧ s₂.status = .running ∧ Ended s₂ below o ∧ ∃ v L, o = .returned v ∧ (Q v s₂.heap ∧ Fr n0 L) ∧ FrameEnd s o s₂ L KK NN
/-- where a walk stands: the heap is h, what was written lies at or above n0, k cells and n slots were made at the most -/
def OwP (p : Program) (l : Launch) (e : Env) (R : Room) (s : State) (m : MethodId) (args : Array Value) (below : List Frame) (meth : Method) (c : Code) (n0 : Nat) (T : State) (h : Heap) (k n : Nat) : Prop :=
  ∃ locs, Stand p l e R s m args below meth c T locs k n ∧ T.heap = h ∧ Fr n0 locs
/-- a callee's contract -/
def OwM (l : Launch) (Z : State) (y : MethodName) (bytes : ByteArray) (maxL : Nat) (ret : Option FieldType) (rm : Room) (n0 : Nat) (as' : Array Value) (h0 : Heap) (Q : Option Value → Heap → Prop) : Prop :=
  MetFree l y (head1 [Jvm.Cond.code y bytes maxL ret] rm) (fun a U => a = as' ∧ Z.Warmed39 U.vm ∧ U.heap = h0) (fun _ _ _ _ _ => True) (fun _ U o U' => ∃ v L, o = .returned v ∧ (Q v U'.heap ∧ Fr n0 L) ∧ FrameEnd U o U' L rm.cells rm.slots)
theorem OwG.go {T' : State} {g g' : JFrame} (st : ∀ t, Steps p.tables e below (T'.setTop g') t → Steps p.tables e below (T.setTop g) t) (G : OwG p e below s n0 KK NN Q T' g') : OwG p e below s n0 KK NN Q T g := by
  obtain ⟨s₂, o, h1, r⟩ := G
  exact ⟨s₂, o, st _ h1, r⟩
theorem OwG.cast {g g' : JFrame} (q : g = g') (G : OwG p e below s n0 KK NN Q T g') : OwG p e below s n0 KK NN Q T g := q ▸ G
theorem OwP.here (P : OwP p l e R s m args below meth c n0 T h k n) : At T m c below := by obtain ⟨_, X, _⟩ := P; exact X.here
theorem OwP.wide (P : OwP p l e R s m args below meth c n0 T h k n) {k' n' : Nat} (h1 : k ≤ k') (h2 : n ≤ n') : OwP p l e R s m args below meth c n0 T h k' n' := by
  obtain ⟨L, X, r⟩ := P
  exact ⟨L, Jvm.Stand.wide X (fun x hx _ => hx) h1 h2, r⟩
theorem OwM.of {y : MethodName} {bytes : ByteArray} {maxL : Nat} {ret : Option FieldType} {ws : List Jvm.Cond} {rm : Room} {as' : Array Value} {h0 : Heap} (pn : plainFor y = true)
    (body : ∀ (p : Program) (e : Env) (s : State) (m : MethodId) (below : List Frame) (meth : Method) (c : Code) (T : State), p.tables.exec = Jvm.exec → c.code = bytes → c.maxLocals = maxL → s.vm.findClass y.cls = some m.cls → meth.name = y.name → meth.sig.returnType = ret → meth.locks = false → Z.Warmed39 s.vm → OwP p l e rm s m as' below meth c n0 T h0 0 0 → OwG p e below s n0 KK NN Q T (entryFrame m as' maxL)) :
    MetFree l y (head1 (Jvm.Cond.code y bytes maxL ret :: ws) rm) (fun a U => a = as' ∧ Z.Warmed39 U.vm ∧ U.heap = h0) (fun _ _ _ _ _ => True) (fun _ U o U' => ∃ v L, o = .returned v ∧ (Q v U'.heap ∧ Fr n0 L) ∧ FrameEnd U o U' L KK NN) := by
  refine MetFree.of_bodySF pn hisR ?_
  intro p e s m args below meth c s₁ Bd hml0 hP hK
  obtain ⟨rfl, hZ, hh⟩ := hP
  exact body p e s m below meth c s₁ Bd.exec Bd.bytes hml0 (findClass_of_methodNamed Bd.named) (name_of_methodNamed Bd.named Bd.method).1 Bd.returns Bd.notSynchronized hZ ⟨[], Stand.of_body Bd, by rw [← hh, Bd.state]; rfl, Fr.nil n0⟩
theorem OwM.mk {y : MethodName} {bytes : ByteArray} {maxL : Nat} {ret : Option FieldType} {rm : Room} {as' : Array Value} {h0 : Heap} (pn : plainFor y = true)
    (body : ∀ (p : Program) (e : Env) (s : State) (m : MethodId) (below : List Frame) (meth : Method) (c : Code) (T : State), p.tables.exec = Jvm.exec → c.code = bytes → c.maxLocals = maxL → s.vm.findClass y.cls = some m.cls → meth.name = y.name → meth.sig.returnType = ret → meth.locks = false → Z.Warmed39 s.vm → OwP p l e rm s m as' below meth c n0 T h0 0 0 → OwG p e below s n0 rm.cells rm.slots Q T (entryFrame m as' maxL)) :
    OwM l Z y bytes maxL ret rm n0 as' h0 Q := OwM.of (ws := []) (Q := Q) pn body
theorem OwP.ret (P : OwP p l e R s m args below meth c n0 T h k n) (hx : p.tables.exec = Jvm.exec) (hlk : meth.locks = false) {pc : Nat} {Ls : Array Slot} {w : Value} {t : FieldType} {i : Instr} {rest : List Value} (hret : meth.sig.returnType = some t) (hn : narrow t w = w)
    (hi : (i = .ireturn ∧ (t = .int ∨ t = .boolean ∨ t = .byte ∨ t = .char ∨ t = .short) ∧ ∃ z, w = .int z) ∨ (i = .lreturn ∧ t = .long ∧ ∃ z, w = .long z) ∨ (i = .dreturn ∧ t = .double ∧ ∃ z, w = .double z) ∨ (i = .freturn ∧ t = .float ∧ ∃ z, w = .float z) ∨ (i = .areturn ∧ t.isReference = true ∧ w.isRef = true))
    (hd : decode c.code pc = .ok (i, 1)) (hk : k ≤ KK) (hn' : n ≤ NN) (q : Q (some w) h) : OwG p e below s n0 KK NN Q T (mkF m pc Ls (w :: rest)) := by
  obtain ⟨L, X, e0, N⟩ := P
  obtain ⟨fs, hr, hrun, hended, hW, hsame⟩ := X.leave (v := some w) (fun h => by rw [hret] at h; cases h)
  exact ⟨_, _, retOut X hx hret hn hi hd hr, hrun, hended, _, _, rfl, ⟨by rw [← e0] at q; exact q, N⟩, ⟨_, rfl⟩, hW, hsame.mono hk hn'⟩
theorem OwP.retI (P : OwP p l e R s m args below meth c n0 T h k n) (hx : p.tables.exec = Jvm.exec) (hlk : meth.locks = false) {pc : Nat} {Ls : Array Slot} {z : Int32} {rest : List Value} (hret : meth.sig.returnType = some .int)
    (hd : decode c.code pc = .ok (.ireturn, 1)) (hk : k ≤ KK) (hn' : n ≤ NN) (q : Q (some (.int z)) h) : OwG p e below s n0 KK NN Q T (mkF m pc Ls (.int z :: rest)) :=
  P.ret hx hlk hret rfl (Or.inl ⟨rfl, Or.inl rfl, z, rfl⟩) hd hk hn' q
theorem OwP.retL (P : OwP p l e R s m args below meth c n0 T h k n) (hx : p.tables.exec = Jvm.exec) (hlk : meth.locks = false) {pc : Nat} {Ls : Array Slot} {z : Int64} {rest : List Value} (hret : meth.sig.returnType = some .long)
    (hd : decode c.code pc = .ok (.lreturn, 1)) (hk : k ≤ KK) (hn' : n ≤ NN) (q : Q (some (.long z)) h) : OwG p e below s n0 KK NN Q T (mkF m pc Ls (.long z :: rest)) :=
  P.ret hx hlk hret rfl (Or.inr (Or.inl ⟨rfl, rfl, z, rfl⟩)) hd hk hn' q
theorem OwP.retR (P : OwP p l e R s m args below meth c n0 T h k n) (hx : p.tables.exec = Jvm.exec) (hlk : meth.locks = false) {pc : Nat} {Ls : Array Slot} {w : Value} {t : FieldType} {rest : List Value} (hret : meth.sig.returnType = some t) (ht : t.isReference = true) (hw : w.isRef = true)
    (hd : decode c.code pc = .ok (.areturn, 1)) (hk : k ≤ KK) (hn' : n ≤ NN) (q : Q (some w) h) : OwG p e below s n0 KK NN Q T (mkF m pc Ls (w :: rest)) :=
  P.ret hx hlk hret (by cases t <;> first | (cases ht; done) | (cases w <;> rfl)) (Or.inr (Or.inr (Or.inr (Or.inr ⟨rfl, ht, hw⟩)))) hd hk hn' q
theorem OwP.retN (P : OwP p l e R s m args below meth c n0 T h k n) (hx : p.tables.exec = Jvm.exec) (hlk : meth.locks = false) {pc : Nat} {Ls : Array Slot} {z : Int32} {t : FieldType} {rest : List Value} (hret : meth.sig.returnType = some t) (ht : t = .boolean ∨ t = .byte ∨ t = .char ∨ t = .short)
    (hd : decode c.code pc = .ok (.ireturn, 1)) (hk : k ≤ KK) (hn' : n ≤ NN) (q : Q (some (.int (nar t z))) h) : OwG p e below s n0 KK NN Q T (mkF m pc Ls (.int z :: rest)) := by
  obtain ⟨L, X, e0, N⟩ := P
  obtain ⟨fs, hr, hrun, hended, hW, hsame⟩ := X.leave (v := some (.int (nar t z))) (fun h => by rw [hret] at h; cases h)
  exact ⟨_, _, RoadKit.retN X hx hret ht hd hr, hrun, hended, _, _, rfl, ⟨by rw [← e0] at q; exact q, N⟩, ⟨_, rfl⟩, hW, hsame.mono hk hn'⟩
theorem OwP.retV (P : OwP p l e R s m args below meth c n0 T h k n) (hx : p.tables.exec = Jvm.exec) (hlk : meth.locks = false) {pc : Nat} {Ls : Array Slot} (hret : meth.sig.returnType = none)
    (hd : decode c.code pc = .ok (.return_, 1)) (hk : k ≤ KK) (hn' : n ≤ NN) (q : Q none h) : OwG p e below s n0 KK NN Q T (mkF m pc Ls []) := by
  obtain ⟨L, X, e0, N⟩ := P
  obtain ⟨fs, hr, hrun, hended, hW, hsame⟩ := X.leave (v := none) (fun _ => rfl)
  exact ⟨_, _, X.returnOut hx hret hd hr, hrun, hended, _, _, rfl, ⟨by rw [← e0] at q; exact q, N⟩, ⟨_, rfl⟩, hW, hsame.mono hk hn'⟩
theorem OwP.getF (P : OwP p l e R s m args below meth c n0 T h k n) (hx : p.tables.exec = Jvm.exec) (hZ : Z.Warmed39 s.vm) {own R0 O nm d host : String} {index : Nat} (hown : s.vm.findClass own = some m.cls) (w : (Jvm.Cond.fieldLink own index R0 nm d).before a0 Z = true ∨ (Jvm.Cond.fieldLinkNest own index R0 nm d host).before a0 Z = true) (via : Via Z R0 O nm d)
    {a : Addr} {v : Value} (F : Fld Z h a O nm d v) {g : JFrame} (hg : g.method = m) {rest : List Value} (hs : g.stack = .ref a :: rest) (hd : decode c.code g.pc = .ok (.getfield index, 3))
    (K : ∀ T', OwP p l e R s m args below meth c n0 T' h k n → OwG p e below s n0 KK NN Q T' { g with pc := g.pc + 3, stack := v :: rest }) : OwG p e below s n0 KK NN Q T g := by
  obtain ⟨L, X, eT, N⟩ := P
  obtain ⟨T', X', e', st⟩ := RoadKit.getF X hx hZ hown w via eT F hg hs hd
  exact (K T' ⟨L, X', e', N⟩).go st
theorem OwP.getS (P : OwP p l e R s m args below meth c n0 T h k n) (hx : p.tables.exec = Jvm.exec) (hZ : Z.Warmed39 s.vm) {own R0 O nm d host : String} {index : Nat} (hown : s.vm.findClass own = some m.cls) (w : (Jvm.Cond.fieldLink own index R0 nm d).before a0 Z = true ∨ (Jvm.Cond.fieldLinkNest own index R0 nm d host).before a0 Z = true) (via : Via Z R0 O nm d)
    {v : Value} (F : Sta Z h O nm d v) {g : JFrame} (hg : g.method = m) (hd : decode c.code g.pc = .ok (.getstatic index, 3))
    (K : ∀ T', OwP p l e R s m args below meth c n0 T' h k n → OwG p e below s n0 KK NN Q T' { g with pc := g.pc + 3, stack := v :: g.stack }) : OwG p e below s n0 KK NN Q T g := by
  obtain ⟨L, X, eT, N⟩ := P
  obtain ⟨T', X', e', st⟩ := RoadKit.getS2 X hx hZ hown w via eT F hg hd
  exact (K T' ⟨L, X', e', N⟩).go st
theorem OwP.putF (P : OwP p l e R s m args below meth c n0 T h k n) (hx : p.tables.exec = Jvm.exec) (hZ : Z.Warmed39 s.vm) {own R0 O nm d host C : String} {index kk : Nat} {ty : FieldType} (hown : s.vm.findClass own = some m.cls) (w : (Jvm.Cond.fieldLink own index R0 nm d).before a0 Z = true ∨ (Jvm.Cond.fieldLinkNest own index R0 nm d host).before a0 Z = true) (via : Via Z R0 O nm d)
    {a : Addr} {v old : Value} (F : Fld Z h a O nm d old) (E : Exa Z h a C) (L : (Jvm.Cond.lays C O nm d).before a0 Z = true ∨ ((Jvm.Cond.laysFinal C O nm d).before a0 Z = true ∧ own = O ∧ meth.name = "<init>")) (wi : (Jvm.Cond.instantiable C kk).before a0 Z = true)
    (hty : parseFieldDescriptor d = some ty) (hn : narrow ty v = v) (hf : fits ty v = true) {g : JFrame} (hg : g.method = m) {rest : List Value} (hs : g.stack = v :: .ref a :: rest) (hd : decode c.code g.pc = .ok (.putfield index, 3)) (ha : n0 ≤ a)
    (K : ∀ T' h', OwP p l e R s m args below meth c n0 T' h' k n → Wr h h' a (Jvm.RoadKit.slotOf Z O nm d) v → OwG p e below s n0 KK NN Q T' { g with pc := g.pc + 3, stack := rest }) : OwG p e below s n0 KK NN Q T g := by
  obtain ⟨L0, X, eT, N⟩ := P
  obtain ⟨T', h', X', e', W, st⟩ := RoadKit.putF X hx hZ hown w via eT F E L wi hty hn hf hg hs hd
  exact (K T' h' ⟨_, X', e', Fr.snoc X' N ha⟩ W).go st
theorem OwP.putFN (P : OwP p l e R s m args below meth c n0 T h k n) (hx : p.tables.exec = Jvm.exec) (hZ : Z.Warmed39 s.vm) {own R0 O nm d C : String} {index kk : Nat} {ty : FieldType} (hown : s.vm.findClass own = some m.cls) (w : (Jvm.Cond.fieldLink own index R0 nm d).before a0 Z = true) (via : Via Z R0 O nm d)
    {a : Addr} {v v' old : Value} (F : Fld Z h a O nm d old) (E : Exa Z h a C) (L : (Jvm.Cond.lays C O nm d).before a0 Z = true ∨ ((Jvm.Cond.laysFinal C O nm d).before a0 Z = true ∧ own = O ∧ meth.name = "<init>")) (wi : (Jvm.Cond.instantiable C kk).before a0 Z = true)
    (hty : parseFieldDescriptor d = some ty) (hn : narrow ty v = v') (hf : fits ty v' = true) {g : JFrame} (hg : g.method = m) {rest : List Value} (hs : g.stack = v :: .ref a :: rest) (hd : decode c.code g.pc = .ok (.putfield index, 3)) (ha : n0 ≤ a)
    (K : ∀ T' h', OwP p l e R s m args below meth c n0 T' h' k n → Wr h h' a (Jvm.RoadKit.slotOf Z O nm d) v' → OwG p e below s n0 KK NN Q T' { g with pc := g.pc + 3, stack := rest }) : OwG p e below s n0 KK NN Q T g := by
  obtain ⟨L0, X, eT, N⟩ := P
  obtain ⟨T', h', X', e', W, st⟩ := RoadKit.putFN X hx hZ hown w via eT F E L wi hty hn hf hg hs hd
  exact (K T' h' ⟨_, X', e', Fr.snoc X' N ha⟩ W).go st
theorem OwP.newO (P : OwP p l e R s m args below meth c n0 T h k n) (hx : p.tables.exec = Jvm.exec) (hZ : Z.Warmed39 s.vm) {own C : String} {index nn : Nat} (hown : s.vm.findClass own = some m.cls) (w : (Jvm.Cond.classLink own index C).before a0 Z = true) (wi : (Jvm.Cond.instantiable C nn).before a0 Z = true) (wz : (Jvm.Cond.initialized C).before a0 Z = true)
    {g : JFrame} (hg : g.method = m) (hd : decode c.code g.pc = .ok (.new index, 3)) (hc : k + 1 ≤ R.cells) (hl : n + nn ≤ R.slots)
    (K : ∀ T' h' b, b = h.size → OwP p l e R s m args below meth c n0 T' h' (k + 1) (n + nn) → Ext h h' → Exa Z h' b C → (∀ {O nm d : String} {ty : FieldType}, Laid Z a0 C O nm d → parseFieldDescriptor d = some ty → Fld Z h' b O nm d (defaultValue ty)) → OwG p e below s n0 KK NN Q T' { g with pc := g.pc + 3, stack := .ref b :: g.stack }) : OwG p e below s n0 KK NN Q T g := by
  obtain ⟨L, X, eT, N⟩ := P
  obtain ⟨T', h', X', e', E, A, D, -, st⟩ := RoadKit.newO X hx hZ hown w wi wz eT hg hd hc hl
  exact (K T' h' _ rfl ⟨L, X', e', N⟩ E A D).go st
theorem OwP.newP (P : OwP p l e R s m args below meth c n0 T h k n) (hx : p.tables.exec = Jvm.exec) (hZ : Z.Warmed39 s.vm) {aty : ArrayType} (w : (Jvm.Cond.arrayClass (newarray.typeOf aty)).before a0 Z = true) {g : JFrame} (hg : g.method = m) (hd : decode c.code g.pc = .ok (.newarray aty, 2)) {z : Int32} {rest : List Value} (hs : g.stack = .int z :: rest)
    (hn : ¬ z < 0) {cap : Nat} (hcap : z.toNatClampNeg ≤ cap) (hb : cap * 8 ≤ 536870912) (hc : k + 1 ≤ R.cells) (hl : n + cap ≤ R.slots)
    (K : ∀ T' h' b kA, b = h.size → OwP p l e R s m args below meth c n0 T' h' (k + 1) (n + cap) → Ext h h' → Arv Z h' b kA (newarray.typeOf aty) z [] (defaultValue (newarray.typeOf aty)) → OwG p e below s n0 KK NN Q T' { g with pc := g.pc + 2, stack := .ref b :: rest }) : OwG p e below s n0 KK NN Q T g := by
  obtain ⟨L, X, eT, N⟩ := P
  obtain ⟨T', h', kA, X', e', E, A, st⟩ := RoadKit.newP X hx hZ w eT hg hd hs hn hcap hb hc hl
  exact (K T' h' _ kA rfl ⟨L, X', e', N⟩ E (Arv.new A hn)).go st
theorem OwP.initO (P : OwP p l e R s m args below meth c n0 T h k n) (hx : p.tables.exec = Jvm.exec) (hZ : Z.Warmed39 s.vm) {own : String} {idx : Nat} (hown : s.vm.findClass own = some m.cls) (w1 : (Jvm.Cond.methodLink own idx Lib.objectInit).before a0 Z = true) (w2 : (Jvm.Cond.instanceMethod Lib.objectInit).before a0 Z = true)
    (w3 : (Jvm.Cond.code Lib.objectInit ⟨#[0xb1]⟩ 1 none).before a0 Z = true) {g : JFrame} (hg : g.method = m) (hsize : g.locals.size = c.maxLocals) {a : Addr} {rest : List Value} (hs : g.stack = .ref a :: rest) (hd : decode c.code g.pc = .ok (.invokespecial idx, 3))
    (hf : 1 ≤ R.frames) {W : Nat} (hW : 2 * g.monitorRoom + (rest.map fun v => v.category).sum ≤ W) (hl : W + 12 ≤ R.locals)
    (K : ∀ T', OwP p l e R s m args below meth c n0 T' h k n → OwG p e below s n0 KK NN Q T' { g with pc := g.pc + 3, stack := rest }) : OwG p e below s n0 KK NN Q T g := by
  obtain ⟨L, X, eT, N⟩ := P
  obtain ⟨T', X', e', st⟩ := RoadKit.initO X hx hZ hown w1 w2 w3 eT hg hsize hs hd hf hW hl
  exact (K T' ⟨L, X', e', N⟩).go st
theorem OwP.stC (P : OwP p l e R s m args below meth c n0 T h k n) (hx : p.tables.exec = Jvm.exec) (hZ : Z.Warmed39 s.vm) {a : Addr} {kA : ClassId} {z j x : Int32} {vs : List Value} {dv : Value} (A : Arv Z h a kA .char z vs dv) (hj0 : ¬ j < 0) (hj1 : j < z) {i : Nat} (hi : j.toNatClampNeg = i) (hi' : i < vs.length) {g : JFrame} (hg : g.method = m) {rest : List Value} (hs : g.stack = .int x :: .int j :: .ref a :: rest) (hd : decode c.code g.pc = .ok (.castore, 1)) (ha : n0 ≤ a)
    (K : ∀ T' h', OwP p l e R s m args below meth c n0 T' h' k n → Wr h h' a j.toNatClampNeg (.int (nar .char x)) → Arv Z h' a kA .char z (vs.set i (.int (nar .char x))) dv → OwG p e below s n0 KK NN Q T' { g with pc := g.pc + 1, stack := rest }) : OwG p e below s n0 KK NN Q T g := by
  obtain ⟨L, X, eT, N⟩ := P
  obtain ⟨cl, A1, q1, S1, M1, H1, U1⟩ := A
  obtain ⟨T', h', X', e', W, st⟩ := RoadKit.stC X hx hZ eT A1 (inb_of S1 ⟨hj0, hj1⟩) hg hs hd
  exact (K T' h' ⟨_, X', e', Fr.snoc X' N ha⟩ W (Arv.set A1 q1 S1 M1 H1 U1 (fits_nar_char _) W i hi hi')).go st
theorem OwP.special (P : OwP p l e R s m args below meth c n0 T h k n) (hx : p.tables.exec = Jvm.exec) (hZ : Z.Warmed39 s.vm) {own : String} {index : Nat} {y : MethodName} (hy1 : y.name = "<init>") (hown : s.vm.findClass own = some m.cls) (w1 : (Jvm.Cond.methodLink own index y).before a0 Z = true) (w2 : (Jvm.Cond.instanceMethod y).before a0 Z = true)
    {bytes : ByteArray} {maxL : Nat} (w3 : (Jvm.Cond.code y bytes maxL none).before a0 Z = true) (hy : y.cls ≠ "java/lang/invoke/MethodHandle" ∧ y.cls ≠ "java/lang/invoke/VarHandle")
    {W c1 s1 : Nat} {as' : Array Value} {Qc : Option Value → Heap → List Loc → Prop} (hK : Back l R p e below s args y 3 W (fun A a => a = as' ∧ A.U.heap = h ∧ A.cells + c1 ≤ R.cells ∧ A.slots + s1 ≤ R.slots) (fun A _ v B => ∃ L, Qc v B.U.heap L ∧ B.locs = A.locs ++ L ∧ B.cells = A.cells + c1 ∧ B.slots = A.slots + s1))
    (hQ : ∀ v h L, Qc v h L → Fr n0 L) {g : JFrame} (hg : g.method = m) (hsize : g.locals.size = c.maxLocals) {a : Addr} {argsL rest : List Value}
    (hlen : ∀ sig, parseMethodDescriptor y.desc = some sig → argsL.length = sig.parameters.length) (hstack : g.stack = argsL.reverse ++ .ref a :: rest) (hW : 2 * g.monitorRoom + (rest.map fun v => v.category).sum ≤ W)
    (hdg : decode c.code g.pc = .ok (.invokespecial index, 3)) (has : (Value.ref a :: argsL).toArray = as') (hc : k + c1 ≤ R.cells) (hl : n + s1 ≤ R.slots)
    (K : ∀ T' v L h', T'.heap = h' → OwP p l e R s m args below meth c n0 T' h' (k + c1) (n + s1) → Qc v h' L → OwG p e below s n0 KK NN Q T' { g with pc := g.pc + 3, stack := v.toList ++ rest }) : OwG p e below s n0 KK NN Q T g := by
  obtain ⟨L, X, eT, N⟩ := P
  obtain ⟨v, _, ⟨T', L', k', n'⟩, -, X', ⟨Lc, hQc, l', y', z'⟩, st⟩ := X.specialBack hx hy1 hown (mvT hZ w1) (mvT hZ w2) (mvT hZ w3) hy hK hg hsize (Steps.refl _) hlen hstack hW hdg (fun _ _ => ⟨has, eT, hc, hl⟩)
  dsimp only [Pt.U, Pt.locs, Pt.cells, Pt.slots] at X' l' y' z' st hQc
  subst l' y' z'
  exact (K T' v Lc _ rfl ⟨_, X', rfl, Fr.app N (hQ _ _ _ hQc)⟩ hQc).go fun t kt => st.trans kt
theorem OwP.virtual (P : OwP p l e R s m args below meth c n0 T h k n) (hx : p.tables.exec = Jvm.exec) (hZ : Z.Warmed39 s.vm) {own C : String} {index : Nat} {y : MethodName} (hown : s.vm.findClass own = some m.cls) (w1 : (Jvm.Cond.methodLink own index y).before a0 Z = true) (w2 : (Jvm.Cond.declares y).before a0 Z = true)
    (w3 : (Jvm.Cond.selects C y y).before a0 Z = true) (w4 : (Jvm.Cond.instanceMethod y).before a0 Z = true) (hy : y.cls ≠ "java/lang/invoke/MethodHandle" ∧ y.cls ≠ "java/lang/invoke/VarHandle")
    {W c1 s1 : Nat} {as' : Array Value} {Qc : Option Value → Heap → List Loc → Prop} (hK : Back l R p e below s args y 3 W (fun A a => a = as' ∧ A.U.heap = h ∧ A.cells + c1 ≤ R.cells ∧ A.slots + s1 ≤ R.slots) (fun A _ v B => ∃ L, Qc v B.U.heap L ∧ B.locs = A.locs ++ L ∧ B.cells = A.cells + c1 ∧ B.slots = A.slots + s1))
    (hQ : ∀ v h L, Qc v h L → Fr n0 L) {b : Addr} (E : Exa Z h b C) {g : JFrame} (hg : g.method = m) (hsize : g.locals.size = c.maxLocals) {argsL rest : List Value}
    (hlen : ∀ sig, parseMethodDescriptor y.desc = some sig → argsL.length = sig.parameters.length) (hstack : g.stack = argsL.reverse ++ .ref b :: rest) (hW : 2 * g.monitorRoom + (rest.map fun v => v.category).sum ≤ W)
    (hdg : decode c.code g.pc = .ok (.invokevirtual index, 3)) (has : (Value.ref b :: argsL).toArray = as') (hc : k + c1 ≤ R.cells) (hl : n + s1 ≤ R.slots)
    (K : ∀ T' v L h', T'.heap = h' → OwP p l e R s m args below meth c n0 T' h' (k + c1) (n + s1) → Qc v h' L → OwG p e below s n0 KK NN Q T' { g with pc := g.pc + 3, stack := v.toList ++ rest }) : OwG p e below s n0 KK NN Q T g := by
  obtain ⟨L, X, eT, N⟩ := P
  obtain ⟨cq, kq, qa, qb, qc⟩ := isOf hZ eT E
  obtain ⟨v, _, ⟨T', L', k', n'⟩, -, X', ⟨Lc, hQc, l', y', z'⟩, st⟩ := X.virtualBack hx hown (mvT hZ w1) (mvT hZ w2) (notFace_of_selects (args := #[]) (mvT hZ w3)) (mvT hZ w3) (mvT hZ w4) hy hK qa qc hg hsize (Steps.refl _) hlen hstack hW hdg (fun _ _ => ⟨has, eT, hc, hl⟩)
  dsimp only [Pt.U, Pt.locs, Pt.cells, Pt.slots] at X' l' y' z' st hQc
  subst l' y' z'
  exact (K T' v Lc _ rfl ⟨_, X', rfl, Fr.app N (hQ _ _ _ hQc)⟩ hQc).go fun t kt => st.trans kt
theorem OwP.stat (P : OwP p l e R s m args below meth c n0 T h k n) (hx : p.tables.exec = Jvm.exec) (hZ : Z.Warmed39 s.vm) {own : String} {index : Nat} {y : MethodName} {bytes : ByteArray} {maxL : Nat} {ret : Option FieldType} (hown : s.vm.findClass own = some m.cls) (w1 : (Jvm.Cond.methodLink own index y).before a0 Z = true) (w2 : (Jvm.Cond.static y).before a0 Z = true) (w3 : (Jvm.Cond.initialized y.cls).before a0 Z = true)
    (w4 : (Jvm.Cond.code y bytes maxL ret).before a0 Z = true) (hy : y.cls ≠ "java/lang/invoke/MethodHandle" ∧ y.cls ≠ "java/lang/invoke/VarHandle")
    {W c1 s1 : Nat} {as' : Array Value} {Qc : Option Value → Heap → List Loc → Prop} (hK : Back l R p e below s args y 3 W (fun A a => a = as' ∧ A.U.heap = h ∧ A.cells + c1 ≤ R.cells ∧ A.slots + s1 ≤ R.slots) (fun A _ v B => ∃ L, Qc v B.U.heap L ∧ B.locs = A.locs ++ L ∧ B.cells = A.cells + c1 ∧ B.slots = A.slots + s1))
    (hQ : ∀ v h L, Qc v h L → Fr n0 L) {g : JFrame} (hg : g.method = m) (hsize : g.locals.size = c.maxLocals) {argsL rest : List Value}
    (hlen : ∀ sig, parseMethodDescriptor y.desc = some sig → argsL.length = sig.parameters.length) (hstack : g.stack = argsL.reverse ++ rest) (hW : 2 * g.monitorRoom + (rest.map fun v => v.category).sum ≤ W)
    (hdg : decode c.code g.pc = .ok (.invokestatic index, 3)) (has : argsL.toArray = as') (hc : k + c1 ≤ R.cells) (hl : n + s1 ≤ R.slots)
    (K : ∀ T' v L h', T'.heap = h' → OwP p l e R s m args below meth c n0 T' h' (k + c1) (n + s1) → Qc v h' L → OwG p e below s n0 KK NN Q T' { g with pc := g.pc + 3, stack := v.toList ++ rest }) : OwG p e below s n0 KK NN Q T g := by
  obtain ⟨L, X, eT, N⟩ := P
  obtain ⟨v, _, ⟨T', L', k', n'⟩, -, X', ⟨Lc, hQc, l', y', z'⟩, st⟩ := Jvm.LawKit.callS X hx hown (mvT hZ w1) (mvT hZ w2) (mvT hZ w3) (mvT hZ w4) hy hK hg hsize hlen hstack hW hdg (fun _ _ => ⟨has, eT, hc, hl⟩)
  dsimp only [Pt.U, Pt.locs, Pt.cells, Pt.slots] at X' l' y' z' st hQc
  subst l' y' z'
  exact (K T' v Lc _ rfl ⟨_, X', rfl, Fr.app N (hQ _ _ _ hQc)⟩ hQc).go st
theorem own_cI (z : Int32) : (Value.int z).category = 1 := rfl
theorem own_cL (z : Int64) : (Value.long z).category = 2 := rfl
theorem own_cR (z : Addr) : (Value.ref z).category = 1 := rfl
theorem own_cN : Value.null.category = 1 := rfl
theorem own_cat {v : Value} (h : v.isRef = true) : v.category = 1 := by cases v <;> first | rfl | (cases h; done)
theorem own_nar {t : FieldType} {v : Value} (h : v.isRef = true) (ht : t.isReference = true := by rfl) : narrow t v = v := by cases t <;> first | (cases ht; done) | (cases v <;> first | rfl | (cases h; done))
theorem own_fit {t : FieldType} {v : Value} (h : v.isRef = true) (ht : t.isReference = true := by rfl) : fits t v = true := by cases t <;> first | (cases ht; done) | (cases v <;> first | rfl | (cases h; done))
theorem own_and255 (x : Int32) : ¬ nar .char ((x &&& (255 : Int32)).toUInt32.toUInt16.toUInt32.toInt32) < 0 ∧ ¬ (255 : Int32) < nar .char ((x &&& (255 : Int32)).toUInt32.toUInt16.toUInt32.toInt32) := by
  have t : ∀ k : Fin 256, ¬ nar .char ((Int32.ofNat k.val).toUInt32.toUInt16.toUInt32.toInt32) < 0 ∧ ¬ (255 : Int32) < nar .char ((Int32.ofNat k.val).toUInt32.toUInt16.toUInt32.toInt32) := by decide +kernel
  have h : (x &&& 255).toBitVec.toNat < 256 := by
    simp only [Int32.toBitVec_and, BitVec.toNat_and]
    exact Nat.lt_succ_of_le Nat.and_le_right
  have e : (x &&& 255) = Int32.ofNat (x &&& 255).toBitVec.toNat := by
    apply Int32.toBitVec_inj.mp
    show _ = BitVec.ofNat 32 _
    rw [BitVec.ofNat_toNat]; simp
  rw [e]
  exact t ⟨_, h⟩
def OwQ (Qc : Option Value → Heap → Prop) (n0 : Nat) (v : Option Value) (h : Heap) (L : List Loc) : Prop := Qc v h ∧ Fr n0 L
/-- a contract made a payer -/
theorem OwM.back {y : MethodName} {bytes : ByteArray} {maxL : Nat} {ret : Option FieldType} {rm : Room} {W : Nat} {as' : Array Value} {Qc : Option Value → Heap → Prop} (hM : OwM l Z y bytes maxL ret rm n0 as' h Qc)
    (hZ : Z.Warmed39 s.vm) (wc : (Jvm.Cond.code y bytes maxL ret).before a0 Z = true) (wz : (Jvm.Cond.initialized y.cls).before a0 Z = true) (hf : rm.frames + 1 ≤ R.frames) (hl : W + (maxL + 11) + rm.locals ≤ R.locals) :
    Back l R p e below s args y 3 W (fun A a => a = as' ∧ A.U.heap = h ∧ A.cells + rm.cells ≤ R.cells ∧ A.slots + rm.slots ≤ R.slots)
      (fun A _ v B => ∃ L, OwQ Qc n0 v B.U.heap L ∧ B.locs = A.locs ++ L ∧ B.cells = A.cells + rm.cells ∧ B.slots = A.slots + rm.slots) :=
  backOf (Q := OwQ Qc n0) hM hZ wc wz hf hl
end Own
end Jvm.Pilot.@@N@@
namespace Jvm.Pilot.@@N@@
open Jvm Jvm.ClassFile Sem Op Lib Jvm.Free Jvm.Stand Jvm.LawKit Jvm.RoadKit Bundle Jvm.Pilot.@@N@@.Jvm.D
section Own3
variable {p : Program} {l : Launch} {e : Env} {R : Room} {s : State} {m : MethodId} {args : Array Value} {below : List Frame} {meth : Method} {c : Code} {T : State} {k n : Nat} {Z : State} {a0 : Array Value} {h : Heap} {n0 KK NN : Nat} {Q : Option Value → Heap → Prop}
theorem own_i2b2 (x : Int32) : x.toInt8.toInt32.toInt8.toInt32 = x.toInt8.toInt32 := by simp
theorem OwP.stB (P : OwP p l e R s m args below meth c n0 T h k n) (hx : p.tables.exec = Jvm.exec) (hZ : Z.Warmed39 s.vm) {a : Addr} {kA : ClassId} {z j x : Int32} {vs : List Value} {dv : Value} (A : Arv Z h a kA .byte z vs dv) (hj0 : ¬ j < 0) (hj1 : j < z) {i : Nat} (hi : j.toNatClampNeg = i) (hi' : i < vs.length) {g : JFrame} (hg : g.method = m) {rest : List Value} (hs : g.stack = .int x :: .int j :: .ref a :: rest) (hd : decode c.code g.pc = .ok (.bastore, 1)) (ha : n0 ≤ a)
    (K : ∀ T' h', OwP p l e R s m args below meth c n0 T' h' k n → Wr h h' a j.toNatClampNeg (.int x.toInt8.toInt32) → Arv Z h' a kA .byte z (vs.set i (.int x.toInt8.toInt32)) dv → OwG p e below s n0 KK NN Q T' { g with pc := g.pc + 1, stack := rest }) : OwG p e below s n0 KK NN Q T g := by
  obtain ⟨L, X, eT, N⟩ := P
  obtain ⟨cl, A1, q1, S1, M1, H1, U1⟩ := A
  obtain ⟨T', h', X', e', W, st⟩ := RoadKit.stB X hx hZ eT A1 (inb_of S1 ⟨hj0, hj1⟩) hg hs hd
  exact (K T' h' ⟨_, X', e', Fr.snoc X' N ha⟩ W (Arv.set A1 q1 S1 M1 H1 U1 (fits_nar_byte _) W i hi hi')).go st
end Own3
end Jvm.Pilot.@@N@@
namespace Jvm.Pilot.@@N@@
open Jvm Jvm.ClassFile Sem Op Lib Jvm.Free Jvm.Stand Jvm.LawKit Jvm.RoadKit Bundle Jvm.Pilot.@@N@@.Jvm.D
section Own4
variable {p : Program} {l : Launch} {e : Env} {R : Room} {s : State} {m : MethodId} {args : Array Value} {below : List Frame} {meth : Method} {c : Code} {T : State} {k n : Nat} {Z : State} {a0 : Array Value} {h : Heap} {n0 KK NN : Nat} {Q : Option Value → Heap → Prop}
/-- a method that isn't static and has this code: it is declared -/
theorem own_declares {y : MethodName} {bytes : ByteArray} {maxL : Nat} {ret : Option FieldType} (w1 : (Jvm.Cond.instanceMethod y).before a0 Z = true) (w2 : (Jvm.Cond.code y bytes maxL ret).before a0 Z = true) : (Jvm.Cond.declares y).before a0 Z = true := by
  obtain ⟨mk, me, hn, hm, hs, -⟩ := Cond.instanceMethod_spec w1
  obtain ⟨me', cc, hm', -, -, -, -, -, -, hsig⟩ := Cond.code_spec hn w2
  cases hm.symm.trans hm'
  simp [Cond.before, Cond.holds, Cond.value, hn, hm, hs, hsig]
/-- no interface: told of one method of the class, it holds of another -/
theorem own_nf {C : String} {y y' : MethodName} (w : (Jvm.Cond.selects C y' y').before a0 Z = true) (hc : y'.cls = y.cls) : NotFace Z y := fun r0 h0 => by
  obtain ⟨c2, r2, m2, q1, q2, q3, q4, kP, hkP, hkPi⟩ := Cond.selects_spec w
  have e1 := findClass_of_methodNamed h0
  have e2 := findClass_of_methodNamed q3
  rw [hc] at e2
  have e3 := Option.some.inj (e1.symm.trans e2)
  exact ⟨kP, by rw [e3]; exact hkP, hkPi⟩
/-- the class's own method is the one that the lookup finds -/
theorem own_same {C : String} {y y' : MethodName} (w1 : (Jvm.Cond.instanceMethod y).before a0 Z = true) (w : (Jvm.Cond.selects C y' y').before a0 Z = true) (hc : y'.cls = y.cls) (hy : y.cls ≠ "java/lang/invoke/MethodHandle" ∧ y.cls ≠ "java/lang/invoke/VarHandle") : (Jvm.Cond.sameMethod y.cls y.cls y.name y.desc).before a0 Z = true := by
  obtain ⟨mk, me, hn, hm, hs, -⟩ := Cond.instanceMethod_spec w1
  obtain ⟨kr, hkr, hni⟩ := own_nf w hc mk hn
  have e1 := findClass_of_methodNamed hn
  have e2 := State.methodFound?_of_named hn hy
  simp [Cond.before, Cond.holds, Cond.value, e1, e2, hn, hkr, hni]
theorem OwP.superc (P : OwP p l e R s m args below meth c n0 T h k n) (hx : p.tables.exec = Jvm.exec) (hZ : Z.Warmed39 s.vm) {own KK' : String} {index : Nat} {y : MethodName} (hown : s.vm.findClass own = some m.cls) (w1 : (Jvm.Cond.methodLink own index y).before a0 Z = true) (w2 : (Jvm.Cond.sameMethod y.cls y.cls y.name y.desc).before a0 Z = true)
    (w3 : (Jvm.Cond.instanceMethod y).before a0 Z = true) (w4 : (Jvm.Cond.superclass own y.cls).before a0 Z = true) (hn : y.name ≠ "<init>")
    {W c1 s1 : Nat} {as' : Array Value} {Qc : Option Value → Heap → List Loc → Prop} (hK : Back l R p e below s args y 3 W (fun A a => a = as' ∧ A.U.heap = h ∧ A.cells + c1 ≤ R.cells ∧ A.slots + s1 ≤ R.slots) (fun A _ v B => ∃ L, Qc v B.U.heap L ∧ B.locs = A.locs ++ L ∧ B.cells = A.cells + c1 ∧ B.slots = A.slots + s1))
    (hQ : ∀ v h L, Qc v h L → Fr n0 L) {a : Addr} (F : Exa Z h a KK') {g : JFrame} (hg : g.method = m) (hsize : g.locals.size = c.maxLocals) {bytes : ByteArray} {maxL : Nat} {ret : Option FieldType} (wc : (Jvm.Cond.code y bytes maxL ret).before a0 Z = true) {argsL rest : List Value}
    (hlen : ∀ sig, parseMethodDescriptor y.desc = some sig → argsL.length = sig.parameters.length) (hstack : g.stack = argsL.reverse ++ .ref a :: rest) (hW : 2 * g.monitorRoom + (rest.map fun v => v.category).sum ≤ W)
    (hdg : decode c.code g.pc = .ok (.invokespecial index, 3)) (has : (Value.ref a :: argsL).toArray = as') (hc : k + c1 ≤ R.cells) (hl : n + s1 ≤ R.slots)
    (K : ∀ T' v L h', T'.heap = h' → OwP p l e R s m args below meth c n0 T' h' (k + c1) (n + s1) → Qc v h' L → OwG p e below s n0 KK NN Q T' { g with pc := g.pc + 3, stack := v.toList ++ rest }) : OwG p e below s n0 KK NN Q T g := by
  obtain ⟨L, X, eT, N⟩ := P
  obtain ⟨v, _, ⟨T', L', k', n'⟩, -, X', ⟨Lc, hQc, l', y', z'⟩, st⟩ := superBack X hx hZ hown w1 w2 w3 w4 hn hK eT (Ins.self F) hg hsize wc hlen hstack hW hdg (fun _ _ => ⟨has, eT, hc, hl⟩)
  dsimp only [Pt.U, Pt.locs, Pt.cells, Pt.slots] at X' l' y' z' st hQc
  subst l' y' z'
  exact (K T' v Lc _ rfl ⟨_, X', rfl, Fr.app N (hQ _ _ _ hQc)⟩ hQc).go fun t kt => st.trans kt
/-- invokevirtual where what selects isn't what is named -/
theorem OwP.virtualN (P : OwP p l e R s m args below meth c n0 T h k n) (hx : p.tables.exec = Jvm.exec) (hZ : Z.Warmed39 s.vm) {own C : String} {index : Nat} {y z : MethodName} (hown : s.vm.findClass own = some m.cls) (w1 : (Jvm.Cond.methodLink own index y).before a0 Z = true) (w2 : (Jvm.Cond.declares y).before a0 Z = true) (nf : NotFace Z y)
    (w3 : (Jvm.Cond.selects C y z).before a0 Z = true) (w4 : (Jvm.Cond.instanceMethod z).before a0 Z = true) (hy : y.cls ≠ "java/lang/invoke/MethodHandle" ∧ y.cls ≠ "java/lang/invoke/VarHandle")
    {W c1 s1 : Nat} {as' : Array Value} {Qc : Option Value → Heap → List Loc → Prop} (hK : Back l R p e below s args z 3 W (fun A a => a = as' ∧ A.U.heap = h ∧ A.cells + c1 ≤ R.cells ∧ A.slots + s1 ≤ R.slots) (fun A _ v B => ∃ L, Qc v B.U.heap L ∧ B.locs = A.locs ++ L ∧ B.cells = A.cells + c1 ∧ B.slots = A.slots + s1))
    (hQ : ∀ v h L, Qc v h L → Fr n0 L) {b : Addr} (E : Exa Z h b C) {g : JFrame} (hg : g.method = m) (hsize : g.locals.size = c.maxLocals) {argsL rest : List Value}
    (hlen : ∀ sig, parseMethodDescriptor y.desc = some sig → argsL.length = sig.parameters.length) (hstack : g.stack = argsL.reverse ++ .ref b :: rest) (hW : 2 * g.monitorRoom + (rest.map fun v => v.category).sum ≤ W)
    (hdg : decode c.code g.pc = .ok (.invokevirtual index, 3)) (has : (Value.ref b :: argsL).toArray = as') (hc : k + c1 ≤ R.cells) (hl : n + s1 ≤ R.slots)
    (K : ∀ T' v L h', T'.heap = h' → OwP p l e R s m args below meth c n0 T' h' (k + c1) (n + s1) → Qc v h' L → OwG p e below s n0 KK NN Q T' { g with pc := g.pc + 3, stack := v.toList ++ rest }) : OwG p e below s n0 KK NN Q T g := by
  obtain ⟨L, X, eT, N⟩ := P
  obtain ⟨cq, kq, qa, qb, qc⟩ := isOf hZ eT E
  have nf' : NotFace s y := fun r0 h0 => by
    have h0' : Z.methodNamed? y = some r0 := by
      have q := State.methodNamed?_setVm (s := Z) hZ.alike (x := y)
      have e1 : (Z.setVm s.vm).methodNamed? y = s.methodNamed? y := rfl
      rw [← q, e1]; exact h0
    obtain ⟨kr, hkr, hni⟩ := nf r0 h0'
    obtain ⟨k', hk', ek⟩ := hZ.alike.2.2 _ _ hkr
    exact ⟨k', hk', by rw [ek]; exact hni⟩
  obtain ⟨v, _, ⟨T', L', k', n'⟩, -, X', ⟨Lc, hQc, l', y', z'⟩, st⟩ := X.virtualBack hx hown (mvT hZ w1) (mvT hZ w2) nf' (mvT hZ w3) (mvT hZ w4) hy hK qa qc hg hsize (Steps.refl _) hlen hstack hW hdg (fun _ _ => ⟨has, eT, hc, hl⟩)
  dsimp only [Pt.U, Pt.locs, Pt.cells, Pt.slots] at X' l' y' z' st hQc
  subst l' y' z'
  exact (K T' v Lc _ rfl ⟨_, X', rfl, Fr.app N (hQ _ _ _ hQc)⟩ hQc).go fun t kt => st.trans kt
theorem OwP.newPE (P : OwP p l e R s m args below meth c n0 T h k n) (hx : p.tables.exec = Jvm.exec) (hZ : Z.Warmed39 s.vm) {aty : ArrayType} (w : (Jvm.Cond.arrayClass (newarray.typeOf aty)).before a0 Z = true) {g : JFrame} (hg : g.method = m) (hd : decode c.code g.pc = .ok (.newarray aty, 2)) {z : Int32} {rest : List Value} (hs : g.stack = .int z :: rest)
    (hn : ¬ z < 0) {cap : Nat} (hcap : z.toNatClampNeg ≤ cap) (hb : cap * 8 ≤ 536870912) (hc : k + 1 ≤ R.cells) (hl : n + cap ≤ R.slots) {ad : String} (had : "[" ++ (newarray.typeOf aty).toString = ad)
    (K : ∀ T' h' b kA, b = h.size → OwP p l e R s m args below meth c n0 T' h' (k + 1) (n + cap) → Ext h h' → Arv Z h' b kA (newarray.typeOf aty) z [] (defaultValue (newarray.typeOf aty)) → Exa Z h' b ad → OwG p e below s n0 KK NN Q T' { g with pc := g.pc + 2, stack := .ref b :: rest }) : OwG p e below s n0 KK NN Q T g := by
  obtain ⟨L, X, eT, N⟩ := P
  obtain ⟨T', h', kA, X', e', E, A, EA, st⟩ := RoadKit.newPE X hx hZ w eT hg hd hs hn hcap hb hc hl had
  exact (K T' h' _ kA rfl ⟨L, X', e', N⟩ E (Arv.new A hn) EA).go st
theorem OwP.castY (P : OwP p l e R s m args below meth c n0 T h k n) (hx : p.tables.exec = Jvm.exec) (hZ : Z.Warmed39 s.vm) {own K' : String} {index : Nat} (hown : s.vm.findClass own = some m.cls) (w : (Jvm.Cond.classLink own index K').before a0 Z = true) {a : Addr} (F : Ins Z h a K' true)
    {g : JFrame} (hg : g.method = m) {rest : List Value} (hs : g.stack = .ref a :: rest) (hd : decode c.code g.pc = .ok (.checkcast index, 3))
    (K : ∀ T', OwP p l e R s m args below meth c n0 T' h k n → OwG p e below s n0 KK NN Q T' { g with pc := g.pc + 3 }) : OwG p e below s n0 KK NN Q T g := by
  obtain ⟨L, X, eT, N⟩ := P
  obtain ⟨T', X', e', st⟩ := RoadKit.castY X hx hZ hown w eT F hg hs hd
  exact (K T' ⟨L, X', e', N⟩).go st
theorem OwP.cloneV (P : OwP p l e R s m args below meth c n0 T h k n) (hx : p.tables.exec = Jvm.exec) (hZ : Z.Warmed39 s.vm) {own ad : String} {index : Nat} (hown : s.vm.findClass own = some m.cls)
    (w1 : (Jvm.Cond.methodLink own index ⟨ad, "clone", "()Ljava/lang/Object;"⟩).before a0 Z = true) (w2 : (Jvm.Cond.sameMethod ad "java/lang/Object" "clone" "()Ljava/lang/Object;").before a0 Z = true) (w3 : (Jvm.Cond.native ⟨"java/lang/Object", "clone", "()Ljava/lang/Object;"⟩).before a0 Z = true)
    (w4 : (Jvm.Cond.instanceMethod ⟨"java/lang/Object", "clone", "()Ljava/lang/Object;"⟩).before a0 Z = true) (w5 : (Jvm.Cond.selects ad ⟨ad, "clone", "()Ljava/lang/Object;"⟩ ⟨"java/lang/Object", "clone", "()Ljava/lang/Object;"⟩).before a0 Z = true) (w6 : (Jvm.Cond.castable ad "java/lang/Cloneable").before a0 Z = true)
    {a : Addr} {kA : ClassId} {ty : FieldType} {z : Int32} {vs : List Value} {dv : Value} (F : Arv Z h a kA ty z vs dv) (E : Exa Z h a ad) {g : JFrame} (hg : g.method = m) (hsize : g.locals.size = c.maxLocals) {rest : List Value} (hst : g.stack = .ref a :: rest) (hd : decode c.code g.pc = .ok (.invokevirtual index, 3))
    (hf : 1 ≤ R.frames) {W cap : Nat} (hW : 2 * g.monitorRoom + (rest.map fun v => v.category).sum ≤ W) (hl : W + 14 ≤ R.locals) (hcap : z.toNatClampNeg ≤ cap) (hc : k + 1 ≤ R.cells) (hsl : n + cap ≤ R.slots)
    (K : ∀ T' h' b, b = h.size → OwP p l e R s m args below meth c n0 T' h' (k + 1) (n + cap) → Ext h h' → Arv Z h' b kA ty z vs dv → Exa Z h' b ad → OwG p e below s n0 KK NN Q T' { g with pc := g.pc + 3, stack := .ref b :: rest }) : OwG p e below s n0 KK NN Q T g := by
  obtain ⟨L, X, eT, N⟩ := P
  obtain ⟨T', h', X', e', E1, A, E2, st⟩ := RoadKit.cloneH X hx hZ hown w1 w2 w3 w4 w5 w6 eT F.arh E hg hsize hst hd hf hW hl hcap hc hsl
  exact (K T' h' _ rfl ⟨L, X', e', N⟩ E1 A E2).go st
end Own4
end Jvm.Pilot.@@N@@
namespace Jvm.Pilot.@@N@@
open Jvm Jvm.ClassFile Sem Op Lib Jvm.Free Jvm.Stand Jvm.LawKit Jvm.RoadKit Bundle Jvm.Pilot.@@N@@.Jvm.D
section Own2
variable {p : Program} {l : Launch} {e : Env} {R : Room} {s : State} {m : MethodId} {args : Array Value} {below : List Frame} {meth : Method} {c : Code} {T : State} {k n : Nat} {Z : State} {a0 : Array Value} {h : Heap} {n0 KK NN : Nat} {Q : Option Value → Heap → Prop} {EL : List (String × Nat)} {sf : List Addr} {own : String}
/-- as OwG, of a walk that may load String constants cold -/
def OwH (p : Program) (e : Env) (below : List Frame) (s Z : State) (EL : List (String × Nat)) (n0 KK NN : Nat) (Q : Option Value → Heap → Prop) (T : State) (g : JFrame) : Prop :=
  ∃ s₂ o, Steps p.tables e below (T.setTop g) s₂ ∧ s₂.status = .running ∧ Ended s₂ below o ∧ ∃ v L, o = .returned v ∧ (Q v s₂.heap ∧ Fr n0 L) ∧ CHr Z EL s.vm s.heap s₂.vm s₂.heap ∧ ReturnedEndW s o s₂ L KK NN
/-- where such a walk stands: the tables at hand are hidden; sf: the places of its own that no constant books -/
def OwC (p : Program) (l : Launch) (e : Env) (R : Room) (s : State) (m : MethodId) (args : Array Value) (below : List Frame) (meth : Method) (c : Code) (Z : State) (own : String) (EL : List (String × Nat)) (sf : List Addr) (n0 : Nat) (T : State) (h : Heap) (k n : Nat) : Prop :=
  ∃ (vm0 : Vm) (k0 : Nat) (locs : List Loc), Stand p l e R (s.setVm vm0) m args below meth c T locs k n ∧ T.heap = h ∧ Fr n0 locs ∧ s.Since vm0 k0 ∧ k0 ≤ h.size ∧ Z.Warmed39 vm0 ∧ vm0.findClass own = some m.cls ∧ CHr Z EL s.vm s.heap vm0 h ∧ ∀ x ∈ sf, x < h.size ∧ Safe Z EL vm0 h x
/-- a contract of a callee that may load String constants cold -/
def OwS (l : Launch) (Z : State) (EL : List (String × Nat)) (sf : List Addr) (y : MethodName) (bytes : ByteArray) (maxL : Nat) (ret : Option FieldType) (rm : Room) (n0 : Nat) (as' : Array Value) (h0 : Heap) (Q : Option Value → Heap → Prop) : Prop :=
  MetFree l y (head1 [Jvm.Cond.code y bytes maxL ret] rm) (fun a U => a = as' ∧ Z.Warmed39 U.vm ∧ U.heap = h0 ∧ CHv Z EL U.vm h0 ∧ ∀ x ∈ sf, x < h0.size ∧ Safe Z EL U.vm h0 x) (fun _ _ _ _ _ => True)
    (fun _ U o U' => ∃ v L, o = .returned v ∧ (Q v U'.heap ∧ Fr n0 L) ∧ CHr Z EL U.vm U.heap U'.vm U'.heap ∧ ReturnedEndW U o U' L rm.cells rm.slots)
theorem OwH.go {T' : State} {g g' : JFrame} (st : ∀ t, Steps p.tables e below (T'.setTop g') t → Steps p.tables e below (T.setTop g) t) (G : OwH p e below s Z EL n0 KK NN Q T' g') : OwH p e below s Z EL n0 KK NN Q T g := by
  obtain ⟨s₂, o, h1, r⟩ := G
  exact ⟨s₂, o, st _ h1, r⟩
theorem OwH.cast {g g' : JFrame} (q : g = g') (G : OwH p e below s Z EL n0 KK NN Q T g') : OwH p e below s Z EL n0 KK NN Q T g := q ▸ G
theorem OwC.here (P : OwC p l e R s m args below meth c Z own EL sf n0 T h k n) : At T m c below := by obtain ⟨_, _, _, X, _⟩ := P; exact X.here
theorem OwC.wide (P : OwC p l e R s m args below meth c Z own EL sf n0 T h k n) {k' n' : Nat} {sf' : List Addr} (h1 : k ≤ k') (h2 : n ≤ n') (h3 : ∀ x ∈ sf', x ∈ sf) : OwC p l e R s m args below meth c Z own EL sf' n0 T h k' n' := by
  obtain ⟨vm0, k0, L, X, a1, a2, a3, a4, a5, a6, a7, a8⟩ := P
  exact ⟨vm0, k0, L, Jvm.Stand.wide X (fun x hx _ => hx) h1 h2, a1, a2, a3, a4, a5, a6, a7, fun x hx => a8 x (h3 x hx)⟩
theorem OwS.of {y : MethodName} {bytes : ByteArray} {maxL : Nat} {ret : Option FieldType} {ws : List Jvm.Cond} {rm : Room} {as' : Array Value} {h0 : Heap} (pn : plainFor y = true)
    (body : ∀ (p : Program) (e : Env) (s : State) (m : MethodId) (below : List Frame) (meth : Method) (c : Code) (T : State), p.tables.exec = Jvm.exec → c.code = bytes → c.maxLocals = maxL → meth.name = y.name → meth.sig.returnType = ret → meth.locks = false → OwC p l e rm s m as' below meth c Z y.cls EL sf n0 T h0 0 0 → OwH p e below s Z EL n0 KK NN Q T (entryFrame m as' maxL)) :
    MetFree l y (head1 (Jvm.Cond.code y bytes maxL ret :: ws) rm) (fun a U => a = as' ∧ Z.Warmed39 U.vm ∧ U.heap = h0 ∧ CHv Z EL U.vm h0 ∧ ∀ x ∈ sf, x < h0.size ∧ Safe Z EL U.vm h0 x) (fun _ _ _ _ _ => True)
      (fun _ U o U' => ∃ v L, o = .returned v ∧ (Q v U'.heap ∧ Fr n0 L) ∧ CHr Z EL U.vm U.heap U'.vm U'.heap ∧ ReturnedEndW U o U' L KK NN) := by
  refine MetFree.of_bodySF pn hisR ?_
  intro p e s m args below meth c s₁ Bd hml0 hP hK
  obtain ⟨rfl, hZ, hh, hC, hsf⟩ := hP
  have X0 := Stand.of_body Bd
  have hW : s.WarmedH s.vm := by have q := X0.warmed; rw [Bd.state] at q; exact q
  refine body p e s m below meth c s₁ Bd.exec Bd.bytes hml0 (name_of_methodNamed Bd.named Bd.method).1 Bd.returns Bd.notSynchronized ⟨s.vm, 0, [], X0, by rw [← hh, Bd.state]; rfl, Fr.nil n0, hW.since 0, Nat.zero_le _, hZ, findClass_of_methodNamed Bd.named, ?_, hsf⟩
  subst hh
  exact CHr.refl hC
theorem OwS.mk {y : MethodName} {bytes : ByteArray} {maxL : Nat} {ret : Option FieldType} {rm : Room} {as' : Array Value} {h0 : Heap} (pn : plainFor y = true)
    (body : ∀ (p : Program) (e : Env) (s : State) (m : MethodId) (below : List Frame) (meth : Method) (c : Code) (T : State), p.tables.exec = Jvm.exec → c.code = bytes → c.maxLocals = maxL → meth.name = y.name → meth.sig.returnType = ret → meth.locks = false → OwC p l e rm s m as' below meth c Z y.cls EL sf n0 T h0 0 0 → OwH p e below s Z EL n0 rm.cells rm.slots Q T (entryFrame m as' maxL)) :
    OwS l Z EL sf y bytes maxL ret rm n0 as' h0 Q := OwS.of (ws := []) (Q := Q) pn body
theorem OwC.leave (P : OwC p l e R s m args below meth c Z own EL sf n0 T h k n) (hEL : EW Z a0 EL) (hlk : meth.locks = false) {v : Option Value} (hv : meth.sig.returnType = none → v = none) (hk : k ≤ KK) (hn' : n ≤ NN) (q : Q v h) :
    ∃ fs, (∀ (f : JFrame) (acts : List Action), f.method = m → f.locked = none → f.entered = [] → (doReturn e (T.setTop f) acts v).1 = T.setFrames fs) ∧ ((∀ g, Steps p.tables e below (T.setTop g) (T.setFrames fs) → OwH p e below s Z EL n0 KK NN Q T g)) := by
  obtain ⟨vm0, k0, L, X, e0, N, hS, hk0, hZ, hown, hC, hsf⟩ := P
  have X2 := Jvm.Stand.wide X (fun x hx _ => hx) hk hn'
  obtain ⟨fs, hr, hrun, hended, hW⟩ := X2.leaveW hS (by rw [e0]; exact hk0) hv
  refine ⟨fs, hr, fun g st => ⟨_, _, st, hrun, hended, _, _, rfl, ⟨by rw [← e0] at q; exact q, N⟩, ?_, hW⟩⟩
  have A := CHv.at X hZ hEL hC.1
  have B := hC.trans A
  rw [← e0] at B
  exact B
theorem OwC.ret (P : OwC p l e R s m args below meth c Z own EL sf n0 T h k n) (hEL : EW Z a0 EL) (hx : p.tables.exec = Jvm.exec) (hlk : meth.locks = false) {pc : Nat} {Ls : Array Slot} {w : Value} {t : FieldType} {i : Instr} {rest : List Value} (hret : meth.sig.returnType = some t) (hn : narrow t w = w)
    (hi : (i = .ireturn ∧ (t = .int ∨ t = .boolean ∨ t = .byte ∨ t = .char ∨ t = .short) ∧ ∃ z, w = .int z) ∨ (i = .lreturn ∧ t = .long ∧ ∃ z, w = .long z) ∨ (i = .dreturn ∧ t = .double ∧ ∃ z, w = .double z) ∨ (i = .freturn ∧ t = .float ∧ ∃ z, w = .float z) ∨ (i = .areturn ∧ t.isReference = true ∧ w.isRef = true))
    (hd : decode c.code pc = .ok (i, 1)) (hk : k ≤ KK) (hn' : n ≤ NN) (q : Q (some w) h) : OwH p e below s Z EL n0 KK NN Q T (mkF m pc Ls (w :: rest)) := by
  obtain ⟨fs, hr, G⟩ := P.leave hEL hlk (v := some w) (fun h => by rw [hret] at h; cases h) hk hn' q
  obtain ⟨vm0, k0, L, X, _⟩ := P
  exact G _ (retOut X hx hret hn hi hd hr)
theorem OwC.retI (P : OwC p l e R s m args below meth c Z own EL sf n0 T h k n) (hEL : EW Z a0 EL) (hx : p.tables.exec = Jvm.exec) (hlk : meth.locks = false) {pc : Nat} {Ls : Array Slot} {z : Int32} {rest : List Value} (hret : meth.sig.returnType = some .int)
    (hd : decode c.code pc = .ok (.ireturn, 1)) (hk : k ≤ KK) (hn' : n ≤ NN) (q : Q (some (.int z)) h) : OwH p e below s Z EL n0 KK NN Q T (mkF m pc Ls (.int z :: rest)) :=
  P.ret hEL hx hlk hret rfl (Or.inl ⟨rfl, Or.inl rfl, z, rfl⟩) hd hk hn' q
theorem OwC.retR (P : OwC p l e R s m args below meth c Z own EL sf n0 T h k n) (hEL : EW Z a0 EL) (hx : p.tables.exec = Jvm.exec) (hlk : meth.locks = false) {pc : Nat} {Ls : Array Slot} {w : Value} {t : FieldType} {rest : List Value} (hret : meth.sig.returnType = some t) (ht : t.isReference = true) (hw : w.isRef = true)
    (hd : decode c.code pc = .ok (.areturn, 1)) (hk : k ≤ KK) (hn' : n ≤ NN) (q : Q (some w) h) : OwH p e below s Z EL n0 KK NN Q T (mkF m pc Ls (w :: rest)) :=
  P.ret hEL hx hlk hret (by cases t <;> first | (cases ht; done) | (cases w <;> rfl)) (Or.inr (Or.inr (Or.inr (Or.inr ⟨rfl, ht, hw⟩)))) hd hk hn' q
theorem OwC.retN (P : OwC p l e R s m args below meth c Z own EL sf n0 T h k n) (hEL : EW Z a0 EL) (hx : p.tables.exec = Jvm.exec) (hlk : meth.locks = false) {pc : Nat} {Ls : Array Slot} {z : Int32} {t : FieldType} {rest : List Value} (hret : meth.sig.returnType = some t) (ht : t = .boolean ∨ t = .byte ∨ t = .char ∨ t = .short)
    (hd : decode c.code pc = .ok (.ireturn, 1)) (hk : k ≤ KK) (hn' : n ≤ NN) (q : Q (some (.int (nar t z))) h) : OwH p e below s Z EL n0 KK NN Q T (mkF m pc Ls (.int z :: rest)) := by
  obtain ⟨fs, hr, G⟩ := P.leave hEL hlk (v := some (.int (nar t z))) (fun h => by rw [hret] at h; cases h) hk hn' q
  obtain ⟨vm0, k0, L, X, _⟩ := P
  exact G _ (RoadKit.retN X hx hret ht hd hr)
theorem OwC.retV (P : OwC p l e R s m args below meth c Z own EL sf n0 T h k n) (hEL : EW Z a0 EL) (hx : p.tables.exec = Jvm.exec) (hlk : meth.locks = false) {pc : Nat} {Ls : Array Slot} (hret : meth.sig.returnType = none)
    (hd : decode c.code pc = .ok (.return_, 1)) (hk : k ≤ KK) (hn' : n ≤ NN) (q : Q none h) : OwH p e below s Z EL n0 KK NN Q T (mkF m pc Ls []) := by
  obtain ⟨fs, hr, G⟩ := P.leave hEL hlk (v := none) (fun _ => rfl) hk hn' q
  obtain ⟨vm0, k0, L, X, _⟩ := P
  exact G _ (X.returnOut hx hret hd hr)
theorem OwC.getF (P : OwC p l e R s m args below meth c Z own EL sf n0 T h k n) (hx : p.tables.exec = Jvm.exec) {R0 O nm d host : String} {index : Nat} (w : (Jvm.Cond.fieldLink own index R0 nm d).before a0 Z = true ∨ (Jvm.Cond.fieldLinkNest own index R0 nm d host).before a0 Z = true) (via : Via Z R0 O nm d)
    {a : Addr} {v : Value} (F : Fld Z h a O nm d v) {g : JFrame} (hg : g.method = m) {rest : List Value} (hs : g.stack = .ref a :: rest) (hd : decode c.code g.pc = .ok (.getfield index, 3))
    (K : ∀ T', OwC p l e R s m args below meth c Z own EL sf n0 T' h k n → OwH p e below s Z EL n0 KK NN Q T' { g with pc := g.pc + 3, stack := v :: rest }) : OwH p e below s Z EL n0 KK NN Q T g := by
  obtain ⟨vm0, k0, L, X, eT, N, hS, hk0, hZ, hown, hC, hsf⟩ := P
  obtain ⟨T', X', e', st⟩ := RoadKit.getF X hx hZ hown w via eT F hg hs hd
  exact (K T' ⟨vm0, k0, L, X', e', N, hS, hk0, hZ, hown, hC, hsf⟩).go st
theorem OwC.getS (P : OwC p l e R s m args below meth c Z own EL sf n0 T h k n) (hx : p.tables.exec = Jvm.exec) {R0 O nm d host : String} {index : Nat} (w : (Jvm.Cond.fieldLink own index R0 nm d).before a0 Z = true ∨ (Jvm.Cond.fieldLinkNest own index R0 nm d host).before a0 Z = true) (via : Via Z R0 O nm d)
    {v : Value} (F : Sta Z h O nm d v) {g : JFrame} (hg : g.method = m) (hd : decode c.code g.pc = .ok (.getstatic index, 3))
    (K : ∀ T', OwC p l e R s m args below meth c Z own EL sf n0 T' h k n → OwH p e below s Z EL n0 KK NN Q T' { g with pc := g.pc + 3, stack := v :: g.stack }) : OwH p e below s Z EL n0 KK NN Q T g := by
  obtain ⟨vm0, k0, L, X, eT, N, hS, hk0, hZ, hown, hC, hsf⟩ := P
  obtain ⟨T', X', e', st⟩ := RoadKit.getS2 X hx hZ hown w via eT F hg hd
  exact (K T' ⟨vm0, k0, L, X', e', N, hS, hk0, hZ, hown, hC, hsf⟩).go st
theorem OwC.putF (P : OwC p l e R s m args below meth c Z own EL sf n0 T h k n) (hx : p.tables.exec = Jvm.exec) {R0 O nm d host C : String} {index kk : Nat} {ty : FieldType} (w : (Jvm.Cond.fieldLink own index R0 nm d).before a0 Z = true ∨ (Jvm.Cond.fieldLinkNest own index R0 nm d host).before a0 Z = true) (via : Via Z R0 O nm d)
    {a : Addr} {v old : Value} (F : Fld Z h a O nm d old) (E : Exa Z h a C) (L : (Jvm.Cond.lays C O nm d).before a0 Z = true ∨ ((Jvm.Cond.laysFinal C O nm d).before a0 Z = true ∧ own = O ∧ meth.name = "<init>")) (wi : (Jvm.Cond.instantiable C kk).before a0 Z = true)
    (hty : parseFieldDescriptor d = some ty) (hn : narrow ty v = v) (hf : fits ty v = true) {g : JFrame} (hg : g.method = m) {rest : List Value} (hs : g.stack = v :: .ref a :: rest) (hd : decode c.code g.pc = .ok (.putfield index, 3)) (ha : n0 ≤ a) (hsa : a ∈ sf ∨ (C ≠ "java/lang/String" ∧ C ≠ "[B"))
    (K : ∀ T' h', OwC p l e R s m args below meth c Z own EL sf n0 T' h' k n → Wr h h' a (Jvm.RoadKit.slotOf Z O nm d) v → OwH p e below s Z EL n0 KK NN Q T' { g with pc := g.pc + 3, stack := rest }) : OwH p e below s Z EL n0 KK NN Q T g := by
  obtain ⟨vm0, k0, L0, X, eT, N, hS, hk0, hZ, hown, hC, hsf⟩ := P
  obtain ⟨T', h', X', e', W, st⟩ := RoadKit.putF X hx hZ hown w via eT F E L wi hty hn hf hg hs hd
  have S : Safe Z EL vm0 h a := hsa.elim (fun q => (hsf a q).2) (fun q => Safe.exa hZ.alike E q.1 q.2)
  exact (K T' h' ⟨vm0, k0, _, X', e', Fr.snoc X' N ha, hS, Nat.le_trans hk0 (Keep.of_wr W).1, hZ, hown, hC.trans (CHr.wr W S hC.1), fun x hx => ⟨Nat.lt_of_lt_of_le (hsf x hx).1 (Keep.of_wr W).1, Safe.wr W S hC.1 (hsf x hx).2⟩⟩ W).go st
theorem OwC.putFN (P : OwC p l e R s m args below meth c Z own EL sf n0 T h k n) (hx : p.tables.exec = Jvm.exec) {R0 O nm d C : String} {index kk : Nat} {ty : FieldType} (w : (Jvm.Cond.fieldLink own index R0 nm d).before a0 Z = true) (via : Via Z R0 O nm d)
    {a : Addr} {v v' old : Value} (F : Fld Z h a O nm d old) (E : Exa Z h a C) (L : (Jvm.Cond.lays C O nm d).before a0 Z = true ∨ ((Jvm.Cond.laysFinal C O nm d).before a0 Z = true ∧ own = O ∧ meth.name = "<init>")) (wi : (Jvm.Cond.instantiable C kk).before a0 Z = true)
    (hty : parseFieldDescriptor d = some ty) (hn : narrow ty v = v') (hf : fits ty v' = true) {g : JFrame} (hg : g.method = m) {rest : List Value} (hs : g.stack = v :: .ref a :: rest) (hd : decode c.code g.pc = .ok (.putfield index, 3)) (ha : n0 ≤ a) (hsa : a ∈ sf ∨ (C ≠ "java/lang/String" ∧ C ≠ "[B"))
    (K : ∀ T' h', OwC p l e R s m args below meth c Z own EL sf n0 T' h' k n → Wr h h' a (Jvm.RoadKit.slotOf Z O nm d) v' → OwH p e below s Z EL n0 KK NN Q T' { g with pc := g.pc + 3, stack := rest }) : OwH p e below s Z EL n0 KK NN Q T g := by
  obtain ⟨vm0, k0, L0, X, eT, N, hS, hk0, hZ, hown, hC, hsf⟩ := P
  obtain ⟨T', h', X', e', W, st⟩ := RoadKit.putFN X hx hZ hown w via eT F E L wi hty hn hf hg hs hd
  have S : Safe Z EL vm0 h a := hsa.elim (fun q => (hsf a q).2) (fun q => Safe.exa hZ.alike E q.1 q.2)
  exact (K T' h' ⟨vm0, k0, _, X', e', Fr.snoc X' N ha, hS, Nat.le_trans hk0 (Keep.of_wr W).1, hZ, hown, hC.trans (CHr.wr W S hC.1), fun x hx => ⟨Nat.lt_of_lt_of_le (hsf x hx).1 (Keep.of_wr W).1, Safe.wr W S hC.1 (hsf x hx).2⟩⟩ W).go st
theorem OwC.newO (P : OwC p l e R s m args below meth c Z own EL sf n0 T h k n) (hx : p.tables.exec = Jvm.exec) {C : String} {index nn : Nat} (w : (Jvm.Cond.classLink own index C).before a0 Z = true) (wi : (Jvm.Cond.instantiable C nn).before a0 Z = true) (wz : (Jvm.Cond.initialized C).before a0 Z = true)
    {g : JFrame} (hg : g.method = m) (hd : decode c.code g.pc = .ok (.new index, 3)) (hc : k + 1 ≤ R.cells) (hl : n + nn ≤ R.slots)
    (K : ∀ T' h' b, b = h.size → OwC p l e R s m args below meth c Z own EL (b :: sf) n0 T' h' (k + 1) (n + nn) → Ext h h' → Exa Z h' b C → (∀ {O nm d : String} {ty : FieldType}, Laid Z a0 C O nm d → parseFieldDescriptor d = some ty → Fld Z h' b O nm d (defaultValue ty)) → OwH p e below s Z EL n0 KK NN Q T' { g with pc := g.pc + 3, stack := .ref b :: g.stack }) : OwH p e below s Z EL n0 KK NN Q T g := by
  obtain ⟨vm0, k0, L, X, eT, N, hS, hk0, hZ, hown, hC, hsf⟩ := P
  obtain ⟨T', h', X', e', E, A, D, -, st⟩ := RoadKit.newO X hx hZ hown w wi wz eT hg hd hc hl
  refine (K T' h' _ rfl ⟨vm0, k0, L, X', e', N, hS, Nat.le_trans hk0 E.1, hZ, hown, hC.trans (CHr.ext E hC.1), fun x hx => ?_⟩ E A D).go st
  rcases List.mem_cons.mp hx with rfl | hx
  · exact ⟨A.lt, Safe.ext E hC.1 (Safe.new (Nat.le_refl _))⟩
  · exact ⟨Nat.lt_of_lt_of_le (hsf x hx).1 E.1, Safe.ext E hC.1 (hsf x hx).2⟩
theorem OwC.newP (P : OwC p l e R s m args below meth c Z own EL sf n0 T h k n) (hx : p.tables.exec = Jvm.exec) {aty : ArrayType} (w : (Jvm.Cond.arrayClass (newarray.typeOf aty)).before a0 Z = true) {g : JFrame} (hg : g.method = m) (hd : decode c.code g.pc = .ok (.newarray aty, 2)) {z : Int32} {rest : List Value} (hs : g.stack = .int z :: rest)
    (hn : ¬ z < 0) {cap : Nat} (hcap : z.toNatClampNeg ≤ cap) (hb : cap * 8 ≤ 536870912) (hc : k + 1 ≤ R.cells) (hl : n + cap ≤ R.slots)
    (K : ∀ T' h' b kA, b = h.size → OwC p l e R s m args below meth c Z own EL (b :: sf) n0 T' h' (k + 1) (n + cap) → Ext h h' → Arv Z h' b kA (newarray.typeOf aty) z [] (defaultValue (newarray.typeOf aty)) → OwH p e below s Z EL n0 KK NN Q T' { g with pc := g.pc + 2, stack := .ref b :: rest }) : OwH p e below s Z EL n0 KK NN Q T g := by
  obtain ⟨vm0, k0, L, X, eT, N, hS, hk0, hZ, hown, hC, hsf⟩ := P
  obtain ⟨T', h', kA, X', e', E, A, st⟩ := RoadKit.newP X hx hZ w eT hg hd hs hn hcap hb hc hl
  refine (K T' h' _ kA rfl ⟨vm0, k0, L, X', e', N, hS, Nat.le_trans hk0 E.1, hZ, hown, hC.trans (CHr.ext E hC.1), fun x hx => ?_⟩ E (Arv.new A hn)).go st
  rcases List.mem_cons.mp hx with rfl | hx
  · exact ⟨A.lt, Safe.ext E hC.1 (Safe.new (Nat.le_refl _))⟩
  · exact ⟨Nat.lt_of_lt_of_le (hsf x hx).1 E.1, Safe.ext E hC.1 (hsf x hx).2⟩
theorem OwC.initO (P : OwC p l e R s m args below meth c Z own EL sf n0 T h k n) (hx : p.tables.exec = Jvm.exec) {idx : Nat} (w1 : (Jvm.Cond.methodLink own idx Lib.objectInit).before a0 Z = true) (w2 : (Jvm.Cond.instanceMethod Lib.objectInit).before a0 Z = true)
    (w3 : (Jvm.Cond.code Lib.objectInit ⟨#[0xb1]⟩ 1 none).before a0 Z = true) {g : JFrame} (hg : g.method = m) (hsize : g.locals.size = c.maxLocals) {a : Addr} {rest : List Value} (hs : g.stack = .ref a :: rest) (hd : decode c.code g.pc = .ok (.invokespecial idx, 3))
    (hf : 1 ≤ R.frames) {W : Nat} (hW : 2 * g.monitorRoom + (rest.map fun v => v.category).sum ≤ W) (hl : W + 12 ≤ R.locals)
    (K : ∀ T', OwC p l e R s m args below meth c Z own EL sf n0 T' h k n → OwH p e below s Z EL n0 KK NN Q T' { g with pc := g.pc + 3, stack := rest }) : OwH p e below s Z EL n0 KK NN Q T g := by
  obtain ⟨vm0, k0, L, X, eT, N, hS, hk0, hZ, hown, hC, hsf⟩ := P
  obtain ⟨T', X', e', st⟩ := RoadKit.initO X hx hZ hown w1 w2 w3 eT hg hsize hs hd hf hW hl
  exact (K T' ⟨vm0, k0, L, X', e', N, hS, hk0, hZ, hown, hC, hsf⟩).go st
theorem OwC.stC (P : OwC p l e R s m args below meth c Z own EL sf n0 T h k n) (hx : p.tables.exec = Jvm.exec) {a : Addr} {kA : ClassId} {z j x : Int32} {vs : List Value} {dv : Value} (A : Arv Z h a kA .char z vs dv) (hj0 : ¬ j < 0) (hj1 : j < z) {i : Nat} (hi : j.toNatClampNeg = i) (hi' : i < vs.length) {g : JFrame} (hg : g.method = m) {rest : List Value} (hs : g.stack = .int x :: .int j :: .ref a :: rest) (hd : decode c.code g.pc = .ok (.castore, 1)) (ha : n0 ≤ a)
    (K : ∀ T' h', OwC p l e R s m args below meth c Z own EL sf n0 T' h' k n → Wr h h' a j.toNatClampNeg (.int (nar .char x)) → Arv Z h' a kA .char z (vs.set i (.int (nar .char x))) dv → OwH p e below s Z EL n0 KK NN Q T' { g with pc := g.pc + 1, stack := rest }) : OwH p e below s Z EL n0 KK NN Q T g := by
  obtain ⟨vm0, k0, L, X, eT, N, hS, hk0, hZ, hown, hC, hsf⟩ := P
  obtain ⟨cl, A1, q1, S1, M1, H1, U1⟩ := A
  obtain ⟨T', h', X', e', W, st⟩ := RoadKit.stC X hx hZ eT A1 (inb_of S1 ⟨hj0, hj1⟩) hg hs hd
  have S : Safe Z EL vm0 h a := Safe.arr hZ.alike A1 (by decide)
  exact (K T' h' ⟨vm0, k0, _, X', e', Fr.snoc X' N ha, hS, Nat.le_trans hk0 (Keep.of_wr W).1, hZ, hown, hC.trans (CHr.wr W S hC.1), fun x hx => ⟨Nat.lt_of_lt_of_le (hsf x hx).1 (Keep.of_wr W).1, Safe.wr W S hC.1 (hsf x hx).2⟩⟩ W (Arv.set A1 q1 S1 M1 H1 U1 (fits_nar_char _) W i hi hi')).go st
/-- behind a call of a callee that loads no constant -/
theorem OwC.after {vm0 : Vm} {k0 : Nat} {L Lc : List Loc} {T' : State} {h' : Heap} {c1 s1 : Nat} {ws : List Addr} (X' : Stand p l e R (s.setVm vm0) m args below meth c T' (L ++ Lc) (k + c1) (n + s1)) (e' : T'.heap = h') (N : Fr n0 L) (N' : Fr n0 Lc) (hS : s.Since vm0 k0) (hk0 : k0 ≤ h.size) (hZ : Z.Warmed39 vm0) (hown : vm0.findClass own = some m.cls) (hC : CHr Z EL s.vm s.heap vm0 h) (hsf : ∀ x ∈ sf, x < h.size ∧ Safe Z EL vm0 h x)
    (Kp : Keep h h' ws) (hws : ∀ x ∈ ws, x ∈ sf ∨ ∃ C, Exa Z h x C ∧ C ≠ "java/lang/String" ∧ C ≠ "[B") : OwC p l e R s m args below meth c Z own EL sf n0 T' h' (k + c1) (n + s1) := by
  have hs : ∀ x ∈ ws, Safe Z EL vm0 h x := fun x hx => (hws x hx).elim (fun q => (hsf x q).2) (fun ⟨C, E, q1, q2⟩ => Safe.exa hZ.alike E q1 q2)
  exact ⟨vm0, k0, _, X', e', Fr.app N N', hS, Nat.le_trans hk0 Kp.1, hZ, hown, hC.trans (CHr.keep Kp hs hC.1), fun x hx => ⟨Nat.lt_of_lt_of_le (hsf x hx).1 Kp.1, Safe.keep Kp hs hC.1 (hsf x hx).2⟩⟩
/-- behind a call of a callee that may have loaded some -/
theorem OwC.afterS {vm0 : Vm} {k0 : Nat} {L Lc : List Loc} {T' : State} {h' : Heap} {c1 s1 : Nat} (X' : Stand p l e R (s.setVm T'.vm) m args below meth c T' (L ++ Lc) (k + c1) (n + s1)) (e' : T'.heap = h') (N : Fr n0 L) (N' : Fr n0 Lc) (hS : s.Since vm0 k0) (hk0 : k0 ≤ h.size) (hZ : Z.Warmed39 vm0) (hown : vm0.findClass own = some m.cls) (hC : CHr Z EL s.vm s.heap vm0 h) (hsf : ∀ x ∈ sf, x < h.size ∧ Safe Z EL vm0 h x)
    (h2 : (s.setVm vm0).Since T'.vm T'.heap.size) (hgr : h.size ≤ T'.heap.size) (hC2 : CHr Z EL vm0 h T'.vm h') : OwC p l e R s m args below meth c Z own EL sf n0 T' h' (k + c1) (n + s1) := by
  subst e'
  exact ⟨T'.vm, _, _, X', rfl, Fr.app N N', hS.trans h2 (Nat.le_trans hk0 hgr), Nat.le_refl _, State.Warmed39.trans (t := s.setVm vm0) hZ h2.1, (h2.1.alike.findClass _ _).trans hown, hC.trans hC2, fun x hx => ⟨Nat.lt_of_lt_of_le (hsf x hx).1 hgr, hC2.safe (hsf x hx).1 (hsf x hx).2⟩⟩
theorem OwC.special (P : OwC p l e R s m args below meth c Z own EL sf n0 T h k n) (hx : p.tables.exec = Jvm.exec) {index : Nat} {y : MethodName} (hy1 : y.name = "<init>") (w1 : (Jvm.Cond.methodLink own index y).before a0 Z = true) (w2 : (Jvm.Cond.instanceMethod y).before a0 Z = true)
    {bytes : ByteArray} {maxL : Nat} (w3 : (Jvm.Cond.code y bytes maxL none).before a0 Z = true) (hy : y.cls ≠ "java/lang/invoke/MethodHandle" ∧ y.cls ≠ "java/lang/invoke/VarHandle")
    {W c1 s1 : Nat} {as' : Array Value} {Qc : Option Value → Heap → List Loc → Prop} (hK : ∀ vm0, Z.Warmed39 vm0 → Back l R p e below (s.setVm vm0) args y 3 W (fun A a => a = as' ∧ A.U.heap = h ∧ A.cells + c1 ≤ R.cells ∧ A.slots + s1 ≤ R.slots) (fun A _ v B => ∃ L, Qc v B.U.heap L ∧ B.locs = A.locs ++ L ∧ B.cells = A.cells + c1 ∧ B.slots = A.slots + s1))
    (hQ : ∀ v h L, Qc v h L → Fr n0 L) {ws : List Addr} (hKp : ∀ v h' L, Qc v h' L → Keep h h' ws) (hws : ∀ x ∈ ws, x ∈ sf ∨ ∃ C, Exa Z h x C ∧ C ≠ "java/lang/String" ∧ C ≠ "[B") {g : JFrame} (hg : g.method = m) (hsize : g.locals.size = c.maxLocals) {a : Addr} {argsL rest : List Value}
    (hlen : ∀ sig, parseMethodDescriptor y.desc = some sig → argsL.length = sig.parameters.length) (hstack : g.stack = argsL.reverse ++ .ref a :: rest) (hW : 2 * g.monitorRoom + (rest.map fun v => v.category).sum ≤ W)
    (hdg : decode c.code g.pc = .ok (.invokespecial index, 3)) (has : (Value.ref a :: argsL).toArray = as') (hc : k + c1 ≤ R.cells) (hl : n + s1 ≤ R.slots)
    (K : ∀ T' v L h', T'.heap = h' → OwC p l e R s m args below meth c Z own EL sf n0 T' h' (k + c1) (n + s1) → Qc v h' L → OwH p e below s Z EL n0 KK NN Q T' { g with pc := g.pc + 3, stack := v.toList ++ rest }) : OwH p e below s Z EL n0 KK NN Q T g := by
  obtain ⟨vm0, k0, L, X, eT, N, hS, hk0, hZ, hown, hC, hsf⟩ := P
  obtain ⟨v, _, ⟨T', L', k', n'⟩, -, X', ⟨Lc, hQc, l', y', z'⟩, st⟩ := X.specialBack hx hy1 hown (mvT (s := s.setVm vm0) hZ w1) (mvT (s := s.setVm vm0) hZ w2) (mvT (s := s.setVm vm0) hZ w3) hy (hK vm0 hZ) hg hsize (Steps.refl _) hlen hstack hW hdg (fun _ _ => ⟨has, eT, hc, hl⟩)
  dsimp only [Pt.U, Pt.locs, Pt.cells, Pt.slots] at X' l' y' z' st hQc
  subst l' y' z'
  exact (K T' v Lc _ rfl (OwC.after X' rfl N (hQ _ _ _ hQc) hS hk0 hZ hown hC hsf (hKp _ _ _ hQc) hws) hQc).go fun t kt => st.trans kt
theorem OwC.virtual (P : OwC p l e R s m args below meth c Z own EL sf n0 T h k n) (hx : p.tables.exec = Jvm.exec) {C : String} {index : Nat} {y z : MethodName} (w1 : (Jvm.Cond.methodLink own index y).before a0 Z = true) (w2 : (Jvm.Cond.declares y).before a0 Z = true) (nf : ∀ vm0, Z.Warmed39 vm0 → NotFace (s.setVm vm0) y)
    (w3 : (Jvm.Cond.selects C y z).before a0 Z = true) (w4 : (Jvm.Cond.instanceMethod z).before a0 Z = true) (hy : y.cls ≠ "java/lang/invoke/MethodHandle" ∧ y.cls ≠ "java/lang/invoke/VarHandle")
    {W c1 s1 : Nat} {as' : Array Value} {Qc : Option Value → Heap → List Loc → Prop} (hK : ∀ vm0, Z.Warmed39 vm0 → Back l R p e below (s.setVm vm0) args z 3 W (fun A a => a = as' ∧ A.U.heap = h ∧ A.cells + c1 ≤ R.cells ∧ A.slots + s1 ≤ R.slots) (fun A _ v B => ∃ L, Qc v B.U.heap L ∧ B.locs = A.locs ++ L ∧ B.cells = A.cells + c1 ∧ B.slots = A.slots + s1))
    (hQ : ∀ v h L, Qc v h L → Fr n0 L) {ws : List Addr} (hKp : ∀ v h' L, Qc v h' L → Keep h h' ws) (hws : ∀ x ∈ ws, x ∈ sf ∨ ∃ C, Exa Z h x C ∧ C ≠ "java/lang/String" ∧ C ≠ "[B") {b : Addr} (E : Exa Z h b C) {g : JFrame} (hg : g.method = m) (hsize : g.locals.size = c.maxLocals) {argsL rest : List Value}
    (hlen : ∀ sig, parseMethodDescriptor y.desc = some sig → argsL.length = sig.parameters.length) (hstack : g.stack = argsL.reverse ++ .ref b :: rest) (hW : 2 * g.monitorRoom + (rest.map fun v => v.category).sum ≤ W)
    (hdg : decode c.code g.pc = .ok (.invokevirtual index, 3)) (has : (Value.ref b :: argsL).toArray = as') (hc : k + c1 ≤ R.cells) (hl : n + s1 ≤ R.slots)
    (K : ∀ T' v L h', T'.heap = h' → OwC p l e R s m args below meth c Z own EL sf n0 T' h' (k + c1) (n + s1) → Qc v h' L → OwH p e below s Z EL n0 KK NN Q T' { g with pc := g.pc + 3, stack := v.toList ++ rest }) : OwH p e below s Z EL n0 KK NN Q T g := by
  obtain ⟨vm0, k0, L, X, eT, N, hS, hk0, hZ, hown, hC, hsf⟩ := P
  obtain ⟨cq, kq, qa, qb, qc⟩ := isOf (s := s.setVm vm0) hZ eT E
  obtain ⟨v, _, ⟨T', L', k', n'⟩, -, X', ⟨Lc, hQc, l', y', z'⟩, st⟩ := X.virtualBack hx hown (mvT (s := s.setVm vm0) hZ w1) (mvT (s := s.setVm vm0) hZ w2) (nf vm0 hZ) (mvT (s := s.setVm vm0) hZ w3) (mvT (s := s.setVm vm0) hZ w4) hy (hK vm0 hZ) qa qc hg hsize (Steps.refl _) hlen hstack hW hdg (fun _ _ => ⟨has, eT, hc, hl⟩)
  dsimp only [Pt.U, Pt.locs, Pt.cells, Pt.slots] at X' l' y' z' st hQc
  subst l' y' z'
  exact (K T' v Lc _ rfl (OwC.after X' rfl N (hQ _ _ _ hQc) hS hk0 hZ hown hC hsf (hKp _ _ _ hQc) hws) hQc).go fun t kt => st.trans kt
theorem OwC.stat (P : OwC p l e R s m args below meth c Z own EL sf n0 T h k n) (hx : p.tables.exec = Jvm.exec) {index : Nat} {y : MethodName} {bytes : ByteArray} {maxL : Nat} {ret : Option FieldType} (w1 : (Jvm.Cond.methodLink own index y).before a0 Z = true) (w2 : (Jvm.Cond.static y).before a0 Z = true) (w3 : (Jvm.Cond.initialized y.cls).before a0 Z = true)
    (w4 : (Jvm.Cond.code y bytes maxL ret).before a0 Z = true) (hy : y.cls ≠ "java/lang/invoke/MethodHandle" ∧ y.cls ≠ "java/lang/invoke/VarHandle")
    {W c1 s1 : Nat} {as' : Array Value} {Qc : Option Value → Heap → List Loc → Prop} (hK : ∀ vm0, Z.Warmed39 vm0 → Back l R p e below (s.setVm vm0) args y 3 W (fun A a => a = as' ∧ A.U.heap = h ∧ A.cells + c1 ≤ R.cells ∧ A.slots + s1 ≤ R.slots) (fun A _ v B => ∃ L, Qc v B.U.heap L ∧ B.locs = A.locs ++ L ∧ B.cells = A.cells + c1 ∧ B.slots = A.slots + s1))
    (hQ : ∀ v h L, Qc v h L → Fr n0 L) {ws : List Addr} (hKp : ∀ v h' L, Qc v h' L → Keep h h' ws) (hws : ∀ x ∈ ws, x ∈ sf ∨ ∃ C, Exa Z h x C ∧ C ≠ "java/lang/String" ∧ C ≠ "[B") {g : JFrame} (hg : g.method = m) (hsize : g.locals.size = c.maxLocals) {argsL rest : List Value}
    (hlen : ∀ sig, parseMethodDescriptor y.desc = some sig → argsL.length = sig.parameters.length) (hstack : g.stack = argsL.reverse ++ rest) (hW : 2 * g.monitorRoom + (rest.map fun v => v.category).sum ≤ W)
    (hdg : decode c.code g.pc = .ok (.invokestatic index, 3)) (has : argsL.toArray = as') (hc : k + c1 ≤ R.cells) (hl : n + s1 ≤ R.slots)
    (K : ∀ T' v L h', T'.heap = h' → OwC p l e R s m args below meth c Z own EL sf n0 T' h' (k + c1) (n + s1) → Qc v h' L → OwH p e below s Z EL n0 KK NN Q T' { g with pc := g.pc + 3, stack := v.toList ++ rest }) : OwH p e below s Z EL n0 KK NN Q T g := by
  obtain ⟨vm0, k0, L, X, eT, N, hS, hk0, hZ, hown, hC, hsf⟩ := P
  obtain ⟨v, _, ⟨T', L', k', n'⟩, -, X', ⟨Lc, hQc, l', y', z'⟩, st⟩ := Jvm.LawKit.callS X hx hown (mvT (s := s.setVm vm0) hZ w1) (mvT (s := s.setVm vm0) hZ w2) (mvT (s := s.setVm vm0) hZ w3) (mvT (s := s.setVm vm0) hZ w4) hy (hK vm0 hZ) hg hsize hlen hstack hW hdg (fun _ _ => ⟨has, eT, hc, hl⟩)
  dsimp only [Pt.U, Pt.locs, Pt.cells, Pt.slots] at X' l' y' z' st hQc
  subst l' y' z'
  exact (K T' v Lc _ rfl (OwC.after X' rfl N (hQ _ _ _ hQc) hS hk0 hZ hown hC hsf (hKp _ _ _ hQc) hws) hQc).go st
/-- a cold contract made a payer -/
theorem OwS.back {y : MethodName} {bytes : ByteArray} {maxL : Nat} {ret : Option FieldType} {rm : Room} {W : Nat} {as' : Array Value} {Qc : Option Value → Heap → Prop} {vm0 : Vm} (hM : OwS l Z EL sf y bytes maxL ret rm n0 as' h Qc)
    (hZ : Z.Warmed39 vm0) (wc : (Jvm.Cond.code y bytes maxL ret).before a0 Z = true) (wz : (Jvm.Cond.initialized y.cls).before a0 Z = true) (hf : rm.frames + 1 ≤ R.frames) (hl : W + (maxL + 11) + rm.locals ≤ R.locals) (hEL : EW Z a0 EL) (H : CHv Z EL vm0 h) (hsf : ∀ x ∈ sf, x < h.size ∧ Safe Z EL vm0 h x) :
    BackS l R p e below (s.setVm vm0) args y 3 W (fun A a => a = as' ∧ A.U.heap = h ∧ A.cells + rm.cells ≤ R.cells ∧ A.slots + rm.slots ≤ R.slots)
      (fun A _ v B => ∃ L, OwQ Qc n0 v B.U.heap L ∧ B.locs = A.locs ++ L ∧ B.cells = A.cells + rm.cells ∧ B.slots = A.slots + rm.slots ∧ CHr Z EL vm0 h B.U.vm B.U.heap) :=
  BackS.of_freeW (bytes := bytes) (maxL := maxL) (ret := ret) (E := fun _ first o t L k n => k = rm.cells ∧ n = rm.slots ∧ (∃ v, o = .returned v ∧ Qc v t.heap ∧ Fr n0 L) ∧ CHr Z EL first.vm first.heap t.vm t.heap) hM hf hl
    (fun m meth c A a Y hp => have hU : Z.Warmed39 A.U.vm := wtrans (s := s.setVm vm0) hZ Y.warmed
      ⟨by show (Cond.and _ .tt).before a A.U = true; rw [Cond.before_and, mv hU wc]; rfl, mv hU wc, mv hU wz, hp.2.2.1, hp.2.2.2⟩)
    (fun m meth c A a g mk Y hp => ⟨hp.1, wtrans (s := s.setVm vm0) hZ Y.warmed, hp.2.1, (CHv.at Y hZ hEL H).1, fun x hx => ⟨(hsf x hx).1, (CHv.at Y hZ hEL H).safe (hsf x hx).1 (hsf x hx).2⟩⟩) (fun _ _ _ _ _ _ _ _ _ => trivial)
    (fun _ _ _ _ ⟨v, L, h1, h2, h3, h4⟩ => ⟨L, _, _, h4, rfl, rfl, ⟨v, h1, h2⟩, h3⟩)
    (fun m meth c A a g mk v t L k n Y hp _ _ ⟨e1, e2, ⟨v', e3, e4⟩, e5⟩ => by
      cases e3; subst e1 e2
      refine ⟨L, e4, rfl, rfl, rfl, (CHv.at Y hZ hEL H).trans ?_⟩
      rw [← hp.2.1]; exact e5)
theorem OwC.specialS (P : OwC p l e R s m args below meth c Z own EL sf n0 T h k n) (hx : p.tables.exec = Jvm.exec) {index : Nat} {y : MethodName} (hy1 : y.name = "<init>") (w1 : (Jvm.Cond.methodLink own index y).before a0 Z = true) (w2 : (Jvm.Cond.instanceMethod y).before a0 Z = true)
    {bytes : ByteArray} {maxL : Nat} (w3 : (Jvm.Cond.code y bytes maxL none).before a0 Z = true) (hy : y.cls ≠ "java/lang/invoke/MethodHandle" ∧ y.cls ≠ "java/lang/invoke/VarHandle")
    {W c1 s1 : Nat} {as' : Array Value} {Qc : Option Value → Heap → List Loc → Prop} {sf' : List Addr} (hK : ∀ vm0, Z.Warmed39 vm0 → CHv Z EL vm0 h → (∀ x ∈ sf', x < h.size ∧ Safe Z EL vm0 h x) → BackS l R p e below (s.setVm vm0) args y 3 W (fun A a => a = as' ∧ A.U.heap = h ∧ A.cells + c1 ≤ R.cells ∧ A.slots + s1 ≤ R.slots) (fun A _ v B => ∃ L, Qc v B.U.heap L ∧ B.locs = A.locs ++ L ∧ B.cells = A.cells + c1 ∧ B.slots = A.slots + s1 ∧ CHr Z EL vm0 h B.U.vm B.U.heap))
    (hQ : ∀ v h L, Qc v h L → Fr n0 L) (hsf' : ∀ x ∈ sf', x ∈ sf) {g : JFrame} (hg : g.method = m) (hsize : g.locals.size = c.maxLocals) {a : Addr} {argsL rest : List Value}
    (hlen : ∀ sig, parseMethodDescriptor y.desc = some sig → argsL.length = sig.parameters.length) (hstack : g.stack = argsL.reverse ++ .ref a :: rest) (hW : 2 * g.monitorRoom + (rest.map fun v => v.category).sum ≤ W)
    (hdg : decode c.code g.pc = .ok (.invokespecial index, 3)) (has : (Value.ref a :: argsL).toArray = as') (hc : k + c1 ≤ R.cells) (hl : n + s1 ≤ R.slots)
    (K : ∀ T' v L h', T'.heap = h' → OwC p l e R s m args below meth c Z own EL sf n0 T' h' (k + c1) (n + s1) → Qc v h' L → OwH p e below s Z EL n0 KK NN Q T' { g with pc := g.pc + 3, stack := v.toList ++ rest }) : OwH p e below s Z EL n0 KK NN Q T g := by
  obtain ⟨vm0, k0, L, X, eT, N, hS, hk0, hZ, hown, hC, hsf⟩ := P
  obtain ⟨v, _, ⟨T', L', k', n'⟩, -, X', h2, hgr, ⟨Lc, hQc, l', y', z', hC2⟩, st⟩ := X.specialBackS hx hy1 hown (mvT (s := s.setVm vm0) hZ w1) (mvT (s := s.setVm vm0) hZ w2) (mvT (s := s.setVm vm0) hZ w3) hy (hK vm0 hZ hC.1 fun x hx => hsf x (hsf' x hx)) hg hsize (Steps.refl _) hlen hstack hW hdg (fun _ _ => ⟨has, eT, hc, hl⟩)
  dsimp only [Pt.U, Pt.locs, Pt.cells, Pt.slots] at X' l' y' z' st hQc hC2 h2 hgr
  subst l' y' z'
  exact (K T' v Lc _ rfl (OwC.afterS X' rfl N (hQ _ _ _ hQc) hS hk0 hZ hown hC hsf h2 (by rw [← eT]; exact hgr) hC2) hQc).go fun t kt => st.trans kt
theorem OwC.virtualS (P : OwC p l e R s m args below meth c Z own EL sf n0 T h k n) (hx : p.tables.exec = Jvm.exec) {C : String} {index : Nat} {y z : MethodName} (w1 : (Jvm.Cond.methodLink own index y).before a0 Z = true) (w2 : (Jvm.Cond.declares y).before a0 Z = true) (nf : ∀ vm0, Z.Warmed39 vm0 → NotFace (s.setVm vm0) y)
    (w3 : (Jvm.Cond.selects C y z).before a0 Z = true) (w4 : (Jvm.Cond.instanceMethod z).before a0 Z = true) (hy : y.cls ≠ "java/lang/invoke/MethodHandle" ∧ y.cls ≠ "java/lang/invoke/VarHandle")
    {W c1 s1 : Nat} {as' : Array Value} {Qc : Option Value → Heap → List Loc → Prop} {sf' : List Addr} (hK : ∀ vm0, Z.Warmed39 vm0 → CHv Z EL vm0 h → (∀ x ∈ sf', x < h.size ∧ Safe Z EL vm0 h x) → BackS l R p e below (s.setVm vm0) args z 3 W (fun A a => a = as' ∧ A.U.heap = h ∧ A.cells + c1 ≤ R.cells ∧ A.slots + s1 ≤ R.slots) (fun A _ v B => ∃ L, Qc v B.U.heap L ∧ B.locs = A.locs ++ L ∧ B.cells = A.cells + c1 ∧ B.slots = A.slots + s1 ∧ CHr Z EL vm0 h B.U.vm B.U.heap))
    (hQ : ∀ v h L, Qc v h L → Fr n0 L) (hsf' : ∀ x ∈ sf', x ∈ sf) {b : Addr} (E : Exa Z h b C) {g : JFrame} (hg : g.method = m) (hsize : g.locals.size = c.maxLocals) {argsL rest : List Value}
    (hlen : ∀ sig, parseMethodDescriptor y.desc = some sig → argsL.length = sig.parameters.length) (hstack : g.stack = argsL.reverse ++ .ref b :: rest) (hW : 2 * g.monitorRoom + (rest.map fun v => v.category).sum ≤ W)
    (hdg : decode c.code g.pc = .ok (.invokevirtual index, 3)) (has : (Value.ref b :: argsL).toArray = as') (hc : k + c1 ≤ R.cells) (hl : n + s1 ≤ R.slots)
    (K : ∀ T' v L h', T'.heap = h' → OwC p l e R s m args below meth c Z own EL sf n0 T' h' (k + c1) (n + s1) → Qc v h' L → OwH p e below s Z EL n0 KK NN Q T' { g with pc := g.pc + 3, stack := v.toList ++ rest }) : OwH p e below s Z EL n0 KK NN Q T g := by
  obtain ⟨vm0, k0, L, X, eT, N, hS, hk0, hZ, hown, hC, hsf⟩ := P
  obtain ⟨cq, kq, qa, qb, qc⟩ := isOf (s := s.setVm vm0) hZ eT E
  obtain ⟨v, _, ⟨T', L', k', n'⟩, -, X', h2, hgr, ⟨Lc, hQc, l', y', z', hC2⟩, st⟩ := X.virtualBackS hx hown (mvT (s := s.setVm vm0) hZ w1) (mvT (s := s.setVm vm0) hZ w2) (nf vm0 hZ) (mvT (s := s.setVm vm0) hZ w3) (mvT (s := s.setVm vm0) hZ w4) hy (hK vm0 hZ hC.1 fun x hx => hsf x (hsf' x hx)) qa qc hg hsize (Steps.refl _) hlen hstack hW hdg (fun _ _ => ⟨has, eT, hc, hl⟩)
  dsimp only [Pt.U, Pt.locs, Pt.cells, Pt.slots] at X' l' y' z' st hQc hC2 h2 hgr
  subst l' y' z'
  exact (K T' v Lc _ rfl (OwC.afterS X' rfl N (hQ _ _ _ hQc) hS hk0 hZ hown hC hsf h2 (by rw [← eT]; exact hgr) hC2) hQc).go fun t kt => st.trans kt
theorem OwC.statS (P : OwC p l e R s m args below meth c Z own EL sf n0 T h k n) (hx : p.tables.exec = Jvm.exec) {index : Nat} {y : MethodName} {bytes : ByteArray} {maxL : Nat} {ret : Option FieldType} (w1 : (Jvm.Cond.methodLink own index y).before a0 Z = true) (w2 : (Jvm.Cond.static y).before a0 Z = true) (w3 : (Jvm.Cond.initialized y.cls).before a0 Z = true)
    (w4 : (Jvm.Cond.code y bytes maxL ret).before a0 Z = true) (hy : y.cls ≠ "java/lang/invoke/MethodHandle" ∧ y.cls ≠ "java/lang/invoke/VarHandle")
    {W c1 s1 : Nat} {as' : Array Value} {Qc : Option Value → Heap → List Loc → Prop} {sf' : List Addr} (hK : ∀ vm0, Z.Warmed39 vm0 → CHv Z EL vm0 h → (∀ x ∈ sf', x < h.size ∧ Safe Z EL vm0 h x) → BackS l R p e below (s.setVm vm0) args y 3 W (fun A a => a = as' ∧ A.U.heap = h ∧ A.cells + c1 ≤ R.cells ∧ A.slots + s1 ≤ R.slots) (fun A _ v B => ∃ L, Qc v B.U.heap L ∧ B.locs = A.locs ++ L ∧ B.cells = A.cells + c1 ∧ B.slots = A.slots + s1 ∧ CHr Z EL vm0 h B.U.vm B.U.heap))
    (hQ : ∀ v h L, Qc v h L → Fr n0 L) (hsf' : ∀ x ∈ sf', x ∈ sf) {g : JFrame} (hg : g.method = m) (hsize : g.locals.size = c.maxLocals) {argsL rest : List Value}
    (hlen : ∀ sig, parseMethodDescriptor y.desc = some sig → argsL.length = sig.parameters.length) (hstack : g.stack = argsL.reverse ++ rest) (hW : 2 * g.monitorRoom + (rest.map fun v => v.category).sum ≤ W)
    (hdg : decode c.code g.pc = .ok (.invokestatic index, 3)) (has : argsL.toArray = as') (hc : k + c1 ≤ R.cells) (hl : n + s1 ≤ R.slots)
    (K : ∀ T' v L h', T'.heap = h' → OwC p l e R s m args below meth c Z own EL sf n0 T' h' (k + c1) (n + s1) → Qc v h' L → OwH p e below s Z EL n0 KK NN Q T' { g with pc := g.pc + 3, stack := v.toList ++ rest }) : OwH p e below s Z EL n0 KK NN Q T g := by
  obtain ⟨vm0, k0, L, X, eT, N, hS, hk0, hZ, hown, hC, hsf⟩ := P
  obtain ⟨v, _, ⟨T', L', k', n'⟩, -, X', h2, hgr, ⟨Lc, hQc, l', y', z', hC2⟩, st⟩ := Jvm.RoadKit.callSS X hx hown (mvT (s := s.setVm vm0) hZ w1) (mvT (s := s.setVm vm0) hZ w2) (mvT (s := s.setVm vm0) hZ w3) (mvT (s := s.setVm vm0) hZ w4) hy (hK vm0 hZ hC.1 fun x hx => hsf x (hsf' x hx)) hg hsize hlen hstack hW hdg (fun _ _ => ⟨has, eT, hc, hl⟩)
  dsimp only [Pt.U, Pt.locs, Pt.cells, Pt.slots] at X' l' y' z' st hQc hC2 h2 hgr
  subst l' y' z'
  exact (K T' v Lc _ rfl (OwC.afterS X' rfl N (hQ _ _ _ hQc) hS hk0 hZ hown hC hsf h2 (by rw [← eT]; exact hgr) hC2) hQc).go fun t kt => st.trans kt
/-- ldc of a String constant, opaque -/
theorem OwC.ldcO (P : OwC p l e R s m args below meth c Z own EL sf n0 T h k n) (hx : p.tables.exec = Jvm.exec) (hEL : EW Z a0 EL) {text : String} {index : Nat} (w : (Jvm.Cond.stringLink own index text).before a0 Z = true) (wS : ∀ a ∈ Bundle.stringAtoms, a.before a0 Z = true)
    {g : JFrame} (hg : g.method = m) (hd : decode c.code g.pc = .ok (.ldc index, 2)) {nn : Nat} (hn : 4 * text.toList.length ≤ nn) (hbig : nn ≤ 536870912) (hc : k + 2 ≤ R.cells) (hl' : n + (nn + 4) ≤ R.slots)
    (K : ∀ T' h' a, OwC p l e R s m args below meth c Z own EL sf n0 T' h' (k + 2) (n + (nn + 4)) → Ext h h' → OwH p e below s Z EL n0 KK NN Q T' { g with pc := g.pc + 2, stack := .ref a :: g.stack }) : OwH p e below s Z EL n0 KK NN Q T g := by
  obtain ⟨vm0, k0, L, X, eT, N, hS, hk0, hZ, hown, hC, hsf⟩ := P
  obtain ⟨a, T', h', k1, X', e', E, hS', hk', hZ', hown', hC2, -, st⟩ := ldcOH X hx hZ hown w wS eT hS hk0 hEL hC.1 hg hd hn hbig hc hl'
  exact (K T' h' a ⟨T'.vm, k1, L, X', e', N, hS', hk', hZ', hown', hC.trans hC2, fun x hx => ⟨Nat.lt_of_lt_of_le (hsf x hx).1 E.1, hC2.safe (hsf x hx).1 (hsf x hx).2⟩⟩ E).go st
/-- ldc of a String constant, read -/
theorem OwC.ldcR (P : OwC p l e R s m args below meth c Z own EL sf n0 T h k n) (hx : p.tables.exec = Jvm.exec) (hEL : EW Z a0 EL) {text : String} {index : Nat} (hmem : (own, index) ∈ EL) (w : (Jvm.Cond.stringLink own index text).before a0 Z = true) (wS : ∀ a ∈ Bundle.stringAtoms, a.before a0 Z = true)
    {vs : List Value} {z : Int32} (ht : (∀ c ∈ text.toList, c.toNat < 256) ∧ text.toList.map (fun c => Value.int (Jvm.Lit.byteI c.toNat.toUInt16)) = vs) (hz : ¬ z < 0) (hlz : z.toNatClampNeg = vs.length)
    {g : JFrame} (hg : g.method = m) (hd : decode c.code g.pc = .ok (.ldc index, 2)) {nn : Nat} (hn : 4 * text.toList.length ≤ nn) (hbig : nn ≤ 536870912) (hc : k + 2 ≤ R.cells) (hl' : n + (nn + 4) ≤ R.slots)
    (K : ∀ T' h' a b kb, OwC p l e R s m args below meth c Z own EL sf n0 T' h' (k + 2) (n + (nn + 4)) → Ext h h' → Exa Z h' a "java/lang/String" → Fld Z h' a "java/lang/String" "coder" "B" (.int 0) → Fld Z h' a "java/lang/String" "value" "[B" (.ref b) → Arv Z h' b kb .byte z vs (.int 0) → (∀ x ∈ sf, x ≠ a ∧ x ≠ b) → OwH p e below s Z EL n0 KK NN Q T' { g with pc := g.pc + 2, stack := .ref a :: g.stack }) : OwH p e below s Z EL n0 KK NN Q T g := by
  obtain ⟨vm0, k0, L, X, eT, N, hS, hk0, hZ, hown, hC, hsf⟩ := P
  obtain ⟨a, T', h', k1, b, kb, X', e', E, hS', hk', hZ', hown', f1, f2, f3, f4, -, -, hC2, -, hne, st⟩ := ldcCH X hx hZ hown w wS eT hS hk0 hEL hmem hC.1 ht hz hlz hg hd hn hbig hc hl'
  exact (K T' h' a b kb ⟨T'.vm, k1, L, X', e', N, hS', hk', hZ', hown', hC.trans hC2, fun x hx => ⟨Nat.lt_of_lt_of_le (hsf x hx).1 E.1, hC2.safe (hsf x hx).1 (hsf x hx).2⟩⟩ E f1 f2 f3 f4 fun x hx => hne x (hC2.safe (hsf x hx).1 (hsf x hx).2)).go st
end Own2
end Jvm.Pilot.@@N@@
namespace Jvm.Pilot.@@N@@
open Jvm Jvm.ClassFile Sem Op Lib Jvm.Free Jvm.Stand Jvm.LawKit Jvm.RoadKit Bundle Jvm.Pilot.@@N@@.Jvm.D
theorem own_words : ∀ d ∈ StrChars.Road.words, d ∈ tables_1 := by decide +kernel
def own_EL : List (String × Nat) := [("java/lang/String", 7)]
theorem own_EW {Z : State} {a0 : Array Value} (hw : ∀ d ∈ tables_1, d.before a0 Z = true) : EW Z a0 own_EL := EW.cons (text := "") (hw _ (List.mem_of_getElem? (i := 110) rfl)) (fun c hc => by simp at hc) EW.nil
theorem own_wS {Z : State} {a0 : Array Value} (hw : ∀ d ∈ tables_1, d.before a0 Z = true) : ∀ a ∈ Bundle.stringAtoms, a.before a0 Z = true := fun a ha => hw a ((by decide +kernel : ∀ d ∈ Bundle.stringAtoms, d ∈ tables_1) a ha)
theorem own_one : ¬ (1 : Int32) = 0 := by decide
theorem d3_0 : decode jdk_42_method_149_code 0 = .ok (.aload_n 0, 1) := by decide +kernel
theorem d3_1 : decode jdk_42_method_149_code 1 = .ok (.invokespecial 1, 3) := by decide +kernel
theorem d3_4 : decode jdk_42_method_149_code 4 = .ok (.iload_n 3, 1) := by decide +kernel
theorem d3_5 : decode jdk_42_method_149_code 5 = .ok (.ifCond .ne 22, 3) := by decide +kernel
theorem d3_8 : decode jdk_42_method_149_code 8 = .ok (.aload_n 0, 1) := by decide +kernel
theorem d3_9 : decode jdk_42_method_149_code 9 = .ok (.ldc 7, 2) := by decide +kernel
theorem d3_11 : decode jdk_42_method_149_code 11 = .ok (.getfield 9, 3) := by decide +kernel
theorem d3_14 : decode jdk_42_method_149_code 14 = .ok (.putfield 9, 3) := by decide +kernel
theorem d3_17 : decode jdk_42_method_149_code 17 = .ok (.aload_n 0, 1) := by decide +kernel
theorem d3_18 : decode jdk_42_method_149_code 18 = .ok (.ldc 7, 2) := by decide +kernel
theorem d3_20 : decode jdk_42_method_149_code 20 = .ok (.getfield 15, 3) := by decide +kernel
theorem d3_23 : decode jdk_42_method_149_code 23 = .ok (.putfield 15, 3) := by decide +kernel
theorem d3_26 : decode jdk_42_method_149_code 26 = .ok (.return_, 1) := by decide +kernel
theorem pn_java_lang_String : plainName "java/lang/String" = true := by first | (simp [plainName, overriddenIn]; done) | decide +kernel
set_option maxRecDepth 65536 in
set_option maxHeartbeats 40000000 in
theorem rmN4e (l : Launch) (Z : State) (a0 : Array Value) (hw : ∀ d ∈ tables_1, d.before a0 Z = true) (a1 a2 : Addr) (h0 : Heap) (n0 : Nat) (Z0 : n0 ≤ h0.size) (g_a1 : n0 ≤ a1) (E_a1 : Exa Z h0 a1 "java/lang/String") (F_coder_a1 : Fld Z h0 a1 "java/lang/String" "coder" "B" (.int (0 : Int32))) (F_value_a1 : Fld Z h0 a1 "java/lang/String" "value" "[B" .null) :
    OwS l Z own_EL [a1] (⟨"java/lang/String", "<init>", "([CIILjava/lang/Void;)V"⟩ : MethodName) jdk_42_method_149_code 6 none ({ frames := 1, cells := 4, slots := 8, locals := 12 } : Room) n0 #[(.ref a1), (.ref a2), (.int (0 : Int32)), (.int (0 : Int32)), .null] h0 (fun v h => v = none ∧ Keep h0 h [a1] ∧ ∃ (t : Addr) (kt : ClassId), Fld Z h a1 "java/lang/String" "value" "[B" (.ref t) ∧ Fld Z h a1 "java/lang/String" "coder" "B" (.int (0 : Int32)) ∧ Arv Z h t kt .byte (0 : Int32) [] (.int (0 : Int32))) := by
  have hEL := own_EW hw
  refine OwS.mk (plainFor_of_name pn_java_lang_String) ?_
  intro p e s m below meth c T hx hby hml hnm hret hlk P
  refine OwH.cast (show entryFrame m #[(.ref a1), (.ref a2), (.int (0 : Int32)), (.int (0 : Int32)), .null] 6 = mkF m 0 #[.val (.ref a1), .val (.ref a2), .val (.int (0 : Int32)), .val (.int (0 : Int32)), .val .null, .unset] [] from by first | rfl | (simp [entryFrame, mkF, argsToLocals, Value.category]; done)) ?_
  have KP := Keep.refl h0 [a1]
  refine OwH.go (T' := T) (g' := (mkF m 1 #[.val (.ref a1), .val (.ref a2), .val (.int (0 : Int32)), .val (.int (0 : Int32)), .val .null, .unset] [(.ref a1)])) (fun t kt => ?_) ?_
  · refine XS.aloadN P.here hx rfl (hb hby d3_0) rfl rfl ?_
    exact kt
  refine P.initO hx (hw _ (List.mem_of_getElem? (i := 15) rfl)) (hw _ (List.mem_of_getElem? (i := 16) rfl)) (hw _ (List.mem_of_getElem? (i := 17) rfl)) (g := (mkF m 1 #[.val (.ref a1), .val (.ref a2), .val (.int (0 : Int32)), .val (.int (0 : Int32)), .val .null, .unset] [(.ref a1)])) rfl (by rw [hml]; rfl) rfl (hb hby d3_1) (by decide) (W := 0) (by show 2 * 0 + _ ≤ _; exact Nat.le_of_eq rfl) (by decide) fun T P => ?_
  show OwH p e below s _ _ _ _ _ _ T (mkF m 4 #[.val (.ref a1), .val (.ref a2), .val (.int (0 : Int32)), .val (.int (0 : Int32)), .val .null, .unset] [])
  refine OwH.go (T' := T) (g' := (mkF m 5 #[.val (.ref a1), .val (.ref a2), .val (.int (0 : Int32)), .val (.int (0 : Int32)), .val .null, .unset] [(.int (0 : Int32))])) (fun t kt => ?_) ?_
  · refine XS.iloadN P.here hx rfl (hb hby d3_4) rfl ?_
    exact kt
  refine OwH.go (T' := T) (g' := (mkF m 8 #[.val (.ref a1), .val (.ref a2), .val (.int (0 : Int32)), .val (.int (0 : Int32)), .val .null, .unset] [])) (fun t kt => ?_) ?_
  · refine XS.ifNo P.here hx rfl (hb hby d3_5) rfl ((if0 _ _).trans (teq rfl).2) ?_
    exact kt
  refine OwH.go (T' := T) (g' := (mkF m 9 #[.val (.ref a1), .val (.ref a2), .val (.int (0 : Int32)), .val (.int (0 : Int32)), .val .null, .unset] [(.ref a1)])) (fun t kt => ?_) ?_
  · refine XS.aloadN P.here hx rfl (hb hby d3_8) rfl rfl ?_
    exact kt
  refine P.ldcR hx hEL (by decide) (hw _ (List.mem_of_getElem? (i := 110) rfl)) (own_wS hw) (vs := []) (z := (0 : Int32)) (by decide) (by decide) (by decide) (g := (mkF m 9 #[.val (.ref a1), .val (.ref a2), .val (.int (0 : Int32)), .val (.int (0 : Int32)), .val .null, .unset] [(.ref a1)])) rfl (hb hby d3_9) (nn := 0) (by decide) (by decide) (by first | decide | omega | (dsimp only; omega) | simp | (simp; omega)) (by first | decide | omega | (dsimp only; omega) | simp | (simp; omega)) fun T h1 s1 t1 kt1 P E E_s1 F_coder_s1 F_value_s1 V_t1 ne_s1 => ?_
  replace E_a1 := E_a1.ext E
  replace F_coder_a1 := F_coder_a1.ext E
  replace F_value_a1 := F_value_a1.ext E
  replace Z0 := Nat.le_trans Z0 E.1
  replace KP := KP.ext E
  clear E
  have ne_a1_s1 := (ne_s1 a1 (by simp)).1
  have ne_s1_a1 := Ne.symm ne_a1_s1
  have ne_a1_t1 := (ne_s1 a1 (by simp)).2
  have ne_t1_a1 := Ne.symm ne_a1_t1
  show OwH p e below s _ _ _ _ _ _ T (mkF m 11 #[.val (.ref a1), .val (.ref a2), .val (.int (0 : Int32)), .val (.int (0 : Int32)), .val .null, .unset] [(.ref s1), (.ref a1)])
  refine P.getF hx (host := "") (Or.inl (hw _ (List.mem_of_getElem? (i := 32) rfl))) Via.refl F_value_s1 (g := (mkF m 11 #[.val (.ref a1), .val (.ref a2), .val (.int (0 : Int32)), .val (.int (0 : Int32)), .val .null, .unset] [(.ref s1), (.ref a1)])) rfl rfl (hb hby d3_11) fun T P => ?_
  show OwH p e below s _ _ _ _ _ _ T (mkF m 14 #[.val (.ref a1), .val (.ref a2), .val (.int (0 : Int32)), .val (.int (0 : Int32)), .val .null, .unset] [(.ref t1), (.ref a1)])
  refine P.putF hx (host := "") (Or.inl (hw _ (List.mem_of_getElem? (i := 32) rfl))) Via.refl F_value_a1 E_a1 (Or.inr ⟨(hw _ (List.mem_of_getElem? (i := 33) rfl)), rfl, hnm⟩) (hw _ (List.mem_of_getElem? (i := 6) rfl)) (ty := (.array .byte)) (by decide) rfl rfl (g := (mkF m 14 #[.val (.ref a1), .val (.ref a2), .val (.int (0 : Int32)), .val (.int (0 : Int32)), .val .null, .unset] [(.ref t1), (.ref a1)])) rfl rfl (hb hby d3_14) g_a1 (Or.inl (by simp)) fun T h2 P W => ?_
  replace E_a1 := E_a1.wr W
  replace F_coder_a1 := F_coder_a1.other W (Or.inr (slot_ne (Or.inr (hw _ (List.mem_of_getElem? (i := 31) rfl))) (Or.inr (hw _ (List.mem_of_getElem? (i := 33) rfl))) (by decide) (t := .byte) (t' := (.array .byte)) (by decide) (by decide)))
  replace F_value_a1 := F_value_a1.same W
  replace E_s1 := E_s1.wr W
  replace F_coder_s1 := F_coder_s1.other W (Or.inl ne_s1_a1)
  replace F_value_s1 := F_value_s1.other W (Or.inl ne_s1_a1)
  replace V_t1 := V_t1.other W ne_t1_a1
  replace Z0 := Nat.le_trans Z0 (Keep.of_wr W).1
  replace KP := KP.wr W (Or.inl (List.mem_of_getElem? (i := 0) rfl))
  clear W
  show OwH p e below s _ _ _ _ _ _ T (mkF m 17 #[.val (.ref a1), .val (.ref a2), .val (.int (0 : Int32)), .val (.int (0 : Int32)), .val .null, .unset] [])
  refine OwH.go (T' := T) (g' := (mkF m 18 #[.val (.ref a1), .val (.ref a2), .val (.int (0 : Int32)), .val (.int (0 : Int32)), .val .null, .unset] [(.ref a1)])) (fun t kt => ?_) ?_
  · refine XS.aloadN P.here hx rfl (hb hby d3_17) rfl rfl ?_
    exact kt
  refine P.ldcR hx hEL (by decide) (hw _ (List.mem_of_getElem? (i := 110) rfl)) (own_wS hw) (vs := []) (z := (0 : Int32)) (by decide) (by decide) (by decide) (g := (mkF m 18 #[.val (.ref a1), .val (.ref a2), .val (.int (0 : Int32)), .val (.int (0 : Int32)), .val .null, .unset] [(.ref a1)])) rfl (hb hby d3_18) (nn := 0) (by decide) (by decide) (by first | decide | omega | (dsimp only; omega) | simp | (simp; omega)) (by first | decide | omega | (dsimp only; omega) | simp | (simp; omega)) fun T h3 s2 t2 kt2 P E E_s2 F_coder_s2 F_value_s2 V_t2 ne_s2 => ?_
  replace E_a1 := E_a1.ext E
  replace F_coder_a1 := F_coder_a1.ext E
  replace F_value_a1 := F_value_a1.ext E
  replace E_s1 := E_s1.ext E
  replace F_coder_s1 := F_coder_s1.ext E
  replace F_value_s1 := F_value_s1.ext E
  replace V_t1 := V_t1.ext E
  replace Z0 := Nat.le_trans Z0 E.1
  replace KP := KP.ext E
  clear E
  have ne_a1_s2 := (ne_s2 a1 (by simp)).1
  have ne_s2_a1 := Ne.symm ne_a1_s2
  have ne_a1_t2 := (ne_s2 a1 (by simp)).2
  have ne_t2_a1 := Ne.symm ne_a1_t2
  show OwH p e below s _ _ _ _ _ _ T (mkF m 20 #[.val (.ref a1), .val (.ref a2), .val (.int (0 : Int32)), .val (.int (0 : Int32)), .val .null, .unset] [(.ref s2), (.ref a1)])
  refine P.getF hx (host := "") (Or.inl (hw _ (List.mem_of_getElem? (i := 30) rfl))) Via.refl F_coder_s2 (g := (mkF m 20 #[.val (.ref a1), .val (.ref a2), .val (.int (0 : Int32)), .val (.int (0 : Int32)), .val .null, .unset] [(.ref s2), (.ref a1)])) rfl rfl (hb hby d3_20) fun T P => ?_
  show OwH p e below s _ _ _ _ _ _ T (mkF m 23 #[.val (.ref a1), .val (.ref a2), .val (.int (0 : Int32)), .val (.int (0 : Int32)), .val .null, .unset] [(.int (0 : Int32)), (.ref a1)])
  refine P.putFN hx (hw _ (List.mem_of_getElem? (i := 30) rfl)) Via.refl F_coder_a1 E_a1 (Or.inr ⟨(hw _ (List.mem_of_getElem? (i := 31) rfl)), rfl, hnm⟩) (hw _ (List.mem_of_getElem? (i := 6) rfl)) (ty := .byte) (v' := (.int (0 : Int32))) (by decide) rfl rfl (g := (mkF m 23 #[.val (.ref a1), .val (.ref a2), .val (.int (0 : Int32)), .val (.int (0 : Int32)), .val .null, .unset] [(.int (0 : Int32)), (.ref a1)])) rfl rfl (hb hby d3_23) g_a1 (Or.inl (by simp)) fun T h4 P W => ?_
  replace E_a1 := E_a1.wr W
  replace F_coder_a1 := F_coder_a1.same W
  replace F_value_a1 := F_value_a1.other W (Or.inr (slot_ne (Or.inr (hw _ (List.mem_of_getElem? (i := 33) rfl))) (Or.inr (hw _ (List.mem_of_getElem? (i := 31) rfl))) (by decide) (t := (.array .byte)) (t' := .byte) (by decide) (by decide)))
  replace E_s1 := E_s1.wr W
  replace F_coder_s1 := F_coder_s1.other W (Or.inl ne_s1_a1)
  replace F_value_s1 := F_value_s1.other W (Or.inl ne_s1_a1)
  replace V_t1 := V_t1.other W ne_t1_a1
  replace E_s2 := E_s2.wr W
  replace F_coder_s2 := F_coder_s2.other W (Or.inl ne_s2_a1)
  replace F_value_s2 := F_value_s2.other W (Or.inl ne_s2_a1)
  replace V_t2 := V_t2.other W ne_t2_a1
  replace Z0 := Nat.le_trans Z0 (Keep.of_wr W).1
  replace KP := KP.wr W (Or.inl (List.mem_of_getElem? (i := 0) rfl))
  clear W
  show OwH p e below s _ _ _ _ _ _ T (mkF m 26 #[.val (.ref a1), .val (.ref a2), .val (.int (0 : Int32)), .val (.int (0 : Int32)), .val .null, .unset] [])
  exact P.retV hEL hx hlk hret (hb hby d3_26) (by first | decide | omega | (dsimp only; omega) | simp | (simp; omega)) (by first | decide | omega | (dsimp only; omega) | simp | (simp; omega)) ⟨rfl, KP, t1, kt1, F_value_a1, F_coder_a1, V_t1⟩
theorem d2_0 : decode jdk_42_method_3_code 0 = .ok (.aload_n 0, 1) := by decide +kernel
theorem d2_1 : decode jdk_42_method_3_code 1 = .ok (.aload_n 1, 1) := by decide +kernel
theorem d2_2 : decode jdk_42_method_3_code 2 = .ok (.iconst 0, 1) := by decide +kernel
theorem d2_3 : decode jdk_42_method_3_code 3 = .ok (.aload_n 1, 1) := by decide +kernel
theorem d2_4 : decode jdk_42_method_3_code 4 = .ok (.arraylength, 1) := by decide +kernel
theorem d2_5 : decode jdk_42_method_3_code 5 = .ok (.aconst_null, 1) := by decide +kernel
theorem d2_6 : decode jdk_42_method_3_code 6 = .ok (.invokespecial 27, 3) := by decide +kernel
theorem pd___CIILjava_lang_Void__V : parseMethodDescriptor "([CIILjava/lang/Void;)V" = some ⟨[(.array .char), .int, .int, (.object "java/lang/Void")], none⟩ := by decide +kernel
theorem d2_9 : decode jdk_42_method_3_code 9 = .ok (.return_, 1) := by decide +kernel
set_option maxRecDepth 65536 in
set_option maxHeartbeats 40000000 in
theorem rmN1e (l : Launch) (Z : State) (a0 : Array Value) (hw : ∀ d ∈ tables_1, d.before a0 Z = true) (a1 a2 : Addr) (k2 : ClassId) (d2 : Value) (h0 : Heap) (n0 : Nat) (Z0 : n0 ≤ h0.size) (g_a1 : n0 ≤ a1) (E_a1 : Exa Z h0 a1 "java/lang/String") (F_coder_a1 : Fld Z h0 a1 "java/lang/String" "coder" "B" (.int (0 : Int32))) (F_value_a1 : Fld Z h0 a1 "java/lang/String" "value" "[B" .null) (V_a2 : Arv Z h0 a2 k2 .char (0 : Int32) [] d2) :
    OwS l Z own_EL [a1] (⟨"java/lang/String", "<init>", "([C)V"⟩ : MethodName) jdk_42_method_3_code 2 none ({ frames := 2, cells := 4, slots := 8, locals := 29 } : Room) n0 #[(.ref a1), (.ref a2)] h0 (fun v h => v = none ∧ Keep h0 h [a1] ∧ ∃ (t : Addr) (kt : ClassId), Fld Z h a1 "java/lang/String" "value" "[B" (.ref t) ∧ Fld Z h a1 "java/lang/String" "coder" "B" (.int (0 : Int32)) ∧ Arv Z h t kt .byte (0 : Int32) [] (.int (0 : Int32))) := by
  have hEL := own_EW hw
  refine OwS.mk (plainFor_of_name pn_java_lang_String) ?_
  intro p e s m below meth c T hx hby hml hnm hret hlk P
  refine OwH.cast (show entryFrame m #[(.ref a1), (.ref a2)] 2 = mkF m 0 #[.val (.ref a1), .val (.ref a2)] [] from by first | rfl | (simp [entryFrame, mkF, argsToLocals, Value.category]; done)) ?_
  refine OwH.go (T' := T) (g' := (mkF m 4 #[.val (.ref a1), .val (.ref a2)] [(.ref a2), (.int (0 : Int32)), (.ref a2), (.ref a1)])) (fun t kt => ?_) ?_
  · refine XS.aloadN P.here hx rfl (hb hby d2_0) rfl rfl ?_
    refine XS.aloadN P.here hx rfl (hb hby d2_1) rfl rfl ?_
    refine XS.iconst P.here hx rfl (hb hby d2_2) ?_
    refine XS.aloadN P.here hx rfl (hb hby d2_3) rfl rfl ?_
    exact kt
  obtain ⟨own_cl, own_A, own_q1, own_S, own_M, own_H, own_U⟩ := id V_a2
  obtain ⟨_, _, own_L, own_X, own_e, own_N, _, _, own_Z, _⟩ := id P
  refine OwH.go (T' := T) (g' := (mkF m 5 #[.val (.ref a1), .val (.ref a2)] [(.int (0 : Int32)), (.int (0 : Int32)), (.ref a2), (.ref a1)])) (fun t kt => ?_) ?_
  · refine own_X.arraylength hx (by rw [own_e]; exact own_A.1) (State.isArrayOf_alike own_Z.alike own_A.2.1) (g := (mkF m 4 #[.val (.ref a1), .val (.ref a2)] [(.ref a2), (.int (0 : Int32)), (.ref a2), (.ref a1)])) rfl rfl (hb hby d2_4) _ ?_
    rw [len_of own_S own_M]
    exact kt
  refine OwH.go (T' := T) (g' := (mkF m 6 #[.val (.ref a1), .val (.ref a2)] [.null, (.int (0 : Int32)), (.int (0 : Int32)), (.ref a2), (.ref a1)])) (fun t kt => ?_) ?_
  · refine XS.aconstNull P.here hx rfl (hb hby d2_5) ?_
    exact kt
  refine P.specialS hx (y := (⟨"java/lang/String", "<init>", "([CIILjava/lang/Void;)V"⟩ : MethodName)) rfl (hw _ (List.mem_of_getElem? (i := 11) rfl)) (hw _ (List.mem_of_getElem? (i := 12) rfl)) (hw _ (List.mem_of_getElem? (i := 14) rfl)) (by decide) (fun vm0 hZ hCv hsf => OwS.back (s := s.setVm vm0) (W := 0) (rmN4e l Z a0 hw a1 a2 h0 n0 Z0 g_a1 E_a1 F_coder_a1 F_value_a1) hZ (hw _ (List.mem_of_getElem? (i := 14) rfl)) (hw _ (List.mem_of_getElem? (i := 7) rfl)) (by decide) (by decide) hEL hCv hsf) (sf' := [a1]) (fun _ _ _ q => q.2) (fun x hx => by simp_all) (g := (mkF m 6 #[.val (.ref a1), .val (.ref a2)] [.null, (.int (0 : Int32)), (.int (0 : Int32)), (.ref a2), (.ref a1)])) rfl (by rw [hml]; rfl) (a := a1) (argsL := [(.ref a2), (.int (0 : Int32)), (.int (0 : Int32)), .null]) (rest := []) (lenOf pd___CIILjava_lang_Void__V rfl) rfl (by show 2 * 0 + _ ≤ _; exact Nat.le_of_eq rfl) (hb hby d2_6) rfl (by first | decide | omega | (dsimp only; omega) | simp | (simp; omega)) (by first | decide | omega | (dsimp only; omega) | simp | (simp; omega)) fun T own_v own_L h1 own_e P own_q => ?_
  obtain ⟨⟨rfl, own_K, own_t, own_k, own_F1, own_F2, own_V⟩, -⟩ := own_q
  show OwH p e below s _ _ _ _ _ _ T (mkF m 9 #[.val (.ref a1), .val (.ref a2)] [])
  exact P.retV hEL hx hlk hret (hb hby d2_9) (by first | decide | omega | (dsimp only; omega) | simp | (simp; omega)) (by first | decide | omega | (dsimp only; omega) | simp | (simp; omega)) ⟨rfl, own_K, own_t, own_k, own_F1, own_F2, own_V⟩
theorem d1_0 : decode method_2_code 0 = .ok (.iload_n 1, 1) := by decide +kernel
theorem d1_1 : decode method_2_code 1 = .ok (.ifCond .eq 14, 3) := by decide +kernel
theorem d1_15 : decode method_2_code 15 = .ok (.iconst 2, 1) := by decide +kernel
theorem d1_16 : decode method_2_code 16 = .ok (.newarray .char, 2) := by decide +kernel
theorem d1_18 : decode method_2_code 18 = .ok (.astore_n 2, 1) := by decide +kernel
theorem d1_19 : decode method_2_code 19 = .ok (.aload_n 2, 1) := by decide +kernel
theorem d1_20 : decode method_2_code 20 = .ok (.iconst 0, 1) := by decide +kernel
theorem d1_21 : decode method_2_code 21 = .ok (.iload_n 0, 1) := by decide +kernel
theorem d1_22 : decode method_2_code 22 = .ok (.sipush 255, 3) := by decide +kernel
theorem d1_25 : decode method_2_code 25 = .ok (.iand, 1) := by decide +kernel
theorem d1_26 : decode method_2_code 26 = .ok (.i2c, 1) := by decide +kernel
theorem d1_27 : decode method_2_code 27 = .ok (.castore, 1) := by decide +kernel
theorem d1_28 : decode method_2_code 28 = .ok (.aload_n 2, 1) := by decide +kernel
theorem d1_29 : decode method_2_code 29 = .ok (.iconst 1, 1) := by decide +kernel
theorem d1_30 : decode method_2_code 30 = .ok (.iload_n 0, 1) := by decide +kernel
theorem d1_31 : decode method_2_code 31 = .ok (.bipush 8, 2) := by decide +kernel
theorem d1_33 : decode method_2_code 33 = .ok (.iushr, 1) := by decide +kernel
theorem d1_34 : decode method_2_code 34 = .ok (.sipush 255, 3) := by decide +kernel
theorem d1_37 : decode method_2_code 37 = .ok (.iand, 1) := by decide +kernel
theorem d1_38 : decode method_2_code 38 = .ok (.i2c, 1) := by decide +kernel
theorem d1_39 : decode method_2_code 39 = .ok (.castore, 1) := by decide +kernel
theorem d1_40 : decode method_2_code 40 = .ok (.new 7, 3) := by decide +kernel
theorem d1_43 : decode method_2_code 43 = .ok (.dup, 1) := by decide +kernel
theorem d1_44 : decode method_2_code 44 = .ok (.aload_n 2, 1) := by decide +kernel
theorem d1_45 : decode method_2_code 45 = .ok (.invokespecial 9, 3) := by decide +kernel
theorem pd___C_V : parseMethodDescriptor "([C)V" = some ⟨[(.array .char)], none⟩ := by decide +kernel
theorem d1_48 : decode method_2_code 48 = .ok (.areturn, 1) := by decide +kernel
theorem d1_4 : decode method_2_code 4 = .ok (.new 7, 3) := by decide +kernel
theorem d1_7 : decode method_2_code 7 = .ok (.dup, 1) := by decide +kernel
theorem d1_8 : decode method_2_code 8 = .ok (.iconst 0, 1) := by decide +kernel
theorem d1_9 : decode method_2_code 9 = .ok (.newarray .char, 2) := by decide +kernel
theorem d1_11 : decode method_2_code 11 = .ok (.invokespecial 9, 3) := by decide +kernel
theorem d1_14 : decode method_2_code 14 = .ok (.areturn, 1) := by decide +kernel
theorem pn_com_example_gleipnir_gleipnir_AcquisitionGrantedPinLaw : plainName "com/example/gleipnir/gleipnir/AcquisitionGrantedPinLaw" = true := by first | (simp [plainName, overriddenIn]; done) | decide +kernel
set_option maxRecDepth 65536 in
set_option maxHeartbeats 40000000 in
theorem rmDr (l : Launch) (Z : State) (a0 : Array Value) (hw : ∀ d ∈ tables_1, d.before a0 Z = true) (p1 p2 zC : Int32) (h0 : Heap) (n0 : Nat) (Z0 : n0 ≤ h0.size) (S2 : Sta Z Z.heap "java/lang/String" "COMPACT_STRINGS" "Z" (.int zC)) (hzC : ¬ zC = 0) (OL : Old Z n0 h0) :
    OwS l Z own_EL [] (⟨"com/example/gleipnir/gleipnir/AcquisitionGrantedPinLaw", "drawn", "(IZ)Ljava/lang/String;"⟩ : MethodName) method_2_code 3 (some (.object "java/lang/String")) ({ frames := 4, cells := 6, slots := 12, locals := 66 } : Room) n0 #[(.int p1), (.int p2)] h0 (fun v h => ∃ b : Addr, v = some (.ref b) ∧ Keep h0 h [] ∧ Exa Z h b "java/lang/String") := by
  have hEL := own_EW hw
  refine OwS.mk (plainFor_of_name pn_com_example_gleipnir_gleipnir_AcquisitionGrantedPinLaw) ?_
  intro p e s m below meth c T hx hby hml hnm hret hlk P
  refine OwH.cast (show entryFrame m #[(.int p1), (.int p2)] 3 = mkF m 0 #[.val (.int p1), .val (.int p2), .unset] [] from by first | rfl | (simp [entryFrame, mkF, argsToLocals, Value.category]; done)) ?_
  have KP := Keep.refl h0 []
  refine OwH.go (T' := T) (g' := (mkF m 1 #[.val (.int p1), .val (.int p2), .unset] [(.int p2)])) (fun t kt => ?_) ?_
  · refine XS.iloadN P.here hx rfl (hb hby d1_0) rfl ?_
    exact kt
  by_cases hc1 : p2 = (0 : Int32)
  · skip
    refine OwH.go (T' := T) (g' := (mkF m 15 #[.val (.int p1), .val (.int p2), .unset] [])) (fun t kt => ?_) ?_
    · refine XS.ifYes P.here hx rfl (pc0 := 1) (pc' := 15) rfl (hb hby d1_1) rfl ((if0 _ _).trans (teq hc1).1) (by decide) (by decide) ?_
      exact kt
    refine OwH.go (T' := T) (g' := (mkF m 16 #[.val (.int p1), .val (.int p2), .unset] [(.int (2 : Int32))])) (fun t kt => ?_) ?_
    · refine XS.iconst P.here hx rfl (hb hby d1_15) ?_
      exact kt
    refine P.newP hx (hw _ (List.mem_of_getElem? (i := 4) rfl)) (g := (mkF m 16 #[.val (.int p1), .val (.int p2), .unset] [(.int (2 : Int32))])) rfl (hb hby d1_16) rfl (by decide) (cap := 2) (by decide) (by decide) (by first | decide | omega | (dsimp only; omega) | simp | (simp; omega)) (by first | decide | omega | (dsimp only; omega) | simp | (simp; omega)) fun T h1 b2 kb2 gb2 P E V_b2 => ?_
    have g_b2 : n0 ≤ b2 := Nat.le_trans Z0 (Nat.le_of_eq gb2.symm)
    have sz_b2 : h0.size ≤ b2 := Nat.le_trans KP.1 (Nat.le_of_eq gb2.symm)
    replace Z0 := Nat.le_trans Z0 E.1
    replace OL := OL.ext E
    replace KP := KP.ext E
    clear E
    replace V_b2 : Arv Z h1 b2 kb2 .char (2 : Int32) [(.int (0 : Int32)), (.int (0 : Int32))] (.int (0 : Int32)) := V_b2.pad (pad_rep [] (.int (0 : Int32)) 2)
    show OwH p e below s _ _ _ _ _ _ T (mkF m 18 #[.val (.int p1), .val (.int p2), .unset] [(.ref b2)])
    refine OwH.go (T' := T) (g' := (mkF m 27 #[.val (.int p1), .val (.int p2), .val (.ref b2)] [(.int ((p1 &&& (255 : Int32)).toUInt32.toUInt16.toUInt32.toInt32)), (.int (0 : Int32)), (.ref b2)])) (fun t kt => ?_) ?_
    · refine XS.astoreN P.here hx rfl (hb hby d1_18) rfl rfl (l' := #[.val (.int p1), .val (.int p2), .val (.ref b2)]) rfl ?_
      refine XS.aloadN P.here hx rfl (hb hby d1_19) rfl rfl ?_
      refine XS.iconst P.here hx rfl (hb hby d1_20) ?_
      refine XS.iloadN P.here hx rfl (hb hby d1_21) rfl ?_
      refine XS.sipush P.here hx rfl (hb hby d1_22) ?_
      refine XS.iand P.here hx rfl (hb hby d1_25) rfl ?_
      refine XS.i2c P.here hx rfl (hb hby d1_26) rfl ?_
      exact kt
    refine P.stC hx V_b2 (j := (0 : Int32)) (by decide) (by decide) (i := 0) rfl (Nat.le_of_ble_eq_true rfl) (g := (mkF m 27 #[.val (.int p1), .val (.int p2), .val (.ref b2)] [(.int ((p1 &&& (255 : Int32)).toUInt32.toUInt16.toUInt32.toInt32)), (.int (0 : Int32)), (.ref b2)])) rfl rfl (hb hby d1_27) g_b2 fun T h2 P W V' => ?_
    replace Z0 := Nat.le_trans Z0 (Keep.of_wr W).1
    replace OL := OL.wr W g_b2
    replace KP := KP.wr W (Or.inr sz_b2)
    replace V_b2 := V'
    clear W V'
    show OwH p e below s _ _ _ _ _ _ T (mkF m 28 #[.val (.int p1), .val (.int p2), .val (.ref b2)] [])
    refine OwH.go (T' := T) (g' := (mkF m 39 #[.val (.int p1), .val (.int p2), .val (.ref b2)] [(.int ((((p1.toUInt32 >>> ((8 : Int32) &&& 31).toUInt32).toInt32) &&& (255 : Int32)).toUInt32.toUInt16.toUInt32.toInt32)), (.int (1 : Int32)), (.ref b2)])) (fun t kt => ?_) ?_
    · refine XS.aloadN P.here hx rfl (hb hby d1_28) rfl rfl ?_
      refine XS.iconst P.here hx rfl (hb hby d1_29) ?_
      refine XS.iloadN P.here hx rfl (hb hby d1_30) rfl ?_
      refine XS.bipush P.here hx rfl (hb hby d1_31) ?_
      refine XS.iushr P.here hx rfl (hb hby d1_33) rfl ?_
      refine XS.sipush P.here hx rfl (hb hby d1_34) ?_
      refine XS.iand P.here hx rfl (hb hby d1_37) rfl ?_
      refine XS.i2c P.here hx rfl (hb hby d1_38) rfl ?_
      exact kt
    refine P.stC hx V_b2 (j := (1 : Int32)) (by decide) (by decide) (i := 1) rfl (Nat.le_of_ble_eq_true rfl) (g := (mkF m 39 #[.val (.int p1), .val (.int p2), .val (.ref b2)] [(.int ((((p1.toUInt32 >>> ((8 : Int32) &&& 31).toUInt32).toInt32) &&& (255 : Int32)).toUInt32.toUInt16.toUInt32.toInt32)), (.int (1 : Int32)), (.ref b2)])) rfl rfl (hb hby d1_39) g_b2 fun T h3 P W V' => ?_
    replace Z0 := Nat.le_trans Z0 (Keep.of_wr W).1
    replace OL := OL.wr W g_b2
    replace KP := KP.wr W (Or.inr sz_b2)
    replace V_b2 := V'
    clear W V'
    show OwH p e below s _ _ _ _ _ _ T (mkF m 40 #[.val (.int p1), .val (.int p2), .val (.ref b2)] [])
    refine P.newO hx (hw _ (List.mem_of_getElem? (i := 5) rfl)) (hw _ (List.mem_of_getElem? (i := 6) rfl)) (hw _ (List.mem_of_getElem? (i := 7) rfl)) (g := (mkF m 40 #[.val (.int p1), .val (.int p2), .val (.ref b2)] [])) rfl (hb hby d1_40) (by first | decide | omega | (dsimp only; omega) | simp | (simp; omega)) (by first | decide | omega | (dsimp only; omega) | simp | (simp; omega)) fun T h4 b5 gb5 P E A D => ?_
    have ne_b2_b5 : b2 ≠ b5 := Nat.ne_of_lt (Nat.lt_of_lt_of_le V_b2.lt (Nat.le_of_eq gb5.symm))
    have ne_b5_b2 := Ne.symm ne_b2_b5
    have g_b5 : n0 ≤ b5 := Nat.le_trans Z0 (Nat.le_of_eq gb5.symm)
    have sz_b5 : h0.size ≤ b5 := Nat.le_trans KP.1 (Nat.le_of_eq gb5.symm)
    replace V_b2 := V_b2.ext E
    replace Z0 := Nat.le_trans Z0 E.1
    replace OL := OL.ext E
    replace KP := KP.ext E
    have E_b5 := A
    have F_coder_b5 : Fld Z h4 b5 "java/lang/String" "coder" "B" (.int (0 : Int32)) := D (Or.inr (hw _ (List.mem_of_getElem? (i := 31) rfl))) (ty := .byte) (by decide)
    have F_value_b5 : Fld Z h4 b5 "java/lang/String" "value" "[B" .null := D (Or.inr (hw _ (List.mem_of_getElem? (i := 33) rfl))) (ty := (.array .byte)) (by decide)
    clear A D E
    show OwH p e below s _ _ _ _ _ _ T (mkF m 43 #[.val (.int p1), .val (.int p2), .val (.ref b2)] [(.ref b5)])
    refine OwH.go (T' := T) (g' := (mkF m 45 #[.val (.int p1), .val (.int p2), .val (.ref b2)] [(.ref b2), (.ref b5), (.ref b5)])) (fun t kt => ?_) ?_
    · refine XS.dup P.here hx rfl (hb hby d1_43) rfl rfl ?_
      refine XS.aloadN P.here hx rfl (hb hby d1_44) rfl rfl ?_
      exact kt
    have hws : ∀ d ∈ StrChars.Road.words, d.before a0 Z = true := fun d hd => hw d (own_words d hd)
    have hp : ∀ c ∈ ([nar .char ((p1 &&& (255 : Int32)).toUInt32.toUInt16.toUInt32.toInt32), nar .char ((((p1.toUInt32 >>> ((8 : Int32) &&& 31).toUInt32).toInt32) &&& (255 : Int32)).toUInt32.toUInt16.toUInt32.toInt32)] : List Int32), ¬ c < 0 ∧ ¬ (255 : Int32) < c := by
      intro c hc
      simp only [List.mem_cons, List.not_mem_nil, or_false] at hc
      rcases hc with rfl | rfl
      · exact own_and255 _
      · exact own_and255 _
    refine P.special hx (y := (⟨"java/lang/String", "<init>", "([C)V"⟩ : MethodName)) rfl (hw _ (List.mem_of_getElem? (i := 8) rfl)) (hw _ (List.mem_of_getElem? (i := 9) rfl)) (hw _ (List.mem_of_getElem? (i := 10) rfl)) (by decide) (fun vm0 hZ => StrChars.Road.backV (s := s.setVm vm0) (W := 1) hZ hws (kI := 4) (hw _ (List.mem_of_getElem? (i := 6) rfl)) (cs := ([nar .char ((p1 &&& (255 : Int32)).toUInt32.toUInt16.toUInt32.toInt32), nar .char ((((p1.toUInt32 >>> ((8 : Int32) &&& 31).toUInt32).toInt32) &&& (255 : Int32)).toUInt32.toUInt16.toUInt32.toInt32)] : List Int32)) (bs := ([nar .char ((p1 &&& (255 : Int32)).toUInt32.toUInt16.toUInt32.toInt32), nar .char ((((p1.toUInt32 >>> ((8 : Int32) &&& 31).toUInt32).toInt32) &&& (255 : Int32)).toUInt32.toUInt16.toUInt32.toInt32)] : List Int32).map (fun c => c.toInt8.toInt32)) (n := 2) g_b5 Z0 E_b5 F_value_b5 F_coder_b5 V_b2 (S2.ext OL.2) hzC rfl rfl (by decide) (by decide) hp rfl (by decide) (by decide)) (fun _ _ _ q => q.2.1) (ws := [b5]) (fun _ _ _ q => q.2.2.1) (allS (Or.inl (by simp)) all0) (g := (mkF m 45 #[.val (.int p1), .val (.int p2), .val (.ref b2)] [(.ref b2), (.ref b5), (.ref b5)])) rfl (by rw [hml]; rfl) (a := b5) (argsL := [(.ref b2)]) (rest := [(.ref b5)]) (lenOf pd___C_V rfl) rfl (by show 2 * 0 + _ ≤ _; exact Nat.le_of_eq rfl) (hb hby d1_45) rfl (by first | decide | omega | (dsimp only; omega) | simp | (simp; omega)) (by first | decide | omega | (dsimp only; omega) | simp | (simp; omega)) fun T own_v own_L h5 own_e P own_q => ?_
    obtain ⟨rfl, -, K, -, -, t, kb, -, -, -, -, -⟩ := own_q
    clear own_e
    replace V_b2 := V_b2.keep K (ninS ne_b2_b5 nin0)
    replace E_b5 := E_b5.keep K
    replace Z0 := Nat.le_trans Z0 K.1
    replace OL := OL.keep K (allS g_b5 all0)
    replace KP := KP.trans K (allS (Or.inr sz_b5) all0)
    show OwH p e below s _ _ _ _ _ _ T (mkF m 48 #[.val (.int p1), .val (.int p2), .val (.ref b2)] [(.ref b5)])
    exact P.retR hEL hx hlk hret rfl rfl (hb hby d1_48) (by first | decide | omega | (dsimp only; omega) | simp | (simp; omega)) (by first | decide | omega | (dsimp only; omega) | simp | (simp; omega)) ⟨b5, rfl, KP, E_b5⟩
  · skip
    refine OwH.go (T' := T) (g' := (mkF m 4 #[.val (.int p1), .val (.int p2), .unset] [])) (fun t kt => ?_) ?_
    · refine XS.ifNo P.here hx rfl (hb hby d1_1) rfl ((if0 _ _).trans (feq hc1).1) ?_
      exact kt
    refine P.newO hx (hw _ (List.mem_of_getElem? (i := 5) rfl)) (hw _ (List.mem_of_getElem? (i := 6) rfl)) (hw _ (List.mem_of_getElem? (i := 7) rfl)) (g := (mkF m 4 #[.val (.int p1), .val (.int p2), .unset] [])) rfl (hb hby d1_4) (by first | decide | omega | (dsimp only; omega) | simp | (simp; omega)) (by first | decide | omega | (dsimp only; omega) | simp | (simp; omega)) fun T h1 b5 gb5 P E A D => ?_
    have g_b5 : n0 ≤ b5 := Nat.le_trans Z0 (Nat.le_of_eq gb5.symm)
    have sz_b5 : h0.size ≤ b5 := Nat.le_trans KP.1 (Nat.le_of_eq gb5.symm)
    replace Z0 := Nat.le_trans Z0 E.1
    replace OL := OL.ext E
    replace KP := KP.ext E
    have E_b5 := A
    have F_coder_b5 : Fld Z h1 b5 "java/lang/String" "coder" "B" (.int (0 : Int32)) := D (Or.inr (hw _ (List.mem_of_getElem? (i := 31) rfl))) (ty := .byte) (by decide)
    have F_value_b5 : Fld Z h1 b5 "java/lang/String" "value" "[B" .null := D (Or.inr (hw _ (List.mem_of_getElem? (i := 33) rfl))) (ty := (.array .byte)) (by decide)
    clear A D E
    show OwH p e below s _ _ _ _ _ _ T (mkF m 7 #[.val (.int p1), .val (.int p2), .unset] [(.ref b5)])
    refine OwH.go (T' := T) (g' := (mkF m 9 #[.val (.int p1), .val (.int p2), .unset] [(.int (0 : Int32)), (.ref b5), (.ref b5)])) (fun t kt => ?_) ?_
    · refine XS.dup P.here hx rfl (hb hby d1_7) rfl rfl ?_
      refine XS.iconst P.here hx rfl (hb hby d1_8) ?_
      exact kt
    refine P.newP hx (hw _ (List.mem_of_getElem? (i := 4) rfl)) (g := (mkF m 9 #[.val (.int p1), .val (.int p2), .unset] [(.int (0 : Int32)), (.ref b5), (.ref b5)])) rfl (hb hby d1_9) rfl (by decide) (cap := 0) (by decide) (by decide) (by first | decide | omega | (dsimp only; omega) | simp | (simp; omega)) (by first | decide | omega | (dsimp only; omega) | simp | (simp; omega)) fun T h2 b2 kb2 gb2 P E V_b2 => ?_
    have ne_b5_b2 : b5 ≠ b2 := Nat.ne_of_lt (Nat.lt_of_lt_of_le E_b5.lt (Nat.le_of_eq gb2.symm))
    have ne_b2_b5 := Ne.symm ne_b5_b2
    have g_b2 : n0 ≤ b2 := Nat.le_trans Z0 (Nat.le_of_eq gb2.symm)
    have sz_b2 : h0.size ≤ b2 := Nat.le_trans KP.1 (Nat.le_of_eq gb2.symm)
    replace E_b5 := E_b5.ext E
    replace F_coder_b5 := F_coder_b5.ext E
    replace F_value_b5 := F_value_b5.ext E
    replace Z0 := Nat.le_trans Z0 E.1
    replace OL := OL.ext E
    replace KP := KP.ext E
    clear E
    show OwH p e below s _ _ _ _ _ _ T (mkF m 11 #[.val (.int p1), .val (.int p2), .unset] [(.ref b2), (.ref b5), (.ref b5)])
    refine P.specialS hx (y := (⟨"java/lang/String", "<init>", "([C)V"⟩ : MethodName)) rfl (hw _ (List.mem_of_getElem? (i := 8) rfl)) (hw _ (List.mem_of_getElem? (i := 9) rfl)) (hw _ (List.mem_of_getElem? (i := 10) rfl)) (by decide) (fun vm0 hZ hCv hsf => OwS.back (s := s.setVm vm0) (W := 1) (rmN1e l Z a0 hw b5 b2 kb2 _ h2 n0 Z0 g_b5 E_b5 F_coder_b5 F_value_b5 V_b2) hZ (hw _ (List.mem_of_getElem? (i := 10) rfl)) (hw _ (List.mem_of_getElem? (i := 7) rfl)) (by decide) (by decide) hEL hCv hsf) (sf' := [b5]) (fun _ _ _ q => q.2) (fun x hx => by simp_all) (g := (mkF m 11 #[.val (.int p1), .val (.int p2), .unset] [(.ref b2), (.ref b5), (.ref b5)])) rfl (by rw [hml]; rfl) (a := b5) (argsL := [(.ref b2)]) (rest := [(.ref b5)]) (lenOf pd___C_V rfl) rfl (by show 2 * 0 + _ ≤ _; exact Nat.le_of_eq rfl) (hb hby d1_11) rfl (by first | decide | omega | (dsimp only; omega) | simp | (simp; omega)) (by first | decide | omega | (dsimp only; omega) | simp | (simp; omega)) fun T own_v own_L h3 own_e P own_q => ?_
    obtain ⟨⟨rfl, K, -⟩, -⟩ := own_q
    clear own_e
    replace E_b5 := E_b5.keep K
    replace V_b2 := V_b2.keep K (ninS ne_b2_b5 nin0)
    replace Z0 := Nat.le_trans Z0 K.1
    replace OL := OL.keep K (allS g_b5 all0)
    replace KP := KP.trans K (allS (Or.inr sz_b5) all0)
    show OwH p e below s _ _ _ _ _ _ T (mkF m 14 #[.val (.int p1), .val (.int p2), .unset] [(.ref b5)])
    exact P.retR hEL hx hlk hret rfl rfl (hb hby d1_14) (by first | decide | omega | (dsimp only; omega) | simp | (simp; omega)) (by first | decide | omega | (dsimp only; omega) | simp | (simp; omega)) ⟨b5, rfl, KP, E_b5⟩
theorem d8_0 : decode jdk_29_method_66_code 0 = .ok (.lload_n 0, 1) := by decide +kernel
theorem d8_1 : decode jdk_29_method_66_code 1 = .ok (.lload_n 2, 1) := by decide +kernel
theorem d8_2 : decode jdk_29_method_66_code 2 = .ok (.lcmp, 1) := by decide +kernel
theorem d8_3 : decode jdk_29_method_66_code 3 = .ok (.ifCond .lt 7, 3) := by decide +kernel
theorem d8_10 : decode jdk_29_method_66_code 10 = .ok (.lload_n 2, 1) := by decide +kernel
theorem d8_11 : decode jdk_29_method_66_code 11 = .ok (.lreturn, 1) := by decide +kernel
theorem d8_6 : decode jdk_29_method_66_code 6 = .ok (.lload_n 0, 1) := by decide +kernel
theorem d8_7 : decode jdk_29_method_66_code 7 = .ok (.goto 4, 3) := by decide +kernel
theorem own_max1 {q : Int64} (h : (1 : Int64) < q) : ¬ q < 1 := by rw [Int64.lt_iff_toInt_lt] at *; omega
set_option maxRecDepth 65536 in
set_option maxHeartbeats 40000000 in
theorem rmMax (l : Launch) (Z : State) (a0 : Array Value) (hw : ∀ d ∈ tables_1, d.before a0 Z = true) (q2 : Int64) (h0 : Heap) (n0 : Nat) (Z0 : n0 ≤ h0.size)  :
    OwM l Z (⟨"java/lang/Math", "max", "(JJ)J"⟩ : MethodName) jdk_29_method_66_code 4 (some .long) ({ frames := 0, cells := 0, slots := 0, locals := 0 } : Room) n0 #[(.long (1 : Int64)), (.long q2)] h0 (fun v h => ∃ z : Int64, v = some (.long z) ∧ ¬ z < (1 : Int64) ∧ h = h0) := by
  refine OwM.mk (Jvm.Free.JP.mathPlain rfl (by decide +kernel)) ?_
  intro p e s m below meth c T hx hby hml hown hnm hret hlk hZ P
  refine OwG.cast (show entryFrame m #[(.long (1 : Int64)), (.long q2)] 4 = mkF m 0 #[.val (.long (1 : Int64)), .second, .val (.long q2), .second] [] from by first | rfl | (simp [entryFrame, mkF, argsToLocals, Value.category]; done)) ?_
  refine OwG.go (T' := T) (g' := (mkF m 3 #[.val (.long (1 : Int64)), .second, .val (.long q2), .second] [(.int (lcmpW (1 : Int64) q2))])) (fun t kt => ?_) ?_
  · refine XS.lloadN P.here hx rfl (hb hby d8_0) rfl ?_
    refine XS.lloadN P.here hx rfl (hb hby d8_1) rfl ?_
    refine XS.lcmp P.here hx rfl (hb hby d8_2) rfl ?_
    exact kt
  by_cases hc3 : (lcmpW (1 : Int64) q2) < (0 : Int32)
  · skip
    refine OwG.go (T' := T) (g' := (mkF m 10 #[.val (.long (1 : Int64)), .second, .val (.long q2), .second] [])) (fun t kt => ?_) ?_
    · refine XS.ifYes P.here hx rfl (pc0 := 3) (pc' := 10) rfl (hb hby d8_3) rfl ((if0 _ _).trans (tlt hc3).1) (by decide) (by decide) ?_
      exact kt
    refine OwG.go (T' := T) (g' := (mkF m 11 #[.val (.long (1 : Int64)), .second, .val (.long q2), .second] [(.long q2)])) (fun t kt => ?_) ?_
    · refine XS.lloadN P.here hx rfl (hb hby d8_10) rfl ?_
      exact kt
    exact P.retL hx hlk hret (hb hby d8_11) (by first | decide | omega | (dsimp only; omega) | simp | (simp; omega)) (by first | decide | omega | (dsimp only; omega) | simp | (simp; omega)) ⟨_, rfl, own_max1 ((lw_lt _ _).mp hc3), rfl⟩
  · skip
    refine OwG.go (T' := T) (g' := (mkF m 6 #[.val (.long (1 : Int64)), .second, .val (.long q2), .second] [])) (fun t kt => ?_) ?_
    · refine XS.ifNo P.here hx rfl (hb hby d8_3) rfl ((if0 _ _).trans (flt hc3).1) ?_
      exact kt
    refine OwG.go (T' := T) (g' := (mkF m 11 #[.val (.long (1 : Int64)), .second, .val (.long q2), .second] [(.long (1 : Int64))])) (fun t kt => ?_) ?_
    · refine XS.lloadN P.here hx rfl (hb hby d8_6) rfl ?_
      refine XS.goto P.here hx rfl (pc0 := 7) (pc' := 11) rfl (hb hby d8_7) (by decide) (by decide) ?_
      exact kt
    exact P.retL hx hlk hret (hb hby d8_11) (by first | decide | omega | (dsimp only; omega) | simp | (simp; omega)) (by first | decide | omega | (dsimp only; omega) | simp | (simp; omega)) ⟨_, rfl, by decide, rfl⟩
theorem d10_0 : decode jdk_30_method_1_code 0 = .ok (.aload_n 0, 1) := by decide +kernel
theorem d10_1 : decode jdk_30_method_1_code 1 = .ok (.invokespecial 1, 3) := by decide +kernel
theorem d10_4 : decode jdk_30_method_1_code 4 = .ok (.return_, 1) := by decide +kernel
theorem pn_java_lang_Record : plainName "java/lang/Record" = true := by first | (simp [plainName, overriddenIn]; done) | decide +kernel
set_option maxRecDepth 65536 in
set_option maxHeartbeats 40000000 in
theorem rmRec (l : Launch) (Z : State) (a0 : Array Value) (hw : ∀ d ∈ tables_1, d.before a0 Z = true) (a1 : Addr) (h0 : Heap) (n0 : Nat) (Z0 : n0 ≤ h0.size)  :
    OwM l Z (⟨"java/lang/Record", "<init>", "()V"⟩ : MethodName) jdk_30_method_1_code 1 none ({ frames := 1, cells := 0, slots := 0, locals := 12 } : Room) n0 #[(.ref a1)] h0 (fun v h => v = none ∧ h = h0) := by
  refine OwM.mk (plainFor_of_name pn_java_lang_Record) ?_
  intro p e s m below meth c T hx hby hml hown hnm hret hlk hZ P
  refine OwG.cast (show entryFrame m #[(.ref a1)] 1 = mkF m 0 #[.val (.ref a1)] [] from by first | rfl | (simp [entryFrame, mkF, argsToLocals, Value.category]; done)) ?_
  refine OwG.go (T' := T) (g' := (mkF m 1 #[.val (.ref a1)] [(.ref a1)])) (fun t kt => ?_) ?_
  · refine XS.aloadN P.here hx rfl (hb hby d10_0) rfl rfl ?_
    exact kt
  refine P.initO hx hZ hown (hw _ (List.mem_of_getElem? (i := 50) rfl)) (hw _ (List.mem_of_getElem? (i := 16) rfl)) (hw _ (List.mem_of_getElem? (i := 17) rfl)) (g := (mkF m 1 #[.val (.ref a1)] [(.ref a1)])) rfl (by rw [hml]; rfl) rfl (hb hby d10_1) (by decide) (W := 0) (by show 2 * 0 + _ ≤ _; exact Nat.le_of_eq rfl) (by decide) fun T P => ?_
  show OwG p e below s _ _ _ _ T (mkF m 4 #[.val (.ref a1)] [])
  exact P.retV hx hlk hret (hb hby d10_4) (by first | decide | omega | (dsimp only; omega) | simp | (simp; omega)) (by first | decide | omega | (dsimp only; omega) | simp | (simp; omega)) ⟨rfl, rfl⟩
theorem d11_0 : decode jdk_31_method_11_code 0 = .ok (.aload_n 0, 1) := by decide +kernel
theorem d11_1 : decode jdk_31_method_11_code 1 = .ok (.ifnonnull 12, 3) := by decide +kernel
theorem d11_13 : decode jdk_31_method_11_code 13 = .ok (.aload_n 0, 1) := by decide +kernel
theorem d11_14 : decode jdk_31_method_11_code 14 = .ok (.areturn, 1) := by decide +kernel
theorem pn_java_util_Objects : plainName "java/util/Objects" = true := by first | (simp [plainName, overriddenIn]; done) | decide +kernel
set_option maxRecDepth 65536 in
set_option maxHeartbeats 40000000 in
theorem rmRnn (l : Launch) (Z : State) (a0 : Array Value) (hw : ∀ d ∈ tables_1, d.before a0 Z = true) (a1 a2 : Addr) (h0 : Heap) (n0 : Nat) (Z0 : n0 ≤ h0.size)  :
    OwM l Z (⟨"java/util/Objects", "requireNonNull", "(Ljava/lang/Object;Ljava/lang/String;)Ljava/lang/Object;"⟩ : MethodName) jdk_31_method_11_code 2 (some (.object "java/lang/Object")) ({ frames := 0, cells := 0, slots := 0, locals := 0 } : Room) n0 #[(.ref a1), (.ref a2)] h0 (fun v h => v = some (.ref a1) ∧ h = h0) := by
  refine OwM.mk (plainFor_of_name pn_java_util_Objects) ?_
  intro p e s m below meth c T hx hby hml hown hnm hret hlk hZ P
  refine OwG.cast (show entryFrame m #[(.ref a1), (.ref a2)] 2 = mkF m 0 #[.val (.ref a1), .val (.ref a2)] [] from by first | rfl | (simp [entryFrame, mkF, argsToLocals, Value.category]; done)) ?_
  refine OwG.go (T' := T) (g' := (mkF m 1 #[.val (.ref a1), .val (.ref a2)] [(.ref a1)])) (fun t kt => ?_) ?_
  · refine XS.aloadN P.here hx rfl (hb hby d11_0) rfl rfl ?_
    exact kt
  refine OwG.go (T' := T) (g' := (mkF m 13 #[.val (.ref a1), .val (.ref a2)] [])) (fun t kt => ?_) ?_
  · refine XS.ifnonnullYes P.here hx rfl (pc0 := 1) (pc' := 13) rfl (hb hby d11_1) rfl (by decide) (by decide) ?_
    exact kt
  refine OwG.go (T' := T) (g' := (mkF m 14 #[.val (.ref a1), .val (.ref a2)] [(.ref a1)])) (fun t kt => ?_) ?_
  · refine XS.aloadN P.here hx rfl (hb hby d11_13) rfl rfl ?_
    exact kt
  exact P.retR hx hlk hret rfl rfl (hb hby d11_14) (by first | decide | omega | (dsimp only; omega) | simp | (simp; omega)) (by first | decide | omega | (dsimp only; omega) | simp | (simp; omega)) ⟨rfl, rfl⟩
theorem d9_0 : decode prog_14_method_1_code 0 = .ok (.aload_n 0, 1) := by decide +kernel
theorem d9_1 : decode prog_14_method_1_code 1 = .ok (.invokespecial 1, 3) := by decide +kernel
theorem pd___V : parseMethodDescriptor "()V" = some ⟨[], none⟩ := by decide +kernel
theorem d9_4 : decode prog_14_method_1_code 4 = .ok (.aload_n 1, 1) := by decide +kernel
theorem d9_5 : decode prog_14_method_1_code 5 = .ok (.ldc 7, 2) := by decide +kernel
theorem d9_7 : decode prog_14_method_1_code 7 = .ok (.invokestatic 9, 3) := by decide +kernel
theorem pd__Ljava_lang_Object_Ljava_lang_String__Ljava_lang_Object_ : parseMethodDescriptor "(Ljava/lang/Object;Ljava/lang/String;)Ljava/lang/Object;" = some ⟨[(.object "java/lang/Object"), (.object "java/lang/String")], some (.object "java/lang/Object")⟩ := by decide +kernel
theorem d9_10 : decode prog_14_method_1_code 10 = .ok (.pop, 1) := by decide +kernel
theorem d9_11 : decode prog_14_method_1_code 11 = .ok (.aload_n 2, 1) := by decide +kernel
theorem d9_12 : decode prog_14_method_1_code 12 = .ok (.ldc 15, 2) := by decide +kernel
theorem d9_14 : decode prog_14_method_1_code 14 = .ok (.invokestatic 9, 3) := by decide +kernel
theorem d9_17 : decode prog_14_method_1_code 17 = .ok (.pop, 1) := by decide +kernel
theorem d9_18 : decode prog_14_method_1_code 18 = .ok (.lload_n 3, 1) := by decide +kernel
theorem d9_19 : decode prog_14_method_1_code 19 = .ok (.lconst 1, 1) := by decide +kernel
theorem d9_20 : decode prog_14_method_1_code 20 = .ok (.lcmp, 1) := by decide +kernel
theorem d9_21 : decode prog_14_method_1_code 21 = .ok (.ifCond .ge 17, 3) := by decide +kernel
theorem d9_38 : decode prog_14_method_1_code 38 = .ok (.aload_n 0, 1) := by decide +kernel
theorem d9_39 : decode prog_14_method_1_code 39 = .ok (.aload_n 1, 1) := by decide +kernel
theorem d9_40 : decode prog_14_method_1_code 40 = .ok (.putfield 26, 3) := by decide +kernel
theorem d9_43 : decode prog_14_method_1_code 43 = .ok (.aload_n 0, 1) := by decide +kernel
theorem d9_44 : decode prog_14_method_1_code 44 = .ok (.aload_n 2, 1) := by decide +kernel
theorem d9_45 : decode prog_14_method_1_code 45 = .ok (.putfield 31, 3) := by decide +kernel
theorem d9_48 : decode prog_14_method_1_code 48 = .ok (.aload_n 0, 1) := by decide +kernel
theorem d9_49 : decode prog_14_method_1_code 49 = .ok (.lload_n 3, 1) := by decide +kernel
theorem d9_50 : decode prog_14_method_1_code 50 = .ok (.putfield 33, 3) := by decide +kernel
theorem d9_53 : decode prog_14_method_1_code 53 = .ok (.return_, 1) := by decide +kernel
theorem pn_com_example_gleipnir_gleipnir_Lease : plainName "com/example/gleipnir/gleipnir/Lease" = true := by first | (simp [plainName, overriddenIn]; done) | decide +kernel
set_option maxRecDepth 65536 in
set_option maxHeartbeats 40000000 in
theorem rmLe (l : Launch) (Z : State) (a0 : Array Value) (hw : ∀ d ∈ tables_1, d.before a0 Z = true) (a1 a2 a3 : Addr) (q4 : Int64) (h0 : Heap) (n0 : Nat) (Z0 : n0 ≤ h0.size) (hq4 : ¬ q4 < (1 : Int64)) (g_a1 : n0 ≤ a1) (E_a1 : Exa Z h0 a1 "com/example/gleipnir/gleipnir/Lease") (F_name_a1 : Fld Z h0 a1 "com/example/gleipnir/gleipnir/Lease" "name" "Ljava/lang/String;" .null) (F_node_a1 : Fld Z h0 a1 "com/example/gleipnir/gleipnir/Lease" "node" "Ljava/lang/String;" .null) (F_token_a1 : Fld Z h0 a1 "com/example/gleipnir/gleipnir/Lease" "token" "J" (.long (0 : Int64))) :
    OwS l Z own_EL [] (⟨"com/example/gleipnir/gleipnir/Lease", "<init>", "(Ljava/lang/String;Ljava/lang/String;J)V"⟩ : MethodName) prog_14_method_1_code 5 none ({ frames := 2, cells := 4, slots := 40, locals := 24 } : Room) n0 #[(.ref a1), (.ref a2), (.ref a3), (.long q4)] h0 (fun v h => v = none ∧ Keep h0 h [a1] ∧ Fld Z h a1 "com/example/gleipnir/gleipnir/Lease" "name" "Ljava/lang/String;" (.ref a2)) := by
  have hEL := own_EW hw
  refine OwS.mk (plainFor_of_name pn_com_example_gleipnir_gleipnir_Lease) ?_
  intro p e s m below meth c T hx hby hml hnm hret hlk P
  refine OwH.cast (show entryFrame m #[(.ref a1), (.ref a2), (.ref a3), (.long q4)] 5 = mkF m 0 #[.val (.ref a1), .val (.ref a2), .val (.ref a3), .val (.long q4), .second] [] from by first | rfl | (simp [entryFrame, mkF, argsToLocals, Value.category]; done)) ?_
  have KP := Keep.refl h0 [a1]
  refine OwH.go (T' := T) (g' := (mkF m 1 #[.val (.ref a1), .val (.ref a2), .val (.ref a3), .val (.long q4), .second] [(.ref a1)])) (fun t kt => ?_) ?_
  · refine XS.aloadN P.here hx rfl (hb hby d9_0) rfl rfl ?_
    exact kt
  refine P.special hx (y := (⟨"java/lang/Record", "<init>", "()V"⟩ : MethodName)) rfl (hw _ (List.mem_of_getElem? (i := 45) rfl)) (hw _ (List.mem_of_getElem? (i := 46) rfl)) (hw _ (List.mem_of_getElem? (i := 49) rfl)) (by decide) (fun vm0 hZ => OwM.back (s := s.setVm vm0) (W := 0) (rmRec l Z a0 hw a1 h0 n0 Z0) hZ (hw _ (List.mem_of_getElem? (i := 49) rfl)) (hw _ (List.mem_of_getElem? (i := 48) rfl)) (by decide) (by decide)) (fun _ _ _ q => q.2) (ws := []) (fun _ _ _ q => by rw [q.1.2]; exact Keep.refl _ _) all0 (g := (mkF m 1 #[.val (.ref a1), .val (.ref a2), .val (.ref a3), .val (.long q4), .second] [(.ref a1)])) rfl (by rw [hml]; rfl) (a := a1) (argsL := []) (rest := []) (lenOf pd___V rfl) rfl (by show 2 * 0 + _ ≤ _; exact Nat.le_of_eq rfl) (hb hby d9_1) rfl (by first | decide | omega | (dsimp only; omega) | simp | (simp; omega)) (by first | decide | omega | (dsimp only; omega) | simp | (simp; omega)) fun T own_v own_L h1 own_e P own_q => ?_
  obtain ⟨⟨rfl, own_hh⟩, -⟩ := own_q
  rw [own_hh] at P
  clear own_e own_hh
  show OwH p e below s _ _ _ _ _ _ T (mkF m 4 #[.val (.ref a1), .val (.ref a2), .val (.ref a3), .val (.long q4), .second] [])
  refine OwH.go (T' := T) (g' := (mkF m 5 #[.val (.ref a1), .val (.ref a2), .val (.ref a3), .val (.long q4), .second] [(.ref a2)])) (fun t kt => ?_) ?_
  · refine XS.aloadN P.here hx rfl (hb hby d9_4) rfl rfl ?_
    exact kt
  refine P.ldcO hx hEL (hw _ (List.mem_of_getElem? (i := 51) rfl)) (own_wS hw) (g := (mkF m 5 #[.val (.ref a1), .val (.ref a2), .val (.ref a3), .val (.long q4), .second] [(.ref a2)])) rfl (hb hby d9_5) (nn := 16) (by decide) (by decide) (by first | decide | omega | (dsimp only; omega) | simp | (simp; omega)) (by first | decide | omega | (dsimp only; omega) | simp | (simp; omega)) fun T h2 m1 P E => ?_
  replace E_a1 := E_a1.ext E
  replace F_name_a1 := F_name_a1.ext E
  replace F_node_a1 := F_node_a1.ext E
  replace F_token_a1 := F_token_a1.ext E
  replace Z0 := Nat.le_trans Z0 E.1
  replace KP := KP.ext E
  clear E
  show OwH p e below s _ _ _ _ _ _ T (mkF m 7 #[.val (.ref a1), .val (.ref a2), .val (.ref a3), .val (.long q4), .second] [(.ref m1), (.ref a2)])
  refine P.stat hx (y := (⟨"java/util/Objects", "requireNonNull", "(Ljava/lang/Object;Ljava/lang/String;)Ljava/lang/Object;"⟩ : MethodName)) (hw _ (List.mem_of_getElem? (i := 54) rfl)) (hw _ (List.mem_of_getElem? (i := 55) rfl)) (hw _ (List.mem_of_getElem? (i := 56) rfl)) (hw _ (List.mem_of_getElem? (i := 57) rfl)) (by decide) (fun vm0 hZ => OwM.back (s := s.setVm vm0) (W := 0) (rmRnn l Z a0 hw a2 m1 h2 n0 Z0) hZ (hw _ (List.mem_of_getElem? (i := 57) rfl)) (hw _ (List.mem_of_getElem? (i := 56) rfl)) (by decide) (by decide)) (fun _ _ _ q => q.2) (ws := []) (fun _ _ _ q => by rw [q.1.2]; exact Keep.refl _ _) all0 (g := (mkF m 7 #[.val (.ref a1), .val (.ref a2), .val (.ref a3), .val (.long q4), .second] [(.ref m1), (.ref a2)])) rfl (by rw [hml]; rfl) (argsL := [(.ref a2), (.ref m1)]) (rest := []) (lenOf pd__Ljava_lang_Object_Ljava_lang_String__Ljava_lang_Object_ rfl) rfl (by show 2 * 0 + _ ≤ _; exact Nat.le_of_eq rfl) (hb hby d9_7) rfl (by first | decide | omega | (dsimp only; omega) | simp | (simp; omega)) (by first | decide | omega | (dsimp only; omega) | simp | (simp; omega)) fun T own_v own_L h3 own_e P own_q => ?_
  obtain ⟨⟨rfl, own_hh⟩, -⟩ := own_q
  rw [own_hh] at P
  clear own_e own_hh
  show OwH p e below s _ _ _ _ _ _ T (mkF m 10 #[.val (.ref a1), .val (.ref a2), .val (.ref a3), .val (.long q4), .second] [(.ref a2)])
  refine OwH.go (T' := T) (g' := (mkF m 12 #[.val (.ref a1), .val (.ref a2), .val (.ref a3), .val (.long q4), .second] [(.ref a3)])) (fun t kt => ?_) ?_
  · refine XS.pop P.here hx rfl (hb hby d9_10) rfl rfl ?_
    refine XS.aloadN P.here hx rfl (hb hby d9_11) rfl rfl ?_
    exact kt
  refine P.ldcO hx hEL (hw _ (List.mem_of_getElem? (i := 58) rfl)) (own_wS hw) (g := (mkF m 12 #[.val (.ref a1), .val (.ref a2), .val (.ref a3), .val (.long q4), .second] [(.ref a3)])) rfl (hb hby d9_12) (nn := 16) (by decide) (by decide) (by first | decide | omega | (dsimp only; omega) | simp | (simp; omega)) (by first | decide | omega | (dsimp only; omega) | simp | (simp; omega)) fun T h4 m2 P E => ?_
  replace E_a1 := E_a1.ext E
  replace F_name_a1 := F_name_a1.ext E
  replace F_node_a1 := F_node_a1.ext E
  replace F_token_a1 := F_token_a1.ext E
  replace Z0 := Nat.le_trans Z0 E.1
  replace KP := KP.ext E
  clear E
  show OwH p e below s _ _ _ _ _ _ T (mkF m 14 #[.val (.ref a1), .val (.ref a2), .val (.ref a3), .val (.long q4), .second] [(.ref m2), (.ref a3)])
  refine P.stat hx (y := (⟨"java/util/Objects", "requireNonNull", "(Ljava/lang/Object;Ljava/lang/String;)Ljava/lang/Object;"⟩ : MethodName)) (hw _ (List.mem_of_getElem? (i := 54) rfl)) (hw _ (List.mem_of_getElem? (i := 55) rfl)) (hw _ (List.mem_of_getElem? (i := 56) rfl)) (hw _ (List.mem_of_getElem? (i := 57) rfl)) (by decide) (fun vm0 hZ => OwM.back (s := s.setVm vm0) (W := 0) (rmRnn l Z a0 hw a3 m2 h4 n0 Z0) hZ (hw _ (List.mem_of_getElem? (i := 57) rfl)) (hw _ (List.mem_of_getElem? (i := 56) rfl)) (by decide) (by decide)) (fun _ _ _ q => q.2) (ws := []) (fun _ _ _ q => by rw [q.1.2]; exact Keep.refl _ _) all0 (g := (mkF m 14 #[.val (.ref a1), .val (.ref a2), .val (.ref a3), .val (.long q4), .second] [(.ref m2), (.ref a3)])) rfl (by rw [hml]; rfl) (argsL := [(.ref a3), (.ref m2)]) (rest := []) (lenOf pd__Ljava_lang_Object_Ljava_lang_String__Ljava_lang_Object_ rfl) rfl (by show 2 * 0 + _ ≤ _; exact Nat.le_of_eq rfl) (hb hby d9_14) rfl (by first | decide | omega | (dsimp only; omega) | simp | (simp; omega)) (by first | decide | omega | (dsimp only; omega) | simp | (simp; omega)) fun T own_v own_L h5 own_e P own_q => ?_
  obtain ⟨⟨rfl, own_hh⟩, -⟩ := own_q
  rw [own_hh] at P
  clear own_e own_hh
  show OwH p e below s _ _ _ _ _ _ T (mkF m 17 #[.val (.ref a1), .val (.ref a2), .val (.ref a3), .val (.long q4), .second] [(.ref a3)])
  refine OwH.go (T' := T) (g' := (mkF m 21 #[.val (.ref a1), .val (.ref a2), .val (.ref a3), .val (.long q4), .second] [(.int (lcmpW q4 (1 : Int64)))])) (fun t kt => ?_) ?_
  · refine XS.pop P.here hx rfl (hb hby d9_17) rfl rfl ?_
    refine XS.lloadN P.here hx rfl (hb hby d9_18) rfl ?_
    refine XS.lconst P.here hx rfl (hb hby d9_19) ?_
    refine XS.lcmp P.here hx rfl (hb hby d9_20) rfl ?_
    exact kt
  refine OwH.go (T' := T) (g' := (mkF m 38 #[.val (.ref a1), .val (.ref a2), .val (.ref a3), .val (.long q4), .second] [])) (fun t kt => ?_) ?_
  · refine XS.ifYes P.here hx rfl (pc0 := 21) (pc' := 38) rfl (hb hby d9_21) rfl ((if0 _ _).trans (flt (fun own_c => hq4 ((lw_lt _ _).mp own_c))).2.1) (by decide) (by decide) ?_
    exact kt
  refine OwH.go (T' := T) (g' := (mkF m 40 #[.val (.ref a1), .val (.ref a2), .val (.ref a3), .val (.long q4), .second] [(.ref a2), (.ref a1)])) (fun t kt => ?_) ?_
  · refine XS.aloadN P.here hx rfl (hb hby d9_38) rfl rfl ?_
    refine XS.aloadN P.here hx rfl (hb hby d9_39) rfl rfl ?_
    exact kt
  refine P.putF hx (host := "") (Or.inl (hw _ (List.mem_of_getElem? (i := 59) rfl))) Via.refl F_name_a1 E_a1 (Or.inr ⟨(hw _ (List.mem_of_getElem? (i := 60) rfl)), rfl, hnm⟩) (hw _ (List.mem_of_getElem? (i := 40) rfl)) (ty := (.object "java/lang/String")) (by decide) rfl rfl (g := (mkF m 40 #[.val (.ref a1), .val (.ref a2), .val (.ref a3), .val (.long q4), .second] [(.ref a2), (.ref a1)])) rfl rfl (hb hby d9_40) g_a1 (Or.inr ⟨by decide, by decide⟩) fun T h6 P W => ?_
  replace E_a1 := E_a1.wr W
  replace F_name_a1 := F_name_a1.same W
  replace F_node_a1 := F_node_a1.other W (Or.inr (slot_ne (Or.inr (hw _ (List.mem_of_getElem? (i := 62) rfl))) (Or.inr (hw _ (List.mem_of_getElem? (i := 60) rfl))) (by decide) (t := (.object "java/lang/String")) (t' := (.object "java/lang/String")) (by decide) (by decide)))
  replace F_token_a1 := F_token_a1.other W (Or.inr (slot_ne (Or.inr (hw _ (List.mem_of_getElem? (i := 64) rfl))) (Or.inr (hw _ (List.mem_of_getElem? (i := 60) rfl))) (by decide) (t := .long) (t' := (.object "java/lang/String")) (by decide) (by decide)))
  replace Z0 := Nat.le_trans Z0 (Keep.of_wr W).1
  replace KP := KP.wr W (Or.inl (List.mem_of_getElem? (i := 0) rfl))
  clear W
  show OwH p e below s _ _ _ _ _ _ T (mkF m 43 #[.val (.ref a1), .val (.ref a2), .val (.ref a3), .val (.long q4), .second] [])
  refine OwH.go (T' := T) (g' := (mkF m 45 #[.val (.ref a1), .val (.ref a2), .val (.ref a3), .val (.long q4), .second] [(.ref a3), (.ref a1)])) (fun t kt => ?_) ?_
  · refine XS.aloadN P.here hx rfl (hb hby d9_43) rfl rfl ?_
    refine XS.aloadN P.here hx rfl (hb hby d9_44) rfl rfl ?_
    exact kt
  refine P.putF hx (host := "") (Or.inl (hw _ (List.mem_of_getElem? (i := 61) rfl))) Via.refl F_node_a1 E_a1 (Or.inr ⟨(hw _ (List.mem_of_getElem? (i := 62) rfl)), rfl, hnm⟩) (hw _ (List.mem_of_getElem? (i := 40) rfl)) (ty := (.object "java/lang/String")) (by decide) rfl rfl (g := (mkF m 45 #[.val (.ref a1), .val (.ref a2), .val (.ref a3), .val (.long q4), .second] [(.ref a3), (.ref a1)])) rfl rfl (hb hby d9_45) g_a1 (Or.inr ⟨by decide, by decide⟩) fun T h7 P W => ?_
  replace E_a1 := E_a1.wr W
  replace F_name_a1 := F_name_a1.other W (Or.inr (slot_ne (Or.inr (hw _ (List.mem_of_getElem? (i := 60) rfl))) (Or.inr (hw _ (List.mem_of_getElem? (i := 62) rfl))) (by decide) (t := (.object "java/lang/String")) (t' := (.object "java/lang/String")) (by decide) (by decide)))
  replace F_node_a1 := F_node_a1.same W
  replace F_token_a1 := F_token_a1.other W (Or.inr (slot_ne (Or.inr (hw _ (List.mem_of_getElem? (i := 64) rfl))) (Or.inr (hw _ (List.mem_of_getElem? (i := 62) rfl))) (by decide) (t := .long) (t' := (.object "java/lang/String")) (by decide) (by decide)))
  replace Z0 := Nat.le_trans Z0 (Keep.of_wr W).1
  replace KP := KP.wr W (Or.inl (List.mem_of_getElem? (i := 0) rfl))
  clear W
  show OwH p e below s _ _ _ _ _ _ T (mkF m 48 #[.val (.ref a1), .val (.ref a2), .val (.ref a3), .val (.long q4), .second] [])
  refine OwH.go (T' := T) (g' := (mkF m 50 #[.val (.ref a1), .val (.ref a2), .val (.ref a3), .val (.long q4), .second] [(.long q4), (.ref a1)])) (fun t kt => ?_) ?_
  · refine XS.aloadN P.here hx rfl (hb hby d9_48) rfl rfl ?_
    refine XS.lloadN P.here hx rfl (hb hby d9_49) rfl ?_
    exact kt
  refine P.putF hx (host := "") (Or.inl (hw _ (List.mem_of_getElem? (i := 63) rfl))) Via.refl F_token_a1 E_a1 (Or.inr ⟨(hw _ (List.mem_of_getElem? (i := 64) rfl)), rfl, hnm⟩) (hw _ (List.mem_of_getElem? (i := 40) rfl)) (ty := .long) (by decide) rfl rfl (g := (mkF m 50 #[.val (.ref a1), .val (.ref a2), .val (.ref a3), .val (.long q4), .second] [(.long q4), (.ref a1)])) rfl rfl (hb hby d9_50) g_a1 (Or.inr ⟨by decide, by decide⟩) fun T h8 P W => ?_
  replace E_a1 := E_a1.wr W
  replace F_name_a1 := F_name_a1.other W (Or.inr (slot_ne (Or.inr (hw _ (List.mem_of_getElem? (i := 60) rfl))) (Or.inr (hw _ (List.mem_of_getElem? (i := 64) rfl))) (by decide) (t := (.object "java/lang/String")) (t' := .long) (by decide) (by decide)))
  replace F_node_a1 := F_node_a1.other W (Or.inr (slot_ne (Or.inr (hw _ (List.mem_of_getElem? (i := 62) rfl))) (Or.inr (hw _ (List.mem_of_getElem? (i := 64) rfl))) (by decide) (t := (.object "java/lang/String")) (t' := .long) (by decide) (by decide)))
  replace F_token_a1 := F_token_a1.same W
  replace Z0 := Nat.le_trans Z0 (Keep.of_wr W).1
  replace KP := KP.wr W (Or.inl (List.mem_of_getElem? (i := 0) rfl))
  clear W
  show OwH p e below s _ _ _ _ _ _ T (mkF m 53 #[.val (.ref a1), .val (.ref a2), .val (.ref a3), .val (.long q4), .second] [])
  exact P.retV hEL hx hlk hret (hb hby d9_53) (by first | decide | omega | (dsimp only; omega) | simp | (simp; omega)) (by first | decide | omega | (dsimp only; omega) | simp | (simp; omega)) ⟨rfl, KP, F_name_a1⟩
theorem d13_0 : decode prog_14_method_5_code 0 = .ok (.aload_n 0, 1) := by decide +kernel
theorem d13_1 : decode prog_14_method_5_code 1 = .ok (.getfield 26, 3) := by decide +kernel
theorem d13_4 : decode prog_14_method_5_code 4 = .ok (.areturn, 1) := by decide +kernel
set_option maxRecDepth 65536 in
set_option maxHeartbeats 40000000 in
theorem rmLn (l : Launch) (Z : State) (a0 : Array Value) (hw : ∀ d ∈ tables_1, d.before a0 Z = true) (a1 w2 : Addr) (h0 : Heap) (n0 : Nat) (Z0 : n0 ≤ h0.size) (F : Fld Z h0 a1 "com/example/gleipnir/gleipnir/Lease" "name" "Ljava/lang/String;" (.ref w2)) :
    OwM l Z (⟨"com/example/gleipnir/gleipnir/Lease", "name", "()Ljava/lang/String;"⟩ : MethodName) prog_14_method_5_code 1 (some (.object "java/lang/String")) ({ frames := 0, cells := 0, slots := 0, locals := 0 } : Room) n0 #[(.ref a1)] h0 (fun v h => v = some (.ref w2) ∧ h = h0) := by
  refine OwM.mk (plainFor_of_name pn_com_example_gleipnir_gleipnir_Lease) ?_
  intro p e s m below meth c T hx hby hml hown hnm hret hlk hZ P
  refine OwG.cast (show entryFrame m #[(.ref a1)] 1 = mkF m 0 #[.val (.ref a1)] [] from by first | rfl | (simp [entryFrame, mkF, argsToLocals, Value.category]; done)) ?_
  refine OwG.go (T' := T) (g' := (mkF m 1 #[.val (.ref a1)] [(.ref a1)])) (fun t kt => ?_) ?_
  · refine XS.aloadN P.here hx rfl (hb hby d13_0) rfl rfl ?_
    exact kt
  refine P.getF hx hZ hown (host := "") (Or.inl (hw _ (List.mem_of_getElem? (i := 59) rfl))) Via.refl F (g := (mkF m 1 #[.val (.ref a1)] [(.ref a1)])) rfl rfl (hb hby d13_1) fun T P => ?_
  show OwG p e below s _ _ _ _ T (mkF m 4 #[.val (.ref a1)] [(.ref w2)])
  exact P.retR hx hlk hret rfl rfl (hb hby d13_4) (by first | decide | omega | (dsimp only; omega) | simp | (simp; omega)) (by first | decide | omega | (dsimp only; omega) | simp | (simp; omega)) ⟨rfl, rfl⟩
theorem d14_0 : decode prog_1_method_1_code 0 = .ok (.aload_n 0, 1) := by decide +kernel
theorem d14_1 : decode prog_1_method_1_code 1 = .ok (.invokespecial 1, 3) := by decide +kernel
theorem d14_4 : decode prog_1_method_1_code 4 = .ok (.aload_n 0, 1) := by decide +kernel
theorem d14_5 : decode prog_1_method_1_code 5 = .ok (.aload_n 1, 1) := by decide +kernel
theorem d14_6 : decode prog_1_method_1_code 6 = .ok (.putfield 7, 3) := by decide +kernel
theorem d14_9 : decode prog_1_method_1_code 9 = .ok (.aload_n 0, 1) := by decide +kernel
theorem d14_10 : decode prog_1_method_1_code 10 = .ok (.aload_n 2, 1) := by decide +kernel
theorem d14_11 : decode prog_1_method_1_code 11 = .ok (.putfield 13, 3) := by decide +kernel
theorem d14_14 : decode prog_1_method_1_code 14 = .ok (.aload_n 0, 1) := by decide +kernel
theorem d14_15 : decode prog_1_method_1_code 15 = .ok (.aload_n 3, 1) := by decide +kernel
theorem d14_16 : decode prog_1_method_1_code 16 = .ok (.putfield 17, 3) := by decide +kernel
theorem d14_19 : decode prog_1_method_1_code 19 = .ok (.aload_n 0, 1) := by decide +kernel
theorem d14_20 : decode prog_1_method_1_code 20 = .ok (.aload 4, 2) := by decide +kernel
theorem d14_22 : decode prog_1_method_1_code 22 = .ok (.putfield 20, 3) := by decide +kernel
theorem d14_25 : decode prog_1_method_1_code 25 = .ok (.return_, 1) := by decide +kernel
theorem pn_com_example_gleipnir_gleipnir_Acquisition : plainName "com/example/gleipnir/gleipnir/Acquisition" = true := by first | (simp [plainName, overriddenIn]; done) | decide +kernel
set_option maxRecDepth 65536 in
set_option maxHeartbeats 40000000 in
theorem rmAc (l : Launch) (Z : State) (a0 : Array Value) (hw : ∀ d ∈ tables_1, d.before a0 Z = true) (a1 a2 a3 a4 : Addr) (h0 : Heap) (n0 : Nat) (Z0 : n0 ≤ h0.size) (g_a1 : n0 ≤ a1) (E_a1 : Exa Z h0 a1 "com/example/gleipnir/gleipnir/Acquisition") (F_name_a1 : Fld Z h0 a1 "com/example/gleipnir/gleipnir/Acquisition" "name" "Ljava/lang/String;" .null) (F_lease_a1 : Fld Z h0 a1 "com/example/gleipnir/gleipnir/Acquisition" "lease" "Lcom/example/gleipnir/gleipnir/Lease;" .null) (F_holding_a1 : Fld Z h0 a1 "com/example/gleipnir/gleipnir/Acquisition" "holding" "Lcom/example/gleipnir/gleipnir/Lease;" .null) (F_heldFor_a1 : Fld Z h0 a1 "com/example/gleipnir/gleipnir/Acquisition" "heldFor" "Ljava/time/Duration;" .null) :
    OwM l Z (⟨"com/example/gleipnir/gleipnir/Acquisition", "<init>", "(Ljava/lang/String;Lcom/example/gleipnir/gleipnir/Lease;Lcom/example/gleipnir/gleipnir/Lease;Ljava/time/Duration;)V"⟩ : MethodName) prog_1_method_1_code 5 none ({ frames := 1, cells := 0, slots := 0, locals := 12 } : Room) n0 #[(.ref a1), (.ref a2), (.ref a3), (.ref a4), .null] h0 (fun v h => v = none ∧ Keep h0 h [a1] ∧ Fld Z h a1 "com/example/gleipnir/gleipnir/Acquisition" "name" "Ljava/lang/String;" (.ref a2) ∧ Fld Z h a1 "com/example/gleipnir/gleipnir/Acquisition" "lease" "Lcom/example/gleipnir/gleipnir/Lease;" (.ref a3)) := by
  refine OwM.mk (plainFor_of_name pn_com_example_gleipnir_gleipnir_Acquisition) ?_
  intro p e s m below meth c T hx hby hml hown hnm hret hlk hZ P
  refine OwG.cast (show entryFrame m #[(.ref a1), (.ref a2), (.ref a3), (.ref a4), .null] 5 = mkF m 0 #[.val (.ref a1), .val (.ref a2), .val (.ref a3), .val (.ref a4), .val .null] [] from by first | rfl | (simp [entryFrame, mkF, argsToLocals, Value.category]; done)) ?_
  have KP := Keep.refl h0 [a1]
  refine OwG.go (T' := T) (g' := (mkF m 1 #[.val (.ref a1), .val (.ref a2), .val (.ref a3), .val (.ref a4), .val .null] [(.ref a1)])) (fun t kt => ?_) ?_
  · refine XS.aloadN P.here hx rfl (hb hby d14_0) rfl rfl ?_
    exact kt
  refine P.initO hx hZ hown (hw _ (List.mem_of_getElem? (i := 81) rfl)) (hw _ (List.mem_of_getElem? (i := 16) rfl)) (hw _ (List.mem_of_getElem? (i := 17) rfl)) (g := (mkF m 1 #[.val (.ref a1), .val (.ref a2), .val (.ref a3), .val (.ref a4), .val .null] [(.ref a1)])) rfl (by rw [hml]; rfl) rfl (hb hby d14_1) (by decide) (W := 0) (by show 2 * 0 + _ ≤ _; exact Nat.le_of_eq rfl) (by decide) fun T P => ?_
  show OwG p e below s _ _ _ _ T (mkF m 4 #[.val (.ref a1), .val (.ref a2), .val (.ref a3), .val (.ref a4), .val .null] [])
  refine OwG.go (T' := T) (g' := (mkF m 6 #[.val (.ref a1), .val (.ref a2), .val (.ref a3), .val (.ref a4), .val .null] [(.ref a2), (.ref a1)])) (fun t kt => ?_) ?_
  · refine XS.aloadN P.here hx rfl (hb hby d14_4) rfl rfl ?_
    refine XS.aloadN P.here hx rfl (hb hby d14_5) rfl rfl ?_
    exact kt
  refine P.putF hx hZ hown (host := "") (Or.inl (hw _ (List.mem_of_getElem? (i := 82) rfl))) Via.refl F_name_a1 E_a1 (Or.inr ⟨(hw _ (List.mem_of_getElem? (i := 83) rfl)), rfl, hnm⟩) (hw _ (List.mem_of_getElem? (i := 72) rfl)) (ty := (.object "java/lang/String")) (by decide) rfl rfl (g := (mkF m 6 #[.val (.ref a1), .val (.ref a2), .val (.ref a3), .val (.ref a4), .val .null] [(.ref a2), (.ref a1)])) rfl rfl (hb hby d14_6) g_a1 fun T h1 P W => ?_
  replace E_a1 := E_a1.wr W
  replace F_name_a1 := F_name_a1.same W
  replace F_lease_a1 := F_lease_a1.other W (Or.inr (slot_ne (Or.inr (hw _ (List.mem_of_getElem? (i := 85) rfl))) (Or.inr (hw _ (List.mem_of_getElem? (i := 83) rfl))) (by decide) (t := (.object "com/example/gleipnir/gleipnir/Lease")) (t' := (.object "java/lang/String")) (by decide) (by decide)))
  replace F_holding_a1 := F_holding_a1.other W (Or.inr (slot_ne (Or.inr (hw _ (List.mem_of_getElem? (i := 87) rfl))) (Or.inr (hw _ (List.mem_of_getElem? (i := 83) rfl))) (by decide) (t := (.object "com/example/gleipnir/gleipnir/Lease")) (t' := (.object "java/lang/String")) (by decide) (by decide)))
  replace F_heldFor_a1 := F_heldFor_a1.other W (Or.inr (slot_ne (Or.inr (hw _ (List.mem_of_getElem? (i := 89) rfl))) (Or.inr (hw _ (List.mem_of_getElem? (i := 83) rfl))) (by decide) (t := (.object "java/time/Duration")) (t' := (.object "java/lang/String")) (by decide) (by decide)))
  replace Z0 := Nat.le_trans Z0 (Keep.of_wr W).1
  replace KP := KP.wr W (Or.inl (List.mem_of_getElem? (i := 0) rfl))
  clear W
  show OwG p e below s _ _ _ _ T (mkF m 9 #[.val (.ref a1), .val (.ref a2), .val (.ref a3), .val (.ref a4), .val .null] [])
  refine OwG.go (T' := T) (g' := (mkF m 11 #[.val (.ref a1), .val (.ref a2), .val (.ref a3), .val (.ref a4), .val .null] [(.ref a3), (.ref a1)])) (fun t kt => ?_) ?_
  · refine XS.aloadN P.here hx rfl (hb hby d14_9) rfl rfl ?_
    refine XS.aloadN P.here hx rfl (hb hby d14_10) rfl rfl ?_
    exact kt
  refine P.putF hx hZ hown (host := "") (Or.inl (hw _ (List.mem_of_getElem? (i := 84) rfl))) Via.refl F_lease_a1 E_a1 (Or.inr ⟨(hw _ (List.mem_of_getElem? (i := 85) rfl)), rfl, hnm⟩) (hw _ (List.mem_of_getElem? (i := 72) rfl)) (ty := (.object "com/example/gleipnir/gleipnir/Lease")) (by decide) rfl rfl (g := (mkF m 11 #[.val (.ref a1), .val (.ref a2), .val (.ref a3), .val (.ref a4), .val .null] [(.ref a3), (.ref a1)])) rfl rfl (hb hby d14_11) g_a1 fun T h2 P W => ?_
  replace E_a1 := E_a1.wr W
  replace F_name_a1 := F_name_a1.other W (Or.inr (slot_ne (Or.inr (hw _ (List.mem_of_getElem? (i := 83) rfl))) (Or.inr (hw _ (List.mem_of_getElem? (i := 85) rfl))) (by decide) (t := (.object "java/lang/String")) (t' := (.object "com/example/gleipnir/gleipnir/Lease")) (by decide) (by decide)))
  replace F_lease_a1 := F_lease_a1.same W
  replace F_holding_a1 := F_holding_a1.other W (Or.inr (slot_ne (Or.inr (hw _ (List.mem_of_getElem? (i := 87) rfl))) (Or.inr (hw _ (List.mem_of_getElem? (i := 85) rfl))) (by decide) (t := (.object "com/example/gleipnir/gleipnir/Lease")) (t' := (.object "com/example/gleipnir/gleipnir/Lease")) (by decide) (by decide)))
  replace F_heldFor_a1 := F_heldFor_a1.other W (Or.inr (slot_ne (Or.inr (hw _ (List.mem_of_getElem? (i := 89) rfl))) (Or.inr (hw _ (List.mem_of_getElem? (i := 85) rfl))) (by decide) (t := (.object "java/time/Duration")) (t' := (.object "com/example/gleipnir/gleipnir/Lease")) (by decide) (by decide)))
  replace Z0 := Nat.le_trans Z0 (Keep.of_wr W).1
  replace KP := KP.wr W (Or.inl (List.mem_of_getElem? (i := 0) rfl))
  clear W
  show OwG p e below s _ _ _ _ T (mkF m 14 #[.val (.ref a1), .val (.ref a2), .val (.ref a3), .val (.ref a4), .val .null] [])
  refine OwG.go (T' := T) (g' := (mkF m 16 #[.val (.ref a1), .val (.ref a2), .val (.ref a3), .val (.ref a4), .val .null] [(.ref a4), (.ref a1)])) (fun t kt => ?_) ?_
  · refine XS.aloadN P.here hx rfl (hb hby d14_14) rfl rfl ?_
    refine XS.aloadN P.here hx rfl (hb hby d14_15) rfl rfl ?_
    exact kt
  refine P.putF hx hZ hown (host := "") (Or.inl (hw _ (List.mem_of_getElem? (i := 86) rfl))) Via.refl F_holding_a1 E_a1 (Or.inr ⟨(hw _ (List.mem_of_getElem? (i := 87) rfl)), rfl, hnm⟩) (hw _ (List.mem_of_getElem? (i := 72) rfl)) (ty := (.object "com/example/gleipnir/gleipnir/Lease")) (by decide) rfl rfl (g := (mkF m 16 #[.val (.ref a1), .val (.ref a2), .val (.ref a3), .val (.ref a4), .val .null] [(.ref a4), (.ref a1)])) rfl rfl (hb hby d14_16) g_a1 fun T h3 P W => ?_
  replace E_a1 := E_a1.wr W
  replace F_name_a1 := F_name_a1.other W (Or.inr (slot_ne (Or.inr (hw _ (List.mem_of_getElem? (i := 83) rfl))) (Or.inr (hw _ (List.mem_of_getElem? (i := 87) rfl))) (by decide) (t := (.object "java/lang/String")) (t' := (.object "com/example/gleipnir/gleipnir/Lease")) (by decide) (by decide)))
  replace F_lease_a1 := F_lease_a1.other W (Or.inr (slot_ne (Or.inr (hw _ (List.mem_of_getElem? (i := 85) rfl))) (Or.inr (hw _ (List.mem_of_getElem? (i := 87) rfl))) (by decide) (t := (.object "com/example/gleipnir/gleipnir/Lease")) (t' := (.object "com/example/gleipnir/gleipnir/Lease")) (by decide) (by decide)))
  replace F_holding_a1 := F_holding_a1.same W
  replace F_heldFor_a1 := F_heldFor_a1.other W (Or.inr (slot_ne (Or.inr (hw _ (List.mem_of_getElem? (i := 89) rfl))) (Or.inr (hw _ (List.mem_of_getElem? (i := 87) rfl))) (by decide) (t := (.object "java/time/Duration")) (t' := (.object "com/example/gleipnir/gleipnir/Lease")) (by decide) (by decide)))
  replace Z0 := Nat.le_trans Z0 (Keep.of_wr W).1
  replace KP := KP.wr W (Or.inl (List.mem_of_getElem? (i := 0) rfl))
  clear W
  show OwG p e below s _ _ _ _ T (mkF m 19 #[.val (.ref a1), .val (.ref a2), .val (.ref a3), .val (.ref a4), .val .null] [])
  refine OwG.go (T' := T) (g' := (mkF m 22 #[.val (.ref a1), .val (.ref a2), .val (.ref a3), .val (.ref a4), .val .null] [.null, (.ref a1)])) (fun t kt => ?_) ?_
  · refine XS.aloadN P.here hx rfl (hb hby d14_19) rfl rfl ?_
    refine XS.aload P.here hx rfl (hb hby d14_20) rfl rfl ?_
    exact kt
  refine P.putF hx hZ hown (host := "") (Or.inl (hw _ (List.mem_of_getElem? (i := 88) rfl))) Via.refl F_heldFor_a1 E_a1 (Or.inr ⟨(hw _ (List.mem_of_getElem? (i := 89) rfl)), rfl, hnm⟩) (hw _ (List.mem_of_getElem? (i := 72) rfl)) (ty := (.object "java/time/Duration")) (by decide) rfl rfl (g := (mkF m 22 #[.val (.ref a1), .val (.ref a2), .val (.ref a3), .val (.ref a4), .val .null] [.null, (.ref a1)])) rfl rfl (hb hby d14_22) g_a1 fun T h4 P W => ?_
  replace E_a1 := E_a1.wr W
  replace F_name_a1 := F_name_a1.other W (Or.inr (slot_ne (Or.inr (hw _ (List.mem_of_getElem? (i := 83) rfl))) (Or.inr (hw _ (List.mem_of_getElem? (i := 89) rfl))) (by decide) (t := (.object "java/lang/String")) (t' := (.object "java/time/Duration")) (by decide) (by decide)))
  replace F_lease_a1 := F_lease_a1.other W (Or.inr (slot_ne (Or.inr (hw _ (List.mem_of_getElem? (i := 85) rfl))) (Or.inr (hw _ (List.mem_of_getElem? (i := 89) rfl))) (by decide) (t := (.object "com/example/gleipnir/gleipnir/Lease")) (t' := (.object "java/time/Duration")) (by decide) (by decide)))
  replace F_holding_a1 := F_holding_a1.other W (Or.inr (slot_ne (Or.inr (hw _ (List.mem_of_getElem? (i := 87) rfl))) (Or.inr (hw _ (List.mem_of_getElem? (i := 89) rfl))) (by decide) (t := (.object "com/example/gleipnir/gleipnir/Lease")) (t' := (.object "java/time/Duration")) (by decide) (by decide)))
  replace F_heldFor_a1 := F_heldFor_a1.same W
  replace Z0 := Nat.le_trans Z0 (Keep.of_wr W).1
  replace KP := KP.wr W (Or.inl (List.mem_of_getElem? (i := 0) rfl))
  clear W
  show OwG p e below s _ _ _ _ T (mkF m 25 #[.val (.ref a1), .val (.ref a2), .val (.ref a3), .val (.ref a4), .val .null] [])
  exact P.retV hx hlk hret (hb hby d14_25) (by first | decide | omega | (dsimp only; omega) | simp | (simp; omega)) (by first | decide | omega | (dsimp only; omega) | simp | (simp; omega)) ⟨rfl, KP, F_name_a1, F_lease_a1⟩
theorem d12_0 : decode prog_1_method_2_code 0 = .ok (.aload_n 0, 1) := by decide +kernel
theorem d12_1 : decode prog_1_method_2_code 1 = .ok (.ldc 24, 2) := by decide +kernel
theorem d12_3 : decode prog_1_method_2_code 3 = .ok (.invokestatic 25, 3) := by decide +kernel
theorem d12_6 : decode prog_1_method_2_code 6 = .ok (.pop, 1) := by decide +kernel
theorem d12_7 : decode prog_1_method_2_code 7 = .ok (.new 8, 3) := by decide +kernel
theorem d12_10 : decode prog_1_method_2_code 10 = .ok (.dup, 1) := by decide +kernel
theorem d12_11 : decode prog_1_method_2_code 11 = .ok (.aload_n 0, 1) := by decide +kernel
theorem d12_12 : decode prog_1_method_2_code 12 = .ok (.invokevirtual 31, 3) := by decide +kernel
theorem pd___Ljava_lang_String_ : parseMethodDescriptor "()Ljava/lang/String;" = some ⟨[], some (.object "java/lang/String")⟩ := by decide +kernel
theorem d12_15 : decode prog_1_method_2_code 15 = .ok (.aload_n 0, 1) := by decide +kernel
theorem d12_16 : decode prog_1_method_2_code 16 = .ok (.aload_n 0, 1) := by decide +kernel
theorem d12_17 : decode prog_1_method_2_code 17 = .ok (.aconst_null, 1) := by decide +kernel
theorem d12_18 : decode prog_1_method_2_code 18 = .ok (.invokespecial 36, 3) := by decide +kernel
theorem pd__Ljava_lang_String_Lcom_example_gleipnir_gleipnir_Lease_Lcom_example_gleipnir_gleipnir_Lease_Ljava_time_Duration__V : parseMethodDescriptor "(Ljava/lang/String;Lcom/example/gleipnir/gleipnir/Lease;Lcom/example/gleipnir/gleipnir/Lease;Ljava/time/Duration;)V" = some ⟨[(.object "java/lang/String"), (.object "com/example/gleipnir/gleipnir/Lease"), (.object "com/example/gleipnir/gleipnir/Lease"), (.object "java/time/Duration")], none⟩ := by decide +kernel
theorem d12_21 : decode prog_1_method_2_code 21 = .ok (.areturn, 1) := by decide +kernel
set_option maxRecDepth 65536 in
set_option maxHeartbeats 40000000 in
theorem rmGr (l : Launch) (Z : State) (a0 : Array Value) (hw : ∀ d ∈ tables_1, d.before a0 Z = true) (a1 w2 : Addr) (h0 : Heap) (n0 : Nat) (Z0 : n0 ≤ h0.size) (E_a1 : Exa Z h0 a1 "com/example/gleipnir/gleipnir/Lease") (F_a1 : Fld Z h0 a1 "com/example/gleipnir/gleipnir/Lease" "name" "Ljava/lang/String;" (.ref w2)) :
    OwS l Z own_EL [] (⟨"com/example/gleipnir/gleipnir/Acquisition", "granted", "(Lcom/example/gleipnir/gleipnir/Lease;)Lcom/example/gleipnir/gleipnir/Acquisition;"⟩ : MethodName) prog_1_method_2_code 1 (some (.object "com/example/gleipnir/gleipnir/Acquisition")) ({ frames := 2, cells := 3, slots := 28, locals := 33 } : Room) n0 #[(.ref a1)] h0 (fun v h => ∃ b : Addr, v = some (.ref b) ∧ Keep h0 h [] ∧ Exa Z h b "com/example/gleipnir/gleipnir/Acquisition" ∧ Fld Z h b "com/example/gleipnir/gleipnir/Acquisition" "name" "Ljava/lang/String;" (.ref w2) ∧ Fld Z h b "com/example/gleipnir/gleipnir/Acquisition" "lease" "Lcom/example/gleipnir/gleipnir/Lease;" (.ref a1)) := by
  have hEL := own_EW hw
  refine OwS.mk (plainFor_of_name pn_com_example_gleipnir_gleipnir_Acquisition) ?_
  intro p e s m below meth c T hx hby hml hnm hret hlk P
  refine OwH.cast (show entryFrame m #[(.ref a1)] 1 = mkF m 0 #[.val (.ref a1)] [] from by first | rfl | (simp [entryFrame, mkF, argsToLocals, Value.category]; done)) ?_
  have KP := Keep.refl h0 []
  refine OwH.go (T' := T) (g' := (mkF m 1 #[.val (.ref a1)] [(.ref a1)])) (fun t kt => ?_) ?_
  · refine XS.aloadN P.here hx rfl (hb hby d12_0) rfl rfl ?_
    exact kt
  refine P.ldcO hx hEL (hw _ (List.mem_of_getElem? (i := 69) rfl)) (own_wS hw) (g := (mkF m 1 #[.val (.ref a1)] [(.ref a1)])) rfl (hb hby d12_1) (nn := 20) (by decide) (by decide) (by first | decide | omega | (dsimp only; omega) | simp | (simp; omega)) (by first | decide | omega | (dsimp only; omega) | simp | (simp; omega)) fun T h1 m1 P E => ?_
  replace E_a1 := E_a1.ext E
  replace F_a1 := F_a1.ext E
  replace Z0 := Nat.le_trans Z0 E.1
  replace KP := KP.ext E
  clear E
  show OwH p e below s _ _ _ _ _ _ T (mkF m 3 #[.val (.ref a1)] [(.ref m1), (.ref a1)])
  refine P.stat hx (y := (⟨"java/util/Objects", "requireNonNull", "(Ljava/lang/Object;Ljava/lang/String;)Ljava/lang/Object;"⟩ : MethodName)) (hw _ (List.mem_of_getElem? (i := 70) rfl)) (hw _ (List.mem_of_getElem? (i := 55) rfl)) (hw _ (List.mem_of_getElem? (i := 56) rfl)) (hw _ (List.mem_of_getElem? (i := 57) rfl)) (by decide) (fun vm0 hZ => OwM.back (s := s.setVm vm0) (W := 0) (rmRnn l Z a0 hw a1 m1 h1 n0 Z0) hZ (hw _ (List.mem_of_getElem? (i := 57) rfl)) (hw _ (List.mem_of_getElem? (i := 56) rfl)) (by decide) (by decide)) (fun _ _ _ q => q.2) (ws := []) (fun _ _ _ q => by rw [q.1.2]; exact Keep.refl _ _) all0 (g := (mkF m 3 #[.val (.ref a1)] [(.ref m1), (.ref a1)])) rfl (by rw [hml]; rfl) (argsL := [(.ref a1), (.ref m1)]) (rest := []) (lenOf pd__Ljava_lang_Object_Ljava_lang_String__Ljava_lang_Object_ rfl) rfl (by show 2 * 0 + _ ≤ _; exact Nat.le_of_eq rfl) (hb hby d12_3) rfl (by first | decide | omega | (dsimp only; omega) | simp | (simp; omega)) (by first | decide | omega | (dsimp only; omega) | simp | (simp; omega)) fun T own_v own_L h2 own_e P own_q => ?_
  obtain ⟨⟨rfl, own_hh⟩, -⟩ := own_q
  rw [own_hh] at P
  clear own_e own_hh
  show OwH p e below s _ _ _ _ _ _ T (mkF m 6 #[.val (.ref a1)] [(.ref a1)])
  refine OwH.go (T' := T) (g' := (mkF m 7 #[.val (.ref a1)] [])) (fun t kt => ?_) ?_
  · refine XS.pop P.here hx rfl (hb hby d12_6) rfl rfl ?_
    exact kt
  refine P.newO hx (hw _ (List.mem_of_getElem? (i := 71) rfl)) (hw _ (List.mem_of_getElem? (i := 72) rfl)) (hw _ (List.mem_of_getElem? (i := 67) rfl)) (g := (mkF m 7 #[.val (.ref a1)] [])) rfl (hb hby d12_7) (by first | decide | omega | (dsimp only; omega) | simp | (simp; omega)) (by first | decide | omega | (dsimp only; omega) | simp | (simp; omega)) fun T h3 b3 gb3 P E A D => ?_
  have ne_a1_b3 : a1 ≠ b3 := Nat.ne_of_lt (Nat.lt_of_lt_of_le E_a1.lt (Nat.le_of_eq gb3.symm))
  have ne_b3_a1 := Ne.symm ne_a1_b3
  have g_b3 : n0 ≤ b3 := Nat.le_trans Z0 (Nat.le_of_eq gb3.symm)
  have sz_b3 : h0.size ≤ b3 := Nat.le_trans KP.1 (Nat.le_of_eq gb3.symm)
  replace E_a1 := E_a1.ext E
  replace F_a1 := F_a1.ext E
  replace Z0 := Nat.le_trans Z0 E.1
  replace KP := KP.ext E
  have E_b3 := A
  have F_name_b3 : Fld Z h3 b3 "com/example/gleipnir/gleipnir/Acquisition" "name" "Ljava/lang/String;" .null := D (Or.inr (hw _ (List.mem_of_getElem? (i := 83) rfl))) (ty := (.object "java/lang/String")) (by decide)
  have F_lease_b3 : Fld Z h3 b3 "com/example/gleipnir/gleipnir/Acquisition" "lease" "Lcom/example/gleipnir/gleipnir/Lease;" .null := D (Or.inr (hw _ (List.mem_of_getElem? (i := 85) rfl))) (ty := (.object "com/example/gleipnir/gleipnir/Lease")) (by decide)
  have F_holding_b3 : Fld Z h3 b3 "com/example/gleipnir/gleipnir/Acquisition" "holding" "Lcom/example/gleipnir/gleipnir/Lease;" .null := D (Or.inr (hw _ (List.mem_of_getElem? (i := 87) rfl))) (ty := (.object "com/example/gleipnir/gleipnir/Lease")) (by decide)
  have F_heldFor_b3 : Fld Z h3 b3 "com/example/gleipnir/gleipnir/Acquisition" "heldFor" "Ljava/time/Duration;" .null := D (Or.inr (hw _ (List.mem_of_getElem? (i := 89) rfl))) (ty := (.object "java/time/Duration")) (by decide)
  clear A D E
  show OwH p e below s _ _ _ _ _ _ T (mkF m 10 #[.val (.ref a1)] [(.ref b3)])
  refine OwH.go (T' := T) (g' := (mkF m 12 #[.val (.ref a1)] [(.ref a1), (.ref b3), (.ref b3)])) (fun t kt => ?_) ?_
  · refine XS.dup P.here hx rfl (hb hby d12_10) rfl rfl ?_
    refine XS.aloadN P.here hx rfl (hb hby d12_11) rfl rfl ?_
    exact kt
  refine P.virtual hx (y := (⟨"com/example/gleipnir/gleipnir/Lease", "name", "()Ljava/lang/String;"⟩ : MethodName)) (z := (⟨"com/example/gleipnir/gleipnir/Lease", "name", "()Ljava/lang/String;"⟩ : MethodName)) (hw _ (List.mem_of_getElem? (i := 73) rfl)) (hw _ (List.mem_of_getElem? (i := 74) rfl)) (fun vm0 hZ => notFace_of_selects (args := #[]) (mvT (s := s.setVm vm0) hZ (hw _ (List.mem_of_getElem? (i := 76) rfl)))) (hw _ (List.mem_of_getElem? (i := 76) rfl)) (hw _ (List.mem_of_getElem? (i := 75) rfl)) (by decide) (fun vm0 hZ => OwM.back (s := s.setVm vm0) (W := 2) (rmLn l Z a0 hw a1 w2 h3 n0 Z0 F_a1) hZ (hw _ (List.mem_of_getElem? (i := 77) rfl)) (hw _ (List.mem_of_getElem? (i := 41) rfl)) (by decide) (by decide)) (fun _ _ _ q => q.2) (ws := []) (fun _ _ _ q => by rw [q.1.2]; exact Keep.refl _ _) all0 E_a1 (g := (mkF m 12 #[.val (.ref a1)] [(.ref a1), (.ref b3), (.ref b3)])) rfl (by rw [hml]; rfl) (argsL := []) (rest := [(.ref b3), (.ref b3)]) (lenOf pd___Ljava_lang_String_ rfl) rfl (by show 2 * 0 + _ ≤ _; exact Nat.le_of_eq rfl) (hb hby d12_12) rfl (by first | decide | omega | (dsimp only; omega) | simp | (simp; omega)) (by first | decide | omega | (dsimp only; omega) | simp | (simp; omega)) fun T own_v own_L h4 own_e P own_q => ?_
  obtain ⟨⟨rfl, own_hh⟩, -⟩ := own_q
  rw [own_hh] at P
  clear own_e own_hh
  show OwH p e below s _ _ _ _ _ _ T (mkF m 15 #[.val (.ref a1)] [(.ref w2), (.ref b3), (.ref b3)])
  refine OwH.go (T' := T) (g' := (mkF m 18 #[.val (.ref a1)] [.null, (.ref a1), (.ref a1), (.ref w2), (.ref b3), (.ref b3)])) (fun t kt => ?_) ?_
  · refine XS.aloadN P.here hx rfl (hb hby d12_15) rfl rfl ?_
    refine XS.aloadN P.here hx rfl (hb hby d12_16) rfl rfl ?_
    refine XS.aconstNull P.here hx rfl (hb hby d12_17) ?_
    exact kt
  refine P.special hx (y := (⟨"com/example/gleipnir/gleipnir/Acquisition", "<init>", "(Ljava/lang/String;Lcom/example/gleipnir/gleipnir/Lease;Lcom/example/gleipnir/gleipnir/Lease;Ljava/time/Duration;)V"⟩ : MethodName)) rfl (hw _ (List.mem_of_getElem? (i := 78) rfl)) (hw _ (List.mem_of_getElem? (i := 79) rfl)) (hw _ (List.mem_of_getElem? (i := 80) rfl)) (by decide) (fun vm0 hZ => OwM.back (s := s.setVm vm0) (W := 1) (rmAc l Z a0 hw b3 w2 a1 a1 h3 n0 Z0 g_b3 E_b3 F_name_b3 F_lease_b3 F_holding_b3 F_heldFor_b3) hZ (hw _ (List.mem_of_getElem? (i := 80) rfl)) (hw _ (List.mem_of_getElem? (i := 67) rfl)) (by decide) (by decide)) (fun _ _ _ q => q.2) (ws := [b3]) (fun _ _ _ q => q.1.2.1) (allS (Or.inl (by simp)) all0) (g := (mkF m 18 #[.val (.ref a1)] [.null, (.ref a1), (.ref a1), (.ref w2), (.ref b3), (.ref b3)])) rfl (by rw [hml]; rfl) (a := b3) (argsL := [(.ref w2), (.ref a1), (.ref a1), .null]) (rest := [(.ref b3)]) (lenOf pd__Ljava_lang_String_Lcom_example_gleipnir_gleipnir_Lease_Lcom_example_gleipnir_gleipnir_Lease_Ljava_time_Duration__V rfl) rfl (by show 2 * 0 + _ ≤ _; exact Nat.le_of_eq rfl) (hb hby d12_18) rfl (by first | decide | omega | (dsimp only; omega) | simp | (simp; omega)) (by first | decide | omega | (dsimp only; omega) | simp | (simp; omega)) fun T own_v own_L h5 own_e P own_q => ?_
  obtain ⟨⟨rfl, K, F1, F2⟩, -⟩ := own_q
  clear own_e
  replace E_a1 := E_a1.keep K
  replace F_a1 := F_a1.keep K (ninS ne_a1_b3 nin0)
  replace E_b3 := E_b3.keep K
  replace Z0 := Nat.le_trans Z0 K.1
  replace KP := KP.trans K (allS (Or.inr sz_b3) all0)
  show OwH p e below s _ _ _ _ _ _ T (mkF m 21 #[.val (.ref a1)] [(.ref b3)])
  exact P.retR hEL hx hlk hret rfl rfl (hb hby d12_21) (by first | decide | omega | (dsimp only; omega) | simp | (simp; omega)) (by first | decide | omega | (dsimp only; omega) | simp | (simp; omega)) ⟨b3, rfl, KP, E_b3, F1, F2⟩
theorem d15_0 : decode prog_1_method_5_code 0 = .ok (.aload_n 0, 1) := by decide +kernel
theorem d15_1 : decode prog_1_method_5_code 1 = .ok (.getfield 13, 3) := by decide +kernel
theorem d15_4 : decode prog_1_method_5_code 4 = .ok (.ifnull 7, 3) := by decide +kernel
theorem d15_7 : decode prog_1_method_5_code 7 = .ok (.iconst 1, 1) := by decide +kernel
theorem d15_8 : decode prog_1_method_5_code 8 = .ok (.goto 4, 3) := by decide +kernel
theorem d15_12 : decode prog_1_method_5_code 12 = .ok (.ireturn, 1) := by decide +kernel
set_option maxRecDepth 65536 in
set_option maxHeartbeats 40000000 in
theorem rmIg (l : Launch) (Z : State) (a0 : Array Value) (hw : ∀ d ∈ tables_1, d.before a0 Z = true) (a1 w2 : Addr) (h0 : Heap) (n0 : Nat) (Z0 : n0 ≤ h0.size) (F : Fld Z h0 a1 "com/example/gleipnir/gleipnir/Acquisition" "lease" "Lcom/example/gleipnir/gleipnir/Lease;" (.ref w2)) :
    OwM l Z (⟨"com/example/gleipnir/gleipnir/Acquisition", "isGranted", "()Z"⟩ : MethodName) prog_1_method_5_code 1 (some .boolean) ({ frames := 0, cells := 0, slots := 0, locals := 0 } : Room) n0 #[(.ref a1)] h0 (fun v h => v = some (.int (1 : Int32)) ∧ h = h0) := by
  refine OwM.mk (plainFor_of_name pn_com_example_gleipnir_gleipnir_Acquisition) ?_
  intro p e s m below meth c T hx hby hml hown hnm hret hlk hZ P
  refine OwG.cast (show entryFrame m #[(.ref a1)] 1 = mkF m 0 #[.val (.ref a1)] [] from by first | rfl | (simp [entryFrame, mkF, argsToLocals, Value.category]; done)) ?_
  refine OwG.go (T' := T) (g' := (mkF m 1 #[.val (.ref a1)] [(.ref a1)])) (fun t kt => ?_) ?_
  · refine XS.aloadN P.here hx rfl (hb hby d15_0) rfl rfl ?_
    exact kt
  refine P.getF hx hZ hown (host := "") (Or.inl (hw _ (List.mem_of_getElem? (i := 84) rfl))) Via.refl F (g := (mkF m 1 #[.val (.ref a1)] [(.ref a1)])) rfl rfl (hb hby d15_1) fun T P => ?_
  show OwG p e below s _ _ _ _ T (mkF m 4 #[.val (.ref a1)] [(.ref w2)])
  refine OwG.go (T' := T) (g' := (mkF m 7 #[.val (.ref a1)] [])) (fun t kt => ?_) ?_
  · refine XS.ifnullNo P.here hx rfl (hb hby d15_4) rfl ?_
    exact kt
  refine OwG.go (T' := T) (g' := (mkF m 12 #[.val (.ref a1)] [(.int (1 : Int32))])) (fun t kt => ?_) ?_
  · refine XS.iconst P.here hx rfl (hb hby d15_7) ?_
    refine XS.goto P.here hx rfl (pc0 := 8) (pc' := 12) rfl (hb hby d15_8) (by decide) (by decide) ?_
    exact kt
  exact P.retN hx hlk (t := .boolean) hret (by simp) (hb hby d15_12) (by first | decide | omega | (dsimp only; omega) | simp | (simp; omega)) (by first | decide | omega | (dsimp only; omega) | simp | (simp; omega)) ⟨rfl, rfl⟩
theorem d16_0 : decode prog_1_method_6_code 0 = .ok (.aload_n 0, 1) := by decide +kernel
theorem d16_1 : decode prog_1_method_6_code 1 = .ok (.getfield 13, 3) := by decide +kernel
theorem d16_4 : decode prog_1_method_6_code 4 = .ok (.ifnonnull 23, 3) := by decide +kernel
theorem d16_27 : decode prog_1_method_6_code 27 = .ok (.aload_n 0, 1) := by decide +kernel
theorem d16_28 : decode prog_1_method_6_code 28 = .ok (.getfield 13, 3) := by decide +kernel
theorem d16_31 : decode prog_1_method_6_code 31 = .ok (.areturn, 1) := by decide +kernel
set_option maxRecDepth 65536 in
set_option maxHeartbeats 40000000 in
theorem rmAl (l : Launch) (Z : State) (a0 : Array Value) (hw : ∀ d ∈ tables_1, d.before a0 Z = true) (a1 w2 : Addr) (h0 : Heap) (n0 : Nat) (Z0 : n0 ≤ h0.size) (F : Fld Z h0 a1 "com/example/gleipnir/gleipnir/Acquisition" "lease" "Lcom/example/gleipnir/gleipnir/Lease;" (.ref w2)) :
    OwM l Z (⟨"com/example/gleipnir/gleipnir/Acquisition", "lease", "()Lcom/example/gleipnir/gleipnir/Lease;"⟩ : MethodName) prog_1_method_6_code 1 (some (.object "com/example/gleipnir/gleipnir/Lease")) ({ frames := 0, cells := 0, slots := 0, locals := 0 } : Room) n0 #[(.ref a1)] h0 (fun v h => v = some (.ref w2) ∧ h = h0) := by
  refine OwM.mk (plainFor_of_name pn_com_example_gleipnir_gleipnir_Acquisition) ?_
  intro p e s m below meth c T hx hby hml hown hnm hret hlk hZ P
  refine OwG.cast (show entryFrame m #[(.ref a1)] 1 = mkF m 0 #[.val (.ref a1)] [] from by first | rfl | (simp [entryFrame, mkF, argsToLocals, Value.category]; done)) ?_
  refine OwG.go (T' := T) (g' := (mkF m 1 #[.val (.ref a1)] [(.ref a1)])) (fun t kt => ?_) ?_
  · refine XS.aloadN P.here hx rfl (hb hby d16_0) rfl rfl ?_
    exact kt
  refine P.getF hx hZ hown (host := "") (Or.inl (hw _ (List.mem_of_getElem? (i := 84) rfl))) Via.refl F (g := (mkF m 1 #[.val (.ref a1)] [(.ref a1)])) rfl rfl (hb hby d16_1) fun T P => ?_
  show OwG p e below s _ _ _ _ T (mkF m 4 #[.val (.ref a1)] [(.ref w2)])
  refine OwG.go (T' := T) (g' := (mkF m 27 #[.val (.ref a1)] [])) (fun t kt => ?_) ?_
  · refine XS.ifnonnullYes P.here hx rfl (pc0 := 4) (pc' := 27) rfl (hb hby d16_4) rfl (by decide) (by decide) ?_
    exact kt
  refine OwG.go (T' := T) (g' := (mkF m 28 #[.val (.ref a1)] [(.ref a1)])) (fun t kt => ?_) ?_
  · refine XS.aloadN P.here hx rfl (hb hby d16_27) rfl rfl ?_
    exact kt
  refine P.getF hx hZ hown (host := "") (Or.inl (hw _ (List.mem_of_getElem? (i := 84) rfl))) Via.refl F (g := (mkF m 28 #[.val (.ref a1)] [(.ref a1)])) rfl rfl (hb hby d16_28) fun T P => ?_
  show OwG p e below s _ _ _ _ T (mkF m 31 #[.val (.ref a1)] [(.ref w2)])
  exact P.retR hx hlk hret rfl rfl (hb hby d16_31) (by first | decide | omega | (dsimp only; omega) | simp | (simp; omega)) (by first | decide | omega | (dsimp only; omega) | simp | (simp; omega)) ⟨rfl, rfl⟩
theorem d17_0 : decode prog_1_method_4_code 0 = .ok (.aload_n 0, 1) := by decide +kernel
theorem d17_1 : decode prog_1_method_4_code 1 = .ok (.getfield 7, 3) := by decide +kernel
theorem d17_4 : decode prog_1_method_4_code 4 = .ok (.areturn, 1) := by decide +kernel
set_option maxRecDepth 65536 in
set_option maxHeartbeats 40000000 in
theorem rmAn (l : Launch) (Z : State) (a0 : Array Value) (hw : ∀ d ∈ tables_1, d.before a0 Z = true) (a1 w2 : Addr) (h0 : Heap) (n0 : Nat) (Z0 : n0 ≤ h0.size) (F : Fld Z h0 a1 "com/example/gleipnir/gleipnir/Acquisition" "name" "Ljava/lang/String;" (.ref w2)) :
    OwM l Z (⟨"com/example/gleipnir/gleipnir/Acquisition", "name", "()Ljava/lang/String;"⟩ : MethodName) prog_1_method_4_code 1 (some (.object "java/lang/String")) ({ frames := 0, cells := 0, slots := 0, locals := 0 } : Room) n0 #[(.ref a1)] h0 (fun v h => v = some (.ref w2) ∧ h = h0) := by
  refine OwM.mk (plainFor_of_name pn_com_example_gleipnir_gleipnir_Acquisition) ?_
  intro p e s m below meth c T hx hby hml hown hnm hret hlk hZ P
  refine OwG.cast (show entryFrame m #[(.ref a1)] 1 = mkF m 0 #[.val (.ref a1)] [] from by first | rfl | (simp [entryFrame, mkF, argsToLocals, Value.category]; done)) ?_
  refine OwG.go (T' := T) (g' := (mkF m 1 #[.val (.ref a1)] [(.ref a1)])) (fun t kt => ?_) ?_
  · refine XS.aloadN P.here hx rfl (hb hby d17_0) rfl rfl ?_
    exact kt
  refine P.getF hx hZ hown (host := "") (Or.inl (hw _ (List.mem_of_getElem? (i := 82) rfl))) Via.refl F (g := (mkF m 1 #[.val (.ref a1)] [(.ref a1)])) rfl rfl (hb hby d17_1) fun T P => ?_
  show OwG p e below s _ _ _ _ T (mkF m 4 #[.val (.ref a1)] [(.ref w2)])
  exact P.retR hx hlk hret rfl rfl (hb hby d17_4) (by first | decide | omega | (dsimp only; omega) | simp | (simp; omega)) (by first | decide | omega | (dsimp only; omega) | simp | (simp; omega)) ⟨rfl, rfl⟩
theorem d18_0 : decode jdk_42_method_66_code 0 = .ok (.aload_n 0, 1) := by decide +kernel
theorem d18_1 : decode jdk_42_method_66_code 1 = .ok (.aload_n 1, 1) := by decide +kernel
theorem d18_2 : decode jdk_42_method_66_code 2 = .ok (.if_acmp .ne 5, 3) := by decide +kernel
theorem d18_5 : decode jdk_42_method_66_code 5 = .ok (.iconst 1, 1) := by decide +kernel
theorem d18_6 : decode jdk_42_method_66_code 6 = .ok (.ireturn, 1) := by decide +kernel
set_option maxRecDepth 65536 in
set_option maxHeartbeats 40000000 in
theorem rmEq (l : Launch) (Z : State) (a0 : Array Value) (hw : ∀ d ∈ tables_1, d.before a0 Z = true) (a1 : Addr) (h0 : Heap) (n0 : Nat) (Z0 : n0 ≤ h0.size)  :
    OwM l Z (⟨"java/lang/String", "equals", "(Ljava/lang/Object;)Z"⟩ : MethodName) jdk_42_method_66_code 3 (some .boolean) ({ frames := 0, cells := 0, slots := 0, locals := 0 } : Room) n0 #[(.ref a1), (.ref a1)] h0 (fun v h => v = some (.int (1 : Int32)) ∧ h = h0) := by
  refine OwM.mk (plainFor_of_name pn_java_lang_String) ?_
  intro p e s m below meth c T hx hby hml hown hnm hret hlk hZ P
  refine OwG.cast (show entryFrame m #[(.ref a1), (.ref a1)] 3 = mkF m 0 #[.val (.ref a1), .val (.ref a1), .unset] [] from by first | rfl | (simp [entryFrame, mkF, argsToLocals, Value.category]; done)) ?_
  refine OwG.go (T' := T) (g' := (mkF m 2 #[.val (.ref a1), .val (.ref a1), .unset] [(.ref a1), (.ref a1)])) (fun t kt => ?_) ?_
  · refine XS.aloadN P.here hx rfl (hb hby d18_0) rfl rfl ?_
    refine XS.aloadN P.here hx rfl (hb hby d18_1) rfl rfl ?_
    exact kt
  obtain ⟨own_L, own_X, own_rest⟩ := id P
  refine OwG.go (T' := T) (g' := (mkF m 5 #[.val (.ref a1), .val (.ref a1), .unset] [])) (fun t kt => ?_) ?_
  · refine Jvm.RoadKit.acmp (g := (mkF m 2 #[.val (.ref a1), .val (.ref a1), .unset] [(.ref a1), (.ref a1)])) own_X hx rfl rfl rfl (pc0 := 2) (pc' := 5) (same := true) rfl (hb hby d18_2) rfl (decide_eq_true rfl) (by decide) (by decide) ?_
    exact kt
  refine OwG.go (T' := T) (g' := (mkF m 6 #[.val (.ref a1), .val (.ref a1), .unset] [(.int (1 : Int32))])) (fun t kt => ?_) ?_
  · refine XS.iconst P.here hx rfl (hb hby d18_5) ?_
    exact kt
  exact P.retN hx hlk (t := .boolean) hret (by simp) (hb hby d18_6) (by first | decide | omega | (dsimp only; omega) | simp | (simp; omega)) (by first | decide | omega | (dsimp only; omega) | simp | (simp; omega)) ⟨rfl, rfl⟩
theorem pd__IZ_Ljava_lang_String_ : parseMethodDescriptor "(IZ)Ljava/lang/String;" = some ⟨[.int, .boolean], some (.object "java/lang/String")⟩ := by decide +kernel
theorem pd__JJ_J : parseMethodDescriptor "(JJ)J" = some ⟨[.long, .long], some .long⟩ := by decide +kernel
theorem pd__Ljava_lang_String_Ljava_lang_String_J_V : parseMethodDescriptor "(Ljava/lang/String;Ljava/lang/String;J)V" = some ⟨[(.object "java/lang/String"), (.object "java/lang/String"), .long], none⟩ := by decide +kernel
theorem pd__Lcom_example_gleipnir_gleipnir_Lease__Lcom_example_gleipnir_gleipnir_Acquisition_ : parseMethodDescriptor "(Lcom/example/gleipnir/gleipnir/Lease;)Lcom/example/gleipnir/gleipnir/Acquisition;" = some ⟨[(.object "com/example/gleipnir/gleipnir/Lease")], some (.object "com/example/gleipnir/gleipnir/Acquisition")⟩ := by decide +kernel
theorem pd___Z : parseMethodDescriptor "()Z" = some ⟨[], some .boolean⟩ := by decide +kernel
theorem pd___Lcom_example_gleipnir_gleipnir_Lease_ : parseMethodDescriptor "()Lcom/example/gleipnir/gleipnir/Lease;" = some ⟨[], some (.object "com/example/gleipnir/gleipnir/Lease")⟩ := by decide +kernel
theorem pd__Ljava_lang_Object__Z : parseMethodDescriptor "(Ljava/lang/Object;)Z" = some ⟨[(.object "java/lang/Object")], some .boolean⟩ := by decide +kernel
set_option maxRecDepth 65536 in
set_option maxHeartbeats 40000000 in
theorem rm0 (l : Launch) (Z : State) (a0 : Array Value) (hw : ∀ d ∈ tables_1, d.before a0 Z = true) (ws : List Jvm.Cond) (p0 : Int32) (p1 : Int32) (q2 : Int64) (p3 : Int32) (zC : Int32) (h0 : Heap) (n0 : Nat) (Z0 : n0 ≤ h0.size) (S2 : Sta Z Z.heap "java/lang/String" "COMPACT_STRINGS" "Z" (.int zC)) (hzC : ¬ zC = 0) (OL : Old Z n0 h0) :
    MetFree l x (head1 (Jvm.Cond.code x code maxLocals ret :: ws) room_1) (fun a U => a = #[(.int p0), (.int p1), (.long q2), (.int p3)] ∧ Z.Warmed39 U.vm ∧ U.heap = h0 ∧ CHv Z own_EL U.vm h0 ∧ ∀ x ∈ ([] : List Addr), x < h0.size ∧ Safe Z own_EL U.vm h0 x) (fun _ _ _ _ _ => True) (fun _ U o U' => ∃ v L, o = .returned v ∧ ((fun v h => v = some (Value.int (1 : Int32))) v U'.heap ∧ Fr n0 L) ∧ CHr Z own_EL U.vm U.heap U'.vm U'.heap ∧ ReturnedEndW U o U' L room_1.cells room_1.slots) := by
  have hEL := own_EW hw
  refine OwS.of (EL := own_EL) (sf := []) (Q := fun v h => v = some (Value.int (1 : Int32))) (plainFor_of_name pn_com_example_gleipnir_gleipnir_AcquisitionGrantedPinLaw) ?_
  intro p e s m below meth c T hx hby hml hnm hret hlk P
  replace hml : c.maxLocals = 12 := hml
  replace P : OwC p l e room_1 s m #[(.int p0), (.int p1), (.long q2), (.int p3)] below meth c Z "com/example/gleipnir/gleipnir/AcquisitionGrantedPinLaw" own_EL [] n0 T h0 0 0 := P
  refine OwH.cast (show entryFrame m #[(.int p0), (.int p1), (.long q2), (.int p3)] maxLocals = mkF m 0 #[.val (.int p0), .val (.int p1), .val (.long q2), .second, .val (.int p3), .unset, .unset, .unset, .unset, .unset, .unset, .unset] [] from by first | rfl | (simp [entryFrame, mkF, argsToLocals, Value.category, maxLocals]; done)) ?_
  refine OwH.go (T' := T) (g' := (mkF m 5 #[.val (.int p0), .val (.int p1), .val (.long q2), .second, .val (.int p3), .unset, .unset, .unset, .unset, .unset, .unset, .unset] [(.int (p3 &&& (1 : Int32))), (.int p0)])) (fun t kt => ?_) ?_
  · refine XS.iloadN P.here hx rfl (hb hby at_0) rfl ?_
    refine XS.iload P.here hx rfl (hb hby at_1) rfl ?_
    refine XS.iconst P.here hx rfl (hb hby at_3) ?_
    refine XS.iand P.here hx rfl (hb hby at_4) rfl ?_
    exact kt
  have k13 : ∀ (T : State) (hJ_k13 : Heap) (i5 : Int32), OwC p l e room_1 s m #[(.int p0), (.int p1), (.long q2), (.int p3)] below meth c Z "com/example/gleipnir/gleipnir/AcquisitionGrantedPinLaw" own_EL [] n0 T hJ_k13 0 0 → n0 ≤ hJ_k13.size → Old Z n0 hJ_k13 → OwH p e below s Z own_EL n0 room_1.cells room_1.slots (fun v h => v = some (Value.int (1 : Int32))) T (mkF m 13 #[.val (.int p0), .val (.int p1), .val (.long q2), .second, .val (.int p3), .unset, .unset, .unset, .unset, .unset, .unset, .unset] [(.int i5), (.int p0)]) := by
    intro T hJ_k13 i5 P Z0 OL
    refine P.statS hx (y := (⟨"com/example/gleipnir/gleipnir/AcquisitionGrantedPinLaw", "drawn", "(IZ)Ljava/lang/String;"⟩ : MethodName)) (hw _ (List.mem_of_getElem? (i := 0) rfl)) (hw _ (List.mem_of_getElem? (i := 1) rfl)) (hw _ (List.mem_of_getElem? (i := 2) rfl)) (hw _ (List.mem_of_getElem? (i := 3) rfl)) (by decide) (fun vm0 hZ hCv hsf => OwS.back (s := s.setVm vm0) (W := 0) (rmDr l Z a0 hw p0 i5 zC hJ_k13 n0 Z0 S2 hzC OL) hZ (hw _ (List.mem_of_getElem? (i := 3) rfl)) (hw _ (List.mem_of_getElem? (i := 2) rfl)) (by decide) (by decide) hEL hCv hsf) (sf' := []) (fun _ _ _ q => q.2) (fun x hx => by simp_all) (g := (mkF m 13 #[.val (.int p0), .val (.int p1), .val (.long q2), .second, .val (.int p3), .unset, .unset, .unset, .unset, .unset, .unset, .unset] [(.int i5), (.int p0)])) rfl (by rw [hml]; rfl) (argsL := [(.int p0), (.int i5)]) (rest := []) (lenOf pd__IZ_Ljava_lang_String_ rfl) rfl (by show 2 * 0 + _ ≤ _; exact Nat.le_of_eq rfl) (hb hby at_13) rfl (by first | decide | omega | (dsimp only; omega) | simp | (simp; omega)) (by first | decide | omega | (dsimp only; omega) | simp | (simp; omega)) fun T own_v own_L h1 own_e P own_q => ?_
    obtain ⟨⟨b5, rfl, K, E_b5⟩, -⟩ := own_q
    clear own_e
    replace Z0 := Nat.le_trans Z0 K.1
    replace OL := OL.keep K all0
    show OwH p e below s _ _ _ _ _ _ T (mkF m 16 #[.val (.int p0), .val (.int p1), .val (.long q2), .second, .val (.int p3), .unset, .unset, .unset, .unset, .unset, .unset, .unset] [(.ref b5)])
    refine OwH.go (T' := T) (g' := (mkF m 23 #[.val (.int p0), .val (.int p1), .val (.long q2), .second, .val (.int p3), .val (.ref b5), .unset, .unset, .unset, .unset, .unset, .unset] [(.int (p3 &&& (2 : Int32))), (.int p1)])) (fun t kt => ?_) ?_
    · refine XS.astore P.here hx rfl (hb hby at_16) rfl rfl (l' := #[.val (.int p0), .val (.int p1), .val (.long q2), .second, .val (.int p3), .val (.ref b5), .unset, .unset, .unset, .unset, .unset, .unset]) rfl ?_
      refine XS.iloadN P.here hx rfl (hb hby at_18) rfl ?_
      refine XS.iload P.here hx rfl (hb hby at_19) rfl ?_
      refine XS.iconst P.here hx rfl (hb hby at_21) ?_
      refine XS.iand P.here hx rfl (hb hby at_22) rfl ?_
      exact kt
    have k31 : ∀ (T : State) (hJ_k31 : Heap) (i6 : Int32), OwC p l e room_1 s m #[(.int p0), (.int p1), (.long q2), (.int p3)] below meth c Z "com/example/gleipnir/gleipnir/AcquisitionGrantedPinLaw" own_EL [] n0 T hJ_k31 6 12 → n0 ≤ hJ_k31.size → Old Z n0 hJ_k31 → Exa Z hJ_k31 b5 "java/lang/String" → OwH p e below s Z own_EL n0 room_1.cells room_1.slots (fun v h => v = some (Value.int (1 : Int32))) T (mkF m 31 #[.val (.int p0), .val (.int p1), .val (.long q2), .second, .val (.int p3), .val (.ref b5), .unset, .unset, .unset, .unset, .unset, .unset] [(.int i6), (.int p1)]) := by
      intro T hJ_k31 i6 P Z0 OL E_b5
      refine P.statS hx (y := (⟨"com/example/gleipnir/gleipnir/AcquisitionGrantedPinLaw", "drawn", "(IZ)Ljava/lang/String;"⟩ : MethodName)) (hw _ (List.mem_of_getElem? (i := 0) rfl)) (hw _ (List.mem_of_getElem? (i := 1) rfl)) (hw _ (List.mem_of_getElem? (i := 2) rfl)) (hw _ (List.mem_of_getElem? (i := 3) rfl)) (by decide) (fun vm0 hZ hCv hsf => OwS.back (s := s.setVm vm0) (W := 0) (rmDr l Z a0 hw p1 i6 zC hJ_k31 n0 Z0 S2 hzC OL) hZ (hw _ (List.mem_of_getElem? (i := 3) rfl)) (hw _ (List.mem_of_getElem? (i := 2) rfl)) (by decide) (by decide) hEL hCv hsf) (sf' := []) (fun _ _ _ q => q.2) (fun x hx => by simp_all) (g := (mkF m 31 #[.val (.int p0), .val (.int p1), .val (.long q2), .second, .val (.int p3), .val (.ref b5), .unset, .unset, .unset, .unset, .unset, .unset] [(.int i6), (.int p1)])) rfl (by rw [hml]; rfl) (argsL := [(.int p1), (.int i6)]) (rest := []) (lenOf pd__IZ_Ljava_lang_String_ rfl) rfl (by show 2 * 0 + _ ≤ _; exact Nat.le_of_eq rfl) (hb hby at_31) rfl (by first | decide | omega | (dsimp only; omega) | simp | (simp; omega)) (by first | decide | omega | (dsimp only; omega) | simp | (simp; omega)) fun T own_v own_L h2 own_e P own_q => ?_
      obtain ⟨⟨b6, rfl, K, -⟩, -⟩ := own_q
      clear own_e
      replace E_b5 := E_b5.keep K
      replace Z0 := Nat.le_trans Z0 K.1
      replace OL := OL.keep K all0
      show OwH p e below s _ _ _ _ _ _ T (mkF m 34 #[.val (.int p0), .val (.int p1), .val (.long q2), .second, .val (.int p3), .val (.ref b5), .unset, .unset, .unset, .unset, .unset, .unset] [(.ref b6)])
      refine OwH.go (T' := T) (g' := (mkF m 38 #[.val (.int p0), .val (.int p1), .val (.long q2), .second, .val (.int p3), .val (.ref b5), .val (.ref b6), .unset, .unset, .unset, .unset, .unset] [(.long q2), (.long (1 : Int64))])) (fun t kt => ?_) ?_
      · refine XS.astore P.here hx rfl (hb hby at_34) rfl rfl (l' := #[.val (.int p0), .val (.int p1), .val (.long q2), .second, .val (.int p3), .val (.ref b5), .val (.ref b6), .unset, .unset, .unset, .unset, .unset]) rfl ?_
        refine XS.lconst P.here hx rfl (hb hby at_36) ?_
        refine XS.lloadN P.here hx rfl (hb hby at_37) rfl ?_
        exact kt
      obtain ⟨_, _, _, own_X, _, _, _, _, hZ, hown, _⟩ := id P
      refine OwH.go (T' := T) (g' := (mkF m 41 #[.val (.int p0), .val (.int p1), .val (.long q2), .second, .val (.int p3), .val (.ref b5), .val (.ref b6), .unset, .unset, .unset, .unset, .unset] [(.long (9223372036854775807 : Int64)), (.long q2), (.long (1 : Int64))])) (fun t kt => ?_) ?_
      · refine own_X.ldc2Long hx hown (mvT (s := s.setVm _) hZ (hw _ (List.mem_of_getElem? (i := 34) rfl))) (g := (mkF m 38 #[.val (.int p0), .val (.int p1), .val (.long q2), .second, .val (.int p3), .val (.ref b5), .val (.ref b6), .unset, .unset, .unset, .unset, .unset] [(.long q2), (.long (1 : Int64))])) rfl (hb hby at_38) _ ?_
        exact kt
      refine OwH.go (T' := T) (g' := (mkF m 42 #[.val (.int p0), .val (.int p1), .val (.long q2), .second, .val (.int p3), .val (.ref b5), .val (.ref b6), .unset, .unset, .unset, .unset, .unset] [(.long (q2 &&& (9223372036854775807 : Int64))), (.long (1 : Int64))])) (fun t kt => ?_) ?_
      · refine XS.land P.here hx rfl (hb hby at_41) rfl ?_
        exact kt
      refine P.stat hx (y := (⟨"java/lang/Math", "max", "(JJ)J"⟩ : MethodName)) (hw _ (List.mem_of_getElem? (i := 35) rfl)) (hw _ (List.mem_of_getElem? (i := 36) rfl)) (hw _ (List.mem_of_getElem? (i := 37) rfl)) (hw _ (List.mem_of_getElem? (i := 38) rfl)) (by decide) (fun vm0 hZ => OwM.back (s := s.setVm vm0) (W := 0) (rmMax l Z a0 hw (q2 &&& (9223372036854775807 : Int64)) h2 n0 Z0) hZ (hw _ (List.mem_of_getElem? (i := 38) rfl)) (hw _ (List.mem_of_getElem? (i := 37) rfl)) (by decide) (by decide)) (fun _ _ _ q => q.2) (ws := []) (fun _ _ _ q => by obtain ⟨⟨_, _, _, q⟩, _⟩ := q; rw [q]; exact Keep.refl _ _) all0 (g := (mkF m 42 #[.val (.int p0), .val (.int p1), .val (.long q2), .second, .val (.int p3), .val (.ref b5), .val (.ref b6), .unset, .unset, .unset, .unset, .unset] [(.long (q2 &&& (9223372036854775807 : Int64))), (.long (1 : Int64))])) rfl (by rw [hml]; rfl) (argsL := [(.long (1 : Int64)), (.long (q2 &&& (9223372036854775807 : Int64)))]) (rest := []) (lenOf pd__JJ_J rfl) rfl (by show 2 * 0 + _ ≤ _; exact Nat.le_of_eq rfl) (hb hby at_42) rfl (by first | decide | omega | (dsimp only; omega) | simp | (simp; omega)) (by first | decide | omega | (dsimp only; omega) | simp | (simp; omega)) fun T own_v own_L h3 own_e P own_q => ?_
      obtain ⟨⟨z7, rfl, hz7, own_hh⟩, -⟩ := own_q
      rw [own_hh] at P
      clear own_e own_hh
      show OwH p e below s _ _ _ _ _ _ T (mkF m 45 #[.val (.int p0), .val (.int p1), .val (.long q2), .second, .val (.int p3), .val (.ref b5), .val (.ref b6), .unset, .unset, .unset, .unset, .unset] [(.long z7)])
      refine OwH.go (T' := T) (g' := (mkF m 47 #[.val (.int p0), .val (.int p1), .val (.long q2), .second, .val (.int p3), .val (.ref b5), .val (.ref b6), .val (.long z7), .second, .unset, .unset, .unset] [])) (fun t kt => ?_) ?_
      · refine XS.lstore P.here hx rfl (hb hby at_45) rfl (l' := #[.val (.int p0), .val (.int p1), .val (.long q2), .second, .val (.int p3), .val (.ref b5), .val (.ref b6), .val (.long z7), .second, .unset, .unset, .unset]) rfl ?_
        exact kt
      refine P.newO hx (hw _ (List.mem_of_getElem? (i := 39) rfl)) (hw _ (List.mem_of_getElem? (i := 40) rfl)) (hw _ (List.mem_of_getElem? (i := 41) rfl)) (g := (mkF m 47 #[.val (.int p0), .val (.int p1), .val (.long q2), .second, .val (.int p3), .val (.ref b5), .val (.ref b6), .val (.long z7), .second, .unset, .unset, .unset] [])) rfl (hb hby at_47) (by first | decide | omega | (dsimp only; omega) | simp | (simp; omega)) (by first | decide | omega | (dsimp only; omega) | simp | (simp; omega)) fun T h4 b9 gb9 P E A D => ?_
      have ne_b5_b9 : b5 ≠ b9 := Nat.ne_of_lt (Nat.lt_of_lt_of_le E_b5.lt (Nat.le_of_eq gb9.symm))
      have ne_b9_b5 := Ne.symm ne_b5_b9
      have g_b9 : n0 ≤ b9 := Nat.le_trans Z0 (Nat.le_of_eq gb9.symm)
      replace E_b5 := E_b5.ext E
      replace Z0 := Nat.le_trans Z0 E.1
      replace OL := OL.ext E
      have E_b9 := A
      have F_name_b9 : Fld Z h4 b9 "com/example/gleipnir/gleipnir/Lease" "name" "Ljava/lang/String;" .null := D (Or.inr (hw _ (List.mem_of_getElem? (i := 60) rfl))) (ty := (.object "java/lang/String")) (by decide)
      have F_node_b9 : Fld Z h4 b9 "com/example/gleipnir/gleipnir/Lease" "node" "Ljava/lang/String;" .null := D (Or.inr (hw _ (List.mem_of_getElem? (i := 62) rfl))) (ty := (.object "java/lang/String")) (by decide)
      have F_token_b9 : Fld Z h4 b9 "com/example/gleipnir/gleipnir/Lease" "token" "J" (.long (0 : Int64)) := D (Or.inr (hw _ (List.mem_of_getElem? (i := 64) rfl))) (ty := .long) (by decide)
      clear A D E
      show OwH p e below s _ _ _ _ _ _ T (mkF m 50 #[.val (.int p0), .val (.int p1), .val (.long q2), .second, .val (.int p3), .val (.ref b5), .val (.ref b6), .val (.long z7), .second, .unset, .unset, .unset] [(.ref b9)])
      refine OwH.go (T' := T) (g' := (mkF m 57 #[.val (.int p0), .val (.int p1), .val (.long q2), .second, .val (.int p3), .val (.ref b5), .val (.ref b6), .val (.long z7), .second, .unset, .unset, .unset] [(.long z7), (.ref b6), (.ref b5), (.ref b9), (.ref b9)])) (fun t kt => ?_) ?_
      · refine XS.dup P.here hx rfl (hb hby at_50) rfl rfl ?_
        refine XS.aload P.here hx rfl (hb hby at_51) rfl rfl ?_
        refine XS.aload P.here hx rfl (hb hby at_53) rfl rfl ?_
        refine XS.lload P.here hx rfl (hb hby at_55) rfl ?_
        exact kt
      refine P.specialS hx (y := (⟨"com/example/gleipnir/gleipnir/Lease", "<init>", "(Ljava/lang/String;Ljava/lang/String;J)V"⟩ : MethodName)) rfl (hw _ (List.mem_of_getElem? (i := 42) rfl)) (hw _ (List.mem_of_getElem? (i := 43) rfl)) (hw _ (List.mem_of_getElem? (i := 44) rfl)) (by decide) (fun vm0 hZ hCv hsf => OwS.back (s := s.setVm vm0) (W := 1) (rmLe l Z a0 hw b9 b5 b6 z7 h4 n0 Z0 hz7 g_b9 E_b9 F_name_b9 F_node_b9 F_token_b9) hZ (hw _ (List.mem_of_getElem? (i := 44) rfl)) (hw _ (List.mem_of_getElem? (i := 41) rfl)) (by decide) (by decide) hEL hCv hsf) (sf' := []) (fun _ _ _ q => q.2) (fun x hx => by simp_all) (g := (mkF m 57 #[.val (.int p0), .val (.int p1), .val (.long q2), .second, .val (.int p3), .val (.ref b5), .val (.ref b6), .val (.long z7), .second, .unset, .unset, .unset] [(.long z7), (.ref b6), (.ref b5), (.ref b9), (.ref b9)])) rfl (by rw [hml]; rfl) (a := b9) (argsL := [(.ref b5), (.ref b6), (.long z7)]) (rest := [(.ref b9)]) (lenOf pd__Ljava_lang_String_Ljava_lang_String_J_V rfl) rfl (by show 2 * 0 + _ ≤ _; exact Nat.le_of_eq rfl) (hb hby at_57) rfl (by first | decide | omega | (dsimp only; omega) | simp | (simp; omega)) (by first | decide | omega | (dsimp only; omega) | simp | (simp; omega)) fun T own_v own_L h5 own_e P own_q => ?_
      obtain ⟨⟨rfl, K, F_b9⟩, -⟩ := own_q
      clear own_e
      replace E_b5 := E_b5.keep K
      replace E_b9 := E_b9.keep K
      replace Z0 := Nat.le_trans Z0 K.1
      replace OL := OL.keep K (allS g_b9 all0)
      show OwH p e below s _ _ _ _ _ _ T (mkF m 60 #[.val (.int p0), .val (.int p1), .val (.long q2), .second, .val (.int p3), .val (.ref b5), .val (.ref b6), .val (.long z7), .second, .unset, .unset, .unset] [(.ref b9)])
      refine OwH.go (T' := T) (g' := (mkF m 64 #[.val (.int p0), .val (.int p1), .val (.long q2), .second, .val (.int p3), .val (.ref b5), .val (.ref b6), .val (.long z7), .second, .val (.ref b9), .unset, .unset] [(.ref b9)])) (fun t kt => ?_) ?_
      · refine XS.astore P.here hx rfl (hb hby at_60) rfl rfl (l' := #[.val (.int p0), .val (.int p1), .val (.long q2), .second, .val (.int p3), .val (.ref b5), .val (.ref b6), .val (.long z7), .second, .val (.ref b9), .unset, .unset]) rfl ?_
        refine XS.aload P.here hx rfl (hb hby at_62) rfl rfl ?_
        exact kt
      refine P.statS hx (y := (⟨"com/example/gleipnir/gleipnir/Acquisition", "granted", "(Lcom/example/gleipnir/gleipnir/Lease;)Lcom/example/gleipnir/gleipnir/Acquisition;"⟩ : MethodName)) (hw _ (List.mem_of_getElem? (i := 65) rfl)) (hw _ (List.mem_of_getElem? (i := 66) rfl)) (hw _ (List.mem_of_getElem? (i := 67) rfl)) (hw _ (List.mem_of_getElem? (i := 68) rfl)) (by decide) (fun vm0 hZ hCv hsf => OwS.back (s := s.setVm vm0) (W := 0) (rmGr l Z a0 hw b9 b5 h5 n0 Z0 E_b9 F_b9) hZ (hw _ (List.mem_of_getElem? (i := 68) rfl)) (hw _ (List.mem_of_getElem? (i := 67) rfl)) (by decide) (by decide) hEL hCv hsf) (sf' := []) (fun _ _ _ q => q.2) (fun x hx => by simp_all) (g := (mkF m 64 #[.val (.int p0), .val (.int p1), .val (.long q2), .second, .val (.int p3), .val (.ref b5), .val (.ref b6), .val (.long z7), .second, .val (.ref b9), .unset, .unset] [(.ref b9)])) rfl (by rw [hml]; rfl) (argsL := [(.ref b9)]) (rest := []) (lenOf pd__Lcom_example_gleipnir_gleipnir_Lease__Lcom_example_gleipnir_gleipnir_Acquisition_ rfl) rfl (by show 2 * 0 + _ ≤ _; exact Nat.le_of_eq rfl) (hb hby at_64) rfl (by first | decide | omega | (dsimp only; omega) | simp | (simp; omega)) (by first | decide | omega | (dsimp only; omega) | simp | (simp; omega)) fun T own_v own_L h6 own_e P own_q => ?_
      obtain ⟨⟨b10, rfl, K, E_b10, F1, F2⟩, -⟩ := own_q
      clear own_e
      replace E_b5 := E_b5.keep K
      replace E_b9 := E_b9.keep K
      replace F_b9 := F_b9.keep K nin0
      replace Z0 := Nat.le_trans Z0 K.1
      replace OL := OL.keep K all0
      show OwH p e below s _ _ _ _ _ _ T (mkF m 67 #[.val (.int p0), .val (.int p1), .val (.long q2), .second, .val (.int p3), .val (.ref b5), .val (.ref b6), .val (.long z7), .second, .val (.ref b9), .unset, .unset] [(.ref b10)])
      refine OwH.go (T' := T) (g' := (mkF m 71 #[.val (.int p0), .val (.int p1), .val (.long q2), .second, .val (.int p3), .val (.ref b5), .val (.ref b6), .val (.long z7), .second, .val (.ref b9), .val (.ref b10), .unset] [(.ref b10)])) (fun t kt => ?_) ?_
      · refine XS.astore P.here hx rfl (hb hby at_67) rfl rfl (l' := #[.val (.int p0), .val (.int p1), .val (.long q2), .second, .val (.int p3), .val (.ref b5), .val (.ref b6), .val (.long z7), .second, .val (.ref b9), .val (.ref b10), .unset]) rfl ?_
        refine XS.aload P.here hx rfl (hb hby at_69) rfl rfl ?_
        exact kt
      refine P.virtual hx (y := (⟨"com/example/gleipnir/gleipnir/Acquisition", "isGranted", "()Z"⟩ : MethodName)) (z := (⟨"com/example/gleipnir/gleipnir/Acquisition", "isGranted", "()Z"⟩ : MethodName)) (hw _ (List.mem_of_getElem? (i := 90) rfl)) (hw _ (List.mem_of_getElem? (i := 91) rfl)) (fun vm0 hZ => notFace_of_selects (args := #[]) (mvT (s := s.setVm vm0) hZ (hw _ (List.mem_of_getElem? (i := 93) rfl)))) (hw _ (List.mem_of_getElem? (i := 93) rfl)) (hw _ (List.mem_of_getElem? (i := 92) rfl)) (by decide) (fun vm0 hZ => OwM.back (s := s.setVm vm0) (W := 0) (rmIg l Z a0 hw b10 b9 h6 n0 Z0 F2) hZ (hw _ (List.mem_of_getElem? (i := 94) rfl)) (hw _ (List.mem_of_getElem? (i := 67) rfl)) (by decide) (by decide)) (fun _ _ _ q => q.2) (ws := []) (fun _ _ _ q => by rw [q.1.2]; exact Keep.refl _ _) all0 E_b10 (g := (mkF m 71 #[.val (.int p0), .val (.int p1), .val (.long q2), .second, .val (.int p3), .val (.ref b5), .val (.ref b6), .val (.long z7), .second, .val (.ref b9), .val (.ref b10), .unset] [(.ref b10)])) rfl (by rw [hml]; rfl) (argsL := []) (rest := []) (lenOf pd___Z rfl) rfl (by show 2 * 0 + _ ≤ _; exact Nat.le_of_eq rfl) (hb hby at_71) rfl (by first | decide | omega | (dsimp only; omega) | simp | (simp; omega)) (by first | decide | omega | (dsimp only; omega) | simp | (simp; omega)) fun T own_v own_L h7 own_e P own_q => ?_
      obtain ⟨⟨rfl, own_hh⟩, -⟩ := own_q
      rw [own_hh] at P
      clear own_e own_hh
      show OwH p e below s _ _ _ _ _ _ T (mkF m 74 #[.val (.int p0), .val (.int p1), .val (.long q2), .second, .val (.int p3), .val (.ref b5), .val (.ref b6), .val (.long z7), .second, .val (.ref b9), .val (.ref b10), .unset] [(.int (1 : Int32))])
      refine OwH.go (T' := T) (g' := (mkF m 79 #[.val (.int p0), .val (.int p1), .val (.long q2), .second, .val (.int p3), .val (.ref b5), .val (.ref b6), .val (.long z7), .second, .val (.ref b9), .val (.ref b10), .unset] [])) (fun t kt => ?_) ?_
      · refine XS.ifYes P.here hx rfl (pc0 := 74) (pc' := 79) rfl (hb hby at_74) rfl ((if0 _ _).trans (feq own_one).2) (by decide) (by decide) ?_
        exact kt
      refine OwH.go (T' := T) (g' := (mkF m 81 #[.val (.int p0), .val (.int p1), .val (.long q2), .second, .val (.int p3), .val (.ref b5), .val (.ref b6), .val (.long z7), .second, .val (.ref b9), .val (.ref b10), .unset] [(.ref b10)])) (fun t kt => ?_) ?_
      · refine XS.aload P.here hx rfl (hb hby at_79) rfl rfl ?_
        exact kt
      refine P.virtual hx (y := (⟨"com/example/gleipnir/gleipnir/Acquisition", "lease", "()Lcom/example/gleipnir/gleipnir/Lease;"⟩ : MethodName)) (z := (⟨"com/example/gleipnir/gleipnir/Acquisition", "lease", "()Lcom/example/gleipnir/gleipnir/Lease;"⟩ : MethodName)) (hw _ (List.mem_of_getElem? (i := 95) rfl)) (hw _ (List.mem_of_getElem? (i := 96) rfl)) (fun vm0 hZ => notFace_of_selects (args := #[]) (mvT (s := s.setVm vm0) hZ (hw _ (List.mem_of_getElem? (i := 98) rfl)))) (hw _ (List.mem_of_getElem? (i := 98) rfl)) (hw _ (List.mem_of_getElem? (i := 97) rfl)) (by decide) (fun vm0 hZ => OwM.back (s := s.setVm vm0) (W := 0) (rmAl l Z a0 hw b10 b9 h6 n0 Z0 F2) hZ (hw _ (List.mem_of_getElem? (i := 99) rfl)) (hw _ (List.mem_of_getElem? (i := 67) rfl)) (by decide) (by decide)) (fun _ _ _ q => q.2) (ws := []) (fun _ _ _ q => by rw [q.1.2]; exact Keep.refl _ _) all0 E_b10 (g := (mkF m 81 #[.val (.int p0), .val (.int p1), .val (.long q2), .second, .val (.int p3), .val (.ref b5), .val (.ref b6), .val (.long z7), .second, .val (.ref b9), .val (.ref b10), .unset] [(.ref b10)])) rfl (by rw [hml]; rfl) (argsL := []) (rest := []) (lenOf pd___Lcom_example_gleipnir_gleipnir_Lease_ rfl) rfl (by show 2 * 0 + _ ≤ _; exact Nat.le_of_eq rfl) (hb hby at_81) rfl (by first | decide | omega | (dsimp only; omega) | simp | (simp; omega)) (by first | decide | omega | (dsimp only; omega) | simp | (simp; omega)) fun T own_v own_L h8 own_e P own_q => ?_
      obtain ⟨⟨rfl, own_hh⟩, -⟩ := own_q
      rw [own_hh] at P
      clear own_e own_hh
      show OwH p e below s _ _ _ _ _ _ T (mkF m 84 #[.val (.int p0), .val (.int p1), .val (.long q2), .second, .val (.int p3), .val (.ref b5), .val (.ref b6), .val (.long z7), .second, .val (.ref b9), .val (.ref b10), .unset] [(.ref b9)])
      refine OwH.go (T' := T) (g' := (mkF m 86 #[.val (.int p0), .val (.int p1), .val (.long q2), .second, .val (.int p3), .val (.ref b5), .val (.ref b6), .val (.long z7), .second, .val (.ref b9), .val (.ref b10), .unset] [(.ref b9), (.ref b9)])) (fun t kt => ?_) ?_
      · refine XS.aload P.here hx rfl (hb hby at_84) rfl rfl ?_
        exact kt
      obtain ⟨_, _, _, own_X, own_rest⟩ := id P
      refine OwH.go (T' := T) (g' := (mkF m 91 #[.val (.int p0), .val (.int p1), .val (.long q2), .second, .val (.int p3), .val (.ref b5), .val (.ref b6), .val (.long z7), .second, .val (.ref b9), .val (.ref b10), .unset] [])) (fun t kt => ?_) ?_
      · refine Jvm.RoadKit.acmp (g := (mkF m 86 #[.val (.int p0), .val (.int p1), .val (.long q2), .second, .val (.int p3), .val (.ref b5), .val (.ref b6), .val (.long z7), .second, .val (.ref b9), .val (.ref b10), .unset] [(.ref b9), (.ref b9)])) own_X hx rfl rfl rfl (pc0 := 86) (pc' := 91) (same := true) rfl (hb hby at_86) rfl (decide_eq_true rfl) (by decide) (by decide) ?_
        exact kt
      refine OwH.go (T' := T) (g' := (mkF m 93 #[.val (.int p0), .val (.int p1), .val (.long q2), .second, .val (.int p3), .val (.ref b5), .val (.ref b6), .val (.long z7), .second, .val (.ref b9), .val (.ref b10), .unset] [(.ref b10)])) (fun t kt => ?_) ?_
      · refine XS.aload P.here hx rfl (hb hby at_91) rfl rfl ?_
        exact kt
      refine P.virtual hx (y := (⟨"com/example/gleipnir/gleipnir/Acquisition", "name", "()Ljava/lang/String;"⟩ : MethodName)) (z := (⟨"com/example/gleipnir/gleipnir/Acquisition", "name", "()Ljava/lang/String;"⟩ : MethodName)) (hw _ (List.mem_of_getElem? (i := 100) rfl)) (hw _ (List.mem_of_getElem? (i := 101) rfl)) (fun vm0 hZ => notFace_of_selects (args := #[]) (mvT (s := s.setVm vm0) hZ (hw _ (List.mem_of_getElem? (i := 103) rfl)))) (hw _ (List.mem_of_getElem? (i := 103) rfl)) (hw _ (List.mem_of_getElem? (i := 102) rfl)) (by decide) (fun vm0 hZ => OwM.back (s := s.setVm vm0) (W := 0) (rmAn l Z a0 hw b10 b5 h6 n0 Z0 F1) hZ (hw _ (List.mem_of_getElem? (i := 104) rfl)) (hw _ (List.mem_of_getElem? (i := 67) rfl)) (by decide) (by decide)) (fun _ _ _ q => q.2) (ws := []) (fun _ _ _ q => by rw [q.1.2]; exact Keep.refl _ _) all0 E_b10 (g := (mkF m 93 #[.val (.int p0), .val (.int p1), .val (.long q2), .second, .val (.int p3), .val (.ref b5), .val (.ref b6), .val (.long z7), .second, .val (.ref b9), .val (.ref b10), .unset] [(.ref b10)])) rfl (by rw [hml]; rfl) (argsL := []) (rest := []) (lenOf pd___Ljava_lang_String_ rfl) rfl (by show 2 * 0 + _ ≤ _; exact Nat.le_of_eq rfl) (hb hby at_93) rfl (by first | decide | omega | (dsimp only; omega) | simp | (simp; omega)) (by first | decide | omega | (dsimp only; omega) | simp | (simp; omega)) fun T own_v own_L h9 own_e P own_q => ?_
      obtain ⟨⟨rfl, own_hh⟩, -⟩ := own_q
      rw [own_hh] at P
      clear own_e own_hh
      show OwH p e below s _ _ _ _ _ _ T (mkF m 96 #[.val (.int p0), .val (.int p1), .val (.long q2), .second, .val (.int p3), .val (.ref b5), .val (.ref b6), .val (.long z7), .second, .val (.ref b9), .val (.ref b10), .unset] [(.ref b5)])
      refine OwH.go (T' := T) (g' := (mkF m 100 #[.val (.int p0), .val (.int p1), .val (.long q2), .second, .val (.int p3), .val (.ref b5), .val (.ref b6), .val (.long z7), .second, .val (.ref b9), .val (.ref b10), .val (.ref b5)] [(.ref b5)])) (fun t kt => ?_) ?_
      · refine XS.astore P.here hx rfl (hb hby at_96) rfl rfl (l' := #[.val (.int p0), .val (.int p1), .val (.long q2), .second, .val (.int p3), .val (.ref b5), .val (.ref b6), .val (.long z7), .second, .val (.ref b9), .val (.ref b10), .val (.ref b5)]) rfl ?_
        refine XS.aload P.here hx rfl (hb hby at_98) rfl rfl ?_
        exact kt
      refine OwH.go (T' := T) (g' := (mkF m 105 #[.val (.int p0), .val (.int p1), .val (.long q2), .second, .val (.int p3), .val (.ref b5), .val (.ref b6), .val (.long z7), .second, .val (.ref b9), .val (.ref b10), .val (.ref b5)] [])) (fun t kt => ?_) ?_
      · refine XS.ifnonnullYes P.here hx rfl (pc0 := 100) (pc' := 105) rfl (hb hby at_100) rfl (by decide) (by decide) ?_
        exact kt
      refine OwH.go (T' := T) (g' := (mkF m 109 #[.val (.int p0), .val (.int p1), .val (.long q2), .second, .val (.int p3), .val (.ref b5), .val (.ref b6), .val (.long z7), .second, .val (.ref b9), .val (.ref b10), .val (.ref b5)] [(.ref b5), (.ref b5)])) (fun t kt => ?_) ?_
      · refine XS.aload P.here hx rfl (hb hby at_105) rfl rfl ?_
        refine XS.aload P.here hx rfl (hb hby at_107) rfl rfl ?_
        exact kt
      refine P.virtual hx (y := (⟨"java/lang/String", "equals", "(Ljava/lang/Object;)Z"⟩ : MethodName)) (z := (⟨"java/lang/String", "equals", "(Ljava/lang/Object;)Z"⟩ : MethodName)) (hw _ (List.mem_of_getElem? (i := 105) rfl)) (hw _ (List.mem_of_getElem? (i := 106) rfl)) (fun vm0 hZ => notFace_of_selects (args := #[]) (mvT (s := s.setVm vm0) hZ (hw _ (List.mem_of_getElem? (i := 108) rfl)))) (hw _ (List.mem_of_getElem? (i := 108) rfl)) (hw _ (List.mem_of_getElem? (i := 107) rfl)) (by decide) (fun vm0 hZ => OwM.back (s := s.setVm vm0) (W := 0) (rmEq l Z a0 hw b5 h6 n0 Z0) hZ (hw _ (List.mem_of_getElem? (i := 109) rfl)) (hw _ (List.mem_of_getElem? (i := 7) rfl)) (by decide) (by decide)) (fun _ _ _ q => q.2) (ws := []) (fun _ _ _ q => by rw [q.1.2]; exact Keep.refl _ _) all0 E_b5 (g := (mkF m 109 #[.val (.int p0), .val (.int p1), .val (.long q2), .second, .val (.int p3), .val (.ref b5), .val (.ref b6), .val (.long z7), .second, .val (.ref b9), .val (.ref b10), .val (.ref b5)] [(.ref b5), (.ref b5)])) rfl (by rw [hml]; rfl) (argsL := [(.ref b5)]) (rest := []) (lenOf pd__Ljava_lang_Object__Z rfl) rfl (by show 2 * 0 + _ ≤ _; exact Nat.le_of_eq rfl) (hb hby at_109) rfl (by first | decide | omega | (dsimp only; omega) | simp | (simp; omega)) (by first | decide | omega | (dsimp only; omega) | simp | (simp; omega)) fun T own_v own_L h10 own_e P own_q => ?_
      obtain ⟨⟨rfl, own_hh⟩, -⟩ := own_q
      rw [own_hh] at P
      clear own_e own_hh
      show OwH p e below s _ _ _ _ _ _ T (mkF m 112 #[.val (.int p0), .val (.int p1), .val (.long q2), .second, .val (.int p3), .val (.ref b5), .val (.ref b6), .val (.long z7), .second, .val (.ref b9), .val (.ref b10), .val (.ref b5)] [(.int (1 : Int32))])
      exact P.retN hEL hx hlk (t := .boolean) hret (by simp) (hb hby at_112) (by first | decide | omega | (dsimp only; omega) | simp | (simp; omega)) (by first | decide | omega | (dsimp only; omega) | simp | (simp; omega)) rfl
    by_cases hc23 : (p3 &&& (2 : Int32)) = (0 : Int32)
    · skip
      refine OwH.go (T' := T) (g' := (mkF m 30 #[.val (.int p0), .val (.int p1), .val (.long q2), .second, .val (.int p3), .val (.ref b5), .unset, .unset, .unset, .unset, .unset, .unset] [(.int p1)])) (fun t kt => ?_) ?_
      · refine XS.ifYes P.here hx rfl (pc0 := 23) (pc' := 30) rfl (hb hby at_23) rfl ((if0 _ _).trans (teq hc23).1) (by decide) (by decide) ?_
        exact kt
      refine OwH.go (T' := T) (g' := (mkF m 31 #[.val (.int p0), .val (.int p1), .val (.long q2), .second, .val (.int p3), .val (.ref b5), .unset, .unset, .unset, .unset, .unset, .unset] [(.int (0 : Int32)), (.int p1)])) (fun t kt => ?_) ?_
      · refine XS.iconst P.here hx rfl (hb hby at_30) ?_
        exact kt
      exact k31 T h1 (0 : Int32) (P.wide (by first | decide | omega | (dsimp only; omega) | simp | (simp; omega)) (by first | decide | omega | (dsimp only; omega) | simp | (simp; omega)) (fun x hx => by simp_all)) Z0 OL E_b5 
    · skip
      refine OwH.go (T' := T) (g' := (mkF m 26 #[.val (.int p0), .val (.int p1), .val (.long q2), .second, .val (.int p3), .val (.ref b5), .unset, .unset, .unset, .unset, .unset, .unset] [(.int p1)])) (fun t kt => ?_) ?_
      · refine XS.ifNo P.here hx rfl (hb hby at_23) rfl ((if0 _ _).trans (feq hc23).1) ?_
        exact kt
      refine OwH.go (T' := T) (g' := (mkF m 31 #[.val (.int p0), .val (.int p1), .val (.long q2), .second, .val (.int p3), .val (.ref b5), .unset, .unset, .unset, .unset, .unset, .unset] [(.int (1 : Int32)), (.int p1)])) (fun t kt => ?_) ?_
      · refine XS.iconst P.here hx rfl (hb hby at_26) ?_
        refine XS.goto P.here hx rfl (pc0 := 27) (pc' := 31) rfl (hb hby at_27) (by decide) (by decide) ?_
        exact kt
      exact k31 T h1 (1 : Int32) (P.wide (by first | decide | omega | (dsimp only; omega) | simp | (simp; omega)) (by first | decide | omega | (dsimp only; omega) | simp | (simp; omega)) (fun x hx => by simp_all)) Z0 OL E_b5 
  by_cases hc5 : (p3 &&& (1 : Int32)) = (0 : Int32)
  · skip
    refine OwH.go (T' := T) (g' := (mkF m 12 #[.val (.int p0), .val (.int p1), .val (.long q2), .second, .val (.int p3), .unset, .unset, .unset, .unset, .unset, .unset, .unset] [(.int p0)])) (fun t kt => ?_) ?_
    · refine XS.ifYes P.here hx rfl (pc0 := 5) (pc' := 12) rfl (hb hby at_5) rfl ((if0 _ _).trans (teq hc5).1) (by decide) (by decide) ?_
      exact kt
    refine OwH.go (T' := T) (g' := (mkF m 13 #[.val (.int p0), .val (.int p1), .val (.long q2), .second, .val (.int p3), .unset, .unset, .unset, .unset, .unset, .unset, .unset] [(.int (0 : Int32)), (.int p0)])) (fun t kt => ?_) ?_
    · refine XS.iconst P.here hx rfl (hb hby at_12) ?_
      exact kt
    exact k13 T h0 (0 : Int32) (P.wide (by first | decide | omega | (dsimp only; omega) | simp | (simp; omega)) (by first | decide | omega | (dsimp only; omega) | simp | (simp; omega)) (fun x hx => by simp_all)) Z0 OL 
  · skip
    refine OwH.go (T' := T) (g' := (mkF m 8 #[.val (.int p0), .val (.int p1), .val (.long q2), .second, .val (.int p3), .unset, .unset, .unset, .unset, .unset, .unset, .unset] [(.int p0)])) (fun t kt => ?_) ?_
    · refine XS.ifNo P.here hx rfl (hb hby at_5) rfl ((if0 _ _).trans (feq hc5).1) ?_
      exact kt
    refine OwH.go (T' := T) (g' := (mkF m 13 #[.val (.int p0), .val (.int p1), .val (.long q2), .second, .val (.int p3), .unset, .unset, .unset, .unset, .unset, .unset, .unset] [(.int (1 : Int32)), (.int p0)])) (fun t kt => ?_) ?_
    · refine XS.iconst P.here hx rfl (hb hby at_8) ?_
      refine XS.goto P.here hx rfl (pc0 := 9) (pc' := 13) rfl (hb hby at_9) (by decide) (by decide) ?_
      exact kt
    exact k13 T h0 (1 : Int32) (P.wide (by first | decide | omega | (dsimp only; omega) | simp | (simp; omega)) (by first | decide | omega | (dsimp only; omega) | simp | (simp; omega)) (fun x hx => by simp_all)) Z0 OL 
set_option maxRecDepth 65536 in
set_option maxHeartbeats 40000000 in
theorem comes_1 {Post : Tables → Env → Array Value → State → Outcome → State → Prop} (hpost : ∀ tb e args s v u, (limb_1_1.after args s (.returned v) u = true ∧ limb_1_2.after args s (.returned v) u = true ∧ True) → ReturnedEndW s (.returned v) u (Jvm.fieldLocs frame_1_writes args s ++ Jvm.arrayLocs frame_1_arrays args s ++ Jvm.staticLocs frame_1_statics s) 32 4224 → Post tb e args s (.returned v) u) :
    ArmFor flags0 classFile x code maxLocals ret World_1 tables_1 room_1 Calls_1 rest_1 Pre_1 Post := by
  intro l hfl _ _ p e ha hc hk s m args below hf hA hF happ hP
  obtain ⟨hcalls, hrest, hpre⟩ := hP
  obtain ⟨-, -, -, hnamed, -, -, -, hat⟩ := (Spec.applies_iff hf).mp happ
  obtain ⟨hg, hn⟩ := and_e (Cond.before_iff.mp (show (Jvm.Cond.and given_1 narrow_1).before args s = true from hpre))
  obtain ⟨g1, g2⟩ := and_e hg
  obtain ⟨g3, g4⟩ := and_e g2
  obtain ⟨g5, g6⟩ := and_e g4
  obtain ⟨g7, g8⟩ := and_e g6
  obtain ⟨w0, w1, w2, w3, rfl⟩ : ∃ w0 w1 w2 w3 : Value, args = #[w0, w1, w2, w3] := by
    have hs : args.size = 4 := by simpa [Cond.value, given_1] using g1
    obtain ⟨L⟩ := args
    match L, hs with
    | [w0, w1, w2, w3], _ => exact ⟨w0, w1, w2, w3, rfl⟩
  have hw := fun d (hd : d ∈ tables_1) => atoms_spec (ws := Jvm.Cond.code x code maxLocals ret :: tables_1) hat d (List.mem_cons_of_mem _ hd)
  have hfit : Fit s := fun {y c} hc i hi => by
    obtain ⟨ha, rfl⟩ := Array.getElem?_eq_some_iff.mp hc
    have q := List.all_eq_true.mp ((Array.all_eq_true_iff_forall_mem.mp hF) _ (Array.getElem_mem ha)) i (List.mem_range.mpr hi)
    simpa [Array.getElem?_eq_getElem hi] using q
  obtain ⟨hsets, hown0⟩ := atoms_of _ (rest_1_c_eq ▸ (show rest_1_c.before _ s = true from hrest))
  have hr0 := Cond.before_iff.mp hown0
  obtain ⟨i0, ei0⟩ := is_v g3
  obtain rfl : w0 = (.int i0) := Option.some.inj ei0
  obtain ⟨i1, ei1⟩ := is_v g5
  obtain rfl : w1 = (.int i1) := Option.some.inj ei1
  obtain ⟨i2, ei2⟩ := isL_v g7
  obtain rfl : w2 = (.long i2) := Option.some.inj ei2
  obtain ⟨i3, ei3⟩ := is_v g8
  obtain rfl : w3 = (.int i3) := Option.some.inj ei3
  have n5 := not_v (Cond.before_iff.mp (hsets _ (List.mem_of_getElem? (i := 2) rfl)))
  obtain ⟨zC, ezC⟩ := is_v (Cond.before_iff.mp (hsets _ (List.mem_of_getElem? (i := 1) rfl)))
  have S2 : Sta s s.heap "java/lang/String" "COMPACT_STRINGS" "Z" (.int zC) := Sta.start ezC (Or.inl (hsets _ (List.mem_of_getElem? (i := 0) rfl)))
  have hzC : ¬ (zC = (0 : Int32)) := gotF (Cond.eq_ints ezC (Term.int_eval (0))) n5
  have hCH : CHv s own_EL s.vm s.heap := CHv.start (own_EW hw) (fun q hq => hcalls.1 q (by simp only [own_EL, List.mem_cons, List.not_mem_nil, or_false] at hq; subst hq; simp [consts_1])) (hsets _ (List.mem_of_getElem? (i := 2) rfl)) (hw _ (List.mem_of_getElem? (i := 23) rfl)) (hw _ (List.mem_of_getElem? (i := 6) rfl))
  obtain ⟨n, o, h1, h2, h3, _, L, rfl, ⟨rfl, N⟩, -, hq⟩ := rm0 l s _ hw tables_1 i0 i1 i2 i3 zC s.heap s.heap.size (Nat.le_refl _) S2 hzC (Old.start s) p e ha hc hk s m _ below hf ((Spec.applies_iff_loose hf).mp happ).1 ⟨rfl, State.Warmed39.refl s, rfl, hCH, fun x hx => nomatch hx⟩ trivial
  refine ⟨n, _, h1, h2, h3, hpost _ _ _ _ _ _ ⟨Cond.after_iff.mpr rfl, Cond.after_iff.mpr (eq_i res_at (Term.int_eval (1)) rfl), trivial⟩ ⟨hq.1, hq.2.1, hq.2.2.1, (hq.2.2.2.sift fun y hy => Or.inr (N y hy)).mono (by decide) (by decide)⟩⟩
theorem main_1_1 : Claimed_1_1 := comes_1 fun _ _ _ _ _ _ h hF => ⟨h.1, hF⟩
theorem main_1_2 : Claimed_1_2 := comes_1 fun _ _ _ _ _ _ h hF => ⟨h.2.1, hF⟩
end Jvm.Pilot.@@N@@
namespace Jvm.Pilot.@@N@@
open Jvm Jvm.ClassFile Sem Op Lib Jvm.Free Jvm.Stand Jvm.Pilot.@@N@@.Jvm.D
/-! MADE BY PROGRAM (witnessworld.py) out of the Statement's table words and the real class files: 24 classes; the members and pool entries that the words name. The judged class is class 1, her method 2. -/
namespace start1
open Jvm.ClassFile
def u (s : String) : CpInfo := .utf8 (stringToUtf16 s)
/-- a pool by its gaps: so many unusable entries, then the entry; so many at the end -/
def gap : Nat → List CpInfo → List CpInfo
  | 0, r => r
  | n + 1, r => .unusable :: gap n r
def poolList (es : List (Nat × CpInfo)) (last : Nat) : List CpInfo := es.foldr (fun e r => gap e.1 (e.2 :: r)) (gap last [])
def pool (es : List (Nat × CpInfo)) (last : Nat) : Array CpInfo := ⟨poolList es last⟩
def fileOf (pool : Array CpInfo) (this : Nat) (attrs : Array Attribute := #[]) (ms : Array MethodInfo := #[]) (fl : Nat := 33) (sup : Nat := 0) (ifs : Array Nat := #[]) (fds : Array FieldInfo := #[]) : ClassFile where
  minorVersion := 0
  majorVersion := 65
  constantPool := pool
  accessFlags := fl
  thisClass := this
  superClass := sup
  interfaces := ifs
  fields := fds
  methods := ms
  attributes := attrs
def plain (name : String) (sup : Option ClassId) : Class where
  name := name
  kind := .ordinary
  loader := none
  accessFlags := 33
  super := sup
  interfaces := #[]
  cf := none
  fields := #[]
  methods := #[]
  instanceTypes := #[]
  staticTypes := #[]
  resolved := #[]
  callSites := []
  init := .initialized
  statics := none
  mirror := none

def pool0 : Array CpInfo := pool [(5, u "<init>"), (0, u "()V"), (1, .class_ 10), (1, u "java/lang/Object")] 113

def k0c0 : Code := { maxStack := 0, maxLocals := 1, code := object_method_1_code, exceptionTable := #[], attributes := #[] }
def k0m0 : Method := { name := "<init>", desc := "()V", sig := { parameters := [], returnType := none }, accessFlags := 1, code := some k0c0 }
/-- java/lang/Object -/
def k0 : Class := { plain "java/lang/Object" none with
  accessFlags := 33
  interfaces := #[]
  cf := some (fileOf pool0 8 #[] #[{ accessFlags := 1, nameIndex := 5, descriptorIndex := 6, attributes := #[] }] 33 0 #[] #[])
  fields := #[]
  methods := #[k0m0]
  instanceTypes := #[]
  staticTypes := #[]
  resolved := Array.replicate 124 none
  statics := none }

def pool1 : Array CpInfo := pool [(2, .class_ 4), (1, u "java/lang/Object"), (0, u "<init>"), (0, u "()V"), (0, .class_ 8), (0, u "java/lang/String"), (0, .methodref 7 10), (0, .nameAndType 5 11), (0, u "([C)V"), (0, .methodref 13 14), (0, .class_ 15), (0, .nameAndType 16 17), (0, u "com/example/gleipnir/gleipnir/AcquisitionGrantedPinLaw"), (0, u "drawn"), (0, u "(IZ)Ljava/lang/String;"), (2, .long 9223372036854775807), (1, .methodref 23 24), (0, .class_ 25), (0, .nameAndType 26 27), (0, u "java/lang/Math"), (0, u "max"), (0, u "(JJ)J"), (0, .class_ 29), (0, u "com/example/gleipnir/gleipnir/Lease"), (0, .methodref 28 31), (0, .nameAndType 5 32), (0, u "(Ljava/lang/String;Ljava/lang/String;J)V"), (0, .methodref 34 35), (0, .class_ 36), (0, .nameAndType 37 38), (0, u "com/example/gleipnir/gleipnir/Acquisition"), (0, u "granted"), (0, u "(Lcom/example/gleipnir/gleipnir/Lease;)Lcom/example/gleipnir/gleipnir/Acquisition;"), (0, .methodref 34 40), (0, .nameAndType 41 42), (0, u "isGranted"), (0, u "()Z"), (0, .methodref 34 44), (0, .nameAndType 45 46), (0, u "lease"), (0, u "()Lcom/example/gleipnir/gleipnir/Lease;"), (0, .methodref 34 48), (0, .nameAndType 49 50), (0, u "name"), (0, u "()Ljava/lang/String;"), (0, .methodref 7 52), (0, .nameAndType 53 54), (0, u "equals"), (0, u "(Ljava/lang/Object;)Z"), (3, u "law"), (0, u "(IIJI)Z")] 2

def k1m0 : Method := { name := "<init>", desc := "()V", sig := { parameters := [], returnType := none }, accessFlags := 2, code := none }
def k1c1 : Code := { maxStack := 4, maxLocals := 3, code := method_2_code, exceptionTable := #[], attributes := #[] }
def k1m1 : Method := { name := "drawn", desc := "(IZ)Ljava/lang/String;", sig := { parameters := [.int, .boolean], returnType := some (.object "java/lang/String") }, accessFlags := 10, code := some k1c1 }
def k1c2 : Code := { maxStack := 6, maxLocals := 12, code := code, exceptionTable := #[], attributes := #[] }
def k1m2 : Method := { name := "law", desc := "(IIJI)Z", sig := { parameters := [.int, .int, .long, .int], returnType := some .boolean }, accessFlags := 9, code := some k1c2 }
/-- com/example/gleipnir/gleipnir/AcquisitionGrantedPinLaw -/
def k1 : Class := { plain "com/example/gleipnir/gleipnir/AcquisitionGrantedPinLaw" (some 0) with
  accessFlags := 49
  interfaces := #[]
  cf := some (fileOf pool1 13 #[] #[{ accessFlags := 2, nameIndex := 5, descriptorIndex := 6, attributes := #[] }, { accessFlags := 10, nameIndex := 16, descriptorIndex := 17, attributes := #[] }, { accessFlags := 9, nameIndex := 58, descriptorIndex := 59, attributes := #[] }] 49 2 #[] #[])
  fields := #[]
  methods := #[k1m0, k1m1, k1m2]
  instanceTypes := #[]
  staticTypes := #[]
  resolved := Array.replicate 62 none
  statics := none }

def pool2 : Array CpInfo := pool [(1, .class_ 2), (0, u "java/io/Serializable"), (0, .class_ 4), (0, u "java/lang/Object")] 2

/-- java/io/Serializable -/
def k2 : Class := { plain "java/io/Serializable" (some 0) with
  accessFlags := 1537
  interfaces := #[]
  cf := some (fileOf pool2 1 #[] #[] 1537 3 #[] #[])
  fields := #[]
  methods := #[]
  instanceTypes := #[]
  staticTypes := #[]
  resolved := Array.replicate 7 none
  statics := none }

def pool3 : Array CpInfo := pool [(1, .class_ 2), (0, u "java/lang/Comparable"), (0, .class_ 4), (0, u "java/lang/Object")] 7

/-- java/lang/Comparable -/
def k3 : Class := { plain "java/lang/Comparable" (some 0) with
  accessFlags := 1537
  interfaces := #[]
  cf := some (fileOf pool3 1 #[] #[] 1537 3 #[] #[])
  fields := #[]
  methods := #[]
  instanceTypes := #[]
  staticTypes := #[]
  resolved := Array.replicate 12 none
  statics := none }

def pool4 : Array CpInfo := pool [(2, .class_ 4), (1, u "java/lang/CharSequence"), (42, .class_ 48), (0, u "java/lang/CharSequence$1CodePointIterator"), (10, .class_ 60), (0, u "java/lang/CharSequence$1CharIterator"), (5, .class_ 67), (0, u "java/lang/Object")] 63

/-- java/lang/CharSequence -/
def k4 : Class := { plain "java/lang/CharSequence" (some 0) with
  accessFlags := 1537
  interfaces := #[]
  cf := some (fileOf pool4 2 #[.nestMembers #[47, 59]] #[] 1537 66 #[] #[])
  fields := #[]
  methods := #[]
  instanceTypes := #[]
  staticTypes := #[]
  resolved := Array.replicate 131 none
  statics := none }

def pool5 : Array CpInfo := pool [(1, .class_ 2), (0, u "java/lang/constant/Constable"), (0, .class_ 4), (0, u "java/lang/Object")] 6

/-- java/lang/constant/Constable -/
def k5 : Class := { plain "java/lang/constant/Constable" (some 0) with
  accessFlags := 1537
  interfaces := #[]
  cf := some (fileOf pool5 1 #[] #[] 1537 3 #[] #[])
  fields := #[]
  methods := #[]
  instanceTypes := #[]
  staticTypes := #[]
  resolved := Array.replicate 11 none
  statics := none }

def pool6 : Array CpInfo := pool [(1, .class_ 2), (0, u "java/lang/constant/ConstantDesc"), (0, .class_ 4), (0, u "java/lang/Object")] 32

/-- java/lang/constant/ConstantDesc -/
def k6 : Class := { plain "java/lang/constant/ConstantDesc" (some 0) with
  accessFlags := 1537
  interfaces := #[]
  cf := some (fileOf pool6 1 #[] #[] 1537 3 #[] #[])
  fields := #[]
  methods := #[]
  instanceTypes := #[]
  staticTypes := #[]
  resolved := Array.replicate 37 none
  statics := none }

def pool7 : Array CpInfo := pool [(1, .methodref 2 3), (0, .class_ 4), (0, .nameAndType 5 6), (0, u "java/lang/Object"), (0, u "<init>"), (0, u "()V"), (0, .string 8), (0, u ""), (0, .fieldref 10 11), (0, .class_ 12), (0, .nameAndType 13 14), (0, u "java/lang/String"), (0, u "value"), (0, u "[B"), (0, .fieldref 10 16), (0, .nameAndType 17 18), (0, u "coder"), (0, u "B"), (2, u "hash"), (0, u "I"), (2, u "hashIsZero"), (0, u "Z"), (0, .methodref 10 28), (0, .nameAndType 5 29), (0, u "([CIILjava/lang/Void;)V"), (8, .fieldref 10 39), (0, .nameAndType 40 26), (0, u "COMPACT_STRINGS"), (1, .class_ 44), (1, u "java/lang/StringUTF16"), (0, u "compress"), (1, .methodref 42 48), (0, .nameAndType 49 50), (0, u "coderFromArrayLen"), (0, u "([BI)B"), (126, .methodref 42 178), (0, .nameAndType 45 179), (0, u "([CII)[B"), (363, u "equals"), (29, u "(Ljava/lang/Object;)Z"), (1, .class_ 576), (0, u "java/lang/CharSequence"), (22, u "CASE_INSENSITIVE_ORDER"), (0, u "Ljava/util/Comparator;"), (409, u "([C)V"), (90, u "serialPersistentFields"), (0, u "[Ljava/io/ObjectStreamField;"), (0, .class_ 1104), (0, u "java/lang/String$CaseInsensitiveComparator"), (1, .class_ 1107), (0, u "java/io/Serializable"), (0, .class_ 1109), (0, u "java/lang/Comparable"), (0, .class_ 1111), (0, u "java/lang/constant/Constable"), (0, .class_ 1113), (0, u "java/lang/constant/ConstantDesc"), (2, u "serialVersionUID"), (0, u "J"), (3, u "REPL"), (0, u "C"), (2, u "LATIN1"), (1, u "UTF16")] 323

def k7m0 : Method := { name := "<init>", desc := "()V", sig := { parameters := [], returnType := none }, accessFlags := 1, code := none }
def k7c1 : Code := { maxStack := 5, maxLocals := 2, code := jdk_42_method_3_code, exceptionTable := #[], attributes := #[] }
def k7m1 : Method := { name := "<init>", desc := "([C)V", sig := { parameters := [(.array .char)], returnType := none }, accessFlags := 1, code := some k7c1 }
def k7c2 : Code := { maxStack := 2, maxLocals := 3, code := jdk_42_method_66_code, exceptionTable := #[], attributes := #[] }
def k7m2 : Method := { name := "equals", desc := "(Ljava/lang/Object;)Z", sig := { parameters := [(.object "java/lang/Object")], returnType := some .boolean }, accessFlags := 1, code := some k7c2 }
def k7c3 : Code := { maxStack := 4, maxLocals := 6, code := jdk_42_method_149_code, exceptionTable := #[], attributes := #[] }
def k7m3 : Method := { name := "<init>", desc := "([CIILjava/lang/Void;)V", sig := { parameters := [(.array .char), .int, .int, (.object "java/lang/Void")], returnType := none }, accessFlags := 2, code := some k7c3 }
/-- java/lang/String -/
def k7 : Class := { plain "java/lang/String" (some 0) with
  accessFlags := 49
  interfaces := #[2, 3, 4, 5, 6]
  cf := some (fileOf pool7 10 #[.nestMembers #[1103]] #[{ accessFlags := 1, nameIndex := 5, descriptorIndex := 6, attributes := #[] }, { accessFlags := 1, nameIndex := 5, descriptorIndex := 1010, attributes := #[] }, { accessFlags := 1, nameIndex := 543, descriptorIndex := 573, attributes := #[] }, { accessFlags := 2, nameIndex := 5, descriptorIndex := 29, attributes := #[] }] 49 2 #[1106, 1108, 575, 1110, 1112] #[{ accessFlags := 18, nameIndex := 13, descriptorIndex := 14, attributes := #[] }, { accessFlags := 18, nameIndex := 17, descriptorIndex := 18, attributes := #[] }, { accessFlags := 2, nameIndex := 21, descriptorIndex := 22, attributes := #[] }, { accessFlags := 2, nameIndex := 25, descriptorIndex := 26, attributes := #[] }, { accessFlags := 26, nameIndex := 1116, descriptorIndex := 1117, attributes := #[] }, { accessFlags := 24, nameIndex := 40, descriptorIndex := 26, attributes := #[] }, { accessFlags := 26, nameIndex := 1101, descriptorIndex := 1102, attributes := #[] }, { accessFlags := 26, nameIndex := 1121, descriptorIndex := 1122, attributes := #[] }, { accessFlags := 25, nameIndex := 599, descriptorIndex := 600, attributes := #[] }, { accessFlags := 24, nameIndex := 1125, descriptorIndex := 18, attributes := #[] }, { accessFlags := 24, nameIndex := 1127, descriptorIndex := 18, attributes := #[] }])
  fields := #[{ name := "value", type := (.array .byte), accessFlags := 18, slot := 0, constantValue := 0 }, { name := "coder", type := .byte, accessFlags := 18, slot := 1, constantValue := 0 }, { name := "hash", type := .int, accessFlags := 2, slot := 2, constantValue := 0 }, { name := "hashIsZero", type := .boolean, accessFlags := 2, slot := 3, constantValue := 0 }, { name := "serialVersionUID", type := .long, accessFlags := 26, slot := 0, constantValue := 0 }, { name := "COMPACT_STRINGS", type := .boolean, accessFlags := 24, slot := 1, constantValue := 0 }, { name := "serialPersistentFields", type := (.array (.object "java/io/ObjectStreamField")), accessFlags := 26, slot := 2, constantValue := 0 }, { name := "REPL", type := .char, accessFlags := 26, slot := 3, constantValue := 0 }, { name := "CASE_INSENSITIVE_ORDER", type := (.object "java/util/Comparator"), accessFlags := 25, slot := 4, constantValue := 0 }, { name := "LATIN1", type := .byte, accessFlags := 24, slot := 5, constantValue := 0 }, { name := "UTF16", type := .byte, accessFlags := 24, slot := 6, constantValue := 0 }]
  methods := #[k7m0, k7m1, k7m2, k7m3]
  instanceTypes := #[(.array .byte), .byte, .int, .boolean]
  staticTypes := #[.long, .boolean, (.array (.object "java/io/ObjectStreamField")), .char, (.object "java/util/Comparator"), .byte, .byte]
  resolved := Array.replicate 1451 none
  statics := some 0 }

def pool8 : Array CpInfo := pool [(6, .class_ 8), (1, u "java/lang/Object"), (0, u "<init>"), (0, u "()V"), (1, .class_ 14), (1, u "java/lang/StringUTF16"), (31, u "$assertionsDisabled"), (0, u "Z"), (13, u "HI_BYTE_SHIFT"), (0, u "I"), (2, u "LO_BYTE_SHIFT"), (49, .methodref 12 116), (0, .nameAndType 117 118), (0, u "compress"), (0, u "([CI[BII)I"), (3, u "([CII)[B"), (138, u "coderFromArrayLen"), (0, u "([BI)B"), (106, .class_ 371), (1, u "java/lang/StringUTF16$LinesSpliterator"), (58, u "MAX_LENGTH"), (196, .class_ 628), (0, u "java/lang/StringUTF16$CodePointsSpliterator"), (0, .class_ 630), (0, u "java/lang/StringUTF16$CharsSpliterator")] 4

def k8m0 : Method := { name := "<init>", desc := "()V", sig := { parameters := [], returnType := none }, accessFlags := 0, code := none }
def k8c1 : Code := { maxStack := 2, maxLocals := 2, code := jdk_52_method_15_code, exceptionTable := #[], attributes := #[] }
def k8m1 : Method := { name := "coderFromArrayLen", desc := "([BI)B", sig := { parameters := [(.array .byte), .int], returnType := some .byte }, accessFlags := 8, code := some k8c1 }
def k8c2 : Code := { maxStack := 5, maxLocals := 6, code := jdk_52_method_16_code, exceptionTable := #[], attributes := #[] }
def k8m2 : Method := { name := "compress", desc := "([CII)[B", sig := { parameters := [(.array .char), .int, .int], returnType := some (.array .byte) }, accessFlags := 9, code := some k8c2 }
def k8c3 : Code := { maxStack := 3, maxLocals := 7, code := jdk_52_method_21_code, exceptionTable := #[], attributes := #[] }
def k8m3 : Method := { name := "compress", desc := "([CI[BII)I", sig := { parameters := [(.array .char), .int, (.array .byte), .int, .int], returnType := some .int }, accessFlags := 9, code := some k8c3 }
/-- java/lang/StringUTF16 -/
def k8 : Class := { plain "java/lang/StringUTF16" (some 0) with
  accessFlags := 48
  interfaces := #[]
  cf := some (fileOf pool8 12 #[.nestMembers #[627, 629, 369]] #[{ accessFlags := 0, nameIndex := 9, descriptorIndex := 10, attributes := #[] }, { accessFlags := 8, nameIndex := 261, descriptorIndex := 262, attributes := #[] }, { accessFlags := 9, nameIndex := 117, descriptorIndex := 122, attributes := #[] }, { accessFlags := 9, nameIndex := 117, descriptorIndex := 118, attributes := #[] }] 48 6 #[] #[{ accessFlags := 26, nameIndex := 61, descriptorIndex := 62, attributes := #[] }, { accessFlags := 26, nameIndex := 65, descriptorIndex := 62, attributes := #[] }, { accessFlags := 24, nameIndex := 430, descriptorIndex := 62, attributes := #[] }, { accessFlags := 4120, nameIndex := 46, descriptorIndex := 47, attributes := #[] }])
  fields := #[{ name := "HI_BYTE_SHIFT", type := .int, accessFlags := 26, slot := 0, constantValue := 0 }, { name := "LO_BYTE_SHIFT", type := .int, accessFlags := 26, slot := 1, constantValue := 0 }, { name := "MAX_LENGTH", type := .int, accessFlags := 24, slot := 2, constantValue := 0 }, { name := "$assertionsDisabled", type := .boolean, accessFlags := 4120, slot := 3, constantValue := 0 }]
  methods := #[k8m0, k8m1, k8m2, k8m3]
  instanceTypes := #[]
  staticTypes := #[.int, .int, .int, .boolean]
  resolved := Array.replicate 635 none
  statics := none }

def pool9 : Array CpInfo := pool [(1, .class_ 2), (0, u "java/lang/Math"), (1, .class_ 6), (1, u "java/lang/Object"), (0, u "<init>"), (0, u "()V"), (89, .class_ 100), (1, u "java/lang/Math$RandomNumberGeneratorHolder"), (20, u "(JJ)J"), (50, u "negativeZeroFloatBits"), (0, u "J"), (2, u "negativeZeroDoubleBits"), (21, u "max"), (46, u "$assertionsDisabled"), (0, u "Z"), (91, u "twoToTheDoubleScaleDown"), (0, u "D"), (4, u "twoToTheDoubleScaleUp"), (9, u "E"), (3, u "PI"), (2, u "TAU"), (2, u "DEGREES_TO_RADIANS"), (0, u "RADIANS_TO_DEGREES")] 94

def k9m0 : Method := { name := "<init>", desc := "()V", sig := { parameters := [], returnType := none }, accessFlags := 2, code := none }
def k9c1 : Code := { maxStack := 4, maxLocals := 4, code := jdk_29_method_66_code, exceptionTable := #[], attributes := #[] }
def k9m1 : Method := { name := "max", desc := "(JJ)J", sig := { parameters := [.long, .long], returnType := some .long }, accessFlags := 9, code := some k9c1 }
/-- java/lang/Math -/
def k9 : Class := { plain "java/lang/Math" (some 0) with
  accessFlags := 49
  interfaces := #[]
  cf := some (fileOf pool9 1 #[.nestMembers #[98]] #[{ accessFlags := 2, nameIndex := 7, descriptorIndex := 8, attributes := #[] }, { accessFlags := 9, nameIndex := 198, descriptorIndex := 121, attributes := #[] }] 49 4 #[] #[{ accessFlags := 25, nameIndex := 354, descriptorIndex := 339, attributes := #[] }, { accessFlags := 25, nameIndex := 358, descriptorIndex := 339, attributes := #[] }, { accessFlags := 25, nameIndex := 361, descriptorIndex := 339, attributes := #[] }, { accessFlags := 26, nameIndex := 364, descriptorIndex := 339, attributes := #[] }, { accessFlags := 26, nameIndex := 365, descriptorIndex := 339, attributes := #[] }, { accessFlags := 26, nameIndex := 172, descriptorIndex := 173, attributes := #[] }, { accessFlags := 26, nameIndex := 176, descriptorIndex := 173, attributes := #[] }, { accessFlags := 8, nameIndex := 344, descriptorIndex := 339, attributes := #[] }, { accessFlags := 8, nameIndex := 338, descriptorIndex := 339, attributes := #[] }, { accessFlags := 4120, nameIndex := 245, descriptorIndex := 246, attributes := #[] }])
  fields := #[{ name := "E", type := .double, accessFlags := 25, slot := 0, constantValue := 0 }, { name := "PI", type := .double, accessFlags := 25, slot := 1, constantValue := 0 }, { name := "TAU", type := .double, accessFlags := 25, slot := 2, constantValue := 0 }, { name := "DEGREES_TO_RADIANS", type := .double, accessFlags := 26, slot := 3, constantValue := 0 }, { name := "RADIANS_TO_DEGREES", type := .double, accessFlags := 26, slot := 4, constantValue := 0 }, { name := "negativeZeroFloatBits", type := .long, accessFlags := 26, slot := 5, constantValue := 0 }, { name := "negativeZeroDoubleBits", type := .long, accessFlags := 26, slot := 6, constantValue := 0 }, { name := "twoToTheDoubleScaleUp", type := .double, accessFlags := 8, slot := 7, constantValue := 0 }, { name := "twoToTheDoubleScaleDown", type := .double, accessFlags := 8, slot := 8, constantValue := 0 }, { name := "$assertionsDisabled", type := .boolean, accessFlags := 4120, slot := 9, constantValue := 0 }]
  methods := #[k9m0, k9m1]
  instanceTypes := #[]
  staticTypes := #[.double, .double, .double, .double, .double, .long, .long, .double, .double, .boolean]
  resolved := Array.replicate 460 none
  statics := none }

def pool10 : Array CpInfo := pool [(1, .methodref 2 3), (0, .class_ 4), (0, .nameAndType 5 6), (0, u "java/lang/Object"), (0, u "<init>"), (0, u "()V"), (0, .class_ 8), (0, u "java/lang/Record")] 13

def k10c0 : Code := { maxStack := 1, maxLocals := 1, code := jdk_30_method_1_code, exceptionTable := #[], attributes := #[] }
def k10m0 : Method := { name := "<init>", desc := "()V", sig := { parameters := [], returnType := none }, accessFlags := 4, code := some k10c0 }
/-- java/lang/Record -/
def k10 : Class := { plain "java/lang/Record" (some 0) with
  accessFlags := 1057
  interfaces := #[]
  cf := some (fileOf pool10 7 #[] #[{ accessFlags := 4, nameIndex := 5, descriptorIndex := 6, attributes := #[] }] 1057 2 #[] #[])
  fields := #[]
  methods := #[k10m0]
  instanceTypes := #[]
  staticTypes := #[]
  resolved := Array.replicate 22 none
  statics := none }

def pool11 : Array CpInfo := pool [(1, .methodref 2 3), (0, .class_ 4), (0, .nameAndType 5 6), (0, u "java/lang/Record"), (0, u "<init>"), (0, u "()V"), (0, .string 8), (0, u "name"), (0, .methodref 10 11), (0, .class_ 12), (0, .nameAndType 13 14), (0, u "java/util/Objects"), (0, u "requireNonNull"), (0, u "(Ljava/lang/Object;Ljava/lang/String;)Ljava/lang/Object;"), (0, .string 16), (0, u "node"), (9, .fieldref 27 28), (0, .class_ 29), (0, .nameAndType 8 30), (0, u "com/example/gleipnir/gleipnir/Lease"), (0, u "Ljava/lang/String;"), (0, .fieldref 27 32), (0, .nameAndType 16 30), (0, .fieldref 27 34), (0, .nameAndType 35 36), (0, u "token"), (0, u "J"), (12, u "(Ljava/lang/String;Ljava/lang/String;J)V"), (6, u "()Ljava/lang/String;")] 33

def k11c0 : Code := { maxStack := 4, maxLocals := 5, code := prog_14_method_1_code, exceptionTable := #[], attributes := #[] }
def k11m0 : Method := { name := "<init>", desc := "(Ljava/lang/String;Ljava/lang/String;J)V", sig := { parameters := [(.object "java/lang/String"), (.object "java/lang/String"), .long], returnType := none }, accessFlags := 1, code := some k11c0 }
def k11c1 : Code := { maxStack := 1, maxLocals := 1, code := prog_14_method_5_code, exceptionTable := #[], attributes := #[] }
def k11m1 : Method := { name := "name", desc := "()Ljava/lang/String;", sig := { parameters := [], returnType := some (.object "java/lang/String") }, accessFlags := 1, code := some k11c1 }
/-- com/example/gleipnir/gleipnir/Lease -/
def k11 : Class := { plain "com/example/gleipnir/gleipnir/Lease" (some 10) with
  accessFlags := 49
  interfaces := #[]
  cf := some (fileOf pool11 27 #[] #[{ accessFlags := 1, nameIndex := 5, descriptorIndex := 49, attributes := #[] }, { accessFlags := 1, nameIndex := 8, descriptorIndex := 56, attributes := #[] }] 49 2 #[] #[{ accessFlags := 18, nameIndex := 8, descriptorIndex := 30, attributes := #[] }, { accessFlags := 18, nameIndex := 16, descriptorIndex := 30, attributes := #[] }, { accessFlags := 18, nameIndex := 35, descriptorIndex := 36, attributes := #[] }])
  fields := #[{ name := "name", type := (.object "java/lang/String"), accessFlags := 18, slot := 0, constantValue := 0 }, { name := "node", type := (.object "java/lang/String"), accessFlags := 18, slot := 1, constantValue := 0 }, { name := "token", type := .long, accessFlags := 18, slot := 2, constantValue := 0 }]
  methods := #[k11m0, k11m1]
  instanceTypes := #[(.object "java/lang/String"), (.object "java/lang/String"), .long]
  staticTypes := #[]
  resolved := Array.replicate 90 none
  statics := none }

def pool12 : Array CpInfo := pool [(2, .class_ 4), (1, u "java/lang/Object"), (0, u "<init>"), (0, u "()V"), (35, .class_ 44), (1, u "java/util/Objects"), (0, u "requireNonNull"), (48, u "(Ljava/lang/Object;Ljava/lang/String;)Ljava/lang/Object;")] 89

def k12m0 : Method := { name := "<init>", desc := "()V", sig := { parameters := [], returnType := none }, accessFlags := 2, code := none }
def k12c1 : Code := { maxStack := 3, maxLocals := 2, code := jdk_31_method_11_code, exceptionTable := #[], attributes := #[] }
def k12m1 : Method := { name := "requireNonNull", desc := "(Ljava/lang/Object;Ljava/lang/String;)Ljava/lang/Object;", sig := { parameters := [(.object "java/lang/Object"), (.object "java/lang/String")], returnType := some (.object "java/lang/Object") }, accessFlags := 9, code := some k12c1 }
/-- java/util/Objects -/
def k12 : Class := { plain "java/util/Objects" (some 0) with
  accessFlags := 49
  interfaces := #[]
  cf := some (fileOf pool12 42 #[] #[{ accessFlags := 2, nameIndex := 5, descriptorIndex := 6, attributes := #[] }, { accessFlags := 9, nameIndex := 45, descriptorIndex := 94, attributes := #[] }] 49 2 #[] #[])
  fields := #[]
  methods := #[k12m0, k12m1]
  instanceTypes := #[]
  staticTypes := #[]
  resolved := Array.replicate 184 none
  statics := none }

def pool13 : Array CpInfo := pool [(1, .methodref 2 3), (0, .class_ 4), (0, .nameAndType 5 6), (0, u "java/lang/Object"), (0, u "<init>"), (0, u "()V"), (0, .fieldref 8 9), (0, .class_ 10), (0, .nameAndType 11 12), (0, u "com/example/gleipnir/gleipnir/Acquisition"), (0, u "name"), (0, u "Ljava/lang/String;"), (0, .fieldref 8 14), (0, .nameAndType 15 16), (0, u "lease"), (0, u "Lcom/example/gleipnir/gleipnir/Lease;"), (0, .fieldref 8 18), (0, .nameAndType 19 16), (0, u "holding"), (0, .fieldref 8 21), (0, .nameAndType 22 23), (0, u "heldFor"), (0, u "Ljava/time/Duration;"), (0, .string 15), (0, .methodref 26 27), (0, .class_ 28), (0, .nameAndType 29 30), (0, u "java/util/Objects"), (0, u "requireNonNull"), (0, u "(Ljava/lang/Object;Ljava/lang/String;)Ljava/lang/Object;"), (0, .methodref 32 33), (0, .class_ 34), (0, .nameAndType 11 35), (0, u "com/example/gleipnir/gleipnir/Lease"), (0, u "()Ljava/lang/String;"), (0, .methodref 8 37), (0, .nameAndType 5 38), (0, u "(Ljava/lang/String;Lcom/example/gleipnir/gleipnir/Lease;Lcom/example/gleipnir/gleipnir/Lease;Ljava/time/Duration;)V"), (50, u "()Z"), (9, u "granted"), (0, u "(Lcom/example/gleipnir/gleipnir/Lease;)Lcom/example/gleipnir/gleipnir/Acquisition;"), (2, u "isGranted"), (1, u "()Lcom/example/gleipnir/gleipnir/Lease;")] 43

def k13c0 : Code := { maxStack := 2, maxLocals := 5, code := prog_1_method_1_code, exceptionTable := #[], attributes := #[] }
def k13m0 : Method := { name := "<init>", desc := "(Ljava/lang/String;Lcom/example/gleipnir/gleipnir/Lease;Lcom/example/gleipnir/gleipnir/Lease;Ljava/time/Duration;)V", sig := { parameters := [(.object "java/lang/String"), (.object "com/example/gleipnir/gleipnir/Lease"), (.object "com/example/gleipnir/gleipnir/Lease"), (.object "java/time/Duration")], returnType := none }, accessFlags := 2, code := some k13c0 }
def k13c1 : Code := { maxStack := 6, maxLocals := 1, code := prog_1_method_2_code, exceptionTable := #[], attributes := #[] }
def k13m1 : Method := { name := "granted", desc := "(Lcom/example/gleipnir/gleipnir/Lease;)Lcom/example/gleipnir/gleipnir/Acquisition;", sig := { parameters := [(.object "com/example/gleipnir/gleipnir/Lease")], returnType := some (.object "com/example/gleipnir/gleipnir/Acquisition") }, accessFlags := 9, code := some k13c1 }
def k13c2 : Code := { maxStack := 1, maxLocals := 1, code := prog_1_method_4_code, exceptionTable := #[], attributes := #[] }
def k13m2 : Method := { name := "name", desc := "()Ljava/lang/String;", sig := { parameters := [], returnType := some (.object "java/lang/String") }, accessFlags := 1, code := some k13c2 }
def k13c3 : Code := { maxStack := 1, maxLocals := 1, code := prog_1_method_5_code, exceptionTable := #[], attributes := #[] }
def k13m3 : Method := { name := "isGranted", desc := "()Z", sig := { parameters := [], returnType := some .boolean }, accessFlags := 1, code := some k13c3 }
def k13c4 : Code := { maxStack := 3, maxLocals := 1, code := prog_1_method_6_code, exceptionTable := #[], attributes := #[] }
def k13m4 : Method := { name := "lease", desc := "()Lcom/example/gleipnir/gleipnir/Lease;", sig := { parameters := [], returnType := some (.object "com/example/gleipnir/gleipnir/Lease") }, accessFlags := 1, code := some k13c4 }
/-- com/example/gleipnir/gleipnir/Acquisition -/
def k13 : Class := { plain "com/example/gleipnir/gleipnir/Acquisition" (some 0) with
  accessFlags := 49
  interfaces := #[]
  cf := some (fileOf pool13 8 #[] #[{ accessFlags := 2, nameIndex := 5, descriptorIndex := 38, attributes := #[] }, { accessFlags := 9, nameIndex := 99, descriptorIndex := 100, attributes := #[] }, { accessFlags := 1, nameIndex := 11, descriptorIndex := 35, attributes := #[] }, { accessFlags := 1, nameIndex := 103, descriptorIndex := 89, attributes := #[] }, { accessFlags := 1, nameIndex := 15, descriptorIndex := 105, attributes := #[] }] 49 2 #[] #[{ accessFlags := 18, nameIndex := 11, descriptorIndex := 12, attributes := #[] }, { accessFlags := 18, nameIndex := 15, descriptorIndex := 16, attributes := #[] }, { accessFlags := 18, nameIndex := 19, descriptorIndex := 16, attributes := #[] }, { accessFlags := 18, nameIndex := 22, descriptorIndex := 23, attributes := #[] }])
  fields := #[{ name := "name", type := (.object "java/lang/String"), accessFlags := 18, slot := 0, constantValue := 0 }, { name := "lease", type := (.object "com/example/gleipnir/gleipnir/Lease"), accessFlags := 18, slot := 1, constantValue := 0 }, { name := "holding", type := (.object "com/example/gleipnir/gleipnir/Lease"), accessFlags := 18, slot := 2, constantValue := 0 }, { name := "heldFor", type := (.object "java/time/Duration"), accessFlags := 18, slot := 3, constantValue := 0 }]
  methods := #[k13m0, k13m1, k13m2, k13m3, k13m4]
  instanceTypes := #[(.object "java/lang/String"), (.object "com/example/gleipnir/gleipnir/Lease"), (.object "com/example/gleipnir/gleipnir/Lease"), (.object "java/time/Duration")]
  staticTypes := #[]
  resolved := Array.replicate 149 none
  statics := none }

def pool14 : Array CpInfo := pool [(4, .class_ 6), (1, u "java/lang/Object"), (0, u "<init>"), (0, u "()V"), (5, .class_ 16), (1, u "java/lang/StringLatin1"), (104, u "$assertionsDisabled"), (0, u "Z"), (98, .class_ 223), (1, u "java/lang/StringLatin1$LinesSpliterator"), (166, .class_ 391), (0, u "java/lang/StringLatin1$CharsSpliterator")] 3

def k14m0 : Method := { name := "<init>", desc := "()V", sig := { parameters := [], returnType := none }, accessFlags := 0, code := none }
/-- java/lang/StringLatin1 -/
def k14 : Class := { plain "java/lang/StringLatin1" (some 0) with
  accessFlags := 48
  interfaces := #[]
  cf := some (fileOf pool14 14 #[.nestMembers #[390, 221]] #[{ accessFlags := 0, nameIndex := 7, descriptorIndex := 8, attributes := #[] }] 48 4 #[] #[{ accessFlags := 4120, nameIndex := 121, descriptorIndex := 122, attributes := #[] }])
  fields := #[{ name := "$assertionsDisabled", type := .boolean, accessFlags := 4120, slot := 0, constantValue := 0 }]
  methods := #[k14m0]
  instanceTypes := #[]
  staticTypes := #[.boolean]
  resolved := Array.replicate 395 none
  statics := none }

def pool15 : Array CpInfo := pool [(2, .class_ 4), (1, u "java/lang/Object"), (0, u "<init>"), (0, u "()V"), (17, .class_ 26), (1, u "jdk/internal/util/Preconditions"), (28, .class_ 56), (0, u "jdk/internal/util/Preconditions$4"), (57, .class_ 115), (0, u "jdk/internal/util/Preconditions$1"), (7, u "SIOOBE_FORMATTER"), (0, u "Ljava/util/function/BiFunction;"), (0, .class_ 126), (0, u "jdk/internal/util/Preconditions$2"), (3, u "AIOOBE_FORMATTER"), (0, .class_ 132), (0, u "jdk/internal/util/Preconditions$3"), (3, u "IOOBE_FORMATTER")] 57

def k15m0 : Method := { name := "<init>", desc := "()V", sig := { parameters := [], returnType := none }, accessFlags := 1, code := none }
/-- jdk/internal/util/Preconditions -/
def k15 : Class := { plain "jdk/internal/util/Preconditions" (some 0) with
  accessFlags := 33
  interfaces := #[]
  cf := some (fileOf pool15 24 #[.nestMembers #[55, 131, 125, 114]] #[{ accessFlags := 1, nameIndex := 5, descriptorIndex := 6, attributes := #[] }] 33 2 #[] #[{ accessFlags := 25, nameIndex := 123, descriptorIndex := 124, attributes := #[] }, { accessFlags := 25, nameIndex := 130, descriptorIndex := 124, attributes := #[] }, { accessFlags := 25, nameIndex := 136, descriptorIndex := 124, attributes := #[] }])
  fields := #[{ name := "SIOOBE_FORMATTER", type := (.object "java/util/function/BiFunction"), accessFlags := 25, slot := 0, constantValue := 0 }, { name := "AIOOBE_FORMATTER", type := (.object "java/util/function/BiFunction"), accessFlags := 25, slot := 1, constantValue := 0 }, { name := "IOOBE_FORMATTER", type := (.object "java/util/function/BiFunction"), accessFlags := 25, slot := 2, constantValue := 0 }]
  methods := #[k15m0]
  instanceTypes := #[]
  staticTypes := #[(.object "java/util/function/BiFunction"), (.object "java/util/function/BiFunction"), (.object "java/util/function/BiFunction")]
  resolved := Array.replicate 194 none
  statics := some 1 }

def pool16 : Array CpInfo := pool [(9, u "<init>"), (6, .class_ 18), (1, u "java/lang/Object"), (0, u "()V"), (1, .class_ 23), (1, u "jdk/internal/util/ArraysSupport"), (0, u "LOG2_ARRAY_LONG_INDEX_SCALE"), (0, u "I"), (2, u "U"), (0, u "Ljdk/internal/misc/Unsafe;"), (8, u "BIG_ENDIAN"), (0, u "Z"), (8, u "LOG2_BYTE_BIT_SIZE"), (4, u "LOG2_ARRAY_INT_INDEX_SCALE"), (54, u "JLA"), (0, u "Ljdk/internal/access/JavaLangAccess;"), (11, u "LOG2_ARRAY_BOOLEAN_INDEX_SCALE"), (9, u "LOG2_ARRAY_BYTE_INDEX_SCALE"), (5, u "LOG2_ARRAY_CHAR_INDEX_SCALE"), (5, u "LOG2_ARRAY_SHORT_INDEX_SCALE"), (18, u "LOG2_ARRAY_FLOAT_INDEX_SCALE"), (24, u "LOG2_ARRAY_DOUBLE_INDEX_SCALE"), (89, u "T_BOOLEAN"), (2, u "T_CHAR"), (1, u "T_FLOAT"), (1, u "T_DOUBLE"), (1, u "T_BYTE"), (1, u "T_SHORT"), (1, u "T_INT"), (1, u "T_LONG"), (1, u "SOFT_MAX_ARRAY_LENGTH")] 83

def k16m0 : Method := { name := "<init>", desc := "()V", sig := { parameters := [], returnType := none }, accessFlags := 2, code := none }
/-- jdk/internal/util/ArraysSupport -/
def k16 : Class := { plain "jdk/internal/util/ArraysSupport" (some 0) with
  accessFlags := 33
  interfaces := #[]
  cf := some (fileOf pool16 21 #[] #[{ accessFlags := 2, nameIndex := 9, descriptorIndex := 19, attributes := #[] }] 33 16 #[] #[{ accessFlags := 24, nameIndex := 28, descriptorIndex := 29, attributes := #[] }, { accessFlags := 26, nameIndex := 38, descriptorIndex := 39, attributes := #[] }, { accessFlags := 25, nameIndex := 121, descriptorIndex := 25, attributes := #[] }, { accessFlags := 25, nameIndex := 131, descriptorIndex := 25, attributes := #[] }, { accessFlags := 25, nameIndex := 137, descriptorIndex := 25, attributes := #[] }, { accessFlags := 25, nameIndex := 143, descriptorIndex := 25, attributes := #[] }, { accessFlags := 25, nameIndex := 53, descriptorIndex := 25, attributes := #[] }, { accessFlags := 25, nameIndex := 24, descriptorIndex := 25, attributes := #[] }, { accessFlags := 25, nameIndex := 162, descriptorIndex := 25, attributes := #[] }, { accessFlags := 25, nameIndex := 187, descriptorIndex := 25, attributes := #[] }, { accessFlags := 26, nameIndex := 48, descriptorIndex := 25, attributes := #[] }, { accessFlags := 25, nameIndex := 277, descriptorIndex := 25, attributes := #[] }, { accessFlags := 25, nameIndex := 280, descriptorIndex := 25, attributes := #[] }, { accessFlags := 25, nameIndex := 282, descriptorIndex := 25, attributes := #[] }, { accessFlags := 25, nameIndex := 284, descriptorIndex := 25, attributes := #[] }, { accessFlags := 25, nameIndex := 286, descriptorIndex := 25, attributes := #[] }, { accessFlags := 25, nameIndex := 288, descriptorIndex := 25, attributes := #[] }, { accessFlags := 25, nameIndex := 290, descriptorIndex := 25, attributes := #[] }, { accessFlags := 25, nameIndex := 292, descriptorIndex := 25, attributes := #[] }, { accessFlags := 26, nameIndex := 108, descriptorIndex := 109, attributes := #[] }, { accessFlags := 25, nameIndex := 294, descriptorIndex := 25, attributes := #[] }])
  fields := #[{ name := "U", type := (.object "jdk/internal/misc/Unsafe"), accessFlags := 24, slot := 0, constantValue := 0 }, { name := "BIG_ENDIAN", type := .boolean, accessFlags := 26, slot := 1, constantValue := 0 }, { name := "LOG2_ARRAY_BOOLEAN_INDEX_SCALE", type := .int, accessFlags := 25, slot := 2, constantValue := 0 }, { name := "LOG2_ARRAY_BYTE_INDEX_SCALE", type := .int, accessFlags := 25, slot := 3, constantValue := 0 }, { name := "LOG2_ARRAY_CHAR_INDEX_SCALE", type := .int, accessFlags := 25, slot := 4, constantValue := 0 }, { name := "LOG2_ARRAY_SHORT_INDEX_SCALE", type := .int, accessFlags := 25, slot := 5, constantValue := 0 }, { name := "LOG2_ARRAY_INT_INDEX_SCALE", type := .int, accessFlags := 25, slot := 6, constantValue := 0 }, { name := "LOG2_ARRAY_LONG_INDEX_SCALE", type := .int, accessFlags := 25, slot := 7, constantValue := 0 }, { name := "LOG2_ARRAY_FLOAT_INDEX_SCALE", type := .int, accessFlags := 25, slot := 8, constantValue := 0 }, { name := "LOG2_ARRAY_DOUBLE_INDEX_SCALE", type := .int, accessFlags := 25, slot := 9, constantValue := 0 }, { name := "LOG2_BYTE_BIT_SIZE", type := .int, accessFlags := 26, slot := 10, constantValue := 0 }, { name := "T_BOOLEAN", type := .int, accessFlags := 25, slot := 11, constantValue := 0 }, { name := "T_CHAR", type := .int, accessFlags := 25, slot := 12, constantValue := 0 }, { name := "T_FLOAT", type := .int, accessFlags := 25, slot := 13, constantValue := 0 }, { name := "T_DOUBLE", type := .int, accessFlags := 25, slot := 14, constantValue := 0 }, { name := "T_BYTE", type := .int, accessFlags := 25, slot := 15, constantValue := 0 }, { name := "T_SHORT", type := .int, accessFlags := 25, slot := 16, constantValue := 0 }, { name := "T_INT", type := .int, accessFlags := 25, slot := 17, constantValue := 0 }, { name := "T_LONG", type := .int, accessFlags := 25, slot := 18, constantValue := 0 }, { name := "JLA", type := (.object "jdk/internal/access/JavaLangAccess"), accessFlags := 26, slot := 19, constantValue := 0 }, { name := "SOFT_MAX_ARRAY_LENGTH", type := .int, accessFlags := 25, slot := 20, constantValue := 0 }]
  methods := #[k16m0]
  instanceTypes := #[]
  staticTypes := #[(.object "jdk/internal/misc/Unsafe"), .boolean, .int, .int, .int, .int, .int, .int, .int, .int, .int, .int, .int, .int, .int, .int, .int, .int, .int, (.object "jdk/internal/access/JavaLangAccess"), .int]
  resolved := Array.replicate 378 none
  statics := none }

def pool17 : Array CpInfo := pool [(1, u "java/lang/Cloneable"), (0, .class_ 1), (0, u "java/lang/Object"), (0, .class_ 3)] 3

/-- java/lang/Cloneable -/
def k17 : Class := { plain "java/lang/Cloneable" (some 0) with
  accessFlags := 1537
  interfaces := #[]
  cf := some (fileOf pool17 2 #[] #[] 1537 4 #[] #[])
  fields := #[]
  methods := #[]
  instanceTypes := #[]
  staticTypes := #[]
  resolved := Array.replicate 8 none
  statics := none }

/-- the primitive byte -/
def k18 : Class := { plain "byte" none with kind := .primitive 'B', accessFlags := 0x411 }
/-- [B -/
def k19 : Class := { plain "[B" (some 0) with kind := .array 18 .byte, interfaces := #[17, 2], accessFlags := 1041 }

/-- the primitive char -/
def k20 : Class := { plain "char" none with kind := .primitive 'C', accessFlags := 0x411 }
/-- [C -/
def k21 : Class := { plain "[C" (some 0) with kind := .array 20 .char, interfaces := #[17, 2], accessFlags := 1041 }

/-- the primitive int -/
def k22 : Class := { plain "int" none with kind := .primitive 'I', accessFlags := 0x411 }
/-- [I -/
def k23 : Class := { plain "[I" (some 0) with kind := .array 22 .int, interfaces := #[17, 2], accessFlags := 1041 }

def heap : Heap := #[{ cls := 7, slots := #[.long 0, .int 1, .null, .int 0, .null, .int 0, .int 0], vm := .statics 7 },
  { cls := 15, slots := #[.null, .null, .null], vm := .statics 15 }]
def classes : Array Class := #[k0, k1, k2, k3, k4, k5, k6, k7, k8, k9, k10, k11, k12, k13, k14, k15, k16, k17, k18, k19, k20, k21, k22, k23]
def interned : List (Array UInt16 × Addr) := []
def slotsUsed : Nat := 10
def theMethod : MethodId := ⟨1, 2⟩
def args0 : Array Value := #[.int 5, .int 6, .long 7, .int 8]
def aboutOver (below : List Frame) : State where
  vm := { classes := classes, interned := interned.toArray }
  heap := heap
  slotsUsed := slotsUsed
  threads := #[{ frames := .invoking theMethod args0 :: below }]
def below0 : List Frame := [.native { method := ⟨0, 0⟩, args := #[] }]
def about1 : State := aboutOver below0
def p0 : Program := .bare "" "" ""
def e0 : Env := launch0.env 0 0 0
theorem w_frames : about1.frames = Frame.invoking theMethod args0 :: below0 := rfl
set_option maxRecDepth 65536 in
theorem w_args : argsFit about1.vm theMethod args0 = true := by decide +kernel
set_option maxRecDepth 65536 in
theorem w_heap : heapFits about1 = true := by decide +kernel
set_option maxRecDepth 65536 in
theorem w_runnable : about1.curStatus? = some .runnable := by decide +kernel
set_option maxRecDepth 65536 in
theorem w_alone : about1.alone = true := by decide +kernel
set_option maxRecDepth 65536 in
theorem w_named : about1.methodNamed? x = some theMethod := by decide +kernel
set_option maxRecDepth 65536 in
theorem w_hears : about1.hears theMethod below0 = true := by decide +kernel
set_option maxRecDepth 65536 in
theorem w_ripe : about1.ripe theMethod args0 below0 = true := by decide +kernel
theorem w_running : about1.status = .running := rfl
set_option maxRecDepth 65536 in
theorem w_room : about1.hasRoom e0.platform room_1 = true :=
  launch0.hasRoom_least _ room_1 (by decide +kernel) (by decide +kernel) (by decide +kernel) (by decide +kernel) (by decide +kernel) (by decide +kernel)
theorem allAtoms_all (ts : List Jvm.Cond) (a : Array Jvm.Value) (st : Jvm.State) : (allAtoms ts).before a st = ts.all (fun c => c.before a st) := by
  induction ts with
  | nil => rfl
  | cons c t ih =>
    show (Jvm.Cond.and c (allAtoms t)).before a st = _
    rw [Jvm.Cond.before_and, ih, List.all_cons]
def words1 : List Jvm.Cond := Jvm.Cond.code x code maxLocals ret :: tables_1
/-- a 'code' word, met by the world's own term for the bytes: nothing is compared byte by byte -/
theorem code_word {y : MethodName} {bytes : ByteArray} {mx : Nat} {rt : Option FieldType} {a : Array Value} {s : State} {m : MethodId} {meth : Method} {c : Code} (h1 : s.methodNamed? y = some m) (h2 : s.vm.method? m = some meth) (h3 : meth.code = some c) (h4 : c.code = bytes)
    (h5 : (c.maxLocals == mx && c.exceptionTable.isEmpty && decide (c.maxStack ≤ mostOperands) && decide (meth.sig.returnType = rt) && !meth.locks && decide (parseMethodDescriptor y.desc = some meth.sig)) = true) : (Jvm.Cond.code y bytes mx rt).before a s = true := by
  simp only [Bool.and_eq_true, beq_iff_eq, Bool.not_eq_true', decide_eq_true_eq] at h5
  obtain ⟨⟨⟨⟨⟨g1, g2⟩, g3⟩, g4⟩, g5⟩, g6⟩ := h5
  simp [Cond.before, Cond.holds, Cond.value, h1, h2, h3, h4, g1, g2, g3, g4, g5, g6]
def isCode : Jvm.Cond → Bool
  | .code _ _ _ _ => true
  | _ => false
theorem all_split {L : List Jvm.Cond} {P : Jvm.Cond → Bool} (h1 : L.all (fun c => isCode c || P c) = true) (h2 : ∀ c ∈ L.filter isCode, P c = true) : L.all P = true := by
  refine List.all_eq_true.mpr fun c hc => ?_
  have h := List.all_eq_true.mp h1 c hc
  rcases Bool.eq_false_or_eq_true (isCode c) with hi | hi
  · exact h2 c (List.mem_filter.mpr ⟨hc, hi⟩)
  · simpa [hi] using h
set_option maxRecDepth 65536 in
theorem w_c0 : (Jvm.Cond.code x code maxLocals ret).before args0 about1 = true := code_word (m := ⟨1, 2⟩) (meth := k1m2) (c := k1c2) (by decide +kernel) rfl rfl rfl (by decide +kernel)
set_option maxRecDepth 65536 in
theorem w_c1 : (Jvm.Cond.code ({ cls := "com/example/gleipnir/gleipnir/AcquisitionGrantedPinLaw", name := "drawn", desc := "(IZ)Ljava/lang/String;" } : Jvm.MethodName) method_2_code (3 : Nat) (Option.some (Jvm.ClassFile.FieldType.object "java/lang/String"))).before args0 about1 = true := code_word (m := ⟨1, 1⟩) (meth := k1m1) (c := k1c1) (by decide +kernel) rfl rfl rfl (by decide +kernel)
set_option maxRecDepth 65536 in
theorem w_c2 : (Jvm.Cond.code ({ cls := "java/lang/String", name := "<init>", desc := "([C)V" } : Jvm.MethodName) jdk_42_method_3_code (2 : Nat) (Option.none : Option Jvm.ClassFile.FieldType)).before args0 about1 = true := code_word (m := ⟨7, 1⟩) (meth := k7m1) (c := k7c1) (by decide +kernel) rfl rfl rfl (by decide +kernel)
set_option maxRecDepth 65536 in
theorem w_c3 : (Jvm.Cond.code ({ cls := "java/lang/String", name := "<init>", desc := "([CIILjava/lang/Void;)V" } : Jvm.MethodName) jdk_42_method_149_code (6 : Nat) (Option.none : Option Jvm.ClassFile.FieldType)).before args0 about1 = true := code_word (m := ⟨7, 3⟩) (meth := k7m3) (c := k7c3) (by decide +kernel) rfl rfl rfl (by decide +kernel)
set_option maxRecDepth 65536 in
theorem w_c4 : (Jvm.Cond.code ({ cls := "java/lang/Object", name := "<init>", desc := "()V" } : Jvm.MethodName) object_method_1_code (1 : Nat) (Option.none : Option Jvm.ClassFile.FieldType)).before args0 about1 = true := code_word (m := ⟨0, 0⟩) (meth := k0m0) (c := k0c0) (by decide +kernel) rfl rfl rfl (by decide +kernel)
set_option maxRecDepth 65536 in
theorem w_c5 : (Jvm.Cond.code ({ cls := "java/lang/StringUTF16", name := "compress", desc := "([CII)[B" } : Jvm.MethodName) jdk_52_method_16_code (6 : Nat) (Option.some (Jvm.ClassFile.FieldType.array Jvm.ClassFile.FieldType.byte))).before args0 about1 = true := code_word (m := ⟨8, 2⟩) (meth := k8m2) (c := k8c2) (by decide +kernel) rfl rfl rfl (by decide +kernel)
set_option maxRecDepth 65536 in
theorem w_c6 : (Jvm.Cond.code ({ cls := "java/lang/StringUTF16", name := "compress", desc := "([CI[BII)I" } : Jvm.MethodName) jdk_52_method_21_code (7 : Nat) (Option.some Jvm.ClassFile.FieldType.int)).before args0 about1 = true := code_word (m := ⟨8, 3⟩) (meth := k8m3) (c := k8c3) (by decide +kernel) rfl rfl rfl (by decide +kernel)
set_option maxRecDepth 65536 in
theorem w_c7 : (Jvm.Cond.code ({ cls := "java/lang/StringUTF16", name := "coderFromArrayLen", desc := "([BI)B" } : Jvm.MethodName) jdk_52_method_15_code (2 : Nat) (Option.some Jvm.ClassFile.FieldType.byte)).before args0 about1 = true := code_word (m := ⟨8, 1⟩) (meth := k8m1) (c := k8c1) (by decide +kernel) rfl rfl rfl (by decide +kernel)
set_option maxRecDepth 65536 in
theorem w_c8 : (Jvm.Cond.code ({ cls := "java/lang/Math", name := "max", desc := "(JJ)J" } : Jvm.MethodName) jdk_29_method_66_code (4 : Nat) (Option.some Jvm.ClassFile.FieldType.long)).before args0 about1 = true := code_word (m := ⟨9, 1⟩) (meth := k9m1) (c := k9c1) (by decide +kernel) rfl rfl rfl (by decide +kernel)
set_option maxRecDepth 65536 in
theorem w_c9 : (Jvm.Cond.code ({ cls := "com/example/gleipnir/gleipnir/Lease", name := "<init>", desc := "(Ljava/lang/String;Ljava/lang/String;J)V" } : Jvm.MethodName) prog_14_method_1_code (5 : Nat) (Option.none : Option Jvm.ClassFile.FieldType)).before args0 about1 = true := code_word (m := ⟨11, 0⟩) (meth := k11m0) (c := k11c0) (by decide +kernel) rfl rfl rfl (by decide +kernel)
set_option maxRecDepth 65536 in
theorem w_c10 : (Jvm.Cond.code ({ cls := "java/lang/Record", name := "<init>", desc := "()V" } : Jvm.MethodName) jdk_30_method_1_code (1 : Nat) (Option.none : Option Jvm.ClassFile.FieldType)).before args0 about1 = true := code_word (m := ⟨10, 0⟩) (meth := k10m0) (c := k10c0) (by decide +kernel) rfl rfl rfl (by decide +kernel)
set_option maxRecDepth 65536 in
theorem w_c11 : (Jvm.Cond.code ({ cls := "java/util/Objects", name := "requireNonNull", desc := "(Ljava/lang/Object;Ljava/lang/String;)Ljava/lang/Object;" } : Jvm.MethodName) jdk_31_method_11_code (2 : Nat) (Option.some (Jvm.ClassFile.FieldType.object "java/lang/Object"))).before args0 about1 = true := code_word (m := ⟨12, 1⟩) (meth := k12m1) (c := k12c1) (by decide +kernel) rfl rfl rfl (by decide +kernel)
set_option maxRecDepth 65536 in
theorem w_c12 : (Jvm.Cond.code ({ cls := "com/example/gleipnir/gleipnir/Acquisition", name := "granted", desc := "(Lcom/example/gleipnir/gleipnir/Lease;)Lcom/example/gleipnir/gleipnir/Acquisition;" } : Jvm.MethodName) prog_1_method_2_code (1 : Nat) (Option.some (Jvm.ClassFile.FieldType.object "com/example/gleipnir/gleipnir/Acquisition"))).before args0 about1 = true := code_word (m := ⟨13, 1⟩) (meth := k13m1) (c := k13c1) (by decide +kernel) rfl rfl rfl (by decide +kernel)
set_option maxRecDepth 65536 in
theorem w_c13 : (Jvm.Cond.code ({ cls := "com/example/gleipnir/gleipnir/Lease", name := "name", desc := "()Ljava/lang/String;" } : Jvm.MethodName) prog_14_method_5_code (1 : Nat) (Option.some (Jvm.ClassFile.FieldType.object "java/lang/String"))).before args0 about1 = true := code_word (m := ⟨11, 1⟩) (meth := k11m1) (c := k11c1) (by decide +kernel) rfl rfl rfl (by decide +kernel)
set_option maxRecDepth 65536 in
theorem w_c14 : (Jvm.Cond.code ({ cls := "com/example/gleipnir/gleipnir/Acquisition", name := "<init>", desc := "(Ljava/lang/String;Lcom/example/gleipnir/gleipnir/Lease;Lcom/example/gleipnir/gleipnir/Lease;Ljava/time/Duration;)V" } : Jvm.MethodName) prog_1_method_1_code (5 : Nat) (Option.none : Option Jvm.ClassFile.FieldType)).before args0 about1 = true := code_word (m := ⟨13, 0⟩) (meth := k13m0) (c := k13c0) (by decide +kernel) rfl rfl rfl (by decide +kernel)
set_option maxRecDepth 65536 in
theorem w_c15 : (Jvm.Cond.code ({ cls := "com/example/gleipnir/gleipnir/Acquisition", name := "isGranted", desc := "()Z" } : Jvm.MethodName) prog_1_method_5_code (1 : Nat) (Option.some Jvm.ClassFile.FieldType.boolean)).before args0 about1 = true := code_word (m := ⟨13, 3⟩) (meth := k13m3) (c := k13c3) (by decide +kernel) rfl rfl rfl (by decide +kernel)
set_option maxRecDepth 65536 in
theorem w_c16 : (Jvm.Cond.code ({ cls := "com/example/gleipnir/gleipnir/Acquisition", name := "lease", desc := "()Lcom/example/gleipnir/gleipnir/Lease;" } : Jvm.MethodName) prog_1_method_6_code (1 : Nat) (Option.some (Jvm.ClassFile.FieldType.object "com/example/gleipnir/gleipnir/Lease"))).before args0 about1 = true := code_word (m := ⟨13, 4⟩) (meth := k13m4) (c := k13c4) (by decide +kernel) rfl rfl rfl (by decide +kernel)
set_option maxRecDepth 65536 in
theorem w_c17 : (Jvm.Cond.code ({ cls := "com/example/gleipnir/gleipnir/Acquisition", name := "name", desc := "()Ljava/lang/String;" } : Jvm.MethodName) prog_1_method_4_code (1 : Nat) (Option.some (Jvm.ClassFile.FieldType.object "java/lang/String"))).before args0 about1 = true := code_word (m := ⟨13, 2⟩) (meth := k13m2) (c := k13c2) (by decide +kernel) rfl rfl rfl (by decide +kernel)
set_option maxRecDepth 65536 in
theorem w_c18 : (Jvm.Cond.code ({ cls := "java/lang/String", name := "equals", desc := "(Ljava/lang/Object;)Z" } : Jvm.MethodName) jdk_42_method_66_code (3 : Nat) (Option.some Jvm.ClassFile.FieldType.boolean)).before args0 about1 = true := code_word (m := ⟨7, 2⟩) (meth := k7m2) (c := k7c2) (by decide +kernel) rfl rfl rfl (by decide +kernel)
def codes1 : List Jvm.Cond := [Jvm.Cond.code x code maxLocals ret, Jvm.Cond.code ({ cls := "com/example/gleipnir/gleipnir/AcquisitionGrantedPinLaw", name := "drawn", desc := "(IZ)Ljava/lang/String;" } : Jvm.MethodName) method_2_code (3 : Nat) (Option.some (Jvm.ClassFile.FieldType.object "java/lang/String")), Jvm.Cond.code ({ cls := "java/lang/String", name := "<init>", desc := "([C)V" } : Jvm.MethodName) jdk_42_method_3_code (2 : Nat) (Option.none : Option Jvm.ClassFile.FieldType), Jvm.Cond.code ({ cls := "java/lang/String", name := "<init>", desc := "([CIILjava/lang/Void;)V" } : Jvm.MethodName) jdk_42_method_149_code (6 : Nat) (Option.none : Option Jvm.ClassFile.FieldType), Jvm.Cond.code ({ cls := "java/lang/Object", name := "<init>", desc := "()V" } : Jvm.MethodName) object_method_1_code (1 : Nat) (Option.none : Option Jvm.ClassFile.FieldType), Jvm.Cond.code ({ cls := "java/lang/StringUTF16", name := "compress", desc := "([CII)[B" } : Jvm.MethodName) jdk_52_method_16_code (6 : Nat) (Option.some (Jvm.ClassFile.FieldType.array Jvm.ClassFile.FieldType.byte)), Jvm.Cond.code ({ cls := "java/lang/StringUTF16", name := "compress", desc := "([CI[BII)I" } : Jvm.MethodName) jdk_52_method_21_code (7 : Nat) (Option.some Jvm.ClassFile.FieldType.int), Jvm.Cond.code ({ cls := "java/lang/StringUTF16", name := "coderFromArrayLen", desc := "([BI)B" } : Jvm.MethodName) jdk_52_method_15_code (2 : Nat) (Option.some Jvm.ClassFile.FieldType.byte), Jvm.Cond.code ({ cls := "java/lang/Math", name := "max", desc := "(JJ)J" } : Jvm.MethodName) jdk_29_method_66_code (4 : Nat) (Option.some Jvm.ClassFile.FieldType.long), Jvm.Cond.code ({ cls := "com/example/gleipnir/gleipnir/Lease", name := "<init>", desc := "(Ljava/lang/String;Ljava/lang/String;J)V" } : Jvm.MethodName) prog_14_method_1_code (5 : Nat) (Option.none : Option Jvm.ClassFile.FieldType), Jvm.Cond.code ({ cls := "java/lang/Record", name := "<init>", desc := "()V" } : Jvm.MethodName) jdk_30_method_1_code (1 : Nat) (Option.none : Option Jvm.ClassFile.FieldType), Jvm.Cond.code ({ cls := "java/util/Objects", name := "requireNonNull", desc := "(Ljava/lang/Object;Ljava/lang/String;)Ljava/lang/Object;" } : Jvm.MethodName) jdk_31_method_11_code (2 : Nat) (Option.some (Jvm.ClassFile.FieldType.object "java/lang/Object")), Jvm.Cond.code ({ cls := "com/example/gleipnir/gleipnir/Acquisition", name := "granted", desc := "(Lcom/example/gleipnir/gleipnir/Lease;)Lcom/example/gleipnir/gleipnir/Acquisition;" } : Jvm.MethodName) prog_1_method_2_code (1 : Nat) (Option.some (Jvm.ClassFile.FieldType.object "com/example/gleipnir/gleipnir/Acquisition")), Jvm.Cond.code ({ cls := "com/example/gleipnir/gleipnir/Lease", name := "name", desc := "()Ljava/lang/String;" } : Jvm.MethodName) prog_14_method_5_code (1 : Nat) (Option.some (Jvm.ClassFile.FieldType.object "java/lang/String")), Jvm.Cond.code ({ cls := "com/example/gleipnir/gleipnir/Acquisition", name := "<init>", desc := "(Ljava/lang/String;Lcom/example/gleipnir/gleipnir/Lease;Lcom/example/gleipnir/gleipnir/Lease;Ljava/time/Duration;)V" } : Jvm.MethodName) prog_1_method_1_code (5 : Nat) (Option.none : Option Jvm.ClassFile.FieldType), Jvm.Cond.code ({ cls := "com/example/gleipnir/gleipnir/Acquisition", name := "isGranted", desc := "()Z" } : Jvm.MethodName) prog_1_method_5_code (1 : Nat) (Option.some Jvm.ClassFile.FieldType.boolean), Jvm.Cond.code ({ cls := "com/example/gleipnir/gleipnir/Acquisition", name := "lease", desc := "()Lcom/example/gleipnir/gleipnir/Lease;" } : Jvm.MethodName) prog_1_method_6_code (1 : Nat) (Option.some (Jvm.ClassFile.FieldType.object "com/example/gleipnir/gleipnir/Lease")), Jvm.Cond.code ({ cls := "com/example/gleipnir/gleipnir/Acquisition", name := "name", desc := "()Ljava/lang/String;" } : Jvm.MethodName) prog_1_method_4_code (1 : Nat) (Option.some (Jvm.ClassFile.FieldType.object "java/lang/String")), Jvm.Cond.code ({ cls := "java/lang/String", name := "equals", desc := "(Ljava/lang/Object;)Z" } : Jvm.MethodName) jdk_42_method_66_code (3 : Nat) (Option.some Jvm.ClassFile.FieldType.boolean)]
set_option maxRecDepth 65536 in
theorem codes_eq : words1.filter isCode = codes1 := rfl
theorem w_codes : ∀ c ∈ words1.filter isCode, c.before args0 about1 = true := by
  rw [codes_eq]
  intro c hc
  simp only [codes1, List.mem_cons, List.not_mem_nil, or_false] at hc
  rcases hc with rfl | rfl | rfl | rfl | rfl | rfl | rfl | rfl | rfl | rfl | rfl | rfl | rfl | rfl | rfl | rfl | rfl | rfl | rfl
  · exact w_c0
  · exact w_c1
  · exact w_c2
  · exact w_c3
  · exact w_c4
  · exact w_c5
  · exact w_c6
  · exact w_c7
  · exact w_c8
  · exact w_c9
  · exact w_c10
  · exact w_c11
  · exact w_c12
  · exact w_c13
  · exact w_c14
  · exact w_c15
  · exact w_c16
  · exact w_c17
  · exact w_c18
set_option maxRecDepth 65536 in
theorem w_t1 : (words1.take 24).all (fun c => isCode c || c.before args0 about1) = true := by decide +kernel
set_option maxRecDepth 65536 in
theorem w_t2 : ((words1.drop 24).take 24).all (fun c => isCode c || c.before args0 about1) = true := by decide +kernel
set_option maxRecDepth 65536 in
theorem w_t3 : (((words1.drop 24).drop 24).take 24).all (fun c => isCode c || c.before args0 about1) = true := by decide +kernel
set_option maxRecDepth 65536 in
theorem w_t4 : ((((words1.drop 24).drop 24).drop 24).take 24).all (fun c => isCode c || c.before args0 about1) = true := by decide +kernel
set_option maxRecDepth 65536 in
theorem w_t5 : ((((words1.drop 24).drop 24).drop 24).drop 24).all (fun c => isCode c || c.before args0 about1) = true := by decide +kernel
theorem w_tables : (allAtoms (Jvm.Cond.code x code maxLocals ret :: tables_1)).before args0 about1 = true := by
  rw [allAtoms_all]
  show words1.all (fun c => c.before args0 about1) = true
  refine all_split ?_ w_codes
  rw [← List.take_append_drop 24 words1, List.all_append, w_t1, ← List.take_append_drop 24 (words1.drop 24), List.all_append, w_t2, ← List.take_append_drop 24 ((words1.drop 24).drop 24), List.all_append, w_t3, ← List.take_append_drop 24 (((words1.drop 24).drop 24).drop 24), List.all_append, w_t4, w_t5]
  rfl
set_option maxRecDepth 65536 in
theorem w_rest : rest_1_c.before args0 about1 = true := by decide +kernel
set_option maxRecDepth 65536 in
theorem w_case : (Jvm.Cond.and given_1 narrow_1).before args0 about1 = true := by decide +kernel
set_option maxRecDepth 65536 in
theorem w_consts : constsHeld consts_1 about1 := Jvm.Lit.constsHeldB_iff.mp (by decide +kernel)
theorem w_applies : (headSpec (Jvm.Cond.code x code maxLocals ret :: tables_1) room_1).applies x e0.platform about1 = true :=
  (Spec.applies_iff w_frames).mpr ⟨w_running, w_runnable, w_alone, w_named, w_hears, w_ripe, w_room, w_tables⟩
theorem atStart : AtStart classFile x code maxLocals ret World_1 tables_1 room_1 Calls_1 rest_1 Pre_1 launch0 p0 e0 about1 theMethod args0 below0 :=
  ⟨lists_1, trivial, launch0.admits_env _ _ _, launch0.least_env, fairChoices_fair.cas, fairChoices_fair.clock, w_frames, w_args, w_heap, w_applies, ⟨w_consts, trivial⟩, w_rest, w_case⟩
end start1
theorem witness_1 : WitnessClaimed_1 := ⟨start1.p0, start1.e0, start1.about1, start1.theMethod, start1.args0, start1.below0, start1.atStart⟩
end Jvm.Pilot.@@N@@
