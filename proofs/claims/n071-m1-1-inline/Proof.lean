import JvmDerived
import JvmDerived.Pilot.@@N@@Statement
import JvmDerived.Pilot.@@N@@Code
set_option linter.unusedVariables false
set_option linter.unusedSimpArgs false
set_option maxRecDepth 65536
set_option maxHeartbeats 40000000
/- laws to paste: Road.backV, Road.lenW, Road.codOf, pair_says, wide_lo, wide_hi, narrow_ch, shr0 (cut by pick.py; bodies as the Statement names them) -/
namespace Jvm.Pilot.@@N@@
namespace StrChars
open Jvm Sem ClassFile Op Lib Jvm.Stand Jvm.Free.XT Jvm.Free.ALB Jvm.Free.JM Jvm.Free
open Jvm.Lib.Cold (StaticIs)
/-- a char array whose places are chars -/
def Ch (a : Addr) (A : Cell) (U : State) : Prop := Arr .char a A U ∧ Typed .char A
theorem Ch.mv {a : Addr} {A : Cell} {U U' : State} (h : Ch a A U) (hal : U.vm.Alike U'.vm) (hh : U'.heap = U.heap) : Ch a A U' := ⟨h.1.mv hal hh, h.2⟩
theorem Ch.keep {a : Addr} {A : Cell} {U U' : State} (h : Ch a A U) (hal : U.vm.Alike U'.vm) (hk : U'.heap[a]? = some A) : Ch a A U' := ⟨h.1.keep hal hk, h.2⟩
/-- what place i of a char[]'s cell holds -/
def cv (A : Cell) (i : Nat) : Int32 := match A.slots[i]? with | some (.int x) => x | _ => 0
theorem Ch.get {a : Addr} {A : Cell} {U : State} (h : Ch a A U) {i : Nat} (hi : i < A.slots.size) : A.slots[i]? = some (.int (cv A i)) := by
  have e := Array.getElem?_eq_getElem hi
  have f := h.2 i _ e
  unfold cv; rw [e]
  generalize A.slots[i] = v at f
  cases v <;> simp [fits] at f ⊢
/-- the byte that i2b leaves of a char -/
def lo8 (x : Int32) : Int32 := x.toInt8.toInt32
theorem fits_lo8 (y : Int32) : fits .byte (.int (lo8 y)) = true := by
  have h1 := y.toInt8.le_toInt
  have h2 := y.toInt8.toInt_lt
  simp only [lo8, fits, Bool.and_eq_true, decide_eq_true_eq, Int32.le_iff_toInt_le, Int8.toInt_toInt32, show (-128 : Int32).toInt = -128 from by decide, show (127 : Int32).toInt = 127 from by decide]
  omega
/-- A' is A but that each place j of lo .. hi - 1 holds f j -/
def Laid (A A' : Cell) (lo hi : Nat) (f : Nat → Value) : Prop := A'.cls = A.cls ∧ A'.vm = A.vm ∧ A'.slots.size = A.slots.size ∧ ∀ i, A'.slots[i]? = if lo ≤ i ∧ i < hi then some (f i) else A.slots[i]?
theorem Laid.zero (A : Cell) (lo : Nat) (f : Nat → Value) : Laid A A lo (lo + 0) f := ⟨rfl, rfl, rfl, fun i => by rw [if_neg (by omega)]⟩
theorem Laid.step {A Ak : Cell} {lo k : Nat} {f : Nat → Value} {v : Value} (h : Laid A Ak lo k f) (hlo : lo ≤ k) (hk : k < Ak.slots.size) (hv : v = f k) : Laid A (Ak.setSlot k v) lo (k + 1) f := by
  refine ⟨h.1, h.2.1, by simpa [Cell.setSlot] using h.2.2.1, fun i => ?_⟩
  by_cases e : k = i
  · subst e; rw [Cell.slots_setSlot_self v hk, if_pos (by omega), hv]
  · rw [Cell.slots_setSlot_ne v e, h.2.2.2 i]
    by_cases q : lo ≤ i ∧ i < k
    · rw [if_pos q, if_pos (by omega)]
    · rw [if_neg q, if_neg (by omega)]
def U16 : String := "java/lang/StringUTF16"
namespace Cmp5
def yN : MethodName := ⟨"java/lang/StringUTF16", "compress", "([CI[BII)I"⟩
abbrev yB : ByteArray := jdk_52_method_21_code
theorem d0 : decode yB 0 = .ok (.iconst 0, 1) := by decide +kernel
theorem d1 : decode yB 1 = .ok (.istore 5, 2) := by decide +kernel
theorem d3 : decode yB 3 = .ok (.iload 5, 2) := by decide +kernel
theorem d5 : decode yB 5 = .ok (.iload 4, 2) := by decide +kernel
theorem d7 : decode yB 7 = .ok (.if_icmp (.ge) 37, 3) := by decide +kernel
theorem d10 : decode yB 10 = .ok (.aload_n 0, 1) := by decide +kernel
theorem d11 : decode yB 11 = .ok (.iload_n 1, 1) := by decide +kernel
theorem d12 : decode yB 12 = .ok (.caload, 1) := by decide +kernel
theorem d13 : decode yB 13 = .ok (.istore 6, 2) := by decide +kernel
theorem d15 : decode yB 15 = .ok (.iload 6, 2) := by decide +kernel
theorem d17 : decode yB 17 = .ok (.sipush 255, 3) := by decide +kernel
theorem d20 : decode yB 20 = .ok (.if_icmp (.le) 6, 3) := by decide +kernel
theorem d26 : decode yB 26 = .ok (.aload_n 2, 1) := by decide +kernel
theorem d27 : decode yB 27 = .ok (.iload_n 3, 1) := by decide +kernel
theorem d28 : decode yB 28 = .ok (.iload 6, 2) := by decide +kernel
theorem d30 : decode yB 30 = .ok (.i2b, 1) := by decide +kernel
theorem d31 : decode yB 31 = .ok (.bastore, 1) := by decide +kernel
theorem d32 : decode yB 32 = .ok (.iinc 1 1, 3) := by decide +kernel
theorem d35 : decode yB 35 = .ok (.iinc 3 1, 3) := by decide +kernel
theorem d38 : decode yB 38 = .ok (.iinc 5 1, 3) := by decide +kernel
theorem d41 : decode yB 41 = .ok (.goto (-38), 3) := by decide +kernel
theorem d44 : decode yB 44 = .ok (.iload 4, 2) := by decide +kernel
theorem d46 : decode yB 46 = .ok (.ireturn, 1) := by decide +kernel
def site : List Cond := []
def tab : Cond := tabOf yN yB 7 (some .int) site
def P (b : Addr) (A : Cell) (d : Addr) (B : Cell) (o q len : Nat) (args : Array Value) (s : State) : Prop := args = #[.ref b, .int (Int32.ofNat o), .ref d, .int (Int32.ofNat q), .int (Int32.ofNat len)] ∧ Ch b A s ∧ Arr .byte d B s ∧ b ≠ d ∧ o + len ≤ A.slots.size ∧ q + len ≤ B.slots.size ∧ ∀ i, i < len → ¬ 255 < cv A (o + i)
def E (b : Addr) (A : Cell) (d : Addr) (B : Cell) (o q len : Nat) (r : Option Value) (s u : State) : Prop := r = some (.int (Int32.ofNat len)) ∧ ∃ B', Put d B' s u ∧ Laid B B' q (q + len) (fun j => Value.int (lo8 (cv A (o + (j - q)))))
/-- no char of the range above 255: len; the places written hold each char's low byte -/
theorem law (l : Launch) (b : Addr) (A : Cell) (d : Addr) (B : Cell) (o q len : Nat) : Law l yN 5 5 0 0 yB 7 (some .int) site (P b A d B o q len) (E b A d B o q len) (copyLocs d q len) 0 0 := by
  refine Law.of_walk (plainFor_of_name (by decide +kernel)) (by decide +kernel) (by decide +kernel) (by decide) (fun _ _ h => by rw [h.1]; rfl) (fun _ U U' hal hh h => ⟨h.1, h.2.1.mv hal hh, h.2.2.1.mv hal hh, h.2.2.2⟩) (fun r U U' V V' h1 hal h2 h => ⟨h.1, h.2.elim fun B' q => ⟨B', q.1.mv h1 h2, q.2⟩⟩) ?_
  intro p e s m args below meth c s₁ X0 hexec hbytes hml hret hlk hnm hown hh0 W hP
  obtain ⟨rfl, hA, hB, hne, l1, l2, hp⟩ := hP
  have c1 : Steps p.tables e below (s₁.setTop (entryFrame m #[.ref b, .int (Int32.ofNat o), .ref d, .int (Int32.ofNat q), .int (Int32.ofNat len)] 7)) (s₁.setTop (mkF m 0 #[.val (.ref b), .val (.int (Int32.ofNat o)), .val (.ref d), .val (.int (Int32.ofNat q)), .val (.int (Int32.ofNat len)), .unset, .unset] [])) := entry rfl
  have hA0 := hA.1.mv X0.warmed.alike hh0
  have hB0 := hB.mv X0.warmed.alike hh0
  have a31 := hA.1.2.2.2
  have c2 : Steps p.tables e below (s₁.setTop (entryFrame m #[.ref b, .int (Int32.ofNat o), .ref d, .int (Int32.ofNat q), .int (Int32.ofNat len)] 7)) (s₁.setTop (mkF m 3 #[.val (.ref b), .val (.int (Int32.ofNat o)), .val (.ref d), .val (.int (Int32.ofNat q)), .val (.int (Int32.ofNat len)), .val (.int 0), .unset] [])) := c1.trans (by
    refine iconstV X0.here hexec rfl 0 (hb hbytes d0) (by decide) ?_
    refine XS.istore X0.here hexec rfl (hb hbytes d1) rfl rfl ?_
    exact Steps.refl _)
  have loop : ∀ (r i : Nat), i + r = len → ∀ (z : Slot), (z = .unset ∨ ∃ w, z = .val w ∧ w.category = 1) → ∀ (Tl : State) (Bk : Cell), Stand p l e { frames := 0, locals := 0, cells := 0, slots := 0 } s m #[.ref b, .int (Int32.ofNat o), .ref d, .int (Int32.ofNat q), .int (Int32.ofNat len)] below meth c Tl ([] ++ copyLocs d q i) 0 0 → Put d Bk s₁ Tl → Laid B Bk q (q + i) (fun j => Value.int (lo8 (cv A (o + (j - q))))) →
      Steps p.tables e below (s₁.setTop (entryFrame m #[.ref b, .int (Int32.ofNat o), .ref d, .int (Int32.ofNat q), .int (Int32.ofNat len)] 7)) (Tl.setTop (mkF m 3 #[.val (.ref b), .val (.int (Int32.ofNat (o + i))), .val (.ref d), .val (.int (Int32.ofNat (q + i))), .val (.int (Int32.ofNat len)), .val (.int (Int32.ofNat i)), z] [])) → ∃ (T' : State) (B' : Cell) (z' : Slot), Stand p l e { frames := 0, locals := 0, cells := 0, slots := 0 } s m #[.ref b, .int (Int32.ofNat o), .ref d, .int (Int32.ofNat q), .int (Int32.ofNat len)] below meth c T' ([] ++ copyLocs d q len) 0 0 ∧ Put d B' s₁ T' ∧ Laid B B' q (q + len) (fun j => Value.int (lo8 (cv A (o + (j - q))))) ∧
      Steps p.tables e below (s₁.setTop (entryFrame m #[.ref b, .int (Int32.ofNat o), .ref d, .int (Int32.ofNat q), .int (Int32.ofNat len)] 7)) (T'.setTop (mkF m 3 #[.val (.ref b), .val (.int (Int32.ofNat (o + len))), .val (.ref d), .val (.int (Int32.ofNat (q + len))), .val (.int (Int32.ofNat len)), .val (.int (Int32.ofNat len)), z'] [])) := by
    intro r
    induction r with
    | zero =>
      intro i hi z hz Tl Bk Xl pl fl cl
      have hil : i = len := by omega
      rw [hil] at Xl fl cl
      exact ⟨Tl, Bk, z, Xl, pl, fl, cl⟩
    | succ r ih =>
      intro i hi z hz Tl Bk Xl pl fl cl
      have all := X0.warmed.alike.symm.trans Xl.warmed.alike
      have hAl := hA0.keep all (pl.other hne hA0.1)
      have hBk := hB0.like all pl.1 fl.1 fl.2.1 fl.2.2.1
      have hlt : q + i < Bk.slots.size := by rw [fl.2.2.1]; omega
      have c3 : Steps p.tables e below (s₁.setTop (entryFrame m #[.ref b, .int (Int32.ofNat o), .ref d, .int (Int32.ofNat q), .int (Int32.ofNat len)] 7)) (Tl.setTop (mkF m 12 #[.val (.ref b), .val (.int (Int32.ofNat (o + i))), .val (.ref d), .val (.int (Int32.ofNat (q + i))), .val (.int (Int32.ofNat len)), .val (.int (Int32.ofNat i)), z] [.int (Int32.ofNat (o + i)), .ref b])) := cl.trans (by
        refine XS.iload Xl.here hexec rfl (hb hbytes d3) rfl ?_
        refine XS.iload Xl.here hexec rfl (hb hbytes d5) rfl ?_
        refine XS.icmpNo Xl.here hexec rfl (hb hbytes d7) rfl (ii_ge_f (lt32 (by omega) (by omega))) ?_
        refine XS.aloadN Xl.here hexec rfl (hb hbytes d10) rfl rfl ?_
        refine XS.iloadN Xl.here hexec rfl (hb hbytes d11) rfl ?_
        exact Steps.refl _)
      have c4 : Steps p.tables e below (s₁.setTop (entryFrame m #[.ref b, .int (Int32.ofNat o), .ref d, .int (Int32.ofNat q), .int (Int32.ofNat len)] 7)) (Tl.setTop (mkF m 13 #[.val (.ref b), .val (.int (Int32.ofNat (o + i))), .val (.ref d), .val (.int (Int32.ofNat (q + i))), .val (.int (Int32.ofNat len)), .val (.int (Int32.ofNat i)), z] [.int (cv A (o + i))])) := c3.trans (by
        refine Xl.aget hexec hAl rfl (hA.get (i := o + i) (by omega)) rfl rfl (hb hbytes d12) ?_
        exact Steps.refl _)
      have c5 : Steps p.tables e below (s₁.setTop (entryFrame m #[.ref b, .int (Int32.ofNat o), .ref d, .int (Int32.ofNat q), .int (Int32.ofNat len)] 7)) (Tl.setTop (mkF m 15 #[.val (.ref b), .val (.int (Int32.ofNat (o + i))), .val (.ref d), .val (.int (Int32.ofNat (q + i))), .val (.int (Int32.ofNat len)), .val (.int (Int32.ofNat i)), .val (.int (cv A (o + i)))] [])) := c4.trans (by
        refine XS.istoreS Xl.here hexec rfl (hb hbytes d13) rfl rfl hz ?_
        exact Steps.refl _)
      have c6 : Steps p.tables e below (s₁.setTop (entryFrame m #[.ref b, .int (Int32.ofNat o), .ref d, .int (Int32.ofNat q), .int (Int32.ofNat len)] 7)) (Tl.setTop (mkF m 31 #[.val (.ref b), .val (.int (Int32.ofNat (o + i))), .val (.ref d), .val (.int (Int32.ofNat (q + i))), .val (.int (Int32.ofNat len)), .val (.int (Int32.ofNat i)), .val (.int (cv A (o + i)))] [.int (lo8 (cv A (o + i))), .int (Int32.ofNat (q + i)), .ref d])) := c5.trans (by
        refine XS.iload Xl.here hexec rfl (hb hbytes d15) rfl ?_
        refine sipushV Xl.here hexec rfl 255 (hb hbytes d17) (by decide) ?_
        refine XS.icmpYes Xl.here hexec rfl (pc0 := 20) rfl (hb hbytes d20) rfl (ii_le_t (hp i (by omega))) (by decide) rfl ?_
        refine XS.aloadN Xl.here hexec rfl (hb hbytes d26) rfl rfl ?_
        refine XS.iloadN Xl.here hexec rfl (hb hbytes d27) rfl ?_
        refine XS.iload Xl.here hexec rfl (hb hbytes d28) rfl ?_
        refine i2b Xl.here hexec rfl (hb hbytes d30) rfl ?_
        exact Steps.refl _)
      obtain ⟨T7, X7, p7, st7⟩ := Xl.aput hexec hBk rfl hlt rfl (fits_lo8 (cv A (o + i))) (g := (mkF m 31 #[.val (.ref b), .val (.int (Int32.ofNat (o + i))), .val (.ref d), .val (.int (Int32.ofNat (q + i))), .val (.int (Int32.ofNat len)), .val (.int (Int32.ofNat i)), .val (.int (cv A (o + i)))] [.int (lo8 (cv A (o + i))), .int (Int32.ofNat (q + i)), .ref d])) rfl (rest := []) rfl (hb hbytes d31)
      have c8 : Steps p.tables e below (s₁.setTop (entryFrame m #[.ref b, .int (Int32.ofNat o), .ref d, .int (Int32.ofNat q), .int (Int32.ofNat len)] 7)) (T7.setTop (mkF m 32 #[.val (.ref b), .val (.int (Int32.ofNat (o + i))), .val (.ref d), .val (.int (Int32.ofNat (q + i))), .val (.int (Int32.ofNat len)), .val (.int (Int32.ofNat i)), .val (.int (cv A (o + i)))] [])) := c6.trans (st7 _ (Steps.refl _))
      have c9 : Steps p.tables e below (s₁.setTop (entryFrame m #[.ref b, .int (Int32.ofNat o), .ref d, .int (Int32.ofNat q), .int (Int32.ofNat len)] 7)) (T7.setTop (mkF m 3 #[.val (.ref b), .val (.int (Int32.ofNat (o + i) + 1)), .val (.ref d), .val (.int (Int32.ofNat (q + i) + 1)), .val (.int (Int32.ofNat len)), .val (.int (Int32.ofNat i + 1)), .val (.int (cv A (o + i)))] [])) := c8.trans (by
        refine iincV X7.here hexec rfl 1 (hb hbytes d32) (by decide) rfl rfl ?_
        refine iincV X7.here hexec rfl 1 (hb hbytes d35) (by decide) rfl rfl ?_
        refine iincV X7.here hexec rfl 1 (hb hbytes d38) (by decide) rfl rfl ?_
        refine XS.goto X7.here hexec rfl (pc0 := 41) rfl (hb hbytes d41) (by decide) rfl ?_
        exact Steps.refl _)
      have c10 : Steps p.tables e below (s₁.setTop (entryFrame m #[.ref b, .int (Int32.ofNat o), .ref d, .int (Int32.ofNat q), .int (Int32.ofNat len)] 7)) (T7.setTop (mkF m 3 #[.val (.ref b), .val (.int (Int32.ofNat (o + (i + 1)))), .val (.ref d), .val (.int (Int32.ofNat (q + (i + 1)))), .val (.int (Int32.ofNat len)), .val (.int (Int32.ofNat (i + 1))), .val (.int (cv A (o + i)))] [])) := by
        have := c9
        rw [succ32, succ32, succ32] at this
        exact this
      exact ih (i + 1) (by omega) _ (Or.inr ⟨_, rfl, rfl⟩) T7 _ (by rw [copyLocs_step, ← List.append_assoc]; exact X7) (pl.trans p7) (fl.step (by omega) hlt (by simp)) c10
  obtain ⟨T9, B9, z9, X9, p9, f9, g9⟩ := loop len 0 (by omega) .unset (Or.inl rfl) s₁ B (by simpa [copyLocs] using X0) ⟨hB0.1, fun _ _ => rfl, rfl⟩ (Laid.zero _ _ _) c2
  have c11 : Steps p.tables e below (s₁.setTop (entryFrame m #[.ref b, .int (Int32.ofNat o), .ref d, .int (Int32.ofNat q), .int (Int32.ofNat len)] 7)) (T9.setTop (mkF m 46 #[.val (.ref b), .val (.int (Int32.ofNat (o + len))), .val (.ref d), .val (.int (Int32.ofNat (q + len))), .val (.int (Int32.ofNat len)), .val (.int (Int32.ofNat len)), z9] [.int (Int32.ofNat len)])) := g9.trans (by
    refine XS.iload X9.here hexec rfl (hb hbytes d3) rfl ?_
    refine XS.iload X9.here hexec rfl (hb hbytes d5) rfl ?_
    refine XS.icmpYes X9.here hexec rfl (pc0 := 7) rfl (hb hbytes d7) rfl (ii_ge_t (nlt32 (by omega) (Nat.le_refl _))) (by decide) rfl ?_
    refine XS.iload X9.here hexec rfl (hb hbytes d44) rfl ?_
    exact Steps.refl _)
  exact ⟨T9, some (.int (Int32.ofNat len)), _, _, _, X9, by simp, rfl, rfl, (fun h => by cases h), ⟨rfl, B9, p9.from hh0, f9⟩, fun fs hl => c11.trans (X9.ireturnOut hexec hret rfl (Or.inl rfl) (hb hbytes d46) hl)⟩
end Cmp5
namespace Cmp3
def yN : MethodName := ⟨"java/lang/StringUTF16", "compress", "([CII)[B"⟩
abbrev yB : ByteArray := jdk_52_method_16_code
theorem d0 : decode yB 0 = .ok (.iload_n 2, 1) := by decide +kernel
theorem d1 : decode yB 1 = .ok (.newarray .byte, 2) := by decide +kernel
theorem d3 : decode yB 3 = .ok (.astore_n 3, 1) := by decide +kernel
theorem d4 : decode yB 4 = .ok (.aload_n 0, 1) := by decide +kernel
theorem d5 : decode yB 5 = .ok (.iload_n 1, 1) := by decide +kernel
theorem d6 : decode yB 6 = .ok (.aload_n 3, 1) := by decide +kernel
theorem d7 : decode yB 7 = .ok (.iconst 0, 1) := by decide +kernel
theorem d8 : decode yB 8 = .ok (.iload_n 2, 1) := by decide +kernel
theorem d9 : decode yB 9 = .ok (.invokestatic 115, 3) := by decide +kernel
theorem d12 : decode yB 12 = .ok (.istore 4, 2) := by decide +kernel
theorem d14 : decode yB 14 = .ok (.iload 4, 2) := by decide +kernel
theorem d16 : decode yB 16 = .ok (.iload_n 2, 1) := by decide +kernel
theorem d17 : decode yB 17 = .ok (.if_icmp (.eq) 40, 3) := by decide +kernel
theorem d57 : decode yB 57 = .ok (.aload_n 3, 1) := by decide +kernel
theorem d58 : decode yB 58 = .ok (.areturn, 1) := by decide +kernel
def site : List Cond := [.arrayClass .byte, Cmp5.tab] ++ staticW U16 115 Cmp5.yN
def tab : Cond := tabOf yN yB 6 (some (.array .byte)) site
def P (b : Addr) (A : Cell) (o len : Nat) (args : Array Value) (s : State) : Prop := args = #[.ref b, .int (Int32.ofNat o), .int (Int32.ofNat len)] ∧ Ch b A s ∧ o + len ≤ A.slots.size ∧ len ≤ 536870912 ∧ ∀ i, i < len → ¬ 255 < cv A (o + i)
def E (b : Addr) (A : Cell) (o len : Nat) (r : Option Value) (s u : State) : Prop := NewArr .byte "[B" len (fun j => .int (lo8 (cv A (o + j)))) r s u ∧ u.heap.size = s.heap.size + 1
/-- no char of the range above 255: a new byte[] of their low bytes -/
theorem law (l : Launch) (b : Addr) (A : Cell) (o len : Nat) : Law l yN 3 3 1 18 yB 6 (some (.array .byte)) site (P b A o len) (E b A o len) [] 1 len := by
  refine Law.of_walk (plainFor_of_name (by decide +kernel)) (by decide +kernel) (by decide +kernel) (by decide) (fun _ _ h => by rw [h.1]; rfl) (fun _ U U' hal hh h => ⟨h.1, h.2.1.mv hal hh, h.2.2⟩) (fun r U U' V V' h1 hal h2 h => ⟨NewArr.mv r U U' V V' h1 hal h2 h.1, by rw [h1, h2]; exact h.2⟩) ?_
  intro p e s m args below meth c s₁ X0 hexec hbytes hml hret hlk hnm hown hh0 W hP
  obtain ⟨rfl, hA, l1, l2, hp⟩ := hP
  have a31 := hA.1.2.2.2
  have c1 : Steps p.tables e below (s₁.setTop (entryFrame m #[.ref b, .int (Int32.ofNat o), .int (Int32.ofNat len)] 6)) (s₁.setTop (mkF m 0 #[.val (.ref b), .val (.int (Int32.ofNat o)), .val (.int (Int32.ofNat len)), .unset, .unset, .unset] [])) := entry rfl
  have c2 : Steps p.tables e below (s₁.setTop (entryFrame m #[.ref b, .int (Int32.ofNat o), .int (Int32.ofNat len)] 6)) (s₁.setTop (mkF m 1 #[.val (.ref b), .val (.int (Int32.ofNat o)), .val (.int (Int32.ofNat len)), .unset, .unset, .unset] [.int (Int32.ofNat len)])) := c1.trans (by
    refine XS.iloadN X0.here hexec rfl (hb hbytes d0) rfl ?_
    exact Steps.refl _)
  obtain ⟨T3, B3, X3, ba3, bs3, bv3, bh3, bf3, st3⟩ := X0.anew hexec (atype := .byte) (wk W (.arrayClass .byte)) rfl (by show len * 1 ≤ _; omega) (by omega) (g := (mkF m 1 #[.val (.ref b), .val (.int (Int32.ofNat o)), .val (.int (Int32.ofNat len)), .unset, .unset, .unset] [.int (Int32.ofNat len)])) rfl (hb hbytes d1) (rest := []) rfl (Nat.le_refl _) (by show 0 + len ≤ len; omega)
  rw [hh0] at ba3 st3
  have kp3 : XT.Kept s T3 := (XT.Kept.of_eq hh0).push bh3
  have hA3 := hA.keep X3.warmed.alike (kp3 _ _ hA.1.1)
  have hne : b ≠ s.heap.size := hA.1.ne
  have c4 : Steps p.tables e below (s₁.setTop (entryFrame m #[.ref b, .int (Int32.ofNat o), .int (Int32.ofNat len)] 6)) (T3.setTop (mkF m 3 #[.val (.ref b), .val (.int (Int32.ofNat o)), .val (.int (Int32.ofNat len)), .unset, .unset, .unset] [.ref s.heap.size])) := c2.trans (st3 _ (Steps.refl _))
  have c5 : Steps p.tables e below (s₁.setTop (entryFrame m #[.ref b, .int (Int32.ofNat o), .int (Int32.ofNat len)] 6)) (T3.setTop (mkF m 9 #[.val (.ref b), .val (.int (Int32.ofNat o)), .val (.int (Int32.ofNat len)), .val (.ref s.heap.size), .unset, .unset] [.int (Int32.ofNat len), .int 0, .ref s.heap.size, .int (Int32.ofNat o), .ref b])) := c4.trans (by
    refine XS.astoreN X3.here hexec rfl (hb hbytes d3) rfl rfl rfl ?_
    refine XS.aloadN X3.here hexec rfl (hb hbytes d4) rfl rfl ?_
    refine XS.iloadN X3.here hexec rfl (hb hbytes d5) rfl ?_
    refine XS.aloadN X3.here hexec rfl (hb hbytes d6) rfl rfl ?_
    refine iconstV X3.here hexec rfl 0 (hb hbytes d7) (by decide) ?_
    refine XS.iloadN X3.here hexec rfl (hb hbytes d8) rfl ?_
    exact Steps.refl _)
  obtain ⟨v6, T6, X6, E6, g6⟩ := X3.callS hexec (Cmp5.law l b A s.heap.size B3 o 0 len) hown (wks W (staticW U16 115 Cmp5.yN)) (wk W Cmp5.tab) (W := 0) (Nat.le_of_ble_eq_true rfl) (Nat.le_of_ble_eq_true rfl) (Nat.le_refl _) (by show 0 + len + 0 ≤ len; omega) (g := (mkF m 9 #[.val (.ref b), .val (.int (Int32.ofNat o)), .val (.int (Int32.ofNat len)), .val (.ref s.heap.size), .unset, .unset] [.int (Int32.ofNat len), .int (Int32.ofNat 0), .ref s.heap.size, .int (Int32.ofNat o), .ref b])) rfl (by rw [hml]; rfl) c5 (argsL := [.ref b, .int (Int32.ofNat o), .ref s.heap.size, .int (Int32.ofNat 0), .int (Int32.ofNat len)]) (rest := []) rfl rfl (by show 2 * 0 + 0 ≤ _; decide) (hb hbytes d9) (⟨rfl, hA3, ba3, hne, l1, by rw [bs3]; simp, hp⟩)
  obtain ⟨rfl, B6, p6, f6⟩ := E6
  have c7 : Steps p.tables e below (s₁.setTop (entryFrame m #[.ref b, .int (Int32.ofNat o), .int (Int32.ofNat len)] 6)) (T6.setTop (mkF m 12 #[.val (.ref b), .val (.int (Int32.ofNat o)), .val (.int (Int32.ofNat len)), .val (.ref s.heap.size), .unset, .unset] [.int (Int32.ofNat len)])) := g6
  have c8 : Steps p.tables e below (s₁.setTop (entryFrame m #[.ref b, .int (Int32.ofNat o), .int (Int32.ofNat len)] 6)) (T6.setTop (mkF m 58 #[.val (.ref b), .val (.int (Int32.ofNat o)), .val (.int (Int32.ofNat len)), .val (.ref s.heap.size), .val (.int (Int32.ofNat len)), .unset] [.ref s.heap.size])) := c7.trans (by
    refine XS.istore X6.here hexec rfl (hb hbytes d12) rfl rfl ?_
    refine XS.iload X6.here hexec rfl (hb hbytes d14) rfl ?_
    refine XS.iloadN X6.here hexec rfl (hb hbytes d16) rfl ?_
    refine XS.icmpYes X6.here hexec rfl (pc0 := 17) rfl (hb hbytes d17) rfl (ii_eq_t rfl) (by decide) rfl ?_
    refine XS.aloadN X6.here hexec rfl (hb hbytes d57) rfl rfl ?_
    exact Steps.refl _)
  have X8 := X6.wide (L' := []) (cells' := 1) (slots' := len) (fun x hx hlt => by
    simp only [List.nil_append, copyLocs, List.mem_map, List.mem_range] at hx
    obtain ⟨i, -, rfl⟩ := hx
    exact absurd hlt (Nat.lt_irrefl _)) (Nat.le_refl _) (by omega)
  exact ⟨T6, some (.ref s.heap.size), _, _, _, X8, rfl, rfl, rfl, (fun h => by cases h), ⟨⟨rfl, B6, ba3.like (X3.warmed.alike.symm.trans X6.warmed.alike) p6.1 f6.1 f6.2.1 f6.2.2.1, f6.2.1.trans bv3, by rw [X6.warmed.alike.findClass, f6.1]; exact bf3, by rw [f6.2.2.1, bs3]; simp, fun j hj => by rw [f6.2.2.2 j, if_pos (by omega)]; rfl, kp3.put p6 (Nat.le_refl _)⟩, by rw [p6.2.2, bh3, hh0]; simp⟩, fun fs hl => c8.trans (X8.areturnOut hexec rfl hret rfl (hb hbytes d58) hl)⟩
end Cmp3
namespace CodL
def yN : MethodName := ⟨"java/lang/StringUTF16", "coderFromArrayLen", "([BI)B"⟩
abbrev yB : ByteArray := jdk_52_method_15_code
theorem d0 : decode yB 0 = .ok (.iload_n 1, 1) := by decide +kernel
theorem d1 : decode yB 1 = .ok (.aload_n 0, 1) := by decide +kernel
theorem d2 : decode yB 2 = .ok (.arraylength, 1) := by decide +kernel
theorem d3 : decode yB 3 = .ok (.isub, 1) := by decide +kernel
theorem d4 : decode yB 4 = .ok (.bipush 31, 2) := by decide +kernel
theorem d6 : decode yB 6 = .ok (.iushr, 1) := by decide +kernel
theorem d7 : decode yB 7 = .ok (.i2b, 1) := by decide +kernel
theorem d8 : decode yB 8 = .ok (.ireturn, 1) := by decide +kernel
def site : List Cond := []
def tab : Cond := tabOf yN yB 2 (some .byte) site
def P (d : Addr) (B : Cell) (args : Array Value) (s : State) : Prop := args = #[.ref d, .int (Int32.ofNat B.slots.size)] ∧ Arr .byte d B s
def E (r : Option Value) (s u : State) : Prop := XT.PureE (some (.int 0)) r s u
/-- an array as long as the number of chars: LATIN1 -/
theorem law (l : Launch) (d : Addr) (B : Cell) : Law l yN 2 2 0 0 yB 2 (some .byte) site (P d B) E [] 0 0 := by
  refine Law.of_walk (plainFor_of_name (by decide +kernel)) (by decide +kernel) (by decide +kernel) (by decide) (fun _ _ h => by rw [h.1]; rfl) (fun _ U U' hal hh h => ⟨h.1, h.2.mv hal hh⟩) (fun r U U' V V' h1 hal h2 h => XT.PureE.mv r U U' V V' h1 hal h2 h) ?_
  intro p e s m args below meth c s₁ X0 hexec hbytes hml hret hlk hnm hown hh0 W hP
  obtain ⟨rfl, hB⟩ := hP
  have hB0 := hB.mv X0.warmed.alike hh0
  have c1 : Steps p.tables e below (s₁.setTop (entryFrame m #[.ref d, .int (Int32.ofNat B.slots.size)] 2)) (s₁.setTop (mkF m 0 #[.val (.ref d), .val (.int (Int32.ofNat B.slots.size))] [])) := entry rfl
  have c2 : Steps p.tables e below (s₁.setTop (entryFrame m #[.ref d, .int (Int32.ofNat B.slots.size)] 2)) (s₁.setTop (mkF m 2 #[.val (.ref d), .val (.int (Int32.ofNat B.slots.size))] [.ref d, .int (Int32.ofNat B.slots.size)])) := c1.trans (by
    refine XS.iloadN X0.here hexec rfl (hb hbytes d0) rfl ?_
    refine XS.aloadN X0.here hexec rfl (hb hbytes d1) rfl rfl ?_
    exact Steps.refl _)
  have c3 : Steps p.tables e below (s₁.setTop (entryFrame m #[.ref d, .int (Int32.ofNat B.slots.size)] 2)) (s₁.setTop (mkF m 8 #[.val (.ref d), .val (.int (Int32.ofNat B.slots.size))] [.int (lo8 (ushr (Int32.ofNat B.slots.size - Int32.ofNat B.slots.size) 31))])) := c2.trans (by
    refine X0.alen hexec hB0 rfl rfl (hb hbytes d2) ?_
    refine XS.isub X0.here hexec rfl (hb hbytes d3) rfl ?_
    refine bipushV X0.here hexec rfl 31 (hb hbytes d4) (by decide) ?_
    refine iushr X0.here hexec rfl (hb hbytes d6) rfl ?_
    refine i2b X0.here hexec rfl (hb hbytes d7) rfl ?_
    exact Steps.refl _)
  have e0 : lo8 (ushr (Int32.ofNat B.slots.size - Int32.ofNat B.slots.size) 31) = 0 := by rw [Int32.sub_self]; decide
  rw [e0] at c3
  exact ⟨s₁, some (.int 0), _, _, _, X0, rfl, rfl, rfl, (fun h => by cases h), ⟨rfl, hh0⟩, fun fs hl => c3.trans (X0.ireturnOut hexec hret rfl (Or.inr (Or.inr (Or.inl rfl))) (hb hbytes d8) hl)⟩
end CodL
/-- the String at a is Latin-1 over a new byte[] (the heap's one new cell): the low bytes of the len chars of A from o on; every cell but a is kept -/
def Got (a : Addr) (D : Cell) (fV fC : Field) (A : Cell) (o len : Nat) (r : Option Value) (s u : State) : Prop := r = none ∧ ∃ D' V : Cell, Blank "java/lang/String" a D' u ∧ Same D D' [fV.slot, fC.slot] ∧ D'.slots[fV.slot]? = some (.ref s.heap.size) ∧ D'.slots[fC.slot]? = some (.int 0) ∧ Arr .byte s.heap.size V u ∧ V.vm = .none ∧ u.vm.findClass "[B" = some V.cls ∧ V.slots.size = len ∧ (∀ j, j < len → V.slots[j]? = some (.int (lo8 (cv A (o + j))))) ∧ (∀ (y : Addr) (c : Cell), y ≠ a → s.heap[y]? = some c → u.heap[y]? = some c) ∧ u.heap.size = s.heap.size + 1
theorem Got.mv {a : Addr} {D A : Cell} {fV fC : Field} {o len : Nat} : ∀ r (U U' V V' : State), U'.heap = U.heap → V.vm.Alike V'.vm → V'.heap = V.heap → Got a D fV fC A o len r U V → Got a D fV fC A o len r U' V' :=
  fun r U U' V V' h1 hal h2 ⟨e0, D', X, a1, a2, a3, a4, a5, a6, a7, a8, a9, a10, a11⟩ => ⟨e0, D', X, a1.mv hal h2, a2, by rw [h1]; exact a3, a4, by rw [h1]; exact a5.mv hal h2, a6, by rw [hal.findClass]; exact a7, a8, a9, by rw [h1, h2]; exact a10, by rw [h1, h2]; exact a11⟩
namespace New4
def yN : MethodName := ⟨"java/lang/String", "<init>", "([CIILjava/lang/Void;)V"⟩
abbrev yB : ByteArray := jdk_42_method_149_code
theorem d0 : decode yB 0 = .ok (.aload_n 0, 1) := by decide +kernel
theorem d1 : decode yB 1 = .ok (.invokespecial 1, 3) := by decide +kernel
theorem d4 : decode yB 4 = .ok (.iload_n 3, 1) := by decide +kernel
theorem d5 : decode yB 5 = .ok (.ifCond (.ne) 22, 3) := by decide +kernel
theorem d27 : decode yB 27 = .ok (.getstatic 38, 3) := by decide +kernel
theorem d30 : decode yB 30 = .ok (.ifCond (.eq) 28, 3) := by decide +kernel
theorem d33 : decode yB 33 = .ok (.aload_n 1, 1) := by decide +kernel
theorem d34 : decode yB 34 = .ok (.iload_n 2, 1) := by decide +kernel
theorem d35 : decode yB 35 = .ok (.iload_n 3, 1) := by decide +kernel
theorem d36 : decode yB 36 = .ok (.invokestatic 177, 3) := by decide +kernel
theorem d39 : decode yB 39 = .ok (.astore 5, 2) := by decide +kernel
theorem d41 : decode yB 41 = .ok (.aload_n 0, 1) := by decide +kernel
theorem d42 : decode yB 42 = .ok (.aload 5, 2) := by decide +kernel
theorem d44 : decode yB 44 = .ok (.iload_n 3, 1) := by decide +kernel
theorem d45 : decode yB 45 = .ok (.invokestatic 47, 3) := by decide +kernel
theorem d48 : decode yB 48 = .ok (.putfield 15, 3) := by decide +kernel
theorem d51 : decode yB 51 = .ok (.aload_n 0, 1) := by decide +kernel
theorem d52 : decode yB 52 = .ok (.aload 5, 2) := by decide +kernel
theorem d54 : decode yB 54 = .ok (.putfield 9, 3) := by decide +kernel
theorem d57 : decode yB 57 = .ok (.return_, 1) := by decide +kernel
def site : List Cond := [.fieldLink "java/lang/String" 38 "java/lang/String" "COMPACT_STRINGS" "Z", Cmp3.tab, CodL.tab, .laysFinal "java/lang/String" "java/lang/String" "value" "[B", .fieldLink "java/lang/String" 9 "java/lang/String" "value" "[B", .laysFinal "java/lang/String" "java/lang/String" "coder" "B", .fieldLink "java/lang/String" 15 "java/lang/String" "coder" "B"] ++ objW "java/lang/String" 1 ++ staticW "java/lang/String" 177 Cmp3.yN ++ staticW "java/lang/String" 47 CodL.yN
def tab : Cond := tabOf yN yB 6 none site
def P (a : Addr) (D : Cell) (fV fC : Field) (b : Addr) (A : Cell) (z : Int32) (o len : Nat) (args : Array Value) (s : State) : Prop := args = #[.ref a, .ref b, .int (Int32.ofNat o), .int (Int32.ofNat len), .null] ∧ Blank "java/lang/String" a D s ∧ Found "java/lang/String" "value" "[B" fV s ∧ Found "java/lang/String" "coder" "B" fC s ∧ Ch b A s ∧ StaticIs s "java/lang/String" "COMPACT_STRINGS" "Z" (.int z) ∧ ¬ z = 0 ∧ 0 < len ∧ o + len ≤ A.slots.size ∧ len ≤ 536870912 ∧ ∀ i, i < len → ¬ 255 < cv A (o + i)
def E (a : Addr) (D : Cell) (fV fC : Field) (A : Cell) (o len : Nat) (r : Option Value) (s u : State) : Prop := Got a D fV fC A o len r s u
/-- len > 0, no char of the range above 255: a Latin-1 String of their low bytes -/
theorem law (l : Launch) (a : Addr) (D : Cell) (fV fC : Field) (b : Addr) (A : Cell) (z : Int32) (o len : Nat) : Law l yN 5 4 2 35 yB 6 none site (P a D fV fC b A z o len) (E a D fV fC A o len) [⟨a, fC.slot⟩, ⟨a, fV.slot⟩] 1 len := by
  refine Law.of_walk (plainFor_of_name (by decide +kernel)) (by decide +kernel) (by decide +kernel) (by decide) (fun _ _ h => by rw [h.1]; rfl) (fun _ U U' hal hh h => ⟨h.1, h.2.1.mv hal hh, h.2.2.1.al hal, h.2.2.2.1.al hal, h.2.2.2.2.1.mv hal hh, h.2.2.2.2.2.1.there hal hh, h.2.2.2.2.2.2⟩) (fun r U U' V V' h1 hal h2 h => Got.mv r U U' V V' h1 hal h2 h) ?_
  intro p e s m args below meth c s₁ X0 hexec hbytes hml hret hlk hnm hown hh0 W hP
  obtain ⟨rfl, hB, f1, f2, hA, s1, hz, l0, l1, l2, hp⟩ := hP
  have a31 := hA.1.2.2.2
  have c1 : Steps p.tables e below (s₁.setTop (entryFrame m #[.ref a, .ref b, .int (Int32.ofNat o), .int (Int32.ofNat len), .null] 6)) (s₁.setTop (mkF m 0 #[.val (.ref a), .val (.ref b), .val (.int (Int32.ofNat o)), .val (.int (Int32.ofNat len)), .val .null, .unset] [])) := entry rfl
  have c2 : Steps p.tables e below (s₁.setTop (entryFrame m #[.ref a, .ref b, .int (Int32.ofNat o), .int (Int32.ofNat len), .null] 6)) (s₁.setTop (mkF m 1 #[.val (.ref a), .val (.ref b), .val (.int (Int32.ofNat o)), .val (.int (Int32.ofNat len)), .val .null, .unset] [.ref a])) := c1.trans (by
    refine XS.aloadN X0.here hexec rfl (hb hbytes d0) rfl rfl ?_
    exact Steps.refl _)
  obtain ⟨T3, X3, q3, st3⟩ := X0.oinit hexec hown (wks W (objW "java/lang/String" 1)) (g := (mkF m 1 #[.val (.ref a), .val (.ref b), .val (.int (Int32.ofNat o)), .val (.int (Int32.ofNat len)), .val .null, .unset] [.ref a])) rfl (by rw [hml]; rfl) (rest := []) rfl (hb hbytes d1) (W := 0) (by show 2 * 0 + 0 ≤ _; decide) (Nat.le_of_ble_eq_true rfl) (Nat.le_of_ble_eq_true rfl)
  have hh3 := q3.trans hh0
  have c4 : Steps p.tables e below (s₁.setTop (entryFrame m #[.ref a, .ref b, .int (Int32.ofNat o), .int (Int32.ofNat len), .null] 6)) (T3.setTop (mkF m 27 #[.val (.ref a), .val (.ref b), .val (.int (Int32.ofNat o)), .val (.int (Int32.ofNat len)), .val .null, .unset] [])) := (c2.trans (st3 _ (Steps.refl _))).trans (by
    refine XS.iloadN X3.here hexec rfl (hb hbytes d4) rfl ?_
    refine XS.ifYes X3.here hexec rfl (pc0 := 5) rfl (hb hbytes d5) rfl (i0_ne_t (nz32 (by omega) l0)) (by decide) rfl ?_
    exact Steps.refl _)
  obtain ⟨T5, X5, q5, st5⟩ := X3.sget hexec hown (wk W (.fieldLink "java/lang/String" 38 "java/lang/String" "COMPACT_STRINGS" "Z")) s1 (fun _ _ h => by rw [hh3]; exact h) (g := (mkF m 27 #[.val (.ref a), .val (.ref b), .val (.int (Int32.ofNat o)), .val (.int (Int32.ofNat len)), .val .null, .unset] [])) rfl (hb hbytes d27)
  have hh5 := q5.trans hh3
  have c6 : Steps p.tables e below (s₁.setTop (entryFrame m #[.ref a, .ref b, .int (Int32.ofNat o), .int (Int32.ofNat len), .null] 6)) (T5.setTop (mkF m 30 #[.val (.ref a), .val (.ref b), .val (.int (Int32.ofNat o)), .val (.int (Int32.ofNat len)), .val .null, .unset] [.int z])) := c4.trans (st5 _ (Steps.refl _))
  have c7 : Steps p.tables e below (s₁.setTop (entryFrame m #[.ref a, .ref b, .int (Int32.ofNat o), .int (Int32.ofNat len), .null] 6)) (T5.setTop (mkF m 36 #[.val (.ref a), .val (.ref b), .val (.int (Int32.ofNat o)), .val (.int (Int32.ofNat len)), .val .null, .unset] [.int (Int32.ofNat len), .int (Int32.ofNat o), .ref b])) := c6.trans (by
    refine XS.ifNo X5.here hexec rfl (hb hbytes d30) rfl (i0_eq_f hz) ?_
    refine XS.aloadN X5.here hexec rfl (hb hbytes d33) rfl rfl ?_
    refine XS.iloadN X5.here hexec rfl (hb hbytes d34) rfl ?_
    refine XS.iloadN X5.here hexec rfl (hb hbytes d35) rfl ?_
    exact Steps.refl _)
  obtain ⟨v8, T8, X8, E8, g8⟩ := X5.callS hexec (Cmp3.law l b A o len) hown (wks W (staticW "java/lang/String" 177 Cmp3.yN)) (wk W Cmp3.tab) (W := 0) (Nat.le_of_ble_eq_true rfl) (Nat.le_of_ble_eq_true rfl) (Nat.le_refl _) (by show 0 + len ≤ len; omega) (g := (mkF m 36 #[.val (.ref a), .val (.ref b), .val (.int (Int32.ofNat o)), .val (.int (Int32.ofNat len)), .val .null, .unset] [.int (Int32.ofNat len), .int (Int32.ofNat o), .ref b])) rfl (by rw [hml]; rfl) c7 (argsL := [.ref b, .int (Int32.ofNat o), .int (Int32.ofNat len)]) (rest := []) rfl rfl (by show 2 * 0 + 0 ≤ _; decide) (hb hbytes d36) (⟨rfl, hA.mv X5.warmed.alike hh5, l1, l2, hp⟩)
  obtain ⟨e8, z8⟩ := E8
  obtain ⟨rfl, N, n1, n2, n3, n4, n5, n6⟩ := NewArr.mv _ T5 s _ _ hh5.symm (Vm.Alike.refl _) rfl e8
  rw [hh5] at z8
  have hB1 := hB.keep X8.warmed.alike (n6 _ _ hB.1)
  have hne : s.heap.size ≠ a := (Nat.ne_of_lt (Array.getElem?_eq_some_iff.mp hB.1).1).symm
  have c9 : Steps p.tables e below (s₁.setTop (entryFrame m #[.ref a, .ref b, .int (Int32.ofNat o), .int (Int32.ofNat len), .null] 6)) (T8.setTop (mkF m 39 #[.val (.ref a), .val (.ref b), .val (.int (Int32.ofNat o)), .val (.int (Int32.ofNat len)), .val .null, .unset] [.ref s.heap.size])) := g8
  have c10 : Steps p.tables e below (s₁.setTop (entryFrame m #[.ref a, .ref b, .int (Int32.ofNat o), .int (Int32.ofNat len), .null] 6)) (T8.setTop (mkF m 45 #[.val (.ref a), .val (.ref b), .val (.int (Int32.ofNat o)), .val (.int (Int32.ofNat len)), .val .null, .val (.ref s.heap.size)] [.int (Int32.ofNat N.slots.size), .ref s.heap.size, .ref a])) := by
    have hc : Steps p.tables e below (s₁.setTop (entryFrame m #[.ref a, .ref b, .int (Int32.ofNat o), .int (Int32.ofNat len), .null] 6)) (T8.setTop (mkF m 45 #[.val (.ref a), .val (.ref b), .val (.int (Int32.ofNat o)), .val (.int (Int32.ofNat len)), .val .null, .val (.ref s.heap.size)] [.int (Int32.ofNat len), .ref s.heap.size, .ref a])) := c9.trans (by
      refine XS.astore X8.here hexec rfl (hb hbytes d39) rfl rfl rfl ?_
      refine XS.aloadN X8.here hexec rfl (hb hbytes d41) rfl rfl ?_
      refine XS.aload X8.here hexec rfl (hb hbytes d42) rfl rfl ?_
      refine XS.iloadN X8.here hexec rfl (hb hbytes d44) rfl ?_
      exact Steps.refl _)
    rw [n4]; exact hc
  obtain ⟨v11, T11, X11, E11, g11⟩ := X8.callS hexec (CodL.law l s.heap.size N) hown (wks W (staticW "java/lang/String" 47 CodL.yN)) (wk W CodL.tab) (W := 1) (Nat.le_of_ble_eq_true rfl) (Nat.le_of_ble_eq_true rfl) (Nat.le_refl _) (by show 0 + len + 0 ≤ len; omega) (g := (mkF m 45 #[.val (.ref a), .val (.ref b), .val (.int (Int32.ofNat o)), .val (.int (Int32.ofNat len)), .val .null, .val (.ref s.heap.size)] [.int (Int32.ofNat N.slots.size), .ref s.heap.size, .ref a])) rfl (by rw [hml]; rfl) c10 (argsL := [.ref s.heap.size, .int (Int32.ofNat N.slots.size)]) (rest := [.ref a]) rfl rfl (by show 2 * 0 + (1 + 0) ≤ _; decide) (hb hbytes d45) (⟨rfl, n1⟩)
  obtain ⟨rfl, q11⟩ := E11
  have hB11 := hB1.mv (X8.warmed.alike.symm.trans X11.warmed.alike) q11
  have c12 : Steps p.tables e below (s₁.setTop (entryFrame m #[.ref a, .ref b, .int (Int32.ofNat o), .int (Int32.ofNat len), .null] 6)) (T11.setTop (mkF m 48 #[.val (.ref a), .val (.ref b), .val (.int (Int32.ofNat o)), .val (.int (Int32.ofNat len)), .val .null, .val (.ref s.heap.size)] [.int 0, .ref a])) := g11
  obtain ⟨T13, X13, p13, bl13, sl13, st13⟩ := X11.finit hexec hown (wk W (.fieldLink "java/lang/String" 15 "java/lang/String" "coder" "B")) (Or.inr ⟨_, (wk W (.laysFinal "java/lang/String" "java/lang/String" "coder" "B"))⟩) (Or.inl ⟨rfl, hnm⟩) f2 (Or.inl rfl) hB11 (t := .byte) (by decide +kernel) rfl (g := (mkF m 48 #[.val (.ref a), .val (.ref b), .val (.int (Int32.ofNat o)), .val (.int (Int32.ofNat len)), .val .null, .val (.ref s.heap.size)] [.int 0, .ref a])) rfl (rest := []) rfl (hb hbytes d48)
  have c14 : Steps p.tables e below (s₁.setTop (entryFrame m #[.ref a, .ref b, .int (Int32.ofNat o), .int (Int32.ofNat len), .null] 6)) (T13.setTop (mkF m 54 #[.val (.ref a), .val (.ref b), .val (.int (Int32.ofNat o)), .val (.int (Int32.ofNat len)), .val .null, .val (.ref s.heap.size)] [.ref s.heap.size, .ref a])) := (c12.trans (st13 _ (Steps.refl _))).trans (by
    refine XS.aloadN X13.here hexec rfl (hb hbytes d51) rfl rfl ?_
    refine XS.aload X13.here hexec rfl (hb hbytes d52) rfl rfl ?_
    exact Steps.refl _)
  obtain ⟨T15, X15, p15, bl15, sl15, st15⟩ := X13.finit hexec hown (wk W (.fieldLink "java/lang/String" 9 "java/lang/String" "value" "[B")) (Or.inr ⟨_, (wk W (.laysFinal "java/lang/String" "java/lang/String" "value" "[B"))⟩) (Or.inl ⟨rfl, hnm⟩) f1 (Or.inl rfl) bl13 (t := (.array .byte)) (by decide +kernel) rfl (g := (mkF m 54 #[.val (.ref a), .val (.ref b), .val (.int (Int32.ofNat o)), .val (.int (Int32.ofNat len)), .val .null, .val (.ref s.heap.size)] [.ref s.heap.size, .ref a])) rfl (rest := []) rfl (hb hbytes d54)
  have c16 : Steps p.tables e below (s₁.setTop (entryFrame m #[.ref a, .ref b, .int (Int32.ofNat o), .int (Int32.ofNat len), .null] 6)) (T15.setTop (mkF m 57 #[.val (.ref a), .val (.ref b), .val (.int (Int32.ofNat o)), .val (.int (Int32.ofNat len)), .val .null, .val (.ref s.heap.size)] [])) := c14.trans (st15 _ (Steps.refl _))
  have ap := apart (Or.inr ⟨_, (wk W (.laysFinal "java/lang/String" "java/lang/String" "value" "[B"))⟩) (Or.inr ⟨_, (wk W (.laysFinal "java/lang/String" "java/lang/String" "coder" "B"))⟩) f1 f2 (t₁ := .array .byte) (t₂ := .byte) (by decide +kernel) (by decide +kernel) (by decide)
  have al := X8.warmed.alike.symm.trans X15.warmed.alike
  have n7 : T11.heap[s.heap.size]? = some N := by rw [q11]; exact n1.1
  exact ⟨T15, none, _, _, _, X15, by simp, rfl, by omega, (fun _ => rfl), ⟨rfl, _, N, bl15, ((Same.refl D _).set _ (by simp)).set _ (by simp), sl15, (Cell.slots_setSlot_ne _ ap).trans sl13, n1.keep al (p15.other hne (p13.other hne n7)), n2, by rw [al.findClass]; exact n3, n4, n5, fun y c h1 h2 => p15.other h1 (p13.other h1 (by rw [q11]; exact n6 y c h2)), by rw [p15.2.2, p13.2.2, q11]; exact z8⟩, fun fs hl => c16.trans (X15.returnOut hexec hret (hb hbytes d57) hl)⟩
end New4
namespace New1
def yN : MethodName := ⟨"java/lang/String", "<init>", "([C)V"⟩
abbrev yB : ByteArray := jdk_42_method_3_code
theorem d0 : decode yB 0 = .ok (.aload_n 0, 1) := by decide +kernel
theorem d1 : decode yB 1 = .ok (.aload_n 1, 1) := by decide +kernel
theorem d2 : decode yB 2 = .ok (.iconst 0, 1) := by decide +kernel
theorem d3 : decode yB 3 = .ok (.aload_n 1, 1) := by decide +kernel
theorem d4 : decode yB 4 = .ok (.arraylength, 1) := by decide +kernel
theorem d5 : decode yB 5 = .ok (.aconst_null, 1) := by decide +kernel
theorem d6 : decode yB 6 = .ok (.invokespecial 27, 3) := by decide +kernel
theorem d9 : decode yB 9 = .ok (.return_, 1) := by decide +kernel
def site : List Cond := [New4.tab] ++ initW "java/lang/String" 27 New4.yN
def tab : Cond := tabOf yN yB 2 none site
def P (a : Addr) (D : Cell) (fV fC : Field) (b : Addr) (A : Cell) (z : Int32) (args : Array Value) (s : State) : Prop := args = #[.ref a, .ref b] ∧ Blank "java/lang/String" a D s ∧ Found "java/lang/String" "value" "[B" fV s ∧ Found "java/lang/String" "coder" "B" fC s ∧ Ch b A s ∧ StaticIs s "java/lang/String" "COMPACT_STRINGS" "Z" (.int z) ∧ ¬ z = 0 ∧ 0 < A.slots.size ∧ A.slots.size ≤ 536870912 ∧ ∀ i, i < A.slots.size → ¬ 255 < cv A i
def E (a : Addr) (D : Cell) (fV fC : Field) (A : Cell) (r : Option Value) (s u : State) : Prop := Got a D fV fC A 0 A.slots.size r s u
/-- new String(chars), not empty, no char above 255: a Latin-1 String of their low bytes -/
theorem law (l : Launch) (a : Addr) (D : Cell) (fV fC : Field) (b : Addr) (A : Cell) (z : Int32) : Law l yN 2 1 3 52 yB 2 none site (P a D fV fC b A z) (E a D fV fC A) [⟨a, fC.slot⟩, ⟨a, fV.slot⟩] 1 A.slots.size := by
  refine Law.of_walk (plainFor_of_name (by decide +kernel)) (by decide +kernel) (by decide +kernel) (by decide) (fun _ _ h => by rw [h.1]; rfl) (fun _ U U' hal hh h => ⟨h.1, h.2.1.mv hal hh, h.2.2.1.al hal, h.2.2.2.1.al hal, h.2.2.2.2.1.mv hal hh, h.2.2.2.2.2.1.there hal hh, h.2.2.2.2.2.2⟩) (fun r U U' V V' h1 hal h2 h => Got.mv r U U' V V' h1 hal h2 h) ?_
  intro p e s m args below meth c s₁ X0 hexec hbytes hml hret hlk hnm hown hh0 W hP
  obtain ⟨rfl, hB, f1, f2, hA, s1, hz, l0, l2, hp⟩ := hP
  have c1 : Steps p.tables e below (s₁.setTop (entryFrame m #[.ref a, .ref b] 2)) (s₁.setTop (mkF m 0 #[.val (.ref a), .val (.ref b)] [])) := entry rfl
  have c2 : Steps p.tables e below (s₁.setTop (entryFrame m #[.ref a, .ref b] 2)) (s₁.setTop (mkF m 6 #[.val (.ref a), .val (.ref b)] [.null, .int (Int32.ofNat A.slots.size), .int 0, .ref b, .ref a])) := c1.trans (by
    refine XS.aloadN X0.here hexec rfl (hb hbytes d0) rfl rfl ?_
    refine XS.aloadN X0.here hexec rfl (hb hbytes d1) rfl rfl ?_
    refine iconstV X0.here hexec rfl 0 (hb hbytes d2) (by decide) ?_
    refine XS.aloadN X0.here hexec rfl (hb hbytes d3) rfl rfl ?_
    refine X0.alen hexec (hA.1.mv X0.warmed.alike hh0) rfl rfl (hb hbytes d4) ?_
    refine XS.aconstNull X0.here hexec rfl (hb hbytes d5) ?_
    exact Steps.refl _)
  obtain ⟨v3, T3, X3, E3, g3⟩ := X0.callN hexec (New4.law l a D fV fC b A z 0 A.slots.size) rfl hown (wks W (initW "java/lang/String" 27 New4.yN)) (W New4.tab (by simp only [site, List.mem_cons, List.mem_append, true_or, or_true])) (W := 0) (Nat.le_of_ble_eq_true rfl) (Nat.le_of_ble_eq_true rfl) (Nat.le_refl _) (by show 0 + A.slots.size ≤ A.slots.size; omega) (g := (mkF m 6 #[.val (.ref a), .val (.ref b)] [.null, .int (Int32.ofNat A.slots.size), .int (Int32.ofNat 0), .ref b, .ref a])) rfl (by rw [hml]; rfl) c2 (argsL := [.ref b, .int (Int32.ofNat 0), .int (Int32.ofNat A.slots.size), .null]) (rest := []) rfl rfl (by show 2 * 0 + 0 ≤ _; decide) (hb hbytes d6) (⟨rfl, hB.mv X0.warmed.alike hh0, f1.al X0.warmed.alike, f2.al X0.warmed.alike, hA.mv X0.warmed.alike hh0, s1.there X0.warmed.alike hh0, hz, l0, by omega, l2, fun i hi => by rw [Nat.zero_add]; exact hp i hi⟩)
  have e0 := Got.mv _ s₁ s _ _ hh0.symm (Vm.Alike.refl _) rfl E3
  obtain rfl := e0.1
  have c4 : Steps p.tables e below (s₁.setTop (entryFrame m #[.ref a, .ref b] 2)) (T3.setTop (mkF m 9 #[.val (.ref a), .val (.ref b)] [])) := g3
  exact ⟨T3, none, _, _, _, X3, by simp, rfl, by omega, (fun _ => rfl), e0, fun fs hl => c4.trans (X3.returnOut hexec hret (hb hbytes d9) hl)⟩
theorem pays {l : Launch} {R : Room} {p : Program} {e : Env} {below : List Frame} {s : State} {sargs : Array Value} {len W : Nat} (a : Addr) (D : Cell) (fV fC : Field) (b : Addr) (A : Cell) (z : Int32) (htab : tab.before sargs s = true) (hfr : 4 ≤ R.frames) (hlo : W + 65 ≤ R.locals) :
    Back l R p e below s sargs yN len W (fun A₁ a₁ => A₁.cells + 1 ≤ R.cells ∧ A₁.slots + A.slots.size ≤ R.slots ∧ P a D fV fC b A z a₁ A₁.U) (fun A₁ _ v₁ B₁ => E a D fV fC A v₁ A₁.U B₁.U ∧ B₁.locs = A₁.locs ++ [⟨a, fC.slot⟩, ⟨a, fV.slot⟩] ∧ B₁.cells = A₁.cells + 1 ∧ B₁.slots = A₁.slots + A.slots.size) :=
  (law l a D fV fC b A z).pays htab hfr (by omega)
end New1
end StrChars
namespace StrChars.Road
open Jvm Sem ClassFile Op Lib Jvm.Stand Jvm.Free Jvm.Free.XT
open Jvm.Lib.Cold (StaticIs)
abbrev ST : String := "java/lang/String"
/-- every table word that New1's law asks, flat -/
abbrev words : List Jvm.Cond := [.code New1.yN New1.yB 2 none, .initialized ST, .methodLink ST 27 New4.yN, .instanceMethod New4.yN,
  .code New4.yN New4.yB 6 none, .fieldLink ST 38 ST "COMPACT_STRINGS" "Z", .laysFinal ST ST "value" "[B", .fieldLink ST 9 ST "value" "[B", .laysFinal ST ST "coder" "B", .fieldLink ST 15 ST "coder" "B",
  .methodLink ST 1 Lib.objectInit, .instanceMethod Lib.objectInit, .code Lib.objectInit ⟨#[0xb1]⟩ 1 none, .methodLink ST 177 Cmp3.yN, .static Cmp3.yN, .methodLink ST 47 CodL.yN, .static CodL.yN,
  .code Cmp3.yN Cmp3.yB 6 (some (.array .byte)), .initialized U16, .arrayClass .byte, .methodLink U16 115 Cmp5.yN, .static Cmp5.yN, .code Cmp5.yN Cmp5.yB 7 (some .int), .code CodL.yN CodL.yB 2 (some .byte)]
theorem tab_of {a : Array Value} {s : State} (h : ∀ w ∈ words, w.before a s = true) : New1.tab.before a s = true := by
  have h5 : Cmp5.tab.before a s = true := unparts (wk h (.code Cmp5.yN Cmp5.yB 7 (some .int))) (wks h (.initialized Cmp5.yN.cls :: Cmp5.site))
  have hc : CodL.tab.before a s = true := unparts (wk h (.code CodL.yN CodL.yB 2 (some .byte))) (wks h (.initialized CodL.yN.cls :: CodL.site))
  have q5 : ∀ w ∈ Cmp5.tab :: words, w.before a s = true := fun w hw => (List.mem_cons.mp hw).elim (fun e => e ▸ h5) (h w)
  have h3 : Cmp3.tab.before a s = true := unparts (wk q5 (.code Cmp3.yN Cmp3.yB 6 (some (.array .byte)))) (wks q5 (.initialized Cmp3.yN.cls :: Cmp3.site))
  have q3 : ∀ w ∈ Cmp3.tab :: CodL.tab :: words, w.before a s = true := fun w hw => (List.mem_cons.mp hw).elim (fun e => e ▸ h3) fun hw => (List.mem_cons.mp hw).elim (fun e => e ▸ hc) (h w)
  have h4 : New4.tab.before a s = true := unparts (wk q3 (.code New4.yN New4.yB 6 none)) (wks q3 (.initialized New4.yN.cls :: New4.site))
  have q4 : ∀ w ∈ New4.tab :: words, w.before a s = true := fun w hw => (List.mem_cons.mp hw).elim (fun e => e ▸ h4) (h w)
  exact unparts (wk q4 (.code New1.yN New1.yB 2 none)) (wks q4 (.initialized New1.yN.cls :: New1.site))
/-- the words ride from the start Z to the walk's own state -/
theorem moved {Z s : State} {a0 args : Array Value} (hZ : Z.Warmed39 s.vm) (hw : ∀ d ∈ words, d.before a0 Z = true) : ∀ d ∈ words, d.before args s = true := fun d hd => by
  have q := hw d hd
  have t : ∀ d ∈ words, d = .arrayClass .byte ∨ (d.onTables && d.keepsFace) = true := by decide +kernel
  rcases t d hd with rfl | t
  · exact RoadKit.mvA hZ q
  · exact RoadKit.mv hZ q t
/-- WHAT COMES BACK, over the tables of the start Z: h the heap at the call, h' behind it -/
def Q (Z : State) (x : Addr) (A : Cell) (h : Heap) (v : Option Value) (h' : Heap) (L : List Loc) : Prop := v = none ∧ (∀ y ∈ L, y.base = x) ∧ RoadKit.Keep h h' [x] ∧ h'.size = h.size + 1 ∧ RoadKit.Exa Z h' x ST ∧ RoadKit.Fld Z h' x ST "value" "[B" (.ref h.size) ∧ RoadKit.Fld Z h' x ST "coder" "B" (.int 0) ∧
  (∃ V : Cell, RoadKit.Arr Z h' h.size V .byte ∧ V.vm = .none ∧ Z.vm.findClass "[B" = some V.cls ∧ V.slots.size = A.slots.size ∧ ∀ j, j < A.slots.size → V.slots[j]? = some (.int (lo8 (cv A j)))) ∧
  ∀ (O n d : String) (w : Value), RoadKit.Fld Z h x O n d w → RoadKit.slotOf Z O n d ≠ RoadKit.slotOf Z ST "value" "[B" → RoadKit.slotOf Z O n d ≠ RoadKit.slotOf Z ST "coder" "B" → RoadKit.Fld Z h' x O n d w
/-- **new String(chars) AT A CALL, IN THE ROAD'S FORM**: for specialBack behind newO: x the fresh String, b the char[] with the cell A -/
theorem back {p : Program} {l : Launch} {e : Env} {R : Room} {s : State} {args : Array Value} {below : List Frame} {len W : Nat} {Z : State} {a0 : Array Value} {h : Heap} (hZ : Z.Warmed39 s.vm) (hw : ∀ d ∈ words, d.before a0 Z = true) {kI : Nat} (wi : (Jvm.Cond.instantiable ST kI).before a0 Z = true)
    {x b : Addr} {A : Cell} {z : Int32} {v0 c0 : Value} (E : RoadKit.Exa Z h x ST) (V : RoadKit.Fld Z h x ST "value" "[B" v0) (C : RoadKit.Fld Z h x ST "coder" "B" c0) (K : RoadKit.Arr Z h b A .char) (hty : Typed .char A) (S : RoadKit.Sta Z h ST "COMPACT_STRINGS" "Z" (.int z)) (hz : ¬ z = 0)
    (l0 : 0 < A.slots.size) (l2 : A.slots.size ≤ 536870912) (hp : ∀ i, i < A.slots.size → ¬ 255 < cv A i) (hfr : 4 ≤ R.frames) (hlo : W + 65 ≤ R.locals) :
    Back l R p e below s args New1.yN len W (fun P a => a = #[.ref x, .ref b] ∧ P.U.heap = h ∧ P.cells + 1 ≤ R.cells ∧ P.slots + A.slots.size ≤ R.slots)
      (fun P _ v B => ∃ L, Q Z x A h v B.U.heap L ∧ B.locs = P.locs ++ L ∧ B.cells = P.cells + 1 ∧ B.slots = P.slots + A.slots.size) := by
  intro m meth c P g ig mk a X hg hsize hdg hW hn hp'
  obtain ⟨rfl, rfl, r1, r2⟩ := hp'
  have al : Z.vm.Alike P.U.vm := hZ.alike.trans X.warmed.alike
  obtain ⟨D, cfV, kV, iV, fV, hD, gV, stV, knV, obV, asV, slV⟩ := id V
  obtain ⟨D', cfC, kC, iC, fC, hD', gC, stC, -, -, asC, slC⟩ := id C
  cases hD.symm.trans hD'
  obtain ⟨D2, kD, e1, e2, e3, e4, e5⟩ := id E
  cases hD.symm.trans e1
  obtain ⟨c2, k2, i1, i2, i3, -⟩ := Cond.instantiable_spec wi
  cases e2.symm.trans i1
  cases e3.symm.trans i2
  obtain ⟨kU, u1, u2⟩ := al.2.2 _ _ e3
  have hB : Blank ST x D P.U := ⟨hD, ⟨knV, fun q hq => by rw [hq] at obV; cases obV⟩, by rw [al.findClass]; exact e2, kU, u1, by rw [u2]; exact i3, by rw [u2]; exact e5 i3⟩
  have F1 : Found ST "value" "[B" fV P.U := ⟨SBG.found_only al ⟨cfV, kV, iV, gV⟩, stV⟩
  have F2 : Found ST "coder" "B" fC P.U := ⟨SBG.found_only al ⟨cfC, kC, iC, gC⟩, stC⟩
  have hA : Ch b A P.U := ⟨⟨K.1, State.isArrayOf_alike al K.2.1, K.2.2, by omega⟩, hty⟩
  have hS : StaticIs P.U ST "COMPACT_STRINGS" "Z" (.int z) := by
    obtain ⟨cfS, iS, kS, fS, st, cS, t1, t2, t3, t4, t5, t6, t7⟩ := S
    exact StaticIs.there (s := { Z with heap := P.U.heap }) ⟨cfS, iS, kS, fS, st, cS, t1, t2, t3, t4, t5, (fun q => by rw [q] at t6; cases t6), t7⟩ al rfl
  obtain ⟨v, B, X', ⟨⟨hv, E', V', q1, q2, q3, q4, q5, q6, q7, q8, q9, q10, q11⟩, hl, hc, hs⟩, st⟩ := New1.pays x D fV fC b A z (tab_of (moved hZ hw)) hfr hlo m meth c P g ig mk _ X hg hsize hdg hW hn ⟨r1, r2, rfl, hB, F1, F2, hA, hS, hz, l0, l2, hp⟩
  have al' : Z.vm.Alike B.U.vm := hZ.alike.trans X'.warmed.alike
  have hsz : E'.slots.size = D.slots.size := by
    obtain ⟨-, -, -, kB, w1, w2, w3⟩ := q1
    obtain ⟨kB', y1, y2⟩ := al'.2.2 _ _ e3
    rw [q2.2.1] at w1
    cases w1.symm.trans y1
    rw [w3, e5 i3, y2]
  refine ⟨v, B, X', ⟨_, ⟨hv, ?_, ⟨by omega, fun y cy hy hn' => q10 y cy (by simpa using hn') hy, fun y cy hy => ?_⟩, q11, ⟨E', _, q1.1, by rw [q2.2.1]; exact e2, by rw [q2.2.1]; exact e3, by rw [q2.1]; exact obV, fun _ => by rw [hsz]; exact e5 i3⟩,
    ⟨E', cfV, kV, iV, fV, q1.1, gV, stV, by rw [q2.1]; exact knV, by rw [q2.1]; exact obV, by rw [q2.2.1]; exact asV, q3⟩, ⟨E', cfC, kC, iC, fC, q1.1, gC, stC, by rw [q2.1]; exact knV, by rw [q2.1]; exact obV, by rw [q2.2.1]; exact asC, q4⟩,
    ⟨V', ⟨q5.1, State.isArrayOf_alike al'.symm q5.2.1, q5.2.2.1⟩, q6, by rw [← al'.findClass]; exact q7, q8, fun j hj => by have := q9 j hj; rwa [Nat.zero_add] at this⟩, fun O n d w F n1 n2 => ?_⟩, hl, hc, hs⟩, st⟩
  · intro y hy
    simp only [List.mem_cons, List.not_mem_nil, or_false] at hy
    rcases hy with rfl | rfl <;> rfl
  · by_cases q : y = x
    · subst q
      cases hD.symm.trans hy
      exact ⟨E', q1.1, q2.2.1, q2.1, hsz⟩
    · exact ⟨cy, q10 y cy q hy, rfl, rfl, rfl⟩
  · obtain ⟨D3, cf, k, i, f, g1, g2, g3, g4, g5, g6, g7⟩ := F
    cases hD.symm.trans g1
    simp only [RoadKit.slotOf, g2, gV, gC, Option.map_some, Option.getD_some] at n1 n2
    exact ⟨E', cf, k, i, f, q1.1, g2, g3, by rw [q2.1]; exact g4, by rw [q2.1]; exact g5, by rw [q2.2.1]; exact g6, by rw [q2.2.2 f.slot (by simp [n1, n2])]; exact g7⟩
end StrChars.Road
namespace StrChars.Road
open Jvm Sem ClassFile Op Lib Jvm.Stand Jvm.Free Jvm.Free.XT
/-- WHAT COMES BACK, the byte[] as a list of values -/
def QA (Z : State) (x : Addr) (zn : Int32) (cs : List Int32) (h : Heap) (v : Option Value) (h' : Heap) (L : List Loc) : Prop := v = none ∧ (∀ y ∈ L, y.base = x) ∧ RoadKit.Keep h h' [x] ∧ h'.size = h.size + 1 ∧ RoadKit.Exa Z h' x ST ∧ RoadKit.Fld Z h' x ST "value" "[B" (.ref h.size) ∧ RoadKit.Fld Z h' x ST "coder" "B" (.int 0) ∧
  (∃ kb, Z.vm.findClass "[B" = some kb ∧ RoadKit.Arv Z h' h.size kb .byte zn (cs.map fun c => .int (lo8 c)) (.int 0)) ∧
  ∀ (O n d : String) (w : Value), RoadKit.Fld Z h x O n d w → RoadKit.slotOf Z O n d ≠ RoadKit.slotOf Z ST "value" "[B" → RoadKit.slotOf Z O n d ≠ RoadKit.slotOf Z ST "coder" "B" → RoadKit.Fld Z h' x O n d w
/-- **new String(chars) AT A CALL, THE ARRAYS AS LISTS**: the char[] at b holds cs, not empty, no char above 255 -/
theorem backArv {p : Program} {l : Launch} {e : Env} {R : Room} {s : State} {args : Array Value} {below : List Frame} {len W : Nat} {Z : State} {a0 : Array Value} {h : Heap} (hZ : Z.Warmed39 s.vm) (hw : ∀ d ∈ words, d.before a0 Z = true) {kI : Nat} (wi : (Jvm.Cond.instantiable ST kI).before a0 Z = true)
    {x b : Addr} {k : ClassId} {zn z : Int32} {cs : List Int32} {dv v0 c0 : Value} (E : RoadKit.Exa Z h x ST) (V : RoadKit.Fld Z h x ST "value" "[B" v0) (C : RoadKit.Fld Z h x ST "coder" "B" c0) (K : RoadKit.Arv Z h b k .char zn (cs.map Value.int) dv) (S : RoadKit.Sta Z h ST "COMPACT_STRINGS" "Z" (.int z)) (hz : ¬ z = 0)
    (hlen : zn.toNatClampNeg = cs.length) (h0 : 0 < cs.length) (hbig : cs.length ≤ 536870912) (hall : ∀ c ∈ cs, ¬ 255 < c) (hfr : 4 ≤ R.frames) (hlo : W + 65 ≤ R.locals) :
    Back l R p e below s args New1.yN len W (fun P a => a = #[.ref x, .ref b] ∧ P.U.heap = h ∧ P.cells + 1 ≤ R.cells ∧ P.slots + cs.length ≤ R.slots)
      (fun P _ v B => ∃ L, QA Z x zn cs h v B.U.heap L ∧ B.locs = P.locs ++ L ∧ B.cells = P.cells + 1 ∧ B.slots = P.slots + cs.length) := by
  obtain ⟨A, K1, K2, K3, K4, K5, K6⟩ := K
  have e : A.slots.size = cs.length := K3.trans hlen
  have hat : ∀ (i : Nat) (hi : i < cs.length), A.slots[i]? = some (.int cs[i]) := fun i hi => by rw [K5 i (by omega)]; simp [List.getD_eq_getElem?_getD, hi]
  have hcv : ∀ (i : Nat) (hi : i < cs.length), cv A i = cs[i] := fun i hi => by unfold cv; rw [hat i hi]
  have hty : Typed .char A := fun i v hv => by
    have hi : i < A.slots.size := (Array.getElem?_eq_some_iff.mp hv).1
    have q := K5 i hi
    rw [hv] at q
    rw [Option.some.inj q]
    exact K6 i hi
  refine Back.mono (back hZ hw wi E V C K1 hty S hz (by omega) (by omega) (fun i hi => by rw [hcv i (by omega)]; exact hall _ (List.getElem_mem _)) hfr hlo) (fun P a hp => ⟨hp.1, hp.2.1, hp.2.2.1, by rw [e]; exact hp.2.2.2⟩) (fun P a v B hp hq => ?_)
  obtain ⟨L, ⟨q1, q2, q3, q4, q5, q6, q7, ⟨V', v1, v2, v3, v4, v5⟩, q9⟩, hl, hc, hs⟩ := hq
  refine ⟨L, ⟨q1, q2, q3, q4, q5, q6, q7, ⟨V'.cls, v3, V', v1, rfl, by rw [v4, e, hlen], K4, fun i hi => ?_, fun i hi => ?_⟩, q9⟩, hl, hc, by rw [hs, e]⟩
  · have hi' : i < cs.length := by omega
    rw [v5 i (by omega), hcv i hi']; simp [List.getD_eq_getElem?_getD, hi']
  · have hi' : i < cs.length := by omega
    simp only [List.getD_eq_getElem?_getD, List.getElem?_map, List.getElem?_eq_getElem hi', Option.map_some, Option.getD_some]
    exact fits_lo8 _
end StrChars.Road
namespace StrChars.Road
open Jvm Sem ClassFile Op Lib Jvm.Stand Jvm.Free Jvm.Free.XT
/-- WHAT COMES BACK, in the writer's own shape -/
def QV (Z : State) (x : Addr) (N : Int32) (bs : List Int32) (h : Heap) (n0 : Nat) (v : Option Value) (h' : Heap) (L : List Loc) : Prop := v = none ∧ RoadKit.Fr n0 L ∧ RoadKit.Keep h h' [x] ∧ RoadKit.Exa Z h' x ST ∧ RoadKit.Fld Z h' x ST "coder" "B" (.int 0) ∧
  ∃ (t : Addr) (kb : ClassId), n0 ≤ t ∧ h.size ≤ t ∧ ¬ t = x ∧ RoadKit.Fld Z h' x ST "value" "[B" (.ref t) ∧ RoadKit.Arv Z h' t kb .byte N (bs.map Value.int) (.int 0)
/-- **new String(chars) AT A CALL, FOR THE WRITER**: a char[] of n known ints, each 0 to 255 -/
theorem backV {p : Program} {l : Launch} {e : Env} {R : Room} {s : State} {args : Array Value} {below : List Frame} {len W : Nat} {Z : State} {a0 : Array Value} {h : Heap} (hZ : Z.Warmed39 s.vm) (hw : ∀ d ∈ words, d.before a0 Z = true) {kI : Nat} (wi : (Jvm.Cond.instantiable ST kI).before a0 Z = true)
    {x b : Addr} {kC : ClassId} {cs bs : List Int32} {d v0 c0 : Value} {z N : Int32} {n n0 : Nat} (hx0 : n0 ≤ x) (hh0 : n0 ≤ h.size) (E : RoadKit.Exa Z h x ST) (V : RoadKit.Fld Z h x ST "value" "[B" v0) (C : RoadKit.Fld Z h x ST "coder" "B" c0) (K : RoadKit.Arv Z h b kC .char N (cs.map Value.int) d) (S : RoadKit.Sta Z h ST "COMPACT_STRINGS" "Z" (.int z)) (hz : ¬ z = 0)
    (hn : cs.length = n) (hN : N = Int32.ofNat n) (l0 : 0 < n) (l2 : n ≤ 4000) (hp : ∀ c ∈ cs, ¬ c < 0 ∧ ¬ (255 : Int32) < c) (hb : bs = cs.map (fun c => c.toInt8.toInt32)) (hfr : 4 ≤ R.frames) (hlo : W + 65 ≤ R.locals) :
    Back l R p e below s args (⟨"java/lang/String", "<init>", "([C)V"⟩ : MethodName) len W (fun P a => a = #[.ref x, .ref b] ∧ P.U.heap = h ∧ P.cells + 1 ≤ R.cells ∧ P.slots + n ≤ R.slots)
      (fun P _ v B => ∃ L, QV Z x N bs h n0 v B.U.heap L ∧ B.locs = P.locs ++ L ∧ B.cells = P.cells + 1 ∧ B.slots = P.slots + n) := by
  subst hn hN hb
  refine Back.mono (backArv hZ hw wi E V C K S hz (n32 (by omega)) l0 (by omega) (fun c hc => (hp c hc).2) hfr hlo) (fun P a hp => hp) (fun P a v B hp hq => ?_)
  obtain ⟨L, ⟨q1, q2, q3, q4, q5, q6, q7, ⟨kb, v1, v2⟩, q9⟩, hl, hc, hs⟩ := hq
  exact ⟨L, ⟨q1, fun y hy => by rw [q2 y hy]; exact hx0, q3, q5, q7, h.size, kb, hh0, Nat.le_refl _, Nat.ne_of_gt E.lt, q6, by rw [List.map_map]; exact v2⟩, hl, hc, hs⟩
end StrChars.Road
namespace StrChars
open Jvm Sem ClassFile Op Lib Jvm.Stand Jvm.Free.XT Jvm.Free.ALB Jvm.Free.JM Jvm.Free
open Jvm.Lib.Cold (StaticIs)
def hi8 (x : Int32) : Int32 := lo8 (x >>> ((8 : Int32) &&& 31))
/-- what StringUTF16.getChar makes of two bytes -/
def pairCh (u v : Int32) : Int32 := (((u &&& 255) <<< ((0 : Int32) &&& 31)) ||| ((v &&& 255) <<< ((8 : Int32) &&& 31))).toUInt32.toUInt16.toUInt32.toInt32
theorem shr0 (c : Int32) : c >>> ((0 : Int32) &&& 31) = c := by
  have e : ((0 : Int32) &&& 31) = 0 := by decide
  rw [e]
  apply Int32.toBitVec_inj.mp
  rw [Int32.toBitVec_shiftRight]
  have e1 : ((0 : Int32).toBitVec.smod 32) = 0#32 := by decide
  rw [e1, BitVec.sshiftRight_eq']
  exact BitVec.sshiftRight_zero
theorem lo8_and (x : Int32) : (lo8 x &&& 255).toBitVec.toNat = x.toBitVec.toNat % 256 := by
  have h : (lo8 x).toBitVec = (x.toBitVec.signExtend 8).signExtend 32 := by rw [lo8, Int8.toBitVec_toInt32, Int32.toBitVec_toInt8]
  rw [Int32.toBitVec_and, BitVec.toNat_and, h]
  have e : ((x.toBitVec.signExtend 8).signExtend 32).toNat % 256 = x.toBitVec.toNat % 256 := by
    rw [BitVec.toNat_signExtend]
    have hlt := x.toBitVec.isLt
    simp only [BitVec.toNat_setWidth, BitVec.toNat_signExtend]
    split <;> split <;> omega
  rw [← e]
  exact Nat.and_two_pow_sub_one_eq_mod _ 8
theorem pair_says {c : Int32} (h0 : ¬ c < 0) (h1 : ¬ 65535 < c) : pairCh (lo8 c) (hi8 c) = c := by
  rw [Int32.lt_iff_toInt_lt] at h0 h1
  have e0 : (0 : Int32).toInt = 0 := rfl
  have e1 : (65535 : Int32).toInt = 65535 := rfl
  have hc : c.toInt = c.toBitVec.toNat := by
    have := c.toBitVec.isLt
    have e : c.toInt = c.toBitVec.toInt := rfl
    rw [e] at h0 h1
    rw [e]
    rw [BitVec.toInt_eq_toNat_cond] at h0 h1 ⊢
    split at h0 <;> split <;> omega
  have hn : c.toBitVec.toNat < 65536 := by omega
  have a1 := lo8_and c
  have a2 : (hi8 c &&& 255).toBitVec.toNat = c.toBitVec.toNat / 256 := by
    rw [hi8, lo8_and]
    have e : ((8 : Int32) &&& 31) = 8 := by decide
    rw [e, Int32.toBitVec_shiftRight]
    have e2 : ((8 : Int32).toBitVec.smod 32) = 8#32 := by decide
    rw [e2, BitVec.sshiftRight_eq', BitVec.toNat_sshiftRight_of_msb_false (by rw [BitVec.msb_eq_false_iff_two_mul_lt]; omega)]
    show c.toBitVec.toNat >>> 8 % 256 = _
    rw [Nat.shiftRight_eq_div_pow]
    omega
  unfold pairCh
  apply Int32.toBitVec_inj.mp
  apply BitVec.eq_of_toNat_eq
  have f0 : ((0 : Int32) &&& 31) = 0 := by decide
  have f8 : ((8 : Int32) &&& 31) = 8 := by decide
  rw [f0, f8]
  have g : (((lo8 c &&& 255) <<< (0 : Int32)) ||| ((hi8 c &&& 255) <<< (8 : Int32))).toBitVec.toNat = c.toBitVec.toNat := by
    rw [Int32.toBitVec_or, Int32.toBitVec_shiftLeft, Int32.toBitVec_shiftLeft]
    have s0 : ((0 : Int32).toBitVec.smod 32) = 0#32 := by decide
    have s8 : ((8 : Int32).toBitVec.smod 32) = 8#32 := by decide
    rw [s0, s8, BitVec.toNat_or]
    simp only [BitVec.shiftLeft_eq', BitVec.toNat_shiftLeft, a1, a2]
    show (c.toBitVec.toNat % 256) <<< 0 % 2 ^ 32 ||| (c.toBitVec.toNat / 256) <<< 8 % 2 ^ 32 = _
    rw [Nat.shiftLeft_zero, Nat.mod_eq_of_lt (show c.toBitVec.toNat % 256 < 2 ^ 32 by omega), Nat.mod_eq_of_lt (show (c.toBitVec.toNat / 256) <<< 8 < 2 ^ 32 by rw [Nat.shiftLeft_eq]; omega), Nat.or_comm, ← Nat.shiftLeft_add_eq_or_of_lt (by omega), Nat.shiftLeft_eq]
    omega
  show BitVec.toNat (((((lo8 c &&& 255) <<< (0 : Int32)) ||| ((hi8 c &&& 255) <<< (8 : Int32))).toBitVec.setWidth 16).setWidth 32) = _
  rw [BitVec.toNat_setWidth, BitVec.toNat_setWidth, g]
  omega
end StrChars
namespace StrChars
open Jvm Sem ClassFile Op Lib Jvm.Stand Jvm.Free.XT Jvm.Free.ALB Jvm.Free.JM Jvm.Free
open Jvm.Lib.Cold (StaticIs)
theorem shr1 {n : Nat} (h : 2 * n < 2 ^ 31) : Int32.ofNat (2 * n) >>> ((1 : Int32) &&& 31) = Int32.ofNat n := by
  have e : ((1 : Int32) &&& 31) = 1 := by decide
  rw [e]
  apply Int32.toBitVec_inj.mp
  rw [Int32.toBitVec_shiftRight]
  have e1 : ((1 : Int32).toBitVec.smod 32) = 1#32 := by decide
  have hm : (BitVec.ofNat 32 (2 * n)).toNat = 2 * n := by rw [BitVec.toNat_ofNat, Nat.mod_eq_of_lt (by omega)]
  rw [e1, BitVec.sshiftRight_eq']
  apply BitVec.eq_of_toNat_eq
  show ((BitVec.ofNat 32 (2 * n)).sshiftRight 1).toNat = (BitVec.ofNat 32 n).toNat
  rw [BitVec.toNat_sshiftRight_of_msb_false (by rw [BitVec.msb_eq_false_iff_two_mul_lt, hm]; omega), hm, BitVec.toNat_ofNat, Nat.shiftRight_eq_div_pow]
  omega
theorem narrow_ch {c : Int32} (h0 : ¬ c < 0) (h1 : ¬ 65535 < c) : narrow .char (.int c) = .int c := by
  have q : narrow .char (.int (pairCh (lo8 c) (hi8 c))) = .int (pairCh (lo8 c) (hi8 c)) := narrow_c _
  rwa [pair_says h0 h1] at q
/-- the array's cell V codes the n chars f 0 .. f (n - 1) by the coder cd, as the JDK does: coder 1 just where some char is above 255 -/
def Cod (cd : Int32) (n : Nat) (f : Nat → Int32) (V : Cell) : Prop := (cd = 0 ∧ V.slots.size = n ∧ ∀ j, j < n → V.slots[j]? = some (.int (lo8 (f j))) ∧ ¬ 255 < f j) ∨ (cd = 1 ∧ V.slots.size = 2 * n ∧ (∀ j, j < n → V.slots[2 * j]? = some (.int (lo8 (f j))) ∧ V.slots[2 * j + 1]? = some (.int (hi8 (f j)))) ∧ ∃ j, j < n ∧ 255 < f j)
theorem Cod.cd {cd : Int32} {n : Nat} {f : Nat → Int32} {V : Cell} (h : Cod cd n f V) : cd = 0 ∨ cd = 1 := h.imp (fun q => q.1) fun q => q.1
theorem Cod.len {cd : Int32} {n : Nat} {f : Nat → Int32} {V : Cell} (h : Cod cd n f V) (hs : V.slots.size < 2 ^ 31) : Int32.ofNat V.slots.size >>> (cd &&& 31) = Int32.ofNat n := by
  rcases h with ⟨rfl, h, -⟩ | ⟨rfl, h, -⟩
  · rw [shr0, h]
  · rw [h, shr1 (by omega)]
/-- **x is a String of the n chars f 0 .. f (n - 1)**, Latin-1 or UTF-16; its array at t has the cell V -/
def Txt (x t : Addr) (V : Cell) (cd : Int32) (n : Nat) (f : Nat → Int32) (U : State) : Prop := Exact "java/lang/String" x U ∧ Has x "java/lang/String" "value" "[B" (.ref t) U ∧ Has x "java/lang/String" "coder" "B" (.int cd) U ∧ XT.Arr .byte t V U ∧ Cod cd n f V ∧ ∀ j, j < n → ¬ f j < 0 ∧ ¬ 65535 < f j
theorem Txt.mv {x t : Addr} {V : Cell} {cd : Int32} {n : Nat} {f : Nat → Int32} {U U' : State} (h : Txt x t V cd n f U) (hal : U.vm.Alike U'.vm) (hh : U'.heap = U.heap) : Txt x t V cd n f U' := ⟨h.1.mv hal hh, h.2.1.mv hal hh, h.2.2.1.mv hal hh, h.2.2.2.1.mv hal hh, h.2.2.2.2⟩
namespace Cdr
def yN : MethodName := ⟨"java/lang/String", "coder", "()B"⟩
abbrev yB : ByteArray := jdk_42_method_152_code
theorem d0 : decode yB 0 = .ok (.getstatic 38, 3) := by decide +kernel
theorem d3 : decode yB 3 = .ok (.ifCond (.eq) 10, 3) := by decide +kernel
theorem d6 : decode yB 6 = .ok (.aload_n 0, 1) := by decide +kernel
theorem d7 : decode yB 7 = .ok (.getfield 15, 3) := by decide +kernel
theorem d10 : decode yB 10 = .ok (.goto 4, 3) := by decide +kernel
theorem d14 : decode yB 14 = .ok (.ireturn, 1) := by decide +kernel
def site : List Cond := [.fieldLink "java/lang/String" 38 "java/lang/String" "COMPACT_STRINGS" "Z", .fieldLink "java/lang/String" 15 "java/lang/String" "coder" "B"]
def tab : Cond := tabOf yN yB 1 (some .byte) site
def P (x : Addr) (cd z : Int32) (args : Array Value) (s : State) : Prop := args = #[.ref x] ∧ Has x "java/lang/String" "coder" "B" (.int cd) s ∧ (cd = 0 ∨ cd = 1) ∧ StaticIs s "java/lang/String" "COMPACT_STRINGS" "Z" (.int z) ∧ ¬ z = 0
def E (cd : Int32) (r : Option Value) (s u : State) : Prop := XT.PureE (some (.int cd)) r s u
theorem law (l : Launch) (x : Addr) (cd z : Int32) : Law l yN 1 0 0 0 yB 1 (some .byte) site (P x cd z) (E cd) [] 0 0 := by
  refine Law.of_walk (plainFor_of_name (by decide +kernel)) (by decide +kernel) (by decide +kernel) (by decide) (fun _ _ h => by rw [h.1]; rfl) (fun _ U U' hal hh h => ⟨h.1, h.2.1.mv hal hh, h.2.2.1, h.2.2.2.1.there hal hh, h.2.2.2.2⟩) (fun r U U' V V' h1 hal h2 h => XT.PureE.mv r U U' V V' h1 hal h2 h) ?_
  intro p e s m args below meth c s₁ X0 hexec hbytes hml hret hlk hnm hown hh0 W hP
  obtain ⟨rfl, hx, hc, s1, hz⟩ := hP
  have c1 : Steps p.tables e below (s₁.setTop (entryFrame m #[.ref x] 1)) (s₁.setTop (mkF m 0 #[.val (.ref x)] [])) := entry rfl
  obtain ⟨T2, X2, q2, st2⟩ := X0.sget hexec hown (wk W (.fieldLink "java/lang/String" 38 "java/lang/String" "COMPACT_STRINGS" "Z")) s1 (fun _ _ h => by rw [hh0]; exact h) (g := (mkF m 0 #[.val (.ref x)] [])) rfl (hb hbytes d0)
  have hh2 := q2.trans hh0
  have c3 : Steps p.tables e below (s₁.setTop (entryFrame m #[.ref x] 1)) (T2.setTop (mkF m 7 #[.val (.ref x)] [.ref x])) := (c1.trans (st2 _ (Steps.refl _))).trans (by
    refine XS.ifNo X2.here hexec rfl (hb hbytes d3) rfl (i0_eq_f hz) ?_
    refine XS.aloadN X2.here hexec rfl (hb hbytes d6) rfl rfl ?_
    exact Steps.refl _)
  obtain ⟨T4, X4, q4, st4⟩ := X2.hget hexec hown (wk W (.fieldLink "java/lang/String" 15 "java/lang/String" "coder" "B")) (hx.mv X2.warmed.alike hh2) (g := (mkF m 7 #[.val (.ref x)] [.ref x])) rfl (rest := []) rfl (hb hbytes d7)
  have c5 : Steps p.tables e below (s₁.setTop (entryFrame m #[.ref x] 1)) (T4.setTop (mkF m 14 #[.val (.ref x)] [.int cd])) := (c3.trans (st4 _ (Steps.refl _))).trans (by
    refine XS.goto X4.here hexec rfl (pc0 := 10) rfl (hb hbytes d10) (by decide) rfl ?_
    exact Steps.refl _)
  exact ⟨T4, some (.int cd), _, _, _, X4, rfl, rfl, rfl, (fun h => by cases h), ⟨rfl, q4.trans hh2⟩, fun fs hl => c5.trans (X4.ireturnOut hexec hret (by rcases hc with rfl | rfl <;> rfl) (Or.inr (Or.inr (Or.inl rfl))) (hb hbytes d14) hl)⟩
end Cdr
namespace Len
def yN : MethodName := ⟨"java/lang/String", "length", "()I"⟩
abbrev yB : ByteArray := jdk_42_method_54_code
theorem d0 : decode yB 0 = .ok (.aload_n 0, 1) := by decide +kernel
theorem d1 : decode yB 1 = .ok (.getfield 9, 3) := by decide +kernel
theorem d4 : decode yB 4 = .ok (.arraylength, 1) := by decide +kernel
theorem d5 : decode yB 5 = .ok (.aload_n 0, 1) := by decide +kernel
theorem d6 : decode yB 6 = .ok (.invokevirtual 335, 3) := by decide +kernel
theorem d9 : decode yB 9 = .ok (.ishr, 1) := by decide +kernel
theorem d10 : decode yB 10 = .ok (.ireturn, 1) := by decide +kernel
def site : List Cond := [.fieldLink "java/lang/String" 9 "java/lang/String" "value" "[B", Cdr.tab] ++ virtW "java/lang/String" 335 "java/lang/String" Cdr.yN Cdr.yN
def tab : Cond := tabOf yN yB 1 (some .int) site
def P (x t : Addr) (V : Cell) (cd : Int32) (n : Nat) (f : Nat → Int32) (z : Int32) (args : Array Value) (s : State) : Prop := args = #[.ref x] ∧ Txt x t V cd n f s ∧ StaticIs s "java/lang/String" "COMPACT_STRINGS" "Z" (.int z) ∧ ¬ z = 0
def E (n : Nat) (r : Option Value) (s u : State) : Prop := XT.PureE (some (.int (Int32.ofNat n))) r s u
/-- length() of a String of n chars, in either coding -/
theorem law (l : Launch) (x t : Addr) (V : Cell) (cd : Int32) (n : Nat) (f : Nat → Int32) (z : Int32) : Law l yN 1 0 1 13 yB 1 (some .int) site (P x t V cd n f z) (E n) [] 0 0 := by
  refine Law.of_walk (plainFor_of_name (by decide +kernel)) (by decide +kernel) (by decide +kernel) (by decide) (fun _ _ h => by rw [h.1]; rfl) (fun _ U U' hal hh h => ⟨h.1, h.2.1.mv hal hh, h.2.2.1.there hal hh, h.2.2.2⟩) (fun r U U' V V' h1 hal h2 h => XT.PureE.mv r U U' V V' h1 hal h2 h) ?_
  intro p e s m args below meth c s₁ X0 hexec hbytes hml hret hlk hnm hown hh0 W hP
  obtain ⟨rfl, hx, s1, hz⟩ := hP
  have v31 := hx.2.2.2.1.2.2.2
  have c1 : Steps p.tables e below (s₁.setTop (entryFrame m #[.ref x] 1)) (s₁.setTop (mkF m 1 #[.val (.ref x)] [.ref x])) := Steps.trans (entry rfl) (by
    show Steps p.tables e below (s₁.setTop (mkF m 0 #[.val (.ref x)] [])) _
    refine XS.aloadN X0.here hexec rfl (hb hbytes d0) rfl rfl ?_
    exact Steps.refl _)
  obtain ⟨T2, X2, q2, st2⟩ := X0.hget hexec hown (wk W (.fieldLink "java/lang/String" 9 "java/lang/String" "value" "[B")) (hx.mv X0.warmed.alike hh0).2.1 (g := (mkF m 1 #[.val (.ref x)] [.ref x])) rfl (rest := []) rfl (hb hbytes d1)
  have hh2 := q2.trans hh0
  have hx2 := hx.mv X2.warmed.alike hh2
  have c3 : Steps p.tables e below (s₁.setTop (entryFrame m #[.ref x] 1)) (T2.setTop (mkF m 6 #[.val (.ref x)] [.ref x, .int (Int32.ofNat V.slots.size)])) := (c1.trans (st2 _ (Steps.refl _))).trans (by
    refine X2.alen hexec hx2.2.2.2.1 rfl rfl (hb hbytes d4) ?_
    refine XS.aloadN X2.here hexec rfl (hb hbytes d5) rfl rfl ?_
    exact Steps.refl _)
  obtain ⟨v4, T4, X4, E4, g4⟩ := X2.callV hexec (Cdr.law l x cd z) hown (wks W (virtW "java/lang/String" 335 "java/lang/String" Cdr.yN Cdr.yN)) rfl (by decide) (wk W Cdr.tab) (W := 1) (Nat.le_of_ble_eq_true rfl) (Nat.le_of_ble_eq_true rfl) (Nat.le_refl _) (Nat.le_refl _) (hx2.1.fc X2.warmed.alike) hx2.1.is (g := (mkF m 6 #[.val (.ref x)] [.ref x, .int (Int32.ofNat V.slots.size)])) rfl (by rw [hml]; rfl) c3 (argsL := []) (rest := [.int (Int32.ofNat V.slots.size)]) rfl rfl (by show 2 * 0 + (1 + 0) ≤ _; decide) (hb hbytes d6) (⟨rfl, hx2.2.2.1, hx.2.2.2.2.1.cd, s1.there X2.warmed.alike hh2, hz⟩)
  obtain ⟨rfl, q4⟩ := E4
  have c5 : Steps p.tables e below (s₁.setTop (entryFrame m #[.ref x] 1)) (T4.setTop (mkF m 10 #[.val (.ref x)] [.int (Int32.ofNat V.slots.size >>> (cd &&& 31))])) := Steps.trans g4 (by
    refine ishr X4.here hexec rfl (hb hbytes d9) rfl ?_
    exact Steps.refl _)
  rw [hx.2.2.2.2.1.len v31] at c5
  exact ⟨T4, some (.int (Int32.ofNat n)), _, _, _, X4, rfl, rfl, rfl, (fun h => by cases h), ⟨rfl, q4.trans hh2⟩, fun fs hl => c5.trans (X4.ireturnOut hexec hret rfl (Or.inl rfl) (hb hbytes d10) hl)⟩
theorem pays {l : Launch} {R : Room} {p : Program} {e : Env} {below : List Frame} {s : State} {sargs : Array Value} {len W : Nat} (x t : Addr) (V : Cell) (cd : Int32) (n : Nat) (f : Nat → Int32) (z : Int32) (htab : tab.before sargs s = true) (hfr : 2 ≤ R.frames) (hlo : W + 25 ≤ R.locals) :
    Back l R p e below s sargs yN len W (fun A₁ a₁ => A₁.cells + 0 ≤ R.cells ∧ A₁.slots + 0 ≤ R.slots ∧ P x t V cd n f z a₁ A₁.U) (fun A₁ _ v₁ B₁ => E n v₁ A₁.U B₁.U ∧ B₁.locs = A₁.locs ++ [] ∧ B₁.cells = A₁.cells + 0 ∧ B₁.slots = A₁.slots + 0) :=
  (law l x t V cd n f z).pays htab hfr (by omega)
end Len
end StrChars
namespace StrChars.Road
open Jvm Sem ClassFile Op Lib Jvm.Stand Jvm.Free Jvm.Free.XT
open Jvm.Lib.Cold (StaticIs)
theorem consq {a : Array Value} {s : State} {c : Jvm.Cond} {L : List Jvm.Cond} (h0 : c.before a s = true) (h : ∀ w ∈ L, w.before a s = true) : ∀ w ∈ c :: L, w.before a s = true := fun w hw => (List.mem_cons.mp hw).elim (fun e => e ▸ h0) (h w)
/-- the words of String.length(), either coding -/
abbrev wordsLen : List Jvm.Cond := [.code Len.yN Len.yB 1 (some .int), .initialized ST, .fieldLink ST 9 ST "value" "[B", .fieldLink ST 38 ST "COMPACT_STRINGS" "Z", .fieldLink ST 15 ST "coder" "B", .code Cdr.yN Cdr.yB 1 (some .byte), .methodLink ST 335 Cdr.yN, .declares Cdr.yN, .selects ST Cdr.yN Cdr.yN, .instanceMethod Cdr.yN]
theorem tabLen_of {a : Array Value} {s : State} (h : ∀ w ∈ wordsLen, w.before a s = true) : Len.tab.before a s = true := by
  have hc : Cdr.tab.before a s = true := unparts (wk h (.code Cdr.yN Cdr.yB 1 (some .byte))) (wks h (.initialized Cdr.yN.cls :: Cdr.site))
  have q := consq hc h
  exact unparts (wk q (.code Len.yN Len.yB 1 (some .int))) (wks q (.initialized Len.yN.cls :: Len.site))
theorem movedLen {Z s : State} {a0 args : Array Value} (hZ : Z.Warmed39 s.vm) (hw : ∀ d ∈ wordsLen, d.before a0 Z = true) : ∀ d ∈ wordsLen, d.before args s = true := fun d hd => by
  have q := hw d hd
  have t : ∀ d ∈ wordsLen, d = .arrayClass .byte ∨ (d.onTables && d.keepsFace) = true := by decide +kernel
  rcases t d hd with rfl | t
  · exact RoadKit.mvA hZ q
  · exact RoadKit.mv hZ q t
/-- the bytes of the chars cs, low before high -/
def wideBytes : List Int32 → List Value
  | [] => []
  | c :: cs => .int (lo8 c) :: .int (hi8 c) :: wideBytes cs
theorem wide_lo (d : Value) : ∀ (cs : List Int32) (j : Nat), j < cs.length → (wideBytes cs).getD (2 * j) d = .int (lo8 (cs.getD j 0))
  | [], j, h => absurd h (Nat.not_lt_zero j)
  | c :: cs, 0, _ => rfl
  | c :: cs, j + 1, h => by
    have q := wide_lo d cs j (by simpa using h)
    rw [show 2 * (j + 1) = 2 * j + 1 + 1 from by omega]
    simpa [wideBytes] using q
theorem wide_hi (d : Value) : ∀ (cs : List Int32) (j : Nat), j < cs.length → (wideBytes cs).getD (2 * j + 1) d = .int (hi8 (cs.getD j 0))
  | [], j, h => absurd h (Nat.not_lt_zero j)
  | c :: cs, 0, _ => rfl
  | c :: cs, j + 1, h => by
    have q := wide_hi d cs j (by simpa using h)
    rw [show 2 * (j + 1) + 1 = 2 * j + 1 + 1 + 1 from by omega]
    simpa [wideBytes] using q
theorem low_at (d : Value) (cs : List Int32) (j : Nat) (h : j < cs.length) : (cs.map fun c => Value.int (lo8 c)).getD j d = .int (lo8 (cs.getD j 0)) := by
  simp [List.getD_eq_getElem?_getD, h]
/-- an array of N2 bytes vs codes the chars cs by the coder cd -/
def CodA (cs : List Int32) (cd N2 : Int32) (vs : List Value) : Prop := (cd = 0 ∧ N2 = Int32.ofNat cs.length ∧ vs = (cs.map fun c => Value.int (lo8 c)) ∧ ∀ c ∈ cs, ¬ 255 < c) ∨ (cd = 1 ∧ N2 = Int32.ofNat (2 * cs.length) ∧ vs = wideBytes cs ∧ ∃ c ∈ cs, 255 < c)
theorem CodA.cod {cs : List Int32} {cd N2 : Int32} {vs : List Value} {V : Cell} (h : CodA cs cd N2 vs) (hn : 2 * cs.length < 2 ^ 31) (hs : V.slots.size = N2.toNatClampNeg) (hv : RoadKit.Has V vs (.int 0)) : Cod cd cs.length (fun j => cs.getD j 0) V := by
  rcases h with ⟨rfl, rfl, rfl, h⟩ | ⟨rfl, rfl, rfl, c, hc, hw⟩
  · rw [n32 (by omega)] at hs
    exact Or.inl ⟨rfl, hs, fun j hj => ⟨by rw [hv j (by omega), low_at _ _ _ hj], by
      have e : cs.getD j 0 = cs[j] := by simp [List.getD_eq_getElem?_getD, hj]
      show ¬ 255 < cs.getD j 0
      rw [e]; exact h _ (List.getElem_mem _)⟩⟩
  · rw [n32 (by omega)] at hs
    obtain ⟨j, hj, rfl⟩ := List.getElem_of_mem hc
    exact Or.inr ⟨rfl, hs, fun j hj => ⟨by rw [hv _ (by omega), wide_lo _ _ _ hj], by rw [hv _ (by omega), wide_hi _ _ _ hj]⟩, j, hj, by
      have e : cs.getD j 0 = cs[j] := by simp [List.getD_eq_getElem?_getD, hj]
      show 255 < cs.getD j 0
      rw [e]; exact hw⟩
/-- an object of exactly java/lang/String, its two fields found: as the laws ask it -/
theorem strObj {Z U : State} {a0 : Array Value} {kI : Nat} (wi : (Jvm.Cond.instantiable ST kI).before a0 Z = true) (al : Z.vm.Alike U.vm) {x : Addr} {v0 c0 : Value} (E : RoadKit.Exa Z U.heap x ST) (V : RoadKit.Fld Z U.heap x ST "value" "[B" v0) (C : RoadKit.Fld Z U.heap x ST "coder" "B" c0) :
    ∃ (D : Cell) (fV fC : Field), Blank ST x D U ∧ Found ST "value" "[B" fV U ∧ Found ST "coder" "B" fC U ∧ D.slots[fV.slot]? = some v0 ∧ D.slots[fC.slot]? = some c0 ∧ RoadKit.slotOf Z ST "value" "[B" = fV.slot ∧ RoadKit.slotOf Z ST "coder" "B" = fC.slot := by
  obtain ⟨D, cfV, kV, iV, fV, hD, gV, stV, knV, obV, asV, slV⟩ := V
  obtain ⟨D', cfC, kC, iC, fC, hD', gC, stC, -, -, asC, slC⟩ := C
  cases hD.symm.trans hD'
  obtain ⟨D2, kD, e1, e2, e3, e4, e5⟩ := E
  cases hD.symm.trans e1
  obtain ⟨c2, k2, i1, i2, i3, -⟩ := Cond.instantiable_spec wi
  cases e2.symm.trans i1
  cases e3.symm.trans i2
  obtain ⟨kU, u1, u2⟩ := al.2.2 _ _ e3
  exact ⟨D, fV, fC, ⟨hD, ⟨knV, fun q hq => by rw [hq] at obV; cases obV⟩, by rw [al.findClass]; exact e2, kU, u1, by rw [u2]; exact i3, by rw [u2]; exact e5 i3⟩, ⟨SBG.found_only al ⟨cfV, kV, iV, gV⟩, stV⟩, ⟨SBG.found_only al ⟨cfC, kC, iC, gC⟩, stC⟩, slV, slC, by simp [RoadKit.slotOf, gV], by simp [RoadKit.slotOf, gC]⟩
theorem sta_is {Z U : State} (al : Z.vm.Alike U.vm) {C n d : String} {v : Value} (S : RoadKit.Sta Z U.heap C n d v) : StaticIs U C n d v := by
  obtain ⟨cfS, iS, kS, fS, st, cS, t1, t2, t3, t4, t5, t6, t7⟩ := S
  exact StaticIs.there (s := { Z with heap := U.heap }) ⟨cfS, iS, kS, fS, st, cS, t1, t2, t3, t4, t5, (fun q => by rw [q] at t6; cases t6), t7⟩ al rfl
/-- **length() OF SUCH A STRING** -/
theorem lenW {p : Program} {l : Launch} {e : Env} {R : Room} {s : State} {args : Array Value} {below : List Frame} {len W : Nat} {Z : State} {a0 : Array Value} {h : Heap} (hZ : Z.Warmed39 s.vm) (hw : ∀ d ∈ wordsLen, d.before a0 Z = true) {kI : Nat} (wi : (Jvm.Cond.instantiable ST kI).before a0 Z = true)
    {x t : Addr} {kb : ClassId} {cs : List Int32} {cd N2 z : Int32} {vs : List Value} (E : RoadKit.Exa Z h x ST) (V : RoadKit.Fld Z h x ST "value" "[B" (.ref t)) (C : RoadKit.Fld Z h x ST "coder" "B" (.int cd)) (K : RoadKit.Arv Z h t kb .byte N2 vs (.int 0)) (hc : CodA cs cd N2 vs) (hb : ∀ c ∈ cs, ¬ c < 0 ∧ ¬ (65535 : Int32) < c)
    (S : RoadKit.Sta Z h ST "COMPACT_STRINGS" "Z" (.int z)) (hz : ¬ z = 0) (l2 : cs.length ≤ 4000) (hfr : 2 ≤ R.frames) (hlo : W + 25 ≤ R.locals) :
    Back l R p e below s args (⟨"java/lang/String", "length", "()I"⟩ : MethodName) len W (fun P a => a = #[.ref x] ∧ P.U.heap = h ∧ P.cells + 0 ≤ R.cells ∧ P.slots + 0 ≤ R.slots)
      (fun P _ v B => ∃ L, (v = some (.int (Int32.ofNat cs.length)) ∧ L = [] ∧ B.U.heap = h) ∧ B.locs = P.locs ++ L ∧ B.cells = P.cells + 0 ∧ B.slots = P.slots + 0) := by
  obtain ⟨A, K1, K2, K3, K4, K5, K6⟩ := K
  have hcod := hc.cod (by omega) K3 K5
  intro m meth c P g ig mk a X hg hsize hdg hW hn hp'
  obtain ⟨rfl, rfl, r1, r2⟩ := hp'
  have al : Z.vm.Alike P.U.vm := hZ.alike.trans X.warmed.alike
  obtain ⟨D, fV, fC, hB, F1, F2, g1, g2, -, -⟩ := strObj wi al E V C
  have hx : Txt x t A cd cs.length (fun j => cs.getD j 0) P.U := ⟨⟨_, hB.2.2.1, D, hB.1, rfl, by cases q : D.vm <;> first | rfl | exact absurd q (hB.2.1.2 _)⟩, Has.of hB F1 g1, Has.of hB F2 g2, ⟨K1.1, State.isArrayOf_alike al K1.2.1, K1.2.2, by rcases hcod with ⟨-, q, -⟩ | ⟨-, q, -⟩ <;> omega⟩, hcod, fun j hj => by
    have e : cs.getD j 0 = cs[j] := by simp [List.getD_eq_getElem?_getD, hj]
    show ¬ cs.getD j 0 < 0 ∧ ¬ 65535 < cs.getD j 0
    rw [e]; exact hb _ (List.getElem_mem _)⟩
  obtain ⟨v, B, X', ⟨⟨hv, hh⟩, hl, hk, hs⟩, st⟩ := Len.pays x t A cd cs.length (fun j => cs.getD j 0) z (tabLen_of (movedLen hZ hw)) hfr hlo m meth c P g ig mk _ X hg hsize hdg hW hn ⟨r1, r2, rfl, hx, sta_is al S, hz⟩
  exact ⟨v, B, X', ⟨[], ⟨hv, rfl, hh⟩, hl, hk, hs⟩, st⟩
end StrChars.Road
namespace StrChars.Road
open Jvm Sem ClassFile Op Lib Jvm.Stand Jvm.Free Jvm.Free.XT
open Jvm.Lib.Cold (StaticIs)
/-- what backV says of its String, as the contracts of this text ask it: cs's low bytes, coder 0 -/
theorem codOf {cs : List Int32} {n : Nat} (hn : cs.length = n) (hb : ∀ c ∈ cs, ¬ 255 < c) : CodA cs 0 (Int32.ofNat n) ((cs.map lo8).map Value.int) := Or.inl ⟨rfl, by rw [hn], by simp [List.map_map, Function.comp_def], hb⟩
end StrChars.Road
end Jvm.Pilot.@@N@@

namespace Jvm.Pilot.@@N@@
open Jvm Jvm.ClassFile Sem Op Lib Jvm.Free Jvm.Stand Jvm.LawKit Jvm.RoadKit Bundle Jvm.Pilot.@@N@@.Jvm.D
abbrev hWt (a0 : Array Value) (Z : State) : Prop := ∀ d ∈ tables_1, d.before a0 Z = true
abbrev vR (x : Nat) : Slot := .val (.ref x)
abbrev vI (x : Int32) : Slot := .val (.int x)
/-- what is left to show at a state of the walk -/
def own_G (p : Program) (e : Env) (below : List Frame) (Q : Outcome → State → Prop) (S : State) : Prop := ∃ s₂ o, Steps p.tables e below S s₂ ∧ s₂.status = .running ∧ Ended s₂ below o ∧ Q o s₂
theorem own_st {p : Program} {e : Env} {below : List Frame} {Q : Outcome → State → Prop} {S S' : State} (h : ∀ t, Steps p.tables e below S' t → Steps p.tables e below S t) (g : own_G p e below Q S') : own_G p e below Q S := by
  obtain ⟨s₂, o, a, b⟩ := g
  exact ⟨s₂, o, h _ a, b⟩
theorem s_iloadN {p : Program} {l : Launch} {e : Env} {R : Room} {s : State} {m : MethodId} {args : Array Value} {below : List Frame} {meth : Method} {c : Code} {T : State} {locs : List Loc} {cells slots : Nat} {Q : Outcome → State → Prop} {pc : Nat} {Ls : Array Slot} {S : List Value} (X : Stand p l e R s m args below meth c T locs cells slots) (hx : p.tables.exec = Jvm.exec) {k : Fin 4} {v : Int32} (hd : decode c.code pc = .ok (.iload_n k, 1)) (hl : Ls[k.val]? = some (.val (.int v))) (k : own_G p e below Q (T.setTop (mkF m (pc + 1) Ls (.int v :: S)))) : own_G p e below Q (T.setTop (mkF m pc Ls S)) := own_st (fun tq kq => XS.iloadN X.here hx rfl hd hl kq) k
theorem s_iload {p : Program} {l : Launch} {e : Env} {R : Room} {s : State} {m : MethodId} {args : Array Value} {below : List Frame} {meth : Method} {c : Code} {T : State} {locs : List Loc} {cells slots : Nat} {Q : Outcome → State → Prop} {pc : Nat} {Ls : Array Slot} {S : List Value} (X : Stand p l e R s m args below meth c T locs cells slots) (hx : p.tables.exec = Jvm.exec) {k : Nat} {v : Int32} (hd : decode c.code pc = .ok (.iload k, 2)) (hl : Ls[k]? = some (.val (.int v))) (k : own_G p e below Q (T.setTop (mkF m (pc + 2) Ls (.int v :: S)))) : own_G p e below Q (T.setTop (mkF m pc Ls S)) := own_st (fun tq kq => XS.iload X.here hx rfl hd hl kq) k
theorem s_aloadN {p : Program} {l : Launch} {e : Env} {R : Room} {s : State} {m : MethodId} {args : Array Value} {below : List Frame} {meth : Method} {c : Code} {T : State} {locs : List Loc} {cells slots : Nat} {Q : Outcome → State → Prop} {pc : Nat} {Ls : Array Slot} {S : List Value} (X : Stand p l e R s m args below meth c T locs cells slots) (hx : p.tables.exec = Jvm.exec) {k : Fin 4} {v : Value} (hd : decode c.code pc = .ok (.aload_n k, 1)) (hl : Ls[k.val]? = some (.val v)) (hv : v.isRef = true) (k : own_G p e below Q (T.setTop (mkF m (pc + 1) Ls (v :: S)))) : own_G p e below Q (T.setTop (mkF m pc Ls S)) := own_st (fun tq kq => XS.aloadN X.here hx rfl hd hl hv kq) k
theorem s_aload {p : Program} {l : Launch} {e : Env} {R : Room} {s : State} {m : MethodId} {args : Array Value} {below : List Frame} {meth : Method} {c : Code} {T : State} {locs : List Loc} {cells slots : Nat} {Q : Outcome → State → Prop} {pc : Nat} {Ls : Array Slot} {S : List Value} (X : Stand p l e R s m args below meth c T locs cells slots) (hx : p.tables.exec = Jvm.exec) {k : Nat} {v : Value} (hd : decode c.code pc = .ok (.aload k, 2)) (hl : Ls[k]? = some (.val v)) (hv : v.isRef = true) (k : own_G p e below Q (T.setTop (mkF m (pc + 2) Ls (v :: S)))) : own_G p e below Q (T.setTop (mkF m pc Ls S)) := own_st (fun tq kq => XS.aload X.here hx rfl hd hl hv kq) k
theorem s_iconst {p : Program} {l : Launch} {e : Env} {R : Room} {s : State} {m : MethodId} {args : Array Value} {below : List Frame} {meth : Method} {c : Code} {T : State} {locs : List Loc} {cells slots : Nat} {Q : Outcome → State → Prop} {pc : Nat} {Ls : Array Slot} {S : List Value} (X : Stand p l e R s m args below meth c T locs cells slots) (hx : p.tables.exec = Jvm.exec) {i : Int} (hd : decode c.code pc = .ok (.iconst i, 1))  (k : own_G p e below Q (T.setTop (mkF m (pc + 1) Ls (.int (Int32.ofInt i) :: S)))) : own_G p e below Q (T.setTop (mkF m pc Ls S)) := own_st (fun tq kq => XS.iconst X.here hx rfl hd  kq) k
theorem s_bipush {p : Program} {l : Launch} {e : Env} {R : Room} {s : State} {m : MethodId} {args : Array Value} {below : List Frame} {meth : Method} {c : Code} {T : State} {locs : List Loc} {cells slots : Nat} {Q : Outcome → State → Prop} {pc : Nat} {Ls : Array Slot} {S : List Value} (X : Stand p l e R s m args below meth c T locs cells slots) (hx : p.tables.exec = Jvm.exec) {i : Int} (hd : decode c.code pc = .ok (.bipush i, 2))  (k : own_G p e below Q (T.setTop (mkF m (pc + 2) Ls (.int (Int8.ofInt i).toInt32 :: S)))) : own_G p e below Q (T.setTop (mkF m pc Ls S)) := own_st (fun tq kq => XS.bipush X.here hx rfl hd  kq) k
theorem s_sipush {p : Program} {l : Launch} {e : Env} {R : Room} {s : State} {m : MethodId} {args : Array Value} {below : List Frame} {meth : Method} {c : Code} {T : State} {locs : List Loc} {cells slots : Nat} {Q : Outcome → State → Prop} {pc : Nat} {Ls : Array Slot} {S : List Value} (X : Stand p l e R s m args below meth c T locs cells slots) (hx : p.tables.exec = Jvm.exec) {i : Int} (hd : decode c.code pc = .ok (.sipush i, 3))  (k : own_G p e below Q (T.setTop (mkF m (pc + 3) Ls (.int (Int16.ofInt i).toInt32 :: S)))) : own_G p e below Q (T.setTop (mkF m pc Ls S)) := own_st (fun tq kq => XS.sipush X.here hx rfl hd  kq) k
theorem own_lt {a b : Nat} (h : a < b) : a < b := h
theorem own_le {a b : Nat} (h : a ≤ b) : a ≤ b := h
theorem own_ne {a b : Nat} (h : a ≠ b) : a ≠ b := h
theorem own_since (s : State) : s.Since s.vm 0 := (State.WarmedH.refl s).since 0
/-- a contract's start: the arguments, the tables, the heap, the constants held, what may be written is no constant's -/
def own_P (Z : State) (EL : List (String × Nat)) (as : Array Value) (h : Heap) (ws : List Addr) : Array Value → State → Prop := fun a U => a = as ∧ Z.Warmed39 U.vm ∧ U.heap = h ∧ CHv Z EL U.vm h ∧ ∀ x ∈ ws, Safe Z EL U.vm h x
/-- a contract's end -/
def own_E (Z : State) (EL : List (String × Nat)) (Q : Option Value → Vm → Heap → List Loc → Prop) (rm : Room) : Array Value → State → Outcome → State → Prop := fun _ U o U' => ∃ v L, o = .returned v ∧ Q v U'.vm U'.heap L ∧ CHr Z EL U.vm U.heap U'.vm U'.heap ∧ ReturnedEndW U o U' L rm.cells rm.slots
theorem own_RW {U U' : State} {o : Outcome} {L : List Loc} {k n k' n' : Nat} (h : ReturnedEndW U o U' L k n) (h1 : k ≤ k') (h2 : n ≤ n') : ReturnedEndW U o U' L k' n' := ⟨h.1, h.2.1, h.2.2.1, h.2.2.2.mono h1 h2⟩
/-- a callee that may load constants, by its contract -/
theorem own_back {p : Program} {l : Launch} {e : Env} {R : Room} {s : State} {args : Array Value} {below : List Frame} {Z : State} {a0 : Array Value} {EL : List (String × Nat)} {h : Heap} {vm0 : Vm} {y : MethodName} {bytes : ByteArray} {maxL : Nat} {ret : Option FieldType} {rm : Room} {len W : Nat} {as' : Array Value} {ws : List Addr} {Q : Option Value → Vm → Heap → List Loc → Prop}
    (hM : MetFree l y (head1 [Cond.code y bytes maxL ret] rm) (own_P Z EL as' h ws) (fun _ _ _ _ _ => True) (own_E Z EL Q rm))
    (hZ : Z.Warmed39 vm0) (wc : (Cond.code y bytes maxL ret).before a0 Z = true) (wz : (Cond.initialized y.cls).before a0 Z = true) (hf : rm.frames + 1 ≤ R.frames) (hl : W + (maxL + 11) + rm.locals ≤ R.locals) (hEL : EW Z a0 EL) (H : CHv Z EL vm0 h) (hs : ∀ x ∈ ws, x < h.size ∧ Safe Z EL vm0 h x) :
    BackS l R p e below (s.setVm vm0) args y len W (fun A a => a = as' ∧ A.U.heap = h ∧ A.cells + rm.cells ≤ R.cells ∧ A.slots + rm.slots ≤ R.slots)
      (fun A _ v B => ∃ L, Q v B.U.vm B.U.heap L ∧ B.locs = A.locs ++ L ∧ B.cells = A.cells + rm.cells ∧ B.slots = A.slots + rm.slots ∧ CHr Z EL vm0 h B.U.vm B.U.heap) := by
  refine BackS.of_freeW (bytes := bytes) (maxL := maxL) (ret := ret) (E := fun _ first o t L k n => k = rm.cells ∧ n = rm.slots ∧ (∃ v, o = .returned v ∧ Q v t.vm t.heap L) ∧ CHr Z EL first.vm first.heap t.vm t.heap) hM hf hl ?_ ?_ (fun _ _ _ _ _ _ _ _ _ => trivial) ?_ ?_
  · intro m meth c A a Y hp
    have hU : Z.Warmed39 A.U.vm := wtrans (s := s.setVm vm0) hZ Y.warmed
    exact ⟨by show (Cond.and _ .tt).before a A.U = true; rw [Cond.before_and, mv hU wc]; rfl, mv hU wc, mv hU wz, hp.2.2.1, hp.2.2.2⟩
  · intro m meth c A a g mk Y hp
    have q := CHv.at Y hZ hEL H
    exact ⟨hp.1, wtrans (s := s.setVm vm0) hZ Y.warmed, hp.2.1, q.1, fun x hx => q.safe (hs x hx).1 (hs x hx).2⟩
  · rintro _ _ _ _ ⟨v, L, h1, h2, h3, h4⟩
    exact ⟨L, _, _, h4, rfl, rfl, ⟨v, h1, h2⟩, h3⟩
  · rintro m meth c A a g mk v t L k n Y hp _ _ ⟨e1, e2, ⟨v', e3, e4⟩, e5⟩
    cases e3; subst e1 e2
    refine ⟨L, e4, rfl, rfl, rfl, (CHv.at Y hZ hEL H).trans ?_⟩
    rw [← hp.2.1]; exact e5
/-- the end of a contract that loads no constant -/
def own_EN (Q : Option Value → Heap → List Loc → Prop) (rm : Room) : Array Value → State → Outcome → State → Prop := fun _ U o U' => ∃ v L, o = .returned v ∧ Q v U'.heap L ∧ FrameEnd U o U' L rm.cells rm.slots
theorem own_backN {p : Program} {l : Launch} {e : Env} {R : Room} {s : State} {args : Array Value} {below : List Frame} {Z : State} {a0 : Array Value} {h : Heap} {y : MethodName} {bytes : ByteArray} {maxL : Nat} {ret : Option FieldType} {rm : Room} {len W : Nat} {as' : Array Value} {Q : Option Value → Heap → List Loc → Prop}
    (hM : MetFree l y (head1 [Cond.code y bytes maxL ret] rm) (fun a U => a = as' ∧ Z.Warmed39 U.vm ∧ U.heap = h) (fun _ _ _ _ _ => True) (own_EN Q rm))
    (hZ : Z.Warmed39 s.vm) (wc : (Cond.code y bytes maxL ret).before a0 Z = true) (wz : (Cond.initialized y.cls).before a0 Z = true) (hf : rm.frames + 1 ≤ R.frames) (hl : W + (maxL + 11) + rm.locals ≤ R.locals) :
    Back l R p e below s args y len W (fun A a => a = as' ∧ A.U.heap = h ∧ A.cells + rm.cells ≤ R.cells ∧ A.slots + rm.slots ≤ R.slots)
      (fun A _ v B => ∃ L, Q v B.U.heap L ∧ B.locs = A.locs ++ L ∧ B.cells = A.cells + rm.cells ∧ B.slots = A.slots + rm.slots) := backOf (Q := Q) hM hZ wc wz hf hl
theorem own_wS {a0 : Array Value} {Z : State} (hw : ∀ d ∈ tables_1, d.before a0 Z = true) : ∀ a ∈ Bundle.stringAtoms, a.before a0 Z = true := fun d hd => hw d ((by decide +kernel : ∀ d ∈ Bundle.stringAtoms, d ∈ tables_1) d hd)
theorem own_and255 (x : Int32) : ¬ nar .char ((x &&& (255 : Int32)).toUInt32.toUInt16.toUInt32.toInt32) < 0 ∧ ¬ (255 : Int32) < nar .char ((x &&& (255 : Int32)).toUInt32.toUInt16.toUInt32.toInt32) := by
  have t : ∀ k : Fin 256, ¬ nar .char ((Int32.ofNat k.val).toUInt32.toUInt16.toUInt32.toInt32) < 0 ∧ ¬ (255 : Int32) < nar .char ((Int32.ofNat k.val).toUInt32.toUInt16.toUInt32.toInt32) := by decide +kernel
  have h : (x &&& 255).toBitVec.toNat < 256 := by
    simp only [Int32.toBitVec_and, BitVec.toNat_and]
    exact Nat.lt_succ_of_le Nat.and_le_right
  have e : (x &&& 255) = Int32.ofNat (x &&& 255).toBitVec.toNat := by
    apply Int32.toBitVec_inj.mp
    show _ = BitVec.ofNat 32 _
    rw [BitVec.ofNat_toNat]; simp
  rw [e]
  exact t ⟨_, h⟩
theorem own_and255b (x : Int32) : ¬ ((x &&& (255 : Int32)).toUInt32.toUInt16.toUInt32.toInt32) < 0 ∧ ¬ (255 : Int32) < ((x &&& (255 : Int32)).toUInt32.toUInt16.toUInt32.toInt32) := by
  have e : nar .char ((x &&& (255 : Int32)).toUInt32.toUInt16.toUInt32.toInt32) = ((x &&& (255 : Int32)).toUInt32.toUInt16.toUInt32.toInt32) := by simp only [nar, UInt32.toUInt32_toInt32, UInt16.toUInt16_toUInt32]
  have q := own_and255 x
  rw [e] at q
  exact q
/-- a word of the sheet -/
theorem own_wd {a0 : Array Value} {Z : State} (hw : hWt a0 Z) (i : Nat) {d : Cond} (h : tables_1[i]? = some d) : d.before a0 Z = true := hw _ (List.mem_of_getElem? h)
/-- a contract that loads no constant -/
abbrev own_MN (l : Launch) (y : MethodName) (bytes : ByteArray) (maxL : Nat) (ret : Option FieldType) (ws : List Cond) (rm : Room) (Z : State) (A : Array Value) (h0 : Heap) (Q : Option Value → Heap → List Loc → Prop) : Prop := MetFree l y (head1 (Cond.code y bytes maxL ret :: ws) rm) (fun av_ U => av_ = A ∧ Z.Warmed39 U.vm ∧ U.heap = h0) (fun _ _ _ _ _ => True) (own_EN Q rm)
/-- its body's walk -/
theorem own_bodyN {l : Launch} {y : MethodName} {bytes : ByteArray} {maxL : Nat} {ret : Option FieldType} {ws : List Cond} {rm : Room} {Z : State} {A : Array Value} {h0 : Heap} {Q : Option Value → Heap → List Loc → Prop} (hy : plainFor y = true)
    (k : ∀ p e s m below meth c s₁, BodyLoose p l y (head1 (Cond.code y bytes maxL ret :: ws) rm) bytes maxL ret e s m A below meth c s₁ → p.tables.exec = Jvm.exec → c.code = bytes → c.maxLocals = maxL → s.vm.findClass y.cls = some m.cls → Z.Warmed39 s.vm → Stand p l e rm s m A below meth c s₁ [] 0 0 → s₁.heap = h0 → own_G p e below (own_EN Q rm A s) (s₁.setTop (entryFrame m A maxL))) : own_MN l y bytes maxL ret ws rm Z A h0 Q := by
  refine MetFree.of_bodySF hy hisR ?_
  intro p e s m args below meth c s₁ Bd hml hP hK
  obtain ⟨rfl, hZ, hh⟩ := hP
  exact k p e s m below meth c s₁ Bd Bd.exec Bd.bytes hml (findClass_of_methodNamed Bd.named) hZ (Stand.of_body Bd) (by rw [← hh, Bd.state]; rfl)
/-- a law's end, the constants no more looked at -/
def own_E0 (Q : Option Value → Vm → Heap → List Loc → Prop) (rm : Room) : Array Value → State → Outcome → State → Prop := fun _ U o U' => ∃ v L, o = .returned v ∧ Q v U'.vm U'.heap L ∧ ReturnedEndW U o U' L rm.cells rm.slots
/-- leaving a contract that loads no constant -/
theorem own_retN {p : Program} {l : Launch} {e : Env} {R : Room} {s : State} {m : MethodId} {args : Array Value} {below : List Frame} {meth : Method} {c : Code} {T : State} {locs : List Loc} {cells slots : Nat} (X : Stand p l e R s m args below meth c T locs cells slots) {v : Option Value} (hv : meth.sig.returnType = none → v = none) (hlk : meth.locks = false) {g : JFrame} (hr : ∀ fs, (∀ (f : JFrame) (acts : List Action), f.method = m → f.locked = none → f.entered = [] → (doReturn e (T.setTop f) acts v).1 = T.setFrames fs) → Steps p.tables e below (T.setTop g) (T.setFrames fs)) {Q : Option Value → Heap → List Loc → Prop} {rm : Room} {A : Array Value} (hc : cells ≤ rm.cells) (hs : slots ≤ rm.slots) (hq : Q v T.heap locs) : own_G p e below (own_EN Q rm A s) (T.setTop g) := by
  obtain ⟨fs, h1, h2, h3, h4, h5⟩ := X.leave hv hlk
  exact ⟨_, _, hr fs h1, h2, h3, _, _, rfl, hq, ⟨_, rfl⟩, h4, h5.mono hc hs⟩
/-- a byte stored into an array of our own, the constants kept -/
theorem own_bst {p : Program} {l : Launch} {e : Env} {R : Room} {s : State} {m : MethodId} {args : Array Value} {below : List Frame} {meth : Method} {c : Code} {T : State} {locs : List Loc} {cells slots : Nat} {Z : State} {h h0 : Heap} {EL : List (String × Nat)} {vm0 vm : Vm} (X : Stand p l e R s m args below meth c T locs cells slots) (hx : p.tables.exec = Jvm.exec) (hZ : Z.Warmed39 s.vm) (eT : T.heap = h) {a : Nat} {k : ClassId} {z : Int32} {vs : List Value} {dv : Value} (V : Arv Z h a k .byte z vs dv) (K : Keep h0 h []) {n0 : Nat} (N : Fr n0 locs) (C : CHr Z EL vm0 h0 vm h) (Sf : Safe Z EL vm h a) (g0 : n0 ≤ a) (g1 : h0.size ≤ a) {j x : Int32} (hj : ¬ j < 0 ∧ j < z) (i : Nat) (hi : j.toNatClampNeg = i) (hl : i < vs.length) {g : JFrame} (hg : g.method = m) {rest : List Value} (hs : g.stack = .int x :: .int j :: .ref a :: rest) (hd : decode c.code g.pc = .ok (.bastore, 1)) :
    ∃ T' h' L', Stand p l e R s m args below meth c T' L' cells slots ∧ T'.heap = h' ∧ Arv Z h' a k .byte z (vs.set i (.int (nar .byte x))) dv ∧ Keep h0 h' [] ∧ Fr n0 L' ∧ CHr Z EL vm0 h0 vm h' ∧ Safe Z EL vm h' a ∧ Wr h h' a j.toNatClampNeg (.int (nar .byte x)) ∧ ∀ target, Steps p.tables e below (T'.setTop { g with pc := g.pc + 1, stack := rest }) target → Steps p.tables e below (T.setTop g) target := by
  obtain ⟨cl, Ar, q, S_, N_, H_, G_⟩ := id V
  obtain ⟨T', h', X', e', W, st⟩ := stB X hx hZ eT Ar (inb_of S_ hj) hg hs hd
  have cc := CHr.wr W Sf C.1
  exact ⟨T', h', _, X', e', Arv.set Ar q S_ N_ H_ G_ (fits_nar_byte _) W i hi hl, K.wr W (Or.inr g1), Fr.snoc X' N g0, C.trans cc, cc.safe V.lt Sf, W, st⟩

/-- a String of known chars below 256; a, and its byte[], lie below n -/
def own_Str (Z : State) (n : Nat) (h : Heap) (a : Nat) (cs : List Int32) : Prop := a < n ∧ Exa Z h a "java/lang/String" ∧ (∀ c ∈ cs, ¬ c < 0 ∧ ¬ (255 : Int32) < c) ∧ cs.length ≤ 4000 ∧ ∃ (t : Nat) (kb : ClassId), t < n ∧ Fld Z h a "java/lang/String" "value" "[B" (.ref t) ∧ Fld Z h a "java/lang/String" "coder" "B" (.int 0) ∧ Arv Z h t kb .byte (Int32.ofNat cs.length) ((cs.map fun c => c.toInt8.toInt32).map Value.int) (.int 0)
theorem own_Str.keep {Z : State} {n : Nat} {h h' : Heap} {a : Nat} {cs : List Int32} {ws : List Addr} (F : own_Str Z n h a cs) (K : Keep h h' ws) (q : ∀ x ∈ ws, n ≤ x) : own_Str Z n h' a cs := by
  obtain ⟨f1, f2, f3, f4, t, kb, f5, f6, f7, f8⟩ := F
  exact ⟨f1, f2.keep K, f3, f4, t, kb, f5, f6.keep K (fun m => absurd f1 (Nat.not_lt.mpr (q _ m))), f7.keep K (fun m => absurd f1 (Nat.not_lt.mpr (q _ m))), f8.keep K (fun m => absurd f5 (Nat.not_lt.mpr (q _ m)))⟩
theorem own_Str.keepX {Z : State} {a0 : Array Value} {n k : Nat} {h h' : Heap} {a x : Nat} {C : String} {cs : List Int32} (F : own_Str Z n h a cs) (K : Keep h h' [x]) (E : Exa Z h x C) (w : (Cond.instantiable C k).before a0 Z = true) (hC : C ≠ "java/lang/String") : own_Str Z n h' a cs := by
  obtain ⟨f1, f2, f3, f4, t, kb, f5, f6, f7, f8⟩ := F
  have n1 : a ≠ x := fun q => (E.ne f2 hC) q.symm
  have n2 : t ≠ x := fun q => (E.neArv f8 w) q.symm
  exact ⟨f1, f2.keep K, f3, f4, t, kb, f5, f6.keep K (ninS n1 nin0), f7.keep K (ninS n1 nin0), f8.keep K (ninS n2 nin0)⟩
theorem own_Str.ext {Z : State} {n : Nat} {h h' : Heap} {a : Nat} {cs : List Int32} (F : own_Str Z n h a cs) (E : Ext h h') : own_Str Z n h' a cs := by
  obtain ⟨f1, f2, f3, f4, t, kb, f5, f6, f7, f8⟩ := F
  exact ⟨f1, f2.ext E, f3, f4, t, kb, f5, f6.ext E, f7.ext E, f8.ext E⟩
theorem own_Str.wr {Z : State} {n : Nat} {h h' : Heap} {a b : Nat} {sl : Nat} {v : Value} {cs : List Int32} (F : own_Str Z n h a cs) (W : Wr h h' b sl v) (q : n ≤ b) : own_Str Z n h' a cs := F.keep (Keep.of_wr W) (allS q all0)
theorem own_Str.mono {Z : State} {n n' : Nat} {h : Heap} {a : Nat} {cs : List Int32} (F : own_Str Z n h a cs) (q : n ≤ n') : own_Str Z n' h a cs := by
  obtain ⟨f1, f2, f3, f4, t, kb, f5, f6⟩ := F
  exact ⟨Nat.lt_of_lt_of_le f1 q, f2, f3, f4, t, kb, Nat.lt_of_lt_of_le f5 q, f6⟩
abbrev rm_0_0_0_0 : Room := { frames := 0, cells := 0, slots := 0, locals := 0 }
abbrev rm_1_0_0_20 : Room := { frames := 1, cells := 0, slots := 0, locals := 20 }
abbrev rm_1_0_0_40 : Room := { frames := 1, cells := 0, slots := 0, locals := 40 }
abbrev rm_1_1_16_12 : Room := { frames := 1, cells := 1, slots := 16, locals := 12 }
abbrev rm_1_1_34_40 : Room := { frames := 1, cells := 1, slots := 34, locals := 40 }
abbrev rm_1_1_68_14 : Room := { frames := 1, cells := 1, slots := 68, locals := 14 }
abbrev rm_1_1_72_40 : Room := { frames := 1, cells := 1, slots := 72, locals := 40 }
abbrev rm_1_2_4_12 : Room := { frames := 1, cells := 2, slots := 4, locals := 12 }
abbrev rm_2_0_0_40 : Room := { frames := 2, cells := 0, slots := 0, locals := 40 }
abbrev rm_2_1_16_28 : Room := { frames := 2, cells := 1, slots := 16, locals := 28 }
abbrev rm_2_1_68_40 : Room := { frames := 2, cells := 1, slots := 68, locals := 40 }
abbrev rm_2_1_72_58 : Room := { frames := 2, cells := 1, slots := 72, locals := 58 }
abbrev rm_2_2_4_29 : Room := { frames := 2, cells := 2, slots := 4, locals := 29 }
abbrev rm_2_2_140_60 : Room := { frames := 2, cells := 2, slots := 140, locals := 60 }
abbrev rm_2_2_144_60 : Room := { frames := 2, cells := 2, slots := 144, locals := 60 }
abbrev rm_3_0_0_60 : Room := { frames := 3, cells := 0, slots := 0, locals := 60 }
abbrev rm_3_1_34_60 : Room := { frames := 3, cells := 1, slots := 34, locals := 60 }
abbrev rm_3_1_72_76 : Room := { frames := 3, cells := 1, slots := 72, locals := 76 }
abbrev rm_3_2_102_70 : Room := { frames := 3, cells := 2, slots := 102, locals := 70 }
abbrev rm_3_2_144_80 : Room := { frames := 3, cells := 2, slots := 144, locals := 80 }
abbrev rm_4_0_0_80 : Room := { frames := 4, cells := 0, slots := 0, locals := 80 }
abbrev rm_4_1_72_94 : Room := { frames := 4, cells := 1, slots := 72, locals := 94 }
abbrev rm_4_2_102_95 : Room := { frames := 4, cells := 2, slots := 102, locals := 95 }
abbrev rm_4_2_144_102 : Room := { frames := 4, cells := 2, slots := 144, locals := 102 }
abbrev rm_5_0_0_100 : Room := { frames := 5, cells := 0, slots := 0, locals := 100 }
abbrev rm_5_1_68_100 : Room := { frames := 5, cells := 1, slots := 68, locals := 100 }
abbrev rm_5_2_76_110 : Room := { frames := 5, cells := 2, slots := 76, locals := 110 }
abbrev rm_5_2_102_115 : Room := { frames := 5, cells := 2, slots := 102, locals := 115 }
abbrev rm_5_2_144_120 : Room := { frames := 5, cells := 2, slots := 144, locals := 120 }
abbrev rm_6_0_0_120 : Room := { frames := 6, cells := 0, slots := 0, locals := 120 }
abbrev rm_6_1_68_120 : Room := { frames := 6, cells := 1, slots := 68, locals := 120 }
abbrev rm_7_0_0_140 : Room := { frames := 7, cells := 0, slots := 0, locals := 140 }
abbrev rm_7_1_34_140 : Room := { frames := 7, cells := 1, slots := 34, locals := 140 }
abbrev rm_7_1_68_140 : Room := { frames := 7, cells := 1, slots := 68, locals := 140 }
abbrev rm_8_0_0_158 : Room := { frames := 8, cells := 0, slots := 0, locals := 158 }
abbrev rm_8_1_34_158 : Room := { frames := 8, cells := 1, slots := 34, locals := 158 }
abbrev rm_8_1_68_160 : Room := { frames := 8, cells := 1, slots := 68, locals := 160 }
abbrev rm_9_1_68_178 : Room := { frames := 9, cells := 1, slots := 68, locals := 178 }
abbrev rm_10_14_700_200 : Room := { frames := 10, cells := 14, slots := 700, locals := 200 }
abbrev mN0 : MethodName := ⟨"java/lang/String", "<init>", "([CIILjava/lang/Void;)V"⟩
abbrev mN1 : MethodName := ⟨"java/lang/String", "<init>", "([C)V"⟩
abbrev mN2 : MethodName := ⟨"java/lang/String", "coder", "()B"⟩
abbrev mN3 : MethodName := ⟨"java/lang/AbstractStringBuilder", "isLatin1", "()Z"⟩
abbrev mN4 : MethodName := ⟨"java/lang/StringUTF16", "newBytesLength", "(I)I"⟩
abbrev mN5 : MethodName := ⟨"java/lang/StringUTF16", "newBytesFor", "(I)[B"⟩
abbrev mN6 : MethodName := ⟨"java/lang/StringUTF16", "putChar", "([BII)V"⟩
abbrev mN7 : MethodName := ⟨"java/lang/StringUTF16", "getChar", "([BI)C"⟩
abbrev mN8 : MethodName := ⟨"java/lang/StringUTF16", "compress", "([CI[BII)I"⟩
abbrev mN9 : MethodName := ⟨"java/lang/StringUTF16", "toBytes", "([CII)[B"⟩
abbrev mN10 : MethodName := ⟨"java/lang/StringUTF16", "coderFromArrayLen", "([BI)B"⟩
abbrev mN11 : MethodName := ⟨"java/lang/StringUTF16", "compress", "([CII)[B"⟩
abbrev mN12 : MethodName := ⟨"java/lang/StringUTF16", "length", "([B)I"⟩
abbrev mN13 : MethodName := ⟨"jdk/internal/util/Preconditions", "checkFromIndexSize", "(IIILjava/util/function/BiFunction;)I"⟩
abbrev mN14 : MethodName := ⟨"java/lang/String", "checkBoundsOffCount", "(III)I"⟩
abbrev mN15 : MethodName := ⟨"java/lang/StringUTF16", "checkBoundsOffCount", "(II[B)V"⟩
abbrev mN16 : MethodName := ⟨"java/lang/StringUTF16", "inflate", "([BI[BII)V"⟩
abbrev mN17 : MethodName := ⟨"java/lang/StringLatin1", "inflate", "([BI[BII)V"⟩
abbrev mN18 : MethodName := ⟨"java/lang/AbstractStringBuilder", "inflate", "()V"⟩
abbrev mN19 : MethodName := ⟨"java/lang/AbstractStringBuilder", "inflateIfNeededFor", "(Ljava/lang/String;)V"⟩
abbrev mN20 : MethodName := ⟨"java/lang/String", "getBytes", "([BIB)V"⟩
abbrev mN21 : MethodName := ⟨"java/lang/AbstractStringBuilder", "putStringAt", "(ILjava/lang/String;)V"⟩
abbrev mN22 : MethodName := ⟨"java/lang/AbstractStringBuilder", "ensureCapacityInternal", "(I)V"⟩
abbrev mN23 : MethodName := ⟨"java/lang/Math", "max", "(II)I"⟩
abbrev mN24 : MethodName := ⟨"jdk/internal/util/ArraysSupport", "newLength", "(III)I"⟩
abbrev mN25 : MethodName := ⟨"java/lang/AbstractStringBuilder", "newCapacity", "(I)I"⟩
abbrev mN26 : MethodName := ⟨"java/lang/Math", "min", "(II)I"⟩
abbrev mN27 : MethodName := ⟨"java/util/Arrays", "copyOf", "([BI)[B"⟩
abbrev mN28 : MethodName := ⟨"java/lang/AbstractStringBuilder", "append", "(Ljava/lang/String;)Ljava/lang/AbstractStringBuilder;"⟩
abbrev mN29 : MethodName := ⟨"java/lang/String", "length", "()I"⟩
abbrev mN30 : MethodName := ⟨"java/lang/StringBuilder", "append", "(Ljava/lang/String;)Ljava/lang/StringBuilder;"⟩
abbrev mN31 : MethodName := ⟨"java/lang/AbstractStringBuilder", "<init>", "(I)V"⟩
abbrev mN32 : MethodName := ⟨"java/lang/StringBuilder", "<init>", "()V"⟩
abbrev mN33 : MethodName := ⟨"java/lang/AbstractStringBuilder", "getValue", "()[B"⟩
abbrev mN34 : MethodName := ⟨"java/lang/AbstractStringBuilder", "length", "()I"⟩
abbrev mN35 : MethodName := ⟨"java/lang/StringBuilder", "length", "()I"⟩
abbrev mN36 : MethodName := ⟨"java/util/Arrays", "checkLength", "(II)V"⟩
abbrev mN37 : MethodName := ⟨"java/util/Arrays", "copyOfRangeByte", "([BII)[B"⟩
abbrev mN38 : MethodName := ⟨"java/util/Arrays", "copyOfRange", "([BII)[B"⟩
abbrev mN39 : MethodName := ⟨"java/lang/String", "<init>", "(Ljava/lang/AbstractStringBuilder;Ljava/lang/Void;)V"⟩
abbrev mN40 : MethodName := ⟨"java/lang/String", "<init>", "(Ljava/lang/StringBuilder;)V"⟩
abbrev mN41 : MethodName := ⟨"java/lang/StringBuilder", "toString", "()Ljava/lang/String;"⟩
abbrev mN42 : MethodName := ⟨"java/lang/StringCoding", "countPositives", "([BII)I"⟩
abbrev mN43 : MethodName := ⟨"java/lang/StringCoding", "hasNegatives", "([BII)Z"⟩
abbrev mN44 : MethodName := ⟨"java/lang/String", "encodeUTF8", "(B[BZ)[B"⟩
abbrev mN45 : MethodName := ⟨"java/lang/Character", "isSurrogate", "(C)Z"⟩
abbrev mN46 : MethodName := ⟨"java/lang/String", "encodeUTF8_UTF16", "([BZ)[B"⟩
abbrev mN47 : MethodName := ⟨"java/lang/String", "encode", "(Ljava/nio/charset/Charset;B[B)[B"⟩
abbrev mN48 : MethodName := ⟨"java/lang/String", "getBytes", "(Ljava/nio/charset/Charset;)[B"⟩
abbrev mN49 : MethodName := ⟨"com/example/sieveline/sieveline/server/NotificationStream", "matchFrame", "(Ljava/lang/String;)[B"⟩
abbrev mN50 : MethodName := ⟨"com/example/sieveline/sieveline/server/NotificationStreamMatchFramePinLaw", "draw", "(I)I"⟩
abbrev mN51 : MethodName := ⟨"com/example/sieveline/sieveline/server/NotificationStreamMatchFramePinLaw", "put", "([BII)I"⟩
abbrev mN52 : MethodName := ⟨"com/example/sieveline/sieveline/server/NotificationStreamMatchFramePinLaw", "same", "([B[BII)Z"⟩
abbrev mN53 : MethodName := ⟨"com/example/sieveline/sieveline/server/NotificationStreamMatchFramePinLaw", "eq10", "([B[BII)Z"⟩
section
variable {a0 : Array Value} {Z : State}
def wd20 (hw : hWt a0 Z) := own_wd hw 20 rfl
def wd21 (hw : hWt a0 Z) := own_wd hw 21 rfl
def wd22 (hw : hWt a0 Z) := own_wd hw 22 rfl
def wd212 (hw : hWt a0 Z) := own_wd hw 212 rfl
def wd36 (hw : hWt a0 Z) := own_wd hw 36 rfl
def wd37 (hw : hWt a0 Z) := own_wd hw 37 rfl
def wd11 (hw : hWt a0 Z) := own_wd hw 11 rfl
def wd34 (hw : hWt a0 Z) := own_wd hw 34 rfl
def wd35 (hw : hWt a0 Z) := own_wd hw 35 rfl
def wd16 (hw : hWt a0 Z) := own_wd hw 16 rfl
def wd19 (hw : hWt a0 Z) := own_wd hw 19 rfl
def wd12 (hw : hWt a0 Z) := own_wd hw 12 rfl
def wd17 (hw : hWt a0 Z) := own_wd hw 17 rfl
def wd15 (hw : hWt a0 Z) := own_wd hw 15 rfl
def wd23 (hw : hWt a0 Z) := own_wd hw 23 rfl
def wd55 (hw : hWt a0 Z) := own_wd hw 55 rfl
def wd58 (hw : hWt a0 Z) := own_wd hw 58 rfl
def wd222 (hw : hWt a0 Z) := own_wd hw 222 rfl
def wd219 (hw : hWt a0 Z) := own_wd hw 219 rfl
def wd221 (hw : hWt a0 Z) := own_wd hw 221 rfl
def wd26 (hw : hWt a0 Z) := own_wd hw 26 rfl
def wd220 (hw : hWt a0 Z) := own_wd hw 220 rfl
def wd226 (hw : hWt a0 Z) := own_wd hw 226 rfl
def wd227 (hw : hWt a0 Z) := own_wd hw 227 rfl
def wd228 (hw : hWt a0 Z) := own_wd hw 228 rfl
def wd223 (hw : hWt a0 Z) := own_wd hw 223 rfl
def wd225 (hw : hWt a0 Z) := own_wd hw 225 rfl
def wd224 (hw : hWt a0 Z) := own_wd hw 224 rfl
def wd216 (hw : hWt a0 Z) := own_wd hw 216 rfl
def wd218 (hw : hWt a0 Z) := own_wd hw 218 rfl
def wd217 (hw : hWt a0 Z) := own_wd hw 217 rfl
def wd28 (hw : hWt a0 Z) := own_wd hw 28 rfl
def wd30 (hw : hWt a0 Z) := own_wd hw 30 rfl
def wd29 (hw : hWt a0 Z) := own_wd hw 29 rfl
def wd213 (hw : hWt a0 Z) := own_wd hw 213 rfl
def wd215 (hw : hWt a0 Z) := own_wd hw 215 rfl
def wd214 (hw : hWt a0 Z) := own_wd hw 214 rfl
def wd229 (hw : hWt a0 Z) := own_wd hw 229 rfl
def wd231 (hw : hWt a0 Z) := own_wd hw 231 rfl
def wd230 (hw : hWt a0 Z) := own_wd hw 230 rfl
def wd24 (hw : hWt a0 Z) := own_wd hw 24 rfl
def wd27 (hw : hWt a0 Z) := own_wd hw 27 rfl
def wd25 (hw : hWt a0 Z) := own_wd hw 25 rfl
def wd31 (hw : hWt a0 Z) := own_wd hw 31 rfl
def wd33 (hw : hWt a0 Z) := own_wd hw 33 rfl
def wd32 (hw : hWt a0 Z) := own_wd hw 32 rfl
def wd255 (hw : hWt a0 Z) := own_wd hw 255 rfl
def wd257 (hw : hWt a0 Z) := own_wd hw 257 rfl
def wd259 (hw : hWt a0 Z) := own_wd hw 259 rfl
def wd256 (hw : hWt a0 Z) := own_wd hw 256 rfl
def wd258 (hw : hWt a0 Z) := own_wd hw 258 rfl
def wd249 (hw : hWt a0 Z) := own_wd hw 249 rfl
def wd251 (hw : hWt a0 Z) := own_wd hw 251 rfl
def wd250 (hw : hWt a0 Z) := own_wd hw 250 rfl
def wd252 (hw : hWt a0 Z) := own_wd hw 252 rfl
def wd254 (hw : hWt a0 Z) := own_wd hw 254 rfl
def wd253 (hw : hWt a0 Z) := own_wd hw 253 rfl
def wd246 (hw : hWt a0 Z) := own_wd hw 246 rfl
def wd248 (hw : hWt a0 Z) := own_wd hw 248 rfl
def wd247 (hw : hWt a0 Z) := own_wd hw 247 rfl
def wd243 (hw : hWt a0 Z) := own_wd hw 243 rfl
def wd245 (hw : hWt a0 Z) := own_wd hw 245 rfl
def wd244 (hw : hWt a0 Z) := own_wd hw 244 rfl
def wd237 (hw : hWt a0 Z) := own_wd hw 237 rfl
def wd163 (hw : hWt a0 Z) := own_wd hw 163 rfl
def wd52 (hw : hWt a0 Z) := own_wd hw 52 rfl
def wd162 (hw : hWt a0 Z) := own_wd hw 162 rfl
def wd160 (hw : hWt a0 Z) := own_wd hw 160 rfl
def wd161 (hw : hWt a0 Z) := own_wd hw 161 rfl
def wd56 (hw : hWt a0 Z) := own_wd hw 56 rfl
def wd238 (hw : hWt a0 Z) := own_wd hw 238 rfl
def wd83 (hw : hWt a0 Z) := own_wd hw 83 rfl
def wd239 (hw : hWt a0 Z) := own_wd hw 239 rfl
def wd242 (hw : hWt a0 Z) := own_wd hw 242 rfl
def wd241 (hw : hWt a0 Z) := own_wd hw 241 rfl
def wd240 (hw : hWt a0 Z) := own_wd hw 240 rfl
def wd57 (hw : hWt a0 Z) := own_wd hw 57 rfl
def wd43 (hw : hWt a0 Z) := own_wd hw 43 rfl
def wd59 (hw : hWt a0 Z) := own_wd hw 59 rfl
def wd84 (hw : hWt a0 Z) := own_wd hw 84 rfl
def wd262 (hw : hWt a0 Z) := own_wd hw 262 rfl
def wd126 (hw : hWt a0 Z) := own_wd hw 126 rfl
def wd82 (hw : hWt a0 Z) := own_wd hw 82 rfl
def wd81 (hw : hWt a0 Z) := own_wd hw 81 rfl
def wd79 (hw : hWt a0 Z) := own_wd hw 79 rfl
def wd80 (hw : hWt a0 Z) := own_wd hw 80 rfl
def wd232 (hw : hWt a0 Z) := own_wd hw 232 rfl
def wd236 (hw : hWt a0 Z) := own_wd hw 236 rfl
def wd233 (hw : hWt a0 Z) := own_wd hw 233 rfl
def wd234 (hw : hWt a0 Z) := own_wd hw 234 rfl
def wd235 (hw : hWt a0 Z) := own_wd hw 235 rfl
def wd78 (hw : hWt a0 Z) := own_wd hw 78 rfl
def wd132 (hw : hWt a0 Z) := own_wd hw 132 rfl
def wd115 (hw : hWt a0 Z) := own_wd hw 115 rfl
def wd113 (hw : hWt a0 Z) := own_wd hw 113 rfl
def wd114 (hw : hWt a0 Z) := own_wd hw 114 rfl
def wd260 (hw : hWt a0 Z) := own_wd hw 260 rfl
def wd121 (hw : hWt a0 Z) := own_wd hw 121 rfl
def wd125 (hw : hWt a0 Z) := own_wd hw 125 rfl
def wd122 (hw : hWt a0 Z) := own_wd hw 122 rfl
def wd123 (hw : hWt a0 Z) := own_wd hw 123 rfl
def wd124 (hw : hWt a0 Z) := own_wd hw 124 rfl
def wd127 (hw : hWt a0 Z) := own_wd hw 127 rfl
def wd131 (hw : hWt a0 Z) := own_wd hw 131 rfl
def wd130 (hw : hWt a0 Z) := own_wd hw 130 rfl
def wd128 (hw : hWt a0 Z) := own_wd hw 128 rfl
def wd129 (hw : hWt a0 Z) := own_wd hw 129 rfl
def wd99 (hw : hWt a0 Z) := own_wd hw 99 rfl
def wd102 (hw : hWt a0 Z) := own_wd hw 102 rfl
def wd101 (hw : hWt a0 Z) := own_wd hw 101 rfl
def wd100 (hw : hWt a0 Z) := own_wd hw 100 rfl
def wd103 (hw : hWt a0 Z) := own_wd hw 103 rfl
def wd95 (hw : hWt a0 Z) := own_wd hw 95 rfl
def wd98 (hw : hWt a0 Z) := own_wd hw 98 rfl
def wd97 (hw : hWt a0 Z) := own_wd hw 97 rfl
def wd96 (hw : hWt a0 Z) := own_wd hw 96 rfl
def wd104 (hw : hWt a0 Z) := own_wd hw 104 rfl
def wd109 (hw : hWt a0 Z) := own_wd hw 109 rfl
def wd111 (hw : hWt a0 Z) := own_wd hw 111 rfl
def wd110 (hw : hWt a0 Z) := own_wd hw 110 rfl
def wd112 (hw : hWt a0 Z) := own_wd hw 112 rfl
def wd90 (hw : hWt a0 Z) := own_wd hw 90 rfl
def wd94 (hw : hWt a0 Z) := own_wd hw 94 rfl
def wd91 (hw : hWt a0 Z) := own_wd hw 91 rfl
def wd92 (hw : hWt a0 Z) := own_wd hw 92 rfl
def wd93 (hw : hWt a0 Z) := own_wd hw 93 rfl
def wd105 (hw : hWt a0 Z) := own_wd hw 105 rfl
def wd108 (hw : hWt a0 Z) := own_wd hw 108 rfl
def wd107 (hw : hWt a0 Z) := own_wd hw 107 rfl
def wd106 (hw : hWt a0 Z) := own_wd hw 106 rfl
def wd73 (hw : hWt a0 Z) := own_wd hw 73 rfl
def wd76 (hw : hWt a0 Z) := own_wd hw 76 rfl
def wd74 (hw : hWt a0 Z) := own_wd hw 74 rfl
def wd75 (hw : hWt a0 Z) := own_wd hw 75 rfl
def wd85 (hw : hWt a0 Z) := own_wd hw 85 rfl
def wd89 (hw : hWt a0 Z) := own_wd hw 89 rfl
def wd86 (hw : hWt a0 Z) := own_wd hw 86 rfl
def wd87 (hw : hWt a0 Z) := own_wd hw 87 rfl
def wd88 (hw : hWt a0 Z) := own_wd hw 88 rfl
def wd116 (hw : hWt a0 Z) := own_wd hw 116 rfl
def wd120 (hw : hWt a0 Z) := own_wd hw 120 rfl
def wd117 (hw : hWt a0 Z) := own_wd hw 117 rfl
def wd118 (hw : hWt a0 Z) := own_wd hw 118 rfl
def wd119 (hw : hWt a0 Z) := own_wd hw 119 rfl
def wd68 (hw : hWt a0 Z) := own_wd hw 68 rfl
def wd72 (hw : hWt a0 Z) := own_wd hw 72 rfl
def wd70 (hw : hWt a0 Z) := own_wd hw 70 rfl
def wd69 (hw : hWt a0 Z) := own_wd hw 69 rfl
def wd54 (hw : hWt a0 Z) := own_wd hw 54 rfl
def wd48 (hw : hWt a0 Z) := own_wd hw 48 rfl
def wd53 (hw : hWt a0 Z) := own_wd hw 53 rfl
def wd49 (hw : hWt a0 Z) := own_wd hw 49 rfl
def wd157 (hw : hWt a0 Z) := own_wd hw 157 rfl
def wd158 (hw : hWt a0 Z) := own_wd hw 158 rfl
def wd153 (hw : hWt a0 Z) := own_wd hw 153 rfl
def wd170 (hw : hWt a0 Z) := own_wd hw 170 rfl
def wd172 (hw : hWt a0 Z) := own_wd hw 172 rfl
def wd171 (hw : hWt a0 Z) := own_wd hw 171 rfl
def wd167 (hw : hWt a0 Z) := own_wd hw 167 rfl
def wd169 (hw : hWt a0 Z) := own_wd hw 169 rfl
def wd168 (hw : hWt a0 Z) := own_wd hw 168 rfl
def wd146 (hw : hWt a0 Z) := own_wd hw 146 rfl
def wd150 (hw : hWt a0 Z) := own_wd hw 150 rfl
def wd149 (hw : hWt a0 Z) := own_wd hw 149 rfl
def wd147 (hw : hWt a0 Z) := own_wd hw 147 rfl
def wd148 (hw : hWt a0 Z) := own_wd hw 148 rfl
def wd151 (hw : hWt a0 Z) := own_wd hw 151 rfl
def wd156 (hw : hWt a0 Z) := own_wd hw 156 rfl
def wd44 (hw : hWt a0 Z) := own_wd hw 44 rfl
def wd154 (hw : hWt a0 Z) := own_wd hw 154 rfl
def wd152 (hw : hWt a0 Z) := own_wd hw 152 rfl
def wd155 (hw : hWt a0 Z) := own_wd hw 155 rfl
def wd159 (hw : hWt a0 Z) := own_wd hw 159 rfl
def wd164 (hw : hWt a0 Z) := own_wd hw 164 rfl
def wd166 (hw : hWt a0 Z) := own_wd hw 166 rfl
def wd165 (hw : hWt a0 Z) := own_wd hw 165 rfl
def wd143 (hw : hWt a0 Z) := own_wd hw 143 rfl
def wd145 (hw : hWt a0 Z) := own_wd hw 145 rfl
def wd144 (hw : hWt a0 Z) := own_wd hw 144 rfl
def wd139 (hw : hWt a0 Z) := own_wd hw 139 rfl
def wd140 (hw : hWt a0 Z) := own_wd hw 140 rfl
def wd142 (hw : hWt a0 Z) := own_wd hw 142 rfl
def wd141 (hw : hWt a0 Z) := own_wd hw 141 rfl
def wd261 (hw : hWt a0 Z) := own_wd hw 261 rfl
def wd192 (hw : hWt a0 Z) := own_wd hw 192 rfl
def wd194 (hw : hWt a0 Z) := own_wd hw 194 rfl
def wd190 (hw : hWt a0 Z) := own_wd hw 190 rfl
def wd193 (hw : hWt a0 Z) := own_wd hw 193 rfl
def wd273 (hw : hWt a0 Z) := own_wd hw 273 rfl
def wd188 (hw : hWt a0 Z) := own_wd hw 188 rfl
def wd191 (hw : hWt a0 Z) := own_wd hw 191 rfl
def wd189 (hw : hWt a0 Z) := own_wd hw 189 rfl
def wd195 (hw : hWt a0 Z) := own_wd hw 195 rfl
def wd196 (hw : hWt a0 Z) := own_wd hw 196 rfl
def wd200 (hw : hWt a0 Z) := own_wd hw 200 rfl
def wd198 (hw : hWt a0 Z) := own_wd hw 198 rfl
def wd199 (hw : hWt a0 Z) := own_wd hw 199 rfl
def wd201 (hw : hWt a0 Z) := own_wd hw 201 rfl
def wd202 (hw : hWt a0 Z) := own_wd hw 202 rfl
def wd274 (hw : hWt a0 Z) := own_wd hw 274 rfl
def wd271 (hw : hWt a0 Z) := own_wd hw 271 rfl
def wd272 (hw : hWt a0 Z) := own_wd hw 272 rfl
def wd266 (hw : hWt a0 Z) := own_wd hw 266 rfl
def wd267 (hw : hWt a0 Z) := own_wd hw 267 rfl
def wd270 (hw : hWt a0 Z) := own_wd hw 270 rfl
def wd269 (hw : hWt a0 Z) := own_wd hw 269 rfl
def wd268 (hw : hWt a0 Z) := own_wd hw 268 rfl
def wd263 (hw : hWt a0 Z) := own_wd hw 263 rfl
def wd265 (hw : hWt a0 Z) := own_wd hw 265 rfl
def wd264 (hw : hWt a0 Z) := own_wd hw 264 rfl
def wd183 (hw : hWt a0 Z) := own_wd hw 183 rfl
def wd185 (hw : hWt a0 Z) := own_wd hw 185 rfl
def wd187 (hw : hWt a0 Z) := own_wd hw 187 rfl
def wd186 (hw : hWt a0 Z) := own_wd hw 186 rfl
def wd180 (hw : hWt a0 Z) := own_wd hw 180 rfl
def wd182 (hw : hWt a0 Z) := own_wd hw 182 rfl
def wd181 (hw : hWt a0 Z) := own_wd hw 181 rfl
def wd42 (hw : hWt a0 Z) := own_wd hw 42 rfl
def wd45 (hw : hWt a0 Z) := own_wd hw 45 rfl
def wd47 (hw : hWt a0 Z) := own_wd hw 47 rfl
def wd46 (hw : hWt a0 Z) := own_wd hw 46 rfl
def wd60 (hw : hWt a0 Z) := own_wd hw 60 rfl
def wd63 (hw : hWt a0 Z) := own_wd hw 63 rfl
def wd67 (hw : hWt a0 Z) := own_wd hw 67 rfl
def wd66 (hw : hWt a0 Z) := own_wd hw 66 rfl
def wd64 (hw : hWt a0 Z) := own_wd hw 64 rfl
def wd65 (hw : hWt a0 Z) := own_wd hw 65 rfl
def wd133 (hw : hWt a0 Z) := own_wd hw 133 rfl
def wd134 (hw : hWt a0 Z) := own_wd hw 134 rfl
def wd138 (hw : hWt a0 Z) := own_wd hw 138 rfl
def wd137 (hw : hWt a0 Z) := own_wd hw 137 rfl
def wd135 (hw : hWt a0 Z) := own_wd hw 135 rfl
def wd136 (hw : hWt a0 Z) := own_wd hw 136 rfl
def wd173 (hw : hWt a0 Z) := own_wd hw 173 rfl
def wd175 (hw : hWt a0 Z) := own_wd hw 175 rfl
def wd179 (hw : hWt a0 Z) := own_wd hw 179 rfl
def wd178 (hw : hWt a0 Z) := own_wd hw 178 rfl
def wd176 (hw : hWt a0 Z) := own_wd hw 176 rfl
def wd177 (hw : hWt a0 Z) := own_wd hw 177 rfl
def wd4 (hw : hWt a0 Z) := own_wd hw 4 rfl
def wd210 (hw : hWt a0 Z) := own_wd hw 210 rfl
def wd211 (hw : hWt a0 Z) := own_wd hw 211 rfl
def wd207 (hw : hWt a0 Z) := own_wd hw 207 rfl
def wd209 (hw : hWt a0 Z) := own_wd hw 209 rfl
def wd2 (hw : hWt a0 Z) := own_wd hw 2 rfl
def wd208 (hw : hWt a0 Z) := own_wd hw 208 rfl
def wd10 (hw : hWt a0 Z) := own_wd hw 10 rfl
def wd13 (hw : hWt a0 Z) := own_wd hw 13 rfl
def wd14 (hw : hWt a0 Z) := own_wd hw 14 rfl
def wd38 (hw : hWt a0 Z) := own_wd hw 38 rfl
def wd41 (hw : hWt a0 Z) := own_wd hw 41 rfl
def wd40 (hw : hWt a0 Z) := own_wd hw 40 rfl
def wd39 (hw : hWt a0 Z) := own_wd hw 39 rfl
def wd204 (hw : hWt a0 Z) := own_wd hw 204 rfl
def wd206 (hw : hWt a0 Z) := own_wd hw 206 rfl
def wd205 (hw : hWt a0 Z) := own_wd hw 205 rfl
def wd7 (hw : hWt a0 Z) := own_wd hw 7 rfl
def wd9 (hw : hWt a0 Z) := own_wd hw 9 rfl
def wd8 (hw : hWt a0 Z) := own_wd hw 8 rfl
def wd0 (hw : hWt a0 Z) := own_wd hw 0 rfl
def wd3 (hw : hWt a0 Z) := own_wd hw 3 rfl
def wd1 (hw : hWt a0 Z) := own_wd hw 1 rfl
def wd6 (hw : hWt a0 Z) := own_wd hw 6 rfl
end
theorem own_pn0 : plainName "java/lang/String" = true := by first | (simp [plainName, overriddenIn]; done) | decide +kernel
abbrev cS4 := jdk_42_method_149_code
theorem dS4_0 : decode cS4 0 = .ok (.aload_n 0, 1) := by decide +kernel
theorem dS4_1 : decode cS4 1 = .ok (.invokespecial 1, 3) := by decide +kernel
theorem dS4_4 : decode cS4 4 = .ok (.iload_n 3, 1) := by decide +kernel
theorem dS4_5 : decode cS4 5 = .ok (.ifCond .ne 22, 3) := by decide +kernel
theorem dS4_8 : decode cS4 8 = .ok (.aload_n 0, 1) := by decide +kernel
theorem dS4_9 : decode cS4 9 = .ok (.ldc 7, 2) := by decide +kernel
theorem dS4_11 : decode cS4 11 = .ok (.getfield 9, 3) := by decide +kernel
theorem dS4_14 : decode cS4 14 = .ok (.putfield 9, 3) := by decide +kernel
theorem dS4_17 : decode cS4 17 = .ok (.aload_n 0, 1) := by decide +kernel
theorem dS4_18 : decode cS4 18 = .ok (.ldc 7, 2) := by decide +kernel
theorem dS4_20 : decode cS4 20 = .ok (.getfield 15, 3) := by decide +kernel
theorem dS4_23 : decode cS4 23 = .ok (.putfield 15, 3) := by decide +kernel
theorem dS4_26 : decode cS4 26 = .ok (.return_, 1) := by decide +kernel
abbrev cS1 := jdk_42_method_3_code
theorem dS1_0 : decode cS1 0 = .ok (.aload_n 0, 1) := by decide +kernel
theorem dS1_1 : decode cS1 1 = .ok (.aload_n 1, 1) := by decide +kernel
theorem dS1_2 : decode cS1 2 = .ok (.iconst 0, 1) := by decide +kernel
theorem dS1_3 : decode cS1 3 = .ok (.aload_n 1, 1) := by decide +kernel
theorem dS1_4 : decode cS1 4 = .ok (.arraylength, 1) := by decide +kernel
theorem dS1_5 : decode cS1 5 = .ok (.aconst_null, 1) := by decide +kernel
theorem dS1_6 : decode cS1 6 = .ok (.invokespecial 27, 3) := by decide +kernel
theorem own_pd0 : parseMethodDescriptor "([CIILjava/lang/Void;)V" = some ⟨[(.array .char), .int, .int, (.object "java/lang/Void")], none⟩ := by decide +kernel
theorem dS1_9 : decode cS1 9 = .ok (.return_, 1) := by decide +kernel
abbrev cCO := jdk_42_method_152_code
theorem dCO_0 : decode cCO 0 = .ok (.getstatic 38, 3) := by decide +kernel
theorem dCO_3 : decode cCO 3 = .ok (.ifCond .eq 10, 3) := by decide +kernel
theorem dCO_6 : decode cCO 6 = .ok (.aload_n 0, 1) := by decide +kernel
theorem dCO_7 : decode cCO 7 = .ok (.getfield 15, 3) := by decide +kernel
theorem dCO_10 : decode cCO 10 = .ok (.goto 4, 3) := by decide +kernel
theorem dCO_14 : decode cCO 14 = .ok (.ireturn, 1) := by decide +kernel
theorem own_pn1 : plainName "java/lang/AbstractStringBuilder" = true := by first | (simp [plainName, overriddenIn]; done) | decide +kernel
abbrev cIL := jdk_68_method_68_code
theorem dIL_0 : decode cIL 0 = .ok (.getstatic 18, 3) := by decide +kernel
theorem dIL_3 : decode cIL 3 = .ok (.ifCond .eq 14, 3) := by decide +kernel
theorem dIL_6 : decode cIL 6 = .ok (.aload_n 0, 1) := by decide +kernel
theorem dIL_7 : decode cIL 7 = .ok (.getfield 22, 3) := by decide +kernel
theorem dIL_10 : decode cIL 10 = .ok (.ifCond .ne 7, 3) := by decide +kernel
theorem dIL_13 : decode cIL 13 = .ok (.iconst 1, 1) := by decide +kernel
theorem dIL_14 : decode cIL 14 = .ok (.goto 4, 3) := by decide +kernel
theorem dIL_18 : decode cIL 18 = .ok (.ireturn, 1) := by decide +kernel
theorem dIL_17 : decode cIL 17 = .ok (.iconst 0, 1) := by decide +kernel
theorem own_pn2 : plainName "java/lang/StringUTF16" = true := by first | (simp [plainName, overriddenIn]; done) | decide +kernel
abbrev cNB := jdk_52_method_3_code
theorem dNB_0 : decode cNB 0 = .ok (.iload_n 0, 1) := by decide +kernel
theorem dNB_1 : decode cNB 1 = .ok (.ifCond .ge 11, 3) := by decide +kernel
theorem dNB_12 : decode cNB 12 = .ok (.iload_n 0, 1) := by decide +kernel
theorem dNB_13 : decode cNB 13 = .ok (.ldc 20, 2) := by decide +kernel
theorem dNB_15 : decode cNB 15 = .ok (.if_icmp .lt 40, 3) := by decide +kernel
theorem dNB_55 : decode cNB 55 = .ok (.iload_n 0, 1) := by decide +kernel
theorem dNB_56 : decode cNB 56 = .ok (.iconst 1, 1) := by decide +kernel
theorem dNB_57 : decode cNB 57 = .ok (.ishl, 1) := by decide +kernel
theorem dNB_58 : decode cNB 58 = .ok (.ireturn, 1) := by decide +kernel
abbrev cNG := jdk_52_method_2_code
theorem dNG_0 : decode cNG 0 = .ok (.iload_n 0, 1) := by decide +kernel
theorem dNG_1 : decode cNG 1 = .ok (.invokestatic 11, 3) := by decide +kernel
theorem own_pd1 : parseMethodDescriptor "(I)I" = some ⟨[.int], some .int⟩ := by decide +kernel
theorem dNG_4 : decode cNG 4 = .ok (.newarray .byte, 2) := by decide +kernel
theorem dNG_6 : decode cNG 6 = .ok (.areturn, 1) := by decide +kernel
abbrev cPU := jdk_52_method_4_code
theorem dPU_0 : decode cPU 0 = .ok (.getstatic 44, 3) := by decide +kernel
theorem dPU_3 : decode cPU 3 = .ok (.ifCond .ne 25, 3) := by decide +kernel
theorem dPU_28 : decode cPU 28 = .ok (.iload_n 1, 1) := by decide +kernel
theorem dPU_29 : decode cPU 29 = .ok (.iconst 1, 1) := by decide +kernel
theorem dPU_30 : decode cPU 30 = .ok (.ishl, 1) := by decide +kernel
theorem dPU_31 : decode cPU 31 = .ok (.istore_n 1, 1) := by decide +kernel
theorem dPU_32 : decode cPU 32 = .ok (.aload_n 0, 1) := by decide +kernel
theorem dPU_33 : decode cPU 33 = .ok (.iload_n 1, 1) := by decide +kernel
theorem dPU_34 : decode cPU 34 = .ok (.iinc 1 1, 3) := by decide +kernel
theorem dPU_37 : decode cPU 37 = .ok (.iload_n 2, 1) := by decide +kernel
theorem dPU_38 : decode cPU 38 = .ok (.getstatic 59, 3) := by decide +kernel
theorem dPU_41 : decode cPU 41 = .ok (.ishr, 1) := by decide +kernel
theorem dPU_42 : decode cPU 42 = .ok (.i2b, 1) := by decide +kernel
theorem dPU_43 : decode cPU 43 = .ok (.bastore, 1) := by decide +kernel
theorem dPU_44 : decode cPU 44 = .ok (.aload_n 0, 1) := by decide +kernel
theorem dPU_45 : decode cPU 45 = .ok (.iload_n 1, 1) := by decide +kernel
theorem dPU_46 : decode cPU 46 = .ok (.iload_n 2, 1) := by decide +kernel
theorem dPU_47 : decode cPU 47 = .ok (.getstatic 63, 3) := by decide +kernel
theorem dPU_50 : decode cPU 50 = .ok (.ishr, 1) := by decide +kernel
theorem dPU_51 : decode cPU 51 = .ok (.i2b, 1) := by decide +kernel
theorem dPU_52 : decode cPU 52 = .ok (.bastore, 1) := by decide +kernel
theorem dPU_53 : decode cPU 53 = .ok (.return_, 1) := by decide +kernel
abbrev cGC := jdk_52_method_5_code
theorem dGC_0 : decode cGC 0 = .ok (.getstatic 44, 3) := by decide +kernel
theorem dGC_3 : decode cGC 3 = .ok (.ifCond .ne 25, 3) := by decide +kernel
theorem dGC_28 : decode cGC 28 = .ok (.iload_n 1, 1) := by decide +kernel
theorem dGC_29 : decode cGC 29 = .ok (.iconst 1, 1) := by decide +kernel
theorem dGC_30 : decode cGC 30 = .ok (.ishl, 1) := by decide +kernel
theorem dGC_31 : decode cGC 31 = .ok (.istore_n 1, 1) := by decide +kernel
theorem dGC_32 : decode cGC 32 = .ok (.aload_n 0, 1) := by decide +kernel
theorem dGC_33 : decode cGC 33 = .ok (.iload_n 1, 1) := by decide +kernel
theorem dGC_34 : decode cGC 34 = .ok (.iinc 1 1, 3) := by decide +kernel
theorem dGC_37 : decode cGC 37 = .ok (.baload, 1) := by decide +kernel
theorem dGC_38 : decode cGC 38 = .ok (.sipush 255, 3) := by decide +kernel
theorem dGC_41 : decode cGC 41 = .ok (.iand, 1) := by decide +kernel
theorem dGC_42 : decode cGC 42 = .ok (.getstatic 59, 3) := by decide +kernel
theorem dGC_45 : decode cGC 45 = .ok (.ishl, 1) := by decide +kernel
theorem dGC_46 : decode cGC 46 = .ok (.aload_n 0, 1) := by decide +kernel
theorem dGC_47 : decode cGC 47 = .ok (.iload_n 1, 1) := by decide +kernel
theorem dGC_48 : decode cGC 48 = .ok (.baload, 1) := by decide +kernel
theorem dGC_49 : decode cGC 49 = .ok (.sipush 255, 3) := by decide +kernel
theorem dGC_52 : decode cGC 52 = .ok (.iand, 1) := by decide +kernel
theorem dGC_53 : decode cGC 53 = .ok (.getstatic 63, 3) := by decide +kernel
theorem dGC_56 : decode cGC 56 = .ok (.ishl, 1) := by decide +kernel
theorem dGC_57 : decode cGC 57 = .ok (.ior, 1) := by decide +kernel
theorem dGC_58 : decode cGC 58 = .ok (.i2c, 1) := by decide +kernel
theorem dGC_59 : decode cGC 59 = .ok (.ireturn, 1) := by decide +kernel
abbrev cC5 := jdk_52_method_21_code
theorem dC5_3 : decode cC5 3 = .ok (.iload 5, 2) := by decide +kernel
theorem dC5_5 : decode cC5 5 = .ok (.iload 4, 2) := by decide +kernel
theorem dC5_7 : decode cC5 7 = .ok (.if_icmp .ge 37, 3) := by decide +kernel
theorem dC5_10 : decode cC5 10 = .ok (.aload_n 0, 1) := by decide +kernel
theorem dC5_11 : decode cC5 11 = .ok (.iload_n 1, 1) := by decide +kernel
theorem dC5_12 : decode cC5 12 = .ok (.caload, 1) := by decide +kernel
theorem dC5_13 : decode cC5 13 = .ok (.istore 6, 2) := by decide +kernel
theorem dC5_15 : decode cC5 15 = .ok (.iload 6, 2) := by decide +kernel
theorem dC5_17 : decode cC5 17 = .ok (.sipush 255, 3) := by decide +kernel
theorem dC5_20 : decode cC5 20 = .ok (.if_icmp .le 6, 3) := by decide +kernel
theorem dC5_23 : decode cC5 23 = .ok (.iload 5, 2) := by decide +kernel
theorem dC5_25 : decode cC5 25 = .ok (.ireturn, 1) := by decide +kernel
theorem dC5_26 : decode cC5 26 = .ok (.aload_n 2, 1) := by decide +kernel
theorem dC5_27 : decode cC5 27 = .ok (.iload_n 3, 1) := by decide +kernel
theorem dC5_28 : decode cC5 28 = .ok (.iload 6, 2) := by decide +kernel
theorem dC5_30 : decode cC5 30 = .ok (.i2b, 1) := by decide +kernel
theorem dC5_31 : decode cC5 31 = .ok (.bastore, 1) := by decide +kernel
theorem dC5_32 : decode cC5 32 = .ok (.iinc 1 1, 3) := by decide +kernel
theorem dC5_35 : decode cC5 35 = .ok (.iinc 3 1, 3) := by decide +kernel
theorem dC5_38 : decode cC5 38 = .ok (.iinc 5 1, 3) := by decide +kernel
theorem dC5_41 : decode cC5 41 = .ok (.goto (-38), 3) := by decide +kernel
theorem dC5_0 : decode cC5 0 = .ok (.iconst 0, 1) := by decide +kernel
theorem dC5_1 : decode cC5 1 = .ok (.istore 5, 2) := by decide +kernel
abbrev cTO := jdk_52_method_14_code
theorem dTO_8 : decode cTO 8 = .ok (.iload 4, 2) := by decide +kernel
theorem dTO_10 : decode cTO 10 = .ok (.iload_n 2, 1) := by decide +kernel
theorem dTO_11 : decode cTO 11 = .ok (.if_icmp .ge 21, 3) := by decide +kernel
theorem dTO_32 : decode cTO 32 = .ok (.aload_n 3, 1) := by decide +kernel
theorem dTO_33 : decode cTO 33 = .ok (.areturn, 1) := by decide +kernel
theorem dTO_14 : decode cTO 14 = .ok (.aload_n 3, 1) := by decide +kernel
theorem dTO_15 : decode cTO 15 = .ok (.iload 4, 2) := by decide +kernel
theorem dTO_17 : decode cTO 17 = .ok (.aload_n 0, 1) := by decide +kernel
theorem dTO_18 : decode cTO 18 = .ok (.iload_n 1, 1) := by decide +kernel
theorem dTO_19 : decode cTO 19 = .ok (.caload, 1) := by decide +kernel
theorem dTO_20 : decode cTO 20 = .ok (.invokestatic 111, 3) := by decide +kernel
theorem own_pd2 : parseMethodDescriptor "([BII)V" = some ⟨[(.array .byte), .int, .int], none⟩ := by decide +kernel
theorem dTO_23 : decode cTO 23 = .ok (.iinc 1 1, 3) := by decide +kernel
theorem dTO_26 : decode cTO 26 = .ok (.iinc 4 1, 3) := by decide +kernel
theorem dTO_29 : decode cTO 29 = .ok (.goto (-21), 3) := by decide +kernel
theorem dTO_0 : decode cTO 0 = .ok (.iload_n 2, 1) := by decide +kernel
theorem dTO_1 : decode cTO 1 = .ok (.invokestatic 107, 3) := by decide +kernel
theorem own_pd3 : parseMethodDescriptor "(I)[B" = some ⟨[.int], some (.array .byte)⟩ := by decide +kernel
theorem dTO_4 : decode cTO 4 = .ok (.astore_n 3, 1) := by decide +kernel
theorem dTO_5 : decode cTO 5 = .ok (.iconst 0, 1) := by decide +kernel
theorem dTO_6 : decode cTO 6 = .ok (.istore 4, 2) := by decide +kernel
abbrev cCL := jdk_52_method_15_code
theorem dCL_0 : decode cCL 0 = .ok (.iload_n 1, 1) := by decide +kernel
theorem dCL_1 : decode cCL 1 = .ok (.aload_n 0, 1) := by decide +kernel
theorem dCL_2 : decode cCL 2 = .ok (.arraylength, 1) := by decide +kernel
theorem dCL_3 : decode cCL 3 = .ok (.isub, 1) := by decide +kernel
theorem dCL_4 : decode cCL 4 = .ok (.bipush 31, 2) := by decide +kernel
theorem dCL_6 : decode cCL 6 = .ok (.iushr, 1) := by decide +kernel
theorem dCL_7 : decode cCL 7 = .ok (.i2b, 1) := by decide +kernel
theorem dCL_8 : decode cCL 8 = .ok (.ireturn, 1) := by decide +kernel
abbrev cC3 := jdk_52_method_16_code
theorem dC3_0 : decode cC3 0 = .ok (.iload_n 2, 1) := by decide +kernel
theorem dC3_1 : decode cC3 1 = .ok (.newarray .byte, 2) := by decide +kernel
theorem dC3_3 : decode cC3 3 = .ok (.astore_n 3, 1) := by decide +kernel
theorem dC3_4 : decode cC3 4 = .ok (.aload_n 0, 1) := by decide +kernel
theorem dC3_5 : decode cC3 5 = .ok (.iload_n 1, 1) := by decide +kernel
theorem dC3_6 : decode cC3 6 = .ok (.aload_n 3, 1) := by decide +kernel
theorem dC3_7 : decode cC3 7 = .ok (.iconst 0, 1) := by decide +kernel
theorem dC3_8 : decode cC3 8 = .ok (.iload_n 2, 1) := by decide +kernel
theorem dC3_9 : decode cC3 9 = .ok (.invokestatic 115, 3) := by decide +kernel
theorem own_pd4 : parseMethodDescriptor "([CI[BII)I" = some ⟨[(.array .char), .int, (.array .byte), .int, .int], some .int⟩ := by decide +kernel
theorem dC3_12 : decode cC3 12 = .ok (.istore 4, 2) := by decide +kernel
theorem dC3_14 : decode cC3 14 = .ok (.iload 4, 2) := by decide +kernel
theorem dC3_16 : decode cC3 16 = .ok (.iload_n 2, 1) := by decide +kernel
theorem dC3_17 : decode cC3 17 = .ok (.if_icmp .eq 40, 3) := by decide +kernel
theorem dC3_20 : decode cC3 20 = .ok (.aload_n 0, 1) := by decide +kernel
theorem dC3_21 : decode cC3 21 = .ok (.iload_n 1, 1) := by decide +kernel
theorem dC3_22 : decode cC3 22 = .ok (.iload_n 2, 1) := by decide +kernel
theorem dC3_23 : decode cC3 23 = .ok (.invokestatic 119, 3) := by decide +kernel
theorem own_pd5 : parseMethodDescriptor "([CII)[B" = some ⟨[(.array .char), .int, .int], some (.array .byte)⟩ := by decide +kernel
theorem dC3_26 : decode cC3 26 = .ok (.astore 5, 2) := by decide +kernel
theorem dC3_28 : decode cC3 28 = .ok (.aload 5, 2) := by decide +kernel
theorem dC3_30 : decode cC3 30 = .ok (.iload 4, 2) := by decide +kernel
theorem dC3_32 : decode cC3 32 = .ok (.invokestatic 71, 3) := by decide +kernel
theorem own_pd6 : parseMethodDescriptor "([BI)C" = some ⟨[(.array .byte), .int], some .char⟩ := by decide +kernel
theorem dC3_35 : decode cC3 35 = .ok (.sipush 255, 3) := by decide +kernel
theorem dC3_38 : decode cC3 38 = .ok (.if_icmp .gt 16, 3) := by decide +kernel
theorem dC3_54 : decode cC3 54 = .ok (.aload 5, 2) := by decide +kernel
theorem dC3_56 : decode cC3 56 = .ok (.areturn, 1) := by decide +kernel
theorem dS4_27 : decode cS4 27 = .ok (.getstatic 38, 3) := by decide +kernel
theorem dS4_30 : decode cS4 30 = .ok (.ifCond .eq 28, 3) := by decide +kernel
theorem dS4_33 : decode cS4 33 = .ok (.aload_n 1, 1) := by decide +kernel
theorem dS4_34 : decode cS4 34 = .ok (.iload_n 2, 1) := by decide +kernel
theorem dS4_35 : decode cS4 35 = .ok (.iload_n 3, 1) := by decide +kernel
theorem dS4_36 : decode cS4 36 = .ok (.invokestatic 177, 3) := by decide +kernel
theorem dS4_39 : decode cS4 39 = .ok (.astore 5, 2) := by decide +kernel
theorem dS4_41 : decode cS4 41 = .ok (.aload_n 0, 1) := by decide +kernel
theorem dS4_42 : decode cS4 42 = .ok (.aload 5, 2) := by decide +kernel
theorem dS4_44 : decode cS4 44 = .ok (.iload_n 3, 1) := by decide +kernel
theorem dS4_45 : decode cS4 45 = .ok (.invokestatic 47, 3) := by decide +kernel
theorem own_pd7 : parseMethodDescriptor "([BI)B" = some ⟨[(.array .byte), .int], some .byte⟩ := by decide +kernel
theorem dS4_48 : decode cS4 48 = .ok (.putfield 15, 3) := by decide +kernel
theorem dS4_51 : decode cS4 51 = .ok (.aload_n 0, 1) := by decide +kernel
theorem dS4_52 : decode cS4 52 = .ok (.aload 5, 2) := by decide +kernel
theorem dS4_54 : decode cS4 54 = .ok (.putfield 9, 3) := by decide +kernel
theorem dS4_57 : decode cS4 57 = .ok (.return_, 1) := by decide +kernel
abbrev cUL := jdk_52_method_6_code
theorem dUL_0 : decode cUL 0 = .ok (.aload_n 0, 1) := by decide +kernel
theorem dUL_1 : decode cUL 1 = .ok (.arraylength, 1) := by decide +kernel
theorem dUL_2 : decode cUL 2 = .ok (.iconst 1, 1) := by decide +kernel
theorem dUL_3 : decode cUL 3 = .ok (.ishr, 1) := by decide +kernel
theorem dUL_4 : decode cUL 4 = .ok (.ireturn, 1) := by decide +kernel
theorem own_pn3 : plainName "jdk/internal/util/Preconditions" = true := by first | (simp [plainName, overriddenIn]; done) | decide +kernel
abbrev cFZ := jdk_41_method_13_code
theorem dFZ_0 : decode cFZ 0 = .ok (.iload_n 2, 1) := by decide +kernel
theorem dFZ_1 : decode cFZ 1 = .ok (.iload_n 0, 1) := by decide +kernel
theorem dFZ_2 : decode cFZ 2 = .ok (.ior, 1) := by decide +kernel
theorem dFZ_3 : decode cFZ 3 = .ok (.iload_n 1, 1) := by decide +kernel
theorem dFZ_4 : decode cFZ 4 = .ok (.ior, 1) := by decide +kernel
theorem dFZ_5 : decode cFZ 5 = .ok (.ifCond .lt 10, 3) := by decide +kernel
theorem dFZ_8 : decode cFZ 8 = .ok (.iload_n 1, 1) := by decide +kernel
theorem dFZ_9 : decode cFZ 9 = .ok (.iload_n 2, 1) := by decide +kernel
theorem dFZ_10 : decode cFZ 10 = .ok (.iload_n 0, 1) := by decide +kernel
theorem dFZ_11 : decode cFZ 11 = .ok (.isub, 1) := by decide +kernel
theorem dFZ_12 : decode cFZ 12 = .ok (.if_icmp .le 11, 3) := by decide +kernel
theorem dFZ_23 : decode cFZ 23 = .ok (.iload_n 0, 1) := by decide +kernel
theorem dFZ_24 : decode cFZ 24 = .ok (.ireturn, 1) := by decide +kernel
abbrev cSB := jdk_42_method_157_code
theorem dSB_0 : decode cSB 0 = .ok (.iload_n 0, 1) := by decide +kernel
theorem dSB_1 : decode cSB 1 = .ok (.iload_n 1, 1) := by decide +kernel
theorem dSB_2 : decode cSB 2 = .ok (.iload_n 2, 1) := by decide +kernel
theorem dSB_3 : decode cSB 3 = .ok (.getstatic 1053, 3) := by decide +kernel
theorem dSB_6 : decode cSB 6 = .ok (.invokestatic 1065, 3) := by decide +kernel
theorem own_pd8 : parseMethodDescriptor "(IIILjava/util/function/BiFunction;)I" = some ⟨[.int, .int, .int, (.object "java/util/function/BiFunction")], some .int⟩ := by decide +kernel
theorem dSB_9 : decode cSB 9 = .ok (.ireturn, 1) := by decide +kernel
abbrev cUB := jdk_52_method_94_code
theorem dUB_0 : decode cUB 0 = .ok (.iload_n 0, 1) := by decide +kernel
theorem dUB_1 : decode cUB 1 = .ok (.iload_n 1, 1) := by decide +kernel
theorem dUB_2 : decode cUB 2 = .ok (.aload_n 2, 1) := by decide +kernel
theorem dUB_3 : decode cUB 3 = .ok (.invokestatic 48, 3) := by decide +kernel
theorem own_pd9 : parseMethodDescriptor "([B)I" = some ⟨[(.array .byte)], some .int⟩ := by decide +kernel
theorem dUB_6 : decode cUB 6 = .ok (.invokestatic 419, 3) := by decide +kernel
theorem own_pd10 : parseMethodDescriptor "(III)I" = some ⟨[.int, .int, .int], some .int⟩ := by decide +kernel
theorem dUB_9 : decode cUB 9 = .ok (.pop, 1) := by decide +kernel
theorem dUB_10 : decode cUB 10 = .ok (.return_, 1) := by decide +kernel
abbrev cUI := jdk_52_method_86_code
theorem dUI_10 : decode cUI 10 = .ok (.iload 5, 2) := by decide +kernel
theorem dUI_12 : decode cUI 12 = .ok (.iload 4, 2) := by decide +kernel
theorem dUI_14 : decode cUI 14 = .ok (.if_icmp .ge 27, 3) := by decide +kernel
theorem dUI_41 : decode cUI 41 = .ok (.return_, 1) := by decide +kernel
theorem dUI_17 : decode cUI 17 = .ok (.aload_n 2, 1) := by decide +kernel
theorem dUI_18 : decode cUI 18 = .ok (.iload_n 3, 1) := by decide +kernel
theorem dUI_19 : decode cUI 19 = .ok (.iinc 3 1, 3) := by decide +kernel
theorem dUI_22 : decode cUI 22 = .ok (.aload_n 0, 1) := by decide +kernel
theorem dUI_23 : decode cUI 23 = .ok (.iload_n 1, 1) := by decide +kernel
theorem dUI_24 : decode cUI 24 = .ok (.iinc 1 1, 3) := by decide +kernel
theorem dUI_27 : decode cUI 27 = .ok (.baload, 1) := by decide +kernel
theorem dUI_28 : decode cUI 28 = .ok (.sipush 255, 3) := by decide +kernel
theorem dUI_31 : decode cUI 31 = .ok (.iand, 1) := by decide +kernel
theorem dUI_32 : decode cUI 32 = .ok (.invokestatic 111, 3) := by decide +kernel
theorem dUI_35 : decode cUI 35 = .ok (.iinc 5 1, 3) := by decide +kernel
theorem dUI_38 : decode cUI 38 = .ok (.goto (-28), 3) := by decide +kernel
theorem dUI_0 : decode cUI 0 = .ok (.iload_n 3, 1) := by decide +kernel
theorem dUI_1 : decode cUI 1 = .ok (.iload 4, 2) := by decide +kernel
theorem dUI_3 : decode cUI 3 = .ok (.aload_n 2, 1) := by decide +kernel
theorem dUI_4 : decode cUI 4 = .ok (.invokestatic 173, 3) := by decide +kernel
theorem own_pd11 : parseMethodDescriptor "(II[B)V" = some ⟨[.int, .int, (.array .byte)], none⟩ := by decide +kernel
theorem dUI_7 : decode cUI 7 = .ok (.iconst 0, 1) := by decide +kernel
theorem dUI_8 : decode cUI 8 = .ok (.istore 5, 2) := by decide +kernel
theorem own_pn4 : plainName "java/lang/StringLatin1" = true := by first | (simp [plainName, overriddenIn]; done) | decide +kernel
abbrev cLI := jdk_43_method_50_code
theorem dLI_0 : decode cLI 0 = .ok (.aload_n 0, 1) := by decide +kernel
theorem dLI_1 : decode cLI 1 = .ok (.iload_n 1, 1) := by decide +kernel
theorem dLI_2 : decode cLI 2 = .ok (.aload_n 2, 1) := by decide +kernel
theorem dLI_3 : decode cLI 3 = .ok (.iload_n 3, 1) := by decide +kernel
theorem dLI_4 : decode cLI 4 = .ok (.iload 4, 2) := by decide +kernel
theorem dLI_6 : decode cLI 6 = .ok (.invokestatic 240, 3) := by decide +kernel
theorem own_pd12 : parseMethodDescriptor "([BI[BII)V" = some ⟨[(.array .byte), .int, (.array .byte), .int, .int], none⟩ := by decide +kernel
theorem dLI_9 : decode cLI 9 = .ok (.return_, 1) := by decide +kernel
abbrev cIF := jdk_68_method_11_code
theorem dIF_0 : decode cIF 0 = .ok (.aload_n 0, 1) := by decide +kernel
theorem dIF_1 : decode cIF 1 = .ok (.invokevirtual 83, 3) := by decide +kernel
theorem own_pd13 : parseMethodDescriptor "()Z" = some ⟨[], some .boolean⟩ := by decide +kernel
theorem dIF_4 : decode cIF 4 = .ok (.ifCond .ne 4, 3) := by decide +kernel
theorem dIF_8 : decode cIF 8 = .ok (.aload_n 0, 1) := by decide +kernel
theorem dIF_9 : decode cIF 9 = .ok (.getfield 15, 3) := by decide +kernel
theorem dIF_12 : decode cIF 12 = .ok (.arraylength, 1) := by decide +kernel
theorem dIF_13 : decode cIF 13 = .ok (.invokestatic 26, 3) := by decide +kernel
theorem dIF_16 : decode cIF 16 = .ok (.astore_n 1, 1) := by decide +kernel
theorem dIF_17 : decode cIF 17 = .ok (.aload_n 0, 1) := by decide +kernel
theorem dIF_18 : decode cIF 18 = .ok (.getfield 15, 3) := by decide +kernel
theorem dIF_21 : decode cIF 21 = .ok (.iconst 0, 1) := by decide +kernel
theorem dIF_22 : decode cIF 22 = .ok (.aload_n 1, 1) := by decide +kernel
theorem dIF_23 : decode cIF 23 = .ok (.iconst 0, 1) := by decide +kernel
theorem dIF_24 : decode cIF 24 = .ok (.aload_n 0, 1) := by decide +kernel
theorem dIF_25 : decode cIF 25 = .ok (.getfield 79, 3) := by decide +kernel
theorem dIF_28 : decode cIF 28 = .ok (.invokestatic 125, 3) := by decide +kernel
theorem dIF_31 : decode cIF 31 = .ok (.aload_n 0, 1) := by decide +kernel
theorem dIF_32 : decode cIF 32 = .ok (.aload_n 1, 1) := by decide +kernel
theorem dIF_33 : decode cIF 33 = .ok (.putfield 15, 3) := by decide +kernel
theorem dIF_36 : decode cIF 36 = .ok (.aload_n 0, 1) := by decide +kernel
theorem dIF_37 : decode cIF 37 = .ok (.iconst 1, 1) := by decide +kernel
theorem dIF_38 : decode cIF 38 = .ok (.putfield 22, 3) := by decide +kernel
theorem dIF_41 : decode cIF 41 = .ok (.return_, 1) := by decide +kernel
theorem dIF_7 : decode cIF 7 = .ok (.return_, 1) := by decide +kernel
abbrev cIN := jdk_68_method_71_code
theorem dIN_0 : decode cIN 0 = .ok (.getstatic 18, 3) := by decide +kernel
theorem dIN_3 : decode cIN 3 = .ok (.ifCond .eq 18, 3) := by decide +kernel
theorem dIN_6 : decode cIN 6 = .ok (.aload_n 0, 1) := by decide +kernel
theorem dIN_7 : decode cIN 7 = .ok (.getfield 22, 3) := by decide +kernel
theorem dIN_10 : decode cIN 10 = .ok (.aload_n 1, 1) := by decide +kernel
theorem dIN_11 : decode cIN 11 = .ok (.invokevirtual 40, 3) := by decide +kernel
theorem own_pd14 : parseMethodDescriptor "()B" = some ⟨[], some .byte⟩ := by decide +kernel
theorem dIN_14 : decode cIN 14 = .ok (.if_icmp .eq 7, 3) := by decide +kernel
theorem dIN_21 : decode cIN 21 = .ok (.return_, 1) := by decide +kernel
theorem dIN_17 : decode cIN 17 = .ok (.aload_n 0, 1) := by decide +kernel
theorem dIN_18 : decode cIN 18 = .ok (.invokevirtual 195, 3) := by decide +kernel
theorem own_pd15 : parseMethodDescriptor "()V" = some ⟨[], none⟩ := by decide +kernel
abbrev cGB := jdk_42_method_147_code
theorem dGB_0 : decode cGB 0 = .ok (.aload_n 0, 1) := by decide +kernel
theorem dGB_1 : decode cGB 1 = .ok (.invokevirtual 335, 3) := by decide +kernel
theorem dGB_4 : decode cGB 4 = .ok (.iload_n 3, 1) := by decide +kernel
theorem dGB_5 : decode cGB 5 = .ok (.if_icmp .ne 23, 3) := by decide +kernel
theorem dGB_8 : decode cGB 8 = .ok (.aload_n 0, 1) := by decide +kernel
theorem dGB_9 : decode cGB 9 = .ok (.getfield 9, 3) := by decide +kernel
theorem dGB_12 : decode cGB 12 = .ok (.iconst 0, 1) := by decide +kernel
theorem dGB_13 : decode cGB 13 = .ok (.aload_n 1, 1) := by decide +kernel
theorem dGB_14 : decode cGB 14 = .ok (.iload_n 2, 1) := by decide +kernel
theorem dGB_15 : decode cGB 15 = .ok (.iload_n 3, 1) := by decide +kernel
theorem dGB_16 : decode cGB 16 = .ok (.ishl, 1) := by decide +kernel
theorem dGB_17 : decode cGB 17 = .ok (.aload_n 0, 1) := by decide +kernel
theorem dGB_18 : decode cGB 18 = .ok (.getfield 9, 3) := by decide +kernel
theorem dGB_21 : decode cGB 21 = .ok (.arraylength, 1) := by decide +kernel
theorem dGB_22 : decode cGB 22 = .ok (.invokestatic 212, 3) := by decide +kernel
theorem dGB_25 : decode cGB 25 = .ok (.goto 18, 3) := by decide +kernel
theorem dGB_43 : decode cGB 43 = .ok (.return_, 1) := by decide +kernel
theorem dGB_28 : decode cGB 28 = .ok (.aload_n 0, 1) := by decide +kernel
theorem dGB_29 : decode cGB 29 = .ok (.getfield 9, 3) := by decide +kernel
theorem dGB_32 : decode cGB 32 = .ok (.iconst 0, 1) := by decide +kernel
theorem dGB_33 : decode cGB 33 = .ok (.aload_n 1, 1) := by decide +kernel
theorem dGB_34 : decode cGB 34 = .ok (.iload_n 2, 1) := by decide +kernel
theorem dGB_35 : decode cGB 35 = .ok (.aload_n 0, 1) := by decide +kernel
theorem dGB_36 : decode cGB 36 = .ok (.getfield 9, 3) := by decide +kernel
theorem dGB_39 : decode cGB 39 = .ok (.arraylength, 1) := by decide +kernel
theorem dGB_40 : decode cGB 40 = .ok (.invokestatic 106, 3) := by decide +kernel
abbrev cPS := jdk_68_method_73_code
theorem dPS_0 : decode cPS 0 = .ok (.aload_n 0, 1) := by decide +kernel
theorem dPS_1 : decode cPS 1 = .ok (.aload_n 2, 1) := by decide +kernel
theorem dPS_2 : decode cPS 2 = .ok (.invokevirtual 397, 3) := by decide +kernel
theorem own_pd16 : parseMethodDescriptor "(Ljava/lang/String;)V" = some ⟨[(.object "java/lang/String")], none⟩ := by decide +kernel
theorem dPS_5 : decode cPS 5 = .ok (.aload_n 2, 1) := by decide +kernel
theorem dPS_6 : decode cPS 6 = .ok (.aload_n 0, 1) := by decide +kernel
theorem dPS_7 : decode cPS 7 = .ok (.getfield 15, 3) := by decide +kernel
theorem dPS_10 : decode cPS 10 = .ok (.iload_n 1, 1) := by decide +kernel
theorem dPS_11 : decode cPS 11 = .ok (.aload_n 0, 1) := by decide +kernel
theorem dPS_12 : decode cPS 12 = .ok (.getfield 22, 3) := by decide +kernel
theorem dPS_15 : decode cPS 15 = .ok (.invokevirtual 399, 3) := by decide +kernel
theorem own_pd17 : parseMethodDescriptor "([BIB)V" = some ⟨[(.array .byte), .int, .byte], none⟩ := by decide +kernel
theorem dPS_18 : decode cPS 18 = .ok (.return_, 1) := by decide +kernel
abbrev cEN := jdk_68_method_9_code
theorem dEN_0 : decode cEN 0 = .ok (.aload_n 0, 1) := by decide +kernel
theorem dEN_1 : decode cEN 1 = .ok (.getfield 15, 3) := by decide +kernel
theorem dEN_4 : decode cEN 4 = .ok (.arraylength, 1) := by decide +kernel
theorem dEN_5 : decode cEN 5 = .ok (.aload_n 0, 1) := by decide +kernel
theorem dEN_6 : decode cEN 6 = .ok (.getfield 22, 3) := by decide +kernel
theorem dEN_9 : decode cEN 9 = .ok (.ishr, 1) := by decide +kernel
theorem dEN_10 : decode cEN 10 = .ok (.istore_n 2, 1) := by decide +kernel
theorem dEN_11 : decode cEN 11 = .ok (.iload_n 1, 1) := by decide +kernel
theorem dEN_12 : decode cEN 12 = .ok (.iload_n 2, 1) := by decide +kernel
theorem dEN_13 : decode cEN 13 = .ok (.isub, 1) := by decide +kernel
theorem dEN_14 : decode cEN 14 = .ok (.ifCond .le 24, 3) := by decide +kernel
theorem dEN_38 : decode cEN 38 = .ok (.return_, 1) := by decide +kernel
theorem own_pn5 : plainFor mN23 = true := by decide +kernel
abbrev cMX := jdk_29_method_65_code
theorem dMX_0 : decode cMX 0 = .ok (.iload_n 0, 1) := by decide +kernel
theorem dMX_1 : decode cMX 1 = .ok (.iload_n 1, 1) := by decide +kernel
theorem dMX_2 : decode cMX 2 = .ok (.if_icmp .lt 7, 3) := by decide +kernel
theorem dMX_9 : decode cMX 9 = .ok (.iload_n 1, 1) := by decide +kernel
theorem dMX_10 : decode cMX 10 = .ok (.ireturn, 1) := by decide +kernel
theorem own_pn6 : plainName "jdk/internal/util/ArraysSupport" = true := by first | (simp [plainName, overriddenIn]; done) | decide +kernel
abbrev cNW := jdk_48_method_27_code
theorem dNW_0 : decode cNW 0 = .ok (.iload_n 0, 1) := by decide +kernel
theorem dNW_1 : decode cNW 1 = .ok (.iload_n 1, 1) := by decide +kernel
theorem dNW_2 : decode cNW 2 = .ok (.iload_n 2, 1) := by decide +kernel
theorem dNW_3 : decode cNW 3 = .ok (.invokestatic 194, 3) := by decide +kernel
theorem own_pd18 : parseMethodDescriptor "(II)I" = some ⟨[.int, .int], some .int⟩ := by decide +kernel
theorem dNW_6 : decode cNW 6 = .ok (.iadd, 1) := by decide +kernel
theorem dNW_7 : decode cNW 7 = .ok (.istore_n 3, 1) := by decide +kernel
theorem dNW_8 : decode cNW 8 = .ok (.iconst 0, 1) := by decide +kernel
theorem dNW_9 : decode cNW 9 = .ok (.iload_n 3, 1) := by decide +kernel
theorem dNW_10 : decode cNW 10 = .ok (.if_icmp .ge 11, 3) := by decide +kernel
theorem dNW_13 : decode cNW 13 = .ok (.iload_n 3, 1) := by decide +kernel
theorem dNW_14 : decode cNW 14 = .ok (.ldc 200, 2) := by decide +kernel
theorem dNW_16 : decode cNW 16 = .ok (.if_icmp .gt 5, 3) := by decide +kernel
theorem dNW_19 : decode cNW 19 = .ok (.iload_n 3, 1) := by decide +kernel
theorem dNW_20 : decode cNW 20 = .ok (.ireturn, 1) := by decide +kernel
abbrev cNC := jdk_68_method_10_code
theorem dNC_0 : decode cNC 0 = .ok (.aload_n 0, 1) := by decide +kernel
theorem dNC_1 : decode cNC 1 = .ok (.getfield 15, 3) := by decide +kernel
theorem dNC_4 : decode cNC 4 = .ok (.arraylength, 1) := by decide +kernel
theorem dNC_5 : decode cNC 5 = .ok (.istore_n 2, 1) := by decide +kernel
theorem dNC_6 : decode cNC 6 = .ok (.iload_n 1, 1) := by decide +kernel
theorem dNC_7 : decode cNC 7 = .ok (.aload_n 0, 1) := by decide +kernel
theorem dNC_8 : decode cNC 8 = .ok (.getfield 22, 3) := by decide +kernel
theorem dNC_11 : decode cNC 11 = .ok (.ishl, 1) := by decide +kernel
theorem dNC_12 : decode cNC 12 = .ok (.istore_n 3, 1) := by decide +kernel
theorem dNC_13 : decode cNC 13 = .ok (.iload_n 3, 1) := by decide +kernel
theorem dNC_14 : decode cNC 14 = .ok (.iload_n 2, 1) := by decide +kernel
theorem dNC_15 : decode cNC 15 = .ok (.isub, 1) := by decide +kernel
theorem dNC_16 : decode cNC 16 = .ok (.istore 4, 2) := by decide +kernel
theorem dNC_18 : decode cNC 18 = .ok (.iload_n 2, 1) := by decide +kernel
theorem dNC_19 : decode cNC 19 = .ok (.iload 4, 2) := by decide +kernel
theorem dNC_21 : decode cNC 21 = .ok (.iload_n 2, 1) := by decide +kernel
theorem dNC_22 : decode cNC 22 = .ok (.iconst 2, 1) := by decide +kernel
theorem dNC_23 : decode cNC 23 = .ok (.aload_n 0, 1) := by decide +kernel
theorem dNC_24 : decode cNC 24 = .ok (.getfield 22, 3) := by decide +kernel
theorem dNC_27 : decode cNC 27 = .ok (.ishl, 1) := by decide +kernel
theorem dNC_28 : decode cNC 28 = .ok (.iadd, 1) := by decide +kernel
theorem dNC_29 : decode cNC 29 = .ok (.invokestatic 114, 3) := by decide +kernel
theorem dNC_32 : decode cNC 32 = .ok (.istore 5, 2) := by decide +kernel
theorem dNC_34 : decode cNC 34 = .ok (.iload 5, 2) := by decide +kernel
theorem dNC_36 : decode cNC 36 = .ok (.ldc 39, 2) := by decide +kernel
theorem dNC_38 : decode cNC 38 = .ok (.if_icmp .ne 13, 3) := by decide +kernel
theorem dNC_51 : decode cNC 51 = .ok (.iload 5, 2) := by decide +kernel
theorem dNC_53 : decode cNC 53 = .ok (.aload_n 0, 1) := by decide +kernel
theorem dNC_54 : decode cNC 54 = .ok (.getfield 22, 3) := by decide +kernel
theorem dNC_57 : decode cNC 57 = .ok (.ishr, 1) := by decide +kernel
theorem dNC_58 : decode cNC 58 = .ok (.ireturn, 1) := by decide +kernel
theorem own_pn7 : plainFor mN26 = true := by decide +kernel
abbrev cMI := jdk_29_method_69_code
theorem dMI_0 : decode cMI 0 = .ok (.iload_n 0, 1) := by decide +kernel
theorem dMI_1 : decode cMI 1 = .ok (.iload_n 1, 1) := by decide +kernel
theorem dMI_2 : decode cMI 2 = .ok (.if_icmp .gt 7, 3) := by decide +kernel
theorem dMI_5 : decode cMI 5 = .ok (.iload_n 0, 1) := by decide +kernel
theorem dMI_6 : decode cMI 6 = .ok (.goto 4, 3) := by decide +kernel
theorem dMI_10 : decode cMI 10 = .ok (.ireturn, 1) := by decide +kernel
theorem own_pn8 : plainName "java/util/Arrays" = true := by first | (simp [plainName, overriddenIn]; done) | decide +kernel
abbrev cC2 := jdk_65_method_121_code
theorem dC2_0 : decode cC2 0 = .ok (.iload_n 1, 1) := by decide +kernel
theorem dC2_1 : decode cC2 1 = .ok (.aload_n 0, 1) := by decide +kernel
theorem dC2_2 : decode cC2 2 = .ok (.arraylength, 1) := by decide +kernel
theorem dC2_3 : decode cC2 3 = .ok (.if_icmp .ne 11, 3) := by decide +kernel
theorem dC2_14 : decode cC2 14 = .ok (.iload_n 1, 1) := by decide +kernel
theorem dC2_15 : decode cC2 15 = .ok (.newarray .byte, 2) := by decide +kernel
theorem dC2_17 : decode cC2 17 = .ok (.astore_n 2, 1) := by decide +kernel
theorem dC2_18 : decode cC2 18 = .ok (.aload_n 0, 1) := by decide +kernel
theorem dC2_19 : decode cC2 19 = .ok (.iconst 0, 1) := by decide +kernel
theorem dC2_20 : decode cC2 20 = .ok (.aload_n 2, 1) := by decide +kernel
theorem dC2_21 : decode cC2 21 = .ok (.iconst 0, 1) := by decide +kernel
theorem dC2_22 : decode cC2 22 = .ok (.aload_n 0, 1) := by decide +kernel
theorem dC2_23 : decode cC2 23 = .ok (.arraylength, 1) := by decide +kernel
theorem dC2_24 : decode cC2 24 = .ok (.iload_n 1, 1) := by decide +kernel
theorem dC2_25 : decode cC2 25 = .ok (.invokestatic 304, 3) := by decide +kernel
theorem dC2_28 : decode cC2 28 = .ok (.invokestatic 150, 3) := by decide +kernel
theorem dC2_31 : decode cC2 31 = .ok (.aload_n 2, 1) := by decide +kernel
theorem dC2_32 : decode cC2 32 = .ok (.areturn, 1) := by decide +kernel
theorem dEN_17 : decode cEN 17 = .ok (.aload_n 0, 1) := by decide +kernel
theorem dEN_18 : decode cEN 18 = .ok (.aload_n 0, 1) := by decide +kernel
theorem dEN_19 : decode cEN 19 = .ok (.getfield 15, 3) := by decide +kernel
theorem dEN_22 : decode cEN 22 = .ok (.aload_n 0, 1) := by decide +kernel
theorem dEN_23 : decode cEN 23 = .ok (.iload_n 1, 1) := by decide +kernel
theorem dEN_24 : decode cEN 24 = .ok (.invokevirtual 104, 3) := by decide +kernel
theorem dEN_27 : decode cEN 27 = .ok (.aload_n 0, 1) := by decide +kernel
theorem dEN_28 : decode cEN 28 = .ok (.getfield 22, 3) := by decide +kernel
theorem dEN_31 : decode cEN 31 = .ok (.ishl, 1) := by decide +kernel
theorem dEN_32 : decode cEN 32 = .ok (.invokestatic 108, 3) := by decide +kernel
theorem own_pd19 : parseMethodDescriptor "([BI)[B" = some ⟨[(.array .byte), .int], some (.array .byte)⟩ := by decide +kernel
theorem dEN_35 : decode cEN 35 = .ok (.putfield 15, 3) := by decide +kernel
abbrev cAA := jdk_68_method_22_code
theorem dAA_0 : decode cAA 0 = .ok (.aload_n 1, 1) := by decide +kernel
theorem dAA_1 : decode cAA 1 = .ok (.ifnonnull 8, 3) := by decide +kernel
theorem dAA_9 : decode cAA 9 = .ok (.aload_n 1, 1) := by decide +kernel
theorem dAA_10 : decode cAA 10 = .ok (.invokevirtual 32, 3) := by decide +kernel
theorem own_pd20 : parseMethodDescriptor "()I" = some ⟨[], some .int⟩ := by decide +kernel
theorem dAA_13 : decode cAA 13 = .ok (.istore_n 2, 1) := by decide +kernel
theorem dAA_14 : decode cAA 14 = .ok (.aload_n 0, 1) := by decide +kernel
theorem dAA_15 : decode cAA 15 = .ok (.aload_n 0, 1) := by decide +kernel
theorem dAA_16 : decode cAA 16 = .ok (.getfield 79, 3) := by decide +kernel
theorem dAA_19 : decode cAA 19 = .ok (.iload_n 2, 1) := by decide +kernel
theorem dAA_20 : decode cAA 20 = .ok (.iadd, 1) := by decide +kernel
theorem dAA_21 : decode cAA 21 = .ok (.invokevirtual 100, 3) := by decide +kernel
theorem own_pd21 : parseMethodDescriptor "(I)V" = some ⟨[.int], none⟩ := by decide +kernel
theorem dAA_24 : decode cAA 24 = .ok (.aload_n 0, 1) := by decide +kernel
theorem dAA_25 : decode cAA 25 = .ok (.aload_n 0, 1) := by decide +kernel
theorem dAA_26 : decode cAA 26 = .ok (.getfield 79, 3) := by decide +kernel
theorem dAA_29 : decode cAA 29 = .ok (.aload_n 1, 1) := by decide +kernel
theorem dAA_30 : decode cAA 30 = .ok (.invokevirtual 208, 3) := by decide +kernel
theorem own_pd22 : parseMethodDescriptor "(ILjava/lang/String;)V" = some ⟨[.int, (.object "java/lang/String")], none⟩ := by decide +kernel
theorem dAA_33 : decode cAA 33 = .ok (.aload_n 0, 1) := by decide +kernel
theorem dAA_34 : decode cAA 34 = .ok (.dup, 1) := by decide +kernel
theorem dAA_35 : decode cAA 35 = .ok (.getfield 79, 3) := by decide +kernel
theorem dAA_38 : decode cAA 38 = .ok (.iload_n 2, 1) := by decide +kernel
theorem dAA_39 : decode cAA 39 = .ok (.iadd, 1) := by decide +kernel
theorem dAA_40 : decode cAA 40 = .ok (.putfield 79, 3) := by decide +kernel
theorem dAA_43 : decode cAA 43 = .ok (.aload_n 0, 1) := by decide +kernel
theorem dAA_44 : decode cAA 44 = .ok (.areturn, 1) := by decide +kernel
theorem own_pn9 : plainName "java/lang/StringBuilder" = true := by first | (simp [plainName, overriddenIn]; done) | decide +kernel
abbrev cSA := jdk_67_method_7_code
theorem dSA_0 : decode cSA 0 = .ok (.aload_n 0, 1) := by decide +kernel
theorem dSA_1 : decode cSA 1 = .ok (.aload_n 1, 1) := by decide +kernel
theorem dSA_2 : decode cSA 2 = .ok (.invokespecial 29, 3) := by decide +kernel
theorem own_pd23 : parseMethodDescriptor "(Ljava/lang/String;)Ljava/lang/AbstractStringBuilder;" = some ⟨[(.object "java/lang/String")], some (.object "java/lang/AbstractStringBuilder")⟩ := by decide +kernel
theorem dSA_5 : decode cSA 5 = .ok (.pop, 1) := by decide +kernel
theorem dSA_6 : decode cSA 6 = .ok (.aload_n 0, 1) := by decide +kernel
theorem dSA_7 : decode cSA 7 = .ok (.areturn, 1) := by decide +kernel
abbrev cAI := jdk_68_method_2_code
theorem dAI_0 : decode cAI 0 = .ok (.aload_n 0, 1) := by decide +kernel
theorem dAI_1 : decode cAI 1 = .ok (.invokespecial 3, 3) := by decide +kernel
theorem dAI_4 : decode cAI 4 = .ok (.getstatic 18, 3) := by decide +kernel
theorem dAI_7 : decode cAI 7 = .ok (.ifCond .eq 18, 3) := by decide +kernel
theorem dAI_10 : decode cAI 10 = .ok (.aload_n 0, 1) := by decide +kernel
theorem dAI_11 : decode cAI 11 = .ok (.iload_n 1, 1) := by decide +kernel
theorem dAI_12 : decode cAI 12 = .ok (.newarray .byte, 2) := by decide +kernel
theorem dAI_14 : decode cAI 14 = .ok (.putfield 15, 3) := by decide +kernel
theorem dAI_17 : decode cAI 17 = .ok (.aload_n 0, 1) := by decide +kernel
theorem dAI_18 : decode cAI 18 = .ok (.iconst 0, 1) := by decide +kernel
theorem dAI_19 : decode cAI 19 = .ok (.putfield 22, 3) := by decide +kernel
theorem dAI_22 : decode cAI 22 = .ok (.goto 16, 3) := by decide +kernel
theorem dAI_38 : decode cAI 38 = .ok (.return_, 1) := by decide +kernel
abbrev cSI := jdk_67_method_1_code
theorem dSI_0 : decode cSI 0 = .ok (.aload_n 0, 1) := by decide +kernel
theorem dSI_1 : decode cSI 1 = .ok (.bipush 16, 2) := by decide +kernel
theorem dSI_3 : decode cSI 3 = .ok (.invokespecial 1, 3) := by decide +kernel
theorem dSI_6 : decode cSI 6 = .ok (.return_, 1) := by decide +kernel
abbrev cGVx := jdk_68_method_64_code
theorem dGVx_0 : decode cGVx 0 = .ok (.aload_n 0, 1) := by decide +kernel
theorem dGVx_1 : decode cGVx 1 = .ok (.getfield 15, 3) := by decide +kernel
theorem dGVx_4 : decode cGVx 4 = .ok (.areturn, 1) := by decide +kernel
abbrev cALx := jdk_68_method_6_code
theorem dALx_0 : decode cALx 0 = .ok (.aload_n 0, 1) := by decide +kernel
theorem dALx_1 : decode cALx 1 = .ok (.getfield 79, 3) := by decide +kernel
theorem dALx_4 : decode cALx 4 = .ok (.ireturn, 1) := by decide +kernel
abbrev cSLx := jdk_67_method_93_code
theorem dSLx_0 : decode cSLx 0 = .ok (.aload_n 0, 1) := by decide +kernel
theorem dSLx_1 : decode cSLx 1 = .ok (.invokespecial 343, 3) := by decide +kernel
theorem dSLx_4 : decode cSLx 4 = .ok (.ireturn, 1) := by decide +kernel
abbrev cCKx := jdk_65_method_131_code
theorem dCKx_0 : decode cCKx 0 = .ok (.iload_n 1, 1) := by decide +kernel
theorem dCKx_1 : decode cCKx 1 = .ok (.iload_n 0, 1) := by decide +kernel
theorem dCKx_2 : decode cCKx 2 = .ok (.if_icmp .ge 35, 3) := by decide +kernel
theorem dCKx_37 : decode cCKx 37 = .ok (.return_, 1) := by decide +kernel
theorem dMI_9 : decode cMI 9 = .ok (.iload_n 1, 1) := by decide +kernel
abbrev cCBx := jdk_65_method_133_code
theorem dCBx_0 : decode cCBx 0 = .ok (.iload_n 1, 1) := by decide +kernel
theorem dCBx_1 : decode cCBx 1 = .ok (.iload_n 2, 1) := by decide +kernel
theorem dCBx_2 : decode cCBx 2 = .ok (.invokestatic 343, 3) := by decide +kernel
theorem own_pd24 : parseMethodDescriptor "(II)V" = some ⟨[.int, .int], none⟩ := by decide +kernel
theorem dCBx_5 : decode cCBx 5 = .ok (.iload_n 2, 1) := by decide +kernel
theorem dCBx_6 : decode cCBx 6 = .ok (.iload_n 1, 1) := by decide +kernel
theorem dCBx_7 : decode cCBx 7 = .ok (.isub, 1) := by decide +kernel
theorem dCBx_8 : decode cCBx 8 = .ok (.istore_n 3, 1) := by decide +kernel
theorem dCBx_9 : decode cCBx 9 = .ok (.iload_n 3, 1) := by decide +kernel
theorem dCBx_10 : decode cCBx 10 = .ok (.newarray .byte, 2) := by decide +kernel
theorem dCBx_12 : decode cCBx 12 = .ok (.astore 4, 2) := by decide +kernel
theorem dCBx_14 : decode cCBx 14 = .ok (.aload_n 0, 1) := by decide +kernel
theorem dCBx_15 : decode cCBx 15 = .ok (.iload_n 1, 1) := by decide +kernel
theorem dCBx_16 : decode cCBx 16 = .ok (.aload 4, 2) := by decide +kernel
theorem dCBx_18 : decode cCBx 18 = .ok (.iconst 0, 1) := by decide +kernel
theorem dCBx_19 : decode cCBx 19 = .ok (.aload_n 0, 1) := by decide +kernel
theorem dCBx_20 : decode cCBx 20 = .ok (.arraylength, 1) := by decide +kernel
theorem dCBx_21 : decode cCBx 21 = .ok (.iload_n 1, 1) := by decide +kernel
theorem dCBx_22 : decode cCBx 22 = .ok (.isub, 1) := by decide +kernel
theorem dCBx_23 : decode cCBx 23 = .ok (.iload_n 3, 1) := by decide +kernel
theorem dCBx_24 : decode cCBx 24 = .ok (.invokestatic 304, 3) := by decide +kernel
theorem dCBx_27 : decode cCBx 27 = .ok (.invokestatic 150, 3) := by decide +kernel
theorem dCBx_30 : decode cCBx 30 = .ok (.aload 4, 2) := by decide +kernel
theorem dCBx_32 : decode cCBx 32 = .ok (.areturn, 1) := by decide +kernel
abbrev cCRx := jdk_65_method_132_code
theorem dCRx_0 : decode cCRx 0 = .ok (.iload_n 1, 1) := by decide +kernel
theorem dCRx_1 : decode cCRx 1 = .ok (.ifCond .ne 9, 3) := by decide +kernel
theorem dCRx_4 : decode cCRx 4 = .ok (.iload_n 2, 1) := by decide +kernel
theorem dCRx_5 : decode cCRx 5 = .ok (.aload_n 0, 1) := by decide +kernel
theorem dCRx_6 : decode cCRx 6 = .ok (.arraylength, 1) := by decide +kernel
theorem dCRx_7 : decode cCRx 7 = .ok (.if_icmp .eq 10, 3) := by decide +kernel
theorem dCRx_10 : decode cCRx 10 = .ok (.aload_n 0, 1) := by decide +kernel
theorem dCRx_11 : decode cCRx 11 = .ok (.iload_n 1, 1) := by decide +kernel
theorem dCRx_12 : decode cCRx 12 = .ok (.iload_n 2, 1) := by decide +kernel
theorem dCRx_13 : decode cCRx 13 = .ok (.invokestatic 339, 3) := by decide +kernel
theorem own_pd25 : parseMethodDescriptor "([BII)[B" = some ⟨[(.array .byte), .int, .int], some (.array .byte)⟩ := by decide +kernel
theorem dCRx_16 : decode cCRx 16 = .ok (.areturn, 1) := by decide +kernel
abbrev cS2x := jdk_42_method_150_code
theorem dS2x_0 : decode cS2x 0 = .ok (.aload_n 0, 1) := by decide +kernel
theorem dS2x_1 : decode cS2x 1 = .ok (.invokespecial 1, 3) := by decide +kernel
theorem dS2x_4 : decode cS2x 4 = .ok (.aload_n 1, 1) := by decide +kernel
theorem dS2x_5 : decode cS2x 5 = .ok (.invokevirtual 552, 3) := by decide +kernel
theorem own_pd26 : parseMethodDescriptor "()[B" = some ⟨[], some (.array .byte)⟩ := by decide +kernel
theorem dS2x_8 : decode cS2x 8 = .ok (.astore_n 3, 1) := by decide +kernel
theorem dS2x_9 : decode cS2x 9 = .ok (.aload_n 1, 1) := by decide +kernel
theorem dS2x_10 : decode cS2x 10 = .ok (.invokevirtual 549, 3) := by decide +kernel
theorem dS2x_13 : decode cS2x 13 = .ok (.istore 4, 2) := by decide +kernel
theorem dS2x_15 : decode cS2x 15 = .ok (.aload_n 1, 1) := by decide +kernel
theorem dS2x_16 : decode cS2x 16 = .ok (.invokevirtual 1047, 3) := by decide +kernel
theorem dS2x_19 : decode cS2x 19 = .ok (.ifCond .eq 22, 3) := by decide +kernel
theorem dS2x_22 : decode cS2x 22 = .ok (.aload_n 0, 1) := by decide +kernel
theorem dS2x_23 : decode cS2x 23 = .ok (.iconst 0, 1) := by decide +kernel
theorem dS2x_24 : decode cS2x 24 = .ok (.putfield 15, 3) := by decide +kernel
theorem dS2x_27 : decode cS2x 27 = .ok (.aload_n 0, 1) := by decide +kernel
theorem dS2x_28 : decode cS2x 28 = .ok (.aload_n 3, 1) := by decide +kernel
theorem dS2x_29 : decode cS2x 29 = .ok (.iconst 0, 1) := by decide +kernel
theorem dS2x_30 : decode cS2x 30 = .ok (.iload 4, 2) := by decide +kernel
theorem dS2x_32 : decode cS2x 32 = .ok (.invokestatic 54, 3) := by decide +kernel
theorem dS2x_35 : decode cS2x 35 = .ok (.putfield 9, 3) := by decide +kernel
theorem dS2x_38 : decode cS2x 38 = .ok (.goto 59, 3) := by decide +kernel
theorem dS2x_97 : decode cS2x 97 = .ok (.return_, 1) := by decide +kernel
abbrev cS1x := jdk_42_method_53_code
theorem dS1x_0 : decode cS1x 0 = .ok (.aload_n 0, 1) := by decide +kernel
theorem dS1x_1 : decode cS1x 1 = .ok (.aload_n 1, 1) := by decide +kernel
theorem dS1x_2 : decode cS1x 2 = .ok (.aconst_null, 1) := by decide +kernel
theorem dS1x_3 : decode cS1x 3 = .ok (.invokespecial 489, 3) := by decide +kernel
theorem own_pd27 : parseMethodDescriptor "(Ljava/lang/AbstractStringBuilder;Ljava/lang/Void;)V" = some ⟨[(.object "java/lang/AbstractStringBuilder"), (.object "java/lang/Void")], none⟩ := by decide +kernel
theorem dS1x_6 : decode cS1x 6 = .ok (.return_, 1) := by decide +kernel
abbrev cTSx := jdk_67_method_42_code
theorem dTSx_0 : decode cTSx 0 = .ok (.new 18, 3) := by decide +kernel
theorem dTSx_3 : decode cTSx 3 = .ok (.dup, 1) := by decide +kernel
theorem dTSx_4 : decode cTSx 4 = .ok (.aload_n 0, 1) := by decide +kernel
theorem dTSx_5 : decode cTSx 5 = .ok (.invokespecial 137, 3) := by decide +kernel
theorem own_pd28 : parseMethodDescriptor "(Ljava/lang/StringBuilder;)V" = some ⟨[(.object "java/lang/StringBuilder")], none⟩ := by decide +kernel
theorem dTSx_8 : decode cTSx 8 = .ok (.areturn, 1) := by decide +kernel
theorem dS2x_41 : decode cS2x 41 = .ok (.getstatic 38, 3) := by decide +kernel
theorem dS2x_44 : decode cS2x 44 = .ok (.ifCond .eq 35, 3) := by decide +kernel
theorem dS2x_47 : decode cS2x 47 = .ok (.aload_n 1, 1) := by decide +kernel
theorem dS2x_48 : decode cS2x 48 = .ok (.getfield 1048, 3) := by decide +kernel
theorem dS2x_51 : decode cS2x 51 = .ok (.ifCond .eq 28, 3) := by decide +kernel
theorem dS2x_79 : decode cS2x 79 = .ok (.aload_n 0, 1) := by decide +kernel
theorem dS2x_80 : decode cS2x 80 = .ok (.iconst 1, 1) := by decide +kernel
theorem dS2x_81 : decode cS2x 81 = .ok (.putfield 15, 3) := by decide +kernel
theorem dS2x_84 : decode cS2x 84 = .ok (.aload_n 0, 1) := by decide +kernel
theorem dS2x_85 : decode cS2x 85 = .ok (.aload_n 3, 1) := by decide +kernel
theorem dS2x_86 : decode cS2x 86 = .ok (.iconst 0, 1) := by decide +kernel
theorem dS2x_87 : decode cS2x 87 = .ok (.iload 4, 2) := by decide +kernel
theorem dS2x_89 : decode cS2x 89 = .ok (.iconst 1, 1) := by decide +kernel
theorem dS2x_90 : decode cS2x 90 = .ok (.ishl, 1) := by decide +kernel
theorem dS2x_91 : decode cS2x 91 = .ok (.invokestatic 54, 3) := by decide +kernel
theorem dS2x_94 : decode cS2x 94 = .ok (.putfield 9, 3) := by decide +kernel
theorem own_pn10 : plainName "java/lang/StringCoding" = true := by first | (simp [plainName, overriddenIn]; done) | decide +kernel
abbrev cCPx := jdk_123_method_3_code
theorem dCPx_7 : decode cCPx 7 = .ok (.iload 4, 2) := by decide +kernel
theorem dCPx_9 : decode cCPx 9 = .ok (.iload_n 3, 1) := by decide +kernel
theorem dCPx_10 : decode cCPx 10 = .ok (.if_icmp .ge 21, 3) := by decide +kernel
theorem dCPx_31 : decode cCPx 31 = .ok (.iload_n 2, 1) := by decide +kernel
theorem dCPx_32 : decode cCPx 32 = .ok (.ireturn, 1) := by decide +kernel
theorem dCPx_13 : decode cCPx 13 = .ok (.aload_n 0, 1) := by decide +kernel
theorem dCPx_14 : decode cCPx 14 = .ok (.iload 4, 2) := by decide +kernel
theorem dCPx_16 : decode cCPx 16 = .ok (.baload, 1) := by decide +kernel
theorem dCPx_17 : decode cCPx 17 = .ok (.ifCond .ge 8, 3) := by decide +kernel
theorem dCPx_20 : decode cCPx 20 = .ok (.iload 4, 2) := by decide +kernel
theorem dCPx_22 : decode cCPx 22 = .ok (.iload_n 1, 1) := by decide +kernel
theorem dCPx_23 : decode cCPx 23 = .ok (.isub, 1) := by decide +kernel
theorem dCPx_24 : decode cCPx 24 = .ok (.ireturn, 1) := by decide +kernel
theorem dCPx_25 : decode cCPx 25 = .ok (.iinc 4 1, 3) := by decide +kernel
theorem dCPx_28 : decode cCPx 28 = .ok (.goto (-21), 3) := by decide +kernel
theorem dCPx_0 : decode cCPx 0 = .ok (.iload_n 1, 1) := by decide +kernel
theorem dCPx_1 : decode cCPx 1 = .ok (.iload_n 2, 1) := by decide +kernel
theorem dCPx_2 : decode cCPx 2 = .ok (.iadd, 1) := by decide +kernel
theorem dCPx_3 : decode cCPx 3 = .ok (.istore_n 3, 1) := by decide +kernel
theorem dCPx_4 : decode cCPx 4 = .ok (.iload_n 1, 1) := by decide +kernel
theorem dCPx_5 : decode cCPx 5 = .ok (.istore 4, 2) := by decide +kernel
abbrev cHNx := jdk_123_method_2_code
theorem dHNx_0 : decode cHNx 0 = .ok (.aload_n 0, 1) := by decide +kernel
theorem dHNx_1 : decode cHNx 1 = .ok (.iload_n 1, 1) := by decide +kernel
theorem dHNx_2 : decode cHNx 2 = .ok (.iload_n 2, 1) := by decide +kernel
theorem dHNx_3 : decode cHNx 3 = .ok (.invokestatic 7, 3) := by decide +kernel
theorem own_pd29 : parseMethodDescriptor "([BII)I" = some ⟨[(.array .byte), .int, .int], some .int⟩ := by decide +kernel
theorem dHNx_6 : decode cHNx 6 = .ok (.iload_n 2, 1) := by decide +kernel
theorem dHNx_7 : decode cHNx 7 = .ok (.if_icmp .eq 7, 3) := by decide +kernel
theorem dHNx_14 : decode cHNx 14 = .ok (.iconst 0, 1) := by decide +kernel
theorem dHNx_15 : decode cHNx 15 = .ok (.ireturn, 1) := by decide +kernel
theorem dHNx_10 : decode cHNx 10 = .ok (.iconst 1, 1) := by decide +kernel
theorem dHNx_11 : decode cHNx 11 = .ok (.goto 4, 3) := by decide +kernel
abbrev cE8x := jdk_42_method_46_code
theorem dE8x_49 : decode cE8x 49 = .ok (.iload 7, 2) := by decide +kernel
theorem dE8x_51 : decode cE8x 51 = .ok (.iload 6, 2) := by decide +kernel
theorem dE8x_53 : decode cE8x 53 = .ok (.if_icmp .ge 71, 3) := by decide +kernel
theorem dE8x_124 : decode cE8x 124 = .ok (.iload_n 3, 1) := by decide +kernel
theorem dE8x_125 : decode cE8x 125 = .ok (.aload 4, 2) := by decide +kernel
theorem dE8x_127 : decode cE8x 127 = .ok (.arraylength, 1) := by decide +kernel
theorem dE8x_128 : decode cE8x 128 = .ok (.if_icmp .ne 6, 3) := by decide +kernel
theorem dE8x_131 : decode cE8x 131 = .ok (.aload 4, 2) := by decide +kernel
theorem dE8x_133 : decode cE8x 133 = .ok (.areturn, 1) := by decide +kernel
theorem dE8x_134 : decode cE8x 134 = .ok (.aload 4, 2) := by decide +kernel
theorem dE8x_136 : decode cE8x 136 = .ok (.iload_n 3, 1) := by decide +kernel
theorem dE8x_137 : decode cE8x 137 = .ok (.invokestatic 102, 3) := by decide +kernel
theorem dE8x_140 : decode cE8x 140 = .ok (.areturn, 1) := by decide +kernel
theorem dE8x_56 : decode cE8x 56 = .ok (.aload 5, 2) := by decide +kernel
theorem dE8x_58 : decode cE8x 58 = .ok (.iload 7, 2) := by decide +kernel
theorem dE8x_60 : decode cE8x 60 = .ok (.baload, 1) := by decide +kernel
theorem dE8x_61 : decode cE8x 61 = .ok (.istore 8, 2) := by decide +kernel
theorem dE8x_63 : decode cE8x 63 = .ok (.iload 8, 2) := by decide +kernel
theorem dE8x_65 : decode cE8x 65 = .ok (.ifCond .ge 44, 3) := by decide +kernel
theorem dE8x_68 : decode cE8x 68 = .ok (.aload 4, 2) := by decide +kernel
theorem dE8x_70 : decode cE8x 70 = .ok (.iload_n 3, 1) := by decide +kernel
theorem dE8x_71 : decode cE8x 71 = .ok (.iinc 3 1, 3) := by decide +kernel
theorem dE8x_74 : decode cE8x 74 = .ok (.sipush 192, 3) := by decide +kernel
theorem dE8x_77 : decode cE8x 77 = .ok (.iload 8, 2) := by decide +kernel
theorem dE8x_79 : decode cE8x 79 = .ok (.sipush 255, 3) := by decide +kernel
theorem dE8x_82 : decode cE8x 82 = .ok (.iand, 1) := by decide +kernel
theorem dE8x_83 : decode cE8x 83 = .ok (.bipush 6, 2) := by decide +kernel
theorem dE8x_85 : decode cE8x 85 = .ok (.ishr, 1) := by decide +kernel
theorem dE8x_86 : decode cE8x 86 = .ok (.ior, 1) := by decide +kernel
theorem dE8x_87 : decode cE8x 87 = .ok (.i2b, 1) := by decide +kernel
theorem dE8x_88 : decode cE8x 88 = .ok (.bastore, 1) := by decide +kernel
theorem dE8x_89 : decode cE8x 89 = .ok (.aload 4, 2) := by decide +kernel
theorem dE8x_91 : decode cE8x 91 = .ok (.iload_n 3, 1) := by decide +kernel
theorem dE8x_92 : decode cE8x 92 = .ok (.iinc 3 1, 3) := by decide +kernel
theorem dE8x_95 : decode cE8x 95 = .ok (.sipush 128, 3) := by decide +kernel
theorem dE8x_98 : decode cE8x 98 = .ok (.iload 8, 2) := by decide +kernel
theorem dE8x_100 : decode cE8x 100 = .ok (.bipush 63, 2) := by decide +kernel
theorem dE8x_102 : decode cE8x 102 = .ok (.iand, 1) := by decide +kernel
theorem dE8x_103 : decode cE8x 103 = .ok (.ior, 1) := by decide +kernel
theorem dE8x_104 : decode cE8x 104 = .ok (.i2b, 1) := by decide +kernel
theorem dE8x_105 : decode cE8x 105 = .ok (.bastore, 1) := by decide +kernel
theorem dE8x_106 : decode cE8x 106 = .ok (.goto 12, 3) := by decide +kernel
theorem dE8x_118 : decode cE8x 118 = .ok (.iinc 7 1, 3) := by decide +kernel
theorem dE8x_121 : decode cE8x 121 = .ok (.goto (-72), 3) := by decide +kernel
theorem dE8x_109 : decode cE8x 109 = .ok (.aload 4, 2) := by decide +kernel
theorem dE8x_111 : decode cE8x 111 = .ok (.iload_n 3, 1) := by decide +kernel
theorem dE8x_112 : decode cE8x 112 = .ok (.iinc 3 1, 3) := by decide +kernel
theorem dE8x_115 : decode cE8x 115 = .ok (.iload 8, 2) := by decide +kernel
theorem dE8x_117 : decode cE8x 117 = .ok (.bastore, 1) := by decide +kernel
theorem dE8x_0 : decode cE8x 0 = .ok (.iload_n 0, 1) := by decide +kernel
theorem dE8x_1 : decode cE8x 1 = .ok (.iconst 1, 1) := by decide +kernel
theorem dE8x_2 : decode cE8x 2 = .ok (.if_icmp .ne 9, 3) := by decide +kernel
theorem dE8x_11 : decode cE8x 11 = .ok (.aload_n 1, 1) := by decide +kernel
theorem dE8x_12 : decode cE8x 12 = .ok (.iconst 0, 1) := by decide +kernel
theorem dE8x_13 : decode cE8x 13 = .ok (.aload_n 1, 1) := by decide +kernel
theorem dE8x_14 : decode cE8x 14 = .ok (.arraylength, 1) := by decide +kernel
theorem dE8x_15 : decode cE8x 15 = .ok (.invokestatic 128, 3) := by decide +kernel
theorem own_pd30 : parseMethodDescriptor "([BII)Z" = some ⟨[(.array .byte), .int, .int], some .boolean⟩ := by decide +kernel
theorem dE8x_18 : decode cE8x 18 = .ok (.ifCond .ne 11, 3) := by decide +kernel
theorem dE8x_21 : decode cE8x 21 = .ok (.aload_n 1, 1) := by decide +kernel
theorem dE8x_22 : decode cE8x 22 = .ok (.invokevirtual 279, 3) := by decide +kernel
theorem dE8x_25 : decode cE8x 25 = .ok (.checkcast 280, 3) := by decide +kernel
theorem dE8x_28 : decode cE8x 28 = .ok (.areturn, 1) := by decide +kernel
theorem dE8x_29 : decode cE8x 29 = .ok (.iconst 0, 1) := by decide +kernel
theorem dE8x_30 : decode cE8x 30 = .ok (.istore_n 3, 1) := by decide +kernel
theorem dE8x_31 : decode cE8x 31 = .ok (.aload_n 1, 1) := by decide +kernel
theorem dE8x_32 : decode cE8x 32 = .ok (.arraylength, 1) := by decide +kernel
theorem dE8x_33 : decode cE8x 33 = .ok (.invokestatic 60, 3) := by decide +kernel
theorem dE8x_36 : decode cE8x 36 = .ok (.astore 4, 2) := by decide +kernel
theorem dE8x_38 : decode cE8x 38 = .ok (.aload_n 1, 1) := by decide +kernel
theorem dE8x_39 : decode cE8x 39 = .ok (.astore 5, 2) := by decide +kernel
theorem dE8x_41 : decode cE8x 41 = .ok (.aload 5, 2) := by decide +kernel
theorem dE8x_43 : decode cE8x 43 = .ok (.arraylength, 1) := by decide +kernel
theorem dE8x_44 : decode cE8x 44 = .ok (.istore 6, 2) := by decide +kernel
theorem dE8x_46 : decode cE8x 46 = .ok (.iconst 0, 1) := by decide +kernel
theorem dE8x_47 : decode cE8x 47 = .ok (.istore 7, 2) := by decide +kernel
theorem own_pn11 : plainName "java/lang/Character" = true := by first | (simp [plainName, overriddenIn]; done) | decide +kernel
abbrev cISx := jdk_89_method_16_code
theorem dISx_0 : decode cISx 0 = .ok (.iload_n 0, 1) := by decide +kernel
theorem dISx_1 : decode cISx 1 = .ok (.ldc 75, 2) := by decide +kernel
theorem dISx_3 : decode cISx 3 = .ok (.if_icmp .lt 13, 3) := by decide +kernel
theorem dISx_16 : decode cISx 16 = .ok (.iconst 0, 1) := by decide +kernel
theorem dISx_17 : decode cISx 17 = .ok (.ireturn, 1) := by decide +kernel
theorem dISx_6 : decode cISx 6 = .ok (.iload_n 0, 1) := by decide +kernel
theorem dISx_7 : decode cISx 7 = .ok (.ldc 77, 2) := by decide +kernel
theorem dISx_9 : decode cISx 9 = .ok (.if_icmp .ge 7, 3) := by decide +kernel
abbrev cE6x := jdk_42_method_47_code
theorem dE6x_58 : decode cE6x 58 = .ok (.iload_n 3, 1) := by decide +kernel
theorem dE6x_59 : decode cE6x 59 = .ok (.iload 4, 2) := by decide +kernel
theorem dE6x_61 : decode cE6x 61 = .ok (.if_icmp .ge 294, 3) := by decide +kernel
theorem dE6x_355 : decode cE6x 355 = .ok (.iload_n 2, 1) := by decide +kernel
theorem dE6x_356 : decode cE6x 356 = .ok (.aload 5, 2) := by decide +kernel
theorem dE6x_358 : decode cE6x 358 = .ok (.arraylength, 1) := by decide +kernel
theorem dE6x_359 : decode cE6x 359 = .ok (.if_icmp .ne 6, 3) := by decide +kernel
theorem dE6x_362 : decode cE6x 362 = .ok (.aload 5, 2) := by decide +kernel
theorem dE6x_364 : decode cE6x 364 = .ok (.areturn, 1) := by decide +kernel
theorem dE6x_365 : decode cE6x 365 = .ok (.aload 5, 2) := by decide +kernel
theorem dE6x_367 : decode cE6x 367 = .ok (.iload_n 2, 1) := by decide +kernel
theorem dE6x_368 : decode cE6x 368 = .ok (.invokestatic 102, 3) := by decide +kernel
theorem dE6x_371 : decode cE6x 371 = .ok (.areturn, 1) := by decide +kernel
theorem dE6x_64 : decode cE6x 64 = .ok (.aload_n 0, 1) := by decide +kernel
theorem dE6x_65 : decode cE6x 65 = .ok (.iload_n 3, 1) := by decide +kernel
theorem dE6x_66 : decode cE6x 66 = .ok (.iinc 3 1, 3) := by decide +kernel
theorem dE6x_69 : decode cE6x 69 = .ok (.invokestatic 360, 3) := by decide +kernel
theorem dE6x_72 : decode cE6x 72 = .ok (.istore 6, 2) := by decide +kernel
theorem dE6x_74 : decode cE6x 74 = .ok (.iload 6, 2) := by decide +kernel
theorem dE6x_76 : decode cE6x 76 = .ok (.sipush 128, 3) := by decide +kernel
theorem dE6x_79 : decode cE6x 79 = .ok (.if_icmp .ge 16, 3) := by decide +kernel
theorem dE6x_82 : decode cE6x 82 = .ok (.aload 5, 2) := by decide +kernel
theorem dE6x_84 : decode cE6x 84 = .ok (.iload_n 2, 1) := by decide +kernel
theorem dE6x_85 : decode cE6x 85 = .ok (.iinc 2 1, 3) := by decide +kernel
theorem dE6x_88 : decode cE6x 88 = .ok (.iload 6, 2) := by decide +kernel
theorem dE6x_90 : decode cE6x 90 = .ok (.i2b, 1) := by decide +kernel
theorem dE6x_91 : decode cE6x 91 = .ok (.bastore, 1) := by decide +kernel
theorem dE6x_92 : decode cE6x 92 = .ok (.goto 260, 3) := by decide +kernel
theorem dE6x_352 : decode cE6x 352 = .ok (.goto (-294), 3) := by decide +kernel
theorem dE6x_95 : decode cE6x 95 = .ok (.iload 6, 2) := by decide +kernel
theorem dE6x_97 : decode cE6x 97 = .ok (.sipush 2048, 3) := by decide +kernel
theorem dE6x_100 : decode cE6x 100 = .ok (.if_icmp .ge 40, 3) := by decide +kernel
theorem dE6x_103 : decode cE6x 103 = .ok (.aload 5, 2) := by decide +kernel
theorem dE6x_105 : decode cE6x 105 = .ok (.iload_n 2, 1) := by decide +kernel
theorem dE6x_106 : decode cE6x 106 = .ok (.iinc 2 1, 3) := by decide +kernel
theorem dE6x_109 : decode cE6x 109 = .ok (.sipush 192, 3) := by decide +kernel
theorem dE6x_112 : decode cE6x 112 = .ok (.iload 6, 2) := by decide +kernel
theorem dE6x_114 : decode cE6x 114 = .ok (.bipush 6, 2) := by decide +kernel
theorem dE6x_116 : decode cE6x 116 = .ok (.ishr, 1) := by decide +kernel
theorem dE6x_117 : decode cE6x 117 = .ok (.ior, 1) := by decide +kernel
theorem dE6x_118 : decode cE6x 118 = .ok (.i2b, 1) := by decide +kernel
theorem dE6x_119 : decode cE6x 119 = .ok (.bastore, 1) := by decide +kernel
theorem dE6x_120 : decode cE6x 120 = .ok (.aload 5, 2) := by decide +kernel
theorem dE6x_122 : decode cE6x 122 = .ok (.iload_n 2, 1) := by decide +kernel
theorem dE6x_123 : decode cE6x 123 = .ok (.iinc 2 1, 3) := by decide +kernel
theorem dE6x_126 : decode cE6x 126 = .ok (.sipush 128, 3) := by decide +kernel
theorem dE6x_129 : decode cE6x 129 = .ok (.iload 6, 2) := by decide +kernel
theorem dE6x_131 : decode cE6x 131 = .ok (.bipush 63, 2) := by decide +kernel
theorem dE6x_133 : decode cE6x 133 = .ok (.iand, 1) := by decide +kernel
theorem dE6x_134 : decode cE6x 134 = .ok (.ior, 1) := by decide +kernel
theorem dE6x_135 : decode cE6x 135 = .ok (.i2b, 1) := by decide +kernel
theorem dE6x_136 : decode cE6x 136 = .ok (.bastore, 1) := by decide +kernel
theorem dE6x_137 : decode cE6x 137 = .ok (.goto 215, 3) := by decide +kernel
theorem dE6x_140 : decode cE6x 140 = .ok (.iload 6, 2) := by decide +kernel
theorem dE6x_142 : decode cE6x 142 = .ok (.invokestatic 404, 3) := by decide +kernel
theorem own_pd31 : parseMethodDescriptor "(C)Z" = some ⟨[.char], some .boolean⟩ := by decide +kernel
theorem dE6x_145 : decode cE6x 145 = .ok (.ifCond .eq 153, 3) := by decide +kernel
theorem dE6x_298 : decode cE6x 298 = .ok (.aload 5, 2) := by decide +kernel
theorem dE6x_300 : decode cE6x 300 = .ok (.iload_n 2, 1) := by decide +kernel
theorem dE6x_301 : decode cE6x 301 = .ok (.iinc 2 1, 3) := by decide +kernel
theorem dE6x_304 : decode cE6x 304 = .ok (.sipush 224, 3) := by decide +kernel
theorem dE6x_307 : decode cE6x 307 = .ok (.iload 6, 2) := by decide +kernel
theorem dE6x_309 : decode cE6x 309 = .ok (.bipush 12, 2) := by decide +kernel
theorem dE6x_311 : decode cE6x 311 = .ok (.ishr, 1) := by decide +kernel
theorem dE6x_312 : decode cE6x 312 = .ok (.ior, 1) := by decide +kernel
theorem dE6x_313 : decode cE6x 313 = .ok (.i2b, 1) := by decide +kernel
theorem dE6x_314 : decode cE6x 314 = .ok (.bastore, 1) := by decide +kernel
theorem dE6x_315 : decode cE6x 315 = .ok (.aload 5, 2) := by decide +kernel
theorem dE6x_317 : decode cE6x 317 = .ok (.iload_n 2, 1) := by decide +kernel
theorem dE6x_318 : decode cE6x 318 = .ok (.iinc 2 1, 3) := by decide +kernel
theorem dE6x_321 : decode cE6x 321 = .ok (.sipush 128, 3) := by decide +kernel
theorem dE6x_324 : decode cE6x 324 = .ok (.iload 6, 2) := by decide +kernel
theorem dE6x_326 : decode cE6x 326 = .ok (.bipush 6, 2) := by decide +kernel
theorem dE6x_328 : decode cE6x 328 = .ok (.ishr, 1) := by decide +kernel
theorem dE6x_329 : decode cE6x 329 = .ok (.bipush 63, 2) := by decide +kernel
theorem dE6x_331 : decode cE6x 331 = .ok (.iand, 1) := by decide +kernel
theorem dE6x_332 : decode cE6x 332 = .ok (.ior, 1) := by decide +kernel
theorem dE6x_333 : decode cE6x 333 = .ok (.i2b, 1) := by decide +kernel
theorem dE6x_334 : decode cE6x 334 = .ok (.bastore, 1) := by decide +kernel
theorem dE6x_335 : decode cE6x 335 = .ok (.aload 5, 2) := by decide +kernel
theorem dE6x_337 : decode cE6x 337 = .ok (.iload_n 2, 1) := by decide +kernel
theorem dE6x_338 : decode cE6x 338 = .ok (.iinc 2 1, 3) := by decide +kernel
theorem dE6x_341 : decode cE6x 341 = .ok (.sipush 128, 3) := by decide +kernel
theorem dE6x_344 : decode cE6x 344 = .ok (.iload 6, 2) := by decide +kernel
theorem dE6x_346 : decode cE6x 346 = .ok (.bipush 63, 2) := by decide +kernel
theorem dE6x_348 : decode cE6x 348 = .ok (.iand, 1) := by decide +kernel
theorem dE6x_349 : decode cE6x 349 = .ok (.ior, 1) := by decide +kernel
theorem dE6x_350 : decode cE6x 350 = .ok (.i2b, 1) := by decide +kernel
theorem dE6x_351 : decode cE6x 351 = .ok (.bastore, 1) := by decide +kernel
theorem dE6x_18 : decode cE6x 18 = .ok (.iload_n 3, 1) := by decide +kernel
theorem dE6x_19 : decode cE6x 19 = .ok (.iload 4, 2) := by decide +kernel
theorem dE6x_21 : decode cE6x 21 = .ok (.if_icmp .ge 37, 3) := by decide +kernel
theorem dE6x_24 : decode cE6x 24 = .ok (.aload_n 0, 1) := by decide +kernel
theorem dE6x_25 : decode cE6x 25 = .ok (.iload_n 3, 1) := by decide +kernel
theorem dE6x_26 : decode cE6x 26 = .ok (.invokestatic 360, 3) := by decide +kernel
theorem dE6x_29 : decode cE6x 29 = .ok (.istore 6, 2) := by decide +kernel
theorem dE6x_31 : decode cE6x 31 = .ok (.iload 6, 2) := by decide +kernel
theorem dE6x_33 : decode cE6x 33 = .ok (.sipush 128, 3) := by decide +kernel
theorem dE6x_36 : decode cE6x 36 = .ok (.if_icmp .lt 6, 3) := by decide +kernel
theorem dE6x_42 : decode cE6x 42 = .ok (.aload 5, 2) := by decide +kernel
theorem dE6x_44 : decode cE6x 44 = .ok (.iload_n 2, 1) := by decide +kernel
theorem dE6x_45 : decode cE6x 45 = .ok (.iinc 2 1, 3) := by decide +kernel
theorem dE6x_48 : decode cE6x 48 = .ok (.iload 6, 2) := by decide +kernel
theorem dE6x_50 : decode cE6x 50 = .ok (.i2b, 1) := by decide +kernel
theorem dE6x_51 : decode cE6x 51 = .ok (.bastore, 1) := by decide +kernel
theorem dE6x_52 : decode cE6x 52 = .ok (.iinc 3 1, 3) := by decide +kernel
theorem dE6x_55 : decode cE6x 55 = .ok (.goto (-37), 3) := by decide +kernel
theorem dE6x_39 : decode cE6x 39 = .ok (.goto 19, 3) := by decide +kernel
theorem dE6x_0 : decode cE6x 0 = .ok (.iconst 0, 1) := by decide +kernel
theorem dE6x_1 : decode cE6x 1 = .ok (.istore_n 2, 1) := by decide +kernel
theorem dE6x_2 : decode cE6x 2 = .ok (.iconst 0, 1) := by decide +kernel
theorem dE6x_3 : decode cE6x 3 = .ok (.istore_n 3, 1) := by decide +kernel
theorem dE6x_4 : decode cE6x 4 = .ok (.aload_n 0, 1) := by decide +kernel
theorem dE6x_5 : decode cE6x 5 = .ok (.arraylength, 1) := by decide +kernel
theorem dE6x_6 : decode cE6x 6 = .ok (.iconst 1, 1) := by decide +kernel
theorem dE6x_7 : decode cE6x 7 = .ok (.ishr, 1) := by decide +kernel
theorem dE6x_8 : decode cE6x 8 = .ok (.istore 4, 2) := by decide +kernel
theorem dE6x_10 : decode cE6x 10 = .ok (.iload 4, 2) := by decide +kernel
theorem dE6x_12 : decode cE6x 12 = .ok (.iconst 3, 1) := by decide +kernel
theorem dE6x_13 : decode cE6x 13 = .ok (.imul, 1) := by decide +kernel
theorem dE6x_14 : decode cE6x 14 = .ok (.newarray .byte, 2) := by decide +kernel
theorem dE6x_16 : decode cE6x 16 = .ok (.astore 5, 2) := by decide +kernel
theorem dE8x_5 : decode cE8x 5 = .ok (.aload_n 1, 1) := by decide +kernel
theorem dE8x_6 : decode cE8x 6 = .ok (.iload_n 2, 1) := by decide +kernel
theorem dE8x_7 : decode cE8x 7 = .ok (.invokestatic 473, 3) := by decide +kernel
theorem own_pd32 : parseMethodDescriptor "([BZ)[B" = some ⟨[(.array .byte), .boolean], some (.array .byte)⟩ := by decide +kernel
theorem dE8x_10 : decode cE8x 10 = .ok (.areturn, 1) := by decide +kernel
abbrev cECx := jdk_42_method_18_code
theorem dECx_0 : decode cECx 0 = .ok (.aload_n 0, 1) := by decide +kernel
theorem dECx_1 : decode cECx 1 = .ok (.getstatic 86, 3) := by decide +kernel
theorem dECx_4 : decode cECx 4 = .ok (.if_acmp .ne 10, 3) := by decide +kernel
theorem dECx_7 : decode cECx 7 = .ok (.iload_n 1, 1) := by decide +kernel
theorem dECx_8 : decode cECx 8 = .ok (.aload_n 2, 1) := by decide +kernel
theorem dECx_9 : decode cECx 9 = .ok (.iconst 1, 1) := by decide +kernel
theorem dECx_10 : decode cECx 10 = .ok (.invokestatic 252, 3) := by decide +kernel
theorem own_pd33 : parseMethodDescriptor "(B[BZ)[B" = some ⟨[.byte, (.array .byte), .boolean], some (.array .byte)⟩ := by decide +kernel
theorem dECx_13 : decode cECx 13 = .ok (.areturn, 1) := by decide +kernel
abbrev cGYx := jdk_42_method_64_code
theorem dGYx_0 : decode cGYx 0 = .ok (.aload_n 1, 1) := by decide +kernel
theorem dGYx_1 : decode cGYx 1 = .ok (.ifnonnull 11, 3) := by decide +kernel
theorem dGYx_12 : decode cGYx 12 = .ok (.aload_n 1, 1) := by decide +kernel
theorem dGYx_13 : decode cGYx 13 = .ok (.aload_n 0, 1) := by decide +kernel
theorem dGYx_14 : decode cGYx 14 = .ok (.invokevirtual 335, 3) := by decide +kernel
theorem dGYx_17 : decode cGYx 17 = .ok (.aload_n 0, 1) := by decide +kernel
theorem dGYx_18 : decode cGYx 18 = .ok (.getfield 9, 3) := by decide +kernel
theorem dGYx_21 : decode cGYx 21 = .ok (.invokestatic 535, 3) := by decide +kernel
theorem own_pd34 : parseMethodDescriptor "(Ljava/nio/charset/Charset;B[B)[B" = some ⟨[(.object "java/nio/charset/Charset"), .byte, (.array .byte)], some (.array .byte)⟩ := by decide +kernel
theorem dGYx_24 : decode cGYx 24 = .ok (.areturn, 1) := by decide +kernel
theorem own_pn12 : plainName "com/example/sieveline/sieveline/server/NotificationStream" = true := by first | (simp [plainName, overriddenIn]; done) | decide +kernel
abbrev cMF := prog_28_method_2_code
theorem dMF_0 : decode cMF 0 = .ok (.new 33, 3) := by decide +kernel
theorem dMF_3 : decode cMF 3 = .ok (.dup, 1) := by decide +kernel
theorem dMF_4 : decode cMF 4 = .ok (.invokespecial 35, 3) := by decide +kernel
theorem dMF_7 : decode cMF 7 = .ok (.ldc 36, 2) := by decide +kernel
theorem dMF_9 : decode cMF 9 = .ok (.invokevirtual 38, 3) := by decide +kernel
theorem own_pd35 : parseMethodDescriptor "(Ljava/lang/String;)Ljava/lang/StringBuilder;" = some ⟨[(.object "java/lang/String")], some (.object "java/lang/StringBuilder")⟩ := by decide +kernel
theorem dMF_12 : decode cMF 12 = .ok (.aload_n 0, 1) := by decide +kernel
theorem dMF_13 : decode cMF 13 = .ok (.invokevirtual 38, 3) := by decide +kernel
theorem dMF_16 : decode cMF 16 = .ok (.ldc 42, 2) := by decide +kernel
theorem dMF_18 : decode cMF 18 = .ok (.invokevirtual 38, 3) := by decide +kernel
theorem dMF_21 : decode cMF 21 = .ok (.invokevirtual 44, 3) := by decide +kernel
theorem own_pd36 : parseMethodDescriptor "()Ljava/lang/String;" = some ⟨[], some (.object "java/lang/String")⟩ := by decide +kernel
theorem dMF_24 : decode cMF 24 = .ok (.getstatic 48, 3) := by decide +kernel
theorem dMF_27 : decode cMF 27 = .ok (.invokevirtual 54, 3) := by decide +kernel
theorem own_pd37 : parseMethodDescriptor "(Ljava/nio/charset/Charset;)[B" = some ⟨[(.object "java/nio/charset/Charset")], some (.array .byte)⟩ := by decide +kernel
theorem dMF_30 : decode cMF 30 = .ok (.areturn, 1) := by decide +kernel
theorem own_pn13 : plainName "com/example/sieveline/sieveline/server/NotificationStreamMatchFramePinLaw" = true := by first | (simp [plainName, overriddenIn]; done) | decide +kernel
abbrev cDR := method_3_code
theorem dDR_0 : decode cDR 0 = .ok (.iload_n 0, 1) := by decide +kernel
theorem dDR_1 : decode cDR 1 = .ok (.bipush 16, 2) := by decide +kernel
theorem dDR_3 : decode cDR 3 = .ok (.iushr, 1) := by decide +kernel
theorem dDR_4 : decode cDR 4 = .ok (.iconst 3, 1) := by decide +kernel
theorem dDR_5 : decode cDR 5 = .ok (.iand, 1) := by decide +kernel
theorem dDR_6 : decode cDR 6 = .ok (.istore_n 1, 1) := by decide +kernel
theorem dDR_7 : decode cDR 7 = .ok (.iload_n 0, 1) := by decide +kernel
theorem dDR_8 : decode cDR 8 = .ok (.ldc 32, 2) := by decide +kernel
theorem dDR_10 : decode cDR 10 = .ok (.iand, 1) := by decide +kernel
theorem dDR_11 : decode cDR 11 = .ok (.istore_n 2, 1) := by decide +kernel
theorem dDR_12 : decode cDR 12 = .ok (.iload_n 1, 1) := by decide +kernel
theorem dDR_13 : decode cDR 13 = .ok (.ifCond .ne 8, 3) := by decide +kernel
theorem dDR_16 : decode cDR 16 = .ok (.iload_n 2, 1) := by decide +kernel
theorem dDR_17 : decode cDR 17 = .ok (.bipush 127, 2) := by decide +kernel
theorem dDR_19 : decode cDR 19 = .ok (.iand, 1) := by decide +kernel
theorem dDR_20 : decode cDR 20 = .ok (.ireturn, 1) := by decide +kernel
theorem dDR_21 : decode cDR 21 = .ok (.iload_n 1, 1) := by decide +kernel
theorem dDR_22 : decode cDR 22 = .ok (.iconst 1, 1) := by decide +kernel
theorem dDR_23 : decode cDR 23 = .ok (.if_icmp .ne 9, 3) := by decide +kernel
theorem dDR_26 : decode cDR 26 = .ok (.iload_n 2, 1) := by decide +kernel
theorem dDR_27 : decode cDR 27 = .ok (.sipush 2047, 3) := by decide +kernel
theorem dDR_30 : decode cDR 30 = .ok (.iand, 1) := by decide +kernel
theorem dDR_31 : decode cDR 31 = .ok (.ireturn, 1) := by decide +kernel
theorem dDR_32 : decode cDR 32 = .ok (.iload_n 2, 1) := by decide +kernel
theorem dDR_33 : decode cDR 33 = .ok (.ldc 33, 2) := by decide +kernel
theorem dDR_35 : decode cDR 35 = .ok (.if_icmp .lt 15, 3) := by decide +kernel
theorem dDR_50 : decode cDR 50 = .ok (.iload_n 2, 1) := by decide +kernel
theorem dDR_51 : decode cDR 51 = .ok (.ireturn, 1) := by decide +kernel
theorem dDR_38 : decode cDR 38 = .ok (.iload_n 2, 1) := by decide +kernel
theorem dDR_39 : decode cDR 39 = .ok (.ldc 34, 2) := by decide +kernel
theorem dDR_41 : decode cDR 41 = .ok (.if_icmp .gt 9, 3) := by decide +kernel
theorem dDR_44 : decode cDR 44 = .ok (.iload_n 2, 1) := by decide +kernel
theorem dDR_45 : decode cDR 45 = .ok (.sipush 2047, 3) := by decide +kernel
theorem dDR_48 : decode cDR 48 = .ok (.iand, 1) := by decide +kernel
theorem dDR_49 : decode cDR 49 = .ok (.ireturn, 1) := by decide +kernel
abbrev cPT := method_4_code
theorem dPT_0 : decode cPT 0 = .ok (.iload_n 2, 1) := by decide +kernel
theorem dPT_1 : decode cPT 1 = .ok (.sipush 128, 3) := by decide +kernel
theorem dPT_4 : decode cPT 4 = .ok (.if_icmp .ge 12, 3) := by decide +kernel
theorem dPT_7 : decode cPT 7 = .ok (.aload_n 0, 1) := by decide +kernel
theorem dPT_8 : decode cPT 8 = .ok (.iload_n 1, 1) := by decide +kernel
theorem dPT_9 : decode cPT 9 = .ok (.iload_n 2, 1) := by decide +kernel
theorem dPT_10 : decode cPT 10 = .ok (.i2b, 1) := by decide +kernel
theorem dPT_11 : decode cPT 11 = .ok (.bastore, 1) := by decide +kernel
theorem dPT_12 : decode cPT 12 = .ok (.iload_n 1, 1) := by decide +kernel
theorem dPT_13 : decode cPT 13 = .ok (.iconst 1, 1) := by decide +kernel
theorem dPT_14 : decode cPT 14 = .ok (.iadd, 1) := by decide +kernel
theorem dPT_15 : decode cPT 15 = .ok (.ireturn, 1) := by decide +kernel
theorem dPT_16 : decode cPT 16 = .ok (.iload_n 2, 1) := by decide +kernel
theorem dPT_17 : decode cPT 17 = .ok (.sipush 2048, 3) := by decide +kernel
theorem dPT_20 : decode cPT 20 = .ok (.if_icmp .ge 33, 3) := by decide +kernel
theorem dPT_23 : decode cPT 23 = .ok (.aload_n 0, 1) := by decide +kernel
theorem dPT_24 : decode cPT 24 = .ok (.iload_n 1, 1) := by decide +kernel
theorem dPT_25 : decode cPT 25 = .ok (.sipush 192, 3) := by decide +kernel
theorem dPT_28 : decode cPT 28 = .ok (.iload_n 2, 1) := by decide +kernel
theorem dPT_29 : decode cPT 29 = .ok (.bipush 6, 2) := by decide +kernel
theorem dPT_31 : decode cPT 31 = .ok (.ishr, 1) := by decide +kernel
theorem dPT_32 : decode cPT 32 = .ok (.ior, 1) := by decide +kernel
theorem dPT_33 : decode cPT 33 = .ok (.i2b, 1) := by decide +kernel
theorem dPT_34 : decode cPT 34 = .ok (.bastore, 1) := by decide +kernel
theorem dPT_35 : decode cPT 35 = .ok (.aload_n 0, 1) := by decide +kernel
theorem dPT_36 : decode cPT 36 = .ok (.iload_n 1, 1) := by decide +kernel
theorem dPT_37 : decode cPT 37 = .ok (.iconst 1, 1) := by decide +kernel
theorem dPT_38 : decode cPT 38 = .ok (.iadd, 1) := by decide +kernel
theorem dPT_39 : decode cPT 39 = .ok (.sipush 128, 3) := by decide +kernel
theorem dPT_42 : decode cPT 42 = .ok (.iload_n 2, 1) := by decide +kernel
theorem dPT_43 : decode cPT 43 = .ok (.bipush 63, 2) := by decide +kernel
theorem dPT_45 : decode cPT 45 = .ok (.iand, 1) := by decide +kernel
theorem dPT_46 : decode cPT 46 = .ok (.ior, 1) := by decide +kernel
theorem dPT_47 : decode cPT 47 = .ok (.i2b, 1) := by decide +kernel
theorem dPT_48 : decode cPT 48 = .ok (.bastore, 1) := by decide +kernel
theorem dPT_49 : decode cPT 49 = .ok (.iload_n 1, 1) := by decide +kernel
theorem dPT_50 : decode cPT 50 = .ok (.iconst 2, 1) := by decide +kernel
theorem dPT_51 : decode cPT 51 = .ok (.iadd, 1) := by decide +kernel
theorem dPT_52 : decode cPT 52 = .ok (.ireturn, 1) := by decide +kernel
theorem dPT_53 : decode cPT 53 = .ok (.aload_n 0, 1) := by decide +kernel
theorem dPT_54 : decode cPT 54 = .ok (.iload_n 1, 1) := by decide +kernel
theorem dPT_55 : decode cPT 55 = .ok (.sipush 224, 3) := by decide +kernel
theorem dPT_58 : decode cPT 58 = .ok (.iload_n 2, 1) := by decide +kernel
theorem dPT_59 : decode cPT 59 = .ok (.bipush 12, 2) := by decide +kernel
theorem dPT_61 : decode cPT 61 = .ok (.ishr, 1) := by decide +kernel
theorem dPT_62 : decode cPT 62 = .ok (.ior, 1) := by decide +kernel
theorem dPT_63 : decode cPT 63 = .ok (.i2b, 1) := by decide +kernel
theorem dPT_64 : decode cPT 64 = .ok (.bastore, 1) := by decide +kernel
theorem dPT_65 : decode cPT 65 = .ok (.aload_n 0, 1) := by decide +kernel
theorem dPT_66 : decode cPT 66 = .ok (.iload_n 1, 1) := by decide +kernel
theorem dPT_67 : decode cPT 67 = .ok (.iconst 1, 1) := by decide +kernel
theorem dPT_68 : decode cPT 68 = .ok (.iadd, 1) := by decide +kernel
theorem dPT_69 : decode cPT 69 = .ok (.sipush 128, 3) := by decide +kernel
theorem dPT_72 : decode cPT 72 = .ok (.iload_n 2, 1) := by decide +kernel
theorem dPT_73 : decode cPT 73 = .ok (.bipush 6, 2) := by decide +kernel
theorem dPT_75 : decode cPT 75 = .ok (.ishr, 1) := by decide +kernel
theorem dPT_76 : decode cPT 76 = .ok (.bipush 63, 2) := by decide +kernel
theorem dPT_78 : decode cPT 78 = .ok (.iand, 1) := by decide +kernel
theorem dPT_79 : decode cPT 79 = .ok (.ior, 1) := by decide +kernel
theorem dPT_80 : decode cPT 80 = .ok (.i2b, 1) := by decide +kernel
theorem dPT_81 : decode cPT 81 = .ok (.bastore, 1) := by decide +kernel
theorem dPT_82 : decode cPT 82 = .ok (.aload_n 0, 1) := by decide +kernel
theorem dPT_83 : decode cPT 83 = .ok (.iload_n 1, 1) := by decide +kernel
theorem dPT_84 : decode cPT 84 = .ok (.iconst 2, 1) := by decide +kernel
theorem dPT_85 : decode cPT 85 = .ok (.iadd, 1) := by decide +kernel
theorem dPT_86 : decode cPT 86 = .ok (.sipush 128, 3) := by decide +kernel
theorem dPT_89 : decode cPT 89 = .ok (.iload_n 2, 1) := by decide +kernel
theorem dPT_90 : decode cPT 90 = .ok (.bipush 63, 2) := by decide +kernel
theorem dPT_92 : decode cPT 92 = .ok (.iand, 1) := by decide +kernel
theorem dPT_93 : decode cPT 93 = .ok (.ior, 1) := by decide +kernel
theorem dPT_94 : decode cPT 94 = .ok (.i2b, 1) := by decide +kernel
theorem dPT_95 : decode cPT 95 = .ok (.bastore, 1) := by decide +kernel
theorem dPT_96 : decode cPT 96 = .ok (.iload_n 1, 1) := by decide +kernel
theorem dPT_97 : decode cPT 97 = .ok (.iconst 3, 1) := by decide +kernel
theorem dPT_98 : decode cPT 98 = .ok (.iadd, 1) := by decide +kernel
theorem dPT_99 : decode cPT 99 = .ok (.ireturn, 1) := by decide +kernel
abbrev cSM := method_5_code
theorem dSM_0 : decode cSM 0 = .ok (.iload_n 3, 1) := by decide +kernel
theorem dSM_1 : decode cSM 1 = .ok (.iload_n 2, 1) := by decide +kernel
theorem dSM_2 : decode cSM 2 = .ok (.if_icmp .ge 12, 3) := by decide +kernel
theorem dSM_5 : decode cSM 5 = .ok (.aload_n 0, 1) := by decide +kernel
theorem dSM_6 : decode cSM 6 = .ok (.iload_n 3, 1) := by decide +kernel
theorem dSM_7 : decode cSM 7 = .ok (.baload, 1) := by decide +kernel
theorem dSM_8 : decode cSM 8 = .ok (.aload_n 1, 1) := by decide +kernel
theorem dSM_9 : decode cSM 9 = .ok (.iload_n 3, 1) := by decide +kernel
theorem dSM_10 : decode cSM 10 = .ok (.baload, 1) := by decide +kernel
theorem dSM_11 : decode cSM 11 = .ok (.if_icmp .ne 7, 3) := by decide +kernel
theorem dSM_14 : decode cSM 14 = .ok (.iconst 1, 1) := by decide +kernel
theorem dSM_15 : decode cSM 15 = .ok (.goto 4, 3) := by decide +kernel
theorem dSM_19 : decode cSM 19 = .ok (.ireturn, 1) := by decide +kernel
abbrev cEQ := method_6_code
theorem dEQ_0 : decode cEQ 0 = .ok (.aload_n 0, 1) := by decide +kernel
theorem dEQ_1 : decode cEQ 1 = .ok (.aload_n 1, 1) := by decide +kernel
theorem dEQ_2 : decode cEQ 2 = .ok (.iload_n 2, 1) := by decide +kernel
theorem dEQ_3 : decode cEQ 3 = .ok (.iload_n 3, 1) := by decide +kernel
theorem dEQ_4 : decode cEQ 4 = .ok (.invokestatic 35, 3) := by decide +kernel
theorem own_pd38 : parseMethodDescriptor "([B[BII)Z" = some ⟨[(.array .byte), (.array .byte), .int, .int], some .boolean⟩ := by decide +kernel
theorem dEQ_7 : decode cEQ 7 = .ok (.ifCond .eq 119, 3) := by decide +kernel
theorem dEQ_10 : decode cEQ 10 = .ok (.aload_n 0, 1) := by decide +kernel
theorem dEQ_11 : decode cEQ 11 = .ok (.aload_n 1, 1) := by decide +kernel
theorem dEQ_12 : decode cEQ 12 = .ok (.iload_n 2, 1) := by decide +kernel
theorem dEQ_13 : decode cEQ 13 = .ok (.iload_n 3, 1) := by decide +kernel
theorem dEQ_14 : decode cEQ 14 = .ok (.iconst 1, 1) := by decide +kernel
theorem dEQ_15 : decode cEQ 15 = .ok (.iadd, 1) := by decide +kernel
theorem dEQ_16 : decode cEQ 16 = .ok (.invokestatic 35, 3) := by decide +kernel
theorem dEQ_19 : decode cEQ 19 = .ok (.ifCond .eq 107, 3) := by decide +kernel
theorem dEQ_22 : decode cEQ 22 = .ok (.aload_n 0, 1) := by decide +kernel
theorem dEQ_23 : decode cEQ 23 = .ok (.aload_n 1, 1) := by decide +kernel
theorem dEQ_24 : decode cEQ 24 = .ok (.iload_n 2, 1) := by decide +kernel
theorem dEQ_25 : decode cEQ 25 = .ok (.iload_n 3, 1) := by decide +kernel
theorem dEQ_26 : decode cEQ 26 = .ok (.iconst 2, 1) := by decide +kernel
theorem dEQ_27 : decode cEQ 27 = .ok (.iadd, 1) := by decide +kernel
theorem dEQ_28 : decode cEQ 28 = .ok (.invokestatic 35, 3) := by decide +kernel
theorem dEQ_31 : decode cEQ 31 = .ok (.ifCond .eq 95, 3) := by decide +kernel
theorem dEQ_34 : decode cEQ 34 = .ok (.aload_n 0, 1) := by decide +kernel
theorem dEQ_35 : decode cEQ 35 = .ok (.aload_n 1, 1) := by decide +kernel
theorem dEQ_36 : decode cEQ 36 = .ok (.iload_n 2, 1) := by decide +kernel
theorem dEQ_37 : decode cEQ 37 = .ok (.iload_n 3, 1) := by decide +kernel
theorem dEQ_38 : decode cEQ 38 = .ok (.iconst 3, 1) := by decide +kernel
theorem dEQ_39 : decode cEQ 39 = .ok (.iadd, 1) := by decide +kernel
theorem dEQ_40 : decode cEQ 40 = .ok (.invokestatic 35, 3) := by decide +kernel
theorem dEQ_43 : decode cEQ 43 = .ok (.ifCond .eq 83, 3) := by decide +kernel
theorem dEQ_46 : decode cEQ 46 = .ok (.aload_n 0, 1) := by decide +kernel
theorem dEQ_47 : decode cEQ 47 = .ok (.aload_n 1, 1) := by decide +kernel
theorem dEQ_48 : decode cEQ 48 = .ok (.iload_n 2, 1) := by decide +kernel
theorem dEQ_49 : decode cEQ 49 = .ok (.iload_n 3, 1) := by decide +kernel
theorem dEQ_50 : decode cEQ 50 = .ok (.iconst 4, 1) := by decide +kernel
theorem dEQ_51 : decode cEQ 51 = .ok (.iadd, 1) := by decide +kernel
theorem dEQ_52 : decode cEQ 52 = .ok (.invokestatic 35, 3) := by decide +kernel
theorem dEQ_55 : decode cEQ 55 = .ok (.ifCond .eq 71, 3) := by decide +kernel
theorem dEQ_58 : decode cEQ 58 = .ok (.aload_n 0, 1) := by decide +kernel
theorem dEQ_59 : decode cEQ 59 = .ok (.aload_n 1, 1) := by decide +kernel
theorem dEQ_60 : decode cEQ 60 = .ok (.iload_n 2, 1) := by decide +kernel
theorem dEQ_61 : decode cEQ 61 = .ok (.iload_n 3, 1) := by decide +kernel
theorem dEQ_62 : decode cEQ 62 = .ok (.iconst 5, 1) := by decide +kernel
theorem dEQ_63 : decode cEQ 63 = .ok (.iadd, 1) := by decide +kernel
theorem dEQ_64 : decode cEQ 64 = .ok (.invokestatic 35, 3) := by decide +kernel
theorem dEQ_67 : decode cEQ 67 = .ok (.ifCond .eq 59, 3) := by decide +kernel
theorem dEQ_70 : decode cEQ 70 = .ok (.aload_n 0, 1) := by decide +kernel
theorem dEQ_71 : decode cEQ 71 = .ok (.aload_n 1, 1) := by decide +kernel
theorem dEQ_72 : decode cEQ 72 = .ok (.iload_n 2, 1) := by decide +kernel
theorem dEQ_73 : decode cEQ 73 = .ok (.iload_n 3, 1) := by decide +kernel
theorem dEQ_74 : decode cEQ 74 = .ok (.bipush 6, 2) := by decide +kernel
theorem dEQ_76 : decode cEQ 76 = .ok (.iadd, 1) := by decide +kernel
theorem dEQ_77 : decode cEQ 77 = .ok (.invokestatic 35, 3) := by decide +kernel
theorem dEQ_80 : decode cEQ 80 = .ok (.ifCond .eq 46, 3) := by decide +kernel
theorem dEQ_83 : decode cEQ 83 = .ok (.aload_n 0, 1) := by decide +kernel
theorem dEQ_84 : decode cEQ 84 = .ok (.aload_n 1, 1) := by decide +kernel
theorem dEQ_85 : decode cEQ 85 = .ok (.iload_n 2, 1) := by decide +kernel
theorem dEQ_86 : decode cEQ 86 = .ok (.iload_n 3, 1) := by decide +kernel
theorem dEQ_87 : decode cEQ 87 = .ok (.bipush 7, 2) := by decide +kernel
theorem dEQ_89 : decode cEQ 89 = .ok (.iadd, 1) := by decide +kernel
theorem dEQ_90 : decode cEQ 90 = .ok (.invokestatic 35, 3) := by decide +kernel
theorem dEQ_93 : decode cEQ 93 = .ok (.ifCond .eq 33, 3) := by decide +kernel
theorem dEQ_96 : decode cEQ 96 = .ok (.aload_n 0, 1) := by decide +kernel
theorem dEQ_97 : decode cEQ 97 = .ok (.aload_n 1, 1) := by decide +kernel
theorem dEQ_98 : decode cEQ 98 = .ok (.iload_n 2, 1) := by decide +kernel
theorem dEQ_99 : decode cEQ 99 = .ok (.iload_n 3, 1) := by decide +kernel
theorem dEQ_100 : decode cEQ 100 = .ok (.bipush 8, 2) := by decide +kernel
theorem dEQ_102 : decode cEQ 102 = .ok (.iadd, 1) := by decide +kernel
theorem dEQ_103 : decode cEQ 103 = .ok (.invokestatic 35, 3) := by decide +kernel
theorem dEQ_106 : decode cEQ 106 = .ok (.ifCond .eq 20, 3) := by decide +kernel
theorem dEQ_109 : decode cEQ 109 = .ok (.aload_n 0, 1) := by decide +kernel
theorem dEQ_110 : decode cEQ 110 = .ok (.aload_n 1, 1) := by decide +kernel
theorem dEQ_111 : decode cEQ 111 = .ok (.iload_n 2, 1) := by decide +kernel
theorem dEQ_112 : decode cEQ 112 = .ok (.iload_n 3, 1) := by decide +kernel
theorem dEQ_113 : decode cEQ 113 = .ok (.bipush 9, 2) := by decide +kernel
theorem dEQ_115 : decode cEQ 115 = .ok (.iadd, 1) := by decide +kernel
theorem dEQ_116 : decode cEQ 116 = .ok (.invokestatic 35, 3) := by decide +kernel
theorem dEQ_119 : decode cEQ 119 = .ok (.ifCond .eq 7, 3) := by decide +kernel
theorem dEQ_122 : decode cEQ 122 = .ok (.iconst 1, 1) := by decide +kernel
theorem dEQ_123 : decode cEQ 123 = .ok (.goto 4, 3) := by decide +kernel
theorem dEQ_127 : decode cEQ 127 = .ok (.ireturn, 1) := by decide +kernel
theorem own_pd39 : parseMethodDescriptor "([C)V" = some ⟨[(.array .char)], none⟩ := by decide +kernel
theorem own_pd40 : parseMethodDescriptor "(Ljava/lang/String;)[B" = some ⟨[(.object "java/lang/String")], some (.array .byte)⟩ := by decide +kernel
def own_QE (Z : State) (x : Nat) (h0 : Heap) (n0 : Nat) (v : Option Value) (h : Heap) (L : List Loc) : Prop := v = none ∧ Fr n0 L ∧ Keep h0 h [x] ∧ ∃ (t : Nat) (kb : ClassId), t ≠ x ∧ Fld Z h x "java/lang/String" "value" "[B" (.ref t) ∧ Fld Z h x "java/lang/String" "coder" "B" (.int 0) ∧ Arv Z h t kb .byte (0 : Int32) [] (.int 0)
def Q_own_init4E (Z : State) (x b : Nat) (v0 c0 : Value) (h0 : Heap) (n0 : Nat) (v : Option Value) (_vm : Vm) (h : Heap) (L : List Loc) : Prop := own_QE Z x h0 n0 v h L
theorem ef_own_init4E (m : MethodId) (x0 : Nat) (x1 : Nat) : entryFrame m #[(.ref x0), (.ref x1), (.int 0), (.int 0), .null] 6 = mkF m 0 #[.val (.ref x0), .val (.ref x1), .val (.int 0), .val (.int 0), .val .null, .unset] [] := by first | (simp [entryFrame, mkF, argsToLocals, Value.category]; done) | rfl
theorem own_init4E (l : Launch) (Z : State) (a0 : Array Value) (hw : hWt a0 Z) (hEL : EW Z a0 consts_1) (ws : List Jvm.Cond) (x b : Nat) (v0 c0 : Value) (h0 : Heap) (n0 : Nat) (Z0 : n0 ≤ h0.size) (X00 : Old Z n0 h0) (Ex : Exa Z h0 x "java/lang/String") (Fv : Fld Z h0 x "java/lang/String" "value" "[B" v0) (Fc : Fld Z h0 x "java/lang/String" "coder" "B" c0) (gx : n0 ≤ x) (ltx : x < h0.size) :
    MetFree l mN0 (head1 (Jvm.Cond.code mN0 jdk_42_method_149_code 6 none :: ws) rm_1_2_4_12) (own_P Z consts_1 #[(.ref x), (.ref b), (.int 0), (.int 0), .null] h0 [x]) (fun _ _ _ _ _ => True) (own_E Z consts_1 (Q_own_init4E Z x b v0 c0 h0 n0) rm_1_2_4_12) := by
 refine MetFree.of_bodySF (plainFor_of_name own_pn0) hisR ?_
 intro p e s m args below meth c s₁ Bd hml0 hP hK
 obtain ⟨rfl, hZ, hh, hCH, hSafe⟩ := hP
 have hx := Bd.exec
 have hby := Bd.bytes
 have hml : c.maxLocals = 6 := hml0
 have hown : s.vm.findClass "java/lang/String" = some m.cls := findClass_of_methodNamed Bd.named
 have hnm := (name_of_methodNamed Bd.named Bd.method).1
 have X0 : Stand p l e rm_1_2_4_12 (s.setVm s.vm) m #[(.ref x), (.ref b), (.int 0), (.int 0), .null] below meth c s₁ [] 0 0 := Stand.of_body Bd
 have e0 : s₁.heap = h0 := by rw [← hh, Bd.state]; rfl
 have N0 := Fr.nil n0
 have K0 : Keep h0 h0 [x] := Keep.refl h0 [x]
 have S0 : s.Since s.vm 0 := own_since s
 have C0 : CHr Z consts_1 s.vm h0 s.vm h0 := CHr.refl hCH
 refine show own_G p e below (own_E Z consts_1 (Q_own_init4E Z x b v0 c0 h0 n0) rm_1_2_4_12 #[(.ref x), (.ref b), (.int 0), (.int 0), .null] s) _ from ?_
 refine own_st (fun tq kq => castTop (ef_own_init4E m (x) (b)) kq) ?_
 show own_G p e below _ (s₁.setTop (mkF m 0 #[vR x, vR b, vI 0, vI 0, .val .null, .unset] []))
 have hws0 : ∀ y ∈ [x], n0 ≤ y := allS gx all0
 refine s_aloadN X0 hx (hb hby dS4_0) rfl rfl ?_
 obtain ⟨T1, X1, e1, st1⟩ := initO X0 hx hZ hown (wd20 hw) (wd21 hw) (wd22 hw) e0 (g := (mkF m 1 #[vR x, vR b, vI 0, vI 0, .val .null, .unset] [(.ref x)])) rfl (by rw [hml]; rfl) rfl (hb hby dS4_1) (by decide) (W := 0) (Nat.le_of_eq rfl) (by decide)
 refine own_st st1 ?_
 refine s_iloadN X1 hx (hb hby dS4_4) rfl ?_
 show own_G p e below _ (T1.setTop (mkF m 5 #[vR x, vR b, vI 0, vI 0, .val .null, .unset] [(.int 0)]))
 refine own_st (fun tq kq => XS.ifNo X1.here hx rfl (hb hby dS4_5) rfl ((if0 _ _).trans (teq (by decide : ((0 : Int32) = (0 : Int32)))).2) kq) ?_
 refine s_aloadN X1 hx (hb hby dS4_8) rfl rfl ?_
 obtain ⟨a2, T2, h2, k2, b2, kb2, X2, e2, E2, S2, hk2, Z2, o2, Ex2, Fc2, Fv2, Av2, la2, lb2, c2, L2, ne2, st2⟩ := ldcCH (s := s) (vm0 := s.vm) X1 hx hZ hown (wd212 hw) (own_wS hw) e1 S0 (own_le (by omega)) hEL (by simp [consts_1]) C0.1 (vs := []) (z := (0 : Int32)) ⟨by decide, by decide⟩ (by decide) (by decide) (g := (mkF m 9 #[vR x, vR b, vI 0, vI 0, .val .null, .unset] [(.ref x)])) rfl (hb hby dS4_9) (n := 0) (by decide) (by decide) (by decide) (by decide)
 have la2 := own_lt la2
 have lb2 := own_lt lb2
 have sz2 : h0.size ≤ h2.size := E2.1
 have K2 : Keep h0 h2 [x] := K0.ext E2
 have C2 := C0.trans c2
 have Sf2_3 := c2.safe (own_lt (by omega)) (hSafe _ (List.mem_of_getElem? (i := 0) rfl))
 obtain ⟨nx4, ny4⟩ := ne2 _ Sf2_3
 have nx4 := own_ne nx4
 have ny4 := own_ne ny4
 refine own_st st2 ?_
 obtain ⟨T5, X5, e5, st5⟩ := getF X2 hx Z2 o2 (host := "") (Or.inl (wd36 hw)) Via.refl e2 Fv2 (g := (mkF m 11 #[vR x, vR b, vI 0, vI 0, .val .null, .unset] [(.ref a2), (.ref x)])) rfl rfl (hb hby dS4_11)
 refine own_st st5 ?_
 obtain ⟨T6, h6, X6, e6, W6, st6⟩ := putF X5 hx Z2 o2 (host := "") (Or.inl (wd36 hw)) Via.refl e5 (Fv.ext E2) (Ex.ext E2) (Or.inr ⟨(wd37 hw), rfl, hnm⟩) (wd11 hw) (ty := (.array .byte)) (by decide) rfl rfl (g := (mkF m 14 #[vR x, vR b, vI 0, vI 0, .val .null, .unset] [(.ref b2), (.ref x)])) rfl rfl (hb hby dS4_14)
 have Fw6 := (Fv.ext E2).same W6
 have sz6 : h2.size ≤ h6.size := (Keep.of_wr W6).1
 have K6 : Keep h0 h6 [x] := K2.wr W6 (Or.inl (by simp))
 have c6 : CHr Z consts_1 T2.vm h2 T2.vm h6 := CHr.wr W6 Sf2_3 C2.1
 have C6 := C2.trans c6
 have Sf6_7 := c6.safe (own_lt (by omega)) Sf2_3
 have N6 := Fr.snoc X6 N0 (own_le (by omega))
 refine own_st st6 ?_
 refine s_aloadN X6 hx (hb hby dS4_17) rfl rfl ?_
 refine own_st (fun tq kq => ldcAgain (s := s) (vm0 := T2.vm) X6 hx Z2 o2 (wd212 hw) L2 (g := (mkF m 18 #[vR x, vR b, vI 0, vI 0, .val .null, .unset] [(.ref x)])) rfl (hb hby dS4_18) _ kq) ?_
 obtain ⟨T8, X8, e8, st8⟩ := getF X6 hx Z2 o2 (host := "") (Or.inl (wd34 hw)) Via.refl e6 (Fc2.other W6 (Or.inl (own_ne (by omega)))) (g := (mkF m 20 #[vR x, vR b, vI 0, vI 0, .val .null, .unset] [(.ref a2), (.ref x)])) rfl rfl (hb hby dS4_20)
 refine own_st st8 ?_
 obtain ⟨T9, h9, X9, e9, W9, st9⟩ := putF X8 hx Z2 o2 (host := "") (Or.inl (wd34 hw)) Via.refl e8 ((Fc.ext E2).other W6 (Or.inr (slot_ne (Or.inr (wd35 hw)) (Or.inr (wd37 hw)) (by decide) (t := .byte) (t' := (.array .byte)) (by decide) (by decide)))) ((Ex.ext E2).wr W6) (Or.inr ⟨(wd35 hw), rfl, hnm⟩) (wd11 hw) (ty := .byte) (by decide) rfl rfl (g := (mkF m 23 #[vR x, vR b, vI 0, vI 0, .val .null, .unset] [(.int 0), (.ref x)])) rfl rfl (hb hby dS4_23)
 have Fw9 := ((Fc.ext E2).other W6 (Or.inr (slot_ne (Or.inr (wd35 hw)) (Or.inr (wd37 hw)) (by decide) (t := .byte) (t' := (.array .byte)) (by decide) (by decide)))).same W9
 have sz9 : h6.size ≤ h9.size := (Keep.of_wr W9).1
 have K9 : Keep h0 h9 [x] := K6.wr W9 (Or.inl (by simp))
 have c9 : CHr Z consts_1 T2.vm h6 T2.vm h9 := CHr.wr W9 Sf6_7 C6.1
 have C9 := C6.trans c9
 have Sf9_10 := c9.safe (own_lt (by omega)) Sf6_7
 have N9 := Fr.snoc X9 N6 (own_le (by omega))
 refine own_st st9 ?_
 obtain ⟨fs, hr, hrun, hended, hRW⟩ := X9.leaveW S2 (by rw [e9]; exact (own_le (by omega))) (v := none) (fun _ => rfl)
 have cE := C9.trans (CHv.at (s := s) (vm0 := T2.vm) X9 Z2 hEL C9.1)
 refine ⟨_, _, X9.returnOut hx Bd.returns (hb hby dS4_26) hr, hrun, hended, _, _, rfl, ?_, ?_, own_RW hRW (by decide) (by decide)⟩
 · change Q_own_init4E Z x b v0 c0 h0 n0 _ T9.vm T9.heap _; rw [e9]; exact ⟨rfl, N9, K9, b2, _, (by omega), (Fw6.other W9 (Or.inr (slot_ne (Or.inr (wd37 hw)) (Or.inr (wd35 hw)) (by decide) (t := (.array .byte)) (t' := .byte) (by decide) (by decide)))), Fw9, ((Av2.other W6 (own_ne (by omega))).other W9 (own_ne (by omega)))⟩
 · rw [hh]; change CHr Z consts_1 s.vm h0 T9.vm T9.heap; rw [e9]; exact cE

def Q_own_init1E (Z : State) (x b : Nat) (v0 c0 dv : Value) (kC : ClassId) (h0 : Heap) (n0 : Nat) (v : Option Value) (_vm : Vm) (h : Heap) (L : List Loc) : Prop := own_QE Z x h0 n0 v h L
theorem ef_own_init1E (m : MethodId) (x0 : Nat) (x1 : Nat) : entryFrame m #[(.ref x0), (.ref x1)] 2 = mkF m 0 #[.val (.ref x0), .val (.ref x1)] [] := by first | (simp [entryFrame, mkF, argsToLocals, Value.category]; done) | rfl
theorem own_init1E (l : Launch) (Z : State) (a0 : Array Value) (hw : hWt a0 Z) (hEL : EW Z a0 consts_1) (ws : List Jvm.Cond) (x b : Nat) (v0 c0 dv : Value) (kC : ClassId) (h0 : Heap) (n0 : Nat) (Z0 : n0 ≤ h0.size) (X00 : Old Z n0 h0) (Ex : Exa Z h0 x "java/lang/String") (Fv : Fld Z h0 x "java/lang/String" "value" "[B" v0) (Fc : Fld Z h0 x "java/lang/String" "coder" "B" c0) (gx : n0 ≤ x) (ltx : x < h0.size) (Vb : Arv Z h0 b kC .char (0 : Int32) [] dv) :
    MetFree l mN1 (head1 (Jvm.Cond.code mN1 jdk_42_method_3_code 2 none :: ws) rm_2_2_4_29) (own_P Z consts_1 #[(.ref x), (.ref b)] h0 [x]) (fun _ _ _ _ _ => True) (own_E Z consts_1 (Q_own_init1E Z x b v0 c0 dv kC h0 n0) rm_2_2_4_29) := by
 refine MetFree.of_bodySF (plainFor_of_name own_pn0) hisR ?_
 intro p e s m args below meth c s₁ Bd hml0 hP hK
 obtain ⟨rfl, hZ, hh, hCH, hSafe⟩ := hP
 have hx := Bd.exec
 have hby := Bd.bytes
 have hml : c.maxLocals = 2 := hml0
 have hown : s.vm.findClass "java/lang/String" = some m.cls := findClass_of_methodNamed Bd.named
 have hnm := (name_of_methodNamed Bd.named Bd.method).1
 have X0 : Stand p l e rm_2_2_4_29 (s.setVm s.vm) m #[(.ref x), (.ref b)] below meth c s₁ [] 0 0 := Stand.of_body Bd
 have e0 : s₁.heap = h0 := by rw [← hh, Bd.state]; rfl
 have N0 := Fr.nil n0
 have K0 : Keep h0 h0 [x] := Keep.refl h0 [x]
 have S0 : s.Since s.vm 0 := own_since s
 have C0 : CHr Z consts_1 s.vm h0 s.vm h0 := CHr.refl hCH
 refine show own_G p e below (own_E Z consts_1 (Q_own_init1E Z x b v0 c0 dv kC h0 n0) rm_2_2_4_29 #[(.ref x), (.ref b)] s) _ from ?_
 refine own_st (fun tq kq => castTop (ef_own_init1E m (x) (b)) kq) ?_
 show own_G p e below _ (s₁.setTop (mkF m 0 #[vR x, vR b] []))
 have hws0 : ∀ y ∈ [x], n0 ≤ y := allS gx all0
 refine s_aloadN X0 hx (hb hby dS1_0) rfl rfl ?_
 refine s_aloadN X0 hx (hb hby dS1_1) rfl rfl ?_
 refine s_iconst X0 hx (hb hby dS1_2) ?_
 refine s_aloadN X0 hx (hb hby dS1_3) rfl rfl ?_
 obtain ⟨cl1, Ar1, q1, S_1, N_1, H_1, G_1⟩ := id Vb
 refine own_st (fun tq kq => X0.arraylength hx (by rw [e0]; exact Ar1.1) (State.isArrayOf_alike hZ.alike Ar1.2.1) (g := (mkF m 4 #[vR x, vR b] [(.ref b), (.int 0), (.ref b), (.ref x)])) rfl rfl (hb hby dS1_4) _ kq) ?_
 rw [len_of S_1 N_1]
 show own_G p e below _ (s₁.setTop (mkF m 5 #[vR x, vR b] [(.int 0), (.int 0), (.ref b), (.ref x)]))
 refine own_st (fun tq kq => XS.aconstNull X0.here hx rfl (hb hby dS1_5) kq) ?_
 obtain ⟨_, _, ⟨T2, L2, k2, n2⟩, -, Y2, S2p, gr2, ⟨Lc2, hQ2, l2, y2, z2, c2⟩, st2⟩ := X0.specialBackS hx (y := mN0) rfl hown (mvT hZ (wd16 hw)) (mvT hZ (wd17 hw)) (mvT hZ (wd19 hw)) (by decide) (own_back (s := s) (vm0 := s.vm) (W := 0) (own_init4E l Z a0 hw hEL [] (x) (b) (v0) (c0) h0 n0 (by omega) (X00.keep K0 hws0) Ex Fv Fc gx ltx) hZ (wd19 hw) (wd12 hw) (by decide) (by decide) hEL C0.1 (allS ⟨own_lt (by omega), (hSafe _ (List.mem_of_getElem? (i := 0) rfl))⟩ all0)) (g := (mkF m 6 #[vR x, vR b] [.null, (.int 0), (.int 0), (.ref b), (.ref x)])) rfl (by rw [hml]; rfl) (Steps.refl _) (a := x) (argsL := [(.ref b), (.int 0), (.int 0), .null]) (rest := []) (lenOf own_pd0 rfl) rfl (Nat.le_of_eq rfl) (hb hby dS1_6) (fun _ _ => ⟨rfl, e0, (by decide : 0 + 2 ≤ _), (by decide : 0 + 4 ≤ _)⟩)
 dsimp only [Pt.U, Pt.locs, Pt.cells, Pt.slots] at Y2 S2p gr2 l2 y2 z2 st2 hQ2 c2
 subst l2 y2 z2
 obtain ⟨X2, S2, Z2, o2⟩ := rebS S0 (by rw [e0]; exact (own_le (by omega))) Y2 S2p gr2 hZ hown
 obtain ⟨rfl, Nq2, Kq2, R2⟩ := hQ2
 have KK2 : Keep h0 T2.heap [x] := Kq2
 have sz2 : h0.size ≤ T2.heap.size := KK2.1
 have K2 : Keep h0 T2.heap [x] := K0.trans KK2 (allS (Or.inl (by simp)) all0)
 have C2 := C0.trans c2
 have Sf2_3 := c2.safe (own_lt (by omega)) (hSafe _ (List.mem_of_getElem? (i := 0) rfl))
 have N2 := Fr.app N0 Nq2
 refine own_st (fun tq kq => st2.trans kq) ?_
 obtain ⟨fs, hr, hrun, hended, hRW⟩ := X2.leaveW S2 (own_le (by omega)) (v := none) (fun _ => rfl)
 have cE := C2.trans (CHv.at (s := s) (vm0 := T2.vm) X2 Z2 hEL C2.1)
 refine ⟨_, _, X2.returnOut hx Bd.returns (hb hby dS1_9) hr, hrun, hended, _, _, rfl, ?_, ?_, own_RW hRW (by decide) (by decide)⟩
 · change Q_own_init1E Z x b v0 c0 dv kC h0 n0 _ T2.vm T2.heap _; exact ⟨rfl, N2, K2, R2⟩
 · rw [hh]; change CHr Z consts_1 s.vm h0 T2.vm T2.heap; exact cE

/-- what new String(char[]) leaves, of any length -/
def own_QS (Z : State) (x : Nat) (cs : List Int32) (h0 : Heap) (n0 : Nat) (v : Option Value) (h : Heap) (L : List Loc) : Prop := v = none ∧ Fr n0 L ∧ Keep h0 h [x] ∧ own_Str Z h.size h x cs
set_option maxRecDepth 65536 in
set_option maxHeartbeats 40000000 in
/-- new String(char[]) at a call: no char, or up to 4,000 chars from 0 to 255 -/
theorem own_newStr {p : Program} {l : Launch} {e : Env} {R : Room} {s : State} {args : Array Value} {below : List Frame} {len W : Nat} {Z : State} {a0 : Array Value} {h : Heap} {vm0 : Vm} (hZ : Z.Warmed39 vm0) (hw : ∀ d ∈ tables_1, d.before a0 Z = true) (hEL : EW Z a0 consts_1) (H : CHv Z consts_1 vm0 h)
    {x b : Nat} {kC : ClassId} {cs : List Int32} {d v0 c0 : Value} {z N : Int32} {n n0 : Nat} (hs : Safe Z consts_1 vm0 h x) (hx0 : n0 ≤ x) (X00 : Old Z n0 h) (E : Exa Z h x "java/lang/String") (V : Fld Z h x "java/lang/String" "value" "[B" v0) (C : Fld Z h x "java/lang/String" "coder" "B" c0) (K : Arv Z h b kC .char N (cs.map Value.int) d) (S : Sta Z Z.heap "java/lang/String" "COMPACT_STRINGS" "Z" (.int z)) (hz : ¬ z = 0)
    (hn : cs.length = n) (hN : N = Int32.ofNat n) (l2 : n ≤ 4000) (hp : ∀ c ∈ cs, ¬ c < 0 ∧ ¬ (255 : Int32) < c) (hfr : 4 ≤ R.frames) (hlo : W + 65 ≤ R.locals) :
    BackS l R p e below (s.setVm vm0) args (⟨"java/lang/String", "<init>", "([C)V"⟩ : MethodName) len W (fun P a => a = #[.ref x, .ref b] ∧ P.U.heap = h ∧ P.cells + 2 ≤ R.cells ∧ P.slots + (n + 4) ≤ R.slots)
      (fun P _ v B => ∃ L, own_QS Z x cs h n0 v B.U.heap L ∧ B.locs = P.locs ++ L ∧ B.cells = P.cells + 2 ∧ B.slots = P.slots + (n + 4) ∧ CHr Z consts_1 vm0 h B.U.vm B.U.heap) := by
  have hh0 : n0 ≤ h.size := by have := X00.1; have := X00.2.1; omega
  rcases Nat.eq_zero_or_pos n with hn0 | hn0
  · subst hn0
    obtain rfl : cs = [] := List.length_eq_zero_iff.mp hn
    obtain rfl : N = (0 : Int32) := hN
    intro m meth c P g ig mk a X hg hsize hdg hW hnn hp'
    obtain ⟨v, B, Y, q1, q2, ⟨L, hQ, e1, e2, e3, hc⟩, st⟩ := own_back (rm := rm_2_2_4_29) (R := R) (W := W) (s := s) (vm0 := vm0) (own_init1E l Z a0 hw hEL [] x b v0 c0 d kC h n0 hh0 X00 E V C hx0 E.lt K) hZ (wd15 hw) (wd12 hw) (by show 2 + 1 ≤ _; omega) (by show W + (2 + 11) + 29 ≤ _; omega) hEL H (allS ⟨E.lt, hs⟩ all0) m meth c P g ig mk a X hg hsize hdg hW hnn ⟨hp'.1, hp'.2.1, hp'.2.2.1, hp'.2.2.2⟩
    obtain ⟨r1, r2, r3, t, kb, r4, r5, r6, r7⟩ := hQ
    exact ⟨v, B, Y, q1, q2, ⟨L, ⟨r1, r2, r3, r5.lt, E.keep r3, hp, by decide, t, kb, r7.lt, r5, r6, r7⟩, e1, e2, e3, hc⟩, st⟩
  · have hws : ∀ d ∈ StrChars.Road.words, d.before a0 Z = true := fun d hd => hw d ((by decide +kernel : ∀ d ∈ StrChars.Road.words, d ∈ tables_1) d hd)
    intro m meth c P g ig mk a X hg hsize hdg hW hnn hp'
    obtain ⟨v, B, Y, ⟨L, hQ, e1, e2, e3⟩, st⟩ := StrChars.Road.backV (R := R) (W := W) (s := s.setVm vm0) hZ hws (kI := 4) (wd11 hw) (cs := cs) (bs := cs.map (fun c => c.toInt8.toInt32)) (n := n) hx0 hh0 E V C K (S.ext X00.2) hz hn hN hn0 l2 hp rfl hfr hlo m meth c P g ig mk a X hg hsize hdg hW hnn ⟨hp'.1, hp'.2.1, Nat.le_trans (by omega) hp'.2.2.1, Nat.le_trans (by omega) hp'.2.2.2⟩
    obtain ⟨BU, BL, Bc, Bs⟩ := B
    dsimp only [Pt.U, Pt.locs, Pt.cells, Pt.slots] at Y hQ e1 e2 e3 st
    obtain ⟨r1, r2, r3, r4, r5, t, kb, u1, u2, u3, u4, u5⟩ := hQ
    have hCH : CHr Z consts_1 vm0 h vm0 BU.heap := CHr.keep r3 (allS hs all0) H
    have Y2 : Stand p l e R (s.setVm vm0) m args below meth c BU BL (P.cells + 2) (P.slots + (n + 4)) := Y.mono (by rw [e2]; exact Nat.add_le_add_left (by decide) _) (by rw [e3]; exact Nat.add_le_add_left (Nat.le_add_right _ _) _)
    refine ⟨v, ⟨BU, BL, P.cells + 2, P.slots + (n + 4)⟩, Y2.retabled Y2.warmed.wide, Y2.warmed.since _, ?_, ⟨L, ⟨r1, r2, r3, u4.lt, r4, hp, by omega, t, kb, u5.lt, u4, r5, ?_⟩, e1, rfl, rfl, hCH.trans (CHv.at (s := s) (vm0 := vm0) Y2 hZ hEL hCH.1)⟩, st⟩
    · show P.U.heap.size ≤ BU.heap.size
      rw [hp'.2.1]; exact r3.1
    · rw [hn, ← hN]; exact u5

theorem own_wLen {a0 : Array Value} {Z : State} (hw : ∀ d ∈ tables_1, d.before a0 Z = true) : ∀ d ∈ StrChars.Road.wordsLen, d.before a0 Z = true := fun d hd => hw d ((by decide +kernel : ∀ d ∈ StrChars.Road.wordsLen, d ∈ tables_1) d hd)

/-- a private method is selected from its own class too -/
theorem own_selP {Z : State} {a0 : Array Value} {C : String} {y : MethodName} (ws : (Cond.selects C y y).before a0 Z = true) (wp : (Cond.privateMethod y).before a0 Z = true) (wi : (Cond.instanceMethod y).before a0 Z = true) (hy : y.cls ≠ "java/lang/invoke/MethodHandle" ∧ y.cls ≠ "java/lang/invoke/VarHandle") : (Cond.selects y.cls y y).before a0 Z = true := by
  obtain ⟨c, r, m, h1, h2, h3, h4, k, h5, h6⟩ := Cond.selects_spec ws
  obtain ⟨mk, methM, g1, g2, -, -⟩ := Cond.instanceMethod_spec wi
  cases h3.symm.trans g1
  have f := State.methodFound?_of_named h3 hy
  have c0 := findClass_of_methodNamed h3
  have sm : selectMethod {} Z.vm m.cls m = .method m := selectMethod_private g2 (Cond.privateMethod_at wp m methM h3 g2)
  simp [Cond.before, Cond.holds, Cond.value, c0, f, h3, sm, h5, h6]
/-- the lookup of a method in the class that declares it, a class -/
theorem own_same {Z : State} {a0 : Array Value} {C : String} {y y' : MethodName} (ws : (Cond.selects C y' y').before a0 Z = true) (hc : y'.cls = y.cls) (wi : (Cond.instanceMethod y).before a0 Z = true) (hy : y.cls ≠ "java/lang/invoke/MethodHandle" ∧ y.cls ≠ "java/lang/invoke/VarHandle") : (Cond.sameMethod y.cls y.cls y.name y.desc).before a0 Z = true := by
  obtain ⟨c, r, m, h1, h2, h3, h4, k, h5, h6⟩ := Cond.selects_spec ws
  obtain ⟨mk, methM, g1, g2, -, -⟩ := Cond.instanceMethod_spec wi
  have f := State.methodFound?_of_named g1 hy
  have c0 := findClass_of_methodNamed g1
  have c1 := findClass_of_methodNamed h3
  rw [hc, c0] at c1
  have e : mk.cls = m.cls := Option.some.inj c1
  rw [← e] at h5
  have g1' : Z.methodNamed? ⟨y.cls, y.name, y.desc⟩ = some mk := g1
  simp [Cond.before, Cond.holds, Cond.value, c0, f, g1', h5, h6]
/-- a class into which a selection leads is no interface -/
theorem own_nf {s : State} {args : Array Value} {C : String} {y y' : MethodName} (ws : (Cond.selects C y' y').before args s = true) (hc : y'.cls = y.cls) : NotFace s y := fun r0 h0 => by
  obtain ⟨c, r, m, h1, h2, h3, h4, k, h5, h6⟩ := Cond.selects_spec ws
  have c0 := findClass_of_methodNamed h0
  have c1 := findClass_of_methodNamed h3
  rw [hc, c0] at c1
  have e : r0.cls = m.cls := Option.some.inj c1
  rw [← e] at h5
  exact ⟨k, h5, h6⟩
abbrev own_bt (cs : List Int32) : List Value := (cs.map fun c => c.toInt8.toInt32).map Value.int
theorem own_n32 {n : Nat} (h : n ≤ 4000) : (Int32.ofNat n).toNatClampNeg = n := Int32.toNatClampNeg_ofNat_of_lt (by omega)
theorem own_n32i {n : Nat} (h : n ≤ 4000) : (Int32.ofNat n).toInt = n := Int32.toInt_ofNat_of_lt (by omega)
theorem own_n0 {n : Nat} (h : n ≤ 4000) : ¬ Int32.ofNat n < (0 : Int32) := by
  rw [Int32.lt_iff_toInt_lt, own_n32i h]; have : (0 : Int32).toInt = 0 := rfl; omega
theorem own_nlt {n : Nat} (h : n < 16) : Int32.ofNat n < (16 : Int32) := by
  rw [Int32.lt_iff_toInt_lt, own_n32i (by omega)]; have : (16 : Int32).toInt = 16 := rfl; omega
theorem own_nne {n : Nat} (h : n < 16) : ¬ Int32.ofNat n = (16 : Int32) := fun q => by
  have := own_n32i (n := n) (by omega); rw [q] at this; have e : (16 : Int32).toInt = 16 := rfl; omega
theorem own_cap {a b : Nat} (h : a + b ≤ 16) : ¬ (0 : Int32) < (Int32.ofNat a + Int32.ofNat b) - (16 : Int32) := by
  rw [← Int32.ofNat_add]
  have t : ∀ k : Fin 17, ¬ (0 : Int32) < Int32.ofNat k.val - (16 : Int32) := by decide
  exact t ⟨a + b, by omega⟩
theorem own_shl0 (x : Int32) : x <<< ((0 : Int32) &&& 31) = x := by
  have e : ((0 : Int32) &&& 31) = 0 := rfl
  rw [e]; exact Int32.shiftLeft_zero
theorem own_shr0 (x : Int32) : x >>> ((0 : Int32) &&& 31) = x := by
  have e : ((0 : Int32) &&& 31) = 0 := rfl
  rw [e]; exact Int32.shiftRight_zero
theorem own_sub0 (x : Int32) : x - (0 : Int32) = x := Int32.sub_zero x
theorem own_hus0 {us : List Value} {d : Value} {n : Nat} (hn : us.length = n) (h : n ≤ 4000) : us = (List.range (Int32.ofNat n).toNatClampNeg).map fun i => us.getD ((0 : Int32).toNatClampNeg + i) d := by
  rw [own_n32 h, show (0 : Int32).toNatClampNeg = 0 from rfl]
  apply List.ext_getElem
  · simp [hn]
  · intro i h1 h2; simp [List.getD_eq_getElem?_getD, h1]
theorem own_hus1 {us r : List Value} {d : Value} {n : Nat} (hn : us.length = n) (h : n ≤ 4000) : us = (List.range (Int32.ofNat n).toNatClampNeg).map fun i => (us ++ r).getD ((0 : Int32).toNatClampNeg + i) d := by
  rw [own_n32 h, show (0 : Int32).toNatClampNeg = 0 from rfl]
  apply List.ext_getElem
  · simp [hn]
  · intro i h1 h2; simp [List.getD_eq_getElem?_getD, List.getElem?_append_left h1, h1]
theorem own_put {cs ds : List Int32} (h : cs.length + ds.length ≤ 16) : (own_bt cs ++ List.replicate (16 - cs.length) (Value.int 0)).take (Int32.ofNat cs.length).toNatClampNeg ++ own_bt ds ++ (own_bt cs ++ List.replicate (16 - cs.length) (Value.int 0)).drop ((Int32.ofNat cs.length).toNatClampNeg + (Int32.ofNat ds.length).toNatClampNeg) = own_bt (cs ++ ds) ++ List.replicate (16 - (cs ++ ds).length) (Value.int 0) := by
  rw [own_n32 (by omega), own_n32 (by omega)]
  have l : (own_bt cs).length = cs.length := by simp
  rw [List.take_append_of_le_length (by omega), List.take_of_length_le (by omega), List.drop_append, List.drop_of_length_le (by omega), l, List.drop_replicate]
  simp only [own_bt, List.map_append, List.length_append, List.nil_append, List.append_assoc]
  rw [show 16 - cs.length - (cs.length + ds.length - cs.length) = 16 - (cs.length + ds.length) by omega]
theorem own_cut {cs : List Int32} (h : cs.length ≤ 16) : (List.replicate cs.length (Value.int 0)).take (0 : Int32).toNatClampNeg ++ own_bt cs ++ (List.replicate cs.length (Value.int 0)).drop ((0 : Int32).toNatClampNeg + (Int32.ofNat cs.length).toNatClampNeg) = own_bt cs := by
  rw [own_n32 (by omega), show (0 : Int32).toNatClampNeg = 0 from rfl]
  simp
/-- the builder x over the array t of 16 bytes holds cs -/
def own_SB (Z : State) (h : Heap) (x t : Nat) (k : ClassId) (cs : List Int32) : Prop := Exa Z h x "java/lang/StringBuilder" ∧ Fld Z h x "java/lang/AbstractStringBuilder" "value" "[B" (.ref t) ∧ Fld Z h x "java/lang/AbstractStringBuilder" "coder" "B" (.int 0) ∧ Fld Z h x "java/lang/AbstractStringBuilder" "count" "I" (.int (Int32.ofNat cs.length)) ∧ Arv Z h t k .byte (16 : Int32) (own_bt cs ++ List.replicate (16 - cs.length) (Value.int 0)) (.int 0)
theorem own_SB.ext {Z : State} {h h' : Heap} {x t : Nat} {k : ClassId} {cs : List Int32} (F : own_SB Z h x t k cs) (E : Ext h h') : own_SB Z h' x t k cs := ⟨F.1.ext E, F.2.1.ext E, F.2.2.1.ext E, F.2.2.2.1.ext E, F.2.2.2.2.ext E⟩
theorem own_SB.keep {Z : State} {h h' : Heap} {x t : Nat} {k : ClassId} {cs : List Int32} {ws : List Addr} (F : own_SB Z h x t k cs) (K : Keep h h' ws) (q1 : x ∉ ws) (q2 : t ∉ ws) : own_SB Z h' x t k cs := ⟨F.1.keep K, F.2.1.keep K q1, F.2.2.1.keep K q1, F.2.2.2.1.keep K q1, F.2.2.2.2.keep K q2⟩


abbrev L8 (c : Int32) : Int32 := StrChars.lo8 c
abbrev H8 (c : Int32) : Int32 := StrChars.hi8 c
abbrev oA (Z : State) : Prop := Sta Z Z.heap "java/lang/StringUTF16" "$assertionsDisabled" "Z" (.int (1 : Int32))
abbrev oH (Z : State) : Prop := Sta Z Z.heap "java/lang/StringUTF16" "HI_BYTE_SHIFT" "I" (.int (0 : Int32))
abbrev oL (Z : State) : Prop := Sta Z Z.heap "java/lang/StringUTF16" "LO_BYTE_SHIFT" "I" (.int (8 : Int32))
abbrev o4 (Z : State) (fm : Value) : Prop := Sta Z Z.heap "jdk/internal/util/Preconditions" "SIOOBE_FORMATTER" "Ljava/util/function/BiFunction;" fm
theorem own_i2cn (x : Int32) : nar .char (x.toUInt32.toUInt16.toUInt32.toInt32) = x.toUInt32.toUInt16.toUInt32.toInt32 := by simp only [nar, UInt32.toUInt32_toInt32, UInt16.toUInt16_toUInt32]
theorem own_pairN (u v : Int32) : nar .char (StrChars.pairCh u v) = StrChars.pairCh u v := own_i2cn _
theorem own_pb0 (c : Int32) : nar .byte ((c >>> ((0 : Int32) &&& 31)).toInt8.toInt32) = StrChars.lo8 c := by
  rw [StrChars.shr0]; unfold StrChars.lo8; simp [nar]
theorem own_pb8 (c : Int32) : nar .byte ((c >>> ((8 : Int32) &&& 31)).toInt8.toInt32) = StrChars.hi8 c := by
  unfold StrChars.hi8 StrChars.lo8; simp [nar]
/-- a String of known chars of any kind; a, and its byte[], lie below n -/
def own_StrU (Z : State) (n : Nat) (h : Heap) (a : Nat) (cs : List Int32) : Prop := a < n ∧ Exa Z h a "java/lang/String" ∧ (∀ c ∈ cs, ¬ c < 0 ∧ ¬ (65535 : Int32) < c) ∧ cs.length ≤ 4000 ∧ ∃ (t : Nat) (kb : ClassId) (cd N2 : Int32) (vs : List Value), t < n ∧ Fld Z h a "java/lang/String" "value" "[B" (.ref t) ∧ Fld Z h a "java/lang/String" "coder" "B" (.int cd) ∧ Arv Z h t kb .byte N2 vs (.int 0) ∧ StrChars.Road.CodA cs cd N2 vs
theorem own_StrU.keep {Z : State} {n : Nat} {h h' : Heap} {a : Nat} {cs : List Int32} {ws : List Addr} (F : own_StrU Z n h a cs) (K : Keep h h' ws) (q : ∀ x ∈ ws, n ≤ x) : own_StrU Z n h' a cs := by
  obtain ⟨f1, f2, f3, f4, t, kb, cd, N2, vs, f5, f6, f7, f8, f9⟩ := F
  exact ⟨f1, f2.keep K, f3, f4, t, kb, cd, N2, vs, f5, f6.keep K (fun m => absurd f1 (Nat.not_lt.mpr (q _ m))), f7.keep K (fun m => absurd f1 (Nat.not_lt.mpr (q _ m))), f8.keep K (fun m => absurd f5 (Nat.not_lt.mpr (q _ m))), f9⟩
theorem own_StrU.mono {Z : State} {n n' : Nat} {h : Heap} {a : Nat} {cs : List Int32} (F : own_StrU Z n h a cs) (q : n ≤ n') : own_StrU Z n' h a cs := by
  obtain ⟨f1, f2, f3, f4, t, kb, cd, N2, vs, f5, f6⟩ := F
  exact ⟨Nat.lt_of_lt_of_le f1 q, f2, f3, f4, t, kb, cd, N2, vs, Nat.lt_of_lt_of_le f5 q, f6⟩
theorem own_up {cs : List Int32} (h : ∀ c ∈ cs, ¬ c < 0 ∧ ¬ (255 : Int32) < c) : ∀ c ∈ cs, ¬ c < 0 ∧ ¬ (65535 : Int32) < c := fun c hc => ⟨(h c hc).1, fun q => (h c hc).2 (by rw [Int32.lt_iff_toInt_lt] at q ⊢; have e1 : (65535 : Int32).toInt = 65535 := rfl; have e2 : (255 : Int32).toInt = 255 := rfl; omega)⟩
theorem own_Str.toU {Z : State} {n : Nat} {h : Heap} {a : Nat} {cs : List Int32} (F : own_Str Z n h a cs) : own_StrU Z n h a cs := by
  obtain ⟨f1, f2, f3, f4, t, kb, f5, f6, f7, f8⟩ := F
  exact ⟨f1, f2, own_up f3, f4, t, kb, 0, _, _, f5, f6, f7, f8, StrChars.Road.codOf rfl (fun c hc => (f3 c hc).2)⟩
def own_QU (Z : State) (x : Nat) (cs : List Int32) (h0 : Heap) (n0 : Nat) (v : Option Value) (h : Heap) (L : List Loc) : Prop := v = none ∧ Fr n0 L ∧ Keep h0 h [x] ∧ own_StrU Z h.size h x cs

abbrev own_wb : List Int32 → List Value := StrChars.Road.wideBytes
/-- Latin-1, room for 34 -/
abbrev own_la (cs : List Int32) : List Value := own_bt cs ++ List.replicate (34 - cs.length) (Value.int 0)
/-- UTF-16, room for 34 -/
abbrev own_wa (cs : List Int32) : List Value := own_wb cs ++ List.replicate (2 * 34 - 2 * cs.length) (Value.int 0)
theorem own_nbig {n : Nat} (h : n ≤ 4000) : Int32.ofNat n < (1073741823 : Int32) := by
  rw [Int32.lt_iff_toInt_lt, own_n32i h]; have : (1073741823 : Int32).toInt = 1073741823 := rfl; omega
theorem own_ilt {i n : Nat} (h : i < n) (hn : n ≤ 4000) : Int32.ofNat i < Int32.ofNat n := by
  rw [Int32.lt_iff_toInt_lt, own_n32i (by omega), own_n32i hn]; omega
theorem own_inlt {i n : Nat} (h : n ≤ i) (hn : i ≤ 4000) : ¬ Int32.ofNat i < Int32.ofNat n := by
  rw [Int32.lt_iff_toInt_lt, own_n32i (n := i) hn, own_n32i (n := n) (by omega)]; omega
theorem own_ofLt {i n : Nat} (h : Int32.ofNat i < Int32.ofNat n) (hi : i ≤ 4000) (hn : n ≤ 4000) : i < n := by
  rw [Int32.lt_iff_toInt_lt, own_n32i (n := i) hi, own_n32i (n := n) hn] at h; omega
theorem own_inc (i : Nat) : Int32.ofNat i + (1 : Int32) = Int32.ofNat (i + 1) := (Int32.ofNat_add i 1).symm
theorem own_zadd (x : Int32) : (0 : Int32) + x = x := Int32.zero_add x
theorem own_ofne {a b : Nat} (h : a ≠ b) (ha : a ≤ 4000) (hb : b ≤ 4000) : ¬ Int32.ofNat a = Int32.ofNat b := fun q => h (by have := congrArg Int32.toInt q; rw [own_n32i ha, own_n32i hb] at this; omega)
theorem own_ofinj {a b : Nat} (q : Int32.ofNat a = Int32.ofNat b) (ha : a ≤ 4000) (hb : b ≤ 4000) : a = b := by have := congrArg Int32.toInt q; rw [own_n32i ha, own_n32i hb] at this; omega
theorem own_shl1 {n : Nat} (h : n ≤ 100) : Int32.ofNat n <<< ((1 : Int32) &&& 31) = Int32.ofNat (2 * n) := by
  have t : ∀ k : Fin 101, Int32.ofNat k.val <<< ((1 : Int32) &&& 31) = Int32.ofNat (2 * k.val) := by decide
  exact t ⟨n, by omega⟩
theorem own_shr1 {n : Nat} (h : n ≤ 100) : Int32.ofNat (2 * n) >>> ((1 : Int32) &&& 31) = Int32.ofNat n := by
  have t : ∀ k : Fin 101, Int32.ofNat (2 * k.val) >>> ((1 : Int32) &&& 31) = Int32.ofNat k.val := by decide
  exact t ⟨n, by omega⟩
theorem own_mul3 (n : Nat) : Int32.ofNat n * (3 : Int32) = Int32.ofNat (n * 3) := (Int32.ofNat_mul n 3).symm
theorem own_cap34 {a b : Nat} (h : a + b ≤ 34) : ¬ (0 : Int32) < (Int32.ofNat a + Int32.ofNat b) - (34 : Int32) := by
  rw [← Int32.ofNat_add]
  have t : ∀ k : Fin 35, ¬ (0 : Int32) < Int32.ofNat k.val - (34 : Int32) := by decide
  exact t ⟨a + b, by omega⟩
theorem own_off {k m : Nat} (h : k + m ≤ 34) : ¬ (((34 : Int32) ||| Int32.ofNat k) ||| Int32.ofNat m) < (0 : Int32) ∧ ¬ ((34 : Int32) - Int32.ofNat k) < Int32.ofNat m := by
  have t : ∀ k : Fin 35, ∀ m : Fin 35, k.val + m.val ≤ 34 → ¬ (((34 : Int32) ||| Int32.ofNat k.val) ||| Int32.ofNat m.val) < (0 : Int32) ∧ ¬ ((34 : Int32) - Int32.ofNat k.val) < Int32.ofNat m.val := by decide +kernel
  exact t ⟨k, by omega⟩ ⟨m, by omega⟩ h
theorem own_wb_app : ∀ (a b : List Int32), own_wb (a ++ b) = own_wb a ++ own_wb b
  | [], _ => rfl
  | c :: a, b => by show _ :: _ :: own_wb (a ++ b) = _; rw [own_wb_app a b]; rfl
theorem own_wb_len : ∀ (a : List Int32), (own_wb a).length = 2 * a.length
  | [] => rfl
  | c :: a => by show (own_wb a).length + 1 + 1 = 2 * (a.length + 1); rw [own_wb_len a]; omega
theorem own_wa_len {cs : List Int32} (h : cs.length ≤ 34) : (own_wa cs).length = 68 := by rw [List.length_append, own_wb_len, List.length_replicate]; omega
/-- one more at the end of what is filled -/
theorem own_setapp {P : List Value} {v z : Value} {M n : Nat} (hn : P.length = n) (h : n < M) : (P ++ List.replicate (M - n) z).set n v = (P ++ [v]) ++ List.replicate (M - (n + 1)) z := by
  subst hn
  rw [List.set_append_right _ _ (Nat.le_refl _), Nat.sub_self, show M - P.length = (M - (P.length + 1)) + 1 by omega, List.replicate_succ]
  simp
theorem own_wput {cs : List Int32} {c : Int32} (h : cs.length + 1 ≤ 34) : ((own_wa cs).set (2 * cs.length) (.int (StrChars.lo8 c))).set (2 * cs.length + 1) (.int (StrChars.hi8 c)) = own_wa (cs ++ [c]) := by
  unfold own_wa
  rw [own_setapp (own_wb_len cs) (by omega), own_setapp (by simp [own_wb_len]) (by omega), own_wb_app]
  simp [StrChars.Road.wideBytes, Nat.mul_add]
theorem own_put34 {cs ds : List Int32} (h : cs.length + ds.length ≤ 34) : (own_la cs).take (Int32.ofNat cs.length).toNatClampNeg ++ own_bt ds ++ (own_la cs).drop ((Int32.ofNat cs.length).toNatClampNeg + (Int32.ofNat ds.length).toNatClampNeg) = own_la (cs ++ ds) := by
  rw [own_n32 (by omega), own_n32 (by omega)]
  have l : (own_bt cs).length = cs.length := by simp
  unfold own_la
  rw [List.take_append_of_le_length (by omega), List.take_of_length_le (by omega), List.drop_append, List.drop_of_length_le (by omega), l, List.drop_replicate]
  simp only [own_bt, List.map_append, List.length_append, List.nil_append, List.append_assoc]
  rw [show 34 - cs.length - (cs.length + ds.length - cs.length) = 34 - (cs.length + ds.length) by omega]
theorem own_putW {cs ds : List Int32} (h : cs.length + ds.length ≤ 34) : (own_wa cs).take (Int32.ofNat (2 * cs.length)).toNatClampNeg ++ own_wb ds ++ (own_wa cs).drop ((Int32.ofNat (2 * cs.length)).toNatClampNeg + (Int32.ofNat (2 * ds.length)).toNatClampNeg) = own_wa (cs ++ ds) := by
  rw [own_n32 (by omega), own_n32 (by omega)]
  have l : (own_wb cs).length = 2 * cs.length := own_wb_len cs
  unfold own_wa
  rw [List.take_append_of_le_length (by omega), List.take_of_length_le (by omega), List.drop_append, List.drop_of_length_le (by omega), l, List.drop_replicate, own_wb_app]
  simp only [List.length_append, List.nil_append, List.append_assoc]
  rw [show 2 * 34 - 2 * cs.length - (2 * cs.length + 2 * ds.length - 2 * cs.length) = 2 * 34 - 2 * (cs.length + ds.length) by omega]
theorem own_btAt {ds : List Int32} {rs : List Value} {i : Nat} (h : i < ds.length) : (own_bt ds ++ rs).getD i (.int 0) = .int ((ds.getD i 0).toInt8.toInt32) := by
  rw [List.getD_eq_getElem?_getD, List.getElem?_append_left (by simpa using h)]
  simp [List.getD_eq_getElem?_getD, h]
theorem own_btAt0 {ds : List Int32} {i : Nat} (h : i < ds.length) : (own_bt ds).getD i (.int 0) = .int ((ds.getD i 0).toInt8.toInt32) := by
  have := own_btAt (rs := []) h; rwa [List.append_nil] at this
theorem own_miAt {ds : List Int32} {rs : List Value} {i : Nat} (h : i < ds.length) : (ds.map Value.int ++ rs).getD i (.int 0) = .int (ds.getD i 0) := by
  rw [List.getD_eq_getElem?_getD, List.getElem?_append_left (by simpa using h)]
  simp [List.getD_eq_getElem?_getD, h]
theorem own_getok {p : Int32 → Prop} {cs : List Int32} {i : Nat} (hb : ∀ c ∈ cs, p c) (h : i < cs.length) : p (cs.getD i 0) := by
  have e : cs.getD i 0 = cs[i] := by simp [List.getD_eq_getElem?_getD, h]
  rw [e]; exact hb _ (List.getElem_mem _)
theorem own_take {ds : List Int32} {i : Nat} (h : i < ds.length) : ds.take (i + 1) = ds.take i ++ [ds.getD i 0] := by
  rw [List.take_succ_eq_append_getElem h]; simp [List.getD_eq_getElem?_getD, h]
def own_enc (c : Int32) : List Int32 := if c < (128 : Int32) then [c.toInt8.toInt32] else if c < (2048 : Int32) then [((192 : Int32) ||| (c >>> ((6 : Int32) &&& 31))).toInt8.toInt32, ((128 : Int32) ||| (c &&& (63 : Int32))).toInt8.toInt32] else [((224 : Int32) ||| (c >>> ((12 : Int32) &&& 31))).toInt8.toInt32, ((128 : Int32) ||| ((c >>> ((6 : Int32) &&& 31)) &&& (63 : Int32))).toInt8.toInt32, ((128 : Int32) ||| (c &&& (63 : Int32))).toInt8.toInt32]
def own_u8 (cs : List Int32) : List Int32 := cs.flatMap own_enc
theorem own_u8_app (a b : List Int32) : own_u8 (a ++ b) = own_u8 a ++ own_u8 b := List.flatMap_append
theorem own_u8s {cs : List Int32} {i : Nat} (h : i < cs.length) : own_u8 (cs.take (i + 1)) = own_u8 (cs.take i) ++ own_enc (cs.getD i 0) := by rw [own_take h, own_u8_app]; simp [own_u8]
theorem own_enc_len (c : Int32) : (own_enc c).length ≤ 3 ∧ 1 ≤ (own_enc c).length := by unfold own_enc; split; simp; split <;> simp
theorem own_u8_len : ∀ (cs : List Int32), (own_u8 cs).length ≤ 3 * cs.length
  | [] => by simp [own_u8]
  | c :: cs => by have := own_u8_len cs; have := (own_enc_len c).1; simp only [own_u8, List.flatMap_cons, List.length_append, List.length_cons] at *; omega
theorem own_enc1 {c : Int32} (h : c < (128 : Int32)) : own_enc c = [c.toInt8.toInt32] := by unfold own_enc; rw [if_pos h]
theorem own_enc2 {c : Int32} (h : ¬ c < (128 : Int32)) (h' : c < (2048 : Int32)) : own_enc c = [((192 : Int32) ||| (c >>> ((6 : Int32) &&& 31))).toInt8.toInt32, ((128 : Int32) ||| (c &&& (63 : Int32))).toInt8.toInt32] := by unfold own_enc; rw [if_neg h, if_pos h']
theorem own_enc3 {c : Int32} (h : ¬ c < (128 : Int32)) (h' : ¬ c < (2048 : Int32)) : own_enc c = [((224 : Int32) ||| (c >>> ((12 : Int32) &&& 31))).toInt8.toInt32, ((128 : Int32) ||| ((c >>> ((6 : Int32) &&& 31)) &&& (63 : Int32))).toInt8.toInt32, ((128 : Int32) ||| (c &&& (63 : Int32))).toInt8.toInt32] := by unfold own_enc; rw [if_neg h, if_neg h']
theorem own_lat {c : Int32} (h : ¬ c < 0 ∧ ¬ (255 : Int32) < c) : ∃ k : Fin 256, c = Int32.ofNat k.val := by
  obtain ⟨h1, h2⟩ := h
  rw [Int32.lt_iff_toInt_lt] at h1 h2
  have e0 : (0 : Int32).toInt = 0 := rfl
  have e1 : (255 : Int32).toInt = 255 := rfl
  refine ⟨⟨c.toInt.toNat, by omega⟩, ?_⟩
  apply Int32.toInt_inj.mp
  rw [own_n32i (by show c.toInt.toNat ≤ 4000; omega)]
  show c.toInt = ((c.toInt.toNat : Nat) : Int)
  omega
theorem own_lo255 {c : Int32} (h : ¬ c < 0 ∧ ¬ (255 : Int32) < c) : c.toInt8.toInt32 &&& (255 : Int32) = c := by
  obtain ⟨k, rfl⟩ := own_lat h
  revert k; decide +kernel
theorem own_encL1 {c : Int32} (h : ¬ c < 0 ∧ ¬ (255 : Int32) < c) (q : ¬ c.toInt8.toInt32 < (0 : Int32)) : own_enc c = [c.toInt8.toInt32] := by
  obtain ⟨k, rfl⟩ := own_lat h
  revert k; decide +kernel
theorem own_encL2 {c : Int32} (h : ¬ c < 0 ∧ ¬ (255 : Int32) < c) (q : c.toInt8.toInt32 < (0 : Int32)) : own_enc c = [((192 : Int32) ||| ((c.toInt8.toInt32 &&& (255 : Int32)) >>> ((6 : Int32) &&& 31))).toInt8.toInt32, ((128 : Int32) ||| (c.toInt8.toInt32 &&& (63 : Int32))).toInt8.toInt32] := by
  obtain ⟨k, rfl⟩ := own_lat h
  revert k; decide +kernel
theorem own_latU8 : ∀ (cs : List Int32), (∀ c ∈ cs, ¬ c < 0 ∧ ¬ (255 : Int32) < c) → (∀ c ∈ cs, ¬ c.toInt8.toInt32 < (0 : Int32)) → own_u8 cs = cs.map fun c => c.toInt8.toInt32
  | [], _, _ => rfl
  | c :: cs, h, q => by
    have r := own_latU8 cs (fun d hd => h d (List.mem_cons_of_mem _ hd)) (fun d hd => q d (List.mem_cons_of_mem _ hd))
    simp only [own_u8, List.flatMap_cons, List.map_cons] at r ⊢
    rw [r, own_encL1 (h c List.mem_cons_self) (q c List.mem_cons_self)]; rfl
theorem own_latLen : ∀ (cs : List Int32), (∀ c ∈ cs, ¬ c < 0 ∧ ¬ (255 : Int32) < c) → (own_u8 cs).length ≤ 2 * cs.length
  | [], _ => by simp [own_u8]
  | c :: cs, h => by
    have r := own_latLen cs (fun d hd => h d (List.mem_cons_of_mem _ hd))
    have q : (own_enc c).length ≤ 2 := by
      by_cases w : c.toInt8.toInt32 < (0 : Int32)
      · rw [own_encL2 (h c List.mem_cons_self) w]; simp
      · rw [own_encL1 (h c List.mem_cons_self) w]; simp
    simp only [own_u8, List.flatMap_cons, List.length_append, List.length_cons] at *; omega
/-- UTF-16, room for n -/
abbrev own_wm (n : Nat) (cs : List Int32) : List Value := own_wb cs ++ List.replicate (2 * n - 2 * cs.length) (Value.int 0)
theorem own_wm_len {n : Nat} {cs : List Int32} (h : cs.length ≤ n) : (own_wm n cs).length = 2 * n := by rw [List.length_append, own_wb_len, List.length_replicate]; omega
theorem own_wm_all {cs : List Int32} : own_wm cs.length cs = own_wb cs := by simp [own_wm]
theorem own_wputM {cs : List Int32} {c : Int32} {n : Nat} (h : cs.length + 1 ≤ n) : ((own_wm n cs).set (2 * cs.length) (.int (StrChars.lo8 c))).set (2 * cs.length + 1) (.int (StrChars.hi8 c)) = own_wm n (cs ++ [c]) := by
  unfold own_wm
  rw [own_setapp (own_wb_len cs) (by omega), own_setapp (by simp [own_wb_len]) (by omega), own_wb_app]
  simp [StrChars.Road.wideBytes, Nat.mul_add]
theorem own_miAtD {ds : List Int32} {i : Nat} {d : Value} (h : i < ds.length) : (ds.map Value.int).getD i d = .int (ds.getD i 0) := by
  simp [List.getD_eq_getElem?_getD, h]
theorem own_nohigh {us : List Int32} {i : Nat} (h : ∀ j, j < i → ¬ (255 : Int32) < us.getD j 0) (hi : us.length ≤ i) : ¬ ∃ c ∈ us, 255 < c := fun ⟨c, hc, q⟩ => by
  obtain ⟨j, hj, rfl⟩ := List.mem_iff_getElem.mp hc
  have e : us.getD j 0 = us[j] := by simp [List.getD_eq_getElem?_getD, hj]
  exact h j (by omega) (by rw [e]; exact q)
theorem own_lows {us : List Int32} {i : Nat} (h : ∀ j, j < i → ¬ (255 : Int32) < us.getD j 0) (q : ¬ (255 : Int32) < us.getD i 0) : ∀ j, j < i + 1 → ¬ (255 : Int32) < us.getD j 0 := fun j hj => by
  by_cases e : j = i
  · subst e; exact q
  · exact h j (by omega)
theorem own_hex1 {us : List Int32} (h : ∃ c ∈ us, 255 < c) : 1 ≤ us.length := by
  obtain ⟨c, hc, -⟩ := h
  exact List.length_pos_of_mem hc

theorem own_cfl1 {n : Nat} (h1 : 1 ≤ n) (hu : n ≤ 34) : nar .byte (((((Int32.ofNat n) - (Int32.ofNat (2 * n))).toUInt32 >>> ((31 : Int32) &&& 31).toUInt32).toInt32).toInt8.toInt32) = (1 : Int32) := by
  have t : ∀ k : Fin 35, 1 ≤ k.val → nar .byte (((((Int32.ofNat k.val) - (Int32.ofNat (2 * k.val))).toUInt32 >>> ((31 : Int32) &&& 31).toUInt32).toInt32).toInt8.toInt32) = (1 : Int32) := by decide +kernel
  exact t ⟨n, by omega⟩ h1
/-- the builder x over the array t -/
def own_SX (Z : State) (h : Heap) (x t : Nat) (k : ClassId) (cd N : Int32) (vs : List Value) (cn : Nat) : Prop := Exa Z h x "java/lang/StringBuilder" ∧ Fld Z h x "java/lang/AbstractStringBuilder" "value" "[B" (.ref t) ∧ Fld Z h x "java/lang/AbstractStringBuilder" "coder" "B" (.int cd) ∧ Fld Z h x "java/lang/AbstractStringBuilder" "count" "I" (.int (Int32.ofNat cn)) ∧ Fld Z h x "java/lang/AbstractStringBuilder" "maybeLatin1" "Z" (.int 0) ∧ Arv Z h t k .byte N vs (.int 0)
abbrev own_LB (Z : State) (h : Heap) (x t : Nat) (k : ClassId) (cs : List Int32) : Prop := own_SX Z h x t k 0 34 (own_la cs) cs.length
abbrev own_WB (Z : State) (h : Heap) (x t : Nat) (k : ClassId) (cs : List Int32) : Prop := own_SX Z h x t k 1 68 (own_wa cs) cs.length
abbrev own_EB (Z : State) (h : Heap) (x t : Nat) (k : ClassId) : Prop := own_SX Z h x t k 0 16 (List.replicate 16 (Value.int 0)) 0

def Q_own_co0 (Z : State) (sx : Nat) (G1 : Int32) (h0 : Heap) (n0 : Nat) (v : Option Value) (h : Heap) (L : List Loc) : Prop := v = some (.int (0 : Int32)) ∧ Fr n0 L ∧ h = h0
theorem ef_own_co0 (m : MethodId) (x0 : Nat) : entryFrame m #[(.ref x0)] 1 = mkF m 0 #[.val (.ref x0)] [] := by first | (simp [entryFrame, mkF, argsToLocals, Value.category]; done) | rfl
theorem own_co0 (l : Launch) (Z : State) (a0 : Array Value) (hw : hWt a0 Z) (ws : List Jvm.Cond) (sx : Nat) (G1 : Int32) (h0 : Heap) (n0 : Nat) (Z0 : n0 ≤ h0.size) (X00 : Old Z n0 h0) (Cs : Fld Z h0 sx "java/lang/String" "coder" "B" (.int (0 : Int32))) (O2 : Sta Z Z.heap "java/lang/String" "COMPACT_STRINGS" "Z" (.int G1)) (P5 : ¬ (G1 = (0 : Int32))) :
 own_MN l mN2 jdk_42_method_152_code 1 (some .byte) ws rm_0_0_0_0 Z #[(.ref sx)] h0 (Q_own_co0 Z sx G1 h0 n0) := by
 refine own_bodyN (plainFor_of_name own_pn0) fun p e s m below meth c s₁ Bd hx hby hml hown hZ X0 e0 => ?_
 have N0 := Fr.nil n0
 have K0 : Keep h0 h0 [] := Keep.refl h0 []
 refine own_st (fun tq kq => castTop (ef_own_co0 m (sx)) kq) ?_
 show own_G p e below _ (s₁.setTop (mkF m 0 #[vR sx] []))
 obtain ⟨T1, X1, e1, st1⟩ := getS2 X0 hx hZ hown (host := "") (Or.inl (wd23 hw)) Via.refl e0 (O2.ext (X00.keep K0 all0).2) (g := (mkF m 0 #[vR sx] [])) rfl (hb hby dCO_0)
 refine own_st st1 ?_
 refine own_st (fun tq kq => XS.ifNo X1.here hx rfl (hb hby dCO_3) rfl ((if0 _ _).trans (feq P5).1) kq) ?_
 refine s_aloadN X1 hx (hb hby dCO_6) rfl rfl ?_
 obtain ⟨T2, X2, e2, st2⟩ := getF X1 hx hZ hown (host := "") (Or.inl (wd34 hw)) Via.refl e1 Cs (g := (mkF m 7 #[vR sx] [(.ref sx)])) rfl rfl (hb hby dCO_7)
 refine own_st st2 ?_
 refine own_st (fun tq kq => XS.goto X2.here hx rfl (pc0 := 10) (pc' := 14) rfl (hb hby dCO_10) (by decide) (by decide) kq) ?_
 show own_G p e below _ (T2.setTop (mkF m 14 #[vR sx] [(.int 0)]))
 exact own_retN X2 (v := some (.int 0)) (fun h => by rw [Bd.returns] at h; cases h) Bd.notSynchronized (fun fs hr => retN X2 hx (z := (0 : Int32)) (t := .byte) Bd.returns (by simp) (hb hby dCO_14) hr) (by decide) (by decide) (by rw [e2]; exact ⟨rfl, N0, rfl⟩)

def Q_own_bl0 (Z : State) (x : Nat) (G1 : Int32) (h0 : Heap) (n0 : Nat) (v : Option Value) (h : Heap) (L : List Loc) : Prop := v = some (.int (1 : Int32)) ∧ Fr n0 L ∧ h = h0
theorem own_bl0 (l : Launch) (Z : State) (a0 : Array Value) (hw : hWt a0 Z) (ws : List Jvm.Cond) (x : Nat) (G1 : Int32) (h0 : Heap) (n0 : Nat) (Z0 : n0 ≤ h0.size) (X00 : Old Z n0 h0) (Fd : Fld Z h0 x "java/lang/AbstractStringBuilder" "coder" "B" (.int (0 : Int32))) (O2 : Sta Z Z.heap "java/lang/String" "COMPACT_STRINGS" "Z" (.int G1)) (P5 : ¬ (G1 = (0 : Int32))) :
 own_MN l mN3 jdk_68_method_68_code 1 (some .boolean) ws rm_0_0_0_0 Z #[(.ref x)] h0 (Q_own_bl0 Z x G1 h0 n0) := by
 refine own_bodyN (plainFor_of_name own_pn1) fun p e s m below meth c s₁ Bd hx hby hml hown hZ X0 e0 => ?_
 have N0 := Fr.nil n0
 have K0 : Keep h0 h0 [] := Keep.refl h0 []
 refine own_st (fun tq kq => castTop (ef_own_co0 m (x)) kq) ?_
 show own_G p e below _ (s₁.setTop (mkF m 0 #[vR x] []))
 obtain ⟨T1, X1, e1, st1⟩ := getS2 X0 hx hZ hown (host := "") (Or.inl (wd55 hw)) Via.refl e0 (O2.ext (X00.keep K0 all0).2) (g := (mkF m 0 #[vR x] [])) rfl (hb hby dIL_0)
 refine own_st st1 ?_
 refine own_st (fun tq kq => XS.ifNo X1.here hx rfl (hb hby dIL_3) rfl ((if0 _ _).trans (feq P5).1) kq) ?_
 refine s_aloadN X1 hx (hb hby dIL_6) rfl rfl ?_
 obtain ⟨T2, X2, e2, st2⟩ := getF X1 hx hZ hown (host := "") (Or.inl (wd58 hw)) Via.refl e1 Fd (g := (mkF m 7 #[vR x] [(.ref x)])) rfl rfl (hb hby dIL_7)
 refine own_st st2 ?_
 refine own_st (fun tq kq => XS.ifNo X2.here hx rfl (hb hby dIL_10) rfl ((if0 _ _).trans (teq (by decide : ((0 : Int32) = (0 : Int32)))).2) kq) ?_
 refine s_iconst X2 hx (hb hby dIL_13) ?_
 refine own_st (fun tq kq => XS.goto X2.here hx rfl (pc0 := 14) (pc' := 18) rfl (hb hby dIL_14) (by decide) (by decide) kq) ?_
 show own_G p e below _ (T2.setTop (mkF m 18 #[vR x] [(.int 1)]))
 exact own_retN X2 (v := some (.int 1)) (fun h => by rw [Bd.returns] at h; cases h) Bd.notSynchronized (fun fs hr => retN X2 hx (z := (1 : Int32)) (t := .boolean) Bd.returns (by simp) (hb hby dIL_18) hr) (by decide) (by decide) (by rw [e2]; exact ⟨rfl, N0, rfl⟩)

def Q_own_co1 (Z : State) (sx : Nat) (G1 : Int32) (h0 : Heap) (n0 : Nat) (v : Option Value) (h : Heap) (L : List Loc) : Prop := v = some (.int (1 : Int32)) ∧ Fr n0 L ∧ h = h0
theorem own_co1 (l : Launch) (Z : State) (a0 : Array Value) (hw : hWt a0 Z) (ws : List Jvm.Cond) (sx : Nat) (G1 : Int32) (h0 : Heap) (n0 : Nat) (Z0 : n0 ≤ h0.size) (X00 : Old Z n0 h0) (Cs : Fld Z h0 sx "java/lang/String" "coder" "B" (.int (1 : Int32))) (O2 : Sta Z Z.heap "java/lang/String" "COMPACT_STRINGS" "Z" (.int G1)) (P5 : ¬ (G1 = (0 : Int32))) :
 own_MN l mN2 jdk_42_method_152_code 1 (some .byte) ws rm_0_0_0_0 Z #[(.ref sx)] h0 (Q_own_co1 Z sx G1 h0 n0) := by
 refine own_bodyN (plainFor_of_name own_pn0) fun p e s m below meth c s₁ Bd hx hby hml hown hZ X0 e0 => ?_
 have N0 := Fr.nil n0
 have K0 : Keep h0 h0 [] := Keep.refl h0 []
 refine own_st (fun tq kq => castTop (ef_own_co0 m (sx)) kq) ?_
 show own_G p e below _ (s₁.setTop (mkF m 0 #[vR sx] []))
 obtain ⟨T1, X1, e1, st1⟩ := getS2 X0 hx hZ hown (host := "") (Or.inl (wd23 hw)) Via.refl e0 (O2.ext (X00.keep K0 all0).2) (g := (mkF m 0 #[vR sx] [])) rfl (hb hby dCO_0)
 refine own_st st1 ?_
 refine own_st (fun tq kq => XS.ifNo X1.here hx rfl (hb hby dCO_3) rfl ((if0 _ _).trans (feq P5).1) kq) ?_
 refine s_aloadN X1 hx (hb hby dCO_6) rfl rfl ?_
 obtain ⟨T2, X2, e2, st2⟩ := getF X1 hx hZ hown (host := "") (Or.inl (wd34 hw)) Via.refl e1 Cs (g := (mkF m 7 #[vR sx] [(.ref sx)])) rfl rfl (hb hby dCO_7)
 refine own_st st2 ?_
 refine own_st (fun tq kq => XS.goto X2.here hx rfl (pc0 := 10) (pc' := 14) rfl (hb hby dCO_10) (by decide) (by decide) kq) ?_
 show own_G p e below _ (T2.setTop (mkF m 14 #[vR sx] [(.int 1)]))
 exact own_retN X2 (v := some (.int 1)) (fun h => by rw [Bd.returns] at h; cases h) Bd.notSynchronized (fun fs hr => retN X2 hx (z := (1 : Int32)) (t := .byte) Bd.returns (by simp) (hb hby dCO_14) hr) (by decide) (by decide) (by rw [e2]; exact ⟨rfl, N0, rfl⟩)

def Q_own_bl1 (Z : State) (x : Nat) (G1 : Int32) (h0 : Heap) (n0 : Nat) (v : Option Value) (h : Heap) (L : List Loc) : Prop := v = some (.int (0 : Int32)) ∧ Fr n0 L ∧ h = h0
theorem own_bl1 (l : Launch) (Z : State) (a0 : Array Value) (hw : hWt a0 Z) (ws : List Jvm.Cond) (x : Nat) (G1 : Int32) (h0 : Heap) (n0 : Nat) (Z0 : n0 ≤ h0.size) (X00 : Old Z n0 h0) (Fd : Fld Z h0 x "java/lang/AbstractStringBuilder" "coder" "B" (.int (1 : Int32))) (O2 : Sta Z Z.heap "java/lang/String" "COMPACT_STRINGS" "Z" (.int G1)) (P5 : ¬ (G1 = (0 : Int32))) :
 own_MN l mN3 jdk_68_method_68_code 1 (some .boolean) ws rm_0_0_0_0 Z #[(.ref x)] h0 (Q_own_bl1 Z x G1 h0 n0) := by
 refine own_bodyN (plainFor_of_name own_pn1) fun p e s m below meth c s₁ Bd hx hby hml hown hZ X0 e0 => ?_
 have N0 := Fr.nil n0
 have K0 : Keep h0 h0 [] := Keep.refl h0 []
 refine own_st (fun tq kq => castTop (ef_own_co0 m (x)) kq) ?_
 show own_G p e below _ (s₁.setTop (mkF m 0 #[vR x] []))
 obtain ⟨T1, X1, e1, st1⟩ := getS2 X0 hx hZ hown (host := "") (Or.inl (wd55 hw)) Via.refl e0 (O2.ext (X00.keep K0 all0).2) (g := (mkF m 0 #[vR x] [])) rfl (hb hby dIL_0)
 refine own_st st1 ?_
 refine own_st (fun tq kq => XS.ifNo X1.here hx rfl (hb hby dIL_3) rfl ((if0 _ _).trans (feq P5).1) kq) ?_
 refine s_aloadN X1 hx (hb hby dIL_6) rfl rfl ?_
 obtain ⟨T2, X2, e2, st2⟩ := getF X1 hx hZ hown (host := "") (Or.inl (wd58 hw)) Via.refl e1 Fd (g := (mkF m 7 #[vR x] [(.ref x)])) rfl rfl (hb hby dIL_7)
 refine own_st st2 ?_
 refine own_st (fun tq kq => XS.ifYes X2.here hx rfl (pc0 := 10) (pc' := 17) rfl (hb hby dIL_10) rfl ((if0 _ _).trans (feq (by decide : ¬ ((1 : Int32) = (0 : Int32)))).2) (by decide) (by decide) kq) ?_
 refine s_iconst X2 hx (hb hby dIL_17) ?_
 show own_G p e below _ (T2.setTop (mkF m 18 #[vR x] [(.int 0)]))
 exact own_retN X2 (v := some (.int 0)) (fun h => by rw [Bd.returns] at h; cases h) Bd.notSynchronized (fun fs hr => retN X2 hx (z := (0 : Int32)) (t := .boolean) Bd.returns (by simp) (hb hby dIL_18) hr) (by decide) (by decide) (by rw [e2]; exact ⟨rfl, N0, rfl⟩)

def Q_own_nl (Z : State) (n : Nat) (h0 : Heap) (n0 : Nat) (v : Option Value) (h : Heap) (L : List Loc) : Prop := v = some (.int (Int32.ofNat (2 * n))) ∧ Fr n0 L ∧ h = h0
theorem ef_own_nl (m : MethodId) (x0 : Int32) : entryFrame m #[(.int x0)] 1 = mkF m 0 #[.val (.int x0)] [] := by first | (simp [entryFrame, mkF, argsToLocals, Value.category]; done) | rfl
theorem own_nl (l : Launch) (Z : State) (a0 : Array Value) (hw : hWt a0 Z) (ws : List Jvm.Cond) (n : Nat) (h0 : Heap) (n0 : Nat) (Z0 : n0 ≤ h0.size) (X00 : Old Z n0 h0) (hn : n ≤ 34) :
 own_MN l mN4 jdk_52_method_3_code 1 (some .int) ws rm_0_0_0_0 Z #[(.int (Int32.ofNat n))] h0 (Q_own_nl Z n h0 n0) := by
 refine own_bodyN (plainFor_of_name own_pn2) fun p e s m below meth c s₁ Bd hx hby hml hown hZ X0 e0 => ?_
 have N0 := Fr.nil n0
 have K0 : Keep h0 h0 [] := Keep.refl h0 []
 refine own_st (fun tq kq => castTop (ef_own_nl m ((Int32.ofNat n))) kq) ?_
 show own_G p e below _ (s₁.setTop (mkF m 0 #[vI (Int32.ofNat n)] []))
 refine s_iloadN X0 hx (hb hby dNB_0) rfl ?_
 show own_G p e below _ (s₁.setTop (mkF m 1 #[vI (Int32.ofNat n)] [(.int (Int32.ofNat n))]))
 refine own_st (fun tq kq => XS.ifYes X0.here hx rfl (pc0 := 1) (pc' := 12) rfl (hb hby dNB_1) rfl ((if0 _ _).trans (flt (own_n0 (by omega))).2.1) (by decide) (by decide) kq) ?_
 refine s_iloadN X0 hx (hb hby dNB_12) rfl ?_
 refine own_st (fun tq kq => X0.ldcInt hx hown (mvT hZ (wd222 hw)) (g := (mkF m 13 #[vI (Int32.ofNat n)] [(.int (Int32.ofNat n))])) rfl (hb hby dNB_13) _ kq) ?_
 show own_G p e below _ (s₁.setTop (mkF m 15 #[vI (Int32.ofNat n)] [(.int 1073741823), (.int (Int32.ofNat n))]))
 refine own_st (fun tq kq => XS.icmpYes X0.here hx rfl (pc0 := 15) (pc' := 55) rfl (hb hby dNB_15) rfl (tlt (own_nbig (by omega))).1 (by decide) (by decide) kq) ?_
 refine s_iloadN X0 hx (hb hby dNB_55) rfl ?_
 refine s_iconst X0 hx (hb hby dNB_56) ?_
 refine own_st (fun tq kq => XS.ishl X0.here hx rfl (hb hby dNB_57) rfl kq) ?_
 show own_G p e below _ (s₁.setTop (mkF m 58 #[vI (Int32.ofNat n)] [(.int ((Int32.ofNat n) <<< ((1 : Int32) &&& 31)))]))
 show own_G p e below _ (s₁.setTop (mkF m 58 #[vI (Int32.ofNat n)] [(.int ((Int32.ofNat n) <<< ((1 : Int32) &&& 31)))]))
 rw [own_shl1 (by omega)]
 show own_G p e below _ (s₁.setTop (mkF m 58 #[vI (Int32.ofNat n)] [(.int (Int32.ofNat (2 * n)))]))
 exact own_retN X0 (v := some (.int (Int32.ofNat (2 * n)))) (fun h => by rw [Bd.returns] at h; cases h) Bd.notSynchronized (fun fs hr => retOut X0 hx Bd.returns rfl (Or.inl ⟨rfl, by simp, _, rfl⟩) (hb hby dNB_58) hr) (by decide) (by decide) (by rw [e0]; exact ⟨rfl, N0, rfl⟩)

def Q_own_nbf (Z : State) (n : Nat) (h0 : Heap) (n0 : Nat) (v : Option Value) (h : Heap) (L : List Loc) : Prop := ∃ (t : Nat) (kb : ClassId), v = some (.ref t) ∧ Fr n0 L ∧ Keep h0 h [] ∧ h0.size ≤ t ∧ t < h.size ∧ Arv Z h t kb .byte (Int32.ofNat (2 * n)) (List.replicate (2 * n) (Value.int 0)) (.int 0)
theorem own_nbf (l : Launch) (Z : State) (a0 : Array Value) (hw : hWt a0 Z) (ws : List Jvm.Cond) (n : Nat) (h0 : Heap) (n0 : Nat) (Z0 : n0 ≤ h0.size) (X00 : Old Z n0 h0) (hn : n ≤ 34) :
 own_MN l mN5 jdk_52_method_2_code 1 (some (.array .byte)) ws rm_1_1_68_14 Z #[(.int (Int32.ofNat n))] h0 (Q_own_nbf Z n h0 n0) := by
 refine own_bodyN (plainFor_of_name own_pn2) fun p e s m below meth c s₁ Bd hx hby hml hown hZ X0 e0 => ?_
 have N0 := Fr.nil n0
 have K0 : Keep h0 h0 [] := Keep.refl h0 []
 refine own_st (fun tq kq => castTop (ef_own_nl m ((Int32.ofNat n))) kq) ?_
 show own_G p e below _ (s₁.setTop (mkF m 0 #[vI (Int32.ofNat n)] []))
 refine s_iloadN X0 hx (hb hby dNG_0) rfl ?_
 obtain ⟨_, _, ⟨T1, L1, k1, n1⟩, -, X1, ⟨Lc1, hQ1, l1, y1, z1⟩, st1⟩ := Jvm.LawKit.callS X0 hx (y := mN4) hown (mvT hZ (wd219 hw)) (mvT hZ (wd220 hw)) (mvT hZ (wd26 hw)) (mvT hZ (wd221 hw)) (by decide) (own_backN (W := 0) (own_nl l Z a0 hw [] (n) h0 n0 (by omega) (X00.keep K0 all0) hn) hZ (wd221 hw) (wd26 hw) (by decide) (by decide)) (g := (mkF m 1 #[vI (Int32.ofNat n)] [(.int (Int32.ofNat n))])) rfl (by rw [hml]; rfl) (argsL := [(.int (Int32.ofNat n))]) (rest := []) (lenOf own_pd1 rfl) rfl (Nat.le_of_eq rfl) (hb hby dNG_1) (fun _ _ => ⟨rfl, e0, (by decide : 0 + 0 ≤ _), (by decide : 0 + 0 ≤ _)⟩)
 dsimp only [Pt.U, Pt.locs, Pt.cells, Pt.slots] at X1 l1 y1 z1 st1 hQ1
 subst l1 y1 z1
 obtain ⟨rfl, Nq1, sm1⟩ := hQ1
 have N1 := Fr.app N0 Nq1
 refine own_st st1 ?_
 obtain ⟨T2, h2, k2, X2, e2, E2, A2, st2⟩ := newP X1 hx hZ (hw _ (List.mem_of_getElem? (i := 6) rfl)) sm1 (g := (mkF m 4 #[vI (Int32.ofNat n)] [(.int (Int32.ofNat (2 * n)))])) rfl (hb hby dNG_4) rfl (own_n0 (by omega)) (cap := 68) (by rw [own_n32 (by omega)]; omega) (by decide) (by decide) (by decide)
 obtain ⟨b2, g2⟩ : ∃ z, z = h0.size := ⟨_, rfl⟩
 rw [← g2] at A2 st2
 have lt2 : b2 < h2.size := A2.lt
 have V2 : Arv Z h2 b2 k2 .byte (Int32.ofNat (2 * n)) (List.replicate (2 * n) (.int (0 : Int32))) (.int (0 : Int32)) := (Arv.new A2 (own_n0 (by omega))).pad (pad_rep [] (.int (0 : Int32)) (2 * n))
 have sz2 : h0.size ≤ h2.size := E2.1
 have K2 : Keep h0 h2 [] := K0.ext E2
 refine own_st st2 ?_
 exact own_retN X2 (v := some (.ref b2)) (fun h => by rw [Bd.returns] at h; cases h) Bd.notSynchronized (fun fs hr => retOut X2 hx Bd.returns rfl (Or.inr (Or.inr (Or.inr (Or.inr ⟨rfl, rfl, rfl⟩)))) (hb hby dNG_6) hr) (by decide) (by decide) (by rw [e2]; exact ⟨b2, _, rfl, N1, K2, (by omega), (by omega), V2⟩)

def Q_own_pc (Z : State) (t i mm : Nat) (kb : ClassId) (ch : Int32) (vs : List Value) (h0 : Heap) (n0 : Nat) (v : Option Value) (h : Heap) (L : List Loc) : Prop := v = none ∧ Fr n0 L ∧ Keep h0 h [t] ∧ Arv Z h t kb .byte (Int32.ofNat mm) ((vs.set (2 * i) (.int (L8 ch))).set (2 * i + 1) (.int (H8 ch))) (.int 0)
theorem ef_own_pc (m : MethodId) (x0 : Nat) (x1 : Int32) (x2 : Int32) : entryFrame m #[(.ref x0), (.int x1), (.int x2)] 3 = mkF m 0 #[.val (.ref x0), .val (.int x1), .val (.int x2)] [] := by first | (simp [entryFrame, mkF, argsToLocals, Value.category]; done) | rfl
theorem own_pc (l : Launch) (Z : State) (a0 : Array Value) (hw : hWt a0 Z) (ws : List Jvm.Cond) (t i mm : Nat) (kb : ClassId) (ch : Int32) (vs : List Value) (h0 : Heap) (n0 : Nat) (Z0 : n0 ≤ h0.size) (X00 : Old Z n0 h0) (OA : oA Z) (OH : oH Z) (OL : oL Z) (Vt : Arv Z h0 t kb .byte (Int32.ofNat mm) vs (.int 0)) (hvs : vs.length = mm) (hm : mm ≤ 68) (hi : 2 * i + 1 < mm) (gt : n0 ≤ t) :
 own_MN l mN6 jdk_52_method_4_code 3 none ws rm_0_0_0_0 Z #[(.ref t), (.int (Int32.ofNat i)), (.int ch)] h0 (Q_own_pc Z t i mm kb ch vs h0 n0) := by
 refine own_bodyN (plainFor_of_name own_pn2) fun p e s m below meth c s₁ Bd hx hby hml hown hZ X0 e0 => ?_
 have N0 := Fr.nil n0
 have K0 : Keep h0 h0 [t] := Keep.refl h0 [t]
 refine own_st (fun tq kq => castTop (ef_own_pc m (t) ((Int32.ofNat i)) (ch)) kq) ?_
 show own_G p e below _ (s₁.setTop (mkF m 0 #[vR t, vI (Int32.ofNat i), vI ch] []))
 have hws0 : ∀ y ∈ [t], n0 ≤ y := allS gt all0
 obtain ⟨T1, X1, e1, st1⟩ := getS2 X0 hx hZ hown (host := "") (Or.inl (wd226 hw)) Via.refl e0 (OA.ext (X00.keep K0 hws0).2) (g := (mkF m 0 #[vR t, vI (Int32.ofNat i), vI ch] [])) rfl (hb hby dPU_0)
 refine own_st st1 ?_
 refine own_st (fun tq kq => XS.ifYes X1.here hx rfl (pc0 := 3) (pc' := 28) rfl (hb hby dPU_3) rfl ((if0 _ _).trans (feq (by decide : ¬ ((1 : Int32) = (0 : Int32)))).2) (by decide) (by decide) kq) ?_
 refine s_iloadN X1 hx (hb hby dPU_28) rfl ?_
 refine s_iconst X1 hx (hb hby dPU_29) ?_
 refine own_st (fun tq kq => XS.ishl X1.here hx rfl (hb hby dPU_30) rfl kq) ?_
 show own_G p e below _ (T1.setTop (mkF m 31 #[vR t, vI (Int32.ofNat i), vI ch] [(.int ((Int32.ofNat i) <<< ((1 : Int32) &&& 31)))]))
 rw [own_shl1 (by omega)]
 show own_G p e below _ (T1.setTop (mkF m 31 #[vR t, vI (Int32.ofNat i), vI ch] [(.int (Int32.ofNat (2 * i)))]))
 refine own_st (fun tq kq => XS.istoreN X1.here hx rfl (hb hby dPU_31) rfl (l' := #[vR t, vI (Int32.ofNat (2 * i)), vI ch]) rfl kq) ?_
 refine s_aloadN X1 hx (hb hby dPU_32) rfl rfl ?_
 refine s_iloadN X1 hx (hb hby dPU_33) rfl ?_
 refine own_st (fun tq kq => XS.iinc X1.here hx rfl (hb hby dPU_34) rfl (l' := #[vR t, vI ((Int32.ofNat (2 * i)) + (1 : Int32)), vI ch]) rfl kq) ?_
 show own_G p e below _ (T1.setTop (mkF m 37 #[vR t, vI ((Int32.ofNat (2 * i)) + (1 : Int32)), vI ch] [(.int (Int32.ofNat (2 * i))), (.ref t)]))
 rw [own_inc (2 * i)]
 show own_G p e below _ (T1.setTop (mkF m 37 #[vR t, vI (Int32.ofNat (2 * i + 1)), vI ch] [(.int (Int32.ofNat (2 * i))), (.ref t)]))
 refine s_iloadN X1 hx (hb hby dPU_37) rfl ?_
 obtain ⟨T2, X2, e2, st2⟩ := getS2 X1 hx hZ hown (host := "") (Or.inl (wd227 hw)) Via.refl e1 (OH.ext (X00.keep K0 hws0).2) (g := (mkF m 38 #[vR t, vI (Int32.ofNat (2 * i + 1)), vI ch] [(.int ch), (.int (Int32.ofNat (2 * i))), (.ref t)])) rfl (hb hby dPU_38)
 refine own_st st2 ?_
 refine own_st (fun tq kq => XS.ishr X2.here hx rfl (hb hby dPU_41) rfl kq) ?_
 refine own_st (fun tq kq => XS.i2b X2.here hx rfl (hb hby dPU_42) rfl kq) ?_
 obtain ⟨cl3, Ar3, q3, S_3, N_3, H_3, G_3⟩ := id Vt
 have in3 : ¬ ((Int32.ofNat (2 * i)) < 0 ∨ cl3.slots.size ≤ ((Int32.ofNat (2 * i))).toNatClampNeg) := inb_of S_3 ⟨(own_n0 (by omega)), (own_ilt (by omega) (by omega))⟩
 obtain ⟨T3, h3, X3, e3, W3, st3⟩ := stB X2 hx hZ e2 Ar3 (j := (Int32.ofNat (2 * i))) in3 (g := (mkF m 43 #[vR t, vI (Int32.ofNat (2 * i + 1)), vI ch] [(.int ((ch >>> ((0 : Int32) &&& 31)).toInt8.toInt32)), (.int (Int32.ofNat (2 * i))), (.ref t)])) rfl rfl (hb hby dPU_43)
 have V3 := Arv.set Ar3 q3 S_3 N_3 H_3 G_3 (fits_nar_byte _) W3 (2 * i) (own_n32 (by omega)) (by omega)
 have sz3 : h0.size ≤ h3.size := (Keep.of_wr W3).1
 have K3 : Keep h0 h3 [t] := K0.wr W3 (Or.inl (by simp))
 have N3 := Fr.snoc X3 N0 (own_le (by omega))
 refine own_st st3 ?_
 refine s_aloadN X3 hx (hb hby dPU_44) rfl rfl ?_
 refine s_iloadN X3 hx (hb hby dPU_45) rfl ?_
 refine s_iloadN X3 hx (hb hby dPU_46) rfl ?_
 obtain ⟨T4, X4, e4, st4⟩ := getS2 X3 hx hZ hown (host := "") (Or.inl (wd228 hw)) Via.refl e3 (OL.ext (X00.keep K3 hws0).2) (g := (mkF m 47 #[vR t, vI (Int32.ofNat (2 * i + 1)), vI ch] [(.int ch), (.int (Int32.ofNat (2 * i + 1))), (.ref t)])) rfl (hb hby dPU_47)
 refine own_st st4 ?_
 refine own_st (fun tq kq => XS.ishr X4.here hx rfl (hb hby dPU_50) rfl kq) ?_
 refine own_st (fun tq kq => XS.i2b X4.here hx rfl (hb hby dPU_51) rfl kq) ?_
 obtain ⟨cl5, Ar5, q5, S_5, N_5, H_5, G_5⟩ := id V3
 have in5 : ¬ ((Int32.ofNat (2 * i + 1)) < 0 ∨ cl5.slots.size ≤ ((Int32.ofNat (2 * i + 1))).toNatClampNeg) := inb_of S_5 ⟨(own_n0 (by omega)), (own_ilt (by omega) (by omega))⟩
 obtain ⟨T5, h5, X5, e5, W5, st5⟩ := stB X4 hx hZ e4 Ar5 (j := (Int32.ofNat (2 * i + 1))) in5 (g := (mkF m 52 #[vR t, vI (Int32.ofNat (2 * i + 1)), vI ch] [(.int ((ch >>> ((8 : Int32) &&& 31)).toInt8.toInt32)), (.int (Int32.ofNat (2 * i + 1))), (.ref t)])) rfl rfl (hb hby dPU_52)
 have V5 := Arv.set Ar5 q5 S_5 N_5 H_5 G_5 (fits_nar_byte _) W5 (2 * i + 1) (own_n32 (by omega)) (by rw [List.length_set]; omega)
 have sz5 : h3.size ≤ h5.size := (Keep.of_wr W5).1
 have K5 : Keep h0 h5 [t] := K3.wr W5 (Or.inl (by simp))
 have N5 := Fr.snoc X5 N3 (own_le (by omega))
 refine own_st st5 ?_
 exact own_retN X5 (v := none) (fun _ => rfl) Bd.notSynchronized (fun fs hr => X5.returnOut hx Bd.returns (hb hby dPU_53) hr) (by decide) (by decide) (by rw [e5]; exact ⟨rfl, N5, K5, (by have q : Arv Z _ t kb .byte (Int32.ofNat mm) ((vs.set (2 * i) (.int (nar .byte ((ch >>> ((0 : Int32) &&& 31)).toInt8.toInt32)))).set (2 * i + 1) (.int (nar .byte ((ch >>> ((8 : Int32) &&& 31)).toInt8.toInt32)))) (.int 0) := V5; rwa [own_pb0, own_pb8] at q)⟩)

def Q_own_gc (Z : State) (t i : Nat) (kb : ClassId) (cs : List Int32) (h0 : Heap) (n0 : Nat) (v : Option Value) (h : Heap) (L : List Loc) : Prop := v = some (.int (cs.getD i 0)) ∧ Fr n0 L ∧ h = h0
theorem ef_own_gc (m : MethodId) (x0 : Nat) (x1 : Int32) : entryFrame m #[(.ref x0), (.int x1)] 2 = mkF m 0 #[.val (.ref x0), .val (.int x1)] [] := by first | (simp [entryFrame, mkF, argsToLocals, Value.category]; done) | rfl
theorem own_gc (l : Launch) (Z : State) (a0 : Array Value) (hw : hWt a0 Z) (ws : List Jvm.Cond) (t i : Nat) (kb : ClassId) (cs : List Int32) (h0 : Heap) (n0 : Nat) (Z0 : n0 ≤ h0.size) (X00 : Old Z n0 h0) (OA : oA Z) (OH : oH Z) (OL : oL Z) (Vt : Arv Z h0 t kb .byte (Int32.ofNat (2 * cs.length)) (own_wb cs) (.int 0)) (hi : i < cs.length) (hc : cs.length ≤ 34) (hbb : ∀ c ∈ cs, ¬ c < 0 ∧ ¬ (65535 : Int32) < c) :
 own_MN l mN7 jdk_52_method_5_code 2 (some .char) ws rm_0_0_0_0 Z #[(.ref t), (.int (Int32.ofNat i))] h0 (Q_own_gc Z t i kb cs h0 n0) := by
 refine own_bodyN (plainFor_of_name own_pn2) fun p e s m below meth c s₁ Bd hx hby hml hown hZ X0 e0 => ?_
 have N0 := Fr.nil n0
 have K0 : Keep h0 h0 [] := Keep.refl h0 []
 refine own_st (fun tq kq => castTop (ef_own_gc m (t) ((Int32.ofNat i))) kq) ?_
 show own_G p e below _ (s₁.setTop (mkF m 0 #[vR t, vI (Int32.ofNat i)] []))
 obtain ⟨T1, X1, e1, st1⟩ := getS2 X0 hx hZ hown (host := "") (Or.inl (wd226 hw)) Via.refl e0 (OA.ext (X00.keep K0 all0).2) (g := (mkF m 0 #[vR t, vI (Int32.ofNat i)] [])) rfl (hb hby dGC_0)
 refine own_st st1 ?_
 refine own_st (fun tq kq => XS.ifYes X1.here hx rfl (pc0 := 3) (pc' := 28) rfl (hb hby dGC_3) rfl ((if0 _ _).trans (feq (by decide : ¬ ((1 : Int32) = (0 : Int32)))).2) (by decide) (by decide) kq) ?_
 refine s_iloadN X1 hx (hb hby dGC_28) rfl ?_
 refine s_iconst X1 hx (hb hby dGC_29) ?_
 refine own_st (fun tq kq => XS.ishl X1.here hx rfl (hb hby dGC_30) rfl kq) ?_
 show own_G p e below _ (T1.setTop (mkF m 31 #[vR t, vI (Int32.ofNat i)] [(.int ((Int32.ofNat i) <<< ((1 : Int32) &&& 31)))]))
 rw [own_shl1 (by omega)]
 show own_G p e below _ (T1.setTop (mkF m 31 #[vR t, vI (Int32.ofNat i)] [(.int (Int32.ofNat (2 * i)))]))
 refine own_st (fun tq kq => XS.istoreN X1.here hx rfl (hb hby dGC_31) rfl (l' := #[vR t, vI (Int32.ofNat (2 * i))]) rfl kq) ?_
 refine s_aloadN X1 hx (hb hby dGC_32) rfl rfl ?_
 refine s_iloadN X1 hx (hb hby dGC_33) rfl ?_
 refine own_st (fun tq kq => XS.iinc X1.here hx rfl (hb hby dGC_34) rfl (l' := #[vR t, vI ((Int32.ofNat (2 * i)) + (1 : Int32))]) rfl kq) ?_
 show own_G p e below _ (T1.setTop (mkF m 37 #[vR t, vI ((Int32.ofNat (2 * i)) + (1 : Int32))] [(.int (Int32.ofNat (2 * i))), (.ref t)]))
 rw [own_inc (2 * i)]
 show own_G p e below _ (T1.setTop (mkF m 37 #[vR t, vI (Int32.ofNat (2 * i + 1))] [(.int (Int32.ofNat (2 * i))), (.ref t)]))
 obtain ⟨cl2, Ar2, q2, S_2, N_2, H_2, G_2⟩ := id Vt
 have in2 : ¬ ((Int32.ofNat (2 * i)) < 0 ∨ cl2.slots.size ≤ ((Int32.ofNat (2 * i))).toNatClampNeg) := inb_of S_2 ⟨(own_n0 (by omega)), (own_ilt (by omega) (by omega))⟩
 have at2 : cl2.slots[((Int32.ofNat (2 * i))).toNatClampNeg]? = some (.int (StrChars.lo8 (cs.getD i 0))) := H_2.at in2 (by rw [own_n32 (by omega)]; exact StrChars.Road.wide_lo _ cs i hi)
 refine own_st (fun tq kq => X1.baloadBytes hx (j := (Int32.ofNat (2 * i))) (v := (.int (StrChars.lo8 (cs.getD i 0)))) (by rw [e1]; exact Ar2.1) (State.isArrayOf_alike hZ.alike Ar2.2.1) Ar2.2.2 in2 at2 (g := (mkF m 37 #[vR t, vI (Int32.ofNat (2 * i + 1))] [(.int (Int32.ofNat (2 * i))), (.ref t)])) rfl rfl (hb hby dGC_37) _ kq) ?_
 refine s_sipush X1 hx (hb hby dGC_38) ?_
 refine own_st (fun tq kq => XS.iand X1.here hx rfl (hb hby dGC_41) rfl kq) ?_
 obtain ⟨T3, X3, e3, st3⟩ := getS2 X1 hx hZ hown (host := "") (Or.inl (wd227 hw)) Via.refl e1 (OH.ext (X00.keep K0 all0).2) (g := (mkF m 42 #[vR t, vI (Int32.ofNat (2 * i + 1))] [(.int ((StrChars.lo8 (cs.getD i 0)) &&& (255 : Int32)))])) rfl (hb hby dGC_42)
 refine own_st st3 ?_
 refine own_st (fun tq kq => XS.ishl X3.here hx rfl (hb hby dGC_45) rfl kq) ?_
 refine s_aloadN X3 hx (hb hby dGC_46) rfl rfl ?_
 refine s_iloadN X3 hx (hb hby dGC_47) rfl ?_
 obtain ⟨cl4, Ar4, q4, S_4, N_4, H_4, G_4⟩ := id Vt
 have in4 : ¬ ((Int32.ofNat (2 * i + 1)) < 0 ∨ cl4.slots.size ≤ ((Int32.ofNat (2 * i + 1))).toNatClampNeg) := inb_of S_4 ⟨(own_n0 (by omega)), (own_ilt (by omega) (by omega))⟩
 have at4 : cl4.slots[((Int32.ofNat (2 * i + 1))).toNatClampNeg]? = some (.int (StrChars.hi8 (cs.getD i 0))) := H_4.at in4 (by rw [own_n32 (by omega)]; exact StrChars.Road.wide_hi _ cs i hi)
 refine own_st (fun tq kq => X3.baloadBytes hx (j := (Int32.ofNat (2 * i + 1))) (v := (.int (StrChars.hi8 (cs.getD i 0)))) (by rw [e3]; exact Ar4.1) (State.isArrayOf_alike hZ.alike Ar4.2.1) Ar4.2.2 in4 at4 (g := (mkF m 48 #[vR t, vI (Int32.ofNat (2 * i + 1))] [(.int (Int32.ofNat (2 * i + 1))), (.ref t), (.int (((StrChars.lo8 (cs.getD i 0)) &&& (255 : Int32)) <<< ((0 : Int32) &&& 31)))])) rfl rfl (hb hby dGC_48) _ kq) ?_
 refine s_sipush X3 hx (hb hby dGC_49) ?_
 refine own_st (fun tq kq => XS.iand X3.here hx rfl (hb hby dGC_52) rfl kq) ?_
 obtain ⟨T5, X5, e5, st5⟩ := getS2 X3 hx hZ hown (host := "") (Or.inl (wd228 hw)) Via.refl e3 (OL.ext (X00.keep K0 all0).2) (g := (mkF m 53 #[vR t, vI (Int32.ofNat (2 * i + 1))] [(.int ((StrChars.hi8 (cs.getD i 0)) &&& (255 : Int32))), (.int (((StrChars.lo8 (cs.getD i 0)) &&& (255 : Int32)) <<< ((0 : Int32) &&& 31)))])) rfl (hb hby dGC_53)
 refine own_st st5 ?_
 refine own_st (fun tq kq => XS.ishl X5.here hx rfl (hb hby dGC_56) rfl kq) ?_
 refine own_st (fun tq kq => XS.ior X5.here hx rfl (hb hby dGC_57) rfl kq) ?_
 refine own_st (fun tq kq => XS.i2c X5.here hx rfl (hb hby dGC_58) rfl kq) ?_
 show own_G p e below _ (T5.setTop (mkF m 59 #[vR t, vI (Int32.ofNat (2 * i + 1))] [(.int (((((StrChars.lo8 (cs.getD i 0)) &&& (255 : Int32)) <<< ((0 : Int32) &&& 31)) ||| (((StrChars.hi8 (cs.getD i 0)) &&& (255 : Int32)) <<< ((8 : Int32) &&& 31))).toUInt32.toUInt16.toUInt32.toInt32))]))
 exact own_retN X5 (v := some (.int (nar .char (((((StrChars.lo8 (cs.getD i 0)) &&& (255 : Int32)) <<< ((0 : Int32) &&& 31)) ||| (((StrChars.hi8 (cs.getD i 0)) &&& (255 : Int32)) <<< ((8 : Int32) &&& 31))).toUInt32.toUInt16.toUInt32.toInt32)))) (fun h => by rw [Bd.returns] at h; cases h) Bd.notSynchronized (fun fs hr => retN X5 hx (z := (((((StrChars.lo8 (cs.getD i 0)) &&& (255 : Int32)) <<< ((0 : Int32) &&& 31)) ||| (((StrChars.hi8 (cs.getD i 0)) &&& (255 : Int32)) <<< ((8 : Int32) &&& 31))).toUInt32.toUInt16.toUInt32.toInt32)) (t := .char) Bd.returns (by simp) (hb hby dGC_59) hr) (by decide) (by decide) (by rw [e5]; exact ⟨congrArg (fun z => some (Value.int z)) ((own_pairN _ _).trans (StrChars.pair_says (own_getok hbb hi).1 (own_getok hbb hi).2)), N0, rfl⟩)

def Q_own_cm5 (Z : State) (b : Nat) (kC : ClassId) (dv : Value) (us : List Int32) (d : Nat) (kD : ClassId) (vs : List Value) (h0 : Heap) (n0 : Nat) (v : Option Value) (h : Heap) (L : List Loc) : Prop := ∃ k, k < us.length ∧ v = some (.int (Int32.ofNat k)) ∧ (255 : Int32) < us.getD k 0 ∧ Fr n0 L ∧ Keep h0 h [d]
theorem ef_own_cm5 (m : MethodId) (x0 : Nat) (x2 : Nat) (x4 : Int32) : entryFrame m #[(.ref x0), (.int 0), (.ref x2), (.int 0), (.int x4)] 7 = mkF m 0 #[.val (.ref x0), .val (.int 0), .val (.ref x2), .val (.int 0), .val (.int x4), .unset, .unset] [] := by first | (simp [entryFrame, mkF, argsToLocals, Value.category]; done) | rfl
theorem own_cm5 (l : Launch) (Z : State) (a0 : Array Value) (hw : hWt a0 Z) (ws : List Jvm.Cond) (b : Nat) (kC : ClassId) (dv : Value) (us : List Int32) (d : Nat) (kD : ClassId) (vs : List Value) (h0 : Heap) (n0 : Nat) (Z0 : n0 ≤ h0.size) (X00 : Old Z n0 h0) (Vb : Arv Z h0 b kC .char (Int32.ofNat us.length) (us.map Value.int) dv) (Vd : Arv Z h0 d kD .byte (Int32.ofNat us.length) vs (.int 0)) (hvs : vs.length = us.length) (gd : n0 ≤ d) (nbd : b ≠ d) (hex : ∃ c ∈ us, 255 < c) (hu : us.length ≤ 34) :
 own_MN l mN8 jdk_52_method_21_code 7 (some .int) ws rm_0_0_0_0 Z #[(.ref b), (.int 0), (.ref d), (.int 0), (.int (Int32.ofNat us.length))] h0 (Q_own_cm5 Z b kC dv us d kD vs h0 n0) := by
 refine own_bodyN (plainFor_of_name own_pn2) fun p e s m below meth c s₁ Bd hx hby hml hown hZ X0 e0 => ?_
 have N0 := Fr.nil n0
 have K0 : Keep h0 h0 [d] := Keep.refl h0 [d]
 have hws0 : ∀ y ∈ [d], n0 ≤ y := allS gd all0
 have loop : ∀ (jk : Nat) (T : State) (h : Heap) (Lc : List Loc) (i : Nat) (vs : List Value) (s6 : Slot), Stand p l e rm_0_0_0_0 s m #[(.ref b), (.int 0), (.ref d), (.int 0), (.int (Int32.ofNat us.length))] below meth c T Lc 0 0 → T.heap = h → Fr n0 Lc → Keep h0 h [d] → (i + jk = us.length) → (s6 = .unset ∨ ∃ w, s6 = .val w ∧ w.category = 1) → (vs.length = us.length) → (∀ j, j < i → ¬ (255 : Int32) < us.getD j 0) → (Arv Z h d kD .byte (Int32.ofNat us.length) vs (.int 0)) → own_G p e below (own_EN (Q_own_cm5 Z b kC dv us d kD vs h0 n0) rm_0_0_0_0 #[(.ref b), (.int 0), (.ref d), (.int 0), (.int (Int32.ofNat us.length))] s) (T.setTop (mkF m 3 #[vR b, vI (Int32.ofNat i), vR d, vI (Int32.ofNat i), vI (Int32.ofNat us.length), vI (Int32.ofNat i), s6] [])) := by
  intro jk
  induction jk with
  | zero =>
   intro T h Lc i vs s6 Xl el Nl Kl hik hs6 hvs hlo Vl
   have szl : h0.size ≤ h.size := Kl.1
   exact absurd hex (own_nohigh hlo (by omega))
  | succ jk ih =>
   intro T h Lc i vs s6 Xl el Nl Kl hik hs6 hvs hlo Vl
   have szl : h0.size ≤ h.size := Kl.1
   show own_G p e below _ (T.setTop (mkF m 3 #[vR b, vI (Int32.ofNat i), vR d, vI (Int32.ofNat i), vI (Int32.ofNat us.length), vI (Int32.ofNat i), s6] []))
   refine own_st (fun tq kq => XS.iload Xl.here hx rfl (hb hby dC5_3) rfl  kq) ?_
   refine own_st (fun tq kq => XS.iload Xl.here hx rfl (hb hby dC5_5) rfl  kq) ?_
   show own_G p e below _ (T.setTop (mkF m 7 #[vR b, vI (Int32.ofNat i), vR d, vI (Int32.ofNat i), vI (Int32.ofNat us.length), vI (Int32.ofNat i), s6] [(.int (Int32.ofNat us.length)), (.int (Int32.ofNat i))]))
   refine own_st (fun tq kq => XS.icmpNo Xl.here hx rfl (hb hby dC5_7) rfl (tlt (own_ilt (by omega) (by omega))).2.1 kq) ?_
   refine own_st (fun tq kq => XS.aloadN Xl.here hx rfl (hb hby dC5_10) rfl rfl kq) ?_
   refine own_st (fun tq kq => XS.iloadN Xl.here hx rfl (hb hby dC5_11) rfl  kq) ?_
   obtain ⟨cl1, Ar1, q1, S_1, N_1, H_1, G_1⟩ := id (Vb.keep Kl (ninS (own_ne (by omega)) nin0))
   have in1 : ¬ ((Int32.ofNat i) < 0 ∨ cl1.slots.size ≤ ((Int32.ofNat i)).toNatClampNeg) := inb_of S_1 ⟨(own_n0 (by omega)), (own_ilt (by omega) (by omega))⟩
   have at1 : cl1.slots[((Int32.ofNat i)).toNatClampNeg]? = some (.int (us.getD i 0)) := H_1.at in1 (by rw [own_n32 (by omega)]; exact own_miAtD (by omega))
   refine own_st (fun tq kq => Xl.caload hx (j := (Int32.ofNat i)) (v := (.int (us.getD i 0))) (by rw [el]; exact Ar1.1) (State.isArrayOf_alike hZ.alike Ar1.2.1) Ar1.2.2 in1 at1 (g := (mkF m 12 #[vR b, vI (Int32.ofNat i), vR d, vI (Int32.ofNat i), vI (Int32.ofNat us.length), vI (Int32.ofNat i), s6] [(.int (Int32.ofNat i)), (.ref b)])) rfl rfl (hb hby dC5_12) _ kq) ?_
   refine own_st (fun tq kq => XS.istoreS Xl.here hx rfl (hb hby dC5_13) rfl rfl hs6 kq) ?_
   show own_G p e below _ (T.setTop (mkF m 15 #[vR b, vI (Int32.ofNat i), vR d, vI (Int32.ofNat i), vI (Int32.ofNat us.length), vI (Int32.ofNat i), vI (us.getD i 0)] []))
   refine own_st (fun tq kq => XS.iload Xl.here hx rfl (hb hby dC5_15) rfl  kq) ?_
   refine own_st (fun tq kq => XS.sipush Xl.here hx rfl (hb hby dC5_17) kq) ?_
   show own_G p e below _ (T.setTop (mkF m 20 #[vR b, vI (Int32.ofNat i), vR d, vI (Int32.ofNat i), vI (Int32.ofNat us.length), vI (Int32.ofNat i), vI (us.getD i 0)] [(.int 255), (.int (us.getD i 0))]))
   by_cases hc20_2 : ((255 : Int32) < (us.getD i 0))
   ·
    refine own_st (fun tq kq => XS.icmpNo Xl.here hx rfl (hb hby dC5_20) rfl (tlt hc20_2).2.2.2 kq) ?_
    refine own_st (fun tq kq => XS.iload Xl.here hx rfl (hb hby dC5_23) rfl  kq) ?_
    show own_G p e below _ (T.setTop (mkF m 25 #[vR b, vI (Int32.ofNat i), vR d, vI (Int32.ofNat i), vI (Int32.ofNat us.length), vI (Int32.ofNat i), vI (us.getD i 0)] [(.int (Int32.ofNat i))]))
    exact own_retN Xl (v := some (.int (Int32.ofNat i))) (fun h => by rw [Bd.returns] at h; cases h) Bd.notSynchronized (fun fs hr => retOut Xl hx Bd.returns rfl (Or.inl ⟨rfl, by simp, _, rfl⟩) (hb hby dC5_25) hr) (by decide) (by decide) (by rw [el]; exact ⟨i, (by omega), rfl, hc20_2, Nl, Kl⟩)
   ·
    refine own_st (fun tq kq => XS.icmpYes Xl.here hx rfl (pc0 := 20) (pc' := 26) rfl (hb hby dC5_20) rfl (flt hc20_2).2.2.2 (by decide) (by decide) kq) ?_
    refine own_st (fun tq kq => XS.aloadN Xl.here hx rfl (hb hby dC5_26) rfl rfl kq) ?_
    refine own_st (fun tq kq => XS.iloadN Xl.here hx rfl (hb hby dC5_27) rfl  kq) ?_
    refine own_st (fun tq kq => XS.iload Xl.here hx rfl (hb hby dC5_28) rfl  kq) ?_
    refine own_st (fun tq kq => XS.i2b Xl.here hx rfl (hb hby dC5_30) rfl kq) ?_
    obtain ⟨cl3, Ar3, q3, S_3, N_3, H_3, G_3⟩ := id Vl
    have in3 : ¬ ((Int32.ofNat i) < 0 ∨ cl3.slots.size ≤ ((Int32.ofNat i)).toNatClampNeg) := inb_of S_3 ⟨(own_n0 (by omega)), (own_ilt (by omega) (by omega))⟩
    obtain ⟨T3, h3, X3, e3, W3, st3⟩ := stB Xl hx hZ el Ar3 (j := (Int32.ofNat i)) in3 (g := (mkF m 31 #[vR b, vI (Int32.ofNat i), vR d, vI (Int32.ofNat i), vI (Int32.ofNat us.length), vI (Int32.ofNat i), vI (us.getD i 0)] [(.int ((us.getD i 0).toInt8.toInt32)), (.int (Int32.ofNat i)), (.ref d)])) rfl rfl (hb hby dC5_31)
    have V3 := Arv.set Ar3 q3 S_3 N_3 H_3 G_3 (fits_nar_byte _) W3 i (own_n32 (by omega)) (by omega)
    have sz3 : h.size ≤ h3.size := (Keep.of_wr W3).1
    have K3 : Keep h0 h3 [d] := Kl.wr W3 (Or.inl (by simp))
    have N3 := Fr.snoc X3 Nl (own_le (by omega))
    refine own_st st3 ?_
    refine own_st (fun tq kq => XS.iinc X3.here hx rfl (hb hby dC5_32) rfl (l' := #[vR b, vI ((Int32.ofNat i) + (1 : Int32)), vR d, vI (Int32.ofNat i), vI (Int32.ofNat us.length), vI (Int32.ofNat i), vI (us.getD i 0)]) rfl kq) ?_
    show own_G p e below _ (T3.setTop (mkF m 35 #[vR b, vI ((Int32.ofNat i) + (1 : Int32)), vR d, vI (Int32.ofNat i), vI (Int32.ofNat us.length), vI (Int32.ofNat i), vI (us.getD i 0)] []))
    rw [own_inc i]
    show own_G p e below _ (T3.setTop (mkF m 35 #[vR b, vI (Int32.ofNat (i + 1)), vR d, vI (Int32.ofNat i), vI (Int32.ofNat us.length), vI (Int32.ofNat i), vI (us.getD i 0)] []))
    refine own_st (fun tq kq => XS.iinc X3.here hx rfl (hb hby dC5_35) rfl (l' := #[vR b, vI (Int32.ofNat (i + 1)), vR d, vI ((Int32.ofNat i) + (1 : Int32)), vI (Int32.ofNat us.length), vI (Int32.ofNat i), vI (us.getD i 0)]) rfl kq) ?_
    show own_G p e below _ (T3.setTop (mkF m 38 #[vR b, vI (Int32.ofNat (i + 1)), vR d, vI ((Int32.ofNat i) + (1 : Int32)), vI (Int32.ofNat us.length), vI (Int32.ofNat i), vI (us.getD i 0)] []))
    rw [own_inc i]
    show own_G p e below _ (T3.setTop (mkF m 38 #[vR b, vI (Int32.ofNat (i + 1)), vR d, vI (Int32.ofNat (i + 1)), vI (Int32.ofNat us.length), vI (Int32.ofNat i), vI (us.getD i 0)] []))
    refine own_st (fun tq kq => XS.iinc X3.here hx rfl (hb hby dC5_38) rfl (l' := #[vR b, vI (Int32.ofNat (i + 1)), vR d, vI (Int32.ofNat (i + 1)), vI (Int32.ofNat us.length), vI ((Int32.ofNat i) + (1 : Int32)), vI (us.getD i 0)]) rfl kq) ?_
    show own_G p e below _ (T3.setTop (mkF m 41 #[vR b, vI (Int32.ofNat (i + 1)), vR d, vI (Int32.ofNat (i + 1)), vI (Int32.ofNat us.length), vI ((Int32.ofNat i) + (1 : Int32)), vI (us.getD i 0)] []))
    rw [own_inc i]
    show own_G p e below _ (T3.setTop (mkF m 41 #[vR b, vI (Int32.ofNat (i + 1)), vR d, vI (Int32.ofNat (i + 1)), vI (Int32.ofNat us.length), vI (Int32.ofNat (i + 1)), vI (us.getD i 0)] []))
    refine own_st (fun tq kq => XS.goto X3.here hx rfl (pc0 := 41) (pc' := 3) rfl (hb hby dC5_41) (by decide) (by decide) kq) ?_
    show own_G p e below _ (T3.setTop (mkF m 3 #[vR b, vI (Int32.ofNat (i + 1)), vR d, vI (Int32.ofNat (i + 1)), vI (Int32.ofNat us.length), vI (Int32.ofNat (i + 1)), vI (us.getD i 0)] []))
    exact ih T3 h3 _ (i + 1) (vs.set i _) (vI (us.getD i 0)) X3 e3 N3 K3 (by omega) (Or.inr ⟨_, rfl, rfl⟩) (by rw [List.length_set]; omega) (own_lows hlo hc20_2) V3
 refine own_st (fun tq kq => castTop (ef_own_cm5 m (b) (d) ((Int32.ofNat us.length))) kq) ?_
 show own_G p e below _ (s₁.setTop (mkF m 0 #[vR b, vI 0, vR d, vI 0, vI (Int32.ofNat us.length), .unset, .unset] []))
 refine s_iconst X0 hx (hb hby dC5_0) ?_
 refine own_st (fun tq kq => XS.istore X0.here hx rfl (hb hby dC5_1) rfl (l' := #[vR b, vI 0, vR d, vI 0, vI (Int32.ofNat us.length), vI 0, .unset]) rfl kq) ?_
 show own_G p e below _ (s₁.setTop (mkF m 3 #[vR b, vI 0, vR d, vI 0, vI (Int32.ofNat us.length), vI 0, .unset] []))
 exact loop us.length s₁ h0 _ 0 vs (.unset) X0 e0 N0 K0 (by omega) (Or.inl rfl) hvs (fun j hj => absurd hj (Nat.not_lt_zero j)) Vd

def Q_own_toB (Z : State) (b : Nat) (kC : ClassId) (dv : Value) (us : List Int32) (h0 : Heap) (n0 : Nat) (v : Option Value) (h : Heap) (L : List Loc) : Prop := ∃ (t : Nat) (kb : ClassId), v = some (.ref t) ∧ Fr n0 L ∧ Keep h0 h [] ∧ h0.size ≤ t ∧ t < h.size ∧ Arv Z h t kb .byte (Int32.ofNat (2 * us.length)) (own_wb us) (.int 0)
theorem ef_own_toB (m : MethodId) (x0 : Nat) (x2 : Int32) : entryFrame m #[(.ref x0), (.int 0), (.int x2)] 5 = mkF m 0 #[.val (.ref x0), .val (.int 0), .val (.int x2), .unset, .unset] [] := by first | (simp [entryFrame, mkF, argsToLocals, Value.category]; done) | rfl
theorem own_toB (l : Launch) (Z : State) (a0 : Array Value) (hw : hWt a0 Z) (ws : List Jvm.Cond) (b : Nat) (kC : ClassId) (dv : Value) (us : List Int32) (h0 : Heap) (n0 : Nat) (Z0 : n0 ≤ h0.size) (X00 : Old Z n0 h0) (OA : oA Z) (OH : oH Z) (OL : oL Z) (Vb : Arv Z h0 b kC .char (Int32.ofNat us.length) (us.map Value.int) dv) (hu : us.length ≤ 34) :
 own_MN l mN9 jdk_52_method_14_code 5 (some (.array .byte)) ws rm_2_1_68_40 Z #[(.ref b), (.int 0), (.int (Int32.ofNat us.length))] h0 (Q_own_toB Z b kC dv us h0 n0) := by
 refine own_bodyN (plainFor_of_name own_pn2) fun p e s m below meth c s₁ Bd hx hby hml hown hZ X0 e0 => ?_
 have N0 := Fr.nil n0
 have K0 : Keep h0 h0 [] := Keep.refl h0 []
 have ltb : b < h0.size := Vb.lt
 have loop : ∀ (jk : Nat) (T : State) (h : Heap) (Lc : List Loc) (i o d : Nat) (kd : ClassId) (ps : List Int32), Stand p l e rm_2_1_68_40 s m #[(.ref b), (.int 0), (.int (Int32.ofNat us.length))] below meth c T Lc 1 68 → T.heap = h → Fr n0 Lc → Keep h0 h [] → (i + jk = us.length) → (ps = us.take i) → (ps.length = o) → (h0.size ≤ d) → (Arv Z h d kd .byte (Int32.ofNat (2 * us.length)) (own_wm us.length ps) (.int 0)) → own_G p e below (own_EN (Q_own_toB Z b kC dv us h0 n0) rm_2_1_68_40 #[(.ref b), (.int 0), (.int (Int32.ofNat us.length))] s) (T.setTop (mkF m 8 #[vR b, vI (Int32.ofNat i), vI (Int32.ofNat us.length), vR d, vI (Int32.ofNat o)] [])) := by
  intro jk
  induction jk with
  | zero =>
   intro T h Lc i o d kd ps Xl el Nl Kl hik hps ho gd Vl
   have szl : h0.size ≤ h.size := Kl.1
   subst ho
   have hpl : ps.length = i := by rw [hps, List.length_take]; omega
   show own_G p e below _ (T.setTop (mkF m 8 #[vR b, vI (Int32.ofNat i), vI (Int32.ofNat us.length), vR d, vI (Int32.ofNat ps.length)] []))
   refine own_st (fun tq kq => XS.iload Xl.here hx rfl (hb hby dTO_8) rfl  kq) ?_
   refine own_st (fun tq kq => XS.iloadN Xl.here hx rfl (hb hby dTO_10) rfl  kq) ?_
   show own_G p e below _ (T.setTop (mkF m 11 #[vR b, vI (Int32.ofNat i), vI (Int32.ofNat us.length), vR d, vI (Int32.ofNat ps.length)] [(.int (Int32.ofNat us.length)), (.int (Int32.ofNat ps.length))]))
   refine own_st (fun tq kq => XS.icmpYes Xl.here hx rfl (pc0 := 11) (pc' := 32) rfl (hb hby dTO_11) rfl (flt (own_inlt (by omega) (by omega))).2.1 (by decide) (by decide) kq) ?_
   refine own_st (fun tq kq => XS.aloadN Xl.here hx rfl (hb hby dTO_32) rfl rfl kq) ?_
   show own_G p e below _ (T.setTop (mkF m 33 #[vR b, vI (Int32.ofNat i), vI (Int32.ofNat us.length), vR d, vI (Int32.ofNat ps.length)] [(.ref d)]))
   exact own_retN Xl (v := some (.ref d)) (fun h => by rw [Bd.returns] at h; cases h) Bd.notSynchronized (fun fs hr => retOut Xl hx Bd.returns rfl (Or.inr (Or.inr (Or.inr (Or.inr ⟨rfl, rfl, rfl⟩)))) (hb hby dTO_33) hr) (by decide) (by decide) (by rw [el]; exact ⟨d, _, rfl, Nl, Kl, gd, Vl.lt, (by have q := Vl; rw [hps, List.take_of_length_le (by omega), own_wm_all] at q; exact q)⟩)
  | succ jk ih =>
   intro T h Lc i o d kd ps Xl el Nl Kl hik hps ho gd Vl
   have szl : h0.size ≤ h.size := Kl.1
   subst ho
   have hpl : ps.length = i := by rw [hps, List.length_take]; omega
   show own_G p e below _ (T.setTop (mkF m 8 #[vR b, vI (Int32.ofNat i), vI (Int32.ofNat us.length), vR d, vI (Int32.ofNat ps.length)] []))
   refine own_st (fun tq kq => XS.iload Xl.here hx rfl (hb hby dTO_8) rfl  kq) ?_
   refine own_st (fun tq kq => XS.iloadN Xl.here hx rfl (hb hby dTO_10) rfl  kq) ?_
   show own_G p e below _ (T.setTop (mkF m 11 #[vR b, vI (Int32.ofNat i), vI (Int32.ofNat us.length), vR d, vI (Int32.ofNat ps.length)] [(.int (Int32.ofNat us.length)), (.int (Int32.ofNat ps.length))]))
   refine own_st (fun tq kq => XS.icmpNo Xl.here hx rfl (hb hby dTO_11) rfl (tlt (own_ilt (by omega) (by omega))).2.1 kq) ?_
   refine own_st (fun tq kq => XS.aloadN Xl.here hx rfl (hb hby dTO_14) rfl rfl kq) ?_
   refine own_st (fun tq kq => XS.iload Xl.here hx rfl (hb hby dTO_15) rfl  kq) ?_
   refine own_st (fun tq kq => XS.aloadN Xl.here hx rfl (hb hby dTO_17) rfl rfl kq) ?_
   refine own_st (fun tq kq => XS.iloadN Xl.here hx rfl (hb hby dTO_18) rfl  kq) ?_
   obtain ⟨cl1, Ar1, q1, S_1, N_1, H_1, G_1⟩ := id (Vb.keep Kl nin0)
   have in1 : ¬ ((Int32.ofNat i) < 0 ∨ cl1.slots.size ≤ ((Int32.ofNat i)).toNatClampNeg) := inb_of S_1 ⟨(own_n0 (by omega)), (own_ilt (by omega) (by omega))⟩
   have at1 : cl1.slots[((Int32.ofNat i)).toNatClampNeg]? = some (.int (us.getD i 0)) := H_1.at in1 (by rw [own_n32 (by omega)]; exact own_miAtD (by omega))
   refine own_st (fun tq kq => Xl.caload hx (j := (Int32.ofNat i)) (v := (.int (us.getD i 0))) (by rw [el]; exact Ar1.1) (State.isArrayOf_alike hZ.alike Ar1.2.1) Ar1.2.2 in1 at1 (g := (mkF m 19 #[vR b, vI (Int32.ofNat i), vI (Int32.ofNat us.length), vR d, vI (Int32.ofNat ps.length)] [(.int (Int32.ofNat i)), (.ref b), (.int (Int32.ofNat ps.length)), (.ref d)])) rfl rfl (hb hby dTO_19) _ kq) ?_
   obtain ⟨_, _, ⟨T2, L2, k2, n2⟩, -, X2, ⟨Lc2, hQ2, l2, y2, z2⟩, st2⟩ := Jvm.LawKit.callS Xl hx (y := mN6) hown (mvT hZ (wd223 hw)) (mvT hZ (wd224 hw)) (mvT hZ (wd26 hw)) (mvT hZ (wd225 hw)) (by decide) (own_backN (W := 0) (own_pc l Z a0 hw [] (d) (ps.length) ((2 * us.length)) (kd) ((us.getD i 0)) ((own_wm us.length ps)) h n0 (by omega) (X00.keep Kl all0) OA OH OL Vl (own_wm_len (by omega)) (by omega) (by omega) (by omega)) hZ (wd225 hw) (wd26 hw) (by decide) (by decide)) (g := (mkF m 20 #[vR b, vI (Int32.ofNat i), vI (Int32.ofNat us.length), vR d, vI (Int32.ofNat ps.length)] [(.int (us.getD i 0)), (.int (Int32.ofNat ps.length)), (.ref d)])) rfl (by rw [hml]; rfl) (argsL := [(.ref d), (.int (Int32.ofNat ps.length)), (.int (us.getD i 0))]) (rest := []) (lenOf own_pd2 rfl) rfl (Nat.le_of_eq rfl) (hb hby dTO_20) (fun _ _ => ⟨rfl, el, (by decide : 1 + 0 ≤ _), (by decide : 68 + 0 ≤ _)⟩)
   dsimp only [Pt.U, Pt.locs, Pt.cells, Pt.slots] at X2 l2 y2 z2 st2 hQ2
   subst l2 y2 z2
   obtain ⟨rfl, Nq2, Kq2, Vp2⟩ := hQ2
   have KK2 : Keep h T2.heap [d] := Kq2
   have sz2 : h.size ≤ T2.heap.size := KK2.1
   have K2 : Keep h0 T2.heap [] := Kl.trans KK2 (allS (Or.inr (own_le (by omega))) all0)
   have N2 := Fr.app Nl Nq2
   rw [own_wputM (by omega)] at Vp2
   refine own_st st2 ?_
   refine own_st (fun tq kq => XS.iinc X2.here hx rfl (hb hby dTO_23) rfl (l' := #[vR b, vI ((Int32.ofNat i) + (1 : Int32)), vI (Int32.ofNat us.length), vR d, vI (Int32.ofNat ps.length)]) rfl kq) ?_
   show own_G p e below _ (T2.setTop (mkF m 26 #[vR b, vI ((Int32.ofNat i) + (1 : Int32)), vI (Int32.ofNat us.length), vR d, vI (Int32.ofNat ps.length)] []))
   rw [own_inc i]
   show own_G p e below _ (T2.setTop (mkF m 26 #[vR b, vI (Int32.ofNat (i + 1)), vI (Int32.ofNat us.length), vR d, vI (Int32.ofNat ps.length)] []))
   refine own_st (fun tq kq => XS.iinc X2.here hx rfl (hb hby dTO_26) rfl (l' := #[vR b, vI (Int32.ofNat (i + 1)), vI (Int32.ofNat us.length), vR d, vI ((Int32.ofNat ps.length) + (1 : Int32))]) rfl kq) ?_
   show own_G p e below _ (T2.setTop (mkF m 29 #[vR b, vI (Int32.ofNat (i + 1)), vI (Int32.ofNat us.length), vR d, vI ((Int32.ofNat ps.length) + (1 : Int32))] []))
   rw [own_inc ps.length]
   show own_G p e below _ (T2.setTop (mkF m 29 #[vR b, vI (Int32.ofNat (i + 1)), vI (Int32.ofNat us.length), vR d, vI (Int32.ofNat (ps.length + 1))] []))
   refine own_st (fun tq kq => XS.goto X2.here hx rfl (pc0 := 29) (pc' := 8) rfl (hb hby dTO_29) (by decide) (by decide) kq) ?_
   show own_G p e below _ (T2.setTop (mkF m 8 #[vR b, vI (Int32.ofNat (i + 1)), vI (Int32.ofNat us.length), vR d, vI (Int32.ofNat (ps.length + 1))] []))
   exact ih T2 T2.heap _ (i + 1) (ps.length + 1) d kd (ps ++ [us.getD i 0]) X2 rfl N2 K2 (by omega) (by rw [hps, own_take (by omega)]) (by simp) gd Vp2
 refine own_st (fun tq kq => castTop (ef_own_toB m (b) ((Int32.ofNat us.length))) kq) ?_
 show own_G p e below _ (s₁.setTop (mkF m 0 #[vR b, vI 0, vI (Int32.ofNat us.length), .unset, .unset] []))
 refine s_iloadN X0 hx (hb hby dTO_0) rfl ?_
 obtain ⟨_, _, ⟨T3, L3, k3, n3⟩, -, X3, ⟨Lc3, hQ3, l3, y3, z3⟩, st3⟩ := Jvm.LawKit.callS X0 hx (y := mN5) hown (mvT hZ (wd216 hw)) (mvT hZ (wd217 hw)) (mvT hZ (wd26 hw)) (mvT hZ (wd218 hw)) (by decide) (own_backN (W := 0) (own_nbf l Z a0 hw [] (us.length) h0 n0 (by omega) (X00.keep K0 all0) (by omega)) hZ (wd218 hw) (wd26 hw) (by decide) (by decide)) (g := (mkF m 1 #[vR b, vI 0, vI (Int32.ofNat us.length), .unset, .unset] [(.int (Int32.ofNat us.length))])) rfl (by rw [hml]; rfl) (argsL := [(.int (Int32.ofNat us.length))]) (rest := []) (lenOf own_pd3 rfl) rfl (Nat.le_of_eq rfl) (hb hby dTO_1) (fun _ _ => ⟨rfl, e0, (by decide : 0 + 1 ≤ _), (by decide : 0 + 68 ≤ _)⟩)
 dsimp only [Pt.U, Pt.locs, Pt.cells, Pt.slots] at X3 l3 y3 z3 st3 hQ3
 subst l3 y3 z3
 obtain ⟨t3, kb3, rfl, Nq3, Kq3, gt3, lt3, Vt3⟩ := hQ3
 have KK3 : Keep h0 T3.heap [] := Kq3
 have sz3 : h0.size ≤ T3.heap.size := KK3.1
 have K3 : Keep h0 T3.heap [] := K0.trans KK3 all0
 have N3 := Fr.app N0 Nq3
 refine own_st st3 ?_
 refine own_st (fun tq kq => XS.astoreN X3.here hx rfl (hb hby dTO_4) rfl rfl (l' := #[vR b, vI 0, vI (Int32.ofNat us.length), vR t3, .unset]) rfl kq) ?_
 refine s_iconst X3 hx (hb hby dTO_5) ?_
 refine own_st (fun tq kq => XS.istore X3.here hx rfl (hb hby dTO_6) rfl (l' := #[vR b, vI 0, vI (Int32.ofNat us.length), vR t3, vI 0]) rfl kq) ?_
 show own_G p e below _ (T3.setTop (mkF m 8 #[vR b, vI 0, vI (Int32.ofNat us.length), vR t3, vI 0] []))
 exact loop us.length T3 T3.heap _ 0 0 t3 kb3 [] X3 rfl N3 K3 (by omega) (by simp) rfl (by omega) Vt3

def Q_own_cfl (Z : State) (t : Nat) (kb : ClassId) (us : List Int32) (vs : List Value) (h0 : Heap) (n0 : Nat) (v : Option Value) (h : Heap) (L : List Loc) : Prop := v = some (.int (1 : Int32)) ∧ Fr n0 L ∧ h = h0
theorem own_cfl (l : Launch) (Z : State) (a0 : Array Value) (hw : hWt a0 Z) (ws : List Jvm.Cond) (t : Nat) (kb : ClassId) (us : List Int32) (vs : List Value) (h0 : Heap) (n0 : Nat) (Z0 : n0 ≤ h0.size) (X00 : Old Z n0 h0) (Vt : Arv Z h0 t kb .byte (Int32.ofNat (2 * us.length)) vs (.int 0)) (h1 : 1 ≤ us.length) (hu : us.length ≤ 34) :
 own_MN l mN10 jdk_52_method_15_code 2 (some .byte) ws rm_0_0_0_0 Z #[(.ref t), (.int (Int32.ofNat us.length))] h0 (Q_own_cfl Z t kb us vs h0 n0) := by
 refine own_bodyN (plainFor_of_name own_pn2) fun p e s m below meth c s₁ Bd hx hby hml hown hZ X0 e0 => ?_
 have N0 := Fr.nil n0
 have K0 : Keep h0 h0 [] := Keep.refl h0 []
 refine own_st (fun tq kq => castTop (ef_own_gc m (t) ((Int32.ofNat us.length))) kq) ?_
 show own_G p e below _ (s₁.setTop (mkF m 0 #[vR t, vI (Int32.ofNat us.length)] []))
 refine s_iloadN X0 hx (hb hby dCL_0) rfl ?_
 refine s_aloadN X0 hx (hb hby dCL_1) rfl rfl ?_
 obtain ⟨cl1, Ar1, q1, S_1, N_1, H_1, G_1⟩ := id Vt
 refine own_st (fun tq kq => X0.arraylength hx (by rw [e0]; exact Ar1.1) (State.isArrayOf_alike hZ.alike Ar1.2.1) (g := (mkF m 2 #[vR t, vI (Int32.ofNat us.length)] [(.ref t), (.int (Int32.ofNat us.length))])) rfl rfl (hb hby dCL_2) _ kq) ?_
 rw [len_of S_1 N_1]
 show own_G p e below _ (s₁.setTop (mkF m 3 #[vR t, vI (Int32.ofNat us.length)] [(.int (Int32.ofNat (2 * us.length))), (.int (Int32.ofNat us.length))]))
 refine own_st (fun tq kq => XS.isub X0.here hx rfl (hb hby dCL_3) rfl kq) ?_
 refine s_bipush X0 hx (hb hby dCL_4) ?_
 refine own_st (fun tq kq => XS.iushr X0.here hx rfl (hb hby dCL_6) rfl kq) ?_
 refine own_st (fun tq kq => XS.i2b X0.here hx rfl (hb hby dCL_7) rfl kq) ?_
 show own_G p e below _ (s₁.setTop (mkF m 8 #[vR t, vI (Int32.ofNat us.length)] [(.int (((((Int32.ofNat us.length) - (Int32.ofNat (2 * us.length))).toUInt32 >>> ((31 : Int32) &&& 31).toUInt32).toInt32).toInt8.toInt32))]))
 exact own_retN X0 (v := some (.int (nar .byte (((((Int32.ofNat us.length) - (Int32.ofNat (2 * us.length))).toUInt32 >>> ((31 : Int32) &&& 31).toUInt32).toInt32).toInt8.toInt32)))) (fun h => by rw [Bd.returns] at h; cases h) Bd.notSynchronized (fun fs hr => retN X0 hx (z := (((((Int32.ofNat us.length) - (Int32.ofNat (2 * us.length))).toUInt32 >>> ((31 : Int32) &&& 31).toUInt32).toInt32).toInt8.toInt32)) (t := .byte) Bd.returns (by simp) (hb hby dCL_8) hr) (by decide) (by decide) (by rw [e0]; exact ⟨congrArg (fun z => some (Value.int z)) (own_cfl1 h1 hu), N0, rfl⟩)

def Q_own_cm3 (Z : State) (b : Nat) (kC : ClassId) (dv : Value) (us : List Int32) (h0 : Heap) (n0 : Nat) (v : Option Value) (h : Heap) (L : List Loc) : Prop := ∃ (t : Nat) (kb : ClassId), v = some (.ref t) ∧ Fr n0 L ∧ Keep h0 h [] ∧ h0.size ≤ t ∧ t < h.size ∧ Arv Z h t kb .byte (Int32.ofNat (2 * us.length)) (own_wb us) (.int 0)
theorem ef_own_cm3 (m : MethodId) (x0 : Nat) (x2 : Int32) : entryFrame m #[(.ref x0), (.int 0), (.int x2)] 6 = mkF m 0 #[.val (.ref x0), .val (.int 0), .val (.int x2), .unset, .unset, .unset] [] := by first | (simp [entryFrame, mkF, argsToLocals, Value.category]; done) | rfl
theorem own_cm3 (l : Launch) (Z : State) (a0 : Array Value) (hw : hWt a0 Z) (ws : List Jvm.Cond) (b : Nat) (kC : ClassId) (dv : Value) (us : List Int32) (h0 : Heap) (n0 : Nat) (Z0 : n0 ≤ h0.size) (X00 : Old Z n0 h0) (OA : oA Z) (OH : oH Z) (OL : oL Z) (Vb : Arv Z h0 b kC .char (Int32.ofNat us.length) (us.map Value.int) dv) (hu : us.length ≤ 34) (hex : ∃ c ∈ us, 255 < c) (hbb : ∀ c ∈ us, ¬ c < 0 ∧ ¬ (65535 : Int32) < c) :
 own_MN l mN11 jdk_52_method_16_code 6 (some (.array .byte)) ws rm_3_2_102_70 Z #[(.ref b), (.int 0), (.int (Int32.ofNat us.length))] h0 (Q_own_cm3 Z b kC dv us h0 n0) := by
 refine own_bodyN (plainFor_of_name own_pn2) fun p e s m below meth c s₁ Bd hx hby hml hown hZ X0 e0 => ?_
 have N0 := Fr.nil n0
 have K0 : Keep h0 h0 [] := Keep.refl h0 []
 refine own_st (fun tq kq => castTop (ef_own_cm3 m (b) ((Int32.ofNat us.length))) kq) ?_
 show own_G p e below _ (s₁.setTop (mkF m 0 #[vR b, vI 0, vI (Int32.ofNat us.length), .unset, .unset, .unset] []))
 have ltb : b < h0.size := Vb.lt
 refine s_iloadN X0 hx (hb hby dC3_0) rfl ?_
 obtain ⟨T1, h1, k1, X1, e1, E1, A1, st1⟩ := newP X0 hx hZ (hw _ (List.mem_of_getElem? (i := 6) rfl)) e0 (g := (mkF m 1 #[vR b, vI 0, vI (Int32.ofNat us.length), .unset, .unset, .unset] [(.int (Int32.ofNat us.length))])) rfl (hb hby dC3_1) rfl (own_n0 (by omega)) (cap := 34) (by rw [own_n32 (by omega)]; omega) (by decide) (by decide) (by decide)
 obtain ⟨b1, g1⟩ : ∃ z, z = h0.size := ⟨_, rfl⟩
 rw [← g1] at A1 st1
 have lt1 : b1 < h1.size := A1.lt
 have V1 : Arv Z h1 b1 k1 .byte (Int32.ofNat us.length) (List.replicate us.length (.int (0 : Int32))) (.int (0 : Int32)) := (Arv.new A1 (own_n0 (by omega))).pad (pad_rep [] (.int (0 : Int32)) us.length)
 have sz1 : h0.size ≤ h1.size := E1.1
 have K1 : Keep h0 h1 [] := K0.ext E1
 refine own_st st1 ?_
 refine own_st (fun tq kq => XS.astoreN X1.here hx rfl (hb hby dC3_3) rfl rfl (l' := #[vR b, vI 0, vI (Int32.ofNat us.length), vR b1, .unset, .unset]) rfl kq) ?_
 refine s_aloadN X1 hx (hb hby dC3_4) rfl rfl ?_
 refine s_iloadN X1 hx (hb hby dC3_5) rfl ?_
 refine s_aloadN X1 hx (hb hby dC3_6) rfl rfl ?_
 refine s_iconst X1 hx (hb hby dC3_7) ?_
 refine s_iloadN X1 hx (hb hby dC3_8) rfl ?_
 obtain ⟨_, _, ⟨T2, L2, k2, n2⟩, -, X2, ⟨Lc2, hQ2, l2, y2, z2⟩, st2⟩ := Jvm.LawKit.callS X1 hx (y := mN8) hown (mvT hZ (wd28 hw)) (mvT hZ (wd29 hw)) (mvT hZ (wd26 hw)) (mvT hZ (wd30 hw)) (by decide) (own_backN (W := 0) (own_cm5 l Z a0 hw [] (b) (kC) (dv) (us) (b1) (k1) ((List.replicate us.length (.int (0 : Int32)))) h1 n0 (by omega) (X00.keep K1 all0) (Vb.ext E1) V1 (List.length_replicate) (by omega) (own_ne (by omega)) hex hu) hZ (wd30 hw) (wd26 hw) (by decide) (by decide)) (g := (mkF m 9 #[vR b, vI 0, vI (Int32.ofNat us.length), vR b1, .unset, .unset] [(.int (Int32.ofNat us.length)), (.int 0), (.ref b1), (.int 0), (.ref b)])) rfl (by rw [hml]; rfl) (argsL := [(.ref b), (.int 0), (.ref b1), (.int 0), (.int (Int32.ofNat us.length))]) (rest := []) (lenOf own_pd4 rfl) rfl (Nat.le_of_eq rfl) (hb hby dC3_9) (fun _ _ => ⟨rfl, e1, (by decide : 1 + 0 ≤ _), (by decide : 34 + 0 ≤ _)⟩)
 dsimp only [Pt.U, Pt.locs, Pt.cells, Pt.slots] at X2 l2 y2 z2 st2 hQ2
 subst l2 y2 z2
 obtain ⟨kk, hkk, rfl, hbig, Nq2, Kq2⟩ := hQ2
 have KK2 : Keep h1 T2.heap [b1] := Kq2
 have sz2 : h1.size ≤ T2.heap.size := KK2.1
 have K2 : Keep h0 T2.heap [] := K1.trans KK2 (allS (Or.inr (own_le (by omega))) all0)
 have N2 := Fr.app N0 Nq2
 refine own_st st2 ?_
 refine own_st (fun tq kq => XS.istore X2.here hx rfl (hb hby dC3_12) rfl (l' := #[vR b, vI 0, vI (Int32.ofNat us.length), vR b1, vI (Int32.ofNat kk), .unset]) rfl kq) ?_
 refine s_iload X2 hx (hb hby dC3_14) rfl ?_
 refine s_iloadN X2 hx (hb hby dC3_16) rfl ?_
 show own_G p e below _ (T2.setTop (mkF m 17 #[vR b, vI 0, vI (Int32.ofNat us.length), vR b1, vI (Int32.ofNat kk), .unset] [(.int (Int32.ofNat us.length)), (.int (Int32.ofNat kk))]))
 refine own_st (fun tq kq => XS.icmpNo X2.here hx rfl (hb hby dC3_17) rfl (feq (own_ofne (by omega) (by omega) (by omega))).1 kq) ?_
 refine s_aloadN X2 hx (hb hby dC3_20) rfl rfl ?_
 refine s_iloadN X2 hx (hb hby dC3_21) rfl ?_
 refine s_iloadN X2 hx (hb hby dC3_22) rfl ?_
 obtain ⟨_, _, ⟨T3, L3, k3, n3⟩, -, X3, ⟨Lc3, hQ3, l3, y3, z3⟩, st3⟩ := Jvm.LawKit.callS X2 hx (y := mN9) hown (mvT hZ (wd213 hw)) (mvT hZ (wd214 hw)) (mvT hZ (wd26 hw)) (mvT hZ (wd215 hw)) (by decide) (own_backN (W := 0) (own_toB l Z a0 hw [] (b) (kC) (dv) (us) T2.heap n0 (by omega) (X00.keep K2 all0) OA OH OL ((Vb.ext E1).keep KK2 (ninS (own_ne (by omega)) nin0)) hu) hZ (wd215 hw) (wd26 hw) (by decide) (by decide)) (g := (mkF m 23 #[vR b, vI 0, vI (Int32.ofNat us.length), vR b1, vI (Int32.ofNat kk), .unset] [(.int (Int32.ofNat us.length)), (.int 0), (.ref b)])) rfl (by rw [hml]; rfl) (argsL := [(.ref b), (.int 0), (.int (Int32.ofNat us.length))]) (rest := []) (lenOf own_pd5 rfl) rfl (Nat.le_of_eq rfl) (hb hby dC3_23) (fun _ _ => ⟨rfl, rfl, (by decide : 1 + 1 ≤ _), (by decide : 34 + 68 ≤ _)⟩)
 dsimp only [Pt.U, Pt.locs, Pt.cells, Pt.slots] at X3 l3 y3 z3 st3 hQ3
 subst l3 y3 z3
 obtain ⟨t3, kb3, rfl, Nq3, Kq3, gt3, lt3, Vt3⟩ := hQ3
 have KK3 : Keep T2.heap T3.heap [] := Kq3
 have sz3 : T2.heap.size ≤ T3.heap.size := KK3.1
 have K3 : Keep h0 T3.heap [] := K2.trans KK3 all0
 have N3 := Fr.app N2 Nq3
 refine own_st st3 ?_
 refine own_st (fun tq kq => XS.astore X3.here hx rfl (hb hby dC3_26) rfl rfl (l' := #[vR b, vI 0, vI (Int32.ofNat us.length), vR b1, vI (Int32.ofNat kk), vR t3]) rfl kq) ?_
 refine s_aload X3 hx (hb hby dC3_28) rfl rfl ?_
 refine s_iload X3 hx (hb hby dC3_30) rfl ?_
 obtain ⟨_, _, ⟨T4, L4, k4, n4⟩, -, X4, ⟨Lc4, hQ4, l4, y4, z4⟩, st4⟩ := Jvm.LawKit.callS X3 hx (y := mN7) hown (mvT hZ (wd229 hw)) (mvT hZ (wd230 hw)) (mvT hZ (wd26 hw)) (mvT hZ (wd231 hw)) (by decide) (own_backN (W := 0) (own_gc l Z a0 hw [] (t3) (kk) (kb3) (us) T3.heap n0 (by omega) (X00.keep K3 all0) OA OH OL Vt3 hkk hu hbb) hZ (wd231 hw) (wd26 hw) (by decide) (by decide)) (g := (mkF m 32 #[vR b, vI 0, vI (Int32.ofNat us.length), vR b1, vI (Int32.ofNat kk), vR t3] [(.int (Int32.ofNat kk)), (.ref t3)])) rfl (by rw [hml]; rfl) (argsL := [(.ref t3), (.int (Int32.ofNat kk))]) (rest := []) (lenOf own_pd6 rfl) rfl (Nat.le_of_eq rfl) (hb hby dC3_32) (fun _ _ => ⟨rfl, rfl, (by decide : 2 + 0 ≤ _), (by decide : 102 + 0 ≤ _)⟩)
 dsimp only [Pt.U, Pt.locs, Pt.cells, Pt.slots] at X4 l4 y4 z4 st4 hQ4
 subst l4 y4 z4
 obtain ⟨rfl, Nq4, sm4⟩ := hQ4
 have N4 := Fr.app N3 Nq4
 refine own_st st4 ?_
 refine s_sipush X4 hx (hb hby dC3_35) ?_
 show own_G p e below _ (T4.setTop (mkF m 38 #[vR b, vI 0, vI (Int32.ofNat us.length), vR b1, vI (Int32.ofNat kk), vR t3] [(.int 255), (.int (us.getD kk 0))]))
 refine own_st (fun tq kq => XS.icmpYes X4.here hx rfl (pc0 := 38) (pc' := 54) rfl (hb hby dC3_38) rfl (tlt hbig).2.2.1 (by decide) (by decide) kq) ?_
 refine s_aload X4 hx (hb hby dC3_54) rfl rfl ?_
 show own_G p e below _ (T4.setTop (mkF m 56 #[vR b, vI 0, vI (Int32.ofNat us.length), vR b1, vI (Int32.ofNat kk), vR t3] [(.ref t3)]))
 exact own_retN X4 (v := some (.ref t3)) (fun h => by rw [Bd.returns] at h; cases h) Bd.notSynchronized (fun fs hr => retOut X4 hx Bd.returns rfl (Or.inr (Or.inr (Or.inr (Or.inr ⟨rfl, rfl, rfl⟩)))) (hb hby dC3_56) hr) (by decide) (by decide) (by rw [sm4]; exact ⟨t3, _, rfl, N4, K3, (by omega), Vt3.lt, Vt3⟩)

def Q_own_n4 (Z : State) (b : Nat) (kC : ClassId) (dv : Value) (us : List Int32) (x : Nat) (v0 c_0 : Value) (G1 : Int32) (h0 : Heap) (n0 : Nat) (v : Option Value) (h : Heap) (L : List Loc) : Prop := v = none ∧ Fr n0 L ∧ Keep h0 h [x] ∧ ∃ (t : Nat) (kb : ClassId), Fld Z h x "java/lang/String" "value" "[B" (.ref t) ∧ Fld Z h x "java/lang/String" "coder" "B" (.int (1 : Int32)) ∧ Arv Z h t kb .byte (Int32.ofNat (2 * us.length)) (own_wb us) (.int 0)
theorem ef_own_n4 (m : MethodId) (x0 : Nat) (x1 : Nat) (x3 : Int32) : entryFrame m #[(.ref x0), (.ref x1), (.int 0), (.int x3), .null] 6 = mkF m 0 #[.val (.ref x0), .val (.ref x1), .val (.int 0), .val (.int x3), .val .null, .unset] [] := by first | (simp [entryFrame, mkF, argsToLocals, Value.category]; done) | rfl
theorem own_n4 (l : Launch) (Z : State) (a0 : Array Value) (hw : hWt a0 Z) (ws : List Jvm.Cond) (b : Nat) (kC : ClassId) (dv : Value) (us : List Int32) (x : Nat) (v0 c_0 : Value) (G1 : Int32) (h0 : Heap) (n0 : Nat) (Z0 : n0 ≤ h0.size) (X00 : Old Z n0 h0) (Ex : Exa Z h0 x "java/lang/String") (Fv : Fld Z h0 x "java/lang/String" "value" "[B" v0) (Fc : Fld Z h0 x "java/lang/String" "coder" "B" c_0) (gx : n0 ≤ x) (ltx : x < h0.size) (Vb : Arv Z h0 b kC .char (Int32.ofNat us.length) (us.map Value.int) dv) (hu : us.length ≤ 34) (hex : ∃ c ∈ us, 255 < c) (hbb : ∀ c ∈ us, ¬ c < 0 ∧ ¬ (65535 : Int32) < c) (O2 : Sta Z Z.heap "java/lang/String" "COMPACT_STRINGS" "Z" (.int G1)) (P5 : ¬ (G1 = (0 : Int32))) (OA : oA Z) (OH : oH Z) (OL : oL Z) :
 own_MN l mN0 jdk_42_method_149_code 6 none ws rm_4_2_102_95 Z #[(.ref x), (.ref b), (.int 0), (.int (Int32.ofNat us.length)), .null] h0 (Q_own_n4 Z b kC dv us x v0 c_0 G1 h0 n0) := by
 refine own_bodyN (plainFor_of_name own_pn0) fun p e s m below meth c s₁ Bd hx hby hml hown hZ X0 e0 => ?_
 have hnm := (name_of_methodNamed Bd.named Bd.method).1
 have N0 := Fr.nil n0
 have K0 : Keep h0 h0 [x] := Keep.refl h0 [x]
 refine own_st (fun tq kq => castTop (ef_own_n4 m (x) (b) ((Int32.ofNat us.length))) kq) ?_
 show own_G p e below _ (s₁.setTop (mkF m 0 #[vR x, vR b, vI 0, vI (Int32.ofNat us.length), .val .null, .unset] []))
 have hws0 : ∀ y ∈ [x], n0 ≤ y := allS gx all0
 refine s_aloadN X0 hx (hb hby dS4_0) rfl rfl ?_
 obtain ⟨T1, X1, e1, st1⟩ := initO X0 hx hZ hown (wd20 hw) (wd21 hw) (wd22 hw) e0 (g := (mkF m 1 #[vR x, vR b, vI 0, vI (Int32.ofNat us.length), .val .null, .unset] [(.ref x)])) rfl (by rw [hml]; rfl) rfl (hb hby dS4_1) (by decide) (W := 0) (Nat.le_of_eq rfl) (by decide)
 refine own_st st1 ?_
 refine s_iloadN X1 hx (hb hby dS4_4) rfl ?_
 show own_G p e below _ (T1.setTop (mkF m 5 #[vR x, vR b, vI 0, vI (Int32.ofNat us.length), .val .null, .unset] [(.int (Int32.ofNat us.length))]))
 refine own_st (fun tq kq => XS.ifYes X1.here hx rfl (pc0 := 5) (pc' := 27) rfl (hb hby dS4_5) rfl ((if0 _ _).trans (feq (own_ofne (b := 0) (by have := own_hex1 hex; omega) (by omega) (by omega))).2) (by decide) (by decide) kq) ?_
 obtain ⟨T2, X2, e2, st2⟩ := getS2 X1 hx hZ hown (host := "") (Or.inl (wd23 hw)) Via.refl e1 (O2.ext (X00.keep K0 hws0).2) (g := (mkF m 27 #[vR x, vR b, vI 0, vI (Int32.ofNat us.length), .val .null, .unset] [])) rfl (hb hby dS4_27)
 refine own_st st2 ?_
 refine own_st (fun tq kq => XS.ifNo X2.here hx rfl (hb hby dS4_30) rfl ((if0 _ _).trans (feq P5).1) kq) ?_
 refine s_aloadN X2 hx (hb hby dS4_33) rfl rfl ?_
 refine s_iloadN X2 hx (hb hby dS4_34) rfl ?_
 refine s_iloadN X2 hx (hb hby dS4_35) rfl ?_
 obtain ⟨_, _, ⟨T3, L3, k3, n3⟩, -, X3, ⟨Lc3, hQ3, l3, y3, z3⟩, st3⟩ := Jvm.LawKit.callS X2 hx (y := mN11) hown (mvT hZ (wd24 hw)) (mvT hZ (wd25 hw)) (mvT hZ (wd26 hw)) (mvT hZ (wd27 hw)) (by decide) (own_backN (W := 0) (own_cm3 l Z a0 hw [] (b) (kC) (dv) (us) h0 n0 (by omega) (X00.keep K0 hws0) OA OH OL Vb hu hex hbb) hZ (wd27 hw) (wd26 hw) (by decide) (by decide)) (g := (mkF m 36 #[vR x, vR b, vI 0, vI (Int32.ofNat us.length), .val .null, .unset] [(.int (Int32.ofNat us.length)), (.int 0), (.ref b)])) rfl (by rw [hml]; rfl) (argsL := [(.ref b), (.int 0), (.int (Int32.ofNat us.length))]) (rest := []) (lenOf own_pd5 rfl) rfl (Nat.le_of_eq rfl) (hb hby dS4_36) (fun _ _ => ⟨rfl, e2, (by decide : 0 + 2 ≤ _), (by decide : 0 + 102 ≤ _)⟩)
 dsimp only [Pt.U, Pt.locs, Pt.cells, Pt.slots] at X3 l3 y3 z3 st3 hQ3
 subst l3 y3 z3
 obtain ⟨t3, kb3, rfl, Nq3, Kq3, gt3, lt3, Vt3⟩ := hQ3
 have KK3 : Keep h0 T3.heap [] := Kq3
 have sz3 : h0.size ≤ T3.heap.size := KK3.1
 have K3 : Keep h0 T3.heap [x] := K0.trans KK3 all0
 have N3 := Fr.app N0 Nq3
 refine own_st st3 ?_
 refine own_st (fun tq kq => XS.astore X3.here hx rfl (hb hby dS4_39) rfl rfl (l' := #[vR x, vR b, vI 0, vI (Int32.ofNat us.length), .val .null, vR t3]) rfl kq) ?_
 refine s_aloadN X3 hx (hb hby dS4_41) rfl rfl ?_
 refine s_aload X3 hx (hb hby dS4_42) rfl rfl ?_
 refine s_iloadN X3 hx (hb hby dS4_44) rfl ?_
 obtain ⟨_, _, ⟨T4, L4, k4, n4⟩, -, X4, ⟨Lc4, hQ4, l4, y4, z4⟩, st4⟩ := Jvm.LawKit.callS X3 hx (y := mN10) hown (mvT hZ (wd31 hw)) (mvT hZ (wd32 hw)) (mvT hZ (wd26 hw)) (mvT hZ (wd33 hw)) (by decide) (own_backN (W := 1) (own_cfl l Z a0 hw [] (t3) (_) (us) (_) T3.heap n0 (by omega) (X00.keep K3 hws0) Vt3 (own_hex1 hex) hu) hZ (wd33 hw) (wd26 hw) (by decide) (by decide)) (g := (mkF m 45 #[vR x, vR b, vI 0, vI (Int32.ofNat us.length), .val .null, vR t3] [(.int (Int32.ofNat us.length)), (.ref t3), (.ref x)])) rfl (by rw [hml]; rfl) (argsL := [(.ref t3), (.int (Int32.ofNat us.length))]) (rest := [(.ref x)]) (lenOf own_pd7 rfl) rfl (Nat.le_of_eq rfl) (hb hby dS4_45) (fun _ _ => ⟨rfl, rfl, (by decide : 2 + 0 ≤ _), (by decide : 102 + 0 ≤ _)⟩)
 dsimp only [Pt.U, Pt.locs, Pt.cells, Pt.slots] at X4 l4 y4 z4 st4 hQ4
 subst l4 y4 z4
 obtain ⟨rfl, Nq4, sm4⟩ := hQ4
 have N4 := Fr.app N3 Nq4
 refine own_st st4 ?_
 obtain ⟨T5, h5, X5, e5, W5, st5⟩ := putF X4 hx hZ hown (host := "") (Or.inl (wd34 hw)) Via.refl sm4 (Fc.keep KK3 nin0) (Ex.keep KK3) (Or.inr ⟨(wd35 hw), rfl, hnm⟩) (wd11 hw) (ty := .byte) (by decide) rfl rfl (g := (mkF m 48 #[vR x, vR b, vI 0, vI (Int32.ofNat us.length), .val .null, vR t3] [(.int 1), (.ref x)])) rfl rfl (hb hby dS4_48)
 have Fw5 := (Fc.keep KK3 nin0).same W5
 have sz5 : T3.heap.size ≤ h5.size := (Keep.of_wr W5).1
 have K5 : Keep h0 h5 [x] := K3.wr W5 (Or.inl (by simp))
 have N5 := Fr.snoc X5 N4 (own_le (by omega))
 refine own_st st5 ?_
 refine s_aloadN X5 hx (hb hby dS4_51) rfl rfl ?_
 refine s_aload X5 hx (hb hby dS4_52) rfl rfl ?_
 obtain ⟨T6, h6, X6, e6, W6, st6⟩ := putF X5 hx hZ hown (host := "") (Or.inl (wd36 hw)) Via.refl e5 ((Fv.keep KK3 nin0).other W5 (Or.inr (slot_ne (Or.inr (wd37 hw)) (Or.inr (wd35 hw)) (by decide) (t := (.array .byte)) (t' := .byte) (by decide) (by decide)))) ((Ex.keep KK3).wr W5) (Or.inr ⟨(wd37 hw), rfl, hnm⟩) (wd11 hw) (ty := (.array .byte)) (by decide) rfl rfl (g := (mkF m 54 #[vR x, vR b, vI 0, vI (Int32.ofNat us.length), .val .null, vR t3] [(.ref t3), (.ref x)])) rfl rfl (hb hby dS4_54)
 have Fw6 := ((Fv.keep KK3 nin0).other W5 (Or.inr (slot_ne (Or.inr (wd37 hw)) (Or.inr (wd35 hw)) (by decide) (t := (.array .byte)) (t' := .byte) (by decide) (by decide)))).same W6
 have sz6 : h5.size ≤ h6.size := (Keep.of_wr W6).1
 have K6 : Keep h0 h6 [x] := K5.wr W6 (Or.inl (by simp))
 have N6 := Fr.snoc X6 N5 (own_le (by omega))
 refine own_st st6 ?_
 exact own_retN X6 (v := none) (fun _ => rfl) Bd.notSynchronized (fun fs hr => X6.returnOut hx Bd.returns (hb hby dS4_57) hr) (by decide) (by decide) (by rw [e6]; exact ⟨rfl, N6, K6, t3, _, Fw6, (Fw5.other W6 (Or.inr (slot_ne (Or.inr (wd35 hw)) (Or.inr (wd37 hw)) (by decide) (t := .byte) (t' := (.array .byte)) (by decide) (by decide)))), ((Vt3.other W5 (own_ne (by omega))).other W6 (own_ne (by omega)))⟩)

def Q_own_n1 (Z : State) (b : Nat) (kC : ClassId) (dv : Value) (us : List Int32) (x : Nat) (v0 c_0 : Value) (G1 : Int32) (h0 : Heap) (n0 : Nat) (v : Option Value) (h : Heap) (L : List Loc) : Prop := v = none ∧ Fr n0 L ∧ Keep h0 h [x] ∧ ∃ (t : Nat) (kb : ClassId), Fld Z h x "java/lang/String" "value" "[B" (.ref t) ∧ Fld Z h x "java/lang/String" "coder" "B" (.int (1 : Int32)) ∧ Arv Z h t kb .byte (Int32.ofNat (2 * us.length)) (own_wb us) (.int 0)
theorem own_n1 (l : Launch) (Z : State) (a0 : Array Value) (hw : hWt a0 Z) (ws : List Jvm.Cond) (b : Nat) (kC : ClassId) (dv : Value) (us : List Int32) (x : Nat) (v0 c_0 : Value) (G1 : Int32) (h0 : Heap) (n0 : Nat) (Z0 : n0 ≤ h0.size) (X00 : Old Z n0 h0) (Ex : Exa Z h0 x "java/lang/String") (Fv : Fld Z h0 x "java/lang/String" "value" "[B" v0) (Fc : Fld Z h0 x "java/lang/String" "coder" "B" c_0) (gx : n0 ≤ x) (ltx : x < h0.size) (Vb : Arv Z h0 b kC .char (Int32.ofNat us.length) (us.map Value.int) dv) (hu : us.length ≤ 34) (hex : ∃ c ∈ us, 255 < c) (hbb : ∀ c ∈ us, ¬ c < 0 ∧ ¬ (65535 : Int32) < c) (O2 : Sta Z Z.heap "java/lang/String" "COMPACT_STRINGS" "Z" (.int G1)) (P5 : ¬ (G1 = (0 : Int32))) (OA : oA Z) (OH : oH Z) (OL : oL Z) :
 own_MN l mN1 jdk_42_method_3_code 2 none ws rm_5_2_102_115 Z #[(.ref x), (.ref b)] h0 (Q_own_n1 Z b kC dv us x v0 c_0 G1 h0 n0) := by
 refine own_bodyN (plainFor_of_name own_pn0) fun p e s m below meth c s₁ Bd hx hby hml hown hZ X0 e0 => ?_
 have hnm := (name_of_methodNamed Bd.named Bd.method).1
 have N0 := Fr.nil n0
 have K0 : Keep h0 h0 [x] := Keep.refl h0 [x]
 refine own_st (fun tq kq => castTop (ef_own_init1E m (x) (b)) kq) ?_
 show own_G p e below _ (s₁.setTop (mkF m 0 #[vR x, vR b] []))
 have hws0 : ∀ y ∈ [x], n0 ≤ y := allS gx all0
 refine s_aloadN X0 hx (hb hby dS1_0) rfl rfl ?_
 refine s_aloadN X0 hx (hb hby dS1_1) rfl rfl ?_
 refine s_iconst X0 hx (hb hby dS1_2) ?_
 refine s_aloadN X0 hx (hb hby dS1_3) rfl rfl ?_
 obtain ⟨cl1, Ar1, q1, S_1, N_1, H_1, G_1⟩ := id Vb
 refine own_st (fun tq kq => X0.arraylength hx (by rw [e0]; exact Ar1.1) (State.isArrayOf_alike hZ.alike Ar1.2.1) (g := (mkF m 4 #[vR x, vR b] [(.ref b), (.int 0), (.ref b), (.ref x)])) rfl rfl (hb hby dS1_4) _ kq) ?_
 rw [len_of S_1 N_1]
 show own_G p e below _ (s₁.setTop (mkF m 5 #[vR x, vR b] [(.int (Int32.ofNat us.length)), (.int 0), (.ref b), (.ref x)]))
 refine own_st (fun tq kq => XS.aconstNull X0.here hx rfl (hb hby dS1_5) kq) ?_
 obtain ⟨_, _, ⟨T2, L2, k2, n2⟩, -, X2, ⟨Lc2, hQ2, l2, y2, z2⟩, st2⟩ := X0.specialBack hx (y := mN0) rfl hown (mvT hZ (wd16 hw)) (mvT hZ (wd17 hw)) (mvT hZ (wd19 hw)) (by decide) (own_backN (W := 0) (own_n4 l Z a0 hw [] (b) (kC) (dv) (us) (x) (v0) (c_0) (G1) h0 n0 (by omega) (X00.keep K0 hws0) Ex Fv Fc gx ltx Vb hu hex hbb O2 P5 OA OH OL) hZ (wd19 hw) (wd12 hw) (by decide) (by decide)) (g := (mkF m 6 #[vR x, vR b] [.null, (.int (Int32.ofNat us.length)), (.int 0), (.ref b), (.ref x)])) rfl (by rw [hml]; rfl) (Steps.refl _) (a := x) (argsL := [(.ref b), (.int 0), (.int (Int32.ofNat us.length)), .null]) (rest := []) (lenOf own_pd0 rfl) rfl (Nat.le_of_eq rfl) (hb hby dS1_6) (fun _ _ => ⟨rfl, e0, (by decide : 0 + 2 ≤ _), (by decide : 0 + 102 ≤ _)⟩)
 dsimp only [Pt.U, Pt.locs, Pt.cells, Pt.slots] at X2 l2 y2 z2 st2 hQ2
 subst l2 y2 z2
 obtain ⟨rfl, Nq2, Kq2, R2⟩ := hQ2
 have KK2 : Keep h0 T2.heap [x] := Kq2
 have sz2 : h0.size ≤ T2.heap.size := KK2.1
 have K2 : Keep h0 T2.heap [x] := K0.trans KK2 (allS (Or.inl (by simp)) all0)
 have N2 := Fr.app N0 Nq2
 refine own_st (fun tq kq => st2.trans kq) ?_
 exact own_retN X2 (v := none) (fun _ => rfl) Bd.notSynchronized (fun fs hr => X2.returnOut hx Bd.returns (hb hby dS1_9) hr) (by decide) (by decide) (by exact ⟨rfl, N2, K2, R2⟩)

set_option maxRecDepth 65536 in
set_option maxHeartbeats 40000000 in
/-- new String(char[]) at a call: up to 34 chars of any kind -/
theorem own_newU {p : Program} {l : Launch} {e : Env} {R : Room} {s : State} {args : Array Value} {below : List Frame} {len W : Nat} {Z : State} {a0 : Array Value} {h : Heap} {vm0 : Vm} (hZ : Z.Warmed39 vm0) (hw : ∀ d ∈ tables_1, d.before a0 Z = true) (hEL : EW Z a0 consts_1) (H : CHv Z consts_1 vm0 h)
    {x b : Nat} {kC : ClassId} {us : List Int32} {d v0 c_0 : Value} {z : Int32} {n0 : Nat} (hs : Safe Z consts_1 vm0 h x) (hx0 : n0 ≤ x) (X00 : Old Z n0 h) (E : Exa Z h x "java/lang/String") (V : Fld Z h x "java/lang/String" "value" "[B" v0) (F : Fld Z h x "java/lang/String" "coder" "B" c_0) (K : Arv Z h b kC .char (Int32.ofNat us.length) (us.map Value.int) d) (S : Sta Z Z.heap "java/lang/String" "COMPACT_STRINGS" "Z" (.int z)) (hz : ¬ z = 0) (OA : oA Z) (OH : oH Z) (OL : oL Z)
    (hp : ∀ c ∈ us, ¬ c < 0 ∧ ¬ (65535 : Int32) < c) (hu : us.length ≤ 34) (hfr : 6 ≤ R.frames) (hlo : W + 128 ≤ R.locals) :
    BackS l R p e below (s.setVm vm0) args (⟨"java/lang/String", "<init>", "([C)V"⟩ : MethodName) len W (fun P a => a = #[.ref x, .ref b] ∧ P.U.heap = h ∧ P.cells + 2 ≤ R.cells ∧ P.slots + 106 ≤ R.slots)
      (fun P _ v B => ∃ L, own_QU Z x us h n0 v B.U.heap L ∧ B.locs = P.locs ++ L ∧ B.cells = P.cells + 2 ∧ B.slots = P.slots + 106 ∧ CHr Z consts_1 vm0 h B.U.vm B.U.heap) := by
  have hh0 : n0 ≤ h.size := by have := X00.1; have := X00.2.1; omega
  by_cases hex : ∃ c ∈ us, 255 < c
  · intro m meth c P g ig mk a X hg hsize hdg hW hnn hp'
    obtain ⟨v, B, Y, ⟨L, hQ, e1, e2, e3⟩, st⟩ := own_backN (rm := rm_5_2_102_115) (R := R) (W := W) (s := s.setVm vm0) (own_n1 l Z a0 hw [] b kC d us x v0 c_0 z h n0 hh0 X00 E V F hx0 E.lt K hu hex hp S hz OA OH OL) hZ (wd15 hw) (wd12 hw) (by show 5 + 1 ≤ _; omega) (by show W + (2 + 11) + 115 ≤ _; omega) m meth c P g ig mk a X hg hsize hdg hW hnn ⟨hp'.1, hp'.2.1, hp'.2.2.1, Nat.le_trans (Nat.add_le_add_left (by decide) _) hp'.2.2.2⟩
    obtain ⟨BU, BL, Bc, Bs⟩ := B
    dsimp only [Pt.U, Pt.locs, Pt.cells, Pt.slots] at Y hQ e1 e2 e3 st
    obtain ⟨r1, r2, r3, t, kb, r5, r6, r7⟩ := hQ
    have hCH : CHr Z consts_1 vm0 h vm0 BU.heap := CHr.keep r3 (allS hs all0) H
    have Y2 : Stand p l e R (s.setVm vm0) m args below meth c BU BL (P.cells + 2) (P.slots + 106) := Y.mono (by rw [e2]; exact Nat.le_refl _) (by rw [e3]; exact Nat.add_le_add_left (by decide) _)
    refine ⟨v, ⟨BU, BL, P.cells + 2, P.slots + 106⟩, Y2.retabled Y2.warmed.wide, Y2.warmed.since _, ?_, ⟨L, ⟨r1, r2, r3, r5.lt, E.keep r3, hp, by omega, t, kb, 1, _, _, r7.lt, r5, r6, r7, Or.inr ⟨rfl, rfl, rfl, hex⟩⟩, e1, rfl, rfl, hCH.trans (CHv.at (s := s) (vm0 := vm0) Y2 hZ hEL hCH.1)⟩, st⟩
    show P.U.heap.size ≤ BU.heap.size
    rw [hp'.2.1]; exact r3.1
  have hp2 : ∀ c ∈ us, ¬ c < 0 ∧ ¬ (255 : Int32) < c := fun c hc => ⟨(hp c hc).1, fun q => hex ⟨c, hc, q⟩⟩
  intro m meth c P g ig mk a X hg hsize hdg hW hnn hp'
  obtain ⟨v, B, Y, q1, q2, ⟨L, hQ, e1, e2, e3, hc⟩, st⟩ := own_newStr (R := R) (W := W) (s := s) (vm0 := vm0) hZ hw hEL H (cs := us) (n := us.length) (n0 := n0) hs hx0 X00 E V F K S hz rfl rfl (by omega) hp2 (by omega) (by omega) m meth c P g ig mk a X hg hsize hdg hW hnn ⟨hp'.1, hp'.2.1, hp'.2.2.1, Nat.le_trans (Nat.add_le_add_left (by omega) _) hp'.2.2.2⟩
  obtain ⟨BU, BL, Bc, Bs⟩ := B
  dsimp only [Pt.U, Pt.locs, Pt.cells, Pt.slots] at Y q1 q2 hQ e1 e2 e3 st hc
  have Y2 : Stand p l e R ((s.setVm vm0).setVm BU.vm) m args below meth c BU BL (P.cells + 2) (P.slots + 106) := Y.mono (by rw [e2]; exact Nat.le_refl _) (by rw [e3]; exact Nat.add_le_add_left (by omega) _)
  exact ⟨v, ⟨BU, BL, P.cells + 2, P.slots + 106⟩, Y2, q1, q2, ⟨L, ⟨hQ.1, hQ.2.1, hQ.2.2.1, hQ.2.2.2.toU⟩, e1, rfl, rfl, hc⟩, st⟩

def Q_own_ul (Z : State) (t : Nat) (kb : ClassId) (vs : List Value) (h0 : Heap) (n0 : Nat) (v : Option Value) (h : Heap) (L : List Loc) : Prop := v = some (.int (34 : Int32)) ∧ Fr n0 L ∧ h = h0
theorem own_ul (l : Launch) (Z : State) (a0 : Array Value) (hw : hWt a0 Z) (ws : List Jvm.Cond) (t : Nat) (kb : ClassId) (vs : List Value) (h0 : Heap) (n0 : Nat) (Z0 : n0 ≤ h0.size) (X00 : Old Z n0 h0) (Vt : Arv Z h0 t kb .byte (68 : Int32) vs (.int 0)) :
 own_MN l mN12 jdk_52_method_6_code 1 (some .int) ws rm_0_0_0_0 Z #[(.ref t)] h0 (Q_own_ul Z t kb vs h0 n0) := by
 refine own_bodyN (plainFor_of_name own_pn2) fun p e s m below meth c s₁ Bd hx hby hml hown hZ X0 e0 => ?_
 have N0 := Fr.nil n0
 have K0 : Keep h0 h0 [] := Keep.refl h0 []
 refine own_st (fun tq kq => castTop (ef_own_co0 m (t)) kq) ?_
 show own_G p e below _ (s₁.setTop (mkF m 0 #[vR t] []))
 refine s_aloadN X0 hx (hb hby dUL_0) rfl rfl ?_
 obtain ⟨cl1, Ar1, q1, S_1, N_1, H_1, G_1⟩ := id Vt
 refine own_st (fun tq kq => X0.arraylength hx (by rw [e0]; exact Ar1.1) (State.isArrayOf_alike hZ.alike Ar1.2.1) (g := (mkF m 1 #[vR t] [(.ref t)])) rfl rfl (hb hby dUL_1) _ kq) ?_
 rw [len_of S_1 N_1]
 show own_G p e below _ (s₁.setTop (mkF m 2 #[vR t] [(.int 68)]))
 refine s_iconst X0 hx (hb hby dUL_2) ?_
 refine own_st (fun tq kq => XS.ishr X0.here hx rfl (hb hby dUL_3) rfl kq) ?_
 show own_G p e below _ (s₁.setTop (mkF m 4 #[vR t] [(.int 34)]))
 exact own_retN X0 (v := some (.int 34)) (fun h => by rw [Bd.returns] at h; cases h) Bd.notSynchronized (fun fs hr => retOut X0 hx Bd.returns rfl (Or.inl ⟨rfl, by simp, _, rfl⟩) (hb hby dUL_4) hr) (by decide) (by decide) (by rw [e0]; exact ⟨rfl, N0, rfl⟩)

def Q_own_fzN (Z : State) (o ct : Nat) (h0 : Heap) (n0 : Nat) (v : Option Value) (h : Heap) (L : List Loc) : Prop := v = some (.int (Int32.ofNat o)) ∧ Fr n0 L ∧ h = h0
theorem ef_own_fzN (m : MethodId) (x0 : Int32) (x1 : Int32) : entryFrame m #[(.int x0), (.int x1), (.int 34), .null] 4 = mkF m 0 #[.val (.int x0), .val (.int x1), .val (.int 34), .val .null] [] := by first | (simp [entryFrame, mkF, argsToLocals, Value.category]; done) | rfl
theorem own_fzN (l : Launch) (Z : State) (a0 : Array Value) (hw : hWt a0 Z) (ws : List Jvm.Cond) (o ct : Nat) (h0 : Heap) (n0 : Nat) (Z0 : n0 ≤ h0.size) (X00 : Old Z n0 h0) (hoc : o + ct ≤ 34) :
 own_MN l mN13 jdk_41_method_13_code 4 (some .int) ws rm_0_0_0_0 Z #[(.int (Int32.ofNat o)), (.int (Int32.ofNat ct)), (.int 34), .null] h0 (Q_own_fzN Z o ct h0 n0) := by
 refine own_bodyN (plainFor_of_name own_pn3) fun p e s m below meth c s₁ Bd hx hby hml hown hZ X0 e0 => ?_
 have N0 := Fr.nil n0
 have K0 : Keep h0 h0 [] := Keep.refl h0 []
 refine own_st (fun tq kq => castTop (ef_own_fzN m ((Int32.ofNat o)) ((Int32.ofNat ct))) kq) ?_
 show own_G p e below _ (s₁.setTop (mkF m 0 #[vI (Int32.ofNat o), vI (Int32.ofNat ct), vI 34, .val .null] []))
 refine s_iloadN X0 hx (hb hby dFZ_0) rfl ?_
 refine s_iloadN X0 hx (hb hby dFZ_1) rfl ?_
 refine own_st (fun tq kq => XS.ior X0.here hx rfl (hb hby dFZ_2) rfl kq) ?_
 refine s_iloadN X0 hx (hb hby dFZ_3) rfl ?_
 refine own_st (fun tq kq => XS.ior X0.here hx rfl (hb hby dFZ_4) rfl kq) ?_
 show own_G p e below _ (s₁.setTop (mkF m 5 #[vI (Int32.ofNat o), vI (Int32.ofNat ct), vI 34, .val .null] [(.int (((34 : Int32) ||| (Int32.ofNat o)) ||| (Int32.ofNat ct)))]))
 refine own_st (fun tq kq => XS.ifNo X0.here hx rfl (hb hby dFZ_5) rfl ((if0 _ _).trans (flt (own_off hoc).1).1) kq) ?_
 refine s_iloadN X0 hx (hb hby dFZ_8) rfl ?_
 refine s_iloadN X0 hx (hb hby dFZ_9) rfl ?_
 refine s_iloadN X0 hx (hb hby dFZ_10) rfl ?_
 refine own_st (fun tq kq => XS.isub X0.here hx rfl (hb hby dFZ_11) rfl kq) ?_
 show own_G p e below _ (s₁.setTop (mkF m 12 #[vI (Int32.ofNat o), vI (Int32.ofNat ct), vI 34, .val .null] [(.int ((34 : Int32) - (Int32.ofNat o))), (.int (Int32.ofNat ct))]))
 refine own_st (fun tq kq => XS.icmpYes X0.here hx rfl (pc0 := 12) (pc' := 23) rfl (hb hby dFZ_12) rfl (flt (own_off hoc).2).2.2.2 (by decide) (by decide) kq) ?_
 refine s_iloadN X0 hx (hb hby dFZ_23) rfl ?_
 show own_G p e below _ (s₁.setTop (mkF m 24 #[vI (Int32.ofNat o), vI (Int32.ofNat ct), vI 34, .val .null] [(.int (Int32.ofNat o))]))
 exact own_retN X0 (v := some (.int (Int32.ofNat o))) (fun h => by rw [Bd.returns] at h; cases h) Bd.notSynchronized (fun fs hr => retOut X0 hx Bd.returns rfl (Or.inl ⟨rfl, by simp, _, rfl⟩) (hb hby dFZ_24) hr) (by decide) (by decide) (by rw [e0]; exact ⟨rfl, N0, rfl⟩)

def Q_own_fzR (Z : State) (o ct : Nat) (gf : Nat) (h0 : Heap) (n0 : Nat) (v : Option Value) (h : Heap) (L : List Loc) : Prop := v = some (.int (Int32.ofNat o)) ∧ Fr n0 L ∧ h = h0
theorem ef_own_fzR (m : MethodId) (x0 : Int32) (x1 : Int32) (x3 : Nat) : entryFrame m #[(.int x0), (.int x1), (.int 34), (.ref x3)] 4 = mkF m 0 #[.val (.int x0), .val (.int x1), .val (.int 34), .val (.ref x3)] [] := by first | (simp [entryFrame, mkF, argsToLocals, Value.category]; done) | rfl
theorem own_fzR (l : Launch) (Z : State) (a0 : Array Value) (hw : hWt a0 Z) (ws : List Jvm.Cond) (o ct : Nat) (gf : Nat) (h0 : Heap) (n0 : Nat) (Z0 : n0 ≤ h0.size) (X00 : Old Z n0 h0) (hoc : o + ct ≤ 34) :
 own_MN l mN13 jdk_41_method_13_code 4 (some .int) ws rm_0_0_0_0 Z #[(.int (Int32.ofNat o)), (.int (Int32.ofNat ct)), (.int 34), (.ref gf)] h0 (Q_own_fzR Z o ct gf h0 n0) := by
 refine own_bodyN (plainFor_of_name own_pn3) fun p e s m below meth c s₁ Bd hx hby hml hown hZ X0 e0 => ?_
 have N0 := Fr.nil n0
 have K0 : Keep h0 h0 [] := Keep.refl h0 []
 refine own_st (fun tq kq => castTop (ef_own_fzR m ((Int32.ofNat o)) ((Int32.ofNat ct)) (gf)) kq) ?_
 show own_G p e below _ (s₁.setTop (mkF m 0 #[vI (Int32.ofNat o), vI (Int32.ofNat ct), vI 34, vR gf] []))
 refine s_iloadN X0 hx (hb hby dFZ_0) rfl ?_
 refine s_iloadN X0 hx (hb hby dFZ_1) rfl ?_
 refine own_st (fun tq kq => XS.ior X0.here hx rfl (hb hby dFZ_2) rfl kq) ?_
 refine s_iloadN X0 hx (hb hby dFZ_3) rfl ?_
 refine own_st (fun tq kq => XS.ior X0.here hx rfl (hb hby dFZ_4) rfl kq) ?_
 show own_G p e below _ (s₁.setTop (mkF m 5 #[vI (Int32.ofNat o), vI (Int32.ofNat ct), vI 34, vR gf] [(.int (((34 : Int32) ||| (Int32.ofNat o)) ||| (Int32.ofNat ct)))]))
 refine own_st (fun tq kq => XS.ifNo X0.here hx rfl (hb hby dFZ_5) rfl ((if0 _ _).trans (flt (own_off hoc).1).1) kq) ?_
 refine s_iloadN X0 hx (hb hby dFZ_8) rfl ?_
 refine s_iloadN X0 hx (hb hby dFZ_9) rfl ?_
 refine s_iloadN X0 hx (hb hby dFZ_10) rfl ?_
 refine own_st (fun tq kq => XS.isub X0.here hx rfl (hb hby dFZ_11) rfl kq) ?_
 show own_G p e below _ (s₁.setTop (mkF m 12 #[vI (Int32.ofNat o), vI (Int32.ofNat ct), vI 34, vR gf] [(.int ((34 : Int32) - (Int32.ofNat o))), (.int (Int32.ofNat ct))]))
 refine own_st (fun tq kq => XS.icmpYes X0.here hx rfl (pc0 := 12) (pc' := 23) rfl (hb hby dFZ_12) rfl (flt (own_off hoc).2).2.2.2 (by decide) (by decide) kq) ?_
 refine s_iloadN X0 hx (hb hby dFZ_23) rfl ?_
 show own_G p e below _ (s₁.setTop (mkF m 24 #[vI (Int32.ofNat o), vI (Int32.ofNat ct), vI 34, vR gf] [(.int (Int32.ofNat o))]))
 exact own_retN X0 (v := some (.int (Int32.ofNat o))) (fun h => by rw [Bd.returns] at h; cases h) Bd.notSynchronized (fun fs hr => retOut X0 hx Bd.returns rfl (Or.inl ⟨rfl, by simp, _, rfl⟩) (hb hby dFZ_24) hr) (by decide) (by decide) (by rw [e0]; exact ⟨rfl, N0, rfl⟩)

def Q_own_sb (Z : State) (o ct : Nat) (fm : Value) (h0 : Heap) (n0 : Nat) (v : Option Value) (h : Heap) (L : List Loc) : Prop := v = some (.int (Int32.ofNat o)) ∧ Fr n0 L ∧ h = h0
theorem ef_own_sb (m : MethodId) (x0 : Int32) (x1 : Int32) : entryFrame m #[(.int x0), (.int x1), (.int 34)] 3 = mkF m 0 #[.val (.int x0), .val (.int x1), .val (.int 34)] [] := by first | (simp [entryFrame, mkF, argsToLocals, Value.category]; done) | rfl
theorem own_sb (l : Launch) (Z : State) (a0 : Array Value) (hw : hWt a0 Z) (ws : List Jvm.Cond) (o ct : Nat) (fm : Value) (h0 : Heap) (n0 : Nat) (Z0 : n0 ≤ h0.size) (X00 : Old Z n0 h0) (O4 : o4 Z fm) (rfm : fm.isRef = true) (hoc : o + ct ≤ 34) :
 own_MN l mN14 jdk_42_method_157_code 3 (some .int) ws rm_1_0_0_20 Z #[(.int (Int32.ofNat o)), (.int (Int32.ofNat ct)), (.int 34)] h0 (Q_own_sb Z o ct fm h0 n0) := by
 refine own_bodyN (plainFor_of_name own_pn0) fun p e s m below meth c s₁ Bd hx hby hml hown hZ X0 e0 => ?_
 have N0 := Fr.nil n0
 have K0 : Keep h0 h0 [] := Keep.refl h0 []
 refine own_st (fun tq kq => castTop (ef_own_sb m ((Int32.ofNat o)) ((Int32.ofNat ct))) kq) ?_
 show own_G p e below _ (s₁.setTop (mkF m 0 #[vI (Int32.ofNat o), vI (Int32.ofNat ct), vI 34] []))
 rcases ref_cases rfm with rfl | ⟨gf, rfl⟩
 ·
  refine s_iloadN X0 hx (hb hby dSB_0) rfl ?_
  refine s_iloadN X0 hx (hb hby dSB_1) rfl ?_
  refine s_iloadN X0 hx (hb hby dSB_2) rfl ?_
  obtain ⟨T1, X1, e1, st1⟩ := getS2 X0 hx hZ hown (host := "") (Or.inl (wd255 hw)) Via.refl e0 (O4.ext (X00.keep K0 all0).2) (g := (mkF m 3 #[vI (Int32.ofNat o), vI (Int32.ofNat ct), vI 34] [(.int 34), (.int (Int32.ofNat ct)), (.int (Int32.ofNat o))])) rfl (hb hby dSB_3)
  refine own_st st1 ?_
  obtain ⟨_, _, ⟨T2, L2, k2, n2⟩, -, X2, ⟨Lc2, hQ2, l2, y2, z2⟩, st2⟩ := Jvm.LawKit.callS X1 hx (y := mN13) hown (mvT hZ (wd257 hw)) (mvT hZ (wd258 hw)) (mvT hZ (wd256 hw)) (mvT hZ (wd259 hw)) (by decide) (own_backN (W := 0) (own_fzN l Z a0 hw [] (o) (ct) h0 n0 (by omega) (X00.keep K0 all0) hoc) hZ (wd259 hw) (wd256 hw) (by decide) (by decide)) (g := (mkF m 6 #[vI (Int32.ofNat o), vI (Int32.ofNat ct), vI 34] [.null, (.int 34), (.int (Int32.ofNat ct)), (.int (Int32.ofNat o))])) rfl (by rw [hml]; rfl) (argsL := [(.int (Int32.ofNat o)), (.int (Int32.ofNat ct)), (.int 34), .null]) (rest := []) (lenOf own_pd8 rfl) rfl (Nat.le_of_eq rfl) (hb hby dSB_6) (fun _ _ => ⟨rfl, e1, (by decide : 0 + 0 ≤ _), (by decide : 0 + 0 ≤ _)⟩)
  dsimp only [Pt.U, Pt.locs, Pt.cells, Pt.slots] at X2 l2 y2 z2 st2 hQ2
  subst l2 y2 z2
  obtain ⟨rfl, Nq2, sm2⟩ := hQ2
  have N2 := Fr.app N0 Nq2
  refine own_st st2 ?_
  exact own_retN X2 (v := some (.int (Int32.ofNat o))) (fun h => by rw [Bd.returns] at h; cases h) Bd.notSynchronized (fun fs hr => retOut X2 hx Bd.returns rfl (Or.inl ⟨rfl, by simp, _, rfl⟩) (hb hby dSB_9) hr) (by decide) (by decide) (by rw [sm2]; exact ⟨rfl, N2, rfl⟩)
 ·
  refine s_iloadN X0 hx (hb hby dSB_0) rfl ?_
  refine s_iloadN X0 hx (hb hby dSB_1) rfl ?_
  refine s_iloadN X0 hx (hb hby dSB_2) rfl ?_
  obtain ⟨T3, X3, e3, st3⟩ := getS2 X0 hx hZ hown (host := "") (Or.inl (wd255 hw)) Via.refl e0 (O4.ext (X00.keep K0 all0).2) (g := (mkF m 3 #[vI (Int32.ofNat o), vI (Int32.ofNat ct), vI 34] [(.int 34), (.int (Int32.ofNat ct)), (.int (Int32.ofNat o))])) rfl (hb hby dSB_3)
  refine own_st st3 ?_
  obtain ⟨_, _, ⟨T4, L4, k4, n4⟩, -, X4, ⟨Lc4, hQ4, l4, y4, z4⟩, st4⟩ := Jvm.LawKit.callS X3 hx (y := mN13) hown (mvT hZ (wd257 hw)) (mvT hZ (wd258 hw)) (mvT hZ (wd256 hw)) (mvT hZ (wd259 hw)) (by decide) (own_backN (W := 0) (own_fzR l Z a0 hw [] (o) (ct) (gf) h0 n0 (by omega) (X00.keep K0 all0) hoc) hZ (wd259 hw) (wd256 hw) (by decide) (by decide)) (g := (mkF m 6 #[vI (Int32.ofNat o), vI (Int32.ofNat ct), vI 34] [(.ref gf), (.int 34), (.int (Int32.ofNat ct)), (.int (Int32.ofNat o))])) rfl (by rw [hml]; rfl) (argsL := [(.int (Int32.ofNat o)), (.int (Int32.ofNat ct)), (.int 34), (.ref gf)]) (rest := []) (lenOf own_pd8 rfl) rfl (Nat.le_of_eq rfl) (hb hby dSB_6) (fun _ _ => ⟨rfl, e3, (by decide : 0 + 0 ≤ _), (by decide : 0 + 0 ≤ _)⟩)
  dsimp only [Pt.U, Pt.locs, Pt.cells, Pt.slots] at X4 l4 y4 z4 st4 hQ4
  subst l4 y4 z4
  obtain ⟨rfl, Nq4, sm4⟩ := hQ4
  have N4 := Fr.app N0 Nq4
  refine own_st st4 ?_
  exact own_retN X4 (v := some (.int (Int32.ofNat o))) (fun h => by rw [Bd.returns] at h; cases h) Bd.notSynchronized (fun fs hr => retOut X4 hx Bd.returns rfl (Or.inl ⟨rfl, by simp, _, rfl⟩) (hb hby dSB_9) hr) (by decide) (by decide) (by rw [sm4]; exact ⟨rfl, N4, rfl⟩)

def Q_own_ub (Z : State) (o ct t : Nat) (kb : ClassId) (vs : List Value) (fm : Value) (h0 : Heap) (n0 : Nat) (v : Option Value) (h : Heap) (L : List Loc) : Prop := v = none ∧ Fr n0 L ∧ h = h0
theorem ef_own_ub (m : MethodId) (x0 : Int32) (x1 : Int32) (x2 : Nat) : entryFrame m #[(.int x0), (.int x1), (.ref x2)] 3 = mkF m 0 #[.val (.int x0), .val (.int x1), .val (.ref x2)] [] := by first | (simp [entryFrame, mkF, argsToLocals, Value.category]; done) | rfl
theorem own_ub (l : Launch) (Z : State) (a0 : Array Value) (hw : hWt a0 Z) (ws : List Jvm.Cond) (o ct t : Nat) (kb : ClassId) (vs : List Value) (fm : Value) (h0 : Heap) (n0 : Nat) (Z0 : n0 ≤ h0.size) (X00 : Old Z n0 h0) (O4 : o4 Z fm) (rfm : fm.isRef = true) (Vt : Arv Z h0 t kb .byte (68 : Int32) vs (.int 0)) (hoc : o + ct ≤ 34) :
 own_MN l mN15 jdk_52_method_94_code 3 none ws rm_2_0_0_40 Z #[(.int (Int32.ofNat o)), (.int (Int32.ofNat ct)), (.ref t)] h0 (Q_own_ub Z o ct t kb vs fm h0 n0) := by
 refine own_bodyN (plainFor_of_name own_pn2) fun p e s m below meth c s₁ Bd hx hby hml hown hZ X0 e0 => ?_
 have N0 := Fr.nil n0
 have K0 : Keep h0 h0 [] := Keep.refl h0 []
 refine own_st (fun tq kq => castTop (ef_own_ub m ((Int32.ofNat o)) ((Int32.ofNat ct)) (t)) kq) ?_
 show own_G p e below _ (s₁.setTop (mkF m 0 #[vI (Int32.ofNat o), vI (Int32.ofNat ct), vR t] []))
 refine s_iloadN X0 hx (hb hby dUB_0) rfl ?_
 refine s_iloadN X0 hx (hb hby dUB_1) rfl ?_
 refine s_aloadN X0 hx (hb hby dUB_2) rfl rfl ?_
 obtain ⟨_, _, ⟨T1, L1, k1, n1⟩, -, X1, ⟨Lc1, hQ1, l1, y1, z1⟩, st1⟩ := Jvm.LawKit.callS X0 hx (y := mN12) hown (mvT hZ (wd249 hw)) (mvT hZ (wd250 hw)) (mvT hZ (wd26 hw)) (mvT hZ (wd251 hw)) (by decide) (own_backN (W := 2) (own_ul l Z a0 hw [] (t) (kb) (vs) h0 n0 (by omega) (X00.keep K0 all0) Vt) hZ (wd251 hw) (wd26 hw) (by decide) (by decide)) (g := (mkF m 3 #[vI (Int32.ofNat o), vI (Int32.ofNat ct), vR t] [(.ref t), (.int (Int32.ofNat ct)), (.int (Int32.ofNat o))])) rfl (by rw [hml]; rfl) (argsL := [(.ref t)]) (rest := [(.int (Int32.ofNat ct)), (.int (Int32.ofNat o))]) (lenOf own_pd9 rfl) rfl (Nat.le_of_eq rfl) (hb hby dUB_3) (fun _ _ => ⟨rfl, e0, (by decide : 0 + 0 ≤ _), (by decide : 0 + 0 ≤ _)⟩)
 dsimp only [Pt.U, Pt.locs, Pt.cells, Pt.slots] at X1 l1 y1 z1 st1 hQ1
 subst l1 y1 z1
 obtain ⟨rfl, Nq1, sm1⟩ := hQ1
 have N1 := Fr.app N0 Nq1
 refine own_st st1 ?_
 obtain ⟨_, _, ⟨T2, L2, k2, n2⟩, -, X2, ⟨Lc2, hQ2, l2, y2, z2⟩, st2⟩ := Jvm.LawKit.callS X1 hx (y := mN14) hown (mvT hZ (wd252 hw)) (mvT hZ (wd253 hw)) (mvT hZ (wd12 hw)) (mvT hZ (wd254 hw)) (by decide) (own_backN (W := 0) (own_sb l Z a0 hw [] (o) (ct) (fm) h0 n0 (by omega) (X00.keep K0 all0) O4 rfm hoc) hZ (wd254 hw) (wd12 hw) (by decide) (by decide)) (g := (mkF m 6 #[vI (Int32.ofNat o), vI (Int32.ofNat ct), vR t] [(.int 34), (.int (Int32.ofNat ct)), (.int (Int32.ofNat o))])) rfl (by rw [hml]; rfl) (argsL := [(.int (Int32.ofNat o)), (.int (Int32.ofNat ct)), (.int 34)]) (rest := []) (lenOf own_pd10 rfl) rfl (Nat.le_of_eq rfl) (hb hby dUB_6) (fun _ _ => ⟨rfl, sm1, (by decide : 0 + 0 ≤ _), (by decide : 0 + 0 ≤ _)⟩)
 dsimp only [Pt.U, Pt.locs, Pt.cells, Pt.slots] at X2 l2 y2 z2 st2 hQ2
 subst l2 y2 z2
 obtain ⟨rfl, Nq2, sm2⟩ := hQ2
 have N2 := Fr.app N1 Nq2
 refine own_st st2 ?_
 refine own_st (fun tq kq => XS.pop X2.here hx rfl (hb hby dUB_9) rfl rfl kq) ?_
 exact own_retN X2 (v := none) (fun _ => rfl) Bd.notSynchronized (fun fs hr => X2.returnOut hx Bd.returns (hb hby dUB_10) hr) (by decide) (by decide) (by rw [sm2]; exact ⟨rfl, N2, rfl⟩)

def Q_own_ui (Z : State) (tb t mb : Nat) (kb k : ClassId) (cs ds : List Int32) (rs : List Value) (fm : Value) (h0 : Heap) (n0 : Nat) (v : Option Value) (h : Heap) (L : List Loc) : Prop := v = none ∧ Fr n0 L ∧ Keep h0 h [t] ∧ Arv Z h t k .byte (68 : Int32) (own_wa (cs ++ ds)) (.int 0)
theorem ef_own_ui (m : MethodId) (x0 : Nat) (x2 : Nat) (x3 : Int32) (x4 : Int32) : entryFrame m #[(.ref x0), (.int 0), (.ref x2), (.int x3), (.int x4)] 6 = mkF m 0 #[.val (.ref x0), .val (.int 0), .val (.ref x2), .val (.int x3), .val (.int x4), .unset] [] := by first | (simp [entryFrame, mkF, argsToLocals, Value.category]; done) | rfl
theorem own_ui (l : Launch) (Z : State) (a0 : Array Value) (hw : hWt a0 Z) (ws : List Jvm.Cond) (tb t mb : Nat) (kb k : ClassId) (cs ds : List Int32) (rs : List Value) (fm : Value) (h0 : Heap) (n0 : Nat) (Z0 : n0 ≤ h0.size) (X00 : Old Z n0 h0) (OA : oA Z) (OH : oH Z) (OL : oL Z) (O4 : o4 Z fm) (rfm : fm.isRef = true) (As : Arv Z h0 tb kb .byte (Int32.ofNat mb) (own_bt ds ++ rs) (.int 0)) (hmb : ds.length ≤ mb) (hmc : mb ≤ 4000) (hds : ∀ c ∈ ds, ¬ c < 0 ∧ ¬ (255 : Int32) < c) (Vt : Arv Z h0 t k .byte (68 : Int32) (own_wa cs) (.int 0)) (hl : cs.length + ds.length ≤ 34) (gt : n0 ≤ t) (nbt : tb ≠ t) :
 own_MN l mN16 jdk_52_method_86_code 6 none ws rm_3_0_0_60 Z #[(.ref tb), (.int 0), (.ref t), (.int (Int32.ofNat cs.length)), (.int (Int32.ofNat ds.length))] h0 (Q_own_ui Z tb t mb kb k cs ds rs fm h0 n0) := by
 refine own_bodyN (plainFor_of_name own_pn2) fun p e s m below meth c s₁ Bd hx hby hml hown hZ X0 e0 => ?_
 have N0 := Fr.nil n0
 have K0 : Keep h0 h0 [t] := Keep.refl h0 [t]
 have hws0 : ∀ y ∈ [t], n0 ≤ y := allS gt all0
 have ltt : t < h0.size := Vt.lt
 have loop : ∀ (jk : Nat) (T : State) (h : Heap) (Lc : List Loc) (i o : Nat) (ps : List Int32), Stand p l e rm_3_0_0_60 s m #[(.ref tb), (.int 0), (.ref t), (.int (Int32.ofNat cs.length)), (.int (Int32.ofNat ds.length))] below meth c T Lc 0 0 → T.heap = h → Fr n0 Lc → Keep h0 h [t] → (i + jk = ds.length) → (ps = cs ++ ds.take i) → (ps.length = o) → (Arv Z h t k .byte (68 : Int32) (own_wa ps) (.int 0)) → own_G p e below (own_EN (Q_own_ui Z tb t mb kb k cs ds rs fm h0 n0) rm_3_0_0_60 #[(.ref tb), (.int 0), (.ref t), (.int (Int32.ofNat cs.length)), (.int (Int32.ofNat ds.length))] s) (T.setTop (mkF m 10 #[vR tb, vI (Int32.ofNat i), vR t, vI (Int32.ofNat o), vI (Int32.ofNat ds.length), vI (Int32.ofNat i)] [])) := by
  intro jk
  induction jk with
  | zero =>
   intro T h Lc i o ps Xl el Nl Kl hik hps ho Vl
   have szl : h0.size ≤ h.size := Kl.1
   subst ho
   have hpl : ps.length = cs.length + i := by rw [hps, List.length_append, List.length_take]; omega
   show own_G p e below _ (T.setTop (mkF m 10 #[vR tb, vI (Int32.ofNat i), vR t, vI (Int32.ofNat ps.length), vI (Int32.ofNat ds.length), vI (Int32.ofNat i)] []))
   refine own_st (fun tq kq => XS.iload Xl.here hx rfl (hb hby dUI_10) rfl  kq) ?_
   refine own_st (fun tq kq => XS.iload Xl.here hx rfl (hb hby dUI_12) rfl  kq) ?_
   show own_G p e below _ (T.setTop (mkF m 14 #[vR tb, vI (Int32.ofNat i), vR t, vI (Int32.ofNat ps.length), vI (Int32.ofNat ds.length), vI (Int32.ofNat i)] [(.int (Int32.ofNat ds.length)), (.int (Int32.ofNat i))]))
   refine own_st (fun tq kq => XS.icmpYes Xl.here hx rfl (pc0 := 14) (pc' := 41) rfl (hb hby dUI_14) rfl (flt (own_inlt (by omega) (by omega))).2.1 (by decide) (by decide) kq) ?_
   exact own_retN Xl (v := none) (fun _ => rfl) Bd.notSynchronized (fun fs hr => Xl.returnOut hx Bd.returns (hb hby dUI_41) hr) (by decide) (by decide) (by rw [el]; exact ⟨rfl, Nl, Kl, (by have q := Vl; rw [hps, List.take_of_length_le (by omega)] at q; exact q)⟩)
  | succ jk ih =>
   intro T h Lc i o ps Xl el Nl Kl hik hps ho Vl
   have szl : h0.size ≤ h.size := Kl.1
   subst ho
   have hpl : ps.length = cs.length + i := by rw [hps, List.length_append, List.length_take]; omega
   show own_G p e below _ (T.setTop (mkF m 10 #[vR tb, vI (Int32.ofNat i), vR t, vI (Int32.ofNat ps.length), vI (Int32.ofNat ds.length), vI (Int32.ofNat i)] []))
   refine own_st (fun tq kq => XS.iload Xl.here hx rfl (hb hby dUI_10) rfl  kq) ?_
   refine own_st (fun tq kq => XS.iload Xl.here hx rfl (hb hby dUI_12) rfl  kq) ?_
   show own_G p e below _ (T.setTop (mkF m 14 #[vR tb, vI (Int32.ofNat i), vR t, vI (Int32.ofNat ps.length), vI (Int32.ofNat ds.length), vI (Int32.ofNat i)] [(.int (Int32.ofNat ds.length)), (.int (Int32.ofNat i))]))
   refine own_st (fun tq kq => XS.icmpNo Xl.here hx rfl (hb hby dUI_14) rfl (tlt (own_ilt (by omega) (by omega))).2.1 kq) ?_
   refine own_st (fun tq kq => XS.aloadN Xl.here hx rfl (hb hby dUI_17) rfl rfl kq) ?_
   refine own_st (fun tq kq => XS.iloadN Xl.here hx rfl (hb hby dUI_18) rfl  kq) ?_
   refine own_st (fun tq kq => XS.iinc Xl.here hx rfl (hb hby dUI_19) rfl (l' := #[vR tb, vI (Int32.ofNat i), vR t, vI ((Int32.ofNat ps.length) + (1 : Int32)), vI (Int32.ofNat ds.length), vI (Int32.ofNat i)]) rfl kq) ?_
   show own_G p e below _ (T.setTop (mkF m 22 #[vR tb, vI (Int32.ofNat i), vR t, vI ((Int32.ofNat ps.length) + (1 : Int32)), vI (Int32.ofNat ds.length), vI (Int32.ofNat i)] [(.int (Int32.ofNat ps.length)), (.ref t)]))
   rw [own_inc ps.length]
   show own_G p e below _ (T.setTop (mkF m 22 #[vR tb, vI (Int32.ofNat i), vR t, vI (Int32.ofNat (ps.length + 1)), vI (Int32.ofNat ds.length), vI (Int32.ofNat i)] [(.int (Int32.ofNat ps.length)), (.ref t)]))
   refine own_st (fun tq kq => XS.aloadN Xl.here hx rfl (hb hby dUI_22) rfl rfl kq) ?_
   refine own_st (fun tq kq => XS.iloadN Xl.here hx rfl (hb hby dUI_23) rfl  kq) ?_
   refine own_st (fun tq kq => XS.iinc Xl.here hx rfl (hb hby dUI_24) rfl (l' := #[vR tb, vI ((Int32.ofNat i) + (1 : Int32)), vR t, vI (Int32.ofNat (ps.length + 1)), vI (Int32.ofNat ds.length), vI (Int32.ofNat i)]) rfl kq) ?_
   show own_G p e below _ (T.setTop (mkF m 27 #[vR tb, vI ((Int32.ofNat i) + (1 : Int32)), vR t, vI (Int32.ofNat (ps.length + 1)), vI (Int32.ofNat ds.length), vI (Int32.ofNat i)] [(.int (Int32.ofNat i)), (.ref tb), (.int (Int32.ofNat ps.length)), (.ref t)]))
   rw [own_inc i]
   show own_G p e below _ (T.setTop (mkF m 27 #[vR tb, vI (Int32.ofNat (i + 1)), vR t, vI (Int32.ofNat (ps.length + 1)), vI (Int32.ofNat ds.length), vI (Int32.ofNat i)] [(.int (Int32.ofNat i)), (.ref tb), (.int (Int32.ofNat ps.length)), (.ref t)]))
   obtain ⟨cl1, Ar1, q1, S_1, N_1, H_1, G_1⟩ := id (As.keep Kl (ninS (own_ne (by omega)) nin0))
   have in1 : ¬ ((Int32.ofNat i) < 0 ∨ cl1.slots.size ≤ ((Int32.ofNat i)).toNatClampNeg) := inb_of S_1 ⟨(own_n0 (by omega)), (own_ilt (by omega) (by omega))⟩
   have at1 : cl1.slots[((Int32.ofNat i)).toNatClampNeg]? = some (.int ((ds.getD i 0).toInt8.toInt32)) := H_1.at in1 (by rw [own_n32 (by omega)]; exact own_btAt (by omega))
   refine own_st (fun tq kq => Xl.baloadBytes hx (j := (Int32.ofNat i)) (v := (.int ((ds.getD i 0).toInt8.toInt32))) (by rw [el]; exact Ar1.1) (State.isArrayOf_alike hZ.alike Ar1.2.1) Ar1.2.2 in1 at1 (g := (mkF m 27 #[vR tb, vI (Int32.ofNat (i + 1)), vR t, vI (Int32.ofNat (ps.length + 1)), vI (Int32.ofNat ds.length), vI (Int32.ofNat i)] [(.int (Int32.ofNat i)), (.ref tb), (.int (Int32.ofNat ps.length)), (.ref t)])) rfl rfl (hb hby dUI_27) _ kq) ?_
   refine own_st (fun tq kq => XS.sipush Xl.here hx rfl (hb hby dUI_28) kq) ?_
   refine own_st (fun tq kq => XS.iand Xl.here hx rfl (hb hby dUI_31) rfl kq) ?_
   show own_G p e below _ (T.setTop (mkF m 32 #[vR tb, vI (Int32.ofNat (i + 1)), vR t, vI (Int32.ofNat (ps.length + 1)), vI (Int32.ofNat ds.length), vI (Int32.ofNat i)] [(.int (((ds.getD i 0).toInt8.toInt32) &&& (255 : Int32))), (.int (Int32.ofNat ps.length)), (.ref t)]))
   rw [own_lo255 (own_getok hds (by omega))]
   show own_G p e below _ (T.setTop (mkF m 32 #[vR tb, vI (Int32.ofNat (i + 1)), vR t, vI (Int32.ofNat (ps.length + 1)), vI (Int32.ofNat ds.length), vI (Int32.ofNat i)] [(.int (ds.getD i 0)), (.int (Int32.ofNat ps.length)), (.ref t)]))
   obtain ⟨_, _, ⟨T2, L2, k2, n2⟩, -, X2, ⟨Lc2, hQ2, l2, y2, z2⟩, st2⟩ := Jvm.LawKit.callS Xl hx (y := mN6) hown (mvT hZ (wd223 hw)) (mvT hZ (wd224 hw)) (mvT hZ (wd26 hw)) (mvT hZ (wd225 hw)) (by decide) (own_backN (W := 0) (own_pc l Z a0 hw [] (t) (ps.length) (68) (k) ((ds.getD i 0)) ((own_wa ps)) h n0 (by omega) (X00.keep Kl hws0) OA OH OL Vl (own_wa_len (by omega)) (by omega) (by omega) gt) hZ (wd225 hw) (wd26 hw) (by decide) (by decide)) (g := (mkF m 32 #[vR tb, vI (Int32.ofNat (i + 1)), vR t, vI (Int32.ofNat (ps.length + 1)), vI (Int32.ofNat ds.length), vI (Int32.ofNat i)] [(.int (ds.getD i 0)), (.int (Int32.ofNat ps.length)), (.ref t)])) rfl (by rw [hml]; rfl) (argsL := [(.ref t), (.int (Int32.ofNat ps.length)), (.int (ds.getD i 0))]) (rest := []) (lenOf own_pd2 rfl) rfl (Nat.le_of_eq rfl) (hb hby dUI_32) (fun _ _ => ⟨rfl, el, (by decide : 0 + 0 ≤ _), (by decide : 0 + 0 ≤ _)⟩)
   dsimp only [Pt.U, Pt.locs, Pt.cells, Pt.slots] at X2 l2 y2 z2 st2 hQ2
   subst l2 y2 z2
   obtain ⟨rfl, Nq2, Kq2, Vp2⟩ := hQ2
   have KK2 : Keep h T2.heap [t] := Kq2
   have sz2 : h.size ≤ T2.heap.size := KK2.1
   have K2 : Keep h0 T2.heap [t] := Kl.trans KK2 (allS (Or.inl (by simp)) all0)
   have N2 := Fr.app Nl Nq2
   rw [own_wput (by omega)] at Vp2
   refine own_st st2 ?_
   refine own_st (fun tq kq => XS.iinc X2.here hx rfl (hb hby dUI_35) rfl (l' := #[vR tb, vI (Int32.ofNat (i + 1)), vR t, vI (Int32.ofNat (ps.length + 1)), vI (Int32.ofNat ds.length), vI ((Int32.ofNat i) + (1 : Int32))]) rfl kq) ?_
   show own_G p e below _ (T2.setTop (mkF m 38 #[vR tb, vI (Int32.ofNat (i + 1)), vR t, vI (Int32.ofNat (ps.length + 1)), vI (Int32.ofNat ds.length), vI ((Int32.ofNat i) + (1 : Int32))] []))
   rw [own_inc i]
   show own_G p e below _ (T2.setTop (mkF m 38 #[vR tb, vI (Int32.ofNat (i + 1)), vR t, vI (Int32.ofNat (ps.length + 1)), vI (Int32.ofNat ds.length), vI (Int32.ofNat (i + 1))] []))
   refine own_st (fun tq kq => XS.goto X2.here hx rfl (pc0 := 38) (pc' := 10) rfl (hb hby dUI_38) (by decide) (by decide) kq) ?_
   show own_G p e below _ (T2.setTop (mkF m 10 #[vR tb, vI (Int32.ofNat (i + 1)), vR t, vI (Int32.ofNat (ps.length + 1)), vI (Int32.ofNat ds.length), vI (Int32.ofNat (i + 1))] []))
   exact ih T2 T2.heap _ (i + 1) (ps.length + 1) (ps ++ [ds.getD i 0]) X2 rfl N2 K2 (by omega) (by rw [hps, own_take (by omega), List.append_assoc]) (by simp) Vp2
 refine own_st (fun tq kq => castTop (ef_own_ui m (tb) (t) ((Int32.ofNat cs.length)) ((Int32.ofNat ds.length))) kq) ?_
 show own_G p e below _ (s₁.setTop (mkF m 0 #[vR tb, vI 0, vR t, vI (Int32.ofNat cs.length), vI (Int32.ofNat ds.length), .unset] []))
 refine s_iloadN X0 hx (hb hby dUI_0) rfl ?_
 refine s_iload X0 hx (hb hby dUI_1) rfl ?_
 refine s_aloadN X0 hx (hb hby dUI_3) rfl rfl ?_
 obtain ⟨_, _, ⟨T3, L3, k3, n3⟩, -, X3, ⟨Lc3, hQ3, l3, y3, z3⟩, st3⟩ := Jvm.LawKit.callS X0 hx (y := mN15) hown (mvT hZ (wd246 hw)) (mvT hZ (wd247 hw)) (mvT hZ (wd26 hw)) (mvT hZ (wd248 hw)) (by decide) (own_backN (W := 0) (own_ub l Z a0 hw [] (cs.length) (ds.length) (t) (k) ((own_wa cs)) (fm) h0 n0 (by omega) (X00.keep K0 hws0) O4 rfm Vt hl) hZ (wd248 hw) (wd26 hw) (by decide) (by decide)) (g := (mkF m 4 #[vR tb, vI 0, vR t, vI (Int32.ofNat cs.length), vI (Int32.ofNat ds.length), .unset] [(.ref t), (.int (Int32.ofNat ds.length)), (.int (Int32.ofNat cs.length))])) rfl (by rw [hml]; rfl) (argsL := [(.int (Int32.ofNat cs.length)), (.int (Int32.ofNat ds.length)), (.ref t)]) (rest := []) (lenOf own_pd11 rfl) rfl (Nat.le_of_eq rfl) (hb hby dUI_4) (fun _ _ => ⟨rfl, e0, (by decide : 0 + 0 ≤ _), (by decide : 0 + 0 ≤ _)⟩)
 dsimp only [Pt.U, Pt.locs, Pt.cells, Pt.slots] at X3 l3 y3 z3 st3 hQ3
 subst l3 y3 z3
 obtain ⟨rfl, Nq3, sm3⟩ := hQ3
 have N3 := Fr.app N0 Nq3
 refine own_st st3 ?_
 refine s_iconst X3 hx (hb hby dUI_7) ?_
 refine own_st (fun tq kq => XS.istore X3.here hx rfl (hb hby dUI_8) rfl (l' := #[vR tb, vI 0, vR t, vI (Int32.ofNat cs.length), vI (Int32.ofNat ds.length), vI 0]) rfl kq) ?_
 show own_G p e below _ (T3.setTop (mkF m 10 #[vR tb, vI 0, vR t, vI (Int32.ofNat cs.length), vI (Int32.ofNat ds.length), vI 0] []))
 exact loop ds.length T3 h0 _ 0 cs.length cs X3 sm3 N3 K0 (by omega) (by simp) rfl Vt

def Q_own_li (Z : State) (tb t mb : Nat) (kb k : ClassId) (cs ds : List Int32) (rs : List Value) (fm : Value) (h0 : Heap) (n0 : Nat) (v : Option Value) (h : Heap) (L : List Loc) : Prop := v = none ∧ Fr n0 L ∧ Keep h0 h [t] ∧ Arv Z h t k .byte (68 : Int32) (own_wa (cs ++ ds)) (.int 0)
theorem ef_own_li (m : MethodId) (x0 : Nat) (x2 : Nat) (x3 : Int32) (x4 : Int32) : entryFrame m #[(.ref x0), (.int 0), (.ref x2), (.int x3), (.int x4)] 5 = mkF m 0 #[.val (.ref x0), .val (.int 0), .val (.ref x2), .val (.int x3), .val (.int x4)] [] := by first | (simp [entryFrame, mkF, argsToLocals, Value.category]; done) | rfl
theorem own_li (l : Launch) (Z : State) (a0 : Array Value) (hw : hWt a0 Z) (ws : List Jvm.Cond) (tb t mb : Nat) (kb k : ClassId) (cs ds : List Int32) (rs : List Value) (fm : Value) (h0 : Heap) (n0 : Nat) (Z0 : n0 ≤ h0.size) (X00 : Old Z n0 h0) (OA : oA Z) (OH : oH Z) (OL : oL Z) (O4 : o4 Z fm) (rfm : fm.isRef = true) (As : Arv Z h0 tb kb .byte (Int32.ofNat mb) (own_bt ds ++ rs) (.int 0)) (hmb : ds.length ≤ mb) (hmc : mb ≤ 4000) (hds : ∀ c ∈ ds, ¬ c < 0 ∧ ¬ (255 : Int32) < c) (Vt : Arv Z h0 t k .byte (68 : Int32) (own_wa cs) (.int 0)) (hl : cs.length + ds.length ≤ 34) (gt : n0 ≤ t) (nbt : tb ≠ t) :
 own_MN l mN17 jdk_43_method_50_code 5 none ws rm_4_0_0_80 Z #[(.ref tb), (.int 0), (.ref t), (.int (Int32.ofNat cs.length)), (.int (Int32.ofNat ds.length))] h0 (Q_own_li Z tb t mb kb k cs ds rs fm h0 n0) := by
 refine own_bodyN (plainFor_of_name own_pn4) fun p e s m below meth c s₁ Bd hx hby hml hown hZ X0 e0 => ?_
 have N0 := Fr.nil n0
 have K0 : Keep h0 h0 [t] := Keep.refl h0 [t]
 refine own_st (fun tq kq => castTop (ef_own_li m (tb) (t) ((Int32.ofNat cs.length)) ((Int32.ofNat ds.length))) kq) ?_
 show own_G p e below _ (s₁.setTop (mkF m 0 #[vR tb, vI 0, vR t, vI (Int32.ofNat cs.length), vI (Int32.ofNat ds.length)] []))
 have hws0 : ∀ y ∈ [t], n0 ≤ y := allS gt all0
 refine s_aloadN X0 hx (hb hby dLI_0) rfl rfl ?_
 refine s_iloadN X0 hx (hb hby dLI_1) rfl ?_
 refine s_aloadN X0 hx (hb hby dLI_2) rfl rfl ?_
 refine s_iloadN X0 hx (hb hby dLI_3) rfl ?_
 refine s_iload X0 hx (hb hby dLI_4) rfl ?_
 obtain ⟨_, _, ⟨T1, L1, k1, n1⟩, -, X1, ⟨Lc1, hQ1, l1, y1, z1⟩, st1⟩ := Jvm.LawKit.callS X0 hx (y := mN16) hown (mvT hZ (wd243 hw)) (mvT hZ (wd244 hw)) (mvT hZ (wd26 hw)) (mvT hZ (wd245 hw)) (by decide) (own_backN (W := 0) (own_ui l Z a0 hw [] (tb) (t) (mb) (kb) (k) (cs) (ds) (rs) (fm) h0 n0 (by omega) (X00.keep K0 hws0) OA OH OL O4 rfm As hmb hmc hds Vt hl gt nbt) hZ (wd245 hw) (wd26 hw) (by decide) (by decide)) (g := (mkF m 6 #[vR tb, vI 0, vR t, vI (Int32.ofNat cs.length), vI (Int32.ofNat ds.length)] [(.int (Int32.ofNat ds.length)), (.int (Int32.ofNat cs.length)), (.ref t), (.int 0), (.ref tb)])) rfl (by rw [hml]; rfl) (argsL := [(.ref tb), (.int 0), (.ref t), (.int (Int32.ofNat cs.length)), (.int (Int32.ofNat ds.length))]) (rest := []) (lenOf own_pd12 rfl) rfl (Nat.le_of_eq rfl) (hb hby dLI_6) (fun _ _ => ⟨rfl, e0, (by decide : 0 + 0 ≤ _), (by decide : 0 + 0 ≤ _)⟩)
 dsimp only [Pt.U, Pt.locs, Pt.cells, Pt.slots] at X1 l1 y1 z1 st1 hQ1
 subst l1 y1 z1
 obtain ⟨rfl, Nq1, Kq1, Vi1⟩ := hQ1
 have KK1 : Keep h0 T1.heap [t] := Kq1
 have sz1 : h0.size ≤ T1.heap.size := KK1.1
 have K1 : Keep h0 T1.heap [t] := K0.trans KK1 (allS (Or.inl (by simp)) all0)
 have N1 := Fr.app N0 Nq1
 refine own_st st1 ?_
 exact own_retN X1 (v := none) (fun _ => rfl) Bd.notSynchronized (fun fs hr => X1.returnOut hx Bd.returns (hb hby dLI_9) hr) (by decide) (by decide) (by exact ⟨rfl, N1, K1, Vi1⟩)

def Q_own_ifL (Z : State) (x t : Nat) (k : ClassId) (cs : List Int32) (G1 : Int32) (fm : Value) (h0 : Heap) (n0 : Nat) (v : Option Value) (h : Heap) (L : List Loc) : Prop := v = none ∧ Fr n0 L ∧ Keep h0 h [x] ∧ ∃ (t' : Nat) (k' : ClassId), h0.size ≤ t' ∧ t' < h.size ∧ own_WB Z h x t' k' cs
theorem ef_own_ifL (m : MethodId) (x0 : Nat) : entryFrame m #[(.ref x0)] 2 = mkF m 0 #[.val (.ref x0), .unset] [] := by first | (simp [entryFrame, mkF, argsToLocals, Value.category]; done) | rfl
theorem own_ifL (l : Launch) (Z : State) (a0 : Array Value) (hw : hWt a0 Z) (ws : List Jvm.Cond) (x t : Nat) (k : ClassId) (cs : List Int32) (G1 : Int32) (fm : Value) (h0 : Heap) (n0 : Nat) (Z0 : n0 ≤ h0.size) (X00 : Old Z n0 h0) (B : own_LB Z h0 x t k cs) (hcs : ∀ c ∈ cs, ¬ c < 0 ∧ ¬ (255 : Int32) < c) (hl : cs.length ≤ 34) (gx : n0 ≤ x) (O2 : Sta Z Z.heap "java/lang/String" "COMPACT_STRINGS" "Z" (.int G1)) (P5 : ¬ (G1 = (0 : Int32))) (OA : oA Z) (OH : oH Z) (OL : oL Z) (O4 : o4 Z fm) (rfm : fm.isRef = true) :
 own_MN l mN18 jdk_68_method_11_code 2 none ws rm_5_1_68_100 Z #[(.ref x)] h0 (Q_own_ifL Z x t k cs G1 fm h0 n0) := by
 refine own_bodyN (plainFor_of_name own_pn1) fun p e s m below meth c s₁ Bd hx hby hml hown hZ X0 e0 => ?_
 have N0 := Fr.nil n0
 have K0 : Keep h0 h0 [x] := Keep.refl h0 [x]
 refine own_st (fun tq kq => castTop (ef_own_ifL m (x)) kq) ?_
 show own_G p e below _ (s₁.setTop (mkF m 0 #[vR x, .unset] []))
 have hws0 : ∀ y ∈ [x], n0 ≤ y := allS gx all0
 obtain ⟨Ex, Fv, Fd, Fn, Fm, Vt⟩ := id B
 have ltx : x < h0.size := Fv.lt
 have ltt : t < h0.size := Vt.lt
 refine s_aloadN X0 hx (hb hby dIF_0) rfl rfl ?_
 obtain ⟨cq1, kq1, q1a, q1b, q1c⟩ := isOf hZ e0 Ex
 obtain ⟨_, _, ⟨T1, L1, k1, n1⟩, -, X1, ⟨Lc1, hQ1, l1, y1, z1⟩, st1⟩ := X0.virtualBack hx (y := mN3) (z := mN3) hown (mvT hZ (wd237 hw)) (mvT hZ (wd160 hw)) (notFace_of_selects (args := #[]) (mvT hZ (wd162 hw))) (mvT hZ (wd162 hw)) (mvT hZ (wd161 hw)) (by decide) (own_backN (W := 0) (own_bl0 l Z a0 hw [] (x) (G1) h0 n0 (by omega) (X00.keep K0 hws0) Fd O2 P5) hZ (wd163 hw) (wd52 hw) (by decide) (by decide)) q1a q1c (g := (mkF m 1 #[vR x, .unset] [(.ref x)])) rfl (by rw [hml]; rfl) (Steps.refl _) (argsL := []) (rest := []) (lenOf own_pd13 rfl) rfl (Nat.le_of_eq rfl) (hb hby dIF_1) (fun _ _ => ⟨rfl, e0, (by decide : 0 + 0 ≤ _), (by decide : 0 + 0 ≤ _)⟩)
 dsimp only [Pt.U, Pt.locs, Pt.cells, Pt.slots] at X1 l1 y1 z1 st1 hQ1
 subst l1 y1 z1
 obtain ⟨rfl, Nq1, sm1⟩ := hQ1
 have N1 := Fr.app N0 Nq1
 refine own_st (fun tq kq => st1.trans kq) ?_
 refine own_st (fun tq kq => XS.ifYes X1.here hx rfl (pc0 := 4) (pc' := 8) rfl (hb hby dIF_4) rfl ((if0 _ _).trans (feq (by decide : ¬ ((1 : Int32) = (0 : Int32)))).2) (by decide) (by decide) kq) ?_
 refine s_aloadN X1 hx (hb hby dIF_8) rfl rfl ?_
 obtain ⟨T2, X2, e2, st2⟩ := getF X1 hx hZ hown (host := "") (Or.inl (wd56 hw)) Via.refl sm1 Fv (g := (mkF m 9 #[vR x, .unset] [(.ref x)])) rfl rfl (hb hby dIF_9)
 refine own_st st2 ?_
 obtain ⟨cl3, Ar3, q3, S_3, N_3, H_3, G_3⟩ := id Vt
 refine own_st (fun tq kq => X2.arraylength hx (by rw [e2]; exact Ar3.1) (State.isArrayOf_alike hZ.alike Ar3.2.1) (g := (mkF m 12 #[vR x, .unset] [(.ref t)])) rfl rfl (hb hby dIF_12) _ kq) ?_
 rw [len_of S_3 N_3]
 show own_G p e below _ (T2.setTop (mkF m 13 #[vR x, .unset] [(.int 34)]))
 obtain ⟨_, _, ⟨T4, L4, k4, n4⟩, -, X4, ⟨Lc4, hQ4, l4, y4, z4⟩, st4⟩ := Jvm.LawKit.callS X2 hx (y := mN5) hown (mvT hZ (wd238 hw)) (mvT hZ (wd217 hw)) (mvT hZ (wd26 hw)) (mvT hZ (wd218 hw)) (by decide) (own_backN (W := 0) (own_nbf l Z a0 hw [] (34) h0 n0 (by omega) (X00.keep K0 hws0) (by omega)) hZ (wd218 hw) (wd26 hw) (by decide) (by decide)) (g := (mkF m 13 #[vR x, .unset] [(.int 34)])) rfl (by rw [hml]; rfl) (argsL := [(.int 34)]) (rest := []) (lenOf own_pd3 rfl) rfl (Nat.le_of_eq rfl) (hb hby dIF_13) (fun _ _ => ⟨rfl, e2, (by decide : 0 + 1 ≤ _), (by decide : 0 + 68 ≤ _)⟩)
 dsimp only [Pt.U, Pt.locs, Pt.cells, Pt.slots] at X4 l4 y4 z4 st4 hQ4
 subst l4 y4 z4
 obtain ⟨t4, kb4, rfl, Nq4, Kq4, gt4, lt4, Vt4⟩ := hQ4
 have KK4 : Keep h0 T4.heap [] := Kq4
 have sz4 : h0.size ≤ T4.heap.size := KK4.1
 have K4 : Keep h0 T4.heap [x] := K0.trans KK4 all0
 have N4 := Fr.app N1 Nq4
 refine own_st st4 ?_
 refine own_st (fun tq kq => XS.astoreN X4.here hx rfl (hb hby dIF_16) rfl rfl (l' := #[vR x, vR t4]) rfl kq) ?_
 refine s_aloadN X4 hx (hb hby dIF_17) rfl rfl ?_
 obtain ⟨T5, X5, e5, st5⟩ := getF X4 hx hZ hown (host := "") (Or.inl (wd56 hw)) Via.refl rfl (Fv.keep KK4 nin0) (g := (mkF m 18 #[vR x, vR t4] [(.ref x)])) rfl rfl (hb hby dIF_18)
 refine own_st st5 ?_
 refine s_iconst X5 hx (hb hby dIF_21) ?_
 refine s_aloadN X5 hx (hb hby dIF_22) rfl rfl ?_
 refine s_iconst X5 hx (hb hby dIF_23) ?_
 refine s_aloadN X5 hx (hb hby dIF_24) rfl rfl ?_
 obtain ⟨T6, X6, e6, st6⟩ := getF X5 hx hZ hown (host := "") (Or.inl (wd83 hw)) Via.refl e5 (Fn.keep KK4 nin0) (g := (mkF m 25 #[vR x, vR t4] [(.ref x), (.int 0), (.ref t4), (.int 0), (.ref t)])) rfl rfl (hb hby dIF_25)
 refine own_st st6 ?_
 obtain ⟨_, _, ⟨T7, L7, k7, n7⟩, -, X7, ⟨Lc7, hQ7, l7, y7, z7⟩, st7⟩ := Jvm.LawKit.callS X6 hx (y := mN17) hown (mvT hZ (wd239 hw)) (mvT hZ (wd240 hw)) (mvT hZ (wd241 hw)) (mvT hZ (wd242 hw)) (by decide) (own_backN (W := 0) (own_li l Z a0 hw [] (t) (t4) (34) (k) (kb4) ([]) (cs) (_) (fm) T4.heap n0 (by omega) (X00.keep K4 hws0) OA OH OL O4 rfm (Vt.keep KK4 nin0) (by omega) (by omega) hcs Vt4 (by simp only [List.length_nil]; omega) (by omega) (own_ne (by omega))) hZ (wd242 hw) (wd241 hw) (by decide) (by decide)) (g := (mkF m 28 #[vR x, vR t4] [(.int (Int32.ofNat cs.length)), (.int 0), (.ref t4), (.int 0), (.ref t)])) rfl (by rw [hml]; rfl) (argsL := [(.ref t), (.int 0), (.ref t4), (.int 0), (.int (Int32.ofNat cs.length))]) (rest := []) (lenOf own_pd12 rfl) rfl (Nat.le_of_eq rfl) (hb hby dIF_28) (fun _ _ => ⟨rfl, e6, (by decide : 1 + 0 ≤ _), (by decide : 68 + 0 ≤ _)⟩)
 dsimp only [Pt.U, Pt.locs, Pt.cells, Pt.slots] at X7 l7 y7 z7 st7 hQ7
 subst l7 y7 z7
 obtain ⟨rfl, Nq7, Kq7, Vi7⟩ := hQ7
 have KK7 : Keep T4.heap T7.heap [t4] := Kq7
 have sz7 : T4.heap.size ≤ T7.heap.size := KK7.1
 have K7 : Keep h0 T7.heap [x] := K4.trans KK7 (allS (Or.inr (own_le (by omega))) all0)
 have N7 := Fr.app N4 Nq7
 refine own_st st7 ?_
 refine s_aloadN X7 hx (hb hby dIF_31) rfl rfl ?_
 refine s_aloadN X7 hx (hb hby dIF_32) rfl rfl ?_
 obtain ⟨T8, h8, X8, e8, W8, st8⟩ := putF X7 hx hZ hown (host := "") (Or.inl (wd56 hw)) Via.refl rfl ((Fv.keep KK4 nin0).keep KK7 (ninS (own_ne (by omega)) nin0)) ((Ex.keep KK4).keep KK7) (Or.inl (wd57 hw)) (wd43 hw) (ty := (.array .byte)) (by decide) rfl rfl (g := (mkF m 33 #[vR x, vR t4] [(.ref t4), (.ref x)])) rfl rfl (hb hby dIF_33)
 have Fw8 := ((Fv.keep KK4 nin0).keep KK7 (ninS (own_ne (by omega)) nin0)).same W8
 have sz8 : T7.heap.size ≤ h8.size := (Keep.of_wr W8).1
 have K8 : Keep h0 h8 [x] := K7.wr W8 (Or.inl (by simp))
 have N8 := Fr.snoc X8 N7 (own_le (by omega))
 refine own_st st8 ?_
 refine s_aloadN X8 hx (hb hby dIF_36) rfl rfl ?_
 refine s_iconst X8 hx (hb hby dIF_37) ?_
 obtain ⟨T9, h9, X9, e9, W9, st9⟩ := putF X8 hx hZ hown (host := "") (Or.inl (wd58 hw)) Via.refl e8 (((Fd.keep KK4 nin0).keep KK7 (ninS (own_ne (by omega)) nin0)).other W8 (Or.inr (slot_ne (Or.inl (wd59 hw)) (Or.inl (wd57 hw)) (by decide) (t := .byte) (t' := (.array .byte)) (by decide) (by decide)))) (((Ex.keep KK4).keep KK7).wr W8) (Or.inl (wd59 hw)) (wd43 hw) (ty := .byte) (by decide) rfl rfl (g := (mkF m 38 #[vR x, vR t4] [(.int 1), (.ref x)])) rfl rfl (hb hby dIF_38)
 have Fw9 := (((Fd.keep KK4 nin0).keep KK7 (ninS (own_ne (by omega)) nin0)).other W8 (Or.inr (slot_ne (Or.inl (wd59 hw)) (Or.inl (wd57 hw)) (by decide) (t := .byte) (t' := (.array .byte)) (by decide) (by decide)))).same W9
 have sz9 : h8.size ≤ h9.size := (Keep.of_wr W9).1
 have K9 : Keep h0 h9 [x] := K8.wr W9 (Or.inl (by simp))
 have N9 := Fr.snoc X9 N8 (own_le (by omega))
 refine own_st st9 ?_
 exact own_retN X9 (v := none) (fun _ => rfl) Bd.notSynchronized (fun fs hr => X9.returnOut hx Bd.returns (hb hby dIF_41) hr) (by decide) (by decide) (by rw [e9]; exact ⟨rfl, N9, K9, t4, _, (by omega), ((Vi7.other W8 (own_ne (by omega))).other W9 (own_ne (by omega))).lt, ((((Ex.keep KK4).keep KK7).wr W8).wr W9), (Fw8.other W9 (Or.inr (slot_ne (Or.inl (wd57 hw)) (Or.inl (wd59 hw)) (by decide) (t := (.array .byte)) (t' := .byte) (by decide) (by decide)))), Fw9, ((((Fn.keep KK4 nin0).keep KK7 (ninS (own_ne (by omega)) nin0)).other W8 (Or.inr (slot_ne (Or.inl (wd84 hw)) (Or.inl (wd57 hw)) (by decide) (t := .int) (t' := (.array .byte)) (by decide) (by decide)))).other W9 (Or.inr (slot_ne (Or.inl (wd84 hw)) (Or.inl (wd59 hw)) (by decide) (t := .int) (t' := .byte) (by decide) (by decide)))), ((((Fm.keep KK4 nin0).keep KK7 (ninS (own_ne (by omega)) nin0)).other W8 (Or.inr (slot_ne (Or.inl (wd262 hw)) (Or.inl (wd57 hw)) (by decide) (t := .boolean) (t' := (.array .byte)) (by decide) (by decide)))).other W9 (Or.inr (slot_ne (Or.inl (wd262 hw)) (Or.inl (wd59 hw)) (by decide) (t := .boolean) (t' := .byte) (by decide) (by decide)))), ((Vi7.other W8 (own_ne (by omega))).other W9 (own_ne (by omega)))⟩)

def Q_own_ifW (Z : State) (x t : Nat) (k : ClassId) (cs : List Int32) (G1 : Int32) (h0 : Heap) (n0 : Nat) (v : Option Value) (h : Heap) (L : List Loc) : Prop := v = none ∧ Fr n0 L ∧ h = h0
theorem own_ifW (l : Launch) (Z : State) (a0 : Array Value) (hw : hWt a0 Z) (ws : List Jvm.Cond) (x t : Nat) (k : ClassId) (cs : List Int32) (G1 : Int32) (h0 : Heap) (n0 : Nat) (Z0 : n0 ≤ h0.size) (X00 : Old Z n0 h0) (B : own_WB Z h0 x t k cs) (O2 : Sta Z Z.heap "java/lang/String" "COMPACT_STRINGS" "Z" (.int G1)) (P5 : ¬ (G1 = (0 : Int32))) :
 own_MN l mN18 jdk_68_method_11_code 2 none ws rm_1_0_0_20 Z #[(.ref x)] h0 (Q_own_ifW Z x t k cs G1 h0 n0) := by
 refine own_bodyN (plainFor_of_name own_pn1) fun p e s m below meth c s₁ Bd hx hby hml hown hZ X0 e0 => ?_
 have N0 := Fr.nil n0
 have K0 : Keep h0 h0 [] := Keep.refl h0 []
 refine own_st (fun tq kq => castTop (ef_own_ifL m (x)) kq) ?_
 show own_G p e below _ (s₁.setTop (mkF m 0 #[vR x, .unset] []))
 obtain ⟨Ex, Fv, Fd, Fn, Fm, Vt⟩ := id B
 have ltx : x < h0.size := Fv.lt
 have ltt : t < h0.size := Vt.lt
 refine s_aloadN X0 hx (hb hby dIF_0) rfl rfl ?_
 obtain ⟨cq1, kq1, q1a, q1b, q1c⟩ := isOf hZ e0 Ex
 obtain ⟨_, _, ⟨T1, L1, k1, n1⟩, -, X1, ⟨Lc1, hQ1, l1, y1, z1⟩, st1⟩ := X0.virtualBack hx (y := mN3) (z := mN3) hown (mvT hZ (wd237 hw)) (mvT hZ (wd160 hw)) (notFace_of_selects (args := #[]) (mvT hZ (wd162 hw))) (mvT hZ (wd162 hw)) (mvT hZ (wd161 hw)) (by decide) (own_backN (W := 0) (own_bl1 l Z a0 hw [] (x) (G1) h0 n0 (by omega) (X00.keep K0 all0) Fd O2 P5) hZ (wd163 hw) (wd52 hw) (by decide) (by decide)) q1a q1c (g := (mkF m 1 #[vR x, .unset] [(.ref x)])) rfl (by rw [hml]; rfl) (Steps.refl _) (argsL := []) (rest := []) (lenOf own_pd13 rfl) rfl (Nat.le_of_eq rfl) (hb hby dIF_1) (fun _ _ => ⟨rfl, e0, (by decide : 0 + 0 ≤ _), (by decide : 0 + 0 ≤ _)⟩)
 dsimp only [Pt.U, Pt.locs, Pt.cells, Pt.slots] at X1 l1 y1 z1 st1 hQ1
 subst l1 y1 z1
 obtain ⟨rfl, Nq1, sm1⟩ := hQ1
 have N1 := Fr.app N0 Nq1
 refine own_st (fun tq kq => st1.trans kq) ?_
 refine own_st (fun tq kq => XS.ifNo X1.here hx rfl (hb hby dIF_4) rfl ((if0 _ _).trans (teq (by decide : ((0 : Int32) = (0 : Int32)))).2) kq) ?_
 exact own_retN X1 (v := none) (fun _ => rfl) Bd.notSynchronized (fun fs hr => X1.returnOut hx Bd.returns (hb hby dIF_7) hr) (by decide) (by decide) (by rw [sm1]; exact ⟨rfl, N1, rfl⟩)

def Q_own_inLL (Z : State) (x t : Nat) (k : ClassId) (cs : List Int32) (G1 : Int32) (fm : Value) (sx tb : Nat) (kb : ClassId) (ds : List Int32) (h0 : Heap) (n0 : Nat) (v : Option Value) (h : Heap) (L : List Loc) : Prop := v = none ∧ Fr n0 L ∧ h = h0
theorem own_inLL (l : Launch) (Z : State) (a0 : Array Value) (hw : hWt a0 Z) (ws : List Jvm.Cond) (x t : Nat) (k : ClassId) (cs : List Int32) (G1 : Int32) (fm : Value) (sx tb : Nat) (kb : ClassId) (ds : List Int32) (h0 : Heap) (n0 : Nat) (Z0 : n0 ≤ h0.size) (X00 : Old Z n0 h0) (B : own_LB Z h0 x t k cs) (Es : Exa Z h0 sx "java/lang/String") (Vs : Fld Z h0 sx "java/lang/String" "value" "[B" (.ref tb)) (Cs : Fld Z h0 sx "java/lang/String" "coder" "B" (.int (0 : Int32))) (As : Arv Z h0 tb kb .byte (Int32.ofNat ds.length) (own_bt ds) (.int 0)) (hds : ∀ c ∈ ds, ¬ c < 0 ∧ ¬ (255 : Int32) < c) (O2 : Sta Z Z.heap "java/lang/String" "COMPACT_STRINGS" "Z" (.int G1)) (P5 : ¬ (G1 = (0 : Int32))) :
 own_MN l mN19 jdk_68_method_71_code 2 none ws rm_2_0_0_40 Z #[(.ref x), (.ref sx)] h0 (Q_own_inLL Z x t k cs G1 fm sx tb kb ds h0 n0) := by
 refine own_bodyN (plainFor_of_name own_pn1) fun p e s m below meth c s₁ Bd hx hby hml hown hZ X0 e0 => ?_
 have N0 := Fr.nil n0
 have K0 : Keep h0 h0 [] := Keep.refl h0 []
 refine own_st (fun tq kq => castTop (ef_own_init1E m (x) (sx)) kq) ?_
 show own_G p e below _ (s₁.setTop (mkF m 0 #[vR x, vR sx] []))
 obtain ⟨Ex, Fv, Fd, Fn, Fm, Vt⟩ := id B
 have ltx : x < h0.size := Fv.lt
 have ltt : t < h0.size := Vt.lt
 obtain ⟨T1, X1, e1, st1⟩ := getS2 X0 hx hZ hown (host := "") (Or.inl (wd55 hw)) Via.refl e0 (O2.ext (X00.keep K0 all0).2) (g := (mkF m 0 #[vR x, vR sx] [])) rfl (hb hby dIN_0)
 refine own_st st1 ?_
 refine own_st (fun tq kq => XS.ifNo X1.here hx rfl (hb hby dIN_3) rfl ((if0 _ _).trans (feq P5).1) kq) ?_
 refine s_aloadN X1 hx (hb hby dIN_6) rfl rfl ?_
 obtain ⟨T2, X2, e2, st2⟩ := getF X1 hx hZ hown (host := "") (Or.inl (wd58 hw)) Via.refl e1 Fd (g := (mkF m 7 #[vR x, vR sx] [(.ref x)])) rfl rfl (hb hby dIN_7)
 refine own_st st2 ?_
 refine s_aloadN X2 hx (hb hby dIN_10) rfl rfl ?_
 obtain ⟨cq3, kq3, q3a, q3b, q3c⟩ := isOf hZ e2 Es
 obtain ⟨_, _, ⟨T3, L3, k3, n3⟩, -, X3, ⟨Lc3, hQ3, l3, y3, z3⟩, st3⟩ := X2.virtualBack hx (y := mN2) (z := mN2) hown (mvT hZ (wd126 hw)) (mvT hZ (wd79 hw)) (notFace_of_selects (args := #[]) (mvT hZ (wd81 hw))) (mvT hZ (wd81 hw)) (mvT hZ (wd80 hw)) (by decide) (own_backN (W := 1) (own_co0 l Z a0 hw [] (sx) (G1) h0 n0 (by omega) (X00.keep K0 all0) Cs O2 P5) hZ (wd82 hw) (wd12 hw) (by decide) (by decide)) q3a q3c (g := (mkF m 11 #[vR x, vR sx] [(.ref sx), (.int 0)])) rfl (by rw [hml]; rfl) (Steps.refl _) (argsL := []) (rest := [(.int 0)]) (lenOf own_pd14 rfl) rfl (Nat.le_of_eq rfl) (hb hby dIN_11) (fun _ _ => ⟨rfl, e2, (by decide : 0 + 0 ≤ _), (by decide : 0 + 0 ≤ _)⟩)
 dsimp only [Pt.U, Pt.locs, Pt.cells, Pt.slots] at X3 l3 y3 z3 st3 hQ3
 subst l3 y3 z3
 obtain ⟨rfl, Nq3, sm3⟩ := hQ3
 have N3 := Fr.app N0 Nq3
 refine own_st (fun tq kq => st3.trans kq) ?_
 refine own_st (fun tq kq => XS.icmpYes X3.here hx rfl (pc0 := 14) (pc' := 21) rfl (hb hby dIN_14) rfl (teq (by decide : ((0 : Int32) = (0 : Int32)))).1 (by decide) (by decide) kq) ?_
 exact own_retN X3 (v := none) (fun _ => rfl) Bd.notSynchronized (fun fs hr => X3.returnOut hx Bd.returns (hb hby dIN_21) hr) (by decide) (by decide) (by rw [sm3]; exact ⟨rfl, N3, rfl⟩)

def Q_own_inWL (Z : State) (x t : Nat) (k : ClassId) (cs : List Int32) (G1 : Int32) (fm : Value) (sx tb : Nat) (kb : ClassId) (ds : List Int32) (h0 : Heap) (n0 : Nat) (v : Option Value) (h : Heap) (L : List Loc) : Prop := v = none ∧ Fr n0 L ∧ h = h0
theorem own_inWL (l : Launch) (Z : State) (a0 : Array Value) (hw : hWt a0 Z) (ws : List Jvm.Cond) (x t : Nat) (k : ClassId) (cs : List Int32) (G1 : Int32) (fm : Value) (sx tb : Nat) (kb : ClassId) (ds : List Int32) (h0 : Heap) (n0 : Nat) (Z0 : n0 ≤ h0.size) (X00 : Old Z n0 h0) (B : own_WB Z h0 x t k cs) (Es : Exa Z h0 sx "java/lang/String") (Vs : Fld Z h0 sx "java/lang/String" "value" "[B" (.ref tb)) (Cs : Fld Z h0 sx "java/lang/String" "coder" "B" (.int (0 : Int32))) (As : Arv Z h0 tb kb .byte (Int32.ofNat ds.length) (own_bt ds) (.int 0)) (hds : ∀ c ∈ ds, ¬ c < 0 ∧ ¬ (255 : Int32) < c) (O2 : Sta Z Z.heap "java/lang/String" "COMPACT_STRINGS" "Z" (.int G1)) (P5 : ¬ (G1 = (0 : Int32))) :
 own_MN l mN19 jdk_68_method_71_code 2 none ws rm_2_0_0_40 Z #[(.ref x), (.ref sx)] h0 (Q_own_inWL Z x t k cs G1 fm sx tb kb ds h0 n0) := by
 refine own_bodyN (plainFor_of_name own_pn1) fun p e s m below meth c s₁ Bd hx hby hml hown hZ X0 e0 => ?_
 have N0 := Fr.nil n0
 have K0 : Keep h0 h0 [] := Keep.refl h0 []
 refine own_st (fun tq kq => castTop (ef_own_init1E m (x) (sx)) kq) ?_
 show own_G p e below _ (s₁.setTop (mkF m 0 #[vR x, vR sx] []))
 obtain ⟨Ex, Fv, Fd, Fn, Fm, Vt⟩ := id B
 have ltx : x < h0.size := Fv.lt
 have ltt : t < h0.size := Vt.lt
 obtain ⟨T1, X1, e1, st1⟩ := getS2 X0 hx hZ hown (host := "") (Or.inl (wd55 hw)) Via.refl e0 (O2.ext (X00.keep K0 all0).2) (g := (mkF m 0 #[vR x, vR sx] [])) rfl (hb hby dIN_0)
 refine own_st st1 ?_
 refine own_st (fun tq kq => XS.ifNo X1.here hx rfl (hb hby dIN_3) rfl ((if0 _ _).trans (feq P5).1) kq) ?_
 refine s_aloadN X1 hx (hb hby dIN_6) rfl rfl ?_
 obtain ⟨T2, X2, e2, st2⟩ := getF X1 hx hZ hown (host := "") (Or.inl (wd58 hw)) Via.refl e1 Fd (g := (mkF m 7 #[vR x, vR sx] [(.ref x)])) rfl rfl (hb hby dIN_7)
 refine own_st st2 ?_
 refine s_aloadN X2 hx (hb hby dIN_10) rfl rfl ?_
 obtain ⟨cq3, kq3, q3a, q3b, q3c⟩ := isOf hZ e2 Es
 obtain ⟨_, _, ⟨T3, L3, k3, n3⟩, -, X3, ⟨Lc3, hQ3, l3, y3, z3⟩, st3⟩ := X2.virtualBack hx (y := mN2) (z := mN2) hown (mvT hZ (wd126 hw)) (mvT hZ (wd79 hw)) (notFace_of_selects (args := #[]) (mvT hZ (wd81 hw))) (mvT hZ (wd81 hw)) (mvT hZ (wd80 hw)) (by decide) (own_backN (W := 1) (own_co0 l Z a0 hw [] (sx) (G1) h0 n0 (by omega) (X00.keep K0 all0) Cs O2 P5) hZ (wd82 hw) (wd12 hw) (by decide) (by decide)) q3a q3c (g := (mkF m 11 #[vR x, vR sx] [(.ref sx), (.int 1)])) rfl (by rw [hml]; rfl) (Steps.refl _) (argsL := []) (rest := [(.int 1)]) (lenOf own_pd14 rfl) rfl (Nat.le_of_eq rfl) (hb hby dIN_11) (fun _ _ => ⟨rfl, e2, (by decide : 0 + 0 ≤ _), (by decide : 0 + 0 ≤ _)⟩)
 dsimp only [Pt.U, Pt.locs, Pt.cells, Pt.slots] at X3 l3 y3 z3 st3 hQ3
 subst l3 y3 z3
 obtain ⟨rfl, Nq3, sm3⟩ := hQ3
 have N3 := Fr.app N0 Nq3
 refine own_st (fun tq kq => st3.trans kq) ?_
 refine own_st (fun tq kq => XS.icmpNo X3.here hx rfl (hb hby dIN_14) rfl (feq (by decide : ¬ ((1 : Int32) = (0 : Int32)))).1 kq) ?_
 refine s_aloadN X3 hx (hb hby dIN_17) rfl rfl ?_
 obtain ⟨cq4, q4a, q4b⟩ := Exa.cell Ex
 obtain ⟨_, _, ⟨T4, L4, k4, n4⟩, -, X4, ⟨Lc4, hQ4, l4, y4, z4⟩, st4⟩ := X3.privateBack hx (y := mN18) hown (mvT hZ (wd232 hw)) (mvT hZ (wd233 hw)) (mvT hZ (own_selP (wd235 hw) (wd234 hw) (wd233 hw) (by decide))) (Cond.privateMethod_at (mvP hZ (wd234 hw) (args := #[]))) (mvT hZ (wd236 hw)) (by decide) (own_backN (W := 0) (own_ifW l Z a0 hw [] (x) (t) (k) (cs) (G1) h0 n0 (by omega) (X00.keep K0 all0) ⟨Ex, Fv, Fd, Fn, Fm, Vt⟩ O2 P5) hZ (wd236 hw) (wd52 hw) (by decide) (by decide)) (g := (mkF m 18 #[vR x, vR sx] [(.ref x)])) rfl (by rw [hml]; rfl) (Steps.refl _) (a := x) (by rw [sm3]; exact q4a) q4b (argsL := []) (rest := []) (lenOf own_pd15 rfl) rfl (Nat.le_of_eq rfl) (hb hby dIN_18) (fun _ _ => ⟨rfl, sm3, (by decide : 0 + 0 ≤ _), (by decide : 0 + 0 ≤ _)⟩)
 dsimp only [Pt.U, Pt.locs, Pt.cells, Pt.slots] at X4 l4 y4 z4 st4 hQ4
 subst l4 y4 z4
 obtain ⟨rfl, Nq4, sm4⟩ := hQ4
 have N4 := Fr.app N3 Nq4
 refine own_st (fun tq kq => st4.trans kq) ?_
 exact own_retN X4 (v := none) (fun _ => rfl) Bd.notSynchronized (fun fs hr => X4.returnOut hx Bd.returns (hb hby dIN_21) hr) (by decide) (by decide) (by rw [sm4]; exact ⟨rfl, N4, rfl⟩)

def Q_own_inLW (Z : State) (x t : Nat) (k : ClassId) (cs : List Int32) (G1 : Int32) (fm : Value) (sx tb : Nat) (kb : ClassId) (ds : List Int32) (h0 : Heap) (n0 : Nat) (v : Option Value) (h : Heap) (L : List Loc) : Prop := v = none ∧ Fr n0 L ∧ Keep h0 h [x] ∧ ∃ (t' : Nat) (k' : ClassId), h0.size ≤ t' ∧ t' < h.size ∧ own_WB Z h x t' k' cs
theorem own_inLW (l : Launch) (Z : State) (a0 : Array Value) (hw : hWt a0 Z) (ws : List Jvm.Cond) (x t : Nat) (k : ClassId) (cs : List Int32) (G1 : Int32) (fm : Value) (sx tb : Nat) (kb : ClassId) (ds : List Int32) (h0 : Heap) (n0 : Nat) (Z0 : n0 ≤ h0.size) (X00 : Old Z n0 h0) (B : own_LB Z h0 x t k cs) (hcs : ∀ c ∈ cs, ¬ c < 0 ∧ ¬ (255 : Int32) < c) (hl : cs.length ≤ 34) (gx : n0 ≤ x) (O2 : Sta Z Z.heap "java/lang/String" "COMPACT_STRINGS" "Z" (.int G1)) (P5 : ¬ (G1 = (0 : Int32))) (OA : oA Z) (OH : oH Z) (OL : oL Z) (O4 : o4 Z fm) (rfm : fm.isRef = true) (Es : Exa Z h0 sx "java/lang/String") (Vs : Fld Z h0 sx "java/lang/String" "value" "[B" (.ref tb)) (Cs : Fld Z h0 sx "java/lang/String" "coder" "B" (.int (1 : Int32))) (As : Arv Z h0 tb kb .byte (Int32.ofNat (2 * ds.length)) (own_wb ds) (.int 0)) (hds : ∀ c ∈ ds, ¬ c < 0 ∧ ¬ (65535 : Int32) < c) :
 own_MN l mN19 jdk_68_method_71_code 2 none ws rm_6_1_68_120 Z #[(.ref x), (.ref sx)] h0 (Q_own_inLW Z x t k cs G1 fm sx tb kb ds h0 n0) := by
 refine own_bodyN (plainFor_of_name own_pn1) fun p e s m below meth c s₁ Bd hx hby hml hown hZ X0 e0 => ?_
 have N0 := Fr.nil n0
 have K0 : Keep h0 h0 [x] := Keep.refl h0 [x]
 refine own_st (fun tq kq => castTop (ef_own_init1E m (x) (sx)) kq) ?_
 show own_G p e below _ (s₁.setTop (mkF m 0 #[vR x, vR sx] []))
 have hws0 : ∀ y ∈ [x], n0 ≤ y := allS gx all0
 obtain ⟨Ex, Fv, Fd, Fn, Fm, Vt⟩ := id B
 have ltx : x < h0.size := Fv.lt
 have ltt : t < h0.size := Vt.lt
 obtain ⟨T1, X1, e1, st1⟩ := getS2 X0 hx hZ hown (host := "") (Or.inl (wd55 hw)) Via.refl e0 (O2.ext (X00.keep K0 hws0).2) (g := (mkF m 0 #[vR x, vR sx] [])) rfl (hb hby dIN_0)
 refine own_st st1 ?_
 refine own_st (fun tq kq => XS.ifNo X1.here hx rfl (hb hby dIN_3) rfl ((if0 _ _).trans (feq P5).1) kq) ?_
 refine s_aloadN X1 hx (hb hby dIN_6) rfl rfl ?_
 obtain ⟨T2, X2, e2, st2⟩ := getF X1 hx hZ hown (host := "") (Or.inl (wd58 hw)) Via.refl e1 Fd (g := (mkF m 7 #[vR x, vR sx] [(.ref x)])) rfl rfl (hb hby dIN_7)
 refine own_st st2 ?_
 refine s_aloadN X2 hx (hb hby dIN_10) rfl rfl ?_
 obtain ⟨cq3, kq3, q3a, q3b, q3c⟩ := isOf hZ e2 Es
 obtain ⟨_, _, ⟨T3, L3, k3, n3⟩, -, X3, ⟨Lc3, hQ3, l3, y3, z3⟩, st3⟩ := X2.virtualBack hx (y := mN2) (z := mN2) hown (mvT hZ (wd126 hw)) (mvT hZ (wd79 hw)) (notFace_of_selects (args := #[]) (mvT hZ (wd81 hw))) (mvT hZ (wd81 hw)) (mvT hZ (wd80 hw)) (by decide) (own_backN (W := 1) (own_co1 l Z a0 hw [] (sx) (G1) h0 n0 (by omega) (X00.keep K0 hws0) Cs O2 P5) hZ (wd82 hw) (wd12 hw) (by decide) (by decide)) q3a q3c (g := (mkF m 11 #[vR x, vR sx] [(.ref sx), (.int 0)])) rfl (by rw [hml]; rfl) (Steps.refl _) (argsL := []) (rest := [(.int 0)]) (lenOf own_pd14 rfl) rfl (Nat.le_of_eq rfl) (hb hby dIN_11) (fun _ _ => ⟨rfl, e2, (by decide : 0 + 0 ≤ _), (by decide : 0 + 0 ≤ _)⟩)
 dsimp only [Pt.U, Pt.locs, Pt.cells, Pt.slots] at X3 l3 y3 z3 st3 hQ3
 subst l3 y3 z3
 obtain ⟨rfl, Nq3, sm3⟩ := hQ3
 have N3 := Fr.app N0 Nq3
 refine own_st (fun tq kq => st3.trans kq) ?_
 refine own_st (fun tq kq => XS.icmpNo X3.here hx rfl (hb hby dIN_14) rfl (feq (by decide : ¬ ((0 : Int32) = (1 : Int32)))).1 kq) ?_
 refine s_aloadN X3 hx (hb hby dIN_17) rfl rfl ?_
 obtain ⟨cq4, q4a, q4b⟩ := Exa.cell Ex
 obtain ⟨_, _, ⟨T4, L4, k4, n4⟩, -, X4, ⟨Lc4, hQ4, l4, y4, z4⟩, st4⟩ := X3.privateBack hx (y := mN18) hown (mvT hZ (wd232 hw)) (mvT hZ (wd233 hw)) (mvT hZ (own_selP (wd235 hw) (wd234 hw) (wd233 hw) (by decide))) (Cond.privateMethod_at (mvP hZ (wd234 hw) (args := #[]))) (mvT hZ (wd236 hw)) (by decide) (own_backN (W := 0) (own_ifL l Z a0 hw [] (x) (t) (k) (cs) (G1) (fm) h0 n0 (by omega) (X00.keep K0 hws0) ⟨Ex, Fv, Fd, Fn, Fm, Vt⟩ hcs (by omega) gx O2 P5 OA OH OL O4 rfm) hZ (wd236 hw) (wd52 hw) (by decide) (by decide)) (g := (mkF m 18 #[vR x, vR sx] [(.ref x)])) rfl (by rw [hml]; rfl) (Steps.refl _) (a := x) (by rw [sm3]; exact q4a) q4b (argsL := []) (rest := []) (lenOf own_pd15 rfl) rfl (Nat.le_of_eq rfl) (hb hby dIN_18) (fun _ _ => ⟨rfl, sm3, (by decide : 0 + 1 ≤ _), (by decide : 0 + 68 ≤ _)⟩)
 dsimp only [Pt.U, Pt.locs, Pt.cells, Pt.slots] at X4 l4 y4 z4 st4 hQ4
 subst l4 y4 z4
 obtain ⟨rfl, Nq4, Kq4, tw4, kw4, gw4, lw4, Bw4⟩ := hQ4
 have KK4 : Keep h0 T4.heap [x] := Kq4
 have sz4 : h0.size ≤ T4.heap.size := KK4.1
 have K4 : Keep h0 T4.heap [x] := K0.trans KK4 (allS (Or.inl (by simp)) all0)
 have N4 := Fr.app N3 Nq4
 obtain ⟨Ex4, Fv4, Fd4, Fn4, Fm4, Vw4⟩ := id Bw4
 refine own_st (fun tq kq => st4.trans kq) ?_
 exact own_retN X4 (v := none) (fun _ => rfl) Bd.notSynchronized (fun fs hr => X4.returnOut hx Bd.returns (hb hby dIN_21) hr) (by decide) (by decide) (by exact ⟨rfl, N4, K4, tw4, _, (by omega), Vw4.lt, Ex4, Fv4, Fd4, Fn4, Fm4, Vw4⟩)

def Q_own_gbLL (Z : State) (t : Nat) (k : ClassId) (cs : List Int32) (G1 : Int32) (fm : Value) (sx tb : Nat) (kb : ClassId) (ds : List Int32) (h0 : Heap) (n0 : Nat) (v : Option Value) (h : Heap) (L : List Loc) : Prop := v = none ∧ Fr n0 L ∧ Keep h0 h [t] ∧ Arv Z h t k .byte (34 : Int32) (own_la (cs ++ ds)) (.int 0)
theorem ef_own_gbLL (m : MethodId) (x0 : Nat) (x1 : Nat) (x2 : Int32) : entryFrame m #[(.ref x0), (.ref x1), (.int x2), (.int 0)] 4 = mkF m 0 #[.val (.ref x0), .val (.ref x1), .val (.int x2), .val (.int 0)] [] := by first | (simp [entryFrame, mkF, argsToLocals, Value.category]; done) | rfl
theorem own_gbLL (l : Launch) (Z : State) (a0 : Array Value) (hw : hWt a0 Z) (ws : List Jvm.Cond) (t : Nat) (k : ClassId) (cs : List Int32) (G1 : Int32) (fm : Value) (sx tb : Nat) (kb : ClassId) (ds : List Int32) (h0 : Heap) (n0 : Nat) (Z0 : n0 ≤ h0.size) (X00 : Old Z n0 h0) (Vt : Arv Z h0 t k .byte (34 : Int32) (own_la cs) (.int 0)) (Es : Exa Z h0 sx "java/lang/String") (Vs : Fld Z h0 sx "java/lang/String" "value" "[B" (.ref tb)) (Cs : Fld Z h0 sx "java/lang/String" "coder" "B" (.int (0 : Int32))) (As : Arv Z h0 tb kb .byte (Int32.ofNat ds.length) (own_bt ds) (.int 0)) (hds : ∀ c ∈ ds, ¬ c < 0 ∧ ¬ (255 : Int32) < c) (hl : cs.length + ds.length ≤ 34) (gt : n0 ≤ t) (nbt : tb ≠ t) (O2 : Sta Z Z.heap "java/lang/String" "COMPACT_STRINGS" "Z" (.int G1)) (P5 : ¬ (G1 = (0 : Int32))) (OA : oA Z) (OH : oH Z) (OL : oL Z) (O4 : o4 Z fm) (rfm : fm.isRef = true) :
 own_MN l mN20 jdk_42_method_147_code 4 none ws rm_1_0_0_40 Z #[(.ref sx), (.ref t), (.int (Int32.ofNat cs.length)), (.int 0)] h0 (Q_own_gbLL Z t k cs G1 fm sx tb kb ds h0 n0) := by
 refine own_bodyN (plainFor_of_name own_pn0) fun p e s m below meth c s₁ Bd hx hby hml hown hZ X0 e0 => ?_
 have N0 := Fr.nil n0
 have K0 : Keep h0 h0 [t] := Keep.refl h0 [t]
 refine own_st (fun tq kq => castTop (ef_own_gbLL m (sx) (t) ((Int32.ofNat cs.length))) kq) ?_
 show own_G p e below _ (s₁.setTop (mkF m 0 #[vR sx, vR t, vI (Int32.ofNat cs.length), vI 0] []))
 have hws0 : ∀ y ∈ [t], n0 ≤ y := allS gt all0
 refine s_aloadN X0 hx (hb hby dGB_0) rfl rfl ?_
 obtain ⟨cq1, kq1, q1a, q1b, q1c⟩ := isOf hZ e0 Es
 obtain ⟨_, _, ⟨T1, L1, k1, n1⟩, -, X1, ⟨Lc1, hQ1, l1, y1, z1⟩, st1⟩ := X0.virtualBack hx (y := mN2) (z := mN2) hown (mvT hZ (wd78 hw)) (mvT hZ (wd79 hw)) (notFace_of_selects (args := #[]) (mvT hZ (wd81 hw))) (mvT hZ (wd81 hw)) (mvT hZ (wd80 hw)) (by decide) (own_backN (W := 0) (own_co0 l Z a0 hw [] (sx) (G1) h0 n0 (by omega) (X00.keep K0 hws0) Cs O2 P5) hZ (wd82 hw) (wd12 hw) (by decide) (by decide)) q1a q1c (g := (mkF m 1 #[vR sx, vR t, vI (Int32.ofNat cs.length), vI 0] [(.ref sx)])) rfl (by rw [hml]; rfl) (Steps.refl _) (argsL := []) (rest := []) (lenOf own_pd14 rfl) rfl (Nat.le_of_eq rfl) (hb hby dGB_1) (fun _ _ => ⟨rfl, e0, (by decide : 0 + 0 ≤ _), (by decide : 0 + 0 ≤ _)⟩)
 dsimp only [Pt.U, Pt.locs, Pt.cells, Pt.slots] at X1 l1 y1 z1 st1 hQ1
 subst l1 y1 z1
 obtain ⟨rfl, Nq1, sm1⟩ := hQ1
 have N1 := Fr.app N0 Nq1
 refine own_st (fun tq kq => st1.trans kq) ?_
 refine s_iloadN X1 hx (hb hby dGB_4) rfl ?_
 show own_G p e below _ (T1.setTop (mkF m 5 #[vR sx, vR t, vI (Int32.ofNat cs.length), vI 0] [(.int 0), (.int 0)]))
 refine own_st (fun tq kq => XS.icmpNo X1.here hx rfl (hb hby dGB_5) rfl (teq (by decide : ((0 : Int32) = (0 : Int32)))).2 kq) ?_
 refine s_aloadN X1 hx (hb hby dGB_8) rfl rfl ?_
 obtain ⟨T2, X2, e2, st2⟩ := getF X1 hx hZ hown (host := "") (Or.inl (wd36 hw)) Via.refl sm1 Vs (g := (mkF m 9 #[vR sx, vR t, vI (Int32.ofNat cs.length), vI 0] [(.ref sx)])) rfl rfl (hb hby dGB_9)
 refine own_st st2 ?_
 refine s_iconst X2 hx (hb hby dGB_12) ?_
 refine s_aloadN X2 hx (hb hby dGB_13) rfl rfl ?_
 refine s_iloadN X2 hx (hb hby dGB_14) rfl ?_
 refine s_iloadN X2 hx (hb hby dGB_15) rfl ?_
 refine own_st (fun tq kq => XS.ishl X2.here hx rfl (hb hby dGB_16) rfl kq) ?_
 show own_G p e below _ (T2.setTop (mkF m 17 #[vR sx, vR t, vI (Int32.ofNat cs.length), vI 0] [(.int ((Int32.ofNat cs.length) <<< ((0 : Int32) &&& 31))), (.ref t), (.int 0), (.ref tb)]))
 rw [own_shl0]
 show own_G p e below _ (T2.setTop (mkF m 17 #[vR sx, vR t, vI (Int32.ofNat cs.length), vI 0] [(.int (Int32.ofNat cs.length)), (.ref t), (.int 0), (.ref tb)]))
 refine s_aloadN X2 hx (hb hby dGB_17) rfl rfl ?_
 obtain ⟨T3, X3, e3, st3⟩ := getF X2 hx hZ hown (host := "") (Or.inl (wd36 hw)) Via.refl e2 Vs (g := (mkF m 18 #[vR sx, vR t, vI (Int32.ofNat cs.length), vI 0] [(.ref sx), (.int (Int32.ofNat cs.length)), (.ref t), (.int 0), (.ref tb)])) rfl rfl (hb hby dGB_18)
 refine own_st st3 ?_
 obtain ⟨cl4, Ar4, q4, S_4, N_4, H_4, G_4⟩ := id As
 refine own_st (fun tq kq => X3.arraylength hx (by rw [e3]; exact Ar4.1) (State.isArrayOf_alike hZ.alike Ar4.2.1) (g := (mkF m 21 #[vR sx, vR t, vI (Int32.ofNat cs.length), vI 0] [(.ref tb), (.int (Int32.ofNat cs.length)), (.ref t), (.int 0), (.ref tb)])) rfl rfl (hb hby dGB_21) _ kq) ?_
 rw [len_of S_4 N_4]
 show own_G p e below _ (T3.setTop (mkF m 22 #[vR sx, vR t, vI (Int32.ofNat cs.length), vI 0] [(.int (Int32.ofNat ds.length)), (.int (Int32.ofNat cs.length)), (.ref t), (.int 0), (.ref tb)]))
 obtain ⟨T5, h5, L5, X5, e5, N5, KK5, V5, st5⟩ := cpA X3 hx hZ hown (wd132 hw) (wd115 hw) (wd113 hw) (wd114 hw) e3 As Vt (sp := (0 : Int32)) (dp := (Int32.ofNat cs.length)) (nn := (Int32.ofNat ds.length)) (us := (own_bt ds)) (Or.inl ⟨rfl, rfl⟩) (by decide) (own_n0 (by omega)) (own_n0 (by omega)) (by rw [own_n32 (by omega)]; show 0 + _ ≤ _; omega) (by rw [own_n32 (by omega), own_n32 (by omega)]; show _ ≤ 34; omega) (own_hus0 (by simp) (by omega)) (by rw [own_n32 (by omega), own_n32 (by omega)]; simp only [own_bt, List.length_append, List.length_map, List.length_replicate]; omega) N1 (own_le (by omega)) (g := (mkF m 22 #[vR sx, vR t, vI (Int32.ofNat cs.length), vI 0] [(.int (Int32.ofNat ds.length)), (.int (Int32.ofNat cs.length)), (.ref t), (.int 0), (.ref tb)])) rfl (by rw [hml]; rfl) (rest := []) rfl (hb hby dGB_22) (by decide) (W := 0) (Nat.le_of_eq rfl) (by decide)
 have sz5 : h0.size ≤ h5.size := KK5.1
 have K5 : Keep h0 h5 [t] := K0.trans KK5 (allS (Or.inl (by simp)) all0)
 rw [own_put34 hl] at V5
 refine own_st st5 ?_
 refine own_st (fun tq kq => XS.goto X5.here hx rfl (pc0 := 25) (pc' := 43) rfl (hb hby dGB_25) (by decide) (by decide) kq) ?_
 exact own_retN X5 (v := none) (fun _ => rfl) Bd.notSynchronized (fun fs hr => X5.returnOut hx Bd.returns (hb hby dGB_43) hr) (by decide) (by decide) (by rw [e5]; exact ⟨rfl, N5, K5, V5⟩)

def Q_own_gbWW (Z : State) (t : Nat) (k : ClassId) (cs : List Int32) (G1 : Int32) (fm : Value) (sx tb : Nat) (kb : ClassId) (ds : List Int32) (h0 : Heap) (n0 : Nat) (v : Option Value) (h : Heap) (L : List Loc) : Prop := v = none ∧ Fr n0 L ∧ Keep h0 h [t] ∧ Arv Z h t k .byte (68 : Int32) (own_wa (cs ++ ds)) (.int 0)
theorem ef_own_gbWW (m : MethodId) (x0 : Nat) (x1 : Nat) (x2 : Int32) : entryFrame m #[(.ref x0), (.ref x1), (.int x2), (.int 1)] 4 = mkF m 0 #[.val (.ref x0), .val (.ref x1), .val (.int x2), .val (.int 1)] [] := by first | (simp [entryFrame, mkF, argsToLocals, Value.category]; done) | rfl
theorem own_gbWW (l : Launch) (Z : State) (a0 : Array Value) (hw : hWt a0 Z) (ws : List Jvm.Cond) (t : Nat) (k : ClassId) (cs : List Int32) (G1 : Int32) (fm : Value) (sx tb : Nat) (kb : ClassId) (ds : List Int32) (h0 : Heap) (n0 : Nat) (Z0 : n0 ≤ h0.size) (X00 : Old Z n0 h0) (Vt : Arv Z h0 t k .byte (68 : Int32) (own_wa cs) (.int 0)) (Es : Exa Z h0 sx "java/lang/String") (Vs : Fld Z h0 sx "java/lang/String" "value" "[B" (.ref tb)) (Cs : Fld Z h0 sx "java/lang/String" "coder" "B" (.int (1 : Int32))) (As : Arv Z h0 tb kb .byte (Int32.ofNat (2 * ds.length)) (own_wb ds) (.int 0)) (hds : ∀ c ∈ ds, ¬ c < 0 ∧ ¬ (65535 : Int32) < c) (hl : cs.length + ds.length ≤ 34) (gt : n0 ≤ t) (nbt : tb ≠ t) (O2 : Sta Z Z.heap "java/lang/String" "COMPACT_STRINGS" "Z" (.int G1)) (P5 : ¬ (G1 = (0 : Int32))) (OA : oA Z) (OH : oH Z) (OL : oL Z) (O4 : o4 Z fm) (rfm : fm.isRef = true) :
 own_MN l mN20 jdk_42_method_147_code 4 none ws rm_1_0_0_40 Z #[(.ref sx), (.ref t), (.int (Int32.ofNat cs.length)), (.int 1)] h0 (Q_own_gbWW Z t k cs G1 fm sx tb kb ds h0 n0) := by
 refine own_bodyN (plainFor_of_name own_pn0) fun p e s m below meth c s₁ Bd hx hby hml hown hZ X0 e0 => ?_
 have N0 := Fr.nil n0
 have K0 : Keep h0 h0 [t] := Keep.refl h0 [t]
 refine own_st (fun tq kq => castTop (ef_own_gbWW m (sx) (t) ((Int32.ofNat cs.length))) kq) ?_
 show own_G p e below _ (s₁.setTop (mkF m 0 #[vR sx, vR t, vI (Int32.ofNat cs.length), vI 1] []))
 have hws0 : ∀ y ∈ [t], n0 ≤ y := allS gt all0
 refine s_aloadN X0 hx (hb hby dGB_0) rfl rfl ?_
 obtain ⟨cq1, kq1, q1a, q1b, q1c⟩ := isOf hZ e0 Es
 obtain ⟨_, _, ⟨T1, L1, k1, n1⟩, -, X1, ⟨Lc1, hQ1, l1, y1, z1⟩, st1⟩ := X0.virtualBack hx (y := mN2) (z := mN2) hown (mvT hZ (wd78 hw)) (mvT hZ (wd79 hw)) (notFace_of_selects (args := #[]) (mvT hZ (wd81 hw))) (mvT hZ (wd81 hw)) (mvT hZ (wd80 hw)) (by decide) (own_backN (W := 0) (own_co1 l Z a0 hw [] (sx) (G1) h0 n0 (by omega) (X00.keep K0 hws0) Cs O2 P5) hZ (wd82 hw) (wd12 hw) (by decide) (by decide)) q1a q1c (g := (mkF m 1 #[vR sx, vR t, vI (Int32.ofNat cs.length), vI 1] [(.ref sx)])) rfl (by rw [hml]; rfl) (Steps.refl _) (argsL := []) (rest := []) (lenOf own_pd14 rfl) rfl (Nat.le_of_eq rfl) (hb hby dGB_1) (fun _ _ => ⟨rfl, e0, (by decide : 0 + 0 ≤ _), (by decide : 0 + 0 ≤ _)⟩)
 dsimp only [Pt.U, Pt.locs, Pt.cells, Pt.slots] at X1 l1 y1 z1 st1 hQ1
 subst l1 y1 z1
 obtain ⟨rfl, Nq1, sm1⟩ := hQ1
 have N1 := Fr.app N0 Nq1
 refine own_st (fun tq kq => st1.trans kq) ?_
 refine s_iloadN X1 hx (hb hby dGB_4) rfl ?_
 show own_G p e below _ (T1.setTop (mkF m 5 #[vR sx, vR t, vI (Int32.ofNat cs.length), vI 1] [(.int 1), (.int 1)]))
 refine own_st (fun tq kq => XS.icmpNo X1.here hx rfl (hb hby dGB_5) rfl (teq (by decide : ((1 : Int32) = (1 : Int32)))).2 kq) ?_
 refine s_aloadN X1 hx (hb hby dGB_8) rfl rfl ?_
 obtain ⟨T2, X2, e2, st2⟩ := getF X1 hx hZ hown (host := "") (Or.inl (wd36 hw)) Via.refl sm1 Vs (g := (mkF m 9 #[vR sx, vR t, vI (Int32.ofNat cs.length), vI 1] [(.ref sx)])) rfl rfl (hb hby dGB_9)
 refine own_st st2 ?_
 refine s_iconst X2 hx (hb hby dGB_12) ?_
 refine s_aloadN X2 hx (hb hby dGB_13) rfl rfl ?_
 refine s_iloadN X2 hx (hb hby dGB_14) rfl ?_
 refine s_iloadN X2 hx (hb hby dGB_15) rfl ?_
 refine own_st (fun tq kq => XS.ishl X2.here hx rfl (hb hby dGB_16) rfl kq) ?_
 show own_G p e below _ (T2.setTop (mkF m 17 #[vR sx, vR t, vI (Int32.ofNat cs.length), vI 1] [(.int ((Int32.ofNat cs.length) <<< ((1 : Int32) &&& 31))), (.ref t), (.int 0), (.ref tb)]))
 rw [own_shl1 (by omega)]
 show own_G p e below _ (T2.setTop (mkF m 17 #[vR sx, vR t, vI (Int32.ofNat cs.length), vI 1] [(.int (Int32.ofNat (2 * cs.length))), (.ref t), (.int 0), (.ref tb)]))
 refine s_aloadN X2 hx (hb hby dGB_17) rfl rfl ?_
 obtain ⟨T3, X3, e3, st3⟩ := getF X2 hx hZ hown (host := "") (Or.inl (wd36 hw)) Via.refl e2 Vs (g := (mkF m 18 #[vR sx, vR t, vI (Int32.ofNat cs.length), vI 1] [(.ref sx), (.int (Int32.ofNat (2 * cs.length))), (.ref t), (.int 0), (.ref tb)])) rfl rfl (hb hby dGB_18)
 refine own_st st3 ?_
 obtain ⟨cl4, Ar4, q4, S_4, N_4, H_4, G_4⟩ := id As
 refine own_st (fun tq kq => X3.arraylength hx (by rw [e3]; exact Ar4.1) (State.isArrayOf_alike hZ.alike Ar4.2.1) (g := (mkF m 21 #[vR sx, vR t, vI (Int32.ofNat cs.length), vI 1] [(.ref tb), (.int (Int32.ofNat (2 * cs.length))), (.ref t), (.int 0), (.ref tb)])) rfl rfl (hb hby dGB_21) _ kq) ?_
 rw [len_of S_4 N_4]
 show own_G p e below _ (T3.setTop (mkF m 22 #[vR sx, vR t, vI (Int32.ofNat cs.length), vI 1] [(.int (Int32.ofNat (2 * ds.length))), (.int (Int32.ofNat (2 * cs.length))), (.ref t), (.int 0), (.ref tb)]))
 obtain ⟨T5, h5, L5, X5, e5, N5, KK5, V5, st5⟩ := cpA X3 hx hZ hown (wd132 hw) (wd115 hw) (wd113 hw) (wd114 hw) e3 As Vt (sp := (0 : Int32)) (dp := (Int32.ofNat (2 * cs.length))) (nn := (Int32.ofNat (2 * ds.length))) (us := (own_wb ds)) (Or.inl ⟨rfl, rfl⟩) (by decide) (own_n0 (by omega)) (own_n0 (by omega)) (by rw [own_n32 (by omega)]; show 0 + _ ≤ _; omega) (by rw [own_n32 (by omega), own_n32 (by omega)]; show _ ≤ 68; omega) (own_hus0 (own_wb_len ds) (by omega)) (by rw [own_n32 (by omega), own_n32 (by omega), own_wa_len (by omega)]; omega) N1 (own_le (by omega)) (g := (mkF m 22 #[vR sx, vR t, vI (Int32.ofNat cs.length), vI 1] [(.int (Int32.ofNat (2 * ds.length))), (.int (Int32.ofNat (2 * cs.length))), (.ref t), (.int 0), (.ref tb)])) rfl (by rw [hml]; rfl) (rest := []) rfl (hb hby dGB_22) (by decide) (W := 0) (Nat.le_of_eq rfl) (by decide)
 have sz5 : h0.size ≤ h5.size := KK5.1
 have K5 : Keep h0 h5 [t] := K0.trans KK5 (allS (Or.inl (by simp)) all0)
 rw [own_putW hl] at V5
 refine own_st st5 ?_
 refine own_st (fun tq kq => XS.goto X5.here hx rfl (pc0 := 25) (pc' := 43) rfl (hb hby dGB_25) (by decide) (by decide) kq) ?_
 exact own_retN X5 (v := none) (fun _ => rfl) Bd.notSynchronized (fun fs hr => X5.returnOut hx Bd.returns (hb hby dGB_43) hr) (by decide) (by decide) (by rw [e5]; exact ⟨rfl, N5, K5, V5⟩)

def Q_own_gbLW (Z : State) (t : Nat) (k : ClassId) (cs : List Int32) (G1 : Int32) (fm : Value) (sx tb : Nat) (kb : ClassId) (ds : List Int32) (h0 : Heap) (n0 : Nat) (v : Option Value) (h : Heap) (L : List Loc) : Prop := v = none ∧ Fr n0 L ∧ Keep h0 h [t] ∧ Arv Z h t k .byte (68 : Int32) (own_wa (cs ++ ds)) (.int 0)
theorem own_gbLW (l : Launch) (Z : State) (a0 : Array Value) (hw : hWt a0 Z) (ws : List Jvm.Cond) (t : Nat) (k : ClassId) (cs : List Int32) (G1 : Int32) (fm : Value) (sx tb : Nat) (kb : ClassId) (ds : List Int32) (h0 : Heap) (n0 : Nat) (Z0 : n0 ≤ h0.size) (X00 : Old Z n0 h0) (Vt : Arv Z h0 t k .byte (68 : Int32) (own_wa cs) (.int 0)) (Es : Exa Z h0 sx "java/lang/String") (Vs : Fld Z h0 sx "java/lang/String" "value" "[B" (.ref tb)) (Cs : Fld Z h0 sx "java/lang/String" "coder" "B" (.int (0 : Int32))) (As : Arv Z h0 tb kb .byte (Int32.ofNat ds.length) (own_bt ds) (.int 0)) (hds : ∀ c ∈ ds, ¬ c < 0 ∧ ¬ (255 : Int32) < c) (hl : cs.length + ds.length ≤ 34) (gt : n0 ≤ t) (nbt : tb ≠ t) (O2 : Sta Z Z.heap "java/lang/String" "COMPACT_STRINGS" "Z" (.int G1)) (P5 : ¬ (G1 = (0 : Int32))) (OA : oA Z) (OH : oH Z) (OL : oL Z) (O4 : o4 Z fm) (rfm : fm.isRef = true) :
 own_MN l mN20 jdk_42_method_147_code 4 none ws rm_5_0_0_100 Z #[(.ref sx), (.ref t), (.int (Int32.ofNat cs.length)), (.int 1)] h0 (Q_own_gbLW Z t k cs G1 fm sx tb kb ds h0 n0) := by
 refine own_bodyN (plainFor_of_name own_pn0) fun p e s m below meth c s₁ Bd hx hby hml hown hZ X0 e0 => ?_
 have N0 := Fr.nil n0
 have K0 : Keep h0 h0 [t] := Keep.refl h0 [t]
 refine own_st (fun tq kq => castTop (ef_own_gbWW m (sx) (t) ((Int32.ofNat cs.length))) kq) ?_
 show own_G p e below _ (s₁.setTop (mkF m 0 #[vR sx, vR t, vI (Int32.ofNat cs.length), vI 1] []))
 have hws0 : ∀ y ∈ [t], n0 ≤ y := allS gt all0
 refine s_aloadN X0 hx (hb hby dGB_0) rfl rfl ?_
 obtain ⟨cq1, kq1, q1a, q1b, q1c⟩ := isOf hZ e0 Es
 obtain ⟨_, _, ⟨T1, L1, k1, n1⟩, -, X1, ⟨Lc1, hQ1, l1, y1, z1⟩, st1⟩ := X0.virtualBack hx (y := mN2) (z := mN2) hown (mvT hZ (wd78 hw)) (mvT hZ (wd79 hw)) (notFace_of_selects (args := #[]) (mvT hZ (wd81 hw))) (mvT hZ (wd81 hw)) (mvT hZ (wd80 hw)) (by decide) (own_backN (W := 0) (own_co0 l Z a0 hw [] (sx) (G1) h0 n0 (by omega) (X00.keep K0 hws0) Cs O2 P5) hZ (wd82 hw) (wd12 hw) (by decide) (by decide)) q1a q1c (g := (mkF m 1 #[vR sx, vR t, vI (Int32.ofNat cs.length), vI 1] [(.ref sx)])) rfl (by rw [hml]; rfl) (Steps.refl _) (argsL := []) (rest := []) (lenOf own_pd14 rfl) rfl (Nat.le_of_eq rfl) (hb hby dGB_1) (fun _ _ => ⟨rfl, e0, (by decide : 0 + 0 ≤ _), (by decide : 0 + 0 ≤ _)⟩)
 dsimp only [Pt.U, Pt.locs, Pt.cells, Pt.slots] at X1 l1 y1 z1 st1 hQ1
 subst l1 y1 z1
 obtain ⟨rfl, Nq1, sm1⟩ := hQ1
 have N1 := Fr.app N0 Nq1
 refine own_st (fun tq kq => st1.trans kq) ?_
 refine s_iloadN X1 hx (hb hby dGB_4) rfl ?_
 show own_G p e below _ (T1.setTop (mkF m 5 #[vR sx, vR t, vI (Int32.ofNat cs.length), vI 1] [(.int 1), (.int 0)]))
 refine own_st (fun tq kq => XS.icmpYes X1.here hx rfl (pc0 := 5) (pc' := 28) rfl (hb hby dGB_5) rfl (feq (by decide : ¬ ((0 : Int32) = (1 : Int32)))).2 (by decide) (by decide) kq) ?_
 refine s_aloadN X1 hx (hb hby dGB_28) rfl rfl ?_
 obtain ⟨T2, X2, e2, st2⟩ := getF X1 hx hZ hown (host := "") (Or.inl (wd36 hw)) Via.refl sm1 Vs (g := (mkF m 29 #[vR sx, vR t, vI (Int32.ofNat cs.length), vI 1] [(.ref sx)])) rfl rfl (hb hby dGB_29)
 refine own_st st2 ?_
 refine s_iconst X2 hx (hb hby dGB_32) ?_
 refine s_aloadN X2 hx (hb hby dGB_33) rfl rfl ?_
 refine s_iloadN X2 hx (hb hby dGB_34) rfl ?_
 refine s_aloadN X2 hx (hb hby dGB_35) rfl rfl ?_
 obtain ⟨T3, X3, e3, st3⟩ := getF X2 hx hZ hown (host := "") (Or.inl (wd36 hw)) Via.refl e2 Vs (g := (mkF m 36 #[vR sx, vR t, vI (Int32.ofNat cs.length), vI 1] [(.ref sx), (.int (Int32.ofNat cs.length)), (.ref t), (.int 0), (.ref tb)])) rfl rfl (hb hby dGB_36)
 refine own_st st3 ?_
 obtain ⟨cl4, Ar4, q4, S_4, N_4, H_4, G_4⟩ := id As
 refine own_st (fun tq kq => X3.arraylength hx (by rw [e3]; exact Ar4.1) (State.isArrayOf_alike hZ.alike Ar4.2.1) (g := (mkF m 39 #[vR sx, vR t, vI (Int32.ofNat cs.length), vI 1] [(.ref tb), (.int (Int32.ofNat cs.length)), (.ref t), (.int 0), (.ref tb)])) rfl rfl (hb hby dGB_39) _ kq) ?_
 rw [len_of S_4 N_4]
 show own_G p e below _ (T3.setTop (mkF m 40 #[vR sx, vR t, vI (Int32.ofNat cs.length), vI 1] [(.int (Int32.ofNat ds.length)), (.int (Int32.ofNat cs.length)), (.ref t), (.int 0), (.ref tb)]))
 obtain ⟨_, _, ⟨T5, L5, k5, n5⟩, -, X5, ⟨Lc5, hQ5, l5, y5, z5⟩, st5⟩ := Jvm.LawKit.callS X3 hx (y := mN17) hown (mvT hZ (wd260 hw)) (mvT hZ (wd240 hw)) (mvT hZ (wd241 hw)) (mvT hZ (wd242 hw)) (by decide) (own_backN (W := 0) (own_li l Z a0 hw [] (tb) (t) (ds.length) (kb) (k) (cs) (ds) ([]) (fm) h0 n0 (by omega) (X00.keep K0 hws0) OA OH OL O4 rfm (by rw [List.append_nil]; exact As) (Nat.le_refl _) (by omega) hds Vt hl gt nbt) hZ (wd242 hw) (wd241 hw) (by decide) (by decide)) (g := (mkF m 40 #[vR sx, vR t, vI (Int32.ofNat cs.length), vI 1] [(.int (Int32.ofNat ds.length)), (.int (Int32.ofNat cs.length)), (.ref t), (.int 0), (.ref tb)])) rfl (by rw [hml]; rfl) (argsL := [(.ref tb), (.int 0), (.ref t), (.int (Int32.ofNat cs.length)), (.int (Int32.ofNat ds.length))]) (rest := []) (lenOf own_pd12 rfl) rfl (Nat.le_of_eq rfl) (hb hby dGB_40) (fun _ _ => ⟨rfl, e3, (by decide : 0 + 0 ≤ _), (by decide : 0 + 0 ≤ _)⟩)
 dsimp only [Pt.U, Pt.locs, Pt.cells, Pt.slots] at X5 l5 y5 z5 st5 hQ5
 subst l5 y5 z5
 obtain ⟨rfl, Nq5, Kq5, Vi5⟩ := hQ5
 have KK5 : Keep h0 T5.heap [t] := Kq5
 have sz5 : h0.size ≤ T5.heap.size := KK5.1
 have K5 : Keep h0 T5.heap [t] := K0.trans KK5 (allS (Or.inl (by simp)) all0)
 have N5 := Fr.app N1 Nq5
 refine own_st st5 ?_
 exact own_retN X5 (v := none) (fun _ => rfl) Bd.notSynchronized (fun fs hr => X5.returnOut hx Bd.returns (hb hby dGB_43) hr) (by decide) (by decide) (by exact ⟨rfl, N5, K5, Vi5⟩)

def Q_own_psLL (Z : State) (x t : Nat) (k : ClassId) (cs : List Int32) (G1 : Int32) (fm : Value) (sx tb : Nat) (kb : ClassId) (ds : List Int32) (h0 : Heap) (n0 : Nat) (v : Option Value) (h : Heap) (L : List Loc) : Prop := v = none ∧ Fr n0 L ∧ Keep h0 h [t] ∧ Arv Z h t k .byte (34 : Int32) (own_la (cs ++ ds)) (.int 0)
theorem ef_own_psLL (m : MethodId) (x0 : Nat) (x1 : Int32) (x2 : Nat) : entryFrame m #[(.ref x0), (.int x1), (.ref x2)] 3 = mkF m 0 #[.val (.ref x0), .val (.int x1), .val (.ref x2)] [] := by first | (simp [entryFrame, mkF, argsToLocals, Value.category]; done) | rfl
theorem own_psLL (l : Launch) (Z : State) (a0 : Array Value) (hw : hWt a0 Z) (ws : List Jvm.Cond) (x t : Nat) (k : ClassId) (cs : List Int32) (G1 : Int32) (fm : Value) (sx tb : Nat) (kb : ClassId) (ds : List Int32) (h0 : Heap) (n0 : Nat) (Z0 : n0 ≤ h0.size) (X00 : Old Z n0 h0) (B : own_LB Z h0 x t k cs) (Es : Exa Z h0 sx "java/lang/String") (Vs : Fld Z h0 sx "java/lang/String" "value" "[B" (.ref tb)) (Cs : Fld Z h0 sx "java/lang/String" "coder" "B" (.int (0 : Int32))) (As : Arv Z h0 tb kb .byte (Int32.ofNat ds.length) (own_bt ds) (.int 0)) (hds : ∀ c ∈ ds, ¬ c < 0 ∧ ¬ (255 : Int32) < c) (hl : cs.length + ds.length ≤ 34) (hcs : ∀ c ∈ cs, ¬ c < 0 ∧ ¬ (255 : Int32) < c) (gx : n0 ≤ x) (gt : n0 ≤ t) (nxt : x ≠ t) (nbt : tb ≠ t) (lts : tb < h0.size) (O2 : Sta Z Z.heap "java/lang/String" "COMPACT_STRINGS" "Z" (.int G1)) (P5 : ¬ (G1 = (0 : Int32))) (OA : oA Z) (OH : oH Z) (OL : oL Z) (O4 : o4 Z fm) (rfm : fm.isRef = true) :
 own_MN l mN21 jdk_68_method_73_code 3 none ws rm_6_0_0_120 Z #[(.ref x), (.int (Int32.ofNat cs.length)), (.ref sx)] h0 (Q_own_psLL Z x t k cs G1 fm sx tb kb ds h0 n0) := by
 refine own_bodyN (plainFor_of_name own_pn1) fun p e s m below meth c s₁ Bd hx hby hml hown hZ X0 e0 => ?_
 have N0 := Fr.nil n0
 have K0 : Keep h0 h0 [t] := Keep.refl h0 [t]
 refine own_st (fun tq kq => castTop (ef_own_psLL m (x) ((Int32.ofNat cs.length)) (sx)) kq) ?_
 show own_G p e below _ (s₁.setTop (mkF m 0 #[vR x, vI (Int32.ofNat cs.length), vR sx] []))
 have hws0 : ∀ y ∈ [t], n0 ≤ y := allS gt all0
 obtain ⟨Ex, Fv, Fd, Fn, Fm, Vt⟩ := id B
 have ltx : x < h0.size := Fv.lt
 have ltt : t < h0.size := Vt.lt
 refine s_aloadN X0 hx (hb hby dPS_0) rfl rfl ?_
 refine s_aloadN X0 hx (hb hby dPS_1) rfl rfl ?_
 obtain ⟨cq1, q1a, q1b⟩ := Exa.cell Ex
 obtain ⟨_, _, ⟨T1, L1, k1, n1⟩, -, X1, ⟨Lc1, hQ1, l1, y1, z1⟩, st1⟩ := X0.privateBack hx (y := mN19) hown (mvT hZ (wd121 hw)) (mvT hZ (wd122 hw)) (mvT hZ (own_selP (wd124 hw) (wd123 hw) (wd122 hw) (by decide))) (Cond.privateMethod_at (mvP hZ (wd123 hw) (args := #[]))) (mvT hZ (wd125 hw)) (by decide) (own_backN (W := 0) (own_inLL l Z a0 hw [] (x) (t) (k) (cs) (G1) (fm) (sx) (tb) (kb) (ds) h0 n0 (by omega) (X00.keep K0 hws0) ⟨Ex, Fv, Fd, Fn, Fm, Vt⟩ Es Vs Cs As hds O2 P5) hZ (wd125 hw) (wd52 hw) (by decide) (by decide)) (g := (mkF m 2 #[vR x, vI (Int32.ofNat cs.length), vR sx] [(.ref sx), (.ref x)])) rfl (by rw [hml]; rfl) (Steps.refl _) (a := x) (by rw [e0]; exact q1a) q1b (argsL := [(.ref sx)]) (rest := []) (lenOf own_pd16 rfl) rfl (Nat.le_of_eq rfl) (hb hby dPS_2) (fun _ _ => ⟨rfl, e0, (by decide : 0 + 0 ≤ _), (by decide : 0 + 0 ≤ _)⟩)
 dsimp only [Pt.U, Pt.locs, Pt.cells, Pt.slots] at X1 l1 y1 z1 st1 hQ1
 subst l1 y1 z1
 obtain ⟨rfl, Nq1, sm1⟩ := hQ1
 have N1 := Fr.app N0 Nq1
 refine own_st (fun tq kq => st1.trans kq) ?_
 refine s_aloadN X1 hx (hb hby dPS_5) rfl rfl ?_
 refine s_aloadN X1 hx (hb hby dPS_6) rfl rfl ?_
 obtain ⟨T2, X2, e2, st2⟩ := getF X1 hx hZ hown (host := "") (Or.inl (wd56 hw)) Via.refl sm1 Fv (g := (mkF m 7 #[vR x, vI (Int32.ofNat cs.length), vR sx] [(.ref x), (.ref sx)])) rfl rfl (hb hby dPS_7)
 refine own_st st2 ?_
 refine s_iloadN X2 hx (hb hby dPS_10) rfl ?_
 refine s_aloadN X2 hx (hb hby dPS_11) rfl rfl ?_
 obtain ⟨T3, X3, e3, st3⟩ := getF X2 hx hZ hown (host := "") (Or.inl (wd58 hw)) Via.refl e2 Fd (g := (mkF m 12 #[vR x, vI (Int32.ofNat cs.length), vR sx] [(.ref x), (.int (Int32.ofNat cs.length)), (.ref t), (.ref sx)])) rfl rfl (hb hby dPS_12)
 refine own_st st3 ?_
 obtain ⟨cq4, kq4, q4a, q4b, q4c⟩ := isOf hZ e3 Es
 obtain ⟨_, _, ⟨T4, L4, k4, n4⟩, -, X4, ⟨Lc4, hQ4, l4, y4, z4⟩, st4⟩ := X3.virtualBack hx (y := mN20) (z := mN20) hown (mvT hZ (wd127 hw)) (mvT hZ (wd128 hw)) (notFace_of_selects (args := #[]) (mvT hZ (wd130 hw))) (mvT hZ (wd130 hw)) (mvT hZ (wd129 hw)) (by decide) (own_backN (W := 0) (own_gbLL l Z a0 hw [] (t) (k) (cs) (G1) (fm) (sx) (tb) (kb) (ds) h0 n0 (by omega) (X00.keep K0 hws0) Vt Es Vs Cs As hds hl (by omega) nbt O2 P5 OA OH OL O4 rfm) hZ (wd131 hw) (wd12 hw) (by decide) (by decide)) q4a q4c (g := (mkF m 15 #[vR x, vI (Int32.ofNat cs.length), vR sx] [(.int 0), (.int (Int32.ofNat cs.length)), (.ref t), (.ref sx)])) rfl (by rw [hml]; rfl) (Steps.refl _) (argsL := [(.ref t), (.int (Int32.ofNat cs.length)), (.int 0)]) (rest := []) (lenOf own_pd17 rfl) rfl (Nat.le_of_eq rfl) (hb hby dPS_15) (fun _ _ => ⟨rfl, e3, (by decide : 0 + 0 ≤ _), (by decide : 0 + 0 ≤ _)⟩)
 dsimp only [Pt.U, Pt.locs, Pt.cells, Pt.slots] at X4 l4 y4 z4 st4 hQ4
 subst l4 y4 z4
 obtain ⟨rfl, Nq4, Kq4, Vg4⟩ := hQ4
 have KK4 : Keep h0 T4.heap [t] := Kq4
 have sz4 : h0.size ≤ T4.heap.size := KK4.1
 have K4 : Keep h0 T4.heap [t] := K0.trans KK4 (allS (Or.inl (by simp)) all0)
 have N4 := Fr.app N1 Nq4
 refine own_st (fun tq kq => st4.trans kq) ?_
 exact own_retN X4 (v := none) (fun _ => rfl) Bd.notSynchronized (fun fs hr => X4.returnOut hx Bd.returns (hb hby dPS_18) hr) (by decide) (by decide) (by exact ⟨rfl, N4, K4, Vg4⟩)

def Q_own_psWL (Z : State) (x t : Nat) (k : ClassId) (cs : List Int32) (G1 : Int32) (fm : Value) (sx tb : Nat) (kb : ClassId) (ds : List Int32) (h0 : Heap) (n0 : Nat) (v : Option Value) (h : Heap) (L : List Loc) : Prop := v = none ∧ Fr n0 L ∧ Keep h0 h [t] ∧ Arv Z h t k .byte (68 : Int32) (own_wa (cs ++ ds)) (.int 0)
theorem own_psWL (l : Launch) (Z : State) (a0 : Array Value) (hw : hWt a0 Z) (ws : List Jvm.Cond) (x t : Nat) (k : ClassId) (cs : List Int32) (G1 : Int32) (fm : Value) (sx tb : Nat) (kb : ClassId) (ds : List Int32) (h0 : Heap) (n0 : Nat) (Z0 : n0 ≤ h0.size) (X00 : Old Z n0 h0) (B : own_WB Z h0 x t k cs) (Es : Exa Z h0 sx "java/lang/String") (Vs : Fld Z h0 sx "java/lang/String" "value" "[B" (.ref tb)) (Cs : Fld Z h0 sx "java/lang/String" "coder" "B" (.int (0 : Int32))) (As : Arv Z h0 tb kb .byte (Int32.ofNat ds.length) (own_bt ds) (.int 0)) (hds : ∀ c ∈ ds, ¬ c < 0 ∧ ¬ (255 : Int32) < c) (hl : cs.length + ds.length ≤ 34) (hcs : ∀ c ∈ cs, ¬ c < 0 ∧ ¬ (65535 : Int32) < c) (gx : n0 ≤ x) (gt : n0 ≤ t) (nxt : x ≠ t) (nbt : tb ≠ t) (lts : tb < h0.size) (O2 : Sta Z Z.heap "java/lang/String" "COMPACT_STRINGS" "Z" (.int G1)) (P5 : ¬ (G1 = (0 : Int32))) (OA : oA Z) (OH : oH Z) (OL : oL Z) (O4 : o4 Z fm) (rfm : fm.isRef = true) :
 own_MN l mN21 jdk_68_method_73_code 3 none ws rm_6_0_0_120 Z #[(.ref x), (.int (Int32.ofNat cs.length)), (.ref sx)] h0 (Q_own_psWL Z x t k cs G1 fm sx tb kb ds h0 n0) := by
 refine own_bodyN (plainFor_of_name own_pn1) fun p e s m below meth c s₁ Bd hx hby hml hown hZ X0 e0 => ?_
 have N0 := Fr.nil n0
 have K0 : Keep h0 h0 [t] := Keep.refl h0 [t]
 refine own_st (fun tq kq => castTop (ef_own_psLL m (x) ((Int32.ofNat cs.length)) (sx)) kq) ?_
 show own_G p e below _ (s₁.setTop (mkF m 0 #[vR x, vI (Int32.ofNat cs.length), vR sx] []))
 have hws0 : ∀ y ∈ [t], n0 ≤ y := allS gt all0
 obtain ⟨Ex, Fv, Fd, Fn, Fm, Vt⟩ := id B
 have ltx : x < h0.size := Fv.lt
 have ltt : t < h0.size := Vt.lt
 refine s_aloadN X0 hx (hb hby dPS_0) rfl rfl ?_
 refine s_aloadN X0 hx (hb hby dPS_1) rfl rfl ?_
 obtain ⟨cq1, q1a, q1b⟩ := Exa.cell Ex
 obtain ⟨_, _, ⟨T1, L1, k1, n1⟩, -, X1, ⟨Lc1, hQ1, l1, y1, z1⟩, st1⟩ := X0.privateBack hx (y := mN19) hown (mvT hZ (wd121 hw)) (mvT hZ (wd122 hw)) (mvT hZ (own_selP (wd124 hw) (wd123 hw) (wd122 hw) (by decide))) (Cond.privateMethod_at (mvP hZ (wd123 hw) (args := #[]))) (mvT hZ (wd125 hw)) (by decide) (own_backN (W := 0) (own_inWL l Z a0 hw [] (x) (t) (k) (cs) (G1) (fm) (sx) (tb) (kb) (ds) h0 n0 (by omega) (X00.keep K0 hws0) ⟨Ex, Fv, Fd, Fn, Fm, Vt⟩ Es Vs Cs As hds O2 P5) hZ (wd125 hw) (wd52 hw) (by decide) (by decide)) (g := (mkF m 2 #[vR x, vI (Int32.ofNat cs.length), vR sx] [(.ref sx), (.ref x)])) rfl (by rw [hml]; rfl) (Steps.refl _) (a := x) (by rw [e0]; exact q1a) q1b (argsL := [(.ref sx)]) (rest := []) (lenOf own_pd16 rfl) rfl (Nat.le_of_eq rfl) (hb hby dPS_2) (fun _ _ => ⟨rfl, e0, (by decide : 0 + 0 ≤ _), (by decide : 0 + 0 ≤ _)⟩)
 dsimp only [Pt.U, Pt.locs, Pt.cells, Pt.slots] at X1 l1 y1 z1 st1 hQ1
 subst l1 y1 z1
 obtain ⟨rfl, Nq1, sm1⟩ := hQ1
 have N1 := Fr.app N0 Nq1
 refine own_st (fun tq kq => st1.trans kq) ?_
 refine s_aloadN X1 hx (hb hby dPS_5) rfl rfl ?_
 refine s_aloadN X1 hx (hb hby dPS_6) rfl rfl ?_
 obtain ⟨T2, X2, e2, st2⟩ := getF X1 hx hZ hown (host := "") (Or.inl (wd56 hw)) Via.refl sm1 Fv (g := (mkF m 7 #[vR x, vI (Int32.ofNat cs.length), vR sx] [(.ref x), (.ref sx)])) rfl rfl (hb hby dPS_7)
 refine own_st st2 ?_
 refine s_iloadN X2 hx (hb hby dPS_10) rfl ?_
 refine s_aloadN X2 hx (hb hby dPS_11) rfl rfl ?_
 obtain ⟨T3, X3, e3, st3⟩ := getF X2 hx hZ hown (host := "") (Or.inl (wd58 hw)) Via.refl e2 Fd (g := (mkF m 12 #[vR x, vI (Int32.ofNat cs.length), vR sx] [(.ref x), (.int (Int32.ofNat cs.length)), (.ref t), (.ref sx)])) rfl rfl (hb hby dPS_12)
 refine own_st st3 ?_
 obtain ⟨cq4, kq4, q4a, q4b, q4c⟩ := isOf hZ e3 Es
 obtain ⟨_, _, ⟨T4, L4, k4, n4⟩, -, X4, ⟨Lc4, hQ4, l4, y4, z4⟩, st4⟩ := X3.virtualBack hx (y := mN20) (z := mN20) hown (mvT hZ (wd127 hw)) (mvT hZ (wd128 hw)) (notFace_of_selects (args := #[]) (mvT hZ (wd130 hw))) (mvT hZ (wd130 hw)) (mvT hZ (wd129 hw)) (by decide) (own_backN (W := 0) (own_gbLW l Z a0 hw [] (t) (k) (cs) (G1) (fm) (sx) (tb) (kb) (ds) h0 n0 (by omega) (X00.keep K0 hws0) Vt Es Vs Cs As hds hl (by omega) nbt O2 P5 OA OH OL O4 rfm) hZ (wd131 hw) (wd12 hw) (by decide) (by decide)) q4a q4c (g := (mkF m 15 #[vR x, vI (Int32.ofNat cs.length), vR sx] [(.int 1), (.int (Int32.ofNat cs.length)), (.ref t), (.ref sx)])) rfl (by rw [hml]; rfl) (Steps.refl _) (argsL := [(.ref t), (.int (Int32.ofNat cs.length)), (.int 1)]) (rest := []) (lenOf own_pd17 rfl) rfl (Nat.le_of_eq rfl) (hb hby dPS_15) (fun _ _ => ⟨rfl, e3, (by decide : 0 + 0 ≤ _), (by decide : 0 + 0 ≤ _)⟩)
 dsimp only [Pt.U, Pt.locs, Pt.cells, Pt.slots] at X4 l4 y4 z4 st4 hQ4
 subst l4 y4 z4
 obtain ⟨rfl, Nq4, Kq4, Vg4⟩ := hQ4
 have KK4 : Keep h0 T4.heap [t] := Kq4
 have sz4 : h0.size ≤ T4.heap.size := KK4.1
 have K4 : Keep h0 T4.heap [t] := K0.trans KK4 (allS (Or.inl (by simp)) all0)
 have N4 := Fr.app N1 Nq4
 refine own_st (fun tq kq => st4.trans kq) ?_
 exact own_retN X4 (v := none) (fun _ => rfl) Bd.notSynchronized (fun fs hr => X4.returnOut hx Bd.returns (hb hby dPS_18) hr) (by decide) (by decide) (by exact ⟨rfl, N4, K4, Vg4⟩)

def Q_own_psLW (Z : State) (x t : Nat) (k : ClassId) (cs : List Int32) (G1 : Int32) (fm : Value) (sx tb : Nat) (kb : ClassId) (ds : List Int32) (h0 : Heap) (n0 : Nat) (v : Option Value) (h : Heap) (L : List Loc) : Prop := v = none ∧ Fr n0 L ∧ Keep h0 h [x] ∧ ∃ (t' : Nat) (k' : ClassId), h0.size ≤ t' ∧ t' < h.size ∧ Exa Z h x "java/lang/StringBuilder" ∧ Fld Z h x "java/lang/AbstractStringBuilder" "value" "[B" (.ref t') ∧ Fld Z h x "java/lang/AbstractStringBuilder" "coder" "B" (.int 1) ∧ Fld Z h x "java/lang/AbstractStringBuilder" "count" "I" (.int (Int32.ofNat cs.length)) ∧ Fld Z h x "java/lang/AbstractStringBuilder" "maybeLatin1" "Z" (.int 0) ∧ Arv Z h t' k' .byte (68 : Int32) (own_wa (cs ++ ds)) (.int 0)
theorem own_psLW (l : Launch) (Z : State) (a0 : Array Value) (hw : hWt a0 Z) (ws : List Jvm.Cond) (x t : Nat) (k : ClassId) (cs : List Int32) (G1 : Int32) (fm : Value) (sx tb : Nat) (kb : ClassId) (ds : List Int32) (h0 : Heap) (n0 : Nat) (Z0 : n0 ≤ h0.size) (X00 : Old Z n0 h0) (B : own_LB Z h0 x t k cs) (Es : Exa Z h0 sx "java/lang/String") (Vs : Fld Z h0 sx "java/lang/String" "value" "[B" (.ref tb)) (Cs : Fld Z h0 sx "java/lang/String" "coder" "B" (.int (1 : Int32))) (As : Arv Z h0 tb kb .byte (Int32.ofNat (2 * ds.length)) (own_wb ds) (.int 0)) (hds : ∀ c ∈ ds, ¬ c < 0 ∧ ¬ (65535 : Int32) < c) (hl : cs.length + ds.length ≤ 34) (hcs : ∀ c ∈ cs, ¬ c < 0 ∧ ¬ (255 : Int32) < c) (gx : n0 ≤ x) (gt : n0 ≤ t) (nxt : x ≠ t) (nbt : tb ≠ t) (lts : tb < h0.size) (O2 : Sta Z Z.heap "java/lang/String" "COMPACT_STRINGS" "Z" (.int G1)) (P5 : ¬ (G1 = (0 : Int32))) (OA : oA Z) (OH : oH Z) (OL : oL Z) (O4 : o4 Z fm) (rfm : fm.isRef = true) (nsx : sx ≠ x) :
 own_MN l mN21 jdk_68_method_73_code 3 none ws rm_7_1_68_140 Z #[(.ref x), (.int (Int32.ofNat cs.length)), (.ref sx)] h0 (Q_own_psLW Z x t k cs G1 fm sx tb kb ds h0 n0) := by
 refine own_bodyN (plainFor_of_name own_pn1) fun p e s m below meth c s₁ Bd hx hby hml hown hZ X0 e0 => ?_
 have N0 := Fr.nil n0
 have K0 : Keep h0 h0 [x] := Keep.refl h0 [x]
 refine own_st (fun tq kq => castTop (ef_own_psLL m (x) ((Int32.ofNat cs.length)) (sx)) kq) ?_
 show own_G p e below _ (s₁.setTop (mkF m 0 #[vR x, vI (Int32.ofNat cs.length), vR sx] []))
 have hws0 : ∀ y ∈ [x], n0 ≤ y := allS gx all0
 obtain ⟨Ex, Fv, Fd, Fn, Fm, Vt⟩ := id B
 have ltx : x < h0.size := Fv.lt
 have ltt : t < h0.size := Vt.lt
 have ntx : tb ≠ x := fun q => (Ex.neArv As (wd43 hw)) q.symm
 refine s_aloadN X0 hx (hb hby dPS_0) rfl rfl ?_
 refine s_aloadN X0 hx (hb hby dPS_1) rfl rfl ?_
 obtain ⟨cq1, q1a, q1b⟩ := Exa.cell Ex
 obtain ⟨_, _, ⟨T1, L1, k1, n1⟩, -, X1, ⟨Lc1, hQ1, l1, y1, z1⟩, st1⟩ := X0.privateBack hx (y := mN19) hown (mvT hZ (wd121 hw)) (mvT hZ (wd122 hw)) (mvT hZ (own_selP (wd124 hw) (wd123 hw) (wd122 hw) (by decide))) (Cond.privateMethod_at (mvP hZ (wd123 hw) (args := #[]))) (mvT hZ (wd125 hw)) (by decide) (own_backN (W := 0) (own_inLW l Z a0 hw [] (x) (t) (k) (cs) (G1) (fm) (sx) (tb) (kb) (ds) h0 n0 (by omega) (X00.keep K0 hws0) ⟨Ex, Fv, Fd, Fn, Fm, Vt⟩ hcs (by omega) gx O2 P5 OA OH OL O4 rfm Es Vs Cs As hds) hZ (wd125 hw) (wd52 hw) (by decide) (by decide)) (g := (mkF m 2 #[vR x, vI (Int32.ofNat cs.length), vR sx] [(.ref sx), (.ref x)])) rfl (by rw [hml]; rfl) (Steps.refl _) (a := x) (by rw [e0]; exact q1a) q1b (argsL := [(.ref sx)]) (rest := []) (lenOf own_pd16 rfl) rfl (Nat.le_of_eq rfl) (hb hby dPS_2) (fun _ _ => ⟨rfl, e0, (by decide : 0 + 1 ≤ _), (by decide : 0 + 68 ≤ _)⟩)
 dsimp only [Pt.U, Pt.locs, Pt.cells, Pt.slots] at X1 l1 y1 z1 st1 hQ1
 subst l1 y1 z1
 obtain ⟨rfl, Nq1, Kq1, tw1, kw1, gw1, lw1, Bw1⟩ := hQ1
 have KK1 : Keep h0 T1.heap [x] := Kq1
 have sz1 : h0.size ≤ T1.heap.size := KK1.1
 have K1 : Keep h0 T1.heap [x] := K0.trans KK1 (allS (Or.inl (by simp)) all0)
 have N1 := Fr.app N0 Nq1
 obtain ⟨Ex1, Fv1, Fd1, Fn1, Fm1, Vw1⟩ := id Bw1
 refine own_st (fun tq kq => st1.trans kq) ?_
 refine s_aloadN X1 hx (hb hby dPS_5) rfl rfl ?_
 refine s_aloadN X1 hx (hb hby dPS_6) rfl rfl ?_
 obtain ⟨T2, X2, e2, st2⟩ := getF X1 hx hZ hown (host := "") (Or.inl (wd56 hw)) Via.refl rfl Fv1 (g := (mkF m 7 #[vR x, vI (Int32.ofNat cs.length), vR sx] [(.ref x), (.ref sx)])) rfl rfl (hb hby dPS_7)
 refine own_st st2 ?_
 refine s_iloadN X2 hx (hb hby dPS_10) rfl ?_
 refine s_aloadN X2 hx (hb hby dPS_11) rfl rfl ?_
 obtain ⟨T3, X3, e3, st3⟩ := getF X2 hx hZ hown (host := "") (Or.inl (wd58 hw)) Via.refl e2 Fd1 (g := (mkF m 12 #[vR x, vI (Int32.ofNat cs.length), vR sx] [(.ref x), (.int (Int32.ofNat cs.length)), (.ref tw1), (.ref sx)])) rfl rfl (hb hby dPS_12)
 refine own_st st3 ?_
 obtain ⟨cq4, kq4, q4a, q4b, q4c⟩ := isOf hZ e3 (Es.keep KK1)
 obtain ⟨_, _, ⟨T4, L4, k4, n4⟩, -, X4, ⟨Lc4, hQ4, l4, y4, z4⟩, st4⟩ := X3.virtualBack hx (y := mN20) (z := mN20) hown (mvT hZ (wd127 hw)) (mvT hZ (wd128 hw)) (notFace_of_selects (args := #[]) (mvT hZ (wd130 hw))) (mvT hZ (wd130 hw)) (mvT hZ (wd129 hw)) (by decide) (own_backN (W := 0) (own_gbWW l Z a0 hw [] (tw1) (kw1) (cs) (G1) (fm) (sx) (tb) (kb) (ds) T1.heap n0 (by omega) (X00.keep K1 hws0) Vw1 (Es.keep KK1) (Vs.keep KK1 (ninS (own_ne (by omega)) nin0)) (Cs.keep KK1 (ninS (own_ne (by omega)) nin0)) (As.keep KK1 (ninS (own_ne (by omega)) nin0)) hds hl (by omega) (own_ne (by omega)) O2 P5 OA OH OL O4 rfm) hZ (wd131 hw) (wd12 hw) (by decide) (by decide)) q4a q4c (g := (mkF m 15 #[vR x, vI (Int32.ofNat cs.length), vR sx] [(.int 1), (.int (Int32.ofNat cs.length)), (.ref tw1), (.ref sx)])) rfl (by rw [hml]; rfl) (Steps.refl _) (argsL := [(.ref tw1), (.int (Int32.ofNat cs.length)), (.int 1)]) (rest := []) (lenOf own_pd17 rfl) rfl (Nat.le_of_eq rfl) (hb hby dPS_15) (fun _ _ => ⟨rfl, e3, (by decide : 1 + 0 ≤ _), (by decide : 68 + 0 ≤ _)⟩)
 dsimp only [Pt.U, Pt.locs, Pt.cells, Pt.slots] at X4 l4 y4 z4 st4 hQ4
 subst l4 y4 z4
 obtain ⟨rfl, Nq4, Kq4, Vg4⟩ := hQ4
 have KK4 : Keep T1.heap T4.heap [tw1] := Kq4
 have sz4 : T1.heap.size ≤ T4.heap.size := KK4.1
 have K4 : Keep h0 T4.heap [x] := K1.trans KK4 (allS (Or.inr (own_le (by omega))) all0)
 have N4 := Fr.app N1 Nq4
 refine own_st (fun tq kq => st4.trans kq) ?_
 exact own_retN X4 (v := none) (fun _ => rfl) Bd.notSynchronized (fun fs hr => X4.returnOut hx Bd.returns (hb hby dPS_18) hr) (by decide) (by decide) (by exact ⟨rfl, N4, K4, tw1, _, (by omega), Vg4.lt, (Ex1.keep KK4), (Fv1.keep KK4 (ninS (own_ne (by omega)) nin0)), (Fd1.keep KK4 (ninS (own_ne (by omega)) nin0)), (Fn1.keep KK4 (ninS (own_ne (by omega)) nin0)), (Fm1.keep KK4 (ninS (own_ne (by omega)) nin0)), Vg4⟩)

def Q_own_enL (Z : State) (x t : Nat) (k : ClassId) (cs : List Int32) (mc : Int32) (h0 : Heap) (n0 : Nat) (v : Option Value) (h : Heap) (L : List Loc) : Prop := v = none ∧ Fr n0 L ∧ h = h0
theorem ef_own_enL (m : MethodId) (x0 : Nat) (x1 : Int32) : entryFrame m #[(.ref x0), (.int x1)] 3 = mkF m 0 #[.val (.ref x0), .val (.int x1), .unset] [] := by first | (simp [entryFrame, mkF, argsToLocals, Value.category]; done) | rfl
theorem own_enL (l : Launch) (Z : State) (a0 : Array Value) (hw : hWt a0 Z) (ws : List Jvm.Cond) (x t : Nat) (k : ClassId) (cs : List Int32) (mc : Int32) (h0 : Heap) (n0 : Nat) (Z0 : n0 ≤ h0.size) (X00 : Old Z n0 h0) (B : own_LB Z h0 x t k cs) (hcap : ¬ (0 : Int32) < mc - (34 : Int32)) :
 own_MN l mN22 jdk_68_method_9_code 3 none ws rm_0_0_0_0 Z #[(.ref x), (.int mc)] h0 (Q_own_enL Z x t k cs mc h0 n0) := by
 refine own_bodyN (plainFor_of_name own_pn1) fun p e s m below meth c s₁ Bd hx hby hml hown hZ X0 e0 => ?_
 have N0 := Fr.nil n0
 have K0 : Keep h0 h0 [] := Keep.refl h0 []
 refine own_st (fun tq kq => castTop (ef_own_enL m (x) (mc)) kq) ?_
 show own_G p e below _ (s₁.setTop (mkF m 0 #[vR x, vI mc, .unset] []))
 obtain ⟨Ex, Fv, Fd, Fn, Fm, Vt⟩ := id B
 have ltx : x < h0.size := Fv.lt
 have ltt : t < h0.size := Vt.lt
 refine s_aloadN X0 hx (hb hby dEN_0) rfl rfl ?_
 obtain ⟨T1, X1, e1, st1⟩ := getF X0 hx hZ hown (host := "") (Or.inl (wd56 hw)) Via.refl e0 Fv (g := (mkF m 1 #[vR x, vI mc, .unset] [(.ref x)])) rfl rfl (hb hby dEN_1)
 refine own_st st1 ?_
 obtain ⟨cl2, Ar2, q2, S_2, N_2, H_2, G_2⟩ := id Vt
 refine own_st (fun tq kq => X1.arraylength hx (by rw [e1]; exact Ar2.1) (State.isArrayOf_alike hZ.alike Ar2.2.1) (g := (mkF m 4 #[vR x, vI mc, .unset] [(.ref t)])) rfl rfl (hb hby dEN_4) _ kq) ?_
 rw [len_of S_2 N_2]
 show own_G p e below _ (T1.setTop (mkF m 5 #[vR x, vI mc, .unset] [(.int 34)]))
 refine s_aloadN X1 hx (hb hby dEN_5) rfl rfl ?_
 obtain ⟨T3, X3, e3, st3⟩ := getF X1 hx hZ hown (host := "") (Or.inl (wd58 hw)) Via.refl e1 Fd (g := (mkF m 6 #[vR x, vI mc, .unset] [(.ref x), (.int 34)])) rfl rfl (hb hby dEN_6)
 refine own_st st3 ?_
 refine own_st (fun tq kq => XS.ishr X3.here hx rfl (hb hby dEN_9) rfl kq) ?_
 refine own_st (fun tq kq => XS.istoreN X3.here hx rfl (hb hby dEN_10) rfl (l' := #[vR x, vI mc, vI 34]) rfl kq) ?_
 refine s_iloadN X3 hx (hb hby dEN_11) rfl ?_
 refine s_iloadN X3 hx (hb hby dEN_12) rfl ?_
 refine own_st (fun tq kq => XS.isub X3.here hx rfl (hb hby dEN_13) rfl kq) ?_
 show own_G p e below _ (T3.setTop (mkF m 14 #[vR x, vI mc, vI 34] [(.int (mc - (34 : Int32)))]))
 refine own_st (fun tq kq => XS.ifYes X3.here hx rfl (pc0 := 14) (pc' := 38) rfl (hb hby dEN_14) rfl ((if0 _ _).trans (flt hcap).2.2.2) (by decide) (by decide) kq) ?_
 exact own_retN X3 (v := none) (fun _ => rfl) Bd.notSynchronized (fun fs hr => X3.returnOut hx Bd.returns (hb hby dEN_38) hr) (by decide) (by decide) (by rw [e3]; exact ⟨rfl, N0, rfl⟩)

def Q_own_enW (Z : State) (x t : Nat) (k : ClassId) (cs : List Int32) (mc : Int32) (h0 : Heap) (n0 : Nat) (v : Option Value) (h : Heap) (L : List Loc) : Prop := v = none ∧ Fr n0 L ∧ h = h0
theorem own_enW (l : Launch) (Z : State) (a0 : Array Value) (hw : hWt a0 Z) (ws : List Jvm.Cond) (x t : Nat) (k : ClassId) (cs : List Int32) (mc : Int32) (h0 : Heap) (n0 : Nat) (Z0 : n0 ≤ h0.size) (X00 : Old Z n0 h0) (B : own_WB Z h0 x t k cs) (hcap : ¬ (0 : Int32) < mc - (34 : Int32)) :
 own_MN l mN22 jdk_68_method_9_code 3 none ws rm_0_0_0_0 Z #[(.ref x), (.int mc)] h0 (Q_own_enW Z x t k cs mc h0 n0) := by
 refine own_bodyN (plainFor_of_name own_pn1) fun p e s m below meth c s₁ Bd hx hby hml hown hZ X0 e0 => ?_
 have N0 := Fr.nil n0
 have K0 : Keep h0 h0 [] := Keep.refl h0 []
 refine own_st (fun tq kq => castTop (ef_own_enL m (x) (mc)) kq) ?_
 show own_G p e below _ (s₁.setTop (mkF m 0 #[vR x, vI mc, .unset] []))
 obtain ⟨Ex, Fv, Fd, Fn, Fm, Vt⟩ := id B
 have ltx : x < h0.size := Fv.lt
 have ltt : t < h0.size := Vt.lt
 refine s_aloadN X0 hx (hb hby dEN_0) rfl rfl ?_
 obtain ⟨T1, X1, e1, st1⟩ := getF X0 hx hZ hown (host := "") (Or.inl (wd56 hw)) Via.refl e0 Fv (g := (mkF m 1 #[vR x, vI mc, .unset] [(.ref x)])) rfl rfl (hb hby dEN_1)
 refine own_st st1 ?_
 obtain ⟨cl2, Ar2, q2, S_2, N_2, H_2, G_2⟩ := id Vt
 refine own_st (fun tq kq => X1.arraylength hx (by rw [e1]; exact Ar2.1) (State.isArrayOf_alike hZ.alike Ar2.2.1) (g := (mkF m 4 #[vR x, vI mc, .unset] [(.ref t)])) rfl rfl (hb hby dEN_4) _ kq) ?_
 rw [len_of S_2 N_2]
 show own_G p e below _ (T1.setTop (mkF m 5 #[vR x, vI mc, .unset] [(.int 68)]))
 refine s_aloadN X1 hx (hb hby dEN_5) rfl rfl ?_
 obtain ⟨T3, X3, e3, st3⟩ := getF X1 hx hZ hown (host := "") (Or.inl (wd58 hw)) Via.refl e1 Fd (g := (mkF m 6 #[vR x, vI mc, .unset] [(.ref x), (.int 68)])) rfl rfl (hb hby dEN_6)
 refine own_st st3 ?_
 refine own_st (fun tq kq => XS.ishr X3.here hx rfl (hb hby dEN_9) rfl kq) ?_
 refine own_st (fun tq kq => XS.istoreN X3.here hx rfl (hb hby dEN_10) rfl (l' := #[vR x, vI mc, vI 34]) rfl kq) ?_
 refine s_iloadN X3 hx (hb hby dEN_11) rfl ?_
 refine s_iloadN X3 hx (hb hby dEN_12) rfl ?_
 refine own_st (fun tq kq => XS.isub X3.here hx rfl (hb hby dEN_13) rfl kq) ?_
 show own_G p e below _ (T3.setTop (mkF m 14 #[vR x, vI mc, vI 34] [(.int (mc - (34 : Int32)))]))
 refine own_st (fun tq kq => XS.ifYes X3.here hx rfl (pc0 := 14) (pc' := 38) rfl (hb hby dEN_14) rfl ((if0 _ _).trans (flt hcap).2.2.2) (by decide) (by decide) kq) ?_
 exact own_retN X3 (v := none) (fun _ => rfl) Bd.notSynchronized (fun fs hr => X3.returnOut hx Bd.returns (hb hby dEN_38) hr) (by decide) (by decide) (by rw [e3]; exact ⟨rfl, N0, rfl⟩)

def Q_own_max (Z : State)  (h0 : Heap) (n0 : Nat) (v : Option Value) (h : Heap) (L : List Loc) : Prop := v = some (.int (18 : Int32)) ∧ Fr n0 L ∧ h = h0
theorem ef_own_max (m : MethodId)  : entryFrame m #[(.int 3), (.int 18)] 2 = mkF m 0 #[.val (.int 3), .val (.int 18)] [] := by first | (simp [entryFrame, mkF, argsToLocals, Value.category]; done) | rfl
theorem own_max (l : Launch) (Z : State) (a0 : Array Value) (hw : hWt a0 Z) (ws : List Jvm.Cond)  (h0 : Heap) (n0 : Nat) (Z0 : n0 ≤ h0.size) (X00 : Old Z n0 h0)  :
 own_MN l mN23 jdk_29_method_65_code 2 (some .int) ws rm_0_0_0_0 Z #[(.int 3), (.int 18)] h0 (Q_own_max Z  h0 n0) := by
 refine own_bodyN own_pn5 fun p e s m below meth c s₁ Bd hx hby hml hown hZ X0 e0 => ?_
 have N0 := Fr.nil n0
 have K0 : Keep h0 h0 [] := Keep.refl h0 []
 refine own_st (fun tq kq => castTop (ef_own_max m ) kq) ?_
 show own_G p e below _ (s₁.setTop (mkF m 0 #[vI 3, vI 18] []))
 refine s_iloadN X0 hx (hb hby dMX_0) rfl ?_
 refine s_iloadN X0 hx (hb hby dMX_1) rfl ?_
 show own_G p e below _ (s₁.setTop (mkF m 2 #[vI 3, vI 18] [(.int 18), (.int 3)]))
 refine own_st (fun tq kq => XS.icmpYes X0.here hx rfl (pc0 := 2) (pc' := 9) rfl (hb hby dMX_2) rfl (tlt (by decide : ((3 : Int32) < (18 : Int32)))).1 (by decide) (by decide) kq) ?_
 refine s_iloadN X0 hx (hb hby dMX_9) rfl ?_
 show own_G p e below _ (s₁.setTop (mkF m 10 #[vI 3, vI 18] [(.int 18)]))
 exact own_retN X0 (v := some (.int 18)) (fun h => by rw [Bd.returns] at h; cases h) Bd.notSynchronized (fun fs hr => retOut X0 hx Bd.returns rfl (Or.inl ⟨rfl, by simp, _, rfl⟩) (hb hby dMX_10) hr) (by decide) (by decide) (by rw [e0]; exact ⟨rfl, N0, rfl⟩)

def Q_own_nw (Z : State)  (h0 : Heap) (n0 : Nat) (v : Option Value) (h : Heap) (L : List Loc) : Prop := v = some (.int (34 : Int32)) ∧ Fr n0 L ∧ h = h0
theorem ef_own_nw (m : MethodId)  : entryFrame m #[(.int 16), (.int 3), (.int 18)] 4 = mkF m 0 #[.val (.int 16), .val (.int 3), .val (.int 18), .unset] [] := by first | (simp [entryFrame, mkF, argsToLocals, Value.category]; done) | rfl
theorem own_nw (l : Launch) (Z : State) (a0 : Array Value) (hw : hWt a0 Z) (ws : List Jvm.Cond)  (h0 : Heap) (n0 : Nat) (Z0 : n0 ≤ h0.size) (X00 : Old Z n0 h0)  :
 own_MN l mN24 jdk_48_method_27_code 4 (some .int) ws rm_1_0_0_20 Z #[(.int 16), (.int 3), (.int 18)] h0 (Q_own_nw Z  h0 n0) := by
 refine own_bodyN (plainFor_of_name own_pn6) fun p e s m below meth c s₁ Bd hx hby hml hown hZ X0 e0 => ?_
 have N0 := Fr.nil n0
 have K0 : Keep h0 h0 [] := Keep.refl h0 []
 refine own_st (fun tq kq => castTop (ef_own_nw m ) kq) ?_
 show own_G p e below _ (s₁.setTop (mkF m 0 #[vI 16, vI 3, vI 18, .unset] []))
 refine s_iloadN X0 hx (hb hby dNW_0) rfl ?_
 refine s_iloadN X0 hx (hb hby dNW_1) rfl ?_
 refine s_iloadN X0 hx (hb hby dNW_2) rfl ?_
 obtain ⟨_, _, ⟨T1, L1, k1, n1⟩, -, X1, ⟨Lc1, hQ1, l1, y1, z1⟩, st1⟩ := Jvm.LawKit.callS X0 hx (y := mN23) hown (mvT hZ (wd99 hw)) (mvT hZ (wd100 hw)) (mvT hZ (wd101 hw)) (mvT hZ (wd102 hw)) (by decide) (own_backN (W := 1) (own_max l Z a0 hw []  h0 n0 (by omega) (X00.keep K0 all0) ) hZ (wd102 hw) (wd101 hw) (by decide) (by decide)) (g := (mkF m 3 #[vI 16, vI 3, vI 18, .unset] [(.int 18), (.int 3), (.int 16)])) rfl (by rw [hml]; rfl) (argsL := [(.int 3), (.int 18)]) (rest := [(.int 16)]) (lenOf own_pd18 rfl) rfl (Nat.le_of_eq rfl) (hb hby dNW_3) (fun _ _ => ⟨rfl, e0, (by decide : 0 + 0 ≤ _), (by decide : 0 + 0 ≤ _)⟩)
 dsimp only [Pt.U, Pt.locs, Pt.cells, Pt.slots] at X1 l1 y1 z1 st1 hQ1
 subst l1 y1 z1
 obtain ⟨rfl, Nq1, sm1⟩ := hQ1
 have N1 := Fr.app N0 Nq1
 refine own_st st1 ?_
 refine own_st (fun tq kq => XS.iadd X1.here hx rfl (hb hby dNW_6) rfl kq) ?_
 refine own_st (fun tq kq => XS.istoreN X1.here hx rfl (hb hby dNW_7) rfl (l' := #[vI 16, vI 3, vI 18, vI 34]) rfl kq) ?_
 refine s_iconst X1 hx (hb hby dNW_8) ?_
 refine s_iloadN X1 hx (hb hby dNW_9) rfl ?_
 show own_G p e below _ (T1.setTop (mkF m 10 #[vI 16, vI 3, vI 18, vI 34] [(.int 34), (.int 0)]))
 refine own_st (fun tq kq => XS.icmpNo X1.here hx rfl (hb hby dNW_10) rfl (tlt (by decide : ((0 : Int32) < (34 : Int32)))).2.1 kq) ?_
 refine s_iloadN X1 hx (hb hby dNW_13) rfl ?_
 refine own_st (fun tq kq => X1.ldcInt hx hown (mvT hZ (wd103 hw)) (g := (mkF m 14 #[vI 16, vI 3, vI 18, vI 34] [(.int 34)])) rfl (hb hby dNW_14) _ kq) ?_
 show own_G p e below _ (T1.setTop (mkF m 16 #[vI 16, vI 3, vI 18, vI 34] [(.int 2147483639), (.int 34)]))
 refine own_st (fun tq kq => XS.icmpNo X1.here hx rfl (hb hby dNW_16) rfl (flt (by decide : ¬ ((2147483639 : Int32) < (34 : Int32)))).2.2.1 kq) ?_
 refine s_iloadN X1 hx (hb hby dNW_19) rfl ?_
 show own_G p e below _ (T1.setTop (mkF m 20 #[vI 16, vI 3, vI 18, vI 34] [(.int 34)]))
 exact own_retN X1 (v := some (.int 34)) (fun h => by rw [Bd.returns] at h; cases h) Bd.notSynchronized (fun fs hr => retOut X1 hx Bd.returns rfl (Or.inl ⟨rfl, by simp, _, rfl⟩) (hb hby dNW_20) hr) (by decide) (by decide) (by rw [sm1]; exact ⟨rfl, N1, rfl⟩)

def Q_own_nc (Z : State) (x t : Nat) (k : ClassId) (h0 : Heap) (n0 : Nat) (v : Option Value) (h : Heap) (L : List Loc) : Prop := v = some (.int (34 : Int32)) ∧ Fr n0 L ∧ h = h0
theorem ef_own_nc (m : MethodId) (x0 : Nat) : entryFrame m #[(.ref x0), (.int 19)] 6 = mkF m 0 #[.val (.ref x0), .val (.int 19), .unset, .unset, .unset, .unset] [] := by first | (simp [entryFrame, mkF, argsToLocals, Value.category]; done) | rfl
theorem own_nc (l : Launch) (Z : State) (a0 : Array Value) (hw : hWt a0 Z) (ws : List Jvm.Cond) (x t : Nat) (k : ClassId) (h0 : Heap) (n0 : Nat) (Z0 : n0 ≤ h0.size) (X00 : Old Z n0 h0) (B : own_EB Z h0 x t k) :
 own_MN l mN25 jdk_68_method_10_code 6 (some .int) ws rm_2_0_0_40 Z #[(.ref x), (.int 19)] h0 (Q_own_nc Z x t k h0 n0) := by
 refine own_bodyN (plainFor_of_name own_pn1) fun p e s m below meth c s₁ Bd hx hby hml hown hZ X0 e0 => ?_
 have N0 := Fr.nil n0
 have K0 : Keep h0 h0 [] := Keep.refl h0 []
 refine own_st (fun tq kq => castTop (ef_own_nc m (x)) kq) ?_
 show own_G p e below _ (s₁.setTop (mkF m 0 #[vR x, vI 19, .unset, .unset, .unset, .unset] []))
 obtain ⟨Ex, Fv, Fd, Fn, Fm, Vt⟩ := id B
 have ltx : x < h0.size := Fv.lt
 have ltt : t < h0.size := Vt.lt
 refine s_aloadN X0 hx (hb hby dNC_0) rfl rfl ?_
 obtain ⟨T1, X1, e1, st1⟩ := getF X0 hx hZ hown (host := "") (Or.inl (wd56 hw)) Via.refl e0 Fv (g := (mkF m 1 #[vR x, vI 19, .unset, .unset, .unset, .unset] [(.ref x)])) rfl rfl (hb hby dNC_1)
 refine own_st st1 ?_
 obtain ⟨cl2, Ar2, q2, S_2, N_2, H_2, G_2⟩ := id Vt
 refine own_st (fun tq kq => X1.arraylength hx (by rw [e1]; exact Ar2.1) (State.isArrayOf_alike hZ.alike Ar2.2.1) (g := (mkF m 4 #[vR x, vI 19, .unset, .unset, .unset, .unset] [(.ref t)])) rfl rfl (hb hby dNC_4) _ kq) ?_
 rw [len_of S_2 N_2]
 show own_G p e below _ (T1.setTop (mkF m 5 #[vR x, vI 19, .unset, .unset, .unset, .unset] [(.int 16)]))
 refine own_st (fun tq kq => XS.istoreN X1.here hx rfl (hb hby dNC_5) rfl (l' := #[vR x, vI 19, vI 16, .unset, .unset, .unset]) rfl kq) ?_
 refine s_iloadN X1 hx (hb hby dNC_6) rfl ?_
 refine s_aloadN X1 hx (hb hby dNC_7) rfl rfl ?_
 obtain ⟨T3, X3, e3, st3⟩ := getF X1 hx hZ hown (host := "") (Or.inl (wd58 hw)) Via.refl e1 Fd (g := (mkF m 8 #[vR x, vI 19, vI 16, .unset, .unset, .unset] [(.ref x), (.int 19)])) rfl rfl (hb hby dNC_8)
 refine own_st st3 ?_
 refine own_st (fun tq kq => XS.ishl X3.here hx rfl (hb hby dNC_11) rfl kq) ?_
 refine own_st (fun tq kq => XS.istoreN X3.here hx rfl (hb hby dNC_12) rfl (l' := #[vR x, vI 19, vI 16, vI 19, .unset, .unset]) rfl kq) ?_
 refine s_iloadN X3 hx (hb hby dNC_13) rfl ?_
 refine s_iloadN X3 hx (hb hby dNC_14) rfl ?_
 refine own_st (fun tq kq => XS.isub X3.here hx rfl (hb hby dNC_15) rfl kq) ?_
 refine own_st (fun tq kq => XS.istore X3.here hx rfl (hb hby dNC_16) rfl (l' := #[vR x, vI 19, vI 16, vI 19, vI 3, .unset]) rfl kq) ?_
 refine s_iloadN X3 hx (hb hby dNC_18) rfl ?_
 refine s_iload X3 hx (hb hby dNC_19) rfl ?_
 refine s_iloadN X3 hx (hb hby dNC_21) rfl ?_
 show own_G p e below _ (T3.setTop (mkF m 22 #[vR x, vI 19, vI 16, vI 19, vI 3, .unset] [(.int 16), (.int 3), (.int 16)]))
 refine s_iconst X3 hx (hb hby dNC_22) ?_
 refine s_aloadN X3 hx (hb hby dNC_23) rfl rfl ?_
 obtain ⟨T4, X4, e4, st4⟩ := getF X3 hx hZ hown (host := "") (Or.inl (wd58 hw)) Via.refl e3 Fd (g := (mkF m 24 #[vR x, vI 19, vI 16, vI 19, vI 3, .unset] [(.ref x), (.int 2), (.int 16), (.int 3), (.int 16)])) rfl rfl (hb hby dNC_24)
 refine own_st st4 ?_
 refine own_st (fun tq kq => XS.ishl X4.here hx rfl (hb hby dNC_27) rfl kq) ?_
 refine own_st (fun tq kq => XS.iadd X4.here hx rfl (hb hby dNC_28) rfl kq) ?_
 obtain ⟨_, _, ⟨T5, L5, k5, n5⟩, -, X5, ⟨Lc5, hQ5, l5, y5, z5⟩, st5⟩ := Jvm.LawKit.callS X4 hx (y := mN24) hown (mvT hZ (wd95 hw)) (mvT hZ (wd96 hw)) (mvT hZ (wd97 hw)) (mvT hZ (wd98 hw)) (by decide) (own_backN (W := 0) (own_nw l Z a0 hw []  h0 n0 (by omega) (X00.keep K0 all0) ) hZ (wd98 hw) (wd97 hw) (by decide) (by decide)) (g := (mkF m 29 #[vR x, vI 19, vI 16, vI 19, vI 3, .unset] [(.int 18), (.int 3), (.int 16)])) rfl (by rw [hml]; rfl) (argsL := [(.int 16), (.int 3), (.int 18)]) (rest := []) (lenOf own_pd10 rfl) rfl (Nat.le_of_eq rfl) (hb hby dNC_29) (fun _ _ => ⟨rfl, e4, (by decide : 0 + 0 ≤ _), (by decide : 0 + 0 ≤ _)⟩)
 dsimp only [Pt.U, Pt.locs, Pt.cells, Pt.slots] at X5 l5 y5 z5 st5 hQ5
 subst l5 y5 z5
 obtain ⟨rfl, Nq5, sm5⟩ := hQ5
 have N5 := Fr.app N0 Nq5
 refine own_st st5 ?_
 refine own_st (fun tq kq => XS.istore X5.here hx rfl (hb hby dNC_32) rfl (l' := #[vR x, vI 19, vI 16, vI 19, vI 3, vI 34]) rfl kq) ?_
 refine s_iload X5 hx (hb hby dNC_34) rfl ?_
 refine own_st (fun tq kq => X5.ldcInt hx hown (mvT hZ (wd104 hw)) (g := (mkF m 36 #[vR x, vI 19, vI 16, vI 19, vI 3, vI 34] [(.int 34)])) rfl (hb hby dNC_36) _ kq) ?_
 show own_G p e below _ (T5.setTop (mkF m 38 #[vR x, vI 19, vI 16, vI 19, vI 3, vI 34] [(.int 2147483647), (.int 34)]))
 refine own_st (fun tq kq => XS.icmpYes X5.here hx rfl (pc0 := 38) (pc' := 51) rfl (hb hby dNC_38) rfl (feq (by decide : ¬ ((34 : Int32) = (2147483647 : Int32)))).2 (by decide) (by decide) kq) ?_
 refine s_iload X5 hx (hb hby dNC_51) rfl ?_
 refine s_aloadN X5 hx (hb hby dNC_53) rfl rfl ?_
 obtain ⟨T6, X6, e6, st6⟩ := getF X5 hx hZ hown (host := "") (Or.inl (wd58 hw)) Via.refl sm5 Fd (g := (mkF m 54 #[vR x, vI 19, vI 16, vI 19, vI 3, vI 34] [(.ref x), (.int 34)])) rfl rfl (hb hby dNC_54)
 refine own_st st6 ?_
 refine own_st (fun tq kq => XS.ishr X6.here hx rfl (hb hby dNC_57) rfl kq) ?_
 show own_G p e below _ (T6.setTop (mkF m 58 #[vR x, vI 19, vI 16, vI 19, vI 3, vI 34] [(.int 34)]))
 exact own_retN X6 (v := some (.int 34)) (fun h => by rw [Bd.returns] at h; cases h) Bd.notSynchronized (fun fs hr => retOut X6 hx Bd.returns rfl (Or.inl ⟨rfl, by simp, _, rfl⟩) (hb hby dNC_58) hr) (by decide) (by decide) (by rw [e6]; exact ⟨rfl, N5, rfl⟩)

def Q_own_min1 (Z : State)  (h0 : Heap) (n0 : Nat) (v : Option Value) (h : Heap) (L : List Loc) : Prop := v = some (.int (16 : Int32)) ∧ Fr n0 L ∧ h = h0
theorem ef_own_min1 (m : MethodId)  : entryFrame m #[(.int 16), (.int 34)] 2 = mkF m 0 #[.val (.int 16), .val (.int 34)] [] := by first | (simp [entryFrame, mkF, argsToLocals, Value.category]; done) | rfl
theorem own_min1 (l : Launch) (Z : State) (a0 : Array Value) (hw : hWt a0 Z) (ws : List Jvm.Cond)  (h0 : Heap) (n0 : Nat) (Z0 : n0 ≤ h0.size) (X00 : Old Z n0 h0)  :
 own_MN l mN26 jdk_29_method_69_code 2 (some .int) ws rm_0_0_0_0 Z #[(.int 16), (.int 34)] h0 (Q_own_min1 Z  h0 n0) := by
 refine own_bodyN own_pn7 fun p e s m below meth c s₁ Bd hx hby hml hown hZ X0 e0 => ?_
 have N0 := Fr.nil n0
 have K0 : Keep h0 h0 [] := Keep.refl h0 []
 refine own_st (fun tq kq => castTop (ef_own_min1 m ) kq) ?_
 show own_G p e below _ (s₁.setTop (mkF m 0 #[vI 16, vI 34] []))
 refine s_iloadN X0 hx (hb hby dMI_0) rfl ?_
 refine s_iloadN X0 hx (hb hby dMI_1) rfl ?_
 show own_G p e below _ (s₁.setTop (mkF m 2 #[vI 16, vI 34] [(.int 34), (.int 16)]))
 refine own_st (fun tq kq => XS.icmpNo X0.here hx rfl (hb hby dMI_2) rfl (flt (by decide : ¬ ((34 : Int32) < (16 : Int32)))).2.2.1 kq) ?_
 refine s_iloadN X0 hx (hb hby dMI_5) rfl ?_
 refine own_st (fun tq kq => XS.goto X0.here hx rfl (pc0 := 6) (pc' := 10) rfl (hb hby dMI_6) (by decide) (by decide) kq) ?_
 show own_G p e below _ (s₁.setTop (mkF m 10 #[vI 16, vI 34] [(.int 16)]))
 exact own_retN X0 (v := some (.int 16)) (fun h => by rw [Bd.returns] at h; cases h) Bd.notSynchronized (fun fs hr => retOut X0 hx Bd.returns rfl (Or.inl ⟨rfl, by simp, _, rfl⟩) (hb hby dMI_10) hr) (by decide) (by decide) (by rw [e0]; exact ⟨rfl, N0, rfl⟩)

def Q_own_cofG (Z : State) (t : Nat) (k : ClassId) (h0 : Heap) (n0 : Nat) (v : Option Value) (h : Heap) (L : List Loc) : Prop := ∃ (r : Nat) (kr : ClassId), v = some (.ref r) ∧ Fr n0 L ∧ Keep h0 h [] ∧ h0.size ≤ r ∧ r < h.size ∧ Arv Z h r kr .byte (34 : Int32) (own_la []) (.int 0)
theorem ef_own_cofG (m : MethodId) (x0 : Nat) : entryFrame m #[(.ref x0), (.int 34)] 3 = mkF m 0 #[.val (.ref x0), .val (.int 34), .unset] [] := by first | (simp [entryFrame, mkF, argsToLocals, Value.category]; done) | rfl
theorem own_cofG (l : Launch) (Z : State) (a0 : Array Value) (hw : hWt a0 Z) (ws : List Jvm.Cond) (t : Nat) (k : ClassId) (h0 : Heap) (n0 : Nat) (Z0 : n0 ≤ h0.size) (X00 : Old Z n0 h0) (Vt : Arv Z h0 t k .byte (16 : Int32) (List.replicate 16 (Value.int 0)) (.int 0)) :
 own_MN l mN27 jdk_65_method_121_code 3 (some (.array .byte)) ws rm_1_1_34_40 Z #[(.ref t), (.int 34)] h0 (Q_own_cofG Z t k h0 n0) := by
 refine own_bodyN (plainFor_of_name own_pn8) fun p e s m below meth c s₁ Bd hx hby hml hown hZ X0 e0 => ?_
 have N0 := Fr.nil n0
 have K0 : Keep h0 h0 [] := Keep.refl h0 []
 refine own_st (fun tq kq => castTop (ef_own_cofG m (t)) kq) ?_
 show own_G p e below _ (s₁.setTop (mkF m 0 #[vR t, vI 34, .unset] []))
 have ltt : t < h0.size := Vt.lt
 refine s_iloadN X0 hx (hb hby dC2_0) rfl ?_
 refine s_aloadN X0 hx (hb hby dC2_1) rfl rfl ?_
 obtain ⟨cl1, Ar1, q1, S_1, N_1, H_1, G_1⟩ := id Vt
 refine own_st (fun tq kq => X0.arraylength hx (by rw [e0]; exact Ar1.1) (State.isArrayOf_alike hZ.alike Ar1.2.1) (g := (mkF m 2 #[vR t, vI 34, .unset] [(.ref t), (.int 34)])) rfl rfl (hb hby dC2_2) _ kq) ?_
 rw [len_of S_1 N_1]
 show own_G p e below _ (s₁.setTop (mkF m 3 #[vR t, vI 34, .unset] [(.int 16), (.int 34)]))
 refine own_st (fun tq kq => XS.icmpYes X0.here hx rfl (pc0 := 3) (pc' := 14) rfl (hb hby dC2_3) rfl (feq (by decide : ¬ ((34 : Int32) = (16 : Int32)))).2 (by decide) (by decide) kq) ?_
 refine s_iloadN X0 hx (hb hby dC2_14) rfl ?_
 obtain ⟨T2, h2, k2, X2, e2, E2, A2, st2⟩ := newP X0 hx hZ (hw _ (List.mem_of_getElem? (i := 6) rfl)) e0 (g := (mkF m 15 #[vR t, vI 34, .unset] [(.int 34)])) rfl (hb hby dC2_15) rfl (by decide) (cap := 34) (by decide) (by decide) (by decide) (by decide)
 obtain ⟨b2, g2⟩ : ∃ z, z = h0.size := ⟨_, rfl⟩
 rw [← g2] at A2 st2
 have lt2 : b2 < h2.size := A2.lt
 have V2 : Arv Z h2 b2 k2 .byte (34 : Int32) [(.int (0 : Int32)), (.int (0 : Int32)), (.int (0 : Int32)), (.int (0 : Int32)), (.int (0 : Int32)), (.int (0 : Int32)), (.int (0 : Int32)), (.int (0 : Int32)), (.int (0 : Int32)), (.int (0 : Int32)), (.int (0 : Int32)), (.int (0 : Int32)), (.int (0 : Int32)), (.int (0 : Int32)), (.int (0 : Int32)), (.int (0 : Int32)), (.int (0 : Int32)), (.int (0 : Int32)), (.int (0 : Int32)), (.int (0 : Int32)), (.int (0 : Int32)), (.int (0 : Int32)), (.int (0 : Int32)), (.int (0 : Int32)), (.int (0 : Int32)), (.int (0 : Int32)), (.int (0 : Int32)), (.int (0 : Int32)), (.int (0 : Int32)), (.int (0 : Int32)), (.int (0 : Int32)), (.int (0 : Int32)), (.int (0 : Int32)), (.int (0 : Int32))] (.int (0 : Int32)) := (Arv.new A2 (by decide)).pad (pad_rep [] (.int (0 : Int32)) 34)
 have sz2 : h0.size ≤ h2.size := E2.1
 have K2 : Keep h0 h2 [] := K0.ext E2
 refine own_st st2 ?_
 refine own_st (fun tq kq => XS.astoreN X2.here hx rfl (hb hby dC2_17) rfl rfl (l' := #[vR t, vI 34, vR b2]) rfl kq) ?_
 refine s_aloadN X2 hx (hb hby dC2_18) rfl rfl ?_
 refine s_iconst X2 hx (hb hby dC2_19) ?_
 refine s_aloadN X2 hx (hb hby dC2_20) rfl rfl ?_
 refine s_iconst X2 hx (hb hby dC2_21) ?_
 refine s_aloadN X2 hx (hb hby dC2_22) rfl rfl ?_
 obtain ⟨cl3, Ar3, q3, S_3, N_3, H_3, G_3⟩ := id (Vt.ext E2)
 refine own_st (fun tq kq => X2.arraylength hx (by rw [e2]; exact Ar3.1) (State.isArrayOf_alike hZ.alike Ar3.2.1) (g := (mkF m 23 #[vR t, vI 34, vR b2] [(.ref t), (.int 0), (.ref b2), (.int 0), (.ref t)])) rfl rfl (hb hby dC2_23) _ kq) ?_
 rw [len_of S_3 N_3]
 show own_G p e below _ (T2.setTop (mkF m 24 #[vR t, vI 34, vR b2] [(.int 16), (.int 0), (.ref b2), (.int 0), (.ref t)]))
 refine s_iloadN X2 hx (hb hby dC2_24) rfl ?_
 obtain ⟨_, _, ⟨T4, L4, k4, n4⟩, -, X4, ⟨Lc4, hQ4, l4, y4, z4⟩, st4⟩ := Jvm.LawKit.callS X2 hx (y := mN26) hown (mvT hZ (wd109 hw)) (mvT hZ (wd110 hw)) (mvT hZ (wd101 hw)) (mvT hZ (wd111 hw)) (by decide) (own_backN (W := 4) (own_min1 l Z a0 hw []  h2 n0 (by omega) (X00.keep K2 all0) ) hZ (wd111 hw) (wd101 hw) (by decide) (by decide)) (g := (mkF m 25 #[vR t, vI 34, vR b2] [(.int 34), (.int 16), (.int 0), (.ref b2), (.int 0), (.ref t)])) rfl (by rw [hml]; rfl) (argsL := [(.int 16), (.int 34)]) (rest := [(.int 0), (.ref b2), (.int 0), (.ref t)]) (lenOf own_pd18 rfl) rfl (Nat.le_of_eq rfl) (hb hby dC2_25) (fun _ _ => ⟨rfl, e2, (by decide : 1 + 0 ≤ _), (by decide : 34 + 0 ≤ _)⟩)
 dsimp only [Pt.U, Pt.locs, Pt.cells, Pt.slots] at X4 l4 y4 z4 st4 hQ4
 subst l4 y4 z4
 obtain ⟨rfl, Nq4, sm4⟩ := hQ4
 have N4 := Fr.app N0 Nq4
 refine own_st st4 ?_
 obtain ⟨T5, h5, L5, X5, e5, N5, KK5, V5, st5⟩ := cpA X4 hx hZ hown (wd112 hw) (wd115 hw) (wd113 hw) (wd114 hw) sm4 (Vt.ext E2) V2 (sp := (0 : Int32)) (dp := (0 : Int32)) (nn := (16 : Int32)) (us := (List.replicate 16 (Value.int 0))) (Or.inl ⟨rfl, rfl⟩) (by decide) (by decide) (by decide) (by decide) (by decide) rfl (by decide) N4 (own_le (by omega)) (g := (mkF m 28 #[vR t, vI 34, vR b2] [(.int 16), (.int 0), (.ref b2), (.int 0), (.ref t)])) rfl (by rw [hml]; rfl) (rest := []) rfl (hb hby dC2_28) (by decide) (W := 0) (Nat.le_of_eq rfl) (by decide)
 have sz5 : h2.size ≤ h5.size := KK5.1
 have K5 : Keep h0 h5 [] := K2.trans KK5 (allS (Or.inr (own_le (by omega))) all0)
 refine own_st st5 ?_
 refine s_aloadN X5 hx (hb hby dC2_31) rfl rfl ?_
 show own_G p e below _ (T5.setTop (mkF m 32 #[vR t, vI 34, vR b2] [(.ref b2)]))
 exact own_retN X5 (v := some (.ref b2)) (fun h => by rw [Bd.returns] at h; cases h) Bd.notSynchronized (fun fs hr => retOut X5 hx Bd.returns rfl (Or.inr (Or.inr (Or.inr (Or.inr ⟨rfl, rfl, rfl⟩)))) (hb hby dC2_32) hr) (by decide) (by decide) (by rw [e5]; exact ⟨b2, _, rfl, N5, K5, (by omega), V5.lt, V5⟩)

def Q_own_enG (Z : State) (x t : Nat) (k : ClassId) (h0 : Heap) (n0 : Nat) (v : Option Value) (h : Heap) (L : List Loc) : Prop := v = none ∧ Fr n0 L ∧ Keep h0 h [x] ∧ ∃ (t' : Nat) (k' : ClassId), h0.size ≤ t' ∧ t' < h.size ∧ own_LB Z h x t' k' []
theorem ef_own_enG (m : MethodId) (x0 : Nat) : entryFrame m #[(.ref x0), (.int 19)] 3 = mkF m 0 #[.val (.ref x0), .val (.int 19), .unset] [] := by first | (simp [entryFrame, mkF, argsToLocals, Value.category]; done) | rfl
theorem own_enG (l : Launch) (Z : State) (a0 : Array Value) (hw : hWt a0 Z) (ws : List Jvm.Cond) (x t : Nat) (k : ClassId) (h0 : Heap) (n0 : Nat) (Z0 : n0 ≤ h0.size) (X00 : Old Z n0 h0) (B : own_EB Z h0 x t k) (gx : n0 ≤ x) :
 own_MN l mN22 jdk_68_method_9_code 3 none ws rm_3_1_34_60 Z #[(.ref x), (.int 19)] h0 (Q_own_enG Z x t k h0 n0) := by
 refine own_bodyN (plainFor_of_name own_pn1) fun p e s m below meth c s₁ Bd hx hby hml hown hZ X0 e0 => ?_
 have N0 := Fr.nil n0
 have K0 : Keep h0 h0 [x] := Keep.refl h0 [x]
 refine own_st (fun tq kq => castTop (ef_own_enG m (x)) kq) ?_
 show own_G p e below _ (s₁.setTop (mkF m 0 #[vR x, vI 19, .unset] []))
 have hws0 : ∀ y ∈ [x], n0 ≤ y := allS gx all0
 obtain ⟨Ex, Fv, Fd, Fn, Fm, Vt⟩ := id B
 have ltx : x < h0.size := Fv.lt
 have ltt : t < h0.size := Vt.lt
 refine s_aloadN X0 hx (hb hby dEN_0) rfl rfl ?_
 obtain ⟨T1, X1, e1, st1⟩ := getF X0 hx hZ hown (host := "") (Or.inl (wd56 hw)) Via.refl e0 Fv (g := (mkF m 1 #[vR x, vI 19, .unset] [(.ref x)])) rfl rfl (hb hby dEN_1)
 refine own_st st1 ?_
 obtain ⟨cl2, Ar2, q2, S_2, N_2, H_2, G_2⟩ := id Vt
 refine own_st (fun tq kq => X1.arraylength hx (by rw [e1]; exact Ar2.1) (State.isArrayOf_alike hZ.alike Ar2.2.1) (g := (mkF m 4 #[vR x, vI 19, .unset] [(.ref t)])) rfl rfl (hb hby dEN_4) _ kq) ?_
 rw [len_of S_2 N_2]
 show own_G p e below _ (T1.setTop (mkF m 5 #[vR x, vI 19, .unset] [(.int 16)]))
 refine s_aloadN X1 hx (hb hby dEN_5) rfl rfl ?_
 obtain ⟨T3, X3, e3, st3⟩ := getF X1 hx hZ hown (host := "") (Or.inl (wd58 hw)) Via.refl e1 Fd (g := (mkF m 6 #[vR x, vI 19, .unset] [(.ref x), (.int 16)])) rfl rfl (hb hby dEN_6)
 refine own_st st3 ?_
 refine own_st (fun tq kq => XS.ishr X3.here hx rfl (hb hby dEN_9) rfl kq) ?_
 refine own_st (fun tq kq => XS.istoreN X3.here hx rfl (hb hby dEN_10) rfl (l' := #[vR x, vI 19, vI 16]) rfl kq) ?_
 refine s_iloadN X3 hx (hb hby dEN_11) rfl ?_
 refine s_iloadN X3 hx (hb hby dEN_12) rfl ?_
 refine own_st (fun tq kq => XS.isub X3.here hx rfl (hb hby dEN_13) rfl kq) ?_
 show own_G p e below _ (T3.setTop (mkF m 14 #[vR x, vI 19, vI 16] [(.int 3)]))
 refine own_st (fun tq kq => XS.ifNo X3.here hx rfl (hb hby dEN_14) rfl ((if0 _ _).trans (tlt (by decide : ((0 : Int32) < (3 : Int32)))).2.2.2) kq) ?_
 refine s_aloadN X3 hx (hb hby dEN_17) rfl rfl ?_
 refine s_aloadN X3 hx (hb hby dEN_18) rfl rfl ?_
 obtain ⟨T4, X4, e4, st4⟩ := getF X3 hx hZ hown (host := "") (Or.inl (wd56 hw)) Via.refl e3 Fv (g := (mkF m 19 #[vR x, vI 19, vI 16] [(.ref x), (.ref x)])) rfl rfl (hb hby dEN_19)
 refine own_st st4 ?_
 refine s_aloadN X4 hx (hb hby dEN_22) rfl rfl ?_
 refine s_iloadN X4 hx (hb hby dEN_23) rfl ?_
 obtain ⟨cq5, q5a, q5b⟩ := Exa.cell Ex
 obtain ⟨_, _, ⟨T5, L5, k5, n5⟩, -, X5, ⟨Lc5, hQ5, l5, y5, z5⟩, st5⟩ := X4.privateBack hx (y := mN25) hown (mvT hZ (wd90 hw)) (mvT hZ (wd91 hw)) (mvT hZ (own_selP (wd93 hw) (wd92 hw) (wd91 hw) (by decide))) (Cond.privateMethod_at (mvP hZ (wd92 hw) (args := #[]))) (mvT hZ (wd94 hw)) (by decide) (own_backN (W := 2) (own_nc l Z a0 hw [] (x) (t) (k) h0 n0 (by omega) (X00.keep K0 hws0) ⟨Ex, Fv, Fd, Fn, Fm, Vt⟩) hZ (wd94 hw) (wd52 hw) (by decide) (by decide)) (g := (mkF m 24 #[vR x, vI 19, vI 16] [(.int 19), (.ref x), (.ref t), (.ref x)])) rfl (by rw [hml]; rfl) (Steps.refl _) (a := x) (by rw [e4]; exact q5a) q5b (argsL := [(.int 19)]) (rest := [(.ref t), (.ref x)]) (lenOf own_pd1 rfl) rfl (Nat.le_of_eq rfl) (hb hby dEN_24) (fun _ _ => ⟨rfl, e4, (by decide : 0 + 0 ≤ _), (by decide : 0 + 0 ≤ _)⟩)
 dsimp only [Pt.U, Pt.locs, Pt.cells, Pt.slots] at X5 l5 y5 z5 st5 hQ5
 subst l5 y5 z5
 obtain ⟨rfl, Nq5, sm5⟩ := hQ5
 have N5 := Fr.app N0 Nq5
 refine own_st (fun tq kq => st5.trans kq) ?_
 refine s_aloadN X5 hx (hb hby dEN_27) rfl rfl ?_
 obtain ⟨T6, X6, e6, st6⟩ := getF X5 hx hZ hown (host := "") (Or.inl (wd58 hw)) Via.refl sm5 Fd (g := (mkF m 28 #[vR x, vI 19, vI 16] [(.ref x), (.int 34), (.ref t), (.ref x)])) rfl rfl (hb hby dEN_28)
 refine own_st st6 ?_
 refine own_st (fun tq kq => XS.ishl X6.here hx rfl (hb hby dEN_31) rfl kq) ?_
 obtain ⟨_, _, ⟨T7, L7, k7, n7⟩, -, X7, ⟨Lc7, hQ7, l7, y7, z7⟩, st7⟩ := Jvm.LawKit.callS X6 hx (y := mN27) hown (mvT hZ (wd105 hw)) (mvT hZ (wd106 hw)) (mvT hZ (wd107 hw)) (mvT hZ (wd108 hw)) (by decide) (own_backN (W := 1) (own_cofG l Z a0 hw [] (t) (k) h0 n0 (by omega) (X00.keep K0 hws0) Vt) hZ (wd108 hw) (wd107 hw) (by decide) (by decide)) (g := (mkF m 32 #[vR x, vI 19, vI 16] [(.int 34), (.ref t), (.ref x)])) rfl (by rw [hml]; rfl) (argsL := [(.ref t), (.int 34)]) (rest := [(.ref x)]) (lenOf own_pd19 rfl) rfl (Nat.le_of_eq rfl) (hb hby dEN_32) (fun _ _ => ⟨rfl, e6, (by decide : 0 + 1 ≤ _), (by decide : 0 + 34 ≤ _)⟩)
 dsimp only [Pt.U, Pt.locs, Pt.cells, Pt.slots] at X7 l7 y7 z7 st7 hQ7
 subst l7 y7 z7
 obtain ⟨r7, kr7, rfl, Nq7, Kq7, gr7, lr7, Vr7⟩ := hQ7
 have KK7 : Keep h0 T7.heap [] := Kq7
 have sz7 : h0.size ≤ T7.heap.size := KK7.1
 have K7 : Keep h0 T7.heap [x] := K0.trans KK7 all0
 have N7 := Fr.app N5 Nq7
 refine own_st st7 ?_
 obtain ⟨T8, h8, X8, e8, W8, st8⟩ := putF X7 hx hZ hown (host := "") (Or.inl (wd56 hw)) Via.refl rfl (Fv.keep KK7 nin0) (Ex.keep KK7) (Or.inl (wd57 hw)) (wd43 hw) (ty := (.array .byte)) (by decide) rfl rfl (g := (mkF m 35 #[vR x, vI 19, vI 16] [(.ref r7), (.ref x)])) rfl rfl (hb hby dEN_35)
 have Fw8 := (Fv.keep KK7 nin0).same W8
 have sz8 : T7.heap.size ≤ h8.size := (Keep.of_wr W8).1
 have K8 : Keep h0 h8 [x] := K7.wr W8 (Or.inl (by simp))
 have N8 := Fr.snoc X8 N7 (own_le (by omega))
 refine own_st st8 ?_
 exact own_retN X8 (v := none) (fun _ => rfl) Bd.notSynchronized (fun fs hr => X8.returnOut hx Bd.returns (hb hby dEN_38) hr) (by decide) (by decide) (by rw [e8]; exact ⟨rfl, N8, K8, r7, _, (by omega), (Vr7.other W8 (own_ne (by omega))).lt, ((Ex.keep KK7).wr W8), Fw8, ((Fd.keep KK7 nin0).other W8 (Or.inr (slot_ne (Or.inl (wd59 hw)) (Or.inl (wd57 hw)) (by decide) (t := .byte) (t' := (.array .byte)) (by decide) (by decide)))), ((Fn.keep KK7 nin0).other W8 (Or.inr (slot_ne (Or.inl (wd84 hw)) (Or.inl (wd57 hw)) (by decide) (t := .int) (t' := (.array .byte)) (by decide) (by decide)))), ((Fm.keep KK7 nin0).other W8 (Or.inr (slot_ne (Or.inl (wd262 hw)) (Or.inl (wd57 hw)) (by decide) (t := .boolean) (t' := (.array .byte)) (by decide) (by decide)))), (Vr7.other W8 (own_ne (by omega)))⟩)

def Q_own_aaLL (Z : State) (x t : Nat) (k : ClassId) (cs : List Int32) (G1 : Int32) (fm : Value) (sx tb : Nat) (kb : ClassId) (ds : List Int32) (h0 : Heap) (n0 : Nat) (v : Option Value) (h : Heap) (L : List Loc) : Prop := v = some (.ref x) ∧ Fr n0 L ∧ Keep h0 h [x, t] ∧ own_LB Z h x t k (cs ++ ds)
theorem ef_own_aaLL (m : MethodId) (x0 : Nat) (x1 : Nat) : entryFrame m #[(.ref x0), (.ref x1)] 3 = mkF m 0 #[.val (.ref x0), .val (.ref x1), .unset] [] := by first | (simp [entryFrame, mkF, argsToLocals, Value.category]; done) | rfl
theorem own_aaLL (l : Launch) (Z : State) (a0 : Array Value) (hw : hWt a0 Z) (ws : List Jvm.Cond) (x t : Nat) (k : ClassId) (cs : List Int32) (G1 : Int32) (fm : Value) (sx tb : Nat) (kb : ClassId) (ds : List Int32) (h0 : Heap) (n0 : Nat) (Z0 : n0 ≤ h0.size) (X00 : Old Z n0 h0) (B : own_LB Z h0 x t k cs) (Es : Exa Z h0 sx "java/lang/String") (Vs : Fld Z h0 sx "java/lang/String" "value" "[B" (.ref tb)) (Cs : Fld Z h0 sx "java/lang/String" "coder" "B" (.int (0 : Int32))) (As : Arv Z h0 tb kb .byte (Int32.ofNat ds.length) (own_bt ds) (.int 0)) (hds : ∀ c ∈ ds, ¬ c < 0 ∧ ¬ (255 : Int32) < c) (hl : cs.length + ds.length ≤ 34) (hcs : ∀ c ∈ cs, ¬ c < 0 ∧ ¬ (255 : Int32) < c) (gx : n0 ≤ x) (gt : n0 ≤ t) (nxt : x ≠ t) (nbt : tb ≠ t) (lts : tb < h0.size) (O2 : Sta Z Z.heap "java/lang/String" "COMPACT_STRINGS" "Z" (.int G1)) (P5 : ¬ (G1 = (0 : Int32))) (OA : oA Z) (OH : oH Z) (OL : oL Z) (O4 : o4 Z fm) (rfm : fm.isRef = true) :
 own_MN l mN28 jdk_68_method_22_code 3 (some (.object "java/lang/AbstractStringBuilder")) ws rm_7_0_0_140 Z #[(.ref x), (.ref sx)] h0 (Q_own_aaLL Z x t k cs G1 fm sx tb kb ds h0 n0) := by
 refine own_bodyN (plainFor_of_name own_pn1) fun p e s m below meth c s₁ Bd hx hby hml hown hZ X0 e0 => ?_
 have N0 := Fr.nil n0
 have K0 : Keep h0 h0 [x, t] := Keep.refl h0 [x, t]
 refine own_st (fun tq kq => castTop (ef_own_aaLL m (x) (sx)) kq) ?_
 show own_G p e below _ (s₁.setTop (mkF m 0 #[vR x, vR sx, .unset] []))
 have hws0 : ∀ y ∈ [x, t], n0 ≤ y := allS gx (allS gt all0)
 obtain ⟨Ex, Fv, Fd, Fn, Fm, Vt⟩ := id B
 have ltx : x < h0.size := Fv.lt
 have ltt : t < h0.size := Vt.lt
 refine s_aloadN X0 hx (hb hby dAA_0) rfl rfl ?_
 show own_G p e below _ (s₁.setTop (mkF m 1 #[vR x, vR sx, .unset] [(.ref sx)]))
 refine own_st (fun tq kq => XS.ifnonnullYes X0.here hx rfl (pc0 := 1) (pc' := 9) rfl (hb hby dAA_1) rfl (by decide) (by decide) kq) ?_
 refine s_aloadN X0 hx (hb hby dAA_9) rfl rfl ?_
 obtain ⟨cq1, kq1, q1a, q1b, q1c⟩ := isOf hZ e0 Es
 obtain ⟨_, _, ⟨T1, L1, k1, n1⟩, -, X1, ⟨Lc1, hQ1, l1, y1, z1⟩, st1⟩ := X0.virtualBack hx (y := mN29) (z := mN29) hown (mvT hZ (wd73 hw)) (mvT hZ (wd74 hw)) (notFace_of_selects (args := #[]) (mvT hZ (wd76 hw))) (mvT hZ (wd76 hw)) (mvT hZ (wd75 hw)) (by decide) (StrChars.Road.lenW (W := 0) hZ (own_wLen hw) (kI := 4) (wd11 hw) Es Vs Cs As (StrChars.Road.codOf rfl (fun c hc => (hds c hc).2)) (own_up hds) (O2.ext (X00.keep K0 hws0).2) P5 (by omega) (by decide) (by decide)) q1a q1c (g := (mkF m 10 #[vR x, vR sx, .unset] [(.ref sx)])) rfl (by rw [hml]; rfl) (Steps.refl _) (argsL := []) (rest := []) (lenOf own_pd20 rfl) rfl (Nat.le_of_eq rfl) (hb hby dAA_10) (fun _ _ => ⟨rfl, e0, (by decide : 0 + 0 ≤ _), (by decide : 0 + 0 ≤ _)⟩)
 dsimp only [Pt.U, Pt.locs, Pt.cells, Pt.slots] at X1 l1 y1 z1 st1 hQ1
 subst l1 y1 z1
 obtain ⟨rfl, rfl, sm1⟩ := hQ1
 have N1 := Fr.app N0 (Fr.nil n0)
 refine own_st (fun tq kq => st1.trans kq) ?_
 refine own_st (fun tq kq => XS.istoreN X1.here hx rfl (hb hby dAA_13) rfl (l' := #[vR x, vR sx, vI (Int32.ofNat ds.length)]) rfl kq) ?_
 refine s_aloadN X1 hx (hb hby dAA_14) rfl rfl ?_
 refine s_aloadN X1 hx (hb hby dAA_15) rfl rfl ?_
 obtain ⟨T2, X2, e2, st2⟩ := getF X1 hx hZ hown (host := "") (Or.inl (wd83 hw)) Via.refl sm1 Fn (g := (mkF m 16 #[vR x, vR sx, vI (Int32.ofNat ds.length)] [(.ref x), (.ref x)])) rfl rfl (hb hby dAA_16)
 refine own_st st2 ?_
 refine s_iloadN X2 hx (hb hby dAA_19) rfl ?_
 refine own_st (fun tq kq => XS.iadd X2.here hx rfl (hb hby dAA_20) rfl kq) ?_
 obtain ⟨cq3, q3a, q3b⟩ := Exa.cell Ex
 obtain ⟨_, _, ⟨T3, L3, k3, n3⟩, -, X3, ⟨Lc3, hQ3, l3, y3, z3⟩, st3⟩ := X2.privateBack hx (y := mN22) hown (mvT hZ (wd85 hw)) (mvT hZ (wd86 hw)) (mvT hZ (own_selP (wd88 hw) (wd87 hw) (wd86 hw) (by decide))) (Cond.privateMethod_at (mvP hZ (wd87 hw) (args := #[]))) (mvT hZ (wd89 hw)) (by decide) (own_backN (W := 0) (own_enL l Z a0 hw [] (x) (t) (k) (cs) (((Int32.ofNat cs.length) + (Int32.ofNat ds.length))) h0 n0 (by omega) (X00.keep K0 hws0) ⟨Ex, Fv, Fd, Fn, Fm, Vt⟩ (own_cap34 hl)) hZ (wd89 hw) (wd52 hw) (by decide) (by decide)) (g := (mkF m 21 #[vR x, vR sx, vI (Int32.ofNat ds.length)] [(.int ((Int32.ofNat cs.length) + (Int32.ofNat ds.length))), (.ref x)])) rfl (by rw [hml]; rfl) (Steps.refl _) (a := x) (by rw [e2]; exact q3a) q3b (argsL := [(.int ((Int32.ofNat cs.length) + (Int32.ofNat ds.length)))]) (rest := []) (lenOf own_pd21 rfl) rfl (Nat.le_of_eq rfl) (hb hby dAA_21) (fun _ _ => ⟨rfl, e2, (by decide : 0 + 0 ≤ _), (by decide : 0 + 0 ≤ _)⟩)
 dsimp only [Pt.U, Pt.locs, Pt.cells, Pt.slots] at X3 l3 y3 z3 st3 hQ3
 subst l3 y3 z3
 obtain ⟨rfl, Nq3, sm3⟩ := hQ3
 have N3 := Fr.app N1 Nq3
 refine own_st (fun tq kq => st3.trans kq) ?_
 refine s_aloadN X3 hx (hb hby dAA_24) rfl rfl ?_
 refine s_aloadN X3 hx (hb hby dAA_25) rfl rfl ?_
 obtain ⟨T4, X4, e4, st4⟩ := getF X3 hx hZ hown (host := "") (Or.inl (wd83 hw)) Via.refl sm3 Fn (g := (mkF m 26 #[vR x, vR sx, vI (Int32.ofNat ds.length)] [(.ref x), (.ref x)])) rfl rfl (hb hby dAA_26)
 refine own_st st4 ?_
 refine s_aloadN X4 hx (hb hby dAA_29) rfl rfl ?_
 obtain ⟨cq5, q5a, q5b⟩ := Exa.cell Ex
 obtain ⟨_, _, ⟨T5, L5, k5, n5⟩, -, X5, ⟨Lc5, hQ5, l5, y5, z5⟩, st5⟩ := X4.privateBack hx (y := mN21) hown (mvT hZ (wd116 hw)) (mvT hZ (wd117 hw)) (mvT hZ (own_selP (wd119 hw) (wd118 hw) (wd117 hw) (by decide))) (Cond.privateMethod_at (mvP hZ (wd118 hw) (args := #[]))) (mvT hZ (wd120 hw)) (by decide) (own_backN (W := 0) (own_psLL l Z a0 hw [] (x) (t) (k) (cs) (G1) (fm) (sx) (tb) (kb) (ds) h0 n0 (by omega) (X00.keep K0 hws0) ⟨Ex, Fv, Fd, Fn, Fm, Vt⟩ Es Vs Cs As hds hl hcs gx gt nxt nbt lts O2 P5 OA OH OL O4 rfm) hZ (wd120 hw) (wd52 hw) (by decide) (by decide)) (g := (mkF m 30 #[vR x, vR sx, vI (Int32.ofNat ds.length)] [(.ref sx), (.int (Int32.ofNat cs.length)), (.ref x)])) rfl (by rw [hml]; rfl) (Steps.refl _) (a := x) (by rw [e4]; exact q5a) q5b (argsL := [(.int (Int32.ofNat cs.length)), (.ref sx)]) (rest := []) (lenOf own_pd22 rfl) rfl (Nat.le_of_eq rfl) (hb hby dAA_30) (fun _ _ => ⟨rfl, e4, (by decide : 0 + 0 ≤ _), (by decide : 0 + 0 ≤ _)⟩)
 dsimp only [Pt.U, Pt.locs, Pt.cells, Pt.slots] at X5 l5 y5 z5 st5 hQ5
 subst l5 y5 z5
 obtain ⟨rfl, Nq5, Kq5, Vg5⟩ := hQ5
 have KK5 : Keep h0 T5.heap [t] := Kq5
 have sz5 : h0.size ≤ T5.heap.size := KK5.1
 have K5 : Keep h0 T5.heap [x, t] := K0.trans KK5 (allS (Or.inl (by simp)) all0)
 have N5 := Fr.app N3 Nq5
 refine own_st (fun tq kq => st5.trans kq) ?_
 refine s_aloadN X5 hx (hb hby dAA_33) rfl rfl ?_
 refine own_st (fun tq kq => XS.dup X5.here hx rfl (hb hby dAA_34) rfl rfl kq) ?_
 obtain ⟨T6, X6, e6, st6⟩ := getF X5 hx hZ hown (host := "") (Or.inl (wd83 hw)) Via.refl rfl (Fn.keep KK5 (ninS (own_ne (by omega)) nin0)) (g := (mkF m 35 #[vR x, vR sx, vI (Int32.ofNat ds.length)] [(.ref x), (.ref x)])) rfl rfl (hb hby dAA_35)
 refine own_st st6 ?_
 refine s_iloadN X6 hx (hb hby dAA_38) rfl ?_
 refine own_st (fun tq kq => XS.iadd X6.here hx rfl (hb hby dAA_39) rfl kq) ?_
 obtain ⟨T7, h7, X7, e7, W7, st7⟩ := putF X6 hx hZ hown (host := "") (Or.inl (wd83 hw)) Via.refl e6 (Fn.keep KK5 (ninS (own_ne (by omega)) nin0)) (Ex.keep KK5) (Or.inl (wd84 hw)) (wd43 hw) (ty := .int) (by decide) rfl rfl (g := (mkF m 40 #[vR x, vR sx, vI (Int32.ofNat ds.length)] [(.int ((Int32.ofNat cs.length) + (Int32.ofNat ds.length))), (.ref x)])) rfl rfl (hb hby dAA_40)
 have Fw7 := (Fn.keep KK5 (ninS (own_ne (by omega)) nin0)).same W7
 have sz7 : T5.heap.size ≤ h7.size := (Keep.of_wr W7).1
 have K7 : Keep h0 h7 [x, t] := K5.wr W7 (Or.inl (by simp))
 have N7 := Fr.snoc X7 N5 (own_le (by omega))
 refine own_st st7 ?_
 refine s_aloadN X7 hx (hb hby dAA_43) rfl rfl ?_
 show own_G p e below _ (T7.setTop (mkF m 44 #[vR x, vR sx, vI (Int32.ofNat ds.length)] [(.ref x)]))
 exact own_retN X7 (v := some (.ref x)) (fun h => by rw [Bd.returns] at h; cases h) Bd.notSynchronized (fun fs hr => retOut X7 hx Bd.returns rfl (Or.inr (Or.inr (Or.inr (Or.inr ⟨rfl, rfl, rfl⟩)))) (hb hby dAA_44) hr) (by decide) (by decide) (by rw [e7]; exact ⟨rfl, N7, K7, ((Ex.keep KK5).wr W7), ((Fv.keep KK5 (ninS (own_ne (by omega)) nin0)).other W7 (Or.inr (slot_ne (Or.inl (wd57 hw)) (Or.inl (wd84 hw)) (by decide) (t := (.array .byte)) (t' := .int) (by decide) (by decide)))), ((Fd.keep KK5 (ninS (own_ne (by omega)) nin0)).other W7 (Or.inr (slot_ne (Or.inl (wd59 hw)) (Or.inl (wd84 hw)) (by decide) (t := .byte) (t' := .int) (by decide) (by decide)))), (by have q := Fw7; rw [← Int32.ofNat_add, ← List.length_append] at q; exact q), ((Fm.keep KK5 (ninS (own_ne (by omega)) nin0)).other W7 (Or.inr (slot_ne (Or.inl (wd262 hw)) (Or.inl (wd84 hw)) (by decide) (t := .boolean) (t' := .int) (by decide) (by decide)))), (Vg5.other W7 (own_ne (by omega)))⟩)

def Q_own_aaWL (Z : State) (x t : Nat) (k : ClassId) (cs : List Int32) (G1 : Int32) (fm : Value) (sx tb : Nat) (kb : ClassId) (ds : List Int32) (h0 : Heap) (n0 : Nat) (v : Option Value) (h : Heap) (L : List Loc) : Prop := v = some (.ref x) ∧ Fr n0 L ∧ Keep h0 h [x, t] ∧ own_WB Z h x t k (cs ++ ds)
theorem own_aaWL (l : Launch) (Z : State) (a0 : Array Value) (hw : hWt a0 Z) (ws : List Jvm.Cond) (x t : Nat) (k : ClassId) (cs : List Int32) (G1 : Int32) (fm : Value) (sx tb : Nat) (kb : ClassId) (ds : List Int32) (h0 : Heap) (n0 : Nat) (Z0 : n0 ≤ h0.size) (X00 : Old Z n0 h0) (B : own_WB Z h0 x t k cs) (Es : Exa Z h0 sx "java/lang/String") (Vs : Fld Z h0 sx "java/lang/String" "value" "[B" (.ref tb)) (Cs : Fld Z h0 sx "java/lang/String" "coder" "B" (.int (0 : Int32))) (As : Arv Z h0 tb kb .byte (Int32.ofNat ds.length) (own_bt ds) (.int 0)) (hds : ∀ c ∈ ds, ¬ c < 0 ∧ ¬ (255 : Int32) < c) (hl : cs.length + ds.length ≤ 34) (hcs : ∀ c ∈ cs, ¬ c < 0 ∧ ¬ (65535 : Int32) < c) (gx : n0 ≤ x) (gt : n0 ≤ t) (nxt : x ≠ t) (nbt : tb ≠ t) (lts : tb < h0.size) (O2 : Sta Z Z.heap "java/lang/String" "COMPACT_STRINGS" "Z" (.int G1)) (P5 : ¬ (G1 = (0 : Int32))) (OA : oA Z) (OH : oH Z) (OL : oL Z) (O4 : o4 Z fm) (rfm : fm.isRef = true) :
 own_MN l mN28 jdk_68_method_22_code 3 (some (.object "java/lang/AbstractStringBuilder")) ws rm_7_0_0_140 Z #[(.ref x), (.ref sx)] h0 (Q_own_aaWL Z x t k cs G1 fm sx tb kb ds h0 n0) := by
 refine own_bodyN (plainFor_of_name own_pn1) fun p e s m below meth c s₁ Bd hx hby hml hown hZ X0 e0 => ?_
 have N0 := Fr.nil n0
 have K0 : Keep h0 h0 [x, t] := Keep.refl h0 [x, t]
 refine own_st (fun tq kq => castTop (ef_own_aaLL m (x) (sx)) kq) ?_
 show own_G p e below _ (s₁.setTop (mkF m 0 #[vR x, vR sx, .unset] []))
 have hws0 : ∀ y ∈ [x, t], n0 ≤ y := allS gx (allS gt all0)
 obtain ⟨Ex, Fv, Fd, Fn, Fm, Vt⟩ := id B
 have ltx : x < h0.size := Fv.lt
 have ltt : t < h0.size := Vt.lt
 refine s_aloadN X0 hx (hb hby dAA_0) rfl rfl ?_
 show own_G p e below _ (s₁.setTop (mkF m 1 #[vR x, vR sx, .unset] [(.ref sx)]))
 refine own_st (fun tq kq => XS.ifnonnullYes X0.here hx rfl (pc0 := 1) (pc' := 9) rfl (hb hby dAA_1) rfl (by decide) (by decide) kq) ?_
 refine s_aloadN X0 hx (hb hby dAA_9) rfl rfl ?_
 obtain ⟨cq1, kq1, q1a, q1b, q1c⟩ := isOf hZ e0 Es
 obtain ⟨_, _, ⟨T1, L1, k1, n1⟩, -, X1, ⟨Lc1, hQ1, l1, y1, z1⟩, st1⟩ := X0.virtualBack hx (y := mN29) (z := mN29) hown (mvT hZ (wd73 hw)) (mvT hZ (wd74 hw)) (notFace_of_selects (args := #[]) (mvT hZ (wd76 hw))) (mvT hZ (wd76 hw)) (mvT hZ (wd75 hw)) (by decide) (StrChars.Road.lenW (W := 0) hZ (own_wLen hw) (kI := 4) (wd11 hw) Es Vs Cs As (StrChars.Road.codOf rfl (fun c hc => (hds c hc).2)) (own_up hds) (O2.ext (X00.keep K0 hws0).2) P5 (by omega) (by decide) (by decide)) q1a q1c (g := (mkF m 10 #[vR x, vR sx, .unset] [(.ref sx)])) rfl (by rw [hml]; rfl) (Steps.refl _) (argsL := []) (rest := []) (lenOf own_pd20 rfl) rfl (Nat.le_of_eq rfl) (hb hby dAA_10) (fun _ _ => ⟨rfl, e0, (by decide : 0 + 0 ≤ _), (by decide : 0 + 0 ≤ _)⟩)
 dsimp only [Pt.U, Pt.locs, Pt.cells, Pt.slots] at X1 l1 y1 z1 st1 hQ1
 subst l1 y1 z1
 obtain ⟨rfl, rfl, sm1⟩ := hQ1
 have N1 := Fr.app N0 (Fr.nil n0)
 refine own_st (fun tq kq => st1.trans kq) ?_
 refine own_st (fun tq kq => XS.istoreN X1.here hx rfl (hb hby dAA_13) rfl (l' := #[vR x, vR sx, vI (Int32.ofNat ds.length)]) rfl kq) ?_
 refine s_aloadN X1 hx (hb hby dAA_14) rfl rfl ?_
 refine s_aloadN X1 hx (hb hby dAA_15) rfl rfl ?_
 obtain ⟨T2, X2, e2, st2⟩ := getF X1 hx hZ hown (host := "") (Or.inl (wd83 hw)) Via.refl sm1 Fn (g := (mkF m 16 #[vR x, vR sx, vI (Int32.ofNat ds.length)] [(.ref x), (.ref x)])) rfl rfl (hb hby dAA_16)
 refine own_st st2 ?_
 refine s_iloadN X2 hx (hb hby dAA_19) rfl ?_
 refine own_st (fun tq kq => XS.iadd X2.here hx rfl (hb hby dAA_20) rfl kq) ?_
 obtain ⟨cq3, q3a, q3b⟩ := Exa.cell Ex
 obtain ⟨_, _, ⟨T3, L3, k3, n3⟩, -, X3, ⟨Lc3, hQ3, l3, y3, z3⟩, st3⟩ := X2.privateBack hx (y := mN22) hown (mvT hZ (wd85 hw)) (mvT hZ (wd86 hw)) (mvT hZ (own_selP (wd88 hw) (wd87 hw) (wd86 hw) (by decide))) (Cond.privateMethod_at (mvP hZ (wd87 hw) (args := #[]))) (mvT hZ (wd89 hw)) (by decide) (own_backN (W := 0) (own_enW l Z a0 hw [] (x) (t) (k) (cs) (((Int32.ofNat cs.length) + (Int32.ofNat ds.length))) h0 n0 (by omega) (X00.keep K0 hws0) ⟨Ex, Fv, Fd, Fn, Fm, Vt⟩ (own_cap34 hl)) hZ (wd89 hw) (wd52 hw) (by decide) (by decide)) (g := (mkF m 21 #[vR x, vR sx, vI (Int32.ofNat ds.length)] [(.int ((Int32.ofNat cs.length) + (Int32.ofNat ds.length))), (.ref x)])) rfl (by rw [hml]; rfl) (Steps.refl _) (a := x) (by rw [e2]; exact q3a) q3b (argsL := [(.int ((Int32.ofNat cs.length) + (Int32.ofNat ds.length)))]) (rest := []) (lenOf own_pd21 rfl) rfl (Nat.le_of_eq rfl) (hb hby dAA_21) (fun _ _ => ⟨rfl, e2, (by decide : 0 + 0 ≤ _), (by decide : 0 + 0 ≤ _)⟩)
 dsimp only [Pt.U, Pt.locs, Pt.cells, Pt.slots] at X3 l3 y3 z3 st3 hQ3
 subst l3 y3 z3
 obtain ⟨rfl, Nq3, sm3⟩ := hQ3
 have N3 := Fr.app N1 Nq3
 refine own_st (fun tq kq => st3.trans kq) ?_
 refine s_aloadN X3 hx (hb hby dAA_24) rfl rfl ?_
 refine s_aloadN X3 hx (hb hby dAA_25) rfl rfl ?_
 obtain ⟨T4, X4, e4, st4⟩ := getF X3 hx hZ hown (host := "") (Or.inl (wd83 hw)) Via.refl sm3 Fn (g := (mkF m 26 #[vR x, vR sx, vI (Int32.ofNat ds.length)] [(.ref x), (.ref x)])) rfl rfl (hb hby dAA_26)
 refine own_st st4 ?_
 refine s_aloadN X4 hx (hb hby dAA_29) rfl rfl ?_
 obtain ⟨cq5, q5a, q5b⟩ := Exa.cell Ex
 obtain ⟨_, _, ⟨T5, L5, k5, n5⟩, -, X5, ⟨Lc5, hQ5, l5, y5, z5⟩, st5⟩ := X4.privateBack hx (y := mN21) hown (mvT hZ (wd116 hw)) (mvT hZ (wd117 hw)) (mvT hZ (own_selP (wd119 hw) (wd118 hw) (wd117 hw) (by decide))) (Cond.privateMethod_at (mvP hZ (wd118 hw) (args := #[]))) (mvT hZ (wd120 hw)) (by decide) (own_backN (W := 0) (own_psWL l Z a0 hw [] (x) (t) (k) (cs) (G1) (fm) (sx) (tb) (kb) (ds) h0 n0 (by omega) (X00.keep K0 hws0) ⟨Ex, Fv, Fd, Fn, Fm, Vt⟩ Es Vs Cs As hds hl hcs gx gt nxt nbt lts O2 P5 OA OH OL O4 rfm) hZ (wd120 hw) (wd52 hw) (by decide) (by decide)) (g := (mkF m 30 #[vR x, vR sx, vI (Int32.ofNat ds.length)] [(.ref sx), (.int (Int32.ofNat cs.length)), (.ref x)])) rfl (by rw [hml]; rfl) (Steps.refl _) (a := x) (by rw [e4]; exact q5a) q5b (argsL := [(.int (Int32.ofNat cs.length)), (.ref sx)]) (rest := []) (lenOf own_pd22 rfl) rfl (Nat.le_of_eq rfl) (hb hby dAA_30) (fun _ _ => ⟨rfl, e4, (by decide : 0 + 0 ≤ _), (by decide : 0 + 0 ≤ _)⟩)
 dsimp only [Pt.U, Pt.locs, Pt.cells, Pt.slots] at X5 l5 y5 z5 st5 hQ5
 subst l5 y5 z5
 obtain ⟨rfl, Nq5, Kq5, Vg5⟩ := hQ5
 have KK5 : Keep h0 T5.heap [t] := Kq5
 have sz5 : h0.size ≤ T5.heap.size := KK5.1
 have K5 : Keep h0 T5.heap [x, t] := K0.trans KK5 (allS (Or.inl (by simp)) all0)
 have N5 := Fr.app N3 Nq5
 refine own_st (fun tq kq => st5.trans kq) ?_
 refine s_aloadN X5 hx (hb hby dAA_33) rfl rfl ?_
 refine own_st (fun tq kq => XS.dup X5.here hx rfl (hb hby dAA_34) rfl rfl kq) ?_
 obtain ⟨T6, X6, e6, st6⟩ := getF X5 hx hZ hown (host := "") (Or.inl (wd83 hw)) Via.refl rfl (Fn.keep KK5 (ninS (own_ne (by omega)) nin0)) (g := (mkF m 35 #[vR x, vR sx, vI (Int32.ofNat ds.length)] [(.ref x), (.ref x)])) rfl rfl (hb hby dAA_35)
 refine own_st st6 ?_
 refine s_iloadN X6 hx (hb hby dAA_38) rfl ?_
 refine own_st (fun tq kq => XS.iadd X6.here hx rfl (hb hby dAA_39) rfl kq) ?_
 obtain ⟨T7, h7, X7, e7, W7, st7⟩ := putF X6 hx hZ hown (host := "") (Or.inl (wd83 hw)) Via.refl e6 (Fn.keep KK5 (ninS (own_ne (by omega)) nin0)) (Ex.keep KK5) (Or.inl (wd84 hw)) (wd43 hw) (ty := .int) (by decide) rfl rfl (g := (mkF m 40 #[vR x, vR sx, vI (Int32.ofNat ds.length)] [(.int ((Int32.ofNat cs.length) + (Int32.ofNat ds.length))), (.ref x)])) rfl rfl (hb hby dAA_40)
 have Fw7 := (Fn.keep KK5 (ninS (own_ne (by omega)) nin0)).same W7
 have sz7 : T5.heap.size ≤ h7.size := (Keep.of_wr W7).1
 have K7 : Keep h0 h7 [x, t] := K5.wr W7 (Or.inl (by simp))
 have N7 := Fr.snoc X7 N5 (own_le (by omega))
 refine own_st st7 ?_
 refine s_aloadN X7 hx (hb hby dAA_43) rfl rfl ?_
 show own_G p e below _ (T7.setTop (mkF m 44 #[vR x, vR sx, vI (Int32.ofNat ds.length)] [(.ref x)]))
 exact own_retN X7 (v := some (.ref x)) (fun h => by rw [Bd.returns] at h; cases h) Bd.notSynchronized (fun fs hr => retOut X7 hx Bd.returns rfl (Or.inr (Or.inr (Or.inr (Or.inr ⟨rfl, rfl, rfl⟩)))) (hb hby dAA_44) hr) (by decide) (by decide) (by rw [e7]; exact ⟨rfl, N7, K7, ((Ex.keep KK5).wr W7), ((Fv.keep KK5 (ninS (own_ne (by omega)) nin0)).other W7 (Or.inr (slot_ne (Or.inl (wd57 hw)) (Or.inl (wd84 hw)) (by decide) (t := (.array .byte)) (t' := .int) (by decide) (by decide)))), ((Fd.keep KK5 (ninS (own_ne (by omega)) nin0)).other W7 (Or.inr (slot_ne (Or.inl (wd59 hw)) (Or.inl (wd84 hw)) (by decide) (t := .byte) (t' := .int) (by decide) (by decide)))), (by have q := Fw7; rw [← Int32.ofNat_add, ← List.length_append] at q; exact q), ((Fm.keep KK5 (ninS (own_ne (by omega)) nin0)).other W7 (Or.inr (slot_ne (Or.inl (wd262 hw)) (Or.inl (wd84 hw)) (by decide) (t := .boolean) (t' := .int) (by decide) (by decide)))), (Vg5.other W7 (own_ne (by omega)))⟩)

def Q_own_aaLW (Z : State) (x t : Nat) (k : ClassId) (cs : List Int32) (G1 : Int32) (fm : Value) (sx tb : Nat) (kb : ClassId) (ds : List Int32) (h0 : Heap) (n0 : Nat) (v : Option Value) (h : Heap) (L : List Loc) : Prop := v = some (.ref x) ∧ Fr n0 L ∧ Keep h0 h [x] ∧ ∃ (t' : Nat) (k' : ClassId), h0.size ≤ t' ∧ t' < h.size ∧ own_WB Z h x t' k' (cs ++ ds)
theorem own_aaLW (l : Launch) (Z : State) (a0 : Array Value) (hw : hWt a0 Z) (ws : List Jvm.Cond) (x t : Nat) (k : ClassId) (cs : List Int32) (G1 : Int32) (fm : Value) (sx tb : Nat) (kb : ClassId) (ds : List Int32) (h0 : Heap) (n0 : Nat) (Z0 : n0 ≤ h0.size) (X00 : Old Z n0 h0) (B : own_LB Z h0 x t k cs) (Es : Exa Z h0 sx "java/lang/String") (Vs : Fld Z h0 sx "java/lang/String" "value" "[B" (.ref tb)) (Cs : Fld Z h0 sx "java/lang/String" "coder" "B" (.int (1 : Int32))) (As : Arv Z h0 tb kb .byte (Int32.ofNat (2 * ds.length)) (own_wb ds) (.int 0)) (hds : ∀ c ∈ ds, ¬ c < 0 ∧ ¬ (65535 : Int32) < c) (hl : cs.length + ds.length ≤ 34) (hcs : ∀ c ∈ cs, ¬ c < 0 ∧ ¬ (255 : Int32) < c) (gx : n0 ≤ x) (gt : n0 ≤ t) (nxt : x ≠ t) (nbt : tb ≠ t) (lts : tb < h0.size) (O2 : Sta Z Z.heap "java/lang/String" "COMPACT_STRINGS" "Z" (.int G1)) (P5 : ¬ (G1 = (0 : Int32))) (OA : oA Z) (OH : oH Z) (OL : oL Z) (O4 : o4 Z fm) (rfm : fm.isRef = true) (nsx : sx ≠ x) (hex : ∃ c ∈ ds, 255 < c) :
 own_MN l mN28 jdk_68_method_22_code 3 (some (.object "java/lang/AbstractStringBuilder")) ws rm_8_1_68_160 Z #[(.ref x), (.ref sx)] h0 (Q_own_aaLW Z x t k cs G1 fm sx tb kb ds h0 n0) := by
 refine own_bodyN (plainFor_of_name own_pn1) fun p e s m below meth c s₁ Bd hx hby hml hown hZ X0 e0 => ?_
 have N0 := Fr.nil n0
 have K0 : Keep h0 h0 [x] := Keep.refl h0 [x]
 refine own_st (fun tq kq => castTop (ef_own_aaLL m (x) (sx)) kq) ?_
 show own_G p e below _ (s₁.setTop (mkF m 0 #[vR x, vR sx, .unset] []))
 have hws0 : ∀ y ∈ [x], n0 ≤ y := allS gx all0
 obtain ⟨Ex, Fv, Fd, Fn, Fm, Vt⟩ := id B
 have ltx : x < h0.size := Fv.lt
 have ltt : t < h0.size := Vt.lt
 refine s_aloadN X0 hx (hb hby dAA_0) rfl rfl ?_
 show own_G p e below _ (s₁.setTop (mkF m 1 #[vR x, vR sx, .unset] [(.ref sx)]))
 refine own_st (fun tq kq => XS.ifnonnullYes X0.here hx rfl (pc0 := 1) (pc' := 9) rfl (hb hby dAA_1) rfl (by decide) (by decide) kq) ?_
 refine s_aloadN X0 hx (hb hby dAA_9) rfl rfl ?_
 obtain ⟨cq1, kq1, q1a, q1b, q1c⟩ := isOf hZ e0 Es
 obtain ⟨_, _, ⟨T1, L1, k1, n1⟩, -, X1, ⟨Lc1, hQ1, l1, y1, z1⟩, st1⟩ := X0.virtualBack hx (y := mN29) (z := mN29) hown (mvT hZ (wd73 hw)) (mvT hZ (wd74 hw)) (notFace_of_selects (args := #[]) (mvT hZ (wd76 hw))) (mvT hZ (wd76 hw)) (mvT hZ (wd75 hw)) (by decide) (StrChars.Road.lenW (W := 0) hZ (own_wLen hw) (kI := 4) (wd11 hw) Es Vs Cs As (Or.inr ⟨rfl, rfl, rfl, hex⟩) hds (O2.ext (X00.keep K0 hws0).2) P5 (by omega) (by decide) (by decide)) q1a q1c (g := (mkF m 10 #[vR x, vR sx, .unset] [(.ref sx)])) rfl (by rw [hml]; rfl) (Steps.refl _) (argsL := []) (rest := []) (lenOf own_pd20 rfl) rfl (Nat.le_of_eq rfl) (hb hby dAA_10) (fun _ _ => ⟨rfl, e0, (by decide : 0 + 0 ≤ _), (by decide : 0 + 0 ≤ _)⟩)
 dsimp only [Pt.U, Pt.locs, Pt.cells, Pt.slots] at X1 l1 y1 z1 st1 hQ1
 subst l1 y1 z1
 obtain ⟨rfl, rfl, sm1⟩ := hQ1
 have N1 := Fr.app N0 (Fr.nil n0)
 refine own_st (fun tq kq => st1.trans kq) ?_
 refine own_st (fun tq kq => XS.istoreN X1.here hx rfl (hb hby dAA_13) rfl (l' := #[vR x, vR sx, vI (Int32.ofNat ds.length)]) rfl kq) ?_
 refine s_aloadN X1 hx (hb hby dAA_14) rfl rfl ?_
 refine s_aloadN X1 hx (hb hby dAA_15) rfl rfl ?_
 obtain ⟨T2, X2, e2, st2⟩ := getF X1 hx hZ hown (host := "") (Or.inl (wd83 hw)) Via.refl sm1 Fn (g := (mkF m 16 #[vR x, vR sx, vI (Int32.ofNat ds.length)] [(.ref x), (.ref x)])) rfl rfl (hb hby dAA_16)
 refine own_st st2 ?_
 refine s_iloadN X2 hx (hb hby dAA_19) rfl ?_
 refine own_st (fun tq kq => XS.iadd X2.here hx rfl (hb hby dAA_20) rfl kq) ?_
 obtain ⟨cq3, q3a, q3b⟩ := Exa.cell Ex
 obtain ⟨_, _, ⟨T3, L3, k3, n3⟩, -, X3, ⟨Lc3, hQ3, l3, y3, z3⟩, st3⟩ := X2.privateBack hx (y := mN22) hown (mvT hZ (wd85 hw)) (mvT hZ (wd86 hw)) (mvT hZ (own_selP (wd88 hw) (wd87 hw) (wd86 hw) (by decide))) (Cond.privateMethod_at (mvP hZ (wd87 hw) (args := #[]))) (mvT hZ (wd89 hw)) (by decide) (own_backN (W := 0) (own_enL l Z a0 hw [] (x) (t) (k) (cs) (((Int32.ofNat cs.length) + (Int32.ofNat ds.length))) h0 n0 (by omega) (X00.keep K0 hws0) ⟨Ex, Fv, Fd, Fn, Fm, Vt⟩ (own_cap34 hl)) hZ (wd89 hw) (wd52 hw) (by decide) (by decide)) (g := (mkF m 21 #[vR x, vR sx, vI (Int32.ofNat ds.length)] [(.int ((Int32.ofNat cs.length) + (Int32.ofNat ds.length))), (.ref x)])) rfl (by rw [hml]; rfl) (Steps.refl _) (a := x) (by rw [e2]; exact q3a) q3b (argsL := [(.int ((Int32.ofNat cs.length) + (Int32.ofNat ds.length)))]) (rest := []) (lenOf own_pd21 rfl) rfl (Nat.le_of_eq rfl) (hb hby dAA_21) (fun _ _ => ⟨rfl, e2, (by decide : 0 + 0 ≤ _), (by decide : 0 + 0 ≤ _)⟩)
 dsimp only [Pt.U, Pt.locs, Pt.cells, Pt.slots] at X3 l3 y3 z3 st3 hQ3
 subst l3 y3 z3
 obtain ⟨rfl, Nq3, sm3⟩ := hQ3
 have N3 := Fr.app N1 Nq3
 refine own_st (fun tq kq => st3.trans kq) ?_
 refine s_aloadN X3 hx (hb hby dAA_24) rfl rfl ?_
 refine s_aloadN X3 hx (hb hby dAA_25) rfl rfl ?_
 obtain ⟨T4, X4, e4, st4⟩ := getF X3 hx hZ hown (host := "") (Or.inl (wd83 hw)) Via.refl sm3 Fn (g := (mkF m 26 #[vR x, vR sx, vI (Int32.ofNat ds.length)] [(.ref x), (.ref x)])) rfl rfl (hb hby dAA_26)
 refine own_st st4 ?_
 refine s_aloadN X4 hx (hb hby dAA_29) rfl rfl ?_
 obtain ⟨cq5, q5a, q5b⟩ := Exa.cell Ex
 obtain ⟨_, _, ⟨T5, L5, k5, n5⟩, -, X5, ⟨Lc5, hQ5, l5, y5, z5⟩, st5⟩ := X4.privateBack hx (y := mN21) hown (mvT hZ (wd116 hw)) (mvT hZ (wd117 hw)) (mvT hZ (own_selP (wd119 hw) (wd118 hw) (wd117 hw) (by decide))) (Cond.privateMethod_at (mvP hZ (wd118 hw) (args := #[]))) (mvT hZ (wd120 hw)) (by decide) (own_backN (W := 0) (own_psLW l Z a0 hw [] (x) (t) (k) (cs) (G1) (fm) (sx) (tb) (kb) (ds) h0 n0 (by omega) (X00.keep K0 hws0) ⟨Ex, Fv, Fd, Fn, Fm, Vt⟩ Es Vs Cs As hds hl hcs gx gt nxt nbt lts O2 P5 OA OH OL O4 rfm nsx) hZ (wd120 hw) (wd52 hw) (by decide) (by decide)) (g := (mkF m 30 #[vR x, vR sx, vI (Int32.ofNat ds.length)] [(.ref sx), (.int (Int32.ofNat cs.length)), (.ref x)])) rfl (by rw [hml]; rfl) (Steps.refl _) (a := x) (by rw [e4]; exact q5a) q5b (argsL := [(.int (Int32.ofNat cs.length)), (.ref sx)]) (rest := []) (lenOf own_pd22 rfl) rfl (Nat.le_of_eq rfl) (hb hby dAA_30) (fun _ _ => ⟨rfl, e4, (by decide : 0 + 1 ≤ _), (by decide : 0 + 68 ≤ _)⟩)
 dsimp only [Pt.U, Pt.locs, Pt.cells, Pt.slots] at X5 l5 y5 z5 st5 hQ5
 subst l5 y5 z5
 obtain ⟨rfl, Nq5, Kq5, tw5, kw5, gw5, lw5, Ex5, Fv5, Fd5, Fn5, Fm5, Vw5⟩ := hQ5
 have KK5 : Keep h0 T5.heap [x] := Kq5
 have sz5 : h0.size ≤ T5.heap.size := KK5.1
 have K5 : Keep h0 T5.heap [x] := K0.trans KK5 (allS (Or.inl (by simp)) all0)
 have N5 := Fr.app N3 Nq5
 refine own_st (fun tq kq => st5.trans kq) ?_
 refine s_aloadN X5 hx (hb hby dAA_33) rfl rfl ?_
 refine own_st (fun tq kq => XS.dup X5.here hx rfl (hb hby dAA_34) rfl rfl kq) ?_
 obtain ⟨T6, X6, e6, st6⟩ := getF X5 hx hZ hown (host := "") (Or.inl (wd83 hw)) Via.refl rfl Fn5 (g := (mkF m 35 #[vR x, vR sx, vI (Int32.ofNat ds.length)] [(.ref x), (.ref x)])) rfl rfl (hb hby dAA_35)
 refine own_st st6 ?_
 refine s_iloadN X6 hx (hb hby dAA_38) rfl ?_
 refine own_st (fun tq kq => XS.iadd X6.here hx rfl (hb hby dAA_39) rfl kq) ?_
 obtain ⟨T7, h7, X7, e7, W7, st7⟩ := putF X6 hx hZ hown (host := "") (Or.inl (wd83 hw)) Via.refl e6 Fn5 Ex5 (Or.inl (wd84 hw)) (wd43 hw) (ty := .int) (by decide) rfl rfl (g := (mkF m 40 #[vR x, vR sx, vI (Int32.ofNat ds.length)] [(.int ((Int32.ofNat cs.length) + (Int32.ofNat ds.length))), (.ref x)])) rfl rfl (hb hby dAA_40)
 have Fw7 := Fn5.same W7
 have sz7 : T5.heap.size ≤ h7.size := (Keep.of_wr W7).1
 have K7 : Keep h0 h7 [x] := K5.wr W7 (Or.inl (by simp))
 have N7 := Fr.snoc X7 N5 (own_le (by omega))
 refine own_st st7 ?_
 refine s_aloadN X7 hx (hb hby dAA_43) rfl rfl ?_
 show own_G p e below _ (T7.setTop (mkF m 44 #[vR x, vR sx, vI (Int32.ofNat ds.length)] [(.ref x)]))
 exact own_retN X7 (v := some (.ref x)) (fun h => by rw [Bd.returns] at h; cases h) Bd.notSynchronized (fun fs hr => retOut X7 hx Bd.returns rfl (Or.inr (Or.inr (Or.inr (Or.inr ⟨rfl, rfl, rfl⟩)))) (hb hby dAA_44) hr) (by decide) (by decide) (by rw [e7]; exact ⟨rfl, N7, K7, tw5, _, (by omega), (Vw5.other W7 (own_ne (by omega))).lt, (Ex5.wr W7), (Fv5.other W7 (Or.inr (slot_ne (Or.inl (wd57 hw)) (Or.inl (wd84 hw)) (by decide) (t := (.array .byte)) (t' := .int) (by decide) (by decide)))), (Fd5.other W7 (Or.inr (slot_ne (Or.inl (wd59 hw)) (Or.inl (wd84 hw)) (by decide) (t := .byte) (t' := .int) (by decide) (by decide)))), (by have q := Fw7; rw [← Int32.ofNat_add, ← List.length_append] at q; exact q), (Fm5.other W7 (Or.inr (slot_ne (Or.inl (wd262 hw)) (Or.inl (wd84 hw)) (by decide) (t := .boolean) (t' := .int) (by decide) (by decide)))), (Vw5.other W7 (own_ne (by omega)))⟩)

def Q_own_aaG (Z : State) (x t : Nat) (k : ClassId) (G1 : Int32) (fm : Value) (sx tb : Nat) (kb : ClassId) (ds : List Int32) (h0 : Heap) (n0 : Nat) (v : Option Value) (h : Heap) (L : List Loc) : Prop := v = some (.ref x) ∧ Fr n0 L ∧ Keep h0 h [x] ∧ ∃ (t' : Nat) (k' : ClassId), h0.size ≤ t' ∧ t' < h.size ∧ own_LB Z h x t' k' ds
theorem own_aaG (l : Launch) (Z : State) (a0 : Array Value) (hw : hWt a0 Z) (ws : List Jvm.Cond) (x t : Nat) (k : ClassId) (G1 : Int32) (fm : Value) (sx tb : Nat) (kb : ClassId) (ds : List Int32) (h0 : Heap) (n0 : Nat) (Z0 : n0 ≤ h0.size) (X00 : Old Z n0 h0) (B : own_EB Z h0 x t k) (Es : Exa Z h0 sx "java/lang/String") (Vs : Fld Z h0 sx "java/lang/String" "value" "[B" (.ref tb)) (Cs : Fld Z h0 sx "java/lang/String" "coder" "B" (.int (0 : Int32))) (As : Arv Z h0 tb kb .byte (Int32.ofNat ds.length) (own_bt ds) (.int 0)) (hds : ∀ c ∈ ds, ¬ c < 0 ∧ ¬ (255 : Int32) < c) (hd19 : ds.length = 19) (gx : n0 ≤ x) (lts : tb < h0.size) (O2 : Sta Z Z.heap "java/lang/String" "COMPACT_STRINGS" "Z" (.int G1)) (P5 : ¬ (G1 = (0 : Int32))) (OA : oA Z) (OH : oH Z) (OL : oL Z) (O4 : o4 Z fm) (rfm : fm.isRef = true) :
 own_MN l mN28 jdk_68_method_22_code 3 (some (.object "java/lang/AbstractStringBuilder")) ws rm_7_1_34_140 Z #[(.ref x), (.ref sx)] h0 (Q_own_aaG Z x t k G1 fm sx tb kb ds h0 n0) := by
 refine own_bodyN (plainFor_of_name own_pn1) fun p e s m below meth c s₁ Bd hx hby hml hown hZ X0 e0 => ?_
 have N0 := Fr.nil n0
 have K0 : Keep h0 h0 [x] := Keep.refl h0 [x]
 refine own_st (fun tq kq => castTop (ef_own_aaLL m (x) (sx)) kq) ?_
 show own_G p e below _ (s₁.setTop (mkF m 0 #[vR x, vR sx, .unset] []))
 have hws0 : ∀ y ∈ [x], n0 ≤ y := allS gx all0
 obtain ⟨Ex, Fv, Fd, Fn, Fm, Vt⟩ := id B
 have ltx : x < h0.size := Fv.lt
 have ltt : t < h0.size := Vt.lt
 have ntx : tb ≠ x := fun q => (Ex.neArv As (wd43 hw)) q.symm
 have nsx : sx ≠ x := fun q => (Ex.ne Es (by decide)) q.symm
 refine s_aloadN X0 hx (hb hby dAA_0) rfl rfl ?_
 show own_G p e below _ (s₁.setTop (mkF m 1 #[vR x, vR sx, .unset] [(.ref sx)]))
 refine own_st (fun tq kq => XS.ifnonnullYes X0.here hx rfl (pc0 := 1) (pc' := 9) rfl (hb hby dAA_1) rfl (by decide) (by decide) kq) ?_
 refine s_aloadN X0 hx (hb hby dAA_9) rfl rfl ?_
 obtain ⟨cq1, kq1, q1a, q1b, q1c⟩ := isOf hZ e0 Es
 obtain ⟨_, _, ⟨T1, L1, k1, n1⟩, -, X1, ⟨Lc1, hQ1, l1, y1, z1⟩, st1⟩ := X0.virtualBack hx (y := mN29) (z := mN29) hown (mvT hZ (wd73 hw)) (mvT hZ (wd74 hw)) (notFace_of_selects (args := #[]) (mvT hZ (wd76 hw))) (mvT hZ (wd76 hw)) (mvT hZ (wd75 hw)) (by decide) (StrChars.Road.lenW (W := 0) hZ (own_wLen hw) (kI := 4) (wd11 hw) Es Vs Cs As (StrChars.Road.codOf rfl (fun c hc => (hds c hc).2)) (own_up hds) (O2.ext (X00.keep K0 hws0).2) P5 (by omega) (by decide) (by decide)) q1a q1c (g := (mkF m 10 #[vR x, vR sx, .unset] [(.ref sx)])) rfl (by rw [hml]; rfl) (Steps.refl _) (argsL := []) (rest := []) (lenOf own_pd20 rfl) rfl (Nat.le_of_eq rfl) (hb hby dAA_10) (fun _ _ => ⟨rfl, e0, (by decide : 0 + 0 ≤ _), (by decide : 0 + 0 ≤ _)⟩)
 dsimp only [Pt.U, Pt.locs, Pt.cells, Pt.slots] at X1 l1 y1 z1 st1 hQ1
 subst l1 y1 z1
 obtain ⟨vq1, rfl, sm1⟩ := hQ1
 rw [hd19] at vq1
 obtain rfl := vq1
 have N1 := Fr.app N0 (Fr.nil n0)
 refine own_st (fun tq kq => st1.trans kq) ?_
 refine own_st (fun tq kq => XS.istoreN X1.here hx rfl (hb hby dAA_13) rfl (l' := #[vR x, vR sx, vI 19]) rfl kq) ?_
 refine s_aloadN X1 hx (hb hby dAA_14) rfl rfl ?_
 refine s_aloadN X1 hx (hb hby dAA_15) rfl rfl ?_
 obtain ⟨T2, X2, e2, st2⟩ := getF X1 hx hZ hown (host := "") (Or.inl (wd83 hw)) Via.refl sm1 Fn (g := (mkF m 16 #[vR x, vR sx, vI 19] [(.ref x), (.ref x)])) rfl rfl (hb hby dAA_16)
 refine own_st st2 ?_
 refine s_iloadN X2 hx (hb hby dAA_19) rfl ?_
 refine own_st (fun tq kq => XS.iadd X2.here hx rfl (hb hby dAA_20) rfl kq) ?_
 obtain ⟨cq3, q3a, q3b⟩ := Exa.cell Ex
 obtain ⟨_, _, ⟨T3, L3, k3, n3⟩, -, X3, ⟨Lc3, hQ3, l3, y3, z3⟩, st3⟩ := X2.privateBack hx (y := mN22) hown (mvT hZ (wd85 hw)) (mvT hZ (wd86 hw)) (mvT hZ (own_selP (wd88 hw) (wd87 hw) (wd86 hw) (by decide))) (Cond.privateMethod_at (mvP hZ (wd87 hw) (args := #[]))) (mvT hZ (wd89 hw)) (by decide) (own_backN (W := 0) (own_enG l Z a0 hw [] (x) (t) (k) h0 n0 (by omega) (X00.keep K0 hws0) ⟨Ex, Fv, Fd, Fn, Fm, Vt⟩ gx) hZ (wd89 hw) (wd52 hw) (by decide) (by decide)) (g := (mkF m 21 #[vR x, vR sx, vI 19] [(.int 19), (.ref x)])) rfl (by rw [hml]; rfl) (Steps.refl _) (a := x) (by rw [e2]; exact q3a) q3b (argsL := [(.int 19)]) (rest := []) (lenOf own_pd21 rfl) rfl (Nat.le_of_eq rfl) (hb hby dAA_21) (fun _ _ => ⟨rfl, e2, (by decide : 0 + 1 ≤ _), (by decide : 0 + 34 ≤ _)⟩)
 dsimp only [Pt.U, Pt.locs, Pt.cells, Pt.slots] at X3 l3 y3 z3 st3 hQ3
 subst l3 y3 z3
 obtain ⟨rfl, Nq3, Kq3, tw3, kw3, gw3, lw3, Bw3⟩ := hQ3
 have KK3 : Keep h0 T3.heap [x] := Kq3
 have sz3 : h0.size ≤ T3.heap.size := KK3.1
 have K3 : Keep h0 T3.heap [x] := K0.trans KK3 (allS (Or.inl (by simp)) all0)
 have N3 := Fr.app N1 Nq3
 obtain ⟨Ex3, Fv3, Fd3, Fn3, Fm3, Vw3⟩ := id Bw3
 refine own_st (fun tq kq => st3.trans kq) ?_
 refine s_aloadN X3 hx (hb hby dAA_24) rfl rfl ?_
 refine s_aloadN X3 hx (hb hby dAA_25) rfl rfl ?_
 obtain ⟨T4, X4, e4, st4⟩ := getF X3 hx hZ hown (host := "") (Or.inl (wd83 hw)) Via.refl rfl Fn3 (g := (mkF m 26 #[vR x, vR sx, vI 19] [(.ref x), (.ref x)])) rfl rfl (hb hby dAA_26)
 refine own_st st4 ?_
 refine s_aloadN X4 hx (hb hby dAA_29) rfl rfl ?_
 obtain ⟨cq5, q5a, q5b⟩ := Exa.cell Ex3
 obtain ⟨_, _, ⟨T5, L5, k5, n5⟩, -, X5, ⟨Lc5, hQ5, l5, y5, z5⟩, st5⟩ := X4.privateBack hx (y := mN21) hown (mvT hZ (wd116 hw)) (mvT hZ (wd117 hw)) (mvT hZ (own_selP (wd119 hw) (wd118 hw) (wd117 hw) (by decide))) (Cond.privateMethod_at (mvP hZ (wd118 hw) (args := #[]))) (mvT hZ (wd120 hw)) (by decide) (own_backN (W := 0) (own_psLL l Z a0 hw [] (x) (tw3) (kw3) ([]) (G1) (fm) (sx) (tb) (kb) (ds) T3.heap n0 (by omega) (X00.keep K3 hws0) ⟨Ex3, Fv3, Fd3, Fn3, Fm3, Vw3⟩ (Es.keep KK3) (Vs.keep KK3 (ninS (own_ne (by omega)) nin0)) (Cs.keep KK3 (ninS (own_ne (by omega)) nin0)) (As.keep KK3 (ninS (own_ne (by omega)) nin0)) hds (by simp only [List.length_nil]; omega) (by simp) gx (by omega) (own_ne (by omega)) (own_ne (by omega)) (by omega) O2 P5 OA OH OL O4 rfm) hZ (wd120 hw) (wd52 hw) (by decide) (by decide)) (g := (mkF m 30 #[vR x, vR sx, vI 19] [(.ref sx), (.int 0), (.ref x)])) rfl (by rw [hml]; rfl) (Steps.refl _) (a := x) (by rw [e4]; exact q5a) q5b (argsL := [(.int 0), (.ref sx)]) (rest := []) (lenOf own_pd22 rfl) rfl (Nat.le_of_eq rfl) (hb hby dAA_30) (fun _ _ => ⟨rfl, e4, (by decide : 1 + 0 ≤ _), (by decide : 34 + 0 ≤ _)⟩)
 dsimp only [Pt.U, Pt.locs, Pt.cells, Pt.slots] at X5 l5 y5 z5 st5 hQ5
 subst l5 y5 z5
 obtain ⟨rfl, Nq5, Kq5, Vg5⟩ := hQ5
 have KK5 : Keep T3.heap T5.heap [tw3] := Kq5
 have sz5 : T3.heap.size ≤ T5.heap.size := KK5.1
 have K5 : Keep h0 T5.heap [x] := K3.trans KK5 (allS (Or.inr (own_le (by omega))) all0)
 have N5 := Fr.app N3 Nq5
 refine own_st (fun tq kq => st5.trans kq) ?_
 refine s_aloadN X5 hx (hb hby dAA_33) rfl rfl ?_
 refine own_st (fun tq kq => XS.dup X5.here hx rfl (hb hby dAA_34) rfl rfl kq) ?_
 obtain ⟨T6, X6, e6, st6⟩ := getF X5 hx hZ hown (host := "") (Or.inl (wd83 hw)) Via.refl rfl (Fn3.keep KK5 (ninS (own_ne (by omega)) nin0)) (g := (mkF m 35 #[vR x, vR sx, vI 19] [(.ref x), (.ref x)])) rfl rfl (hb hby dAA_35)
 refine own_st st6 ?_
 refine s_iloadN X6 hx (hb hby dAA_38) rfl ?_
 refine own_st (fun tq kq => XS.iadd X6.here hx rfl (hb hby dAA_39) rfl kq) ?_
 obtain ⟨T7, h7, X7, e7, W7, st7⟩ := putF X6 hx hZ hown (host := "") (Or.inl (wd83 hw)) Via.refl e6 (Fn3.keep KK5 (ninS (own_ne (by omega)) nin0)) (Ex3.keep KK5) (Or.inl (wd84 hw)) (wd43 hw) (ty := .int) (by decide) rfl rfl (g := (mkF m 40 #[vR x, vR sx, vI 19] [(.int 19), (.ref x)])) rfl rfl (hb hby dAA_40)
 have Fw7 := (Fn3.keep KK5 (ninS (own_ne (by omega)) nin0)).same W7
 have sz7 : T5.heap.size ≤ h7.size := (Keep.of_wr W7).1
 have K7 : Keep h0 h7 [x] := K5.wr W7 (Or.inl (by simp))
 have N7 := Fr.snoc X7 N5 (own_le (by omega))
 refine own_st st7 ?_
 refine s_aloadN X7 hx (hb hby dAA_43) rfl rfl ?_
 show own_G p e below _ (T7.setTop (mkF m 44 #[vR x, vR sx, vI 19] [(.ref x)]))
 exact own_retN X7 (v := some (.ref x)) (fun h => by rw [Bd.returns] at h; cases h) Bd.notSynchronized (fun fs hr => retOut X7 hx Bd.returns rfl (Or.inr (Or.inr (Or.inr (Or.inr ⟨rfl, rfl, rfl⟩)))) (hb hby dAA_44) hr) (by decide) (by decide) (by rw [e7]; exact ⟨rfl, N7, K7, tw3, _, (by omega), (Vg5.other W7 (own_ne (by omega))).lt, ((Ex3.keep KK5).wr W7), ((Fv3.keep KK5 (ninS (own_ne (by omega)) nin0)).other W7 (Or.inr (slot_ne (Or.inl (wd57 hw)) (Or.inl (wd84 hw)) (by decide) (t := (.array .byte)) (t' := .int) (by decide) (by decide)))), ((Fd3.keep KK5 (ninS (own_ne (by omega)) nin0)).other W7 (Or.inr (slot_ne (Or.inl (wd59 hw)) (Or.inl (wd84 hw)) (by decide) (t := .byte) (t' := .int) (by decide) (by decide)))), (by have q := Fw7; rw [hd19]; exact q), ((Fm3.keep KK5 (ninS (own_ne (by omega)) nin0)).other W7 (Or.inr (slot_ne (Or.inl (wd262 hw)) (Or.inl (wd84 hw)) (by decide) (t := .boolean) (t' := .int) (by decide) (by decide)))), (Vg5.other W7 (own_ne (by omega)))⟩)

def Q_own_saLL (Z : State) (x t : Nat) (k : ClassId) (cs : List Int32) (G1 : Int32) (fm : Value) (sx tb : Nat) (kb : ClassId) (ds : List Int32) (h0 : Heap) (n0 : Nat) (v : Option Value) (h : Heap) (L : List Loc) : Prop := v = some (.ref x) ∧ Fr n0 L ∧ Keep h0 h [x, t] ∧ own_LB Z h x t k (cs ++ ds)
theorem own_saLL (l : Launch) (Z : State) (a0 : Array Value) (hw : hWt a0 Z) (ws : List Jvm.Cond) (x t : Nat) (k : ClassId) (cs : List Int32) (G1 : Int32) (fm : Value) (sx tb : Nat) (kb : ClassId) (ds : List Int32) (h0 : Heap) (n0 : Nat) (Z0 : n0 ≤ h0.size) (X00 : Old Z n0 h0) (B : own_LB Z h0 x t k cs) (Es : Exa Z h0 sx "java/lang/String") (Vs : Fld Z h0 sx "java/lang/String" "value" "[B" (.ref tb)) (Cs : Fld Z h0 sx "java/lang/String" "coder" "B" (.int (0 : Int32))) (As : Arv Z h0 tb kb .byte (Int32.ofNat ds.length) (own_bt ds) (.int 0)) (hds : ∀ c ∈ ds, ¬ c < 0 ∧ ¬ (255 : Int32) < c) (hl : cs.length + ds.length ≤ 34) (hcs : ∀ c ∈ cs, ¬ c < 0 ∧ ¬ (255 : Int32) < c) (gx : n0 ≤ x) (gt : n0 ≤ t) (nxt : x ≠ t) (nbt : tb ≠ t) (lts : tb < h0.size) (O2 : Sta Z Z.heap "java/lang/String" "COMPACT_STRINGS" "Z" (.int G1)) (P5 : ¬ (G1 = (0 : Int32))) (OA : oA Z) (OH : oH Z) (OL : oL Z) (O4 : o4 Z fm) (rfm : fm.isRef = true) :
 own_MN l mN30 jdk_67_method_7_code 2 (some (.object "java/lang/StringBuilder")) ws rm_8_0_0_158 Z #[(.ref x), (.ref sx)] h0 (Q_own_saLL Z x t k cs G1 fm sx tb kb ds h0 n0) := by
 refine own_bodyN (plainFor_of_name own_pn9) fun p e s m below meth c s₁ Bd hx hby hml hown hZ X0 e0 => ?_
 have N0 := Fr.nil n0
 have K0 : Keep h0 h0 [x, t] := Keep.refl h0 [x, t]
 refine own_st (fun tq kq => castTop (ef_own_init1E m (x) (sx)) kq) ?_
 show own_G p e below _ (s₁.setTop (mkF m 0 #[vR x, vR sx] []))
 have hws0 : ∀ y ∈ [x, t], n0 ≤ y := allS gx (allS gt all0)
 obtain ⟨Ex, Fv, Fd, Fn, Fm, Vt⟩ := id B
 have ltx : x < h0.size := Fv.lt
 have ltt : t < h0.size := Vt.lt
 refine s_aloadN X0 hx (hb hby dSA_0) rfl rfl ?_
 refine s_aloadN X0 hx (hb hby dSA_1) rfl rfl ?_
 obtain ⟨_, _, ⟨T1, L1, k1, n1⟩, -, X1, ⟨Lc1, hQ1, l1, y1, z1⟩, st1⟩ := superBack X0 hx hZ (y := mN28) hown (wd68 hw) (own_same (wd88 hw) rfl (wd69 hw) (by decide)) (wd69 hw) (wd70 hw) (by decide) (own_backN (W := 0) (own_aaLL l Z a0 hw [] (x) (t) (k) (cs) (G1) (fm) (sx) (tb) (kb) (ds) h0 n0 (by omega) (X00.keep K0 hws0) ⟨Ex, Fv, Fd, Fn, Fm, Vt⟩ Es Vs Cs As hds hl hcs gx gt nxt nbt lts O2 P5 OA OH OL O4 rfm) hZ (wd72 hw) (wd52 hw) (by decide) (by decide)) e0 (Ins.self Ex) (g := (mkF m 2 #[vR x, vR sx] [(.ref sx), (.ref x)])) rfl (by rw [hml]; rfl) (wd72 hw) (argsL := [(.ref sx)]) (rest := []) (lenOf own_pd23 rfl) rfl (Nat.le_of_eq rfl) (hb hby dSA_2) (fun _ _ => ⟨rfl, e0, (by decide : 0 + 0 ≤ _), (by decide : 0 + 0 ≤ _)⟩)
 dsimp only [Pt.U, Pt.locs, Pt.cells, Pt.slots] at X1 l1 y1 z1 st1 hQ1
 subst l1 y1 z1
 obtain ⟨rfl, Nq1, Kq1, R1⟩ := hQ1
 have KK1 : Keep h0 T1.heap [x, t] := Kq1
 have sz1 : h0.size ≤ T1.heap.size := KK1.1
 have K1 : Keep h0 T1.heap [x, t] := K0.trans KK1 (allS (Or.inl (by simp)) (allS (Or.inl (by simp)) all0))
 have N1 := Fr.app N0 Nq1
 refine own_st (fun tq kq => st1.trans kq) ?_
 refine own_st (fun tq kq => XS.pop X1.here hx rfl (hb hby dSA_5) rfl rfl kq) ?_
 refine s_aloadN X1 hx (hb hby dSA_6) rfl rfl ?_
 show own_G p e below _ (T1.setTop (mkF m 7 #[vR x, vR sx] [(.ref x)]))
 exact own_retN X1 (v := some (.ref x)) (fun h => by rw [Bd.returns] at h; cases h) Bd.notSynchronized (fun fs hr => retOut X1 hx Bd.returns rfl (Or.inr (Or.inr (Or.inr (Or.inr ⟨rfl, rfl, rfl⟩)))) (hb hby dSA_7) hr) (by decide) (by decide) (by exact ⟨rfl, N1, K1, R1⟩)

def Q_own_saWL (Z : State) (x t : Nat) (k : ClassId) (cs : List Int32) (G1 : Int32) (fm : Value) (sx tb : Nat) (kb : ClassId) (ds : List Int32) (h0 : Heap) (n0 : Nat) (v : Option Value) (h : Heap) (L : List Loc) : Prop := v = some (.ref x) ∧ Fr n0 L ∧ Keep h0 h [x, t] ∧ own_WB Z h x t k (cs ++ ds)
theorem own_saWL (l : Launch) (Z : State) (a0 : Array Value) (hw : hWt a0 Z) (ws : List Jvm.Cond) (x t : Nat) (k : ClassId) (cs : List Int32) (G1 : Int32) (fm : Value) (sx tb : Nat) (kb : ClassId) (ds : List Int32) (h0 : Heap) (n0 : Nat) (Z0 : n0 ≤ h0.size) (X00 : Old Z n0 h0) (B : own_WB Z h0 x t k cs) (Es : Exa Z h0 sx "java/lang/String") (Vs : Fld Z h0 sx "java/lang/String" "value" "[B" (.ref tb)) (Cs : Fld Z h0 sx "java/lang/String" "coder" "B" (.int (0 : Int32))) (As : Arv Z h0 tb kb .byte (Int32.ofNat ds.length) (own_bt ds) (.int 0)) (hds : ∀ c ∈ ds, ¬ c < 0 ∧ ¬ (255 : Int32) < c) (hl : cs.length + ds.length ≤ 34) (hcs : ∀ c ∈ cs, ¬ c < 0 ∧ ¬ (65535 : Int32) < c) (gx : n0 ≤ x) (gt : n0 ≤ t) (nxt : x ≠ t) (nbt : tb ≠ t) (lts : tb < h0.size) (O2 : Sta Z Z.heap "java/lang/String" "COMPACT_STRINGS" "Z" (.int G1)) (P5 : ¬ (G1 = (0 : Int32))) (OA : oA Z) (OH : oH Z) (OL : oL Z) (O4 : o4 Z fm) (rfm : fm.isRef = true) :
 own_MN l mN30 jdk_67_method_7_code 2 (some (.object "java/lang/StringBuilder")) ws rm_8_0_0_158 Z #[(.ref x), (.ref sx)] h0 (Q_own_saWL Z x t k cs G1 fm sx tb kb ds h0 n0) := by
 refine own_bodyN (plainFor_of_name own_pn9) fun p e s m below meth c s₁ Bd hx hby hml hown hZ X0 e0 => ?_
 have N0 := Fr.nil n0
 have K0 : Keep h0 h0 [x, t] := Keep.refl h0 [x, t]
 refine own_st (fun tq kq => castTop (ef_own_init1E m (x) (sx)) kq) ?_
 show own_G p e below _ (s₁.setTop (mkF m 0 #[vR x, vR sx] []))
 have hws0 : ∀ y ∈ [x, t], n0 ≤ y := allS gx (allS gt all0)
 obtain ⟨Ex, Fv, Fd, Fn, Fm, Vt⟩ := id B
 have ltx : x < h0.size := Fv.lt
 have ltt : t < h0.size := Vt.lt
 refine s_aloadN X0 hx (hb hby dSA_0) rfl rfl ?_
 refine s_aloadN X0 hx (hb hby dSA_1) rfl rfl ?_
 obtain ⟨_, _, ⟨T1, L1, k1, n1⟩, -, X1, ⟨Lc1, hQ1, l1, y1, z1⟩, st1⟩ := superBack X0 hx hZ (y := mN28) hown (wd68 hw) (own_same (wd88 hw) rfl (wd69 hw) (by decide)) (wd69 hw) (wd70 hw) (by decide) (own_backN (W := 0) (own_aaWL l Z a0 hw [] (x) (t) (k) (cs) (G1) (fm) (sx) (tb) (kb) (ds) h0 n0 (by omega) (X00.keep K0 hws0) ⟨Ex, Fv, Fd, Fn, Fm, Vt⟩ Es Vs Cs As hds hl hcs gx gt nxt nbt lts O2 P5 OA OH OL O4 rfm) hZ (wd72 hw) (wd52 hw) (by decide) (by decide)) e0 (Ins.self Ex) (g := (mkF m 2 #[vR x, vR sx] [(.ref sx), (.ref x)])) rfl (by rw [hml]; rfl) (wd72 hw) (argsL := [(.ref sx)]) (rest := []) (lenOf own_pd23 rfl) rfl (Nat.le_of_eq rfl) (hb hby dSA_2) (fun _ _ => ⟨rfl, e0, (by decide : 0 + 0 ≤ _), (by decide : 0 + 0 ≤ _)⟩)
 dsimp only [Pt.U, Pt.locs, Pt.cells, Pt.slots] at X1 l1 y1 z1 st1 hQ1
 subst l1 y1 z1
 obtain ⟨rfl, Nq1, Kq1, R1⟩ := hQ1
 have KK1 : Keep h0 T1.heap [x, t] := Kq1
 have sz1 : h0.size ≤ T1.heap.size := KK1.1
 have K1 : Keep h0 T1.heap [x, t] := K0.trans KK1 (allS (Or.inl (by simp)) (allS (Or.inl (by simp)) all0))
 have N1 := Fr.app N0 Nq1
 refine own_st (fun tq kq => st1.trans kq) ?_
 refine own_st (fun tq kq => XS.pop X1.here hx rfl (hb hby dSA_5) rfl rfl kq) ?_
 refine s_aloadN X1 hx (hb hby dSA_6) rfl rfl ?_
 show own_G p e below _ (T1.setTop (mkF m 7 #[vR x, vR sx] [(.ref x)]))
 exact own_retN X1 (v := some (.ref x)) (fun h => by rw [Bd.returns] at h; cases h) Bd.notSynchronized (fun fs hr => retOut X1 hx Bd.returns rfl (Or.inr (Or.inr (Or.inr (Or.inr ⟨rfl, rfl, rfl⟩)))) (hb hby dSA_7) hr) (by decide) (by decide) (by exact ⟨rfl, N1, K1, R1⟩)

def Q_own_saLW (Z : State) (x t : Nat) (k : ClassId) (cs : List Int32) (G1 : Int32) (fm : Value) (sx tb : Nat) (kb : ClassId) (ds : List Int32) (h0 : Heap) (n0 : Nat) (v : Option Value) (h : Heap) (L : List Loc) : Prop := v = some (.ref x) ∧ Fr n0 L ∧ Keep h0 h [x] ∧ ∃ (t' : Nat) (k' : ClassId), h0.size ≤ t' ∧ t' < h.size ∧ own_WB Z h x t' k' (cs ++ ds)
theorem own_saLW (l : Launch) (Z : State) (a0 : Array Value) (hw : hWt a0 Z) (ws : List Jvm.Cond) (x t : Nat) (k : ClassId) (cs : List Int32) (G1 : Int32) (fm : Value) (sx tb : Nat) (kb : ClassId) (ds : List Int32) (h0 : Heap) (n0 : Nat) (Z0 : n0 ≤ h0.size) (X00 : Old Z n0 h0) (B : own_LB Z h0 x t k cs) (Es : Exa Z h0 sx "java/lang/String") (Vs : Fld Z h0 sx "java/lang/String" "value" "[B" (.ref tb)) (Cs : Fld Z h0 sx "java/lang/String" "coder" "B" (.int (1 : Int32))) (As : Arv Z h0 tb kb .byte (Int32.ofNat (2 * ds.length)) (own_wb ds) (.int 0)) (hds : ∀ c ∈ ds, ¬ c < 0 ∧ ¬ (65535 : Int32) < c) (hl : cs.length + ds.length ≤ 34) (hcs : ∀ c ∈ cs, ¬ c < 0 ∧ ¬ (255 : Int32) < c) (gx : n0 ≤ x) (gt : n0 ≤ t) (nxt : x ≠ t) (nbt : tb ≠ t) (lts : tb < h0.size) (O2 : Sta Z Z.heap "java/lang/String" "COMPACT_STRINGS" "Z" (.int G1)) (P5 : ¬ (G1 = (0 : Int32))) (OA : oA Z) (OH : oH Z) (OL : oL Z) (O4 : o4 Z fm) (rfm : fm.isRef = true) (nsx : sx ≠ x) (hex : ∃ c ∈ ds, 255 < c) :
 own_MN l mN30 jdk_67_method_7_code 2 (some (.object "java/lang/StringBuilder")) ws rm_9_1_68_178 Z #[(.ref x), (.ref sx)] h0 (Q_own_saLW Z x t k cs G1 fm sx tb kb ds h0 n0) := by
 refine own_bodyN (plainFor_of_name own_pn9) fun p e s m below meth c s₁ Bd hx hby hml hown hZ X0 e0 => ?_
 have N0 := Fr.nil n0
 have K0 : Keep h0 h0 [x] := Keep.refl h0 [x]
 refine own_st (fun tq kq => castTop (ef_own_init1E m (x) (sx)) kq) ?_
 show own_G p e below _ (s₁.setTop (mkF m 0 #[vR x, vR sx] []))
 have hws0 : ∀ y ∈ [x], n0 ≤ y := allS gx all0
 obtain ⟨Ex, Fv, Fd, Fn, Fm, Vt⟩ := id B
 have ltx : x < h0.size := Fv.lt
 have ltt : t < h0.size := Vt.lt
 refine s_aloadN X0 hx (hb hby dSA_0) rfl rfl ?_
 refine s_aloadN X0 hx (hb hby dSA_1) rfl rfl ?_
 obtain ⟨_, _, ⟨T1, L1, k1, n1⟩, -, X1, ⟨Lc1, hQ1, l1, y1, z1⟩, st1⟩ := superBack X0 hx hZ (y := mN28) hown (wd68 hw) (own_same (wd88 hw) rfl (wd69 hw) (by decide)) (wd69 hw) (wd70 hw) (by decide) (own_backN (W := 0) (own_aaLW l Z a0 hw [] (x) (t) (k) (cs) (G1) (fm) (sx) (tb) (kb) (ds) h0 n0 (by omega) (X00.keep K0 hws0) ⟨Ex, Fv, Fd, Fn, Fm, Vt⟩ Es Vs Cs As hds hl hcs gx gt nxt nbt lts O2 P5 OA OH OL O4 rfm nsx hex) hZ (wd72 hw) (wd52 hw) (by decide) (by decide)) e0 (Ins.self Ex) (g := (mkF m 2 #[vR x, vR sx] [(.ref sx), (.ref x)])) rfl (by rw [hml]; rfl) (wd72 hw) (argsL := [(.ref sx)]) (rest := []) (lenOf own_pd23 rfl) rfl (Nat.le_of_eq rfl) (hb hby dSA_2) (fun _ _ => ⟨rfl, e0, (by decide : 0 + 1 ≤ _), (by decide : 0 + 68 ≤ _)⟩)
 dsimp only [Pt.U, Pt.locs, Pt.cells, Pt.slots] at X1 l1 y1 z1 st1 hQ1
 subst l1 y1 z1
 obtain ⟨rfl, Nq1, Kq1, R1⟩ := hQ1
 have KK1 : Keep h0 T1.heap [x] := Kq1
 have sz1 : h0.size ≤ T1.heap.size := KK1.1
 have K1 : Keep h0 T1.heap [x] := K0.trans KK1 (allS (Or.inl (by simp)) all0)
 have N1 := Fr.app N0 Nq1
 refine own_st (fun tq kq => st1.trans kq) ?_
 refine own_st (fun tq kq => XS.pop X1.here hx rfl (hb hby dSA_5) rfl rfl kq) ?_
 refine s_aloadN X1 hx (hb hby dSA_6) rfl rfl ?_
 show own_G p e below _ (T1.setTop (mkF m 7 #[vR x, vR sx] [(.ref x)]))
 exact own_retN X1 (v := some (.ref x)) (fun h => by rw [Bd.returns] at h; cases h) Bd.notSynchronized (fun fs hr => retOut X1 hx Bd.returns rfl (Or.inr (Or.inr (Or.inr (Or.inr ⟨rfl, rfl, rfl⟩)))) (hb hby dSA_7) hr) (by decide) (by decide) (by exact ⟨rfl, N1, K1, R1⟩)

def Q_own_saG (Z : State) (x t : Nat) (k : ClassId) (G1 : Int32) (fm : Value) (sx tb : Nat) (kb : ClassId) (ds : List Int32) (h0 : Heap) (n0 : Nat) (v : Option Value) (h : Heap) (L : List Loc) : Prop := v = some (.ref x) ∧ Fr n0 L ∧ Keep h0 h [x] ∧ ∃ (t' : Nat) (k' : ClassId), h0.size ≤ t' ∧ t' < h.size ∧ own_LB Z h x t' k' ds
theorem own_saG (l : Launch) (Z : State) (a0 : Array Value) (hw : hWt a0 Z) (ws : List Jvm.Cond) (x t : Nat) (k : ClassId) (G1 : Int32) (fm : Value) (sx tb : Nat) (kb : ClassId) (ds : List Int32) (h0 : Heap) (n0 : Nat) (Z0 : n0 ≤ h0.size) (X00 : Old Z n0 h0) (B : own_EB Z h0 x t k) (Es : Exa Z h0 sx "java/lang/String") (Vs : Fld Z h0 sx "java/lang/String" "value" "[B" (.ref tb)) (Cs : Fld Z h0 sx "java/lang/String" "coder" "B" (.int (0 : Int32))) (As : Arv Z h0 tb kb .byte (Int32.ofNat ds.length) (own_bt ds) (.int 0)) (hds : ∀ c ∈ ds, ¬ c < 0 ∧ ¬ (255 : Int32) < c) (hd19 : ds.length = 19) (gx : n0 ≤ x) (lts : tb < h0.size) (O2 : Sta Z Z.heap "java/lang/String" "COMPACT_STRINGS" "Z" (.int G1)) (P5 : ¬ (G1 = (0 : Int32))) (OA : oA Z) (OH : oH Z) (OL : oL Z) (O4 : o4 Z fm) (rfm : fm.isRef = true) :
 own_MN l mN30 jdk_67_method_7_code 2 (some (.object "java/lang/StringBuilder")) ws rm_8_1_34_158 Z #[(.ref x), (.ref sx)] h0 (Q_own_saG Z x t k G1 fm sx tb kb ds h0 n0) := by
 refine own_bodyN (plainFor_of_name own_pn9) fun p e s m below meth c s₁ Bd hx hby hml hown hZ X0 e0 => ?_
 have N0 := Fr.nil n0
 have K0 : Keep h0 h0 [x] := Keep.refl h0 [x]
 refine own_st (fun tq kq => castTop (ef_own_init1E m (x) (sx)) kq) ?_
 show own_G p e below _ (s₁.setTop (mkF m 0 #[vR x, vR sx] []))
 have hws0 : ∀ y ∈ [x], n0 ≤ y := allS gx all0
 obtain ⟨Ex, Fv, Fd, Fn, Fm, Vt⟩ := id B
 have ltx : x < h0.size := Fv.lt
 have ltt : t < h0.size := Vt.lt
 refine s_aloadN X0 hx (hb hby dSA_0) rfl rfl ?_
 refine s_aloadN X0 hx (hb hby dSA_1) rfl rfl ?_
 obtain ⟨_, _, ⟨T1, L1, k1, n1⟩, -, X1, ⟨Lc1, hQ1, l1, y1, z1⟩, st1⟩ := superBack X0 hx hZ (y := mN28) hown (wd68 hw) (own_same (wd88 hw) rfl (wd69 hw) (by decide)) (wd69 hw) (wd70 hw) (by decide) (own_backN (W := 0) (own_aaG l Z a0 hw [] (x) (t) (k) (G1) (fm) (sx) (tb) (kb) (ds) h0 n0 (by omega) (X00.keep K0 hws0) ⟨Ex, Fv, Fd, Fn, Fm, Vt⟩ Es Vs Cs As hds hd19 gx lts O2 P5 OA OH OL O4 rfm) hZ (wd72 hw) (wd52 hw) (by decide) (by decide)) e0 (Ins.self Ex) (g := (mkF m 2 #[vR x, vR sx] [(.ref sx), (.ref x)])) rfl (by rw [hml]; rfl) (wd72 hw) (argsL := [(.ref sx)]) (rest := []) (lenOf own_pd23 rfl) rfl (Nat.le_of_eq rfl) (hb hby dSA_2) (fun _ _ => ⟨rfl, e0, (by decide : 0 + 1 ≤ _), (by decide : 0 + 34 ≤ _)⟩)
 dsimp only [Pt.U, Pt.locs, Pt.cells, Pt.slots] at X1 l1 y1 z1 st1 hQ1
 subst l1 y1 z1
 obtain ⟨rfl, Nq1, Kq1, R1⟩ := hQ1
 have KK1 : Keep h0 T1.heap [x] := Kq1
 have sz1 : h0.size ≤ T1.heap.size := KK1.1
 have K1 : Keep h0 T1.heap [x] := K0.trans KK1 (allS (Or.inl (by simp)) all0)
 have N1 := Fr.app N0 Nq1
 refine own_st (fun tq kq => st1.trans kq) ?_
 refine own_st (fun tq kq => XS.pop X1.here hx rfl (hb hby dSA_5) rfl rfl kq) ?_
 refine s_aloadN X1 hx (hb hby dSA_6) rfl rfl ?_
 show own_G p e below _ (T1.setTop (mkF m 7 #[vR x, vR sx] [(.ref x)]))
 exact own_retN X1 (v := some (.ref x)) (fun h => by rw [Bd.returns] at h; cases h) Bd.notSynchronized (fun fs hr => retOut X1 hx Bd.returns rfl (Or.inr (Or.inr (Or.inr (Or.inr ⟨rfl, rfl, rfl⟩)))) (hb hby dSA_7) hr) (by decide) (by decide) (by exact ⟨rfl, N1, K1, R1⟩)

def Q_own_asi (Z : State) (x : Nat) (v0 c0 : Value) (G1 : Int32) (h0 : Heap) (n0 : Nat) (v : Option Value) (h : Heap) (L : List Loc) : Prop := v = none ∧ Fr n0 L ∧ Keep h0 h [x] ∧ ∃ (t : Nat) (k : ClassId), h0.size ≤ t ∧ t < h.size ∧ own_EB Z h x t k
theorem ef_own_asi (m : MethodId) (x0 : Nat) : entryFrame m #[(.ref x0), (.int 16)] 2 = mkF m 0 #[.val (.ref x0), .val (.int 16)] [] := by first | (simp [entryFrame, mkF, argsToLocals, Value.category]; done) | rfl
theorem own_asi (l : Launch) (Z : State) (a0 : Array Value) (hw : hWt a0 Z) (ws : List Jvm.Cond) (x : Nat) (v0 c0 : Value) (G1 : Int32) (h0 : Heap) (n0 : Nat) (Z0 : n0 ≤ h0.size) (X00 : Old Z n0 h0) (Ex : Exa Z h0 x "java/lang/StringBuilder") (Fv : Fld Z h0 x "java/lang/AbstractStringBuilder" "value" "[B" v0) (Fd : Fld Z h0 x "java/lang/AbstractStringBuilder" "coder" "B" c0) (Fn : Fld Z h0 x "java/lang/AbstractStringBuilder" "count" "I" (.int 0)) (Fm : Fld Z h0 x "java/lang/AbstractStringBuilder" "maybeLatin1" "Z" (.int 0)) (gx : n0 ≤ x) (ltx : x < h0.size) (O2 : Sta Z Z.heap "java/lang/String" "COMPACT_STRINGS" "Z" (.int G1)) (P5 : ¬ (G1 = (0 : Int32))) :
 own_MN l mN31 jdk_68_method_2_code 2 none ws rm_1_1_16_12 Z #[(.ref x), (.int 16)] h0 (Q_own_asi Z x v0 c0 G1 h0 n0) := by
 refine own_bodyN (plainFor_of_name own_pn1) fun p e s m below meth c s₁ Bd hx hby hml hown hZ X0 e0 => ?_
 have hnm := (name_of_methodNamed Bd.named Bd.method).1
 have N0 := Fr.nil n0
 have K0 : Keep h0 h0 [x] := Keep.refl h0 [x]
 refine own_st (fun tq kq => castTop (ef_own_asi m (x)) kq) ?_
 show own_G p e below _ (s₁.setTop (mkF m 0 #[vR x, vI 16] []))
 have hws0 : ∀ y ∈ [x], n0 ≤ y := allS gx all0
 refine s_aloadN X0 hx (hb hby dAI_0) rfl rfl ?_
 obtain ⟨T1, X1, e1, st1⟩ := initO X0 hx hZ hown (wd54 hw) (wd21 hw) (wd22 hw) e0 (g := (mkF m 1 #[vR x, vI 16] [(.ref x)])) rfl (by rw [hml]; rfl) rfl (hb hby dAI_1) (by decide) (W := 0) (Nat.le_of_eq rfl) (by decide)
 refine own_st st1 ?_
 obtain ⟨T2, X2, e2, st2⟩ := getS2 X1 hx hZ hown (host := "") (Or.inl (wd55 hw)) Via.refl e1 (O2.ext (X00.keep K0 hws0).2) (g := (mkF m 4 #[vR x, vI 16] [])) rfl (hb hby dAI_4)
 refine own_st st2 ?_
 refine own_st (fun tq kq => XS.ifNo X2.here hx rfl (hb hby dAI_7) rfl ((if0 _ _).trans (feq P5).1) kq) ?_
 refine s_aloadN X2 hx (hb hby dAI_10) rfl rfl ?_
 refine s_iloadN X2 hx (hb hby dAI_11) rfl ?_
 obtain ⟨T3, h3, k3, X3, e3, E3, A3, st3⟩ := newP X2 hx hZ (hw _ (List.mem_of_getElem? (i := 6) rfl)) e2 (g := (mkF m 12 #[vR x, vI 16] [(.int 16), (.ref x)])) rfl (hb hby dAI_12) rfl (by decide) (cap := 16) (by decide) (by decide) (by decide) (by decide)
 obtain ⟨b3, g3⟩ : ∃ z, z = h0.size := ⟨_, rfl⟩
 rw [← g3] at A3 st3
 have lt3 : b3 < h3.size := A3.lt
 have V3 : Arv Z h3 b3 k3 .byte (16 : Int32) [(.int (0 : Int32)), (.int (0 : Int32)), (.int (0 : Int32)), (.int (0 : Int32)), (.int (0 : Int32)), (.int (0 : Int32)), (.int (0 : Int32)), (.int (0 : Int32)), (.int (0 : Int32)), (.int (0 : Int32)), (.int (0 : Int32)), (.int (0 : Int32)), (.int (0 : Int32)), (.int (0 : Int32)), (.int (0 : Int32)), (.int (0 : Int32))] (.int (0 : Int32)) := (Arv.new A3 (by decide)).pad (pad_rep [] (.int (0 : Int32)) 16)
 have sz3 : h0.size ≤ h3.size := E3.1
 have K3 : Keep h0 h3 [x] := K0.ext E3
 refine own_st st3 ?_
 obtain ⟨T4, h4, X4, e4, W4, st4⟩ := putF X3 hx hZ hown (host := "") (Or.inl (wd56 hw)) Via.refl e3 (Fv.ext E3) (Ex.ext E3) (Or.inl (wd57 hw)) (wd43 hw) (ty := (.array .byte)) (by decide) rfl rfl (g := (mkF m 14 #[vR x, vI 16] [(.ref b3), (.ref x)])) rfl rfl (hb hby dAI_14)
 have Fw4 := (Fv.ext E3).same W4
 have sz4 : h3.size ≤ h4.size := (Keep.of_wr W4).1
 have K4 : Keep h0 h4 [x] := K3.wr W4 (Or.inl (by simp))
 have N4 := Fr.snoc X4 N0 (own_le (by omega))
 refine own_st st4 ?_
 refine s_aloadN X4 hx (hb hby dAI_17) rfl rfl ?_
 refine s_iconst X4 hx (hb hby dAI_18) ?_
 obtain ⟨T5, h5, X5, e5, W5, st5⟩ := putF X4 hx hZ hown (host := "") (Or.inl (wd58 hw)) Via.refl e4 ((Fd.ext E3).other W4 (Or.inr (slot_ne (Or.inl (wd59 hw)) (Or.inl (wd57 hw)) (by decide) (t := .byte) (t' := (.array .byte)) (by decide) (by decide)))) ((Ex.ext E3).wr W4) (Or.inl (wd59 hw)) (wd43 hw) (ty := .byte) (by decide) rfl rfl (g := (mkF m 19 #[vR x, vI 16] [(.int 0), (.ref x)])) rfl rfl (hb hby dAI_19)
 have Fw5 := ((Fd.ext E3).other W4 (Or.inr (slot_ne (Or.inl (wd59 hw)) (Or.inl (wd57 hw)) (by decide) (t := .byte) (t' := (.array .byte)) (by decide) (by decide)))).same W5
 have sz5 : h4.size ≤ h5.size := (Keep.of_wr W5).1
 have K5 : Keep h0 h5 [x] := K4.wr W5 (Or.inl (by simp))
 have N5 := Fr.snoc X5 N4 (own_le (by omega))
 refine own_st st5 ?_
 refine own_st (fun tq kq => XS.goto X5.here hx rfl (pc0 := 22) (pc' := 38) rfl (hb hby dAI_22) (by decide) (by decide) kq) ?_
 exact own_retN X5 (v := none) (fun _ => rfl) Bd.notSynchronized (fun fs hr => X5.returnOut hx Bd.returns (hb hby dAI_38) hr) (by decide) (by decide) (by rw [e5]; exact ⟨rfl, N5, K5, b3, _, (by omega), ((V3.other W4 (own_ne (by omega))).other W5 (own_ne (by omega))).lt, (((Ex.ext E3).wr W4).wr W5), (Fw4.other W5 (Or.inr (slot_ne (Or.inl (wd57 hw)) (Or.inl (wd59 hw)) (by decide) (t := (.array .byte)) (t' := .byte) (by decide) (by decide)))), Fw5, (((Fn.ext E3).other W4 (Or.inr (slot_ne (Or.inl (wd84 hw)) (Or.inl (wd57 hw)) (by decide) (t := .int) (t' := (.array .byte)) (by decide) (by decide)))).other W5 (Or.inr (slot_ne (Or.inl (wd84 hw)) (Or.inl (wd59 hw)) (by decide) (t := .int) (t' := .byte) (by decide) (by decide)))), (((Fm.ext E3).other W4 (Or.inr (slot_ne (Or.inl (wd262 hw)) (Or.inl (wd57 hw)) (by decide) (t := .boolean) (t' := (.array .byte)) (by decide) (by decide)))).other W5 (Or.inr (slot_ne (Or.inl (wd262 hw)) (Or.inl (wd59 hw)) (by decide) (t := .boolean) (t' := .byte) (by decide) (by decide)))), ((V3.other W4 (own_ne (by omega))).other W5 (own_ne (by omega)))⟩)

def Q_own_sbi (Z : State) (x : Nat) (v0 c0 : Value) (G1 : Int32) (h0 : Heap) (n0 : Nat) (v : Option Value) (h : Heap) (L : List Loc) : Prop := v = none ∧ Fr n0 L ∧ Keep h0 h [x] ∧ ∃ (t : Nat) (k : ClassId), h0.size ≤ t ∧ t < h.size ∧ own_EB Z h x t k
theorem own_sbi (l : Launch) (Z : State) (a0 : Array Value) (hw : hWt a0 Z) (ws : List Jvm.Cond) (x : Nat) (v0 c0 : Value) (G1 : Int32) (h0 : Heap) (n0 : Nat) (Z0 : n0 ≤ h0.size) (X00 : Old Z n0 h0) (Ex : Exa Z h0 x "java/lang/StringBuilder") (Fv : Fld Z h0 x "java/lang/AbstractStringBuilder" "value" "[B" v0) (Fd : Fld Z h0 x "java/lang/AbstractStringBuilder" "coder" "B" c0) (Fn : Fld Z h0 x "java/lang/AbstractStringBuilder" "count" "I" (.int 0)) (Fm : Fld Z h0 x "java/lang/AbstractStringBuilder" "maybeLatin1" "Z" (.int 0)) (gx : n0 ≤ x) (ltx : x < h0.size) (O2 : Sta Z Z.heap "java/lang/String" "COMPACT_STRINGS" "Z" (.int G1)) (P5 : ¬ (G1 = (0 : Int32))) :
 own_MN l mN32 jdk_67_method_1_code 1 none ws rm_2_1_16_28 Z #[(.ref x)] h0 (Q_own_sbi Z x v0 c0 G1 h0 n0) := by
 refine own_bodyN (plainFor_of_name own_pn9) fun p e s m below meth c s₁ Bd hx hby hml hown hZ X0 e0 => ?_
 have hnm := (name_of_methodNamed Bd.named Bd.method).1
 have N0 := Fr.nil n0
 have K0 : Keep h0 h0 [x] := Keep.refl h0 [x]
 refine own_st (fun tq kq => castTop (ef_own_co0 m (x)) kq) ?_
 show own_G p e below _ (s₁.setTop (mkF m 0 #[vR x] []))
 have hws0 : ∀ y ∈ [x], n0 ≤ y := allS gx all0
 refine s_aloadN X0 hx (hb hby dSI_0) rfl rfl ?_
 refine s_bipush X0 hx (hb hby dSI_1) ?_
 obtain ⟨_, _, ⟨T1, L1, k1, n1⟩, -, X1, ⟨Lc1, hQ1, l1, y1, z1⟩, st1⟩ := X0.specialBack hx (y := mN31) rfl hown (mvT hZ (wd48 hw)) (mvT hZ (wd49 hw)) (mvT hZ (wd53 hw)) (by decide) (own_backN (W := 0) (own_asi l Z a0 hw [] (x) (v0) (c0) (G1) h0 n0 (by omega) (X00.keep K0 hws0) Ex Fv Fd Fn Fm gx ltx O2 P5) hZ (wd53 hw) (wd52 hw) (by decide) (by decide)) (g := (mkF m 3 #[vR x] [(.int 16), (.ref x)])) rfl (by rw [hml]; rfl) (Steps.refl _) (a := x) (argsL := [(.int 16)]) (rest := []) (lenOf own_pd21 rfl) rfl (Nat.le_of_eq rfl) (hb hby dSI_3) (fun _ _ => ⟨rfl, e0, (by decide : 0 + 1 ≤ _), (by decide : 0 + 16 ≤ _)⟩)
 dsimp only [Pt.U, Pt.locs, Pt.cells, Pt.slots] at X1 l1 y1 z1 st1 hQ1
 subst l1 y1 z1
 obtain ⟨rfl, Nq1, Kq1, R1⟩ := hQ1
 have KK1 : Keep h0 T1.heap [x] := Kq1
 have sz1 : h0.size ≤ T1.heap.size := KK1.1
 have K1 : Keep h0 T1.heap [x] := K0.trans KK1 (allS (Or.inl (by simp)) all0)
 have N1 := Fr.app N0 Nq1
 refine own_st (fun tq kq => st1.trans kq) ?_
 exact own_retN X1 (v := none) (fun _ => rfl) Bd.notSynchronized (fun fs hr => X1.returnOut hx Bd.returns (hb hby dSI_6) hr) (by decide) (by decide) (by exact ⟨rfl, N1, K1, R1⟩)

theorem own_cutq {us : List Value} {q : Nat} (hu : us.length = q) (h : q ≤ 4000) : (List.replicate q (Value.int 0)).take (0 : Int32).toNatClampNeg ++ us ++ (List.replicate q (Value.int 0)).drop ((0 : Int32).toNatClampNeg + (Int32.ofNat q).toNatClampNeg) = us := by
  rw [own_n32 h, show (0 : Int32).toNatClampNeg = 0 from rfl]
  simp
theorem own_pushv {P : List Int32} {X : Int32} {z : Value} {M : Nat} (h : P.length < M) : (P.map Value.int ++ List.replicate (M - P.length) z).set P.length (.int X) = (P ++ [X]).map Value.int ++ List.replicate (M - (P ++ [X]).length) z := by
  rw [own_setapp (by simp) h, List.map_append, List.length_append]; rfl
theorem own_i2b {c : Int32} : nar .byte (c.toInt8.toInt32) = c.toInt8.toInt32 := by simp [nar]
theorem own_i2bb {c : Int32} : (c.toInt8.toInt32).toInt8.toInt32 = c.toInt8.toInt32 := by simp
theorem own_takeAll {cs : List Int32} {i : Nat} (h : cs.length ≤ i) : cs.take i = cs := List.take_of_length_le h

def Q_own_gv (Z : State) (x t : Nat) (h0 : Heap) (n0 : Nat) (v : Option Value) (h : Heap) (L : List Loc) : Prop := v = some (.ref t) ∧ Fr n0 L ∧ h = h0
theorem own_gv (l : Launch) (Z : State) (a0 : Array Value) (hw : hWt a0 Z) (ws : List Jvm.Cond) (x t : Nat) (h0 : Heap) (n0 : Nat) (Z0 : n0 ≤ h0.size) (X00 : Old Z n0 h0) (Fv : Fld Z h0 x "java/lang/AbstractStringBuilder" "value" "[B" (.ref t)) :
 own_MN l mN33 jdk_68_method_64_code 1 (some (.array .byte)) ws rm_0_0_0_0 Z #[(.ref x)] h0 (Q_own_gv Z x t h0 n0) := by
 refine own_bodyN (plainFor_of_name own_pn1) fun p e s m below meth c s₁ Bd hx hby hml hown hZ X0 e0 => ?_
 have N0 := Fr.nil n0
 have K0 : Keep h0 h0 [] := Keep.refl h0 []
 refine own_st (fun tq kq => castTop (ef_own_co0 m (x)) kq) ?_
 show own_G p e below _ (s₁.setTop (mkF m 0 #[vR x] []))
 refine s_aloadN X0 hx (hb hby dGVx_0) rfl rfl ?_
 obtain ⟨T1, X1, e1, st1⟩ := getF X0 hx hZ hown (host := "") (Or.inl (wd56 hw)) Via.refl e0 Fv (g := (mkF m 1 #[vR x] [(.ref x)])) rfl rfl (hb hby dGVx_1)
 refine own_st st1 ?_
 exact own_retN X1 (v := some (.ref t)) (fun h => by rw [Bd.returns] at h; cases h) Bd.notSynchronized (fun fs hr => retOut X1 hx Bd.returns rfl (Or.inr (Or.inr (Or.inr (Or.inr ⟨rfl, rfl, rfl⟩)))) (hb hby dGVx_4) hr) (by decide) (by decide) (by rw [e1]; exact ⟨rfl, N0, rfl⟩)

def Q_own_al (Z : State) (x cn : Nat) (h0 : Heap) (n0 : Nat) (v : Option Value) (h : Heap) (L : List Loc) : Prop := v = some (.int (Int32.ofNat cn)) ∧ Fr n0 L ∧ h = h0
theorem own_al (l : Launch) (Z : State) (a0 : Array Value) (hw : hWt a0 Z) (ws : List Jvm.Cond) (x cn : Nat) (h0 : Heap) (n0 : Nat) (Z0 : n0 ≤ h0.size) (X00 : Old Z n0 h0) (Fn : Fld Z h0 x "java/lang/AbstractStringBuilder" "count" "I" (.int (Int32.ofNat cn))) :
 own_MN l mN34 jdk_68_method_6_code 1 (some .int) ws rm_0_0_0_0 Z #[(.ref x)] h0 (Q_own_al Z x cn h0 n0) := by
 refine own_bodyN (plainFor_of_name own_pn1) fun p e s m below meth c s₁ Bd hx hby hml hown hZ X0 e0 => ?_
 have N0 := Fr.nil n0
 have K0 : Keep h0 h0 [] := Keep.refl h0 []
 refine own_st (fun tq kq => castTop (ef_own_co0 m (x)) kq) ?_
 show own_G p e below _ (s₁.setTop (mkF m 0 #[vR x] []))
 refine s_aloadN X0 hx (hb hby dALx_0) rfl rfl ?_
 obtain ⟨T1, X1, e1, st1⟩ := getF X0 hx hZ hown (host := "") (Or.inl (wd83 hw)) Via.refl e0 Fn (g := (mkF m 1 #[vR x] [(.ref x)])) rfl rfl (hb hby dALx_1)
 refine own_st st1 ?_
 exact own_retN X1 (v := some (.int (Int32.ofNat cn))) (fun h => by rw [Bd.returns] at h; cases h) Bd.notSynchronized (fun fs hr => retOut X1 hx Bd.returns rfl (Or.inl ⟨rfl, by simp, _, rfl⟩) (hb hby dALx_4) hr) (by decide) (by decide) (by rw [e1]; exact ⟨rfl, N0, rfl⟩)

def Q_own_sl (Z : State) (x cn : Nat) (h0 : Heap) (n0 : Nat) (v : Option Value) (h : Heap) (L : List Loc) : Prop := v = some (.int (Int32.ofNat cn)) ∧ Fr n0 L ∧ h = h0
theorem own_sl (l : Launch) (Z : State) (a0 : Array Value) (hw : hWt a0 Z) (ws : List Jvm.Cond) (x cn : Nat) (h0 : Heap) (n0 : Nat) (Z0 : n0 ≤ h0.size) (X00 : Old Z n0 h0) (Ex : Exa Z h0 x "java/lang/StringBuilder") (Fn : Fld Z h0 x "java/lang/AbstractStringBuilder" "count" "I" (.int (Int32.ofNat cn))) :
 own_MN l mN35 jdk_67_method_93_code 1 (some .int) ws rm_1_0_0_20 Z #[(.ref x)] h0 (Q_own_sl Z x cn h0 n0) := by
 refine own_bodyN (plainFor_of_name own_pn9) fun p e s m below meth c s₁ Bd hx hby hml hown hZ X0 e0 => ?_
 have N0 := Fr.nil n0
 have K0 : Keep h0 h0 [] := Keep.refl h0 []
 refine own_st (fun tq kq => castTop (ef_own_co0 m (x)) kq) ?_
 show own_G p e below _ (s₁.setTop (mkF m 0 #[vR x] []))
 refine s_aloadN X0 hx (hb hby dSLx_0) rfl rfl ?_
 obtain ⟨_, _, ⟨T1, L1, k1, n1⟩, -, X1, ⟨Lc1, hQ1, l1, y1, z1⟩, st1⟩ := superBack X0 hx hZ (y := mN34) hown (wd157 hw) (own_same (wd88 hw) rfl (wd153 hw) (by decide)) (wd153 hw) (wd70 hw) (by decide) (own_backN (W := 0) (own_al l Z a0 hw [] (x) (cn) h0 n0 (by omega) (X00.keep K0 all0) Fn) hZ (wd158 hw) (wd52 hw) (by decide) (by decide)) e0 (Ins.self Ex) (g := (mkF m 1 #[vR x] [(.ref x)])) rfl (by rw [hml]; rfl) (wd158 hw) (argsL := []) (rest := []) (lenOf own_pd20 rfl) rfl (Nat.le_of_eq rfl) (hb hby dSLx_1) (fun _ _ => ⟨rfl, e0, (by decide : 0 + 0 ≤ _), (by decide : 0 + 0 ≤ _)⟩)
 dsimp only [Pt.U, Pt.locs, Pt.cells, Pt.slots] at X1 l1 y1 z1 st1 hQ1
 subst l1 y1 z1
 obtain ⟨rfl, Nq1, sm1⟩ := hQ1
 have N1 := Fr.app N0 Nq1
 refine own_st (fun tq kq => st1.trans kq) ?_
 exact own_retN X1 (v := some (.int (Int32.ofNat cn))) (fun h => by rw [Bd.returns] at h; cases h) Bd.notSynchronized (fun fs hr => retOut X1 hx Bd.returns rfl (Or.inl ⟨rfl, by simp, _, rfl⟩) (hb hby dSLx_4) hr) (by decide) (by decide) (by rw [sm1]; exact ⟨rfl, N1, rfl⟩)

def Q_own_ckl (Z : State) (b : Int32) (h0 : Heap) (n0 : Nat) (v : Option Value) (h : Heap) (L : List Loc) : Prop := v = none ∧ Fr n0 L ∧ h = h0
theorem ef_own_ckl (m : MethodId) (x1 : Int32) : entryFrame m #[(.int 0), (.int x1)] 2 = mkF m 0 #[.val (.int 0), .val (.int x1)] [] := by first | (simp [entryFrame, mkF, argsToLocals, Value.category]; done) | rfl
theorem own_ckl (l : Launch) (Z : State) (a0 : Array Value) (hw : hWt a0 Z) (ws : List Jvm.Cond) (b : Int32) (h0 : Heap) (n0 : Nat) (Z0 : n0 ≤ h0.size) (X00 : Old Z n0 h0) (hbb : ¬ b < (0 : Int32)) :
 own_MN l mN36 jdk_65_method_131_code 2 none ws rm_0_0_0_0 Z #[(.int 0), (.int b)] h0 (Q_own_ckl Z b h0 n0) := by
 refine own_bodyN (plainFor_of_name own_pn8) fun p e s m below meth c s₁ Bd hx hby hml hown hZ X0 e0 => ?_
 have N0 := Fr.nil n0
 have K0 : Keep h0 h0 [] := Keep.refl h0 []
 refine own_st (fun tq kq => castTop (ef_own_ckl m (b)) kq) ?_
 show own_G p e below _ (s₁.setTop (mkF m 0 #[vI 0, vI b] []))
 refine s_iloadN X0 hx (hb hby dCKx_0) rfl ?_
 refine s_iloadN X0 hx (hb hby dCKx_1) rfl ?_
 show own_G p e below _ (s₁.setTop (mkF m 2 #[vI 0, vI b] [(.int 0), (.int b)]))
 refine own_st (fun tq kq => XS.icmpYes X0.here hx rfl (pc0 := 2) (pc' := 37) rfl (hb hby dCKx_2) rfl (flt hbb).2.1 (by decide) (by decide) kq) ?_
 exact own_retN X0 (v := none) (fun _ => rfl) Bd.notSynchronized (fun fs hr => X0.returnOut hx Bd.returns (hb hby dCKx_37) hr) (by decide) (by decide) (by rw [e0]; exact ⟨rfl, N0, rfl⟩)

def Q_own_minq (Z : State) (a b : Int32) (h0 : Heap) (n0 : Nat) (v : Option Value) (h : Heap) (L : List Loc) : Prop := v = some (.int b) ∧ Fr n0 L ∧ h = h0
theorem ef_own_minq (m : MethodId) (x0 : Int32) (x1 : Int32) : entryFrame m #[(.int x0), (.int x1)] 2 = mkF m 0 #[.val (.int x0), .val (.int x1)] [] := by first | (simp [entryFrame, mkF, argsToLocals, Value.category]; done) | rfl
theorem own_minq (l : Launch) (Z : State) (a0 : Array Value) (hw : hWt a0 Z) (ws : List Jvm.Cond) (a b : Int32) (h0 : Heap) (n0 : Nat) (Z0 : n0 ≤ h0.size) (X00 : Old Z n0 h0) (hbb : b < a) :
 own_MN l mN26 jdk_29_method_69_code 2 (some .int) ws rm_0_0_0_0 Z #[(.int a), (.int b)] h0 (Q_own_minq Z a b h0 n0) := by
 refine own_bodyN own_pn7 fun p e s m below meth c s₁ Bd hx hby hml hown hZ X0 e0 => ?_
 have N0 := Fr.nil n0
 have K0 : Keep h0 h0 [] := Keep.refl h0 []
 refine own_st (fun tq kq => castTop (ef_own_minq m (a) (b)) kq) ?_
 show own_G p e below _ (s₁.setTop (mkF m 0 #[vI a, vI b] []))
 refine s_iloadN X0 hx (hb hby dMI_0) rfl ?_
 refine s_iloadN X0 hx (hb hby dMI_1) rfl ?_
 show own_G p e below _ (s₁.setTop (mkF m 2 #[vI a, vI b] [(.int b), (.int a)]))
 refine own_st (fun tq kq => XS.icmpYes X0.here hx rfl (pc0 := 2) (pc' := 9) rfl (hb hby dMI_2) rfl (tlt hbb).2.2.1 (by decide) (by decide) kq) ?_
 refine s_iloadN X0 hx (hb hby dMI_9) rfl ?_
 show own_G p e below _ (s₁.setTop (mkF m 10 #[vI a, vI b] [(.int b)]))
 exact own_retN X0 (v := some (.int b)) (fun h => by rw [Bd.returns] at h; cases h) Bd.notSynchronized (fun fs hr => retOut X0 hx Bd.returns rfl (Or.inl ⟨rfl, by simp, _, rfl⟩) (hb hby dMI_10) hr) (by decide) (by decide) (by rw [e0]; exact ⟨rfl, N0, rfl⟩)

def Q_own_cb (Z : State) (t q mm : Nat) (k : ClassId) (us rs : List Value) (h0 : Heap) (n0 : Nat) (v : Option Value) (h : Heap) (L : List Loc) : Prop := ∃ (r : Nat) (kr : ClassId), v = some (.ref r) ∧ Fr n0 L ∧ Keep h0 h [] ∧ h0.size ≤ r ∧ r < h.size ∧ Exa Z h r "[B" ∧ Arv Z h r kr .byte (Int32.ofNat q) us (.int 0)
theorem own_cb (l : Launch) (Z : State) (a0 : Array Value) (hw : hWt a0 Z) (ws : List Jvm.Cond) (t q mm : Nat) (k : ClassId) (us rs : List Value) (h0 : Heap) (n0 : Nat) (Z0 : n0 ≤ h0.size) (X00 : Old Z n0 h0) (Vt : Arv Z h0 t k .byte (Int32.ofNat mm) (us ++ rs) (.int 0)) (hu : us.length = q) (hq : q < mm) (hm : mm ≤ 72) :
 own_MN l mN37 jdk_65_method_133_code 5 (some (.array .byte)) ws rm_1_1_72_40 Z #[(.ref t), (.int 0), (.int (Int32.ofNat q))] h0 (Q_own_cb Z t q mm k us rs h0 n0) := by
 refine own_bodyN (plainFor_of_name own_pn8) fun p e s m below meth c s₁ Bd hx hby hml hown hZ X0 e0 => ?_
 have N0 := Fr.nil n0
 have K0 : Keep h0 h0 [] := Keep.refl h0 []
 refine own_st (fun tq kq => castTop (ef_own_toB m (t) ((Int32.ofNat q))) kq) ?_
 show own_G p e below _ (s₁.setTop (mkF m 0 #[vR t, vI 0, vI (Int32.ofNat q), .unset, .unset] []))
 have ltt : t < h0.size := Vt.lt
 refine s_iloadN X0 hx (hb hby dCBx_0) rfl ?_
 refine s_iloadN X0 hx (hb hby dCBx_1) rfl ?_
 obtain ⟨_, _, ⟨T1, L1, k1, n1⟩, -, X1, ⟨Lc1, hQ1, l1, y1, z1⟩, st1⟩ := Jvm.LawKit.callS X0 hx (y := mN36) hown (mvT hZ (wd170 hw)) (mvT hZ (wd171 hw)) (mvT hZ (wd107 hw)) (mvT hZ (wd172 hw)) (by decide) (own_backN (W := 0) (own_ckl l Z a0 hw [] ((Int32.ofNat q)) h0 n0 (by omega) (X00.keep K0 all0) (own_n0 (by omega))) hZ (wd172 hw) (wd107 hw) (by decide) (by decide)) (g := (mkF m 2 #[vR t, vI 0, vI (Int32.ofNat q), .unset, .unset] [(.int (Int32.ofNat q)), (.int 0)])) rfl (by rw [hml]; rfl) (argsL := [(.int 0), (.int (Int32.ofNat q))]) (rest := []) (lenOf own_pd24 rfl) rfl (Nat.le_of_eq rfl) (hb hby dCBx_2) (fun _ _ => ⟨rfl, e0, (by decide : 0 + 0 ≤ _), (by decide : 0 + 0 ≤ _)⟩)
 dsimp only [Pt.U, Pt.locs, Pt.cells, Pt.slots] at X1 l1 y1 z1 st1 hQ1
 subst l1 y1 z1
 obtain ⟨rfl, Nq1, sm1⟩ := hQ1
 have N1 := Fr.app N0 Nq1
 refine own_st st1 ?_
 refine s_iloadN X1 hx (hb hby dCBx_5) rfl ?_
 refine s_iloadN X1 hx (hb hby dCBx_6) rfl ?_
 refine own_st (fun tq kq => XS.isub X1.here hx rfl (hb hby dCBx_7) rfl kq) ?_
 show own_G p e below _ (T1.setTop (mkF m 8 #[vR t, vI 0, vI (Int32.ofNat q), .unset, .unset] [(.int ((Int32.ofNat q) - (0 : Int32)))]))
 rw [own_sub0]
 show own_G p e below _ (T1.setTop (mkF m 8 #[vR t, vI 0, vI (Int32.ofNat q), .unset, .unset] [(.int (Int32.ofNat q))]))
 refine own_st (fun tq kq => XS.istoreN X1.here hx rfl (hb hby dCBx_8) rfl (l' := #[vR t, vI 0, vI (Int32.ofNat q), vI (Int32.ofNat q), .unset]) rfl kq) ?_
 refine s_iloadN X1 hx (hb hby dCBx_9) rfl ?_
 obtain ⟨T2, h2, k2, X2, e2, E2, A2, Ea2, st2⟩ := newPE X1 hx hZ (hw _ (List.mem_of_getElem? (i := 6) rfl)) sm1 (g := (mkF m 10 #[vR t, vI 0, vI (Int32.ofNat q), vI (Int32.ofNat q), .unset] [(.int (Int32.ofNat q))])) rfl (hb hby dCBx_10) rfl (own_n0 (by omega)) (cap := 72) (by rw [own_n32 (by omega)]; omega) (by decide) (by decide) (by decide) (ad := "[B") (by decide)
 obtain ⟨b2, g2⟩ : ∃ z, z = h0.size := ⟨_, rfl⟩
 rw [← g2] at A2 Ea2 st2
 have lt2 : b2 < h2.size := A2.lt
 have V2 : Arv Z h2 b2 k2 .byte (Int32.ofNat q) (List.replicate q (.int (0 : Int32))) (.int (0 : Int32)) := (Arv.new A2 (own_n0 (by omega))).pad (pad_rep [] (.int (0 : Int32)) q)
 have sz2 : h0.size ≤ h2.size := E2.1
 have K2 : Keep h0 h2 [] := K0.ext E2
 refine own_st st2 ?_
 refine own_st (fun tq kq => XS.astore X2.here hx rfl (hb hby dCBx_12) rfl rfl (l' := #[vR t, vI 0, vI (Int32.ofNat q), vI (Int32.ofNat q), vR b2]) rfl kq) ?_
 refine s_aloadN X2 hx (hb hby dCBx_14) rfl rfl ?_
 refine s_iloadN X2 hx (hb hby dCBx_15) rfl ?_
 refine s_aload X2 hx (hb hby dCBx_16) rfl rfl ?_
 refine s_iconst X2 hx (hb hby dCBx_18) ?_
 refine s_aloadN X2 hx (hb hby dCBx_19) rfl rfl ?_
 obtain ⟨cl3, Ar3, q3, S_3, N_3, H_3, G_3⟩ := id (Vt.ext E2)
 refine own_st (fun tq kq => X2.arraylength hx (by rw [e2]; exact Ar3.1) (State.isArrayOf_alike hZ.alike Ar3.2.1) (g := (mkF m 20 #[vR t, vI 0, vI (Int32.ofNat q), vI (Int32.ofNat q), vR b2] [(.ref t), (.int 0), (.ref b2), (.int 0), (.ref t)])) rfl rfl (hb hby dCBx_20) _ kq) ?_
 rw [len_of S_3 N_3]
 show own_G p e below _ (T2.setTop (mkF m 21 #[vR t, vI 0, vI (Int32.ofNat q), vI (Int32.ofNat q), vR b2] [(.int (Int32.ofNat mm)), (.int 0), (.ref b2), (.int 0), (.ref t)]))
 refine s_iloadN X2 hx (hb hby dCBx_21) rfl ?_
 refine own_st (fun tq kq => XS.isub X2.here hx rfl (hb hby dCBx_22) rfl kq) ?_
 show own_G p e below _ (T2.setTop (mkF m 23 #[vR t, vI 0, vI (Int32.ofNat q), vI (Int32.ofNat q), vR b2] [(.int ((Int32.ofNat mm) - (0 : Int32))), (.int 0), (.ref b2), (.int 0), (.ref t)]))
 rw [own_sub0]
 show own_G p e below _ (T2.setTop (mkF m 23 #[vR t, vI 0, vI (Int32.ofNat q), vI (Int32.ofNat q), vR b2] [(.int (Int32.ofNat mm)), (.int 0), (.ref b2), (.int 0), (.ref t)]))
 refine s_iloadN X2 hx (hb hby dCBx_23) rfl ?_
 obtain ⟨_, _, ⟨T4, L4, k4, n4⟩, -, X4, ⟨Lc4, hQ4, l4, y4, z4⟩, st4⟩ := Jvm.LawKit.callS X2 hx (y := mN26) hown (mvT hZ (wd109 hw)) (mvT hZ (wd110 hw)) (mvT hZ (wd101 hw)) (mvT hZ (wd111 hw)) (by decide) (own_backN (W := 4) (own_minq l Z a0 hw [] ((Int32.ofNat mm)) ((Int32.ofNat q)) h2 n0 (by omega) (X00.keep K2 all0) (own_ilt hq (by omega))) hZ (wd111 hw) (wd101 hw) (by decide) (by decide)) (g := (mkF m 24 #[vR t, vI 0, vI (Int32.ofNat q), vI (Int32.ofNat q), vR b2] [(.int (Int32.ofNat q)), (.int (Int32.ofNat mm)), (.int 0), (.ref b2), (.int 0), (.ref t)])) rfl (by rw [hml]; rfl) (argsL := [(.int (Int32.ofNat mm)), (.int (Int32.ofNat q))]) (rest := [(.int 0), (.ref b2), (.int 0), (.ref t)]) (lenOf own_pd18 rfl) rfl (Nat.le_of_eq rfl) (hb hby dCBx_24) (fun _ _ => ⟨rfl, e2, (by decide : 1 + 0 ≤ _), (by decide : 72 + 0 ≤ _)⟩)
 dsimp only [Pt.U, Pt.locs, Pt.cells, Pt.slots] at X4 l4 y4 z4 st4 hQ4
 subst l4 y4 z4
 obtain ⟨rfl, Nq4, sm4⟩ := hQ4
 have N4 := Fr.app N1 Nq4
 refine own_st st4 ?_
 obtain ⟨T5, h5, L5, X5, e5, N5, KK5, V5, st5⟩ := cpA X4 hx hZ hown (wd112 hw) (wd115 hw) (wd113 hw) (wd114 hw) sm4 (Vt.ext E2) V2 (sp := (0 : Int32)) (dp := (0 : Int32)) (nn := (Int32.ofNat q)) (us := us) (Or.inl ⟨rfl, rfl⟩) (by decide) (by decide) (own_n0 (by omega)) (by rw [own_n32 (by omega), own_n32 (by omega)]; show 0 + _ ≤ _; omega) (by rw [own_n32 (by omega)]; show 0 + _ ≤ _; omega) (own_hus1 hu (by omega)) (by rw [own_n32 (by omega)]; simp only [List.length_replicate]; show 0 + _ ≤ _; omega) N4 (own_le (by omega)) (g := (mkF m 27 #[vR t, vI 0, vI (Int32.ofNat q), vI (Int32.ofNat q), vR b2] [(.int (Int32.ofNat q)), (.int 0), (.ref b2), (.int 0), (.ref t)])) rfl (by rw [hml]; rfl) (rest := []) rfl (hb hby dCBx_27) (by decide) (W := 0) (Nat.le_of_eq rfl) (by decide)
 have sz5 : h2.size ≤ h5.size := KK5.1
 have K5 : Keep h0 h5 [] := K2.trans KK5 (allS (Or.inr (own_le (by omega))) all0)
 rw [own_cutq hu (by omega)] at V5
 refine own_st st5 ?_
 refine s_aload X5 hx (hb hby dCBx_30) rfl rfl ?_
 show own_G p e below _ (T5.setTop (mkF m 32 #[vR t, vI 0, vI (Int32.ofNat q), vI (Int32.ofNat q), vR b2] [(.ref b2)]))
 exact own_retN X5 (v := some (.ref b2)) (fun h => by rw [Bd.returns] at h; cases h) Bd.notSynchronized (fun fs hr => retOut X5 hx Bd.returns rfl (Or.inr (Or.inr (Or.inr (Or.inr ⟨rfl, rfl, rfl⟩)))) (hb hby dCBx_32) hr) (by decide) (by decide) (by rw [e5]; exact ⟨b2, _, rfl, N5, K5, (by omega), V5.lt, (Ea2.keep KK5), V5⟩)

def Q_own_cr (Z : State) (t q mm : Nat) (k : ClassId) (us rs : List Value) (h0 : Heap) (n0 : Nat) (v : Option Value) (h : Heap) (L : List Loc) : Prop := ∃ (r : Nat) (kr : ClassId), v = some (.ref r) ∧ Fr n0 L ∧ Keep h0 h [] ∧ h0.size ≤ r ∧ r < h.size ∧ Exa Z h r "[B" ∧ Arv Z h r kr .byte (Int32.ofNat q) us (.int 0)
theorem ef_own_cr (m : MethodId) (x0 : Nat) (x2 : Int32) : entryFrame m #[(.ref x0), (.int 0), (.int x2)] 3 = mkF m 0 #[.val (.ref x0), .val (.int 0), .val (.int x2)] [] := by first | (simp [entryFrame, mkF, argsToLocals, Value.category]; done) | rfl
theorem own_cr (l : Launch) (Z : State) (a0 : Array Value) (hw : hWt a0 Z) (ws : List Jvm.Cond) (t q mm : Nat) (k : ClassId) (us rs : List Value) (h0 : Heap) (n0 : Nat) (Z0 : n0 ≤ h0.size) (X00 : Old Z n0 h0) (Vt : Arv Z h0 t k .byte (Int32.ofNat mm) (us ++ rs) (.int 0)) (hu : us.length = q) (hq : q < mm) (hm : mm ≤ 72) :
 own_MN l mN38 jdk_65_method_132_code 3 (some (.array .byte)) ws rm_2_1_72_58 Z #[(.ref t), (.int 0), (.int (Int32.ofNat q))] h0 (Q_own_cr Z t q mm k us rs h0 n0) := by
 refine own_bodyN (plainFor_of_name own_pn8) fun p e s m below meth c s₁ Bd hx hby hml hown hZ X0 e0 => ?_
 have N0 := Fr.nil n0
 have K0 : Keep h0 h0 [] := Keep.refl h0 []
 refine own_st (fun tq kq => castTop (ef_own_cr m (t) ((Int32.ofNat q))) kq) ?_
 show own_G p e below _ (s₁.setTop (mkF m 0 #[vR t, vI 0, vI (Int32.ofNat q)] []))
 have ltt : t < h0.size := Vt.lt
 refine s_iloadN X0 hx (hb hby dCRx_0) rfl ?_
 show own_G p e below _ (s₁.setTop (mkF m 1 #[vR t, vI 0, vI (Int32.ofNat q)] [(.int 0)]))
 refine own_st (fun tq kq => XS.ifNo X0.here hx rfl (hb hby dCRx_1) rfl ((if0 _ _).trans (teq (by decide : ((0 : Int32) = (0 : Int32)))).2) kq) ?_
 refine s_iloadN X0 hx (hb hby dCRx_4) rfl ?_
 refine s_aloadN X0 hx (hb hby dCRx_5) rfl rfl ?_
 obtain ⟨cl1, Ar1, q1, S_1, N_1, H_1, G_1⟩ := id Vt
 refine own_st (fun tq kq => X0.arraylength hx (by rw [e0]; exact Ar1.1) (State.isArrayOf_alike hZ.alike Ar1.2.1) (g := (mkF m 6 #[vR t, vI 0, vI (Int32.ofNat q)] [(.ref t), (.int (Int32.ofNat q))])) rfl rfl (hb hby dCRx_6) _ kq) ?_
 rw [len_of S_1 N_1]
 show own_G p e below _ (s₁.setTop (mkF m 7 #[vR t, vI 0, vI (Int32.ofNat q)] [(.int (Int32.ofNat mm)), (.int (Int32.ofNat q))]))
 refine own_st (fun tq kq => XS.icmpNo X0.here hx rfl (hb hby dCRx_7) rfl (feq (own_ofne (by omega) (by omega) (by omega))).1 kq) ?_
 refine s_aloadN X0 hx (hb hby dCRx_10) rfl rfl ?_
 refine s_iloadN X0 hx (hb hby dCRx_11) rfl ?_
 refine s_iloadN X0 hx (hb hby dCRx_12) rfl ?_
 obtain ⟨_, _, ⟨T2, L2, k2, n2⟩, -, X2, ⟨Lc2, hQ2, l2, y2, z2⟩, st2⟩ := Jvm.LawKit.callS X0 hx (y := mN37) hown (mvT hZ (wd167 hw)) (mvT hZ (wd168 hw)) (mvT hZ (wd107 hw)) (mvT hZ (wd169 hw)) (by decide) (own_backN (W := 0) (own_cb l Z a0 hw [] (t) (q) (mm) (k) (us) (rs) h0 n0 (by omega) (X00.keep K0 all0) Vt hu hq hm) hZ (wd169 hw) (wd107 hw) (by decide) (by decide)) (g := (mkF m 13 #[vR t, vI 0, vI (Int32.ofNat q)] [(.int (Int32.ofNat q)), (.int 0), (.ref t)])) rfl (by rw [hml]; rfl) (argsL := [(.ref t), (.int 0), (.int (Int32.ofNat q))]) (rest := []) (lenOf own_pd25 rfl) rfl (Nat.le_of_eq rfl) (hb hby dCRx_13) (fun _ _ => ⟨rfl, e0, (by decide : 0 + 1 ≤ _), (by decide : 0 + 72 ≤ _)⟩)
 dsimp only [Pt.U, Pt.locs, Pt.cells, Pt.slots] at X2 l2 y2 z2 st2 hQ2
 subst l2 y2 z2
 obtain ⟨r2, kr2, rfl, Nq2, Kq2, gr2, lr2, Er2, Vr2⟩ := hQ2
 have KK2 : Keep h0 T2.heap [] := Kq2
 have sz2 : h0.size ≤ T2.heap.size := KK2.1
 have K2 : Keep h0 T2.heap [] := K0.trans KK2 all0
 have N2 := Fr.app N0 Nq2
 refine own_st st2 ?_
 exact own_retN X2 (v := some (.ref r2)) (fun h => by rw [Bd.returns] at h; cases h) Bd.notSynchronized (fun fs hr => retOut X2 hx Bd.returns rfl (Or.inr (Or.inr (Or.inr (Or.inr ⟨rfl, rfl, rfl⟩)))) (hb hby dCRx_16) hr) (by decide) (by decide) (by exact ⟨r2, _, rfl, N2, K2, (by omega), Vr2.lt, Er2, Vr2⟩)

def Q_own_cof (Z : State) (t q mm : Nat) (k : ClassId) (us rs : List Value) (h0 : Heap) (n0 : Nat) (v : Option Value) (h : Heap) (L : List Loc) : Prop := ∃ (r : Nat) (kr : ClassId), v = some (.ref r) ∧ Fr n0 L ∧ Keep h0 h [] ∧ h0.size ≤ r ∧ r < h.size ∧ Exa Z h r "[B" ∧ Arv Z h r kr .byte (Int32.ofNat q) us (.int 0)
theorem own_cof (l : Launch) (Z : State) (a0 : Array Value) (hw : hWt a0 Z) (ws : List Jvm.Cond) (t q mm : Nat) (k : ClassId) (us rs : List Value) (h0 : Heap) (n0 : Nat) (Z0 : n0 ≤ h0.size) (X00 : Old Z n0 h0) (Vt : Arv Z h0 t k .byte (Int32.ofNat mm) (us ++ rs) (.int 0)) (hu : us.length = q) (hq : q < mm) (hm : mm ≤ 72) :
 own_MN l mN27 jdk_65_method_121_code 3 (some (.array .byte)) ws rm_1_1_72_40 Z #[(.ref t), (.int (Int32.ofNat q))] h0 (Q_own_cof Z t q mm k us rs h0 n0) := by
 refine own_bodyN (plainFor_of_name own_pn8) fun p e s m below meth c s₁ Bd hx hby hml hown hZ X0 e0 => ?_
 have N0 := Fr.nil n0
 have K0 : Keep h0 h0 [] := Keep.refl h0 []
 refine own_st (fun tq kq => castTop (ef_own_enL m (t) ((Int32.ofNat q))) kq) ?_
 show own_G p e below _ (s₁.setTop (mkF m 0 #[vR t, vI (Int32.ofNat q), .unset] []))
 have ltt : t < h0.size := Vt.lt
 refine s_iloadN X0 hx (hb hby dC2_0) rfl ?_
 refine s_aloadN X0 hx (hb hby dC2_1) rfl rfl ?_
 obtain ⟨cl1, Ar1, q1, S_1, N_1, H_1, G_1⟩ := id Vt
 refine own_st (fun tq kq => X0.arraylength hx (by rw [e0]; exact Ar1.1) (State.isArrayOf_alike hZ.alike Ar1.2.1) (g := (mkF m 2 #[vR t, vI (Int32.ofNat q), .unset] [(.ref t), (.int (Int32.ofNat q))])) rfl rfl (hb hby dC2_2) _ kq) ?_
 rw [len_of S_1 N_1]
 show own_G p e below _ (s₁.setTop (mkF m 3 #[vR t, vI (Int32.ofNat q), .unset] [(.int (Int32.ofNat mm)), (.int (Int32.ofNat q))]))
 refine own_st (fun tq kq => XS.icmpYes X0.here hx rfl (pc0 := 3) (pc' := 14) rfl (hb hby dC2_3) rfl (feq (own_ofne (by omega) (by omega) (by omega))).2 (by decide) (by decide) kq) ?_
 refine s_iloadN X0 hx (hb hby dC2_14) rfl ?_
 obtain ⟨T2, h2, k2, X2, e2, E2, A2, Ea2, st2⟩ := newPE X0 hx hZ (hw _ (List.mem_of_getElem? (i := 6) rfl)) e0 (g := (mkF m 15 #[vR t, vI (Int32.ofNat q), .unset] [(.int (Int32.ofNat q))])) rfl (hb hby dC2_15) rfl (own_n0 (by omega)) (cap := 72) (by rw [own_n32 (by omega)]; omega) (by decide) (by decide) (by decide) (ad := "[B") (by decide)
 obtain ⟨b2, g2⟩ : ∃ z, z = h0.size := ⟨_, rfl⟩
 rw [← g2] at A2 Ea2 st2
 have lt2 : b2 < h2.size := A2.lt
 have V2 : Arv Z h2 b2 k2 .byte (Int32.ofNat q) (List.replicate q (.int (0 : Int32))) (.int (0 : Int32)) := (Arv.new A2 (own_n0 (by omega))).pad (pad_rep [] (.int (0 : Int32)) q)
 have sz2 : h0.size ≤ h2.size := E2.1
 have K2 : Keep h0 h2 [] := K0.ext E2
 refine own_st st2 ?_
 refine own_st (fun tq kq => XS.astoreN X2.here hx rfl (hb hby dC2_17) rfl rfl (l' := #[vR t, vI (Int32.ofNat q), vR b2]) rfl kq) ?_
 refine s_aloadN X2 hx (hb hby dC2_18) rfl rfl ?_
 refine s_iconst X2 hx (hb hby dC2_19) ?_
 refine s_aloadN X2 hx (hb hby dC2_20) rfl rfl ?_
 refine s_iconst X2 hx (hb hby dC2_21) ?_
 refine s_aloadN X2 hx (hb hby dC2_22) rfl rfl ?_
 obtain ⟨cl3, Ar3, q3, S_3, N_3, H_3, G_3⟩ := id (Vt.ext E2)
 refine own_st (fun tq kq => X2.arraylength hx (by rw [e2]; exact Ar3.1) (State.isArrayOf_alike hZ.alike Ar3.2.1) (g := (mkF m 23 #[vR t, vI (Int32.ofNat q), vR b2] [(.ref t), (.int 0), (.ref b2), (.int 0), (.ref t)])) rfl rfl (hb hby dC2_23) _ kq) ?_
 rw [len_of S_3 N_3]
 show own_G p e below _ (T2.setTop (mkF m 24 #[vR t, vI (Int32.ofNat q), vR b2] [(.int (Int32.ofNat mm)), (.int 0), (.ref b2), (.int 0), (.ref t)]))
 refine s_iloadN X2 hx (hb hby dC2_24) rfl ?_
 obtain ⟨_, _, ⟨T4, L4, k4, n4⟩, -, X4, ⟨Lc4, hQ4, l4, y4, z4⟩, st4⟩ := Jvm.LawKit.callS X2 hx (y := mN26) hown (mvT hZ (wd109 hw)) (mvT hZ (wd110 hw)) (mvT hZ (wd101 hw)) (mvT hZ (wd111 hw)) (by decide) (own_backN (W := 4) (own_minq l Z a0 hw [] ((Int32.ofNat mm)) ((Int32.ofNat q)) h2 n0 (by omega) (X00.keep K2 all0) (own_ilt hq (by omega))) hZ (wd111 hw) (wd101 hw) (by decide) (by decide)) (g := (mkF m 25 #[vR t, vI (Int32.ofNat q), vR b2] [(.int (Int32.ofNat q)), (.int (Int32.ofNat mm)), (.int 0), (.ref b2), (.int 0), (.ref t)])) rfl (by rw [hml]; rfl) (argsL := [(.int (Int32.ofNat mm)), (.int (Int32.ofNat q))]) (rest := [(.int 0), (.ref b2), (.int 0), (.ref t)]) (lenOf own_pd18 rfl) rfl (Nat.le_of_eq rfl) (hb hby dC2_25) (fun _ _ => ⟨rfl, e2, (by decide : 1 + 0 ≤ _), (by decide : 72 + 0 ≤ _)⟩)
 dsimp only [Pt.U, Pt.locs, Pt.cells, Pt.slots] at X4 l4 y4 z4 st4 hQ4
 subst l4 y4 z4
 obtain ⟨rfl, Nq4, sm4⟩ := hQ4
 have N4 := Fr.app N0 Nq4
 refine own_st st4 ?_
 obtain ⟨T5, h5, L5, X5, e5, N5, KK5, V5, st5⟩ := cpA X4 hx hZ hown (wd112 hw) (wd115 hw) (wd113 hw) (wd114 hw) sm4 (Vt.ext E2) V2 (sp := (0 : Int32)) (dp := (0 : Int32)) (nn := (Int32.ofNat q)) (us := us) (Or.inl ⟨rfl, rfl⟩) (by decide) (by decide) (own_n0 (by omega)) (by rw [own_n32 (by omega), own_n32 (by omega)]; show 0 + _ ≤ _; omega) (by rw [own_n32 (by omega)]; show 0 + _ ≤ _; omega) (own_hus1 hu (by omega)) (by rw [own_n32 (by omega)]; simp only [List.length_replicate]; show 0 + _ ≤ _; omega) N4 (own_le (by omega)) (g := (mkF m 28 #[vR t, vI (Int32.ofNat q), vR b2] [(.int (Int32.ofNat q)), (.int 0), (.ref b2), (.int 0), (.ref t)])) rfl (by rw [hml]; rfl) (rest := []) rfl (hb hby dC2_28) (by decide) (W := 0) (Nat.le_of_eq rfl) (by decide)
 have sz5 : h2.size ≤ h5.size := KK5.1
 have K5 : Keep h0 h5 [] := K2.trans KK5 (allS (Or.inr (own_le (by omega))) all0)
 rw [own_cutq hu (by omega)] at V5
 refine own_st st5 ?_
 refine s_aloadN X5 hx (hb hby dC2_31) rfl rfl ?_
 show own_G p e below _ (T5.setTop (mkF m 32 #[vR t, vI (Int32.ofNat q), vR b2] [(.ref b2)]))
 exact own_retN X5 (v := some (.ref b2)) (fun h => by rw [Bd.returns] at h; cases h) Bd.notSynchronized (fun fs hr => retOut X5 hx Bd.returns rfl (Or.inr (Or.inr (Or.inr (Or.inr ⟨rfl, rfl, rfl⟩)))) (hb hby dC2_32) hr) (by decide) (by decide) (by rw [e5]; exact ⟨b2, _, rfl, N5, K5, (by omega), V5.lt, (Ea2.keep KK5), V5⟩)

def Q_own_s2L (Z : State) (x t y : Nat) (k : ClassId) (cs : List Int32) (v0 c0 : Value) (G1 : Int32) (h0 : Heap) (n0 : Nat) (v : Option Value) (h : Heap) (L : List Loc) : Prop := v = none ∧ Fr n0 L ∧ Keep h0 h [y] ∧ ∃ (r : Nat) (kr : ClassId), h0.size ≤ r ∧ r < h.size ∧ Exa Z h y "java/lang/String" ∧ Fld Z h y "java/lang/String" "value" "[B" (.ref r) ∧ Fld Z h y "java/lang/String" "coder" "B" (.int (0 : Int32)) ∧ Exa Z h r "[B" ∧ Arv Z h r kr .byte (Int32.ofNat cs.length) (own_bt cs) (.int 0)
theorem ef_own_s2L (m : MethodId) (x0 : Nat) (x1 : Nat) : entryFrame m #[(.ref x0), (.ref x1), .null] 5 = mkF m 0 #[.val (.ref x0), .val (.ref x1), .val .null, .unset, .unset] [] := by first | (simp [entryFrame, mkF, argsToLocals, Value.category]; done) | rfl
theorem own_s2L (l : Launch) (Z : State) (a0 : Array Value) (hw : hWt a0 Z) (ws : List Jvm.Cond) (x t y : Nat) (k : ClassId) (cs : List Int32) (v0 c0 : Value) (G1 : Int32) (h0 : Heap) (n0 : Nat) (Z0 : n0 ≤ h0.size) (X00 : Old Z n0 h0) (Ey : Exa Z h0 y "java/lang/String") (Gv : Fld Z h0 y "java/lang/String" "value" "[B" v0) (Gc : Fld Z h0 y "java/lang/String" "coder" "B" c0) (B : own_LB Z h0 x t k cs) (hl : cs.length < 34) (gy : n0 ≤ y) (nyx : y ≠ x) (nyt : y ≠ t) (O2 : Sta Z Z.heap "java/lang/String" "COMPACT_STRINGS" "Z" (.int G1)) (P5 : ¬ (G1 = (0 : Int32))) :
 own_MN l mN39 jdk_42_method_150_code 5 none ws rm_3_1_72_76 Z #[(.ref y), (.ref x), .null] h0 (Q_own_s2L Z x t y k cs v0 c0 G1 h0 n0) := by
 refine own_bodyN (plainFor_of_name own_pn0) fun p e s m below meth c s₁ Bd hx hby hml hown hZ X0 e0 => ?_
 have hnm := (name_of_methodNamed Bd.named Bd.method).1
 have N0 := Fr.nil n0
 have K0 : Keep h0 h0 [y] := Keep.refl h0 [y]
 refine own_st (fun tq kq => castTop (ef_own_s2L m (y) (x)) kq) ?_
 show own_G p e below _ (s₁.setTop (mkF m 0 #[vR y, vR x, .val .null, .unset, .unset] []))
 have hws0 : ∀ z ∈ [y], n0 ≤ z := allS gy all0
 obtain ⟨Ex, Fv, Fd, Fn, Fm, Vt⟩ := id B
 have ltx : x < h0.size := Fv.lt
 have ltt : t < h0.size := Vt.lt
 have lty : y < h0.size := Gv.lt
 refine s_aloadN X0 hx (hb hby dS2x_0) rfl rfl ?_
 obtain ⟨T1, X1, e1, st1⟩ := initO X0 hx hZ hown (wd20 hw) (wd21 hw) (wd22 hw) e0 (g := (mkF m 1 #[vR y, vR x, .val .null, .unset, .unset] [(.ref y)])) rfl (by rw [hml]; rfl) rfl (hb hby dS2x_1) (by decide) (W := 0) (Nat.le_of_eq rfl) (by decide)
 refine own_st st1 ?_
 refine s_aloadN X1 hx (hb hby dS2x_4) rfl rfl ?_
 obtain ⟨cq2, kq2, q2a, q2b, q2c⟩ := isOf hZ e1 Ex
 obtain ⟨_, _, ⟨T2, L2, k2, n2⟩, -, X2, ⟨Lc2, hQ2, l2, y2, z2⟩, st2⟩ := X1.virtualBack hx (y := mN33) (z := mN33) hown (mvT hZ (wd146 hw)) (mvT hZ (wd147 hw)) (notFace_of_selects (args := #[]) (mvT hZ (wd149 hw))) (mvT hZ (wd149 hw)) (mvT hZ (wd148 hw)) (by decide) (own_backN (W := 0) (own_gv l Z a0 hw [] (x) (t) h0 n0 (by omega) (X00.keep K0 hws0) Fv) hZ (wd150 hw) (wd52 hw) (by decide) (by decide)) q2a q2c (g := (mkF m 5 #[vR y, vR x, .val .null, .unset, .unset] [(.ref x)])) rfl (by rw [hml]; rfl) (Steps.refl _) (argsL := []) (rest := []) (lenOf own_pd26 rfl) rfl (Nat.le_of_eq rfl) (hb hby dS2x_5) (fun _ _ => ⟨rfl, e1, (by decide : 0 + 0 ≤ _), (by decide : 0 + 0 ≤ _)⟩)
 dsimp only [Pt.U, Pt.locs, Pt.cells, Pt.slots] at X2 l2 y2 z2 st2 hQ2
 subst l2 y2 z2
 obtain ⟨rfl, Nq2, sm2⟩ := hQ2
 have N2 := Fr.app N0 Nq2
 refine own_st (fun tq kq => st2.trans kq) ?_
 refine own_st (fun tq kq => XS.astoreN X2.here hx rfl (hb hby dS2x_8) rfl rfl (l' := #[vR y, vR x, .val .null, vR t, .unset]) rfl kq) ?_
 refine s_aloadN X2 hx (hb hby dS2x_9) rfl rfl ?_
 obtain ⟨cq3, kq3, q3a, q3b, q3c⟩ := isOf hZ sm2 Ex
 obtain ⟨_, _, ⟨T3, L3, k3, n3⟩, -, X3, ⟨Lc3, hQ3, l3, y3, z3⟩, st3⟩ := X2.virtualBack hx (y := mN34) (z := mN35) hown (mvT hZ (wd151 hw)) (mvT hZ (wd152 hw)) (own_nf (args := #[]) (mvT hZ (wd88 hw)) rfl) (mvT hZ (wd154 hw)) (mvT hZ (wd155 hw)) (by decide) (own_backN (W := 0) (own_sl l Z a0 hw [] (x) (cs.length) h0 n0 (by omega) (X00.keep K0 hws0) Ex Fn) hZ (wd156 hw) (wd44 hw) (by decide) (by decide)) q3a q3c (g := (mkF m 10 #[vR y, vR x, .val .null, vR t, .unset] [(.ref x)])) rfl (by rw [hml]; rfl) (Steps.refl _) (argsL := []) (rest := []) (lenOf own_pd20 rfl) rfl (Nat.le_of_eq rfl) (hb hby dS2x_10) (fun _ _ => ⟨rfl, sm2, (by decide : 0 + 0 ≤ _), (by decide : 0 + 0 ≤ _)⟩)
 dsimp only [Pt.U, Pt.locs, Pt.cells, Pt.slots] at X3 l3 y3 z3 st3 hQ3
 subst l3 y3 z3
 obtain ⟨rfl, Nq3, sm3⟩ := hQ3
 have N3 := Fr.app N2 Nq3
 refine own_st (fun tq kq => st3.trans kq) ?_
 refine own_st (fun tq kq => XS.istore X3.here hx rfl (hb hby dS2x_13) rfl (l' := #[vR y, vR x, .val .null, vR t, vI (Int32.ofNat cs.length)]) rfl kq) ?_
 refine s_aloadN X3 hx (hb hby dS2x_15) rfl rfl ?_
 obtain ⟨cq4, kq4, q4a, q4b, q4c⟩ := isOf hZ sm3 Ex
 obtain ⟨_, _, ⟨T4, L4, k4, n4⟩, -, X4, ⟨Lc4, hQ4, l4, y4, z4⟩, st4⟩ := X3.virtualBack hx (y := mN3) (z := mN3) hown (mvT hZ (wd159 hw)) (mvT hZ (wd160 hw)) (notFace_of_selects (args := #[]) (mvT hZ (wd162 hw))) (mvT hZ (wd162 hw)) (mvT hZ (wd161 hw)) (by decide) (own_backN (W := 0) (own_bl0 l Z a0 hw [] (x) (G1) h0 n0 (by omega) (X00.keep K0 hws0) Fd O2 P5) hZ (wd163 hw) (wd52 hw) (by decide) (by decide)) q4a q4c (g := (mkF m 16 #[vR y, vR x, .val .null, vR t, vI (Int32.ofNat cs.length)] [(.ref x)])) rfl (by rw [hml]; rfl) (Steps.refl _) (argsL := []) (rest := []) (lenOf own_pd13 rfl) rfl (Nat.le_of_eq rfl) (hb hby dS2x_16) (fun _ _ => ⟨rfl, sm3, (by decide : 0 + 0 ≤ _), (by decide : 0 + 0 ≤ _)⟩)
 dsimp only [Pt.U, Pt.locs, Pt.cells, Pt.slots] at X4 l4 y4 z4 st4 hQ4
 subst l4 y4 z4
 obtain ⟨rfl, Nq4, sm4⟩ := hQ4
 have N4 := Fr.app N3 Nq4
 refine own_st (fun tq kq => st4.trans kq) ?_
 refine own_st (fun tq kq => XS.ifNo X4.here hx rfl (hb hby dS2x_19) rfl ((if0 _ _).trans (feq (by decide : ¬ ((1 : Int32) = (0 : Int32)))).1) kq) ?_
 refine s_aloadN X4 hx (hb hby dS2x_22) rfl rfl ?_
 refine s_iconst X4 hx (hb hby dS2x_23) ?_
 obtain ⟨T5, h5, X5, e5, W5, st5⟩ := putF X4 hx hZ hown (host := "") (Or.inl (wd34 hw)) Via.refl sm4 Gc Ey (Or.inr ⟨(wd35 hw), rfl, hnm⟩) (wd11 hw) (ty := .byte) (by decide) rfl rfl (g := (mkF m 24 #[vR y, vR x, .val .null, vR t, vI (Int32.ofNat cs.length)] [(.int 0), (.ref y)])) rfl rfl (hb hby dS2x_24)
 have Fw5 := Gc.same W5
 have sz5 : h0.size ≤ h5.size := (Keep.of_wr W5).1
 have K5 : Keep h0 h5 [y] := K0.wr W5 (Or.inl (by simp))
 have N5 := Fr.snoc X5 N4 (own_le (by omega))
 refine own_st st5 ?_
 refine s_aloadN X5 hx (hb hby dS2x_27) rfl rfl ?_
 refine s_aloadN X5 hx (hb hby dS2x_28) rfl rfl ?_
 refine s_iconst X5 hx (hb hby dS2x_29) ?_
 refine s_iload X5 hx (hb hby dS2x_30) rfl ?_
 obtain ⟨_, _, ⟨T6, L6, k6, n6⟩, -, X6, ⟨Lc6, hQ6, l6, y6, z6⟩, st6⟩ := Jvm.LawKit.callS X5 hx (y := mN38) hown (mvT hZ (wd164 hw)) (mvT hZ (wd165 hw)) (mvT hZ (wd107 hw)) (mvT hZ (wd166 hw)) (by decide) (own_backN (W := 1) (own_cr l Z a0 hw [] (t) (cs.length) (34) (k) (own_bt cs) (_) h5 n0 (by omega) (X00.keep K5 hws0) (Vt.other W5 (own_ne (by omega))) (by simp) (by omega) (by omega)) hZ (wd166 hw) (wd107 hw) (by decide) (by decide)) (g := (mkF m 32 #[vR y, vR x, .val .null, vR t, vI (Int32.ofNat cs.length)] [(.int (Int32.ofNat cs.length)), (.int 0), (.ref t), (.ref y)])) rfl (by rw [hml]; rfl) (argsL := [(.ref t), (.int 0), (.int (Int32.ofNat cs.length))]) (rest := [(.ref y)]) (lenOf own_pd25 rfl) rfl (Nat.le_of_eq rfl) (hb hby dS2x_32) (fun _ _ => ⟨rfl, e5, (by decide : 0 + 1 ≤ _), (by decide : 0 + 72 ≤ _)⟩)
 dsimp only [Pt.U, Pt.locs, Pt.cells, Pt.slots] at X6 l6 y6 z6 st6 hQ6
 subst l6 y6 z6
 obtain ⟨r6, kr6, rfl, Nq6, Kq6, gr6, lr6, Er6, Vr6⟩ := hQ6
 have KK6 : Keep h5 T6.heap [] := Kq6
 have sz6 : h5.size ≤ T6.heap.size := KK6.1
 have K6 : Keep h0 T6.heap [y] := K5.trans KK6 all0
 have N6 := Fr.app N5 Nq6
 refine own_st st6 ?_
 obtain ⟨T7, h7, X7, e7, W7, st7⟩ := putF X6 hx hZ hown (host := "") (Or.inl (wd36 hw)) Via.refl rfl ((Gv.other W5 (Or.inr (slot_ne (Or.inr (wd37 hw)) (Or.inr (wd35 hw)) (by decide) (t := (.array .byte)) (t' := .byte) (by decide) (by decide)))).keep KK6 nin0) ((Ey.wr W5).keep KK6) (Or.inr ⟨(wd37 hw), rfl, hnm⟩) (wd11 hw) (ty := (.array .byte)) (by decide) rfl rfl (g := (mkF m 35 #[vR y, vR x, .val .null, vR t, vI (Int32.ofNat cs.length)] [(.ref r6), (.ref y)])) rfl rfl (hb hby dS2x_35)
 have Fw7 := ((Gv.other W5 (Or.inr (slot_ne (Or.inr (wd37 hw)) (Or.inr (wd35 hw)) (by decide) (t := (.array .byte)) (t' := .byte) (by decide) (by decide)))).keep KK6 nin0).same W7
 have sz7 : T6.heap.size ≤ h7.size := (Keep.of_wr W7).1
 have K7 : Keep h0 h7 [y] := K6.wr W7 (Or.inl (by simp))
 have N7 := Fr.snoc X7 N6 (own_le (by omega))
 refine own_st st7 ?_
 refine own_st (fun tq kq => XS.goto X7.here hx rfl (pc0 := 38) (pc' := 97) rfl (hb hby dS2x_38) (by decide) (by decide) kq) ?_
 exact own_retN X7 (v := none) (fun _ => rfl) Bd.notSynchronized (fun fs hr => X7.returnOut hx Bd.returns (hb hby dS2x_97) hr) (by decide) (by decide) (by rw [e7]; exact ⟨rfl, N7, K7, r6, _, (by omega), (Vr6.other W7 (own_ne (by omega))).lt, (((Ey.wr W5).keep KK6).wr W7), Fw7, ((Fw5.keep KK6 nin0).other W7 (Or.inr (slot_ne (Or.inr (wd35 hw)) (Or.inr (wd37 hw)) (by decide) (t := .byte) (t' := (.array .byte)) (by decide) (by decide)))), (Er6.wr W7), (Vr6.other W7 (own_ne (by omega)))⟩)

def Q_own_s1L (Z : State) (x t y : Nat) (k : ClassId) (cs : List Int32) (v0 c0 : Value) (G1 : Int32) (h0 : Heap) (n0 : Nat) (v : Option Value) (h : Heap) (L : List Loc) : Prop := v = none ∧ Fr n0 L ∧ Keep h0 h [y] ∧ ∃ (r : Nat) (kr : ClassId), h0.size ≤ r ∧ r < h.size ∧ Exa Z h y "java/lang/String" ∧ Fld Z h y "java/lang/String" "value" "[B" (.ref r) ∧ Fld Z h y "java/lang/String" "coder" "B" (.int (0 : Int32)) ∧ Exa Z h r "[B" ∧ Arv Z h r kr .byte (Int32.ofNat cs.length) (own_bt cs) (.int 0)
theorem own_s1L (l : Launch) (Z : State) (a0 : Array Value) (hw : hWt a0 Z) (ws : List Jvm.Cond) (x t y : Nat) (k : ClassId) (cs : List Int32) (v0 c0 : Value) (G1 : Int32) (h0 : Heap) (n0 : Nat) (Z0 : n0 ≤ h0.size) (X00 : Old Z n0 h0) (Ey : Exa Z h0 y "java/lang/String") (Gv : Fld Z h0 y "java/lang/String" "value" "[B" v0) (Gc : Fld Z h0 y "java/lang/String" "coder" "B" c0) (B : own_LB Z h0 x t k cs) (hl : cs.length < 34) (gy : n0 ≤ y) (nyx : y ≠ x) (nyt : y ≠ t) (O2 : Sta Z Z.heap "java/lang/String" "COMPACT_STRINGS" "Z" (.int G1)) (P5 : ¬ (G1 = (0 : Int32))) :
 own_MN l mN40 jdk_42_method_53_code 2 none ws rm_4_1_72_94 Z #[(.ref y), (.ref x)] h0 (Q_own_s1L Z x t y k cs v0 c0 G1 h0 n0) := by
 refine own_bodyN (plainFor_of_name own_pn0) fun p e s m below meth c s₁ Bd hx hby hml hown hZ X0 e0 => ?_
 have hnm := (name_of_methodNamed Bd.named Bd.method).1
 have N0 := Fr.nil n0
 have K0 : Keep h0 h0 [y] := Keep.refl h0 [y]
 refine own_st (fun tq kq => castTop (ef_own_init1E m (y) (x)) kq) ?_
 show own_G p e below _ (s₁.setTop (mkF m 0 #[vR y, vR x] []))
 have hws0 : ∀ z ∈ [y], n0 ≤ z := allS gy all0
 obtain ⟨Ex, Fv, Fd, Fn, Fm, Vt⟩ := id B
 have ltx : x < h0.size := Fv.lt
 have ltt : t < h0.size := Vt.lt
 have lty : y < h0.size := Gv.lt
 refine s_aloadN X0 hx (hb hby dS1x_0) rfl rfl ?_
 refine s_aloadN X0 hx (hb hby dS1x_1) rfl rfl ?_
 refine own_st (fun tq kq => XS.aconstNull X0.here hx rfl (hb hby dS1x_2) kq) ?_
 obtain ⟨_, _, ⟨T1, L1, k1, n1⟩, -, X1, ⟨Lc1, hQ1, l1, y1, z1⟩, st1⟩ := X0.specialBack hx (y := mN39) rfl hown (mvT hZ (wd143 hw)) (mvT hZ (wd144 hw)) (mvT hZ (wd145 hw)) (by decide) (own_backN (W := 0) (own_s2L l Z a0 hw [] (x) (t) (y) (k) (cs) (v0) (c0) (G1) h0 n0 (by omega) (X00.keep K0 hws0) Ey Gv Gc B hl gy nyx nyt O2 P5) hZ (wd145 hw) (wd12 hw) (by decide) (by decide)) (g := (mkF m 3 #[vR y, vR x] [.null, (.ref x), (.ref y)])) rfl (by rw [hml]; rfl) (Steps.refl _) (a := y) (argsL := [(.ref x), .null]) (rest := []) (lenOf own_pd27 rfl) rfl (Nat.le_of_eq rfl) (hb hby dS1x_3) (fun _ _ => ⟨rfl, e0, (by decide : 0 + 1 ≤ _), (by decide : 0 + 72 ≤ _)⟩)
 dsimp only [Pt.U, Pt.locs, Pt.cells, Pt.slots] at X1 l1 y1 z1 st1 hQ1
 subst l1 y1 z1
 obtain ⟨rfl, Nq1, Kq1, R1⟩ := hQ1
 have KK1 : Keep h0 T1.heap [y] := Kq1
 have sz1 : h0.size ≤ T1.heap.size := KK1.1
 have K1 : Keep h0 T1.heap [y] := K0.trans KK1 (allS (Or.inl (by simp)) all0)
 have N1 := Fr.app N0 Nq1
 refine own_st (fun tq kq => st1.trans kq) ?_
 exact own_retN X1 (v := none) (fun _ => rfl) Bd.notSynchronized (fun fs hr => X1.returnOut hx Bd.returns (hb hby dS1x_6) hr) (by decide) (by decide) (by exact ⟨rfl, N1, K1, R1⟩)

def Q_own_tsL (Z : State) (x t : Nat) (k : ClassId) (cs : List Int32) (G1 : Int32) (h0 : Heap) (n0 : Nat) (v : Option Value) (h : Heap) (L : List Loc) : Prop := ∃ a : Nat, v = some (.ref a) ∧ Fr n0 L ∧ Keep h0 h [] ∧ h0.size ≤ a ∧ a < h.size ∧ ∃ (r : Nat) (kr : ClassId), h0.size ≤ r ∧ r < h.size ∧ Exa Z h a "java/lang/String" ∧ Fld Z h a "java/lang/String" "value" "[B" (.ref r) ∧ Fld Z h a "java/lang/String" "coder" "B" (.int (0 : Int32)) ∧ Exa Z h r "[B" ∧ Arv Z h r kr .byte (Int32.ofNat cs.length) (own_bt cs) (.int 0)
theorem own_tsL (l : Launch) (Z : State) (a0 : Array Value) (hw : hWt a0 Z) (ws : List Jvm.Cond) (x t : Nat) (k : ClassId) (cs : List Int32) (G1 : Int32) (h0 : Heap) (n0 : Nat) (Z0 : n0 ≤ h0.size) (X00 : Old Z n0 h0) (B : own_LB Z h0 x t k cs) (hl : cs.length < 34) (O2 : Sta Z Z.heap "java/lang/String" "COMPACT_STRINGS" "Z" (.int G1)) (P5 : ¬ (G1 = (0 : Int32))) :
 own_MN l mN41 jdk_67_method_42_code 1 (some (.object "java/lang/String")) ws rm_5_2_76_110 Z #[(.ref x)] h0 (Q_own_tsL Z x t k cs G1 h0 n0) := by
 refine own_bodyN (plainFor_of_name own_pn9) fun p e s m below meth c s₁ Bd hx hby hml hown hZ X0 e0 => ?_
 have N0 := Fr.nil n0
 have K0 : Keep h0 h0 [] := Keep.refl h0 []
 refine own_st (fun tq kq => castTop (ef_own_co0 m (x)) kq) ?_
 show own_G p e below _ (s₁.setTop (mkF m 0 #[vR x] []))
 obtain ⟨Ex, Fv, Fd, Fn, Fm, Vt⟩ := id B
 have ltx : x < h0.size := Fv.lt
 have ltt : t < h0.size := Vt.lt
 obtain ⟨T1, h1, X1, e1, E1, A1, D1, -, st1⟩ := newO X0 hx hZ hown (wd139 hw) (wd11 hw) (wd12 hw) e0 (g := (mkF m 0 #[vR x] [])) rfl (hb hby dTSx_0) (by decide) (by decide)
 obtain ⟨b1, g1⟩ : ∃ z, z = h0.size := ⟨_, rfl⟩
 rw [← g1] at A1 D1 st1
 have lt1 : b1 < h1.size := A1.lt
 have sz1 : h0.size ≤ h1.size := E1.1
 have K1 : Keep h0 h1 [] := K0.ext E1
 have F1_coder : Fld Z h1 b1 "java/lang/String" "coder" "B" (.int 0) := D1 (Or.inr (wd35 hw)) (ty := .byte) (by decide)
 have F1_value : Fld Z h1 b1 "java/lang/String" "value" "[B" .null := D1 (Or.inr (wd37 hw)) (ty := (.array .byte)) (by decide)
 refine own_st st1 ?_
 refine own_st (fun tq kq => XS.dup X1.here hx rfl (hb hby dTSx_3) rfl rfl kq) ?_
 refine s_aloadN X1 hx (hb hby dTSx_4) rfl rfl ?_
 obtain ⟨_, _, ⟨T2, L2, k2, n2⟩, -, X2, ⟨Lc2, hQ2, l2, y2, z2⟩, st2⟩ := X1.specialBack hx (y := mN40) rfl hown (mvT hZ (wd140 hw)) (mvT hZ (wd141 hw)) (mvT hZ (wd142 hw)) (by decide) (own_backN (W := 1) (own_s1L l Z a0 hw [] (x) (t) (b1) (k) (cs) (.null) (.int 0) (G1) h1 n0 (by omega) (X00.keep K1 all0) A1 F1_value F1_coder ⟨(Ex.ext E1), (Fv.ext E1), (Fd.ext E1), (Fn.ext E1), (Fm.ext E1), (Vt.ext E1)⟩ hl (by omega) (own_ne (by omega)) (own_ne (by omega)) O2 P5) hZ (wd142 hw) (wd12 hw) (by decide) (by decide)) (g := (mkF m 5 #[vR x] [(.ref x), (.ref b1), (.ref b1)])) rfl (by rw [hml]; rfl) (Steps.refl _) (a := b1) (argsL := [(.ref x)]) (rest := [(.ref b1)]) (lenOf own_pd28 rfl) rfl (Nat.le_of_eq rfl) (hb hby dTSx_5) (fun _ _ => ⟨rfl, e1, (by decide : 1 + 1 ≤ _), (by decide : 4 + 72 ≤ _)⟩)
 dsimp only [Pt.U, Pt.locs, Pt.cells, Pt.slots] at X2 l2 y2 z2 st2 hQ2
 subst l2 y2 z2
 obtain ⟨rfl, Nq2, Kq2, r2, kr2, gr2, lr2, R2⟩ := hQ2
 have KK2 : Keep h1 T2.heap [b1] := Kq2
 have sz2 : h1.size ≤ T2.heap.size := KK2.1
 have K2 : Keep h0 T2.heap [] := K1.trans KK2 (allS (Or.inr (own_le (by omega))) all0)
 have N2 := Fr.app N0 Nq2
 refine own_st (fun tq kq => st2.trans kq) ?_
 exact own_retN X2 (v := some (.ref b1)) (fun h => by rw [Bd.returns] at h; cases h) Bd.notSynchronized (fun fs hr => retOut X2 hx Bd.returns rfl (Or.inr (Or.inr (Or.inr (Or.inr ⟨rfl, rfl, rfl⟩)))) (hb hby dTSx_8) hr) (by decide) (by decide) (by exact ⟨b1, rfl, N2, K2, (by omega), R2.2.1.lt, r2, kr2, (by omega), lr2, R2⟩)

def Q_own_s2W (Z : State) (x t y : Nat) (k : ClassId) (cs : List Int32) (v0 c0 : Value) (G1 : Int32) (h0 : Heap) (n0 : Nat) (v : Option Value) (h : Heap) (L : List Loc) : Prop := v = none ∧ Fr n0 L ∧ Keep h0 h [y] ∧ ∃ (r : Nat) (kr : ClassId), h0.size ≤ r ∧ r < h.size ∧ Exa Z h y "java/lang/String" ∧ Fld Z h y "java/lang/String" "value" "[B" (.ref r) ∧ Fld Z h y "java/lang/String" "coder" "B" (.int (1 : Int32)) ∧ Exa Z h r "[B" ∧ Arv Z h r kr .byte (Int32.ofNat (2 * cs.length)) (own_wb cs) (.int 0)
theorem own_s2W (l : Launch) (Z : State) (a0 : Array Value) (hw : hWt a0 Z) (ws : List Jvm.Cond) (x t y : Nat) (k : ClassId) (cs : List Int32) (v0 c0 : Value) (G1 : Int32) (h0 : Heap) (n0 : Nat) (Z0 : n0 ≤ h0.size) (X00 : Old Z n0 h0) (Ey : Exa Z h0 y "java/lang/String") (Gv : Fld Z h0 y "java/lang/String" "value" "[B" v0) (Gc : Fld Z h0 y "java/lang/String" "coder" "B" c0) (B : own_WB Z h0 x t k cs) (hl : cs.length < 34) (gy : n0 ≤ y) (nyx : y ≠ x) (nyt : y ≠ t) (O2 : Sta Z Z.heap "java/lang/String" "COMPACT_STRINGS" "Z" (.int G1)) (P5 : ¬ (G1 = (0 : Int32))) :
 own_MN l mN39 jdk_42_method_150_code 5 none ws rm_3_1_72_76 Z #[(.ref y), (.ref x), .null] h0 (Q_own_s2W Z x t y k cs v0 c0 G1 h0 n0) := by
 refine own_bodyN (plainFor_of_name own_pn0) fun p e s m below meth c s₁ Bd hx hby hml hown hZ X0 e0 => ?_
 have hnm := (name_of_methodNamed Bd.named Bd.method).1
 have N0 := Fr.nil n0
 have K0 : Keep h0 h0 [y] := Keep.refl h0 [y]
 refine own_st (fun tq kq => castTop (ef_own_s2L m (y) (x)) kq) ?_
 show own_G p e below _ (s₁.setTop (mkF m 0 #[vR y, vR x, .val .null, .unset, .unset] []))
 have hws0 : ∀ z ∈ [y], n0 ≤ z := allS gy all0
 obtain ⟨Ex, Fv, Fd, Fn, Fm, Vt⟩ := id B
 have ltx : x < h0.size := Fv.lt
 have ltt : t < h0.size := Vt.lt
 have lty : y < h0.size := Gv.lt
 refine s_aloadN X0 hx (hb hby dS2x_0) rfl rfl ?_
 obtain ⟨T1, X1, e1, st1⟩ := initO X0 hx hZ hown (wd20 hw) (wd21 hw) (wd22 hw) e0 (g := (mkF m 1 #[vR y, vR x, .val .null, .unset, .unset] [(.ref y)])) rfl (by rw [hml]; rfl) rfl (hb hby dS2x_1) (by decide) (W := 0) (Nat.le_of_eq rfl) (by decide)
 refine own_st st1 ?_
 refine s_aloadN X1 hx (hb hby dS2x_4) rfl rfl ?_
 obtain ⟨cq2, kq2, q2a, q2b, q2c⟩ := isOf hZ e1 Ex
 obtain ⟨_, _, ⟨T2, L2, k2, n2⟩, -, X2, ⟨Lc2, hQ2, l2, y2, z2⟩, st2⟩ := X1.virtualBack hx (y := mN33) (z := mN33) hown (mvT hZ (wd146 hw)) (mvT hZ (wd147 hw)) (notFace_of_selects (args := #[]) (mvT hZ (wd149 hw))) (mvT hZ (wd149 hw)) (mvT hZ (wd148 hw)) (by decide) (own_backN (W := 0) (own_gv l Z a0 hw [] (x) (t) h0 n0 (by omega) (X00.keep K0 hws0) Fv) hZ (wd150 hw) (wd52 hw) (by decide) (by decide)) q2a q2c (g := (mkF m 5 #[vR y, vR x, .val .null, .unset, .unset] [(.ref x)])) rfl (by rw [hml]; rfl) (Steps.refl _) (argsL := []) (rest := []) (lenOf own_pd26 rfl) rfl (Nat.le_of_eq rfl) (hb hby dS2x_5) (fun _ _ => ⟨rfl, e1, (by decide : 0 + 0 ≤ _), (by decide : 0 + 0 ≤ _)⟩)
 dsimp only [Pt.U, Pt.locs, Pt.cells, Pt.slots] at X2 l2 y2 z2 st2 hQ2
 subst l2 y2 z2
 obtain ⟨rfl, Nq2, sm2⟩ := hQ2
 have N2 := Fr.app N0 Nq2
 refine own_st (fun tq kq => st2.trans kq) ?_
 refine own_st (fun tq kq => XS.astoreN X2.here hx rfl (hb hby dS2x_8) rfl rfl (l' := #[vR y, vR x, .val .null, vR t, .unset]) rfl kq) ?_
 refine s_aloadN X2 hx (hb hby dS2x_9) rfl rfl ?_
 obtain ⟨cq3, kq3, q3a, q3b, q3c⟩ := isOf hZ sm2 Ex
 obtain ⟨_, _, ⟨T3, L3, k3, n3⟩, -, X3, ⟨Lc3, hQ3, l3, y3, z3⟩, st3⟩ := X2.virtualBack hx (y := mN34) (z := mN35) hown (mvT hZ (wd151 hw)) (mvT hZ (wd152 hw)) (own_nf (args := #[]) (mvT hZ (wd88 hw)) rfl) (mvT hZ (wd154 hw)) (mvT hZ (wd155 hw)) (by decide) (own_backN (W := 0) (own_sl l Z a0 hw [] (x) (cs.length) h0 n0 (by omega) (X00.keep K0 hws0) Ex Fn) hZ (wd156 hw) (wd44 hw) (by decide) (by decide)) q3a q3c (g := (mkF m 10 #[vR y, vR x, .val .null, vR t, .unset] [(.ref x)])) rfl (by rw [hml]; rfl) (Steps.refl _) (argsL := []) (rest := []) (lenOf own_pd20 rfl) rfl (Nat.le_of_eq rfl) (hb hby dS2x_10) (fun _ _ => ⟨rfl, sm2, (by decide : 0 + 0 ≤ _), (by decide : 0 + 0 ≤ _)⟩)
 dsimp only [Pt.U, Pt.locs, Pt.cells, Pt.slots] at X3 l3 y3 z3 st3 hQ3
 subst l3 y3 z3
 obtain ⟨rfl, Nq3, sm3⟩ := hQ3
 have N3 := Fr.app N2 Nq3
 refine own_st (fun tq kq => st3.trans kq) ?_
 refine own_st (fun tq kq => XS.istore X3.here hx rfl (hb hby dS2x_13) rfl (l' := #[vR y, vR x, .val .null, vR t, vI (Int32.ofNat cs.length)]) rfl kq) ?_
 refine s_aloadN X3 hx (hb hby dS2x_15) rfl rfl ?_
 obtain ⟨cq4, kq4, q4a, q4b, q4c⟩ := isOf hZ sm3 Ex
 obtain ⟨_, _, ⟨T4, L4, k4, n4⟩, -, X4, ⟨Lc4, hQ4, l4, y4, z4⟩, st4⟩ := X3.virtualBack hx (y := mN3) (z := mN3) hown (mvT hZ (wd159 hw)) (mvT hZ (wd160 hw)) (notFace_of_selects (args := #[]) (mvT hZ (wd162 hw))) (mvT hZ (wd162 hw)) (mvT hZ (wd161 hw)) (by decide) (own_backN (W := 0) (own_bl1 l Z a0 hw [] (x) (G1) h0 n0 (by omega) (X00.keep K0 hws0) Fd O2 P5) hZ (wd163 hw) (wd52 hw) (by decide) (by decide)) q4a q4c (g := (mkF m 16 #[vR y, vR x, .val .null, vR t, vI (Int32.ofNat cs.length)] [(.ref x)])) rfl (by rw [hml]; rfl) (Steps.refl _) (argsL := []) (rest := []) (lenOf own_pd13 rfl) rfl (Nat.le_of_eq rfl) (hb hby dS2x_16) (fun _ _ => ⟨rfl, sm3, (by decide : 0 + 0 ≤ _), (by decide : 0 + 0 ≤ _)⟩)
 dsimp only [Pt.U, Pt.locs, Pt.cells, Pt.slots] at X4 l4 y4 z4 st4 hQ4
 subst l4 y4 z4
 obtain ⟨rfl, Nq4, sm4⟩ := hQ4
 have N4 := Fr.app N3 Nq4
 refine own_st (fun tq kq => st4.trans kq) ?_
 refine own_st (fun tq kq => XS.ifYes X4.here hx rfl (pc0 := 19) (pc' := 41) rfl (hb hby dS2x_19) rfl ((if0 _ _).trans (teq (by decide : ((0 : Int32) = (0 : Int32)))).1) (by decide) (by decide) kq) ?_
 obtain ⟨T5, X5, e5, st5⟩ := getS2 X4 hx hZ hown (host := "") (Or.inl (wd23 hw)) Via.refl sm4 (O2.ext (X00.keep K0 hws0).2) (g := (mkF m 41 #[vR y, vR x, .val .null, vR t, vI (Int32.ofNat cs.length)] [])) rfl (hb hby dS2x_41)
 refine own_st st5 ?_
 refine own_st (fun tq kq => XS.ifNo X5.here hx rfl (hb hby dS2x_44) rfl ((if0 _ _).trans (feq P5).1) kq) ?_
 refine s_aloadN X5 hx (hb hby dS2x_47) rfl rfl ?_
 obtain ⟨T6, X6, e6, st6⟩ := getF X5 hx hZ hown (host := "") (Or.inl (wd261 hw)) Via.refl e5 Fm (g := (mkF m 48 #[vR y, vR x, .val .null, vR t, vI (Int32.ofNat cs.length)] [(.ref x)])) rfl rfl (hb hby dS2x_48)
 refine own_st st6 ?_
 refine own_st (fun tq kq => XS.ifYes X6.here hx rfl (pc0 := 51) (pc' := 79) rfl (hb hby dS2x_51) rfl ((if0 _ _).trans (teq (by decide : ((0 : Int32) = (0 : Int32)))).1) (by decide) (by decide) kq) ?_
 refine s_aloadN X6 hx (hb hby dS2x_79) rfl rfl ?_
 refine s_iconst X6 hx (hb hby dS2x_80) ?_
 obtain ⟨T7, h7, X7, e7, W7, st7⟩ := putF X6 hx hZ hown (host := "") (Or.inl (wd34 hw)) Via.refl e6 Gc Ey (Or.inr ⟨(wd35 hw), rfl, hnm⟩) (wd11 hw) (ty := .byte) (by decide) rfl rfl (g := (mkF m 81 #[vR y, vR x, .val .null, vR t, vI (Int32.ofNat cs.length)] [(.int 1), (.ref y)])) rfl rfl (hb hby dS2x_81)
 have Fw7 := Gc.same W7
 have sz7 : h0.size ≤ h7.size := (Keep.of_wr W7).1
 have K7 : Keep h0 h7 [y] := K0.wr W7 (Or.inl (by simp))
 have N7 := Fr.snoc X7 N4 (own_le (by omega))
 refine own_st st7 ?_
 refine s_aloadN X7 hx (hb hby dS2x_84) rfl rfl ?_
 refine s_aloadN X7 hx (hb hby dS2x_85) rfl rfl ?_
 refine s_iconst X7 hx (hb hby dS2x_86) ?_
 refine s_iload X7 hx (hb hby dS2x_87) rfl ?_
 refine s_iconst X7 hx (hb hby dS2x_89) ?_
 refine own_st (fun tq kq => XS.ishl X7.here hx rfl (hb hby dS2x_90) rfl kq) ?_
 show own_G p e below _ (T7.setTop (mkF m 91 #[vR y, vR x, .val .null, vR t, vI (Int32.ofNat cs.length)] [(.int ((Int32.ofNat cs.length) <<< ((1 : Int32) &&& 31))), (.int 0), (.ref t), (.ref y)]))
 rw [own_shl1 (by omega)]
 show own_G p e below _ (T7.setTop (mkF m 91 #[vR y, vR x, .val .null, vR t, vI (Int32.ofNat cs.length)] [(.int (Int32.ofNat (2 * cs.length))), (.int 0), (.ref t), (.ref y)]))
 obtain ⟨_, _, ⟨T8, L8, k8, n8⟩, -, X8, ⟨Lc8, hQ8, l8, y8, z8⟩, st8⟩ := Jvm.LawKit.callS X7 hx (y := mN38) hown (mvT hZ (wd164 hw)) (mvT hZ (wd165 hw)) (mvT hZ (wd107 hw)) (mvT hZ (wd166 hw)) (by decide) (own_backN (W := 1) (own_cr l Z a0 hw [] (t) ((2 * cs.length)) (68) (k) (own_wb cs) (_) h7 n0 (by omega) (X00.keep K7 hws0) (Vt.other W7 (own_ne (by omega))) (own_wb_len cs) (by omega) (by omega)) hZ (wd166 hw) (wd107 hw) (by decide) (by decide)) (g := (mkF m 91 #[vR y, vR x, .val .null, vR t, vI (Int32.ofNat cs.length)] [(.int (Int32.ofNat (2 * cs.length))), (.int 0), (.ref t), (.ref y)])) rfl (by rw [hml]; rfl) (argsL := [(.ref t), (.int 0), (.int (Int32.ofNat (2 * cs.length)))]) (rest := [(.ref y)]) (lenOf own_pd25 rfl) rfl (Nat.le_of_eq rfl) (hb hby dS2x_91) (fun _ _ => ⟨rfl, e7, (by decide : 0 + 1 ≤ _), (by decide : 0 + 72 ≤ _)⟩)
 dsimp only [Pt.U, Pt.locs, Pt.cells, Pt.slots] at X8 l8 y8 z8 st8 hQ8
 subst l8 y8 z8
 obtain ⟨r8, kr8, rfl, Nq8, Kq8, gr8, lr8, Er8, Vr8⟩ := hQ8
 have KK8 : Keep h7 T8.heap [] := Kq8
 have sz8 : h7.size ≤ T8.heap.size := KK8.1
 have K8 : Keep h0 T8.heap [y] := K7.trans KK8 all0
 have N8 := Fr.app N7 Nq8
 refine own_st st8 ?_
 obtain ⟨T9, h9, X9, e9, W9, st9⟩ := putF X8 hx hZ hown (host := "") (Or.inl (wd36 hw)) Via.refl rfl ((Gv.other W7 (Or.inr (slot_ne (Or.inr (wd37 hw)) (Or.inr (wd35 hw)) (by decide) (t := (.array .byte)) (t' := .byte) (by decide) (by decide)))).keep KK8 nin0) ((Ey.wr W7).keep KK8) (Or.inr ⟨(wd37 hw), rfl, hnm⟩) (wd11 hw) (ty := (.array .byte)) (by decide) rfl rfl (g := (mkF m 94 #[vR y, vR x, .val .null, vR t, vI (Int32.ofNat cs.length)] [(.ref r8), (.ref y)])) rfl rfl (hb hby dS2x_94)
 have Fw9 := ((Gv.other W7 (Or.inr (slot_ne (Or.inr (wd37 hw)) (Or.inr (wd35 hw)) (by decide) (t := (.array .byte)) (t' := .byte) (by decide) (by decide)))).keep KK8 nin0).same W9
 have sz9 : T8.heap.size ≤ h9.size := (Keep.of_wr W9).1
 have K9 : Keep h0 h9 [y] := K8.wr W9 (Or.inl (by simp))
 have N9 := Fr.snoc X9 N8 (own_le (by omega))
 refine own_st st9 ?_
 exact own_retN X9 (v := none) (fun _ => rfl) Bd.notSynchronized (fun fs hr => X9.returnOut hx Bd.returns (hb hby dS2x_97) hr) (by decide) (by decide) (by rw [e9]; exact ⟨rfl, N9, K9, r8, _, (by omega), (Vr8.other W9 (own_ne (by omega))).lt, (((Ey.wr W7).keep KK8).wr W9), Fw9, ((Fw7.keep KK8 nin0).other W9 (Or.inr (slot_ne (Or.inr (wd35 hw)) (Or.inr (wd37 hw)) (by decide) (t := .byte) (t' := (.array .byte)) (by decide) (by decide)))), (Er8.wr W9), (Vr8.other W9 (own_ne (by omega)))⟩)

def Q_own_s1W (Z : State) (x t y : Nat) (k : ClassId) (cs : List Int32) (v0 c0 : Value) (G1 : Int32) (h0 : Heap) (n0 : Nat) (v : Option Value) (h : Heap) (L : List Loc) : Prop := v = none ∧ Fr n0 L ∧ Keep h0 h [y] ∧ ∃ (r : Nat) (kr : ClassId), h0.size ≤ r ∧ r < h.size ∧ Exa Z h y "java/lang/String" ∧ Fld Z h y "java/lang/String" "value" "[B" (.ref r) ∧ Fld Z h y "java/lang/String" "coder" "B" (.int (1 : Int32)) ∧ Exa Z h r "[B" ∧ Arv Z h r kr .byte (Int32.ofNat (2 * cs.length)) (own_wb cs) (.int 0)
theorem own_s1W (l : Launch) (Z : State) (a0 : Array Value) (hw : hWt a0 Z) (ws : List Jvm.Cond) (x t y : Nat) (k : ClassId) (cs : List Int32) (v0 c0 : Value) (G1 : Int32) (h0 : Heap) (n0 : Nat) (Z0 : n0 ≤ h0.size) (X00 : Old Z n0 h0) (Ey : Exa Z h0 y "java/lang/String") (Gv : Fld Z h0 y "java/lang/String" "value" "[B" v0) (Gc : Fld Z h0 y "java/lang/String" "coder" "B" c0) (B : own_WB Z h0 x t k cs) (hl : cs.length < 34) (gy : n0 ≤ y) (nyx : y ≠ x) (nyt : y ≠ t) (O2 : Sta Z Z.heap "java/lang/String" "COMPACT_STRINGS" "Z" (.int G1)) (P5 : ¬ (G1 = (0 : Int32))) :
 own_MN l mN40 jdk_42_method_53_code 2 none ws rm_4_1_72_94 Z #[(.ref y), (.ref x)] h0 (Q_own_s1W Z x t y k cs v0 c0 G1 h0 n0) := by
 refine own_bodyN (plainFor_of_name own_pn0) fun p e s m below meth c s₁ Bd hx hby hml hown hZ X0 e0 => ?_
 have hnm := (name_of_methodNamed Bd.named Bd.method).1
 have N0 := Fr.nil n0
 have K0 : Keep h0 h0 [y] := Keep.refl h0 [y]
 refine own_st (fun tq kq => castTop (ef_own_init1E m (y) (x)) kq) ?_
 show own_G p e below _ (s₁.setTop (mkF m 0 #[vR y, vR x] []))
 have hws0 : ∀ z ∈ [y], n0 ≤ z := allS gy all0
 obtain ⟨Ex, Fv, Fd, Fn, Fm, Vt⟩ := id B
 have ltx : x < h0.size := Fv.lt
 have ltt : t < h0.size := Vt.lt
 have lty : y < h0.size := Gv.lt
 refine s_aloadN X0 hx (hb hby dS1x_0) rfl rfl ?_
 refine s_aloadN X0 hx (hb hby dS1x_1) rfl rfl ?_
 refine own_st (fun tq kq => XS.aconstNull X0.here hx rfl (hb hby dS1x_2) kq) ?_
 obtain ⟨_, _, ⟨T1, L1, k1, n1⟩, -, X1, ⟨Lc1, hQ1, l1, y1, z1⟩, st1⟩ := X0.specialBack hx (y := mN39) rfl hown (mvT hZ (wd143 hw)) (mvT hZ (wd144 hw)) (mvT hZ (wd145 hw)) (by decide) (own_backN (W := 0) (own_s2W l Z a0 hw [] (x) (t) (y) (k) (cs) (v0) (c0) (G1) h0 n0 (by omega) (X00.keep K0 hws0) Ey Gv Gc B hl gy nyx nyt O2 P5) hZ (wd145 hw) (wd12 hw) (by decide) (by decide)) (g := (mkF m 3 #[vR y, vR x] [.null, (.ref x), (.ref y)])) rfl (by rw [hml]; rfl) (Steps.refl _) (a := y) (argsL := [(.ref x), .null]) (rest := []) (lenOf own_pd27 rfl) rfl (Nat.le_of_eq rfl) (hb hby dS1x_3) (fun _ _ => ⟨rfl, e0, (by decide : 0 + 1 ≤ _), (by decide : 0 + 72 ≤ _)⟩)
 dsimp only [Pt.U, Pt.locs, Pt.cells, Pt.slots] at X1 l1 y1 z1 st1 hQ1
 subst l1 y1 z1
 obtain ⟨rfl, Nq1, Kq1, R1⟩ := hQ1
 have KK1 : Keep h0 T1.heap [y] := Kq1
 have sz1 : h0.size ≤ T1.heap.size := KK1.1
 have K1 : Keep h0 T1.heap [y] := K0.trans KK1 (allS (Or.inl (by simp)) all0)
 have N1 := Fr.app N0 Nq1
 refine own_st (fun tq kq => st1.trans kq) ?_
 exact own_retN X1 (v := none) (fun _ => rfl) Bd.notSynchronized (fun fs hr => X1.returnOut hx Bd.returns (hb hby dS1x_6) hr) (by decide) (by decide) (by exact ⟨rfl, N1, K1, R1⟩)

def Q_own_tsW (Z : State) (x t : Nat) (k : ClassId) (cs : List Int32) (G1 : Int32) (h0 : Heap) (n0 : Nat) (v : Option Value) (h : Heap) (L : List Loc) : Prop := ∃ a : Nat, v = some (.ref a) ∧ Fr n0 L ∧ Keep h0 h [] ∧ h0.size ≤ a ∧ a < h.size ∧ ∃ (r : Nat) (kr : ClassId), h0.size ≤ r ∧ r < h.size ∧ Exa Z h a "java/lang/String" ∧ Fld Z h a "java/lang/String" "value" "[B" (.ref r) ∧ Fld Z h a "java/lang/String" "coder" "B" (.int (1 : Int32)) ∧ Exa Z h r "[B" ∧ Arv Z h r kr .byte (Int32.ofNat (2 * cs.length)) (own_wb cs) (.int 0)
theorem own_tsW (l : Launch) (Z : State) (a0 : Array Value) (hw : hWt a0 Z) (ws : List Jvm.Cond) (x t : Nat) (k : ClassId) (cs : List Int32) (G1 : Int32) (h0 : Heap) (n0 : Nat) (Z0 : n0 ≤ h0.size) (X00 : Old Z n0 h0) (B : own_WB Z h0 x t k cs) (hl : cs.length < 34) (O2 : Sta Z Z.heap "java/lang/String" "COMPACT_STRINGS" "Z" (.int G1)) (P5 : ¬ (G1 = (0 : Int32))) :
 own_MN l mN41 jdk_67_method_42_code 1 (some (.object "java/lang/String")) ws rm_5_2_76_110 Z #[(.ref x)] h0 (Q_own_tsW Z x t k cs G1 h0 n0) := by
 refine own_bodyN (plainFor_of_name own_pn9) fun p e s m below meth c s₁ Bd hx hby hml hown hZ X0 e0 => ?_
 have N0 := Fr.nil n0
 have K0 : Keep h0 h0 [] := Keep.refl h0 []
 refine own_st (fun tq kq => castTop (ef_own_co0 m (x)) kq) ?_
 show own_G p e below _ (s₁.setTop (mkF m 0 #[vR x] []))
 obtain ⟨Ex, Fv, Fd, Fn, Fm, Vt⟩ := id B
 have ltx : x < h0.size := Fv.lt
 have ltt : t < h0.size := Vt.lt
 obtain ⟨T1, h1, X1, e1, E1, A1, D1, -, st1⟩ := newO X0 hx hZ hown (wd139 hw) (wd11 hw) (wd12 hw) e0 (g := (mkF m 0 #[vR x] [])) rfl (hb hby dTSx_0) (by decide) (by decide)
 obtain ⟨b1, g1⟩ : ∃ z, z = h0.size := ⟨_, rfl⟩
 rw [← g1] at A1 D1 st1
 have lt1 : b1 < h1.size := A1.lt
 have sz1 : h0.size ≤ h1.size := E1.1
 have K1 : Keep h0 h1 [] := K0.ext E1
 have F1_coder : Fld Z h1 b1 "java/lang/String" "coder" "B" (.int 0) := D1 (Or.inr (wd35 hw)) (ty := .byte) (by decide)
 have F1_value : Fld Z h1 b1 "java/lang/String" "value" "[B" .null := D1 (Or.inr (wd37 hw)) (ty := (.array .byte)) (by decide)
 refine own_st st1 ?_
 refine own_st (fun tq kq => XS.dup X1.here hx rfl (hb hby dTSx_3) rfl rfl kq) ?_
 refine s_aloadN X1 hx (hb hby dTSx_4) rfl rfl ?_
 obtain ⟨_, _, ⟨T2, L2, k2, n2⟩, -, X2, ⟨Lc2, hQ2, l2, y2, z2⟩, st2⟩ := X1.specialBack hx (y := mN40) rfl hown (mvT hZ (wd140 hw)) (mvT hZ (wd141 hw)) (mvT hZ (wd142 hw)) (by decide) (own_backN (W := 1) (own_s1W l Z a0 hw [] (x) (t) (b1) (k) (cs) (.null) (.int 0) (G1) h1 n0 (by omega) (X00.keep K1 all0) A1 F1_value F1_coder ⟨(Ex.ext E1), (Fv.ext E1), (Fd.ext E1), (Fn.ext E1), (Fm.ext E1), (Vt.ext E1)⟩ hl (by omega) (own_ne (by omega)) (own_ne (by omega)) O2 P5) hZ (wd142 hw) (wd12 hw) (by decide) (by decide)) (g := (mkF m 5 #[vR x] [(.ref x), (.ref b1), (.ref b1)])) rfl (by rw [hml]; rfl) (Steps.refl _) (a := b1) (argsL := [(.ref x)]) (rest := [(.ref b1)]) (lenOf own_pd28 rfl) rfl (Nat.le_of_eq rfl) (hb hby dTSx_5) (fun _ _ => ⟨rfl, e1, (by decide : 1 + 1 ≤ _), (by decide : 4 + 72 ≤ _)⟩)
 dsimp only [Pt.U, Pt.locs, Pt.cells, Pt.slots] at X2 l2 y2 z2 st2 hQ2
 subst l2 y2 z2
 obtain ⟨rfl, Nq2, Kq2, r2, kr2, gr2, lr2, R2⟩ := hQ2
 have KK2 : Keep h1 T2.heap [b1] := Kq2
 have sz2 : h1.size ≤ T2.heap.size := KK2.1
 have K2 : Keep h0 T2.heap [] := K1.trans KK2 (allS (Or.inr (own_le (by omega))) all0)
 have N2 := Fr.app N0 Nq2
 refine own_st (fun tq kq => st2.trans kq) ?_
 exact own_retN X2 (v := some (.ref b1)) (fun h => by rw [Bd.returns] at h; cases h) Bd.notSynchronized (fun fs hr => retOut X2 hx Bd.returns rfl (Or.inr (Or.inr (Or.inr (Or.inr ⟨rfl, rfl, rfl⟩)))) (hb hby dTSx_8) hr) (by decide) (by decide) (by exact ⟨b1, rfl, N2, K2, (by omega), R2.2.1.lt, r2, kr2, (by omega), lr2, R2⟩)

theorem own_all {cs : List Int32} {i : Nat} (h : ∀ j, j < i → ¬ (cs.getD j 0).toInt8.toInt32 < (0 : Int32)) (hi : cs.length ≤ i) : ∀ c ∈ cs, ¬ c.toInt8.toInt32 < (0 : Int32) := fun c hc => by
  obtain ⟨j, hj, rfl⟩ := List.mem_iff_getElem.mp hc
  have e : cs.getD j 0 = cs[j] := by simp [List.getD_eq_getElem?_getD, hj]
  rw [← e]; exact h j (by omega)
theorem own_alls {cs : List Int32} {i : Nat} (h : ∀ j, j < i → ¬ (cs.getD j 0).toInt8.toInt32 < (0 : Int32)) (q : ¬ (cs.getD i 0).toInt8.toInt32 < (0 : Int32)) : ∀ j, j < i + 1 → ¬ (cs.getD j 0).toInt8.toInt32 < (0 : Int32) := fun j hj => by
  by_cases e : j = i
  · subst e; exact q
  · exact h j (by omega)

def Q_own_cp (Z : State) (t : Nat) (kb : ClassId) (cs : List Int32) (h0 : Heap) (n0 : Nat) (v : Option Value) (h : Heap) (L : List Loc) : Prop := ((v = some (.int (Int32.ofNat cs.length)) ∧ ∀ c ∈ cs, ¬ c.toInt8.toInt32 < (0 : Int32)) ∨ (∃ i, i < cs.length ∧ v = some (.int (Int32.ofNat i)))) ∧ Fr n0 L ∧ h = h0
theorem own_cp (l : Launch) (Z : State) (a0 : Array Value) (hw : hWt a0 Z) (ws : List Jvm.Cond) (t : Nat) (kb : ClassId) (cs : List Int32) (h0 : Heap) (n0 : Nat) (Z0 : n0 ≤ h0.size) (X00 : Old Z n0 h0) (Vt : Arv Z h0 t kb .byte (Int32.ofNat cs.length) (own_bt cs) (.int 0)) (hc : cs.length ≤ 34) :
 own_MN l mN42 jdk_123_method_3_code 5 (some .int) ws rm_0_0_0_0 Z #[(.ref t), (.int 0), (.int (Int32.ofNat cs.length))] h0 (Q_own_cp Z t kb cs h0 n0) := by
 refine own_bodyN (plainFor_of_name own_pn10) fun p e s m below meth c s₁ Bd hx hby hml hown hZ X0 e0 => ?_
 have N0 := Fr.nil n0
 have K0 : Keep h0 h0 [] := Keep.refl h0 []
 have loop : ∀ (jk : Nat) (T : State) (h : Heap) (Lc : List Loc) (i : Nat), Stand p l e rm_0_0_0_0 s m #[(.ref t), (.int 0), (.int (Int32.ofNat cs.length))] below meth c T Lc 0 0 → T.heap = h → Fr n0 Lc → Keep h0 h [] → (i + jk = cs.length) → (h = h0) → (∀ j, j < i → ¬ (cs.getD j 0).toInt8.toInt32 < (0 : Int32)) → own_G p e below (own_EN (Q_own_cp Z t kb cs h0 n0) rm_0_0_0_0 #[(.ref t), (.int 0), (.int (Int32.ofNat cs.length))] s) (T.setTop (mkF m 7 #[vR t, vI 0, vI (Int32.ofNat cs.length), vI (Int32.ofNat cs.length), vI (Int32.ofNat i)] [])) := by
  intro jk
  induction jk with
  | zero =>
   intro T h Lc i Xl el Nl Kl hik hh hall
   have szl : h0.size ≤ h.size := Kl.1
   show own_G p e below _ (T.setTop (mkF m 7 #[vR t, vI 0, vI (Int32.ofNat cs.length), vI (Int32.ofNat cs.length), vI (Int32.ofNat i)] []))
   refine own_st (fun tq kq => XS.iload Xl.here hx rfl (hb hby dCPx_7) rfl  kq) ?_
   refine own_st (fun tq kq => XS.iloadN Xl.here hx rfl (hb hby dCPx_9) rfl  kq) ?_
   show own_G p e below _ (T.setTop (mkF m 10 #[vR t, vI 0, vI (Int32.ofNat cs.length), vI (Int32.ofNat cs.length), vI (Int32.ofNat i)] [(.int (Int32.ofNat cs.length)), (.int (Int32.ofNat i))]))
   refine own_st (fun tq kq => XS.icmpYes Xl.here hx rfl (pc0 := 10) (pc' := 31) rfl (hb hby dCPx_10) rfl (flt (own_inlt (by omega) (by omega))).2.1 (by decide) (by decide) kq) ?_
   refine own_st (fun tq kq => XS.iloadN Xl.here hx rfl (hb hby dCPx_31) rfl  kq) ?_
   show own_G p e below _ (T.setTop (mkF m 32 #[vR t, vI 0, vI (Int32.ofNat cs.length), vI (Int32.ofNat cs.length), vI (Int32.ofNat i)] [(.int (Int32.ofNat cs.length))]))
   exact own_retN Xl (v := some (.int (Int32.ofNat cs.length))) (fun h => by rw [Bd.returns] at h; cases h) Bd.notSynchronized (fun fs hr => retOut Xl hx Bd.returns rfl (Or.inl ⟨rfl, by simp, _, rfl⟩) (hb hby dCPx_32) hr) (by decide) (by decide) (by rw [el]; exact ⟨Or.inl ⟨rfl, own_all hall (by omega)⟩, Nl, hh⟩)
  | succ jk ih =>
   intro T h Lc i Xl el Nl Kl hik hh hall
   have szl : h0.size ≤ h.size := Kl.1
   show own_G p e below _ (T.setTop (mkF m 7 #[vR t, vI 0, vI (Int32.ofNat cs.length), vI (Int32.ofNat cs.length), vI (Int32.ofNat i)] []))
   refine own_st (fun tq kq => XS.iload Xl.here hx rfl (hb hby dCPx_7) rfl  kq) ?_
   refine own_st (fun tq kq => XS.iloadN Xl.here hx rfl (hb hby dCPx_9) rfl  kq) ?_
   show own_G p e below _ (T.setTop (mkF m 10 #[vR t, vI 0, vI (Int32.ofNat cs.length), vI (Int32.ofNat cs.length), vI (Int32.ofNat i)] [(.int (Int32.ofNat cs.length)), (.int (Int32.ofNat i))]))
   refine own_st (fun tq kq => XS.icmpNo Xl.here hx rfl (hb hby dCPx_10) rfl (tlt (own_ilt (by omega) (by omega))).2.1 kq) ?_
   refine own_st (fun tq kq => XS.aloadN Xl.here hx rfl (hb hby dCPx_13) rfl rfl kq) ?_
   refine own_st (fun tq kq => XS.iload Xl.here hx rfl (hb hby dCPx_14) rfl  kq) ?_
   obtain ⟨cl1, Ar1, q1, S_1, N_1, H_1, G_1⟩ := id (Vt.keep Kl nin0)
   have in1 : ¬ ((Int32.ofNat i) < 0 ∨ cl1.slots.size ≤ ((Int32.ofNat i)).toNatClampNeg) := inb_of S_1 ⟨(own_n0 (by omega)), (own_ilt (by omega) (by omega))⟩
   have at1 : cl1.slots[((Int32.ofNat i)).toNatClampNeg]? = some (.int ((cs.getD i 0).toInt8.toInt32)) := H_1.at in1 (by rw [own_n32 (by omega)]; exact own_btAt0 (by omega))
   refine own_st (fun tq kq => Xl.baloadBytes hx (j := (Int32.ofNat i)) (v := (.int ((cs.getD i 0).toInt8.toInt32))) (by rw [el]; exact Ar1.1) (State.isArrayOf_alike hZ.alike Ar1.2.1) Ar1.2.2 in1 at1 (g := (mkF m 16 #[vR t, vI 0, vI (Int32.ofNat cs.length), vI (Int32.ofNat cs.length), vI (Int32.ofNat i)] [(.int (Int32.ofNat i)), (.ref t)])) rfl rfl (hb hby dCPx_16) _ kq) ?_
   show own_G p e below _ (T.setTop (mkF m 17 #[vR t, vI 0, vI (Int32.ofNat cs.length), vI (Int32.ofNat cs.length), vI (Int32.ofNat i)] [(.int ((cs.getD i 0).toInt8.toInt32))]))
   by_cases hc17_2 : (((cs.getD i 0).toInt8.toInt32) < (0 : Int32))
   ·
    refine own_st (fun tq kq => XS.ifNo Xl.here hx rfl (hb hby dCPx_17) rfl ((if0 _ _).trans (tlt hc17_2).2.1) kq) ?_
    refine own_st (fun tq kq => XS.iload Xl.here hx rfl (hb hby dCPx_20) rfl  kq) ?_
    refine own_st (fun tq kq => XS.iloadN Xl.here hx rfl (hb hby dCPx_22) rfl  kq) ?_
    refine own_st (fun tq kq => XS.isub Xl.here hx rfl (hb hby dCPx_23) rfl kq) ?_
    show own_G p e below _ (T.setTop (mkF m 24 #[vR t, vI 0, vI (Int32.ofNat cs.length), vI (Int32.ofNat cs.length), vI (Int32.ofNat i)] [(.int ((Int32.ofNat i) - (0 : Int32)))]))
    rw [own_sub0]
    show own_G p e below _ (T.setTop (mkF m 24 #[vR t, vI 0, vI (Int32.ofNat cs.length), vI (Int32.ofNat cs.length), vI (Int32.ofNat i)] [(.int (Int32.ofNat i))]))
    exact own_retN Xl (v := some (.int (Int32.ofNat i))) (fun h => by rw [Bd.returns] at h; cases h) Bd.notSynchronized (fun fs hr => retOut Xl hx Bd.returns rfl (Or.inl ⟨rfl, by simp, _, rfl⟩) (hb hby dCPx_24) hr) (by decide) (by decide) (by rw [el]; exact ⟨Or.inr ⟨i, (by omega), rfl⟩, Nl, hh⟩)
   ·
    refine own_st (fun tq kq => XS.ifYes Xl.here hx rfl (pc0 := 17) (pc' := 25) rfl (hb hby dCPx_17) rfl ((if0 _ _).trans (flt hc17_2).2.1) (by decide) (by decide) kq) ?_
    refine own_st (fun tq kq => XS.iinc Xl.here hx rfl (hb hby dCPx_25) rfl (l' := #[vR t, vI 0, vI (Int32.ofNat cs.length), vI (Int32.ofNat cs.length), vI ((Int32.ofNat i) + (1 : Int32))]) rfl kq) ?_
    show own_G p e below _ (T.setTop (mkF m 28 #[vR t, vI 0, vI (Int32.ofNat cs.length), vI (Int32.ofNat cs.length), vI ((Int32.ofNat i) + (1 : Int32))] []))
    rw [own_inc i]
    show own_G p e below _ (T.setTop (mkF m 28 #[vR t, vI 0, vI (Int32.ofNat cs.length), vI (Int32.ofNat cs.length), vI (Int32.ofNat (i + 1))] []))
    refine own_st (fun tq kq => XS.goto Xl.here hx rfl (pc0 := 28) (pc' := 7) rfl (hb hby dCPx_28) (by decide) (by decide) kq) ?_
    show own_G p e below _ (T.setTop (mkF m 7 #[vR t, vI 0, vI (Int32.ofNat cs.length), vI (Int32.ofNat cs.length), vI (Int32.ofNat (i + 1))] []))
    exact ih T h _ (i + 1) Xl el Nl Kl (by omega) hh (own_alls hall hc17_2)
 refine own_st (fun tq kq => castTop (ef_own_toB m (t) ((Int32.ofNat cs.length))) kq) ?_
 show own_G p e below _ (s₁.setTop (mkF m 0 #[vR t, vI 0, vI (Int32.ofNat cs.length), .unset, .unset] []))
 refine s_iloadN X0 hx (hb hby dCPx_0) rfl ?_
 refine s_iloadN X0 hx (hb hby dCPx_1) rfl ?_
 refine own_st (fun tq kq => XS.iadd X0.here hx rfl (hb hby dCPx_2) rfl kq) ?_
 show own_G p e below _ (s₁.setTop (mkF m 3 #[vR t, vI 0, vI (Int32.ofNat cs.length), .unset, .unset] [(.int ((0 : Int32) + (Int32.ofNat cs.length)))]))
 rw [own_zadd]
 show own_G p e below _ (s₁.setTop (mkF m 3 #[vR t, vI 0, vI (Int32.ofNat cs.length), .unset, .unset] [(.int (Int32.ofNat cs.length))]))
 refine own_st (fun tq kq => XS.istoreN X0.here hx rfl (hb hby dCPx_3) rfl (l' := #[vR t, vI 0, vI (Int32.ofNat cs.length), vI (Int32.ofNat cs.length), .unset]) rfl kq) ?_
 refine s_iloadN X0 hx (hb hby dCPx_4) rfl ?_
 refine own_st (fun tq kq => XS.istore X0.here hx rfl (hb hby dCPx_5) rfl (l' := #[vR t, vI 0, vI (Int32.ofNat cs.length), vI (Int32.ofNat cs.length), vI 0]) rfl kq) ?_
 show own_G p e below _ (s₁.setTop (mkF m 7 #[vR t, vI 0, vI (Int32.ofNat cs.length), vI (Int32.ofNat cs.length), vI 0] []))
 exact loop cs.length s₁ h0 _ 0 X0 e0 N0 K0 (by omega) rfl (fun j hj => absurd hj (Nat.not_lt_zero j))

def Q_own_hn (Z : State) (t : Nat) (kb : ClassId) (cs : List Int32) (h0 : Heap) (n0 : Nat) (v : Option Value) (h : Heap) (L : List Loc) : Prop := ((v = some (.int (0 : Int32)) ∧ ∀ c ∈ cs, ¬ c.toInt8.toInt32 < (0 : Int32)) ∨ v = some (.int (1 : Int32))) ∧ Fr n0 L ∧ h = h0
theorem own_hn (l : Launch) (Z : State) (a0 : Array Value) (hw : hWt a0 Z) (ws : List Jvm.Cond) (t : Nat) (kb : ClassId) (cs : List Int32) (h0 : Heap) (n0 : Nat) (Z0 : n0 ≤ h0.size) (X00 : Old Z n0 h0) (Vt : Arv Z h0 t kb .byte (Int32.ofNat cs.length) (own_bt cs) (.int 0)) (hc : cs.length ≤ 34) :
 own_MN l mN43 jdk_123_method_2_code 3 (some .boolean) ws rm_1_0_0_20 Z #[(.ref t), (.int 0), (.int (Int32.ofNat cs.length))] h0 (Q_own_hn Z t kb cs h0 n0) := by
 refine own_bodyN (plainFor_of_name own_pn10) fun p e s m below meth c s₁ Bd hx hby hml hown hZ X0 e0 => ?_
 have N0 := Fr.nil n0
 have K0 : Keep h0 h0 [] := Keep.refl h0 []
 refine own_st (fun tq kq => castTop (ef_own_cr m (t) ((Int32.ofNat cs.length))) kq) ?_
 show own_G p e below _ (s₁.setTop (mkF m 0 #[vR t, vI 0, vI (Int32.ofNat cs.length)] []))
 refine s_aloadN X0 hx (hb hby dHNx_0) rfl rfl ?_
 refine s_iloadN X0 hx (hb hby dHNx_1) rfl ?_
 refine s_iloadN X0 hx (hb hby dHNx_2) rfl ?_
 obtain ⟨_, _, ⟨T1, L1, k1, n1⟩, -, X1, ⟨Lc1, hQ1, l1, y1, z1⟩, st1⟩ := Jvm.LawKit.callS X0 hx (y := mN42) hown (mvT hZ (wd192 hw)) (mvT hZ (wd193 hw)) (mvT hZ (wd190 hw)) (mvT hZ (wd194 hw)) (by decide) (own_backN (W := 0) (own_cp l Z a0 hw [] (t) (kb) (cs) h0 n0 (by omega) (X00.keep K0 all0) Vt hc) hZ (wd194 hw) (wd190 hw) (by decide) (by decide)) (g := (mkF m 3 #[vR t, vI 0, vI (Int32.ofNat cs.length)] [(.int (Int32.ofNat cs.length)), (.int 0), (.ref t)])) rfl (by rw [hml]; rfl) (argsL := [(.ref t), (.int 0), (.int (Int32.ofNat cs.length))]) (rest := []) (lenOf own_pd29 rfl) rfl (Nat.le_of_eq rfl) (hb hby dHNx_3) (fun _ _ => ⟨rfl, e0, (by decide : 0 + 0 ≤ _), (by decide : 0 + 0 ≤ _)⟩)
 dsimp only [Pt.U, Pt.locs, Pt.cells, Pt.slots] at X1 l1 y1 z1 st1 hQ1
 subst l1 y1 z1
 obtain ⟨hr1, Nq1, sm1⟩ := hQ1
 have N1 := Fr.app N0 Nq1
 rcases hr1 with ⟨rfl, hall1⟩ | ⟨ii1, hi1, rfl⟩
 ·
  refine own_st st1 ?_
  refine s_iloadN X1 hx (hb hby dHNx_6) rfl ?_
  show own_G p e below _ (T1.setTop (mkF m 7 #[vR t, vI 0, vI (Int32.ofNat cs.length)] [(.int (Int32.ofNat cs.length)), (.int (Int32.ofNat cs.length))]))
  refine own_st (fun tq kq => XS.icmpYes X1.here hx rfl (pc0 := 7) (pc' := 14) rfl (hb hby dHNx_7) rfl (teq (rfl : ((Int32.ofNat cs.length) = (Int32.ofNat cs.length)))).1 (by decide) (by decide) kq) ?_
  refine s_iconst X1 hx (hb hby dHNx_14) ?_
  show own_G p e below _ (T1.setTop (mkF m 15 #[vR t, vI 0, vI (Int32.ofNat cs.length)] [(.int 0)]))
  exact own_retN X1 (v := some (.int 0)) (fun h => by rw [Bd.returns] at h; cases h) Bd.notSynchronized (fun fs hr => retN X1 hx (z := (0 : Int32)) (t := .boolean) Bd.returns (by simp) (hb hby dHNx_15) hr) (by decide) (by decide) (by rw [sm1]; exact ⟨Or.inl ⟨rfl, hall1⟩, N1, rfl⟩)
 ·
  refine own_st st1 ?_
  refine s_iloadN X1 hx (hb hby dHNx_6) rfl ?_
  show own_G p e below _ (T1.setTop (mkF m 7 #[vR t, vI 0, vI (Int32.ofNat cs.length)] [(.int (Int32.ofNat cs.length)), (.int (Int32.ofNat ii1))]))
  refine own_st (fun tq kq => XS.icmpNo X1.here hx rfl (hb hby dHNx_7) rfl (feq (own_ofne (by omega) (by omega) (by omega))).1 kq) ?_
  refine s_iconst X1 hx (hb hby dHNx_10) ?_
  refine own_st (fun tq kq => XS.goto X1.here hx rfl (pc0 := 11) (pc' := 15) rfl (hb hby dHNx_11) (by decide) (by decide) kq) ?_
  show own_G p e below _ (T1.setTop (mkF m 15 #[vR t, vI 0, vI (Int32.ofNat cs.length)] [(.int 1)]))
  exact own_retN X1 (v := some (.int 1)) (fun h => by rw [Bd.returns] at h; cases h) Bd.notSynchronized (fun fs hr => retN X1 hx (z := (1 : Int32)) (t := .boolean) Bd.returns (by simp) (hb hby dHNx_15) hr) (by decide) (by decide) (by rw [sm1]; exact ⟨Or.inr rfl, N1, rfl⟩)

def Q_own_e8 (Z : State) (t : Nat) (kb : ClassId) (cs : List Int32) (h0 : Heap) (n0 : Nat) (v : Option Value) (h : Heap) (L : List Loc) : Prop := ∃ (r : Nat) (kr : ClassId), v = some (.ref r) ∧ Fr n0 L ∧ Keep h0 h [] ∧ h0.size ≤ r ∧ r < h.size ∧ Arv Z h r kr .byte (Int32.ofNat (own_u8 cs).length) ((own_u8 cs).map Value.int) (.int 0)
theorem ef_own_e8 (m : MethodId) (x1 : Nat) : entryFrame m #[(.int 0), (.ref x1), (.int 1)] 9 = mkF m 0 #[.val (.int 0), .val (.ref x1), .val (.int 1), .unset, .unset, .unset, .unset, .unset, .unset] [] := by first | (simp [entryFrame, mkF, argsToLocals, Value.category]; done) | rfl
theorem own_e8 (l : Launch) (Z : State) (a0 : Array Value) (hw : hWt a0 Z) (ws : List Jvm.Cond) (t : Nat) (kb : ClassId) (cs : List Int32) (h0 : Heap) (n0 : Nat) (Z0 : n0 ≤ h0.size) (X00 : Old Z n0 h0) (Vt : Arv Z h0 t kb .byte (Int32.ofNat cs.length) (own_bt cs) (.int 0)) (Et : Exa Z h0 t "[B") (hcs : ∀ c ∈ cs, ¬ c < 0 ∧ ¬ (255 : Int32) < c) (hc : cs.length ≤ 34) :
 own_MN l mN44 jdk_42_method_46_code 9 (some (.array .byte)) ws rm_2_2_140_60 Z #[(.int 0), (.ref t), (.int 1)] h0 (Q_own_e8 Z t kb cs h0 n0) := by
 refine own_bodyN (plainFor_of_name own_pn0) fun p e s m below meth c s₁ Bd hx hby hml hown hZ X0 e0 => ?_
 have N0 := Fr.nil n0
 have K0 : Keep h0 h0 [] := Keep.refl h0 []
 have ltt : t < h0.size := Vt.lt
 have loop : ∀ (jk : Nat) (T : State) (h : Heap) (Lc : List Loc) (i dp d : Nat) (kd : ClassId) (P : List Int32) (s8 : Slot), Stand p l e rm_2_2_140_60 s m #[(.int 0), (.ref t), (.int 1)] below meth c T Lc 1 68 → T.heap = h → Fr n0 Lc → Keep h0 h [] → (i + jk = cs.length) → (s8 = .unset ∨ ∃ w, s8 = .val w ∧ w.category = 1) → (P = own_u8 (cs.take i)) → (P.length = dp) → (h0.size ≤ d) → (Arv Z h d kd .byte (Int32.ofNat (2 * cs.length)) (P.map Value.int ++ List.replicate ((2 * cs.length) - P.length) (.int 0)) (.int 0)) → own_G p e below (own_EN (Q_own_e8 Z t kb cs h0 n0) rm_2_2_140_60 #[(.int 0), (.ref t), (.int 1)] s) (T.setTop (mkF m 49 #[vI 0, vR t, vI 1, vI (Int32.ofNat dp), vR d, vR t, vI (Int32.ofNat cs.length), vI (Int32.ofNat i), s8] [])) := by
  intro jk
  induction jk with
  | zero =>
   intro T h Lc i dp d kd P s8 Xl el Nl Kl hik hs8 hP hdp gd Vd
   have szl : h0.size ≤ h.size := Kl.1
   subst hdp
   have hPl : P.length ≤ 2 * i := by
     rw [hP]; exact Nat.le_trans (own_latLen _ (fun c hc => hcs c (List.mem_of_mem_take hc))) (by rw [List.length_take]; omega)
   have hPa : P = own_u8 cs := by rw [hP, own_takeAll (by omega)]
   show own_G p e below _ (T.setTop (mkF m 49 #[vI 0, vR t, vI 1, vI (Int32.ofNat P.length), vR d, vR t, vI (Int32.ofNat cs.length), vI (Int32.ofNat i), s8] []))
   refine own_st (fun tq kq => XS.iload Xl.here hx rfl (hb hby dE8x_49) rfl  kq) ?_
   refine own_st (fun tq kq => XS.iload Xl.here hx rfl (hb hby dE8x_51) rfl  kq) ?_
   show own_G p e below _ (T.setTop (mkF m 53 #[vI 0, vR t, vI 1, vI (Int32.ofNat P.length), vR d, vR t, vI (Int32.ofNat cs.length), vI (Int32.ofNat i), s8] [(.int (Int32.ofNat cs.length)), (.int (Int32.ofNat i))]))
   refine own_st (fun tq kq => XS.icmpYes Xl.here hx rfl (pc0 := 53) (pc' := 124) rfl (hb hby dE8x_53) rfl (flt (own_inlt (by omega) (by omega))).2.1 (by decide) (by decide) kq) ?_
   refine own_st (fun tq kq => XS.iloadN Xl.here hx rfl (hb hby dE8x_124) rfl  kq) ?_
   refine own_st (fun tq kq => XS.aload Xl.here hx rfl (hb hby dE8x_125) rfl rfl kq) ?_
   obtain ⟨cl1, Ar1, q1, S_1, N_1, H_1, G_1⟩ := id Vd
   refine own_st (fun tq kq => Xl.arraylength hx (by rw [el]; exact Ar1.1) (State.isArrayOf_alike hZ.alike Ar1.2.1) (g := (mkF m 127 #[vI 0, vR t, vI 1, vI (Int32.ofNat P.length), vR d, vR t, vI (Int32.ofNat cs.length), vI (Int32.ofNat i), s8] [(.ref d), (.int (Int32.ofNat P.length))])) rfl rfl (hb hby dE8x_127) _ kq) ?_
   rw [len_of S_1 N_1]
   show own_G p e below _ (T.setTop (mkF m 128 #[vI 0, vR t, vI 1, vI (Int32.ofNat P.length), vR d, vR t, vI (Int32.ofNat cs.length), vI (Int32.ofNat i), s8] [(.int (Int32.ofNat (2 * cs.length))), (.int (Int32.ofNat P.length))]))
   by_cases hc128_2 : ((Int32.ofNat P.length) = (Int32.ofNat (2 * cs.length)))
   ·
    refine own_st (fun tq kq => XS.icmpNo Xl.here hx rfl (hb hby dE8x_128) rfl (teq hc128_2).2 kq) ?_
    refine own_st (fun tq kq => XS.aload Xl.here hx rfl (hb hby dE8x_131) rfl rfl kq) ?_
    show own_G p e below _ (T.setTop (mkF m 133 #[vI 0, vR t, vI 1, vI (Int32.ofNat P.length), vR d, vR t, vI (Int32.ofNat cs.length), vI (Int32.ofNat i), s8] [(.ref d)]))
    exact own_retN Xl (v := some (.ref d)) (fun h => by rw [Bd.returns] at h; cases h) Bd.notSynchronized (fun fs hr => retOut Xl hx Bd.returns rfl (Or.inr (Or.inr (Or.inr (Or.inr ⟨rfl, rfl, rfl⟩)))) (hb hby dE8x_133) hr) (by decide) (by decide) (by rw [el]; exact ⟨d, _, rfl, Nl, Kl, gd, Vd.lt, (by have e := own_ofinj hc128_2 (by omega) (by omega); have q := Vd; rw [← e, Nat.sub_self, List.replicate_zero, List.append_nil, hPa] at q; exact q)⟩)
   ·
    refine own_st (fun tq kq => XS.icmpYes Xl.here hx rfl (pc0 := 128) (pc' := 134) rfl (hb hby dE8x_128) rfl (feq hc128_2).2 (by decide) (by decide) kq) ?_
    refine own_st (fun tq kq => XS.aload Xl.here hx rfl (hb hby dE8x_134) rfl rfl kq) ?_
    refine own_st (fun tq kq => XS.iloadN Xl.here hx rfl (hb hby dE8x_136) rfl  kq) ?_
    obtain ⟨_, _, ⟨T3, L3, k3, n3⟩, -, X3, ⟨Lc3, hQ3, l3, y3, z3⟩, st3⟩ := Jvm.LawKit.callS Xl hx (y := mN27) hown (mvT hZ (wd273 hw)) (mvT hZ (wd106 hw)) (mvT hZ (wd107 hw)) (mvT hZ (wd108 hw)) (by decide) (own_backN (W := 0) (own_cof l Z a0 hw [] (d) (P.length) ((2 * cs.length)) (kd) ((P.map Value.int)) (_) h n0 (by omega) (X00.keep Kl all0) Vd (by simp) (Nat.lt_of_le_of_ne (by omega) (fun q => hc128_2 (congrArg Int32.ofNat q))) (by omega)) hZ (wd108 hw) (wd107 hw) (by decide) (by decide)) (g := (mkF m 137 #[vI 0, vR t, vI 1, vI (Int32.ofNat P.length), vR d, vR t, vI (Int32.ofNat cs.length), vI (Int32.ofNat i), s8] [(.int (Int32.ofNat P.length)), (.ref d)])) rfl (by rw [hml]; rfl) (argsL := [(.ref d), (.int (Int32.ofNat P.length))]) (rest := []) (lenOf own_pd19 rfl) rfl (Nat.le_of_eq rfl) (hb hby dE8x_137) (fun _ _ => ⟨rfl, el, (by decide : 1 + 1 ≤ _), (by decide : 68 + 72 ≤ _)⟩)
    dsimp only [Pt.U, Pt.locs, Pt.cells, Pt.slots] at X3 l3 y3 z3 st3 hQ3
    subst l3 y3 z3
    obtain ⟨r3, kr3, rfl, Nq3, Kq3, gr3, lr3, Er3, Vr3⟩ := hQ3
    have KK3 : Keep h T3.heap [] := Kq3
    have sz3 : h.size ≤ T3.heap.size := KK3.1
    have K3 : Keep h0 T3.heap [] := Kl.trans KK3 all0
    have N3 := Fr.app Nl Nq3
    refine own_st st3 ?_
    exact own_retN X3 (v := some (.ref r3)) (fun h => by rw [Bd.returns] at h; cases h) Bd.notSynchronized (fun fs hr => retOut X3 hx Bd.returns rfl (Or.inr (Or.inr (Or.inr (Or.inr ⟨rfl, rfl, rfl⟩)))) (hb hby dE8x_140) hr) (by decide) (by decide) (by exact ⟨r3, _, rfl, N3, K3, (by omega), Vr3.lt, (by have q := Vr3; rw [hPa] at q; exact q)⟩)
  | succ jk ih =>
   intro T h Lc i dp d kd P s8 Xl el Nl Kl hik hs8 hP hdp gd Vd
   have szl : h0.size ≤ h.size := Kl.1
   subst hdp
   have hPl : P.length ≤ 2 * i := by
     rw [hP]; exact Nat.le_trans (own_latLen _ (fun c hc => hcs c (List.mem_of_mem_take hc))) (by rw [List.length_take]; omega)
   show own_G p e below _ (T.setTop (mkF m 49 #[vI 0, vR t, vI 1, vI (Int32.ofNat P.length), vR d, vR t, vI (Int32.ofNat cs.length), vI (Int32.ofNat i), s8] []))
   refine own_st (fun tq kq => XS.iload Xl.here hx rfl (hb hby dE8x_49) rfl  kq) ?_
   refine own_st (fun tq kq => XS.iload Xl.here hx rfl (hb hby dE8x_51) rfl  kq) ?_
   show own_G p e below _ (T.setTop (mkF m 53 #[vI 0, vR t, vI 1, vI (Int32.ofNat P.length), vR d, vR t, vI (Int32.ofNat cs.length), vI (Int32.ofNat i), s8] [(.int (Int32.ofNat cs.length)), (.int (Int32.ofNat i))]))
   refine own_st (fun tq kq => XS.icmpNo Xl.here hx rfl (hb hby dE8x_53) rfl (tlt (own_ilt (by omega) (by omega))).2.1 kq) ?_
   refine own_st (fun tq kq => XS.aload Xl.here hx rfl (hb hby dE8x_56) rfl rfl kq) ?_
   refine own_st (fun tq kq => XS.iload Xl.here hx rfl (hb hby dE8x_58) rfl  kq) ?_
   obtain ⟨cl4, Ar4, q4, S_4, N_4, H_4, G_4⟩ := id (Vt.keep Kl nin0)
   have in4 : ¬ ((Int32.ofNat i) < 0 ∨ cl4.slots.size ≤ ((Int32.ofNat i)).toNatClampNeg) := inb_of S_4 ⟨(own_n0 (by omega)), (own_ilt (by omega) (by omega))⟩
   have at4 : cl4.slots[((Int32.ofNat i)).toNatClampNeg]? = some (.int ((cs.getD i 0).toInt8.toInt32)) := H_4.at in4 (by rw [own_n32 (by omega)]; exact own_btAt0 (by omega))
   refine own_st (fun tq kq => Xl.baloadBytes hx (j := (Int32.ofNat i)) (v := (.int ((cs.getD i 0).toInt8.toInt32))) (by rw [el]; exact Ar4.1) (State.isArrayOf_alike hZ.alike Ar4.2.1) Ar4.2.2 in4 at4 (g := (mkF m 60 #[vI 0, vR t, vI 1, vI (Int32.ofNat P.length), vR d, vR t, vI (Int32.ofNat cs.length), vI (Int32.ofNat i), s8] [(.int (Int32.ofNat i)), (.ref t)])) rfl rfl (hb hby dE8x_60) _ kq) ?_
   refine own_st (fun tq kq => XS.istoreS Xl.here hx rfl (hb hby dE8x_61) rfl rfl hs8 kq) ?_
   show own_G p e below _ (T.setTop (mkF m 63 #[vI 0, vR t, vI 1, vI (Int32.ofNat P.length), vR d, vR t, vI (Int32.ofNat cs.length), vI (Int32.ofNat i), vI ((cs.getD i 0).toInt8.toInt32)] []))
   refine own_st (fun tq kq => XS.iload Xl.here hx rfl (hb hby dE8x_63) rfl  kq) ?_
   show own_G p e below _ (T.setTop (mkF m 65 #[vI 0, vR t, vI 1, vI (Int32.ofNat P.length), vR d, vR t, vI (Int32.ofNat cs.length), vI (Int32.ofNat i), vI ((cs.getD i 0).toInt8.toInt32)] [(.int ((cs.getD i 0).toInt8.toInt32))]))
   by_cases hc65_5 : (((cs.getD i 0).toInt8.toInt32) < (0 : Int32))
   ·
    refine own_st (fun tq kq => XS.ifNo Xl.here hx rfl (hb hby dE8x_65) rfl ((if0 _ _).trans (tlt hc65_5).2.1) kq) ?_
    refine own_st (fun tq kq => XS.aload Xl.here hx rfl (hb hby dE8x_68) rfl rfl kq) ?_
    refine own_st (fun tq kq => XS.iloadN Xl.here hx rfl (hb hby dE8x_70) rfl  kq) ?_
    refine own_st (fun tq kq => XS.iinc Xl.here hx rfl (hb hby dE8x_71) rfl (l' := #[vI 0, vR t, vI 1, vI ((Int32.ofNat P.length) + (1 : Int32)), vR d, vR t, vI (Int32.ofNat cs.length), vI (Int32.ofNat i), vI ((cs.getD i 0).toInt8.toInt32)]) rfl kq) ?_
    show own_G p e below _ (T.setTop (mkF m 74 #[vI 0, vR t, vI 1, vI ((Int32.ofNat P.length) + (1 : Int32)), vR d, vR t, vI (Int32.ofNat cs.length), vI (Int32.ofNat i), vI ((cs.getD i 0).toInt8.toInt32)] [(.int (Int32.ofNat P.length)), (.ref d)]))
    rw [own_inc (P.length)]
    show own_G p e below _ (T.setTop (mkF m 74 #[vI 0, vR t, vI 1, vI (Int32.ofNat (P.length + 1)), vR d, vR t, vI (Int32.ofNat cs.length), vI (Int32.ofNat i), vI ((cs.getD i 0).toInt8.toInt32)] [(.int (Int32.ofNat P.length)), (.ref d)]))
    refine own_st (fun tq kq => XS.sipush Xl.here hx rfl (hb hby dE8x_74) kq) ?_
    refine own_st (fun tq kq => XS.iload Xl.here hx rfl (hb hby dE8x_77) rfl  kq) ?_
    refine own_st (fun tq kq => XS.sipush Xl.here hx rfl (hb hby dE8x_79) kq) ?_
    refine own_st (fun tq kq => XS.iand Xl.here hx rfl (hb hby dE8x_82) rfl kq) ?_
    refine own_st (fun tq kq => XS.bipush Xl.here hx rfl (hb hby dE8x_83) kq) ?_
    refine own_st (fun tq kq => XS.ishr Xl.here hx rfl (hb hby dE8x_85) rfl kq) ?_
    refine own_st (fun tq kq => XS.ior Xl.here hx rfl (hb hby dE8x_86) rfl kq) ?_
    refine own_st (fun tq kq => XS.i2b Xl.here hx rfl (hb hby dE8x_87) rfl kq) ?_
    obtain ⟨cl6, Ar6, q6, S_6, N_6, H_6, G_6⟩ := id Vd
    have in6 : ¬ ((Int32.ofNat P.length) < 0 ∨ cl6.slots.size ≤ ((Int32.ofNat P.length)).toNatClampNeg) := inb_of S_6 ⟨(own_n0 (by omega)), (own_ilt (by omega) (by omega))⟩
    obtain ⟨T6, h6, X6, e6, W6, st6⟩ := stB Xl hx hZ el Ar6 (j := (Int32.ofNat P.length)) in6 (g := (mkF m 88 #[vI 0, vR t, vI 1, vI (Int32.ofNat (P.length + 1)), vR d, vR t, vI (Int32.ofNat cs.length), vI (Int32.ofNat i), vI ((cs.getD i 0).toInt8.toInt32)] [(.int (((192 : Int32) ||| ((((cs.getD i 0).toInt8.toInt32) &&& (255 : Int32)) >>> ((6 : Int32) &&& 31))).toInt8.toInt32)), (.int (Int32.ofNat P.length)), (.ref d)])) rfl rfl (hb hby dE8x_88)
    have V6 := Arv.set Ar6 q6 S_6 N_6 H_6 G_6 (fits_nar_byte _) W6 P.length (by rw [own_n32 (by omega)]) (by simp only [List.length_append, List.length_cons, List.length_nil, List.length_map, List.length_replicate]; omega)
    have sz6 : h.size ≤ h6.size := (Keep.of_wr W6).1
    have K6 : Keep h0 h6 [] := Kl.wr W6 (Or.inr (own_le (by omega)))
    have N6 := Fr.snoc X6 Nl (own_le (by omega))
    first | rw [own_i2bb] at V6 | rw [own_i2b] at V6
    rw [own_pushv (by omega)] at V6
    refine own_st st6 ?_
    refine s_aload X6 hx (hb hby dE8x_89) rfl rfl ?_
    refine s_iloadN X6 hx (hb hby dE8x_91) rfl ?_
    refine own_st (fun tq kq => XS.iinc X6.here hx rfl (hb hby dE8x_92) rfl (l' := #[vI 0, vR t, vI 1, vI ((Int32.ofNat (P.length + 1)) + (1 : Int32)), vR d, vR t, vI (Int32.ofNat cs.length), vI (Int32.ofNat i), vI ((cs.getD i 0).toInt8.toInt32)]) rfl kq) ?_
    show own_G p e below _ (T6.setTop (mkF m 95 #[vI 0, vR t, vI 1, vI ((Int32.ofNat (P.length + 1)) + (1 : Int32)), vR d, vR t, vI (Int32.ofNat cs.length), vI (Int32.ofNat i), vI ((cs.getD i 0).toInt8.toInt32)] [(.int (Int32.ofNat (P.length + 1))), (.ref d)]))
    rw [own_inc (P.length + 1)]
    show own_G p e below _ (T6.setTop (mkF m 95 #[vI 0, vR t, vI 1, vI (Int32.ofNat (P.length + 1 + 1)), vR d, vR t, vI (Int32.ofNat cs.length), vI (Int32.ofNat i), vI ((cs.getD i 0).toInt8.toInt32)] [(.int (Int32.ofNat (P.length + 1))), (.ref d)]))
    refine s_sipush X6 hx (hb hby dE8x_95) ?_
    refine s_iload X6 hx (hb hby dE8x_98) rfl ?_
    refine s_bipush X6 hx (hb hby dE8x_100) ?_
    refine own_st (fun tq kq => XS.iand X6.here hx rfl (hb hby dE8x_102) rfl kq) ?_
    refine own_st (fun tq kq => XS.ior X6.here hx rfl (hb hby dE8x_103) rfl kq) ?_
    refine own_st (fun tq kq => XS.i2b X6.here hx rfl (hb hby dE8x_104) rfl kq) ?_
    obtain ⟨cl7, Ar7, q7, S_7, N_7, H_7, G_7⟩ := id V6
    have in7 : ¬ ((Int32.ofNat (P.length + 1)) < 0 ∨ cl7.slots.size ≤ ((Int32.ofNat (P.length + 1))).toNatClampNeg) := inb_of S_7 ⟨(own_n0 (by omega)), (own_ilt (by omega) (by omega))⟩
    obtain ⟨T7, h7, X7, e7, W7, st7⟩ := stB X6 hx hZ e6 Ar7 (j := (Int32.ofNat (P.length + 1))) in7 (g := (mkF m 105 #[vI 0, vR t, vI 1, vI (Int32.ofNat (P.length + 1 + 1)), vR d, vR t, vI (Int32.ofNat cs.length), vI (Int32.ofNat i), vI ((cs.getD i 0).toInt8.toInt32)] [(.int (((128 : Int32) ||| (((cs.getD i 0).toInt8.toInt32) &&& (63 : Int32))).toInt8.toInt32)), (.int (Int32.ofNat (P.length + 1))), (.ref d)])) rfl rfl (hb hby dE8x_105)
    have V7 := Arv.set Ar7 q7 S_7 N_7 H_7 G_7 (fits_nar_byte _) W7 (P ++ [(((192 : Int32) ||| ((((cs.getD i 0).toInt8.toInt32) &&& (255 : Int32)) >>> ((6 : Int32) &&& 31))).toInt8.toInt32)]).length (by rw [own_n32 (by omega)]; simp) (by simp only [List.length_append, List.length_cons, List.length_nil, List.length_map, List.length_replicate]; omega)
    have sz7 : h6.size ≤ h7.size := (Keep.of_wr W7).1
    have K7 : Keep h0 h7 [] := K6.wr W7 (Or.inr (own_le (by omega)))
    have N7 := Fr.snoc X7 N6 (own_le (by omega))
    first | rw [own_i2bb] at V7 | rw [own_i2b] at V7
    rw [own_pushv (by simp only [List.length_append, List.length_cons, List.length_nil]; omega)] at V7
    refine own_st st7 ?_
    refine own_st (fun tq kq => XS.goto X7.here hx rfl (pc0 := 106) (pc' := 118) rfl (hb hby dE8x_106) (by decide) (by decide) kq) ?_
    refine own_st (fun tq kq => XS.iinc X7.here hx rfl (hb hby dE8x_118) rfl (l' := #[vI 0, vR t, vI 1, vI (Int32.ofNat (P.length + 1 + 1)), vR d, vR t, vI (Int32.ofNat cs.length), vI ((Int32.ofNat i) + (1 : Int32)), vI ((cs.getD i 0).toInt8.toInt32)]) rfl kq) ?_
    show own_G p e below _ (T7.setTop (mkF m 121 #[vI 0, vR t, vI 1, vI (Int32.ofNat (P.length + 1 + 1)), vR d, vR t, vI (Int32.ofNat cs.length), vI ((Int32.ofNat i) + (1 : Int32)), vI ((cs.getD i 0).toInt8.toInt32)] []))
    rw [own_inc i]
    show own_G p e below _ (T7.setTop (mkF m 121 #[vI 0, vR t, vI 1, vI (Int32.ofNat (P.length + 1 + 1)), vR d, vR t, vI (Int32.ofNat cs.length), vI (Int32.ofNat (i + 1)), vI ((cs.getD i 0).toInt8.toInt32)] []))
    refine own_st (fun tq kq => XS.goto X7.here hx rfl (pc0 := 121) (pc' := 49) rfl (hb hby dE8x_121) (by decide) (by decide) kq) ?_
    show own_G p e below _ (T7.setTop (mkF m 49 #[vI 0, vR t, vI 1, vI (Int32.ofNat (P.length + 1 + 1)), vR d, vR t, vI (Int32.ofNat cs.length), vI (Int32.ofNat (i + 1)), vI ((cs.getD i 0).toInt8.toInt32)] []))
    exact ih T7 h7 _ (i + 1) (P.length + 1 + 1) d kd ((P ++ [(((192 : Int32) ||| ((((cs.getD i 0).toInt8.toInt32) &&& (255 : Int32)) >>> ((6 : Int32) &&& 31))).toInt8.toInt32)]) ++ [(((128 : Int32) ||| (((cs.getD i 0).toInt8.toInt32) &&& (63 : Int32))).toInt8.toInt32)]) (vI ((cs.getD i 0).toInt8.toInt32)) X7 e7 N7 K7 (by omega) (Or.inr ⟨_, rfl, rfl⟩) (by rw [own_u8s (by omega), own_encL2 (own_getok hcs (by omega)) hc65_5, hP]; all_goals simp only [List.append_assoc, List.cons_append, List.nil_append]) (by simp) gd V7
   ·
    refine own_st (fun tq kq => XS.ifYes Xl.here hx rfl (pc0 := 65) (pc' := 109) rfl (hb hby dE8x_65) rfl ((if0 _ _).trans (flt hc65_5).2.1) (by decide) (by decide) kq) ?_
    refine own_st (fun tq kq => XS.aload Xl.here hx rfl (hb hby dE8x_109) rfl rfl kq) ?_
    refine own_st (fun tq kq => XS.iloadN Xl.here hx rfl (hb hby dE8x_111) rfl  kq) ?_
    refine own_st (fun tq kq => XS.iinc Xl.here hx rfl (hb hby dE8x_112) rfl (l' := #[vI 0, vR t, vI 1, vI ((Int32.ofNat P.length) + (1 : Int32)), vR d, vR t, vI (Int32.ofNat cs.length), vI (Int32.ofNat i), vI ((cs.getD i 0).toInt8.toInt32)]) rfl kq) ?_
    show own_G p e below _ (T.setTop (mkF m 115 #[vI 0, vR t, vI 1, vI ((Int32.ofNat P.length) + (1 : Int32)), vR d, vR t, vI (Int32.ofNat cs.length), vI (Int32.ofNat i), vI ((cs.getD i 0).toInt8.toInt32)] [(.int (Int32.ofNat P.length)), (.ref d)]))
    rw [own_inc (P.length)]
    show own_G p e below _ (T.setTop (mkF m 115 #[vI 0, vR t, vI 1, vI (Int32.ofNat (P.length + 1)), vR d, vR t, vI (Int32.ofNat cs.length), vI (Int32.ofNat i), vI ((cs.getD i 0).toInt8.toInt32)] [(.int (Int32.ofNat P.length)), (.ref d)]))
    refine own_st (fun tq kq => XS.iload Xl.here hx rfl (hb hby dE8x_115) rfl  kq) ?_
    obtain ⟨cl8, Ar8, q8, S_8, N_8, H_8, G_8⟩ := id Vd
    have in8 : ¬ ((Int32.ofNat P.length) < 0 ∨ cl8.slots.size ≤ ((Int32.ofNat P.length)).toNatClampNeg) := inb_of S_8 ⟨(own_n0 (by omega)), (own_ilt (by omega) (by omega))⟩
    obtain ⟨T8, h8, X8, e8, W8, st8⟩ := stB Xl hx hZ el Ar8 (j := (Int32.ofNat P.length)) in8 (g := (mkF m 117 #[vI 0, vR t, vI 1, vI (Int32.ofNat (P.length + 1)), vR d, vR t, vI (Int32.ofNat cs.length), vI (Int32.ofNat i), vI ((cs.getD i 0).toInt8.toInt32)] [(.int ((cs.getD i 0).toInt8.toInt32)), (.int (Int32.ofNat P.length)), (.ref d)])) rfl rfl (hb hby dE8x_117)
    have V8 := Arv.set Ar8 q8 S_8 N_8 H_8 G_8 (fits_nar_byte _) W8 P.length (by rw [own_n32 (by omega)]) (by simp only [List.length_append, List.length_cons, List.length_nil, List.length_map, List.length_replicate]; omega)
    have sz8 : h.size ≤ h8.size := (Keep.of_wr W8).1
    have K8 : Keep h0 h8 [] := Kl.wr W8 (Or.inr (own_le (by omega)))
    have N8 := Fr.snoc X8 Nl (own_le (by omega))
    first | rw [own_i2bb] at V8 | rw [own_i2b] at V8
    rw [own_pushv (by omega)] at V8
    refine own_st st8 ?_
    refine own_st (fun tq kq => XS.iinc X8.here hx rfl (hb hby dE8x_118) rfl (l' := #[vI 0, vR t, vI 1, vI (Int32.ofNat (P.length + 1)), vR d, vR t, vI (Int32.ofNat cs.length), vI ((Int32.ofNat i) + (1 : Int32)), vI ((cs.getD i 0).toInt8.toInt32)]) rfl kq) ?_
    show own_G p e below _ (T8.setTop (mkF m 121 #[vI 0, vR t, vI 1, vI (Int32.ofNat (P.length + 1)), vR d, vR t, vI (Int32.ofNat cs.length), vI ((Int32.ofNat i) + (1 : Int32)), vI ((cs.getD i 0).toInt8.toInt32)] []))
    rw [own_inc i]
    show own_G p e below _ (T8.setTop (mkF m 121 #[vI 0, vR t, vI 1, vI (Int32.ofNat (P.length + 1)), vR d, vR t, vI (Int32.ofNat cs.length), vI (Int32.ofNat (i + 1)), vI ((cs.getD i 0).toInt8.toInt32)] []))
    refine own_st (fun tq kq => XS.goto X8.here hx rfl (pc0 := 121) (pc' := 49) rfl (hb hby dE8x_121) (by decide) (by decide) kq) ?_
    show own_G p e below _ (T8.setTop (mkF m 49 #[vI 0, vR t, vI 1, vI (Int32.ofNat (P.length + 1)), vR d, vR t, vI (Int32.ofNat cs.length), vI (Int32.ofNat (i + 1)), vI ((cs.getD i 0).toInt8.toInt32)] []))
    exact ih T8 h8 _ (i + 1) (P.length + 1) d kd (P ++ [((cs.getD i 0).toInt8.toInt32)]) (vI ((cs.getD i 0).toInt8.toInt32)) X8 e8 N8 K8 (by omega) (Or.inr ⟨_, rfl, rfl⟩) (by rw [own_u8s (by omega), own_encL1 (own_getok hcs (by omega)) hc65_5, hP]; all_goals simp only [List.append_assoc, List.cons_append, List.nil_append]) (by simp) gd V8
 refine own_st (fun tq kq => castTop (ef_own_e8 m (t)) kq) ?_
 show own_G p e below _ (s₁.setTop (mkF m 0 #[vI 0, vR t, vI 1, .unset, .unset, .unset, .unset, .unset, .unset] []))
 refine s_iloadN X0 hx (hb hby dE8x_0) rfl ?_
 refine s_iconst X0 hx (hb hby dE8x_1) ?_
 show own_G p e below _ (s₁.setTop (mkF m 2 #[vI 0, vR t, vI 1, .unset, .unset, .unset, .unset, .unset, .unset] [(.int 1), (.int 0)]))
 refine own_st (fun tq kq => XS.icmpYes X0.here hx rfl (pc0 := 2) (pc' := 11) rfl (hb hby dE8x_2) rfl (feq (by decide : ¬ ((0 : Int32) = (1 : Int32)))).2 (by decide) (by decide) kq) ?_
 refine s_aloadN X0 hx (hb hby dE8x_11) rfl rfl ?_
 refine s_iconst X0 hx (hb hby dE8x_12) ?_
 refine s_aloadN X0 hx (hb hby dE8x_13) rfl rfl ?_
 obtain ⟨cl9, Ar9, q9, S_9, N_9, H_9, G_9⟩ := id Vt
 refine own_st (fun tq kq => X0.arraylength hx (by rw [e0]; exact Ar9.1) (State.isArrayOf_alike hZ.alike Ar9.2.1) (g := (mkF m 14 #[vI 0, vR t, vI 1, .unset, .unset, .unset, .unset, .unset, .unset] [(.ref t), (.int 0), (.ref t)])) rfl rfl (hb hby dE8x_14) _ kq) ?_
 rw [len_of S_9 N_9]
 show own_G p e below _ (s₁.setTop (mkF m 15 #[vI 0, vR t, vI 1, .unset, .unset, .unset, .unset, .unset, .unset] [(.int (Int32.ofNat cs.length)), (.int 0), (.ref t)]))
 obtain ⟨_, _, ⟨T10, L10, k10, n10⟩, -, X10, ⟨Lc10, hQ10, l10, y10, z10⟩, st10⟩ := Jvm.LawKit.callS X0 hx (y := mN43) hown (mvT hZ (wd188 hw)) (mvT hZ (wd189 hw)) (mvT hZ (wd190 hw)) (mvT hZ (wd191 hw)) (by decide) (own_backN (W := 0) (own_hn l Z a0 hw [] (t) (kb) (cs) h0 n0 (by omega) (X00.keep K0 all0) Vt hc) hZ (wd191 hw) (wd190 hw) (by decide) (by decide)) (g := (mkF m 15 #[vI 0, vR t, vI 1, .unset, .unset, .unset, .unset, .unset, .unset] [(.int (Int32.ofNat cs.length)), (.int 0), (.ref t)])) rfl (by rw [hml]; rfl) (argsL := [(.ref t), (.int 0), (.int (Int32.ofNat cs.length))]) (rest := []) (lenOf own_pd30 rfl) rfl (Nat.le_of_eq rfl) (hb hby dE8x_15) (fun _ _ => ⟨rfl, e0, (by decide : 0 + 0 ≤ _), (by decide : 0 + 0 ≤ _)⟩)
 dsimp only [Pt.U, Pt.locs, Pt.cells, Pt.slots] at X10 l10 y10 z10 st10 hQ10
 subst l10 y10 z10
 obtain ⟨hr10, Nq10, sm10⟩ := hQ10
 have N10 := Fr.app N0 Nq10
 rcases hr10 with ⟨rfl, hall10⟩ | rfl
 ·
  refine own_st st10 ?_
  refine own_st (fun tq kq => XS.ifNo X10.here hx rfl (hb hby dE8x_18) rfl ((if0 _ _).trans (teq (by decide : ((0 : Int32) = (0 : Int32)))).2) kq) ?_
  refine s_aloadN X10 hx (hb hby dE8x_21) rfl rfl ?_
  obtain ⟨T11, h11, X11, e11, E11, A11, Ea11, st11⟩ := cloneH X10 hx hZ hown (wd195 hw) (wd196 hw) (wd200 hw) (wd198 hw) (wd199 hw) (wd201 hw) sm10 (Arv.arh Vt) Et (g := (mkF m 22 #[vI 0, vR t, vI 1, .unset, .unset, .unset, .unset, .unset, .unset] [(.ref t)])) rfl (by rw [hml]; rfl) (rest := []) rfl (hb hby dE8x_22) (by decide) (W := 0) (cap := 72) (Nat.le_of_eq rfl) (by decide) (by rw [own_n32 (by omega)]; omega) (by decide) (by decide)
  obtain ⟨b11, g11⟩ : ∃ z, z = h0.size := ⟨_, rfl⟩
  rw [← g11] at A11 Ea11 st11
  have V11 : Arv Z h11 b11 kb .byte (Int32.ofNat cs.length) (own_bt cs) (.int 0) := A11
  have lt11 : b11 < h11.size := V11.lt
  have sz11 : h0.size ≤ h11.size := E11.1
  have K11 : Keep h0 h11 [] := K0.ext E11
  refine own_st st11 ?_
  obtain ⟨T12, X12, e12, st12⟩ := castY X11 hx hZ hown (wd202 hw) e11 (Ins.self Ea11) (g := (mkF m 25 #[vI 0, vR t, vI 1, .unset, .unset, .unset, .unset, .unset, .unset] [(.ref b11)])) rfl rfl (hb hby dE8x_25)
  refine own_st st12 ?_
  exact own_retN X12 (v := some (.ref b11)) (fun h => by rw [Bd.returns] at h; cases h) Bd.notSynchronized (fun fs hr => retOut X12 hx Bd.returns rfl (Or.inr (Or.inr (Or.inr (Or.inr ⟨rfl, rfl, rfl⟩)))) (hb hby dE8x_28) hr) (by decide) (by decide) (by rw [e12]; exact ⟨b11, _, rfl, N10, K11, (by omega), V11.lt, (by rw [own_latU8 cs hcs hall10, List.length_map]; exact V11)⟩)
 ·
  refine own_st st10 ?_
  refine own_st (fun tq kq => XS.ifYes X10.here hx rfl (pc0 := 18) (pc' := 29) rfl (hb hby dE8x_18) rfl ((if0 _ _).trans (feq (by decide : ¬ ((1 : Int32) = (0 : Int32)))).2) (by decide) (by decide) kq) ?_
  refine s_iconst X10 hx (hb hby dE8x_29) ?_
  refine own_st (fun tq kq => XS.istoreN X10.here hx rfl (hb hby dE8x_30) rfl (l' := #[vI 0, vR t, vI 1, vI 0, .unset, .unset, .unset, .unset, .unset]) rfl kq) ?_
  refine s_aloadN X10 hx (hb hby dE8x_31) rfl rfl ?_
  obtain ⟨cl13, Ar13, q13, S_13, N_13, H_13, G_13⟩ := id Vt
  refine own_st (fun tq kq => X10.arraylength hx (by rw [sm10]; exact Ar13.1) (State.isArrayOf_alike hZ.alike Ar13.2.1) (g := (mkF m 32 #[vI 0, vR t, vI 1, vI 0, .unset, .unset, .unset, .unset, .unset] [(.ref t)])) rfl rfl (hb hby dE8x_32) _ kq) ?_
  rw [len_of S_13 N_13]
  show own_G p e below _ (T10.setTop (mkF m 33 #[vI 0, vR t, vI 1, vI 0, .unset, .unset, .unset, .unset, .unset] [(.int (Int32.ofNat cs.length))]))
  obtain ⟨_, _, ⟨T14, L14, k14, n14⟩, -, X14, ⟨Lc14, hQ14, l14, y14, z14⟩, st14⟩ := Jvm.LawKit.callS X10 hx (y := mN5) hown (mvT hZ (wd274 hw)) (mvT hZ (wd217 hw)) (mvT hZ (wd26 hw)) (mvT hZ (wd218 hw)) (by decide) (own_backN (W := 0) (own_nbf l Z a0 hw [] (cs.length) h0 n0 (by omega) (X00.keep K0 all0) hc) hZ (wd218 hw) (wd26 hw) (by decide) (by decide)) (g := (mkF m 33 #[vI 0, vR t, vI 1, vI 0, .unset, .unset, .unset, .unset, .unset] [(.int (Int32.ofNat cs.length))])) rfl (by rw [hml]; rfl) (argsL := [(.int (Int32.ofNat cs.length))]) (rest := []) (lenOf own_pd3 rfl) rfl (Nat.le_of_eq rfl) (hb hby dE8x_33) (fun _ _ => ⟨rfl, sm10, (by decide : 0 + 1 ≤ _), (by decide : 0 + 68 ≤ _)⟩)
  dsimp only [Pt.U, Pt.locs, Pt.cells, Pt.slots] at X14 l14 y14 z14 st14 hQ14
  subst l14 y14 z14
  obtain ⟨t14, kb14, rfl, Nq14, Kq14, gt14, lt14, Vt14⟩ := hQ14
  have KK14 : Keep h0 T14.heap [] := Kq14
  have sz14 : h0.size ≤ T14.heap.size := KK14.1
  have K14 : Keep h0 T14.heap [] := K0.trans KK14 all0
  have N14 := Fr.app N10 Nq14
  refine own_st st14 ?_
  refine own_st (fun tq kq => XS.astore X14.here hx rfl (hb hby dE8x_36) rfl rfl (l' := #[vI 0, vR t, vI 1, vI 0, vR t14, .unset, .unset, .unset, .unset]) rfl kq) ?_
  refine s_aloadN X14 hx (hb hby dE8x_38) rfl rfl ?_
  refine own_st (fun tq kq => XS.astore X14.here hx rfl (hb hby dE8x_39) rfl rfl (l' := #[vI 0, vR t, vI 1, vI 0, vR t14, vR t, .unset, .unset, .unset]) rfl kq) ?_
  refine s_aload X14 hx (hb hby dE8x_41) rfl rfl ?_
  obtain ⟨cl15, Ar15, q15, S_15, N_15, H_15, G_15⟩ := id (Vt.keep KK14 nin0)
  refine own_st (fun tq kq => X14.arraylength hx Ar15.1 (State.isArrayOf_alike hZ.alike Ar15.2.1) (g := (mkF m 43 #[vI 0, vR t, vI 1, vI 0, vR t14, vR t, .unset, .unset, .unset] [(.ref t)])) rfl rfl (hb hby dE8x_43) _ kq) ?_
  rw [len_of S_15 N_15]
  show own_G p e below _ (T14.setTop (mkF m 44 #[vI 0, vR t, vI 1, vI 0, vR t14, vR t, .unset, .unset, .unset] [(.int (Int32.ofNat cs.length))]))
  refine own_st (fun tq kq => XS.istore X14.here hx rfl (hb hby dE8x_44) rfl (l' := #[vI 0, vR t, vI 1, vI 0, vR t14, vR t, vI (Int32.ofNat cs.length), .unset, .unset]) rfl kq) ?_
  refine s_iconst X14 hx (hb hby dE8x_46) ?_
  refine own_st (fun tq kq => XS.istore X14.here hx rfl (hb hby dE8x_47) rfl (l' := #[vI 0, vR t, vI 1, vI 0, vR t14, vR t, vI (Int32.ofNat cs.length), vI 0, .unset]) rfl kq) ?_
  show own_G p e below _ (T14.setTop (mkF m 49 #[vI 0, vR t, vI 1, vI 0, vR t14, vR t, vI (Int32.ofNat cs.length), vI 0, .unset] []))
  exact loop cs.length T14 T14.heap _ 0 0 t14 kb14 [] (.unset) X14 rfl N14 K14 (by omega) (Or.inl rfl) (by simp [own_u8]) rfl (by omega) Vt14

def Q_own_iss (Z : State) (ch : Int32) (h0 : Heap) (n0 : Nat) (v : Option Value) (h : Heap) (L : List Loc) : Prop := v = some (.int (0 : Int32)) ∧ Fr n0 L ∧ h = h0
theorem own_iss (l : Launch) (Z : State) (a0 : Array Value) (hw : hWt a0 Z) (ws : List Jvm.Cond) (ch : Int32) (h0 : Heap) (n0 : Nat) (Z0 : n0 ≤ h0.size) (X00 : Old Z n0 h0) (hn1 : ¬ (¬ ch < (55296 : Int32) ∧ ch < (57344 : Int32))) :
 own_MN l mN45 jdk_89_method_16_code 1 (some .boolean) ws rm_0_0_0_0 Z #[(.int ch)] h0 (Q_own_iss Z ch h0 n0) := by
 refine own_bodyN (plainFor_of_name own_pn11) fun p e s m below meth c s₁ Bd hx hby hml hown hZ X0 e0 => ?_
 have N0 := Fr.nil n0
 have K0 : Keep h0 h0 [] := Keep.refl h0 []
 refine own_st (fun tq kq => castTop (ef_own_nl m (ch)) kq) ?_
 show own_G p e below _ (s₁.setTop (mkF m 0 #[vI ch] []))
 refine s_iloadN X0 hx (hb hby dISx_0) rfl ?_
 refine own_st (fun tq kq => X0.ldcInt hx hown (mvT hZ (wd271 hw)) (g := (mkF m 1 #[vI ch] [(.int ch)])) rfl (hb hby dISx_1) _ kq) ?_
 show own_G p e below _ (s₁.setTop (mkF m 3 #[vI ch] [(.int 55296), (.int ch)]))
 by_cases hc3_1 : (ch < (55296 : Int32))
 ·
  refine own_st (fun tq kq => XS.icmpYes X0.here hx rfl (pc0 := 3) (pc' := 16) rfl (hb hby dISx_3) rfl (tlt hc3_1).1 (by decide) (by decide) kq) ?_
  refine s_iconst X0 hx (hb hby dISx_16) ?_
  show own_G p e below _ (s₁.setTop (mkF m 17 #[vI ch] [(.int 0)]))
  exact own_retN X0 (v := some (.int 0)) (fun h => by rw [Bd.returns] at h; cases h) Bd.notSynchronized (fun fs hr => retN X0 hx (z := (0 : Int32)) (t := .boolean) Bd.returns (by simp) (hb hby dISx_17) hr) (by decide) (by decide) (by rw [e0]; exact ⟨rfl, N0, rfl⟩)
 ·
  refine own_st (fun tq kq => XS.icmpNo X0.here hx rfl (hb hby dISx_3) rfl (flt hc3_1).1 kq) ?_
  refine s_iloadN X0 hx (hb hby dISx_6) rfl ?_
  refine own_st (fun tq kq => X0.ldcInt hx hown (mvT hZ (wd272 hw)) (g := (mkF m 7 #[vI ch] [(.int ch)])) rfl (hb hby dISx_7) _ kq) ?_
  show own_G p e below _ (s₁.setTop (mkF m 9 #[vI ch] [(.int 57344), (.int ch)]))
  by_cases hc9_2 : (ch < (57344 : Int32))
  ·
   exact absurd ⟨hc3_1, hc9_2⟩ hn1
  ·
   refine own_st (fun tq kq => XS.icmpYes X0.here hx rfl (pc0 := 9) (pc' := 16) rfl (hb hby dISx_9) rfl (flt hc9_2).2.1 (by decide) (by decide) kq) ?_
   refine s_iconst X0 hx (hb hby dISx_16) ?_
   show own_G p e below _ (s₁.setTop (mkF m 17 #[vI ch] [(.int 0)]))
   exact own_retN X0 (v := some (.int 0)) (fun h => by rw [Bd.returns] at h; cases h) Bd.notSynchronized (fun fs hr => retN X0 hx (z := (0 : Int32)) (t := .boolean) Bd.returns (by simp) (hb hby dISx_17) hr) (by decide) (by decide) (by rw [e0]; exact ⟨rfl, N0, rfl⟩)

def Q_own_e16 (Z : State) (t : Nat) (kb : ClassId) (cs : List Int32) (h0 : Heap) (n0 : Nat) (v : Option Value) (h : Heap) (L : List Loc) : Prop := ∃ (r : Nat) (kr : ClassId), v = some (.ref r) ∧ Fr n0 L ∧ Keep h0 h [] ∧ h0.size ≤ r ∧ r < h.size ∧ Arv Z h r kr .byte (Int32.ofNat (own_u8 cs).length) ((own_u8 cs).map Value.int) (.int 0)
theorem ef_own_e16 (m : MethodId) (x0 : Nat) : entryFrame m #[(.ref x0), (.int 1)] 9 = mkF m 0 #[.val (.ref x0), .val (.int 1), .unset, .unset, .unset, .unset, .unset, .unset, .unset] [] := by first | (simp [entryFrame, mkF, argsToLocals, Value.category]; done) | rfl
theorem own_e16 (l : Launch) (Z : State) (a0 : Array Value) (hw : hWt a0 Z) (ws : List Jvm.Cond) (t : Nat) (kb : ClassId) (cs : List Int32) (h0 : Heap) (n0 : Nat) (Z0 : n0 ≤ h0.size) (X00 : Old Z n0 h0) (Vt : Arv Z h0 t kb .byte (Int32.ofNat (2 * cs.length)) (own_wb cs) (.int 0)) (hcs : ∀ c ∈ cs, ¬ c < 0 ∧ ¬ (65535 : Int32) < c) (hns : ∀ c ∈ cs, ¬ (¬ c < (55296 : Int32) ∧ c < (57344 : Int32))) (hc : cs.length ≤ 24) (OA : oA Z) (OH : oH Z) (OL : oL Z) :
 own_MN l mN46 jdk_42_method_47_code 9 (some (.array .byte)) ws rm_2_2_144_60 Z #[(.ref t), (.int 1)] h0 (Q_own_e16 Z t kb cs h0 n0) := by
 refine own_bodyN (plainFor_of_name own_pn0) fun p e s m below meth c s₁ Bd hx hby hml hown hZ X0 e0 => ?_
 have N0 := Fr.nil n0
 have K0 : Keep h0 h0 [] := Keep.refl h0 []
 have ltt : t < h0.size := Vt.lt
 have loop2 : ∀ (jk : Nat) (T : State) (h : Heap) (Lc : List Loc) (i dp d : Nat) (kd : ClassId) (P : List Int32) (s6 : Slot), Stand p l e rm_2_2_144_60 s m #[(.ref t), (.int 1)] below meth c T Lc 1 72 → T.heap = h → Fr n0 Lc → Keep h0 h [] → (i + jk = cs.length) → (s6 = .unset ∨ ∃ w, s6 = .val w ∧ w.category = 1) → (P = own_u8 (cs.take i)) → (P.length = dp) → (h0.size ≤ d) → (Arv Z h d kd .byte (Int32.ofNat (cs.length * 3)) (P.map Value.int ++ List.replicate ((cs.length * 3) - P.length) (.int 0)) (.int 0)) → own_G p e below (own_EN (Q_own_e16 Z t kb cs h0 n0) rm_2_2_144_60 #[(.ref t), (.int 1)] s) (T.setTop (mkF m 58 #[vR t, vI 1, vI (Int32.ofNat dp), vI (Int32.ofNat i), vI (Int32.ofNat cs.length), vR d, s6, .unset, .unset] [])) := by
  intro jk
  induction jk with
  | zero =>
   intro T h Lc i dp d kd P s6 Xl el Nl Kl hik hs6 hP hdp gd Vd
   have szl : h0.size ≤ h.size := Kl.1
   subst hdp
   have hPl : P.length ≤ 3 * i := by
     rw [hP]; exact Nat.le_trans (own_u8_len _) (by rw [List.length_take]; omega)
   have hPa : P = own_u8 cs := by rw [hP, own_takeAll (by omega)]
   show own_G p e below _ (T.setTop (mkF m 58 #[vR t, vI 1, vI (Int32.ofNat P.length), vI (Int32.ofNat i), vI (Int32.ofNat cs.length), vR d, s6, .unset, .unset] []))
   refine own_st (fun tq kq => XS.iloadN Xl.here hx rfl (hb hby dE6x_58) rfl  kq) ?_
   refine own_st (fun tq kq => XS.iload Xl.here hx rfl (hb hby dE6x_59) rfl  kq) ?_
   show own_G p e below _ (T.setTop (mkF m 61 #[vR t, vI 1, vI (Int32.ofNat P.length), vI (Int32.ofNat i), vI (Int32.ofNat cs.length), vR d, s6, .unset, .unset] [(.int (Int32.ofNat cs.length)), (.int (Int32.ofNat i))]))
   refine own_st (fun tq kq => XS.icmpYes Xl.here hx rfl (pc0 := 61) (pc' := 355) rfl (hb hby dE6x_61) rfl (flt (own_inlt (by omega) (by omega))).2.1 (by decide) (by decide) kq) ?_
   refine own_st (fun tq kq => XS.iloadN Xl.here hx rfl (hb hby dE6x_355) rfl  kq) ?_
   refine own_st (fun tq kq => XS.aload Xl.here hx rfl (hb hby dE6x_356) rfl rfl kq) ?_
   obtain ⟨cl1, Ar1, q1, S_1, N_1, H_1, G_1⟩ := id Vd
   refine own_st (fun tq kq => Xl.arraylength hx (by rw [el]; exact Ar1.1) (State.isArrayOf_alike hZ.alike Ar1.2.1) (g := (mkF m 358 #[vR t, vI 1, vI (Int32.ofNat P.length), vI (Int32.ofNat i), vI (Int32.ofNat cs.length), vR d, s6, .unset, .unset] [(.ref d), (.int (Int32.ofNat P.length))])) rfl rfl (hb hby dE6x_358) _ kq) ?_
   rw [len_of S_1 N_1]
   show own_G p e below _ (T.setTop (mkF m 359 #[vR t, vI 1, vI (Int32.ofNat P.length), vI (Int32.ofNat i), vI (Int32.ofNat cs.length), vR d, s6, .unset, .unset] [(.int (Int32.ofNat (cs.length * 3))), (.int (Int32.ofNat P.length))]))
   by_cases hc359_2 : ((Int32.ofNat P.length) = (Int32.ofNat (cs.length * 3)))
   ·
    refine own_st (fun tq kq => XS.icmpNo Xl.here hx rfl (hb hby dE6x_359) rfl (teq hc359_2).2 kq) ?_
    refine own_st (fun tq kq => XS.aload Xl.here hx rfl (hb hby dE6x_362) rfl rfl kq) ?_
    show own_G p e below _ (T.setTop (mkF m 364 #[vR t, vI 1, vI (Int32.ofNat P.length), vI (Int32.ofNat i), vI (Int32.ofNat cs.length), vR d, s6, .unset, .unset] [(.ref d)]))
    exact own_retN Xl (v := some (.ref d)) (fun h => by rw [Bd.returns] at h; cases h) Bd.notSynchronized (fun fs hr => retOut Xl hx Bd.returns rfl (Or.inr (Or.inr (Or.inr (Or.inr ⟨rfl, rfl, rfl⟩)))) (hb hby dE6x_364) hr) (by decide) (by decide) (by rw [el]; exact ⟨d, _, rfl, Nl, Kl, gd, Vd.lt, (by have e := own_ofinj hc359_2 (by omega) (by omega); have q := Vd; rw [← e, Nat.sub_self, List.replicate_zero, List.append_nil, hPa] at q; exact q)⟩)
   ·
    refine own_st (fun tq kq => XS.icmpYes Xl.here hx rfl (pc0 := 359) (pc' := 365) rfl (hb hby dE6x_359) rfl (feq hc359_2).2 (by decide) (by decide) kq) ?_
    refine own_st (fun tq kq => XS.aload Xl.here hx rfl (hb hby dE6x_365) rfl rfl kq) ?_
    refine own_st (fun tq kq => XS.iloadN Xl.here hx rfl (hb hby dE6x_367) rfl  kq) ?_
    obtain ⟨_, _, ⟨T3, L3, k3, n3⟩, -, X3, ⟨Lc3, hQ3, l3, y3, z3⟩, st3⟩ := Jvm.LawKit.callS Xl hx (y := mN27) hown (mvT hZ (wd273 hw)) (mvT hZ (wd106 hw)) (mvT hZ (wd107 hw)) (mvT hZ (wd108 hw)) (by decide) (own_backN (W := 0) (own_cof l Z a0 hw [] (d) (P.length) ((cs.length * 3)) (kd) ((P.map Value.int)) (_) h n0 (by omega) (X00.keep Kl all0) Vd (by simp) (Nat.lt_of_le_of_ne (by omega) (fun q => hc359_2 (congrArg Int32.ofNat q))) (by omega)) hZ (wd108 hw) (wd107 hw) (by decide) (by decide)) (g := (mkF m 368 #[vR t, vI 1, vI (Int32.ofNat P.length), vI (Int32.ofNat i), vI (Int32.ofNat cs.length), vR d, s6, .unset, .unset] [(.int (Int32.ofNat P.length)), (.ref d)])) rfl (by rw [hml]; rfl) (argsL := [(.ref d), (.int (Int32.ofNat P.length))]) (rest := []) (lenOf own_pd19 rfl) rfl (Nat.le_of_eq rfl) (hb hby dE6x_368) (fun _ _ => ⟨rfl, el, (by decide : 1 + 1 ≤ _), (by decide : 72 + 72 ≤ _)⟩)
    dsimp only [Pt.U, Pt.locs, Pt.cells, Pt.slots] at X3 l3 y3 z3 st3 hQ3
    subst l3 y3 z3
    obtain ⟨r3, kr3, rfl, Nq3, Kq3, gr3, lr3, Er3, Vr3⟩ := hQ3
    have KK3 : Keep h T3.heap [] := Kq3
    have sz3 : h.size ≤ T3.heap.size := KK3.1
    have K3 : Keep h0 T3.heap [] := Kl.trans KK3 all0
    have N3 := Fr.app Nl Nq3
    refine own_st st3 ?_
    exact own_retN X3 (v := some (.ref r3)) (fun h => by rw [Bd.returns] at h; cases h) Bd.notSynchronized (fun fs hr => retOut X3 hx Bd.returns rfl (Or.inr (Or.inr (Or.inr (Or.inr ⟨rfl, rfl, rfl⟩)))) (hb hby dE6x_371) hr) (by decide) (by decide) (by exact ⟨r3, _, rfl, N3, K3, (by omega), Vr3.lt, (by have q := Vr3; rw [hPa] at q; exact q)⟩)
  | succ jk ih =>
   intro T h Lc i dp d kd P s6 Xl el Nl Kl hik hs6 hP hdp gd Vd
   have szl : h0.size ≤ h.size := Kl.1
   subst hdp
   have hPl : P.length ≤ 3 * i := by
     rw [hP]; exact Nat.le_trans (own_u8_len _) (by rw [List.length_take]; omega)
   show own_G p e below _ (T.setTop (mkF m 58 #[vR t, vI 1, vI (Int32.ofNat P.length), vI (Int32.ofNat i), vI (Int32.ofNat cs.length), vR d, s6, .unset, .unset] []))
   refine own_st (fun tq kq => XS.iloadN Xl.here hx rfl (hb hby dE6x_58) rfl  kq) ?_
   refine own_st (fun tq kq => XS.iload Xl.here hx rfl (hb hby dE6x_59) rfl  kq) ?_
   show own_G p e below _ (T.setTop (mkF m 61 #[vR t, vI 1, vI (Int32.ofNat P.length), vI (Int32.ofNat i), vI (Int32.ofNat cs.length), vR d, s6, .unset, .unset] [(.int (Int32.ofNat cs.length)), (.int (Int32.ofNat i))]))
   refine own_st (fun tq kq => XS.icmpNo Xl.here hx rfl (hb hby dE6x_61) rfl (tlt (own_ilt (by omega) (by omega))).2.1 kq) ?_
   refine own_st (fun tq kq => XS.aloadN Xl.here hx rfl (hb hby dE6x_64) rfl rfl kq) ?_
   refine own_st (fun tq kq => XS.iloadN Xl.here hx rfl (hb hby dE6x_65) rfl  kq) ?_
   refine own_st (fun tq kq => XS.iinc Xl.here hx rfl (hb hby dE6x_66) rfl (l' := #[vR t, vI 1, vI (Int32.ofNat P.length), vI ((Int32.ofNat i) + (1 : Int32)), vI (Int32.ofNat cs.length), vR d, s6, .unset, .unset]) rfl kq) ?_
   show own_G p e below _ (T.setTop (mkF m 69 #[vR t, vI 1, vI (Int32.ofNat P.length), vI ((Int32.ofNat i) + (1 : Int32)), vI (Int32.ofNat cs.length), vR d, s6, .unset, .unset] [(.int (Int32.ofNat i)), (.ref t)]))
   rw [own_inc i]
   show own_G p e below _ (T.setTop (mkF m 69 #[vR t, vI 1, vI (Int32.ofNat P.length), vI (Int32.ofNat (i + 1)), vI (Int32.ofNat cs.length), vR d, s6, .unset, .unset] [(.int (Int32.ofNat i)), (.ref t)]))
   obtain ⟨_, _, ⟨T4, L4, k4, n4⟩, -, X4, ⟨Lc4, hQ4, l4, y4, z4⟩, st4⟩ := Jvm.LawKit.callS Xl hx (y := mN7) hown (mvT hZ (wd266 hw)) (mvT hZ (wd230 hw)) (mvT hZ (wd26 hw)) (mvT hZ (wd231 hw)) (by decide) (own_backN (W := 0) (own_gc l Z a0 hw [] (t) (i) (kb) (cs) h n0 (by omega) (X00.keep Kl all0) OA OH OL (Vt.keep Kl nin0) (by omega) (by omega) hcs) hZ (wd231 hw) (wd26 hw) (by decide) (by decide)) (g := (mkF m 69 #[vR t, vI 1, vI (Int32.ofNat P.length), vI (Int32.ofNat (i + 1)), vI (Int32.ofNat cs.length), vR d, s6, .unset, .unset] [(.int (Int32.ofNat i)), (.ref t)])) rfl (by rw [hml]; rfl) (argsL := [(.ref t), (.int (Int32.ofNat i))]) (rest := []) (lenOf own_pd6 rfl) rfl (Nat.le_of_eq rfl) (hb hby dE6x_69) (fun _ _ => ⟨rfl, el, (by decide : 1 + 0 ≤ _), (by decide : 72 + 0 ≤ _)⟩)
   dsimp only [Pt.U, Pt.locs, Pt.cells, Pt.slots] at X4 l4 y4 z4 st4 hQ4
   subst l4 y4 z4
   obtain ⟨rfl, Nq4, sm4⟩ := hQ4
   have N4 := Fr.app Nl Nq4
   refine own_st st4 ?_
   refine own_st (fun tq kq => XS.istoreS X4.here hx rfl (hb hby dE6x_72) rfl rfl hs6 kq) ?_
   show own_G p e below _ (T4.setTop (mkF m 74 #[vR t, vI 1, vI (Int32.ofNat P.length), vI (Int32.ofNat (i + 1)), vI (Int32.ofNat cs.length), vR d, vI (cs.getD i 0), .unset, .unset] []))
   refine s_iload X4 hx (hb hby dE6x_74) rfl ?_
   refine s_sipush X4 hx (hb hby dE6x_76) ?_
   show own_G p e below _ (T4.setTop (mkF m 79 #[vR t, vI 1, vI (Int32.ofNat P.length), vI (Int32.ofNat (i + 1)), vI (Int32.ofNat cs.length), vR d, vI (cs.getD i 0), .unset, .unset] [(.int 128), (.int (cs.getD i 0))]))
   by_cases hc79_5 : ((cs.getD i 0) < (128 : Int32))
   ·
    refine own_st (fun tq kq => XS.icmpNo X4.here hx rfl (hb hby dE6x_79) rfl (tlt hc79_5).2.1 kq) ?_
    refine s_aload X4 hx (hb hby dE6x_82) rfl rfl ?_
    refine s_iloadN X4 hx (hb hby dE6x_84) rfl ?_
    refine own_st (fun tq kq => XS.iinc X4.here hx rfl (hb hby dE6x_85) rfl (l' := #[vR t, vI 1, vI ((Int32.ofNat P.length) + (1 : Int32)), vI (Int32.ofNat (i + 1)), vI (Int32.ofNat cs.length), vR d, vI (cs.getD i 0), .unset, .unset]) rfl kq) ?_
    show own_G p e below _ (T4.setTop (mkF m 88 #[vR t, vI 1, vI ((Int32.ofNat P.length) + (1 : Int32)), vI (Int32.ofNat (i + 1)), vI (Int32.ofNat cs.length), vR d, vI (cs.getD i 0), .unset, .unset] [(.int (Int32.ofNat P.length)), (.ref d)]))
    rw [own_inc (P.length)]
    show own_G p e below _ (T4.setTop (mkF m 88 #[vR t, vI 1, vI (Int32.ofNat (P.length + 1)), vI (Int32.ofNat (i + 1)), vI (Int32.ofNat cs.length), vR d, vI (cs.getD i 0), .unset, .unset] [(.int (Int32.ofNat P.length)), (.ref d)]))
    refine s_iload X4 hx (hb hby dE6x_88) rfl ?_
    refine own_st (fun tq kq => XS.i2b X4.here hx rfl (hb hby dE6x_90) rfl kq) ?_
    obtain ⟨cl6, Ar6, q6, S_6, N_6, H_6, G_6⟩ := id Vd
    have in6 : ¬ ((Int32.ofNat P.length) < 0 ∨ cl6.slots.size ≤ ((Int32.ofNat P.length)).toNatClampNeg) := inb_of S_6 ⟨(own_n0 (by omega)), (own_ilt (by omega) (by omega))⟩
    obtain ⟨T6, h6, X6, e6, W6, st6⟩ := stB X4 hx hZ sm4 Ar6 (j := (Int32.ofNat P.length)) in6 (g := (mkF m 91 #[vR t, vI 1, vI (Int32.ofNat (P.length + 1)), vI (Int32.ofNat (i + 1)), vI (Int32.ofNat cs.length), vR d, vI (cs.getD i 0), .unset, .unset] [(.int ((cs.getD i 0).toInt8.toInt32)), (.int (Int32.ofNat P.length)), (.ref d)])) rfl rfl (hb hby dE6x_91)
    have V6 := Arv.set Ar6 q6 S_6 N_6 H_6 G_6 (fits_nar_byte _) W6 P.length (by rw [own_n32 (by omega)]) (by simp only [List.length_append, List.length_cons, List.length_nil, List.length_map, List.length_replicate]; omega)
    have sz6 : h.size ≤ h6.size := (Keep.of_wr W6).1
    have K6 : Keep h0 h6 [] := Kl.wr W6 (Or.inr (own_le (by omega)))
    have N6 := Fr.snoc X6 N4 (own_le (by omega))
    first | rw [own_i2bb] at V6 | rw [own_i2b] at V6
    rw [own_pushv (by omega)] at V6
    refine own_st st6 ?_
    refine own_st (fun tq kq => XS.goto X6.here hx rfl (pc0 := 92) (pc' := 352) rfl (hb hby dE6x_92) (by decide) (by decide) kq) ?_
    refine own_st (fun tq kq => XS.goto X6.here hx rfl (pc0 := 352) (pc' := 58) rfl (hb hby dE6x_352) (by decide) (by decide) kq) ?_
    show own_G p e below _ (T6.setTop (mkF m 58 #[vR t, vI 1, vI (Int32.ofNat (P.length + 1)), vI (Int32.ofNat (i + 1)), vI (Int32.ofNat cs.length), vR d, vI (cs.getD i 0), .unset, .unset] []))
    exact ih T6 h6 _ (i + 1) (P.length + 1) d kd (P ++ [((cs.getD i 0).toInt8.toInt32)]) (vI (cs.getD i 0)) X6 e6 N6 K6 (by omega) (Or.inr ⟨_, rfl, rfl⟩) (by rw [own_u8s (by omega), own_enc1 hc79_5, hP]; all_goals simp only [List.append_assoc, List.cons_append, List.nil_append]) (by simp) gd V6
   ·
    refine own_st (fun tq kq => XS.icmpYes X4.here hx rfl (pc0 := 79) (pc' := 95) rfl (hb hby dE6x_79) rfl (flt hc79_5).2.1 (by decide) (by decide) kq) ?_
    refine s_iload X4 hx (hb hby dE6x_95) rfl ?_
    refine s_sipush X4 hx (hb hby dE6x_97) ?_
    show own_G p e below _ (T4.setTop (mkF m 100 #[vR t, vI 1, vI (Int32.ofNat P.length), vI (Int32.ofNat (i + 1)), vI (Int32.ofNat cs.length), vR d, vI (cs.getD i 0), .unset, .unset] [(.int 2048), (.int (cs.getD i 0))]))
    by_cases hc100_7 : ((cs.getD i 0) < (2048 : Int32))
    ·
     refine own_st (fun tq kq => XS.icmpNo X4.here hx rfl (hb hby dE6x_100) rfl (tlt hc100_7).2.1 kq) ?_
     refine s_aload X4 hx (hb hby dE6x_103) rfl rfl ?_
     refine s_iloadN X4 hx (hb hby dE6x_105) rfl ?_
     refine own_st (fun tq kq => XS.iinc X4.here hx rfl (hb hby dE6x_106) rfl (l' := #[vR t, vI 1, vI ((Int32.ofNat P.length) + (1 : Int32)), vI (Int32.ofNat (i + 1)), vI (Int32.ofNat cs.length), vR d, vI (cs.getD i 0), .unset, .unset]) rfl kq) ?_
     show own_G p e below _ (T4.setTop (mkF m 109 #[vR t, vI 1, vI ((Int32.ofNat P.length) + (1 : Int32)), vI (Int32.ofNat (i + 1)), vI (Int32.ofNat cs.length), vR d, vI (cs.getD i 0), .unset, .unset] [(.int (Int32.ofNat P.length)), (.ref d)]))
     rw [own_inc (P.length)]
     show own_G p e below _ (T4.setTop (mkF m 109 #[vR t, vI 1, vI (Int32.ofNat (P.length + 1)), vI (Int32.ofNat (i + 1)), vI (Int32.ofNat cs.length), vR d, vI (cs.getD i 0), .unset, .unset] [(.int (Int32.ofNat P.length)), (.ref d)]))
     refine s_sipush X4 hx (hb hby dE6x_109) ?_
     refine s_iload X4 hx (hb hby dE6x_112) rfl ?_
     refine s_bipush X4 hx (hb hby dE6x_114) ?_
     refine own_st (fun tq kq => XS.ishr X4.here hx rfl (hb hby dE6x_116) rfl kq) ?_
     refine own_st (fun tq kq => XS.ior X4.here hx rfl (hb hby dE6x_117) rfl kq) ?_
     refine own_st (fun tq kq => XS.i2b X4.here hx rfl (hb hby dE6x_118) rfl kq) ?_
     obtain ⟨cl8, Ar8, q8, S_8, N_8, H_8, G_8⟩ := id Vd
     have in8 : ¬ ((Int32.ofNat P.length) < 0 ∨ cl8.slots.size ≤ ((Int32.ofNat P.length)).toNatClampNeg) := inb_of S_8 ⟨(own_n0 (by omega)), (own_ilt (by omega) (by omega))⟩
     obtain ⟨T8, h8, X8, e8, W8, st8⟩ := stB X4 hx hZ sm4 Ar8 (j := (Int32.ofNat P.length)) in8 (g := (mkF m 119 #[vR t, vI 1, vI (Int32.ofNat (P.length + 1)), vI (Int32.ofNat (i + 1)), vI (Int32.ofNat cs.length), vR d, vI (cs.getD i 0), .unset, .unset] [(.int (((192 : Int32) ||| ((cs.getD i 0) >>> ((6 : Int32) &&& 31))).toInt8.toInt32)), (.int (Int32.ofNat P.length)), (.ref d)])) rfl rfl (hb hby dE6x_119)
     have V8 := Arv.set Ar8 q8 S_8 N_8 H_8 G_8 (fits_nar_byte _) W8 P.length (by rw [own_n32 (by omega)]) (by simp only [List.length_append, List.length_cons, List.length_nil, List.length_map, List.length_replicate]; omega)
     have sz8 : h.size ≤ h8.size := (Keep.of_wr W8).1
     have K8 : Keep h0 h8 [] := Kl.wr W8 (Or.inr (own_le (by omega)))
     have N8 := Fr.snoc X8 N4 (own_le (by omega))
     first | rw [own_i2bb] at V8 | rw [own_i2b] at V8
     rw [own_pushv (by omega)] at V8
     refine own_st st8 ?_
     refine s_aload X8 hx (hb hby dE6x_120) rfl rfl ?_
     refine s_iloadN X8 hx (hb hby dE6x_122) rfl ?_
     refine own_st (fun tq kq => XS.iinc X8.here hx rfl (hb hby dE6x_123) rfl (l' := #[vR t, vI 1, vI ((Int32.ofNat (P.length + 1)) + (1 : Int32)), vI (Int32.ofNat (i + 1)), vI (Int32.ofNat cs.length), vR d, vI (cs.getD i 0), .unset, .unset]) rfl kq) ?_
     show own_G p e below _ (T8.setTop (mkF m 126 #[vR t, vI 1, vI ((Int32.ofNat (P.length + 1)) + (1 : Int32)), vI (Int32.ofNat (i + 1)), vI (Int32.ofNat cs.length), vR d, vI (cs.getD i 0), .unset, .unset] [(.int (Int32.ofNat (P.length + 1))), (.ref d)]))
     rw [own_inc (P.length + 1)]
     show own_G p e below _ (T8.setTop (mkF m 126 #[vR t, vI 1, vI (Int32.ofNat (P.length + 1 + 1)), vI (Int32.ofNat (i + 1)), vI (Int32.ofNat cs.length), vR d, vI (cs.getD i 0), .unset, .unset] [(.int (Int32.ofNat (P.length + 1))), (.ref d)]))
     refine s_sipush X8 hx (hb hby dE6x_126) ?_
     refine s_iload X8 hx (hb hby dE6x_129) rfl ?_
     refine s_bipush X8 hx (hb hby dE6x_131) ?_
     refine own_st (fun tq kq => XS.iand X8.here hx rfl (hb hby dE6x_133) rfl kq) ?_
     refine own_st (fun tq kq => XS.ior X8.here hx rfl (hb hby dE6x_134) rfl kq) ?_
     refine own_st (fun tq kq => XS.i2b X8.here hx rfl (hb hby dE6x_135) rfl kq) ?_
     obtain ⟨cl9, Ar9, q9, S_9, N_9, H_9, G_9⟩ := id V8
     have in9 : ¬ ((Int32.ofNat (P.length + 1)) < 0 ∨ cl9.slots.size ≤ ((Int32.ofNat (P.length + 1))).toNatClampNeg) := inb_of S_9 ⟨(own_n0 (by omega)), (own_ilt (by omega) (by omega))⟩
     obtain ⟨T9, h9, X9, e9, W9, st9⟩ := stB X8 hx hZ e8 Ar9 (j := (Int32.ofNat (P.length + 1))) in9 (g := (mkF m 136 #[vR t, vI 1, vI (Int32.ofNat (P.length + 1 + 1)), vI (Int32.ofNat (i + 1)), vI (Int32.ofNat cs.length), vR d, vI (cs.getD i 0), .unset, .unset] [(.int (((128 : Int32) ||| ((cs.getD i 0) &&& (63 : Int32))).toInt8.toInt32)), (.int (Int32.ofNat (P.length + 1))), (.ref d)])) rfl rfl (hb hby dE6x_136)
     have V9 := Arv.set Ar9 q9 S_9 N_9 H_9 G_9 (fits_nar_byte _) W9 (P ++ [(((192 : Int32) ||| ((cs.getD i 0) >>> ((6 : Int32) &&& 31))).toInt8.toInt32)]).length (by rw [own_n32 (by omega)]; simp) (by simp only [List.length_append, List.length_cons, List.length_nil, List.length_map, List.length_replicate]; omega)
     have sz9 : h8.size ≤ h9.size := (Keep.of_wr W9).1
     have K9 : Keep h0 h9 [] := K8.wr W9 (Or.inr (own_le (by omega)))
     have N9 := Fr.snoc X9 N8 (own_le (by omega))
     first | rw [own_i2bb] at V9 | rw [own_i2b] at V9
     rw [own_pushv (by simp only [List.length_append, List.length_cons, List.length_nil]; omega)] at V9
     refine own_st st9 ?_
     refine own_st (fun tq kq => XS.goto X9.here hx rfl (pc0 := 137) (pc' := 352) rfl (hb hby dE6x_137) (by decide) (by decide) kq) ?_
     refine own_st (fun tq kq => XS.goto X9.here hx rfl (pc0 := 352) (pc' := 58) rfl (hb hby dE6x_352) (by decide) (by decide) kq) ?_
     show own_G p e below _ (T9.setTop (mkF m 58 #[vR t, vI 1, vI (Int32.ofNat (P.length + 1 + 1)), vI (Int32.ofNat (i + 1)), vI (Int32.ofNat cs.length), vR d, vI (cs.getD i 0), .unset, .unset] []))
     exact ih T9 h9 _ (i + 1) (P.length + 1 + 1) d kd ((P ++ [(((192 : Int32) ||| ((cs.getD i 0) >>> ((6 : Int32) &&& 31))).toInt8.toInt32)]) ++ [(((128 : Int32) ||| ((cs.getD i 0) &&& (63 : Int32))).toInt8.toInt32)]) (vI (cs.getD i 0)) X9 e9 N9 K9 (by omega) (Or.inr ⟨_, rfl, rfl⟩) (by rw [own_u8s (by omega), own_enc2 hc79_5 hc100_7, hP]; all_goals simp only [List.append_assoc, List.cons_append, List.nil_append]) (by simp) gd V9
    ·
     refine own_st (fun tq kq => XS.icmpYes X4.here hx rfl (pc0 := 100) (pc' := 140) rfl (hb hby dE6x_100) rfl (flt hc100_7).2.1 (by decide) (by decide) kq) ?_
     refine s_iload X4 hx (hb hby dE6x_140) rfl ?_
     obtain ⟨_, _, ⟨T10, L10, k10, n10⟩, -, X10, ⟨Lc10, hQ10, l10, y10, z10⟩, st10⟩ := Jvm.LawKit.callS X4 hx (y := mN45) hown (mvT hZ (wd267 hw)) (mvT hZ (wd268 hw)) (mvT hZ (wd269 hw)) (mvT hZ (wd270 hw)) (by decide) (own_backN (W := 0) (own_iss l Z a0 hw [] ((cs.getD i 0)) h n0 (by omega) (X00.keep Kl all0) (own_getok hns (by omega))) hZ (wd270 hw) (wd269 hw) (by decide) (by decide)) (g := (mkF m 142 #[vR t, vI 1, vI (Int32.ofNat P.length), vI (Int32.ofNat (i + 1)), vI (Int32.ofNat cs.length), vR d, vI (cs.getD i 0), .unset, .unset] [(.int (cs.getD i 0))])) rfl (by rw [hml]; rfl) (argsL := [(.int (cs.getD i 0))]) (rest := []) (lenOf own_pd31 rfl) rfl (Nat.le_of_eq rfl) (hb hby dE6x_142) (fun _ _ => ⟨rfl, sm4, (by decide : 1 + 0 ≤ _), (by decide : 72 + 0 ≤ _)⟩)
     dsimp only [Pt.U, Pt.locs, Pt.cells, Pt.slots] at X10 l10 y10 z10 st10 hQ10
     subst l10 y10 z10
     obtain ⟨rfl, Nq10, sm10⟩ := hQ10
     have N10 := Fr.app N4 Nq10
     refine own_st st10 ?_
     refine own_st (fun tq kq => XS.ifYes X10.here hx rfl (pc0 := 145) (pc' := 298) rfl (hb hby dE6x_145) rfl ((if0 _ _).trans (teq (by decide : ((0 : Int32) = (0 : Int32)))).1) (by decide) (by decide) kq) ?_
     refine s_aload X10 hx (hb hby dE6x_298) rfl rfl ?_
     refine s_iloadN X10 hx (hb hby dE6x_300) rfl ?_
     refine own_st (fun tq kq => XS.iinc X10.here hx rfl (hb hby dE6x_301) rfl (l' := #[vR t, vI 1, vI ((Int32.ofNat P.length) + (1 : Int32)), vI (Int32.ofNat (i + 1)), vI (Int32.ofNat cs.length), vR d, vI (cs.getD i 0), .unset, .unset]) rfl kq) ?_
     show own_G p e below _ (T10.setTop (mkF m 304 #[vR t, vI 1, vI ((Int32.ofNat P.length) + (1 : Int32)), vI (Int32.ofNat (i + 1)), vI (Int32.ofNat cs.length), vR d, vI (cs.getD i 0), .unset, .unset] [(.int (Int32.ofNat P.length)), (.ref d)]))
     rw [own_inc (P.length)]
     show own_G p e below _ (T10.setTop (mkF m 304 #[vR t, vI 1, vI (Int32.ofNat (P.length + 1)), vI (Int32.ofNat (i + 1)), vI (Int32.ofNat cs.length), vR d, vI (cs.getD i 0), .unset, .unset] [(.int (Int32.ofNat P.length)), (.ref d)]))
     refine s_sipush X10 hx (hb hby dE6x_304) ?_
     refine s_iload X10 hx (hb hby dE6x_307) rfl ?_
     refine s_bipush X10 hx (hb hby dE6x_309) ?_
     refine own_st (fun tq kq => XS.ishr X10.here hx rfl (hb hby dE6x_311) rfl kq) ?_
     refine own_st (fun tq kq => XS.ior X10.here hx rfl (hb hby dE6x_312) rfl kq) ?_
     refine own_st (fun tq kq => XS.i2b X10.here hx rfl (hb hby dE6x_313) rfl kq) ?_
     obtain ⟨cl11, Ar11, q11, S_11, N_11, H_11, G_11⟩ := id Vd
     have in11 : ¬ ((Int32.ofNat P.length) < 0 ∨ cl11.slots.size ≤ ((Int32.ofNat P.length)).toNatClampNeg) := inb_of S_11 ⟨(own_n0 (by omega)), (own_ilt (by omega) (by omega))⟩
     obtain ⟨T11, h11, X11, e11, W11, st11⟩ := stB X10 hx hZ sm10 Ar11 (j := (Int32.ofNat P.length)) in11 (g := (mkF m 314 #[vR t, vI 1, vI (Int32.ofNat (P.length + 1)), vI (Int32.ofNat (i + 1)), vI (Int32.ofNat cs.length), vR d, vI (cs.getD i 0), .unset, .unset] [(.int (((224 : Int32) ||| ((cs.getD i 0) >>> ((12 : Int32) &&& 31))).toInt8.toInt32)), (.int (Int32.ofNat P.length)), (.ref d)])) rfl rfl (hb hby dE6x_314)
     have V11 := Arv.set Ar11 q11 S_11 N_11 H_11 G_11 (fits_nar_byte _) W11 P.length (by rw [own_n32 (by omega)]) (by simp only [List.length_append, List.length_cons, List.length_nil, List.length_map, List.length_replicate]; omega)
     have sz11 : h.size ≤ h11.size := (Keep.of_wr W11).1
     have K11 : Keep h0 h11 [] := Kl.wr W11 (Or.inr (own_le (by omega)))
     have N11 := Fr.snoc X11 N10 (own_le (by omega))
     first | rw [own_i2bb] at V11 | rw [own_i2b] at V11
     rw [own_pushv (by omega)] at V11
     refine own_st st11 ?_
     refine s_aload X11 hx (hb hby dE6x_315) rfl rfl ?_
     refine s_iloadN X11 hx (hb hby dE6x_317) rfl ?_
     refine own_st (fun tq kq => XS.iinc X11.here hx rfl (hb hby dE6x_318) rfl (l' := #[vR t, vI 1, vI ((Int32.ofNat (P.length + 1)) + (1 : Int32)), vI (Int32.ofNat (i + 1)), vI (Int32.ofNat cs.length), vR d, vI (cs.getD i 0), .unset, .unset]) rfl kq) ?_
     show own_G p e below _ (T11.setTop (mkF m 321 #[vR t, vI 1, vI ((Int32.ofNat (P.length + 1)) + (1 : Int32)), vI (Int32.ofNat (i + 1)), vI (Int32.ofNat cs.length), vR d, vI (cs.getD i 0), .unset, .unset] [(.int (Int32.ofNat (P.length + 1))), (.ref d)]))
     rw [own_inc (P.length + 1)]
     show own_G p e below _ (T11.setTop (mkF m 321 #[vR t, vI 1, vI (Int32.ofNat (P.length + 1 + 1)), vI (Int32.ofNat (i + 1)), vI (Int32.ofNat cs.length), vR d, vI (cs.getD i 0), .unset, .unset] [(.int (Int32.ofNat (P.length + 1))), (.ref d)]))
     refine s_sipush X11 hx (hb hby dE6x_321) ?_
     refine s_iload X11 hx (hb hby dE6x_324) rfl ?_
     refine s_bipush X11 hx (hb hby dE6x_326) ?_
     refine own_st (fun tq kq => XS.ishr X11.here hx rfl (hb hby dE6x_328) rfl kq) ?_
     refine s_bipush X11 hx (hb hby dE6x_329) ?_
     refine own_st (fun tq kq => XS.iand X11.here hx rfl (hb hby dE6x_331) rfl kq) ?_
     refine own_st (fun tq kq => XS.ior X11.here hx rfl (hb hby dE6x_332) rfl kq) ?_
     refine own_st (fun tq kq => XS.i2b X11.here hx rfl (hb hby dE6x_333) rfl kq) ?_
     obtain ⟨cl12, Ar12, q12, S_12, N_12, H_12, G_12⟩ := id V11
     have in12 : ¬ ((Int32.ofNat (P.length + 1)) < 0 ∨ cl12.slots.size ≤ ((Int32.ofNat (P.length + 1))).toNatClampNeg) := inb_of S_12 ⟨(own_n0 (by omega)), (own_ilt (by omega) (by omega))⟩
     obtain ⟨T12, h12, X12, e12, W12, st12⟩ := stB X11 hx hZ e11 Ar12 (j := (Int32.ofNat (P.length + 1))) in12 (g := (mkF m 334 #[vR t, vI 1, vI (Int32.ofNat (P.length + 1 + 1)), vI (Int32.ofNat (i + 1)), vI (Int32.ofNat cs.length), vR d, vI (cs.getD i 0), .unset, .unset] [(.int (((128 : Int32) ||| (((cs.getD i 0) >>> ((6 : Int32) &&& 31)) &&& (63 : Int32))).toInt8.toInt32)), (.int (Int32.ofNat (P.length + 1))), (.ref d)])) rfl rfl (hb hby dE6x_334)
     have V12 := Arv.set Ar12 q12 S_12 N_12 H_12 G_12 (fits_nar_byte _) W12 (P ++ [(((224 : Int32) ||| ((cs.getD i 0) >>> ((12 : Int32) &&& 31))).toInt8.toInt32)]).length (by rw [own_n32 (by omega)]; simp) (by simp only [List.length_append, List.length_cons, List.length_nil, List.length_map, List.length_replicate]; omega)
     have sz12 : h11.size ≤ h12.size := (Keep.of_wr W12).1
     have K12 : Keep h0 h12 [] := K11.wr W12 (Or.inr (own_le (by omega)))
     have N12 := Fr.snoc X12 N11 (own_le (by omega))
     first | rw [own_i2bb] at V12 | rw [own_i2b] at V12
     rw [own_pushv (by simp only [List.length_append, List.length_cons, List.length_nil]; omega)] at V12
     refine own_st st12 ?_
     refine s_aload X12 hx (hb hby dE6x_335) rfl rfl ?_
     refine s_iloadN X12 hx (hb hby dE6x_337) rfl ?_
     refine own_st (fun tq kq => XS.iinc X12.here hx rfl (hb hby dE6x_338) rfl (l' := #[vR t, vI 1, vI ((Int32.ofNat (P.length + 1 + 1)) + (1 : Int32)), vI (Int32.ofNat (i + 1)), vI (Int32.ofNat cs.length), vR d, vI (cs.getD i 0), .unset, .unset]) rfl kq) ?_
     show own_G p e below _ (T12.setTop (mkF m 341 #[vR t, vI 1, vI ((Int32.ofNat (P.length + 1 + 1)) + (1 : Int32)), vI (Int32.ofNat (i + 1)), vI (Int32.ofNat cs.length), vR d, vI (cs.getD i 0), .unset, .unset] [(.int (Int32.ofNat (P.length + 1 + 1))), (.ref d)]))
     rw [own_inc (P.length + 1 + 1)]
     show own_G p e below _ (T12.setTop (mkF m 341 #[vR t, vI 1, vI (Int32.ofNat (P.length + 1 + 1 + 1)), vI (Int32.ofNat (i + 1)), vI (Int32.ofNat cs.length), vR d, vI (cs.getD i 0), .unset, .unset] [(.int (Int32.ofNat (P.length + 1 + 1))), (.ref d)]))
     refine s_sipush X12 hx (hb hby dE6x_341) ?_
     refine s_iload X12 hx (hb hby dE6x_344) rfl ?_
     refine s_bipush X12 hx (hb hby dE6x_346) ?_
     refine own_st (fun tq kq => XS.iand X12.here hx rfl (hb hby dE6x_348) rfl kq) ?_
     refine own_st (fun tq kq => XS.ior X12.here hx rfl (hb hby dE6x_349) rfl kq) ?_
     refine own_st (fun tq kq => XS.i2b X12.here hx rfl (hb hby dE6x_350) rfl kq) ?_
     obtain ⟨cl13, Ar13, q13, S_13, N_13, H_13, G_13⟩ := id V12
     have in13 : ¬ ((Int32.ofNat (P.length + 1 + 1)) < 0 ∨ cl13.slots.size ≤ ((Int32.ofNat (P.length + 1 + 1))).toNatClampNeg) := inb_of S_13 ⟨(own_n0 (by omega)), (own_ilt (by omega) (by omega))⟩
     obtain ⟨T13, h13, X13, e13, W13, st13⟩ := stB X12 hx hZ e12 Ar13 (j := (Int32.ofNat (P.length + 1 + 1))) in13 (g := (mkF m 351 #[vR t, vI 1, vI (Int32.ofNat (P.length + 1 + 1 + 1)), vI (Int32.ofNat (i + 1)), vI (Int32.ofNat cs.length), vR d, vI (cs.getD i 0), .unset, .unset] [(.int (((128 : Int32) ||| ((cs.getD i 0) &&& (63 : Int32))).toInt8.toInt32)), (.int (Int32.ofNat (P.length + 1 + 1))), (.ref d)])) rfl rfl (hb hby dE6x_351)
     have V13 := Arv.set Ar13 q13 S_13 N_13 H_13 G_13 (fits_nar_byte _) W13 ((P ++ [(((224 : Int32) ||| ((cs.getD i 0) >>> ((12 : Int32) &&& 31))).toInt8.toInt32)]) ++ [(((128 : Int32) ||| (((cs.getD i 0) >>> ((6 : Int32) &&& 31)) &&& (63 : Int32))).toInt8.toInt32)]).length (by rw [own_n32 (by omega)]; simp) (by simp only [List.length_append, List.length_cons, List.length_nil, List.length_map, List.length_replicate]; omega)
     have sz13 : h12.size ≤ h13.size := (Keep.of_wr W13).1
     have K13 : Keep h0 h13 [] := K12.wr W13 (Or.inr (own_le (by omega)))
     have N13 := Fr.snoc X13 N12 (own_le (by omega))
     first | rw [own_i2bb] at V13 | rw [own_i2b] at V13
     rw [own_pushv (by simp only [List.length_append, List.length_cons, List.length_nil]; omega)] at V13
     refine own_st st13 ?_
     refine own_st (fun tq kq => XS.goto X13.here hx rfl (pc0 := 352) (pc' := 58) rfl (hb hby dE6x_352) (by decide) (by decide) kq) ?_
     show own_G p e below _ (T13.setTop (mkF m 58 #[vR t, vI 1, vI (Int32.ofNat (P.length + 1 + 1 + 1)), vI (Int32.ofNat (i + 1)), vI (Int32.ofNat cs.length), vR d, vI (cs.getD i 0), .unset, .unset] []))
     exact ih T13 h13 _ (i + 1) (P.length + 1 + 1 + 1) d kd (((P ++ [(((224 : Int32) ||| ((cs.getD i 0) >>> ((12 : Int32) &&& 31))).toInt8.toInt32)]) ++ [(((128 : Int32) ||| (((cs.getD i 0) >>> ((6 : Int32) &&& 31)) &&& (63 : Int32))).toInt8.toInt32)]) ++ [(((128 : Int32) ||| ((cs.getD i 0) &&& (63 : Int32))).toInt8.toInt32)]) (vI (cs.getD i 0)) X13 e13 N13 K13 (by omega) (Or.inr ⟨_, rfl, rfl⟩) (by rw [own_u8s (by omega), own_enc3 hc79_5 hc100_7, hP]; all_goals simp only [List.append_assoc, List.cons_append, List.nil_append]) (by simp) gd V13
 have loop1 : ∀ (jk : Nat) (T : State) (h : Heap) (Lc : List Loc) (i dp d : Nat) (kd : ClassId) (P : List Int32) (s6 : Slot), Stand p l e rm_2_2_144_60 s m #[(.ref t), (.int 1)] below meth c T Lc 1 72 → T.heap = h → Fr n0 Lc → Keep h0 h [] → (i + jk = cs.length) → (s6 = .unset ∨ ∃ w, s6 = .val w ∧ w.category = 1) → (P = own_u8 (cs.take i)) → (P.length = dp) → (h0.size ≤ d) → (Arv Z h d kd .byte (Int32.ofNat (cs.length * 3)) (P.map Value.int ++ List.replicate ((cs.length * 3) - P.length) (.int 0)) (.int 0)) → own_G p e below (own_EN (Q_own_e16 Z t kb cs h0 n0) rm_2_2_144_60 #[(.ref t), (.int 1)] s) (T.setTop (mkF m 18 #[vR t, vI 1, vI (Int32.ofNat dp), vI (Int32.ofNat i), vI (Int32.ofNat cs.length), vR d, s6, .unset, .unset] [])) := by
  intro jk
  induction jk with
  | zero =>
   intro T h Lc i dp d kd P s6 Xl el Nl Kl hik hs6 hP hdp gd Vd
   have szl : h0.size ≤ h.size := Kl.1
   subst hdp
   have hPl : P.length ≤ 3 * i := by
     rw [hP]; exact Nat.le_trans (own_u8_len _) (by rw [List.length_take]; omega)
   have hPa : P = own_u8 cs := by rw [hP, own_takeAll (by omega)]
   show own_G p e below _ (T.setTop (mkF m 18 #[vR t, vI 1, vI (Int32.ofNat P.length), vI (Int32.ofNat i), vI (Int32.ofNat cs.length), vR d, s6, .unset, .unset] []))
   refine own_st (fun tq kq => XS.iloadN Xl.here hx rfl (hb hby dE6x_18) rfl  kq) ?_
   refine own_st (fun tq kq => XS.iload Xl.here hx rfl (hb hby dE6x_19) rfl  kq) ?_
   show own_G p e below _ (T.setTop (mkF m 21 #[vR t, vI 1, vI (Int32.ofNat P.length), vI (Int32.ofNat i), vI (Int32.ofNat cs.length), vR d, s6, .unset, .unset] [(.int (Int32.ofNat cs.length)), (.int (Int32.ofNat i))]))
   refine own_st (fun tq kq => XS.icmpYes Xl.here hx rfl (pc0 := 21) (pc' := 58) rfl (hb hby dE6x_21) rfl (flt (own_inlt (by omega) (by omega))).2.1 (by decide) (by decide) kq) ?_
   show own_G p e below _ (T.setTop (mkF m 58 #[vR t, vI 1, vI (Int32.ofNat P.length), vI (Int32.ofNat i), vI (Int32.ofNat cs.length), vR d, s6, .unset, .unset] []))
   exact loop2 0 T h _ i P.length d kd P (s6) Xl el Nl Kl (by omega) hs6 hP rfl gd Vd
  | succ jk ih =>
   intro T h Lc i dp d kd P s6 Xl el Nl Kl hik hs6 hP hdp gd Vd
   have szl : h0.size ≤ h.size := Kl.1
   subst hdp
   have hPl : P.length ≤ 3 * i := by
     rw [hP]; exact Nat.le_trans (own_u8_len _) (by rw [List.length_take]; omega)
   show own_G p e below _ (T.setTop (mkF m 18 #[vR t, vI 1, vI (Int32.ofNat P.length), vI (Int32.ofNat i), vI (Int32.ofNat cs.length), vR d, s6, .unset, .unset] []))
   refine own_st (fun tq kq => XS.iloadN Xl.here hx rfl (hb hby dE6x_18) rfl  kq) ?_
   refine own_st (fun tq kq => XS.iload Xl.here hx rfl (hb hby dE6x_19) rfl  kq) ?_
   show own_G p e below _ (T.setTop (mkF m 21 #[vR t, vI 1, vI (Int32.ofNat P.length), vI (Int32.ofNat i), vI (Int32.ofNat cs.length), vR d, s6, .unset, .unset] [(.int (Int32.ofNat cs.length)), (.int (Int32.ofNat i))]))
   refine own_st (fun tq kq => XS.icmpNo Xl.here hx rfl (hb hby dE6x_21) rfl (tlt (own_ilt (by omega) (by omega))).2.1 kq) ?_
   refine own_st (fun tq kq => XS.aloadN Xl.here hx rfl (hb hby dE6x_24) rfl rfl kq) ?_
   refine own_st (fun tq kq => XS.iloadN Xl.here hx rfl (hb hby dE6x_25) rfl  kq) ?_
   obtain ⟨_, _, ⟨T14, L14, k14, n14⟩, -, X14, ⟨Lc14, hQ14, l14, y14, z14⟩, st14⟩ := Jvm.LawKit.callS Xl hx (y := mN7) hown (mvT hZ (wd266 hw)) (mvT hZ (wd230 hw)) (mvT hZ (wd26 hw)) (mvT hZ (wd231 hw)) (by decide) (own_backN (W := 0) (own_gc l Z a0 hw [] (t) (i) (kb) (cs) h n0 (by omega) (X00.keep Kl all0) OA OH OL (Vt.keep Kl nin0) (by omega) (by omega) hcs) hZ (wd231 hw) (wd26 hw) (by decide) (by decide)) (g := (mkF m 26 #[vR t, vI 1, vI (Int32.ofNat P.length), vI (Int32.ofNat i), vI (Int32.ofNat cs.length), vR d, s6, .unset, .unset] [(.int (Int32.ofNat i)), (.ref t)])) rfl (by rw [hml]; rfl) (argsL := [(.ref t), (.int (Int32.ofNat i))]) (rest := []) (lenOf own_pd6 rfl) rfl (Nat.le_of_eq rfl) (hb hby dE6x_26) (fun _ _ => ⟨rfl, el, (by decide : 1 + 0 ≤ _), (by decide : 72 + 0 ≤ _)⟩)
   dsimp only [Pt.U, Pt.locs, Pt.cells, Pt.slots] at X14 l14 y14 z14 st14 hQ14
   subst l14 y14 z14
   obtain ⟨rfl, Nq14, sm14⟩ := hQ14
   have N14 := Fr.app Nl Nq14
   refine own_st st14 ?_
   refine own_st (fun tq kq => XS.istoreS X14.here hx rfl (hb hby dE6x_29) rfl rfl hs6 kq) ?_
   show own_G p e below _ (T14.setTop (mkF m 31 #[vR t, vI 1, vI (Int32.ofNat P.length), vI (Int32.ofNat i), vI (Int32.ofNat cs.length), vR d, vI (cs.getD i 0), .unset, .unset] []))
   refine s_iload X14 hx (hb hby dE6x_31) rfl ?_
   refine s_sipush X14 hx (hb hby dE6x_33) ?_
   show own_G p e below _ (T14.setTop (mkF m 36 #[vR t, vI 1, vI (Int32.ofNat P.length), vI (Int32.ofNat i), vI (Int32.ofNat cs.length), vR d, vI (cs.getD i 0), .unset, .unset] [(.int 128), (.int (cs.getD i 0))]))
   by_cases hc36_15 : ((cs.getD i 0) < (128 : Int32))
   ·
    refine own_st (fun tq kq => XS.icmpYes X14.here hx rfl (pc0 := 36) (pc' := 42) rfl (hb hby dE6x_36) rfl (tlt hc36_15).1 (by decide) (by decide) kq) ?_
    refine s_aload X14 hx (hb hby dE6x_42) rfl rfl ?_
    refine s_iloadN X14 hx (hb hby dE6x_44) rfl ?_
    refine own_st (fun tq kq => XS.iinc X14.here hx rfl (hb hby dE6x_45) rfl (l' := #[vR t, vI 1, vI ((Int32.ofNat P.length) + (1 : Int32)), vI (Int32.ofNat i), vI (Int32.ofNat cs.length), vR d, vI (cs.getD i 0), .unset, .unset]) rfl kq) ?_
    show own_G p e below _ (T14.setTop (mkF m 48 #[vR t, vI 1, vI ((Int32.ofNat P.length) + (1 : Int32)), vI (Int32.ofNat i), vI (Int32.ofNat cs.length), vR d, vI (cs.getD i 0), .unset, .unset] [(.int (Int32.ofNat P.length)), (.ref d)]))
    rw [own_inc (P.length)]
    show own_G p e below _ (T14.setTop (mkF m 48 #[vR t, vI 1, vI (Int32.ofNat (P.length + 1)), vI (Int32.ofNat i), vI (Int32.ofNat cs.length), vR d, vI (cs.getD i 0), .unset, .unset] [(.int (Int32.ofNat P.length)), (.ref d)]))
    refine s_iload X14 hx (hb hby dE6x_48) rfl ?_
    refine own_st (fun tq kq => XS.i2b X14.here hx rfl (hb hby dE6x_50) rfl kq) ?_
    obtain ⟨cl16, Ar16, q16, S_16, N_16, H_16, G_16⟩ := id Vd
    have in16 : ¬ ((Int32.ofNat P.length) < 0 ∨ cl16.slots.size ≤ ((Int32.ofNat P.length)).toNatClampNeg) := inb_of S_16 ⟨(own_n0 (by omega)), (own_ilt (by omega) (by omega))⟩
    obtain ⟨T16, h16, X16, e16, W16, st16⟩ := stB X14 hx hZ sm14 Ar16 (j := (Int32.ofNat P.length)) in16 (g := (mkF m 51 #[vR t, vI 1, vI (Int32.ofNat (P.length + 1)), vI (Int32.ofNat i), vI (Int32.ofNat cs.length), vR d, vI (cs.getD i 0), .unset, .unset] [(.int ((cs.getD i 0).toInt8.toInt32)), (.int (Int32.ofNat P.length)), (.ref d)])) rfl rfl (hb hby dE6x_51)
    have V16 := Arv.set Ar16 q16 S_16 N_16 H_16 G_16 (fits_nar_byte _) W16 P.length (by rw [own_n32 (by omega)]) (by simp only [List.length_append, List.length_cons, List.length_nil, List.length_map, List.length_replicate]; omega)
    have sz16 : h.size ≤ h16.size := (Keep.of_wr W16).1
    have K16 : Keep h0 h16 [] := Kl.wr W16 (Or.inr (own_le (by omega)))
    have N16 := Fr.snoc X16 N14 (own_le (by omega))
    first | rw [own_i2bb] at V16 | rw [own_i2b] at V16
    rw [own_pushv (by omega)] at V16
    refine own_st st16 ?_
    refine own_st (fun tq kq => XS.iinc X16.here hx rfl (hb hby dE6x_52) rfl (l' := #[vR t, vI 1, vI (Int32.ofNat (P.length + 1)), vI ((Int32.ofNat i) + (1 : Int32)), vI (Int32.ofNat cs.length), vR d, vI (cs.getD i 0), .unset, .unset]) rfl kq) ?_
    show own_G p e below _ (T16.setTop (mkF m 55 #[vR t, vI 1, vI (Int32.ofNat (P.length + 1)), vI ((Int32.ofNat i) + (1 : Int32)), vI (Int32.ofNat cs.length), vR d, vI (cs.getD i 0), .unset, .unset] []))
    rw [own_inc i]
    show own_G p e below _ (T16.setTop (mkF m 55 #[vR t, vI 1, vI (Int32.ofNat (P.length + 1)), vI (Int32.ofNat (i + 1)), vI (Int32.ofNat cs.length), vR d, vI (cs.getD i 0), .unset, .unset] []))
    refine own_st (fun tq kq => XS.goto X16.here hx rfl (pc0 := 55) (pc' := 18) rfl (hb hby dE6x_55) (by decide) (by decide) kq) ?_
    show own_G p e below _ (T16.setTop (mkF m 18 #[vR t, vI 1, vI (Int32.ofNat (P.length + 1)), vI (Int32.ofNat (i + 1)), vI (Int32.ofNat cs.length), vR d, vI (cs.getD i 0), .unset, .unset] []))
    exact ih T16 h16 _ (i + 1) (P.length + 1) d kd (P ++ [((cs.getD i 0).toInt8.toInt32)]) (vI (cs.getD i 0)) X16 e16 N16 K16 (by omega) (Or.inr ⟨_, rfl, rfl⟩) (by rw [own_u8s (by omega), own_enc1 hc36_15, hP]; all_goals simp only [List.append_assoc, List.cons_append, List.nil_append]) (by simp) gd V16
   ·
    refine own_st (fun tq kq => XS.icmpNo X14.here hx rfl (hb hby dE6x_36) rfl (flt hc36_15).1 kq) ?_
    refine own_st (fun tq kq => XS.goto X14.here hx rfl (pc0 := 39) (pc' := 58) rfl (hb hby dE6x_39) (by decide) (by decide) kq) ?_
    show own_G p e below _ (T14.setTop (mkF m 58 #[vR t, vI 1, vI (Int32.ofNat P.length), vI (Int32.ofNat i), vI (Int32.ofNat cs.length), vR d, vI (cs.getD i 0), .unset, .unset] []))
    exact loop2 (jk + 1) T14 h _ i P.length d kd P (vI (cs.getD i 0)) X14 sm14 N14 Kl (by omega) (Or.inr ⟨_, rfl, rfl⟩) hP rfl gd Vd
 refine own_st (fun tq kq => castTop (ef_own_e16 m (t)) kq) ?_
 show own_G p e below _ (s₁.setTop (mkF m 0 #[vR t, vI 1, .unset, .unset, .unset, .unset, .unset, .unset, .unset] []))
 refine s_iconst X0 hx (hb hby dE6x_0) ?_
 refine own_st (fun tq kq => XS.istoreN X0.here hx rfl (hb hby dE6x_1) rfl (l' := #[vR t, vI 1, vI 0, .unset, .unset, .unset, .unset, .unset, .unset]) rfl kq) ?_
 refine s_iconst X0 hx (hb hby dE6x_2) ?_
 refine own_st (fun tq kq => XS.istoreN X0.here hx rfl (hb hby dE6x_3) rfl (l' := #[vR t, vI 1, vI 0, vI 0, .unset, .unset, .unset, .unset, .unset]) rfl kq) ?_
 refine s_aloadN X0 hx (hb hby dE6x_4) rfl rfl ?_
 obtain ⟨cl17, Ar17, q17, S_17, N_17, H_17, G_17⟩ := id Vt
 refine own_st (fun tq kq => X0.arraylength hx (by rw [e0]; exact Ar17.1) (State.isArrayOf_alike hZ.alike Ar17.2.1) (g := (mkF m 5 #[vR t, vI 1, vI 0, vI 0, .unset, .unset, .unset, .unset, .unset] [(.ref t)])) rfl rfl (hb hby dE6x_5) _ kq) ?_
 rw [len_of S_17 N_17]
 show own_G p e below _ (s₁.setTop (mkF m 6 #[vR t, vI 1, vI 0, vI 0, .unset, .unset, .unset, .unset, .unset] [(.int (Int32.ofNat (2 * cs.length)))]))
 refine s_iconst X0 hx (hb hby dE6x_6) ?_
 refine own_st (fun tq kq => XS.ishr X0.here hx rfl (hb hby dE6x_7) rfl kq) ?_
 show own_G p e below _ (s₁.setTop (mkF m 8 #[vR t, vI 1, vI 0, vI 0, .unset, .unset, .unset, .unset, .unset] [(.int ((Int32.ofNat (2 * cs.length)) >>> ((1 : Int32) &&& 31)))]))
 rw [own_shr1 (by omega)]
 show own_G p e below _ (s₁.setTop (mkF m 8 #[vR t, vI 1, vI 0, vI 0, .unset, .unset, .unset, .unset, .unset] [(.int (Int32.ofNat cs.length))]))
 refine own_st (fun tq kq => XS.istore X0.here hx rfl (hb hby dE6x_8) rfl (l' := #[vR t, vI 1, vI 0, vI 0, vI (Int32.ofNat cs.length), .unset, .unset, .unset, .unset]) rfl kq) ?_
 refine s_iload X0 hx (hb hby dE6x_10) rfl ?_
 refine s_iconst X0 hx (hb hby dE6x_12) ?_
 refine own_st (fun tq kq => XS.imul X0.here hx rfl (hb hby dE6x_13) rfl kq) ?_
 show own_G p e below _ (s₁.setTop (mkF m 14 #[vR t, vI 1, vI 0, vI 0, vI (Int32.ofNat cs.length), .unset, .unset, .unset, .unset] [(.int ((Int32.ofNat cs.length) * (3 : Int32)))]))
 rw [own_mul3]
 show own_G p e below _ (s₁.setTop (mkF m 14 #[vR t, vI 1, vI 0, vI 0, vI (Int32.ofNat cs.length), .unset, .unset, .unset, .unset] [(.int (Int32.ofNat (cs.length * 3)))]))
 obtain ⟨T18, h18, k18, X18, e18, E18, A18, st18⟩ := newP X0 hx hZ (hw _ (List.mem_of_getElem? (i := 6) rfl)) e0 (g := (mkF m 14 #[vR t, vI 1, vI 0, vI 0, vI (Int32.ofNat cs.length), .unset, .unset, .unset, .unset] [(.int (Int32.ofNat (cs.length * 3)))])) rfl (hb hby dE6x_14) rfl (own_n0 (by omega)) (cap := 72) (by rw [own_n32 (by omega)]; omega) (by decide) (by decide) (by decide)
 obtain ⟨b18, g18⟩ : ∃ z, z = h0.size := ⟨_, rfl⟩
 rw [← g18] at A18 st18
 have lt18 : b18 < h18.size := A18.lt
 have V18 : Arv Z h18 b18 k18 .byte (Int32.ofNat (cs.length * 3)) (List.replicate (cs.length * 3) (.int (0 : Int32))) (.int (0 : Int32)) := (Arv.new A18 (own_n0 (by omega))).pad (pad_rep [] (.int (0 : Int32)) (cs.length * 3))
 have sz18 : h0.size ≤ h18.size := E18.1
 have K18 : Keep h0 h18 [] := K0.ext E18
 refine own_st st18 ?_
 refine own_st (fun tq kq => XS.astore X18.here hx rfl (hb hby dE6x_16) rfl rfl (l' := #[vR t, vI 1, vI 0, vI 0, vI (Int32.ofNat cs.length), vR b18, .unset, .unset, .unset]) rfl kq) ?_
 show own_G p e below _ (T18.setTop (mkF m 18 #[vR t, vI 1, vI 0, vI 0, vI (Int32.ofNat cs.length), vR b18, .unset, .unset, .unset] []))
 exact loop1 cs.length T18 h18 _ 0 0 b18 k18 [] (.unset) X18 e18 N0 K18 (by omega) (Or.inl rfl) (by simp [own_u8]) rfl (by omega) V18

def Q_own_e8W (Z : State) (t : Nat) (kb : ClassId) (cs : List Int32) (h0 : Heap) (n0 : Nat) (v : Option Value) (h : Heap) (L : List Loc) : Prop := ∃ (r : Nat) (kr : ClassId), v = some (.ref r) ∧ Fr n0 L ∧ Keep h0 h [] ∧ h0.size ≤ r ∧ r < h.size ∧ Arv Z h r kr .byte (Int32.ofNat (own_u8 cs).length) ((own_u8 cs).map Value.int) (.int 0)
theorem ef_own_e8W (m : MethodId) (x1 : Nat) : entryFrame m #[(.int 1), (.ref x1), (.int 1)] 9 = mkF m 0 #[.val (.int 1), .val (.ref x1), .val (.int 1), .unset, .unset, .unset, .unset, .unset, .unset] [] := by first | (simp [entryFrame, mkF, argsToLocals, Value.category]; done) | rfl
theorem own_e8W (l : Launch) (Z : State) (a0 : Array Value) (hw : hWt a0 Z) (ws : List Jvm.Cond) (t : Nat) (kb : ClassId) (cs : List Int32) (h0 : Heap) (n0 : Nat) (Z0 : n0 ≤ h0.size) (X00 : Old Z n0 h0) (Vt : Arv Z h0 t kb .byte (Int32.ofNat (2 * cs.length)) (own_wb cs) (.int 0)) (hcs : ∀ c ∈ cs, ¬ c < 0 ∧ ¬ (65535 : Int32) < c) (hns : ∀ c ∈ cs, ¬ (¬ c < (55296 : Int32) ∧ c < (57344 : Int32))) (hc : cs.length ≤ 24) (OA : oA Z) (OH : oH Z) (OL : oL Z) :
 own_MN l mN44 jdk_42_method_46_code 9 (some (.array .byte)) ws rm_3_2_144_80 Z #[(.int 1), (.ref t), (.int 1)] h0 (Q_own_e8W Z t kb cs h0 n0) := by
 refine own_bodyN (plainFor_of_name own_pn0) fun p e s m below meth c s₁ Bd hx hby hml hown hZ X0 e0 => ?_
 have N0 := Fr.nil n0
 have K0 : Keep h0 h0 [] := Keep.refl h0 []
 refine own_st (fun tq kq => castTop (ef_own_e8W m (t)) kq) ?_
 show own_G p e below _ (s₁.setTop (mkF m 0 #[vI 1, vR t, vI 1, .unset, .unset, .unset, .unset, .unset, .unset] []))
 refine s_iloadN X0 hx (hb hby dE8x_0) rfl ?_
 refine s_iconst X0 hx (hb hby dE8x_1) ?_
 show own_G p e below _ (s₁.setTop (mkF m 2 #[vI 1, vR t, vI 1, .unset, .unset, .unset, .unset, .unset, .unset] [(.int 1), (.int 1)]))
 refine own_st (fun tq kq => XS.icmpNo X0.here hx rfl (hb hby dE8x_2) rfl (teq (by decide : ((1 : Int32) = (1 : Int32)))).2 kq) ?_
 refine s_aloadN X0 hx (hb hby dE8x_5) rfl rfl ?_
 refine s_iloadN X0 hx (hb hby dE8x_6) rfl ?_
 obtain ⟨_, _, ⟨T1, L1, k1, n1⟩, -, X1, ⟨Lc1, hQ1, l1, y1, z1⟩, st1⟩ := Jvm.LawKit.callS X0 hx (y := mN46) hown (mvT hZ (wd263 hw)) (mvT hZ (wd264 hw)) (mvT hZ (wd12 hw)) (mvT hZ (wd265 hw)) (by decide) (own_backN (W := 0) (own_e16 l Z a0 hw [] (t) (kb) (cs) h0 n0 (by omega) (X00.keep K0 all0) Vt hcs hns hc OA OH OL) hZ (wd265 hw) (wd12 hw) (by decide) (by decide)) (g := (mkF m 7 #[vI 1, vR t, vI 1, .unset, .unset, .unset, .unset, .unset, .unset] [(.int 1), (.ref t)])) rfl (by rw [hml]; rfl) (argsL := [(.ref t), (.int 1)]) (rest := []) (lenOf own_pd32 rfl) rfl (Nat.le_of_eq rfl) (hb hby dE8x_7) (fun _ _ => ⟨rfl, e0, (by decide : 0 + 2 ≤ _), (by decide : 0 + 144 ≤ _)⟩)
 dsimp only [Pt.U, Pt.locs, Pt.cells, Pt.slots] at X1 l1 y1 z1 st1 hQ1
 subst l1 y1 z1
 obtain ⟨r1, kr1, rfl, Nq1, Kq1, gr1, lr1, Vr1⟩ := hQ1
 have KK1 : Keep h0 T1.heap [] := Kq1
 have sz1 : h0.size ≤ T1.heap.size := KK1.1
 have K1 : Keep h0 T1.heap [] := K0.trans KK1 all0
 have N1 := Fr.app N0 Nq1
 refine own_st st1 ?_
 exact own_retN X1 (v := some (.ref r1)) (fun h => by rw [Bd.returns] at h; cases h) Bd.notSynchronized (fun fs hr => retOut X1 hx Bd.returns rfl (Or.inr (Or.inr (Or.inr (Or.inr ⟨rfl, rfl, rfl⟩)))) (hb hby dE8x_10) hr) (by decide) (by decide) (by exact ⟨r1, _, rfl, N1, K1, (by omega), Vr1.lt, Vr1⟩)

def Q_own_ecL (Z : State) (t : Nat) (kb : ClassId) (cs : List Int32) (u8 : Nat) (h0 : Heap) (n0 : Nat) (v : Option Value) (h : Heap) (L : List Loc) : Prop := ∃ (r : Nat) (kr : ClassId), v = some (.ref r) ∧ Fr n0 L ∧ Keep h0 h [] ∧ h0.size ≤ r ∧ r < h.size ∧ Arv Z h r kr .byte (Int32.ofNat (own_u8 cs).length) ((own_u8 cs).map Value.int) (.int 0)
theorem ef_own_ecL (m : MethodId) (x0 : Nat) (x2 : Nat) : entryFrame m #[(.ref x0), (.int 0), (.ref x2)] 3 = mkF m 0 #[.val (.ref x0), .val (.int 0), .val (.ref x2)] [] := by first | (simp [entryFrame, mkF, argsToLocals, Value.category]; done) | rfl
theorem own_ecL (l : Launch) (Z : State) (a0 : Array Value) (hw : hWt a0 Z) (ws : List Jvm.Cond) (t : Nat) (kb : ClassId) (cs : List Int32) (u8 : Nat) (h0 : Heap) (n0 : Nat) (Z0 : n0 ≤ h0.size) (X00 : Old Z n0 h0) (Vt : Arv Z h0 t kb .byte (Int32.ofNat cs.length) (own_bt cs) (.int 0)) (Et : Exa Z h0 t "[B") (hcs : ∀ c ∈ cs, ¬ c < 0 ∧ ¬ (255 : Int32) < c) (hc : cs.length ≤ 24) (OI : Sta Z Z.heap "sun/nio/cs/UTF_8" "INSTANCE" "Lsun/nio/cs/UTF_8;" (.ref u8)) :
 own_MN l mN47 jdk_42_method_18_code 3 (some (.array .byte)) ws rm_4_2_144_102 Z #[(.ref u8), (.int 0), (.ref t)] h0 (Q_own_ecL Z t kb cs u8 h0 n0) := by
 refine own_bodyN (plainFor_of_name own_pn0) fun p e s m below meth c s₁ Bd hx hby hml hown hZ X0 e0 => ?_
 have N0 := Fr.nil n0
 have K0 : Keep h0 h0 [] := Keep.refl h0 []
 refine own_st (fun tq kq => castTop (ef_own_ecL m (u8) (t)) kq) ?_
 show own_G p e below _ (s₁.setTop (mkF m 0 #[vR u8, vI 0, vR t] []))
 refine s_aloadN X0 hx (hb hby dECx_0) rfl rfl ?_
 obtain ⟨T1, X1, e1, st1⟩ := getS2 X0 hx hZ hown (host := "") (Or.inl (wd183 hw)) Via.refl e0 (OI.ext (X00.keep K0 all0).2) (g := (mkF m 1 #[vR u8, vI 0, vR t] [(.ref u8)])) rfl (hb hby dECx_1)
 refine own_st st1 ?_
 refine own_st (fun tq kq => Jvm.RoadKit.acmp (g := (mkF m 4 #[vR u8, vI 0, vR t] [(.ref u8), (.ref u8)])) X1 hx rfl rfl rfl (pc0 := 4) (pc' := 7) (same := true) rfl (hb hby dECx_4) rfl (decide_eq_true rfl) (by decide) (by decide) kq) ?_
 refine s_iloadN X1 hx (hb hby dECx_7) rfl ?_
 refine s_aloadN X1 hx (hb hby dECx_8) rfl rfl ?_
 refine s_iconst X1 hx (hb hby dECx_9) ?_
 obtain ⟨_, _, ⟨T2, L2, k2, n2⟩, -, X2, ⟨Lc2, hQ2, l2, y2, z2⟩, st2⟩ := Jvm.LawKit.callS X1 hx (y := mN44) hown (mvT hZ (wd185 hw)) (mvT hZ (wd186 hw)) (mvT hZ (wd12 hw)) (mvT hZ (wd187 hw)) (by decide) (own_backN (W := 0) (own_e8 l Z a0 hw [] (t) (kb) (cs) h0 n0 (by omega) (X00.keep K0 all0) Vt Et hcs (by omega)) hZ (wd187 hw) (wd12 hw) (by decide) (by decide)) (g := (mkF m 10 #[vR u8, vI 0, vR t] [(.int 1), (.ref t), (.int 0)])) rfl (by rw [hml]; rfl) (argsL := [(.int 0), (.ref t), (.int 1)]) (rest := []) (lenOf own_pd33 rfl) rfl (Nat.le_of_eq rfl) (hb hby dECx_10) (fun _ _ => ⟨rfl, e1, (by decide : 0 + 2 ≤ _), (by decide : 0 + 140 ≤ _)⟩)
 dsimp only [Pt.U, Pt.locs, Pt.cells, Pt.slots] at X2 l2 y2 z2 st2 hQ2
 subst l2 y2 z2
 obtain ⟨r2, kr2, rfl, Nq2, Kq2, gr2, lr2, Vr2⟩ := hQ2
 have KK2 : Keep h0 T2.heap [] := Kq2
 have sz2 : h0.size ≤ T2.heap.size := KK2.1
 have K2 : Keep h0 T2.heap [] := K0.trans KK2 all0
 have N2 := Fr.app N0 Nq2
 refine own_st st2 ?_
 exact own_retN X2 (v := some (.ref r2)) (fun h => by rw [Bd.returns] at h; cases h) Bd.notSynchronized (fun fs hr => retOut X2 hx Bd.returns rfl (Or.inr (Or.inr (Or.inr (Or.inr ⟨rfl, rfl, rfl⟩)))) (hb hby dECx_13) hr) (by decide) (by decide) (by exact ⟨r2, _, rfl, N2, K2, (by omega), Vr2.lt, Vr2⟩)

def Q_own_gyL (Z : State) (t : Nat) (kb : ClassId) (cs : List Int32) (sx u8 : Nat) (G1 : Int32) (h0 : Heap) (n0 : Nat) (v : Option Value) (h : Heap) (L : List Loc) : Prop := ∃ (r : Nat) (kr : ClassId), v = some (.ref r) ∧ Fr n0 L ∧ Keep h0 h [] ∧ h0.size ≤ r ∧ r < h.size ∧ Arv Z h r kr .byte (Int32.ofNat (own_u8 cs).length) ((own_u8 cs).map Value.int) (.int 0)
theorem own_gyL (l : Launch) (Z : State) (a0 : Array Value) (hw : hWt a0 Z) (ws : List Jvm.Cond) (t : Nat) (kb : ClassId) (cs : List Int32) (sx u8 : Nat) (G1 : Int32) (h0 : Heap) (n0 : Nat) (Z0 : n0 ≤ h0.size) (X00 : Old Z n0 h0) (Es : Exa Z h0 sx "java/lang/String") (Vs : Fld Z h0 sx "java/lang/String" "value" "[B" (.ref t)) (Cs : Fld Z h0 sx "java/lang/String" "coder" "B" (.int (0 : Int32))) (Vt : Arv Z h0 t kb .byte (Int32.ofNat cs.length) (own_bt cs) (.int 0)) (Et : Exa Z h0 t "[B") (hcs : ∀ c ∈ cs, ¬ c < 0 ∧ ¬ (255 : Int32) < c) (hc : cs.length ≤ 24) (OI : Sta Z Z.heap "sun/nio/cs/UTF_8" "INSTANCE" "Lsun/nio/cs/UTF_8;" (.ref u8)) (O2 : Sta Z Z.heap "java/lang/String" "COMPACT_STRINGS" "Z" (.int G1)) (P5 : ¬ (G1 = (0 : Int32))) :
 own_MN l mN48 jdk_42_method_64_code 2 (some (.array .byte)) ws rm_5_2_144_120 Z #[(.ref sx), (.ref u8)] h0 (Q_own_gyL Z t kb cs sx u8 G1 h0 n0) := by
 refine own_bodyN (plainFor_of_name own_pn0) fun p e s m below meth c s₁ Bd hx hby hml hown hZ X0 e0 => ?_
 have N0 := Fr.nil n0
 have K0 : Keep h0 h0 [] := Keep.refl h0 []
 refine own_st (fun tq kq => castTop (ef_own_init1E m (sx) (u8)) kq) ?_
 show own_G p e below _ (s₁.setTop (mkF m 0 #[vR sx, vR u8] []))
 refine s_aloadN X0 hx (hb hby dGYx_0) rfl rfl ?_
 show own_G p e below _ (s₁.setTop (mkF m 1 #[vR sx, vR u8] [(.ref u8)]))
 refine own_st (fun tq kq => XS.ifnonnullYes X0.here hx rfl (pc0 := 1) (pc' := 12) rfl (hb hby dGYx_1) rfl (by decide) (by decide) kq) ?_
 refine s_aloadN X0 hx (hb hby dGYx_12) rfl rfl ?_
 refine s_aloadN X0 hx (hb hby dGYx_13) rfl rfl ?_
 obtain ⟨cq1, kq1, q1a, q1b, q1c⟩ := isOf hZ e0 Es
 obtain ⟨_, _, ⟨T1, L1, k1, n1⟩, -, X1, ⟨Lc1, hQ1, l1, y1, z1⟩, st1⟩ := X0.virtualBack hx (y := mN2) (z := mN2) hown (mvT hZ (wd78 hw)) (mvT hZ (wd79 hw)) (notFace_of_selects (args := #[]) (mvT hZ (wd81 hw))) (mvT hZ (wd81 hw)) (mvT hZ (wd80 hw)) (by decide) (own_backN (W := 1) (own_co0 l Z a0 hw [] (sx) (G1) h0 n0 (by omega) (X00.keep K0 all0) Cs O2 P5) hZ (wd82 hw) (wd12 hw) (by decide) (by decide)) q1a q1c (g := (mkF m 14 #[vR sx, vR u8] [(.ref sx), (.ref u8)])) rfl (by rw [hml]; rfl) (Steps.refl _) (argsL := []) (rest := [(.ref u8)]) (lenOf own_pd14 rfl) rfl (Nat.le_of_eq rfl) (hb hby dGYx_14) (fun _ _ => ⟨rfl, e0, (by decide : 0 + 0 ≤ _), (by decide : 0 + 0 ≤ _)⟩)
 dsimp only [Pt.U, Pt.locs, Pt.cells, Pt.slots] at X1 l1 y1 z1 st1 hQ1
 subst l1 y1 z1
 obtain ⟨rfl, Nq1, sm1⟩ := hQ1
 have N1 := Fr.app N0 Nq1
 refine own_st (fun tq kq => st1.trans kq) ?_
 refine s_aloadN X1 hx (hb hby dGYx_17) rfl rfl ?_
 obtain ⟨T2, X2, e2, st2⟩ := getF X1 hx hZ hown (host := "") (Or.inl (wd36 hw)) Via.refl sm1 Vs (g := (mkF m 18 #[vR sx, vR u8] [(.ref sx), (.int 0), (.ref u8)])) rfl rfl (hb hby dGYx_18)
 refine own_st st2 ?_
 obtain ⟨_, _, ⟨T3, L3, k3, n3⟩, -, X3, ⟨Lc3, hQ3, l3, y3, z3⟩, st3⟩ := Jvm.LawKit.callS X2 hx (y := mN47) hown (mvT hZ (wd180 hw)) (mvT hZ (wd181 hw)) (mvT hZ (wd12 hw)) (mvT hZ (wd182 hw)) (by decide) (own_backN (W := 0) (own_ecL l Z a0 hw [] (t) (kb) (cs) (u8) h0 n0 (by omega) (X00.keep K0 all0) Vt Et hcs hc OI) hZ (wd182 hw) (wd12 hw) (by decide) (by decide)) (g := (mkF m 21 #[vR sx, vR u8] [(.ref t), (.int 0), (.ref u8)])) rfl (by rw [hml]; rfl) (argsL := [(.ref u8), (.int 0), (.ref t)]) (rest := []) (lenOf own_pd34 rfl) rfl (Nat.le_of_eq rfl) (hb hby dGYx_21) (fun _ _ => ⟨rfl, e2, (by decide : 0 + 2 ≤ _), (by decide : 0 + 144 ≤ _)⟩)
 dsimp only [Pt.U, Pt.locs, Pt.cells, Pt.slots] at X3 l3 y3 z3 st3 hQ3
 subst l3 y3 z3
 obtain ⟨r3, kr3, rfl, Nq3, Kq3, gr3, lr3, Vr3⟩ := hQ3
 have KK3 : Keep h0 T3.heap [] := Kq3
 have sz3 : h0.size ≤ T3.heap.size := KK3.1
 have K3 : Keep h0 T3.heap [] := K0.trans KK3 all0
 have N3 := Fr.app N1 Nq3
 refine own_st st3 ?_
 exact own_retN X3 (v := some (.ref r3)) (fun h => by rw [Bd.returns] at h; cases h) Bd.notSynchronized (fun fs hr => retOut X3 hx Bd.returns rfl (Or.inr (Or.inr (Or.inr (Or.inr ⟨rfl, rfl, rfl⟩)))) (hb hby dGYx_24) hr) (by decide) (by decide) (by exact ⟨r3, _, rfl, N3, K3, (by omega), Vr3.lt, Vr3⟩)

def Q_own_ecW (Z : State) (t : Nat) (kb : ClassId) (cs : List Int32) (u8 : Nat) (h0 : Heap) (n0 : Nat) (v : Option Value) (h : Heap) (L : List Loc) : Prop := ∃ (r : Nat) (kr : ClassId), v = some (.ref r) ∧ Fr n0 L ∧ Keep h0 h [] ∧ h0.size ≤ r ∧ r < h.size ∧ Arv Z h r kr .byte (Int32.ofNat (own_u8 cs).length) ((own_u8 cs).map Value.int) (.int 0)
theorem ef_own_ecW (m : MethodId) (x0 : Nat) (x2 : Nat) : entryFrame m #[(.ref x0), (.int 1), (.ref x2)] 3 = mkF m 0 #[.val (.ref x0), .val (.int 1), .val (.ref x2)] [] := by first | (simp [entryFrame, mkF, argsToLocals, Value.category]; done) | rfl
theorem own_ecW (l : Launch) (Z : State) (a0 : Array Value) (hw : hWt a0 Z) (ws : List Jvm.Cond) (t : Nat) (kb : ClassId) (cs : List Int32) (u8 : Nat) (h0 : Heap) (n0 : Nat) (Z0 : n0 ≤ h0.size) (X00 : Old Z n0 h0) (Vt : Arv Z h0 t kb .byte (Int32.ofNat (2 * cs.length)) (own_wb cs) (.int 0)) (hcs : ∀ c ∈ cs, ¬ c < 0 ∧ ¬ (65535 : Int32) < c) (hns : ∀ c ∈ cs, ¬ (¬ c < (55296 : Int32) ∧ c < (57344 : Int32))) (hc : cs.length ≤ 24) (OA : oA Z) (OH : oH Z) (OL : oL Z) (OI : Sta Z Z.heap "sun/nio/cs/UTF_8" "INSTANCE" "Lsun/nio/cs/UTF_8;" (.ref u8)) :
 own_MN l mN47 jdk_42_method_18_code 3 (some (.array .byte)) ws rm_4_2_144_102 Z #[(.ref u8), (.int 1), (.ref t)] h0 (Q_own_ecW Z t kb cs u8 h0 n0) := by
 refine own_bodyN (plainFor_of_name own_pn0) fun p e s m below meth c s₁ Bd hx hby hml hown hZ X0 e0 => ?_
 have N0 := Fr.nil n0
 have K0 : Keep h0 h0 [] := Keep.refl h0 []
 refine own_st (fun tq kq => castTop (ef_own_ecW m (u8) (t)) kq) ?_
 show own_G p e below _ (s₁.setTop (mkF m 0 #[vR u8, vI 1, vR t] []))
 refine s_aloadN X0 hx (hb hby dECx_0) rfl rfl ?_
 obtain ⟨T1, X1, e1, st1⟩ := getS2 X0 hx hZ hown (host := "") (Or.inl (wd183 hw)) Via.refl e0 (OI.ext (X00.keep K0 all0).2) (g := (mkF m 1 #[vR u8, vI 1, vR t] [(.ref u8)])) rfl (hb hby dECx_1)
 refine own_st st1 ?_
 refine own_st (fun tq kq => Jvm.RoadKit.acmp (g := (mkF m 4 #[vR u8, vI 1, vR t] [(.ref u8), (.ref u8)])) X1 hx rfl rfl rfl (pc0 := 4) (pc' := 7) (same := true) rfl (hb hby dECx_4) rfl (decide_eq_true rfl) (by decide) (by decide) kq) ?_
 refine s_iloadN X1 hx (hb hby dECx_7) rfl ?_
 refine s_aloadN X1 hx (hb hby dECx_8) rfl rfl ?_
 refine s_iconst X1 hx (hb hby dECx_9) ?_
 obtain ⟨_, _, ⟨T2, L2, k2, n2⟩, -, X2, ⟨Lc2, hQ2, l2, y2, z2⟩, st2⟩ := Jvm.LawKit.callS X1 hx (y := mN44) hown (mvT hZ (wd185 hw)) (mvT hZ (wd186 hw)) (mvT hZ (wd12 hw)) (mvT hZ (wd187 hw)) (by decide) (own_backN (W := 0) (own_e8W l Z a0 hw [] (t) (kb) (cs) h0 n0 (by omega) (X00.keep K0 all0) Vt hcs hns hc OA OH OL) hZ (wd187 hw) (wd12 hw) (by decide) (by decide)) (g := (mkF m 10 #[vR u8, vI 1, vR t] [(.int 1), (.ref t), (.int 1)])) rfl (by rw [hml]; rfl) (argsL := [(.int 1), (.ref t), (.int 1)]) (rest := []) (lenOf own_pd33 rfl) rfl (Nat.le_of_eq rfl) (hb hby dECx_10) (fun _ _ => ⟨rfl, e1, (by decide : 0 + 2 ≤ _), (by decide : 0 + 144 ≤ _)⟩)
 dsimp only [Pt.U, Pt.locs, Pt.cells, Pt.slots] at X2 l2 y2 z2 st2 hQ2
 subst l2 y2 z2
 obtain ⟨r2, kr2, rfl, Nq2, Kq2, gr2, lr2, Vr2⟩ := hQ2
 have KK2 : Keep h0 T2.heap [] := Kq2
 have sz2 : h0.size ≤ T2.heap.size := KK2.1
 have K2 : Keep h0 T2.heap [] := K0.trans KK2 all0
 have N2 := Fr.app N0 Nq2
 refine own_st st2 ?_
 exact own_retN X2 (v := some (.ref r2)) (fun h => by rw [Bd.returns] at h; cases h) Bd.notSynchronized (fun fs hr => retOut X2 hx Bd.returns rfl (Or.inr (Or.inr (Or.inr (Or.inr ⟨rfl, rfl, rfl⟩)))) (hb hby dECx_13) hr) (by decide) (by decide) (by exact ⟨r2, _, rfl, N2, K2, (by omega), Vr2.lt, Vr2⟩)

def Q_own_gyW (Z : State) (t : Nat) (kb : ClassId) (cs : List Int32) (sx u8 : Nat) (G1 : Int32) (h0 : Heap) (n0 : Nat) (v : Option Value) (h : Heap) (L : List Loc) : Prop := ∃ (r : Nat) (kr : ClassId), v = some (.ref r) ∧ Fr n0 L ∧ Keep h0 h [] ∧ h0.size ≤ r ∧ r < h.size ∧ Arv Z h r kr .byte (Int32.ofNat (own_u8 cs).length) ((own_u8 cs).map Value.int) (.int 0)
theorem own_gyW (l : Launch) (Z : State) (a0 : Array Value) (hw : hWt a0 Z) (ws : List Jvm.Cond) (t : Nat) (kb : ClassId) (cs : List Int32) (sx u8 : Nat) (G1 : Int32) (h0 : Heap) (n0 : Nat) (Z0 : n0 ≤ h0.size) (X00 : Old Z n0 h0) (Es : Exa Z h0 sx "java/lang/String") (Vs : Fld Z h0 sx "java/lang/String" "value" "[B" (.ref t)) (Cs : Fld Z h0 sx "java/lang/String" "coder" "B" (.int (1 : Int32))) (Vt : Arv Z h0 t kb .byte (Int32.ofNat (2 * cs.length)) (own_wb cs) (.int 0)) (hcs : ∀ c ∈ cs, ¬ c < 0 ∧ ¬ (65535 : Int32) < c) (hns : ∀ c ∈ cs, ¬ (¬ c < (55296 : Int32) ∧ c < (57344 : Int32))) (hc : cs.length ≤ 24) (OA : oA Z) (OH : oH Z) (OL : oL Z) (OI : Sta Z Z.heap "sun/nio/cs/UTF_8" "INSTANCE" "Lsun/nio/cs/UTF_8;" (.ref u8)) (O2 : Sta Z Z.heap "java/lang/String" "COMPACT_STRINGS" "Z" (.int G1)) (P5 : ¬ (G1 = (0 : Int32))) :
 own_MN l mN48 jdk_42_method_64_code 2 (some (.array .byte)) ws rm_5_2_144_120 Z #[(.ref sx), (.ref u8)] h0 (Q_own_gyW Z t kb cs sx u8 G1 h0 n0) := by
 refine own_bodyN (plainFor_of_name own_pn0) fun p e s m below meth c s₁ Bd hx hby hml hown hZ X0 e0 => ?_
 have N0 := Fr.nil n0
 have K0 : Keep h0 h0 [] := Keep.refl h0 []
 refine own_st (fun tq kq => castTop (ef_own_init1E m (sx) (u8)) kq) ?_
 show own_G p e below _ (s₁.setTop (mkF m 0 #[vR sx, vR u8] []))
 refine s_aloadN X0 hx (hb hby dGYx_0) rfl rfl ?_
 show own_G p e below _ (s₁.setTop (mkF m 1 #[vR sx, vR u8] [(.ref u8)]))
 refine own_st (fun tq kq => XS.ifnonnullYes X0.here hx rfl (pc0 := 1) (pc' := 12) rfl (hb hby dGYx_1) rfl (by decide) (by decide) kq) ?_
 refine s_aloadN X0 hx (hb hby dGYx_12) rfl rfl ?_
 refine s_aloadN X0 hx (hb hby dGYx_13) rfl rfl ?_
 obtain ⟨cq1, kq1, q1a, q1b, q1c⟩ := isOf hZ e0 Es
 obtain ⟨_, _, ⟨T1, L1, k1, n1⟩, -, X1, ⟨Lc1, hQ1, l1, y1, z1⟩, st1⟩ := X0.virtualBack hx (y := mN2) (z := mN2) hown (mvT hZ (wd78 hw)) (mvT hZ (wd79 hw)) (notFace_of_selects (args := #[]) (mvT hZ (wd81 hw))) (mvT hZ (wd81 hw)) (mvT hZ (wd80 hw)) (by decide) (own_backN (W := 1) (own_co1 l Z a0 hw [] (sx) (G1) h0 n0 (by omega) (X00.keep K0 all0) Cs O2 P5) hZ (wd82 hw) (wd12 hw) (by decide) (by decide)) q1a q1c (g := (mkF m 14 #[vR sx, vR u8] [(.ref sx), (.ref u8)])) rfl (by rw [hml]; rfl) (Steps.refl _) (argsL := []) (rest := [(.ref u8)]) (lenOf own_pd14 rfl) rfl (Nat.le_of_eq rfl) (hb hby dGYx_14) (fun _ _ => ⟨rfl, e0, (by decide : 0 + 0 ≤ _), (by decide : 0 + 0 ≤ _)⟩)
 dsimp only [Pt.U, Pt.locs, Pt.cells, Pt.slots] at X1 l1 y1 z1 st1 hQ1
 subst l1 y1 z1
 obtain ⟨rfl, Nq1, sm1⟩ := hQ1
 have N1 := Fr.app N0 Nq1
 refine own_st (fun tq kq => st1.trans kq) ?_
 refine s_aloadN X1 hx (hb hby dGYx_17) rfl rfl ?_
 obtain ⟨T2, X2, e2, st2⟩ := getF X1 hx hZ hown (host := "") (Or.inl (wd36 hw)) Via.refl sm1 Vs (g := (mkF m 18 #[vR sx, vR u8] [(.ref sx), (.int 1), (.ref u8)])) rfl rfl (hb hby dGYx_18)
 refine own_st st2 ?_
 obtain ⟨_, _, ⟨T3, L3, k3, n3⟩, -, X3, ⟨Lc3, hQ3, l3, y3, z3⟩, st3⟩ := Jvm.LawKit.callS X2 hx (y := mN47) hown (mvT hZ (wd180 hw)) (mvT hZ (wd181 hw)) (mvT hZ (wd12 hw)) (mvT hZ (wd182 hw)) (by decide) (own_backN (W := 0) (own_ecW l Z a0 hw [] (t) (kb) (cs) (u8) h0 n0 (by omega) (X00.keep K0 all0) Vt hcs hns hc OA OH OL OI) hZ (wd182 hw) (wd12 hw) (by decide) (by decide)) (g := (mkF m 21 #[vR sx, vR u8] [(.ref t), (.int 1), (.ref u8)])) rfl (by rw [hml]; rfl) (argsL := [(.ref u8), (.int 1), (.ref t)]) (rest := []) (lenOf own_pd34 rfl) rfl (Nat.le_of_eq rfl) (hb hby dGYx_21) (fun _ _ => ⟨rfl, e2, (by decide : 0 + 2 ≤ _), (by decide : 0 + 144 ≤ _)⟩)
 dsimp only [Pt.U, Pt.locs, Pt.cells, Pt.slots] at X3 l3 y3 z3 st3 hQ3
 subst l3 y3 z3
 obtain ⟨r3, kr3, rfl, Nq3, Kq3, gr3, lr3, Vr3⟩ := hQ3
 have KK3 : Keep h0 T3.heap [] := Kq3
 have sz3 : h0.size ≤ T3.heap.size := KK3.1
 have K3 : Keep h0 T3.heap [] := K0.trans KK3 all0
 have N3 := Fr.app N1 Nq3
 refine own_st st3 ?_
 exact own_retN X3 (v := some (.ref r3)) (fun h => by rw [Bd.returns] at h; cases h) Bd.notSynchronized (fun fs hr => retOut X3 hx Bd.returns rfl (Or.inr (Or.inr (Or.inr (Or.inr ⟨rfl, rfl, rfl⟩)))) (hb hby dGYx_24) hr) (by decide) (by decide) (by exact ⟨r3, _, rfl, N3, K3, (by omega), Vr3.lt, Vr3⟩)

abbrev own_hdr : List Int32 := ([101, 118, 101, 110, 116, 58, 32, 109, 97, 116, 99, 104, 10, 100, 97, 116, 97, 58, 32] : List Int32)
abbrev own_lf : List Int32 := ([10, 10] : List Int32)
theorem own_hdr_ok : ∀ c ∈ own_hdr, ¬ c < 0 ∧ ¬ (255 : Int32) < c := by decide
theorem own_lf_ok : ∀ c ∈ own_lf, ¬ c < 0 ∧ ¬ (255 : Int32) < c := by decide
theorem own_okA {p : Int32 → Prop} {a b : List Int32} (ha : ∀ c ∈ a, p c) (hb : ∀ c ∈ b, p c) : ∀ c ∈ a ++ b, p c := fun c hc => (List.mem_append.mp hc).elim (ha c) (hb c)
theorem own_hdr_ns : ∀ c ∈ own_hdr, ¬ (¬ c < (55296 : Int32) ∧ c < (57344 : Int32)) := by decide
theorem own_lf_ns : ∀ c ∈ own_lf, ¬ (¬ c < (55296 : Int32) ∧ c < (57344 : Int32)) := by decide
theorem own_hdr_bt : own_bt own_hdr = [(.int (101 : Int32)), (.int (118 : Int32)), (.int (101 : Int32)), (.int (110 : Int32)), (.int (116 : Int32)), (.int (58 : Int32)), (.int (32 : Int32)), (.int (109 : Int32)), (.int (97 : Int32)), (.int (116 : Int32)), (.int (99 : Int32)), (.int (104 : Int32)), (.int (10 : Int32)), (.int (100 : Int32)), (.int (97 : Int32)), (.int (116 : Int32)), (.int (97 : Int32)), (.int (58 : Int32)), (.int (32 : Int32))] := by decide +kernel
theorem own_lf_bt : own_bt own_lf = [(.int (10 : Int32)), (.int (10 : Int32))] := by decide +kernel

theorem own_lowBt {cs : List Int32} : (cs.map fun c => Value.int (StrChars.lo8 c)) = own_bt cs := by simp only [own_bt, List.map_map]; rfl

def Q_own_mf (Z : State) (sx nb u8 : Nat) (us : List Int32) (G1 : Int32) (fm : Value) (h0 : Heap) (n0 : Nat) (v : Option Value) (_vm : Vm) (h : Heap) (L : List Loc) : Prop := ∃ (r : Nat) (kr : ClassId), v = some (.ref r) ∧ Fr n0 L ∧ Keep h0 h [] ∧ h0.size ≤ r ∧ r < h.size ∧ Arv Z h r kr .byte (Int32.ofNat (own_u8 ((own_hdr ++ us) ++ own_lf)).length) ((own_u8 ((own_hdr ++ us) ++ own_lf)).map Value.int) (.int 0)
theorem own_mf (l : Launch) (Z : State) (a0 : Array Value) (hw : hWt a0 Z) (hEL : EW Z a0 consts_1) (ws : List Jvm.Cond) (sx nb u8 : Nat) (us : List Int32) (G1 : Int32) (fm : Value) (h0 : Heap) (n0 : Nat) (Z0 : n0 ≤ h0.size) (X00 : Old Z n0 h0) (S : own_StrU Z nb h0 sx us) (hnb : nb ≤ h0.size) (h3 : us.length ≤ 3) (hns : ∀ c ∈ us, ¬ (¬ c < (55296 : Int32) ∧ c < (57344 : Int32))) (O5 : Sta Z Z.heap "java/nio/charset/StandardCharsets" "UTF_8" "Ljava/nio/charset/Charset;" (.ref u8)) (OI : Sta Z Z.heap "sun/nio/cs/UTF_8" "INSTANCE" "Lsun/nio/cs/UTF_8;" (.ref u8)) (O2 : Sta Z Z.heap "java/lang/String" "COMPACT_STRINGS" "Z" (.int G1)) (P5 : ¬ (G1 = (0 : Int32))) (OA : oA Z) (OH : oH Z) (OL : oL Z) (O4 : o4 Z fm) (rfm : fm.isRef = true) :
    MetFree l mN49 (head1 (Jvm.Cond.code mN49 prog_28_method_2_code 1 (some (.array .byte)) :: ws) rm_10_14_700_200) (own_P Z consts_1 #[(.ref sx)] h0 []) (fun _ _ _ _ _ => True) (own_E Z consts_1 (Q_own_mf Z sx nb u8 us G1 fm h0 n0) rm_10_14_700_200) := by
 refine MetFree.of_bodySF (plainFor_of_name own_pn12) hisR ?_
 intro p e s m args below meth c s₁ Bd hml0 hP hK
 obtain ⟨rfl, hZ, hh, hCH, hSafe⟩ := hP
 have hx := Bd.exec
 have hby := Bd.bytes
 have hml : c.maxLocals = 1 := hml0
 have hown : s.vm.findClass "com/example/sieveline/sieveline/server/NotificationStream" = some m.cls := findClass_of_methodNamed Bd.named
 have X0 : Stand p l e rm_10_14_700_200 (s.setVm s.vm) m #[(.ref sx)] below meth c s₁ [] 0 0 := Stand.of_body Bd
 have e0 : s₁.heap = h0 := by rw [← hh, Bd.state]; rfl
 have N0 := Fr.nil n0
 have K0 : Keep h0 h0 [] := Keep.refl h0 []
 have S0 : s.Since s.vm 0 := own_since s
 have C0 : CHr Z consts_1 s.vm h0 s.vm h0 := CHr.refl hCH
 refine show own_G p e below (own_E Z consts_1 (Q_own_mf Z sx nb u8 us G1 fm h0 n0) rm_10_14_700_200 #[(.ref sx)] s) _ from ?_
 refine own_st (fun tq kq => castTop (ef_own_co0 m (sx)) kq) ?_
 show own_G p e below _ (s₁.setTop (mkF m 0 #[vR sx] []))
 obtain ⟨lts, Es, hu16, lu, tb, kb, cdv, N2, vsv, ltb, Vs, Cs, As, hcod⟩ := S
 rcases id hcod with ⟨rfl, rfl, rfl, hlat⟩ | ⟨rfl, rfl, rfl, hex⟩
 ·
  have hus : ∀ c ∈ us, ¬ c < 0 ∧ ¬ (255 : Int32) < c := fun c hc => ⟨(hu16 c hc).1, hlat c hc⟩
  have As2 : Arv Z h0 tb kb .byte (Int32.ofNat us.length) (own_bt us) (.int 0) := by have q := As; rw [own_lowBt] at q; exact q
  obtain ⟨T1, h1, X1, e1, E1, A1, D1, -, st1⟩ := newO X0 hx hZ hown (wd42 hw) (wd43 hw) (wd44 hw) e0 (g := (mkF m 0 #[vR sx] [])) rfl (hb hby dMF_0) (by decide) (by decide)
  obtain ⟨b1, g1⟩ : ∃ z, z = h0.size := ⟨_, rfl⟩
  rw [← g1] at A1 D1 st1
  have lt1 : b1 < h1.size := A1.lt
  have sz1 : h0.size ≤ h1.size := E1.1
  have K1 : Keep h0 h1 [] := K0.ext E1
  have c1 : CHr Z consts_1 s.vm h0 s.vm h1 := CHr.ext E1 C0.1
  have C1 := C0.trans c1
  have F1_value : Fld Z h1 b1 "java/lang/AbstractStringBuilder" "value" "[B" .null := D1 (Or.inl (wd57 hw)) (ty := (.array .byte)) (by decide)
  have F1_coder : Fld Z h1 b1 "java/lang/AbstractStringBuilder" "coder" "B" (.int 0) := D1 (Or.inl (wd59 hw)) (ty := .byte) (by decide)
  have F1_count : Fld Z h1 b1 "java/lang/AbstractStringBuilder" "count" "I" (.int 0) := D1 (Or.inl (wd84 hw)) (ty := .int) (by decide)
  have F1_maybeLatin1 : Fld Z h1 b1 "java/lang/AbstractStringBuilder" "maybeLatin1" "Z" (.int 0) := D1 (Or.inl (wd262 hw)) (ty := .boolean) (by decide)
  refine own_st st1 ?_
  refine own_st (fun tq kq => XS.dup X1.here hx rfl (hb hby dMF_3) rfl rfl kq) ?_
  obtain ⟨_, _, ⟨T2, L2, k2, n2⟩, -, X2, ⟨Lc2, hQ2, l2, y2, z2⟩, st2⟩ := X1.specialBack hx (y := mN32) rfl hown (mvT hZ (wd45 hw)) (mvT hZ (wd46 hw)) (mvT hZ (wd47 hw)) (by decide) (own_backN (W := 1) (own_sbi l Z a0 hw [] (b1) (.null) (.int 0) (G1) h1 n0 (by omega) (X00.keep K1 all0) A1 F1_value F1_coder F1_count F1_maybeLatin1 (by omega) (by omega) O2 P5) hZ (wd47 hw) (wd44 hw) (by decide) (by decide)) (g := (mkF m 4 #[vR sx] [(.ref b1), (.ref b1)])) rfl (by rw [hml]; rfl) (Steps.refl _) (a := b1) (argsL := []) (rest := [(.ref b1)]) (lenOf own_pd15 rfl) rfl (Nat.le_of_eq rfl) (hb hby dMF_4) (fun _ _ => ⟨rfl, e1, (by decide : 1 + 1 ≤ _), (by decide : 4 + 16 ≤ _)⟩)
  dsimp only [Pt.U, Pt.locs, Pt.cells, Pt.slots] at X2 l2 y2 z2 st2 hQ2
  subst l2 y2 z2
  obtain ⟨rfl, Nq2, Kq2, t2, kb2, gt2, lt2, Bq2⟩ := hQ2
  have KK2 : Keep h1 T2.heap [b1] := Kq2
  have sz2 : h1.size ≤ T2.heap.size := KK2.1
  have K2 : Keep h0 T2.heap [] := K1.trans KK2 (allS (Or.inr (own_le (by omega))) all0)
  have c2 : CHr Z consts_1 s.vm h1 s.vm T2.heap := CHr.keep KK2 (allS (Safe.exa hZ.alike A1 (by decide) (by decide)) all0) C1.1
  have C2 := C1.trans c2
  have N2 := Fr.app N0 Nq2
  obtain ⟨Eb2, Fvb2, Fdb2, Fnb2, Fmb2, Vb2⟩ := id Bq2
  refine own_st (fun tq kq => st2.trans kq) ?_
  obtain ⟨a3, T3, h3, k3, b3, kb3, X3, e3, E3, S3, hk3, Z3, o3, Ex3, Fc3, Fv3, Av3, la3, lb3, c3, L3, ne3, st3⟩ := ldcCH (s := s) (vm0 := s.vm) X2 hx hZ hown (wd60 hw) (own_wS hw) rfl S0 (own_le (by omega)) hEL (by simp [consts_1]) C2.1 (vs := [(.int (101 : Int32)), (.int (118 : Int32)), (.int (101 : Int32)), (.int (110 : Int32)), (.int (116 : Int32)), (.int (58 : Int32)), (.int (32 : Int32)), (.int (109 : Int32)), (.int (97 : Int32)), (.int (116 : Int32)), (.int (99 : Int32)), (.int (104 : Int32)), (.int (10 : Int32)), (.int (100 : Int32)), (.int (97 : Int32)), (.int (116 : Int32)), (.int (97 : Int32)), (.int (58 : Int32)), (.int (32 : Int32))]) (z := (19 : Int32)) ⟨by decide, by decide⟩ (by decide) (by decide) (g := (mkF m 7 #[vR sx] [(.ref b1)])) rfl (hb hby dMF_7) (n := 76) (by decide) (by decide) (by decide) (by decide)
  have la3 := own_lt la3
  have lb3 := own_lt lb3
  have sz3 : T2.heap.size ≤ h3.size := E3.1
  have K3 : Keep h0 h3 [] := K2.ext E3
  have C3 := C2.trans c3
  refine own_st st3 ?_
  obtain ⟨cq4, kq4, q4a, q4b, q4c⟩ := isOf Z3 e3 (Eb2.ext E3)
  obtain ⟨_, _, ⟨T4, L4, k4, n4⟩, -, X4, ⟨Lc4, hQ4, l4, y4, z4⟩, st4⟩ := X3.virtualBack hx (y := mN30) (z := mN30) o3 (mvT Z3 (wd63 hw)) (mvT Z3 (wd64 hw)) (notFace_of_selects (args := #[]) (mvT Z3 (wd66 hw))) (mvT Z3 (wd66 hw)) (mvT Z3 (wd65 hw)) (by decide) (own_backN (W := 0) (own_saG l Z a0 hw [] (b1) (t2) (kb2) (G1) (fm) (a3) (b3) (kb3) (own_hdr) h3 n0 (by omega) (X00.keep K3 all0) ⟨(Eb2.ext E3), (Fvb2.ext E3), (Fdb2.ext E3), (Fnb2.ext E3), (Fmb2.ext E3), (Vb2.ext E3)⟩ Ex3 Fv3 Fc3 (by rw [own_hdr_bt]; exact Av3) own_hdr_ok rfl (by omega) (by omega) O2 P5 OA OH OL O4 rfm) Z3 (wd67 hw) (wd44 hw) (by decide) (by decide)) q4a q4c (g := (mkF m 9 #[vR sx] [(.ref a3), (.ref b1)])) rfl (by rw [hml]; rfl) (Steps.refl _) (argsL := [(.ref a3)]) (rest := []) (lenOf own_pd35 rfl) rfl (Nat.le_of_eq rfl) (hb hby dMF_9) (fun _ _ => ⟨rfl, e3, (by decide : 4 + 1 ≤ _), (by decide : 100 + 34 ≤ _)⟩)
  dsimp only [Pt.U, Pt.locs, Pt.cells, Pt.slots] at X4 l4 y4 z4 st4 hQ4
  subst l4 y4 z4
  obtain ⟨rfl, Nq4, Kq4, tw4, kw4, gw4, lw4, Bq4⟩ := hQ4
  have KK4 : Keep h3 T4.heap [b1] := Kq4
  have sz4 : h3.size ≤ T4.heap.size := KK4.1
  have K4 : Keep h0 T4.heap [] := K3.trans KK4 (allS (Or.inr (own_le (by omega))) all0)
  have c4 : CHr Z consts_1 T3.vm h3 T3.vm T4.heap := CHr.keep KK4 (allS (Safe.exa Z3.alike (Eb2.ext E3) (by decide) (by decide)) all0) C3.1
  have C4 := C3.trans c4
  have N4 := Fr.app N2 Nq4
  obtain ⟨Eb4, Fvb4, Fdb4, Fnb4, Fmb4, Vb4⟩ := id Bq4
  have Sft4 : Safe Z consts_1 T3.vm T4.heap tw4 := Safe.keep KK4 (allS (Safe.exa Z3.alike (Eb2.ext E3) (by decide) (by decide)) all0) C3.1 (Safe.new (own_le (by omega)))
  refine own_st (fun tq kq => st4.trans kq) ?_
  refine s_aloadN X4 hx (hb hby dMF_12) rfl rfl ?_
  obtain ⟨cq5, kq5, q5a, q5b, q5c⟩ := isOf Z3 rfl Eb4
  obtain ⟨_, _, ⟨T5, L5, k5, n5⟩, -, X5, ⟨Lc5, hQ5, l5, y5, z5⟩, st5⟩ := X4.virtualBack hx (y := mN30) (z := mN30) o3 (mvT Z3 (wd63 hw)) (mvT Z3 (wd64 hw)) (notFace_of_selects (args := #[]) (mvT Z3 (wd66 hw))) (mvT Z3 (wd66 hw)) (mvT Z3 (wd65 hw)) (by decide) (own_backN (W := 0) (own_saLL l Z a0 hw [] (b1) (tw4) (kw4) (own_hdr) (G1) (fm) (sx) (tb) (kb) (us) T4.heap n0 (by omega) (X00.keep K4 all0) ⟨Eb4, Fvb4, Fdb4, Fnb4, Fmb4, Vb4⟩ ((((Es.ext E1).keep KK2).ext E3).keep KK4) ((((Vs.ext E1).keep KK2 (ninS (own_ne (by omega)) nin0)).ext E3).keep KK4 (ninS (own_ne (by omega)) nin0)) ((((Cs.ext E1).keep KK2 (ninS (own_ne (by omega)) nin0)).ext E3).keep KK4 (ninS (own_ne (by omega)) nin0)) ((((As2.ext E1).keep KK2 (ninS (own_ne (by omega)) nin0)).ext E3).keep KK4 (ninS (own_ne (by omega)) nin0)) hus (by simp only [List.length_append, List.length_cons, List.length_nil]; omega) own_hdr_ok (by omega) (by omega) (own_ne (by omega)) (own_ne (by omega)) (by omega) O2 P5 OA OH OL O4 rfm) Z3 (wd67 hw) (wd44 hw) (by decide) (by decide)) q5a q5c (g := (mkF m 13 #[vR sx] [(.ref sx), (.ref b1)])) rfl (by rw [hml]; rfl) (Steps.refl _) (argsL := [(.ref sx)]) (rest := []) (lenOf own_pd35 rfl) rfl (Nat.le_of_eq rfl) (hb hby dMF_13) (fun _ _ => ⟨rfl, rfl, (by decide : 5 + 0 ≤ _), (by decide : 134 + 0 ≤ _)⟩)
  dsimp only [Pt.U, Pt.locs, Pt.cells, Pt.slots] at X5 l5 y5 z5 st5 hQ5
  subst l5 y5 z5
  obtain ⟨rfl, Nq5, Kq5, Bq5⟩ := hQ5
  have KK5 : Keep T4.heap T5.heap [b1, tw4] := Kq5
  have sz5 : T4.heap.size ≤ T5.heap.size := KK5.1
  have K5 : Keep h0 T5.heap [] := K4.trans KK5 (allS (Or.inr (own_le (by omega))) (allS (Or.inr (own_le (by omega))) all0))
  have c5 : CHr Z consts_1 T3.vm T4.heap T3.vm T5.heap := CHr.keep KK5 (allS (Safe.exa Z3.alike Eb4 (by decide) (by decide)) (allS Sft4 all0)) C4.1
  have C5 := C4.trans c5
  have Sf5_6 := c5.safe (own_lt (by omega)) Sft4
  have N5 := Fr.app N4 Nq5
  obtain ⟨Eb5, Fvb5, Fdb5, Fnb5, Fmb5, Vb5⟩ := id Bq5
  refine own_st (fun tq kq => st5.trans kq) ?_
  obtain ⟨a7, T7, h7, k7, b7, kb7, X7, e7, E7, S7, hk7, Z7, o7, Ex7, Fc7, Fv7, Av7, la7, lb7, c7, L7, ne7, st7⟩ := ldcCH (s := s) (vm0 := T3.vm) X5 hx Z3 o3 (wd133 hw) (own_wS hw) rfl S3 (own_le (by omega)) hEL (by simp [consts_1]) C5.1 (vs := [(.int (10 : Int32)), (.int (10 : Int32))]) (z := (2 : Int32)) ⟨by decide, by decide⟩ (by decide) (by decide) (g := (mkF m 16 #[vR sx] [(.ref b1)])) rfl (hb hby dMF_16) (n := 8) (by decide) (by decide) (by decide) (by decide)
  have la7 := own_lt la7
  have lb7 := own_lt lb7
  have sz7 : T5.heap.size ≤ h7.size := E7.1
  have K7 : Keep h0 h7 [] := K5.ext E7
  have C7 := C5.trans c7
  have Sf7_8 := c7.safe (own_lt (by omega)) Sf5_6
  obtain ⟨nx9, ny9⟩ := ne7 _ Sf7_8
  have nx9 := own_ne nx9
  have ny9 := own_ne ny9
  refine own_st st7 ?_
  obtain ⟨cq10, kq10, q10a, q10b, q10c⟩ := isOf Z7 e7 (Eb5.ext E7)
  obtain ⟨_, _, ⟨T10, L10, k10, n10⟩, -, X10, ⟨Lc10, hQ10, l10, y10, z10⟩, st10⟩ := X7.virtualBack hx (y := mN30) (z := mN30) o7 (mvT Z7 (wd63 hw)) (mvT Z7 (wd64 hw)) (notFace_of_selects (args := #[]) (mvT Z7 (wd66 hw))) (mvT Z7 (wd66 hw)) (mvT Z7 (wd65 hw)) (by decide) (own_backN (W := 0) (own_saLL l Z a0 hw [] (b1) (tw4) (kw4) ((own_hdr ++ us)) (G1) (fm) (a7) (b7) (kb7) (own_lf) h7 n0 (by omega) (X00.keep K7 all0) ⟨(Eb5.ext E7), (Fvb5.ext E7), (Fdb5.ext E7), (Fnb5.ext E7), (Fmb5.ext E7), (Vb5.ext E7)⟩ Ex7 Fv7 Fc7 (by rw [own_lf_bt]; exact Av7) own_lf_ok (by simp only [List.length_append, List.length_cons, List.length_nil]; omega) (own_okA own_hdr_ok hus) (by omega) (by omega) (own_ne (by omega)) (own_ne (by omega)) (by omega) O2 P5 OA OH OL O4 rfm) Z7 (wd67 hw) (wd44 hw) (by decide) (by decide)) q10a q10c (g := (mkF m 18 #[vR sx] [(.ref a7), (.ref b1)])) rfl (by rw [hml]; rfl) (Steps.refl _) (argsL := [(.ref a7)]) (rest := []) (lenOf own_pd35 rfl) rfl (Nat.le_of_eq rfl) (hb hby dMF_18) (fun _ _ => ⟨rfl, e7, (by decide : 7 + 0 ≤ _), (by decide : 146 + 0 ≤ _)⟩)
  dsimp only [Pt.U, Pt.locs, Pt.cells, Pt.slots] at X10 l10 y10 z10 st10 hQ10
  subst l10 y10 z10
  obtain ⟨rfl, Nq10, Kq10, Bq10⟩ := hQ10
  have KK10 : Keep h7 T10.heap [b1, tw4] := Kq10
  have sz10 : h7.size ≤ T10.heap.size := KK10.1
  have K10 : Keep h0 T10.heap [] := K7.trans KK10 (allS (Or.inr (own_le (by omega))) (allS (Or.inr (own_le (by omega))) all0))
  have c10 : CHr Z consts_1 T7.vm h7 T7.vm T10.heap := CHr.keep KK10 (allS (Safe.exa Z7.alike (Eb5.ext E7) (by decide) (by decide)) (allS Sf7_8 all0)) C7.1
  have C10 := C7.trans c10
  have Sf10_11 := c10.safe (own_lt (by omega)) Sf7_8
  have N10 := Fr.app N5 Nq10
  obtain ⟨Eb10, Fvb10, Fdb10, Fnb10, Fmb10, Vb10⟩ := id Bq10
  refine own_st (fun tq kq => st10.trans kq) ?_
  obtain ⟨cq12, kq12, q12a, q12b, q12c⟩ := isOf Z7 rfl Eb10
  obtain ⟨_, _, ⟨T12, L12, k12, n12⟩, -, X12, ⟨Lc12, hQ12, l12, y12, z12⟩, st12⟩ := X10.virtualBack hx (y := mN41) (z := mN41) o7 (mvT Z7 (wd134 hw)) (mvT Z7 (wd135 hw)) (notFace_of_selects (args := #[]) (mvT Z7 (wd137 hw))) (mvT Z7 (wd137 hw)) (mvT Z7 (wd136 hw)) (by decide) (own_backN (W := 0) (own_tsL l Z a0 hw [] (b1) (tw4) (kw4) (((own_hdr ++ us) ++ own_lf)) (G1) T10.heap n0 (by omega) (X00.keep K10 all0) ⟨Eb10, Fvb10, Fdb10, Fnb10, Fmb10, Vb10⟩ (by simp only [List.length_append, List.length_cons, List.length_nil]; omega) O2 P5) Z7 (wd138 hw) (wd44 hw) (by decide) (by decide)) q12a q12c (g := (mkF m 21 #[vR sx] [(.ref b1)])) rfl (by rw [hml]; rfl) (Steps.refl _) (argsL := []) (rest := []) (lenOf own_pd36 rfl) rfl (Nat.le_of_eq rfl) (hb hby dMF_21) (fun _ _ => ⟨rfl, rfl, (by decide : 7 + 2 ≤ _), (by decide : 146 + 76 ≤ _)⟩)
  dsimp only [Pt.U, Pt.locs, Pt.cells, Pt.slots] at X12 l12 y12 z12 st12 hQ12
  subst l12 y12 z12
  obtain ⟨a12, rfl, Nq12, Kq12, ga12, la12, r12, kr12, gr12, lr12, Ea12, Fa12, Ca12, Er12, Vr12⟩ := hQ12
  have KK12 : Keep T10.heap T12.heap [] := Kq12
  have sz12 : T10.heap.size ≤ T12.heap.size := KK12.1
  have K12 : Keep h0 T12.heap [] := K10.trans KK12 all0
  have c12 : CHr Z consts_1 T7.vm T10.heap T7.vm T12.heap := CHr.keep KK12 all0 C10.1
  have C12 := C10.trans c12
  have Sf12_13 := c12.safe (own_lt (by omega)) Sf10_11
  have N12 := Fr.app N10 Nq12
  refine own_st (fun tq kq => st12.trans kq) ?_
  obtain ⟨T14, X14, e14, st14⟩ := getS2 X12 hx Z7 o7 (host := "") (Or.inl (wd173 hw)) Via.refl rfl (O5.ext (X00.keep K12 all0).2) (g := (mkF m 24 #[vR sx] [(.ref a12)])) rfl (hb hby dMF_24)
  refine own_st st14 ?_
  obtain ⟨cq15, kq15, q15a, q15b, q15c⟩ := isOf Z7 e14 Ea12
  obtain ⟨_, _, ⟨T15, L15, k15, n15⟩, -, X15, ⟨Lc15, hQ15, l15, y15, z15⟩, st15⟩ := X14.virtualBack hx (y := mN48) (z := mN48) o7 (mvT Z7 (wd175 hw)) (mvT Z7 (wd176 hw)) (notFace_of_selects (args := #[]) (mvT Z7 (wd178 hw))) (mvT Z7 (wd178 hw)) (mvT Z7 (wd177 hw)) (by decide) (own_backN (W := 0) (own_gyL l Z a0 hw [] (r12) (kr12) (((own_hdr ++ us) ++ own_lf)) (a12) (u8) (G1) T12.heap n0 (by omega) (X00.keep K12 all0) Ea12 Fa12 Ca12 Vr12 Er12 (own_okA (own_okA own_hdr_ok hus) own_lf_ok) (by simp only [List.length_append, List.length_cons, List.length_nil]; omega) OI O2 P5) Z7 (wd179 hw) (wd12 hw) (by decide) (by decide)) q15a q15c (g := (mkF m 27 #[vR sx] [(.ref u8), (.ref a12)])) rfl (by rw [hml]; rfl) (Steps.refl _) (argsL := [(.ref u8)]) (rest := []) (lenOf own_pd37 rfl) rfl (Nat.le_of_eq rfl) (hb hby dMF_27) (fun _ _ => ⟨rfl, e14, (by decide : 9 + 2 ≤ _), (by decide : 222 + 144 ≤ _)⟩)
  dsimp only [Pt.U, Pt.locs, Pt.cells, Pt.slots] at X15 l15 y15 z15 st15 hQ15
  subst l15 y15 z15
  obtain ⟨q15r, kq15r, rfl, Nq15, Kq15, gq15, lq15, Vq15⟩ := hQ15
  have KK15 : Keep T12.heap T15.heap [] := Kq15
  have sz15 : T12.heap.size ≤ T15.heap.size := KK15.1
  have K15 : Keep h0 T15.heap [] := K12.trans KK15 all0
  have c15 : CHr Z consts_1 T7.vm T12.heap T7.vm T15.heap := CHr.keep KK15 all0 C12.1
  have C15 := C12.trans c15
  have Sf15_16 := c15.safe (own_lt (by omega)) Sf12_13
  have N15 := Fr.app N12 Nq15
  refine own_st (fun tq kq => st15.trans kq) ?_
  obtain ⟨fs, hr, hrun, hended, hRW⟩ := X15.leaveW S7 (own_le (by omega)) (v := some (.ref q15r)) (fun h => by rw [Bd.returns] at h; cases h)
  have cE := C15.trans (CHv.at (s := s) (vm0 := T7.vm) X15 Z7 hEL C15.1)
  refine ⟨_, _, retOut X15 hx Bd.returns rfl (Or.inr (Or.inr (Or.inr (Or.inr ⟨rfl, rfl, rfl⟩)))) (hb hby dMF_30) hr, hrun, hended, _, _, rfl, ?_, ?_, own_RW hRW (by decide) (by decide)⟩
  · change Q_own_mf Z sx nb u8 us G1 fm h0 n0 _ T15.vm T15.heap _; exact ⟨q15r, _, rfl, N15, K15, (by omega), Vq15.lt, Vq15⟩
  · rw [hh]; change CHr Z consts_1 s.vm h0 T15.vm T15.heap; exact cE
 ·
  have hus : ∀ c ∈ us, ¬ c < 0 ∧ ¬ (65535 : Int32) < c := hu16
  obtain ⟨T17, h17, X17, e17, E17, A17, D17, -, st17⟩ := newO X0 hx hZ hown (wd42 hw) (wd43 hw) (wd44 hw) e0 (g := (mkF m 0 #[vR sx] [])) rfl (hb hby dMF_0) (by decide) (by decide)
  obtain ⟨b17, g17⟩ : ∃ z, z = h0.size := ⟨_, rfl⟩
  rw [← g17] at A17 D17 st17
  have lt17 : b17 < h17.size := A17.lt
  have sz17 : h0.size ≤ h17.size := E17.1
  have K17 : Keep h0 h17 [] := K0.ext E17
  have c17 : CHr Z consts_1 s.vm h0 s.vm h17 := CHr.ext E17 C0.1
  have C17 := C0.trans c17
  have F17_value : Fld Z h17 b17 "java/lang/AbstractStringBuilder" "value" "[B" .null := D17 (Or.inl (wd57 hw)) (ty := (.array .byte)) (by decide)
  have F17_coder : Fld Z h17 b17 "java/lang/AbstractStringBuilder" "coder" "B" (.int 0) := D17 (Or.inl (wd59 hw)) (ty := .byte) (by decide)
  have F17_count : Fld Z h17 b17 "java/lang/AbstractStringBuilder" "count" "I" (.int 0) := D17 (Or.inl (wd84 hw)) (ty := .int) (by decide)
  have F17_maybeLatin1 : Fld Z h17 b17 "java/lang/AbstractStringBuilder" "maybeLatin1" "Z" (.int 0) := D17 (Or.inl (wd262 hw)) (ty := .boolean) (by decide)
  refine own_st st17 ?_
  refine own_st (fun tq kq => XS.dup X17.here hx rfl (hb hby dMF_3) rfl rfl kq) ?_
  obtain ⟨_, _, ⟨T18, L18, k18, n18⟩, -, X18, ⟨Lc18, hQ18, l18, y18, z18⟩, st18⟩ := X17.specialBack hx (y := mN32) rfl hown (mvT hZ (wd45 hw)) (mvT hZ (wd46 hw)) (mvT hZ (wd47 hw)) (by decide) (own_backN (W := 1) (own_sbi l Z a0 hw [] (b17) (.null) (.int 0) (G1) h17 n0 (by omega) (X00.keep K17 all0) A17 F17_value F17_coder F17_count F17_maybeLatin1 (by omega) (by omega) O2 P5) hZ (wd47 hw) (wd44 hw) (by decide) (by decide)) (g := (mkF m 4 #[vR sx] [(.ref b17), (.ref b17)])) rfl (by rw [hml]; rfl) (Steps.refl _) (a := b17) (argsL := []) (rest := [(.ref b17)]) (lenOf own_pd15 rfl) rfl (Nat.le_of_eq rfl) (hb hby dMF_4) (fun _ _ => ⟨rfl, e17, (by decide : 1 + 1 ≤ _), (by decide : 4 + 16 ≤ _)⟩)
  dsimp only [Pt.U, Pt.locs, Pt.cells, Pt.slots] at X18 l18 y18 z18 st18 hQ18
  subst l18 y18 z18
  obtain ⟨rfl, Nq18, Kq18, t18, kb18, gt18, lt18, Bq18⟩ := hQ18
  have KK18 : Keep h17 T18.heap [b17] := Kq18
  have sz18 : h17.size ≤ T18.heap.size := KK18.1
  have K18 : Keep h0 T18.heap [] := K17.trans KK18 (allS (Or.inr (own_le (by omega))) all0)
  have c18 : CHr Z consts_1 s.vm h17 s.vm T18.heap := CHr.keep KK18 (allS (Safe.exa hZ.alike A17 (by decide) (by decide)) all0) C17.1
  have C18 := C17.trans c18
  have N18 := Fr.app N0 Nq18
  obtain ⟨Eb18, Fvb18, Fdb18, Fnb18, Fmb18, Vb18⟩ := id Bq18
  refine own_st (fun tq kq => st18.trans kq) ?_
  obtain ⟨a19, T19, h19, k19, b19, kb19, X19, e19, E19, S19, hk19, Z19, o19, Ex19, Fc19, Fv19, Av19, la19, lb19, c19, L19, ne19, st19⟩ := ldcCH (s := s) (vm0 := s.vm) X18 hx hZ hown (wd60 hw) (own_wS hw) rfl S0 (own_le (by omega)) hEL (by simp [consts_1]) C18.1 (vs := [(.int (101 : Int32)), (.int (118 : Int32)), (.int (101 : Int32)), (.int (110 : Int32)), (.int (116 : Int32)), (.int (58 : Int32)), (.int (32 : Int32)), (.int (109 : Int32)), (.int (97 : Int32)), (.int (116 : Int32)), (.int (99 : Int32)), (.int (104 : Int32)), (.int (10 : Int32)), (.int (100 : Int32)), (.int (97 : Int32)), (.int (116 : Int32)), (.int (97 : Int32)), (.int (58 : Int32)), (.int (32 : Int32))]) (z := (19 : Int32)) ⟨by decide, by decide⟩ (by decide) (by decide) (g := (mkF m 7 #[vR sx] [(.ref b17)])) rfl (hb hby dMF_7) (n := 76) (by decide) (by decide) (by decide) (by decide)
  have la19 := own_lt la19
  have lb19 := own_lt lb19
  have sz19 : T18.heap.size ≤ h19.size := E19.1
  have K19 : Keep h0 h19 [] := K18.ext E19
  have C19 := C18.trans c19
  refine own_st st19 ?_
  obtain ⟨cq20, kq20, q20a, q20b, q20c⟩ := isOf Z19 e19 (Eb18.ext E19)
  obtain ⟨_, _, ⟨T20, L20, k20, n20⟩, -, X20, ⟨Lc20, hQ20, l20, y20, z20⟩, st20⟩ := X19.virtualBack hx (y := mN30) (z := mN30) o19 (mvT Z19 (wd63 hw)) (mvT Z19 (wd64 hw)) (notFace_of_selects (args := #[]) (mvT Z19 (wd66 hw))) (mvT Z19 (wd66 hw)) (mvT Z19 (wd65 hw)) (by decide) (own_backN (W := 0) (own_saG l Z a0 hw [] (b17) (t18) (kb18) (G1) (fm) (a19) (b19) (kb19) (own_hdr) h19 n0 (by omega) (X00.keep K19 all0) ⟨(Eb18.ext E19), (Fvb18.ext E19), (Fdb18.ext E19), (Fnb18.ext E19), (Fmb18.ext E19), (Vb18.ext E19)⟩ Ex19 Fv19 Fc19 (by rw [own_hdr_bt]; exact Av19) own_hdr_ok rfl (by omega) (by omega) O2 P5 OA OH OL O4 rfm) Z19 (wd67 hw) (wd44 hw) (by decide) (by decide)) q20a q20c (g := (mkF m 9 #[vR sx] [(.ref a19), (.ref b17)])) rfl (by rw [hml]; rfl) (Steps.refl _) (argsL := [(.ref a19)]) (rest := []) (lenOf own_pd35 rfl) rfl (Nat.le_of_eq rfl) (hb hby dMF_9) (fun _ _ => ⟨rfl, e19, (by decide : 4 + 1 ≤ _), (by decide : 100 + 34 ≤ _)⟩)
  dsimp only [Pt.U, Pt.locs, Pt.cells, Pt.slots] at X20 l20 y20 z20 st20 hQ20
  subst l20 y20 z20
  obtain ⟨rfl, Nq20, Kq20, tw20, kw20, gw20, lw20, Bq20⟩ := hQ20
  have KK20 : Keep h19 T20.heap [b17] := Kq20
  have sz20 : h19.size ≤ T20.heap.size := KK20.1
  have K20 : Keep h0 T20.heap [] := K19.trans KK20 (allS (Or.inr (own_le (by omega))) all0)
  have c20 : CHr Z consts_1 T19.vm h19 T19.vm T20.heap := CHr.keep KK20 (allS (Safe.exa Z19.alike (Eb18.ext E19) (by decide) (by decide)) all0) C19.1
  have C20 := C19.trans c20
  have N20 := Fr.app N18 Nq20
  obtain ⟨Eb20, Fvb20, Fdb20, Fnb20, Fmb20, Vb20⟩ := id Bq20
  have Sft20 : Safe Z consts_1 T19.vm T20.heap tw20 := Safe.keep KK20 (allS (Safe.exa Z19.alike (Eb18.ext E19) (by decide) (by decide)) all0) C19.1 (Safe.new (own_le (by omega)))
  refine own_st (fun tq kq => st20.trans kq) ?_
  refine s_aloadN X20 hx (hb hby dMF_12) rfl rfl ?_
  obtain ⟨cq21, kq21, q21a, q21b, q21c⟩ := isOf Z19 rfl Eb20
  obtain ⟨_, _, ⟨T21, L21, k21, n21⟩, -, X21, ⟨Lc21, hQ21, l21, y21, z21⟩, st21⟩ := X20.virtualBack hx (y := mN30) (z := mN30) o19 (mvT Z19 (wd63 hw)) (mvT Z19 (wd64 hw)) (notFace_of_selects (args := #[]) (mvT Z19 (wd66 hw))) (mvT Z19 (wd66 hw)) (mvT Z19 (wd65 hw)) (by decide) (own_backN (W := 0) (own_saLW l Z a0 hw [] (b17) (tw20) (kw20) (own_hdr) (G1) (fm) (sx) (tb) (kb) (us) T20.heap n0 (by omega) (X00.keep K20 all0) ⟨Eb20, Fvb20, Fdb20, Fnb20, Fmb20, Vb20⟩ ((((Es.ext E17).keep KK18).ext E19).keep KK20) ((((Vs.ext E17).keep KK18 (ninS (own_ne (by omega)) nin0)).ext E19).keep KK20 (ninS (own_ne (by omega)) nin0)) ((((Cs.ext E17).keep KK18 (ninS (own_ne (by omega)) nin0)).ext E19).keep KK20 (ninS (own_ne (by omega)) nin0)) ((((As.ext E17).keep KK18 (ninS (own_ne (by omega)) nin0)).ext E19).keep KK20 (ninS (own_ne (by omega)) nin0)) hus (by simp only [List.length_append, List.length_cons, List.length_nil]; omega) own_hdr_ok (by omega) (by omega) (own_ne (by omega)) (own_ne (by omega)) (by omega) O2 P5 OA OH OL O4 rfm (own_ne (by omega)) hex) Z19 (wd67 hw) (wd44 hw) (by decide) (by decide)) q21a q21c (g := (mkF m 13 #[vR sx] [(.ref sx), (.ref b17)])) rfl (by rw [hml]; rfl) (Steps.refl _) (argsL := [(.ref sx)]) (rest := []) (lenOf own_pd35 rfl) rfl (Nat.le_of_eq rfl) (hb hby dMF_13) (fun _ _ => ⟨rfl, rfl, (by decide : 5 + 1 ≤ _), (by decide : 134 + 68 ≤ _)⟩)
  dsimp only [Pt.U, Pt.locs, Pt.cells, Pt.slots] at X21 l21 y21 z21 st21 hQ21
  subst l21 y21 z21
  obtain ⟨rfl, Nq21, Kq21, tw21, kw21, gw21, lw21, Bq21⟩ := hQ21
  have KK21 : Keep T20.heap T21.heap [b17] := Kq21
  have sz21 : T20.heap.size ≤ T21.heap.size := KK21.1
  have K21 : Keep h0 T21.heap [] := K20.trans KK21 (allS (Or.inr (own_le (by omega))) all0)
  have c21 : CHr Z consts_1 T19.vm T20.heap T19.vm T21.heap := CHr.keep KK21 (allS (Safe.exa Z19.alike Eb20 (by decide) (by decide)) all0) C20.1
  have C21 := C20.trans c21
  have Sf21_22 := c21.safe (own_lt (by omega)) Sft20
  have N21 := Fr.app N20 Nq21
  obtain ⟨Eb21, Fvb21, Fdb21, Fnb21, Fmb21, Vb21⟩ := id Bq21
  have Sft21 : Safe Z consts_1 T19.vm T21.heap tw21 := Safe.keep KK21 (allS (Safe.exa Z19.alike Eb20 (by decide) (by decide)) all0) C20.1 (Safe.new (own_le (by omega)))
  refine own_st (fun tq kq => st21.trans kq) ?_
  obtain ⟨a23, T23, h23, k23, b23, kb23, X23, e23, E23, S23, hk23, Z23, o23, Ex23, Fc23, Fv23, Av23, la23, lb23, c23, L23, ne23, st23⟩ := ldcCH (s := s) (vm0 := T19.vm) X21 hx Z19 o19 (wd133 hw) (own_wS hw) rfl S19 (own_le (by omega)) hEL (by simp [consts_1]) C21.1 (vs := [(.int (10 : Int32)), (.int (10 : Int32))]) (z := (2 : Int32)) ⟨by decide, by decide⟩ (by decide) (by decide) (g := (mkF m 16 #[vR sx] [(.ref b17)])) rfl (hb hby dMF_16) (n := 8) (by decide) (by decide) (by decide) (by decide)
  have la23 := own_lt la23
  have lb23 := own_lt lb23
  have sz23 : T21.heap.size ≤ h23.size := E23.1
  have K23 : Keep h0 h23 [] := K21.ext E23
  have C23 := C21.trans c23
  have Sf23_24 := c23.safe (own_lt (by omega)) Sf21_22
  have Sf23_25 := c23.safe (own_lt (by omega)) Sft21
  obtain ⟨nx26, ny26⟩ := ne23 _ Sf23_24
  have nx26 := own_ne nx26
  have ny26 := own_ne ny26
  obtain ⟨nx27, ny27⟩ := ne23 _ Sf23_25
  have nx27 := own_ne nx27
  have ny27 := own_ne ny27
  refine own_st st23 ?_
  obtain ⟨cq28, kq28, q28a, q28b, q28c⟩ := isOf Z23 e23 (Eb21.ext E23)
  obtain ⟨_, _, ⟨T28, L28, k28, n28⟩, -, X28, ⟨Lc28, hQ28, l28, y28, z28⟩, st28⟩ := X23.virtualBack hx (y := mN30) (z := mN30) o23 (mvT Z23 (wd63 hw)) (mvT Z23 (wd64 hw)) (notFace_of_selects (args := #[]) (mvT Z23 (wd66 hw))) (mvT Z23 (wd66 hw)) (mvT Z23 (wd65 hw)) (by decide) (own_backN (W := 0) (own_saWL l Z a0 hw [] (b17) (tw21) (kw21) ((own_hdr ++ us)) (G1) (fm) (a23) (b23) (kb23) (own_lf) h23 n0 (by omega) (X00.keep K23 all0) ⟨(Eb21.ext E23), (Fvb21.ext E23), (Fdb21.ext E23), (Fnb21.ext E23), (Fmb21.ext E23), (Vb21.ext E23)⟩ Ex23 Fv23 Fc23 (by rw [own_lf_bt]; exact Av23) own_lf_ok (by simp only [List.length_append, List.length_cons, List.length_nil]; omega) (own_okA (own_up own_hdr_ok) hus) (by omega) (by omega) (own_ne (by omega)) (own_ne (by omega)) (by omega) O2 P5 OA OH OL O4 rfm) Z23 (wd67 hw) (wd44 hw) (by decide) (by decide)) q28a q28c (g := (mkF m 18 #[vR sx] [(.ref a23), (.ref b17)])) rfl (by rw [hml]; rfl) (Steps.refl _) (argsL := [(.ref a23)]) (rest := []) (lenOf own_pd35 rfl) rfl (Nat.le_of_eq rfl) (hb hby dMF_18) (fun _ _ => ⟨rfl, e23, (by decide : 8 + 0 ≤ _), (by decide : 214 + 0 ≤ _)⟩)
  dsimp only [Pt.U, Pt.locs, Pt.cells, Pt.slots] at X28 l28 y28 z28 st28 hQ28
  subst l28 y28 z28
  obtain ⟨rfl, Nq28, Kq28, Bq28⟩ := hQ28
  have KK28 : Keep h23 T28.heap [b17, tw21] := Kq28
  have sz28 : h23.size ≤ T28.heap.size := KK28.1
  have K28 : Keep h0 T28.heap [] := K23.trans KK28 (allS (Or.inr (own_le (by omega))) (allS (Or.inr (own_le (by omega))) all0))
  have c28 : CHr Z consts_1 T23.vm h23 T23.vm T28.heap := CHr.keep KK28 (allS (Safe.exa Z23.alike (Eb21.ext E23) (by decide) (by decide)) (allS Sf23_25 all0)) C23.1
  have C28 := C23.trans c28
  have Sf28_29 := c28.safe (own_lt (by omega)) Sf23_24
  have Sf28_30 := c28.safe (own_lt (by omega)) Sf23_25
  have N28 := Fr.app N21 Nq28
  obtain ⟨Eb28, Fvb28, Fdb28, Fnb28, Fmb28, Vb28⟩ := id Bq28
  refine own_st (fun tq kq => st28.trans kq) ?_
  obtain ⟨cq31, kq31, q31a, q31b, q31c⟩ := isOf Z23 rfl Eb28
  obtain ⟨_, _, ⟨T31, L31, k31, n31⟩, -, X31, ⟨Lc31, hQ31, l31, y31, z31⟩, st31⟩ := X28.virtualBack hx (y := mN41) (z := mN41) o23 (mvT Z23 (wd134 hw)) (mvT Z23 (wd135 hw)) (notFace_of_selects (args := #[]) (mvT Z23 (wd137 hw))) (mvT Z23 (wd137 hw)) (mvT Z23 (wd136 hw)) (by decide) (own_backN (W := 0) (own_tsW l Z a0 hw [] (b17) (tw21) (kw21) (((own_hdr ++ us) ++ own_lf)) (G1) T28.heap n0 (by omega) (X00.keep K28 all0) ⟨Eb28, Fvb28, Fdb28, Fnb28, Fmb28, Vb28⟩ (by simp only [List.length_append, List.length_cons, List.length_nil]; omega) O2 P5) Z23 (wd138 hw) (wd44 hw) (by decide) (by decide)) q31a q31c (g := (mkF m 21 #[vR sx] [(.ref b17)])) rfl (by rw [hml]; rfl) (Steps.refl _) (argsL := []) (rest := []) (lenOf own_pd36 rfl) rfl (Nat.le_of_eq rfl) (hb hby dMF_21) (fun _ _ => ⟨rfl, rfl, (by decide : 8 + 2 ≤ _), (by decide : 214 + 76 ≤ _)⟩)
  dsimp only [Pt.U, Pt.locs, Pt.cells, Pt.slots] at X31 l31 y31 z31 st31 hQ31
  subst l31 y31 z31
  obtain ⟨a31, rfl, Nq31, Kq31, ga31, la31, r31, kr31, gr31, lr31, Ea31, Fa31, Ca31, Er31, Vr31⟩ := hQ31
  have KK31 : Keep T28.heap T31.heap [] := Kq31
  have sz31 : T28.heap.size ≤ T31.heap.size := KK31.1
  have K31 : Keep h0 T31.heap [] := K28.trans KK31 all0
  have c31 : CHr Z consts_1 T23.vm T28.heap T23.vm T31.heap := CHr.keep KK31 all0 C28.1
  have C31 := C28.trans c31
  have Sf31_32 := c31.safe (own_lt (by omega)) Sf28_29
  have Sf31_33 := c31.safe (own_lt (by omega)) Sf28_30
  have N31 := Fr.app N28 Nq31
  refine own_st (fun tq kq => st31.trans kq) ?_
  obtain ⟨T34, X34, e34, st34⟩ := getS2 X31 hx Z23 o23 (host := "") (Or.inl (wd173 hw)) Via.refl rfl (O5.ext (X00.keep K31 all0).2) (g := (mkF m 24 #[vR sx] [(.ref a31)])) rfl (hb hby dMF_24)
  refine own_st st34 ?_
  obtain ⟨cq35, kq35, q35a, q35b, q35c⟩ := isOf Z23 e34 Ea31
  obtain ⟨_, _, ⟨T35, L35, k35, n35⟩, -, X35, ⟨Lc35, hQ35, l35, y35, z35⟩, st35⟩ := X34.virtualBack hx (y := mN48) (z := mN48) o23 (mvT Z23 (wd175 hw)) (mvT Z23 (wd176 hw)) (notFace_of_selects (args := #[]) (mvT Z23 (wd178 hw))) (mvT Z23 (wd178 hw)) (mvT Z23 (wd177 hw)) (by decide) (own_backN (W := 0) (own_gyW l Z a0 hw [] (r31) (kr31) (((own_hdr ++ us) ++ own_lf)) (a31) (u8) (G1) T31.heap n0 (by omega) (X00.keep K31 all0) Ea31 Fa31 Ca31 Vr31 (own_okA (own_okA (own_up own_hdr_ok) hus) (own_up own_lf_ok)) (own_okA (own_okA own_hdr_ns hns) own_lf_ns) (by simp only [List.length_append, List.length_cons, List.length_nil]; omega) OA OH OL OI O2 P5) Z23 (wd179 hw) (wd12 hw) (by decide) (by decide)) q35a q35c (g := (mkF m 27 #[vR sx] [(.ref u8), (.ref a31)])) rfl (by rw [hml]; rfl) (Steps.refl _) (argsL := [(.ref u8)]) (rest := []) (lenOf own_pd37 rfl) rfl (Nat.le_of_eq rfl) (hb hby dMF_27) (fun _ _ => ⟨rfl, e34, (by decide : 10 + 2 ≤ _), (by decide : 290 + 144 ≤ _)⟩)
  dsimp only [Pt.U, Pt.locs, Pt.cells, Pt.slots] at X35 l35 y35 z35 st35 hQ35
  subst l35 y35 z35
  obtain ⟨q35r, kq35r, rfl, Nq35, Kq35, gq35, lq35, Vq35⟩ := hQ35
  have KK35 : Keep T31.heap T35.heap [] := Kq35
  have sz35 : T31.heap.size ≤ T35.heap.size := KK35.1
  have K35 : Keep h0 T35.heap [] := K31.trans KK35 all0
  have c35 : CHr Z consts_1 T23.vm T31.heap T23.vm T35.heap := CHr.keep KK35 all0 C31.1
  have C35 := C31.trans c35
  have Sf35_36 := c35.safe (own_lt (by omega)) Sf31_32
  have Sf35_37 := c35.safe (own_lt (by omega)) Sf31_33
  have N35 := Fr.app N31 Nq35
  refine own_st (fun tq kq => st35.trans kq) ?_
  obtain ⟨fs, hr, hrun, hended, hRW⟩ := X35.leaveW S23 (own_le (by omega)) (v := some (.ref q35r)) (fun h => by rw [Bd.returns] at h; cases h)
  have cE := C35.trans (CHv.at (s := s) (vm0 := T23.vm) X35 Z23 hEL C35.1)
  refine ⟨_, _, retOut X35 hx Bd.returns rfl (Or.inr (Or.inr (Or.inr (Or.inr ⟨rfl, rfl, rfl⟩)))) (hb hby dMF_30) hr, hrun, hended, _, _, rfl, ?_, ?_, own_RW hRW (by decide) (by decide)⟩
  · change Q_own_mf Z sx nb u8 us G1 fm h0 n0 _ T35.vm T35.heap _; exact ⟨q35r, _, rfl, N35, K35, (by omega), Vq35.lt, Vq35⟩
  · rw [hh]; change CHr Z consts_1 s.vm h0 T35.vm T35.heap; exact cE

def own_draw (x : Int32) : Int32 := if ((x.toUInt32 >>> ((16 : Int32) &&& 31).toUInt32).toInt32 &&& (3 : Int32)) = 0 then (x &&& (65535 : Int32)) &&& (127 : Int32) else if ((x.toUInt32 >>> ((16 : Int32) &&& 31).toUInt32).toInt32 &&& (3 : Int32)) = 1 then (x &&& (65535 : Int32)) &&& (2047 : Int32) else if (x &&& (65535 : Int32)) < (55296 : Int32) then x &&& (65535 : Int32) else if (57343 : Int32) < (x &&& (65535 : Int32)) then x &&& (65535 : Int32) else (x &&& (65535 : Int32)) &&& (2047 : Int32)
def own_dr (c : Int32) : Prop := (¬ c < 0 ∧ ¬ (65535 : Int32) < c) ∧ ¬ (¬ c < (55296 : Int32) ∧ c < (57344 : Int32))
theorem own_dr_of {c : Int32} (h0 : 0 ≤ c.toInt) (h1 : c.toInt ≤ 65535) (h2 : c.toInt < 55296 ∨ 57343 < c.toInt) : own_dr c := by
  have e0 : (0 : Int32).toInt = 0 := rfl
  have e1 : (65535 : Int32).toInt = 65535 := rfl
  have e2 : (55296 : Int32).toInt = 55296 := rfl
  have e3 : (57344 : Int32).toInt = 57344 := rfl
  unfold own_dr
  simp only [Int32.lt_iff_toInt_lt]
  omega
theorem own_draw_ok (x : Int32) : own_dr (own_draw x) := by
  have a := c_and x (65535 : Int32) (by decide)
  have b := c_and (x &&& (65535 : Int32)) (127 : Int32) (by decide)
  have c := c_and (x &&& (65535 : Int32)) (2047 : Int32) (by decide)
  have e1 : (65535 : Int32).toInt = 65535 := rfl
  have e2 : (55296 : Int32).toInt = 55296 := rfl
  have e3 : (57343 : Int32).toInt = 57343 := rfl
  have e4 : (127 : Int32).toInt = 127 := rfl
  have e5 : (2047 : Int32).toInt = 2047 := rfl
  unfold own_draw
  split
  · exact own_dr_of (by omega) (by omega) (by omega)
  · split
    · exact own_dr_of (by omega) (by omega) (by omega)
    · split
      · rename_i q; rw [Int32.lt_iff_toInt_lt] at q; exact own_dr_of (by omega) (by omega) (by omega)
      · split
        · rename_i q; rw [Int32.lt_iff_toInt_lt] at q; exact own_dr_of (by omega) (by omega) (by omega)
        · exact own_dr_of (by omega) (by omega) (by omega)
theorem own_and3 (p : Int32) : (p &&& (3 : Int32)) = 0 ∨ (p &&& (3 : Int32)) = 1 ∨ (p &&& (3 : Int32)) = 2 ∨ (p &&& (3 : Int32)) = 3 := by
  have h := c_and p (3 : Int32) (by decide)
  have e3 : (3 : Int32).toInt = 3 := rfl
  have e0 : (0 : Int32).toInt = 0 := rfl
  have e1 : (1 : Int32).toInt = 1 := rfl
  have e2 : (2 : Int32).toInt = 2 := rfl
  simp only [← Int32.toInt_inj, e0, e1, e2, e3]
  omega
theorem own_i2c {c : Int32} (h : own_dr c) : c.toUInt32.toUInt16.toUInt32.toInt32 = c := by
  have q := StrChars.narrow_ch h.1.1 h.1.2
  injection q
theorem own_narc {c : Int32} (h : own_dr c) : nar .char c = c := by
  have q := StrChars.narrow_ch h.1.1 h.1.2
  injection q
theorem own_u8hdr : own_u8 own_hdr = own_hdr := by decide +kernel
theorem own_u8lf : own_u8 own_lf = own_lf := by decide +kernel

def Q_own_drawC (Z : State) (a : Int32) (h0 : Heap) (n0 : Nat) (v : Option Value) (h : Heap) (L : List Loc) : Prop := v = some (.int (own_draw a)) ∧ Fr n0 L ∧ h = h0
theorem ef_own_drawC (m : MethodId) (x0 : Int32) : entryFrame m #[(.int x0)] 3 = mkF m 0 #[.val (.int x0), .unset, .unset] [] := by first | (simp [entryFrame, mkF, argsToLocals, Value.category]; done) | rfl
theorem own_drawC (l : Launch) (Z : State) (a0 : Array Value) (hw : hWt a0 Z) (ws : List Jvm.Cond) (a : Int32) (h0 : Heap) (n0 : Nat) (Z0 : n0 ≤ h0.size) (X00 : Old Z n0 h0)  :
 own_MN l mN50 method_3_code 3 (some .int) ws rm_0_0_0_0 Z #[(.int a)] h0 (Q_own_drawC Z a h0 n0) := by
 refine own_bodyN (plainFor_of_name own_pn13) fun p e s m below meth c s₁ Bd hx hby hml hown hZ X0 e0 => ?_
 have N0 := Fr.nil n0
 have K0 : Keep h0 h0 [] := Keep.refl h0 []
 refine own_st (fun tq kq => castTop (ef_own_drawC m (a)) kq) ?_
 show own_G p e below _ (s₁.setTop (mkF m 0 #[vI a, .unset, .unset] []))
 refine s_iloadN X0 hx (hb hby dDR_0) rfl ?_
 refine s_bipush X0 hx (hb hby dDR_1) ?_
 refine own_st (fun tq kq => XS.iushr X0.here hx rfl (hb hby dDR_3) rfl kq) ?_
 refine s_iconst X0 hx (hb hby dDR_4) ?_
 refine own_st (fun tq kq => XS.iand X0.here hx rfl (hb hby dDR_5) rfl kq) ?_
 refine own_st (fun tq kq => XS.istoreN X0.here hx rfl (hb hby dDR_6) rfl (l' := #[vI a, vI (((a.toUInt32 >>> ((16 : Int32) &&& 31).toUInt32).toInt32) &&& (3 : Int32)), .unset]) rfl kq) ?_
 refine s_iloadN X0 hx (hb hby dDR_7) rfl ?_
 refine own_st (fun tq kq => X0.ldcInt hx hown (mvT hZ (wd4 hw)) (g := (mkF m 8 #[vI a, vI (((a.toUInt32 >>> ((16 : Int32) &&& 31).toUInt32).toInt32) &&& (3 : Int32)), .unset] [(.int a)])) rfl (hb hby dDR_8) _ kq) ?_
 refine own_st (fun tq kq => XS.iand X0.here hx rfl (hb hby dDR_10) rfl kq) ?_
 show own_G p e below _ (s₁.setTop (mkF m 11 #[vI a, vI (((a.toUInt32 >>> ((16 : Int32) &&& 31).toUInt32).toInt32) &&& (3 : Int32)), .unset] [(.int (a &&& (65535 : Int32)))]))
 refine own_st (fun tq kq => XS.istoreN X0.here hx rfl (hb hby dDR_11) rfl (l' := #[vI a, vI (((a.toUInt32 >>> ((16 : Int32) &&& 31).toUInt32).toInt32) &&& (3 : Int32)), vI (a &&& (65535 : Int32))]) rfl kq) ?_
 refine s_iloadN X0 hx (hb hby dDR_12) rfl ?_
 show own_G p e below _ (s₁.setTop (mkF m 13 #[vI a, vI (((a.toUInt32 >>> ((16 : Int32) &&& 31).toUInt32).toInt32) &&& (3 : Int32)), vI (a &&& (65535 : Int32))] [(.int (((a.toUInt32 >>> ((16 : Int32) &&& 31).toUInt32).toInt32) &&& (3 : Int32)))]))
 by_cases hc13_1 : ((((a.toUInt32 >>> ((16 : Int32) &&& 31).toUInt32).toInt32) &&& (3 : Int32)) = (0 : Int32))
 ·
  refine own_st (fun tq kq => XS.ifNo X0.here hx rfl (hb hby dDR_13) rfl ((if0 _ _).trans (teq hc13_1).2) kq) ?_
  refine s_iloadN X0 hx (hb hby dDR_16) rfl ?_
  refine s_bipush X0 hx (hb hby dDR_17) ?_
  refine own_st (fun tq kq => XS.iand X0.here hx rfl (hb hby dDR_19) rfl kq) ?_
  show own_G p e below _ (s₁.setTop (mkF m 20 #[vI a, vI (((a.toUInt32 >>> ((16 : Int32) &&& 31).toUInt32).toInt32) &&& (3 : Int32)), vI (a &&& (65535 : Int32))] [(.int ((a &&& (65535 : Int32)) &&& (127 : Int32)))]))
  exact own_retN X0 (v := some (.int ((a &&& (65535 : Int32)) &&& (127 : Int32)))) (fun h => by rw [Bd.returns] at h; cases h) Bd.notSynchronized (fun fs hr => retOut X0 hx Bd.returns rfl (Or.inl ⟨rfl, by simp, _, rfl⟩) (hb hby dDR_20) hr) (by decide) (by decide) (by rw [e0]; exact ⟨by unfold own_draw; rw [if_pos hc13_1], N0, rfl⟩)
 ·
  refine own_st (fun tq kq => XS.ifYes X0.here hx rfl (pc0 := 13) (pc' := 21) rfl (hb hby dDR_13) rfl ((if0 _ _).trans (feq hc13_1).2) (by decide) (by decide) kq) ?_
  refine s_iloadN X0 hx (hb hby dDR_21) rfl ?_
  refine s_iconst X0 hx (hb hby dDR_22) ?_
  show own_G p e below _ (s₁.setTop (mkF m 23 #[vI a, vI (((a.toUInt32 >>> ((16 : Int32) &&& 31).toUInt32).toInt32) &&& (3 : Int32)), vI (a &&& (65535 : Int32))] [(.int 1), (.int (((a.toUInt32 >>> ((16 : Int32) &&& 31).toUInt32).toInt32) &&& (3 : Int32)))]))
  by_cases hc23_2 : ((((a.toUInt32 >>> ((16 : Int32) &&& 31).toUInt32).toInt32) &&& (3 : Int32)) = (1 : Int32))
  ·
   refine own_st (fun tq kq => XS.icmpNo X0.here hx rfl (hb hby dDR_23) rfl (teq hc23_2).2 kq) ?_
   refine s_iloadN X0 hx (hb hby dDR_26) rfl ?_
   refine s_sipush X0 hx (hb hby dDR_27) ?_
   refine own_st (fun tq kq => XS.iand X0.here hx rfl (hb hby dDR_30) rfl kq) ?_
   show own_G p e below _ (s₁.setTop (mkF m 31 #[vI a, vI (((a.toUInt32 >>> ((16 : Int32) &&& 31).toUInt32).toInt32) &&& (3 : Int32)), vI (a &&& (65535 : Int32))] [(.int ((a &&& (65535 : Int32)) &&& (2047 : Int32)))]))
   exact own_retN X0 (v := some (.int ((a &&& (65535 : Int32)) &&& (2047 : Int32)))) (fun h => by rw [Bd.returns] at h; cases h) Bd.notSynchronized (fun fs hr => retOut X0 hx Bd.returns rfl (Or.inl ⟨rfl, by simp, _, rfl⟩) (hb hby dDR_31) hr) (by decide) (by decide) (by rw [e0]; exact ⟨by unfold own_draw; rw [if_neg hc13_1, if_pos hc23_2], N0, rfl⟩)
  ·
   refine own_st (fun tq kq => XS.icmpYes X0.here hx rfl (pc0 := 23) (pc' := 32) rfl (hb hby dDR_23) rfl (feq hc23_2).2 (by decide) (by decide) kq) ?_
   refine s_iloadN X0 hx (hb hby dDR_32) rfl ?_
   refine own_st (fun tq kq => X0.ldcInt hx hown (mvT hZ (wd210 hw)) (g := (mkF m 33 #[vI a, vI (((a.toUInt32 >>> ((16 : Int32) &&& 31).toUInt32).toInt32) &&& (3 : Int32)), vI (a &&& (65535 : Int32))] [(.int (a &&& (65535 : Int32)))])) rfl (hb hby dDR_33) _ kq) ?_
   show own_G p e below _ (s₁.setTop (mkF m 35 #[vI a, vI (((a.toUInt32 >>> ((16 : Int32) &&& 31).toUInt32).toInt32) &&& (3 : Int32)), vI (a &&& (65535 : Int32))] [(.int 55296), (.int (a &&& (65535 : Int32)))]))
   by_cases hc35_3 : ((a &&& (65535 : Int32)) < (55296 : Int32))
   ·
    refine own_st (fun tq kq => XS.icmpYes X0.here hx rfl (pc0 := 35) (pc' := 50) rfl (hb hby dDR_35) rfl (tlt hc35_3).1 (by decide) (by decide) kq) ?_
    refine s_iloadN X0 hx (hb hby dDR_50) rfl ?_
    show own_G p e below _ (s₁.setTop (mkF m 51 #[vI a, vI (((a.toUInt32 >>> ((16 : Int32) &&& 31).toUInt32).toInt32) &&& (3 : Int32)), vI (a &&& (65535 : Int32))] [(.int (a &&& (65535 : Int32)))]))
    exact own_retN X0 (v := some (.int (a &&& (65535 : Int32)))) (fun h => by rw [Bd.returns] at h; cases h) Bd.notSynchronized (fun fs hr => retOut X0 hx Bd.returns rfl (Or.inl ⟨rfl, by simp, _, rfl⟩) (hb hby dDR_51) hr) (by decide) (by decide) (by rw [e0]; exact ⟨by unfold own_draw; rw [if_neg hc13_1, if_neg hc23_2, if_pos hc35_3], N0, rfl⟩)
   ·
    refine own_st (fun tq kq => XS.icmpNo X0.here hx rfl (hb hby dDR_35) rfl (flt hc35_3).1 kq) ?_
    refine s_iloadN X0 hx (hb hby dDR_38) rfl ?_
    refine own_st (fun tq kq => X0.ldcInt hx hown (mvT hZ (wd211 hw)) (g := (mkF m 39 #[vI a, vI (((a.toUInt32 >>> ((16 : Int32) &&& 31).toUInt32).toInt32) &&& (3 : Int32)), vI (a &&& (65535 : Int32))] [(.int (a &&& (65535 : Int32)))])) rfl (hb hby dDR_39) _ kq) ?_
    show own_G p e below _ (s₁.setTop (mkF m 41 #[vI a, vI (((a.toUInt32 >>> ((16 : Int32) &&& 31).toUInt32).toInt32) &&& (3 : Int32)), vI (a &&& (65535 : Int32))] [(.int 57343), (.int (a &&& (65535 : Int32)))]))
    by_cases hc41_4 : ((57343 : Int32) < (a &&& (65535 : Int32)))
    ·
     refine own_st (fun tq kq => XS.icmpYes X0.here hx rfl (pc0 := 41) (pc' := 50) rfl (hb hby dDR_41) rfl (tlt hc41_4).2.2.1 (by decide) (by decide) kq) ?_
     refine s_iloadN X0 hx (hb hby dDR_50) rfl ?_
     show own_G p e below _ (s₁.setTop (mkF m 51 #[vI a, vI (((a.toUInt32 >>> ((16 : Int32) &&& 31).toUInt32).toInt32) &&& (3 : Int32)), vI (a &&& (65535 : Int32))] [(.int (a &&& (65535 : Int32)))]))
     exact own_retN X0 (v := some (.int (a &&& (65535 : Int32)))) (fun h => by rw [Bd.returns] at h; cases h) Bd.notSynchronized (fun fs hr => retOut X0 hx Bd.returns rfl (Or.inl ⟨rfl, by simp, _, rfl⟩) (hb hby dDR_51) hr) (by decide) (by decide) (by rw [e0]; exact ⟨by unfold own_draw; rw [if_neg hc13_1, if_neg hc23_2, if_neg hc35_3, if_pos hc41_4], N0, rfl⟩)
    ·
     refine own_st (fun tq kq => XS.icmpNo X0.here hx rfl (hb hby dDR_41) rfl (flt hc41_4).2.2.1 kq) ?_
     refine s_iloadN X0 hx (hb hby dDR_44) rfl ?_
     refine s_sipush X0 hx (hb hby dDR_45) ?_
     refine own_st (fun tq kq => XS.iand X0.here hx rfl (hb hby dDR_48) rfl kq) ?_
     show own_G p e below _ (s₁.setTop (mkF m 49 #[vI a, vI (((a.toUInt32 >>> ((16 : Int32) &&& 31).toUInt32).toInt32) &&& (3 : Int32)), vI (a &&& (65535 : Int32))] [(.int ((a &&& (65535 : Int32)) &&& (2047 : Int32)))]))
     exact own_retN X0 (v := some (.int ((a &&& (65535 : Int32)) &&& (2047 : Int32)))) (fun h => by rw [Bd.returns] at h; cases h) Bd.notSynchronized (fun fs hr => retOut X0 hx Bd.returns rfl (Or.inl ⟨rfl, by simp, _, rfl⟩) (hb hby dDR_49) hr) (by decide) (by decide) (by rw [e0]; exact ⟨by unfold own_draw; rw [if_neg hc13_1, if_neg hc23_2, if_neg hc35_3, if_neg hc41_4], N0, rfl⟩)

theorem own_add1 (i : Nat) : Int32.ofNat i + (1 : Int32) = Int32.ofNat (i + 1) := (Int32.ofNat_add i 1).symm
theorem own_add2 (i : Nat) : Int32.ofNat i + (2 : Int32) = Int32.ofNat (i + 2) := (Int32.ofNat_add i 2).symm
theorem own_add3 (i : Nat) : Int32.ofNat i + (3 : Int32) = Int32.ofNat (i + 3) := (Int32.ofNat_add i 3).symm

def Q_own_putC (Z : State) (ea : Nat) (ke : ClassId) (P : List Int32) (ch : Int32) (h0 : Heap) (n0 : Nat) (v : Option Value) (h : Heap) (L : List Loc) : Prop := v = some (.int (Int32.ofNat (P ++ own_enc ch).length)) ∧ Fr n0 L ∧ Keep h0 h [ea] ∧ Arv Z h ea ke .byte (30 : Int32) ((P ++ own_enc ch).map Value.int ++ List.replicate (30 - (P ++ own_enc ch).length) (.int 0)) (.int 0)
theorem own_putC (l : Launch) (Z : State) (a0 : Array Value) (hw : hWt a0 Z) (ws : List Jvm.Cond) (ea : Nat) (ke : ClassId) (P : List Int32) (ch : Int32) (h0 : Heap) (n0 : Nat) (Z0 : n0 ≤ h0.size) (X00 : Old Z n0 h0) (Ve : Arv Z h0 ea ke .byte (30 : Int32) (P.map Value.int ++ List.replicate (30 - P.length) (.int 0)) (.int 0)) (hP : P.length + 3 ≤ 30) (ge_ : n0 ≤ ea) :
 own_MN l mN51 method_4_code 3 (some .int) ws rm_0_0_0_0 Z #[(.ref ea), (.int (Int32.ofNat P.length)), (.int ch)] h0 (Q_own_putC Z ea ke P ch h0 n0) := by
 refine own_bodyN (plainFor_of_name own_pn13) fun p e s m below meth c s₁ Bd hx hby hml hown hZ X0 e0 => ?_
 have N0 := Fr.nil n0
 have K0 : Keep h0 h0 [ea] := Keep.refl h0 [ea]
 refine own_st (fun tq kq => castTop (ef_own_pc m (ea) ((Int32.ofNat P.length)) (ch)) kq) ?_
 show own_G p e below _ (s₁.setTop (mkF m 0 #[vR ea, vI (Int32.ofNat P.length), vI ch] []))
 have hws0 : ∀ y ∈ [ea], n0 ≤ y := allS ge_ all0
 refine s_iloadN X0 hx (hb hby dPT_0) rfl ?_
 refine s_sipush X0 hx (hb hby dPT_1) ?_
 show own_G p e below _ (s₁.setTop (mkF m 4 #[vR ea, vI (Int32.ofNat P.length), vI ch] [(.int 128), (.int ch)]))
 by_cases hc4_1 : (ch < (128 : Int32))
 ·
  refine own_st (fun tq kq => XS.icmpNo X0.here hx rfl (hb hby dPT_4) rfl (tlt hc4_1).2.1 kq) ?_
  refine s_aloadN X0 hx (hb hby dPT_7) rfl rfl ?_
  refine s_iloadN X0 hx (hb hby dPT_8) rfl ?_
  refine s_iloadN X0 hx (hb hby dPT_9) rfl ?_
  refine own_st (fun tq kq => XS.i2b X0.here hx rfl (hb hby dPT_10) rfl kq) ?_
  obtain ⟨cl2, Ar2, q2, S_2, N_2, H_2, G_2⟩ := id Ve
  have in2 : ¬ ((Int32.ofNat P.length) < 0 ∨ cl2.slots.size ≤ ((Int32.ofNat P.length)).toNatClampNeg) := inb_of S_2 ⟨(own_n0 (by omega)), (own_ilt (n := 30) (by omega) (by omega))⟩
  obtain ⟨T2, h2, X2, e2, W2, st2⟩ := stB X0 hx hZ e0 Ar2 (j := (Int32.ofNat P.length)) in2 (g := (mkF m 11 #[vR ea, vI (Int32.ofNat P.length), vI ch] [(.int (ch.toInt8.toInt32)), (.int (Int32.ofNat P.length)), (.ref ea)])) rfl rfl (hb hby dPT_11)
  have V2 := Arv.set Ar2 q2 S_2 N_2 H_2 G_2 (fits_nar_byte _) W2 P.length (by rw [own_n32 (by omega)]) (by simp only [List.length_append, List.length_cons, List.length_nil, List.length_map, List.length_replicate]; omega)
  have sz2 : h0.size ≤ h2.size := (Keep.of_wr W2).1
  have K2 : Keep h0 h2 [ea] := K0.wr W2 (Or.inl (by simp))
  have N2 := Fr.snoc X2 N0 (own_le (by omega))
  first | rw [own_i2bb] at V2 | rw [own_i2b] at V2
  rw [own_pushv (by omega)] at V2
  refine own_st st2 ?_
  refine s_iloadN X2 hx (hb hby dPT_12) rfl ?_
  refine s_iconst X2 hx (hb hby dPT_13) ?_
  refine own_st (fun tq kq => XS.iadd X2.here hx rfl (hb hby dPT_14) rfl kq) ?_
  show own_G p e below _ (T2.setTop (mkF m 15 #[vR ea, vI (Int32.ofNat P.length), vI ch] [(.int ((Int32.ofNat P.length) + (1 : Int32)))]))
  show own_G p e below _ (T2.setTop (mkF m 15 #[vR ea, vI (Int32.ofNat P.length), vI ch] [(.int ((Int32.ofNat P.length) + (1 : Int32)))]))
  rw [own_add1 P.length]
  show own_G p e below _ (T2.setTop (mkF m 15 #[vR ea, vI (Int32.ofNat P.length), vI ch] [(.int (Int32.ofNat (P.length + 1)))]))
  exact own_retN X2 (v := some (.int (Int32.ofNat (P.length + 1)))) (fun h => by rw [Bd.returns] at h; cases h) Bd.notSynchronized (fun fs hr => retOut X2 hx Bd.returns rfl (Or.inl ⟨rfl, by simp, _, rfl⟩) (hb hby dPT_15) hr) (by decide) (by decide) (by rw [e2]; exact ⟨by rw [own_enc1 hc4_1]; simp, N2, K2, (by rw [own_enc1 hc4_1]; have q := V2; (try simp only [List.append_assoc, List.cons_append, List.nil_append] at q); exact q)⟩)
 ·
  refine own_st (fun tq kq => XS.icmpYes X0.here hx rfl (pc0 := 4) (pc' := 16) rfl (hb hby dPT_4) rfl (flt hc4_1).2.1 (by decide) (by decide) kq) ?_
  refine s_iloadN X0 hx (hb hby dPT_16) rfl ?_
  refine s_sipush X0 hx (hb hby dPT_17) ?_
  show own_G p e below _ (s₁.setTop (mkF m 20 #[vR ea, vI (Int32.ofNat P.length), vI ch] [(.int 2048), (.int ch)]))
  by_cases hc20_3 : (ch < (2048 : Int32))
  ·
   refine own_st (fun tq kq => XS.icmpNo X0.here hx rfl (hb hby dPT_20) rfl (tlt hc20_3).2.1 kq) ?_
   refine s_aloadN X0 hx (hb hby dPT_23) rfl rfl ?_
   refine s_iloadN X0 hx (hb hby dPT_24) rfl ?_
   refine s_sipush X0 hx (hb hby dPT_25) ?_
   refine s_iloadN X0 hx (hb hby dPT_28) rfl ?_
   refine s_bipush X0 hx (hb hby dPT_29) ?_
   refine own_st (fun tq kq => XS.ishr X0.here hx rfl (hb hby dPT_31) rfl kq) ?_
   refine own_st (fun tq kq => XS.ior X0.here hx rfl (hb hby dPT_32) rfl kq) ?_
   refine own_st (fun tq kq => XS.i2b X0.here hx rfl (hb hby dPT_33) rfl kq) ?_
   show own_G p e below _ (s₁.setTop (mkF m 34 #[vR ea, vI (Int32.ofNat P.length), vI ch] [(.int (((192 : Int32) ||| (ch >>> ((6 : Int32) &&& 31))).toInt8.toInt32)), (.int (Int32.ofNat P.length)), (.ref ea)]))
   obtain ⟨cl4, Ar4, q4, S_4, N_4, H_4, G_4⟩ := id Ve
   have in4 : ¬ ((Int32.ofNat P.length) < 0 ∨ cl4.slots.size ≤ ((Int32.ofNat P.length)).toNatClampNeg) := inb_of S_4 ⟨(own_n0 (by omega)), (own_ilt (n := 30) (by omega) (by omega))⟩
   obtain ⟨T4, h4, X4, e4, W4, st4⟩ := stB X0 hx hZ e0 Ar4 (j := (Int32.ofNat P.length)) in4 (g := (mkF m 34 #[vR ea, vI (Int32.ofNat P.length), vI ch] [(.int (((192 : Int32) ||| (ch >>> ((6 : Int32) &&& 31))).toInt8.toInt32)), (.int (Int32.ofNat P.length)), (.ref ea)])) rfl rfl (hb hby dPT_34)
   have V4 := Arv.set Ar4 q4 S_4 N_4 H_4 G_4 (fits_nar_byte _) W4 P.length (by rw [own_n32 (by omega)]) (by simp only [List.length_append, List.length_cons, List.length_nil, List.length_map, List.length_replicate]; omega)
   have sz4 : h0.size ≤ h4.size := (Keep.of_wr W4).1
   have K4 : Keep h0 h4 [ea] := K0.wr W4 (Or.inl (by simp))
   have N4 := Fr.snoc X4 N0 (own_le (by omega))
   first | rw [own_i2bb] at V4 | rw [own_i2b] at V4
   rw [own_pushv (by omega)] at V4
   refine own_st st4 ?_
   refine s_aloadN X4 hx (hb hby dPT_35) rfl rfl ?_
   refine s_iloadN X4 hx (hb hby dPT_36) rfl ?_
   refine s_iconst X4 hx (hb hby dPT_37) ?_
   refine own_st (fun tq kq => XS.iadd X4.here hx rfl (hb hby dPT_38) rfl kq) ?_
   show own_G p e below _ (T4.setTop (mkF m 39 #[vR ea, vI (Int32.ofNat P.length), vI ch] [(.int ((Int32.ofNat P.length) + (1 : Int32))), (.ref ea)]))
   rw [own_add1 P.length]
   show own_G p e below _ (T4.setTop (mkF m 39 #[vR ea, vI (Int32.ofNat P.length), vI ch] [(.int (Int32.ofNat (P.length + 1))), (.ref ea)]))
   refine s_sipush X4 hx (hb hby dPT_39) ?_
   refine s_iloadN X4 hx (hb hby dPT_42) rfl ?_
   refine s_bipush X4 hx (hb hby dPT_43) ?_
   refine own_st (fun tq kq => XS.iand X4.here hx rfl (hb hby dPT_45) rfl kq) ?_
   refine own_st (fun tq kq => XS.ior X4.here hx rfl (hb hby dPT_46) rfl kq) ?_
   refine own_st (fun tq kq => XS.i2b X4.here hx rfl (hb hby dPT_47) rfl kq) ?_
   obtain ⟨cl5, Ar5, q5, S_5, N_5, H_5, G_5⟩ := id V4
   have in5 : ¬ ((Int32.ofNat (P.length + 1)) < 0 ∨ cl5.slots.size ≤ ((Int32.ofNat (P.length + 1))).toNatClampNeg) := inb_of S_5 ⟨(own_n0 (by omega)), (own_ilt (n := 30) (by omega) (by omega))⟩
   obtain ⟨T5, h5, X5, e5, W5, st5⟩ := stB X4 hx hZ e4 Ar5 (j := (Int32.ofNat (P.length + 1))) in5 (g := (mkF m 48 #[vR ea, vI (Int32.ofNat P.length), vI ch] [(.int (((128 : Int32) ||| (ch &&& (63 : Int32))).toInt8.toInt32)), (.int (Int32.ofNat (P.length + 1))), (.ref ea)])) rfl rfl (hb hby dPT_48)
   have V5 := Arv.set Ar5 q5 S_5 N_5 H_5 G_5 (fits_nar_byte _) W5 (P ++ [(((192 : Int32) ||| (ch >>> ((6 : Int32) &&& 31))).toInt8.toInt32)]).length (by rw [own_n32 (by omega)]; simp) (by simp only [List.length_append, List.length_cons, List.length_nil, List.length_map, List.length_replicate]; omega)
   have sz5 : h4.size ≤ h5.size := (Keep.of_wr W5).1
   have K5 : Keep h0 h5 [ea] := K4.wr W5 (Or.inl (by simp))
   have N5 := Fr.snoc X5 N4 (own_le (by omega))
   first | rw [own_i2bb] at V5 | rw [own_i2b] at V5
   rw [own_pushv (by simp only [List.length_append, List.length_cons, List.length_nil]; omega)] at V5
   refine own_st st5 ?_
   refine s_iloadN X5 hx (hb hby dPT_49) rfl ?_
   refine s_iconst X5 hx (hb hby dPT_50) ?_
   refine own_st (fun tq kq => XS.iadd X5.here hx rfl (hb hby dPT_51) rfl kq) ?_
   show own_G p e below _ (T5.setTop (mkF m 52 #[vR ea, vI (Int32.ofNat P.length), vI ch] [(.int ((Int32.ofNat P.length) + (2 : Int32)))]))
   show own_G p e below _ (T5.setTop (mkF m 52 #[vR ea, vI (Int32.ofNat P.length), vI ch] [(.int ((Int32.ofNat P.length) + (2 : Int32)))]))
   rw [own_add2 P.length]
   show own_G p e below _ (T5.setTop (mkF m 52 #[vR ea, vI (Int32.ofNat P.length), vI ch] [(.int (Int32.ofNat (P.length + 2)))]))
   exact own_retN X5 (v := some (.int (Int32.ofNat (P.length + 2)))) (fun h => by rw [Bd.returns] at h; cases h) Bd.notSynchronized (fun fs hr => retOut X5 hx Bd.returns rfl (Or.inl ⟨rfl, by simp, _, rfl⟩) (hb hby dPT_52) hr) (by decide) (by decide) (by rw [e5]; exact ⟨by rw [own_enc2 hc4_1 hc20_3]; simp, N5, K5, (by rw [own_enc2 hc4_1 hc20_3]; have q := V5; (try simp only [List.append_assoc, List.cons_append, List.nil_append] at q); exact q)⟩)
  ·
   refine own_st (fun tq kq => XS.icmpYes X0.here hx rfl (pc0 := 20) (pc' := 53) rfl (hb hby dPT_20) rfl (flt hc20_3).2.1 (by decide) (by decide) kq) ?_
   refine s_aloadN X0 hx (hb hby dPT_53) rfl rfl ?_
   refine s_iloadN X0 hx (hb hby dPT_54) rfl ?_
   refine s_sipush X0 hx (hb hby dPT_55) ?_
   refine s_iloadN X0 hx (hb hby dPT_58) rfl ?_
   refine s_bipush X0 hx (hb hby dPT_59) ?_
   refine own_st (fun tq kq => XS.ishr X0.here hx rfl (hb hby dPT_61) rfl kq) ?_
   refine own_st (fun tq kq => XS.ior X0.here hx rfl (hb hby dPT_62) rfl kq) ?_
   refine own_st (fun tq kq => XS.i2b X0.here hx rfl (hb hby dPT_63) rfl kq) ?_
   show own_G p e below _ (s₁.setTop (mkF m 64 #[vR ea, vI (Int32.ofNat P.length), vI ch] [(.int (((224 : Int32) ||| (ch >>> ((12 : Int32) &&& 31))).toInt8.toInt32)), (.int (Int32.ofNat P.length)), (.ref ea)]))
   obtain ⟨cl6, Ar6, q6, S_6, N_6, H_6, G_6⟩ := id Ve
   have in6 : ¬ ((Int32.ofNat P.length) < 0 ∨ cl6.slots.size ≤ ((Int32.ofNat P.length)).toNatClampNeg) := inb_of S_6 ⟨(own_n0 (by omega)), (own_ilt (n := 30) (by omega) (by omega))⟩
   obtain ⟨T6, h6, X6, e6, W6, st6⟩ := stB X0 hx hZ e0 Ar6 (j := (Int32.ofNat P.length)) in6 (g := (mkF m 64 #[vR ea, vI (Int32.ofNat P.length), vI ch] [(.int (((224 : Int32) ||| (ch >>> ((12 : Int32) &&& 31))).toInt8.toInt32)), (.int (Int32.ofNat P.length)), (.ref ea)])) rfl rfl (hb hby dPT_64)
   have V6 := Arv.set Ar6 q6 S_6 N_6 H_6 G_6 (fits_nar_byte _) W6 P.length (by rw [own_n32 (by omega)]) (by simp only [List.length_append, List.length_cons, List.length_nil, List.length_map, List.length_replicate]; omega)
   have sz6 : h0.size ≤ h6.size := (Keep.of_wr W6).1
   have K6 : Keep h0 h6 [ea] := K0.wr W6 (Or.inl (by simp))
   have N6 := Fr.snoc X6 N0 (own_le (by omega))
   first | rw [own_i2bb] at V6 | rw [own_i2b] at V6
   rw [own_pushv (by omega)] at V6
   refine own_st st6 ?_
   refine s_aloadN X6 hx (hb hby dPT_65) rfl rfl ?_
   refine s_iloadN X6 hx (hb hby dPT_66) rfl ?_
   refine s_iconst X6 hx (hb hby dPT_67) ?_
   refine own_st (fun tq kq => XS.iadd X6.here hx rfl (hb hby dPT_68) rfl kq) ?_
   show own_G p e below _ (T6.setTop (mkF m 69 #[vR ea, vI (Int32.ofNat P.length), vI ch] [(.int ((Int32.ofNat P.length) + (1 : Int32))), (.ref ea)]))
   rw [own_add1 P.length]
   show own_G p e below _ (T6.setTop (mkF m 69 #[vR ea, vI (Int32.ofNat P.length), vI ch] [(.int (Int32.ofNat (P.length + 1))), (.ref ea)]))
   refine s_sipush X6 hx (hb hby dPT_69) ?_
   refine s_iloadN X6 hx (hb hby dPT_72) rfl ?_
   refine s_bipush X6 hx (hb hby dPT_73) ?_
   refine own_st (fun tq kq => XS.ishr X6.here hx rfl (hb hby dPT_75) rfl kq) ?_
   refine s_bipush X6 hx (hb hby dPT_76) ?_
   refine own_st (fun tq kq => XS.iand X6.here hx rfl (hb hby dPT_78) rfl kq) ?_
   refine own_st (fun tq kq => XS.ior X6.here hx rfl (hb hby dPT_79) rfl kq) ?_
   refine own_st (fun tq kq => XS.i2b X6.here hx rfl (hb hby dPT_80) rfl kq) ?_
   obtain ⟨cl7, Ar7, q7, S_7, N_7, H_7, G_7⟩ := id V6
   have in7 : ¬ ((Int32.ofNat (P.length + 1)) < 0 ∨ cl7.slots.size ≤ ((Int32.ofNat (P.length + 1))).toNatClampNeg) := inb_of S_7 ⟨(own_n0 (by omega)), (own_ilt (n := 30) (by omega) (by omega))⟩
   obtain ⟨T7, h7, X7, e7, W7, st7⟩ := stB X6 hx hZ e6 Ar7 (j := (Int32.ofNat (P.length + 1))) in7 (g := (mkF m 81 #[vR ea, vI (Int32.ofNat P.length), vI ch] [(.int (((128 : Int32) ||| ((ch >>> ((6 : Int32) &&& 31)) &&& (63 : Int32))).toInt8.toInt32)), (.int (Int32.ofNat (P.length + 1))), (.ref ea)])) rfl rfl (hb hby dPT_81)
   have V7 := Arv.set Ar7 q7 S_7 N_7 H_7 G_7 (fits_nar_byte _) W7 (P ++ [(((224 : Int32) ||| (ch >>> ((12 : Int32) &&& 31))).toInt8.toInt32)]).length (by rw [own_n32 (by omega)]; simp) (by simp only [List.length_append, List.length_cons, List.length_nil, List.length_map, List.length_replicate]; omega)
   have sz7 : h6.size ≤ h7.size := (Keep.of_wr W7).1
   have K7 : Keep h0 h7 [ea] := K6.wr W7 (Or.inl (by simp))
   have N7 := Fr.snoc X7 N6 (own_le (by omega))
   first | rw [own_i2bb] at V7 | rw [own_i2b] at V7
   rw [own_pushv (by simp only [List.length_append, List.length_cons, List.length_nil]; omega)] at V7
   refine own_st st7 ?_
   refine s_aloadN X7 hx (hb hby dPT_82) rfl rfl ?_
   refine s_iloadN X7 hx (hb hby dPT_83) rfl ?_
   refine s_iconst X7 hx (hb hby dPT_84) ?_
   refine own_st (fun tq kq => XS.iadd X7.here hx rfl (hb hby dPT_85) rfl kq) ?_
   show own_G p e below _ (T7.setTop (mkF m 86 #[vR ea, vI (Int32.ofNat P.length), vI ch] [(.int ((Int32.ofNat P.length) + (2 : Int32))), (.ref ea)]))
   rw [own_add2 P.length]
   show own_G p e below _ (T7.setTop (mkF m 86 #[vR ea, vI (Int32.ofNat P.length), vI ch] [(.int (Int32.ofNat (P.length + 2))), (.ref ea)]))
   refine s_sipush X7 hx (hb hby dPT_86) ?_
   refine s_iloadN X7 hx (hb hby dPT_89) rfl ?_
   refine s_bipush X7 hx (hb hby dPT_90) ?_
   refine own_st (fun tq kq => XS.iand X7.here hx rfl (hb hby dPT_92) rfl kq) ?_
   refine own_st (fun tq kq => XS.ior X7.here hx rfl (hb hby dPT_93) rfl kq) ?_
   refine own_st (fun tq kq => XS.i2b X7.here hx rfl (hb hby dPT_94) rfl kq) ?_
   obtain ⟨cl8, Ar8, q8, S_8, N_8, H_8, G_8⟩ := id V7
   have in8 : ¬ ((Int32.ofNat (P.length + 2)) < 0 ∨ cl8.slots.size ≤ ((Int32.ofNat (P.length + 2))).toNatClampNeg) := inb_of S_8 ⟨(own_n0 (by omega)), (own_ilt (n := 30) (by omega) (by omega))⟩
   obtain ⟨T8, h8, X8, e8, W8, st8⟩ := stB X7 hx hZ e7 Ar8 (j := (Int32.ofNat (P.length + 2))) in8 (g := (mkF m 95 #[vR ea, vI (Int32.ofNat P.length), vI ch] [(.int (((128 : Int32) ||| (ch &&& (63 : Int32))).toInt8.toInt32)), (.int (Int32.ofNat (P.length + 2))), (.ref ea)])) rfl rfl (hb hby dPT_95)
   have V8 := Arv.set Ar8 q8 S_8 N_8 H_8 G_8 (fits_nar_byte _) W8 ((P ++ [(((224 : Int32) ||| (ch >>> ((12 : Int32) &&& 31))).toInt8.toInt32)]) ++ [(((128 : Int32) ||| ((ch >>> ((6 : Int32) &&& 31)) &&& (63 : Int32))).toInt8.toInt32)]).length (by rw [own_n32 (by omega)]; simp) (by simp only [List.length_append, List.length_cons, List.length_nil, List.length_map, List.length_replicate]; omega)
   have sz8 : h7.size ≤ h8.size := (Keep.of_wr W8).1
   have K8 : Keep h0 h8 [ea] := K7.wr W8 (Or.inl (by simp))
   have N8 := Fr.snoc X8 N7 (own_le (by omega))
   first | rw [own_i2bb] at V8 | rw [own_i2b] at V8
   rw [own_pushv (by simp only [List.length_append, List.length_cons, List.length_nil]; omega)] at V8
   refine own_st st8 ?_
   refine s_iloadN X8 hx (hb hby dPT_96) rfl ?_
   refine s_iconst X8 hx (hb hby dPT_97) ?_
   refine own_st (fun tq kq => XS.iadd X8.here hx rfl (hb hby dPT_98) rfl kq) ?_
   show own_G p e below _ (T8.setTop (mkF m 99 #[vR ea, vI (Int32.ofNat P.length), vI ch] [(.int ((Int32.ofNat P.length) + (3 : Int32)))]))
   show own_G p e below _ (T8.setTop (mkF m 99 #[vR ea, vI (Int32.ofNat P.length), vI ch] [(.int ((Int32.ofNat P.length) + (3 : Int32)))]))
   rw [own_add3 P.length]
   show own_G p e below _ (T8.setTop (mkF m 99 #[vR ea, vI (Int32.ofNat P.length), vI ch] [(.int (Int32.ofNat (P.length + 3)))]))
   exact own_retN X8 (v := some (.int (Int32.ofNat (P.length + 3)))) (fun h => by rw [Bd.returns] at h; cases h) Bd.notSynchronized (fun fs hr => retOut X8 hx Bd.returns rfl (Or.inl ⟨rfl, by simp, _, rfl⟩) (hb hby dPT_99) hr) (by decide) (by decide) (by rw [e8]; exact ⟨by rw [own_enc3 hc4_1 hc20_3]; simp, N8, K8, (by rw [own_enc3 hc4_1 hc20_3]; have q := V8; (try simp only [List.append_assoc, List.cons_append, List.nil_append] at q); exact q)⟩)

def Q_own_smC (Z : State) (r ea : Nat) (kr ke : ClassId) (A : List Int32) (zs : List Value) (j : Nat) (h0 : Heap) (n0 : Nat) (v : Option Value) (h : Heap) (L : List Loc) : Prop := v = some (.int (1 : Int32)) ∧ Fr n0 L ∧ h = h0
theorem ef_own_smC (m : MethodId) (x0 : Nat) (x1 : Nat) (x2 : Int32) (x3 : Int32) : entryFrame m #[(.ref x0), (.ref x1), (.int x2), (.int x3)] 4 = mkF m 0 #[.val (.ref x0), .val (.ref x1), .val (.int x2), .val (.int x3)] [] := by first | (simp [entryFrame, mkF, argsToLocals, Value.category]; done) | rfl
theorem own_smC (l : Launch) (Z : State) (a0 : Array Value) (hw : hWt a0 Z) (ws : List Jvm.Cond) (r ea : Nat) (kr ke : ClassId) (A : List Int32) (zs : List Value) (j : Nat) (h0 : Heap) (n0 : Nat) (Z0 : n0 ≤ h0.size) (X00 : Old Z n0 h0) (Vr : Arv Z h0 r kr .byte (Int32.ofNat A.length) (A.map Value.int) (.int 0)) (Ve : Arv Z h0 ea ke .byte (30 : Int32) (A.map Value.int ++ zs) (.int 0)) (hA : A.length ≤ 30) (hj : j ≤ 100) :
 own_MN l mN52 method_5_code 4 (some .boolean) ws rm_0_0_0_0 Z #[(.ref r), (.ref ea), (.int (Int32.ofNat A.length)), (.int (Int32.ofNat j))] h0 (Q_own_smC Z r ea kr ke A zs j h0 n0) := by
 refine own_bodyN (plainFor_of_name own_pn13) fun p e s m below meth c s₁ Bd hx hby hml hown hZ X0 e0 => ?_
 have N0 := Fr.nil n0
 have K0 : Keep h0 h0 [] := Keep.refl h0 []
 refine own_st (fun tq kq => castTop (ef_own_smC m (r) (ea) ((Int32.ofNat A.length)) ((Int32.ofNat j))) kq) ?_
 show own_G p e below _ (s₁.setTop (mkF m 0 #[vR r, vR ea, vI (Int32.ofNat A.length), vI (Int32.ofNat j)] []))
 refine s_iloadN X0 hx (hb hby dSM_0) rfl ?_
 refine s_iloadN X0 hx (hb hby dSM_1) rfl ?_
 show own_G p e below _ (s₁.setTop (mkF m 2 #[vR r, vR ea, vI (Int32.ofNat A.length), vI (Int32.ofNat j)] [(.int (Int32.ofNat A.length)), (.int (Int32.ofNat j))]))
 by_cases hc2_1 : ((Int32.ofNat j) < (Int32.ofNat A.length))
 ·
  refine own_st (fun tq kq => XS.icmpNo X0.here hx rfl (hb hby dSM_2) rfl (tlt hc2_1).2.1 kq) ?_
  refine s_aloadN X0 hx (hb hby dSM_5) rfl rfl ?_
  refine s_iloadN X0 hx (hb hby dSM_6) rfl ?_
  obtain ⟨cl2, Ar2, q2, S_2, N_2, H_2, G_2⟩ := id Vr
  have in2 : ¬ ((Int32.ofNat j) < 0 ∨ cl2.slots.size ≤ ((Int32.ofNat j)).toNatClampNeg) := inb_of S_2 ⟨(own_n0 (by omega)), hc2_1⟩
  have at2 : cl2.slots[((Int32.ofNat j)).toNatClampNeg]? = some (.int (A.getD j 0)) := H_2.at in2 (by rw [own_n32 (by omega)]; have q := own_miAt (rs := []) (own_ofLt hc2_1 (by omega) (by omega)); rwa [List.append_nil] at q)
  refine own_st (fun tq kq => X0.baloadBytes hx (j := (Int32.ofNat j)) (v := (.int (A.getD j 0))) (by rw [e0]; exact Ar2.1) (State.isArrayOf_alike hZ.alike Ar2.2.1) Ar2.2.2 in2 at2 (g := (mkF m 7 #[vR r, vR ea, vI (Int32.ofNat A.length), vI (Int32.ofNat j)] [(.int (Int32.ofNat j)), (.ref r)])) rfl rfl (hb hby dSM_7) _ kq) ?_
  refine s_aloadN X0 hx (hb hby dSM_8) rfl rfl ?_
  refine s_iloadN X0 hx (hb hby dSM_9) rfl ?_
  obtain ⟨cl3, Ar3, q3, S_3, N_3, H_3, G_3⟩ := id Ve
  have in3 : ¬ ((Int32.ofNat j) < 0 ∨ cl3.slots.size ≤ ((Int32.ofNat j)).toNatClampNeg) := inb_of S_3 ⟨(own_n0 (by omega)), (by have q := (own_ofLt hc2_1 (by omega) (by omega)); exact own_ilt (n := 30) (by omega) (by omega))⟩
  have at3 : cl3.slots[((Int32.ofNat j)).toNatClampNeg]? = some (.int (A.getD j 0)) := H_3.at in3 (by rw [own_n32 (by omega)]; exact own_miAt (own_ofLt hc2_1 (by omega) (by omega)))
  refine own_st (fun tq kq => X0.baloadBytes hx (j := (Int32.ofNat j)) (v := (.int (A.getD j 0))) (by rw [e0]; exact Ar3.1) (State.isArrayOf_alike hZ.alike Ar3.2.1) Ar3.2.2 in3 at3 (g := (mkF m 10 #[vR r, vR ea, vI (Int32.ofNat A.length), vI (Int32.ofNat j)] [(.int (Int32.ofNat j)), (.ref ea), (.int (A.getD j 0))])) rfl rfl (hb hby dSM_10) _ kq) ?_
  show own_G p e below _ (s₁.setTop (mkF m 11 #[vR r, vR ea, vI (Int32.ofNat A.length), vI (Int32.ofNat j)] [(.int (A.getD j 0)), (.int (A.getD j 0))]))
  refine own_st (fun tq kq => XS.icmpNo X0.here hx rfl (hb hby dSM_11) rfl (teq (rfl : ((A.getD j 0) = (A.getD j 0)))).2 kq) ?_
  refine s_iconst X0 hx (hb hby dSM_14) ?_
  refine own_st (fun tq kq => XS.goto X0.here hx rfl (pc0 := 15) (pc' := 19) rfl (hb hby dSM_15) (by decide) (by decide) kq) ?_
  show own_G p e below _ (s₁.setTop (mkF m 19 #[vR r, vR ea, vI (Int32.ofNat A.length), vI (Int32.ofNat j)] [(.int 1)]))
  exact own_retN X0 (v := some (.int 1)) (fun h => by rw [Bd.returns] at h; cases h) Bd.notSynchronized (fun fs hr => retN X0 hx (z := (1 : Int32)) (t := .boolean) Bd.returns (by simp) (hb hby dSM_19) hr) (by decide) (by decide) (by rw [e0]; exact ⟨rfl, N0, rfl⟩)
 ·
  refine own_st (fun tq kq => XS.icmpYes X0.here hx rfl (pc0 := 2) (pc' := 14) rfl (hb hby dSM_2) rfl (flt hc2_1).2.1 (by decide) (by decide) kq) ?_
  refine s_iconst X0 hx (hb hby dSM_14) ?_
  refine own_st (fun tq kq => XS.goto X0.here hx rfl (pc0 := 15) (pc' := 19) rfl (hb hby dSM_15) (by decide) (by decide) kq) ?_
  show own_G p e below _ (s₁.setTop (mkF m 19 #[vR r, vR ea, vI (Int32.ofNat A.length), vI (Int32.ofNat j)] [(.int 1)]))
  exact own_retN X0 (v := some (.int 1)) (fun h => by rw [Bd.returns] at h; cases h) Bd.notSynchronized (fun fs hr => retN X0 hx (z := (1 : Int32)) (t := .boolean) Bd.returns (by simp) (hb hby dSM_19) hr) (by decide) (by decide) (by rw [e0]; exact ⟨rfl, N0, rfl⟩)

def Q_own_eqC (Z : State) (r ea : Nat) (kr ke : ClassId) (A : List Int32) (zs : List Value) (j : Nat) (h0 : Heap) (n0 : Nat) (v : Option Value) (h : Heap) (L : List Loc) : Prop := v = some (.int (1 : Int32)) ∧ Fr n0 L ∧ h = h0
theorem own_eqC (l : Launch) (Z : State) (a0 : Array Value) (hw : hWt a0 Z) (ws : List Jvm.Cond) (r ea : Nat) (kr ke : ClassId) (A : List Int32) (zs : List Value) (j : Nat) (h0 : Heap) (n0 : Nat) (Z0 : n0 ≤ h0.size) (X00 : Old Z n0 h0) (Vr : Arv Z h0 r kr .byte (Int32.ofNat A.length) (A.map Value.int) (.int 0)) (Ve : Arv Z h0 ea ke .byte (30 : Int32) (A.map Value.int ++ zs) (.int 0)) (hA : A.length ≤ 30) (hj : j ≤ 50) :
 own_MN l mN53 method_6_code 4 (some .boolean) ws rm_1_0_0_20 Z #[(.ref r), (.ref ea), (.int (Int32.ofNat A.length)), (.int (Int32.ofNat j))] h0 (Q_own_eqC Z r ea kr ke A zs j h0 n0) := by
 refine own_bodyN (plainFor_of_name own_pn13) fun p e s m below meth c s₁ Bd hx hby hml hown hZ X0 e0 => ?_
 have N0 := Fr.nil n0
 have K0 : Keep h0 h0 [] := Keep.refl h0 []
 refine own_st (fun tq kq => castTop (ef_own_smC m (r) (ea) ((Int32.ofNat A.length)) ((Int32.ofNat j))) kq) ?_
 show own_G p e below _ (s₁.setTop (mkF m 0 #[vR r, vR ea, vI (Int32.ofNat A.length), vI (Int32.ofNat j)] []))
 refine s_aloadN X0 hx (hb hby dEQ_0) rfl rfl ?_
 refine s_aloadN X0 hx (hb hby dEQ_1) rfl rfl ?_
 refine s_iloadN X0 hx (hb hby dEQ_2) rfl ?_
 refine s_iloadN X0 hx (hb hby dEQ_3) rfl ?_
 obtain ⟨_, _, ⟨T1, L1, k1, n1⟩, -, X1, ⟨Lc1, hQ1, l1, y1, z1⟩, st1⟩ := Jvm.LawKit.callS X0 hx (y := mN52) hown (mvT hZ (wd207 hw)) (mvT hZ (wd208 hw)) (mvT hZ (wd2 hw)) (mvT hZ (wd209 hw)) (by decide) (own_backN (W := 0) (own_smC l Z a0 hw [] (r) (ea) (kr) (ke) (A) (zs) (j) h0 n0 (by omega) (X00.keep K0 all0) Vr Ve hA (by omega)) hZ (wd209 hw) (wd2 hw) (by decide) (by decide)) (g := (mkF m 4 #[vR r, vR ea, vI (Int32.ofNat A.length), vI (Int32.ofNat j)] [(.int (Int32.ofNat j)), (.int (Int32.ofNat A.length)), (.ref ea), (.ref r)])) rfl (by rw [hml]; rfl) (argsL := [(.ref r), (.ref ea), (.int (Int32.ofNat A.length)), (.int (Int32.ofNat j))]) (rest := []) (lenOf own_pd38 rfl) rfl (Nat.le_of_eq rfl) (hb hby dEQ_4) (fun _ _ => ⟨rfl, e0, (by decide : 0 + 0 ≤ _), (by decide : 0 + 0 ≤ _)⟩)
 dsimp only [Pt.U, Pt.locs, Pt.cells, Pt.slots] at X1 l1 y1 z1 st1 hQ1
 subst l1 y1 z1
 obtain ⟨rfl, Nq1, sm1⟩ := hQ1
 have N1 := Fr.app N0 Nq1
 refine own_st st1 ?_
 refine own_st (fun tq kq => XS.ifNo X1.here hx rfl (hb hby dEQ_7) rfl ((if0 _ _).trans (feq (by decide : ¬ ((1 : Int32) = (0 : Int32)))).1) kq) ?_
 refine s_aloadN X1 hx (hb hby dEQ_10) rfl rfl ?_
 refine s_aloadN X1 hx (hb hby dEQ_11) rfl rfl ?_
 refine s_iloadN X1 hx (hb hby dEQ_12) rfl ?_
 refine s_iloadN X1 hx (hb hby dEQ_13) rfl ?_
 refine s_iconst X1 hx (hb hby dEQ_14) ?_
 refine own_st (fun tq kq => XS.iadd X1.here hx rfl (hb hby dEQ_15) rfl kq) ?_
 show own_G p e below _ (T1.setTop (mkF m 16 #[vR r, vR ea, vI (Int32.ofNat A.length), vI (Int32.ofNat j)] [(.int ((Int32.ofNat j) + (1 : Int32))), (.int (Int32.ofNat A.length)), (.ref ea), (.ref r)]))
 rw [show Int32.ofNat j + (1 : Int32) = Int32.ofNat (j + 1) from (Int32.ofNat_add j 1).symm]
 show own_G p e below _ (T1.setTop (mkF m 16 #[vR r, vR ea, vI (Int32.ofNat A.length), vI (Int32.ofNat j)] [(.int (Int32.ofNat (j + 1))), (.int (Int32.ofNat A.length)), (.ref ea), (.ref r)]))
 obtain ⟨_, _, ⟨T2, L2, k2, n2⟩, -, X2, ⟨Lc2, hQ2, l2, y2, z2⟩, st2⟩ := Jvm.LawKit.callS X1 hx (y := mN52) hown (mvT hZ (wd207 hw)) (mvT hZ (wd208 hw)) (mvT hZ (wd2 hw)) (mvT hZ (wd209 hw)) (by decide) (own_backN (W := 0) (own_smC l Z a0 hw [] (r) (ea) (kr) (ke) (A) (zs) ((j + 1)) h0 n0 (by omega) (X00.keep K0 all0) Vr Ve hA (by omega)) hZ (wd209 hw) (wd2 hw) (by decide) (by decide)) (g := (mkF m 16 #[vR r, vR ea, vI (Int32.ofNat A.length), vI (Int32.ofNat j)] [(.int (Int32.ofNat (j + 1))), (.int (Int32.ofNat A.length)), (.ref ea), (.ref r)])) rfl (by rw [hml]; rfl) (argsL := [(.ref r), (.ref ea), (.int (Int32.ofNat A.length)), (.int (Int32.ofNat (j + 1)))]) (rest := []) (lenOf own_pd38 rfl) rfl (Nat.le_of_eq rfl) (hb hby dEQ_16) (fun _ _ => ⟨rfl, sm1, (by decide : 0 + 0 ≤ _), (by decide : 0 + 0 ≤ _)⟩)
 dsimp only [Pt.U, Pt.locs, Pt.cells, Pt.slots] at X2 l2 y2 z2 st2 hQ2
 subst l2 y2 z2
 obtain ⟨rfl, Nq2, sm2⟩ := hQ2
 have N2 := Fr.app N1 Nq2
 refine own_st st2 ?_
 refine own_st (fun tq kq => XS.ifNo X2.here hx rfl (hb hby dEQ_19) rfl ((if0 _ _).trans (feq (by decide : ¬ ((1 : Int32) = (0 : Int32)))).1) kq) ?_
 refine s_aloadN X2 hx (hb hby dEQ_22) rfl rfl ?_
 refine s_aloadN X2 hx (hb hby dEQ_23) rfl rfl ?_
 refine s_iloadN X2 hx (hb hby dEQ_24) rfl ?_
 refine s_iloadN X2 hx (hb hby dEQ_25) rfl ?_
 refine s_iconst X2 hx (hb hby dEQ_26) ?_
 refine own_st (fun tq kq => XS.iadd X2.here hx rfl (hb hby dEQ_27) rfl kq) ?_
 show own_G p e below _ (T2.setTop (mkF m 28 #[vR r, vR ea, vI (Int32.ofNat A.length), vI (Int32.ofNat j)] [(.int ((Int32.ofNat j) + (2 : Int32))), (.int (Int32.ofNat A.length)), (.ref ea), (.ref r)]))
 rw [show Int32.ofNat j + (2 : Int32) = Int32.ofNat (j + 2) from (Int32.ofNat_add j 2).symm]
 show own_G p e below _ (T2.setTop (mkF m 28 #[vR r, vR ea, vI (Int32.ofNat A.length), vI (Int32.ofNat j)] [(.int (Int32.ofNat (j + 2))), (.int (Int32.ofNat A.length)), (.ref ea), (.ref r)]))
 obtain ⟨_, _, ⟨T3, L3, k3, n3⟩, -, X3, ⟨Lc3, hQ3, l3, y3, z3⟩, st3⟩ := Jvm.LawKit.callS X2 hx (y := mN52) hown (mvT hZ (wd207 hw)) (mvT hZ (wd208 hw)) (mvT hZ (wd2 hw)) (mvT hZ (wd209 hw)) (by decide) (own_backN (W := 0) (own_smC l Z a0 hw [] (r) (ea) (kr) (ke) (A) (zs) ((j + 2)) h0 n0 (by omega) (X00.keep K0 all0) Vr Ve hA (by omega)) hZ (wd209 hw) (wd2 hw) (by decide) (by decide)) (g := (mkF m 28 #[vR r, vR ea, vI (Int32.ofNat A.length), vI (Int32.ofNat j)] [(.int (Int32.ofNat (j + 2))), (.int (Int32.ofNat A.length)), (.ref ea), (.ref r)])) rfl (by rw [hml]; rfl) (argsL := [(.ref r), (.ref ea), (.int (Int32.ofNat A.length)), (.int (Int32.ofNat (j + 2)))]) (rest := []) (lenOf own_pd38 rfl) rfl (Nat.le_of_eq rfl) (hb hby dEQ_28) (fun _ _ => ⟨rfl, sm2, (by decide : 0 + 0 ≤ _), (by decide : 0 + 0 ≤ _)⟩)
 dsimp only [Pt.U, Pt.locs, Pt.cells, Pt.slots] at X3 l3 y3 z3 st3 hQ3
 subst l3 y3 z3
 obtain ⟨rfl, Nq3, sm3⟩ := hQ3
 have N3 := Fr.app N2 Nq3
 refine own_st st3 ?_
 refine own_st (fun tq kq => XS.ifNo X3.here hx rfl (hb hby dEQ_31) rfl ((if0 _ _).trans (feq (by decide : ¬ ((1 : Int32) = (0 : Int32)))).1) kq) ?_
 refine s_aloadN X3 hx (hb hby dEQ_34) rfl rfl ?_
 refine s_aloadN X3 hx (hb hby dEQ_35) rfl rfl ?_
 refine s_iloadN X3 hx (hb hby dEQ_36) rfl ?_
 refine s_iloadN X3 hx (hb hby dEQ_37) rfl ?_
 refine s_iconst X3 hx (hb hby dEQ_38) ?_
 refine own_st (fun tq kq => XS.iadd X3.here hx rfl (hb hby dEQ_39) rfl kq) ?_
 show own_G p e below _ (T3.setTop (mkF m 40 #[vR r, vR ea, vI (Int32.ofNat A.length), vI (Int32.ofNat j)] [(.int ((Int32.ofNat j) + (3 : Int32))), (.int (Int32.ofNat A.length)), (.ref ea), (.ref r)]))
 rw [show Int32.ofNat j + (3 : Int32) = Int32.ofNat (j + 3) from (Int32.ofNat_add j 3).symm]
 show own_G p e below _ (T3.setTop (mkF m 40 #[vR r, vR ea, vI (Int32.ofNat A.length), vI (Int32.ofNat j)] [(.int (Int32.ofNat (j + 3))), (.int (Int32.ofNat A.length)), (.ref ea), (.ref r)]))
 obtain ⟨_, _, ⟨T4, L4, k4, n4⟩, -, X4, ⟨Lc4, hQ4, l4, y4, z4⟩, st4⟩ := Jvm.LawKit.callS X3 hx (y := mN52) hown (mvT hZ (wd207 hw)) (mvT hZ (wd208 hw)) (mvT hZ (wd2 hw)) (mvT hZ (wd209 hw)) (by decide) (own_backN (W := 0) (own_smC l Z a0 hw [] (r) (ea) (kr) (ke) (A) (zs) ((j + 3)) h0 n0 (by omega) (X00.keep K0 all0) Vr Ve hA (by omega)) hZ (wd209 hw) (wd2 hw) (by decide) (by decide)) (g := (mkF m 40 #[vR r, vR ea, vI (Int32.ofNat A.length), vI (Int32.ofNat j)] [(.int (Int32.ofNat (j + 3))), (.int (Int32.ofNat A.length)), (.ref ea), (.ref r)])) rfl (by rw [hml]; rfl) (argsL := [(.ref r), (.ref ea), (.int (Int32.ofNat A.length)), (.int (Int32.ofNat (j + 3)))]) (rest := []) (lenOf own_pd38 rfl) rfl (Nat.le_of_eq rfl) (hb hby dEQ_40) (fun _ _ => ⟨rfl, sm3, (by decide : 0 + 0 ≤ _), (by decide : 0 + 0 ≤ _)⟩)
 dsimp only [Pt.U, Pt.locs, Pt.cells, Pt.slots] at X4 l4 y4 z4 st4 hQ4
 subst l4 y4 z4
 obtain ⟨rfl, Nq4, sm4⟩ := hQ4
 have N4 := Fr.app N3 Nq4
 refine own_st st4 ?_
 refine own_st (fun tq kq => XS.ifNo X4.here hx rfl (hb hby dEQ_43) rfl ((if0 _ _).trans (feq (by decide : ¬ ((1 : Int32) = (0 : Int32)))).1) kq) ?_
 refine s_aloadN X4 hx (hb hby dEQ_46) rfl rfl ?_
 refine s_aloadN X4 hx (hb hby dEQ_47) rfl rfl ?_
 refine s_iloadN X4 hx (hb hby dEQ_48) rfl ?_
 refine s_iloadN X4 hx (hb hby dEQ_49) rfl ?_
 refine s_iconst X4 hx (hb hby dEQ_50) ?_
 refine own_st (fun tq kq => XS.iadd X4.here hx rfl (hb hby dEQ_51) rfl kq) ?_
 show own_G p e below _ (T4.setTop (mkF m 52 #[vR r, vR ea, vI (Int32.ofNat A.length), vI (Int32.ofNat j)] [(.int ((Int32.ofNat j) + (4 : Int32))), (.int (Int32.ofNat A.length)), (.ref ea), (.ref r)]))
 rw [show Int32.ofNat j + (4 : Int32) = Int32.ofNat (j + 4) from (Int32.ofNat_add j 4).symm]
 show own_G p e below _ (T4.setTop (mkF m 52 #[vR r, vR ea, vI (Int32.ofNat A.length), vI (Int32.ofNat j)] [(.int (Int32.ofNat (j + 4))), (.int (Int32.ofNat A.length)), (.ref ea), (.ref r)]))
 obtain ⟨_, _, ⟨T5, L5, k5, n5⟩, -, X5, ⟨Lc5, hQ5, l5, y5, z5⟩, st5⟩ := Jvm.LawKit.callS X4 hx (y := mN52) hown (mvT hZ (wd207 hw)) (mvT hZ (wd208 hw)) (mvT hZ (wd2 hw)) (mvT hZ (wd209 hw)) (by decide) (own_backN (W := 0) (own_smC l Z a0 hw [] (r) (ea) (kr) (ke) (A) (zs) ((j + 4)) h0 n0 (by omega) (X00.keep K0 all0) Vr Ve hA (by omega)) hZ (wd209 hw) (wd2 hw) (by decide) (by decide)) (g := (mkF m 52 #[vR r, vR ea, vI (Int32.ofNat A.length), vI (Int32.ofNat j)] [(.int (Int32.ofNat (j + 4))), (.int (Int32.ofNat A.length)), (.ref ea), (.ref r)])) rfl (by rw [hml]; rfl) (argsL := [(.ref r), (.ref ea), (.int (Int32.ofNat A.length)), (.int (Int32.ofNat (j + 4)))]) (rest := []) (lenOf own_pd38 rfl) rfl (Nat.le_of_eq rfl) (hb hby dEQ_52) (fun _ _ => ⟨rfl, sm4, (by decide : 0 + 0 ≤ _), (by decide : 0 + 0 ≤ _)⟩)
 dsimp only [Pt.U, Pt.locs, Pt.cells, Pt.slots] at X5 l5 y5 z5 st5 hQ5
 subst l5 y5 z5
 obtain ⟨rfl, Nq5, sm5⟩ := hQ5
 have N5 := Fr.app N4 Nq5
 refine own_st st5 ?_
 refine own_st (fun tq kq => XS.ifNo X5.here hx rfl (hb hby dEQ_55) rfl ((if0 _ _).trans (feq (by decide : ¬ ((1 : Int32) = (0 : Int32)))).1) kq) ?_
 refine s_aloadN X5 hx (hb hby dEQ_58) rfl rfl ?_
 refine s_aloadN X5 hx (hb hby dEQ_59) rfl rfl ?_
 refine s_iloadN X5 hx (hb hby dEQ_60) rfl ?_
 refine s_iloadN X5 hx (hb hby dEQ_61) rfl ?_
 refine s_iconst X5 hx (hb hby dEQ_62) ?_
 refine own_st (fun tq kq => XS.iadd X5.here hx rfl (hb hby dEQ_63) rfl kq) ?_
 show own_G p e below _ (T5.setTop (mkF m 64 #[vR r, vR ea, vI (Int32.ofNat A.length), vI (Int32.ofNat j)] [(.int ((Int32.ofNat j) + (5 : Int32))), (.int (Int32.ofNat A.length)), (.ref ea), (.ref r)]))
 rw [show Int32.ofNat j + (5 : Int32) = Int32.ofNat (j + 5) from (Int32.ofNat_add j 5).symm]
 show own_G p e below _ (T5.setTop (mkF m 64 #[vR r, vR ea, vI (Int32.ofNat A.length), vI (Int32.ofNat j)] [(.int (Int32.ofNat (j + 5))), (.int (Int32.ofNat A.length)), (.ref ea), (.ref r)]))
 obtain ⟨_, _, ⟨T6, L6, k6, n6⟩, -, X6, ⟨Lc6, hQ6, l6, y6, z6⟩, st6⟩ := Jvm.LawKit.callS X5 hx (y := mN52) hown (mvT hZ (wd207 hw)) (mvT hZ (wd208 hw)) (mvT hZ (wd2 hw)) (mvT hZ (wd209 hw)) (by decide) (own_backN (W := 0) (own_smC l Z a0 hw [] (r) (ea) (kr) (ke) (A) (zs) ((j + 5)) h0 n0 (by omega) (X00.keep K0 all0) Vr Ve hA (by omega)) hZ (wd209 hw) (wd2 hw) (by decide) (by decide)) (g := (mkF m 64 #[vR r, vR ea, vI (Int32.ofNat A.length), vI (Int32.ofNat j)] [(.int (Int32.ofNat (j + 5))), (.int (Int32.ofNat A.length)), (.ref ea), (.ref r)])) rfl (by rw [hml]; rfl) (argsL := [(.ref r), (.ref ea), (.int (Int32.ofNat A.length)), (.int (Int32.ofNat (j + 5)))]) (rest := []) (lenOf own_pd38 rfl) rfl (Nat.le_of_eq rfl) (hb hby dEQ_64) (fun _ _ => ⟨rfl, sm5, (by decide : 0 + 0 ≤ _), (by decide : 0 + 0 ≤ _)⟩)
 dsimp only [Pt.U, Pt.locs, Pt.cells, Pt.slots] at X6 l6 y6 z6 st6 hQ6
 subst l6 y6 z6
 obtain ⟨rfl, Nq6, sm6⟩ := hQ6
 have N6 := Fr.app N5 Nq6
 refine own_st st6 ?_
 refine own_st (fun tq kq => XS.ifNo X6.here hx rfl (hb hby dEQ_67) rfl ((if0 _ _).trans (feq (by decide : ¬ ((1 : Int32) = (0 : Int32)))).1) kq) ?_
 refine s_aloadN X6 hx (hb hby dEQ_70) rfl rfl ?_
 refine s_aloadN X6 hx (hb hby dEQ_71) rfl rfl ?_
 refine s_iloadN X6 hx (hb hby dEQ_72) rfl ?_
 refine s_iloadN X6 hx (hb hby dEQ_73) rfl ?_
 refine s_bipush X6 hx (hb hby dEQ_74) ?_
 refine own_st (fun tq kq => XS.iadd X6.here hx rfl (hb hby dEQ_76) rfl kq) ?_
 show own_G p e below _ (T6.setTop (mkF m 77 #[vR r, vR ea, vI (Int32.ofNat A.length), vI (Int32.ofNat j)] [(.int ((Int32.ofNat j) + (6 : Int32))), (.int (Int32.ofNat A.length)), (.ref ea), (.ref r)]))
 rw [show Int32.ofNat j + (6 : Int32) = Int32.ofNat (j + 6) from (Int32.ofNat_add j 6).symm]
 show own_G p e below _ (T6.setTop (mkF m 77 #[vR r, vR ea, vI (Int32.ofNat A.length), vI (Int32.ofNat j)] [(.int (Int32.ofNat (j + 6))), (.int (Int32.ofNat A.length)), (.ref ea), (.ref r)]))
 obtain ⟨_, _, ⟨T7, L7, k7, n7⟩, -, X7, ⟨Lc7, hQ7, l7, y7, z7⟩, st7⟩ := Jvm.LawKit.callS X6 hx (y := mN52) hown (mvT hZ (wd207 hw)) (mvT hZ (wd208 hw)) (mvT hZ (wd2 hw)) (mvT hZ (wd209 hw)) (by decide) (own_backN (W := 0) (own_smC l Z a0 hw [] (r) (ea) (kr) (ke) (A) (zs) ((j + 6)) h0 n0 (by omega) (X00.keep K0 all0) Vr Ve hA (by omega)) hZ (wd209 hw) (wd2 hw) (by decide) (by decide)) (g := (mkF m 77 #[vR r, vR ea, vI (Int32.ofNat A.length), vI (Int32.ofNat j)] [(.int (Int32.ofNat (j + 6))), (.int (Int32.ofNat A.length)), (.ref ea), (.ref r)])) rfl (by rw [hml]; rfl) (argsL := [(.ref r), (.ref ea), (.int (Int32.ofNat A.length)), (.int (Int32.ofNat (j + 6)))]) (rest := []) (lenOf own_pd38 rfl) rfl (Nat.le_of_eq rfl) (hb hby dEQ_77) (fun _ _ => ⟨rfl, sm6, (by decide : 0 + 0 ≤ _), (by decide : 0 + 0 ≤ _)⟩)
 dsimp only [Pt.U, Pt.locs, Pt.cells, Pt.slots] at X7 l7 y7 z7 st7 hQ7
 subst l7 y7 z7
 obtain ⟨rfl, Nq7, sm7⟩ := hQ7
 have N7 := Fr.app N6 Nq7
 refine own_st st7 ?_
 refine own_st (fun tq kq => XS.ifNo X7.here hx rfl (hb hby dEQ_80) rfl ((if0 _ _).trans (feq (by decide : ¬ ((1 : Int32) = (0 : Int32)))).1) kq) ?_
 refine s_aloadN X7 hx (hb hby dEQ_83) rfl rfl ?_
 refine s_aloadN X7 hx (hb hby dEQ_84) rfl rfl ?_
 refine s_iloadN X7 hx (hb hby dEQ_85) rfl ?_
 refine s_iloadN X7 hx (hb hby dEQ_86) rfl ?_
 refine s_bipush X7 hx (hb hby dEQ_87) ?_
 refine own_st (fun tq kq => XS.iadd X7.here hx rfl (hb hby dEQ_89) rfl kq) ?_
 show own_G p e below _ (T7.setTop (mkF m 90 #[vR r, vR ea, vI (Int32.ofNat A.length), vI (Int32.ofNat j)] [(.int ((Int32.ofNat j) + (7 : Int32))), (.int (Int32.ofNat A.length)), (.ref ea), (.ref r)]))
 rw [show Int32.ofNat j + (7 : Int32) = Int32.ofNat (j + 7) from (Int32.ofNat_add j 7).symm]
 show own_G p e below _ (T7.setTop (mkF m 90 #[vR r, vR ea, vI (Int32.ofNat A.length), vI (Int32.ofNat j)] [(.int (Int32.ofNat (j + 7))), (.int (Int32.ofNat A.length)), (.ref ea), (.ref r)]))
 obtain ⟨_, _, ⟨T8, L8, k8, n8⟩, -, X8, ⟨Lc8, hQ8, l8, y8, z8⟩, st8⟩ := Jvm.LawKit.callS X7 hx (y := mN52) hown (mvT hZ (wd207 hw)) (mvT hZ (wd208 hw)) (mvT hZ (wd2 hw)) (mvT hZ (wd209 hw)) (by decide) (own_backN (W := 0) (own_smC l Z a0 hw [] (r) (ea) (kr) (ke) (A) (zs) ((j + 7)) h0 n0 (by omega) (X00.keep K0 all0) Vr Ve hA (by omega)) hZ (wd209 hw) (wd2 hw) (by decide) (by decide)) (g := (mkF m 90 #[vR r, vR ea, vI (Int32.ofNat A.length), vI (Int32.ofNat j)] [(.int (Int32.ofNat (j + 7))), (.int (Int32.ofNat A.length)), (.ref ea), (.ref r)])) rfl (by rw [hml]; rfl) (argsL := [(.ref r), (.ref ea), (.int (Int32.ofNat A.length)), (.int (Int32.ofNat (j + 7)))]) (rest := []) (lenOf own_pd38 rfl) rfl (Nat.le_of_eq rfl) (hb hby dEQ_90) (fun _ _ => ⟨rfl, sm7, (by decide : 0 + 0 ≤ _), (by decide : 0 + 0 ≤ _)⟩)
 dsimp only [Pt.U, Pt.locs, Pt.cells, Pt.slots] at X8 l8 y8 z8 st8 hQ8
 subst l8 y8 z8
 obtain ⟨rfl, Nq8, sm8⟩ := hQ8
 have N8 := Fr.app N7 Nq8
 refine own_st st8 ?_
 refine own_st (fun tq kq => XS.ifNo X8.here hx rfl (hb hby dEQ_93) rfl ((if0 _ _).trans (feq (by decide : ¬ ((1 : Int32) = (0 : Int32)))).1) kq) ?_
 refine s_aloadN X8 hx (hb hby dEQ_96) rfl rfl ?_
 refine s_aloadN X8 hx (hb hby dEQ_97) rfl rfl ?_
 refine s_iloadN X8 hx (hb hby dEQ_98) rfl ?_
 refine s_iloadN X8 hx (hb hby dEQ_99) rfl ?_
 refine s_bipush X8 hx (hb hby dEQ_100) ?_
 refine own_st (fun tq kq => XS.iadd X8.here hx rfl (hb hby dEQ_102) rfl kq) ?_
 show own_G p e below _ (T8.setTop (mkF m 103 #[vR r, vR ea, vI (Int32.ofNat A.length), vI (Int32.ofNat j)] [(.int ((Int32.ofNat j) + (8 : Int32))), (.int (Int32.ofNat A.length)), (.ref ea), (.ref r)]))
 rw [show Int32.ofNat j + (8 : Int32) = Int32.ofNat (j + 8) from (Int32.ofNat_add j 8).symm]
 show own_G p e below _ (T8.setTop (mkF m 103 #[vR r, vR ea, vI (Int32.ofNat A.length), vI (Int32.ofNat j)] [(.int (Int32.ofNat (j + 8))), (.int (Int32.ofNat A.length)), (.ref ea), (.ref r)]))
 obtain ⟨_, _, ⟨T9, L9, k9, n9⟩, -, X9, ⟨Lc9, hQ9, l9, y9, z9⟩, st9⟩ := Jvm.LawKit.callS X8 hx (y := mN52) hown (mvT hZ (wd207 hw)) (mvT hZ (wd208 hw)) (mvT hZ (wd2 hw)) (mvT hZ (wd209 hw)) (by decide) (own_backN (W := 0) (own_smC l Z a0 hw [] (r) (ea) (kr) (ke) (A) (zs) ((j + 8)) h0 n0 (by omega) (X00.keep K0 all0) Vr Ve hA (by omega)) hZ (wd209 hw) (wd2 hw) (by decide) (by decide)) (g := (mkF m 103 #[vR r, vR ea, vI (Int32.ofNat A.length), vI (Int32.ofNat j)] [(.int (Int32.ofNat (j + 8))), (.int (Int32.ofNat A.length)), (.ref ea), (.ref r)])) rfl (by rw [hml]; rfl) (argsL := [(.ref r), (.ref ea), (.int (Int32.ofNat A.length)), (.int (Int32.ofNat (j + 8)))]) (rest := []) (lenOf own_pd38 rfl) rfl (Nat.le_of_eq rfl) (hb hby dEQ_103) (fun _ _ => ⟨rfl, sm8, (by decide : 0 + 0 ≤ _), (by decide : 0 + 0 ≤ _)⟩)
 dsimp only [Pt.U, Pt.locs, Pt.cells, Pt.slots] at X9 l9 y9 z9 st9 hQ9
 subst l9 y9 z9
 obtain ⟨rfl, Nq9, sm9⟩ := hQ9
 have N9 := Fr.app N8 Nq9
 refine own_st st9 ?_
 refine own_st (fun tq kq => XS.ifNo X9.here hx rfl (hb hby dEQ_106) rfl ((if0 _ _).trans (feq (by decide : ¬ ((1 : Int32) = (0 : Int32)))).1) kq) ?_
 refine s_aloadN X9 hx (hb hby dEQ_109) rfl rfl ?_
 refine s_aloadN X9 hx (hb hby dEQ_110) rfl rfl ?_
 refine s_iloadN X9 hx (hb hby dEQ_111) rfl ?_
 refine s_iloadN X9 hx (hb hby dEQ_112) rfl ?_
 refine s_bipush X9 hx (hb hby dEQ_113) ?_
 refine own_st (fun tq kq => XS.iadd X9.here hx rfl (hb hby dEQ_115) rfl kq) ?_
 show own_G p e below _ (T9.setTop (mkF m 116 #[vR r, vR ea, vI (Int32.ofNat A.length), vI (Int32.ofNat j)] [(.int ((Int32.ofNat j) + (9 : Int32))), (.int (Int32.ofNat A.length)), (.ref ea), (.ref r)]))
 rw [show Int32.ofNat j + (9 : Int32) = Int32.ofNat (j + 9) from (Int32.ofNat_add j 9).symm]
 show own_G p e below _ (T9.setTop (mkF m 116 #[vR r, vR ea, vI (Int32.ofNat A.length), vI (Int32.ofNat j)] [(.int (Int32.ofNat (j + 9))), (.int (Int32.ofNat A.length)), (.ref ea), (.ref r)]))
 obtain ⟨_, _, ⟨T10, L10, k10, n10⟩, -, X10, ⟨Lc10, hQ10, l10, y10, z10⟩, st10⟩ := Jvm.LawKit.callS X9 hx (y := mN52) hown (mvT hZ (wd207 hw)) (mvT hZ (wd208 hw)) (mvT hZ (wd2 hw)) (mvT hZ (wd209 hw)) (by decide) (own_backN (W := 0) (own_smC l Z a0 hw [] (r) (ea) (kr) (ke) (A) (zs) ((j + 9)) h0 n0 (by omega) (X00.keep K0 all0) Vr Ve hA (by omega)) hZ (wd209 hw) (wd2 hw) (by decide) (by decide)) (g := (mkF m 116 #[vR r, vR ea, vI (Int32.ofNat A.length), vI (Int32.ofNat j)] [(.int (Int32.ofNat (j + 9))), (.int (Int32.ofNat A.length)), (.ref ea), (.ref r)])) rfl (by rw [hml]; rfl) (argsL := [(.ref r), (.ref ea), (.int (Int32.ofNat A.length)), (.int (Int32.ofNat (j + 9)))]) (rest := []) (lenOf own_pd38 rfl) rfl (Nat.le_of_eq rfl) (hb hby dEQ_116) (fun _ _ => ⟨rfl, sm9, (by decide : 0 + 0 ≤ _), (by decide : 0 + 0 ≤ _)⟩)
 dsimp only [Pt.U, Pt.locs, Pt.cells, Pt.slots] at X10 l10 y10 z10 st10 hQ10
 subst l10 y10 z10
 obtain ⟨rfl, Nq10, sm10⟩ := hQ10
 have N10 := Fr.app N9 Nq10
 refine own_st st10 ?_
 refine own_st (fun tq kq => XS.ifNo X10.here hx rfl (hb hby dEQ_119) rfl ((if0 _ _).trans (feq (by decide : ¬ ((1 : Int32) = (0 : Int32)))).1) kq) ?_
 refine s_iconst X10 hx (hb hby dEQ_122) ?_
 refine own_st (fun tq kq => XS.goto X10.here hx rfl (pc0 := 123) (pc' := 127) rfl (hb hby dEQ_123) (by decide) (by decide) kq) ?_
 show own_G p e below _ (T10.setTop (mkF m 127 #[vR r, vR ea, vI (Int32.ofNat A.length), vI (Int32.ofNat j)] [(.int 1)]))
 exact own_retN X10 (v := some (.int 1)) (fun h => by rw [Bd.returns] at h; cases h) Bd.notSynchronized (fun fs hr => retN X10 hx (z := (1 : Int32)) (t := .boolean) Bd.returns (by simp) (hb hby dEQ_127) hr) (by decide) (by decide) (by rw [sm10]; exact ⟨rfl, N10, rfl⟩)

def Q_rm0 (Z : State) (p0 p1 p2 p3 G1 : Int32) (u8 : Nat) (fm : Value) (h0 : Heap) (n0 : Nat) (v : Option Value) (_vm : Vm) (h : Heap) (L : List Loc) : Prop := v = some (.int (1 : Int32)) ∧ Fr n0 L
theorem ef_rm0 (m : MethodId) (x0 : Int32) (x1 : Int32) (x2 : Int32) (x3 : Int32) : entryFrame m #[(.int x0), (.int x1), (.int x2), (.int x3)] maxLocals = mkF m 0 #[.val (.int x0), .val (.int x1), .val (.int x2), .val (.int x3), .unset, .unset, .unset, .unset, .unset, .unset, .unset, .unset, .unset] [] := by first | (simp [entryFrame, mkF, argsToLocals, Value.category, maxLocals]; done) | rfl
theorem rm0 (l : Launch) (Z : State) (a0 : Array Value) (hw : hWt a0 Z) (hEL : EW Z a0 consts_1) (ws : List Jvm.Cond) (p0 p1 p2 p3 G1 : Int32) (u8 : Nat) (fm : Value) (h0 : Heap) (n0 : Nat) (Z0 : n0 ≤ h0.size) (X00 : Old Z n0 h0) (O5 : Sta Z Z.heap "java/nio/charset/StandardCharsets" "UTF_8" "Ljava/nio/charset/Charset;" (.ref u8)) (OI : Sta Z Z.heap "sun/nio/cs/UTF_8" "INSTANCE" "Lsun/nio/cs/UTF_8;" (.ref u8)) (O2 : Sta Z Z.heap "java/lang/String" "COMPACT_STRINGS" "Z" (.int G1)) (P5 : ¬ (G1 = (0 : Int32))) (OA : oA Z) (OH : oH Z) (OL : oL Z) (O4 : o4 Z fm) (rfm : fm.isRef = true) :
    MetFree l x (head1 (Jvm.Cond.code x code maxLocals ret :: ws) room_1) (own_P Z consts_1 #[(.int p0), (.int p1), (.int p2), (.int p3)] h0 []) (fun _ _ _ _ _ => True) (own_E Z consts_1 (Q_rm0 Z p0 p1 p2 p3 G1 u8 fm h0 n0) room_1) := by
 refine MetFree.of_bodySF (plainFor_of_name own_pn13) hisR ?_
 intro p e s m args below meth c s₁ Bd hml0 hP hK
 obtain ⟨rfl, hZ, hh, hCH, hSafe⟩ := hP
 have hx := Bd.exec
 have hby := Bd.bytes
 have hml : c.maxLocals = 13 := hml0
 have hown : s.vm.findClass "com/example/sieveline/sieveline/server/NotificationStreamMatchFramePinLaw" = some m.cls := findClass_of_methodNamed Bd.named
 have X0 : Stand p l e room_1 (s.setVm s.vm) m #[(.int p0), (.int p1), (.int p2), (.int p3)] below meth c s₁ [] 0 0 := Stand.of_body Bd
 have e0 : s₁.heap = h0 := by rw [← hh, Bd.state]; rfl
 have N0 := Fr.nil n0
 have K0 : Keep h0 h0 [] := Keep.refl h0 []
 have S0 : s.Since s.vm 0 := own_since s
 have C0 : CHr Z consts_1 s.vm h0 s.vm h0 := CHr.refl hCH
 refine show own_G p e below (own_E Z consts_1 (Q_rm0 Z p0 p1 p2 p3 G1 u8 fm h0 n0) room_1 #[(.int p0), (.int p1), (.int p2), (.int p3)] s) _ from ?_
 have fin : ∀ (T : State) (h : Heap) (Lc : List Loc) (bq ea : Nat) (v4 w0 w1 w2 : Int32) (kC ke : ClassId) (dC : Value) (us P : List Int32), Stand p l e room_1 (s.setVm s.vm) m #[(.int p0), (.int p1), (.int p2), (.int p3)] below meth c T Lc 2 33 → T.heap = h → Fr n0 Lc → Keep h0 h [] → CHr Z consts_1 s.vm h0 s.vm h → bq < h.size → h0.size ≤ ea → ea < h.size → bq ≠ ea → Safe Z consts_1 s.vm h ea → Arv Z h bq kC .char (Int32.ofNat us.length) (us.map Value.int) dC → Arv Z h ea ke .byte (30 : Int32) (P.map Value.int ++ List.replicate (30 - P.length) (.int 0)) (.int 0) → us.length ≤ 3 → (∀ c ∈ us, own_dr c) → P = own_hdr ++ own_u8 us → own_G p e below (own_E Z consts_1 (Q_rm0 Z p0 p1 p2 p3 G1 u8 fm h0 n0) room_1 #[(.int p0), (.int p1), (.int p2), (.int p3)] s) (T.setTop (mkF m 290 #[vI p0, vI p1, vI p2, vI p3, vI v4, vI w0, vI w1, vI w2, vR bq, vR ea, vI (Int32.ofNat P.length), .unset, .unset] [])) := by
  intro T h Lc bq ea v4 w0 w1 w2 kC ke dC us P Xl el Nl Kl Cl lb ge_ le_ nbe_ Se Vb Ve hu3 hD hP
  have nbe_ := own_ne nbe_
  have szl : h0.size ≤ h.size := Kl.1
  have hPl : P.length ≤ 28 := by have := own_u8_len us; rw [hP, List.length_append]; show 19 + _ ≤ _; omega
  have hA : own_u8 ((own_hdr ++ us) ++ own_lf) = ((P ++ [(10 : Int32)]) ++ [(10 : Int32)]) := by rw [own_u8_app, own_u8_app, own_u8hdr, own_u8lf, hP]; simp only [List.append_assoc, List.cons_append, List.nil_append]
  show own_G p e below _ (T.setTop (mkF m 290 #[vI p0, vI p1, vI p2, vI p3, vI v4, vI w0, vI w1, vI w2, vR bq, vR ea, vI (Int32.ofNat P.length), .unset, .unset] []))
  refine own_st (fun tq kq => XS.aload Xl.here hx rfl (hb hby at_290) rfl rfl kq) ?_
  refine own_st (fun tq kq => XS.iload Xl.here hx rfl (hb hby at_292) rfl  kq) ?_
  refine own_st (fun tq kq => XS.bipush Xl.here hx rfl (hb hby at_294) kq) ?_
  obtain ⟨cl1, Ar1, q1, S_1, N_1, H_1, G_1⟩ := id Ve
  have in1 : ¬ ((Int32.ofNat P.length) < 0 ∨ cl1.slots.size ≤ ((Int32.ofNat P.length)).toNatClampNeg) := inb_of S_1 ⟨(own_n0 (by omega)), (own_ilt (n := 30) (by omega) (by omega))⟩
  obtain ⟨T1, h1, X1, e1, W1, st1⟩ := stB Xl hx hZ el Ar1 (j := (Int32.ofNat P.length)) in1 (g := (mkF m 296 #[vI p0, vI p1, vI p2, vI p3, vI v4, vI w0, vI w1, vI w2, vR bq, vR ea, vI (Int32.ofNat P.length), .unset, .unset] [(.int 10), (.int (Int32.ofNat P.length)), (.ref ea)])) rfl rfl (hb hby at_296)
  have V1 := Arv.set Ar1 q1 S_1 N_1 H_1 G_1 (fits_nar_byte _) W1 P.length (by rw [own_n32 (by omega)]) (by simp only [List.length_append, List.length_cons, List.length_nil, List.length_map, List.length_replicate]; omega)
  have sz1 : h.size ≤ h1.size := (Keep.of_wr W1).1
  have K1 : Keep h0 h1 [] := Kl.wr W1 (Or.inr (own_le (by omega)))
  have c1 : CHr Z consts_1 s.vm h s.vm h1 := CHr.wr W1 Se Cl.1
  have C1 := Cl.trans c1
  have Sf1_2 := c1.safe (own_lt (by omega)) Se
  have N1 := Fr.snoc X1 Nl (own_le (by omega))
  first | rw [show (10 : Int32).toInt8.toInt32 = (10 : Int32) from rfl] at V1 | rw [show nar .byte (10 : Int32) = (10 : Int32) from rfl] at V1
  rw [own_pushv (by omega)] at V1
  refine own_st st1 ?_
  refine s_aload X1 hx (hb hby at_297) rfl rfl ?_
  refine s_iload X1 hx (hb hby at_299) rfl ?_
  refine s_iconst X1 hx (hb hby at_301) ?_
  refine own_st (fun tq kq => XS.iadd X1.here hx rfl (hb hby at_302) rfl kq) ?_
  show own_G p e below _ (T1.setTop (mkF m 303 #[vI p0, vI p1, vI p2, vI p3, vI v4, vI w0, vI w1, vI w2, vR bq, vR ea, vI (Int32.ofNat P.length), .unset, .unset] [(.int ((Int32.ofNat P.length) + (1 : Int32))), (.ref ea)]))
  rw [own_add1 P.length]
  show own_G p e below _ (T1.setTop (mkF m 303 #[vI p0, vI p1, vI p2, vI p3, vI v4, vI w0, vI w1, vI w2, vR bq, vR ea, vI (Int32.ofNat P.length), .unset, .unset] [(.int (Int32.ofNat (P.length + 1))), (.ref ea)]))
  refine s_bipush X1 hx (hb hby at_303) ?_
  obtain ⟨cl3, Ar3, q3, S_3, N_3, H_3, G_3⟩ := id V1
  have in3 : ¬ ((Int32.ofNat (P.length + 1)) < 0 ∨ cl3.slots.size ≤ ((Int32.ofNat (P.length + 1))).toNatClampNeg) := inb_of S_3 ⟨(own_n0 (by omega)), (own_ilt (n := 30) (by omega) (by omega))⟩
  obtain ⟨T3, h3, X3, e3, W3, st3⟩ := stB X1 hx hZ e1 Ar3 (j := (Int32.ofNat (P.length + 1))) in3 (g := (mkF m 305 #[vI p0, vI p1, vI p2, vI p3, vI v4, vI w0, vI w1, vI w2, vR bq, vR ea, vI (Int32.ofNat P.length), .unset, .unset] [(.int 10), (.int (Int32.ofNat (P.length + 1))), (.ref ea)])) rfl rfl (hb hby at_305)
  have V3 := Arv.set Ar3 q3 S_3 N_3 H_3 G_3 (fits_nar_byte _) W3 (P ++ [(10 : Int32)]).length (by rw [own_n32 (by omega)]; simp) (by simp only [List.length_append, List.length_cons, List.length_nil, List.length_map, List.length_replicate]; omega)
  have sz3 : h1.size ≤ h3.size := (Keep.of_wr W3).1
  have K3 : Keep h0 h3 [] := K1.wr W3 (Or.inr (own_le (by omega)))
  have c3 : CHr Z consts_1 s.vm h1 s.vm h3 := CHr.wr W3 Sf1_2 C1.1
  have C3 := C1.trans c3
  have Sf3_4 := c3.safe (own_lt (by omega)) Sf1_2
  have N3 := Fr.snoc X3 N1 (own_le (by omega))
  first | rw [show (10 : Int32).toInt8.toInt32 = (10 : Int32) from rfl] at V3 | rw [show nar .byte (10 : Int32) = (10 : Int32) from rfl] at V3
  rw [own_pushv (by simp only [List.length_append, List.length_cons, List.length_nil]; omega)] at V3
  refine own_st st3 ?_
  refine s_iload X3 hx (hb hby at_306) rfl ?_
  refine s_iconst X3 hx (hb hby at_308) ?_
  refine own_st (fun tq kq => XS.iadd X3.here hx rfl (hb hby at_309) rfl kq) ?_
  show own_G p e below _ (T3.setTop (mkF m 310 #[vI p0, vI p1, vI p2, vI p3, vI v4, vI w0, vI w1, vI w2, vR bq, vR ea, vI (Int32.ofNat P.length), .unset, .unset] [(.int ((Int32.ofNat P.length) + (2 : Int32)))]))
  rw [own_add2 P.length, show P.length + 2 = ((P ++ [(10 : Int32)]) ++ [(10 : Int32)]).length by simp]
  show own_G p e below _ (T3.setTop (mkF m 310 #[vI p0, vI p1, vI p2, vI p3, vI v4, vI w0, vI w1, vI w2, vR bq, vR ea, vI (Int32.ofNat P.length), .unset, .unset] [(.int (Int32.ofNat ((P ++ [(10 : Int32)]) ++ [(10 : Int32)]).length))]))
  refine own_st (fun tq kq => XS.istore X3.here hx rfl (hb hby at_310) rfl (l' := #[vI p0, vI p1, vI p2, vI p3, vI v4, vI w0, vI w1, vI w2, vR bq, vR ea, vI (Int32.ofNat P.length), vI (Int32.ofNat ((P ++ [(10 : Int32)]) ++ [(10 : Int32)]).length), .unset]) rfl kq) ?_
  obtain ⟨T5, h5, X5, e5, E5, A5, D5, -, st5⟩ := newO X3 hx hZ hown (wd10 hw) (wd11 hw) (wd12 hw) e3 (g := (mkF m 312 #[vI p0, vI p1, vI p2, vI p3, vI v4, vI w0, vI w1, vI w2, vR bq, vR ea, vI (Int32.ofNat P.length), vI (Int32.ofNat ((P ++ [(10 : Int32)]) ++ [(10 : Int32)]).length), .unset] [])) rfl (hb hby at_312) (by decide) (by decide)
  obtain ⟨b5, g5⟩ : ∃ z, z = h3.size := ⟨_, rfl⟩
  rw [← g5] at A5 D5 st5
  have lt5 : b5 < h5.size := A5.lt
  have Sn5 : Safe Z consts_1 s.vm h3 b5 := Safe.new (own_le (by omega))
  have sz5 : h3.size ≤ h5.size := E5.1
  have K5 : Keep h0 h5 [] := K3.ext E5
  have c5 : CHr Z consts_1 s.vm h3 s.vm h5 := CHr.ext E5 C3.1
  have C5 := C3.trans c5
  have Sf5_6 := c5.safe (own_lt (by omega)) Sf3_4
  have Sf5 : Safe Z consts_1 s.vm h5 b5 := Safe.ext E5 C3.1 Sn5
  have F5_coder : Fld Z h5 b5 "java/lang/String" "coder" "B" (.int 0) := D5 (Or.inr (wd35 hw)) (ty := .byte) (by decide)
  have F5_value : Fld Z h5 b5 "java/lang/String" "value" "[B" .null := D5 (Or.inr (wd37 hw)) (ty := (.array .byte)) (by decide)
  refine own_st st5 ?_
  refine own_st (fun tq kq => XS.dup X5.here hx rfl (hb hby at_315) rfl rfl kq) ?_
  refine s_aload X5 hx (hb hby at_316) rfl rfl ?_
  obtain ⟨_, _, ⟨T7, L7, k7, n7⟩, -, Y7, S7p, gr7, ⟨Lc7, hQ7, l7, y7, z7, c7⟩, st7⟩ := X5.specialBackS hx (y := mN1) rfl hown (mvT hZ (wd13 hw)) (mvT hZ (wd14 hw)) (mvT hZ (wd15 hw)) (by decide) (own_newU (s := s) (vm0 := s.vm) (W := 1) hZ hw hEL C5.1 (n0 := n0) Sf5 (own_le (by omega)) (X00.keep K5 all0) A5 F5_value F5_coder (((Vb.other W1 (own_ne (by omega))).other W3 (own_ne (by omega))).ext E5) O2 P5 OA OH OL (fun c hc => (hD c hc).1) (by omega) (by decide) (by decide)) (g := (mkF m 318 #[vI p0, vI p1, vI p2, vI p3, vI v4, vI w0, vI w1, vI w2, vR bq, vR ea, vI (Int32.ofNat P.length), vI (Int32.ofNat ((P ++ [(10 : Int32)]) ++ [(10 : Int32)]).length), .unset] [(.ref bq), (.ref b5), (.ref b5)])) rfl (by rw [hml]; rfl) (Steps.refl _) (a := b5) (argsL := [(.ref bq)]) (rest := [(.ref b5)]) (lenOf own_pd39 rfl) rfl (Nat.le_of_eq rfl) (hb hby at_318) (fun _ _ => ⟨rfl, e5, (by decide : 3 + 2 ≤ _), (by decide : 37 + 106 ≤ _)⟩)
  dsimp only [Pt.U, Pt.locs, Pt.cells, Pt.slots] at Y7 S7p gr7 l7 y7 z7 st7 hQ7 c7
  subst l7 y7 z7
  obtain ⟨X7, S7, Z7, o7⟩ := rebS S0 (by rw [e5]; exact (own_le (by omega))) Y7 S7p gr7 hZ hown
  obtain ⟨rfl, Nq7, Kq7, Su7⟩ := hQ7
  have KK7 : Keep h5 T7.heap [b5] := Kq7
  have sz7 : h5.size ≤ T7.heap.size := KK7.1
  have K7 : Keep h0 T7.heap [] := K5.trans KK7 (allS (Or.inr (own_le (by omega))) all0)
  have C7 := C5.trans c7
  have Sf7_8 := c7.safe (own_lt (by omega)) Sf5_6
  have Sf7_9 := c7.safe (own_lt (by omega)) Sf5
  have N7 := Fr.app N3 Nq7
  refine own_st (fun tq kq => st7.trans kq) ?_
  obtain ⟨_, _, ⟨T10, L10, k10, n10⟩, -, Y10, S10p, gr10, ⟨Lc10, hQ10, l10, y10, z10, c10⟩, st10⟩ := callSS X7 hx (y := mN49) o7 (mvT Z7 (wd38 hw)) (mvT Z7 (wd39 hw)) (mvT Z7 (wd40 hw)) (mvT Z7 (wd41 hw)) (by decide) (own_back (s := s) (vm0 := T7.vm) (W := 0) (own_mf l Z a0 hw hEL [] (b5) (T7.heap.size) (u8) (us) (G1) (fm) T7.heap n0 (by omega) (X00.keep K7 all0) Su7 (Nat.le_refl _) hu3 (fun c hc => (hD c hc).2) O5 OI O2 P5 OA OH OL O4 rfm) Z7 (wd41 hw) (wd40 hw) (by decide) (by decide) hEL C7.1 all0) (g := (mkF m 321 #[vI p0, vI p1, vI p2, vI p3, vI v4, vI w0, vI w1, vI w2, vR bq, vR ea, vI (Int32.ofNat P.length), vI (Int32.ofNat ((P ++ [(10 : Int32)]) ++ [(10 : Int32)]).length), .unset] [(.ref b5)])) rfl (by rw [hml]; rfl) (argsL := [(.ref b5)]) (rest := []) (lenOf own_pd40 rfl) rfl (Nat.le_of_eq rfl) (hb hby at_321) (fun _ _ => ⟨rfl, rfl, (by decide : 5 + 14 ≤ _), (by decide : 143 + 700 ≤ _)⟩)
  dsimp only [Pt.U, Pt.locs, Pt.cells, Pt.slots] at Y10 S10p gr10 l10 y10 z10 st10 hQ10 c10
  subst l10 y10 z10
  obtain ⟨X10, S10, Z10, o10⟩ := rebS S7 (own_le (by omega)) Y10 S10p gr10 Z7 o7
  obtain ⟨r10, kr10, rfl, Nq10, Kq10, gr10, lr10, Vr10⟩ := hQ10
  have KK10 : Keep T7.heap T10.heap [] := Kq10
  have sz10 : T7.heap.size ≤ T10.heap.size := KK10.1
  have K10 : Keep h0 T10.heap [] := K7.trans KK10 all0
  have C10 := C7.trans c10
  have Sf10_11 := c10.safe (own_lt (by omega)) Sf7_8
  have Sf10_12 := c10.safe (own_lt (by omega)) Sf7_9
  have N10 := Fr.app N7 Nq10
  rw [hA] at Vr10
  refine own_st (fun tq kq => st10.trans kq) ?_
  refine own_st (fun tq kq => XS.astore X10.here hx rfl (hb hby at_324) rfl rfl (l' := #[vI p0, vI p1, vI p2, vI p3, vI v4, vI w0, vI w1, vI w2, vR bq, vR ea, vI (Int32.ofNat P.length), vI (Int32.ofNat ((P ++ [(10 : Int32)]) ++ [(10 : Int32)]).length), vR r10]) rfl kq) ?_
  refine s_aload X10 hx (hb hby at_326) rfl rfl ?_
  show own_G p e below _ (T10.setTop (mkF m 328 #[vI p0, vI p1, vI p2, vI p3, vI v4, vI w0, vI w1, vI w2, vR bq, vR ea, vI (Int32.ofNat P.length), vI (Int32.ofNat ((P ++ [(10 : Int32)]) ++ [(10 : Int32)]).length), vR r10] [(.ref r10)]))
  refine own_st (fun tq kq => XS.ifnullNo X10.here hx rfl (hb hby at_328) rfl kq) ?_
  refine s_aload X10 hx (hb hby at_331) rfl rfl ?_
  obtain ⟨cl13, Ar13, q13, S_13, N_13, H_13, G_13⟩ := id Vr10
  refine own_st (fun tq kq => X10.arraylength hx Ar13.1 (State.isArrayOf_alike Z10.alike Ar13.2.1) (g := (mkF m 333 #[vI p0, vI p1, vI p2, vI p3, vI v4, vI w0, vI w1, vI w2, vR bq, vR ea, vI (Int32.ofNat P.length), vI (Int32.ofNat ((P ++ [(10 : Int32)]) ++ [(10 : Int32)]).length), vR r10] [(.ref r10)])) rfl rfl (hb hby at_333) _ kq) ?_
  rw [len_of S_13 N_13]
  show own_G p e below _ (T10.setTop (mkF m 334 #[vI p0, vI p1, vI p2, vI p3, vI v4, vI w0, vI w1, vI w2, vR bq, vR ea, vI (Int32.ofNat P.length), vI (Int32.ofNat ((P ++ [(10 : Int32)]) ++ [(10 : Int32)]).length), vR r10] [(.int (Int32.ofNat ((P ++ [(10 : Int32)]) ++ [(10 : Int32)]).length))]))
  refine s_iload X10 hx (hb hby at_334) rfl ?_
  show own_G p e below _ (T10.setTop (mkF m 336 #[vI p0, vI p1, vI p2, vI p3, vI v4, vI w0, vI w1, vI w2, vR bq, vR ea, vI (Int32.ofNat P.length), vI (Int32.ofNat ((P ++ [(10 : Int32)]) ++ [(10 : Int32)]).length), vR r10] [(.int (Int32.ofNat ((P ++ [(10 : Int32)]) ++ [(10 : Int32)]).length)), (.int (Int32.ofNat ((P ++ [(10 : Int32)]) ++ [(10 : Int32)]).length))]))
  refine own_st (fun tq kq => XS.icmpNo X10.here hx rfl (hb hby at_336) rfl (teq (rfl : ((Int32.ofNat ((P ++ [(10 : Int32)]) ++ [(10 : Int32)]).length) = (Int32.ofNat ((P ++ [(10 : Int32)]) ++ [(10 : Int32)]).length)))).2 kq) ?_
  refine s_aload X10 hx (hb hby at_339) rfl rfl ?_
  refine s_aload X10 hx (hb hby at_341) rfl rfl ?_
  refine s_iload X10 hx (hb hby at_343) rfl ?_
  refine s_iconst X10 hx (hb hby at_345) ?_
  obtain ⟨_, _, ⟨T14, L14, k14, n14⟩, -, X14, ⟨Lc14, hQ14, l14, y14, z14⟩, st14⟩ := Jvm.LawKit.callS X10 hx (y := mN53) o10 (mvT Z10 (wd204 hw)) (mvT Z10 (wd205 hw)) (mvT Z10 (wd2 hw)) (mvT Z10 (wd206 hw)) (by decide) (own_backN (W := 0) (own_eqC l Z a0 hw [] (r10) (ea) (_) (_) (((P ++ [(10 : Int32)]) ++ [(10 : Int32)])) (_) (0) T10.heap n0 (by omega) (X00.keep K10 all0) Vr10 (((V3.ext E5).keep KK7 (ninS (own_ne (by omega)) nin0)).keep KK10 nin0) (by simp only [List.length_append, List.length_cons, List.length_nil]; omega) (by decide)) Z10 (wd206 hw) (wd2 hw) (by decide) (by decide)) (g := (mkF m 346 #[vI p0, vI p1, vI p2, vI p3, vI v4, vI w0, vI w1, vI w2, vR bq, vR ea, vI (Int32.ofNat P.length), vI (Int32.ofNat ((P ++ [(10 : Int32)]) ++ [(10 : Int32)]).length), vR r10] [(.int 0), (.int (Int32.ofNat ((P ++ [(10 : Int32)]) ++ [(10 : Int32)]).length)), (.ref ea), (.ref r10)])) rfl (by rw [hml]; rfl) (argsL := [(.ref r10), (.ref ea), (.int (Int32.ofNat ((P ++ [(10 : Int32)]) ++ [(10 : Int32)]).length)), (.int 0)]) (rest := []) (lenOf own_pd38 rfl) rfl (Nat.le_of_eq rfl) (hb hby at_346) (fun _ _ => ⟨rfl, rfl, (by decide : 19 + 0 ≤ _), (by decide : 843 + 0 ≤ _)⟩)
  dsimp only [Pt.U, Pt.locs, Pt.cells, Pt.slots] at X14 l14 y14 z14 st14 hQ14
  subst l14 y14 z14
  obtain ⟨rfl, Nq14, sm14⟩ := hQ14
  have N14 := Fr.app N10 Nq14
  refine own_st st14 ?_
  refine own_st (fun tq kq => XS.ifNo X14.here hx rfl (hb hby at_349) rfl ((if0 _ _).trans (feq (by decide : ¬ ((1 : Int32) = (0 : Int32)))).1) kq) ?_
  refine s_aload X14 hx (hb hby at_352) rfl rfl ?_
  refine s_aload X14 hx (hb hby at_354) rfl rfl ?_
  refine s_iload X14 hx (hb hby at_356) rfl ?_
  refine s_bipush X14 hx (hb hby at_358) ?_
  obtain ⟨_, _, ⟨T15, L15, k15, n15⟩, -, X15, ⟨Lc15, hQ15, l15, y15, z15⟩, st15⟩ := Jvm.LawKit.callS X14 hx (y := mN53) o10 (mvT Z10 (wd204 hw)) (mvT Z10 (wd205 hw)) (mvT Z10 (wd2 hw)) (mvT Z10 (wd206 hw)) (by decide) (own_backN (W := 0) (own_eqC l Z a0 hw [] (r10) (ea) (_) (_) (((P ++ [(10 : Int32)]) ++ [(10 : Int32)])) (_) (10) T10.heap n0 (by omega) (X00.keep K10 all0) Vr10 (((V3.ext E5).keep KK7 (ninS (own_ne (by omega)) nin0)).keep KK10 nin0) (by simp only [List.length_append, List.length_cons, List.length_nil]; omega) (by decide)) Z10 (wd206 hw) (wd2 hw) (by decide) (by decide)) (g := (mkF m 360 #[vI p0, vI p1, vI p2, vI p3, vI v4, vI w0, vI w1, vI w2, vR bq, vR ea, vI (Int32.ofNat P.length), vI (Int32.ofNat ((P ++ [(10 : Int32)]) ++ [(10 : Int32)]).length), vR r10] [(.int 10), (.int (Int32.ofNat ((P ++ [(10 : Int32)]) ++ [(10 : Int32)]).length)), (.ref ea), (.ref r10)])) rfl (by rw [hml]; rfl) (argsL := [(.ref r10), (.ref ea), (.int (Int32.ofNat ((P ++ [(10 : Int32)]) ++ [(10 : Int32)]).length)), (.int 10)]) (rest := []) (lenOf own_pd38 rfl) rfl (Nat.le_of_eq rfl) (hb hby at_360) (fun _ _ => ⟨rfl, sm14, (by decide : 19 + 0 ≤ _), (by decide : 843 + 0 ≤ _)⟩)
  dsimp only [Pt.U, Pt.locs, Pt.cells, Pt.slots] at X15 l15 y15 z15 st15 hQ15
  subst l15 y15 z15
  obtain ⟨rfl, Nq15, sm15⟩ := hQ15
  have N15 := Fr.app N14 Nq15
  refine own_st st15 ?_
  refine own_st (fun tq kq => XS.ifNo X15.here hx rfl (hb hby at_363) rfl ((if0 _ _).trans (feq (by decide : ¬ ((1 : Int32) = (0 : Int32)))).1) kq) ?_
  refine s_aload X15 hx (hb hby at_366) rfl rfl ?_
  refine s_aload X15 hx (hb hby at_368) rfl rfl ?_
  refine s_iload X15 hx (hb hby at_370) rfl ?_
  refine s_bipush X15 hx (hb hby at_372) ?_
  obtain ⟨_, _, ⟨T16, L16, k16, n16⟩, -, X16, ⟨Lc16, hQ16, l16, y16, z16⟩, st16⟩ := Jvm.LawKit.callS X15 hx (y := mN53) o10 (mvT Z10 (wd204 hw)) (mvT Z10 (wd205 hw)) (mvT Z10 (wd2 hw)) (mvT Z10 (wd206 hw)) (by decide) (own_backN (W := 0) (own_eqC l Z a0 hw [] (r10) (ea) (_) (_) (((P ++ [(10 : Int32)]) ++ [(10 : Int32)])) (_) (20) T10.heap n0 (by omega) (X00.keep K10 all0) Vr10 (((V3.ext E5).keep KK7 (ninS (own_ne (by omega)) nin0)).keep KK10 nin0) (by simp only [List.length_append, List.length_cons, List.length_nil]; omega) (by decide)) Z10 (wd206 hw) (wd2 hw) (by decide) (by decide)) (g := (mkF m 374 #[vI p0, vI p1, vI p2, vI p3, vI v4, vI w0, vI w1, vI w2, vR bq, vR ea, vI (Int32.ofNat P.length), vI (Int32.ofNat ((P ++ [(10 : Int32)]) ++ [(10 : Int32)]).length), vR r10] [(.int 20), (.int (Int32.ofNat ((P ++ [(10 : Int32)]) ++ [(10 : Int32)]).length)), (.ref ea), (.ref r10)])) rfl (by rw [hml]; rfl) (argsL := [(.ref r10), (.ref ea), (.int (Int32.ofNat ((P ++ [(10 : Int32)]) ++ [(10 : Int32)]).length)), (.int 20)]) (rest := []) (lenOf own_pd38 rfl) rfl (Nat.le_of_eq rfl) (hb hby at_374) (fun _ _ => ⟨rfl, sm15, (by decide : 19 + 0 ≤ _), (by decide : 843 + 0 ≤ _)⟩)
  dsimp only [Pt.U, Pt.locs, Pt.cells, Pt.slots] at X16 l16 y16 z16 st16 hQ16
  subst l16 y16 z16
  obtain ⟨rfl, Nq16, sm16⟩ := hQ16
  have N16 := Fr.app N15 Nq16
  refine own_st st16 ?_
  refine own_st (fun tq kq => XS.ifNo X16.here hx rfl (hb hby at_377) rfl ((if0 _ _).trans (feq (by decide : ¬ ((1 : Int32) = (0 : Int32)))).1) kq) ?_
  refine s_iconst X16 hx (hb hby at_380) ?_
  refine own_st (fun tq kq => XS.goto X16.here hx rfl (pc0 := 381) (pc' := 385) rfl (hb hby at_381) (by decide) (by decide) kq) ?_
  show own_G p e below _ (T16.setTop (mkF m 385 #[vI p0, vI p1, vI p2, vI p3, vI v4, vI w0, vI w1, vI w2, vR bq, vR ea, vI (Int32.ofNat P.length), vI (Int32.ofNat ((P ++ [(10 : Int32)]) ++ [(10 : Int32)]).length), vR r10] [(.int 1)]))
  obtain ⟨fs, hr, hrun, hended, hRW⟩ := X16.leaveW S10 (by rw [sm16]; exact (own_le (by omega))) (v := some (.int 1)) (fun h => by rw [Bd.returns] at h; cases h)
  have cE := C10.trans (CHv.at (s := s) (vm0 := T10.vm) X16 Z10 hEL C10.1)
  refine ⟨_, _, retN X16 hx (z := (1 : Int32)) (t := .boolean) Bd.returns (by simp) (hb hby at_385) hr, hrun, hended, _, _, rfl, ?_, ?_, own_RW hRW (by decide) (by decide)⟩
  · change Q_rm0 Z p0 p1 p2 p3 G1 u8 fm h0 n0 _ T16.vm T16.heap _; rw [sm16]; exact ⟨rfl, N16⟩
  · rw [hh]; change CHr Z consts_1 s.vm h0 T16.vm T16.heap; rw [sm16]; exact cE
 have build : ∀ (T : State) (h : Heap) (Lc : List Loc) (bq : Nat) (v4 w0 w1 w2 : Int32) (kC : ClassId) (zC : Int32) (vC : List Value) (dC : Value), Stand p l e room_1 (s.setVm s.vm) m #[(.int p0), (.int p1), (.int p2), (.int p3)] below meth c T Lc 1 3 → T.heap = h → Fr n0 Lc → Keep h0 h [] → CHr Z consts_1 s.vm h0 s.vm h → bq < h.size → Arv Z h bq kC .char zC vC dC → (∀ (T2 : State) (h2 : Heap) (L2 : List Loc) (ea : Nat) (ke : ClassId), Stand p l e room_1 (s.setVm s.vm) m #[(.int p0), (.int p1), (.int p2), (.int p3)] below meth c T2 L2 2 33 → T2.heap = h2 → Fr n0 L2 → Keep h0 h2 [] → CHr Z consts_1 s.vm h0 s.vm h2 → h.size ≤ ea → ea < h2.size → Safe Z consts_1 s.vm h2 ea → Arv Z h2 bq kC .char zC vC dC → Arv Z h2 ea ke .byte (30 : Int32) (own_hdr.map Value.int ++ List.replicate (30 - own_hdr.length) (.int 0)) (.int 0) → own_G p e below (own_E Z consts_1 (Q_rm0 Z p0 p1 p2 p3 G1 u8 fm h0 n0) room_1 #[(.int p0), (.int p1), (.int p2), (.int p3)] s) (T2.setTop (mkF m 240 #[vI p0, vI p1, vI p2, vI p3, vI v4, vI w0, vI w1, vI w2, vR bq, vR ea, vI 19, .unset, .unset] []))) → own_G p e below (own_E Z consts_1 (Q_rm0 Z p0 p1 p2 p3 G1 u8 fm h0 n0) room_1 #[(.int p0), (.int p1), (.int p2), (.int p3)] s) (T.setTop (mkF m 67 #[vI p0, vI p1, vI p2, vI p3, vI v4, vI w0, vI w1, vI w2, vR bq, .unset, .unset, .unset, .unset] [])) := by
  intro T h Lc bq v4 w0 w1 w2 kC zC vC dC Xl el Nl Kl Cl lb Vb kont
  have szl : h0.size ≤ h.size := Kl.1
  show own_G p e below _ (T.setTop (mkF m 67 #[vI p0, vI p1, vI p2, vI p3, vI v4, vI w0, vI w1, vI w2, vR bq, .unset, .unset, .unset, .unset] []))
  refine own_st (fun tq kq => XS.bipush Xl.here hx rfl (hb hby at_67) kq) ?_
  obtain ⟨T17, h17, k17, X17, e17, E17, A17, st17⟩ := newP Xl hx hZ (hw _ (List.mem_of_getElem? (i := 6) rfl)) el (g := (mkF m 69 #[vI p0, vI p1, vI p2, vI p3, vI v4, vI w0, vI w1, vI w2, vR bq, .unset, .unset, .unset, .unset] [(.int 30)])) rfl (hb hby at_69) rfl (by decide) (cap := 30) (by decide) (by decide) (by decide) (by decide)
  obtain ⟨b17, g17⟩ : ∃ z, z = h.size := ⟨_, rfl⟩
  rw [← g17] at A17 st17
  have lt17 : b17 < h17.size := A17.lt
  have V17 : Arv Z h17 b17 k17 .byte (30 : Int32) [(.int (0 : Int32)), (.int (0 : Int32)), (.int (0 : Int32)), (.int (0 : Int32)), (.int (0 : Int32)), (.int (0 : Int32)), (.int (0 : Int32)), (.int (0 : Int32)), (.int (0 : Int32)), (.int (0 : Int32)), (.int (0 : Int32)), (.int (0 : Int32)), (.int (0 : Int32)), (.int (0 : Int32)), (.int (0 : Int32)), (.int (0 : Int32)), (.int (0 : Int32)), (.int (0 : Int32)), (.int (0 : Int32)), (.int (0 : Int32)), (.int (0 : Int32)), (.int (0 : Int32)), (.int (0 : Int32)), (.int (0 : Int32)), (.int (0 : Int32)), (.int (0 : Int32)), (.int (0 : Int32)), (.int (0 : Int32)), (.int (0 : Int32)), (.int (0 : Int32))] (.int (0 : Int32)) := (Arv.new A17 (by decide)).pad (pad_rep [] (.int (0 : Int32)) 30)
  have Sn17 : Safe Z consts_1 s.vm h b17 := Safe.new (own_le (by omega))
  have sz17 : h.size ≤ h17.size := E17.1
  have K17 : Keep h0 h17 [] := Kl.ext E17
  have c17 : CHr Z consts_1 s.vm h s.vm h17 := CHr.ext E17 Cl.1
  have C17 := Cl.trans c17
  have Sf17 : Safe Z consts_1 s.vm h17 b17 := Safe.ext E17 Cl.1 Sn17
  refine own_st st17 ?_
  refine own_st (fun tq kq => XS.dup X17.here hx rfl (hb hby at_71) rfl rfl kq) ?_
  refine s_iconst X17 hx (hb hby at_72) ?_
  refine s_bipush X17 hx (hb hby at_73) ?_
  obtain ⟨T18, h18, L18, X18, e18, V18, K18, N18, C18, Sf18, W18, st18⟩ := own_bst X17 hx hZ e17 V17 K17 Nl C17 Sf17 (own_le (by omega)) (own_le (by omega)) (j := (0 : Int32)) ⟨by decide, by decide⟩ 0 rfl (Nat.le_of_ble_eq_true rfl) (g := (mkF m 75 #[vI p0, vI p1, vI p2, vI p3, vI v4, vI w0, vI w1, vI w2, vR bq, .unset, .unset, .unset, .unset] [(.int 101), (.int 0), (.ref b17), (.ref b17)])) rfl rfl (hb hby at_75)
  have sz18 : h17.size ≤ h18.size := (Keep.of_wr W18).1
  refine own_st st18 ?_
  refine own_st (fun tq kq => XS.dup X18.here hx rfl (hb hby at_76) rfl rfl kq) ?_
  refine s_iconst X18 hx (hb hby at_77) ?_
  refine s_bipush X18 hx (hb hby at_78) ?_
  obtain ⟨T19, h19, L19, X19, e19, V19, K19, N19, C19, Sf19, W19, st19⟩ := own_bst X18 hx hZ e18 V18 K18 N18 C18 Sf18 (own_le (by omega)) (own_le (by omega)) (j := (1 : Int32)) ⟨by decide, by decide⟩ 1 rfl (Nat.le_of_ble_eq_true rfl) (g := (mkF m 80 #[vI p0, vI p1, vI p2, vI p3, vI v4, vI w0, vI w1, vI w2, vR bq, .unset, .unset, .unset, .unset] [(.int 118), (.int 1), (.ref b17), (.ref b17)])) rfl rfl (hb hby at_80)
  have sz19 : h18.size ≤ h19.size := (Keep.of_wr W19).1
  refine own_st st19 ?_
  refine own_st (fun tq kq => XS.dup X19.here hx rfl (hb hby at_81) rfl rfl kq) ?_
  refine s_iconst X19 hx (hb hby at_82) ?_
  refine s_bipush X19 hx (hb hby at_83) ?_
  obtain ⟨T20, h20, L20, X20, e20, V20, K20, N20, C20, Sf20, W20, st20⟩ := own_bst X19 hx hZ e19 V19 K19 N19 C19 Sf19 (own_le (by omega)) (own_le (by omega)) (j := (2 : Int32)) ⟨by decide, by decide⟩ 2 rfl (Nat.le_of_ble_eq_true rfl) (g := (mkF m 85 #[vI p0, vI p1, vI p2, vI p3, vI v4, vI w0, vI w1, vI w2, vR bq, .unset, .unset, .unset, .unset] [(.int 101), (.int 2), (.ref b17), (.ref b17)])) rfl rfl (hb hby at_85)
  have sz20 : h19.size ≤ h20.size := (Keep.of_wr W20).1
  refine own_st st20 ?_
  refine own_st (fun tq kq => XS.dup X20.here hx rfl (hb hby at_86) rfl rfl kq) ?_
  refine s_iconst X20 hx (hb hby at_87) ?_
  refine s_bipush X20 hx (hb hby at_88) ?_
  obtain ⟨T21, h21, L21, X21, e21, V21, K21, N21, C21, Sf21, W21, st21⟩ := own_bst X20 hx hZ e20 V20 K20 N20 C20 Sf20 (own_le (by omega)) (own_le (by omega)) (j := (3 : Int32)) ⟨by decide, by decide⟩ 3 rfl (Nat.le_of_ble_eq_true rfl) (g := (mkF m 90 #[vI p0, vI p1, vI p2, vI p3, vI v4, vI w0, vI w1, vI w2, vR bq, .unset, .unset, .unset, .unset] [(.int 110), (.int 3), (.ref b17), (.ref b17)])) rfl rfl (hb hby at_90)
  have sz21 : h20.size ≤ h21.size := (Keep.of_wr W21).1
  refine own_st st21 ?_
  refine own_st (fun tq kq => XS.dup X21.here hx rfl (hb hby at_91) rfl rfl kq) ?_
  refine s_iconst X21 hx (hb hby at_92) ?_
  refine s_bipush X21 hx (hb hby at_93) ?_
  obtain ⟨T22, h22, L22, X22, e22, V22, K22, N22, C22, Sf22, W22, st22⟩ := own_bst X21 hx hZ e21 V21 K21 N21 C21 Sf21 (own_le (by omega)) (own_le (by omega)) (j := (4 : Int32)) ⟨by decide, by decide⟩ 4 rfl (Nat.le_of_ble_eq_true rfl) (g := (mkF m 95 #[vI p0, vI p1, vI p2, vI p3, vI v4, vI w0, vI w1, vI w2, vR bq, .unset, .unset, .unset, .unset] [(.int 116), (.int 4), (.ref b17), (.ref b17)])) rfl rfl (hb hby at_95)
  have sz22 : h21.size ≤ h22.size := (Keep.of_wr W22).1
  refine own_st st22 ?_
  refine own_st (fun tq kq => XS.dup X22.here hx rfl (hb hby at_96) rfl rfl kq) ?_
  refine s_iconst X22 hx (hb hby at_97) ?_
  refine s_bipush X22 hx (hb hby at_98) ?_
  obtain ⟨T23, h23, L23, X23, e23, V23, K23, N23, C23, Sf23, W23, st23⟩ := own_bst X22 hx hZ e22 V22 K22 N22 C22 Sf22 (own_le (by omega)) (own_le (by omega)) (j := (5 : Int32)) ⟨by decide, by decide⟩ 5 rfl (Nat.le_of_ble_eq_true rfl) (g := (mkF m 100 #[vI p0, vI p1, vI p2, vI p3, vI v4, vI w0, vI w1, vI w2, vR bq, .unset, .unset, .unset, .unset] [(.int 58), (.int 5), (.ref b17), (.ref b17)])) rfl rfl (hb hby at_100)
  have sz23 : h22.size ≤ h23.size := (Keep.of_wr W23).1
  refine own_st st23 ?_
  refine own_st (fun tq kq => XS.dup X23.here hx rfl (hb hby at_101) rfl rfl kq) ?_
  refine s_bipush X23 hx (hb hby at_102) ?_
  refine s_bipush X23 hx (hb hby at_104) ?_
  obtain ⟨T24, h24, L24, X24, e24, V24, K24, N24, C24, Sf24, W24, st24⟩ := own_bst X23 hx hZ e23 V23 K23 N23 C23 Sf23 (own_le (by omega)) (own_le (by omega)) (j := (6 : Int32)) ⟨by decide, by decide⟩ 6 rfl (Nat.le_of_ble_eq_true rfl) (g := (mkF m 106 #[vI p0, vI p1, vI p2, vI p3, vI v4, vI w0, vI w1, vI w2, vR bq, .unset, .unset, .unset, .unset] [(.int 32), (.int 6), (.ref b17), (.ref b17)])) rfl rfl (hb hby at_106)
  have sz24 : h23.size ≤ h24.size := (Keep.of_wr W24).1
  refine own_st st24 ?_
  refine own_st (fun tq kq => XS.dup X24.here hx rfl (hb hby at_107) rfl rfl kq) ?_
  refine s_bipush X24 hx (hb hby at_108) ?_
  refine s_bipush X24 hx (hb hby at_110) ?_
  obtain ⟨T25, h25, L25, X25, e25, V25, K25, N25, C25, Sf25, W25, st25⟩ := own_bst X24 hx hZ e24 V24 K24 N24 C24 Sf24 (own_le (by omega)) (own_le (by omega)) (j := (7 : Int32)) ⟨by decide, by decide⟩ 7 rfl (Nat.le_of_ble_eq_true rfl) (g := (mkF m 112 #[vI p0, vI p1, vI p2, vI p3, vI v4, vI w0, vI w1, vI w2, vR bq, .unset, .unset, .unset, .unset] [(.int 109), (.int 7), (.ref b17), (.ref b17)])) rfl rfl (hb hby at_112)
  have sz25 : h24.size ≤ h25.size := (Keep.of_wr W25).1
  refine own_st st25 ?_
  refine own_st (fun tq kq => XS.dup X25.here hx rfl (hb hby at_113) rfl rfl kq) ?_
  refine s_bipush X25 hx (hb hby at_114) ?_
  refine s_bipush X25 hx (hb hby at_116) ?_
  obtain ⟨T26, h26, L26, X26, e26, V26, K26, N26, C26, Sf26, W26, st26⟩ := own_bst X25 hx hZ e25 V25 K25 N25 C25 Sf25 (own_le (by omega)) (own_le (by omega)) (j := (8 : Int32)) ⟨by decide, by decide⟩ 8 rfl (Nat.le_of_ble_eq_true rfl) (g := (mkF m 118 #[vI p0, vI p1, vI p2, vI p3, vI v4, vI w0, vI w1, vI w2, vR bq, .unset, .unset, .unset, .unset] [(.int 97), (.int 8), (.ref b17), (.ref b17)])) rfl rfl (hb hby at_118)
  have sz26 : h25.size ≤ h26.size := (Keep.of_wr W26).1
  refine own_st st26 ?_
  refine own_st (fun tq kq => XS.dup X26.here hx rfl (hb hby at_119) rfl rfl kq) ?_
  refine s_bipush X26 hx (hb hby at_120) ?_
  refine s_bipush X26 hx (hb hby at_122) ?_
  obtain ⟨T27, h27, L27, X27, e27, V27, K27, N27, C27, Sf27, W27, st27⟩ := own_bst X26 hx hZ e26 V26 K26 N26 C26 Sf26 (own_le (by omega)) (own_le (by omega)) (j := (9 : Int32)) ⟨by decide, by decide⟩ 9 rfl (Nat.le_of_ble_eq_true rfl) (g := (mkF m 124 #[vI p0, vI p1, vI p2, vI p3, vI v4, vI w0, vI w1, vI w2, vR bq, .unset, .unset, .unset, .unset] [(.int 116), (.int 9), (.ref b17), (.ref b17)])) rfl rfl (hb hby at_124)
  have sz27 : h26.size ≤ h27.size := (Keep.of_wr W27).1
  refine own_st st27 ?_
  refine own_st (fun tq kq => XS.dup X27.here hx rfl (hb hby at_125) rfl rfl kq) ?_
  refine s_bipush X27 hx (hb hby at_126) ?_
  refine s_bipush X27 hx (hb hby at_128) ?_
  obtain ⟨T28, h28, L28, X28, e28, V28, K28, N28, C28, Sf28, W28, st28⟩ := own_bst X27 hx hZ e27 V27 K27 N27 C27 Sf27 (own_le (by omega)) (own_le (by omega)) (j := (10 : Int32)) ⟨by decide, by decide⟩ 10 rfl (Nat.le_of_ble_eq_true rfl) (g := (mkF m 130 #[vI p0, vI p1, vI p2, vI p3, vI v4, vI w0, vI w1, vI w2, vR bq, .unset, .unset, .unset, .unset] [(.int 99), (.int 10), (.ref b17), (.ref b17)])) rfl rfl (hb hby at_130)
  have sz28 : h27.size ≤ h28.size := (Keep.of_wr W28).1
  refine own_st st28 ?_
  refine own_st (fun tq kq => XS.dup X28.here hx rfl (hb hby at_131) rfl rfl kq) ?_
  refine s_bipush X28 hx (hb hby at_132) ?_
  refine s_bipush X28 hx (hb hby at_134) ?_
  obtain ⟨T29, h29, L29, X29, e29, V29, K29, N29, C29, Sf29, W29, st29⟩ := own_bst X28 hx hZ e28 V28 K28 N28 C28 Sf28 (own_le (by omega)) (own_le (by omega)) (j := (11 : Int32)) ⟨by decide, by decide⟩ 11 rfl (Nat.le_of_ble_eq_true rfl) (g := (mkF m 136 #[vI p0, vI p1, vI p2, vI p3, vI v4, vI w0, vI w1, vI w2, vR bq, .unset, .unset, .unset, .unset] [(.int 104), (.int 11), (.ref b17), (.ref b17)])) rfl rfl (hb hby at_136)
  have sz29 : h28.size ≤ h29.size := (Keep.of_wr W29).1
  refine own_st st29 ?_
  refine own_st (fun tq kq => XS.dup X29.here hx rfl (hb hby at_137) rfl rfl kq) ?_
  refine s_bipush X29 hx (hb hby at_138) ?_
  refine s_bipush X29 hx (hb hby at_140) ?_
  obtain ⟨T30, h30, L30, X30, e30, V30, K30, N30, C30, Sf30, W30, st30⟩ := own_bst X29 hx hZ e29 V29 K29 N29 C29 Sf29 (own_le (by omega)) (own_le (by omega)) (j := (12 : Int32)) ⟨by decide, by decide⟩ 12 rfl (Nat.le_of_ble_eq_true rfl) (g := (mkF m 142 #[vI p0, vI p1, vI p2, vI p3, vI v4, vI w0, vI w1, vI w2, vR bq, .unset, .unset, .unset, .unset] [(.int 10), (.int 12), (.ref b17), (.ref b17)])) rfl rfl (hb hby at_142)
  have sz30 : h29.size ≤ h30.size := (Keep.of_wr W30).1
  refine own_st st30 ?_
  refine own_st (fun tq kq => XS.dup X30.here hx rfl (hb hby at_143) rfl rfl kq) ?_
  refine s_bipush X30 hx (hb hby at_144) ?_
  refine s_bipush X30 hx (hb hby at_146) ?_
  obtain ⟨T31, h31, L31, X31, e31, V31, K31, N31, C31, Sf31, W31, st31⟩ := own_bst X30 hx hZ e30 V30 K30 N30 C30 Sf30 (own_le (by omega)) (own_le (by omega)) (j := (13 : Int32)) ⟨by decide, by decide⟩ 13 rfl (Nat.le_of_ble_eq_true rfl) (g := (mkF m 148 #[vI p0, vI p1, vI p2, vI p3, vI v4, vI w0, vI w1, vI w2, vR bq, .unset, .unset, .unset, .unset] [(.int 100), (.int 13), (.ref b17), (.ref b17)])) rfl rfl (hb hby at_148)
  have sz31 : h30.size ≤ h31.size := (Keep.of_wr W31).1
  refine own_st st31 ?_
  refine own_st (fun tq kq => XS.dup X31.here hx rfl (hb hby at_149) rfl rfl kq) ?_
  refine s_bipush X31 hx (hb hby at_150) ?_
  refine s_bipush X31 hx (hb hby at_152) ?_
  obtain ⟨T32, h32, L32, X32, e32, V32, K32, N32, C32, Sf32, W32, st32⟩ := own_bst X31 hx hZ e31 V31 K31 N31 C31 Sf31 (own_le (by omega)) (own_le (by omega)) (j := (14 : Int32)) ⟨by decide, by decide⟩ 14 rfl (Nat.le_of_ble_eq_true rfl) (g := (mkF m 154 #[vI p0, vI p1, vI p2, vI p3, vI v4, vI w0, vI w1, vI w2, vR bq, .unset, .unset, .unset, .unset] [(.int 97), (.int 14), (.ref b17), (.ref b17)])) rfl rfl (hb hby at_154)
  have sz32 : h31.size ≤ h32.size := (Keep.of_wr W32).1
  refine own_st st32 ?_
  refine own_st (fun tq kq => XS.dup X32.here hx rfl (hb hby at_155) rfl rfl kq) ?_
  refine s_bipush X32 hx (hb hby at_156) ?_
  refine s_bipush X32 hx (hb hby at_158) ?_
  obtain ⟨T33, h33, L33, X33, e33, V33, K33, N33, C33, Sf33, W33, st33⟩ := own_bst X32 hx hZ e32 V32 K32 N32 C32 Sf32 (own_le (by omega)) (own_le (by omega)) (j := (15 : Int32)) ⟨by decide, by decide⟩ 15 rfl (Nat.le_of_ble_eq_true rfl) (g := (mkF m 160 #[vI p0, vI p1, vI p2, vI p3, vI v4, vI w0, vI w1, vI w2, vR bq, .unset, .unset, .unset, .unset] [(.int 116), (.int 15), (.ref b17), (.ref b17)])) rfl rfl (hb hby at_160)
  have sz33 : h32.size ≤ h33.size := (Keep.of_wr W33).1
  refine own_st st33 ?_
  refine own_st (fun tq kq => XS.dup X33.here hx rfl (hb hby at_161) rfl rfl kq) ?_
  refine s_bipush X33 hx (hb hby at_162) ?_
  refine s_bipush X33 hx (hb hby at_164) ?_
  obtain ⟨T34, h34, L34, X34, e34, V34, K34, N34, C34, Sf34, W34, st34⟩ := own_bst X33 hx hZ e33 V33 K33 N33 C33 Sf33 (own_le (by omega)) (own_le (by omega)) (j := (16 : Int32)) ⟨by decide, by decide⟩ 16 rfl (Nat.le_of_ble_eq_true rfl) (g := (mkF m 166 #[vI p0, vI p1, vI p2, vI p3, vI v4, vI w0, vI w1, vI w2, vR bq, .unset, .unset, .unset, .unset] [(.int 97), (.int 16), (.ref b17), (.ref b17)])) rfl rfl (hb hby at_166)
  have sz34 : h33.size ≤ h34.size := (Keep.of_wr W34).1
  refine own_st st34 ?_
  refine own_st (fun tq kq => XS.dup X34.here hx rfl (hb hby at_167) rfl rfl kq) ?_
  refine s_bipush X34 hx (hb hby at_168) ?_
  refine s_bipush X34 hx (hb hby at_170) ?_
  obtain ⟨T35, h35, L35, X35, e35, V35, K35, N35, C35, Sf35, W35, st35⟩ := own_bst X34 hx hZ e34 V34 K34 N34 C34 Sf34 (own_le (by omega)) (own_le (by omega)) (j := (17 : Int32)) ⟨by decide, by decide⟩ 17 rfl (Nat.le_of_ble_eq_true rfl) (g := (mkF m 172 #[vI p0, vI p1, vI p2, vI p3, vI v4, vI w0, vI w1, vI w2, vR bq, .unset, .unset, .unset, .unset] [(.int 58), (.int 17), (.ref b17), (.ref b17)])) rfl rfl (hb hby at_172)
  have sz35 : h34.size ≤ h35.size := (Keep.of_wr W35).1
  refine own_st st35 ?_
  refine own_st (fun tq kq => XS.dup X35.here hx rfl (hb hby at_173) rfl rfl kq) ?_
  refine s_bipush X35 hx (hb hby at_174) ?_
  refine s_bipush X35 hx (hb hby at_176) ?_
  obtain ⟨T36, h36, L36, X36, e36, V36, K36, N36, C36, Sf36, W36, st36⟩ := own_bst X35 hx hZ e35 V35 K35 N35 C35 Sf35 (own_le (by omega)) (own_le (by omega)) (j := (18 : Int32)) ⟨by decide, by decide⟩ 18 rfl (Nat.le_of_ble_eq_true rfl) (g := (mkF m 178 #[vI p0, vI p1, vI p2, vI p3, vI v4, vI w0, vI w1, vI w2, vR bq, .unset, .unset, .unset, .unset] [(.int 32), (.int 18), (.ref b17), (.ref b17)])) rfl rfl (hb hby at_178)
  have sz36 : h35.size ≤ h36.size := (Keep.of_wr W36).1
  refine own_st st36 ?_
  refine own_st (fun tq kq => XS.dup X36.here hx rfl (hb hby at_179) rfl rfl kq) ?_
  refine s_bipush X36 hx (hb hby at_180) ?_
  refine s_iconst X36 hx (hb hby at_182) ?_
  obtain ⟨T37, h37, L37, X37, e37, V37, K37, N37, C37, Sf37, W37, st37⟩ := own_bst X36 hx hZ e36 V36 K36 N36 C36 Sf36 (own_le (by omega)) (own_le (by omega)) (j := (19 : Int32)) ⟨by decide, by decide⟩ 19 rfl (Nat.le_of_ble_eq_true rfl) (g := (mkF m 183 #[vI p0, vI p1, vI p2, vI p3, vI v4, vI w0, vI w1, vI w2, vR bq, .unset, .unset, .unset, .unset] [(.int 0), (.int 19), (.ref b17), (.ref b17)])) rfl rfl (hb hby at_183)
  have sz37 : h36.size ≤ h37.size := (Keep.of_wr W37).1
  refine own_st st37 ?_
  refine own_st (fun tq kq => XS.dup X37.here hx rfl (hb hby at_184) rfl rfl kq) ?_
  refine s_bipush X37 hx (hb hby at_185) ?_
  refine s_iconst X37 hx (hb hby at_187) ?_
  obtain ⟨T38, h38, L38, X38, e38, V38, K38, N38, C38, Sf38, W38, st38⟩ := own_bst X37 hx hZ e37 V37 K37 N37 C37 Sf37 (own_le (by omega)) (own_le (by omega)) (j := (20 : Int32)) ⟨by decide, by decide⟩ 20 rfl (Nat.le_of_ble_eq_true rfl) (g := (mkF m 188 #[vI p0, vI p1, vI p2, vI p3, vI v4, vI w0, vI w1, vI w2, vR bq, .unset, .unset, .unset, .unset] [(.int 0), (.int 20), (.ref b17), (.ref b17)])) rfl rfl (hb hby at_188)
  have sz38 : h37.size ≤ h38.size := (Keep.of_wr W38).1
  refine own_st st38 ?_
  refine own_st (fun tq kq => XS.dup X38.here hx rfl (hb hby at_189) rfl rfl kq) ?_
  refine s_bipush X38 hx (hb hby at_190) ?_
  refine s_iconst X38 hx (hb hby at_192) ?_
  obtain ⟨T39, h39, L39, X39, e39, V39, K39, N39, C39, Sf39, W39, st39⟩ := own_bst X38 hx hZ e38 V38 K38 N38 C38 Sf38 (own_le (by omega)) (own_le (by omega)) (j := (21 : Int32)) ⟨by decide, by decide⟩ 21 rfl (Nat.le_of_ble_eq_true rfl) (g := (mkF m 193 #[vI p0, vI p1, vI p2, vI p3, vI v4, vI w0, vI w1, vI w2, vR bq, .unset, .unset, .unset, .unset] [(.int 0), (.int 21), (.ref b17), (.ref b17)])) rfl rfl (hb hby at_193)
  have sz39 : h38.size ≤ h39.size := (Keep.of_wr W39).1
  refine own_st st39 ?_
  refine own_st (fun tq kq => XS.dup X39.here hx rfl (hb hby at_194) rfl rfl kq) ?_
  refine s_bipush X39 hx (hb hby at_195) ?_
  refine s_iconst X39 hx (hb hby at_197) ?_
  obtain ⟨T40, h40, L40, X40, e40, V40, K40, N40, C40, Sf40, W40, st40⟩ := own_bst X39 hx hZ e39 V39 K39 N39 C39 Sf39 (own_le (by omega)) (own_le (by omega)) (j := (22 : Int32)) ⟨by decide, by decide⟩ 22 rfl (Nat.le_of_ble_eq_true rfl) (g := (mkF m 198 #[vI p0, vI p1, vI p2, vI p3, vI v4, vI w0, vI w1, vI w2, vR bq, .unset, .unset, .unset, .unset] [(.int 0), (.int 22), (.ref b17), (.ref b17)])) rfl rfl (hb hby at_198)
  have sz40 : h39.size ≤ h40.size := (Keep.of_wr W40).1
  refine own_st st40 ?_
  refine own_st (fun tq kq => XS.dup X40.here hx rfl (hb hby at_199) rfl rfl kq) ?_
  refine s_bipush X40 hx (hb hby at_200) ?_
  refine s_iconst X40 hx (hb hby at_202) ?_
  obtain ⟨T41, h41, L41, X41, e41, V41, K41, N41, C41, Sf41, W41, st41⟩ := own_bst X40 hx hZ e40 V40 K40 N40 C40 Sf40 (own_le (by omega)) (own_le (by omega)) (j := (23 : Int32)) ⟨by decide, by decide⟩ 23 rfl (Nat.le_of_ble_eq_true rfl) (g := (mkF m 203 #[vI p0, vI p1, vI p2, vI p3, vI v4, vI w0, vI w1, vI w2, vR bq, .unset, .unset, .unset, .unset] [(.int 0), (.int 23), (.ref b17), (.ref b17)])) rfl rfl (hb hby at_203)
  have sz41 : h40.size ≤ h41.size := (Keep.of_wr W41).1
  refine own_st st41 ?_
  refine own_st (fun tq kq => XS.dup X41.here hx rfl (hb hby at_204) rfl rfl kq) ?_
  refine s_bipush X41 hx (hb hby at_205) ?_
  refine s_iconst X41 hx (hb hby at_207) ?_
  obtain ⟨T42, h42, L42, X42, e42, V42, K42, N42, C42, Sf42, W42, st42⟩ := own_bst X41 hx hZ e41 V41 K41 N41 C41 Sf41 (own_le (by omega)) (own_le (by omega)) (j := (24 : Int32)) ⟨by decide, by decide⟩ 24 rfl (Nat.le_of_ble_eq_true rfl) (g := (mkF m 208 #[vI p0, vI p1, vI p2, vI p3, vI v4, vI w0, vI w1, vI w2, vR bq, .unset, .unset, .unset, .unset] [(.int 0), (.int 24), (.ref b17), (.ref b17)])) rfl rfl (hb hby at_208)
  have sz42 : h41.size ≤ h42.size := (Keep.of_wr W42).1
  refine own_st st42 ?_
  refine own_st (fun tq kq => XS.dup X42.here hx rfl (hb hby at_209) rfl rfl kq) ?_
  refine s_bipush X42 hx (hb hby at_210) ?_
  refine s_iconst X42 hx (hb hby at_212) ?_
  obtain ⟨T43, h43, L43, X43, e43, V43, K43, N43, C43, Sf43, W43, st43⟩ := own_bst X42 hx hZ e42 V42 K42 N42 C42 Sf42 (own_le (by omega)) (own_le (by omega)) (j := (25 : Int32)) ⟨by decide, by decide⟩ 25 rfl (Nat.le_of_ble_eq_true rfl) (g := (mkF m 213 #[vI p0, vI p1, vI p2, vI p3, vI v4, vI w0, vI w1, vI w2, vR bq, .unset, .unset, .unset, .unset] [(.int 0), (.int 25), (.ref b17), (.ref b17)])) rfl rfl (hb hby at_213)
  have sz43 : h42.size ≤ h43.size := (Keep.of_wr W43).1
  refine own_st st43 ?_
  refine own_st (fun tq kq => XS.dup X43.here hx rfl (hb hby at_214) rfl rfl kq) ?_
  refine s_bipush X43 hx (hb hby at_215) ?_
  refine s_iconst X43 hx (hb hby at_217) ?_
  obtain ⟨T44, h44, L44, X44, e44, V44, K44, N44, C44, Sf44, W44, st44⟩ := own_bst X43 hx hZ e43 V43 K43 N43 C43 Sf43 (own_le (by omega)) (own_le (by omega)) (j := (26 : Int32)) ⟨by decide, by decide⟩ 26 rfl (Nat.le_of_ble_eq_true rfl) (g := (mkF m 218 #[vI p0, vI p1, vI p2, vI p3, vI v4, vI w0, vI w1, vI w2, vR bq, .unset, .unset, .unset, .unset] [(.int 0), (.int 26), (.ref b17), (.ref b17)])) rfl rfl (hb hby at_218)
  have sz44 : h43.size ≤ h44.size := (Keep.of_wr W44).1
  refine own_st st44 ?_
  refine own_st (fun tq kq => XS.dup X44.here hx rfl (hb hby at_219) rfl rfl kq) ?_
  refine s_bipush X44 hx (hb hby at_220) ?_
  refine s_iconst X44 hx (hb hby at_222) ?_
  obtain ⟨T45, h45, L45, X45, e45, V45, K45, N45, C45, Sf45, W45, st45⟩ := own_bst X44 hx hZ e44 V44 K44 N44 C44 Sf44 (own_le (by omega)) (own_le (by omega)) (j := (27 : Int32)) ⟨by decide, by decide⟩ 27 rfl (Nat.le_of_ble_eq_true rfl) (g := (mkF m 223 #[vI p0, vI p1, vI p2, vI p3, vI v4, vI w0, vI w1, vI w2, vR bq, .unset, .unset, .unset, .unset] [(.int 0), (.int 27), (.ref b17), (.ref b17)])) rfl rfl (hb hby at_223)
  have sz45 : h44.size ≤ h45.size := (Keep.of_wr W45).1
  refine own_st st45 ?_
  refine own_st (fun tq kq => XS.dup X45.here hx rfl (hb hby at_224) rfl rfl kq) ?_
  refine s_bipush X45 hx (hb hby at_225) ?_
  refine s_iconst X45 hx (hb hby at_227) ?_
  obtain ⟨T46, h46, L46, X46, e46, V46, K46, N46, C46, Sf46, W46, st46⟩ := own_bst X45 hx hZ e45 V45 K45 N45 C45 Sf45 (own_le (by omega)) (own_le (by omega)) (j := (28 : Int32)) ⟨by decide, by decide⟩ 28 rfl (Nat.le_of_ble_eq_true rfl) (g := (mkF m 228 #[vI p0, vI p1, vI p2, vI p3, vI v4, vI w0, vI w1, vI w2, vR bq, .unset, .unset, .unset, .unset] [(.int 0), (.int 28), (.ref b17), (.ref b17)])) rfl rfl (hb hby at_228)
  have sz46 : h45.size ≤ h46.size := (Keep.of_wr W46).1
  refine own_st st46 ?_
  refine own_st (fun tq kq => XS.dup X46.here hx rfl (hb hby at_229) rfl rfl kq) ?_
  refine s_bipush X46 hx (hb hby at_230) ?_
  refine s_iconst X46 hx (hb hby at_232) ?_
  obtain ⟨T47, h47, L47, X47, e47, V47, K47, N47, C47, Sf47, W47, st47⟩ := own_bst X46 hx hZ e46 V46 K46 N46 C46 Sf46 (own_le (by omega)) (own_le (by omega)) (j := (29 : Int32)) ⟨by decide, by decide⟩ 29 rfl (Nat.le_of_ble_eq_true rfl) (g := (mkF m 233 #[vI p0, vI p1, vI p2, vI p3, vI v4, vI w0, vI w1, vI w2, vR bq, .unset, .unset, .unset, .unset] [(.int 0), (.int 29), (.ref b17), (.ref b17)])) rfl rfl (hb hby at_233)
  have sz47 : h46.size ≤ h47.size := (Keep.of_wr W47).1
  refine own_st st47 ?_
  refine own_st (fun tq kq => XS.astore X47.here hx rfl (hb hby at_234) rfl rfl (l' := #[vI p0, vI p1, vI p2, vI p3, vI v4, vI w0, vI w1, vI w2, vR bq, vR b17, .unset, .unset, .unset]) rfl kq) ?_
  refine s_bipush X47 hx (hb hby at_236) ?_
  refine own_st (fun tq kq => XS.istore X47.here hx rfl (hb hby at_238) rfl (l' := #[vI p0, vI p1, vI p2, vI p3, vI v4, vI w0, vI w1, vI w2, vR bq, vR b17, vI 19, .unset, .unset]) rfl kq) ?_
  show own_G p e below _ (T47.setTop (mkF m 240 #[vI p0, vI p1, vI p2, vI p3, vI v4, vI w0, vI w1, vI w2, vR bq, vR b17, vI 19, .unset, .unset] []))
  exact kont T47 h47 _ b17 _ X47 e47 N47 K47 C47 (by omega) (by omega) Sf47 (((((((((((((((((((((((((((((((Vb.ext E17).other W18 (own_ne (by omega))).other W19 (own_ne (by omega))).other W20 (own_ne (by omega))).other W21 (own_ne (by omega))).other W22 (own_ne (by omega))).other W23 (own_ne (by omega))).other W24 (own_ne (by omega))).other W25 (own_ne (by omega))).other W26 (own_ne (by omega))).other W27 (own_ne (by omega))).other W28 (own_ne (by omega))).other W29 (own_ne (by omega))).other W30 (own_ne (by omega))).other W31 (own_ne (by omega))).other W32 (own_ne (by omega))).other W33 (own_ne (by omega))).other W34 (own_ne (by omega))).other W35 (own_ne (by omega))).other W36 (own_ne (by omega))).other W37 (own_ne (by omega))).other W38 (own_ne (by omega))).other W39 (own_ne (by omega))).other W40 (own_ne (by omega))).other W41 (own_ne (by omega))).other W42 (own_ne (by omega))).other W43 (own_ne (by omega))).other W44 (own_ne (by omega))).other W45 (own_ne (by omega))).other W46 (own_ne (by omega))).other W47 (own_ne (by omega))) (by exact V47)
 have tail0 : ∀ (T : State) (Lc : List Loc) (w0 w1 w2 : Int32), Stand p l e room_1 (s.setVm s.vm) m #[(.int p0), (.int p1), (.int p2), (.int p3)] below meth c T Lc 0 0 → T.heap = h0 → (Fr n0 Lc) → (own_dr w0) → (own_dr w1) → (own_dr w2) → own_G p e below (own_E Z consts_1 (Q_rm0 Z p0 p1 p2 p3 G1 u8 fm h0 n0) room_1 #[(.int p0), (.int p1), (.int p2), (.int p3)] s) (T.setTop (mkF m 23 #[vI p0, vI p1, vI p2, vI p3, vI 0, vI w0, vI w1, vI w2, .unset, .unset, .unset, .unset, .unset] [])) := by
  intro T Lc w0 w1 w2 X0 e0 NL Dc0 Dc1 Dc2
  refine s_iload X0 hx (hb hby at_23) rfl ?_
  obtain ⟨T48, h48, k48, X48, e48, E48, A48, st48⟩ := newP X0 hx hZ (hw _ (List.mem_of_getElem? (i := 5) rfl)) e0 (g := (mkF m 25 #[vI p0, vI p1, vI p2, vI p3, vI 0, vI w0, vI w1, vI w2, .unset, .unset, .unset, .unset, .unset] [(.int 0)])) rfl (hb hby at_25) rfl (by decide) (cap := 0) (by decide) (by decide) (by decide) (by decide)
  obtain ⟨b48, g48⟩ : ∃ z, z = h0.size := ⟨_, rfl⟩
  rw [← g48] at A48 st48
  have lt48 : b48 < h48.size := A48.lt
  have V48 : Arv Z h48 b48 k48 .char (0 : Int32) [] (.int (0 : Int32)) := Arv.new A48 (by decide)
  have sz48 : h0.size ≤ h48.size := E48.1
  have K48 : Keep h0 h48 [] := K0.ext E48
  have c48 : CHr Z consts_1 s.vm h0 s.vm h48 := CHr.ext E48 C0.1
  have C48 := C0.trans c48
  refine own_st st48 ?_
  refine own_st (fun tq kq => XS.astore X48.here hx rfl (hb hby at_27) rfl rfl (l' := #[vI p0, vI p1, vI p2, vI p3, vI 0, vI w0, vI w1, vI w2, vR b48, .unset, .unset, .unset, .unset]) rfl kq) ?_
  refine s_iload X48 hx (hb hby at_29) rfl ?_
  show own_G p e below _ (T48.setTop (mkF m 31 #[vI p0, vI p1, vI p2, vI p3, vI 0, vI w0, vI w1, vI w2, vR b48, .unset, .unset, .unset, .unset] [(.int 0)]))
  refine own_st (fun tq kq => XS.ifYes X48.here hx rfl (pc0 := 31) (pc' := 41) rfl (hb hby at_31) rfl ((if0 _ _).trans (flt (by decide : ¬ ((0 : Int32) < (0 : Int32)))).2.2.2) (by decide) (by decide) kq) ?_
  refine s_iload X48 hx (hb hby at_41) rfl ?_
  refine s_iconst X48 hx (hb hby at_43) ?_
  show own_G p e below _ (T48.setTop (mkF m 44 #[vI p0, vI p1, vI p2, vI p3, vI 0, vI w0, vI w1, vI w2, vR b48, .unset, .unset, .unset, .unset] [(.int 1), (.int 0)]))
  refine own_st (fun tq kq => XS.icmpYes X48.here hx rfl (pc0 := 44) (pc' := 54) rfl (hb hby at_44) rfl (flt (by decide : ¬ ((1 : Int32) < (0 : Int32)))).2.2.2 (by decide) (by decide) kq) ?_
  refine s_iload X48 hx (hb hby at_54) rfl ?_
  refine s_iconst X48 hx (hb hby at_56) ?_
  show own_G p e below _ (T48.setTop (mkF m 57 #[vI p0, vI p1, vI p2, vI p3, vI 0, vI w0, vI w1, vI w2, vR b48, .unset, .unset, .unset, .unset] [(.int 2), (.int 0)]))
  refine own_st (fun tq kq => XS.icmpYes X48.here hx rfl (pc0 := 57) (pc' := 67) rfl (hb hby at_57) rfl (flt (by decide : ¬ ((2 : Int32) < (0 : Int32)))).2.2.2 (by decide) (by decide) kq) ?_
  show own_G p e below _ (T48.setTop (mkF m 67 #[vI p0, vI p1, vI p2, vI p3, vI 0, vI w0, vI w1, vI w2, vR b48, .unset, .unset, .unset, .unset] []))
  refine build T48 h48 _ b48 (0 : Int32) w0 w1 w2 k48 _ _ _ (X48.mono (Nat.le_refl _) (by decide)) e48 NL K48 C48 (by omega) V48 fun T2 h2 L2 ea ke Xk ek Nk Kk Ck gk lk Sek Vbk Vek => ?_
  have szk : h0.size ≤ h2.size := Kk.1
  have lbk : b48 < h2.size := Vbk.lt
  show own_G p e below _ (T2.setTop (mkF m 240 #[vI p0, vI p1, vI p2, vI p3, vI 0, vI w0, vI w1, vI w2, vR b48, vR ea, vI 19, .unset, .unset] []))
  refine own_st (fun tq kq => XS.iload Xk.here hx rfl (hb hby at_240) rfl  kq) ?_
  show own_G p e below _ (T2.setTop (mkF m 242 #[vI p0, vI p1, vI p2, vI p3, vI 0, vI w0, vI w1, vI w2, vR b48, vR ea, vI 19, .unset, .unset] [(.int 0)]))
  refine own_st (fun tq kq => XS.ifYes Xk.here hx rfl (pc0 := 242) (pc' := 256) rfl (hb hby at_242) rfl ((if0 _ _).trans (flt (by decide : ¬ ((0 : Int32) < (0 : Int32)))).2.2.2) (by decide) (by decide) kq) ?_
  refine own_st (fun tq kq => XS.iload Xk.here hx rfl (hb hby at_256) rfl  kq) ?_
  refine own_st (fun tq kq => XS.iconst Xk.here hx rfl (hb hby at_258) kq) ?_
  show own_G p e below _ (T2.setTop (mkF m 259 #[vI p0, vI p1, vI p2, vI p3, vI 0, vI w0, vI w1, vI w2, vR b48, vR ea, vI 19, .unset, .unset] [(.int 1), (.int 0)]))
  refine own_st (fun tq kq => XS.icmpYes Xk.here hx rfl (pc0 := 259) (pc' := 273) rfl (hb hby at_259) rfl (flt (by decide : ¬ ((1 : Int32) < (0 : Int32)))).2.2.2 (by decide) (by decide) kq) ?_
  refine own_st (fun tq kq => XS.iload Xk.here hx rfl (hb hby at_273) rfl  kq) ?_
  refine own_st (fun tq kq => XS.iconst Xk.here hx rfl (hb hby at_275) kq) ?_
  show own_G p e below _ (T2.setTop (mkF m 276 #[vI p0, vI p1, vI p2, vI p3, vI 0, vI w0, vI w1, vI w2, vR b48, vR ea, vI 19, .unset, .unset] [(.int 2), (.int 0)]))
  refine own_st (fun tq kq => XS.icmpYes Xk.here hx rfl (pc0 := 276) (pc' := 290) rfl (hb hby at_276) rfl (flt (by decide : ¬ ((2 : Int32) < (0 : Int32)))).2.2.2 (by decide) (by decide) kq) ?_
  show own_G p e below _ (T2.setTop (mkF m 290 #[vI p0, vI p1, vI p2, vI p3, vI 0, vI w0, vI w1, vI w2, vR b48, vR ea, vI 19, .unset, .unset] []))
  have hDk : ∀ c ∈ ([] : List Int32), own_dr c := by
    intro c hc
    simp only [List.mem_cons, List.not_mem_nil, or_false] at hc
  exact fin T2 h2 _ b48 ea (0 : Int32) w0 w1 w2 k48 ke _ ([] : List Int32) own_hdr Xk ek Nk Kk Ck (by omega) (by omega) (by omega) (own_ne (by omega)) Sek (by exact Vbk) Vek (by simp) hDk (by simp only [own_u8, List.flatMap_cons, List.flatMap_nil, List.append_nil, List.append_assoc])
 have tail1 : ∀ (T : State) (Lc : List Loc) (w0 w1 w2 : Int32), Stand p l e room_1 (s.setVm s.vm) m #[(.int p0), (.int p1), (.int p2), (.int p3)] below meth c T Lc 0 0 → T.heap = h0 → (Fr n0 Lc) → (own_dr w0) → (own_dr w1) → (own_dr w2) → own_G p e below (own_E Z consts_1 (Q_rm0 Z p0 p1 p2 p3 G1 u8 fm h0 n0) room_1 #[(.int p0), (.int p1), (.int p2), (.int p3)] s) (T.setTop (mkF m 23 #[vI p0, vI p1, vI p2, vI p3, vI 1, vI w0, vI w1, vI w2, .unset, .unset, .unset, .unset, .unset] [])) := by
  intro T Lc w0 w1 w2 X0 e0 NL Dc0 Dc1 Dc2
  have nc0 := own_narc Dc0
  refine s_iload X0 hx (hb hby at_23) rfl ?_
  obtain ⟨T49, h49, k49, X49, e49, E49, A49, st49⟩ := newP X0 hx hZ (hw _ (List.mem_of_getElem? (i := 5) rfl)) e0 (g := (mkF m 25 #[vI p0, vI p1, vI p2, vI p3, vI 1, vI w0, vI w1, vI w2, .unset, .unset, .unset, .unset, .unset] [(.int 1)])) rfl (hb hby at_25) rfl (by decide) (cap := 1) (by decide) (by decide) (by decide) (by decide)
  obtain ⟨b49, g49⟩ : ∃ z, z = h0.size := ⟨_, rfl⟩
  rw [← g49] at A49 st49
  have lt49 : b49 < h49.size := A49.lt
  have V49 : Arv Z h49 b49 k49 .char (1 : Int32) [(.int (0 : Int32))] (.int (0 : Int32)) := (Arv.new A49 (by decide)).pad (pad_rep [] (.int (0 : Int32)) 1)
  have sz49 : h0.size ≤ h49.size := E49.1
  have K49 : Keep h0 h49 [] := K0.ext E49
  have c49 : CHr Z consts_1 s.vm h0 s.vm h49 := CHr.ext E49 C0.1
  have C49 := C0.trans c49
  refine own_st st49 ?_
  refine own_st (fun tq kq => XS.astore X49.here hx rfl (hb hby at_27) rfl rfl (l' := #[vI p0, vI p1, vI p2, vI p3, vI 1, vI w0, vI w1, vI w2, vR b49, .unset, .unset, .unset, .unset]) rfl kq) ?_
  refine s_iload X49 hx (hb hby at_29) rfl ?_
  show own_G p e below _ (T49.setTop (mkF m 31 #[vI p0, vI p1, vI p2, vI p3, vI 1, vI w0, vI w1, vI w2, vR b49, .unset, .unset, .unset, .unset] [(.int 1)]))
  refine own_st (fun tq kq => XS.ifNo X49.here hx rfl (hb hby at_31) rfl ((if0 _ _).trans (tlt (by decide : ((0 : Int32) < (1 : Int32)))).2.2.2) kq) ?_
  refine s_aload X49 hx (hb hby at_34) rfl rfl ?_
  refine s_iconst X49 hx (hb hby at_36) ?_
  refine s_iload X49 hx (hb hby at_37) rfl ?_
  refine own_st (fun tq kq => XS.i2c X49.here hx rfl (hb hby at_39) rfl kq) ?_
  show own_G p e below _ (T49.setTop (mkF m 40 #[vI p0, vI p1, vI p2, vI p3, vI 1, vI w0, vI w1, vI w2, vR b49, .unset, .unset, .unset, .unset] [(.int (w0.toUInt32.toUInt16.toUInt32.toInt32)), (.int 0), (.ref b49)]))
  rw [own_i2c Dc0]
  show own_G p e below _ (T49.setTop (mkF m 40 #[vI p0, vI p1, vI p2, vI p3, vI 1, vI w0, vI w1, vI w2, vR b49, .unset, .unset, .unset, .unset] [(.int w0), (.int 0), (.ref b49)]))
  obtain ⟨cl50, Ar50, q50, S_50, N_50, H_50, G_50⟩ := id V49
  have in50 : ¬ ((0 : Int32) < 0 ∨ cl50.slots.size ≤ ((0 : Int32)).toNatClampNeg) := inb_of S_50 ⟨by decide, by decide⟩
  obtain ⟨T50, h50, X50, e50, W50, st50⟩ := stC X49 hx hZ e49 Ar50 (j := (0 : Int32)) in50 (g := (mkF m 40 #[vI p0, vI p1, vI p2, vI p3, vI 1, vI w0, vI w1, vI w2, vR b49, .unset, .unset, .unset, .unset] [(.int w0), (.int 0), (.ref b49)])) rfl rfl (hb hby at_40)
  have V50 := Arv.set Ar50 q50 S_50 N_50 H_50 G_50 (fits_nar_char _) W50 0 rfl (Nat.le_of_ble_eq_true rfl)
  have sz50 : h49.size ≤ h50.size := (Keep.of_wr W50).1
  have K50 : Keep h0 h50 [] := K49.wr W50 (Or.inr (own_le (by omega)))
  have c50 : CHr Z consts_1 s.vm h49 s.vm h50 := CHr.wr W50 (Safe.arr hZ.alike Ar50 (by decide)) C49.1
  have C50 := C49.trans c50
  have N50 := Fr.snoc X50 NL (own_le (by omega))
  refine own_st st50 ?_
  refine s_iload X50 hx (hb hby at_41) rfl ?_
  refine s_iconst X50 hx (hb hby at_43) ?_
  show own_G p e below _ (T50.setTop (mkF m 44 #[vI p0, vI p1, vI p2, vI p3, vI 1, vI w0, vI w1, vI w2, vR b49, .unset, .unset, .unset, .unset] [(.int 1), (.int 1)]))
  refine own_st (fun tq kq => XS.icmpYes X50.here hx rfl (pc0 := 44) (pc' := 54) rfl (hb hby at_44) rfl (flt (by decide : ¬ ((1 : Int32) < (1 : Int32)))).2.2.2 (by decide) (by decide) kq) ?_
  refine s_iload X50 hx (hb hby at_54) rfl ?_
  refine s_iconst X50 hx (hb hby at_56) ?_
  show own_G p e below _ (T50.setTop (mkF m 57 #[vI p0, vI p1, vI p2, vI p3, vI 1, vI w0, vI w1, vI w2, vR b49, .unset, .unset, .unset, .unset] [(.int 2), (.int 1)]))
  refine own_st (fun tq kq => XS.icmpYes X50.here hx rfl (pc0 := 57) (pc' := 67) rfl (hb hby at_57) rfl (flt (by decide : ¬ ((2 : Int32) < (1 : Int32)))).2.2.2 (by decide) (by decide) kq) ?_
  show own_G p e below _ (T50.setTop (mkF m 67 #[vI p0, vI p1, vI p2, vI p3, vI 1, vI w0, vI w1, vI w2, vR b49, .unset, .unset, .unset, .unset] []))
  refine build T50 h50 _ b49 (1 : Int32) w0 w1 w2 k49 _ _ _ (X50.mono (Nat.le_refl _) (by decide)) e50 N50 K50 C50 (by omega) V50 fun T2 h2 L2 ea ke Xk ek Nk Kk Ck gk lk Sek Vbk Vek => ?_
  have szk : h0.size ≤ h2.size := Kk.1
  have lbk : b49 < h2.size := Vbk.lt
  show own_G p e below _ (T2.setTop (mkF m 240 #[vI p0, vI p1, vI p2, vI p3, vI 1, vI w0, vI w1, vI w2, vR b49, vR ea, vI 19, .unset, .unset] []))
  refine own_st (fun tq kq => XS.iload Xk.here hx rfl (hb hby at_240) rfl  kq) ?_
  show own_G p e below _ (T2.setTop (mkF m 242 #[vI p0, vI p1, vI p2, vI p3, vI 1, vI w0, vI w1, vI w2, vR b49, vR ea, vI 19, .unset, .unset] [(.int 1)]))
  refine own_st (fun tq kq => XS.ifNo Xk.here hx rfl (hb hby at_242) rfl ((if0 _ _).trans (tlt (by decide : ((0 : Int32) < (1 : Int32)))).2.2.2) kq) ?_
  refine own_st (fun tq kq => XS.aload Xk.here hx rfl (hb hby at_245) rfl rfl kq) ?_
  refine own_st (fun tq kq => XS.iload Xk.here hx rfl (hb hby at_247) rfl  kq) ?_
  refine own_st (fun tq kq => XS.iload Xk.here hx rfl (hb hby at_249) rfl  kq) ?_
  obtain ⟨_, _, ⟨T51, L51, k51, n51⟩, -, X51, ⟨Lc51, hQ51, l51, y51, z51⟩, st51⟩ := Jvm.LawKit.callS Xk hx (y := mN51) hown (mvT hZ (wd7 hw)) (mvT hZ (wd8 hw)) (mvT hZ (wd2 hw)) (mvT hZ (wd9 hw)) (by decide) (own_backN (W := 0) (own_putC l Z a0 hw [] (ea) (ke) (own_hdr) (w0) h2 n0 (by omega) (X00.keep Kk all0) Vek (by simp only [List.length_append, List.length_cons, List.length_nil]; omega) (by omega)) hZ (wd9 hw) (wd2 hw) (by decide) (by decide)) (g := (mkF m 251 #[vI p0, vI p1, vI p2, vI p3, vI 1, vI w0, vI w1, vI w2, vR b49, vR ea, vI 19, .unset, .unset] [(.int w0), (.int 19), (.ref ea)])) rfl (by rw [hml]; rfl) (argsL := [(.ref ea), (.int 19), (.int w0)]) (rest := []) (lenOf own_pd29 rfl) rfl (Nat.le_of_eq rfl) (hb hby at_251) (fun _ _ => ⟨rfl, ek, (by decide : 2 + 0 ≤ _), (by decide : 33 + 0 ≤ _)⟩)
  dsimp only [Pt.U, Pt.locs, Pt.cells, Pt.slots] at X51 l51 y51 z51 st51 hQ51
  subst l51 y51 z51
  obtain ⟨rfl, Nq51, Kq51, Ve51⟩ := hQ51
  have KK51 : Keep h2 T51.heap [ea] := Kq51
  have sz51 : h2.size ≤ T51.heap.size := KK51.1
  have K51 : Keep h0 T51.heap [] := Kk.trans KK51 (allS (Or.inr (own_le (by omega))) all0)
  have c51 : CHr Z consts_1 s.vm h2 s.vm T51.heap := CHr.keep KK51 (allS Sek all0) Ck.1
  have C51 := Ck.trans c51
  have Sf51_52 := c51.safe (own_lt (by omega)) Sek
  have N51 := Fr.app Nk Nq51
  have hq51 := (own_enc_len w0).1
  refine own_st st51 ?_
  refine own_st (fun tq kq => XS.istore X51.here hx rfl (hb hby at_254) rfl (l' := #[vI p0, vI p1, vI p2, vI p3, vI 1, vI w0, vI w1, vI w2, vR b49, vR ea, vI (Int32.ofNat (own_hdr ++ own_enc w0).length), .unset, .unset]) rfl kq) ?_
  refine s_iload X51 hx (hb hby at_256) rfl ?_
  refine s_iconst X51 hx (hb hby at_258) ?_
  show own_G p e below _ (T51.setTop (mkF m 259 #[vI p0, vI p1, vI p2, vI p3, vI 1, vI w0, vI w1, vI w2, vR b49, vR ea, vI (Int32.ofNat (own_hdr ++ own_enc w0).length), .unset, .unset] [(.int 1), (.int 1)]))
  refine own_st (fun tq kq => XS.icmpYes X51.here hx rfl (pc0 := 259) (pc' := 273) rfl (hb hby at_259) rfl (flt (by decide : ¬ ((1 : Int32) < (1 : Int32)))).2.2.2 (by decide) (by decide) kq) ?_
  refine s_iload X51 hx (hb hby at_273) rfl ?_
  refine s_iconst X51 hx (hb hby at_275) ?_
  show own_G p e below _ (T51.setTop (mkF m 276 #[vI p0, vI p1, vI p2, vI p3, vI 1, vI w0, vI w1, vI w2, vR b49, vR ea, vI (Int32.ofNat (own_hdr ++ own_enc w0).length), .unset, .unset] [(.int 2), (.int 1)]))
  refine own_st (fun tq kq => XS.icmpYes X51.here hx rfl (pc0 := 276) (pc' := 290) rfl (hb hby at_276) rfl (flt (by decide : ¬ ((2 : Int32) < (1 : Int32)))).2.2.2 (by decide) (by decide) kq) ?_
  show own_G p e below _ (T51.setTop (mkF m 290 #[vI p0, vI p1, vI p2, vI p3, vI 1, vI w0, vI w1, vI w2, vR b49, vR ea, vI (Int32.ofNat (own_hdr ++ own_enc w0).length), .unset, .unset] []))
  have hDk : ∀ c ∈ ([w0] : List Int32), own_dr c := by
    intro c hc
    simp only [List.mem_cons, List.not_mem_nil, or_false] at hc
    rcases hc with rfl
    · exact Dc0
  exact fin T51 T51.heap _ b49 ea (1 : Int32) w0 w1 w2 k49 ke _ ([w0] : List Int32) (own_hdr ++ own_enc w0) X51 rfl N51 K51 C51 (by omega) (by omega) (by omega) (own_ne (by omega)) Sf51_52 (by have q := (Vbk.keep KK51 (ninS (own_ne (by omega)) nin0)); simp only [nc0] at q; exact q) Ve51 (by simp) hDk (by simp only [own_u8, List.flatMap_cons, List.flatMap_nil, List.append_nil, List.append_assoc])
 have tail2 : ∀ (T : State) (Lc : List Loc) (w0 w1 w2 : Int32), Stand p l e room_1 (s.setVm s.vm) m #[(.int p0), (.int p1), (.int p2), (.int p3)] below meth c T Lc 0 0 → T.heap = h0 → (Fr n0 Lc) → (own_dr w0) → (own_dr w1) → (own_dr w2) → own_G p e below (own_E Z consts_1 (Q_rm0 Z p0 p1 p2 p3 G1 u8 fm h0 n0) room_1 #[(.int p0), (.int p1), (.int p2), (.int p3)] s) (T.setTop (mkF m 23 #[vI p0, vI p1, vI p2, vI p3, vI 2, vI w0, vI w1, vI w2, .unset, .unset, .unset, .unset, .unset] [])) := by
  intro T Lc w0 w1 w2 X0 e0 NL Dc0 Dc1 Dc2
  have nc0 := own_narc Dc0
  have nc1 := own_narc Dc1
  refine s_iload X0 hx (hb hby at_23) rfl ?_
  obtain ⟨T53, h53, k53, X53, e53, E53, A53, st53⟩ := newP X0 hx hZ (hw _ (List.mem_of_getElem? (i := 5) rfl)) e0 (g := (mkF m 25 #[vI p0, vI p1, vI p2, vI p3, vI 2, vI w0, vI w1, vI w2, .unset, .unset, .unset, .unset, .unset] [(.int 2)])) rfl (hb hby at_25) rfl (by decide) (cap := 2) (by decide) (by decide) (by decide) (by decide)
  obtain ⟨b53, g53⟩ : ∃ z, z = h0.size := ⟨_, rfl⟩
  rw [← g53] at A53 st53
  have lt53 : b53 < h53.size := A53.lt
  have V53 : Arv Z h53 b53 k53 .char (2 : Int32) [(.int (0 : Int32)), (.int (0 : Int32))] (.int (0 : Int32)) := (Arv.new A53 (by decide)).pad (pad_rep [] (.int (0 : Int32)) 2)
  have sz53 : h0.size ≤ h53.size := E53.1
  have K53 : Keep h0 h53 [] := K0.ext E53
  have c53 : CHr Z consts_1 s.vm h0 s.vm h53 := CHr.ext E53 C0.1
  have C53 := C0.trans c53
  refine own_st st53 ?_
  refine own_st (fun tq kq => XS.astore X53.here hx rfl (hb hby at_27) rfl rfl (l' := #[vI p0, vI p1, vI p2, vI p3, vI 2, vI w0, vI w1, vI w2, vR b53, .unset, .unset, .unset, .unset]) rfl kq) ?_
  refine s_iload X53 hx (hb hby at_29) rfl ?_
  show own_G p e below _ (T53.setTop (mkF m 31 #[vI p0, vI p1, vI p2, vI p3, vI 2, vI w0, vI w1, vI w2, vR b53, .unset, .unset, .unset, .unset] [(.int 2)]))
  refine own_st (fun tq kq => XS.ifNo X53.here hx rfl (hb hby at_31) rfl ((if0 _ _).trans (tlt (by decide : ((0 : Int32) < (2 : Int32)))).2.2.2) kq) ?_
  refine s_aload X53 hx (hb hby at_34) rfl rfl ?_
  refine s_iconst X53 hx (hb hby at_36) ?_
  refine s_iload X53 hx (hb hby at_37) rfl ?_
  refine own_st (fun tq kq => XS.i2c X53.here hx rfl (hb hby at_39) rfl kq) ?_
  show own_G p e below _ (T53.setTop (mkF m 40 #[vI p0, vI p1, vI p2, vI p3, vI 2, vI w0, vI w1, vI w2, vR b53, .unset, .unset, .unset, .unset] [(.int (w0.toUInt32.toUInt16.toUInt32.toInt32)), (.int 0), (.ref b53)]))
  rw [own_i2c Dc0]
  show own_G p e below _ (T53.setTop (mkF m 40 #[vI p0, vI p1, vI p2, vI p3, vI 2, vI w0, vI w1, vI w2, vR b53, .unset, .unset, .unset, .unset] [(.int w0), (.int 0), (.ref b53)]))
  obtain ⟨cl54, Ar54, q54, S_54, N_54, H_54, G_54⟩ := id V53
  have in54 : ¬ ((0 : Int32) < 0 ∨ cl54.slots.size ≤ ((0 : Int32)).toNatClampNeg) := inb_of S_54 ⟨by decide, by decide⟩
  obtain ⟨T54, h54, X54, e54, W54, st54⟩ := stC X53 hx hZ e53 Ar54 (j := (0 : Int32)) in54 (g := (mkF m 40 #[vI p0, vI p1, vI p2, vI p3, vI 2, vI w0, vI w1, vI w2, vR b53, .unset, .unset, .unset, .unset] [(.int w0), (.int 0), (.ref b53)])) rfl rfl (hb hby at_40)
  have V54 := Arv.set Ar54 q54 S_54 N_54 H_54 G_54 (fits_nar_char _) W54 0 rfl (Nat.le_of_ble_eq_true rfl)
  have sz54 : h53.size ≤ h54.size := (Keep.of_wr W54).1
  have K54 : Keep h0 h54 [] := K53.wr W54 (Or.inr (own_le (by omega)))
  have c54 : CHr Z consts_1 s.vm h53 s.vm h54 := CHr.wr W54 (Safe.arr hZ.alike Ar54 (by decide)) C53.1
  have C54 := C53.trans c54
  have N54 := Fr.snoc X54 NL (own_le (by omega))
  refine own_st st54 ?_
  refine s_iload X54 hx (hb hby at_41) rfl ?_
  refine s_iconst X54 hx (hb hby at_43) ?_
  show own_G p e below _ (T54.setTop (mkF m 44 #[vI p0, vI p1, vI p2, vI p3, vI 2, vI w0, vI w1, vI w2, vR b53, .unset, .unset, .unset, .unset] [(.int 1), (.int 2)]))
  refine own_st (fun tq kq => XS.icmpNo X54.here hx rfl (hb hby at_44) rfl (tlt (by decide : ((1 : Int32) < (2 : Int32)))).2.2.2 kq) ?_
  refine s_aload X54 hx (hb hby at_47) rfl rfl ?_
  refine s_iconst X54 hx (hb hby at_49) ?_
  refine s_iload X54 hx (hb hby at_50) rfl ?_
  refine own_st (fun tq kq => XS.i2c X54.here hx rfl (hb hby at_52) rfl kq) ?_
  show own_G p e below _ (T54.setTop (mkF m 53 #[vI p0, vI p1, vI p2, vI p3, vI 2, vI w0, vI w1, vI w2, vR b53, .unset, .unset, .unset, .unset] [(.int (w1.toUInt32.toUInt16.toUInt32.toInt32)), (.int 1), (.ref b53)]))
  rw [own_i2c Dc1]
  show own_G p e below _ (T54.setTop (mkF m 53 #[vI p0, vI p1, vI p2, vI p3, vI 2, vI w0, vI w1, vI w2, vR b53, .unset, .unset, .unset, .unset] [(.int w1), (.int 1), (.ref b53)]))
  obtain ⟨cl55, Ar55, q55, S_55, N_55, H_55, G_55⟩ := id V54
  have in55 : ¬ ((1 : Int32) < 0 ∨ cl55.slots.size ≤ ((1 : Int32)).toNatClampNeg) := inb_of S_55 ⟨by decide, by decide⟩
  obtain ⟨T55, h55, X55, e55, W55, st55⟩ := stC X54 hx hZ e54 Ar55 (j := (1 : Int32)) in55 (g := (mkF m 53 #[vI p0, vI p1, vI p2, vI p3, vI 2, vI w0, vI w1, vI w2, vR b53, .unset, .unset, .unset, .unset] [(.int w1), (.int 1), (.ref b53)])) rfl rfl (hb hby at_53)
  have V55 := Arv.set Ar55 q55 S_55 N_55 H_55 G_55 (fits_nar_char _) W55 1 rfl (Nat.le_of_ble_eq_true rfl)
  have sz55 : h54.size ≤ h55.size := (Keep.of_wr W55).1
  have K55 : Keep h0 h55 [] := K54.wr W55 (Or.inr (own_le (by omega)))
  have c55 : CHr Z consts_1 s.vm h54 s.vm h55 := CHr.wr W55 (Safe.arr hZ.alike Ar55 (by decide)) C54.1
  have C55 := C54.trans c55
  have N55 := Fr.snoc X55 N54 (own_le (by omega))
  refine own_st st55 ?_
  refine s_iload X55 hx (hb hby at_54) rfl ?_
  refine s_iconst X55 hx (hb hby at_56) ?_
  show own_G p e below _ (T55.setTop (mkF m 57 #[vI p0, vI p1, vI p2, vI p3, vI 2, vI w0, vI w1, vI w2, vR b53, .unset, .unset, .unset, .unset] [(.int 2), (.int 2)]))
  refine own_st (fun tq kq => XS.icmpYes X55.here hx rfl (pc0 := 57) (pc' := 67) rfl (hb hby at_57) rfl (flt (by decide : ¬ ((2 : Int32) < (2 : Int32)))).2.2.2 (by decide) (by decide) kq) ?_
  show own_G p e below _ (T55.setTop (mkF m 67 #[vI p0, vI p1, vI p2, vI p3, vI 2, vI w0, vI w1, vI w2, vR b53, .unset, .unset, .unset, .unset] []))
  refine build T55 h55 _ b53 (2 : Int32) w0 w1 w2 k53 _ _ _ (X55.mono (Nat.le_refl _) (by decide)) e55 N55 K55 C55 (by omega) V55 fun T2 h2 L2 ea ke Xk ek Nk Kk Ck gk lk Sek Vbk Vek => ?_
  have szk : h0.size ≤ h2.size := Kk.1
  have lbk : b53 < h2.size := Vbk.lt
  show own_G p e below _ (T2.setTop (mkF m 240 #[vI p0, vI p1, vI p2, vI p3, vI 2, vI w0, vI w1, vI w2, vR b53, vR ea, vI 19, .unset, .unset] []))
  refine own_st (fun tq kq => XS.iload Xk.here hx rfl (hb hby at_240) rfl  kq) ?_
  show own_G p e below _ (T2.setTop (mkF m 242 #[vI p0, vI p1, vI p2, vI p3, vI 2, vI w0, vI w1, vI w2, vR b53, vR ea, vI 19, .unset, .unset] [(.int 2)]))
  refine own_st (fun tq kq => XS.ifNo Xk.here hx rfl (hb hby at_242) rfl ((if0 _ _).trans (tlt (by decide : ((0 : Int32) < (2 : Int32)))).2.2.2) kq) ?_
  refine own_st (fun tq kq => XS.aload Xk.here hx rfl (hb hby at_245) rfl rfl kq) ?_
  refine own_st (fun tq kq => XS.iload Xk.here hx rfl (hb hby at_247) rfl  kq) ?_
  refine own_st (fun tq kq => XS.iload Xk.here hx rfl (hb hby at_249) rfl  kq) ?_
  obtain ⟨_, _, ⟨T56, L56, k56, n56⟩, -, X56, ⟨Lc56, hQ56, l56, y56, z56⟩, st56⟩ := Jvm.LawKit.callS Xk hx (y := mN51) hown (mvT hZ (wd7 hw)) (mvT hZ (wd8 hw)) (mvT hZ (wd2 hw)) (mvT hZ (wd9 hw)) (by decide) (own_backN (W := 0) (own_putC l Z a0 hw [] (ea) (ke) (own_hdr) (w0) h2 n0 (by omega) (X00.keep Kk all0) Vek (by simp only [List.length_append, List.length_cons, List.length_nil]; omega) (by omega)) hZ (wd9 hw) (wd2 hw) (by decide) (by decide)) (g := (mkF m 251 #[vI p0, vI p1, vI p2, vI p3, vI 2, vI w0, vI w1, vI w2, vR b53, vR ea, vI 19, .unset, .unset] [(.int w0), (.int 19), (.ref ea)])) rfl (by rw [hml]; rfl) (argsL := [(.ref ea), (.int 19), (.int w0)]) (rest := []) (lenOf own_pd29 rfl) rfl (Nat.le_of_eq rfl) (hb hby at_251) (fun _ _ => ⟨rfl, ek, (by decide : 2 + 0 ≤ _), (by decide : 33 + 0 ≤ _)⟩)
  dsimp only [Pt.U, Pt.locs, Pt.cells, Pt.slots] at X56 l56 y56 z56 st56 hQ56
  subst l56 y56 z56
  obtain ⟨rfl, Nq56, Kq56, Ve56⟩ := hQ56
  have KK56 : Keep h2 T56.heap [ea] := Kq56
  have sz56 : h2.size ≤ T56.heap.size := KK56.1
  have K56 : Keep h0 T56.heap [] := Kk.trans KK56 (allS (Or.inr (own_le (by omega))) all0)
  have c56 : CHr Z consts_1 s.vm h2 s.vm T56.heap := CHr.keep KK56 (allS Sek all0) Ck.1
  have C56 := Ck.trans c56
  have Sf56_57 := c56.safe (own_lt (by omega)) Sek
  have N56 := Fr.app Nk Nq56
  have hq56 := (own_enc_len w0).1
  refine own_st st56 ?_
  refine own_st (fun tq kq => XS.istore X56.here hx rfl (hb hby at_254) rfl (l' := #[vI p0, vI p1, vI p2, vI p3, vI 2, vI w0, vI w1, vI w2, vR b53, vR ea, vI (Int32.ofNat (own_hdr ++ own_enc w0).length), .unset, .unset]) rfl kq) ?_
  refine s_iload X56 hx (hb hby at_256) rfl ?_
  refine s_iconst X56 hx (hb hby at_258) ?_
  show own_G p e below _ (T56.setTop (mkF m 259 #[vI p0, vI p1, vI p2, vI p3, vI 2, vI w0, vI w1, vI w2, vR b53, vR ea, vI (Int32.ofNat (own_hdr ++ own_enc w0).length), .unset, .unset] [(.int 1), (.int 2)]))
  refine own_st (fun tq kq => XS.icmpNo X56.here hx rfl (hb hby at_259) rfl (tlt (by decide : ((1 : Int32) < (2 : Int32)))).2.2.2 kq) ?_
  refine s_aload X56 hx (hb hby at_262) rfl rfl ?_
  refine s_iload X56 hx (hb hby at_264) rfl ?_
  refine s_iload X56 hx (hb hby at_266) rfl ?_
  obtain ⟨_, _, ⟨T58, L58, k58, n58⟩, -, X58, ⟨Lc58, hQ58, l58, y58, z58⟩, st58⟩ := Jvm.LawKit.callS X56 hx (y := mN51) hown (mvT hZ (wd7 hw)) (mvT hZ (wd8 hw)) (mvT hZ (wd2 hw)) (mvT hZ (wd9 hw)) (by decide) (own_backN (W := 0) (own_putC l Z a0 hw [] (ea) (ke) ((own_hdr ++ own_enc w0)) (w1) T56.heap n0 (by omega) (X00.keep K56 all0) Ve56 (by simp only [List.length_append, List.length_cons, List.length_nil]; omega) (by omega)) hZ (wd9 hw) (wd2 hw) (by decide) (by decide)) (g := (mkF m 268 #[vI p0, vI p1, vI p2, vI p3, vI 2, vI w0, vI w1, vI w2, vR b53, vR ea, vI (Int32.ofNat (own_hdr ++ own_enc w0).length), .unset, .unset] [(.int w1), (.int (Int32.ofNat (own_hdr ++ own_enc w0).length)), (.ref ea)])) rfl (by rw [hml]; rfl) (argsL := [(.ref ea), (.int (Int32.ofNat (own_hdr ++ own_enc w0).length)), (.int w1)]) (rest := []) (lenOf own_pd29 rfl) rfl (Nat.le_of_eq rfl) (hb hby at_268) (fun _ _ => ⟨rfl, rfl, (by decide : 2 + 0 ≤ _), (by decide : 33 + 0 ≤ _)⟩)
  dsimp only [Pt.U, Pt.locs, Pt.cells, Pt.slots] at X58 l58 y58 z58 st58 hQ58
  subst l58 y58 z58
  obtain ⟨rfl, Nq58, Kq58, Ve58⟩ := hQ58
  have KK58 : Keep T56.heap T58.heap [ea] := Kq58
  have sz58 : T56.heap.size ≤ T58.heap.size := KK58.1
  have K58 : Keep h0 T58.heap [] := K56.trans KK58 (allS (Or.inr (own_le (by omega))) all0)
  have c58 : CHr Z consts_1 s.vm T56.heap s.vm T58.heap := CHr.keep KK58 (allS Sf56_57 all0) C56.1
  have C58 := C56.trans c58
  have Sf58_59 := c58.safe (own_lt (by omega)) Sf56_57
  have N58 := Fr.app N56 Nq58
  have hq58 := (own_enc_len w1).1
  refine own_st st58 ?_
  refine own_st (fun tq kq => XS.istore X58.here hx rfl (hb hby at_271) rfl (l' := #[vI p0, vI p1, vI p2, vI p3, vI 2, vI w0, vI w1, vI w2, vR b53, vR ea, vI (Int32.ofNat ((own_hdr ++ own_enc w0) ++ own_enc w1).length), .unset, .unset]) rfl kq) ?_
  refine s_iload X58 hx (hb hby at_273) rfl ?_
  refine s_iconst X58 hx (hb hby at_275) ?_
  show own_G p e below _ (T58.setTop (mkF m 276 #[vI p0, vI p1, vI p2, vI p3, vI 2, vI w0, vI w1, vI w2, vR b53, vR ea, vI (Int32.ofNat ((own_hdr ++ own_enc w0) ++ own_enc w1).length), .unset, .unset] [(.int 2), (.int 2)]))
  refine own_st (fun tq kq => XS.icmpYes X58.here hx rfl (pc0 := 276) (pc' := 290) rfl (hb hby at_276) rfl (flt (by decide : ¬ ((2 : Int32) < (2 : Int32)))).2.2.2 (by decide) (by decide) kq) ?_
  show own_G p e below _ (T58.setTop (mkF m 290 #[vI p0, vI p1, vI p2, vI p3, vI 2, vI w0, vI w1, vI w2, vR b53, vR ea, vI (Int32.ofNat ((own_hdr ++ own_enc w0) ++ own_enc w1).length), .unset, .unset] []))
  have hDk : ∀ c ∈ ([w0, w1] : List Int32), own_dr c := by
    intro c hc
    simp only [List.mem_cons, List.not_mem_nil, or_false] at hc
    rcases hc with rfl | rfl
    · exact Dc0
    · exact Dc1
  exact fin T58 T58.heap _ b53 ea (2 : Int32) w0 w1 w2 k53 ke _ ([w0, w1] : List Int32) ((own_hdr ++ own_enc w0) ++ own_enc w1) X58 rfl N58 K58 C58 (by omega) (by omega) (by omega) (own_ne (by omega)) Sf58_59 (by have q := ((Vbk.keep KK56 (ninS (own_ne (by omega)) nin0)).keep KK58 (ninS (own_ne (by omega)) nin0)); simp only [nc0, nc1] at q; exact q) Ve58 (by simp) hDk (by simp only [own_u8, List.flatMap_cons, List.flatMap_nil, List.append_nil, List.append_assoc])
 have tail3 : ∀ (T : State) (Lc : List Loc) (w0 w1 w2 : Int32), Stand p l e room_1 (s.setVm s.vm) m #[(.int p0), (.int p1), (.int p2), (.int p3)] below meth c T Lc 0 0 → T.heap = h0 → (Fr n0 Lc) → (own_dr w0) → (own_dr w1) → (own_dr w2) → own_G p e below (own_E Z consts_1 (Q_rm0 Z p0 p1 p2 p3 G1 u8 fm h0 n0) room_1 #[(.int p0), (.int p1), (.int p2), (.int p3)] s) (T.setTop (mkF m 23 #[vI p0, vI p1, vI p2, vI p3, vI 3, vI w0, vI w1, vI w2, .unset, .unset, .unset, .unset, .unset] [])) := by
  intro T Lc w0 w1 w2 X0 e0 NL Dc0 Dc1 Dc2
  have nc0 := own_narc Dc0
  have nc1 := own_narc Dc1
  have nc2 := own_narc Dc2
  refine s_iload X0 hx (hb hby at_23) rfl ?_
  obtain ⟨T60, h60, k60, X60, e60, E60, A60, st60⟩ := newP X0 hx hZ (hw _ (List.mem_of_getElem? (i := 5) rfl)) e0 (g := (mkF m 25 #[vI p0, vI p1, vI p2, vI p3, vI 3, vI w0, vI w1, vI w2, .unset, .unset, .unset, .unset, .unset] [(.int 3)])) rfl (hb hby at_25) rfl (by decide) (cap := 3) (by decide) (by decide) (by decide) (by decide)
  obtain ⟨b60, g60⟩ : ∃ z, z = h0.size := ⟨_, rfl⟩
  rw [← g60] at A60 st60
  have lt60 : b60 < h60.size := A60.lt
  have V60 : Arv Z h60 b60 k60 .char (3 : Int32) [(.int (0 : Int32)), (.int (0 : Int32)), (.int (0 : Int32))] (.int (0 : Int32)) := (Arv.new A60 (by decide)).pad (pad_rep [] (.int (0 : Int32)) 3)
  have sz60 : h0.size ≤ h60.size := E60.1
  have K60 : Keep h0 h60 [] := K0.ext E60
  have c60 : CHr Z consts_1 s.vm h0 s.vm h60 := CHr.ext E60 C0.1
  have C60 := C0.trans c60
  refine own_st st60 ?_
  refine own_st (fun tq kq => XS.astore X60.here hx rfl (hb hby at_27) rfl rfl (l' := #[vI p0, vI p1, vI p2, vI p3, vI 3, vI w0, vI w1, vI w2, vR b60, .unset, .unset, .unset, .unset]) rfl kq) ?_
  refine s_iload X60 hx (hb hby at_29) rfl ?_
  show own_G p e below _ (T60.setTop (mkF m 31 #[vI p0, vI p1, vI p2, vI p3, vI 3, vI w0, vI w1, vI w2, vR b60, .unset, .unset, .unset, .unset] [(.int 3)]))
  refine own_st (fun tq kq => XS.ifNo X60.here hx rfl (hb hby at_31) rfl ((if0 _ _).trans (tlt (by decide : ((0 : Int32) < (3 : Int32)))).2.2.2) kq) ?_
  refine s_aload X60 hx (hb hby at_34) rfl rfl ?_
  refine s_iconst X60 hx (hb hby at_36) ?_
  refine s_iload X60 hx (hb hby at_37) rfl ?_
  refine own_st (fun tq kq => XS.i2c X60.here hx rfl (hb hby at_39) rfl kq) ?_
  show own_G p e below _ (T60.setTop (mkF m 40 #[vI p0, vI p1, vI p2, vI p3, vI 3, vI w0, vI w1, vI w2, vR b60, .unset, .unset, .unset, .unset] [(.int (w0.toUInt32.toUInt16.toUInt32.toInt32)), (.int 0), (.ref b60)]))
  rw [own_i2c Dc0]
  show own_G p e below _ (T60.setTop (mkF m 40 #[vI p0, vI p1, vI p2, vI p3, vI 3, vI w0, vI w1, vI w2, vR b60, .unset, .unset, .unset, .unset] [(.int w0), (.int 0), (.ref b60)]))
  obtain ⟨cl61, Ar61, q61, S_61, N_61, H_61, G_61⟩ := id V60
  have in61 : ¬ ((0 : Int32) < 0 ∨ cl61.slots.size ≤ ((0 : Int32)).toNatClampNeg) := inb_of S_61 ⟨by decide, by decide⟩
  obtain ⟨T61, h61, X61, e61, W61, st61⟩ := stC X60 hx hZ e60 Ar61 (j := (0 : Int32)) in61 (g := (mkF m 40 #[vI p0, vI p1, vI p2, vI p3, vI 3, vI w0, vI w1, vI w2, vR b60, .unset, .unset, .unset, .unset] [(.int w0), (.int 0), (.ref b60)])) rfl rfl (hb hby at_40)
  have V61 := Arv.set Ar61 q61 S_61 N_61 H_61 G_61 (fits_nar_char _) W61 0 rfl (Nat.le_of_ble_eq_true rfl)
  have sz61 : h60.size ≤ h61.size := (Keep.of_wr W61).1
  have K61 : Keep h0 h61 [] := K60.wr W61 (Or.inr (own_le (by omega)))
  have c61 : CHr Z consts_1 s.vm h60 s.vm h61 := CHr.wr W61 (Safe.arr hZ.alike Ar61 (by decide)) C60.1
  have C61 := C60.trans c61
  have N61 := Fr.snoc X61 NL (own_le (by omega))
  refine own_st st61 ?_
  refine s_iload X61 hx (hb hby at_41) rfl ?_
  refine s_iconst X61 hx (hb hby at_43) ?_
  show own_G p e below _ (T61.setTop (mkF m 44 #[vI p0, vI p1, vI p2, vI p3, vI 3, vI w0, vI w1, vI w2, vR b60, .unset, .unset, .unset, .unset] [(.int 1), (.int 3)]))
  refine own_st (fun tq kq => XS.icmpNo X61.here hx rfl (hb hby at_44) rfl (tlt (by decide : ((1 : Int32) < (3 : Int32)))).2.2.2 kq) ?_
  refine s_aload X61 hx (hb hby at_47) rfl rfl ?_
  refine s_iconst X61 hx (hb hby at_49) ?_
  refine s_iload X61 hx (hb hby at_50) rfl ?_
  refine own_st (fun tq kq => XS.i2c X61.here hx rfl (hb hby at_52) rfl kq) ?_
  show own_G p e below _ (T61.setTop (mkF m 53 #[vI p0, vI p1, vI p2, vI p3, vI 3, vI w0, vI w1, vI w2, vR b60, .unset, .unset, .unset, .unset] [(.int (w1.toUInt32.toUInt16.toUInt32.toInt32)), (.int 1), (.ref b60)]))
  rw [own_i2c Dc1]
  show own_G p e below _ (T61.setTop (mkF m 53 #[vI p0, vI p1, vI p2, vI p3, vI 3, vI w0, vI w1, vI w2, vR b60, .unset, .unset, .unset, .unset] [(.int w1), (.int 1), (.ref b60)]))
  obtain ⟨cl62, Ar62, q62, S_62, N_62, H_62, G_62⟩ := id V61
  have in62 : ¬ ((1 : Int32) < 0 ∨ cl62.slots.size ≤ ((1 : Int32)).toNatClampNeg) := inb_of S_62 ⟨by decide, by decide⟩
  obtain ⟨T62, h62, X62, e62, W62, st62⟩ := stC X61 hx hZ e61 Ar62 (j := (1 : Int32)) in62 (g := (mkF m 53 #[vI p0, vI p1, vI p2, vI p3, vI 3, vI w0, vI w1, vI w2, vR b60, .unset, .unset, .unset, .unset] [(.int w1), (.int 1), (.ref b60)])) rfl rfl (hb hby at_53)
  have V62 := Arv.set Ar62 q62 S_62 N_62 H_62 G_62 (fits_nar_char _) W62 1 rfl (Nat.le_of_ble_eq_true rfl)
  have sz62 : h61.size ≤ h62.size := (Keep.of_wr W62).1
  have K62 : Keep h0 h62 [] := K61.wr W62 (Or.inr (own_le (by omega)))
  have c62 : CHr Z consts_1 s.vm h61 s.vm h62 := CHr.wr W62 (Safe.arr hZ.alike Ar62 (by decide)) C61.1
  have C62 := C61.trans c62
  have N62 := Fr.snoc X62 N61 (own_le (by omega))
  refine own_st st62 ?_
  refine s_iload X62 hx (hb hby at_54) rfl ?_
  refine s_iconst X62 hx (hb hby at_56) ?_
  show own_G p e below _ (T62.setTop (mkF m 57 #[vI p0, vI p1, vI p2, vI p3, vI 3, vI w0, vI w1, vI w2, vR b60, .unset, .unset, .unset, .unset] [(.int 2), (.int 3)]))
  refine own_st (fun tq kq => XS.icmpNo X62.here hx rfl (hb hby at_57) rfl (tlt (by decide : ((2 : Int32) < (3 : Int32)))).2.2.2 kq) ?_
  refine s_aload X62 hx (hb hby at_60) rfl rfl ?_
  refine s_iconst X62 hx (hb hby at_62) ?_
  refine s_iload X62 hx (hb hby at_63) rfl ?_
  refine own_st (fun tq kq => XS.i2c X62.here hx rfl (hb hby at_65) rfl kq) ?_
  show own_G p e below _ (T62.setTop (mkF m 66 #[vI p0, vI p1, vI p2, vI p3, vI 3, vI w0, vI w1, vI w2, vR b60, .unset, .unset, .unset, .unset] [(.int (w2.toUInt32.toUInt16.toUInt32.toInt32)), (.int 2), (.ref b60)]))
  rw [own_i2c Dc2]
  show own_G p e below _ (T62.setTop (mkF m 66 #[vI p0, vI p1, vI p2, vI p3, vI 3, vI w0, vI w1, vI w2, vR b60, .unset, .unset, .unset, .unset] [(.int w2), (.int 2), (.ref b60)]))
  obtain ⟨cl63, Ar63, q63, S_63, N_63, H_63, G_63⟩ := id V62
  have in63 : ¬ ((2 : Int32) < 0 ∨ cl63.slots.size ≤ ((2 : Int32)).toNatClampNeg) := inb_of S_63 ⟨by decide, by decide⟩
  obtain ⟨T63, h63, X63, e63, W63, st63⟩ := stC X62 hx hZ e62 Ar63 (j := (2 : Int32)) in63 (g := (mkF m 66 #[vI p0, vI p1, vI p2, vI p3, vI 3, vI w0, vI w1, vI w2, vR b60, .unset, .unset, .unset, .unset] [(.int w2), (.int 2), (.ref b60)])) rfl rfl (hb hby at_66)
  have V63 := Arv.set Ar63 q63 S_63 N_63 H_63 G_63 (fits_nar_char _) W63 2 rfl (Nat.le_of_ble_eq_true rfl)
  have sz63 : h62.size ≤ h63.size := (Keep.of_wr W63).1
  have K63 : Keep h0 h63 [] := K62.wr W63 (Or.inr (own_le (by omega)))
  have c63 : CHr Z consts_1 s.vm h62 s.vm h63 := CHr.wr W63 (Safe.arr hZ.alike Ar63 (by decide)) C62.1
  have C63 := C62.trans c63
  have N63 := Fr.snoc X63 N62 (own_le (by omega))
  refine own_st st63 ?_
  refine build T63 h63 _ b60 (3 : Int32) w0 w1 w2 k60 _ _ _ (X63.mono (Nat.le_refl _) (by decide)) e63 N63 K63 C63 (by omega) V63 fun T2 h2 L2 ea ke Xk ek Nk Kk Ck gk lk Sek Vbk Vek => ?_
  have szk : h0.size ≤ h2.size := Kk.1
  have lbk : b60 < h2.size := Vbk.lt
  show own_G p e below _ (T2.setTop (mkF m 240 #[vI p0, vI p1, vI p2, vI p3, vI 3, vI w0, vI w1, vI w2, vR b60, vR ea, vI 19, .unset, .unset] []))
  refine own_st (fun tq kq => XS.iload Xk.here hx rfl (hb hby at_240) rfl  kq) ?_
  show own_G p e below _ (T2.setTop (mkF m 242 #[vI p0, vI p1, vI p2, vI p3, vI 3, vI w0, vI w1, vI w2, vR b60, vR ea, vI 19, .unset, .unset] [(.int 3)]))
  refine own_st (fun tq kq => XS.ifNo Xk.here hx rfl (hb hby at_242) rfl ((if0 _ _).trans (tlt (by decide : ((0 : Int32) < (3 : Int32)))).2.2.2) kq) ?_
  refine own_st (fun tq kq => XS.aload Xk.here hx rfl (hb hby at_245) rfl rfl kq) ?_
  refine own_st (fun tq kq => XS.iload Xk.here hx rfl (hb hby at_247) rfl  kq) ?_
  refine own_st (fun tq kq => XS.iload Xk.here hx rfl (hb hby at_249) rfl  kq) ?_
  obtain ⟨_, _, ⟨T64, L64, k64, n64⟩, -, X64, ⟨Lc64, hQ64, l64, y64, z64⟩, st64⟩ := Jvm.LawKit.callS Xk hx (y := mN51) hown (mvT hZ (wd7 hw)) (mvT hZ (wd8 hw)) (mvT hZ (wd2 hw)) (mvT hZ (wd9 hw)) (by decide) (own_backN (W := 0) (own_putC l Z a0 hw [] (ea) (ke) (own_hdr) (w0) h2 n0 (by omega) (X00.keep Kk all0) Vek (by simp only [List.length_append, List.length_cons, List.length_nil]; omega) (by omega)) hZ (wd9 hw) (wd2 hw) (by decide) (by decide)) (g := (mkF m 251 #[vI p0, vI p1, vI p2, vI p3, vI 3, vI w0, vI w1, vI w2, vR b60, vR ea, vI 19, .unset, .unset] [(.int w0), (.int 19), (.ref ea)])) rfl (by rw [hml]; rfl) (argsL := [(.ref ea), (.int 19), (.int w0)]) (rest := []) (lenOf own_pd29 rfl) rfl (Nat.le_of_eq rfl) (hb hby at_251) (fun _ _ => ⟨rfl, ek, (by decide : 2 + 0 ≤ _), (by decide : 33 + 0 ≤ _)⟩)
  dsimp only [Pt.U, Pt.locs, Pt.cells, Pt.slots] at X64 l64 y64 z64 st64 hQ64
  subst l64 y64 z64
  obtain ⟨rfl, Nq64, Kq64, Ve64⟩ := hQ64
  have KK64 : Keep h2 T64.heap [ea] := Kq64
  have sz64 : h2.size ≤ T64.heap.size := KK64.1
  have K64 : Keep h0 T64.heap [] := Kk.trans KK64 (allS (Or.inr (own_le (by omega))) all0)
  have c64 : CHr Z consts_1 s.vm h2 s.vm T64.heap := CHr.keep KK64 (allS Sek all0) Ck.1
  have C64 := Ck.trans c64
  have Sf64_65 := c64.safe (own_lt (by omega)) Sek
  have N64 := Fr.app Nk Nq64
  have hq64 := (own_enc_len w0).1
  refine own_st st64 ?_
  refine own_st (fun tq kq => XS.istore X64.here hx rfl (hb hby at_254) rfl (l' := #[vI p0, vI p1, vI p2, vI p3, vI 3, vI w0, vI w1, vI w2, vR b60, vR ea, vI (Int32.ofNat (own_hdr ++ own_enc w0).length), .unset, .unset]) rfl kq) ?_
  refine s_iload X64 hx (hb hby at_256) rfl ?_
  refine s_iconst X64 hx (hb hby at_258) ?_
  show own_G p e below _ (T64.setTop (mkF m 259 #[vI p0, vI p1, vI p2, vI p3, vI 3, vI w0, vI w1, vI w2, vR b60, vR ea, vI (Int32.ofNat (own_hdr ++ own_enc w0).length), .unset, .unset] [(.int 1), (.int 3)]))
  refine own_st (fun tq kq => XS.icmpNo X64.here hx rfl (hb hby at_259) rfl (tlt (by decide : ((1 : Int32) < (3 : Int32)))).2.2.2 kq) ?_
  refine s_aload X64 hx (hb hby at_262) rfl rfl ?_
  refine s_iload X64 hx (hb hby at_264) rfl ?_
  refine s_iload X64 hx (hb hby at_266) rfl ?_
  obtain ⟨_, _, ⟨T66, L66, k66, n66⟩, -, X66, ⟨Lc66, hQ66, l66, y66, z66⟩, st66⟩ := Jvm.LawKit.callS X64 hx (y := mN51) hown (mvT hZ (wd7 hw)) (mvT hZ (wd8 hw)) (mvT hZ (wd2 hw)) (mvT hZ (wd9 hw)) (by decide) (own_backN (W := 0) (own_putC l Z a0 hw [] (ea) (ke) ((own_hdr ++ own_enc w0)) (w1) T64.heap n0 (by omega) (X00.keep K64 all0) Ve64 (by simp only [List.length_append, List.length_cons, List.length_nil]; omega) (by omega)) hZ (wd9 hw) (wd2 hw) (by decide) (by decide)) (g := (mkF m 268 #[vI p0, vI p1, vI p2, vI p3, vI 3, vI w0, vI w1, vI w2, vR b60, vR ea, vI (Int32.ofNat (own_hdr ++ own_enc w0).length), .unset, .unset] [(.int w1), (.int (Int32.ofNat (own_hdr ++ own_enc w0).length)), (.ref ea)])) rfl (by rw [hml]; rfl) (argsL := [(.ref ea), (.int (Int32.ofNat (own_hdr ++ own_enc w0).length)), (.int w1)]) (rest := []) (lenOf own_pd29 rfl) rfl (Nat.le_of_eq rfl) (hb hby at_268) (fun _ _ => ⟨rfl, rfl, (by decide : 2 + 0 ≤ _), (by decide : 33 + 0 ≤ _)⟩)
  dsimp only [Pt.U, Pt.locs, Pt.cells, Pt.slots] at X66 l66 y66 z66 st66 hQ66
  subst l66 y66 z66
  obtain ⟨rfl, Nq66, Kq66, Ve66⟩ := hQ66
  have KK66 : Keep T64.heap T66.heap [ea] := Kq66
  have sz66 : T64.heap.size ≤ T66.heap.size := KK66.1
  have K66 : Keep h0 T66.heap [] := K64.trans KK66 (allS (Or.inr (own_le (by omega))) all0)
  have c66 : CHr Z consts_1 s.vm T64.heap s.vm T66.heap := CHr.keep KK66 (allS Sf64_65 all0) C64.1
  have C66 := C64.trans c66
  have Sf66_67 := c66.safe (own_lt (by omega)) Sf64_65
  have N66 := Fr.app N64 Nq66
  have hq66 := (own_enc_len w1).1
  refine own_st st66 ?_
  refine own_st (fun tq kq => XS.istore X66.here hx rfl (hb hby at_271) rfl (l' := #[vI p0, vI p1, vI p2, vI p3, vI 3, vI w0, vI w1, vI w2, vR b60, vR ea, vI (Int32.ofNat ((own_hdr ++ own_enc w0) ++ own_enc w1).length), .unset, .unset]) rfl kq) ?_
  refine s_iload X66 hx (hb hby at_273) rfl ?_
  refine s_iconst X66 hx (hb hby at_275) ?_
  show own_G p e below _ (T66.setTop (mkF m 276 #[vI p0, vI p1, vI p2, vI p3, vI 3, vI w0, vI w1, vI w2, vR b60, vR ea, vI (Int32.ofNat ((own_hdr ++ own_enc w0) ++ own_enc w1).length), .unset, .unset] [(.int 2), (.int 3)]))
  refine own_st (fun tq kq => XS.icmpNo X66.here hx rfl (hb hby at_276) rfl (tlt (by decide : ((2 : Int32) < (3 : Int32)))).2.2.2 kq) ?_
  refine s_aload X66 hx (hb hby at_279) rfl rfl ?_
  refine s_iload X66 hx (hb hby at_281) rfl ?_
  refine s_iload X66 hx (hb hby at_283) rfl ?_
  obtain ⟨_, _, ⟨T68, L68, k68, n68⟩, -, X68, ⟨Lc68, hQ68, l68, y68, z68⟩, st68⟩ := Jvm.LawKit.callS X66 hx (y := mN51) hown (mvT hZ (wd7 hw)) (mvT hZ (wd8 hw)) (mvT hZ (wd2 hw)) (mvT hZ (wd9 hw)) (by decide) (own_backN (W := 0) (own_putC l Z a0 hw [] (ea) (ke) (((own_hdr ++ own_enc w0) ++ own_enc w1)) (w2) T66.heap n0 (by omega) (X00.keep K66 all0) Ve66 (by simp only [List.length_append, List.length_cons, List.length_nil]; omega) (by omega)) hZ (wd9 hw) (wd2 hw) (by decide) (by decide)) (g := (mkF m 285 #[vI p0, vI p1, vI p2, vI p3, vI 3, vI w0, vI w1, vI w2, vR b60, vR ea, vI (Int32.ofNat ((own_hdr ++ own_enc w0) ++ own_enc w1).length), .unset, .unset] [(.int w2), (.int (Int32.ofNat ((own_hdr ++ own_enc w0) ++ own_enc w1).length)), (.ref ea)])) rfl (by rw [hml]; rfl) (argsL := [(.ref ea), (.int (Int32.ofNat ((own_hdr ++ own_enc w0) ++ own_enc w1).length)), (.int w2)]) (rest := []) (lenOf own_pd29 rfl) rfl (Nat.le_of_eq rfl) (hb hby at_285) (fun _ _ => ⟨rfl, rfl, (by decide : 2 + 0 ≤ _), (by decide : 33 + 0 ≤ _)⟩)
  dsimp only [Pt.U, Pt.locs, Pt.cells, Pt.slots] at X68 l68 y68 z68 st68 hQ68
  subst l68 y68 z68
  obtain ⟨rfl, Nq68, Kq68, Ve68⟩ := hQ68
  have KK68 : Keep T66.heap T68.heap [ea] := Kq68
  have sz68 : T66.heap.size ≤ T68.heap.size := KK68.1
  have K68 : Keep h0 T68.heap [] := K66.trans KK68 (allS (Or.inr (own_le (by omega))) all0)
  have c68 : CHr Z consts_1 s.vm T66.heap s.vm T68.heap := CHr.keep KK68 (allS Sf66_67 all0) C66.1
  have C68 := C66.trans c68
  have Sf68_69 := c68.safe (own_lt (by omega)) Sf66_67
  have N68 := Fr.app N66 Nq68
  have hq68 := (own_enc_len w2).1
  refine own_st st68 ?_
  refine own_st (fun tq kq => XS.istore X68.here hx rfl (hb hby at_288) rfl (l' := #[vI p0, vI p1, vI p2, vI p3, vI 3, vI w0, vI w1, vI w2, vR b60, vR ea, vI (Int32.ofNat (((own_hdr ++ own_enc w0) ++ own_enc w1) ++ own_enc w2).length), .unset, .unset]) rfl kq) ?_
  show own_G p e below _ (T68.setTop (mkF m 290 #[vI p0, vI p1, vI p2, vI p3, vI 3, vI w0, vI w1, vI w2, vR b60, vR ea, vI (Int32.ofNat (((own_hdr ++ own_enc w0) ++ own_enc w1) ++ own_enc w2).length), .unset, .unset] []))
  have hDk : ∀ c ∈ ([w0, w1, w2] : List Int32), own_dr c := by
    intro c hc
    simp only [List.mem_cons, List.not_mem_nil, or_false] at hc
    rcases hc with rfl | rfl | rfl
    · exact Dc0
    · exact Dc1
    · exact Dc2
  exact fin T68 T68.heap _ b60 ea (3 : Int32) w0 w1 w2 k60 ke _ ([w0, w1, w2] : List Int32) (((own_hdr ++ own_enc w0) ++ own_enc w1) ++ own_enc w2) X68 rfl N68 K68 C68 (by omega) (by omega) (by omega) (own_ne (by omega)) Sf68_69 (by have q := (((Vbk.keep KK64 (ninS (own_ne (by omega)) nin0)).keep KK66 (ninS (own_ne (by omega)) nin0)).keep KK68 (ninS (own_ne (by omega)) nin0)); simp only [nc0, nc1, nc2] at q; exact q) Ve68 (by simp) hDk (by simp only [own_u8, List.flatMap_cons, List.flatMap_nil, List.append_nil, List.append_assoc])
 refine own_st (fun tq kq => castTop (ef_rm0 m (p0) (p1) (p2) (p3)) kq) ?_
 show own_G p e below _ (s₁.setTop (mkF m 0 #[vI p0, vI p1, vI p2, vI p3, .unset, .unset, .unset, .unset, .unset, .unset, .unset, .unset, .unset] []))
 refine s_iloadN X0 hx (hb hby at_0) rfl ?_
 refine s_iconst X0 hx (hb hby at_1) ?_
 refine own_st (fun tq kq => XS.iand X0.here hx rfl (hb hby at_2) rfl kq) ?_
 refine own_st (fun tq kq => XS.istore X0.here hx rfl (hb hby at_3) rfl (l' := #[vI p0, vI p1, vI p2, vI p3, vI (p3 &&& (3 : Int32)), .unset, .unset, .unset, .unset, .unset, .unset, .unset, .unset]) rfl kq) ?_
 refine s_iloadN X0 hx (hb hby at_5) rfl ?_
 obtain ⟨_, _, ⟨T70, L70, k70, n70⟩, -, X70, ⟨Lc70, hQ70, l70, y70, z70⟩, st70⟩ := Jvm.LawKit.callS X0 hx (y := mN50) hown (mvT hZ (wd0 hw)) (mvT hZ (wd1 hw)) (mvT hZ (wd2 hw)) (mvT hZ (wd3 hw)) (by decide) (own_backN (W := 0) (own_drawC l Z a0 hw [] (p0) h0 n0 (by omega) (X00.keep K0 all0) ) hZ (wd3 hw) (wd2 hw) (by decide) (by decide)) (g := (mkF m 6 #[vI p0, vI p1, vI p2, vI p3, vI (p3 &&& (3 : Int32)), .unset, .unset, .unset, .unset, .unset, .unset, .unset, .unset] [(.int p0)])) rfl (by rw [hml]; rfl) (argsL := [(.int p0)]) (rest := []) (lenOf own_pd1 rfl) rfl (Nat.le_of_eq rfl) (hb hby at_6) (fun _ _ => ⟨rfl, e0, (by decide : 0 + 0 ≤ _), (by decide : 0 + 0 ≤ _)⟩)
 dsimp only [Pt.U, Pt.locs, Pt.cells, Pt.slots] at X70 l70 y70 z70 st70 hQ70
 subst l70 y70 z70
 obtain ⟨rfl, Nq70, sm70⟩ := hQ70
 have N70 := Fr.app N0 Nq70
 refine own_st st70 ?_
 refine own_st (fun tq kq => XS.istore X70.here hx rfl (hb hby at_9) rfl (l' := #[vI p0, vI p1, vI p2, vI p3, vI (p3 &&& (3 : Int32)), vI (own_draw p0), .unset, .unset, .unset, .unset, .unset, .unset, .unset]) rfl kq) ?_
 refine s_iloadN X70 hx (hb hby at_11) rfl ?_
 obtain ⟨_, _, ⟨T71, L71, k71, n71⟩, -, X71, ⟨Lc71, hQ71, l71, y71, z71⟩, st71⟩ := Jvm.LawKit.callS X70 hx (y := mN50) hown (mvT hZ (wd0 hw)) (mvT hZ (wd1 hw)) (mvT hZ (wd2 hw)) (mvT hZ (wd3 hw)) (by decide) (own_backN (W := 0) (own_drawC l Z a0 hw [] (p1) h0 n0 (by omega) (X00.keep K0 all0) ) hZ (wd3 hw) (wd2 hw) (by decide) (by decide)) (g := (mkF m 12 #[vI p0, vI p1, vI p2, vI p3, vI (p3 &&& (3 : Int32)), vI (own_draw p0), .unset, .unset, .unset, .unset, .unset, .unset, .unset] [(.int p1)])) rfl (by rw [hml]; rfl) (argsL := [(.int p1)]) (rest := []) (lenOf own_pd1 rfl) rfl (Nat.le_of_eq rfl) (hb hby at_12) (fun _ _ => ⟨rfl, sm70, (by decide : 0 + 0 ≤ _), (by decide : 0 + 0 ≤ _)⟩)
 dsimp only [Pt.U, Pt.locs, Pt.cells, Pt.slots] at X71 l71 y71 z71 st71 hQ71
 subst l71 y71 z71
 obtain ⟨rfl, Nq71, sm71⟩ := hQ71
 have N71 := Fr.app N70 Nq71
 refine own_st st71 ?_
 refine own_st (fun tq kq => XS.istore X71.here hx rfl (hb hby at_15) rfl (l' := #[vI p0, vI p1, vI p2, vI p3, vI (p3 &&& (3 : Int32)), vI (own_draw p0), vI (own_draw p1), .unset, .unset, .unset, .unset, .unset, .unset]) rfl kq) ?_
 refine s_iloadN X71 hx (hb hby at_17) rfl ?_
 obtain ⟨_, _, ⟨T72, L72, k72, n72⟩, -, X72, ⟨Lc72, hQ72, l72, y72, z72⟩, st72⟩ := Jvm.LawKit.callS X71 hx (y := mN50) hown (mvT hZ (wd0 hw)) (mvT hZ (wd1 hw)) (mvT hZ (wd2 hw)) (mvT hZ (wd3 hw)) (by decide) (own_backN (W := 0) (own_drawC l Z a0 hw [] (p2) h0 n0 (by omega) (X00.keep K0 all0) ) hZ (wd3 hw) (wd2 hw) (by decide) (by decide)) (g := (mkF m 18 #[vI p0, vI p1, vI p2, vI p3, vI (p3 &&& (3 : Int32)), vI (own_draw p0), vI (own_draw p1), .unset, .unset, .unset, .unset, .unset, .unset] [(.int p2)])) rfl (by rw [hml]; rfl) (argsL := [(.int p2)]) (rest := []) (lenOf own_pd1 rfl) rfl (Nat.le_of_eq rfl) (hb hby at_18) (fun _ _ => ⟨rfl, sm71, (by decide : 0 + 0 ≤ _), (by decide : 0 + 0 ≤ _)⟩)
 dsimp only [Pt.U, Pt.locs, Pt.cells, Pt.slots] at X72 l72 y72 z72 st72 hQ72
 subst l72 y72 z72
 obtain ⟨rfl, Nq72, sm72⟩ := hQ72
 have N72 := Fr.app N71 Nq72
 refine own_st st72 ?_
 refine own_st (fun tq kq => XS.istore X72.here hx rfl (hb hby at_21) rfl (l' := #[vI p0, vI p1, vI p2, vI p3, vI (p3 &&& (3 : Int32)), vI (own_draw p0), vI (own_draw p1), vI (own_draw p2), .unset, .unset, .unset, .unset, .unset]) rfl kq) ?_
 show own_G p e below _ (T72.setTop (mkF m 23 #[vI p0, vI p1, vI p2, vI p3, vI (p3 &&& (3 : Int32)), vI (own_draw p0), vI (own_draw p1), vI (own_draw p2), .unset, .unset, .unset, .unset, .unset] []))
 rcases own_and3 p3 with q3 | q3 | q3 | q3
 · rw [q3]; exact tail0 T72 _ (own_draw p0) (own_draw p1) (own_draw p2) X72 sm72 N72 (own_draw_ok p0) (own_draw_ok p1) (own_draw_ok p2)
 · rw [q3]; exact tail1 T72 _ (own_draw p0) (own_draw p1) (own_draw p2) X72 sm72 N72 (own_draw_ok p0) (own_draw_ok p1) (own_draw_ok p2)
 · rw [q3]; exact tail2 T72 _ (own_draw p0) (own_draw p1) (own_draw p2) X72 sm72 N72 (own_draw_ok p0) (own_draw_ok p1) (own_draw_ok p2)
 · rw [q3]; exact tail3 T72 _ (own_draw p0) (own_draw p1) (own_draw p2) X72 sm72 N72 (own_draw_ok p0) (own_draw_ok p1) (own_draw_ok p2)

set_option maxRecDepth 65536 in
set_option maxHeartbeats 40000000 in
theorem comes_1 {Post : Tables → Env → Array Value → State → Outcome → State → Prop} (hpost : ∀ tb e args s v u, (limb_1_1.after args s (.returned v) u = true ∧ limb_1_2.after args s (.returned v) u = true ∧ True) → ReturnedEndW s (.returned v) u (Jvm.fieldLocs frame_1_writes args s ++ Jvm.arrayLocs frame_1_arrays args s ++ Jvm.staticLocs frame_1_statics s) 40 3840 → Post tb e args s (.returned v) u) :
    ArmFor flags0 classFile x code maxLocals ret World_1 tables_1 room_1 Calls_1 rest_1 Pre_1 Post := by
  intro l hfl _ _ p e ha hc hk s m args below hf hA hF happ hP
  obtain ⟨hcalls, hrest, hpre⟩ := hP
  obtain ⟨-, -, -, hnamed, -, -, -, hat⟩ := (Spec.applies_iff hf).mp happ
  obtain ⟨hg, hn⟩ := and_e (Cond.before_iff.mp (show (Jvm.Cond.and given_1 narrow_1).before args s = true from hpre))
  obtain ⟨ga0, gb0⟩ := and_e hg
  obtain ⟨ga1, gb1⟩ := and_e gb0
  obtain ⟨ga2, gb2⟩ := and_e gb1
  obtain ⟨ga3, gb3⟩ := and_e gb2
  obtain ⟨w0, w1, w2, w3, rfl⟩ : ∃ w0 w1 w2 w3 : Value, args = #[w0, w1, w2, w3] := by
    have hs : args.size = 4 := by simpa [Cond.value, given_1] using ga0
    obtain ⟨L⟩ := args
    match L, hs with
    | [w0, w1, w2, w3], _ => exact ⟨w0, w1, w2, w3, rfl⟩
  have hw := fun d (hd : d ∈ tables_1) => atoms_spec (ws := Jvm.Cond.code x code maxLocals ret :: tables_1) hat d (List.mem_cons_of_mem _ hd)
  have hfit : Fit s := fun {y c} hc i hi => by
    obtain ⟨ha, rfl⟩ := Array.getElem?_eq_some_iff.mp hc
    have q := List.all_eq_true.mp ((Array.all_eq_true_iff_forall_mem.mp hF) _ (Array.getElem_mem ha)) i (List.mem_range.mpr hi)
    simpa [Array.getElem?_eq_getElem hi] using q
  obtain ⟨hsets, hown0⟩ := atoms_of _ (rest_1_c_eq ▸ (show rest_1_c.before _ s = true from hrest))
  have hr0 := Cond.before_iff.mp hown0
  obtain ⟨i0, ei0⟩ := is_v ga1
  obtain rfl : w0 = (.int i0) := Option.some.inj ei0
  obtain ⟨i1, ei1⟩ := is_v ga2
  obtain rfl : w1 = (.int i1) := Option.some.inj ei1
  obtain ⟨i2, ei2⟩ := is_v ga3
  obtain rfl : w2 = (.int i2) := Option.some.inj ei2
  obtain ⟨i3, ei3⟩ := is_v gb3
  obtain rfl : w3 = (.int i3) := Option.some.inj ei3
  have n5 := not_v (Cond.before_iff.mp (hsets _ (List.mem_of_getElem? (i := 2) rfl)))
  obtain ⟨iG, eG⟩ := is_v (Cond.before_iff.mp (hsets _ (List.mem_of_getElem? (i := 1) rfl)))
  have SG : Sta s s.heap "java/lang/String" "COMPACT_STRINGS" "Z" (.int iG) := Sta.start eG (Or.inl (hsets _ (List.mem_of_getElem? (i := 0) rfl)))
  have cG : ¬ (iG = (0 : Int32)) := gotF (Cond.eq_ints eG (Term.int_eval (0))) n5
  have OA : Sta s s.heap "java/lang/StringUTF16" "$assertionsDisabled" "Z" (.int (1 : Int32)) := Sta.start (Cond.eq_int (hsets _ (List.mem_of_getElem? (i := 21) rfl)) rfl) (Or.inl (hsets _ (List.mem_of_getElem? (i := 20) rfl)))
  have OH : Sta s s.heap "java/lang/StringUTF16" "HI_BYTE_SHIFT" "I" (.int (0 : Int32)) := Sta.start (Cond.eq_int (hsets _ (List.mem_of_getElem? (i := 24) rfl)) rfl) (Or.inl (hsets _ (List.mem_of_getElem? (i := 23) rfl)))
  have OL : Sta s s.heap "java/lang/StringUTF16" "LO_BYTE_SHIFT" "I" (.int (8 : Int32)) := Sta.start (Cond.eq_int (hsets _ (List.mem_of_getElem? (i := 27) rfl)) rfl) (Or.inl (hsets _ (List.mem_of_getElem? (i := 26) rfl)))
  obtain ⟨fm, efm, rfm⟩ := isR_v (Cond.before_iff.mp (hsets _ (List.mem_of_getElem? (i := 8) rfl)))
  have O4 : Sta s s.heap "jdk/internal/util/Preconditions" "SIOOBE_FORMATTER" "Ljava/util/function/BiFunction;" fm := Sta.start efm (Or.inl (hsets _ (List.mem_of_getElem? (i := 7) rfl)))
  have nw0 := Cond.before_iff.mp (hsets _ (List.mem_of_getElem? (i := 14) rfl))
  obtain ⟨u8, eu8⟩ := exa_v nw0
  obtain ⟨yU, eU, eIn⟩ := Cond.eq_one (hsets _ (List.mem_of_getElem? (i := 13) rfl))
  obtain rfl : yU = .ref u8 := Option.some.inj (eU.symm.trans eu8)
  have O5 : Sta s s.heap "java/nio/charset/StandardCharsets" "UTF_8" "Ljava/nio/charset/Charset;" (.ref u8) := Sta.start eu8 (Or.inl (hsets _ (List.mem_of_getElem? (i := 10) rfl)))
  have OI : Sta s s.heap "sun/nio/cs/UTF_8" "INSTANCE" "Lsun/nio/cs/UTF_8;" (.ref u8) := Sta.start eIn (Or.inl (hsets _ (List.mem_of_getElem? (i := 12) rfl)))
  have hEL : EW s _ consts_1 := (EW.cons (wd60 hw) (by decide) (EW.cons (wd133 hw) (by decide) (EW.cons (wd212 hw) (by decide) EW.nil)))
  have hheld : ∀ p ∈ consts_1, Jvm.Lit.constHeld s p.1 p.2 := hcalls.1
  have hcw : Jvm.Lit.compactW.before _ s = true := hsets _ (List.mem_of_getElem? (i := 2) rfl)
  have hCH : CHv s consts_1 s.vm s.heap := CHv.start hEL hheld hcw (wd6 hw) (wd11 hw)
  obtain ⟨n, o, h1, h2, h3, _, L, rfl, ⟨rfl, N⟩, -, hq⟩ := rm0 l s _ hw hEL tables_1 i0 i1 i2 i3 iG u8 fm s.heap s.heap.size (Nat.le_refl _) (Old.start s) O5 OI SG cG OA OH OL O4 rfm p e ha hc hk s m _ below hf ((Spec.applies_iff_loose hf).mp happ).1 ⟨rfl, State.Warmed39.refl s, rfl, hCH, all0⟩ trivial
  refine ⟨n, _, h1, h2, h3, hpost _ _ _ _ _ _ ⟨Cond.after_iff.mpr rfl, Cond.after_iff.mpr (eq_i res_at (Term.int_eval (1)) rfl), trivial⟩ ⟨hq.1, hq.2.1, hq.2.2.1, (hq.2.2.2.sift fun y hy => Or.inr (N y hy)).mono (by decide) (by decide)⟩⟩
theorem main_1_1 : Claimed_1_1 := comes_1 fun _ _ _ _ _ _ h hF => ⟨h.1, hF⟩
theorem main_1_2 : Claimed_1_2 := comes_1 fun _ _ _ _ _ _ h hF => ⟨h.2.1, hF⟩
end Jvm.Pilot.@@N@@
namespace Jvm.Pilot.@@N@@
open Jvm Jvm.ClassFile Sem Op Lib Jvm.Free Jvm.Stand Jvm.Pilot.@@N@@.Jvm.D
/-! MADE BY PROGRAM (witnessworld.py) out of the Statement's table words and the real class files: 33 classes; the members and pool entries that the words name. The judged class is class 1, her method 1. -/
namespace start1
open Jvm.ClassFile
def u (s : String) : CpInfo := .utf8 (stringToUtf16 s)
/-- a pool by its gaps: so many unusable entries, then the entry; so many at the end -/
def gap : Nat → List CpInfo → List CpInfo
  | 0, r => r
  | n + 1, r => .unusable :: gap n r
def poolList (es : List (Nat × CpInfo)) (last : Nat) : List CpInfo := es.foldr (fun e r => gap e.1 (e.2 :: r)) (gap last [])
def pool (es : List (Nat × CpInfo)) (last : Nat) : Array CpInfo := ⟨poolList es last⟩
def fileOf (pool : Array CpInfo) (this : Nat) (attrs : Array Attribute := #[]) (ms : Array MethodInfo := #[]) (fl : Nat := 33) (sup : Nat := 0) (ifs : Array Nat := #[]) (fds : Array FieldInfo := #[]) : ClassFile where
  minorVersion := 0
  majorVersion := 65
  constantPool := pool
  accessFlags := fl
  thisClass := this
  superClass := sup
  interfaces := ifs
  fields := fds
  methods := ms
  attributes := attrs
def plain (name : String) (sup : Option ClassId) : Class where
  name := name
  kind := .ordinary
  loader := none
  accessFlags := 33
  super := sup
  interfaces := #[]
  cf := none
  fields := #[]
  methods := #[]
  instanceTypes := #[]
  staticTypes := #[]
  resolved := #[]
  callSites := []
  init := .initialized
  statics := none
  mirror := none

def pool0 : Array CpInfo := pool [(5, u "<init>"), (0, u "()V"), (1, .class_ 10), (1, u "java/lang/Object"), (85, u "clone"), (0, u "()Ljava/lang/Object;")] 26

def k0c0 : Code := { maxStack := 0, maxLocals := 1, code := object_method_1_code, exceptionTable := #[], attributes := #[] }
def k0m0 : Method := { name := "<init>", desc := "()V", sig := { parameters := [], returnType := none }, accessFlags := 1, code := some k0c0 }
def k0m1 : Method := { name := "clone", desc := "()Ljava/lang/Object;", sig := { parameters := [], returnType := some (.object "java/lang/Object") }, accessFlags := 260, code := none }
/-- java/lang/Object -/
def k0 : Class := { plain "java/lang/Object" none with
  accessFlags := 33
  interfaces := #[]
  cf := some (fileOf pool0 8 #[] #[{ accessFlags := 1, nameIndex := 5, descriptorIndex := 6, attributes := #[] }, { accessFlags := 260, nameIndex := 96, descriptorIndex := 97, attributes := #[] }] 33 0 #[] #[])
  fields := #[]
  methods := #[k0m0, k0m1]
  instanceTypes := #[]
  staticTypes := #[]
  resolved := Array.replicate 124 none
  statics := none }

def pool1 : Array CpInfo := pool [(2, .class_ 4), (1, u "java/lang/Object"), (0, u "<init>"), (0, u "()V"), (0, .methodref 8 9), (0, .class_ 10), (0, .nameAndType 11 12), (0, u "com/example/sieveline/sieveline/server/NotificationStreamMatchFramePinLaw"), (0, u "draw"), (0, u "(I)I"), (0, .methodref 8 14), (0, .nameAndType 15 16), (0, u "put"), (0, u "([BII)I"), (0, .class_ 18), (0, u "java/lang/String"), (0, .methodref 17 20), (0, .nameAndType 5 21), (0, u "([C)V"), (0, .methodref 23 24), (0, .class_ 25), (0, .nameAndType 26 27), (0, u "com/example/sieveline/sieveline/server/NotificationStream"), (0, u "matchFrame"), (0, u "(Ljava/lang/String;)[B"), (0, .methodref 8 29), (0, .nameAndType 30 31), (0, u "eq10"), (0, u "([B[BII)Z"), (0, .integer 65535), (0, .integer 55296), (0, .integer 57343), (0, .methodref 8 36), (0, .nameAndType 37 31), (0, u "same"), (2, u "law"), (0, u "(IIII)Z")] 7

def k1m0 : Method := { name := "<init>", desc := "()V", sig := { parameters := [], returnType := none }, accessFlags := 1, code := none }
def k1c1 : Code := { maxStack := 4, maxLocals := 13, code := code, exceptionTable := #[], attributes := #[] }
def k1m1 : Method := { name := "law", desc := "(IIII)Z", sig := { parameters := [.int, .int, .int, .int], returnType := some .boolean }, accessFlags := 9, code := some k1c1 }
def k1c2 : Code := { maxStack := 2, maxLocals := 3, code := method_3_code, exceptionTable := #[], attributes := #[] }
def k1m2 : Method := { name := "draw", desc := "(I)I", sig := { parameters := [.int], returnType := some .int }, accessFlags := 10, code := some k1c2 }
def k1c3 : Code := { maxStack := 5, maxLocals := 3, code := method_4_code, exceptionTable := #[], attributes := #[] }
def k1m3 : Method := { name := "put", desc := "([BII)I", sig := { parameters := [(.array .byte), .int, .int], returnType := some .int }, accessFlags := 10, code := some k1c3 }
def k1c4 : Code := { maxStack := 3, maxLocals := 4, code := method_5_code, exceptionTable := #[], attributes := #[] }
def k1m4 : Method := { name := "same", desc := "([B[BII)Z", sig := { parameters := [(.array .byte), (.array .byte), .int, .int], returnType := some .boolean }, accessFlags := 10, code := some k1c4 }
def k1c5 : Code := { maxStack := 5, maxLocals := 4, code := method_6_code, exceptionTable := #[], attributes := #[] }
def k1m5 : Method := { name := "eq10", desc := "([B[BII)Z", sig := { parameters := [(.array .byte), (.array .byte), .int, .int], returnType := some .boolean }, accessFlags := 10, code := some k1c5 }
/-- com/example/sieveline/sieveline/server/NotificationStreamMatchFramePinLaw -/
def k1 : Class := { plain "com/example/sieveline/sieveline/server/NotificationStreamMatchFramePinLaw" (some 0) with
  accessFlags := 49
  interfaces := #[]
  cf := some (fileOf pool1 8 #[] #[{ accessFlags := 1, nameIndex := 5, descriptorIndex := 6, attributes := #[] }, { accessFlags := 9, nameIndex := 40, descriptorIndex := 41, attributes := #[] }, { accessFlags := 10, nameIndex := 11, descriptorIndex := 12, attributes := #[] }, { accessFlags := 10, nameIndex := 15, descriptorIndex := 16, attributes := #[] }, { accessFlags := 10, nameIndex := 37, descriptorIndex := 31, attributes := #[] }, { accessFlags := 10, nameIndex := 30, descriptorIndex := 31, attributes := #[] }] 49 2 #[] #[])
  fields := #[]
  methods := #[k1m0, k1m1, k1m2, k1m3, k1m4, k1m5]
  instanceTypes := #[]
  staticTypes := #[]
  resolved := Array.replicate 49 none
  statics := none }

def pool2 : Array CpInfo := pool [(1, .class_ 2), (0, u "java/io/Serializable"), (0, .class_ 4), (0, u "java/lang/Object")] 2

/-- java/io/Serializable -/
def k2 : Class := { plain "java/io/Serializable" (some 0) with
  accessFlags := 1537
  interfaces := #[]
  cf := some (fileOf pool2 1 #[] #[] 1537 3 #[] #[])
  fields := #[]
  methods := #[]
  instanceTypes := #[]
  staticTypes := #[]
  resolved := Array.replicate 7 none
  statics := none }

def pool3 : Array CpInfo := pool [(1, .class_ 2), (0, u "java/lang/Comparable"), (0, .class_ 4), (0, u "java/lang/Object")] 7

/-- java/lang/Comparable -/
def k3 : Class := { plain "java/lang/Comparable" (some 0) with
  accessFlags := 1537
  interfaces := #[]
  cf := some (fileOf pool3 1 #[] #[] 1537 3 #[] #[])
  fields := #[]
  methods := #[]
  instanceTypes := #[]
  staticTypes := #[]
  resolved := Array.replicate 12 none
  statics := none }

def pool4 : Array CpInfo := pool [(2, .class_ 4), (1, u "java/lang/CharSequence"), (42, .class_ 48), (0, u "java/lang/CharSequence$1CodePointIterator"), (10, .class_ 60), (0, u "java/lang/CharSequence$1CharIterator"), (5, .class_ 67), (0, u "java/lang/Object")] 63

/-- java/lang/CharSequence -/
def k4 : Class := { plain "java/lang/CharSequence" (some 0) with
  accessFlags := 1537
  interfaces := #[]
  cf := some (fileOf pool4 2 #[.nestMembers #[47, 59]] #[] 1537 66 #[] #[])
  fields := #[]
  methods := #[]
  instanceTypes := #[]
  staticTypes := #[]
  resolved := Array.replicate 131 none
  statics := none }

def pool5 : Array CpInfo := pool [(1, .class_ 2), (0, u "java/lang/constant/Constable"), (0, .class_ 4), (0, u "java/lang/Object")] 6

/-- java/lang/constant/Constable -/
def k5 : Class := { plain "java/lang/constant/Constable" (some 0) with
  accessFlags := 1537
  interfaces := #[]
  cf := some (fileOf pool5 1 #[] #[] 1537 3 #[] #[])
  fields := #[]
  methods := #[]
  instanceTypes := #[]
  staticTypes := #[]
  resolved := Array.replicate 11 none
  statics := none }

def pool6 : Array CpInfo := pool [(1, .class_ 2), (0, u "java/lang/constant/ConstantDesc"), (0, .class_ 4), (0, u "java/lang/Object")] 32

/-- java/lang/constant/ConstantDesc -/
def k6 : Class := { plain "java/lang/constant/ConstantDesc" (some 0) with
  accessFlags := 1537
  interfaces := #[]
  cf := some (fileOf pool6 1 #[] #[] 1537 3 #[] #[])
  fields := #[]
  methods := #[]
  instanceTypes := #[]
  staticTypes := #[]
  resolved := Array.replicate 37 none
  statics := none }

def pool7 : Array CpInfo := pool [(1, .methodref 2 3), (0, .class_ 4), (0, .nameAndType 5 6), (0, u "java/lang/Object"), (0, u "<init>"), (0, u "()V"), (0, .string 8), (0, u ""), (0, .fieldref 10 11), (0, .class_ 12), (0, .nameAndType 13 14), (0, u "java/lang/String"), (0, u "value"), (0, u "[B"), (0, .fieldref 10 16), (0, .nameAndType 17 18), (0, u "coder"), (0, u "B"), (2, u "hash"), (0, u "I"), (2, u "hashIsZero"), (0, u "Z"), (0, .methodref 10 28), (0, .nameAndType 5 29), (0, u "([CIILjava/lang/Void;)V"), (6, u "checkBoundsOffCount"), (0, u "(III)I"), (0, .fieldref 10 39), (0, .nameAndType 40 26), (0, u "COMPACT_STRINGS"), (1, .class_ 44), (1, u "java/lang/StringUTF16"), (0, u "compress"), (1, .methodref 42 48), (0, .nameAndType 49 50), (0, u "coderFromArrayLen"), (0, u "([BI)B"), (3, .methodref 55 56), (0, .class_ 57), (0, .nameAndType 58 59), (0, u "java/util/Arrays"), (0, u "copyOfRange"), (0, u "([BII)[B"), (0, .methodref 42 61), (0, .nameAndType 62 63), (0, u "newBytesFor"), (0, u "(I)[B"), (22, .fieldref 87 88), (0, .class_ 89), (0, .nameAndType 90 91), (0, u "sun/nio/cs/UTF_8"), (0, u "INSTANCE"), (0, u "Lsun/nio/cs/UTF_8;"), (1, .class_ 95), (1, u "java/lang/StringCoding"), (6, .methodref 55 103), (0, .nameAndType 104 105), (0, u "copyOf"), (0, u "([BI)[B"), (0, .methodref 107 108), (0, .class_ 109), (0, .nameAndType 110 111), (0, u "java/lang/StringLatin1"), (0, u "inflate"), (0, u "([BI[BII)V"), (16, .methodref 93 129), (0, .nameAndType 130 131), (0, u "hasNegatives"), (0, u "([BII)Z"), (10, u "()Z"), (34, .methodref 42 178), (0, .nameAndType 45 179), (0, u "([CII)[B"), (13, .class_ 195), (1, u "java/lang/System"), (16, .methodref 193 213), (0, .nameAndType 214 215), (0, u "arraycopy"), (0, u "(Ljava/lang/Object;ILjava/lang/Object;II)V"), (36, .methodref 10 253), (0, .nameAndType 254 255), (0, u "encodeUTF8"), (0, u "(B[BZ)[B"), (23, .methodref 280 281), (0, .class_ 14), (0, .nameAndType 282 283), (0, u "clone"), (0, u "()Ljava/lang/Object;"), (33, u "encode"), (16, u "()I"), (0, .methodref 10 336), (0, .nameAndType 17 337), (0, u "()B"), (2, u "()[B"), (19, .methodref 42 361), (0, .nameAndType 362 363), (0, u "getChar"), (0, u "([BI)C"), (1, .class_ 367), (1, u "java/lang/Character"), (1, u "(C)Z"), (34, .methodref 365 405), (0, .nameAndType 406 369), (0, u "isSurrogate"), (66, .methodref 10 474), (0, .nameAndType 475 476), (0, u "encodeUTF8_UTF16"), (0, u "([BZ)[B"), (12, .methodref 10 490), (0, .nameAndType 5 491), (0, u "(Ljava/lang/AbstractStringBuilder;Ljava/lang/Void;)V"), (1, .nameAndType 494 142), (0, u "isLatin1"), (11, .nameAndType 507 334), (0, u "length"), (24, u "getBytes"), (2, .methodref 10 536), (0, .nameAndType 317 537), (0, u "(Ljava/nio/charset/Charset;B[B)[B"), (11, .methodref 550 506), (0, .class_ 551), (0, u "java/lang/AbstractStringBuilder"), (0, .methodref 550 553), (0, .nameAndType 554 340), (0, u "getValue"), (20, .class_ 576), (0, u "java/lang/CharSequence"), (22, u "CASE_INSENSITIVE_ORDER"), (0, u "Ljava/util/Comparator;"), (220, u "([BIB)V"), (188, u "([C)V"), (36, .methodref 550 493), (0, .fieldref 550 1049), (0, .nameAndType 1050 26), (0, u "maybeLatin1"), (2, .fieldref 1054 1055), (0, .class_ 1056), (0, .nameAndType 1057 1058), (0, u "jdk/internal/util/Preconditions"), (0, u "SIOOBE_FORMATTER"), (0, u "Ljava/util/function/BiFunction;"), (5, u "(IIILjava/util/function/BiFunction;)I"), (0, .methodref 1054 1066), (0, .nameAndType 1067 1064), (0, u "checkFromIndexSize"), (33, u "serialPersistentFields"), (0, u "[Ljava/io/ObjectStreamField;"), (0, .class_ 1104), (0, u "java/lang/String$CaseInsensitiveComparator"), (1, .class_ 1107), (0, u "java/io/Serializable"), (0, .class_ 1109), (0, u "java/lang/Comparable"), (0, .class_ 1111), (0, u "java/lang/constant/Constable"), (0, .class_ 1113), (0, u "java/lang/constant/ConstantDesc"), (2, u "serialVersionUID"), (0, u "J"), (3, u "REPL"), (0, u "C"), (2, u "LATIN1"), (1, u "UTF16"), (105, u "(Ljava/lang/StringBuilder;)V"), (11, u "(Ljava/nio/charset/Charset;)[B")] 205

def k7m0 : Method := { name := "<init>", desc := "()V", sig := { parameters := [], returnType := none }, accessFlags := 1, code := none }
def k7c1 : Code := { maxStack := 5, maxLocals := 2, code := jdk_42_method_3_code, exceptionTable := #[], attributes := #[] }
def k7m1 : Method := { name := "<init>", desc := "([C)V", sig := { parameters := [(.array .char)], returnType := none }, accessFlags := 1, code := some k7c1 }
def k7c2 : Code := { maxStack := 4, maxLocals := 3, code := jdk_42_method_18_code, exceptionTable := #[], attributes := #[] }
def k7m2 : Method := { name := "encode", desc := "(Ljava/nio/charset/Charset;B[B)[B", sig := { parameters := [(.object "java/nio/charset/Charset"), .byte, (.array .byte)], returnType := some (.array .byte) }, accessFlags := 10, code := some k7c2 }
def k7c3 : Code := { maxStack := 5, maxLocals := 9, code := jdk_42_method_46_code, exceptionTable := #[], attributes := #[] }
def k7m3 : Method := { name := "encodeUTF8", desc := "(B[BZ)[B", sig := { parameters := [.byte, (.array .byte), .boolean], returnType := some (.array .byte) }, accessFlags := 10, code := some k7c3 }
def k7c4 : Code := { maxStack := 5, maxLocals := 9, code := jdk_42_method_47_code, exceptionTable := #[], attributes := #[] }
def k7m4 : Method := { name := "encodeUTF8_UTF16", desc := "([BZ)[B", sig := { parameters := [(.array .byte), .boolean], returnType := some (.array .byte) }, accessFlags := 10, code := some k7c4 }
def k7c5 : Code := { maxStack := 3, maxLocals := 2, code := jdk_42_method_53_code, exceptionTable := #[], attributes := #[] }
def k7m5 : Method := { name := "<init>", desc := "(Ljava/lang/StringBuilder;)V", sig := { parameters := [(.object "java/lang/StringBuilder")], returnType := none }, accessFlags := 1, code := some k7c5 }
def k7c6 : Code := { maxStack := 2, maxLocals := 1, code := jdk_42_method_54_code, exceptionTable := #[], attributes := #[] }
def k7m6 : Method := { name := "length", desc := "()I", sig := { parameters := [], returnType := some .int }, accessFlags := 1, code := some k7c6 }
def k7c7 : Code := { maxStack := 3, maxLocals := 2, code := jdk_42_method_64_code, exceptionTable := #[], attributes := #[] }
def k7m7 : Method := { name := "getBytes", desc := "(Ljava/nio/charset/Charset;)[B", sig := { parameters := [(.object "java/nio/charset/Charset")], returnType := some (.array .byte) }, accessFlags := 1, code := some k7c7 }
def k7c8 : Code := { maxStack := 5, maxLocals := 4, code := jdk_42_method_147_code, exceptionTable := #[], attributes := #[] }
def k7m8 : Method := { name := "getBytes", desc := "([BIB)V", sig := { parameters := [(.array .byte), .int, .byte], returnType := none }, accessFlags := 0, code := some k7c8 }
def k7c9 : Code := { maxStack := 4, maxLocals := 6, code := jdk_42_method_149_code, exceptionTable := #[], attributes := #[] }
def k7m9 : Method := { name := "<init>", desc := "([CIILjava/lang/Void;)V", sig := { parameters := [(.array .char), .int, .int, (.object "java/lang/Void")], returnType := none }, accessFlags := 2, code := some k7c9 }
def k7c10 : Code := { maxStack := 5, maxLocals := 5, code := jdk_42_method_150_code, exceptionTable := #[], attributes := #[] }
def k7m10 : Method := { name := "<init>", desc := "(Ljava/lang/AbstractStringBuilder;Ljava/lang/Void;)V", sig := { parameters := [(.object "java/lang/AbstractStringBuilder"), (.object "java/lang/Void")], returnType := none }, accessFlags := 0, code := some k7c10 }
def k7c11 : Code := { maxStack := 1, maxLocals := 1, code := jdk_42_method_152_code, exceptionTable := #[], attributes := #[] }
def k7m11 : Method := { name := "coder", desc := "()B", sig := { parameters := [], returnType := some .byte }, accessFlags := 0, code := some k7c11 }
def k7c12 : Code := { maxStack := 4, maxLocals := 3, code := jdk_42_method_157_code, exceptionTable := #[], attributes := #[] }
def k7m12 : Method := { name := "checkBoundsOffCount", desc := "(III)I", sig := { parameters := [.int, .int, .int], returnType := some .int }, accessFlags := 8, code := some k7c12 }
/-- java/lang/String -/
def k7 : Class := { plain "java/lang/String" (some 0) with
  accessFlags := 49
  interfaces := #[2, 3, 4, 5, 6]
  cf := some (fileOf pool7 10 #[.nestMembers #[1103]] #[{ accessFlags := 1, nameIndex := 5, descriptorIndex := 6, attributes := #[] }, { accessFlags := 1, nameIndex := 5, descriptorIndex := 1010, attributes := #[] }, { accessFlags := 10, nameIndex := 317, descriptorIndex := 537, attributes := #[] }, { accessFlags := 10, nameIndex := 254, descriptorIndex := 255, attributes := #[] }, { accessFlags := 10, nameIndex := 475, descriptorIndex := 476, attributes := #[] }, { accessFlags := 1, nameIndex := 5, descriptorIndex := 1233, attributes := #[] }, { accessFlags := 1, nameIndex := 507, descriptorIndex := 334, attributes := #[] }, { accessFlags := 1, nameIndex := 532, descriptorIndex := 1245, attributes := #[] }, { accessFlags := 0, nameIndex := 532, descriptorIndex := 821, attributes := #[] }, { accessFlags := 2, nameIndex := 5, descriptorIndex := 29, attributes := #[] }, { accessFlags := 0, nameIndex := 5, descriptorIndex := 491, attributes := #[] }, { accessFlags := 0, nameIndex := 17, descriptorIndex := 337, attributes := #[] }, { accessFlags := 8, nameIndex := 36, descriptorIndex := 37, attributes := #[] }] 49 2 #[1106, 1108, 575, 1110, 1112] #[{ accessFlags := 18, nameIndex := 13, descriptorIndex := 14, attributes := #[] }, { accessFlags := 18, nameIndex := 17, descriptorIndex := 18, attributes := #[] }, { accessFlags := 2, nameIndex := 21, descriptorIndex := 22, attributes := #[] }, { accessFlags := 2, nameIndex := 25, descriptorIndex := 26, attributes := #[] }, { accessFlags := 26, nameIndex := 1116, descriptorIndex := 1117, attributes := #[] }, { accessFlags := 24, nameIndex := 40, descriptorIndex := 26, attributes := #[] }, { accessFlags := 26, nameIndex := 1101, descriptorIndex := 1102, attributes := #[] }, { accessFlags := 26, nameIndex := 1121, descriptorIndex := 1122, attributes := #[] }, { accessFlags := 25, nameIndex := 599, descriptorIndex := 600, attributes := #[] }, { accessFlags := 24, nameIndex := 1125, descriptorIndex := 18, attributes := #[] }, { accessFlags := 24, nameIndex := 1127, descriptorIndex := 18, attributes := #[] }])
  fields := #[{ name := "value", type := (.array .byte), accessFlags := 18, slot := 0, constantValue := 0 }, { name := "coder", type := .byte, accessFlags := 18, slot := 1, constantValue := 0 }, { name := "hash", type := .int, accessFlags := 2, slot := 2, constantValue := 0 }, { name := "hashIsZero", type := .boolean, accessFlags := 2, slot := 3, constantValue := 0 }, { name := "serialVersionUID", type := .long, accessFlags := 26, slot := 0, constantValue := 0 }, { name := "COMPACT_STRINGS", type := .boolean, accessFlags := 24, slot := 1, constantValue := 0 }, { name := "serialPersistentFields", type := (.array (.object "java/io/ObjectStreamField")), accessFlags := 26, slot := 2, constantValue := 0 }, { name := "REPL", type := .char, accessFlags := 26, slot := 3, constantValue := 0 }, { name := "CASE_INSENSITIVE_ORDER", type := (.object "java/util/Comparator"), accessFlags := 25, slot := 4, constantValue := 0 }, { name := "LATIN1", type := .byte, accessFlags := 24, slot := 5, constantValue := 0 }, { name := "UTF16", type := .byte, accessFlags := 24, slot := 6, constantValue := 0 }]
  methods := #[k7m0, k7m1, k7m2, k7m3, k7m4, k7m5, k7m6, k7m7, k7m8, k7m9, k7m10, k7m11, k7m12]
  instanceTypes := #[(.array .byte), .byte, .int, .boolean]
  staticTypes := #[.long, .boolean, (.array (.object "java/io/ObjectStreamField")), .char, (.object "java/util/Comparator"), .byte, .byte]
  resolved := Array.replicate 1451 none
  statics := some 0 }

def pool8 : Array CpInfo := pool [(3, .class_ 4), (0, u "java/lang/String"), (1, .class_ 8), (1, u "java/lang/Object"), (0, u "<init>"), (0, u "()V"), (0, .methodref 12 13), (0, .class_ 14), (0, .nameAndType 15 16), (0, u "java/lang/StringUTF16"), (0, u "newBytesLength"), (0, u "(I)I"), (3, .integer 1073741823), (23, .fieldref 12 45), (0, .nameAndType 46 47), (0, u "$assertionsDisabled"), (0, u "Z"), (0, .methodref 12 49), (0, .nameAndType 50 51), (0, u "length"), (0, u "([B)I"), (7, .fieldref 12 60), (0, .nameAndType 61 62), (0, u "HI_BYTE_SHIFT"), (0, u "I"), (0, .fieldref 12 64), (0, .nameAndType 65 62), (0, u "LO_BYTE_SHIFT"), (5, .methodref 12 72), (0, .nameAndType 73 74), (0, u "getChar"), (0, u "([BI)C"), (24, u "(II[B)V"), (7, .methodref 12 108), (0, .nameAndType 109 110), (0, u "newBytesFor"), (0, u "(I)[B"), (0, .methodref 12 112), (0, .nameAndType 113 114), (0, u "putChar"), (0, u "([BII)V"), (0, .methodref 12 116), (0, .nameAndType 117 118), (0, u "compress"), (0, u "([CI[BII)I"), (0, .methodref 12 120), (0, .nameAndType 121 122), (0, u "toBytes"), (0, u "([CII)[B"), (17, u "inflate"), (0, u "([BI[BII)V"), (31, .methodref 12 174), (0, .nameAndType 175 99), (0, u "checkBoundsOffCount"), (85, u "coderFromArrayLen"), (0, u "([BI)B"), (18, u "(III)I"), (87, .class_ 371), (1, u "java/lang/StringUTF16$LinesSpliterator"), (47, .methodref 3 420), (0, .nameAndType 175 281), (9, u "MAX_LENGTH"), (196, .class_ 628), (0, u "java/lang/StringUTF16$CodePointsSpliterator"), (0, .class_ 630), (0, u "java/lang/StringUTF16$CharsSpliterator")] 4

def k8m0 : Method := { name := "<init>", desc := "()V", sig := { parameters := [], returnType := none }, accessFlags := 0, code := none }
def k8c1 : Code := { maxStack := 1, maxLocals := 1, code := jdk_52_method_2_code, exceptionTable := #[], attributes := #[] }
def k8m1 : Method := { name := "newBytesFor", desc := "(I)[B", sig := { parameters := [.int], returnType := some (.array .byte) }, accessFlags := 9, code := some k8c1 }
def k8c2 : Code := { maxStack := 4, maxLocals := 1, code := jdk_52_method_3_code, exceptionTable := #[], attributes := #[] }
def k8m2 : Method := { name := "newBytesLength", desc := "(I)I", sig := { parameters := [.int], returnType := some .int }, accessFlags := 9, code := some k8c2 }
def k8c3 : Code := { maxStack := 4, maxLocals := 3, code := jdk_52_method_4_code, exceptionTable := #[], attributes := #[] }
def k8m3 : Method := { name := "putChar", desc := "([BII)V", sig := { parameters := [(.array .byte), .int, .int], returnType := none }, accessFlags := 8, code := some k8c3 }
def k8c4 : Code := { maxStack := 3, maxLocals := 2, code := jdk_52_method_5_code, exceptionTable := #[], attributes := #[] }
def k8m4 : Method := { name := "getChar", desc := "([BI)C", sig := { parameters := [(.array .byte), .int], returnType := some .char }, accessFlags := 8, code := some k8c4 }
def k8c5 : Code := { maxStack := 2, maxLocals := 1, code := jdk_52_method_6_code, exceptionTable := #[], attributes := #[] }
def k8m5 : Method := { name := "length", desc := "([B)I", sig := { parameters := [(.array .byte)], returnType := some .int }, accessFlags := 9, code := some k8c5 }
def k8c6 : Code := { maxStack := 4, maxLocals := 5, code := jdk_52_method_14_code, exceptionTable := #[], attributes := #[] }
def k8m6 : Method := { name := "toBytes", desc := "([CII)[B", sig := { parameters := [(.array .char), .int, .int], returnType := some (.array .byte) }, accessFlags := 9, code := some k8c6 }
def k8c7 : Code := { maxStack := 2, maxLocals := 2, code := jdk_52_method_15_code, exceptionTable := #[], attributes := #[] }
def k8m7 : Method := { name := "coderFromArrayLen", desc := "([BI)B", sig := { parameters := [(.array .byte), .int], returnType := some .byte }, accessFlags := 8, code := some k8c7 }
def k8c8 : Code := { maxStack := 5, maxLocals := 6, code := jdk_52_method_16_code, exceptionTable := #[], attributes := #[] }
def k8m8 : Method := { name := "compress", desc := "([CII)[B", sig := { parameters := [(.array .char), .int, .int], returnType := some (.array .byte) }, accessFlags := 9, code := some k8c8 }
def k8c9 : Code := { maxStack := 3, maxLocals := 7, code := jdk_52_method_21_code, exceptionTable := #[], attributes := #[] }
def k8m9 : Method := { name := "compress", desc := "([CI[BII)I", sig := { parameters := [(.array .char), .int, (.array .byte), .int, .int], returnType := some .int }, accessFlags := 9, code := some k8c9 }
def k8c10 : Code := { maxStack := 4, maxLocals := 6, code := jdk_52_method_86_code, exceptionTable := #[], attributes := #[] }
def k8m10 : Method := { name := "inflate", desc := "([BI[BII)V", sig := { parameters := [(.array .byte), .int, (.array .byte), .int, .int], returnType := none }, accessFlags := 9, code := some k8c10 }
def k8c11 : Code := { maxStack := 3, maxLocals := 3, code := jdk_52_method_94_code, exceptionTable := #[], attributes := #[] }
def k8m11 : Method := { name := "checkBoundsOffCount", desc := "(II[B)V", sig := { parameters := [.int, .int, (.array .byte)], returnType := none }, accessFlags := 9, code := some k8c11 }
/-- java/lang/StringUTF16 -/
def k8 : Class := { plain "java/lang/StringUTF16" (some 0) with
  accessFlags := 48
  interfaces := #[]
  cf := some (fileOf pool8 12 #[.nestMembers #[627, 629, 369]] #[{ accessFlags := 0, nameIndex := 9, descriptorIndex := 10, attributes := #[] }, { accessFlags := 9, nameIndex := 109, descriptorIndex := 110, attributes := #[] }, { accessFlags := 9, nameIndex := 15, descriptorIndex := 16, attributes := #[] }, { accessFlags := 8, nameIndex := 113, descriptorIndex := 114, attributes := #[] }, { accessFlags := 8, nameIndex := 73, descriptorIndex := 74, attributes := #[] }, { accessFlags := 9, nameIndex := 50, descriptorIndex := 51, attributes := #[] }, { accessFlags := 9, nameIndex := 121, descriptorIndex := 122, attributes := #[] }, { accessFlags := 8, nameIndex := 261, descriptorIndex := 262, attributes := #[] }, { accessFlags := 9, nameIndex := 117, descriptorIndex := 122, attributes := #[] }, { accessFlags := 9, nameIndex := 117, descriptorIndex := 118, attributes := #[] }, { accessFlags := 9, nameIndex := 140, descriptorIndex := 141, attributes := #[] }, { accessFlags := 9, nameIndex := 175, descriptorIndex := 99, attributes := #[] }] 48 6 #[] #[{ accessFlags := 26, nameIndex := 61, descriptorIndex := 62, attributes := #[] }, { accessFlags := 26, nameIndex := 65, descriptorIndex := 62, attributes := #[] }, { accessFlags := 24, nameIndex := 430, descriptorIndex := 62, attributes := #[] }, { accessFlags := 4120, nameIndex := 46, descriptorIndex := 47, attributes := #[] }])
  fields := #[{ name := "HI_BYTE_SHIFT", type := .int, accessFlags := 26, slot := 0, constantValue := 0 }, { name := "LO_BYTE_SHIFT", type := .int, accessFlags := 26, slot := 1, constantValue := 0 }, { name := "MAX_LENGTH", type := .int, accessFlags := 24, slot := 2, constantValue := 0 }, { name := "$assertionsDisabled", type := .boolean, accessFlags := 4120, slot := 3, constantValue := 0 }]
  methods := #[k8m0, k8m1, k8m2, k8m3, k8m4, k8m5, k8m6, k8m7, k8m8, k8m9, k8m10, k8m11]
  instanceTypes := #[]
  staticTypes := #[.int, .int, .int, .boolean]
  resolved := Array.replicate 635 none
  statics := some 1 }

def pool9 : Array CpInfo := pool [(2, .class_ 4), (0, .nameAndType 5 6), (0, u "java/lang/Object"), (0, u "<init>"), (0, u "()V"), (4, .class_ 13), (1, u "com/example/sieveline/sieveline/server/NotificationStream"), (0, u "queue"), (0, u "Ljava/util/Deque;"), (4, u "slicesAtLastPing"), (0, u "J"), (2, u "exchange"), (0, u "Lcom/sun/net/httpserver/HttpExchange;"), (2, u "writers"), (0, u "Ljava/util/concurrent/Executor;"), (2, u "maxQueuedBytes"), (0, .class_ 34), (0, u "java/lang/StringBuilder"), (0, .methodref 33 3), (0, .string 37), (0, u "event: match\ndata: "), (0, .methodref 33 39), (0, .nameAndType 40 41), (0, u "append"), (0, u "(Ljava/lang/String;)Ljava/lang/StringBuilder;"), (0, .string 43), (0, u "\n\n"), (0, .methodref 33 45), (0, .nameAndType 46 47), (0, u "toString"), (0, u "()Ljava/lang/String;"), (0, .fieldref 49 50), (0, .class_ 51), (0, .nameAndType 52 53), (0, u "java/nio/charset/StandardCharsets"), (0, u "UTF_8"), (0, u "Ljava/nio/charset/Charset;"), (0, .methodref 55 56), (0, .class_ 57), (0, .nameAndType 58 59), (0, u "java/lang/String"), (0, u "getBytes"), (0, u "(Ljava/nio/charset/Charset;)[B"), (2, u "started"), (0, u "Z"), (5, u "closing"), (8, u "queuedBytes"), (9, u "writing"), (2, u "slicesWritten"), (2, u "KEEP_ALIVE"), (0, u "[B"), (5, u "writer"), (0, u "Ljava/lang/Thread;"), (7, u "ended"), (54, u "SLICE"), (0, u "I"), (6, u "matchFrame"), (0, u "(Ljava/lang/String;)[B")] 28

def k9c0 : Code := { maxStack := 2, maxLocals := 1, code := prog_28_method_2_code, exceptionTable := #[], attributes := #[] }
def k9m0 : Method := { name := "matchFrame", desc := "(Ljava/lang/String;)[B", sig := { parameters := [(.object "java/lang/String")], returnType := some (.array .byte) }, accessFlags := 8, code := some k9c0 }
/-- com/example/sieveline/sieveline/server/NotificationStream -/
def k9 : Class := { plain "com/example/sieveline/sieveline/server/NotificationStream" (some 0) with
  accessFlags := 48
  interfaces := #[]
  cf := some (fileOf pool9 11 #[] #[{ accessFlags := 8, nameIndex := 173, descriptorIndex := 174, attributes := #[] }] 48 2 #[] #[{ accessFlags := 24, nameIndex := 94, descriptorIndex := 95, attributes := #[] }, { accessFlags := 26, nameIndex := 165, descriptorIndex := 166, attributes := #[] }, { accessFlags := 18, nameIndex := 24, descriptorIndex := 25, attributes := #[] }, { accessFlags := 18, nameIndex := 28, descriptorIndex := 29, attributes := #[] }, { accessFlags := 18, nameIndex := 32, descriptorIndex := 21, attributes := #[] }, { accessFlags := 18, nameIndex := 14, descriptorIndex := 15, attributes := #[] }, { accessFlags := 2, nameIndex := 78, descriptorIndex := 21, attributes := #[] }, { accessFlags := 2, nameIndex := 62, descriptorIndex := 63, attributes := #[] }, { accessFlags := 2, nameIndex := 88, descriptorIndex := 63, attributes := #[] }, { accessFlags := 2, nameIndex := 101, descriptorIndex := 102, attributes := #[] }, { accessFlags := 2, nameIndex := 91, descriptorIndex := 21, attributes := #[] }, { accessFlags := 2, nameIndex := 20, descriptorIndex := 21, attributes := #[] }, { accessFlags := 2, nameIndex := 69, descriptorIndex := 63, attributes := #[] }, { accessFlags := 2, nameIndex := 110, descriptorIndex := 63, attributes := #[] }])
  fields := #[{ name := "KEEP_ALIVE", type := (.array .byte), accessFlags := 24, slot := 0, constantValue := 0 }, { name := "SLICE", type := .int, accessFlags := 26, slot := 1, constantValue := 0 }, { name := "exchange", type := (.object "com/sun/net/httpserver/HttpExchange"), accessFlags := 18, slot := 0, constantValue := 0 }, { name := "writers", type := (.object "java/util/concurrent/Executor"), accessFlags := 18, slot := 1, constantValue := 0 }, { name := "maxQueuedBytes", type := .long, accessFlags := 18, slot := 2, constantValue := 0 }, { name := "queue", type := (.object "java/util/Deque"), accessFlags := 18, slot := 3, constantValue := 0 }, { name := "queuedBytes", type := .long, accessFlags := 2, slot := 4, constantValue := 0 }, { name := "started", type := .boolean, accessFlags := 2, slot := 5, constantValue := 0 }, { name := "writing", type := .boolean, accessFlags := 2, slot := 6, constantValue := 0 }, { name := "writer", type := (.object "java/lang/Thread"), accessFlags := 2, slot := 7, constantValue := 0 }, { name := "slicesWritten", type := .long, accessFlags := 2, slot := 8, constantValue := 0 }, { name := "slicesAtLastPing", type := .long, accessFlags := 2, slot := 9, constantValue := 0 }, { name := "closing", type := .boolean, accessFlags := 2, slot := 10, constantValue := 0 }, { name := "ended", type := .boolean, accessFlags := 2, slot := 11, constantValue := 0 }]
  methods := #[k9m0]
  instanceTypes := #[(.object "com/sun/net/httpserver/HttpExchange"), (.object "java/util/concurrent/Executor"), .long, (.object "java/util/Deque"), .long, .boolean, .boolean, (.object "java/lang/Thread"), .long, .long, .boolean, .boolean]
  staticTypes := #[(.array .byte), .int]
  resolved := Array.replicate 203 none
  statics := none }

def pool10 : Array CpInfo := pool [(1, .class_ 2), (0, u "java/lang/Appendable"), (0, .class_ 4), (0, u "java/lang/Object")] 9

/-- java/lang/Appendable -/
def k10 : Class := { plain "java/lang/Appendable" (some 0) with
  accessFlags := 1537
  interfaces := #[]
  cf := some (fileOf pool10 1 #[] #[] 1537 3 #[] #[])
  fields := #[]
  methods := #[]
  instanceTypes := #[]
  staticTypes := #[]
  resolved := Array.replicate 14 none
  statics := none }

def pool11 : Array CpInfo := pool [(1, .class_ 2), (0, u "java/lang/String"), (0, .methodref 4 5), (0, .class_ 6), (0, .nameAndType 7 8), (0, u "java/lang/Object"), (0, u "<init>"), (0, u "()V"), (1, .class_ 12), (1, u "java/lang/AbstractStringBuilder"), (0, u "EMPTYVALUE"), (0, u "[B"), (0, .fieldref 10 16), (0, .nameAndType 17 14), (0, u "value"), (0, .fieldref 1 19), (0, .nameAndType 20 21), (0, u "COMPACT_STRINGS"), (0, u "Z"), (0, .fieldref 10 23), (0, .nameAndType 24 25), (0, u "coder"), (0, u "B"), (0, .methodref 27 28), (0, .class_ 29), (0, .nameAndType 30 31), (0, u "java/lang/StringUTF16"), (0, u "newBytesFor"), (0, u "(I)[B"), (0, .methodref 1 33), (0, .nameAndType 34 35), (0, u "length"), (0, u "()I"), (3, .integer 2147483647), (0, .methodref 1 41), (0, .nameAndType 24 42), (0, u "()B"), (2, u "append"), (0, u "(Ljava/lang/String;)Ljava/lang/AbstractStringBuilder;"), (1, .class_ 49), (0, u "java/lang/CharSequence"), (19, u "(Ljava/lang/String;)V"), (5, u "maybeLatin1"), (3, .fieldref 10 80), (0, .nameAndType 81 82), (0, u "count"), (0, u "I"), (0, .methodref 10 84), (0, .nameAndType 85 86), (0, u "isLatin1"), (0, u "()Z"), (1, .class_ 90), (1, u "java/lang/StringLatin1"), (9, .methodref 10 101), (0, .nameAndType 102 103), (0, u "ensureCapacityInternal"), (0, u "(I)V"), (0, .methodref 10 105), (0, .nameAndType 106 107), (0, u "newCapacity"), (0, u "(I)I"), (0, .methodref 109 110), (0, .class_ 111), (0, .nameAndType 112 113), (0, u "java/util/Arrays"), (0, u "copyOf"), (0, u "([BI)[B"), (0, .methodref 115 116), (0, .class_ 117), (0, .nameAndType 118 119), (0, u "jdk/internal/util/ArraysSupport"), (0, u "newLength"), (0, u "(III)I"), (5, .methodref 88 126), (0, .nameAndType 127 128), (0, u "inflate"), (0, u "([BI[BII)V"), (66, .methodref 10 196), (0, .nameAndType 127 8), (11, .methodref 10 209), (0, .nameAndType 210 211), (0, u "putStringAt"), (0, u "(ILjava/lang/String;)V"), (5, u "inflateIfNeededFor"), (2, .nameAndType 221 222), (0, u "getBytes"), (0, u "([BIB)V"), (174, .methodref 10 398), (0, .nameAndType 217 69), (0, .methodref 1 220), (3, u "()[B"), (40, .class_ 445), (0, u "java/lang/Appendable"), (106, u "getValue")] 56

def k11m0 : Method := { name := "<init>", desc := "()V", sig := { parameters := [], returnType := none }, accessFlags := 0, code := none }
def k11c1 : Code := { maxStack := 2, maxLocals := 2, code := jdk_68_method_2_code, exceptionTable := #[], attributes := #[] }
def k11m1 : Method := { name := "<init>", desc := "(I)V", sig := { parameters := [.int], returnType := none }, accessFlags := 0, code := some k11c1 }
def k11c2 : Code := { maxStack := 1, maxLocals := 1, code := jdk_68_method_6_code, exceptionTable := #[], attributes := #[] }
def k11m2 : Method := { name := "length", desc := "()I", sig := { parameters := [], returnType := some .int }, accessFlags := 1, code := some k11c2 }
def k11c3 : Code := { maxStack := 4, maxLocals := 3, code := jdk_68_method_9_code, exceptionTable := #[], attributes := #[] }
def k11m3 : Method := { name := "ensureCapacityInternal", desc := "(I)V", sig := { parameters := [.int], returnType := none }, accessFlags := 2, code := some k11c3 }
def k11c4 : Code := { maxStack := 5, maxLocals := 6, code := jdk_68_method_10_code, exceptionTable := #[], attributes := #[] }
def k11m4 : Method := { name := "newCapacity", desc := "(I)I", sig := { parameters := [.int], returnType := some .int }, accessFlags := 2, code := some k11c4 }
def k11c5 : Code := { maxStack := 5, maxLocals := 2, code := jdk_68_method_11_code, exceptionTable := #[], attributes := #[] }
def k11m5 : Method := { name := "inflate", desc := "()V", sig := { parameters := [], returnType := none }, accessFlags := 2, code := some k11c5 }
def k11c6 : Code := { maxStack := 3, maxLocals := 3, code := jdk_68_method_22_code, exceptionTable := #[], attributes := #[] }
def k11m6 : Method := { name := "append", desc := "(Ljava/lang/String;)Ljava/lang/AbstractStringBuilder;", sig := { parameters := [(.object "java/lang/String")], returnType := some (.object "java/lang/AbstractStringBuilder") }, accessFlags := 1, code := some k11c6 }
def k11c7 : Code := { maxStack := 1, maxLocals := 1, code := jdk_68_method_64_code, exceptionTable := #[], attributes := #[] }
def k11m7 : Method := { name := "getValue", desc := "()[B", sig := { parameters := [], returnType := some (.array .byte) }, accessFlags := 16, code := some k11c7 }
def k11c8 : Code := { maxStack := 1, maxLocals := 1, code := jdk_68_method_68_code, exceptionTable := #[], attributes := #[] }
def k11m8 : Method := { name := "isLatin1", desc := "()Z", sig := { parameters := [], returnType := some .boolean }, accessFlags := 16, code := some k11c8 }
def k11c9 : Code := { maxStack := 2, maxLocals := 2, code := jdk_68_method_71_code, exceptionTable := #[], attributes := #[] }
def k11m9 : Method := { name := "inflateIfNeededFor", desc := "(Ljava/lang/String;)V", sig := { parameters := [(.object "java/lang/String")], returnType := none }, accessFlags := 2, code := some k11c9 }
def k11c10 : Code := { maxStack := 4, maxLocals := 3, code := jdk_68_method_73_code, exceptionTable := #[], attributes := #[] }
def k11m10 : Method := { name := "putStringAt", desc := "(ILjava/lang/String;)V", sig := { parameters := [.int, (.object "java/lang/String")], returnType := none }, accessFlags := 2, code := some k11c10 }
/-- java/lang/AbstractStringBuilder -/
def k11 : Class := { plain "java/lang/AbstractStringBuilder" (some 0) with
  accessFlags := 1056
  interfaces := #[10, 4]
  cf := some (fileOf pool11 10 #[] #[{ accessFlags := 0, nameIndex := 7, descriptorIndex := 8, attributes := #[] }, { accessFlags := 0, nameIndex := 7, descriptorIndex := 103, attributes := #[] }, { accessFlags := 1, nameIndex := 34, descriptorIndex := 35, attributes := #[] }, { accessFlags := 2, nameIndex := 102, descriptorIndex := 103, attributes := #[] }, { accessFlags := 2, nameIndex := 106, descriptorIndex := 107, attributes := #[] }, { accessFlags := 2, nameIndex := 127, descriptorIndex := 8, attributes := #[] }, { accessFlags := 1, nameIndex := 45, descriptorIndex := 46, attributes := #[] }, { accessFlags := 16, nameIndex := 552, descriptorIndex := 403, attributes := #[] }, { accessFlags := 16, nameIndex := 85, descriptorIndex := 86, attributes := #[] }, { accessFlags := 2, nameIndex := 217, descriptorIndex := 69, attributes := #[] }, { accessFlags := 2, nameIndex := 210, descriptorIndex := 211, attributes := #[] }] 1056 4 #[444, 48] #[{ accessFlags := 0, nameIndex := 17, descriptorIndex := 14, attributes := #[] }, { accessFlags := 0, nameIndex := 24, descriptorIndex := 25, attributes := #[] }, { accessFlags := 0, nameIndex := 75, descriptorIndex := 21, attributes := #[] }, { accessFlags := 0, nameIndex := 81, descriptorIndex := 82, attributes := #[] }, { accessFlags := 26, nameIndex := 13, descriptorIndex := 14, attributes := #[] }])
  fields := #[{ name := "value", type := (.array .byte), accessFlags := 0, slot := 0, constantValue := 0 }, { name := "coder", type := .byte, accessFlags := 0, slot := 1, constantValue := 0 }, { name := "maybeLatin1", type := .boolean, accessFlags := 0, slot := 2, constantValue := 0 }, { name := "count", type := .int, accessFlags := 0, slot := 3, constantValue := 0 }, { name := "EMPTYVALUE", type := (.array .byte), accessFlags := 26, slot := 0, constantValue := 0 }]
  methods := #[k11m0, k11m1, k11m2, k11m3, k11m4, k11m5, k11m6, k11m7, k11m8, k11m9, k11m10]
  instanceTypes := #[(.array .byte), .byte, .boolean, .int]
  staticTypes := #[(.array .byte)]
  resolved := Array.replicate 609 none
  statics := none }

def pool12 : Array CpInfo := pool [(1, .methodref 2 3), (0, .class_ 4), (0, .nameAndType 5 6), (0, u "java/lang/AbstractStringBuilder"), (0, u "<init>"), (0, u "(I)V"), (11, .class_ 20), (1, u "java/lang/String"), (3, .class_ 26), (1, u "java/lang/StringBuilder"), (0, u "append"), (0, u "(Ljava/lang/String;)Ljava/lang/StringBuilder;"), (0, .methodref 2 30), (0, .nameAndType 27 31), (0, u "(Ljava/lang/String;)Ljava/lang/AbstractStringBuilder;"), (105, .methodref 18 138), (0, .nameAndType 5 139), (0, u "(Ljava/lang/StringBuilder;)V"), (5, u "()V"), (10, u "()I"), (186, .methodref 2 344), (0, .nameAndType 345 156), (0, u "length"), (3, .class_ 350), (0, u "java/lang/Appendable"), (0, .class_ 352), (0, u "java/io/Serializable"), (0, .class_ 354), (0, u "java/lang/Comparable"), (0, .class_ 356), (0, u "java/lang/CharSequence"), (0, u "serialVersionUID"), (0, u "J"), (40, u "toString"), (0, u "()Ljava/lang/String;")] 21

def k12c0 : Code := { maxStack := 2, maxLocals := 1, code := jdk_67_method_1_code, exceptionTable := #[], attributes := #[] }
def k12m0 : Method := { name := "<init>", desc := "()V", sig := { parameters := [], returnType := none }, accessFlags := 1, code := some k12c0 }
def k12c1 : Code := { maxStack := 2, maxLocals := 2, code := jdk_67_method_7_code, exceptionTable := #[], attributes := #[] }
def k12m1 : Method := { name := "append", desc := "(Ljava/lang/String;)Ljava/lang/StringBuilder;", sig := { parameters := [(.object "java/lang/String")], returnType := some (.object "java/lang/StringBuilder") }, accessFlags := 1, code := some k12c1 }
def k12c2 : Code := { maxStack := 3, maxLocals := 1, code := jdk_67_method_42_code, exceptionTable := #[], attributes := #[] }
def k12m2 : Method := { name := "toString", desc := "()Ljava/lang/String;", sig := { parameters := [], returnType := some (.object "java/lang/String") }, accessFlags := 1, code := some k12c2 }
def k12c3 : Code := { maxStack := 1, maxLocals := 1, code := jdk_67_method_93_code, exceptionTable := #[], attributes := #[] }
def k12m3 : Method := { name := "length", desc := "()I", sig := { parameters := [], returnType := some .int }, accessFlags := 4161, code := some k12c3 }
/-- java/lang/StringBuilder -/
def k12 : Class := { plain "java/lang/StringBuilder" (some 11) with
  accessFlags := 49
  interfaces := #[10, 2, 3, 4]
  cf := some (fileOf pool12 24 #[] #[{ accessFlags := 1, nameIndex := 5, descriptorIndex := 145, attributes := #[] }, { accessFlags := 1, nameIndex := 27, descriptorIndex := 28, attributes := #[] }, { accessFlags := 1, nameIndex := 399, descriptorIndex := 400, attributes := #[] }, { accessFlags := 4161, nameIndex := 345, descriptorIndex := 156, attributes := #[] }] 49 2 #[349, 351, 353, 355] #[{ accessFlags := 24, nameIndex := 357, descriptorIndex := 358, attributes := #[] }])
  fields := #[{ name := "serialVersionUID", type := .long, accessFlags := 24, slot := 0, constantValue := 0 }]
  methods := #[k12m0, k12m1, k12m2, k12m3]
  instanceTypes := #[(.array .byte), .byte, .boolean, .int]
  staticTypes := #[.long]
  resolved := Array.replicate 422 none
  statics := none }

def pool13 : Array CpInfo := pool [(9, u "<init>"), (6, .class_ 18), (1, u "java/lang/Object"), (0, u "()V"), (1, .class_ 23), (1, u "jdk/internal/util/ArraysSupport"), (0, u "LOG2_ARRAY_LONG_INDEX_SCALE"), (0, u "I"), (2, u "U"), (0, u "Ljdk/internal/misc/Unsafe;"), (8, u "BIG_ENDIAN"), (0, u "Z"), (8, u "LOG2_BYTE_BIT_SIZE"), (4, u "LOG2_ARRAY_INT_INDEX_SCALE"), (54, u "JLA"), (0, u "Ljdk/internal/access/JavaLangAccess;"), (11, u "LOG2_ARRAY_BOOLEAN_INDEX_SCALE"), (9, u "LOG2_ARRAY_BYTE_INDEX_SCALE"), (5, u "LOG2_ARRAY_CHAR_INDEX_SCALE"), (5, u "LOG2_ARRAY_SHORT_INDEX_SCALE"), (18, u "LOG2_ARRAY_FLOAT_INDEX_SCALE"), (24, u "LOG2_ARRAY_DOUBLE_INDEX_SCALE"), (6, .methodref 195 196), (0, .class_ 197), (0, .nameAndType 198 199), (0, u "java/lang/Math"), (0, u "max"), (0, u "(II)I"), (0, .integer 2147483639), (76, u "T_BOOLEAN"), (2, u "T_CHAR"), (1, u "T_FLOAT"), (1, u "T_DOUBLE"), (1, u "T_BYTE"), (1, u "T_SHORT"), (1, u "T_INT"), (1, u "T_LONG"), (1, u "SOFT_MAX_ARRAY_LENGTH"), (56, u "newLength"), (0, u "(III)I")] 25

def k13m0 : Method := { name := "<init>", desc := "()V", sig := { parameters := [], returnType := none }, accessFlags := 2, code := none }
def k13c1 : Code := { maxStack := 3, maxLocals := 4, code := jdk_48_method_27_code, exceptionTable := #[], attributes := #[] }
def k13m1 : Method := { name := "newLength", desc := "(III)I", sig := { parameters := [.int, .int, .int], returnType := some .int }, accessFlags := 9, code := some k13c1 }
/-- jdk/internal/util/ArraysSupport -/
def k13 : Class := { plain "jdk/internal/util/ArraysSupport" (some 0) with
  accessFlags := 33
  interfaces := #[]
  cf := some (fileOf pool13 21 #[] #[{ accessFlags := 2, nameIndex := 9, descriptorIndex := 19, attributes := #[] }, { accessFlags := 9, nameIndex := 351, descriptorIndex := 352, attributes := #[] }] 33 16 #[] #[{ accessFlags := 24, nameIndex := 28, descriptorIndex := 29, attributes := #[] }, { accessFlags := 26, nameIndex := 38, descriptorIndex := 39, attributes := #[] }, { accessFlags := 25, nameIndex := 121, descriptorIndex := 25, attributes := #[] }, { accessFlags := 25, nameIndex := 131, descriptorIndex := 25, attributes := #[] }, { accessFlags := 25, nameIndex := 137, descriptorIndex := 25, attributes := #[] }, { accessFlags := 25, nameIndex := 143, descriptorIndex := 25, attributes := #[] }, { accessFlags := 25, nameIndex := 53, descriptorIndex := 25, attributes := #[] }, { accessFlags := 25, nameIndex := 24, descriptorIndex := 25, attributes := #[] }, { accessFlags := 25, nameIndex := 162, descriptorIndex := 25, attributes := #[] }, { accessFlags := 25, nameIndex := 187, descriptorIndex := 25, attributes := #[] }, { accessFlags := 26, nameIndex := 48, descriptorIndex := 25, attributes := #[] }, { accessFlags := 25, nameIndex := 277, descriptorIndex := 25, attributes := #[] }, { accessFlags := 25, nameIndex := 280, descriptorIndex := 25, attributes := #[] }, { accessFlags := 25, nameIndex := 282, descriptorIndex := 25, attributes := #[] }, { accessFlags := 25, nameIndex := 284, descriptorIndex := 25, attributes := #[] }, { accessFlags := 25, nameIndex := 286, descriptorIndex := 25, attributes := #[] }, { accessFlags := 25, nameIndex := 288, descriptorIndex := 25, attributes := #[] }, { accessFlags := 25, nameIndex := 290, descriptorIndex := 25, attributes := #[] }, { accessFlags := 25, nameIndex := 292, descriptorIndex := 25, attributes := #[] }, { accessFlags := 26, nameIndex := 108, descriptorIndex := 109, attributes := #[] }, { accessFlags := 25, nameIndex := 294, descriptorIndex := 25, attributes := #[] }])
  fields := #[{ name := "U", type := (.object "jdk/internal/misc/Unsafe"), accessFlags := 24, slot := 0, constantValue := 0 }, { name := "BIG_ENDIAN", type := .boolean, accessFlags := 26, slot := 1, constantValue := 0 }, { name := "LOG2_ARRAY_BOOLEAN_INDEX_SCALE", type := .int, accessFlags := 25, slot := 2, constantValue := 0 }, { name := "LOG2_ARRAY_BYTE_INDEX_SCALE", type := .int, accessFlags := 25, slot := 3, constantValue := 0 }, { name := "LOG2_ARRAY_CHAR_INDEX_SCALE", type := .int, accessFlags := 25, slot := 4, constantValue := 0 }, { name := "LOG2_ARRAY_SHORT_INDEX_SCALE", type := .int, accessFlags := 25, slot := 5, constantValue := 0 }, { name := "LOG2_ARRAY_INT_INDEX_SCALE", type := .int, accessFlags := 25, slot := 6, constantValue := 0 }, { name := "LOG2_ARRAY_LONG_INDEX_SCALE", type := .int, accessFlags := 25, slot := 7, constantValue := 0 }, { name := "LOG2_ARRAY_FLOAT_INDEX_SCALE", type := .int, accessFlags := 25, slot := 8, constantValue := 0 }, { name := "LOG2_ARRAY_DOUBLE_INDEX_SCALE", type := .int, accessFlags := 25, slot := 9, constantValue := 0 }, { name := "LOG2_BYTE_BIT_SIZE", type := .int, accessFlags := 26, slot := 10, constantValue := 0 }, { name := "T_BOOLEAN", type := .int, accessFlags := 25, slot := 11, constantValue := 0 }, { name := "T_CHAR", type := .int, accessFlags := 25, slot := 12, constantValue := 0 }, { name := "T_FLOAT", type := .int, accessFlags := 25, slot := 13, constantValue := 0 }, { name := "T_DOUBLE", type := .int, accessFlags := 25, slot := 14, constantValue := 0 }, { name := "T_BYTE", type := .int, accessFlags := 25, slot := 15, constantValue := 0 }, { name := "T_SHORT", type := .int, accessFlags := 25, slot := 16, constantValue := 0 }, { name := "T_INT", type := .int, accessFlags := 25, slot := 17, constantValue := 0 }, { name := "T_LONG", type := .int, accessFlags := 25, slot := 18, constantValue := 0 }, { name := "JLA", type := (.object "jdk/internal/access/JavaLangAccess"), accessFlags := 26, slot := 19, constantValue := 0 }, { name := "SOFT_MAX_ARRAY_LENGTH", type := .int, accessFlags := 25, slot := 20, constantValue := 0 }]
  methods := #[k13m0, k13m1]
  instanceTypes := #[]
  staticTypes := #[(.object "jdk/internal/misc/Unsafe"), .boolean, .int, .int, .int, .int, .int, .int, .int, .int, .int, .int, .int, .int, .int, .int, .int, .int, .int, (.object "jdk/internal/access/JavaLangAccess"), .int]
  resolved := Array.replicate 378 none
  statics := none }

def pool14 : Array CpInfo := pool [(1, .class_ 2), (0, u "java/lang/Math"), (1, .class_ 6), (1, u "java/lang/Object"), (0, u "<init>"), (0, u "()V"), (89, .class_ 100), (1, u "java/lang/Math$RandomNumberGeneratorHolder"), (71, u "negativeZeroFloatBits"), (0, u "J"), (2, u "negativeZeroDoubleBits"), (21, u "max"), (2, u "min"), (43, u "$assertionsDisabled"), (0, u "Z"), (88, u "(II)I"), (2, u "twoToTheDoubleScaleDown"), (0, u "D"), (4, u "twoToTheDoubleScaleUp"), (9, u "E"), (3, u "PI"), (2, u "TAU"), (2, u "DEGREES_TO_RADIANS"), (0, u "RADIANS_TO_DEGREES")] 94

def k14m0 : Method := { name := "<init>", desc := "()V", sig := { parameters := [], returnType := none }, accessFlags := 2, code := none }
def k14c1 : Code := { maxStack := 2, maxLocals := 2, code := jdk_29_method_65_code, exceptionTable := #[], attributes := #[] }
def k14m1 : Method := { name := "max", desc := "(II)I", sig := { parameters := [.int, .int], returnType := some .int }, accessFlags := 9, code := some k14c1 }
def k14c2 : Code := { maxStack := 2, maxLocals := 2, code := jdk_29_method_69_code, exceptionTable := #[], attributes := #[] }
def k14m2 : Method := { name := "min", desc := "(II)I", sig := { parameters := [.int, .int], returnType := some .int }, accessFlags := 9, code := some k14c2 }
/-- java/lang/Math -/
def k14 : Class := { plain "java/lang/Math" (some 0) with
  accessFlags := 49
  interfaces := #[]
  cf := some (fileOf pool14 1 #[.nestMembers #[98]] #[{ accessFlags := 2, nameIndex := 7, descriptorIndex := 8, attributes := #[] }, { accessFlags := 9, nameIndex := 198, descriptorIndex := 335, attributes := #[] }, { accessFlags := 9, nameIndex := 201, descriptorIndex := 335, attributes := #[] }] 49 4 #[] #[{ accessFlags := 25, nameIndex := 354, descriptorIndex := 339, attributes := #[] }, { accessFlags := 25, nameIndex := 358, descriptorIndex := 339, attributes := #[] }, { accessFlags := 25, nameIndex := 361, descriptorIndex := 339, attributes := #[] }, { accessFlags := 26, nameIndex := 364, descriptorIndex := 339, attributes := #[] }, { accessFlags := 26, nameIndex := 365, descriptorIndex := 339, attributes := #[] }, { accessFlags := 26, nameIndex := 172, descriptorIndex := 173, attributes := #[] }, { accessFlags := 26, nameIndex := 176, descriptorIndex := 173, attributes := #[] }, { accessFlags := 8, nameIndex := 344, descriptorIndex := 339, attributes := #[] }, { accessFlags := 8, nameIndex := 338, descriptorIndex := 339, attributes := #[] }, { accessFlags := 4120, nameIndex := 245, descriptorIndex := 246, attributes := #[] }])
  fields := #[{ name := "E", type := .double, accessFlags := 25, slot := 0, constantValue := 0 }, { name := "PI", type := .double, accessFlags := 25, slot := 1, constantValue := 0 }, { name := "TAU", type := .double, accessFlags := 25, slot := 2, constantValue := 0 }, { name := "DEGREES_TO_RADIANS", type := .double, accessFlags := 26, slot := 3, constantValue := 0 }, { name := "RADIANS_TO_DEGREES", type := .double, accessFlags := 26, slot := 4, constantValue := 0 }, { name := "negativeZeroFloatBits", type := .long, accessFlags := 26, slot := 5, constantValue := 0 }, { name := "negativeZeroDoubleBits", type := .long, accessFlags := 26, slot := 6, constantValue := 0 }, { name := "twoToTheDoubleScaleUp", type := .double, accessFlags := 8, slot := 7, constantValue := 0 }, { name := "twoToTheDoubleScaleDown", type := .double, accessFlags := 8, slot := 8, constantValue := 0 }, { name := "$assertionsDisabled", type := .boolean, accessFlags := 4120, slot := 9, constantValue := 0 }]
  methods := #[k14m0, k14m1, k14m2]
  instanceTypes := #[]
  staticTypes := #[.double, .double, .double, .double, .double, .long, .long, .double, .double, .boolean]
  resolved := Array.replicate 460 none
  statics := none }

def pool15 : Array CpInfo := pool [(2, .class_ 4), (1, u "java/lang/Object"), (0, u "<init>"), (0, u "()V"), (7, .class_ 16), (1, u "java/util/Arrays"), (57, .class_ 76), (1, u "java/util/Arrays$NaturalOrder"), (36, .class_ 115), (1, u "java/util/Arrays$LegacyMergeSort"), (1, u "Z"), (21, u "copyOfRange"), (10, .methodref 151 152), (0, .class_ 153), (0, .nameAndType 154 155), (0, u "java/lang/System"), (0, u "arraycopy"), (0, u "(Ljava/lang/Object;ILjava/lang/Object;II)V"), (146, u "copyOf"), (1, .methodref 305 306), (0, .class_ 307), (0, .nameAndType 308 309), (0, u "java/lang/Math"), (0, u "min"), (0, u "(II)I"), (29, .methodref 14 340), (0, .nameAndType 341 342), (0, u "copyOfRangeByte"), (0, u "([BII)[B"), (0, .methodref 14 344), (0, .nameAndType 345 346), (0, u "checkLength"), (0, u "(II)V"), (28, .class_ 376), (0, u "java/util/Arrays$ArrayList"), (68, u "$assertionsDisabled"), (269, u "MIN_ARRAY_SORT_GRAN"), (0, u "I"), (2, u "INSERTIONSORT_THRESHOLD"), (149, u "([BI)[B"), (105, .class_ 976), (0, u "java/util/Arrays$ArrayItr")] 52

def k15m0 : Method := { name := "<init>", desc := "()V", sig := { parameters := [], returnType := none }, accessFlags := 2, code := none }
def k15c1 : Code := { maxStack := 6, maxLocals := 3, code := jdk_65_method_121_code, exceptionTable := #[], attributes := #[] }
def k15m1 : Method := { name := "copyOf", desc := "([BI)[B", sig := { parameters := [(.array .byte), .int], returnType := some (.array .byte) }, accessFlags := 9, code := some k15c1 }
def k15c2 : Code := { maxStack := 4, maxLocals := 2, code := jdk_65_method_131_code, exceptionTable := #[], attributes := #[] }
def k15m2 : Method := { name := "checkLength", desc := "(II)V", sig := { parameters := [.int, .int], returnType := none }, accessFlags := 10, code := some k15c2 }
def k15c3 : Code := { maxStack := 3, maxLocals := 3, code := jdk_65_method_132_code, exceptionTable := #[], attributes := #[] }
def k15m3 : Method := { name := "copyOfRange", desc := "([BII)[B", sig := { parameters := [(.array .byte), .int, .int], returnType := some (.array .byte) }, accessFlags := 9, code := some k15c3 }
def k15c4 : Code := { maxStack := 6, maxLocals := 5, code := jdk_65_method_133_code, exceptionTable := #[], attributes := #[] }
def k15m4 : Method := { name := "copyOfRangeByte", desc := "([BII)[B", sig := { parameters := [(.array .byte), .int, .int], returnType := some (.array .byte) }, accessFlags := 10, code := some k15c4 }
/-- java/util/Arrays -/
def k15 : Class := { plain "java/util/Arrays" (some 0) with
  accessFlags := 49
  interfaces := #[]
  cf := some (fileOf pool15 14 #[.nestMembers #[975, 375, 113, 74]] #[{ accessFlags := 2, nameIndex := 5, descriptorIndex := 6, attributes := #[] }, { accessFlags := 9, nameIndex := 302, descriptorIndex := 869, attributes := #[] }, { accessFlags := 10, nameIndex := 345, descriptorIndex := 346, attributes := #[] }, { accessFlags := 9, nameIndex := 139, descriptorIndex := 342, attributes := #[] }, { accessFlags := 10, nameIndex := 341, descriptorIndex := 342, attributes := #[] }] 49 2 #[] #[{ accessFlags := 26, nameIndex := 715, descriptorIndex := 716, attributes := #[] }, { accessFlags := 26, nameIndex := 719, descriptorIndex := 716, attributes := #[] }, { accessFlags := 4120, nameIndex := 445, descriptorIndex := 117, attributes := #[] }])
  fields := #[{ name := "MIN_ARRAY_SORT_GRAN", type := .int, accessFlags := 26, slot := 0, constantValue := 0 }, { name := "INSERTIONSORT_THRESHOLD", type := .int, accessFlags := 26, slot := 1, constantValue := 0 }, { name := "$assertionsDisabled", type := .boolean, accessFlags := 4120, slot := 2, constantValue := 0 }]
  methods := #[k15m0, k15m1, k15m2, k15m3, k15m4]
  instanceTypes := #[]
  staticTypes := #[.int, .int, .boolean]
  resolved := Array.replicate 1029 none
  statics := none }

def pool16 : Array CpInfo := pool [(2, .class_ 4), (1, u "java/lang/Object"), (0, u "<init>"), (0, u "()V"), (1, .class_ 10), (1, u "java/lang/System"), (0, u "allowSecurityManager"), (0, u "I"), (16, u "cons"), (0, u "Ljava/io/Console;"), (77, .class_ 110), (1, u "java/lang/System$CallersHolder"), (43, u "initialErrStream"), (0, u "Ljava/io/PrintStream;"), (19, u "security"), (0, u "Ljava/lang/SecurityManager;"), (31, .class_ 209), (0, u "java/lang/System$1"), (7, u "props"), (0, u "Ljava/util/Properties;"), (2, u "lineSeparator"), (0, u "Ljava/lang/String;"), (96, .class_ 321), (1, u "java/lang/System$LoggerFinder"), (5, .class_ 328), (0, u "java/lang/System$Logger"), (67, u "err"), (2, u "out"), (91, u "notSupportedJnuEncoding"), (15, u "in"), (17, u "initialIn"), (0, u "Ljava/io/InputStream;"), (35, u "bootLayer"), (0, u "Ljava/lang/ModuleLayer;"), (99, .class_ 664), (0, u "java/lang/System$2"), (9, u "NEVER"), (2, u "MAYBE"), (49, u "arraycopy"), (0, u "(Ljava/lang/Object;ILjava/lang/Object;II)V"), (72, .class_ 802), (0, u "java/lang/System$Logger$Level")] 31

def k16m0 : Method := { name := "<init>", desc := "()V", sig := { parameters := [], returnType := none }, accessFlags := 2, code := none }
def k16m1 : Method := { name := "arraycopy", desc := "(Ljava/lang/Object;ILjava/lang/Object;II)V", sig := { parameters := [(.object "java/lang/Object"), .int, (.object "java/lang/Object"), .int, .int], returnType := none }, accessFlags := 265, code := none }
/-- java/lang/System -/
def k16 : Class := { plain "java/lang/System" (some 0) with
  accessFlags := 49
  interfaces := #[]
  cf := some (fileOf pool16 8 #[.nestMembers #[319, 327, 801, 108, 663, 208]] #[{ accessFlags := 2, nameIndex := 5, descriptorIndex := 6, attributes := #[] }, { accessFlags := 265, nameIndex := 727, descriptorIndex := 728, attributes := #[] }] 49 2 #[] #[{ accessFlags := 25, nameIndex := 507, descriptorIndex := 526, attributes := #[] }, { accessFlags := 25, nameIndex := 399, descriptorIndex := 155, attributes := #[] }, { accessFlags := 25, nameIndex := 396, descriptorIndex := 155, attributes := #[] }, { accessFlags := 10, nameIndex := 525, descriptorIndex := 526, attributes := #[] }, { accessFlags := 26, nameIndex := 674, descriptorIndex := 12, attributes := #[] }, { accessFlags := 26, nameIndex := 677, descriptorIndex := 12, attributes := #[] }, { accessFlags := 10, nameIndex := 11, descriptorIndex := 12, attributes := #[] }, { accessFlags := 74, nameIndex := 175, descriptorIndex := 176, attributes := #[] }, { accessFlags := 10, nameIndex := 491, descriptorIndex := 222, attributes := #[] }, { accessFlags := 74, nameIndex := 29, descriptorIndex := 30, attributes := #[] }, { accessFlags := 74, nameIndex := 154, descriptorIndex := 155, attributes := #[] }, { accessFlags := 10, nameIndex := 217, descriptorIndex := 218, attributes := #[] }, { accessFlags := 10, nameIndex := 221, descriptorIndex := 222, attributes := #[] }, { accessFlags := 8, nameIndex := 562, descriptorIndex := 563, attributes := #[] }])
  fields := #[{ name := "in", type := (.object "java/io/InputStream"), accessFlags := 25, slot := 0, constantValue := 0 }, { name := "out", type := (.object "java/io/PrintStream"), accessFlags := 25, slot := 1, constantValue := 0 }, { name := "err", type := (.object "java/io/PrintStream"), accessFlags := 25, slot := 2, constantValue := 0 }, { name := "initialIn", type := (.object "java/io/InputStream"), accessFlags := 10, slot := 3, constantValue := 0 }, { name := "NEVER", type := .int, accessFlags := 26, slot := 4, constantValue := 0 }, { name := "MAYBE", type := .int, accessFlags := 26, slot := 5, constantValue := 0 }, { name := "allowSecurityManager", type := .int, accessFlags := 10, slot := 6, constantValue := 0 }, { name := "security", type := (.object "java/lang/SecurityManager"), accessFlags := 74, slot := 7, constantValue := 0 }, { name := "notSupportedJnuEncoding", type := (.object "java/lang/String"), accessFlags := 10, slot := 8, constantValue := 0 }, { name := "cons", type := (.object "java/io/Console"), accessFlags := 74, slot := 9, constantValue := 0 }, { name := "initialErrStream", type := (.object "java/io/PrintStream"), accessFlags := 74, slot := 10, constantValue := 0 }, { name := "props", type := (.object "java/util/Properties"), accessFlags := 10, slot := 11, constantValue := 0 }, { name := "lineSeparator", type := (.object "java/lang/String"), accessFlags := 10, slot := 12, constantValue := 0 }, { name := "bootLayer", type := (.object "java/lang/ModuleLayer"), accessFlags := 8, slot := 13, constantValue := 0 }]
  methods := #[k16m0, k16m1]
  instanceTypes := #[]
  staticTypes := #[(.object "java/io/InputStream"), (.object "java/io/PrintStream"), (.object "java/io/PrintStream"), (.object "java/io/InputStream"), .int, .int, .int, (.object "java/lang/SecurityManager"), (.object "java/lang/String"), (.object "java/io/Console"), (.object "java/io/PrintStream"), (.object "java/util/Properties"), (.object "java/lang/String"), (.object "java/lang/ModuleLayer")]
  resolved := Array.replicate 834 none
  statics := none }

def pool17 : Array CpInfo := pool [(2, .class_ 4), (1, u "java/lang/Object"), (0, u "<init>"), (0, u "()V"), (14, .class_ 23), (1, u "java/nio/charset/StandardCharsets"), (0, u "US_ASCII"), (0, u "Ljava/nio/charset/Charset;"), (7, u "ISO_8859_1"), (7, u "UTF_8"), (5, u "UTF_16BE"), (5, u "UTF_16LE"), (5, u "UTF_16")] 8

def k17m0 : Method := { name := "<init>", desc := "()V", sig := { parameters := [], returnType := none }, accessFlags := 2, code := none }
/-- java/nio/charset/StandardCharsets -/
def k17 : Class := { plain "java/nio/charset/StandardCharsets" (some 0) with
  accessFlags := 49
  interfaces := #[]
  cf := some (fileOf pool17 21 #[] #[{ accessFlags := 2, nameIndex := 5, descriptorIndex := 6, attributes := #[] }] 49 2 #[] #[{ accessFlags := 25, nameIndex := 24, descriptorIndex := 25, attributes := #[] }, { accessFlags := 25, nameIndex := 33, descriptorIndex := 25, attributes := #[] }, { accessFlags := 25, nameIndex := 41, descriptorIndex := 25, attributes := #[] }, { accessFlags := 25, nameIndex := 47, descriptorIndex := 25, attributes := #[] }, { accessFlags := 25, nameIndex := 53, descriptorIndex := 25, attributes := #[] }, { accessFlags := 25, nameIndex := 59, descriptorIndex := 25, attributes := #[] }])
  fields := #[{ name := "US_ASCII", type := (.object "java/nio/charset/Charset"), accessFlags := 25, slot := 0, constantValue := 0 }, { name := "ISO_8859_1", type := (.object "java/nio/charset/Charset"), accessFlags := 25, slot := 1, constantValue := 0 }, { name := "UTF_8", type := (.object "java/nio/charset/Charset"), accessFlags := 25, slot := 2, constantValue := 0 }, { name := "UTF_16BE", type := (.object "java/nio/charset/Charset"), accessFlags := 25, slot := 3, constantValue := 0 }, { name := "UTF_16LE", type := (.object "java/nio/charset/Charset"), accessFlags := 25, slot := 4, constantValue := 0 }, { name := "UTF_16", type := (.object "java/nio/charset/Charset"), accessFlags := 25, slot := 5, constantValue := 0 }]
  methods := #[k17m0]
  instanceTypes := #[]
  staticTypes := #[(.object "java/nio/charset/Charset"), (.object "java/nio/charset/Charset"), (.object "java/nio/charset/Charset"), (.object "java/nio/charset/Charset"), (.object "java/nio/charset/Charset"), (.object "java/nio/charset/Charset")]
  resolved := Array.replicate 68 none
  statics := some 2 }

def pool18 : Array CpInfo := pool [(18, .class_ 20), (1, u "java/nio/charset/Charset"), (0, u "cache1"), (0, u "[Ljava/lang/Object;"), (2, u "cache2"), (0, .class_ 27), (0, u "java/lang/Object"), (0, .class_ 29), (0, u "java/nio/charset/Charset$1"), (4, .class_ 36), (1, u "java/nio/charset/Charset$ThreadTrackHolder"), (21, .class_ 59), (0, u "java/nio/charset/Charset$2"), (11, .class_ 73), (1, u "java/nio/charset/Charset$ExtendedProviderHolder"), (22, u "standardProvider"), (0, u "Ljava/nio/charset/spi/CharsetProvider;"), (29, u "name"), (7, .class_ 136), (0, u "java/nio/charset/Charset$3"), (5, u "defaultCharset"), (0, u "Ljava/nio/charset/Charset;"), (14, u "zeroAliases"), (0, u "[Ljava/lang/String;"), (29, u "Ljava/lang/String;"), (2, u "aliases"), (2, u "aliasSet"), (0, u "Ljava/util/Set;"), (82, .class_ 280), (0, u "java/lang/Comparable"), (84, .class_ 366), (0, u "java/nio/charset/Charset$ExtendedProviderHolder$1")] 3

/-- java/nio/charset/Charset -/
def k18 : Class := { plain "java/nio/charset/Charset" (some 0) with
  accessFlags := 1057
  interfaces := #[3]
  cf := some (fileOf pool18 18 #[.nestMembers #[71, 365, 34, 135, 58, 28]] #[] 1057 26 #[279] #[{ accessFlags := 26, nameIndex := 96, descriptorIndex := 97, attributes := #[] }, { accessFlags := 26, nameIndex := 158, descriptorIndex := 159, attributes := #[] }, { accessFlags := 74, nameIndex := 21, descriptorIndex := 22, attributes := #[] }, { accessFlags := 74, nameIndex := 25, descriptorIndex := 22, attributes := #[] }, { accessFlags := 10, nameIndex := 142, descriptorIndex := 143, attributes := #[] }, { accessFlags := 18, nameIndex := 127, descriptorIndex := 189, attributes := #[] }, { accessFlags := 18, nameIndex := 192, descriptorIndex := 159, attributes := #[] }, { accessFlags := 2, nameIndex := 195, descriptorIndex := 196, attributes := #[] }])
  fields := #[{ name := "standardProvider", type := (.object "java/nio/charset/spi/CharsetProvider"), accessFlags := 26, slot := 0, constantValue := 0 }, { name := "zeroAliases", type := (.array (.object "java/lang/String")), accessFlags := 26, slot := 1, constantValue := 0 }, { name := "cache1", type := (.array (.object "java/lang/Object")), accessFlags := 74, slot := 2, constantValue := 0 }, { name := "cache2", type := (.array (.object "java/lang/Object")), accessFlags := 74, slot := 3, constantValue := 0 }, { name := "defaultCharset", type := (.object "java/nio/charset/Charset"), accessFlags := 10, slot := 4, constantValue := 0 }, { name := "name", type := (.object "java/lang/String"), accessFlags := 18, slot := 0, constantValue := 0 }, { name := "aliases", type := (.array (.object "java/lang/String")), accessFlags := 18, slot := 1, constantValue := 0 }, { name := "aliasSet", type := (.object "java/util/Set"), accessFlags := 2, slot := 2, constantValue := 0 }]
  methods := #[]
  instanceTypes := #[(.object "java/lang/String"), (.array (.object "java/lang/String")), (.object "java/util/Set")]
  staticTypes := #[(.object "java/nio/charset/spi/CharsetProvider"), (.array (.object "java/lang/String")), (.array (.object "java/lang/Object")), (.array (.object "java/lang/Object")), (.object "java/nio/charset/Charset")]
  resolved := Array.replicate 370 none
  statics := none }

def pool19 : Array CpInfo := pool [(1, .class_ 2), (0, u "sun/nio/cs/HistoricallyNamedCharset"), (0, .class_ 4), (0, u "java/lang/Object")] 4

/-- sun/nio/cs/HistoricallyNamedCharset -/
def k19 : Class := { plain "sun/nio/cs/HistoricallyNamedCharset" (some 0) with
  accessFlags := 1537
  interfaces := #[]
  cf := some (fileOf pool19 1 #[] #[] 1537 3 #[] #[])
  fields := #[]
  methods := #[]
  instanceTypes := #[]
  staticTypes := #[]
  resolved := Array.replicate 9 none
  statics := none }

def pool20 : Array CpInfo := pool [(2, .class_ 4), (1, u "java/nio/charset/Charset"), (130, .class_ 136), (0, u "sun/nio/cs/Unicode"), (0, .class_ 138), (0, u "sun/nio/cs/HistoricallyNamedCharset")] 15

/-- sun/nio/cs/Unicode -/
def k20 : Class := { plain "sun/nio/cs/Unicode" (some 18) with
  accessFlags := 1056
  interfaces := #[19]
  cf := some (fileOf pool20 135 #[] #[] 1056 2 #[137] #[])
  fields := #[]
  methods := #[]
  instanceTypes := #[(.object "java/lang/String"), (.array (.object "java/lang/String")), (.object "java/util/Set")]
  staticTypes := #[]
  resolved := Array.replicate 154 none
  statics := none }

def pool21 : Array CpInfo := pool [(10, .class_ 12), (1, u "sun/nio/cs/Unicode"), (0, u "<init>"), (3, .class_ 18), (0, u "sun/nio/cs/UTF_8$Decoder"), (3, .class_ 23), (0, u "sun/nio/cs/UTF_8$Encoder"), (15, .class_ 40), (0, u "sun/nio/cs/UTF_8"), (2, u "()V"), (2, u "INSTANCE"), (0, u "Lsun/nio/cs/UTF_8;"), (8, u "JLA"), (0, u "Ljdk/internal/access/JavaLangAccess;")] 26

def k21m0 : Method := { name := "<init>", desc := "()V", sig := { parameters := [], returnType := none }, accessFlags := 1, code := none }
/-- sun/nio/cs/UTF_8 -/
def k21 : Class := { plain "sun/nio/cs/UTF_8" (some 20) with
  accessFlags := 49
  interfaces := #[]
  cf := some (fileOf pool21 39 #[.nestMembers #[22, 17]] #[{ accessFlags := 1, nameIndex := 13, descriptorIndex := 43, attributes := #[] }] 49 10 #[] #[{ accessFlags := 25, nameIndex := 46, descriptorIndex := 47, attributes := #[] }, { accessFlags := 26, nameIndex := 56, descriptorIndex := 57, attributes := #[] }])
  fields := #[{ name := "INSTANCE", type := (.object "sun/nio/cs/UTF_8"), accessFlags := 25, slot := 0, constantValue := 0 }, { name := "JLA", type := (.object "jdk/internal/access/JavaLangAccess"), accessFlags := 26, slot := 1, constantValue := 0 }]
  methods := #[k21m0]
  instanceTypes := #[(.object "java/lang/String"), (.array (.object "java/lang/String")), (.object "java/util/Set")]
  staticTypes := #[(.object "sun/nio/cs/UTF_8"), (.object "jdk/internal/access/JavaLangAccess")]
  resolved := Array.replicate 84 none
  statics := some 3 }

def pool22 : Array CpInfo := pool [(2, .class_ 4), (1, u "java/lang/Object"), (0, u "<init>"), (0, u "()V"), (0, .methodref 8 9), (0, .class_ 10), (0, .nameAndType 11 12), (0, u "java/lang/StringCoding"), (0, u "countPositives"), (0, u "([BII)I"), (11, u "hasNegatives"), (0, u "([BII)Z")] 23

def k22m0 : Method := { name := "<init>", desc := "()V", sig := { parameters := [], returnType := none }, accessFlags := 2, code := none }
def k22c1 : Code := { maxStack := 3, maxLocals := 3, code := jdk_123_method_2_code, exceptionTable := #[], attributes := #[] }
def k22m1 : Method := { name := "hasNegatives", desc := "([BII)Z", sig := { parameters := [(.array .byte), .int, .int], returnType := some .boolean }, accessFlags := 9, code := some k22c1 }
def k22c2 : Code := { maxStack := 2, maxLocals := 5, code := jdk_123_method_3_code, exceptionTable := #[], attributes := #[] }
def k22m2 : Method := { name := "countPositives", desc := "([BII)I", sig := { parameters := [(.array .byte), .int, .int], returnType := some .int }, accessFlags := 9, code := some k22c2 }
/-- java/lang/StringCoding -/
def k22 : Class := { plain "java/lang/StringCoding" (some 0) with
  accessFlags := 32
  interfaces := #[]
  cf := some (fileOf pool22 8 #[] #[{ accessFlags := 2, nameIndex := 5, descriptorIndex := 6, attributes := #[] }, { accessFlags := 9, nameIndex := 24, descriptorIndex := 25, attributes := #[] }, { accessFlags := 9, nameIndex := 11, descriptorIndex := 12, attributes := #[] }] 32 2 #[] #[])
  fields := #[]
  methods := #[k22m0, k22m1, k22m2]
  instanceTypes := #[]
  staticTypes := #[]
  resolved := Array.replicate 49 none
  statics := none }

def pool23 : Array CpInfo := pool [(1, .class_ 2), (0, u "java/lang/Cloneable"), (0, .class_ 4), (0, u "java/lang/Object")] 2

/-- java/lang/Cloneable -/
def k23 : Class := { plain "java/lang/Cloneable" (some 0) with
  accessFlags := 1537
  interfaces := #[]
  cf := some (fileOf pool23 1 #[] #[] 1537 3 #[] #[])
  fields := #[]
  methods := #[]
  instanceTypes := #[]
  staticTypes := #[]
  resolved := Array.replicate 7 none
  statics := none }

def pool24 : Array CpInfo := pool [(4, .class_ 6), (1, u "java/lang/Object"), (0, u "<init>"), (0, u "()V"), (5, .class_ 16), (1, u "java/lang/StringLatin1"), (0, u "inflate"), (2, .class_ 22), (1, u "java/lang/StringUTF16"), (3, .nameAndType 17 27), (0, u "([BI[BII)V"), (93, u "$assertionsDisabled"), (0, u "Z"), (98, .class_ 223), (1, u "java/lang/StringLatin1$LinesSpliterator"), (16, .methodref 20 26), (149, .class_ 391), (0, u "java/lang/StringLatin1$CharsSpliterator")] 3

def k24m0 : Method := { name := "<init>", desc := "()V", sig := { parameters := [], returnType := none }, accessFlags := 0, code := none }
def k24c1 : Code := { maxStack := 5, maxLocals := 5, code := jdk_43_method_50_code, exceptionTable := #[], attributes := #[] }
def k24m1 : Method := { name := "inflate", desc := "([BI[BII)V", sig := { parameters := [(.array .byte), .int, (.array .byte), .int, .int], returnType := none }, accessFlags := 9, code := some k24c1 }
/-- java/lang/StringLatin1 -/
def k24 : Class := { plain "java/lang/StringLatin1" (some 0) with
  accessFlags := 48
  interfaces := #[]
  cf := some (fileOf pool24 14 #[.nestMembers #[390, 221]] #[{ accessFlags := 0, nameIndex := 7, descriptorIndex := 8, attributes := #[] }, { accessFlags := 9, nameIndex := 17, descriptorIndex := 27, attributes := #[] }] 48 4 #[] #[{ accessFlags := 4120, nameIndex := 121, descriptorIndex := 122, attributes := #[] }])
  fields := #[{ name := "$assertionsDisabled", type := .boolean, accessFlags := 4120, slot := 0, constantValue := 0 }]
  methods := #[k24m0, k24m1]
  instanceTypes := #[]
  staticTypes := #[.boolean]
  resolved := Array.replicate 395 none
  statics := none }

def pool25 : Array CpInfo := pool [(2, .class_ 4), (1, u "java/lang/Object"), (0, u "<init>"), (0, u "()V"), (17, .class_ 26), (1, u "jdk/internal/util/Preconditions"), (22, u "checkFromIndexSize"), (5, .class_ 56), (0, u "jdk/internal/util/Preconditions$4"), (57, .class_ 115), (0, u "jdk/internal/util/Preconditions$1"), (7, u "SIOOBE_FORMATTER"), (0, u "Ljava/util/function/BiFunction;"), (0, .class_ 126), (0, u "jdk/internal/util/Preconditions$2"), (3, u "AIOOBE_FORMATTER"), (0, .class_ 132), (0, u "jdk/internal/util/Preconditions$3"), (3, u "IOOBE_FORMATTER"), (46, u "(IIILjava/util/function/BiFunction;)I")] 10

def k25m0 : Method := { name := "<init>", desc := "()V", sig := { parameters := [], returnType := none }, accessFlags := 1, code := none }
def k25c1 : Code := { maxStack := 4, maxLocals := 4, code := jdk_41_method_13_code, exceptionTable := #[], attributes := #[] }
def k25m1 : Method := { name := "checkFromIndexSize", desc := "(IIILjava/util/function/BiFunction;)I", sig := { parameters := [.int, .int, .int, (.object "java/util/function/BiFunction")], returnType := some .int }, accessFlags := 9, code := some k25c1 }
/-- jdk/internal/util/Preconditions -/
def k25 : Class := { plain "jdk/internal/util/Preconditions" (some 0) with
  accessFlags := 33
  interfaces := #[]
  cf := some (fileOf pool25 24 #[.nestMembers #[55, 131, 125, 114]] #[{ accessFlags := 1, nameIndex := 5, descriptorIndex := 6, attributes := #[] }, { accessFlags := 9, nameIndex := 49, descriptorIndex := 183, attributes := #[] }] 33 2 #[] #[{ accessFlags := 25, nameIndex := 123, descriptorIndex := 124, attributes := #[] }, { accessFlags := 25, nameIndex := 130, descriptorIndex := 124, attributes := #[] }, { accessFlags := 25, nameIndex := 136, descriptorIndex := 124, attributes := #[] }])
  fields := #[{ name := "SIOOBE_FORMATTER", type := (.object "java/util/function/BiFunction"), accessFlags := 25, slot := 0, constantValue := 0 }, { name := "AIOOBE_FORMATTER", type := (.object "java/util/function/BiFunction"), accessFlags := 25, slot := 1, constantValue := 0 }, { name := "IOOBE_FORMATTER", type := (.object "java/util/function/BiFunction"), accessFlags := 25, slot := 2, constantValue := 0 }]
  methods := #[k25m0, k25m1]
  instanceTypes := #[]
  staticTypes := #[(.object "java/util/function/BiFunction"), (.object "java/util/function/BiFunction"), (.object "java/util/function/BiFunction")]
  resolved := Array.replicate 194 none
  statics := some 4 }

def pool26 : Array CpInfo := pool [(1, .class_ 2), (0, u "java/lang/Character"), (18, u "value"), (0, u "C"), (19, .class_ 44), (1, u "java/lang/Object"), (3, .class_ 50), (1, u "java/lang/Character$CharacterCache"), (24, .integer 55296), (1, .integer 57344), (3, u "(C)Z"), (202, u "$assertionsDisabled"), (0, u "Z"), (21, .class_ 309), (1, u "java/lang/Character$UnicodeBlock"), (73, u "TYPE"), (0, u "Ljava/lang/Class;"), (0, .class_ 386), (0, u "java/io/Serializable"), (0, .class_ 388), (0, u "java/lang/Comparable"), (0, .class_ 390), (0, u "java/lang/constant/Constable"), (0, u "MIN_RADIX"), (0, u "I"), (2, u "MAX_RADIX"), (1, u "MIN_VALUE"), (1, u "MAX_VALUE"), (3, u "UNASSIGNED"), (0, u "B"), (0, u "UPPERCASE_LETTER"), (1, u "LOWERCASE_LETTER"), (0, u "TITLECASE_LETTER"), (1, u "MODIFIER_LETTER"), (1, u "OTHER_LETTER"), (1, u "NON_SPACING_MARK"), (1, u "ENCLOSING_MARK"), (1, u "COMBINING_SPACING_MARK"), (1, u "DECIMAL_DIGIT_NUMBER"), (1, u "LETTER_NUMBER"), (1, u "OTHER_NUMBER"), (1, u "SPACE_SEPARATOR"), (1, u "LINE_SEPARATOR"), (1, u "PARAGRAPH_SEPARATOR"), (1, u "CONTROL"), (1, u "FORMAT"), (1, u "PRIVATE_USE"), (1, u "SURROGATE"), (1, u "DASH_PUNCTUATION"), (1, u "START_PUNCTUATION"), (1, u "END_PUNCTUATION"), (1, u "CONNECTOR_PUNCTUATION"), (1, u "OTHER_PUNCTUATION"), (1, u "MATH_SYMBOL"), (1, u "CURRENCY_SYMBOL"), (1, u "MODIFIER_SYMBOL"), (1, u "OTHER_SYMBOL"), (1, u "INITIAL_QUOTE_PUNCTUATION"), (1, u "FINAL_QUOTE_PUNCTUATION"), (1, u "ERROR"), (1, u "DIRECTIONALITY_UNDEFINED"), (0, u "DIRECTIONALITY_LEFT_TO_RIGHT"), (0, u "DIRECTIONALITY_RIGHT_TO_LEFT"), (0, u "DIRECTIONALITY_RIGHT_TO_LEFT_ARABIC"), (0, u "DIRECTIONALITY_EUROPEAN_NUMBER"), (0, u "DIRECTIONALITY_EUROPEAN_NUMBER_SEPARATOR"), (0, u "DIRECTIONALITY_EUROPEAN_NUMBER_TERMINATOR"), (0, u "DIRECTIONALITY_ARABIC_NUMBER"), (0, u "DIRECTIONALITY_COMMON_NUMBER_SEPARATOR"), (0, u "DIRECTIONALITY_NONSPACING_MARK"), (0, u "DIRECTIONALITY_BOUNDARY_NEUTRAL"), (0, u "DIRECTIONALITY_PARAGRAPH_SEPARATOR"), (0, u "DIRECTIONALITY_SEGMENT_SEPARATOR"), (0, u "DIRECTIONALITY_WHITESPACE"), (0, u "DIRECTIONALITY_OTHER_NEUTRALS"), (0, u "DIRECTIONALITY_LEFT_TO_RIGHT_EMBEDDING"), (0, u "DIRECTIONALITY_LEFT_TO_RIGHT_OVERRIDE"), (0, u "DIRECTIONALITY_RIGHT_TO_LEFT_EMBEDDING"), (0, u "DIRECTIONALITY_RIGHT_TO_LEFT_OVERRIDE"), (1, u "DIRECTIONALITY_POP_DIRECTIONAL_FORMAT"), (0, u "DIRECTIONALITY_LEFT_TO_RIGHT_ISOLATE"), (0, u "DIRECTIONALITY_RIGHT_TO_LEFT_ISOLATE"), (0, u "DIRECTIONALITY_FIRST_STRONG_ISOLATE"), (0, u "DIRECTIONALITY_POP_DIRECTIONAL_ISOLATE"), (0, u "MIN_HIGH_SURROGATE"), (0, u "MAX_HIGH_SURROGATE"), (1, u "MIN_LOW_SURROGATE"), (0, u "MAX_LOW_SURROGATE"), (1, u "MIN_SURROGATE"), (0, u "MAX_SURROGATE"), (0, u "MIN_SUPPLEMENTARY_CODE_POINT"), (0, u "MIN_CODE_POINT"), (0, u "MAX_CODE_POINT"), (1, u "serialVersionUID"), (0, u "J"), (2, u "SIZE"), (0, u "BYTES"), (24, u "isSurrogate"), (63, .class_ 596), (0, u "java/lang/Character$UnicodeScript"), (0, .class_ 598), (0, u "java/lang/Character$Subset")] 5

def k26c0 : Code := { maxStack := 2, maxLocals := 1, code := jdk_89_method_16_code, exceptionTable := #[], attributes := #[] }
def k26m0 : Method := { name := "isSurrogate", desc := "(C)Z", sig := { parameters := [.char], returnType := some .boolean }, accessFlags := 9, code := some k26c0 }
/-- java/lang/Character -/
def k26 : Class := { plain "java/lang/Character" (some 0) with
  accessFlags := 49
  interfaces := #[2, 3, 5]
  cf := some (fileOf pool26 1 #[.nestMembers #[48, 595, 307, 597]] #[{ accessFlags := 9, nameIndex := 531, descriptorIndex := 81, attributes := #[] }] 49 42 #[385, 387, 389] #[{ accessFlags := 25, nameIndex := 391, descriptorIndex := 392, attributes := #[] }, { accessFlags := 25, nameIndex := 395, descriptorIndex := 392, attributes := #[] }, { accessFlags := 25, nameIndex := 397, descriptorIndex := 22, attributes := #[] }, { accessFlags := 25, nameIndex := 399, descriptorIndex := 22, attributes := #[] }, { accessFlags := 25, nameIndex := 383, descriptorIndex := 384, attributes := #[] }, { accessFlags := 25, nameIndex := 403, descriptorIndex := 404, attributes := #[] }, { accessFlags := 25, nameIndex := 405, descriptorIndex := 404, attributes := #[] }, { accessFlags := 25, nameIndex := 407, descriptorIndex := 404, attributes := #[] }, { accessFlags := 25, nameIndex := 408, descriptorIndex := 404, attributes := #[] }, { accessFlags := 25, nameIndex := 410, descriptorIndex := 404, attributes := #[] }, { accessFlags := 25, nameIndex := 412, descriptorIndex := 404, attributes := #[] }, { accessFlags := 25, nameIndex := 414, descriptorIndex := 404, attributes := #[] }, { accessFlags := 25, nameIndex := 416, descriptorIndex := 404, attributes := #[] }, { accessFlags := 25, nameIndex := 418, descriptorIndex := 404, attributes := #[] }, { accessFlags := 25, nameIndex := 420, descriptorIndex := 404, attributes := #[] }, { accessFlags := 25, nameIndex := 422, descriptorIndex := 404, attributes := #[] }, { accessFlags := 25, nameIndex := 424, descriptorIndex := 404, attributes := #[] }, { accessFlags := 25, nameIndex := 426, descriptorIndex := 404, attributes := #[] }, { accessFlags := 25, nameIndex := 428, descriptorIndex := 404, attributes := #[] }, { accessFlags := 25, nameIndex := 430, descriptorIndex := 404, attributes := #[] }, { accessFlags := 25, nameIndex := 432, descriptorIndex := 404, attributes := #[] }, { accessFlags := 25, nameIndex := 434, descriptorIndex := 404, attributes := #[] }, { accessFlags := 25, nameIndex := 436, descriptorIndex := 404, attributes := #[] }, { accessFlags := 25, nameIndex := 438, descriptorIndex := 404, attributes := #[] }, { accessFlags := 25, nameIndex := 440, descriptorIndex := 404, attributes := #[] }, { accessFlags := 25, nameIndex := 442, descriptorIndex := 404, attributes := #[] }, { accessFlags := 25, nameIndex := 444, descriptorIndex := 404, attributes := #[] }, { accessFlags := 25, nameIndex := 446, descriptorIndex := 404, attributes := #[] }, { accessFlags := 25, nameIndex := 448, descriptorIndex := 404, attributes := #[] }, { accessFlags := 25, nameIndex := 450, descriptorIndex := 404, attributes := #[] }, { accessFlags := 25, nameIndex := 452, descriptorIndex := 404, attributes := #[] }, { accessFlags := 25, nameIndex := 454, descriptorIndex := 404, attributes := #[] }, { accessFlags := 25, nameIndex := 456, descriptorIndex := 404, attributes := #[] }, { accessFlags := 25, nameIndex := 458, descriptorIndex := 404, attributes := #[] }, { accessFlags := 25, nameIndex := 460, descriptorIndex := 404, attributes := #[] }, { accessFlags := 24, nameIndex := 462, descriptorIndex := 392, attributes := #[] }, { accessFlags := 25, nameIndex := 464, descriptorIndex := 404, attributes := #[] }, { accessFlags := 25, nameIndex := 465, descriptorIndex := 404, attributes := #[] }, { accessFlags := 25, nameIndex := 466, descriptorIndex := 404, attributes := #[] }, { accessFlags := 25, nameIndex := 467, descriptorIndex := 404, attributes := #[] }, { accessFlags := 25, nameIndex := 468, descriptorIndex := 404, attributes := #[] }, { accessFlags := 25, nameIndex := 469, descriptorIndex := 404, attributes := #[] }, { accessFlags := 25, nameIndex := 470, descriptorIndex := 404, attributes := #[] }, { accessFlags := 25, nameIndex := 471, descriptorIndex := 404, attributes := #[] }, { accessFlags := 25, nameIndex := 472, descriptorIndex := 404, attributes := #[] }, { accessFlags := 25, nameIndex := 473, descriptorIndex := 404, attributes := #[] }, { accessFlags := 25, nameIndex := 474, descriptorIndex := 404, attributes := #[] }, { accessFlags := 25, nameIndex := 475, descriptorIndex := 404, attributes := #[] }, { accessFlags := 25, nameIndex := 476, descriptorIndex := 404, attributes := #[] }, { accessFlags := 25, nameIndex := 477, descriptorIndex := 404, attributes := #[] }, { accessFlags := 25, nameIndex := 478, descriptorIndex := 404, attributes := #[] }, { accessFlags := 25, nameIndex := 479, descriptorIndex := 404, attributes := #[] }, { accessFlags := 25, nameIndex := 480, descriptorIndex := 404, attributes := #[] }, { accessFlags := 25, nameIndex := 481, descriptorIndex := 404, attributes := #[] }, { accessFlags := 25, nameIndex := 482, descriptorIndex := 404, attributes := #[] }, { accessFlags := 25, nameIndex := 484, descriptorIndex := 404, attributes := #[] }, { accessFlags := 25, nameIndex := 485, descriptorIndex := 404, attributes := #[] }, { accessFlags := 25, nameIndex := 486, descriptorIndex := 404, attributes := #[] }, { accessFlags := 25, nameIndex := 487, descriptorIndex := 404, attributes := #[] }, { accessFlags := 25, nameIndex := 488, descriptorIndex := 404, attributes := #[] }, { accessFlags := 25, nameIndex := 489, descriptorIndex := 22, attributes := #[] }, { accessFlags := 25, nameIndex := 490, descriptorIndex := 22, attributes := #[] }, { accessFlags := 25, nameIndex := 492, descriptorIndex := 22, attributes := #[] }, { accessFlags := 25, nameIndex := 493, descriptorIndex := 22, attributes := #[] }, { accessFlags := 25, nameIndex := 495, descriptorIndex := 22, attributes := #[] }, { accessFlags := 25, nameIndex := 496, descriptorIndex := 22, attributes := #[] }, { accessFlags := 25, nameIndex := 497, descriptorIndex := 392, attributes := #[] }, { accessFlags := 25, nameIndex := 498, descriptorIndex := 392, attributes := #[] }, { accessFlags := 25, nameIndex := 499, descriptorIndex := 392, attributes := #[] }, { accessFlags := 18, nameIndex := 21, descriptorIndex := 22, attributes := #[] }, { accessFlags := 26, nameIndex := 501, descriptorIndex := 502, attributes := #[] }, { accessFlags := 25, nameIndex := 505, descriptorIndex := 392, attributes := #[] }, { accessFlags := 25, nameIndex := 506, descriptorIndex := 392, attributes := #[] }, { accessFlags := 4120, nameIndex := 284, descriptorIndex := 285, attributes := #[] }])
  fields := #[{ name := "MIN_RADIX", type := .int, accessFlags := 25, slot := 0, constantValue := 0 }, { name := "MAX_RADIX", type := .int, accessFlags := 25, slot := 1, constantValue := 0 }, { name := "MIN_VALUE", type := .char, accessFlags := 25, slot := 2, constantValue := 0 }, { name := "MAX_VALUE", type := .char, accessFlags := 25, slot := 3, constantValue := 0 }, { name := "TYPE", type := (.object "java/lang/Class"), accessFlags := 25, slot := 4, constantValue := 0 }, { name := "UNASSIGNED", type := .byte, accessFlags := 25, slot := 5, constantValue := 0 }, { name := "UPPERCASE_LETTER", type := .byte, accessFlags := 25, slot := 6, constantValue := 0 }, { name := "LOWERCASE_LETTER", type := .byte, accessFlags := 25, slot := 7, constantValue := 0 }, { name := "TITLECASE_LETTER", type := .byte, accessFlags := 25, slot := 8, constantValue := 0 }, { name := "MODIFIER_LETTER", type := .byte, accessFlags := 25, slot := 9, constantValue := 0 }, { name := "OTHER_LETTER", type := .byte, accessFlags := 25, slot := 10, constantValue := 0 }, { name := "NON_SPACING_MARK", type := .byte, accessFlags := 25, slot := 11, constantValue := 0 }, { name := "ENCLOSING_MARK", type := .byte, accessFlags := 25, slot := 12, constantValue := 0 }, { name := "COMBINING_SPACING_MARK", type := .byte, accessFlags := 25, slot := 13, constantValue := 0 }, { name := "DECIMAL_DIGIT_NUMBER", type := .byte, accessFlags := 25, slot := 14, constantValue := 0 }, { name := "LETTER_NUMBER", type := .byte, accessFlags := 25, slot := 15, constantValue := 0 }, { name := "OTHER_NUMBER", type := .byte, accessFlags := 25, slot := 16, constantValue := 0 }, { name := "SPACE_SEPARATOR", type := .byte, accessFlags := 25, slot := 17, constantValue := 0 }, { name := "LINE_SEPARATOR", type := .byte, accessFlags := 25, slot := 18, constantValue := 0 }, { name := "PARAGRAPH_SEPARATOR", type := .byte, accessFlags := 25, slot := 19, constantValue := 0 }, { name := "CONTROL", type := .byte, accessFlags := 25, slot := 20, constantValue := 0 }, { name := "FORMAT", type := .byte, accessFlags := 25, slot := 21, constantValue := 0 }, { name := "PRIVATE_USE", type := .byte, accessFlags := 25, slot := 22, constantValue := 0 }, { name := "SURROGATE", type := .byte, accessFlags := 25, slot := 23, constantValue := 0 }, { name := "DASH_PUNCTUATION", type := .byte, accessFlags := 25, slot := 24, constantValue := 0 }, { name := "START_PUNCTUATION", type := .byte, accessFlags := 25, slot := 25, constantValue := 0 }, { name := "END_PUNCTUATION", type := .byte, accessFlags := 25, slot := 26, constantValue := 0 }, { name := "CONNECTOR_PUNCTUATION", type := .byte, accessFlags := 25, slot := 27, constantValue := 0 }, { name := "OTHER_PUNCTUATION", type := .byte, accessFlags := 25, slot := 28, constantValue := 0 }, { name := "MATH_SYMBOL", type := .byte, accessFlags := 25, slot := 29, constantValue := 0 }, { name := "CURRENCY_SYMBOL", type := .byte, accessFlags := 25, slot := 30, constantValue := 0 }, { name := "MODIFIER_SYMBOL", type := .byte, accessFlags := 25, slot := 31, constantValue := 0 }, { name := "OTHER_SYMBOL", type := .byte, accessFlags := 25, slot := 32, constantValue := 0 }, { name := "INITIAL_QUOTE_PUNCTUATION", type := .byte, accessFlags := 25, slot := 33, constantValue := 0 }, { name := "FINAL_QUOTE_PUNCTUATION", type := .byte, accessFlags := 25, slot := 34, constantValue := 0 }, { name := "ERROR", type := .int, accessFlags := 24, slot := 35, constantValue := 0 }, { name := "DIRECTIONALITY_UNDEFINED", type := .byte, accessFlags := 25, slot := 36, constantValue := 0 }, { name := "DIRECTIONALITY_LEFT_TO_RIGHT", type := .byte, accessFlags := 25, slot := 37, constantValue := 0 }, { name := "DIRECTIONALITY_RIGHT_TO_LEFT", type := .byte, accessFlags := 25, slot := 38, constantValue := 0 }, { name := "DIRECTIONALITY_RIGHT_TO_LEFT_ARABIC", type := .byte, accessFlags := 25, slot := 39, constantValue := 0 }, { name := "DIRECTIONALITY_EUROPEAN_NUMBER", type := .byte, accessFlags := 25, slot := 40, constantValue := 0 }, { name := "DIRECTIONALITY_EUROPEAN_NUMBER_SEPARATOR", type := .byte, accessFlags := 25, slot := 41, constantValue := 0 }, { name := "DIRECTIONALITY_EUROPEAN_NUMBER_TERMINATOR", type := .byte, accessFlags := 25, slot := 42, constantValue := 0 }, { name := "DIRECTIONALITY_ARABIC_NUMBER", type := .byte, accessFlags := 25, slot := 43, constantValue := 0 }, { name := "DIRECTIONALITY_COMMON_NUMBER_SEPARATOR", type := .byte, accessFlags := 25, slot := 44, constantValue := 0 }, { name := "DIRECTIONALITY_NONSPACING_MARK", type := .byte, accessFlags := 25, slot := 45, constantValue := 0 }, { name := "DIRECTIONALITY_BOUNDARY_NEUTRAL", type := .byte, accessFlags := 25, slot := 46, constantValue := 0 }, { name := "DIRECTIONALITY_PARAGRAPH_SEPARATOR", type := .byte, accessFlags := 25, slot := 47, constantValue := 0 }, { name := "DIRECTIONALITY_SEGMENT_SEPARATOR", type := .byte, accessFlags := 25, slot := 48, constantValue := 0 }, { name := "DIRECTIONALITY_WHITESPACE", type := .byte, accessFlags := 25, slot := 49, constantValue := 0 }, { name := "DIRECTIONALITY_OTHER_NEUTRALS", type := .byte, accessFlags := 25, slot := 50, constantValue := 0 }, { name := "DIRECTIONALITY_LEFT_TO_RIGHT_EMBEDDING", type := .byte, accessFlags := 25, slot := 51, constantValue := 0 }, { name := "DIRECTIONALITY_LEFT_TO_RIGHT_OVERRIDE", type := .byte, accessFlags := 25, slot := 52, constantValue := 0 }, { name := "DIRECTIONALITY_RIGHT_TO_LEFT_EMBEDDING", type := .byte, accessFlags := 25, slot := 53, constantValue := 0 }, { name := "DIRECTIONALITY_RIGHT_TO_LEFT_OVERRIDE", type := .byte, accessFlags := 25, slot := 54, constantValue := 0 }, { name := "DIRECTIONALITY_POP_DIRECTIONAL_FORMAT", type := .byte, accessFlags := 25, slot := 55, constantValue := 0 }, { name := "DIRECTIONALITY_LEFT_TO_RIGHT_ISOLATE", type := .byte, accessFlags := 25, slot := 56, constantValue := 0 }, { name := "DIRECTIONALITY_RIGHT_TO_LEFT_ISOLATE", type := .byte, accessFlags := 25, slot := 57, constantValue := 0 }, { name := "DIRECTIONALITY_FIRST_STRONG_ISOLATE", type := .byte, accessFlags := 25, slot := 58, constantValue := 0 }, { name := "DIRECTIONALITY_POP_DIRECTIONAL_ISOLATE", type := .byte, accessFlags := 25, slot := 59, constantValue := 0 }, { name := "MIN_HIGH_SURROGATE", type := .char, accessFlags := 25, slot := 60, constantValue := 0 }, { name := "MAX_HIGH_SURROGATE", type := .char, accessFlags := 25, slot := 61, constantValue := 0 }, { name := "MIN_LOW_SURROGATE", type := .char, accessFlags := 25, slot := 62, constantValue := 0 }, { name := "MAX_LOW_SURROGATE", type := .char, accessFlags := 25, slot := 63, constantValue := 0 }, { name := "MIN_SURROGATE", type := .char, accessFlags := 25, slot := 64, constantValue := 0 }, { name := "MAX_SURROGATE", type := .char, accessFlags := 25, slot := 65, constantValue := 0 }, { name := "MIN_SUPPLEMENTARY_CODE_POINT", type := .int, accessFlags := 25, slot := 66, constantValue := 0 }, { name := "MIN_CODE_POINT", type := .int, accessFlags := 25, slot := 67, constantValue := 0 }, { name := "MAX_CODE_POINT", type := .int, accessFlags := 25, slot := 68, constantValue := 0 }, { name := "value", type := .char, accessFlags := 18, slot := 0, constantValue := 0 }, { name := "serialVersionUID", type := .long, accessFlags := 26, slot := 69, constantValue := 0 }, { name := "SIZE", type := .int, accessFlags := 25, slot := 70, constantValue := 0 }, { name := "BYTES", type := .int, accessFlags := 25, slot := 71, constantValue := 0 }, { name := "$assertionsDisabled", type := .boolean, accessFlags := 4120, slot := 72, constantValue := 0 }]
  methods := #[k26m0]
  instanceTypes := #[.char]
  staticTypes := #[.int, .int, .char, .char, (.object "java/lang/Class"), .byte, .byte, .byte, .byte, .byte, .byte, .byte, .byte, .byte, .byte, .byte, .byte, .byte, .byte, .byte, .byte, .byte, .byte, .byte, .byte, .byte, .byte, .byte, .byte, .byte, .byte, .byte, .byte, .byte, .byte, .int, .byte, .byte, .byte, .byte, .byte, .byte, .byte, .byte, .byte, .byte, .byte, .byte, .byte, .byte, .byte, .byte, .byte, .byte, .byte, .byte, .byte, .byte, .byte, .byte, .char, .char, .char, .char, .char, .char, .int, .int, .int, .long, .int, .int, .boolean]
  resolved := Array.replicate 604 none
  statics := none }

/-- the primitive byte -/
def k27 : Class := { plain "byte" none with kind := .primitive 'B', accessFlags := 0x411 }
/-- [B -/
def k28 : Class := { plain "[B" (some 0) with kind := .array 27 .byte, interfaces := #[23, 2], accessFlags := 1041 }

/-- the primitive char -/
def k29 : Class := { plain "char" none with kind := .primitive 'C', accessFlags := 0x411 }
/-- [C -/
def k30 : Class := { plain "[C" (some 0) with kind := .array 29 .char, interfaces := #[23, 2], accessFlags := 1041 }

/-- the primitive int -/
def k31 : Class := { plain "int" none with kind := .primitive 'I', accessFlags := 0x411 }
/-- [I -/
def k32 : Class := { plain "[I" (some 0) with kind := .array 31 .int, interfaces := #[23, 2], accessFlags := 1041 }

def heap : Heap := #[{ cls := 7, slots := #[.long 0, .int 1, .null, .int 0, .null, .int 0, .int 0], vm := .statics 7 },
  { cls := 8, slots := #[.int 0, .int 8, .int 0, .int 1], vm := .statics 8 },
  { cls := 17, slots := #[.null, .null, .ref 5, .null, .null, .null], vm := .statics 17 },
  { cls := 21, slots := #[.ref 5, .null], vm := .statics 21 },
  { cls := 25, slots := #[.null, .null, .null], vm := .statics 25 },
  { cls := 21, slots := #[.null, .null, .null], vm := .none }]
def classes : Array Class := #[k0, k1, k2, k3, k4, k5, k6, k7, k8, k9, k10, k11, k12, k13, k14, k15, k16, k17, k18, k19, k20, k21, k22, k23, k24, k25, k26, k27, k28, k29, k30, k31, k32]
def interned : List (Array UInt16 × Addr) := []
def slotsUsed : Nat := 25
def theMethod : MethodId := ⟨1, 1⟩
def args0 : Array Value := #[.int 65, .int 66, .int 67, .int 3]
def aboutOver (below : List Frame) : State where
  vm := { classes := classes, interned := interned.toArray }
  heap := heap
  slotsUsed := slotsUsed
  threads := #[{ frames := .invoking theMethod args0 :: below }]
def below0 : List Frame := [.native { method := ⟨0, 0⟩, args := #[] }]
def about1 : State := aboutOver below0
def p0 : Program := .bare "" "" ""
def e0 : Env := launch0.env 0 0 0
theorem w_frames : about1.frames = Frame.invoking theMethod args0 :: below0 := rfl
set_option maxRecDepth 65536 in
theorem w_args : argsFit about1.vm theMethod args0 = true := by decide +kernel
set_option maxRecDepth 65536 in
theorem w_heap : heapFits about1 = true := by decide +kernel
set_option maxRecDepth 65536 in
theorem w_runnable : about1.curStatus? = some .runnable := by decide +kernel
set_option maxRecDepth 65536 in
theorem w_alone : about1.alone = true := by decide +kernel
set_option maxRecDepth 65536 in
theorem w_named : about1.methodNamed? x = some theMethod := by decide +kernel
set_option maxRecDepth 65536 in
theorem w_hears : about1.hears theMethod below0 = true := by decide +kernel
set_option maxRecDepth 65536 in
theorem w_ripe : about1.ripe theMethod args0 below0 = true := by decide +kernel
theorem w_running : about1.status = .running := rfl
set_option maxRecDepth 65536 in
theorem w_room : about1.hasRoom e0.platform room_1 = true :=
  launch0.hasRoom_least _ room_1 (by decide +kernel) (by decide +kernel) (by decide +kernel) (by decide +kernel) (by decide +kernel) (by decide +kernel)
theorem allAtoms_all (ts : List Jvm.Cond) (a : Array Jvm.Value) (st : Jvm.State) : (allAtoms ts).before a st = ts.all (fun c => c.before a st) := by
  induction ts with
  | nil => rfl
  | cons c t ih =>
    show (Jvm.Cond.and c (allAtoms t)).before a st = _
    rw [Jvm.Cond.before_and, ih, List.all_cons]
def words1 : List Jvm.Cond := Jvm.Cond.code x code maxLocals ret :: tables_1
/-- a 'code' word, met by the world's own term for the bytes: nothing is compared byte by byte -/
theorem code_word {y : MethodName} {bytes : ByteArray} {mx : Nat} {rt : Option FieldType} {a : Array Value} {s : State} {m : MethodId} {meth : Method} {c : Code} (h1 : s.methodNamed? y = some m) (h2 : s.vm.method? m = some meth) (h3 : meth.code = some c) (h4 : c.code = bytes)
    (h5 : (c.maxLocals == mx && c.exceptionTable.isEmpty && decide (c.maxStack ≤ mostOperands) && decide (meth.sig.returnType = rt) && !meth.locks && decide (parseMethodDescriptor y.desc = some meth.sig)) = true) : (Jvm.Cond.code y bytes mx rt).before a s = true := by
  simp only [Bool.and_eq_true, beq_iff_eq, Bool.not_eq_true', decide_eq_true_eq] at h5
  obtain ⟨⟨⟨⟨⟨g1, g2⟩, g3⟩, g4⟩, g5⟩, g6⟩ := h5
  simp [Cond.before, Cond.holds, Cond.value, h1, h2, h3, h4, g1, g2, g3, g4, g5, g6]
def isCode : Jvm.Cond → Bool
  | .code _ _ _ _ => true
  | _ => false
theorem all_split {L : List Jvm.Cond} {P : Jvm.Cond → Bool} (h1 : L.all (fun c => isCode c || P c) = true) (h2 : ∀ c ∈ L.filter isCode, P c = true) : L.all P = true := by
  refine List.all_eq_true.mpr fun c hc => ?_
  have h := List.all_eq_true.mp h1 c hc
  rcases Bool.eq_false_or_eq_true (isCode c) with hi | hi
  · exact h2 c (List.mem_filter.mpr ⟨hc, hi⟩)
  · simpa [hi] using h
set_option maxRecDepth 65536 in
theorem w_c0 : (Jvm.Cond.code x code maxLocals ret).before args0 about1 = true := code_word (m := ⟨1, 1⟩) (meth := k1m1) (c := k1c1) (by decide +kernel) rfl rfl rfl (by decide +kernel)
set_option maxRecDepth 65536 in
theorem w_c1 : (Jvm.Cond.code ({ cls := "com/example/sieveline/sieveline/server/NotificationStreamMatchFramePinLaw", name := "draw", desc := "(I)I" } : Jvm.MethodName) method_3_code (3 : Nat) (Option.some Jvm.ClassFile.FieldType.int)).before args0 about1 = true := code_word (m := ⟨1, 2⟩) (meth := k1m2) (c := k1c2) (by decide +kernel) rfl rfl rfl (by decide +kernel)
set_option maxRecDepth 65536 in
theorem w_c2 : (Jvm.Cond.code ({ cls := "com/example/sieveline/sieveline/server/NotificationStreamMatchFramePinLaw", name := "put", desc := "([BII)I" } : Jvm.MethodName) method_4_code (3 : Nat) (Option.some Jvm.ClassFile.FieldType.int)).before args0 about1 = true := code_word (m := ⟨1, 3⟩) (meth := k1m3) (c := k1c3) (by decide +kernel) rfl rfl rfl (by decide +kernel)
set_option maxRecDepth 65536 in
theorem w_c3 : (Jvm.Cond.code ({ cls := "java/lang/String", name := "<init>", desc := "([C)V" } : Jvm.MethodName) jdk_42_method_3_code (2 : Nat) (Option.none : Option Jvm.ClassFile.FieldType)).before args0 about1 = true := code_word (m := ⟨7, 1⟩) (meth := k7m1) (c := k7c1) (by decide +kernel) rfl rfl rfl (by decide +kernel)
set_option maxRecDepth 65536 in
theorem w_c4 : (Jvm.Cond.code ({ cls := "java/lang/String", name := "<init>", desc := "([CIILjava/lang/Void;)V" } : Jvm.MethodName) jdk_42_method_149_code (6 : Nat) (Option.none : Option Jvm.ClassFile.FieldType)).before args0 about1 = true := code_word (m := ⟨7, 9⟩) (meth := k7m9) (c := k7c9) (by decide +kernel) rfl rfl rfl (by decide +kernel)
set_option maxRecDepth 65536 in
theorem w_c5 : (Jvm.Cond.code ({ cls := "java/lang/Object", name := "<init>", desc := "()V" } : Jvm.MethodName) object_method_1_code (1 : Nat) (Option.none : Option Jvm.ClassFile.FieldType)).before args0 about1 = true := code_word (m := ⟨0, 0⟩) (meth := k0m0) (c := k0c0) (by decide +kernel) rfl rfl rfl (by decide +kernel)
set_option maxRecDepth 65536 in
theorem w_c6 : (Jvm.Cond.code ({ cls := "java/lang/StringUTF16", name := "compress", desc := "([CII)[B" } : Jvm.MethodName) jdk_52_method_16_code (6 : Nat) (Option.some (Jvm.ClassFile.FieldType.array Jvm.ClassFile.FieldType.byte))).before args0 about1 = true := code_word (m := ⟨8, 8⟩) (meth := k8m8) (c := k8c8) (by decide +kernel) rfl rfl rfl (by decide +kernel)
set_option maxRecDepth 65536 in
theorem w_c7 : (Jvm.Cond.code ({ cls := "java/lang/StringUTF16", name := "compress", desc := "([CI[BII)I" } : Jvm.MethodName) jdk_52_method_21_code (7 : Nat) (Option.some Jvm.ClassFile.FieldType.int)).before args0 about1 = true := code_word (m := ⟨8, 9⟩) (meth := k8m9) (c := k8c9) (by decide +kernel) rfl rfl rfl (by decide +kernel)
set_option maxRecDepth 65536 in
theorem w_c8 : (Jvm.Cond.code ({ cls := "java/lang/StringUTF16", name := "coderFromArrayLen", desc := "([BI)B" } : Jvm.MethodName) jdk_52_method_15_code (2 : Nat) (Option.some Jvm.ClassFile.FieldType.byte)).before args0 about1 = true := code_word (m := ⟨8, 7⟩) (meth := k8m7) (c := k8c7) (by decide +kernel) rfl rfl rfl (by decide +kernel)
set_option maxRecDepth 65536 in
theorem w_c9 : (Jvm.Cond.code ({ cls := "com/example/sieveline/sieveline/server/NotificationStream", name := "matchFrame", desc := "(Ljava/lang/String;)[B" } : Jvm.MethodName) prog_28_method_2_code (1 : Nat) (Option.some (Jvm.ClassFile.FieldType.array Jvm.ClassFile.FieldType.byte))).before args0 about1 = true := code_word (m := ⟨9, 0⟩) (meth := k9m0) (c := k9c0) (by decide +kernel) rfl rfl rfl (by decide +kernel)
set_option maxRecDepth 65536 in
theorem w_c10 : (Jvm.Cond.code ({ cls := "java/lang/StringBuilder", name := "<init>", desc := "()V" } : Jvm.MethodName) jdk_67_method_1_code (1 : Nat) (Option.none : Option Jvm.ClassFile.FieldType)).before args0 about1 = true := code_word (m := ⟨12, 0⟩) (meth := k12m0) (c := k12c0) (by decide +kernel) rfl rfl rfl (by decide +kernel)
set_option maxRecDepth 65536 in
theorem w_c11 : (Jvm.Cond.code ({ cls := "java/lang/AbstractStringBuilder", name := "<init>", desc := "(I)V" } : Jvm.MethodName) jdk_68_method_2_code (2 : Nat) (Option.none : Option Jvm.ClassFile.FieldType)).before args0 about1 = true := code_word (m := ⟨11, 1⟩) (meth := k11m1) (c := k11c1) (by decide +kernel) rfl rfl rfl (by decide +kernel)
set_option maxRecDepth 65536 in
theorem w_c12 : (Jvm.Cond.code ({ cls := "java/lang/StringBuilder", name := "append", desc := "(Ljava/lang/String;)Ljava/lang/StringBuilder;" } : Jvm.MethodName) jdk_67_method_7_code (2 : Nat) (Option.some (Jvm.ClassFile.FieldType.object "java/lang/StringBuilder"))).before args0 about1 = true := code_word (m := ⟨12, 1⟩) (meth := k12m1) (c := k12c1) (by decide +kernel) rfl rfl rfl (by decide +kernel)
set_option maxRecDepth 65536 in
theorem w_c13 : (Jvm.Cond.code ({ cls := "java/lang/AbstractStringBuilder", name := "append", desc := "(Ljava/lang/String;)Ljava/lang/AbstractStringBuilder;" } : Jvm.MethodName) jdk_68_method_22_code (3 : Nat) (Option.some (Jvm.ClassFile.FieldType.object "java/lang/AbstractStringBuilder"))).before args0 about1 = true := code_word (m := ⟨11, 6⟩) (meth := k11m6) (c := k11c6) (by decide +kernel) rfl rfl rfl (by decide +kernel)
set_option maxRecDepth 65536 in
theorem w_c14 : (Jvm.Cond.code ({ cls := "java/lang/String", name := "length", desc := "()I" } : Jvm.MethodName) jdk_42_method_54_code (1 : Nat) (Option.some Jvm.ClassFile.FieldType.int)).before args0 about1 = true := code_word (m := ⟨7, 6⟩) (meth := k7m6) (c := k7c6) (by decide +kernel) rfl rfl rfl (by decide +kernel)
set_option maxRecDepth 65536 in
theorem w_c15 : (Jvm.Cond.code ({ cls := "java/lang/String", name := "coder", desc := "()B" } : Jvm.MethodName) jdk_42_method_152_code (1 : Nat) (Option.some Jvm.ClassFile.FieldType.byte)).before args0 about1 = true := code_word (m := ⟨7, 11⟩) (meth := k7m11) (c := k7c11) (by decide +kernel) rfl rfl rfl (by decide +kernel)
set_option maxRecDepth 65536 in
theorem w_c16 : (Jvm.Cond.code ({ cls := "java/lang/AbstractStringBuilder", name := "ensureCapacityInternal", desc := "(I)V" } : Jvm.MethodName) jdk_68_method_9_code (3 : Nat) (Option.none : Option Jvm.ClassFile.FieldType)).before args0 about1 = true := code_word (m := ⟨11, 3⟩) (meth := k11m3) (c := k11c3) (by decide +kernel) rfl rfl rfl (by decide +kernel)
set_option maxRecDepth 65536 in
theorem w_c17 : (Jvm.Cond.code ({ cls := "java/lang/AbstractStringBuilder", name := "newCapacity", desc := "(I)I" } : Jvm.MethodName) jdk_68_method_10_code (6 : Nat) (Option.some Jvm.ClassFile.FieldType.int)).before args0 about1 = true := code_word (m := ⟨11, 4⟩) (meth := k11m4) (c := k11c4) (by decide +kernel) rfl rfl rfl (by decide +kernel)
set_option maxRecDepth 65536 in
theorem w_c18 : (Jvm.Cond.code ({ cls := "jdk/internal/util/ArraysSupport", name := "newLength", desc := "(III)I" } : Jvm.MethodName) jdk_48_method_27_code (4 : Nat) (Option.some Jvm.ClassFile.FieldType.int)).before args0 about1 = true := code_word (m := ⟨13, 1⟩) (meth := k13m1) (c := k13c1) (by decide +kernel) rfl rfl rfl (by decide +kernel)
set_option maxRecDepth 65536 in
theorem w_c19 : (Jvm.Cond.code ({ cls := "java/lang/Math", name := "max", desc := "(II)I" } : Jvm.MethodName) jdk_29_method_65_code (2 : Nat) (Option.some Jvm.ClassFile.FieldType.int)).before args0 about1 = true := code_word (m := ⟨14, 1⟩) (meth := k14m1) (c := k14c1) (by decide +kernel) rfl rfl rfl (by decide +kernel)
set_option maxRecDepth 65536 in
theorem w_c20 : (Jvm.Cond.code ({ cls := "java/util/Arrays", name := "copyOf", desc := "([BI)[B" } : Jvm.MethodName) jdk_65_method_121_code (3 : Nat) (Option.some (Jvm.ClassFile.FieldType.array Jvm.ClassFile.FieldType.byte))).before args0 about1 = true := code_word (m := ⟨15, 1⟩) (meth := k15m1) (c := k15c1) (by decide +kernel) rfl rfl rfl (by decide +kernel)
set_option maxRecDepth 65536 in
theorem w_c21 : (Jvm.Cond.code ({ cls := "java/lang/Math", name := "min", desc := "(II)I" } : Jvm.MethodName) jdk_29_method_69_code (2 : Nat) (Option.some Jvm.ClassFile.FieldType.int)).before args0 about1 = true := code_word (m := ⟨14, 2⟩) (meth := k14m2) (c := k14c2) (by decide +kernel) rfl rfl rfl (by decide +kernel)
set_option maxRecDepth 65536 in
theorem w_c22 : (Jvm.Cond.code ({ cls := "java/lang/AbstractStringBuilder", name := "putStringAt", desc := "(ILjava/lang/String;)V" } : Jvm.MethodName) jdk_68_method_73_code (3 : Nat) (Option.none : Option Jvm.ClassFile.FieldType)).before args0 about1 = true := code_word (m := ⟨11, 10⟩) (meth := k11m10) (c := k11c10) (by decide +kernel) rfl rfl rfl (by decide +kernel)
set_option maxRecDepth 65536 in
theorem w_c23 : (Jvm.Cond.code ({ cls := "java/lang/AbstractStringBuilder", name := "inflateIfNeededFor", desc := "(Ljava/lang/String;)V" } : Jvm.MethodName) jdk_68_method_71_code (2 : Nat) (Option.none : Option Jvm.ClassFile.FieldType)).before args0 about1 = true := code_word (m := ⟨11, 9⟩) (meth := k11m9) (c := k11c9) (by decide +kernel) rfl rfl rfl (by decide +kernel)
set_option maxRecDepth 65536 in
theorem w_c24 : (Jvm.Cond.code ({ cls := "java/lang/String", name := "getBytes", desc := "([BIB)V" } : Jvm.MethodName) jdk_42_method_147_code (4 : Nat) (Option.none : Option Jvm.ClassFile.FieldType)).before args0 about1 = true := code_word (m := ⟨7, 8⟩) (meth := k7m8) (c := k7c8) (by decide +kernel) rfl rfl rfl (by decide +kernel)
set_option maxRecDepth 65536 in
theorem w_c25 : (Jvm.Cond.code ({ cls := "java/lang/StringBuilder", name := "toString", desc := "()Ljava/lang/String;" } : Jvm.MethodName) jdk_67_method_42_code (1 : Nat) (Option.some (Jvm.ClassFile.FieldType.object "java/lang/String"))).before args0 about1 = true := code_word (m := ⟨12, 2⟩) (meth := k12m2) (c := k12c2) (by decide +kernel) rfl rfl rfl (by decide +kernel)
set_option maxRecDepth 65536 in
theorem w_c26 : (Jvm.Cond.code ({ cls := "java/lang/String", name := "<init>", desc := "(Ljava/lang/StringBuilder;)V" } : Jvm.MethodName) jdk_42_method_53_code (2 : Nat) (Option.none : Option Jvm.ClassFile.FieldType)).before args0 about1 = true := code_word (m := ⟨7, 5⟩) (meth := k7m5) (c := k7c5) (by decide +kernel) rfl rfl rfl (by decide +kernel)
set_option maxRecDepth 65536 in
theorem w_c27 : (Jvm.Cond.code ({ cls := "java/lang/String", name := "<init>", desc := "(Ljava/lang/AbstractStringBuilder;Ljava/lang/Void;)V" } : Jvm.MethodName) jdk_42_method_150_code (5 : Nat) (Option.none : Option Jvm.ClassFile.FieldType)).before args0 about1 = true := code_word (m := ⟨7, 10⟩) (meth := k7m10) (c := k7c10) (by decide +kernel) rfl rfl rfl (by decide +kernel)
set_option maxRecDepth 65536 in
theorem w_c28 : (Jvm.Cond.code ({ cls := "java/lang/AbstractStringBuilder", name := "getValue", desc := "()[B" } : Jvm.MethodName) jdk_68_method_64_code (1 : Nat) (Option.some (Jvm.ClassFile.FieldType.array Jvm.ClassFile.FieldType.byte))).before args0 about1 = true := code_word (m := ⟨11, 7⟩) (meth := k11m7) (c := k11c7) (by decide +kernel) rfl rfl rfl (by decide +kernel)
set_option maxRecDepth 65536 in
theorem w_c29 : (Jvm.Cond.code ({ cls := "java/lang/StringBuilder", name := "length", desc := "()I" } : Jvm.MethodName) jdk_67_method_93_code (1 : Nat) (Option.some Jvm.ClassFile.FieldType.int)).before args0 about1 = true := code_word (m := ⟨12, 3⟩) (meth := k12m3) (c := k12c3) (by decide +kernel) rfl rfl rfl (by decide +kernel)
set_option maxRecDepth 65536 in
theorem w_c30 : (Jvm.Cond.code ({ cls := "java/lang/AbstractStringBuilder", name := "length", desc := "()I" } : Jvm.MethodName) jdk_68_method_6_code (1 : Nat) (Option.some Jvm.ClassFile.FieldType.int)).before args0 about1 = true := code_word (m := ⟨11, 2⟩) (meth := k11m2) (c := k11c2) (by decide +kernel) rfl rfl rfl (by decide +kernel)
set_option maxRecDepth 65536 in
theorem w_c31 : (Jvm.Cond.code ({ cls := "java/lang/AbstractStringBuilder", name := "isLatin1", desc := "()Z" } : Jvm.MethodName) jdk_68_method_68_code (1 : Nat) (Option.some Jvm.ClassFile.FieldType.boolean)).before args0 about1 = true := code_word (m := ⟨11, 8⟩) (meth := k11m8) (c := k11c8) (by decide +kernel) rfl rfl rfl (by decide +kernel)
set_option maxRecDepth 65536 in
theorem w_c32 : (Jvm.Cond.code ({ cls := "java/util/Arrays", name := "copyOfRange", desc := "([BII)[B" } : Jvm.MethodName) jdk_65_method_132_code (3 : Nat) (Option.some (Jvm.ClassFile.FieldType.array Jvm.ClassFile.FieldType.byte))).before args0 about1 = true := code_word (m := ⟨15, 3⟩) (meth := k15m3) (c := k15c3) (by decide +kernel) rfl rfl rfl (by decide +kernel)
set_option maxRecDepth 65536 in
theorem w_c33 : (Jvm.Cond.code ({ cls := "java/util/Arrays", name := "copyOfRangeByte", desc := "([BII)[B" } : Jvm.MethodName) jdk_65_method_133_code (5 : Nat) (Option.some (Jvm.ClassFile.FieldType.array Jvm.ClassFile.FieldType.byte))).before args0 about1 = true := code_word (m := ⟨15, 4⟩) (meth := k15m4) (c := k15c4) (by decide +kernel) rfl rfl rfl (by decide +kernel)
set_option maxRecDepth 65536 in
theorem w_c34 : (Jvm.Cond.code ({ cls := "java/util/Arrays", name := "checkLength", desc := "(II)V" } : Jvm.MethodName) jdk_65_method_131_code (2 : Nat) (Option.none : Option Jvm.ClassFile.FieldType)).before args0 about1 = true := code_word (m := ⟨15, 2⟩) (meth := k15m2) (c := k15c2) (by decide +kernel) rfl rfl rfl (by decide +kernel)
set_option maxRecDepth 65536 in
theorem w_c35 : (Jvm.Cond.code ({ cls := "java/lang/String", name := "getBytes", desc := "(Ljava/nio/charset/Charset;)[B" } : Jvm.MethodName) jdk_42_method_64_code (2 : Nat) (Option.some (Jvm.ClassFile.FieldType.array Jvm.ClassFile.FieldType.byte))).before args0 about1 = true := code_word (m := ⟨7, 7⟩) (meth := k7m7) (c := k7c7) (by decide +kernel) rfl rfl rfl (by decide +kernel)
set_option maxRecDepth 65536 in
theorem w_c36 : (Jvm.Cond.code ({ cls := "java/lang/String", name := "encode", desc := "(Ljava/nio/charset/Charset;B[B)[B" } : Jvm.MethodName) jdk_42_method_18_code (3 : Nat) (Option.some (Jvm.ClassFile.FieldType.array Jvm.ClassFile.FieldType.byte))).before args0 about1 = true := code_word (m := ⟨7, 2⟩) (meth := k7m2) (c := k7c2) (by decide +kernel) rfl rfl rfl (by decide +kernel)
set_option maxRecDepth 65536 in
theorem w_c37 : (Jvm.Cond.code ({ cls := "java/lang/String", name := "encodeUTF8", desc := "(B[BZ)[B" } : Jvm.MethodName) jdk_42_method_46_code (9 : Nat) (Option.some (Jvm.ClassFile.FieldType.array Jvm.ClassFile.FieldType.byte))).before args0 about1 = true := code_word (m := ⟨7, 3⟩) (meth := k7m3) (c := k7c3) (by decide +kernel) rfl rfl rfl (by decide +kernel)
set_option maxRecDepth 65536 in
theorem w_c38 : (Jvm.Cond.code ({ cls := "java/lang/StringCoding", name := "hasNegatives", desc := "([BII)Z" } : Jvm.MethodName) jdk_123_method_2_code (3 : Nat) (Option.some Jvm.ClassFile.FieldType.boolean)).before args0 about1 = true := code_word (m := ⟨22, 1⟩) (meth := k22m1) (c := k22c1) (by decide +kernel) rfl rfl rfl (by decide +kernel)
set_option maxRecDepth 65536 in
theorem w_c39 : (Jvm.Cond.code ({ cls := "java/lang/StringCoding", name := "countPositives", desc := "([BII)I" } : Jvm.MethodName) jdk_123_method_3_code (5 : Nat) (Option.some Jvm.ClassFile.FieldType.int)).before args0 about1 = true := code_word (m := ⟨22, 2⟩) (meth := k22m2) (c := k22c2) (by decide +kernel) rfl rfl rfl (by decide +kernel)
set_option maxRecDepth 65536 in
theorem w_c40 : (Jvm.Cond.code ({ cls := "com/example/sieveline/sieveline/server/NotificationStreamMatchFramePinLaw", name := "eq10", desc := "([B[BII)Z" } : Jvm.MethodName) method_6_code (4 : Nat) (Option.some Jvm.ClassFile.FieldType.boolean)).before args0 about1 = true := code_word (m := ⟨1, 5⟩) (meth := k1m5) (c := k1c5) (by decide +kernel) rfl rfl rfl (by decide +kernel)
set_option maxRecDepth 65536 in
theorem w_c41 : (Jvm.Cond.code ({ cls := "com/example/sieveline/sieveline/server/NotificationStreamMatchFramePinLaw", name := "same", desc := "([B[BII)Z" } : Jvm.MethodName) method_5_code (4 : Nat) (Option.some Jvm.ClassFile.FieldType.boolean)).before args0 about1 = true := code_word (m := ⟨1, 4⟩) (meth := k1m4) (c := k1c4) (by decide +kernel) rfl rfl rfl (by decide +kernel)
set_option maxRecDepth 65536 in
theorem w_c42 : (Jvm.Cond.code ({ cls := "java/lang/StringUTF16", name := "toBytes", desc := "([CII)[B" } : Jvm.MethodName) jdk_52_method_14_code (5 : Nat) (Option.some (Jvm.ClassFile.FieldType.array Jvm.ClassFile.FieldType.byte))).before args0 about1 = true := code_word (m := ⟨8, 6⟩) (meth := k8m6) (c := k8c6) (by decide +kernel) rfl rfl rfl (by decide +kernel)
set_option maxRecDepth 65536 in
theorem w_c43 : (Jvm.Cond.code ({ cls := "java/lang/StringUTF16", name := "newBytesFor", desc := "(I)[B" } : Jvm.MethodName) jdk_52_method_2_code (1 : Nat) (Option.some (Jvm.ClassFile.FieldType.array Jvm.ClassFile.FieldType.byte))).before args0 about1 = true := code_word (m := ⟨8, 1⟩) (meth := k8m1) (c := k8c1) (by decide +kernel) rfl rfl rfl (by decide +kernel)
set_option maxRecDepth 65536 in
theorem w_c44 : (Jvm.Cond.code ({ cls := "java/lang/StringUTF16", name := "newBytesLength", desc := "(I)I" } : Jvm.MethodName) jdk_52_method_3_code (1 : Nat) (Option.some Jvm.ClassFile.FieldType.int)).before args0 about1 = true := code_word (m := ⟨8, 2⟩) (meth := k8m2) (c := k8c2) (by decide +kernel) rfl rfl rfl (by decide +kernel)
set_option maxRecDepth 65536 in
theorem w_c45 : (Jvm.Cond.code ({ cls := "java/lang/StringUTF16", name := "putChar", desc := "([BII)V" } : Jvm.MethodName) jdk_52_method_4_code (3 : Nat) (Option.none : Option Jvm.ClassFile.FieldType)).before args0 about1 = true := code_word (m := ⟨8, 3⟩) (meth := k8m3) (c := k8c3) (by decide +kernel) rfl rfl rfl (by decide +kernel)
set_option maxRecDepth 65536 in
theorem w_c46 : (Jvm.Cond.code ({ cls := "java/lang/StringUTF16", name := "getChar", desc := "([BI)C" } : Jvm.MethodName) jdk_52_method_5_code (2 : Nat) (Option.some Jvm.ClassFile.FieldType.char)).before args0 about1 = true := code_word (m := ⟨8, 4⟩) (meth := k8m4) (c := k8c4) (by decide +kernel) rfl rfl rfl (by decide +kernel)
set_option maxRecDepth 65536 in
theorem w_c47 : (Jvm.Cond.code ({ cls := "java/lang/AbstractStringBuilder", name := "inflate", desc := "()V" } : Jvm.MethodName) jdk_68_method_11_code (2 : Nat) (Option.none : Option Jvm.ClassFile.FieldType)).before args0 about1 = true := code_word (m := ⟨11, 5⟩) (meth := k11m5) (c := k11c5) (by decide +kernel) rfl rfl rfl (by decide +kernel)
set_option maxRecDepth 65536 in
theorem w_c48 : (Jvm.Cond.code ({ cls := "java/lang/StringLatin1", name := "inflate", desc := "([BI[BII)V" } : Jvm.MethodName) jdk_43_method_50_code (5 : Nat) (Option.none : Option Jvm.ClassFile.FieldType)).before args0 about1 = true := code_word (m := ⟨24, 1⟩) (meth := k24m1) (c := k24c1) (by decide +kernel) rfl rfl rfl (by decide +kernel)
set_option maxRecDepth 65536 in
theorem w_c49 : (Jvm.Cond.code ({ cls := "java/lang/StringUTF16", name := "inflate", desc := "([BI[BII)V" } : Jvm.MethodName) jdk_52_method_86_code (6 : Nat) (Option.none : Option Jvm.ClassFile.FieldType)).before args0 about1 = true := code_word (m := ⟨8, 10⟩) (meth := k8m10) (c := k8c10) (by decide +kernel) rfl rfl rfl (by decide +kernel)
set_option maxRecDepth 65536 in
theorem w_c50 : (Jvm.Cond.code ({ cls := "java/lang/StringUTF16", name := "checkBoundsOffCount", desc := "(II[B)V" } : Jvm.MethodName) jdk_52_method_94_code (3 : Nat) (Option.none : Option Jvm.ClassFile.FieldType)).before args0 about1 = true := code_word (m := ⟨8, 11⟩) (meth := k8m11) (c := k8c11) (by decide +kernel) rfl rfl rfl (by decide +kernel)
set_option maxRecDepth 65536 in
theorem w_c51 : (Jvm.Cond.code ({ cls := "java/lang/StringUTF16", name := "length", desc := "([B)I" } : Jvm.MethodName) jdk_52_method_6_code (1 : Nat) (Option.some Jvm.ClassFile.FieldType.int)).before args0 about1 = true := code_word (m := ⟨8, 5⟩) (meth := k8m5) (c := k8c5) (by decide +kernel) rfl rfl rfl (by decide +kernel)
set_option maxRecDepth 65536 in
theorem w_c52 : (Jvm.Cond.code ({ cls := "java/lang/String", name := "checkBoundsOffCount", desc := "(III)I" } : Jvm.MethodName) jdk_42_method_157_code (3 : Nat) (Option.some Jvm.ClassFile.FieldType.int)).before args0 about1 = true := code_word (m := ⟨7, 12⟩) (meth := k7m12) (c := k7c12) (by decide +kernel) rfl rfl rfl (by decide +kernel)
set_option maxRecDepth 65536 in
theorem w_c53 : (Jvm.Cond.code ({ cls := "jdk/internal/util/Preconditions", name := "checkFromIndexSize", desc := "(IIILjava/util/function/BiFunction;)I" } : Jvm.MethodName) jdk_41_method_13_code (4 : Nat) (Option.some Jvm.ClassFile.FieldType.int)).before args0 about1 = true := code_word (m := ⟨25, 1⟩) (meth := k25m1) (c := k25c1) (by decide +kernel) rfl rfl rfl (by decide +kernel)
set_option maxRecDepth 65536 in
theorem w_c54 : (Jvm.Cond.code ({ cls := "java/lang/String", name := "encodeUTF8_UTF16", desc := "([BZ)[B" } : Jvm.MethodName) jdk_42_method_47_code (9 : Nat) (Option.some (Jvm.ClassFile.FieldType.array Jvm.ClassFile.FieldType.byte))).before args0 about1 = true := code_word (m := ⟨7, 4⟩) (meth := k7m4) (c := k7c4) (by decide +kernel) rfl rfl rfl (by decide +kernel)
set_option maxRecDepth 65536 in
theorem w_c55 : (Jvm.Cond.code ({ cls := "java/lang/Character", name := "isSurrogate", desc := "(C)Z" } : Jvm.MethodName) jdk_89_method_16_code (1 : Nat) (Option.some Jvm.ClassFile.FieldType.boolean)).before args0 about1 = true := code_word (m := ⟨26, 0⟩) (meth := k26m0) (c := k26c0) (by decide +kernel) rfl rfl rfl (by decide +kernel)
def codes1 : List Jvm.Cond := [Jvm.Cond.code x code maxLocals ret, Jvm.Cond.code ({ cls := "com/example/sieveline/sieveline/server/NotificationStreamMatchFramePinLaw", name := "draw", desc := "(I)I" } : Jvm.MethodName) method_3_code (3 : Nat) (Option.some Jvm.ClassFile.FieldType.int), Jvm.Cond.code ({ cls := "com/example/sieveline/sieveline/server/NotificationStreamMatchFramePinLaw", name := "put", desc := "([BII)I" } : Jvm.MethodName) method_4_code (3 : Nat) (Option.some Jvm.ClassFile.FieldType.int), Jvm.Cond.code ({ cls := "java/lang/String", name := "<init>", desc := "([C)V" } : Jvm.MethodName) jdk_42_method_3_code (2 : Nat) (Option.none : Option Jvm.ClassFile.FieldType), Jvm.Cond.code ({ cls := "java/lang/String", name := "<init>", desc := "([CIILjava/lang/Void;)V" } : Jvm.MethodName) jdk_42_method_149_code (6 : Nat) (Option.none : Option Jvm.ClassFile.FieldType), Jvm.Cond.code ({ cls := "java/lang/Object", name := "<init>", desc := "()V" } : Jvm.MethodName) object_method_1_code (1 : Nat) (Option.none : Option Jvm.ClassFile.FieldType), Jvm.Cond.code ({ cls := "java/lang/StringUTF16", name := "compress", desc := "([CII)[B" } : Jvm.MethodName) jdk_52_method_16_code (6 : Nat) (Option.some (Jvm.ClassFile.FieldType.array Jvm.ClassFile.FieldType.byte)), Jvm.Cond.code ({ cls := "java/lang/StringUTF16", name := "compress", desc := "([CI[BII)I" } : Jvm.MethodName) jdk_52_method_21_code (7 : Nat) (Option.some Jvm.ClassFile.FieldType.int), Jvm.Cond.code ({ cls := "java/lang/StringUTF16", name := "coderFromArrayLen", desc := "([BI)B" } : Jvm.MethodName) jdk_52_method_15_code (2 : Nat) (Option.some Jvm.ClassFile.FieldType.byte), Jvm.Cond.code ({ cls := "com/example/sieveline/sieveline/server/NotificationStream", name := "matchFrame", desc := "(Ljava/lang/String;)[B" } : Jvm.MethodName) prog_28_method_2_code (1 : Nat) (Option.some (Jvm.ClassFile.FieldType.array Jvm.ClassFile.FieldType.byte)), Jvm.Cond.code ({ cls := "java/lang/StringBuilder", name := "<init>", desc := "()V" } : Jvm.MethodName) jdk_67_method_1_code (1 : Nat) (Option.none : Option Jvm.ClassFile.FieldType), Jvm.Cond.code ({ cls := "java/lang/AbstractStringBuilder", name := "<init>", desc := "(I)V" } : Jvm.MethodName) jdk_68_method_2_code (2 : Nat) (Option.none : Option Jvm.ClassFile.FieldType), Jvm.Cond.code ({ cls := "java/lang/StringBuilder", name := "append", desc := "(Ljava/lang/String;)Ljava/lang/StringBuilder;" } : Jvm.MethodName) jdk_67_method_7_code (2 : Nat) (Option.some (Jvm.ClassFile.FieldType.object "java/lang/StringBuilder")), Jvm.Cond.code ({ cls := "java/lang/AbstractStringBuilder", name := "append", desc := "(Ljava/lang/String;)Ljava/lang/AbstractStringBuilder;" } : Jvm.MethodName) jdk_68_method_22_code (3 : Nat) (Option.some (Jvm.ClassFile.FieldType.object "java/lang/AbstractStringBuilder")), Jvm.Cond.code ({ cls := "java/lang/String", name := "length", desc := "()I" } : Jvm.MethodName) jdk_42_method_54_code (1 : Nat) (Option.some Jvm.ClassFile.FieldType.int), Jvm.Cond.code ({ cls := "java/lang/String", name := "coder", desc := "()B" } : Jvm.MethodName) jdk_42_method_152_code (1 : Nat) (Option.some Jvm.ClassFile.FieldType.byte), Jvm.Cond.code ({ cls := "java/lang/AbstractStringBuilder", name := "ensureCapacityInternal", desc := "(I)V" } : Jvm.MethodName) jdk_68_method_9_code (3 : Nat) (Option.none : Option Jvm.ClassFile.FieldType), Jvm.Cond.code ({ cls := "java/lang/AbstractStringBuilder", name := "newCapacity", desc := "(I)I" } : Jvm.MethodName) jdk_68_method_10_code (6 : Nat) (Option.some Jvm.ClassFile.FieldType.int), Jvm.Cond.code ({ cls := "jdk/internal/util/ArraysSupport", name := "newLength", desc := "(III)I" } : Jvm.MethodName) jdk_48_method_27_code (4 : Nat) (Option.some Jvm.ClassFile.FieldType.int), Jvm.Cond.code ({ cls := "java/lang/Math", name := "max", desc := "(II)I" } : Jvm.MethodName) jdk_29_method_65_code (2 : Nat) (Option.some Jvm.ClassFile.FieldType.int), Jvm.Cond.code ({ cls := "java/util/Arrays", name := "copyOf", desc := "([BI)[B" } : Jvm.MethodName) jdk_65_method_121_code (3 : Nat) (Option.some (Jvm.ClassFile.FieldType.array Jvm.ClassFile.FieldType.byte)), Jvm.Cond.code ({ cls := "java/lang/Math", name := "min", desc := "(II)I" } : Jvm.MethodName) jdk_29_method_69_code (2 : Nat) (Option.some Jvm.ClassFile.FieldType.int), Jvm.Cond.code ({ cls := "java/lang/AbstractStringBuilder", name := "putStringAt", desc := "(ILjava/lang/String;)V" } : Jvm.MethodName) jdk_68_method_73_code (3 : Nat) (Option.none : Option Jvm.ClassFile.FieldType), Jvm.Cond.code ({ cls := "java/lang/AbstractStringBuilder", name := "inflateIfNeededFor", desc := "(Ljava/lang/String;)V" } : Jvm.MethodName) jdk_68_method_71_code (2 : Nat) (Option.none : Option Jvm.ClassFile.FieldType), Jvm.Cond.code ({ cls := "java/lang/String", name := "getBytes", desc := "([BIB)V" } : Jvm.MethodName) jdk_42_method_147_code (4 : Nat) (Option.none : Option Jvm.ClassFile.FieldType), Jvm.Cond.code ({ cls := "java/lang/StringBuilder", name := "toString", desc := "()Ljava/lang/String;" } : Jvm.MethodName) jdk_67_method_42_code (1 : Nat) (Option.some (Jvm.ClassFile.FieldType.object "java/lang/String")), Jvm.Cond.code ({ cls := "java/lang/String", name := "<init>", desc := "(Ljava/lang/StringBuilder;)V" } : Jvm.MethodName) jdk_42_method_53_code (2 : Nat) (Option.none : Option Jvm.ClassFile.FieldType), Jvm.Cond.code ({ cls := "java/lang/String", name := "<init>", desc := "(Ljava/lang/AbstractStringBuilder;Ljava/lang/Void;)V" } : Jvm.MethodName) jdk_42_method_150_code (5 : Nat) (Option.none : Option Jvm.ClassFile.FieldType), Jvm.Cond.code ({ cls := "java/lang/AbstractStringBuilder", name := "getValue", desc := "()[B" } : Jvm.MethodName) jdk_68_method_64_code (1 : Nat) (Option.some (Jvm.ClassFile.FieldType.array Jvm.ClassFile.FieldType.byte)), Jvm.Cond.code ({ cls := "java/lang/StringBuilder", name := "length", desc := "()I" } : Jvm.MethodName) jdk_67_method_93_code (1 : Nat) (Option.some Jvm.ClassFile.FieldType.int), Jvm.Cond.code ({ cls := "java/lang/AbstractStringBuilder", name := "length", desc := "()I" } : Jvm.MethodName) jdk_68_method_6_code (1 : Nat) (Option.some Jvm.ClassFile.FieldType.int), Jvm.Cond.code ({ cls := "java/lang/AbstractStringBuilder", name := "isLatin1", desc := "()Z" } : Jvm.MethodName) jdk_68_method_68_code (1 : Nat) (Option.some Jvm.ClassFile.FieldType.boolean), Jvm.Cond.code ({ cls := "java/util/Arrays", name := "copyOfRange", desc := "([BII)[B" } : Jvm.MethodName) jdk_65_method_132_code (3 : Nat) (Option.some (Jvm.ClassFile.FieldType.array Jvm.ClassFile.FieldType.byte)), Jvm.Cond.code ({ cls := "java/util/Arrays", name := "copyOfRangeByte", desc := "([BII)[B" } : Jvm.MethodName) jdk_65_method_133_code (5 : Nat) (Option.some (Jvm.ClassFile.FieldType.array Jvm.ClassFile.FieldType.byte)), Jvm.Cond.code ({ cls := "java/util/Arrays", name := "checkLength", desc := "(II)V" } : Jvm.MethodName) jdk_65_method_131_code (2 : Nat) (Option.none : Option Jvm.ClassFile.FieldType), Jvm.Cond.code ({ cls := "java/lang/String", name := "getBytes", desc := "(Ljava/nio/charset/Charset;)[B" } : Jvm.MethodName) jdk_42_method_64_code (2 : Nat) (Option.some (Jvm.ClassFile.FieldType.array Jvm.ClassFile.FieldType.byte)), Jvm.Cond.code ({ cls := "java/lang/String", name := "encode", desc := "(Ljava/nio/charset/Charset;B[B)[B" } : Jvm.MethodName) jdk_42_method_18_code (3 : Nat) (Option.some (Jvm.ClassFile.FieldType.array Jvm.ClassFile.FieldType.byte)), Jvm.Cond.code ({ cls := "java/lang/String", name := "encodeUTF8", desc := "(B[BZ)[B" } : Jvm.MethodName) jdk_42_method_46_code (9 : Nat) (Option.some (Jvm.ClassFile.FieldType.array Jvm.ClassFile.FieldType.byte)), Jvm.Cond.code ({ cls := "java/lang/StringCoding", name := "hasNegatives", desc := "([BII)Z" } : Jvm.MethodName) jdk_123_method_2_code (3 : Nat) (Option.some Jvm.ClassFile.FieldType.boolean), Jvm.Cond.code ({ cls := "java/lang/StringCoding", name := "countPositives", desc := "([BII)I" } : Jvm.MethodName) jdk_123_method_3_code (5 : Nat) (Option.some Jvm.ClassFile.FieldType.int), Jvm.Cond.code ({ cls := "com/example/sieveline/sieveline/server/NotificationStreamMatchFramePinLaw", name := "eq10", desc := "([B[BII)Z" } : Jvm.MethodName) method_6_code (4 : Nat) (Option.some Jvm.ClassFile.FieldType.boolean), Jvm.Cond.code ({ cls := "com/example/sieveline/sieveline/server/NotificationStreamMatchFramePinLaw", name := "same", desc := "([B[BII)Z" } : Jvm.MethodName) method_5_code (4 : Nat) (Option.some Jvm.ClassFile.FieldType.boolean), Jvm.Cond.code ({ cls := "java/lang/StringUTF16", name := "toBytes", desc := "([CII)[B" } : Jvm.MethodName) jdk_52_method_14_code (5 : Nat) (Option.some (Jvm.ClassFile.FieldType.array Jvm.ClassFile.FieldType.byte)), Jvm.Cond.code ({ cls := "java/lang/StringUTF16", name := "newBytesFor", desc := "(I)[B" } : Jvm.MethodName) jdk_52_method_2_code (1 : Nat) (Option.some (Jvm.ClassFile.FieldType.array Jvm.ClassFile.FieldType.byte)), Jvm.Cond.code ({ cls := "java/lang/StringUTF16", name := "newBytesLength", desc := "(I)I" } : Jvm.MethodName) jdk_52_method_3_code (1 : Nat) (Option.some Jvm.ClassFile.FieldType.int), Jvm.Cond.code ({ cls := "java/lang/StringUTF16", name := "putChar", desc := "([BII)V" } : Jvm.MethodName) jdk_52_method_4_code (3 : Nat) (Option.none : Option Jvm.ClassFile.FieldType), Jvm.Cond.code ({ cls := "java/lang/StringUTF16", name := "getChar", desc := "([BI)C" } : Jvm.MethodName) jdk_52_method_5_code (2 : Nat) (Option.some Jvm.ClassFile.FieldType.char), Jvm.Cond.code ({ cls := "java/lang/AbstractStringBuilder", name := "inflate", desc := "()V" } : Jvm.MethodName) jdk_68_method_11_code (2 : Nat) (Option.none : Option Jvm.ClassFile.FieldType), Jvm.Cond.code ({ cls := "java/lang/StringLatin1", name := "inflate", desc := "([BI[BII)V" } : Jvm.MethodName) jdk_43_method_50_code (5 : Nat) (Option.none : Option Jvm.ClassFile.FieldType), Jvm.Cond.code ({ cls := "java/lang/StringUTF16", name := "inflate", desc := "([BI[BII)V" } : Jvm.MethodName) jdk_52_method_86_code (6 : Nat) (Option.none : Option Jvm.ClassFile.FieldType), Jvm.Cond.code ({ cls := "java/lang/StringUTF16", name := "checkBoundsOffCount", desc := "(II[B)V" } : Jvm.MethodName) jdk_52_method_94_code (3 : Nat) (Option.none : Option Jvm.ClassFile.FieldType), Jvm.Cond.code ({ cls := "java/lang/StringUTF16", name := "length", desc := "([B)I" } : Jvm.MethodName) jdk_52_method_6_code (1 : Nat) (Option.some Jvm.ClassFile.FieldType.int), Jvm.Cond.code ({ cls := "java/lang/String", name := "checkBoundsOffCount", desc := "(III)I" } : Jvm.MethodName) jdk_42_method_157_code (3 : Nat) (Option.some Jvm.ClassFile.FieldType.int), Jvm.Cond.code ({ cls := "jdk/internal/util/Preconditions", name := "checkFromIndexSize", desc := "(IIILjava/util/function/BiFunction;)I" } : Jvm.MethodName) jdk_41_method_13_code (4 : Nat) (Option.some Jvm.ClassFile.FieldType.int), Jvm.Cond.code ({ cls := "java/lang/String", name := "encodeUTF8_UTF16", desc := "([BZ)[B" } : Jvm.MethodName) jdk_42_method_47_code (9 : Nat) (Option.some (Jvm.ClassFile.FieldType.array Jvm.ClassFile.FieldType.byte)), Jvm.Cond.code ({ cls := "java/lang/Character", name := "isSurrogate", desc := "(C)Z" } : Jvm.MethodName) jdk_89_method_16_code (1 : Nat) (Option.some Jvm.ClassFile.FieldType.boolean)]
set_option maxRecDepth 65536 in
theorem codes_eq : words1.filter isCode = codes1 := rfl
theorem w_codes : ∀ c ∈ words1.filter isCode, c.before args0 about1 = true := by
  rw [codes_eq]
  intro c hc
  simp only [codes1, List.mem_cons, List.not_mem_nil, or_false] at hc
  rcases hc with rfl | rfl | rfl | rfl | rfl | rfl | rfl | rfl | rfl | rfl | rfl | rfl | rfl | rfl | rfl | rfl | rfl | rfl | rfl | rfl | rfl | rfl | rfl | rfl | rfl | rfl | rfl | rfl | rfl | rfl | rfl | rfl | rfl | rfl | rfl | rfl | rfl | rfl | rfl | rfl | rfl | rfl | rfl | rfl | rfl | rfl | rfl | rfl | rfl | rfl | rfl | rfl | rfl | rfl | rfl | rfl
  · exact w_c0
  · exact w_c1
  · exact w_c2
  · exact w_c3
  · exact w_c4
  · exact w_c5
  · exact w_c6
  · exact w_c7
  · exact w_c8
  · exact w_c9
  · exact w_c10
  · exact w_c11
  · exact w_c12
  · exact w_c13
  · exact w_c14
  · exact w_c15
  · exact w_c16
  · exact w_c17
  · exact w_c18
  · exact w_c19
  · exact w_c20
  · exact w_c21
  · exact w_c22
  · exact w_c23
  · exact w_c24
  · exact w_c25
  · exact w_c26
  · exact w_c27
  · exact w_c28
  · exact w_c29
  · exact w_c30
  · exact w_c31
  · exact w_c32
  · exact w_c33
  · exact w_c34
  · exact w_c35
  · exact w_c36
  · exact w_c37
  · exact w_c38
  · exact w_c39
  · exact w_c40
  · exact w_c41
  · exact w_c42
  · exact w_c43
  · exact w_c44
  · exact w_c45
  · exact w_c46
  · exact w_c47
  · exact w_c48
  · exact w_c49
  · exact w_c50
  · exact w_c51
  · exact w_c52
  · exact w_c53
  · exact w_c54
  · exact w_c55
set_option maxRecDepth 65536 in
theorem w_t1 : (words1.take 24).all (fun c => isCode c || c.before args0 about1) = true := by decide +kernel
set_option maxRecDepth 65536 in
theorem w_t2 : ((words1.drop 24).take 24).all (fun c => isCode c || c.before args0 about1) = true := by decide +kernel
set_option maxRecDepth 65536 in
theorem w_t3 : (((words1.drop 24).drop 24).take 24).all (fun c => isCode c || c.before args0 about1) = true := by decide +kernel
set_option maxRecDepth 65536 in
theorem w_t4 : ((((words1.drop 24).drop 24).drop 24).take 24).all (fun c => isCode c || c.before args0 about1) = true := by decide +kernel
set_option maxRecDepth 65536 in
theorem w_t5 : (((((words1.drop 24).drop 24).drop 24).drop 24).take 24).all (fun c => isCode c || c.before args0 about1) = true := by decide +kernel
set_option maxRecDepth 65536 in
theorem w_t6 : ((((((words1.drop 24).drop 24).drop 24).drop 24).drop 24).take 24).all (fun c => isCode c || c.before args0 about1) = true := by decide +kernel
set_option maxRecDepth 65536 in
theorem w_t7 : (((((((words1.drop 24).drop 24).drop 24).drop 24).drop 24).drop 24).take 24).all (fun c => isCode c || c.before args0 about1) = true := by decide +kernel
set_option maxRecDepth 65536 in
theorem w_t8 : ((((((((words1.drop 24).drop 24).drop 24).drop 24).drop 24).drop 24).drop 24).take 24).all (fun c => isCode c || c.before args0 about1) = true := by decide +kernel
set_option maxRecDepth 65536 in
theorem w_t9 : (((((((((words1.drop 24).drop 24).drop 24).drop 24).drop 24).drop 24).drop 24).drop 24).take 24).all (fun c => isCode c || c.before args0 about1) = true := by decide +kernel
set_option maxRecDepth 65536 in
theorem w_t10 : ((((((((((words1.drop 24).drop 24).drop 24).drop 24).drop 24).drop 24).drop 24).drop 24).drop 24).take 24).all (fun c => isCode c || c.before args0 about1) = true := by decide +kernel
set_option maxRecDepth 65536 in
theorem w_t11 : (((((((((((words1.drop 24).drop 24).drop 24).drop 24).drop 24).drop 24).drop 24).drop 24).drop 24).drop 24).take 24).all (fun c => isCode c || c.before args0 about1) = true := by decide +kernel
set_option maxRecDepth 65536 in
theorem w_t12 : (((((((((((words1.drop 24).drop 24).drop 24).drop 24).drop 24).drop 24).drop 24).drop 24).drop 24).drop 24).drop 24).all (fun c => isCode c || c.before args0 about1) = true := by decide +kernel
theorem w_tables : (allAtoms (Jvm.Cond.code x code maxLocals ret :: tables_1)).before args0 about1 = true := by
  rw [allAtoms_all]
  show words1.all (fun c => c.before args0 about1) = true
  refine all_split ?_ w_codes
  rw [← List.take_append_drop 24 words1, List.all_append, w_t1, ← List.take_append_drop 24 (words1.drop 24), List.all_append, w_t2, ← List.take_append_drop 24 ((words1.drop 24).drop 24), List.all_append, w_t3, ← List.take_append_drop 24 (((words1.drop 24).drop 24).drop 24), List.all_append, w_t4, ← List.take_append_drop 24 ((((words1.drop 24).drop 24).drop 24).drop 24), List.all_append, w_t5, ← List.take_append_drop 24 (((((words1.drop 24).drop 24).drop 24).drop 24).drop 24), List.all_append, w_t6, ← List.take_append_drop 24 ((((((words1.drop 24).drop 24).drop 24).drop 24).drop 24).drop 24), List.all_append, w_t7, ← List.take_append_drop 24 (((((((words1.drop 24).drop 24).drop 24).drop 24).drop 24).drop 24).drop 24), List.all_append, w_t8, ← List.take_append_drop 24 ((((((((words1.drop 24).drop 24).drop 24).drop 24).drop 24).drop 24).drop 24).drop 24), List.all_append, w_t9, ← List.take_append_drop 24 (((((((((words1.drop 24).drop 24).drop 24).drop 24).drop 24).drop 24).drop 24).drop 24).drop 24), List.all_append, w_t10, ← List.take_append_drop 24 ((((((((((words1.drop 24).drop 24).drop 24).drop 24).drop 24).drop 24).drop 24).drop 24).drop 24).drop 24), List.all_append, w_t11, w_t12]
  rfl
set_option maxRecDepth 65536 in
theorem w_rest : rest_1_c.before args0 about1 = true := by decide +kernel
set_option maxRecDepth 65536 in
theorem w_case : (Jvm.Cond.and given_1 narrow_1).before args0 about1 = true := by decide +kernel
set_option maxRecDepth 65536 in
theorem w_consts : constsHeld consts_1 about1 := Jvm.Lit.constsHeldB_iff.mp (by decide +kernel)
theorem w_applies : (headSpec (Jvm.Cond.code x code maxLocals ret :: tables_1) room_1).applies x e0.platform about1 = true :=
  (Spec.applies_iff w_frames).mpr ⟨w_running, w_runnable, w_alone, w_named, w_hears, w_ripe, w_room, w_tables⟩
theorem atStart : AtStart classFile x code maxLocals ret World_1 tables_1 room_1 Calls_1 rest_1 Pre_1 launch0 p0 e0 about1 theMethod args0 below0 :=
  ⟨lists_1, trivial, launch0.admits_env _ _ _, launch0.least_env, fairChoices_fair.cas, fairChoices_fair.clock, w_frames, w_args, w_heap, w_applies, ⟨w_consts, trivial⟩, w_rest, w_case⟩
end start1
theorem witness_1 : WitnessClaimed_1 := ⟨start1.p0, start1.e0, start1.about1, start1.theMethod, start1.args0, start1.below0, start1.atStart⟩
end Jvm.Pilot.@@N@@
