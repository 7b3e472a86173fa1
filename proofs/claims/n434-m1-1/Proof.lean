import JvmDerived
import JvmDerived.Pilot.@@N@@Statement
import JvmDerived.Pilot.@@N@@Code
set_option linter.unusedVariables false
set_option linter.unusedSimpArgs false
/- laws to paste: Road.backV, Road.eqW, Road.codOf (cut by pick.py; bodies as the Statement names them) -/
namespace Jvm.Pilot.@@N@@
namespace StrChars
open Jvm Sem ClassFile Op Lib Jvm.Stand Jvm.Free.XT Jvm.Free.ALB Jvm.Free.JM Jvm.Free
open Jvm.Lib.Cold (StaticIs)
/-- a char array whose places are chars -/
def Ch (a : Addr) (A : Cell) (U : State) : Prop := Arr .char a A U ∧ Typed .char A
theorem Ch.mv {a : Addr} {A : Cell} {U U' : State} (h : Ch a A U) (hal : U.vm.Alike U'.vm) (hh : U'.heap = U.heap) : Ch a A U' := ⟨h.1.mv hal hh, h.2⟩
theorem Ch.keep {a : Addr} {A : Cell} {U U' : State} (h : Ch a A U) (hal : U.vm.Alike U'.vm) (hk : U'.heap[a]? = some A) : Ch a A U' := ⟨h.1.keep hal hk, h.2⟩
/-- what place i of a char[]'s cell holds -/
def cv (A : Cell) (i : Nat) : Int32 := match A.slots[i]? with | some (.int x) => x | _ => 0
theorem Ch.get {a : Addr} {A : Cell} {U : State} (h : Ch a A U) {i : Nat} (hi : i < A.slots.size) : A.slots[i]? = some (.int (cv A i)) := by
  have e := Array.getElem?_eq_getElem hi
  have f := h.2 i _ e
  unfold cv; rw [e]
  generalize A.slots[i] = v at f
  cases v <;> simp [fits] at f ⊢
/-- the byte that i2b leaves of a char -/
def lo8 (x : Int32) : Int32 := x.toInt8.toInt32
theorem fits_lo8 (y : Int32) : fits .byte (.int (lo8 y)) = true := by
  have h1 := y.toInt8.le_toInt
  have h2 := y.toInt8.toInt_lt
  simp only [lo8, fits, Bool.and_eq_true, decide_eq_true_eq, Int32.le_iff_toInt_le, Int8.toInt_toInt32, show (-128 : Int32).toInt = -128 from by decide, show (127 : Int32).toInt = 127 from by decide]
  omega
/-- A' is A but that each place j of lo .. hi - 1 holds f j -/
def Laid (A A' : Cell) (lo hi : Nat) (f : Nat → Value) : Prop := A'.cls = A.cls ∧ A'.vm = A.vm ∧ A'.slots.size = A.slots.size ∧ ∀ i, A'.slots[i]? = if lo ≤ i ∧ i < hi then some (f i) else A.slots[i]?
theorem Laid.zero (A : Cell) (lo : Nat) (f : Nat → Value) : Laid A A lo (lo + 0) f := ⟨rfl, rfl, rfl, fun i => by rw [if_neg (by omega)]⟩
theorem Laid.step {A Ak : Cell} {lo k : Nat} {f : Nat → Value} {v : Value} (h : Laid A Ak lo k f) (hlo : lo ≤ k) (hk : k < Ak.slots.size) (hv : v = f k) : Laid A (Ak.setSlot k v) lo (k + 1) f := by
  refine ⟨h.1, h.2.1, by simpa [Cell.setSlot] using h.2.2.1, fun i => ?_⟩
  by_cases e : k = i
  · subst e; rw [Cell.slots_setSlot_self v hk, if_pos (by omega), hv]
  · rw [Cell.slots_setSlot_ne v e, h.2.2.2 i]
    by_cases q : lo ≤ i ∧ i < k
    · rw [if_pos q, if_pos (by omega)]
    · rw [if_neg q, if_neg (by omega)]
def U16 : String := "java/lang/StringUTF16"
namespace Cmp5
def yN : MethodName := ⟨"java/lang/StringUTF16", "compress", "([CI[BII)I"⟩
abbrev yB : ByteArray := jdk_52_method_21_code
theorem d0 : decode yB 0 = .ok (.iconst 0, 1) := by decide +kernel
theorem d1 : decode yB 1 = .ok (.istore 5, 2) := by decide +kernel
theorem d3 : decode yB 3 = .ok (.iload 5, 2) := by decide +kernel
theorem d5 : decode yB 5 = .ok (.iload 4, 2) := by decide +kernel
theorem d7 : decode yB 7 = .ok (.if_icmp (.ge) 37, 3) := by decide +kernel
theorem d10 : decode yB 10 = .ok (.aload_n 0, 1) := by decide +kernel
theorem d11 : decode yB 11 = .ok (.iload_n 1, 1) := by decide +kernel
theorem d12 : decode yB 12 = .ok (.caload, 1) := by decide +kernel
theorem d13 : decode yB 13 = .ok (.istore 6, 2) := by decide +kernel
theorem d15 : decode yB 15 = .ok (.iload 6, 2) := by decide +kernel
theorem d17 : decode yB 17 = .ok (.sipush 255, 3) := by decide +kernel
theorem d20 : decode yB 20 = .ok (.if_icmp (.le) 6, 3) := by decide +kernel
theorem d26 : decode yB 26 = .ok (.aload_n 2, 1) := by decide +kernel
theorem d27 : decode yB 27 = .ok (.iload_n 3, 1) := by decide +kernel
theorem d28 : decode yB 28 = .ok (.iload 6, 2) := by decide +kernel
theorem d30 : decode yB 30 = .ok (.i2b, 1) := by decide +kernel
theorem d31 : decode yB 31 = .ok (.bastore, 1) := by decide +kernel
theorem d32 : decode yB 32 = .ok (.iinc 1 1, 3) := by decide +kernel
theorem d35 : decode yB 35 = .ok (.iinc 3 1, 3) := by decide +kernel
theorem d38 : decode yB 38 = .ok (.iinc 5 1, 3) := by decide +kernel
theorem d41 : decode yB 41 = .ok (.goto (-38), 3) := by decide +kernel
theorem d44 : decode yB 44 = .ok (.iload 4, 2) := by decide +kernel
theorem d46 : decode yB 46 = .ok (.ireturn, 1) := by decide +kernel
def site : List Cond := []
def tab : Cond := tabOf yN yB 7 (some .int) site
def P (b : Addr) (A : Cell) (d : Addr) (B : Cell) (o q len : Nat) (args : Array Value) (s : State) : Prop := args = #[.ref b, .int (Int32.ofNat o), .ref d, .int (Int32.ofNat q), .int (Int32.ofNat len)] ∧ Ch b A s ∧ Arr .byte d B s ∧ b ≠ d ∧ o + len ≤ A.slots.size ∧ q + len ≤ B.slots.size ∧ ∀ i, i < len → ¬ 255 < cv A (o + i)
def E (b : Addr) (A : Cell) (d : Addr) (B : Cell) (o q len : Nat) (r : Option Value) (s u : State) : Prop := r = some (.int (Int32.ofNat len)) ∧ ∃ B', Put d B' s u ∧ Laid B B' q (q + len) (fun j => Value.int (lo8 (cv A (o + (j - q)))))
/-- no char of the range above 255: len; the places written hold each char's low byte -/
theorem law (l : Launch) (b : Addr) (A : Cell) (d : Addr) (B : Cell) (o q len : Nat) : Law l yN 5 5 0 0 yB 7 (some .int) site (P b A d B o q len) (E b A d B o q len) (copyLocs d q len) 0 0 := by
  refine Law.of_walk (plainFor_of_name (by decide +kernel)) (by decide +kernel) (by decide +kernel) (by decide) (fun _ _ h => by rw [h.1]; rfl) (fun _ U U' hal hh h => ⟨h.1, h.2.1.mv hal hh, h.2.2.1.mv hal hh, h.2.2.2⟩) (fun r U U' V V' h1 hal h2 h => ⟨h.1, h.2.elim fun B' q => ⟨B', q.1.mv h1 h2, q.2⟩⟩) ?_
  intro p e s m args below meth c s₁ X0 hexec hbytes hml hret hlk hnm hown hh0 W hP
  obtain ⟨rfl, hA, hB, hne, l1, l2, hp⟩ := hP
  have c1 : Steps p.tables e below (s₁.setTop (entryFrame m #[.ref b, .int (Int32.ofNat o), .ref d, .int (Int32.ofNat q), .int (Int32.ofNat len)] 7)) (s₁.setTop (mkF m 0 #[.val (.ref b), .val (.int (Int32.ofNat o)), .val (.ref d), .val (.int (Int32.ofNat q)), .val (.int (Int32.ofNat len)), .unset, .unset] [])) := entry rfl
  have hA0 := hA.1.mv X0.warmed.alike hh0
  have hB0 := hB.mv X0.warmed.alike hh0
  have a31 := hA.1.2.2.2
  have c2 : Steps p.tables e below (s₁.setTop (entryFrame m #[.ref b, .int (Int32.ofNat o), .ref d, .int (Int32.ofNat q), .int (Int32.ofNat len)] 7)) (s₁.setTop (mkF m 3 #[.val (.ref b), .val (.int (Int32.ofNat o)), .val (.ref d), .val (.int (Int32.ofNat q)), .val (.int (Int32.ofNat len)), .val (.int 0), .unset] [])) := c1.trans (by
    refine iconstV X0.here hexec rfl 0 (hb hbytes d0) (by decide) ?_
    refine XS.istore X0.here hexec rfl (hb hbytes d1) rfl rfl ?_
    exact Steps.refl _)
  have loop : ∀ (r i : Nat), i + r = len → ∀ (z : Slot), (z = .unset ∨ ∃ w, z = .val w ∧ w.category = 1) → ∀ (Tl : State) (Bk : Cell), Stand p l e { frames := 0, locals := 0, cells := 0, slots := 0 } s m #[.ref b, .int (Int32.ofNat o), .ref d, .int (Int32.ofNat q), .int (Int32.ofNat len)] below meth c Tl ([] ++ copyLocs d q i) 0 0 → Put d Bk s₁ Tl → Laid B Bk q (q + i) (fun j => Value.int (lo8 (cv A (o + (j - q))))) →
      Steps p.tables e below (s₁.setTop (entryFrame m #[.ref b, .int (Int32.ofNat o), .ref d, .int (Int32.ofNat q), .int (Int32.ofNat len)] 7)) (Tl.setTop (mkF m 3 #[.val (.ref b), .val (.int (Int32.ofNat (o + i))), .val (.ref d), .val (.int (Int32.ofNat (q + i))), .val (.int (Int32.ofNat len)), .val (.int (Int32.ofNat i)), z] [])) → ∃ (T' : State) (B' : Cell) (z' : Slot), Stand p l e { frames := 0, locals := 0, cells := 0, slots := 0 } s m #[.ref b, .int (Int32.ofNat o), .ref d, .int (Int32.ofNat q), .int (Int32.ofNat len)] below meth c T' ([] ++ copyLocs d q len) 0 0 ∧ Put d B' s₁ T' ∧ Laid B B' q (q + len) (fun j => Value.int (lo8 (cv A (o + (j - q))))) ∧
      Steps p.tables e below (s₁.setTop (entryFrame m #[.ref b, .int (Int32.ofNat o), .ref d, .int (Int32.ofNat q), .int (Int32.ofNat len)] 7)) (T'.setTop (mkF m 3 #[.val (.ref b), .val (.int (Int32.ofNat (o + len))), .val (.ref d), .val (.int (Int32.ofNat (q + len))), .val (.int (Int32.ofNat len)), .val (.int (Int32.ofNat len)), z'] [])) := by
    intro r
    induction r with
    | zero =>
      intro i hi z hz Tl Bk Xl pl fl cl
      have hil : i = len := by omega
      rw [hil] at Xl fl cl
      exact ⟨Tl, Bk, z, Xl, pl, fl, cl⟩
    | succ r ih =>
      intro i hi z hz Tl Bk Xl pl fl cl
      have all := X0.warmed.alike.symm.trans Xl.warmed.alike
      have hAl := hA0.keep all (pl.other hne hA0.1)
      have hBk := hB0.like all pl.1 fl.1 fl.2.1 fl.2.2.1
      have hlt : q + i < Bk.slots.size := by rw [fl.2.2.1]; omega
      have c3 : Steps p.tables e below (s₁.setTop (entryFrame m #[.ref b, .int (Int32.ofNat o), .ref d, .int (Int32.ofNat q), .int (Int32.ofNat len)] 7)) (Tl.setTop (mkF m 12 #[.val (.ref b), .val (.int (Int32.ofNat (o + i))), .val (.ref d), .val (.int (Int32.ofNat (q + i))), .val (.int (Int32.ofNat len)), .val (.int (Int32.ofNat i)), z] [.int (Int32.ofNat (o + i)), .ref b])) := cl.trans (by
        refine XS.iload Xl.here hexec rfl (hb hbytes d3) rfl ?_
        refine XS.iload Xl.here hexec rfl (hb hbytes d5) rfl ?_
        refine XS.icmpNo Xl.here hexec rfl (hb hbytes d7) rfl (ii_ge_f (lt32 (by omega) (by omega))) ?_
        refine XS.aloadN Xl.here hexec rfl (hb hbytes d10) rfl rfl ?_
        refine XS.iloadN Xl.here hexec rfl (hb hbytes d11) rfl ?_
        exact Steps.refl _)
      have c4 : Steps p.tables e below (s₁.setTop (entryFrame m #[.ref b, .int (Int32.ofNat o), .ref d, .int (Int32.ofNat q), .int (Int32.ofNat len)] 7)) (Tl.setTop (mkF m 13 #[.val (.ref b), .val (.int (Int32.ofNat (o + i))), .val (.ref d), .val (.int (Int32.ofNat (q + i))), .val (.int (Int32.ofNat len)), .val (.int (Int32.ofNat i)), z] [.int (cv A (o + i))])) := c3.trans (by
        refine Xl.aget hexec hAl rfl (hA.get (i := o + i) (by omega)) rfl rfl (hb hbytes d12) ?_
        exact Steps.refl _)
      have c5 : Steps p.tables e below (s₁.setTop (entryFrame m #[.ref b, .int (Int32.ofNat o), .ref d, .int (Int32.ofNat q), .int (Int32.ofNat len)] 7)) (Tl.setTop (mkF m 15 #[.val (.ref b), .val (.int (Int32.ofNat (o + i))), .val (.ref d), .val (.int (Int32.ofNat (q + i))), .val (.int (Int32.ofNat len)), .val (.int (Int32.ofNat i)), .val (.int (cv A (o + i)))] [])) := c4.trans (by
        refine XS.istoreS Xl.here hexec rfl (hb hbytes d13) rfl rfl hz ?_
        exact Steps.refl _)
      have c6 : Steps p.tables e below (s₁.setTop (entryFrame m #[.ref b, .int (Int32.ofNat o), .ref d, .int (Int32.ofNat q), .int (Int32.ofNat len)] 7)) (Tl.setTop (mkF m 31 #[.val (.ref b), .val (.int (Int32.ofNat (o + i))), .val (.ref d), .val (.int (Int32.ofNat (q + i))), .val (.int (Int32.ofNat len)), .val (.int (Int32.ofNat i)), .val (.int (cv A (o + i)))] [.int (lo8 (cv A (o + i))), .int (Int32.ofNat (q + i)), .ref d])) := c5.trans (by
        refine XS.iload Xl.here hexec rfl (hb hbytes d15) rfl ?_
        refine sipushV Xl.here hexec rfl 255 (hb hbytes d17) (by decide) ?_
        refine XS.icmpYes Xl.here hexec rfl (pc0 := 20) rfl (hb hbytes d20) rfl (ii_le_t (hp i (by omega))) (by decide) rfl ?_
        refine XS.aloadN Xl.here hexec rfl (hb hbytes d26) rfl rfl ?_
        refine XS.iloadN Xl.here hexec rfl (hb hbytes d27) rfl ?_
        refine XS.iload Xl.here hexec rfl (hb hbytes d28) rfl ?_
        refine i2b Xl.here hexec rfl (hb hbytes d30) rfl ?_
        exact Steps.refl _)
      obtain ⟨T7, X7, p7, st7⟩ := Xl.aput hexec hBk rfl hlt rfl (fits_lo8 (cv A (o + i))) (g := (mkF m 31 #[.val (.ref b), .val (.int (Int32.ofNat (o + i))), .val (.ref d), .val (.int (Int32.ofNat (q + i))), .val (.int (Int32.ofNat len)), .val (.int (Int32.ofNat i)), .val (.int (cv A (o + i)))] [.int (lo8 (cv A (o + i))), .int (Int32.ofNat (q + i)), .ref d])) rfl (rest := []) rfl (hb hbytes d31)
      have c8 : Steps p.tables e below (s₁.setTop (entryFrame m #[.ref b, .int (Int32.ofNat o), .ref d, .int (Int32.ofNat q), .int (Int32.ofNat len)] 7)) (T7.setTop (mkF m 32 #[.val (.ref b), .val (.int (Int32.ofNat (o + i))), .val (.ref d), .val (.int (Int32.ofNat (q + i))), .val (.int (Int32.ofNat len)), .val (.int (Int32.ofNat i)), .val (.int (cv A (o + i)))] [])) := c6.trans (st7 _ (Steps.refl _))
      have c9 : Steps p.tables e below (s₁.setTop (entryFrame m #[.ref b, .int (Int32.ofNat o), .ref d, .int (Int32.ofNat q), .int (Int32.ofNat len)] 7)) (T7.setTop (mkF m 3 #[.val (.ref b), .val (.int (Int32.ofNat (o + i) + 1)), .val (.ref d), .val (.int (Int32.ofNat (q + i) + 1)), .val (.int (Int32.ofNat len)), .val (.int (Int32.ofNat i + 1)), .val (.int (cv A (o + i)))] [])) := c8.trans (by
        refine iincV X7.here hexec rfl 1 (hb hbytes d32) (by decide) rfl rfl ?_
        refine iincV X7.here hexec rfl 1 (hb hbytes d35) (by decide) rfl rfl ?_
        refine iincV X7.here hexec rfl 1 (hb hbytes d38) (by decide) rfl rfl ?_
        refine XS.goto X7.here hexec rfl (pc0 := 41) rfl (hb hbytes d41) (by decide) rfl ?_
        exact Steps.refl _)
      have c10 : Steps p.tables e below (s₁.setTop (entryFrame m #[.ref b, .int (Int32.ofNat o), .ref d, .int (Int32.ofNat q), .int (Int32.ofNat len)] 7)) (T7.setTop (mkF m 3 #[.val (.ref b), .val (.int (Int32.ofNat (o + (i + 1)))), .val (.ref d), .val (.int (Int32.ofNat (q + (i + 1)))), .val (.int (Int32.ofNat len)), .val (.int (Int32.ofNat (i + 1))), .val (.int (cv A (o + i)))] [])) := by
        have := c9
        rw [succ32, succ32, succ32] at this
        exact this
      exact ih (i + 1) (by omega) _ (Or.inr ⟨_, rfl, rfl⟩) T7 _ (by rw [copyLocs_step, ← List.append_assoc]; exact X7) (pl.trans p7) (fl.step (by omega) hlt (by simp)) c10
  obtain ⟨T9, B9, z9, X9, p9, f9, g9⟩ := loop len 0 (by omega) .unset (Or.inl rfl) s₁ B (by simpa [copyLocs] using X0) ⟨hB0.1, fun _ _ => rfl, rfl⟩ (Laid.zero _ _ _) c2
  have c11 : Steps p.tables e below (s₁.setTop (entryFrame m #[.ref b, .int (Int32.ofNat o), .ref d, .int (Int32.ofNat q), .int (Int32.ofNat len)] 7)) (T9.setTop (mkF m 46 #[.val (.ref b), .val (.int (Int32.ofNat (o + len))), .val (.ref d), .val (.int (Int32.ofNat (q + len))), .val (.int (Int32.ofNat len)), .val (.int (Int32.ofNat len)), z9] [.int (Int32.ofNat len)])) := g9.trans (by
    refine XS.iload X9.here hexec rfl (hb hbytes d3) rfl ?_
    refine XS.iload X9.here hexec rfl (hb hbytes d5) rfl ?_
    refine XS.icmpYes X9.here hexec rfl (pc0 := 7) rfl (hb hbytes d7) rfl (ii_ge_t (nlt32 (by omega) (Nat.le_refl _))) (by decide) rfl ?_
    refine XS.iload X9.here hexec rfl (hb hbytes d44) rfl ?_
    exact Steps.refl _)
  exact ⟨T9, some (.int (Int32.ofNat len)), _, _, _, X9, by simp, rfl, rfl, (fun h => by cases h), ⟨rfl, B9, p9.from hh0, f9⟩, fun fs hl => c11.trans (X9.ireturnOut hexec hret rfl (Or.inl rfl) (hb hbytes d46) hl)⟩
end Cmp5
namespace Cmp3
def yN : MethodName := ⟨"java/lang/StringUTF16", "compress", "([CII)[B"⟩
abbrev yB : ByteArray := jdk_52_method_16_code
theorem d0 : decode yB 0 = .ok (.iload_n 2, 1) := by decide +kernel
theorem d1 : decode yB 1 = .ok (.newarray .byte, 2) := by decide +kernel
theorem d3 : decode yB 3 = .ok (.astore_n 3, 1) := by decide +kernel
theorem d4 : decode yB 4 = .ok (.aload_n 0, 1) := by decide +kernel
theorem d5 : decode yB 5 = .ok (.iload_n 1, 1) := by decide +kernel
theorem d6 : decode yB 6 = .ok (.aload_n 3, 1) := by decide +kernel
theorem d7 : decode yB 7 = .ok (.iconst 0, 1) := by decide +kernel
theorem d8 : decode yB 8 = .ok (.iload_n 2, 1) := by decide +kernel
theorem d9 : decode yB 9 = .ok (.invokestatic 115, 3) := by decide +kernel
theorem d12 : decode yB 12 = .ok (.istore 4, 2) := by decide +kernel
theorem d14 : decode yB 14 = .ok (.iload 4, 2) := by decide +kernel
theorem d16 : decode yB 16 = .ok (.iload_n 2, 1) := by decide +kernel
theorem d17 : decode yB 17 = .ok (.if_icmp (.eq) 40, 3) := by decide +kernel
theorem d57 : decode yB 57 = .ok (.aload_n 3, 1) := by decide +kernel
theorem d58 : decode yB 58 = .ok (.areturn, 1) := by decide +kernel
def site : List Cond := [.arrayClass .byte, Cmp5.tab] ++ staticW U16 115 Cmp5.yN
def tab : Cond := tabOf yN yB 6 (some (.array .byte)) site
def P (b : Addr) (A : Cell) (o len : Nat) (args : Array Value) (s : State) : Prop := args = #[.ref b, .int (Int32.ofNat o), .int (Int32.ofNat len)] ∧ Ch b A s ∧ o + len ≤ A.slots.size ∧ len ≤ 536870912 ∧ ∀ i, i < len → ¬ 255 < cv A (o + i)
def E (b : Addr) (A : Cell) (o len : Nat) (r : Option Value) (s u : State) : Prop := NewArr .byte "[B" len (fun j => .int (lo8 (cv A (o + j)))) r s u ∧ u.heap.size = s.heap.size + 1
/-- no char of the range above 255: a new byte[] of their low bytes -/
theorem law (l : Launch) (b : Addr) (A : Cell) (o len : Nat) : Law l yN 3 3 1 18 yB 6 (some (.array .byte)) site (P b A o len) (E b A o len) [] 1 len := by
  refine Law.of_walk (plainFor_of_name (by decide +kernel)) (by decide +kernel) (by decide +kernel) (by decide) (fun _ _ h => by rw [h.1]; rfl) (fun _ U U' hal hh h => ⟨h.1, h.2.1.mv hal hh, h.2.2⟩) (fun r U U' V V' h1 hal h2 h => ⟨NewArr.mv r U U' V V' h1 hal h2 h.1, by rw [h1, h2]; exact h.2⟩) ?_
  intro p e s m args below meth c s₁ X0 hexec hbytes hml hret hlk hnm hown hh0 W hP
  obtain ⟨rfl, hA, l1, l2, hp⟩ := hP
  have a31 := hA.1.2.2.2
  have c1 : Steps p.tables e below (s₁.setTop (entryFrame m #[.ref b, .int (Int32.ofNat o), .int (Int32.ofNat len)] 6)) (s₁.setTop (mkF m 0 #[.val (.ref b), .val (.int (Int32.ofNat o)), .val (.int (Int32.ofNat len)), .unset, .unset, .unset] [])) := entry rfl
  have c2 : Steps p.tables e below (s₁.setTop (entryFrame m #[.ref b, .int (Int32.ofNat o), .int (Int32.ofNat len)] 6)) (s₁.setTop (mkF m 1 #[.val (.ref b), .val (.int (Int32.ofNat o)), .val (.int (Int32.ofNat len)), .unset, .unset, .unset] [.int (Int32.ofNat len)])) := c1.trans (by
    refine XS.iloadN X0.here hexec rfl (hb hbytes d0) rfl ?_
    exact Steps.refl _)
  obtain ⟨T3, B3, X3, ba3, bs3, bv3, bh3, bf3, st3⟩ := X0.anew hexec (atype := .byte) (wk W (.arrayClass .byte)) rfl (by show len * 1 ≤ _; omega) (by omega) (g := (mkF m 1 #[.val (.ref b), .val (.int (Int32.ofNat o)), .val (.int (Int32.ofNat len)), .unset, .unset, .unset] [.int (Int32.ofNat len)])) rfl (hb hbytes d1) (rest := []) rfl (Nat.le_refl _) (by show 0 + len ≤ len; omega)
  rw [hh0] at ba3 st3
  have kp3 : XT.Kept s T3 := (XT.Kept.of_eq hh0).push bh3
  have hA3 := hA.keep X3.warmed.alike (kp3 _ _ hA.1.1)
  have hne : b ≠ s.heap.size := hA.1.ne
  have c4 : Steps p.tables e below (s₁.setTop (entryFrame m #[.ref b, .int (Int32.ofNat o), .int (Int32.ofNat len)] 6)) (T3.setTop (mkF m 3 #[.val (.ref b), .val (.int (Int32.ofNat o)), .val (.int (Int32.ofNat len)), .unset, .unset, .unset] [.ref s.heap.size])) := c2.trans (st3 _ (Steps.refl _))
  have c5 : Steps p.tables e below (s₁.setTop (entryFrame m #[.ref b, .int (Int32.ofNat o), .int (Int32.ofNat len)] 6)) (T3.setTop (mkF m 9 #[.val (.ref b), .val (.int (Int32.ofNat o)), .val (.int (Int32.ofNat len)), .val (.ref s.heap.size), .unset, .unset] [.int (Int32.ofNat len), .int 0, .ref s.heap.size, .int (Int32.ofNat o), .ref b])) := c4.trans (by
    refine XS.astoreN X3.here hexec rfl (hb hbytes d3) rfl rfl rfl ?_
    refine XS.aloadN X3.here hexec rfl (hb hbytes d4) rfl rfl ?_
    refine XS.iloadN X3.here hexec rfl (hb hbytes d5) rfl ?_
    refine XS.aloadN X3.here hexec rfl (hb hbytes d6) rfl rfl ?_
    refine iconstV X3.here hexec rfl 0 (hb hbytes d7) (by decide) ?_
    refine XS.iloadN X3.here hexec rfl (hb hbytes d8) rfl ?_
    exact Steps.refl _)
  obtain ⟨v6, T6, X6, E6, g6⟩ := X3.callS hexec (Cmp5.law l b A s.heap.size B3 o 0 len) hown (wks W (staticW U16 115 Cmp5.yN)) (wk W Cmp5.tab) (W := 0) (Nat.le_of_ble_eq_true rfl) (Nat.le_of_ble_eq_true rfl) (Nat.le_refl _) (by show 0 + len + 0 ≤ len; omega) (g := (mkF m 9 #[.val (.ref b), .val (.int (Int32.ofNat o)), .val (.int (Int32.ofNat len)), .val (.ref s.heap.size), .unset, .unset] [.int (Int32.ofNat len), .int (Int32.ofNat 0), .ref s.heap.size, .int (Int32.ofNat o), .ref b])) rfl (by rw [hml]; rfl) c5 (argsL := [.ref b, .int (Int32.ofNat o), .ref s.heap.size, .int (Int32.ofNat 0), .int (Int32.ofNat len)]) (rest := []) rfl rfl (by show 2 * 0 + 0 ≤ _; decide) (hb hbytes d9) (⟨rfl, hA3, ba3, hne, l1, by rw [bs3]; simp, hp⟩)
  obtain ⟨rfl, B6, p6, f6⟩ := E6
  have c7 : Steps p.tables e below (s₁.setTop (entryFrame m #[.ref b, .int (Int32.ofNat o), .int (Int32.ofNat len)] 6)) (T6.setTop (mkF m 12 #[.val (.ref b), .val (.int (Int32.ofNat o)), .val (.int (Int32.ofNat len)), .val (.ref s.heap.size), .unset, .unset] [.int (Int32.ofNat len)])) := g6
  have c8 : Steps p.tables e below (s₁.setTop (entryFrame m #[.ref b, .int (Int32.ofNat o), .int (Int32.ofNat len)] 6)) (T6.setTop (mkF m 58 #[.val (.ref b), .val (.int (Int32.ofNat o)), .val (.int (Int32.ofNat len)), .val (.ref s.heap.size), .val (.int (Int32.ofNat len)), .unset] [.ref s.heap.size])) := c7.trans (by
    refine XS.istore X6.here hexec rfl (hb hbytes d12) rfl rfl ?_
    refine XS.iload X6.here hexec rfl (hb hbytes d14) rfl ?_
    refine XS.iloadN X6.here hexec rfl (hb hbytes d16) rfl ?_
    refine XS.icmpYes X6.here hexec rfl (pc0 := 17) rfl (hb hbytes d17) rfl (ii_eq_t rfl) (by decide) rfl ?_
    refine XS.aloadN X6.here hexec rfl (hb hbytes d57) rfl rfl ?_
    exact Steps.refl _)
  have X8 := X6.wide (L' := []) (cells' := 1) (slots' := len) (fun x hx hlt => by
    simp only [List.nil_append, copyLocs, List.mem_map, List.mem_range] at hx
    obtain ⟨i, -, rfl⟩ := hx
    exact absurd hlt (Nat.lt_irrefl _)) (Nat.le_refl _) (by omega)
  exact ⟨T6, some (.ref s.heap.size), _, _, _, X8, rfl, rfl, rfl, (fun h => by cases h), ⟨⟨rfl, B6, ba3.like (X3.warmed.alike.symm.trans X6.warmed.alike) p6.1 f6.1 f6.2.1 f6.2.2.1, f6.2.1.trans bv3, by rw [X6.warmed.alike.findClass, f6.1]; exact bf3, by rw [f6.2.2.1, bs3]; simp, fun j hj => by rw [f6.2.2.2 j, if_pos (by omega)]; rfl, kp3.put p6 (Nat.le_refl _)⟩, by rw [p6.2.2, bh3, hh0]; simp⟩, fun fs hl => c8.trans (X8.areturnOut hexec rfl hret rfl (hb hbytes d58) hl)⟩
end Cmp3
namespace CodL
def yN : MethodName := ⟨"java/lang/StringUTF16", "coderFromArrayLen", "([BI)B"⟩
abbrev yB : ByteArray := jdk_52_method_15_code
theorem d0 : decode yB 0 = .ok (.iload_n 1, 1) := by decide +kernel
theorem d1 : decode yB 1 = .ok (.aload_n 0, 1) := by decide +kernel
theorem d2 : decode yB 2 = .ok (.arraylength, 1) := by decide +kernel
theorem d3 : decode yB 3 = .ok (.isub, 1) := by decide +kernel
theorem d4 : decode yB 4 = .ok (.bipush 31, 2) := by decide +kernel
theorem d6 : decode yB 6 = .ok (.iushr, 1) := by decide +kernel
theorem d7 : decode yB 7 = .ok (.i2b, 1) := by decide +kernel
theorem d8 : decode yB 8 = .ok (.ireturn, 1) := by decide +kernel
def site : List Cond := []
def tab : Cond := tabOf yN yB 2 (some .byte) site
def P (d : Addr) (B : Cell) (args : Array Value) (s : State) : Prop := args = #[.ref d, .int (Int32.ofNat B.slots.size)] ∧ Arr .byte d B s
def E (r : Option Value) (s u : State) : Prop := XT.PureE (some (.int 0)) r s u
/-- an array as long as the number of chars: LATIN1 -/
theorem law (l : Launch) (d : Addr) (B : Cell) : Law l yN 2 2 0 0 yB 2 (some .byte) site (P d B) E [] 0 0 := by
  refine Law.of_walk (plainFor_of_name (by decide +kernel)) (by decide +kernel) (by decide +kernel) (by decide) (fun _ _ h => by rw [h.1]; rfl) (fun _ U U' hal hh h => ⟨h.1, h.2.mv hal hh⟩) (fun r U U' V V' h1 hal h2 h => XT.PureE.mv r U U' V V' h1 hal h2 h) ?_
  intro p e s m args below meth c s₁ X0 hexec hbytes hml hret hlk hnm hown hh0 W hP
  obtain ⟨rfl, hB⟩ := hP
  have hB0 := hB.mv X0.warmed.alike hh0
  have c1 : Steps p.tables e below (s₁.setTop (entryFrame m #[.ref d, .int (Int32.ofNat B.slots.size)] 2)) (s₁.setTop (mkF m 0 #[.val (.ref d), .val (.int (Int32.ofNat B.slots.size))] [])) := entry rfl
  have c2 : Steps p.tables e below (s₁.setTop (entryFrame m #[.ref d, .int (Int32.ofNat B.slots.size)] 2)) (s₁.setTop (mkF m 2 #[.val (.ref d), .val (.int (Int32.ofNat B.slots.size))] [.ref d, .int (Int32.ofNat B.slots.size)])) := c1.trans (by
    refine XS.iloadN X0.here hexec rfl (hb hbytes d0) rfl ?_
    refine XS.aloadN X0.here hexec rfl (hb hbytes d1) rfl rfl ?_
    exact Steps.refl _)
  have c3 : Steps p.tables e below (s₁.setTop (entryFrame m #[.ref d, .int (Int32.ofNat B.slots.size)] 2)) (s₁.setTop (mkF m 8 #[.val (.ref d), .val (.int (Int32.ofNat B.slots.size))] [.int (lo8 (ushr (Int32.ofNat B.slots.size - Int32.ofNat B.slots.size) 31))])) := c2.trans (by
    refine X0.alen hexec hB0 rfl rfl (hb hbytes d2) ?_
    refine XS.isub X0.here hexec rfl (hb hbytes d3) rfl ?_
    refine bipushV X0.here hexec rfl 31 (hb hbytes d4) (by decide) ?_
    refine iushr X0.here hexec rfl (hb hbytes d6) rfl ?_
    refine i2b X0.here hexec rfl (hb hbytes d7) rfl ?_
    exact Steps.refl _)
  have e0 : lo8 (ushr (Int32.ofNat B.slots.size - Int32.ofNat B.slots.size) 31) = 0 := by rw [Int32.sub_self]; decide
  rw [e0] at c3
  exact ⟨s₁, some (.int 0), _, _, _, X0, rfl, rfl, rfl, (fun h => by cases h), ⟨rfl, hh0⟩, fun fs hl => c3.trans (X0.ireturnOut hexec hret rfl (Or.inr (Or.inr (Or.inl rfl))) (hb hbytes d8) hl)⟩
end CodL
/-- the String at a is Latin-1 over a new byte[] (the heap's one new cell): the low bytes of the len chars of A from o on; every cell but a is kept -/
def Got (a : Addr) (D : Cell) (fV fC : Field) (A : Cell) (o len : Nat) (r : Option Value) (s u : State) : Prop := r = none ∧ ∃ D' V : Cell, Blank "java/lang/String" a D' u ∧ Same D D' [fV.slot, fC.slot] ∧ D'.slots[fV.slot]? = some (.ref s.heap.size) ∧ D'.slots[fC.slot]? = some (.int 0) ∧ Arr .byte s.heap.size V u ∧ V.vm = .none ∧ u.vm.findClass "[B" = some V.cls ∧ V.slots.size = len ∧ (∀ j, j < len → V.slots[j]? = some (.int (lo8 (cv A (o + j))))) ∧ (∀ (y : Addr) (c : Cell), y ≠ a → s.heap[y]? = some c → u.heap[y]? = some c) ∧ u.heap.size = s.heap.size + 1
theorem Got.mv {a : Addr} {D A : Cell} {fV fC : Field} {o len : Nat} : ∀ r (U U' V V' : State), U'.heap = U.heap → V.vm.Alike V'.vm → V'.heap = V.heap → Got a D fV fC A o len r U V → Got a D fV fC A o len r U' V' :=
  fun r U U' V V' h1 hal h2 ⟨e0, D', X, a1, a2, a3, a4, a5, a6, a7, a8, a9, a10, a11⟩ => ⟨e0, D', X, a1.mv hal h2, a2, by rw [h1]; exact a3, a4, by rw [h1]; exact a5.mv hal h2, a6, by rw [hal.findClass]; exact a7, a8, a9, by rw [h1, h2]; exact a10, by rw [h1, h2]; exact a11⟩
namespace New4
def yN : MethodName := ⟨"java/lang/String", "<init>", "([CIILjava/lang/Void;)V"⟩
abbrev yB : ByteArray := jdk_42_method_149_code
theorem d0 : decode yB 0 = .ok (.aload_n 0, 1) := by decide +kernel
theorem d1 : decode yB 1 = .ok (.invokespecial 1, 3) := by decide +kernel
theorem d4 : decode yB 4 = .ok (.iload_n 3, 1) := by decide +kernel
theorem d5 : decode yB 5 = .ok (.ifCond (.ne) 22, 3) := by decide +kernel
theorem d27 : decode yB 27 = .ok (.getstatic 38, 3) := by decide +kernel
theorem d30 : decode yB 30 = .ok (.ifCond (.eq) 28, 3) := by decide +kernel
theorem d33 : decode yB 33 = .ok (.aload_n 1, 1) := by decide +kernel
theorem d34 : decode yB 34 = .ok (.iload_n 2, 1) := by decide +kernel
theorem d35 : decode yB 35 = .ok (.iload_n 3, 1) := by decide +kernel
theorem d36 : decode yB 36 = .ok (.invokestatic 177, 3) := by decide +kernel
theorem d39 : decode yB 39 = .ok (.astore 5, 2) := by decide +kernel
theorem d41 : decode yB 41 = .ok (.aload_n 0, 1) := by decide +kernel
theorem d42 : decode yB 42 = .ok (.aload 5, 2) := by decide +kernel
theorem d44 : decode yB 44 = .ok (.iload_n 3, 1) := by decide +kernel
theorem d45 : decode yB 45 = .ok (.invokestatic 47, 3) := by decide +kernel
theorem d48 : decode yB 48 = .ok (.putfield 15, 3) := by decide +kernel
theorem d51 : decode yB 51 = .ok (.aload_n 0, 1) := by decide +kernel
theorem d52 : decode yB 52 = .ok (.aload 5, 2) := by decide +kernel
theorem d54 : decode yB 54 = .ok (.putfield 9, 3) := by decide +kernel
theorem d57 : decode yB 57 = .ok (.return_, 1) := by decide +kernel
def site : List Cond := [.fieldLink "java/lang/String" 38 "java/lang/String" "COMPACT_STRINGS" "Z", Cmp3.tab, CodL.tab, .laysFinal "java/lang/String" "java/lang/String" "value" "[B", .fieldLink "java/lang/String" 9 "java/lang/String" "value" "[B", .laysFinal "java/lang/String" "java/lang/String" "coder" "B", .fieldLink "java/lang/String" 15 "java/lang/String" "coder" "B"] ++ objW "java/lang/String" 1 ++ staticW "java/lang/String" 177 Cmp3.yN ++ staticW "java/lang/String" 47 CodL.yN
def tab : Cond := tabOf yN yB 6 none site
def P (a : Addr) (D : Cell) (fV fC : Field) (b : Addr) (A : Cell) (z : Int32) (o len : Nat) (args : Array Value) (s : State) : Prop := args = #[.ref a, .ref b, .int (Int32.ofNat o), .int (Int32.ofNat len), .null] ∧ Blank "java/lang/String" a D s ∧ Found "java/lang/String" "value" "[B" fV s ∧ Found "java/lang/String" "coder" "B" fC s ∧ Ch b A s ∧ StaticIs s "java/lang/String" "COMPACT_STRINGS" "Z" (.int z) ∧ ¬ z = 0 ∧ 0 < len ∧ o + len ≤ A.slots.size ∧ len ≤ 536870912 ∧ ∀ i, i < len → ¬ 255 < cv A (o + i)
def E (a : Addr) (D : Cell) (fV fC : Field) (A : Cell) (o len : Nat) (r : Option Value) (s u : State) : Prop := Got a D fV fC A o len r s u
/-- len > 0, no char of the range above 255: a Latin-1 String of their low bytes -/
theorem law (l : Launch) (a : Addr) (D : Cell) (fV fC : Field) (b : Addr) (A : Cell) (z : Int32) (o len : Nat) : Law l yN 5 4 2 35 yB 6 none site (P a D fV fC b A z o len) (E a D fV fC A o len) [⟨a, fC.slot⟩, ⟨a, fV.slot⟩] 1 len := by
  refine Law.of_walk (plainFor_of_name (by decide +kernel)) (by decide +kernel) (by decide +kernel) (by decide) (fun _ _ h => by rw [h.1]; rfl) (fun _ U U' hal hh h => ⟨h.1, h.2.1.mv hal hh, h.2.2.1.al hal, h.2.2.2.1.al hal, h.2.2.2.2.1.mv hal hh, h.2.2.2.2.2.1.there hal hh, h.2.2.2.2.2.2⟩) (fun r U U' V V' h1 hal h2 h => Got.mv r U U' V V' h1 hal h2 h) ?_
  intro p e s m args below meth c s₁ X0 hexec hbytes hml hret hlk hnm hown hh0 W hP
  obtain ⟨rfl, hB, f1, f2, hA, s1, hz, l0, l1, l2, hp⟩ := hP
  have a31 := hA.1.2.2.2
  have c1 : Steps p.tables e below (s₁.setTop (entryFrame m #[.ref a, .ref b, .int (Int32.ofNat o), .int (Int32.ofNat len), .null] 6)) (s₁.setTop (mkF m 0 #[.val (.ref a), .val (.ref b), .val (.int (Int32.ofNat o)), .val (.int (Int32.ofNat len)), .val .null, .unset] [])) := entry rfl
  have c2 : Steps p.tables e below (s₁.setTop (entryFrame m #[.ref a, .ref b, .int (Int32.ofNat o), .int (Int32.ofNat len), .null] 6)) (s₁.setTop (mkF m 1 #[.val (.ref a), .val (.ref b), .val (.int (Int32.ofNat o)), .val (.int (Int32.ofNat len)), .val .null, .unset] [.ref a])) := c1.trans (by
    refine XS.aloadN X0.here hexec rfl (hb hbytes d0) rfl rfl ?_
    exact Steps.refl _)
  obtain ⟨T3, X3, q3, st3⟩ := X0.oinit hexec hown (wks W (objW "java/lang/String" 1)) (g := (mkF m 1 #[.val (.ref a), .val (.ref b), .val (.int (Int32.ofNat o)), .val (.int (Int32.ofNat len)), .val .null, .unset] [.ref a])) rfl (by rw [hml]; rfl) (rest := []) rfl (hb hbytes d1) (W := 0) (by show 2 * 0 + 0 ≤ _; decide) (Nat.le_of_ble_eq_true rfl) (Nat.le_of_ble_eq_true rfl)
  have hh3 := q3.trans hh0
  have c4 : Steps p.tables e below (s₁.setTop (entryFrame m #[.ref a, .ref b, .int (Int32.ofNat o), .int (Int32.ofNat len), .null] 6)) (T3.setTop (mkF m 27 #[.val (.ref a), .val (.ref b), .val (.int (Int32.ofNat o)), .val (.int (Int32.ofNat len)), .val .null, .unset] [])) := (c2.trans (st3 _ (Steps.refl _))).trans (by
    refine XS.iloadN X3.here hexec rfl (hb hbytes d4) rfl ?_
    refine XS.ifYes X3.here hexec rfl (pc0 := 5) rfl (hb hbytes d5) rfl (i0_ne_t (nz32 (by omega) l0)) (by decide) rfl ?_
    exact Steps.refl _)
  obtain ⟨T5, X5, q5, st5⟩ := X3.sget hexec hown (wk W (.fieldLink "java/lang/String" 38 "java/lang/String" "COMPACT_STRINGS" "Z")) s1 (fun _ _ h => by rw [hh3]; exact h) (g := (mkF m 27 #[.val (.ref a), .val (.ref b), .val (.int (Int32.ofNat o)), .val (.int (Int32.ofNat len)), .val .null, .unset] [])) rfl (hb hbytes d27)
  have hh5 := q5.trans hh3
  have c6 : Steps p.tables e below (s₁.setTop (entryFrame m #[.ref a, .ref b, .int (Int32.ofNat o), .int (Int32.ofNat len), .null] 6)) (T5.setTop (mkF m 30 #[.val (.ref a), .val (.ref b), .val (.int (Int32.ofNat o)), .val (.int (Int32.ofNat len)), .val .null, .unset] [.int z])) := c4.trans (st5 _ (Steps.refl _))
  have c7 : Steps p.tables e below (s₁.setTop (entryFrame m #[.ref a, .ref b, .int (Int32.ofNat o), .int (Int32.ofNat len), .null] 6)) (T5.setTop (mkF m 36 #[.val (.ref a), .val (.ref b), .val (.int (Int32.ofNat o)), .val (.int (Int32.ofNat len)), .val .null, .unset] [.int (Int32.ofNat len), .int (Int32.ofNat o), .ref b])) := c6.trans (by
    refine XS.ifNo X5.here hexec rfl (hb hbytes d30) rfl (i0_eq_f hz) ?_
    refine XS.aloadN X5.here hexec rfl (hb hbytes d33) rfl rfl ?_
    refine XS.iloadN X5.here hexec rfl (hb hbytes d34) rfl ?_
    refine XS.iloadN X5.here hexec rfl (hb hbytes d35) rfl ?_
    exact Steps.refl _)
  obtain ⟨v8, T8, X8, E8, g8⟩ := X5.callS hexec (Cmp3.law l b A o len) hown (wks W (staticW "java/lang/String" 177 Cmp3.yN)) (wk W Cmp3.tab) (W := 0) (Nat.le_of_ble_eq_true rfl) (Nat.le_of_ble_eq_true rfl) (Nat.le_refl _) (by show 0 + len ≤ len; omega) (g := (mkF m 36 #[.val (.ref a), .val (.ref b), .val (.int (Int32.ofNat o)), .val (.int (Int32.ofNat len)), .val .null, .unset] [.int (Int32.ofNat len), .int (Int32.ofNat o), .ref b])) rfl (by rw [hml]; rfl) c7 (argsL := [.ref b, .int (Int32.ofNat o), .int (Int32.ofNat len)]) (rest := []) rfl rfl (by show 2 * 0 + 0 ≤ _; decide) (hb hbytes d36) (⟨rfl, hA.mv X5.warmed.alike hh5, l1, l2, hp⟩)
  obtain ⟨e8, z8⟩ := E8
  obtain ⟨rfl, N, n1, n2, n3, n4, n5, n6⟩ := NewArr.mv _ T5 s _ _ hh5.symm (Vm.Alike.refl _) rfl e8
  rw [hh5] at z8
  have hB1 := hB.keep X8.warmed.alike (n6 _ _ hB.1)
  have hne : s.heap.size ≠ a := (Nat.ne_of_lt (Array.getElem?_eq_some_iff.mp hB.1).1).symm
  have c9 : Steps p.tables e below (s₁.setTop (entryFrame m #[.ref a, .ref b, .int (Int32.ofNat o), .int (Int32.ofNat len), .null] 6)) (T8.setTop (mkF m 39 #[.val (.ref a), .val (.ref b), .val (.int (Int32.ofNat o)), .val (.int (Int32.ofNat len)), .val .null, .unset] [.ref s.heap.size])) := g8
  have c10 : Steps p.tables e below (s₁.setTop (entryFrame m #[.ref a, .ref b, .int (Int32.ofNat o), .int (Int32.ofNat len), .null] 6)) (T8.setTop (mkF m 45 #[.val (.ref a), .val (.ref b), .val (.int (Int32.ofNat o)), .val (.int (Int32.ofNat len)), .val .null, .val (.ref s.heap.size)] [.int (Int32.ofNat N.slots.size), .ref s.heap.size, .ref a])) := by
    have hc : Steps p.tables e below (s₁.setTop (entryFrame m #[.ref a, .ref b, .int (Int32.ofNat o), .int (Int32.ofNat len), .null] 6)) (T8.setTop (mkF m 45 #[.val (.ref a), .val (.ref b), .val (.int (Int32.ofNat o)), .val (.int (Int32.ofNat len)), .val .null, .val (.ref s.heap.size)] [.int (Int32.ofNat len), .ref s.heap.size, .ref a])) := c9.trans (by
      refine XS.astore X8.here hexec rfl (hb hbytes d39) rfl rfl rfl ?_
      refine XS.aloadN X8.here hexec rfl (hb hbytes d41) rfl rfl ?_
      refine XS.aload X8.here hexec rfl (hb hbytes d42) rfl rfl ?_
      refine XS.iloadN X8.here hexec rfl (hb hbytes d44) rfl ?_
      exact Steps.refl _)
    rw [n4]; exact hc
  obtain ⟨v11, T11, X11, E11, g11⟩ := X8.callS hexec (CodL.law l s.heap.size N) hown (wks W (staticW "java/lang/String" 47 CodL.yN)) (wk W CodL.tab) (W := 1) (Nat.le_of_ble_eq_true rfl) (Nat.le_of_ble_eq_true rfl) (Nat.le_refl _) (by show 0 + len + 0 ≤ len; omega) (g := (mkF m 45 #[.val (.ref a), .val (.ref b), .val (.int (Int32.ofNat o)), .val (.int (Int32.ofNat len)), .val .null, .val (.ref s.heap.size)] [.int (Int32.ofNat N.slots.size), .ref s.heap.size, .ref a])) rfl (by rw [hml]; rfl) c10 (argsL := [.ref s.heap.size, .int (Int32.ofNat N.slots.size)]) (rest := [.ref a]) rfl rfl (by show 2 * 0 + (1 + 0) ≤ _; decide) (hb hbytes d45) (⟨rfl, n1⟩)
  obtain ⟨rfl, q11⟩ := E11
  have hB11 := hB1.mv (X8.warmed.alike.symm.trans X11.warmed.alike) q11
  have c12 : Steps p.tables e below (s₁.setTop (entryFrame m #[.ref a, .ref b, .int (Int32.ofNat o), .int (Int32.ofNat len), .null] 6)) (T11.setTop (mkF m 48 #[.val (.ref a), .val (.ref b), .val (.int (Int32.ofNat o)), .val (.int (Int32.ofNat len)), .val .null, .val (.ref s.heap.size)] [.int 0, .ref a])) := g11
  obtain ⟨T13, X13, p13, bl13, sl13, st13⟩ := X11.finit hexec hown (wk W (.fieldLink "java/lang/String" 15 "java/lang/String" "coder" "B")) (Or.inr ⟨_, (wk W (.laysFinal "java/lang/String" "java/lang/String" "coder" "B"))⟩) (Or.inl ⟨rfl, hnm⟩) f2 (Or.inl rfl) hB11 (t := .byte) (by decide +kernel) rfl (g := (mkF m 48 #[.val (.ref a), .val (.ref b), .val (.int (Int32.ofNat o)), .val (.int (Int32.ofNat len)), .val .null, .val (.ref s.heap.size)] [.int 0, .ref a])) rfl (rest := []) rfl (hb hbytes d48)
  have c14 : Steps p.tables e below (s₁.setTop (entryFrame m #[.ref a, .ref b, .int (Int32.ofNat o), .int (Int32.ofNat len), .null] 6)) (T13.setTop (mkF m 54 #[.val (.ref a), .val (.ref b), .val (.int (Int32.ofNat o)), .val (.int (Int32.ofNat len)), .val .null, .val (.ref s.heap.size)] [.ref s.heap.size, .ref a])) := (c12.trans (st13 _ (Steps.refl _))).trans (by
    refine XS.aloadN X13.here hexec rfl (hb hbytes d51) rfl rfl ?_
    refine XS.aload X13.here hexec rfl (hb hbytes d52) rfl rfl ?_
    exact Steps.refl _)
  obtain ⟨T15, X15, p15, bl15, sl15, st15⟩ := X13.finit hexec hown (wk W (.fieldLink "java/lang/String" 9 "java/lang/String" "value" "[B")) (Or.inr ⟨_, (wk W (.laysFinal "java/lang/String" "java/lang/String" "value" "[B"))⟩) (Or.inl ⟨rfl, hnm⟩) f1 (Or.inl rfl) bl13 (t := (.array .byte)) (by decide +kernel) rfl (g := (mkF m 54 #[.val (.ref a), .val (.ref b), .val (.int (Int32.ofNat o)), .val (.int (Int32.ofNat len)), .val .null, .val (.ref s.heap.size)] [.ref s.heap.size, .ref a])) rfl (rest := []) rfl (hb hbytes d54)
  have c16 : Steps p.tables e below (s₁.setTop (entryFrame m #[.ref a, .ref b, .int (Int32.ofNat o), .int (Int32.ofNat len), .null] 6)) (T15.setTop (mkF m 57 #[.val (.ref a), .val (.ref b), .val (.int (Int32.ofNat o)), .val (.int (Int32.ofNat len)), .val .null, .val (.ref s.heap.size)] [])) := c14.trans (st15 _ (Steps.refl _))
  have ap := apart (Or.inr ⟨_, (wk W (.laysFinal "java/lang/String" "java/lang/String" "value" "[B"))⟩) (Or.inr ⟨_, (wk W (.laysFinal "java/lang/String" "java/lang/String" "coder" "B"))⟩) f1 f2 (t₁ := .array .byte) (t₂ := .byte) (by decide +kernel) (by decide +kernel) (by decide)
  have al := X8.warmed.alike.symm.trans X15.warmed.alike
  have n7 : T11.heap[s.heap.size]? = some N := by rw [q11]; exact n1.1
  exact ⟨T15, none, _, _, _, X15, by simp, rfl, by omega, (fun _ => rfl), ⟨rfl, _, N, bl15, ((Same.refl D _).set _ (by simp)).set _ (by simp), sl15, (Cell.slots_setSlot_ne _ ap).trans sl13, n1.keep al (p15.other hne (p13.other hne n7)), n2, by rw [al.findClass]; exact n3, n4, n5, fun y c h1 h2 => p15.other h1 (p13.other h1 (by rw [q11]; exact n6 y c h2)), by rw [p15.2.2, p13.2.2, q11]; exact z8⟩, fun fs hl => c16.trans (X15.returnOut hexec hret (hb hbytes d57) hl)⟩
end New4
namespace New1
def yN : MethodName := ⟨"java/lang/String", "<init>", "([C)V"⟩
abbrev yB : ByteArray := jdk_42_method_3_code
theorem d0 : decode yB 0 = .ok (.aload_n 0, 1) := by decide +kernel
theorem d1 : decode yB 1 = .ok (.aload_n 1, 1) := by decide +kernel
theorem d2 : decode yB 2 = .ok (.iconst 0, 1) := by decide +kernel
theorem d3 : decode yB 3 = .ok (.aload_n 1, 1) := by decide +kernel
theorem d4 : decode yB 4 = .ok (.arraylength, 1) := by decide +kernel
theorem d5 : decode yB 5 = .ok (.aconst_null, 1) := by decide +kernel
theorem d6 : decode yB 6 = .ok (.invokespecial 27, 3) := by decide +kernel
theorem d9 : decode yB 9 = .ok (.return_, 1) := by decide +kernel
def site : List Cond := [New4.tab] ++ initW "java/lang/String" 27 New4.yN
def tab : Cond := tabOf yN yB 2 none site
def P (a : Addr) (D : Cell) (fV fC : Field) (b : Addr) (A : Cell) (z : Int32) (args : Array Value) (s : State) : Prop := args = #[.ref a, .ref b] ∧ Blank "java/lang/String" a D s ∧ Found "java/lang/String" "value" "[B" fV s ∧ Found "java/lang/String" "coder" "B" fC s ∧ Ch b A s ∧ StaticIs s "java/lang/String" "COMPACT_STRINGS" "Z" (.int z) ∧ ¬ z = 0 ∧ 0 < A.slots.size ∧ A.slots.size ≤ 536870912 ∧ ∀ i, i < A.slots.size → ¬ 255 < cv A i
def E (a : Addr) (D : Cell) (fV fC : Field) (A : Cell) (r : Option Value) (s u : State) : Prop := Got a D fV fC A 0 A.slots.size r s u
/-- new String(chars), not empty, no char above 255: a Latin-1 String of their low bytes -/
theorem law (l : Launch) (a : Addr) (D : Cell) (fV fC : Field) (b : Addr) (A : Cell) (z : Int32) : Law l yN 2 1 3 52 yB 2 none site (P a D fV fC b A z) (E a D fV fC A) [⟨a, fC.slot⟩, ⟨a, fV.slot⟩] 1 A.slots.size := by
  refine Law.of_walk (plainFor_of_name (by decide +kernel)) (by decide +kernel) (by decide +kernel) (by decide) (fun _ _ h => by rw [h.1]; rfl) (fun _ U U' hal hh h => ⟨h.1, h.2.1.mv hal hh, h.2.2.1.al hal, h.2.2.2.1.al hal, h.2.2.2.2.1.mv hal hh, h.2.2.2.2.2.1.there hal hh, h.2.2.2.2.2.2⟩) (fun r U U' V V' h1 hal h2 h => Got.mv r U U' V V' h1 hal h2 h) ?_
  intro p e s m args below meth c s₁ X0 hexec hbytes hml hret hlk hnm hown hh0 W hP
  obtain ⟨rfl, hB, f1, f2, hA, s1, hz, l0, l2, hp⟩ := hP
  have c1 : Steps p.tables e below (s₁.setTop (entryFrame m #[.ref a, .ref b] 2)) (s₁.setTop (mkF m 0 #[.val (.ref a), .val (.ref b)] [])) := entry rfl
  have c2 : Steps p.tables e below (s₁.setTop (entryFrame m #[.ref a, .ref b] 2)) (s₁.setTop (mkF m 6 #[.val (.ref a), .val (.ref b)] [.null, .int (Int32.ofNat A.slots.size), .int 0, .ref b, .ref a])) := c1.trans (by
    refine XS.aloadN X0.here hexec rfl (hb hbytes d0) rfl rfl ?_
    refine XS.aloadN X0.here hexec rfl (hb hbytes d1) rfl rfl ?_
    refine iconstV X0.here hexec rfl 0 (hb hbytes d2) (by decide) ?_
    refine XS.aloadN X0.here hexec rfl (hb hbytes d3) rfl rfl ?_
    refine X0.alen hexec (hA.1.mv X0.warmed.alike hh0) rfl rfl (hb hbytes d4) ?_
    refine XS.aconstNull X0.here hexec rfl (hb hbytes d5) ?_
    exact Steps.refl _)
  obtain ⟨v3, T3, X3, E3, g3⟩ := X0.callN hexec (New4.law l a D fV fC b A z 0 A.slots.size) rfl hown (wks W (initW "java/lang/String" 27 New4.yN)) (W New4.tab (by simp only [site, List.mem_cons, List.mem_append, true_or, or_true])) (W := 0) (Nat.le_of_ble_eq_true rfl) (Nat.le_of_ble_eq_true rfl) (Nat.le_refl _) (by show 0 + A.slots.size ≤ A.slots.size; omega) (g := (mkF m 6 #[.val (.ref a), .val (.ref b)] [.null, .int (Int32.ofNat A.slots.size), .int (Int32.ofNat 0), .ref b, .ref a])) rfl (by rw [hml]; rfl) c2 (argsL := [.ref b, .int (Int32.ofNat 0), .int (Int32.ofNat A.slots.size), .null]) (rest := []) rfl rfl (by show 2 * 0 + 0 ≤ _; decide) (hb hbytes d6) (⟨rfl, hB.mv X0.warmed.alike hh0, f1.al X0.warmed.alike, f2.al X0.warmed.alike, hA.mv X0.warmed.alike hh0, s1.there X0.warmed.alike hh0, hz, l0, by omega, l2, fun i hi => by rw [Nat.zero_add]; exact hp i hi⟩)
  have e0 := Got.mv _ s₁ s _ _ hh0.symm (Vm.Alike.refl _) rfl E3
  obtain rfl := e0.1
  have c4 : Steps p.tables e below (s₁.setTop (entryFrame m #[.ref a, .ref b] 2)) (T3.setTop (mkF m 9 #[.val (.ref a), .val (.ref b)] [])) := g3
  exact ⟨T3, none, _, _, _, X3, by simp, rfl, by omega, (fun _ => rfl), e0, fun fs hl => c4.trans (X3.returnOut hexec hret (hb hbytes d9) hl)⟩
theorem pays {l : Launch} {R : Room} {p : Program} {e : Env} {below : List Frame} {s : State} {sargs : Array Value} {len W : Nat} (a : Addr) (D : Cell) (fV fC : Field) (b : Addr) (A : Cell) (z : Int32) (htab : tab.before sargs s = true) (hfr : 4 ≤ R.frames) (hlo : W + 65 ≤ R.locals) :
    Back l R p e below s sargs yN len W (fun A₁ a₁ => A₁.cells + 1 ≤ R.cells ∧ A₁.slots + A.slots.size ≤ R.slots ∧ P a D fV fC b A z a₁ A₁.U) (fun A₁ _ v₁ B₁ => E a D fV fC A v₁ A₁.U B₁.U ∧ B₁.locs = A₁.locs ++ [⟨a, fC.slot⟩, ⟨a, fV.slot⟩] ∧ B₁.cells = A₁.cells + 1 ∧ B₁.slots = A₁.slots + A.slots.size) :=
  (law l a D fV fC b A z).pays htab hfr (by omega)
end New1
/-- the byte, read back as charAt reads it, is the char -/
theorem lo8_mask {x : Int32} (h0 : ¬ x < 0) (h1 : ¬ 255 < x) : lo8 x &&& 255 = x := by
  have t : ∀ k : Fin 256, lo8 (Int32.ofNat k.val) &&& 255 = Int32.ofNat k.val := by decide +kernel
  rw [Int32.lt_iff_toInt_lt] at h0 h1
  have e0 : (0 : Int32).toInt = 0 := rfl
  have e1 : (255 : Int32).toInt = 255 := rfl
  obtain ⟨k, hk⟩ : ∃ k : Nat, x.toInt = k := ⟨x.toInt.toNat, by omega⟩
  have hx : x = Int32.ofNat k := Int32.toInt_inj.mp (by rw [hk, Int32.toInt_ofNat_small (by omega)])
  rw [hx]
  exact t ⟨k, by omega⟩
end StrChars
namespace StrChars.Road
open Jvm Sem ClassFile Op Lib Jvm.Stand Jvm.Free Jvm.Free.XT
open Jvm.Lib.Cold (StaticIs)
abbrev ST : String := "java/lang/String"
/-- every table word that New1's law asks, flat -/
abbrev words : List Jvm.Cond := [.code New1.yN New1.yB 2 none, .initialized ST, .methodLink ST 27 New4.yN, .instanceMethod New4.yN,
  .code New4.yN New4.yB 6 none, .fieldLink ST 38 ST "COMPACT_STRINGS" "Z", .laysFinal ST ST "value" "[B", .fieldLink ST 9 ST "value" "[B", .laysFinal ST ST "coder" "B", .fieldLink ST 15 ST "coder" "B",
  .methodLink ST 1 Lib.objectInit, .instanceMethod Lib.objectInit, .code Lib.objectInit ⟨#[0xb1]⟩ 1 none, .methodLink ST 177 Cmp3.yN, .static Cmp3.yN, .methodLink ST 47 CodL.yN, .static CodL.yN,
  .code Cmp3.yN Cmp3.yB 6 (some (.array .byte)), .initialized U16, .arrayClass .byte, .methodLink U16 115 Cmp5.yN, .static Cmp5.yN, .code Cmp5.yN Cmp5.yB 7 (some .int), .code CodL.yN CodL.yB 2 (some .byte)]
theorem tab_of {a : Array Value} {s : State} (h : ∀ w ∈ words, w.before a s = true) : New1.tab.before a s = true := by
  have h5 : Cmp5.tab.before a s = true := unparts (wk h (.code Cmp5.yN Cmp5.yB 7 (some .int))) (wks h (.initialized Cmp5.yN.cls :: Cmp5.site))
  have hc : CodL.tab.before a s = true := unparts (wk h (.code CodL.yN CodL.yB 2 (some .byte))) (wks h (.initialized CodL.yN.cls :: CodL.site))
  have q5 : ∀ w ∈ Cmp5.tab :: words, w.before a s = true := fun w hw => (List.mem_cons.mp hw).elim (fun e => e ▸ h5) (h w)
  have h3 : Cmp3.tab.before a s = true := unparts (wk q5 (.code Cmp3.yN Cmp3.yB 6 (some (.array .byte)))) (wks q5 (.initialized Cmp3.yN.cls :: Cmp3.site))
  have q3 : ∀ w ∈ Cmp3.tab :: CodL.tab :: words, w.before a s = true := fun w hw => (List.mem_cons.mp hw).elim (fun e => e ▸ h3) fun hw => (List.mem_cons.mp hw).elim (fun e => e ▸ hc) (h w)
  have h4 : New4.tab.before a s = true := unparts (wk q3 (.code New4.yN New4.yB 6 none)) (wks q3 (.initialized New4.yN.cls :: New4.site))
  have q4 : ∀ w ∈ New4.tab :: words, w.before a s = true := fun w hw => (List.mem_cons.mp hw).elim (fun e => e ▸ h4) (h w)
  exact unparts (wk q4 (.code New1.yN New1.yB 2 none)) (wks q4 (.initialized New1.yN.cls :: New1.site))
/-- the words ride from the start Z to the walk's own state -/
theorem moved {Z s : State} {a0 args : Array Value} (hZ : Z.Warmed39 s.vm) (hw : ∀ d ∈ words, d.before a0 Z = true) : ∀ d ∈ words, d.before args s = true := fun d hd => by
  have q := hw d hd
  have t : ∀ d ∈ words, d = .arrayClass .byte ∨ (d.onTables && d.keepsFace) = true := by decide +kernel
  rcases t d hd with rfl | t
  · exact RoadKit.mvA hZ q
  · exact RoadKit.mv hZ q t
/-- WHAT COMES BACK, over the tables of the start Z: h the heap at the call, h' behind it -/
def Q (Z : State) (x : Addr) (A : Cell) (h : Heap) (v : Option Value) (h' : Heap) (L : List Loc) : Prop := v = none ∧ (∀ y ∈ L, y.base = x) ∧ RoadKit.Keep h h' [x] ∧ h'.size = h.size + 1 ∧ RoadKit.Exa Z h' x ST ∧ RoadKit.Fld Z h' x ST "value" "[B" (.ref h.size) ∧ RoadKit.Fld Z h' x ST "coder" "B" (.int 0) ∧
  (∃ V : Cell, RoadKit.Arr Z h' h.size V .byte ∧ V.vm = .none ∧ Z.vm.findClass "[B" = some V.cls ∧ V.slots.size = A.slots.size ∧ ∀ j, j < A.slots.size → V.slots[j]? = some (.int (lo8 (cv A j)))) ∧
  ∀ (O n d : String) (w : Value), RoadKit.Fld Z h x O n d w → RoadKit.slotOf Z O n d ≠ RoadKit.slotOf Z ST "value" "[B" → RoadKit.slotOf Z O n d ≠ RoadKit.slotOf Z ST "coder" "B" → RoadKit.Fld Z h' x O n d w
/-- **new String(chars) AT A CALL, IN THE ROAD'S FORM**: for specialBack behind newO: x the fresh String, b the char[] with the cell A -/
theorem back {p : Program} {l : Launch} {e : Env} {R : Room} {s : State} {args : Array Value} {below : List Frame} {len W : Nat} {Z : State} {a0 : Array Value} {h : Heap} (hZ : Z.Warmed39 s.vm) (hw : ∀ d ∈ words, d.before a0 Z = true) {kI : Nat} (wi : (Jvm.Cond.instantiable ST kI).before a0 Z = true)
    {x b : Addr} {A : Cell} {z : Int32} {v0 c0 : Value} (E : RoadKit.Exa Z h x ST) (V : RoadKit.Fld Z h x ST "value" "[B" v0) (C : RoadKit.Fld Z h x ST "coder" "B" c0) (K : RoadKit.Arr Z h b A .char) (hty : Typed .char A) (S : RoadKit.Sta Z h ST "COMPACT_STRINGS" "Z" (.int z)) (hz : ¬ z = 0)
    (l0 : 0 < A.slots.size) (l2 : A.slots.size ≤ 536870912) (hp : ∀ i, i < A.slots.size → ¬ 255 < cv A i) (hfr : 4 ≤ R.frames) (hlo : W + 65 ≤ R.locals) :
    Back l R p e below s args New1.yN len W (fun P a => a = #[.ref x, .ref b] ∧ P.U.heap = h ∧ P.cells + 1 ≤ R.cells ∧ P.slots + A.slots.size ≤ R.slots)
      (fun P _ v B => ∃ L, Q Z x A h v B.U.heap L ∧ B.locs = P.locs ++ L ∧ B.cells = P.cells + 1 ∧ B.slots = P.slots + A.slots.size) := by
  intro m meth c P g ig mk a X hg hsize hdg hW hn hp'
  obtain ⟨rfl, rfl, r1, r2⟩ := hp'
  have al : Z.vm.Alike P.U.vm := hZ.alike.trans X.warmed.alike
  obtain ⟨D, cfV, kV, iV, fV, hD, gV, stV, knV, obV, asV, slV⟩ := id V
  obtain ⟨D', cfC, kC, iC, fC, hD', gC, stC, -, -, asC, slC⟩ := id C
  cases hD.symm.trans hD'
  obtain ⟨D2, kD, e1, e2, e3, e4, e5⟩ := id E
  cases hD.symm.trans e1
  obtain ⟨c2, k2, i1, i2, i3, -⟩ := Cond.instantiable_spec wi
  cases e2.symm.trans i1
  cases e3.symm.trans i2
  obtain ⟨kU, u1, u2⟩ := al.2.2 _ _ e3
  have hB : Blank ST x D P.U := ⟨hD, ⟨knV, fun q hq => by rw [hq] at obV; cases obV⟩, by rw [al.findClass]; exact e2, kU, u1, by rw [u2]; exact i3, by rw [u2]; exact e5 i3⟩
  have F1 : Found ST "value" "[B" fV P.U := ⟨SBG.found_only al ⟨cfV, kV, iV, gV⟩, stV⟩
  have F2 : Found ST "coder" "B" fC P.U := ⟨SBG.found_only al ⟨cfC, kC, iC, gC⟩, stC⟩
  have hA : Ch b A P.U := ⟨⟨K.1, State.isArrayOf_alike al K.2.1, K.2.2, by omega⟩, hty⟩
  have hS : StaticIs P.U ST "COMPACT_STRINGS" "Z" (.int z) := by
    obtain ⟨cfS, iS, kS, fS, st, cS, t1, t2, t3, t4, t5, t6, t7⟩ := S
    exact StaticIs.there (s := { Z with heap := P.U.heap }) ⟨cfS, iS, kS, fS, st, cS, t1, t2, t3, t4, t5, (fun q => by rw [q] at t6; cases t6), t7⟩ al rfl
  obtain ⟨v, B, X', ⟨⟨hv, E', V', q1, q2, q3, q4, q5, q6, q7, q8, q9, q10, q11⟩, hl, hc, hs⟩, st⟩ := New1.pays x D fV fC b A z (tab_of (moved hZ hw)) hfr hlo m meth c P g ig mk _ X hg hsize hdg hW hn ⟨r1, r2, rfl, hB, F1, F2, hA, hS, hz, l0, l2, hp⟩
  have al' : Z.vm.Alike B.U.vm := hZ.alike.trans X'.warmed.alike
  have hsz : E'.slots.size = D.slots.size := by
    obtain ⟨-, -, -, kB, w1, w2, w3⟩ := q1
    obtain ⟨kB', y1, y2⟩ := al'.2.2 _ _ e3
    rw [q2.2.1] at w1
    cases w1.symm.trans y1
    rw [w3, e5 i3, y2]
  refine ⟨v, B, X', ⟨_, ⟨hv, ?_, ⟨by omega, fun y cy hy hn' => q10 y cy (by simpa using hn') hy, fun y cy hy => ?_⟩, q11, ⟨E', _, q1.1, by rw [q2.2.1]; exact e2, by rw [q2.2.1]; exact e3, by rw [q2.1]; exact obV, fun _ => by rw [hsz]; exact e5 i3⟩,
    ⟨E', cfV, kV, iV, fV, q1.1, gV, stV, by rw [q2.1]; exact knV, by rw [q2.1]; exact obV, by rw [q2.2.1]; exact asV, q3⟩, ⟨E', cfC, kC, iC, fC, q1.1, gC, stC, by rw [q2.1]; exact knV, by rw [q2.1]; exact obV, by rw [q2.2.1]; exact asC, q4⟩,
    ⟨V', ⟨q5.1, State.isArrayOf_alike al'.symm q5.2.1, q5.2.2.1⟩, q6, by rw [← al'.findClass]; exact q7, q8, fun j hj => by have := q9 j hj; rwa [Nat.zero_add] at this⟩, fun O n d w F n1 n2 => ?_⟩, hl, hc, hs⟩, st⟩
  · intro y hy
    simp only [List.mem_cons, List.not_mem_nil, or_false] at hy
    rcases hy with rfl | rfl <;> rfl
  · by_cases q : y = x
    · subst q
      cases hD.symm.trans hy
      exact ⟨E', q1.1, q2.2.1, q2.1, hsz⟩
    · exact ⟨cy, q10 y cy q hy, rfl, rfl, rfl⟩
  · obtain ⟨D3, cf, k, i, f, g1, g2, g3, g4, g5, g6, g7⟩ := F
    cases hD.symm.trans g1
    simp only [RoadKit.slotOf, g2, gV, gC, Option.map_some, Option.getD_some] at n1 n2
    exact ⟨E', cf, k, i, f, q1.1, g2, g3, by rw [q2.1]; exact g4, by rw [q2.1]; exact g5, by rw [q2.2.1]; exact g6, by rw [q2.2.2 f.slot (by simp [n1, n2])]; exact g7⟩
end StrChars.Road
namespace StrChars.Road
open Jvm Sem ClassFile Op Lib Jvm.Stand Jvm.Free Jvm.Free.XT
/-- WHAT COMES BACK, the byte[] as a list of values -/
def QA (Z : State) (x : Addr) (zn : Int32) (cs : List Int32) (h : Heap) (v : Option Value) (h' : Heap) (L : List Loc) : Prop := v = none ∧ (∀ y ∈ L, y.base = x) ∧ RoadKit.Keep h h' [x] ∧ h'.size = h.size + 1 ∧ RoadKit.Exa Z h' x ST ∧ RoadKit.Fld Z h' x ST "value" "[B" (.ref h.size) ∧ RoadKit.Fld Z h' x ST "coder" "B" (.int 0) ∧
  (∃ kb, Z.vm.findClass "[B" = some kb ∧ RoadKit.Arv Z h' h.size kb .byte zn (cs.map fun c => .int (lo8 c)) (.int 0)) ∧
  ∀ (O n d : String) (w : Value), RoadKit.Fld Z h x O n d w → RoadKit.slotOf Z O n d ≠ RoadKit.slotOf Z ST "value" "[B" → RoadKit.slotOf Z O n d ≠ RoadKit.slotOf Z ST "coder" "B" → RoadKit.Fld Z h' x O n d w
/-- **new String(chars) AT A CALL, THE ARRAYS AS LISTS**: the char[] at b holds cs, not empty, no char above 255 -/
theorem backArv {p : Program} {l : Launch} {e : Env} {R : Room} {s : State} {args : Array Value} {below : List Frame} {len W : Nat} {Z : State} {a0 : Array Value} {h : Heap} (hZ : Z.Warmed39 s.vm) (hw : ∀ d ∈ words, d.before a0 Z = true) {kI : Nat} (wi : (Jvm.Cond.instantiable ST kI).before a0 Z = true)
    {x b : Addr} {k : ClassId} {zn z : Int32} {cs : List Int32} {dv v0 c0 : Value} (E : RoadKit.Exa Z h x ST) (V : RoadKit.Fld Z h x ST "value" "[B" v0) (C : RoadKit.Fld Z h x ST "coder" "B" c0) (K : RoadKit.Arv Z h b k .char zn (cs.map Value.int) dv) (S : RoadKit.Sta Z h ST "COMPACT_STRINGS" "Z" (.int z)) (hz : ¬ z = 0)
    (hlen : zn.toNatClampNeg = cs.length) (h0 : 0 < cs.length) (hbig : cs.length ≤ 536870912) (hall : ∀ c ∈ cs, ¬ 255 < c) (hfr : 4 ≤ R.frames) (hlo : W + 65 ≤ R.locals) :
    Back l R p e below s args New1.yN len W (fun P a => a = #[.ref x, .ref b] ∧ P.U.heap = h ∧ P.cells + 1 ≤ R.cells ∧ P.slots + cs.length ≤ R.slots)
      (fun P _ v B => ∃ L, QA Z x zn cs h v B.U.heap L ∧ B.locs = P.locs ++ L ∧ B.cells = P.cells + 1 ∧ B.slots = P.slots + cs.length) := by
  obtain ⟨A, K1, K2, K3, K4, K5, K6⟩ := K
  have e : A.slots.size = cs.length := K3.trans hlen
  have hat : ∀ (i : Nat) (hi : i < cs.length), A.slots[i]? = some (.int cs[i]) := fun i hi => by rw [K5 i (by omega)]; simp [List.getD_eq_getElem?_getD, hi]
  have hcv : ∀ (i : Nat) (hi : i < cs.length), cv A i = cs[i] := fun i hi => by unfold cv; rw [hat i hi]
  have hty : Typed .char A := fun i v hv => by
    have hi : i < A.slots.size := (Array.getElem?_eq_some_iff.mp hv).1
    have q := K5 i hi
    rw [hv] at q
    rw [Option.some.inj q]
    exact K6 i hi
  refine Back.mono (back hZ hw wi E V C K1 hty S hz (by omega) (by omega) (fun i hi => by rw [hcv i (by omega)]; exact hall _ (List.getElem_mem _)) hfr hlo) (fun P a hp => ⟨hp.1, hp.2.1, hp.2.2.1, by rw [e]; exact hp.2.2.2⟩) (fun P a v B hp hq => ?_)
  obtain ⟨L, ⟨q1, q2, q3, q4, q5, q6, q7, ⟨V', v1, v2, v3, v4, v5⟩, q9⟩, hl, hc, hs⟩ := hq
  refine ⟨L, ⟨q1, q2, q3, q4, q5, q6, q7, ⟨V'.cls, v3, V', v1, rfl, by rw [v4, e, hlen], K4, fun i hi => ?_, fun i hi => ?_⟩, q9⟩, hl, hc, by rw [hs, e]⟩
  · have hi' : i < cs.length := by omega
    rw [v5 i (by omega), hcv i hi']; simp [List.getD_eq_getElem?_getD, hi']
  · have hi' : i < cs.length := by omega
    simp only [List.getD_eq_getElem?_getD, List.getElem?_map, List.getElem?_eq_getElem hi', Option.map_some, Option.getD_some]
    exact fits_lo8 _
end StrChars.Road
namespace StrChars.Road
open Jvm Sem ClassFile Op Lib Jvm.Stand Jvm.Free Jvm.Free.XT
/-- WHAT COMES BACK, in the writer's own shape -/
def QV (Z : State) (x : Addr) (N : Int32) (bs : List Int32) (h : Heap) (n0 : Nat) (v : Option Value) (h' : Heap) (L : List Loc) : Prop := v = none ∧ RoadKit.Fr n0 L ∧ RoadKit.Keep h h' [x] ∧ RoadKit.Exa Z h' x ST ∧ RoadKit.Fld Z h' x ST "coder" "B" (.int 0) ∧
  ∃ (t : Addr) (kb : ClassId), n0 ≤ t ∧ h.size ≤ t ∧ ¬ t = x ∧ RoadKit.Fld Z h' x ST "value" "[B" (.ref t) ∧ RoadKit.Arv Z h' t kb .byte N (bs.map Value.int) (.int 0)
/-- **new String(chars) AT A CALL, FOR THE WRITER**: a char[] of n known ints, each 0 to 255 -/
theorem backV {p : Program} {l : Launch} {e : Env} {R : Room} {s : State} {args : Array Value} {below : List Frame} {len W : Nat} {Z : State} {a0 : Array Value} {h : Heap} (hZ : Z.Warmed39 s.vm) (hw : ∀ d ∈ words, d.before a0 Z = true) {kI : Nat} (wi : (Jvm.Cond.instantiable ST kI).before a0 Z = true)
    {x b : Addr} {kC : ClassId} {cs bs : List Int32} {d v0 c0 : Value} {z N : Int32} {n n0 : Nat} (hx0 : n0 ≤ x) (hh0 : n0 ≤ h.size) (E : RoadKit.Exa Z h x ST) (V : RoadKit.Fld Z h x ST "value" "[B" v0) (C : RoadKit.Fld Z h x ST "coder" "B" c0) (K : RoadKit.Arv Z h b kC .char N (cs.map Value.int) d) (S : RoadKit.Sta Z h ST "COMPACT_STRINGS" "Z" (.int z)) (hz : ¬ z = 0)
    (hn : cs.length = n) (hN : N = Int32.ofNat n) (l0 : 0 < n) (l2 : n ≤ 4000) (hp : ∀ c ∈ cs, ¬ c < 0 ∧ ¬ (255 : Int32) < c) (hb : bs = cs.map (fun c => c.toInt8.toInt32)) (hfr : 4 ≤ R.frames) (hlo : W + 65 ≤ R.locals) :
    Back l R p e below s args (⟨"java/lang/String", "<init>", "([C)V"⟩ : MethodName) len W (fun P a => a = #[.ref x, .ref b] ∧ P.U.heap = h ∧ P.cells + 1 ≤ R.cells ∧ P.slots + n ≤ R.slots)
      (fun P _ v B => ∃ L, QV Z x N bs h n0 v B.U.heap L ∧ B.locs = P.locs ++ L ∧ B.cells = P.cells + 1 ∧ B.slots = P.slots + n) := by
  subst hn hN hb
  refine Back.mono (backArv hZ hw wi E V C K S hz (n32 (by omega)) l0 (by omega) (fun c hc => (hp c hc).2) hfr hlo) (fun P a hp => hp) (fun P a v B hp hq => ?_)
  obtain ⟨L, ⟨q1, q2, q3, q4, q5, q6, q7, ⟨kb, v1, v2⟩, q9⟩, hl, hc, hs⟩ := hq
  exact ⟨L, ⟨q1, fun y hy => by rw [q2 y hy]; exact hx0, q3, q5, q7, h.size, kb, hh0, Nat.le_refl _, Nat.ne_of_gt E.lt, q6, by rw [List.map_map]; exact v2⟩, hl, hc, hs⟩
end StrChars.Road
namespace StrChars
open Jvm Sem ClassFile Op Lib Jvm.Stand Jvm.Free.XT Jvm.Free.ALB Jvm.Free.JM Jvm.Free
open Jvm.Lib.Cold (StaticIs)
def hi8 (x : Int32) : Int32 := lo8 (x >>> ((8 : Int32) &&& 31))
/-- what StringUTF16.getChar makes of two bytes -/
def pairCh (u v : Int32) : Int32 := (((u &&& 255) <<< ((0 : Int32) &&& 31)) ||| ((v &&& 255) <<< ((8 : Int32) &&& 31))).toUInt32.toUInt16.toUInt32.toInt32
theorem lo8_and (x : Int32) : (lo8 x &&& 255).toBitVec.toNat = x.toBitVec.toNat % 256 := by
  have h : (lo8 x).toBitVec = (x.toBitVec.signExtend 8).signExtend 32 := by rw [lo8, Int8.toBitVec_toInt32, Int32.toBitVec_toInt8]
  rw [Int32.toBitVec_and, BitVec.toNat_and, h]
  have e : ((x.toBitVec.signExtend 8).signExtend 32).toNat % 256 = x.toBitVec.toNat % 256 := by
    rw [BitVec.toNat_signExtend]
    have hlt := x.toBitVec.isLt
    simp only [BitVec.toNat_setWidth, BitVec.toNat_signExtend]
    split <;> split <;> omega
  rw [← e]
  exact Nat.and_two_pow_sub_one_eq_mod _ 8
theorem pair_says {c : Int32} (h0 : ¬ c < 0) (h1 : ¬ 65535 < c) : pairCh (lo8 c) (hi8 c) = c := by
  rw [Int32.lt_iff_toInt_lt] at h0 h1
  have e0 : (0 : Int32).toInt = 0 := rfl
  have e1 : (65535 : Int32).toInt = 65535 := rfl
  have hc : c.toInt = c.toBitVec.toNat := by
    have := c.toBitVec.isLt
    have e : c.toInt = c.toBitVec.toInt := rfl
    rw [e] at h0 h1
    rw [e]
    rw [BitVec.toInt_eq_toNat_cond] at h0 h1 ⊢
    split at h0 <;> split <;> omega
  have hn : c.toBitVec.toNat < 65536 := by omega
  have a1 := lo8_and c
  have a2 : (hi8 c &&& 255).toBitVec.toNat = c.toBitVec.toNat / 256 := by
    rw [hi8, lo8_and]
    have e : ((8 : Int32) &&& 31) = 8 := by decide
    rw [e, Int32.toBitVec_shiftRight]
    have e2 : ((8 : Int32).toBitVec.smod 32) = 8#32 := by decide
    rw [e2, BitVec.sshiftRight_eq', BitVec.toNat_sshiftRight_of_msb_false (by rw [BitVec.msb_eq_false_iff_two_mul_lt]; omega)]
    show c.toBitVec.toNat >>> 8 % 256 = _
    rw [Nat.shiftRight_eq_div_pow]
    omega
  unfold pairCh
  apply Int32.toBitVec_inj.mp
  apply BitVec.eq_of_toNat_eq
  have f0 : ((0 : Int32) &&& 31) = 0 := by decide
  have f8 : ((8 : Int32) &&& 31) = 8 := by decide
  rw [f0, f8]
  have g : (((lo8 c &&& 255) <<< (0 : Int32)) ||| ((hi8 c &&& 255) <<< (8 : Int32))).toBitVec.toNat = c.toBitVec.toNat := by
    rw [Int32.toBitVec_or, Int32.toBitVec_shiftLeft, Int32.toBitVec_shiftLeft]
    have s0 : ((0 : Int32).toBitVec.smod 32) = 0#32 := by decide
    have s8 : ((8 : Int32).toBitVec.smod 32) = 8#32 := by decide
    rw [s0, s8, BitVec.toNat_or]
    simp only [BitVec.shiftLeft_eq', BitVec.toNat_shiftLeft, a1, a2]
    show (c.toBitVec.toNat % 256) <<< 0 % 2 ^ 32 ||| (c.toBitVec.toNat / 256) <<< 8 % 2 ^ 32 = _
    rw [Nat.shiftLeft_zero, Nat.mod_eq_of_lt (show c.toBitVec.toNat % 256 < 2 ^ 32 by omega), Nat.mod_eq_of_lt (show (c.toBitVec.toNat / 256) <<< 8 < 2 ^ 32 by rw [Nat.shiftLeft_eq]; omega), Nat.or_comm, ← Nat.shiftLeft_add_eq_or_of_lt (by omega), Nat.shiftLeft_eq]
    omega
  show BitVec.toNat (((((lo8 c &&& 255) <<< (0 : Int32)) ||| ((hi8 c &&& 255) <<< (8 : Int32))).toBitVec.setWidth 16).setWidth 32) = _
  rw [BitVec.toNat_setWidth, BitVec.toNat_setWidth, g]
  omega
end StrChars
namespace StrChars
open Jvm Sem ClassFile Op Lib Jvm.Stand Jvm.Free.XT Jvm.Free.ALB Jvm.Free.JM Jvm.Free
open Jvm.Lib.Cold (StaticIs)
/-- the array's cell V codes the n chars f 0 .. f (n - 1) by the coder cd, as the JDK does: coder 1 just where some char is above 255 -/
def Cod (cd : Int32) (n : Nat) (f : Nat → Int32) (V : Cell) : Prop := (cd = 0 ∧ V.slots.size = n ∧ ∀ j, j < n → V.slots[j]? = some (.int (lo8 (f j))) ∧ ¬ 255 < f j) ∨ (cd = 1 ∧ V.slots.size = 2 * n ∧ (∀ j, j < n → V.slots[2 * j]? = some (.int (lo8 (f j))) ∧ V.slots[2 * j + 1]? = some (.int (hi8 (f j)))) ∧ ∃ j, j < n ∧ 255 < f j)
/-- **x is a String of the n chars f 0 .. f (n - 1)**, Latin-1 or UTF-16; its array at t has the cell V -/
def Txt (x t : Addr) (V : Cell) (cd : Int32) (n : Nat) (f : Nat → Int32) (U : State) : Prop := Exact "java/lang/String" x U ∧ Has x "java/lang/String" "value" "[B" (.ref t) U ∧ Has x "java/lang/String" "coder" "B" (.int cd) U ∧ XT.Arr .byte t V U ∧ Cod cd n f V ∧ ∀ j, j < n → ¬ f j < 0 ∧ ¬ 65535 < f j
theorem Txt.mv {x t : Addr} {V : Cell} {cd : Int32} {n : Nat} {f : Nat → Int32} {U U' : State} (h : Txt x t V cd n f U) (hal : U.vm.Alike U'.vm) (hh : U'.heap = U.heap) : Txt x t V cd n f U' := ⟨h.1.mv hal hh, h.2.1.mv hal hh, h.2.2.1.mv hal hh, h.2.2.2.1.mv hal hh, h.2.2.2.2⟩
end StrChars
namespace StrChars.Road
open Jvm Sem ClassFile Op Lib Jvm.Stand Jvm.Free Jvm.Free.XT
open Jvm.Lib.Cold (StaticIs)
theorem consq {a : Array Value} {s : State} {c : Jvm.Cond} {L : List Jvm.Cond} (h0 : c.before a s = true) (h : ∀ w ∈ L, w.before a s = true) : ∀ w ∈ c :: L, w.before a s = true := fun w hw => (List.mem_cons.mp hw).elim (fun e => e ▸ h0) (h w)
/-- the bytes of the chars cs, low before high -/
def wideBytes : List Int32 → List Value
  | [] => []
  | c :: cs => .int (lo8 c) :: .int (hi8 c) :: wideBytes cs
theorem wide_lo (d : Value) : ∀ (cs : List Int32) (j : Nat), j < cs.length → (wideBytes cs).getD (2 * j) d = .int (lo8 (cs.getD j 0))
  | [], j, h => absurd h (Nat.not_lt_zero j)
  | c :: cs, 0, _ => rfl
  | c :: cs, j + 1, h => by
    have q := wide_lo d cs j (by simpa using h)
    rw [show 2 * (j + 1) = 2 * j + 1 + 1 from by omega]
    simpa [wideBytes] using q
theorem wide_hi (d : Value) : ∀ (cs : List Int32) (j : Nat), j < cs.length → (wideBytes cs).getD (2 * j + 1) d = .int (hi8 (cs.getD j 0))
  | [], j, h => absurd h (Nat.not_lt_zero j)
  | c :: cs, 0, _ => rfl
  | c :: cs, j + 1, h => by
    have q := wide_hi d cs j (by simpa using h)
    rw [show 2 * (j + 1) + 1 = 2 * j + 1 + 1 + 1 from by omega]
    simpa [wideBytes] using q
theorem low_at (d : Value) (cs : List Int32) (j : Nat) (h : j < cs.length) : (cs.map fun c => Value.int (lo8 c)).getD j d = .int (lo8 (cs.getD j 0)) := by
  simp [List.getD_eq_getElem?_getD, h]
/-- an array of N2 bytes vs codes the chars cs by the coder cd -/
def CodA (cs : List Int32) (cd N2 : Int32) (vs : List Value) : Prop := (cd = 0 ∧ N2 = Int32.ofNat cs.length ∧ vs = (cs.map fun c => Value.int (lo8 c)) ∧ ∀ c ∈ cs, ¬ 255 < c) ∨ (cd = 1 ∧ N2 = Int32.ofNat (2 * cs.length) ∧ vs = wideBytes cs ∧ ∃ c ∈ cs, 255 < c)
theorem CodA.cod {cs : List Int32} {cd N2 : Int32} {vs : List Value} {V : Cell} (h : CodA cs cd N2 vs) (hn : 2 * cs.length < 2 ^ 31) (hs : V.slots.size = N2.toNatClampNeg) (hv : RoadKit.Has V vs (.int 0)) : Cod cd cs.length (fun j => cs.getD j 0) V := by
  rcases h with ⟨rfl, rfl, rfl, h⟩ | ⟨rfl, rfl, rfl, c, hc, hw⟩
  · rw [n32 (by omega)] at hs
    exact Or.inl ⟨rfl, hs, fun j hj => ⟨by rw [hv j (by omega), low_at _ _ _ hj], by
      have e : cs.getD j 0 = cs[j] := by simp [List.getD_eq_getElem?_getD, hj]
      show ¬ 255 < cs.getD j 0
      rw [e]; exact h _ (List.getElem_mem _)⟩⟩
  · rw [n32 (by omega)] at hs
    obtain ⟨j, hj, rfl⟩ := List.getElem_of_mem hc
    exact Or.inr ⟨rfl, hs, fun j hj => ⟨by rw [hv _ (by omega), wide_lo _ _ _ hj], by rw [hv _ (by omega), wide_hi _ _ _ hj]⟩, j, hj, by
      have e : cs.getD j 0 = cs[j] := by simp [List.getD_eq_getElem?_getD, hj]
      show 255 < cs.getD j 0
      rw [e]; exact hw⟩
/-- an object of exactly java/lang/String, its two fields found: as the laws ask it -/
theorem strObj {Z U : State} {a0 : Array Value} {kI : Nat} (wi : (Jvm.Cond.instantiable ST kI).before a0 Z = true) (al : Z.vm.Alike U.vm) {x : Addr} {v0 c0 : Value} (E : RoadKit.Exa Z U.heap x ST) (V : RoadKit.Fld Z U.heap x ST "value" "[B" v0) (C : RoadKit.Fld Z U.heap x ST "coder" "B" c0) :
    ∃ (D : Cell) (fV fC : Field), Blank ST x D U ∧ Found ST "value" "[B" fV U ∧ Found ST "coder" "B" fC U ∧ D.slots[fV.slot]? = some v0 ∧ D.slots[fC.slot]? = some c0 ∧ RoadKit.slotOf Z ST "value" "[B" = fV.slot ∧ RoadKit.slotOf Z ST "coder" "B" = fC.slot := by
  obtain ⟨D, cfV, kV, iV, fV, hD, gV, stV, knV, obV, asV, slV⟩ := V
  obtain ⟨D', cfC, kC, iC, fC, hD', gC, stC, -, -, asC, slC⟩ := C
  cases hD.symm.trans hD'
  obtain ⟨D2, kD, e1, e2, e3, e4, e5⟩ := E
  cases hD.symm.trans e1
  obtain ⟨c2, k2, i1, i2, i3, -⟩ := Cond.instantiable_spec wi
  cases e2.symm.trans i1
  cases e3.symm.trans i2
  obtain ⟨kU, u1, u2⟩ := al.2.2 _ _ e3
  exact ⟨D, fV, fC, ⟨hD, ⟨knV, fun q hq => by rw [hq] at obV; cases obV⟩, by rw [al.findClass]; exact e2, kU, u1, by rw [u2]; exact i3, by rw [u2]; exact e5 i3⟩, ⟨SBG.found_only al ⟨cfV, kV, iV, gV⟩, stV⟩, ⟨SBG.found_only al ⟨cfC, kC, iC, gC⟩, stC⟩, slV, slC, by simp [RoadKit.slotOf, gV], by simp [RoadKit.slotOf, gC]⟩
theorem sta_is {Z U : State} (al : Z.vm.Alike U.vm) {C n d : String} {v : Value} (S : RoadKit.Sta Z U.heap C n d v) : StaticIs U C n d v := by
  obtain ⟨cfS, iS, kS, fS, st, cS, t1, t2, t3, t4, t5, t6, t7⟩ := S
  exact StaticIs.there (s := { Z with heap := U.heap }) ⟨cfS, iS, kS, fS, st, cS, t1, t2, t3, t4, t5, (fun q => by rw [q] at t6; cases t6), t7⟩ al rfl
end StrChars.Road
namespace StrChars
open Jvm Sem ClassFile Op Lib Jvm.Stand Jvm.Free.XT Jvm.Free.ALB Jvm.Free.JM Jvm.Free
open Jvm.Lib.Cold (StaticIs)
/-- what place i of a byte[]'s cell holds -/
def yv (A : Cell) (i : Nat) : Int32 := match A.slots[i]? with | some (.int x) => x | _ => 0
theorem yv_get {a : Addr} {A : Cell} {U : State} (h : XT.Arr .byte a A U) (ht : Typed .byte A) {i : Nat} (hi : i < A.slots.size) : A.slots[i]? = some (.int (yv A i)) := by
  have e := Array.getElem?_eq_getElem hi
  have f := ht i _ e
  unfold yv; rw [e]
  generalize A.slots[i] = v at f
  cases v <;> simp [fits] at f ⊢
/-- the two arrays are equal, place for place -/
def EqC (A B : Cell) : Prop := A.slots.size = B.slots.size ∧ ∀ i, i < A.slots.size → yv A i = yv B i
/-- a boolean that says whether p -/
def Says01 (q : Prop) (r : Option Value) (s u : State) : Prop := ∃ v : Int32, r = some (.int v) ∧ u.heap = s.heap ∧ ((v = 1 ∧ q) ∨ (v = 0 ∧ ¬ q))
theorem Says01.mv {q : Prop} : ∀ r (U U' V V' : State), U'.heap = U.heap → V.vm.Alike V'.vm → V'.heap = V.heap → Says01 q r U V → Says01 q r U' V' :=
  fun r U U' V V' h1 _ h2 ⟨v, a, b, c⟩ => ⟨v, a, by rw [h1, h2]; exact b, c⟩
namespace LEq
def yN : MethodName := ⟨"java/lang/StringLatin1", "equals", "([B[B)Z"⟩
abbrev yB : ByteArray := jdk_43_method_13_code
theorem d0 : decode yB 0 = .ok (.aload_n 0, 1) := by decide +kernel
theorem d1 : decode yB 1 = .ok (.arraylength, 1) := by decide +kernel
theorem d2 : decode yB 2 = .ok (.aload_n 1, 1) := by decide +kernel
theorem d3 : decode yB 3 = .ok (.arraylength, 1) := by decide +kernel
theorem d4 : decode yB 4 = .ok (.if_icmp (.ne) 30, 3) := by decide +kernel
theorem d7 : decode yB 7 = .ok (.iconst 0, 1) := by decide +kernel
theorem d8 : decode yB 8 = .ok (.istore_n 2, 1) := by decide +kernel
theorem d9 : decode yB 9 = .ok (.iload_n 2, 1) := by decide +kernel
theorem d10 : decode yB 10 = .ok (.aload_n 0, 1) := by decide +kernel
theorem d11 : decode yB 11 = .ok (.arraylength, 1) := by decide +kernel
theorem d12 : decode yB 12 = .ok (.if_icmp (.ge) 20, 3) := by decide +kernel
theorem d15 : decode yB 15 = .ok (.aload_n 0, 1) := by decide +kernel
theorem d16 : decode yB 16 = .ok (.iload_n 2, 1) := by decide +kernel
theorem d17 : decode yB 17 = .ok (.baload, 1) := by decide +kernel
theorem d18 : decode yB 18 = .ok (.aload_n 1, 1) := by decide +kernel
theorem d19 : decode yB 19 = .ok (.iload_n 2, 1) := by decide +kernel
theorem d20 : decode yB 20 = .ok (.baload, 1) := by decide +kernel
theorem d21 : decode yB 21 = .ok (.if_icmp (.eq) 5, 3) := by decide +kernel
theorem d24 : decode yB 24 = .ok (.iconst 0, 1) := by decide +kernel
theorem d25 : decode yB 25 = .ok (.ireturn, 1) := by decide +kernel
theorem d26 : decode yB 26 = .ok (.iinc 2 1, 3) := by decide +kernel
theorem d29 : decode yB 29 = .ok (.goto (-20), 3) := by decide +kernel
theorem d32 : decode yB 32 = .ok (.iconst 1, 1) := by decide +kernel
theorem d33 : decode yB 33 = .ok (.ireturn, 1) := by decide +kernel
theorem d34 : decode yB 34 = .ok (.iconst 0, 1) := by decide +kernel
theorem d35 : decode yB 35 = .ok (.ireturn, 1) := by decide +kernel
def site : List Cond := []
def tab : Cond := tabOf yN yB 3 (some .boolean) site
def P (a : Addr) (A : Cell) (b : Addr) (B : Cell) (args : Array Value) (s : State) : Prop := args = #[.ref a, .ref b] ∧ XT.Arr .byte a A s ∧ Typed .byte A ∧ XT.Arr .byte b B s ∧ Typed .byte B
/-- whether two byte[] are equal, place for place -/
theorem law (l : Launch) (a : Addr) (A : Cell) (b : Addr) (B : Cell) : Law l yN 2 2 0 0 yB 3 (some .boolean) site (P a A b B) (Says01 (EqC A B)) [] 0 0 := by
  refine Law.of_walk (plainFor_of_name (by decide +kernel)) (by decide +kernel) (by decide +kernel) (by decide) (fun _ _ h => by rw [h.1]; rfl) (fun _ U U' hal hh h => ⟨h.1, h.2.1.mv hal hh, h.2.2.1, h.2.2.2.1.mv hal hh, h.2.2.2.2⟩) (fun r U U' V V' h1 hal h2 h => Says01.mv r U U' V V' h1 hal h2 h) ?_
  intro p e s m args below meth c s₁ X0 hexec hbytes hml hret hlk hnm hown hh0 W hP
  obtain ⟨rfl, hA, tA, hB, tB⟩ := hP
  have a31 := hA.2.2.2
  have b31 := hB.2.2.2
  have hA0 := hA.mv X0.warmed.alike hh0
  have hB0 := hB.mv X0.warmed.alike hh0
  have c1 : Steps p.tables e below (s₁.setTop (entryFrame m #[.ref a, .ref b] 3)) (s₁.setTop (mkF m 0 #[.val (.ref a), .val (.ref b), .unset] [])) := entry rfl
  have c2 : Steps p.tables e below (s₁.setTop (entryFrame m #[.ref a, .ref b] 3)) (s₁.setTop (mkF m 4 #[.val (.ref a), .val (.ref b), .unset] [.int (Int32.ofNat B.slots.size), .int (Int32.ofNat A.slots.size)])) := c1.trans (by
    refine XS.aloadN X0.here hexec rfl (hb hbytes d0) rfl rfl ?_
    refine X0.alen hexec hA0 rfl rfl (hb hbytes d1) ?_
    refine XS.aloadN X0.here hexec rfl (hb hbytes d2) rfl rfl ?_
    refine X0.alen hexec hB0 rfl rfl (hb hbytes d3) ?_
    exact Steps.refl _)
  by_cases hs : A.slots.size = B.slots.size
  · have c3 : Steps p.tables e below (s₁.setTop (entryFrame m #[.ref a, .ref b] 3)) (s₁.setTop (mkF m 9 #[.val (.ref a), .val (.ref b), .val (.int 0)] [])) := c2.trans (by
      refine XS.icmpNo X0.here hexec rfl (hb hbytes d4) rfl (ii_ne_f (by rw [hs])) ?_
      refine iconstV X0.here hexec rfl 0 (hb hbytes d7) (by decide) ?_
      refine XS.istoreN X0.here hexec rfl (hb hbytes d8) rfl rfl ?_
      exact Steps.refl _)
    have loop : ∀ (r i : Nat), i + r = A.slots.size → (∀ j, j < i → yv A j = yv B j) → Steps p.tables e below (s₁.setTop (entryFrame m #[.ref a, .ref b] 3)) (s₁.setTop (mkF m 9 #[.val (.ref a), .val (.ref b), .val (.int (Int32.ofNat i))] [])) → ∃ (pc : Nat) (Ls : Array Slot) (v : Int32), (pc = 25 ∨ pc = 33) ∧ ((v = 1 ∧ EqC A B) ∨ (v = 0 ∧ ¬ EqC A B)) ∧ Steps p.tables e below (s₁.setTop (entryFrame m #[.ref a, .ref b] 3)) (s₁.setTop (mkF m pc Ls [.int v])) := by
      intro r
      induction r with
      | zero =>
        intro i hi he cl
        exact ⟨33, _, 1, Or.inr rfl, Or.inl ⟨rfl, hs, fun j hj => he j (by omega)⟩, cl.trans (by
          refine XS.iloadN X0.here hexec rfl (hb hbytes d9) rfl ?_
          refine XS.aloadN X0.here hexec rfl (hb hbytes d10) rfl rfl ?_
          refine X0.alen hexec hA0 rfl rfl (hb hbytes d11) ?_
          refine XS.icmpYes X0.here hexec rfl (pc0 := 12) rfl (hb hbytes d12) rfl (ii_ge_t (nlt32 (by omega) (by omega))) (by decide) rfl ?_
          refine iconstV X0.here hexec rfl 1 (hb hbytes d32) (by decide) ?_
          exact Steps.refl _)⟩
      | succ r ih =>
        intro i hi he cl
        have c4 : Steps p.tables e below (s₁.setTop (entryFrame m #[.ref a, .ref b] 3)) (s₁.setTop (mkF m 21 #[.val (.ref a), .val (.ref b), .val (.int (Int32.ofNat i))] [.int (yv B i), .int (yv A i)])) := cl.trans (by
          refine XS.iloadN X0.here hexec rfl (hb hbytes d9) rfl ?_
          refine XS.aloadN X0.here hexec rfl (hb hbytes d10) rfl rfl ?_
          refine X0.alen hexec hA0 rfl rfl (hb hbytes d11) ?_
          refine XS.icmpNo X0.here hexec rfl (hb hbytes d12) rfl (ii_ge_f (lt32 (by omega) (by omega))) ?_
          refine XS.aloadN X0.here hexec rfl (hb hbytes d15) rfl rfl ?_
          refine XS.iloadN X0.here hexec rfl (hb hbytes d16) rfl ?_
          refine X0.aget hexec hA0 rfl (yv_get hA tA (i := i) (by omega)) rfl rfl (hb hbytes d17) ?_
          refine XS.aloadN X0.here hexec rfl (hb hbytes d18) rfl rfl ?_
          refine XS.iloadN X0.here hexec rfl (hb hbytes d19) rfl ?_
          refine X0.aget hexec hB0 rfl (yv_get hB tB (i := i) (by omega)) rfl rfl (hb hbytes d20) ?_
          exact Steps.refl _)
        by_cases hv : yv A i = yv B i
        · have c5 : Steps p.tables e below (s₁.setTop (entryFrame m #[.ref a, .ref b] 3)) (s₁.setTop (mkF m 9 #[.val (.ref a), .val (.ref b), .val (.int (Int32.ofNat i + 1))] [])) := c4.trans (by
            refine XS.icmpYes X0.here hexec rfl (pc0 := 21) rfl (hb hbytes d21) rfl (ii_eq_t hv) (by decide) rfl ?_
            refine iincV X0.here hexec rfl 1 (hb hbytes d26) (by decide) rfl rfl ?_
            refine XS.goto X0.here hexec rfl (pc0 := 29) rfl (hb hbytes d29) (by decide) rfl ?_
            exact Steps.refl _)
          rw [succ32] at c5
          exact ih (i + 1) (by omega) (fun j hj => by
            by_cases e : j = i
            · rw [e]; exact hv
            · exact he j (by omega)) c5
        · exact ⟨25, _, 0, Or.inl rfl, Or.inr ⟨rfl, fun q => hv (q.2 i (by omega))⟩, c4.trans (by
            refine XS.icmpNo X0.here hexec rfl (hb hbytes d21) rfl (ii_eq_f hv) ?_
            refine iconstV X0.here hexec rfl 0 (hb hbytes d24) (by decide) ?_
            exact Steps.refl _)⟩
    obtain ⟨pc, Ls, v, hpc, hv, cz⟩ := loop A.slots.size 0 (by omega) (fun j hj => absurd hj (Nat.not_lt_zero j)) c3
    have nv : narrow .boolean (.int v) = .int v := by rcases hv with ⟨rfl, -⟩ | ⟨rfl, -⟩ <;> rfl
    rcases hpc with rfl | rfl
    · exact ⟨s₁, some (.int v), _, _, _, X0, rfl, rfl, rfl, (fun h => by cases h), ⟨v, rfl, hh0, hv⟩, fun fs hl => cz.trans (X0.ireturnOut hexec hret nv (Or.inr (Or.inl rfl)) (hb hbytes d25) hl)⟩
    · exact ⟨s₁, some (.int v), _, _, _, X0, rfl, rfl, rfl, (fun h => by cases h), ⟨v, rfl, hh0, hv⟩, fun fs hl => cz.trans (X0.ireturnOut hexec hret nv (Or.inr (Or.inl rfl)) (hb hbytes d33) hl)⟩
  · have c3 : Steps p.tables e below (s₁.setTop (entryFrame m #[.ref a, .ref b] 3)) (s₁.setTop (mkF m 35 #[.val (.ref a), .val (.ref b), .unset] [.int 0])) := c2.trans (by
      refine XS.icmpYes X0.here hexec rfl (pc0 := 4) rfl (hb hbytes d4) rfl (ii_ne_t (ne32 a31 b31 hs)) (by decide) rfl ?_
      refine iconstV X0.here hexec rfl 0 (hb hbytes d34) (by decide) ?_
      exact Steps.refl _)
    exact ⟨s₁, some (.int 0), _, _, _, X0, rfl, rfl, rfl, (fun h => by cases h), ⟨0, rfl, hh0, Or.inr ⟨rfl, fun q => hs q.1⟩⟩, fun fs hl => c3.trans (X0.ireturnOut hexec hret rfl (Or.inr (Or.inl rfl)) (hb hbytes d35) hl)⟩
end LEq
theorem Cod.ty {cd : Int32} {n : Nat} {f : Nat → Int32} {V : Cell} (h : Cod cd n f V) : Typed .byte V := fun i v hv => by
  have hi : i < V.slots.size := (Array.getElem?_eq_some_iff.mp hv).1
  rcases h with ⟨-, k1, k2⟩ | ⟨-, k1, k2, -⟩
  · rw [(k2 i (by omega)).1] at hv; cases hv; exact fits_lo8 _
  · rcases Nat.mod_two_eq_zero_or_one i with e | e
    · obtain ⟨j, rfl⟩ : ∃ j, i = 2 * j := ⟨i / 2, by omega⟩
      rw [(k2 j (by omega)).1] at hv; cases hv; exact fits_lo8 _
    · obtain ⟨j, rfl⟩ : ∃ j, i = 2 * j + 1 := ⟨i / 2, by omega⟩
      rw [(k2 j (by omega)).2] at hv; cases hv; exact fits_lo8 _
/-- the same text -/
def SameT (n : Nat) (f : Nat → Int32) (k : Nat) (g : Nat → Int32) : Prop := n = k ∧ ∀ j, j < n → f j = g j
theorem lo8_inj {x y : Int32} (h0 : ¬ x < 0) (h1 : ¬ 255 < x) (k0 : ¬ y < 0) (k1 : ¬ 255 < y) (h : lo8 x = lo8 y) : x = y := by
  rw [← lo8_mask h0 h1, ← lo8_mask k0 k1, h]
/-- arrays coded by one coder are equal just where the texts are -/
theorem Cod.eqv {cd : Int32} {n k : Nat} {f g : Nat → Int32} {V V' : Cell} (h : Cod cd n f V) (h' : Cod cd k g V') (hf : ∀ j, j < n → ¬ f j < 0 ∧ ¬ 65535 < f j) (hg : ∀ j, j < k → ¬ g j < 0 ∧ ¬ 65535 < g j) : EqC V V' ↔ SameT n f k g := by
  have yvv : ∀ {W : Cell} {i : Nat} {x : Int32}, W.slots[i]? = some (.int x) → yv W i = x := fun q => by unfold yv; rw [q]
  rcases h with ⟨rfl, k1, k2⟩ | ⟨rfl, k1, k2, -⟩
  · rcases h' with ⟨-, m1, m2⟩ | ⟨e, -⟩
    · constructor
      · rintro ⟨e1, e2⟩
        refine ⟨by omega, fun j hj => ?_⟩
        have q := e2 j (by omega)
        rw [yvv (k2 j hj).1, yvv (m2 j (by omega)).1] at q
        exact lo8_inj (hf j hj).1 (k2 j hj).2 (hg j (by omega)).1 (m2 j (by omega)).2 q
      · rintro ⟨rfl, e2⟩
        refine ⟨by omega, fun j hj => ?_⟩
        rw [yvv (k2 j (by omega)).1, yvv (m2 j (by omega)).1, e2 j (by omega)]
    · exact absurd e (by decide)
  · rcases h' with ⟨e, -⟩ | ⟨-, m1, m2, -⟩
    · exact absurd e (by decide)
    · constructor
      · rintro ⟨e1, e2⟩
        refine ⟨by omega, fun j hj => ?_⟩
        have q1 := e2 (2 * j) (by omega)
        have q2 := e2 (2 * j + 1) (by omega)
        rw [yvv (k2 j hj).1, yvv (m2 j (by omega)).1] at q1
        rw [yvv (k2 j hj).2, yvv (m2 j (by omega)).2] at q2
        rw [← pair_says (hf j hj).1 (hf j hj).2, ← pair_says (hg j (by omega)).1 (hg j (by omega)).2, q1, q2]
      · rintro ⟨rfl, e2⟩
        refine ⟨by omega, fun i hi => ?_⟩
        rcases Nat.mod_two_eq_zero_or_one i with e | e
        · obtain ⟨j, rfl⟩ : ∃ j, i = 2 * j := ⟨i / 2, by omega⟩
          rw [yvv (k2 j (by omega)).1, yvv (m2 j (by omega)).1, e2 j (by omega)]
        · obtain ⟨j, rfl⟩ : ∃ j, i = 2 * j + 1 := ⟨i / 2, by omega⟩
          rw [yvv (k2 j (by omega)).2, yvv (m2 j (by omega)).2, e2 j (by omega)]
/-- two codings differ: so do the texts -/
theorem Cod.dif {cd cd' : Int32} {n k : Nat} {f g : Nat → Int32} {V V' : Cell} (h : Cod cd n f V) (h' : Cod cd' k g V') (hne : ¬ cd = cd') : ¬ SameT n f k g := by
  rintro ⟨rfl, e⟩
  rcases h with ⟨rfl, -, k2⟩ | ⟨rfl, -, -, j, hj, hw⟩
  · rcases h' with ⟨rfl, -⟩ | ⟨-, -, -, j, hj, hw⟩
    · exact hne rfl
    · exact (k2 j hj).2 (by rw [e j hj]; exact hw)
  · rcases h' with ⟨-, -, m2⟩ | ⟨rfl, -⟩
    · exact (m2 j hj).2 (by rw [← e j hj]; exact hw)
    · exact hne rfl
/-- an object of exactly C is an instance of C -/
theorem cinst {p : Program} {l : Launch} {e : Env} {R : Room} {s : State} {m : MethodId} {args : Array Value} {below : List Frame} {meth : Method} {c : Code} {T : State} {locs : List Loc} {cells slots : Nat} (X : Stand p l e R s m args below meth c T locs cells slots) (hexec : p.tables.exec = Jvm.exec) {own C : String} {index : Nat} (hown : s.vm.findClass own = some m.cls) (hlink : (Cond.classLink own index C).before args s = true) {a : Addr} (hE : Exact C a T)
    {g : JFrame} (hg : g.method = m) {rest : List Value} (hstack : g.stack = .ref a :: rest) (hdg : decode c.code g.pc = .ok (.instanceof index, 3)) :
    ∃ T', Stand p l e R s m args below meth c T' locs cells slots ∧ T'.heap = T.heap ∧ ∀ target, Steps p.tables e below (T'.setTop { g with pc := g.pc + 3, stack := .int 1 :: rest }) target → Steps p.tables e below (T.setTop g) target := by
  obtain ⟨cB, h1, D, h2, h3, h4⟩ := hE
  have h1' : s.vm.findClass C = some cB := by rw [← X.warmed.alike.findClass]; exact h1
  obtain ⟨vm', X', st⟩ := X.instanceofYes hexec hown hlink h2 h4 h1' (by rw [h3]; exact Jvm.Free.SB.assignable_self _ _) hg hstack hdg
  exact ⟨_, X', rfl, st⟩
theorem cself {p : Program} {l : Launch} {e : Env} {R : Room} {s : State} {m : MethodId} {args : Array Value} {below : List Frame} {meth : Method} {c : Code} {T : State} {locs : List Loc} {cells slots : Nat} (X : Stand p l e R s m args below meth c T locs cells slots) (hexec : p.tables.exec = Jvm.exec) {own C : String} {index : Nat} (hown : s.vm.findClass own = some m.cls) (hlink : (Cond.classLink own index C).before args s = true) {a : Addr} (hE : Exact C a T)
    {g : JFrame} (hg : g.method = m) {rest : List Value} (hstack : g.stack = .ref a :: rest) (hdg : decode c.code g.pc = .ok (.checkcast index, 3)) :
    ∃ T', Stand p l e R s m args below meth c T' locs cells slots ∧ T'.heap = T.heap ∧ ∀ target, Steps p.tables e below (T'.setTop { g with pc := g.pc + 3, stack := .ref a :: rest }) target → Steps p.tables e below (T.setTop g) target := by
  obtain ⟨cB, h1, D, h2, h3, h4⟩ := hE
  have h1' : s.vm.findClass C = some cB := by rw [← X.warmed.alike.findClass]; exact h1
  obtain ⟨vm', X', st⟩ := X.checkcastYes hexec hown hlink h2 h4 h1' (by rw [h3]; exact Jvm.Free.SB.assignable_self _ _) hg hstack hdg
  exact ⟨_, X', rfl, fun t h => st t (by rw [← hstack] at h; exact h)⟩
namespace SEq
def yN : MethodName := ⟨"java/lang/String", "equals", "(Ljava/lang/Object;)Z"⟩
abbrev yB : ByteArray := jdk_42_method_66_code
theorem d0 : decode yB 0 = .ok (.aload_n 0, 1) := by decide +kernel
theorem d1 : decode yB 1 = .ok (.aload_n 1, 1) := by decide +kernel
theorem d2 : decode yB 2 = .ok (.if_acmp (.ne) 5, 3) := by decide +kernel
theorem d5 : decode yB 5 = .ok (.iconst 1, 1) := by decide +kernel
theorem d6 : decode yB 6 = .ok (.ireturn, 1) := by decide +kernel
theorem d7 : decode yB 7 = .ok (.aload_n 1, 1) := by decide +kernel
theorem d8 : decode yB 8 = .ok (.instanceof 10, 3) := by decide +kernel
theorem d11 : decode yB 11 = .ok (.ifCond (.eq) 43, 3) := by decide +kernel
theorem d14 : decode yB 14 = .ok (.aload_n 1, 1) := by decide +kernel
theorem d15 : decode yB 15 = .ok (.checkcast 10, 3) := by decide +kernel
theorem d18 : decode yB 18 = .ok (.astore_n 2, 1) := by decide +kernel
theorem d19 : decode yB 19 = .ok (.getstatic 38, 3) := by decide +kernel
theorem d22 : decode yB 22 = .ok (.ifCond (.eq) 14, 3) := by decide +kernel
theorem d25 : decode yB 25 = .ok (.aload_n 0, 1) := by decide +kernel
theorem d26 : decode yB 26 = .ok (.getfield 15, 3) := by decide +kernel
theorem d29 : decode yB 29 = .ok (.aload_n 2, 1) := by decide +kernel
theorem d30 : decode yB 30 = .ok (.getfield 15, 3) := by decide +kernel
theorem d33 : decode yB 33 = .ok (.if_icmp (.ne) 21, 3) := by decide +kernel
theorem d36 : decode yB 36 = .ok (.aload_n 0, 1) := by decide +kernel
theorem d37 : decode yB 37 = .ok (.getfield 9, 3) := by decide +kernel
theorem d40 : decode yB 40 = .ok (.aload_n 2, 1) := by decide +kernel
theorem d41 : decode yB 41 = .ok (.getfield 9, 3) := by decide +kernel
theorem d44 : decode yB 44 = .ok (.invokestatic 541, 3) := by decide +kernel
theorem d47 : decode yB 47 = .ok (.ifCond (.eq) 7, 3) := by decide +kernel
theorem d50 : decode yB 50 = .ok (.iconst 1, 1) := by decide +kernel
theorem d51 : decode yB 51 = .ok (.goto 4, 3) := by decide +kernel
theorem d54 : decode yB 54 = .ok (.iconst 0, 1) := by decide +kernel
theorem d55 : decode yB 55 = .ok (.ireturn, 1) := by decide +kernel
def site : List Cond := [.classLink "java/lang/String" 10 "java/lang/String", .fieldLink "java/lang/String" 38 "java/lang/String" "COMPACT_STRINGS" "Z", .fieldLink "java/lang/String" 15 "java/lang/String" "coder" "B", .fieldLink "java/lang/String" 9 "java/lang/String" "value" "[B", LEq.tab] ++ staticW "java/lang/String" 541 LEq.yN
def tab : Cond := tabOf yN yB 3 (some .boolean) site
def P (x t : Addr) (V : Cell) (cd : Int32) (n : Nat) (f : Nat → Int32) (y t' : Addr) (V' : Cell) (cd' : Int32) (k : Nat) (g : Nat → Int32) (z : Int32) (args : Array Value) (s : State) : Prop := args = #[.ref x, .ref y] ∧ Txt x t V cd n f s ∧ Txt y t' V' cd' k g s ∧ StaticIs s "java/lang/String" "COMPACT_STRINGS" "Z" (.int z) ∧ ¬ z = 0
/-- equals(Object) of two Strings: whether the texts are the same -/
theorem law (l : Launch) (x t : Addr) (V : Cell) (cd : Int32) (n : Nat) (f : Nat → Int32) (y t' : Addr) (V' : Cell) (cd' : Int32) (k : Nat) (g : Nat → Int32) (z : Int32) : Law l yN 2 1 1 14 yB 3 (some .boolean) site (P x t V cd n f y t' V' cd' k g z) (Says01 (SameT n f k g)) [] 0 0 := by
  refine Law.of_walk (plainFor_of_name (by decide +kernel)) (by decide +kernel) (by decide +kernel) (by decide) (fun _ _ h => by rw [h.1]; rfl) (fun _ U U' hal hh h => ⟨h.1, h.2.1.mv hal hh, h.2.2.1.mv hal hh, h.2.2.2.1.there hal hh, h.2.2.2.2⟩) (fun r U U' V V' h1 hal h2 h => Says01.mv r U U' V V' h1 hal h2 h) ?_
  intro p e s m args below meth c s₁ X0 hexec hbytes hml hret hlk hnm hown hh0 W hP
  obtain ⟨rfl, hx, hy, s1, hz⟩ := hP
  have c1 : Steps p.tables e below (s₁.setTop (entryFrame m #[.ref x, .ref y] 3)) (s₁.setTop (mkF m 2 #[.val (.ref x), .val (.ref y), .unset] [.ref y, .ref x])) := Steps.trans (entry rfl) (by
    show Steps p.tables e below (s₁.setTop (mkF m 0 #[.val (.ref x), .val (.ref y), .unset] [])) _
    refine XS.aloadN X0.here hexec rfl (hb hbytes d0) rfl rfl ?_
    refine XS.aloadN X0.here hexec rfl (hb hbytes d1) rfl rfl ?_
    exact Steps.refl _)
  by_cases hxy : x = y
  · have c2 : Steps p.tables e below (s₁.setTop (entryFrame m #[.ref x, .ref y] 3)) (s₁.setTop (mkF m 6 #[.val (.ref x), .val (.ref y), .unset] [.int 1])) := c1.trans (by
      refine acmpNo X0.here hexec rfl (hb hbytes d2) rfl rfl rfl (by simp [acmp, hxy]) ?_
      refine iconstV X0.here hexec rfl 1 (hb hbytes d5) (by decide) ?_
      exact Steps.refl _)
    subst hxy
    have ec : cd = cd' := by
      obtain ⟨D, fd, a1, a2, a3⟩ := hx.2.2.1
      obtain ⟨D', fd', b1, b2, b3⟩ := hy.2.2.1
      cases a1.symm.trans b1
      obtain ⟨q1, q2, q3, q4⟩ := a2.1
      obtain ⟨r1, r2, r3, r4⟩ := b2.1
      cases q4.symm.trans r4
      cases a3.symm.trans b3; rfl
    have et : t = t' := by
      obtain ⟨D, fd, a1, a2, a3⟩ := hx.2.1
      obtain ⟨D', fd', b1, b2, b3⟩ := hy.2.1
      cases a1.symm.trans b1
      obtain ⟨q1, q2, q3, q4⟩ := a2.1
      obtain ⟨r1, r2, r3, r4⟩ := b2.1
      cases q4.symm.trans r4
      cases a3.symm.trans b3; rfl
    subst ec et
    have ev : V = V' := by cases hx.2.2.2.1.1.symm.trans hy.2.2.2.1.1; rfl
    subst ev
    have hs : SameT n f k g := (Cod.eqv hx.2.2.2.2.1 hy.2.2.2.2.1 hx.2.2.2.2.2 hy.2.2.2.2.2).mp ⟨rfl, fun _ _ => rfl⟩
    exact ⟨s₁, some (.int 1), _, _, _, X0, rfl, rfl, rfl, (fun h => by cases h), ⟨1, rfl, hh0, Or.inl ⟨rfl, hs⟩⟩, fun fs hl => c2.trans (X0.ireturnOut hexec hret rfl (Or.inr (Or.inl rfl)) (hb hbytes d6) hl)⟩
  · have c2 : Steps p.tables e below (s₁.setTop (entryFrame m #[.ref x, .ref y] 3)) (s₁.setTop (mkF m 8 #[.val (.ref x), .val (.ref y), .unset] [.ref y])) := c1.trans (by
      refine acmpYes X0.here hexec rfl (pc0 := 2) rfl (hb hbytes d2) rfl rfl rfl (by simp [acmp, hxy]) (by decide) rfl ?_
      refine XS.aloadN X0.here hexec rfl (hb hbytes d7) rfl rfl ?_
      exact Steps.refl _)
    obtain ⟨T3, X3, q3, st3⟩ := cinst X0 hexec hown (wk W (.classLink "java/lang/String" 10 "java/lang/String")) (hy.mv X0.warmed.alike hh0).1 (g := (mkF m 8 #[.val (.ref x), .val (.ref y), .unset] [.ref y])) rfl (rest := []) rfl (hb hbytes d8)
    have hh3 := q3.trans hh0
    have c4 : Steps p.tables e below (s₁.setTop (entryFrame m #[.ref x, .ref y] 3)) (T3.setTop (mkF m 15 #[.val (.ref x), .val (.ref y), .unset] [.ref y])) := (c2.trans (st3 _ (Steps.refl _))).trans (by
      refine XS.ifNo X3.here hexec rfl (hb hbytes d11) rfl (i0_eq_f (by decide)) ?_
      refine XS.aloadN X3.here hexec rfl (hb hbytes d14) rfl rfl ?_
      exact Steps.refl _)
    obtain ⟨T5, X5, q5, st5⟩ := cself X3 hexec hown (wk W (.classLink "java/lang/String" 10 "java/lang/String")) (hy.mv X3.warmed.alike hh3).1 (g := (mkF m 15 #[.val (.ref x), .val (.ref y), .unset] [.ref y])) rfl (rest := []) rfl (hb hbytes d15)
    have hh5 := q5.trans hh3
    have c6 : Steps p.tables e below (s₁.setTop (entryFrame m #[.ref x, .ref y] 3)) (T5.setTop (mkF m 19 #[.val (.ref x), .val (.ref y), .val (.ref y)] [])) := (c4.trans (st5 _ (Steps.refl _))).trans (by
      refine XS.astoreN X5.here hexec rfl (hb hbytes d18) rfl rfl rfl ?_
      exact Steps.refl _)
    obtain ⟨T7, X7, q7, st7⟩ := X5.sget hexec hown (wk W (.fieldLink "java/lang/String" 38 "java/lang/String" "COMPACT_STRINGS" "Z")) s1 (fun _ _ h => by rw [hh5]; exact h) (g := (mkF m 19 #[.val (.ref x), .val (.ref y), .val (.ref y)] [])) rfl (hb hbytes d19)
    have hh7 := q7.trans hh5
    have c8 : Steps p.tables e below (s₁.setTop (entryFrame m #[.ref x, .ref y] 3)) (T7.setTop (mkF m 26 #[.val (.ref x), .val (.ref y), .val (.ref y)] [.ref x])) := (c6.trans (st7 _ (Steps.refl _))).trans (by
      refine XS.ifNo X7.here hexec rfl (hb hbytes d22) rfl (i0_eq_f hz) ?_
      refine XS.aloadN X7.here hexec rfl (hb hbytes d25) rfl rfl ?_
      exact Steps.refl _)
    obtain ⟨T9, X9, q9, st9⟩ := X7.hget hexec hown (wk W (.fieldLink "java/lang/String" 15 "java/lang/String" "coder" "B")) (hx.mv X7.warmed.alike hh7).2.2.1 (g := (mkF m 26 #[.val (.ref x), .val (.ref y), .val (.ref y)] [.ref x])) rfl (rest := []) rfl (hb hbytes d26)
    have hh9 := q9.trans hh7
    have c10 : Steps p.tables e below (s₁.setTop (entryFrame m #[.ref x, .ref y] 3)) (T9.setTop (mkF m 30 #[.val (.ref x), .val (.ref y), .val (.ref y)] [.ref y, .int cd])) := (c8.trans (st9 _ (Steps.refl _))).trans (by
      refine XS.aloadN X9.here hexec rfl (hb hbytes d29) rfl rfl ?_
      exact Steps.refl _)
    obtain ⟨T11, X11, q11, st11⟩ := X9.hget hexec hown (wk W (.fieldLink "java/lang/String" 15 "java/lang/String" "coder" "B")) (hy.mv X9.warmed.alike hh9).2.2.1 (g := (mkF m 30 #[.val (.ref x), .val (.ref y), .val (.ref y)] [.ref y, .int cd])) rfl (rest := [.int cd]) rfl (hb hbytes d30)
    have hh11 := q11.trans hh9
    have c12 : Steps p.tables e below (s₁.setTop (entryFrame m #[.ref x, .ref y] 3)) (T11.setTop (mkF m 33 #[.val (.ref x), .val (.ref y), .val (.ref y)] [.int cd', .int cd])) := c10.trans (st11 _ (Steps.refl _))
    by_cases hcd : cd = cd'
    · subst hcd
      have c13 : Steps p.tables e below (s₁.setTop (entryFrame m #[.ref x, .ref y] 3)) (T11.setTop (mkF m 37 #[.val (.ref x), .val (.ref y), .val (.ref y)] [.ref x])) := c12.trans (by
        refine XS.icmpNo X11.here hexec rfl (hb hbytes d33) rfl (ii_ne_f rfl) ?_
        refine XS.aloadN X11.here hexec rfl (hb hbytes d36) rfl rfl ?_
        exact Steps.refl _)
      obtain ⟨T14, X14, q14, st14⟩ := X11.hget hexec hown (wk W (.fieldLink "java/lang/String" 9 "java/lang/String" "value" "[B")) (hx.mv X11.warmed.alike hh11).2.1 (g := (mkF m 37 #[.val (.ref x), .val (.ref y), .val (.ref y)] [.ref x])) rfl (rest := []) rfl (hb hbytes d37)
      have hh14 := q14.trans hh11
      have c15 : Steps p.tables e below (s₁.setTop (entryFrame m #[.ref x, .ref y] 3)) (T14.setTop (mkF m 41 #[.val (.ref x), .val (.ref y), .val (.ref y)] [.ref y, .ref t])) := (c13.trans (st14 _ (Steps.refl _))).trans (by
        refine XS.aloadN X14.here hexec rfl (hb hbytes d40) rfl rfl ?_
        exact Steps.refl _)
      obtain ⟨T16, X16, q16, st16⟩ := X14.hget hexec hown (wk W (.fieldLink "java/lang/String" 9 "java/lang/String" "value" "[B")) (hy.mv X14.warmed.alike hh14).2.1 (g := (mkF m 41 #[.val (.ref x), .val (.ref y), .val (.ref y)] [.ref y, .ref t])) rfl (rest := [.ref t]) rfl (hb hbytes d41)
      have hh16 := q16.trans hh14
      have c17 : Steps p.tables e below (s₁.setTop (entryFrame m #[.ref x, .ref y] 3)) (T16.setTop (mkF m 44 #[.val (.ref x), .val (.ref y), .val (.ref y)] [.ref t', .ref t])) := c15.trans (st16 _ (Steps.refl _))
      obtain ⟨v18, T18, X18, E18, g18⟩ := X16.callS hexec (LEq.law l t V t' V') hown (wks W (staticW "java/lang/String" 541 LEq.yN)) (wk W LEq.tab) (W := 0) (Nat.le_of_ble_eq_true rfl) (Nat.le_of_ble_eq_true rfl) (Nat.le_refl _) (Nat.le_refl _) (g := (mkF m 44 #[.val (.ref x), .val (.ref y), .val (.ref y)] [.ref t', .ref t])) rfl (by rw [hml]; rfl) c17 (argsL := [.ref t, .ref t']) (rest := []) rfl rfl (by show 2 * 0 + 0 ≤ _; decide) (hb hbytes d44) (⟨rfl, hx.2.2.2.1.mv X16.warmed.alike hh16, hx.2.2.2.2.1.ty, hy.2.2.2.1.mv X16.warmed.alike hh16, hy.2.2.2.2.1.ty⟩)
      obtain ⟨v, rfl, q18, hv⟩ := E18
      have iff := Cod.eqv hx.2.2.2.2.1 hy.2.2.2.2.1 hx.2.2.2.2.2 hy.2.2.2.2.2
      rcases hv with ⟨rfl, he⟩ | ⟨rfl, he⟩
      · have c19 : Steps p.tables e below (s₁.setTop (entryFrame m #[.ref x, .ref y] 3)) (T18.setTop (mkF m 55 #[.val (.ref x), .val (.ref y), .val (.ref y)] [.int 1])) := Steps.trans g18 (by
          refine XS.ifNo X18.here hexec rfl (hb hbytes d47) rfl (i0_eq_f (by decide)) ?_
          refine iconstV X18.here hexec rfl 1 (hb hbytes d50) (by decide) ?_
          refine XS.goto X18.here hexec rfl (pc0 := 51) rfl (hb hbytes d51) (by decide) rfl ?_
          exact Steps.refl _)
        exact ⟨T18, some (.int 1), _, _, _, X18, rfl, rfl, rfl, (fun h => by cases h), ⟨1, rfl, q18.trans hh16, Or.inl ⟨rfl, iff.mp he⟩⟩, fun fs hl => c19.trans (X18.ireturnOut hexec hret rfl (Or.inr (Or.inl rfl)) (hb hbytes d55) hl)⟩
      · have c19 : Steps p.tables e below (s₁.setTop (entryFrame m #[.ref x, .ref y] 3)) (T18.setTop (mkF m 55 #[.val (.ref x), .val (.ref y), .val (.ref y)] [.int 0])) := Steps.trans g18 (by
          refine XS.ifYes X18.here hexec rfl (pc0 := 47) rfl (hb hbytes d47) rfl (i0_eq_t rfl) (by decide) rfl ?_
          refine iconstV X18.here hexec rfl 0 (hb hbytes d54) (by decide) ?_
          exact Steps.refl _)
        exact ⟨T18, some (.int 0), _, _, _, X18, rfl, rfl, rfl, (fun h => by cases h), ⟨0, rfl, q18.trans hh16, Or.inr ⟨rfl, fun q => he (iff.mpr q)⟩⟩, fun fs hl => c19.trans (X18.ireturnOut hexec hret rfl (Or.inr (Or.inl rfl)) (hb hbytes d55) hl)⟩
    · have c13 : Steps p.tables e below (s₁.setTop (entryFrame m #[.ref x, .ref y] 3)) (T11.setTop (mkF m 55 #[.val (.ref x), .val (.ref y), .val (.ref y)] [.int 0])) := c12.trans (by
        refine XS.icmpYes X11.here hexec rfl (pc0 := 33) rfl (hb hbytes d33) rfl (ii_ne_t hcd) (by decide) rfl ?_
        refine iconstV X11.here hexec rfl 0 (hb hbytes d54) (by decide) ?_
        exact Steps.refl _)
      exact ⟨T11, some (.int 0), _, _, _, X11, rfl, rfl, rfl, (fun h => by cases h), ⟨0, rfl, hh11, Or.inr ⟨rfl, Cod.dif hx.2.2.2.2.1 hy.2.2.2.2.1 hcd⟩⟩, fun fs hl => c13.trans (X11.ireturnOut hexec hret rfl (Or.inr (Or.inl rfl)) (hb hbytes d55) hl)⟩
theorem pays {l : Launch} {R : Room} {p : Program} {e : Env} {below : List Frame} {s : State} {sargs : Array Value} {len W : Nat} (x t : Addr) (V : Cell) (cd : Int32) (n : Nat) (f : Nat → Int32) (y t' : Addr) (V' : Cell) (cd' : Int32) (k : Nat) (g : Nat → Int32) (z : Int32) (htab : tab.before sargs s = true) (hfr : 2 ≤ R.frames) (hlo : W + 28 ≤ R.locals) :
    Back l R p e below s sargs yN len W (fun A₁ a₁ => A₁.cells + 0 ≤ R.cells ∧ A₁.slots + 0 ≤ R.slots ∧ P x t V cd n f y t' V' cd' k g z a₁ A₁.U) (fun A₁ _ v₁ B₁ => Says01 (SameT n f k g) v₁ A₁.U B₁.U ∧ B₁.locs = A₁.locs ++ [] ∧ B₁.cells = A₁.cells + 0 ∧ B₁.slots = A₁.slots + 0) :=
  (law l x t V cd n f y t' V' cd' k g z).pays htab hfr (by omega)
end SEq
end StrChars
namespace StrChars.Road
open Jvm Sem ClassFile Op Lib Jvm.Stand Jvm.Free Jvm.Free.XT
open Jvm.Lib.Cold (StaticIs)
/-- the words of String.equals(Object) -/
abbrev wordsEq : List Jvm.Cond := [.code SEq.yN SEq.yB 3 (some .boolean), .initialized ST, .classLink ST 10 ST, .fieldLink ST 38 ST "COMPACT_STRINGS" "Z", .fieldLink ST 15 ST "coder" "B", .fieldLink ST 9 ST "value" "[B", .methodLink ST 541 LEq.yN, .static LEq.yN, .code LEq.yN LEq.yB 3 (some .boolean), .initialized "java/lang/StringLatin1"]
theorem tabEq_of {a : Array Value} {s : State} (h : ∀ w ∈ wordsEq, w.before a s = true) : SEq.tab.before a s = true := by
  have hl : LEq.tab.before a s = true := unparts (wk h (.code LEq.yN LEq.yB 3 (some .boolean))) (wks h (.initialized LEq.yN.cls :: LEq.site))
  have q := consq hl h
  exact unparts (wk q (.code SEq.yN SEq.yB 3 (some .boolean))) (wks q (.initialized SEq.yN.cls :: SEq.site))
theorem movedEq {Z s : State} {a0 args : Array Value} (hZ : Z.Warmed39 s.vm) (hw : ∀ d ∈ wordsEq, d.before a0 Z = true) : ∀ d ∈ wordsEq, d.before args s = true := fun d hd => by
  have t : ∀ d ∈ wordsEq, (d.onTables && d.keepsFace) = true := by decide +kernel
  exact RoadKit.mv hZ (hw d hd) (t d hd)
/-- the road's facts of a String, as the laws ask it -/
theorem txt_of {Z U : State} {a0 : Array Value} {kI : Nat} (wi : (Jvm.Cond.instantiable ST kI).before a0 Z = true) (al : Z.vm.Alike U.vm) {x t : Addr} {kb : ClassId} {cs : List Int32} {cd N2 : Int32} {vs : List Value} (E : RoadKit.Exa Z U.heap x ST) (V : RoadKit.Fld Z U.heap x ST "value" "[B" (.ref t)) (C : RoadKit.Fld Z U.heap x ST "coder" "B" (.int cd)) (K : RoadKit.Arv Z U.heap t kb .byte N2 vs (.int 0)) (hc : CodA cs cd N2 vs) (hb : ∀ c ∈ cs, ¬ c < 0 ∧ ¬ (65535 : Int32) < c) (l2 : cs.length ≤ 4000) :
    ∃ A, Txt x t A cd cs.length (fun j => cs.getD j 0) U := by
  obtain ⟨A, K1, K2, K3, K4, K5, K6⟩ := K
  have hcod := hc.cod (by omega) K3 K5
  obtain ⟨D, fV, fC, hB, F1, F2, g1, g2, -, -⟩ := strObj wi al E V C
  exact ⟨A, ⟨_, hB.2.2.1, D, hB.1, rfl, by cases q : D.vm <;> first | rfl | exact absurd q (hB.2.1.2 _)⟩, Has.of hB F1 g1, Has.of hB F2 g2, ⟨K1.1, State.isArrayOf_alike al K1.2.1, K1.2.2, by rcases hcod with ⟨-, q, -⟩ | ⟨-, q, -⟩ <;> omega⟩, hcod, fun j hj => by
    have e : cs.getD j 0 = cs[j] := by simp [List.getD_eq_getElem?_getD, hj]
    show ¬ cs.getD j 0 < 0 ∧ ¬ 65535 < cs.getD j 0
    rw [e]; exact hb _ (List.getElem_mem _)⟩
theorem same_list (cs ds : List Int32) : SameT cs.length (fun j => cs.getD j 0) ds.length (fun j => ds.getD j 0) ↔ cs = ds := by
  constructor
  · rintro ⟨e, q⟩
    refine List.ext_getElem e fun j h1 h2 => ?_
    have := q j h1
    simpa [List.getD_eq_getElem?_getD, h1, h2] using this
  · rintro rfl
    exact ⟨rfl, fun _ _ => rfl⟩
/-- **equals(Object) OF TWO SUCH STRINGS**: 1 just where the chars are the same -/
theorem eqW {p : Program} {l : Launch} {e : Env} {R : Room} {s : State} {args : Array Value} {below : List Frame} {len W : Nat} {Z : State} {a0 : Array Value} {h : Heap} (hZ : Z.Warmed39 s.vm) (hw : ∀ d ∈ wordsEq, d.before a0 Z = true) {kI : Nat} (wi : (Jvm.Cond.instantiable ST kI).before a0 Z = true)
    {x t : Addr} {kb : ClassId} {cs : List Int32} {cd N2 : Int32} {vs : List Value} (E : RoadKit.Exa Z h x ST) (V : RoadKit.Fld Z h x ST "value" "[B" (.ref t)) (C : RoadKit.Fld Z h x ST "coder" "B" (.int cd)) (K : RoadKit.Arv Z h t kb .byte N2 vs (.int 0)) (hc : CodA cs cd N2 vs) (hb : ∀ c ∈ cs, ¬ c < 0 ∧ ¬ (65535 : Int32) < c) (l2 : cs.length ≤ 4000)
    {y t' : Addr} {kb' : ClassId} {ds : List Int32} {cd' N2' : Int32} {vs' : List Value} (E' : RoadKit.Exa Z h y ST) (V' : RoadKit.Fld Z h y ST "value" "[B" (.ref t')) (C' : RoadKit.Fld Z h y ST "coder" "B" (.int cd')) (K' : RoadKit.Arv Z h t' kb' .byte N2' vs' (.int 0)) (hc' : CodA ds cd' N2' vs') (hb' : ∀ c ∈ ds, ¬ c < 0 ∧ ¬ (65535 : Int32) < c) (l2' : ds.length ≤ 4000)
    {z : Int32} (S : RoadKit.Sta Z h ST "COMPACT_STRINGS" "Z" (.int z)) (hz : ¬ z = 0) (hfr : 2 ≤ R.frames) (hlo : W + 28 ≤ R.locals) :
    Back l R p e below s args (⟨"java/lang/String", "equals", "(Ljava/lang/Object;)Z"⟩ : MethodName) len W (fun P a => a = #[.ref x, .ref y] ∧ P.U.heap = h ∧ P.cells + 0 ≤ R.cells ∧ P.slots + 0 ≤ R.slots)
      (fun P _ v B => ∃ L, (((v = some (.int 1) ∧ cs = ds) ∨ (v = some (.int 0) ∧ ¬ cs = ds)) ∧ L = [] ∧ B.U.heap = h) ∧ B.locs = P.locs ++ L ∧ B.cells = P.cells + 0 ∧ B.slots = P.slots + 0) := by
  intro m meth c P g ig mk a X hg hsize hdg hW hn hp'
  obtain ⟨rfl, rfl, r1, r2⟩ := hp'
  have al : Z.vm.Alike P.U.vm := hZ.alike.trans X.warmed.alike
  obtain ⟨A, hx⟩ := txt_of wi al E V C K hc hb l2
  obtain ⟨A', hy⟩ := txt_of wi al E' V' C' K' hc' hb' l2'
  obtain ⟨v, B, X', ⟨⟨w, hv, hh, hq⟩, hl, hk, hs⟩, st⟩ := SEq.pays x t A cd cs.length (fun j => cs.getD j 0) y t' A' cd' ds.length (fun j => ds.getD j 0) z (tabEq_of (movedEq hZ hw)) hfr hlo m meth c P g ig mk _ X hg hsize hdg hW hn ⟨r1, r2, rfl, hx, hy, sta_is al S, hz⟩
  refine ⟨v, B, X', ⟨[], ⟨?_, rfl, hh⟩, hl, hk, hs⟩, st⟩
  rcases hq with ⟨rfl, q⟩ | ⟨rfl, q⟩
  · exact Or.inl ⟨hv, (same_list cs ds).mp q⟩
  · exact Or.inr ⟨hv, fun e => q ((same_list cs ds).mpr e)⟩
end StrChars.Road
namespace StrChars.Road
open Jvm Sem ClassFile Op Lib Jvm.Stand Jvm.Free Jvm.Free.XT
open Jvm.Lib.Cold (StaticIs)
/-- what backV says of its String, as the contracts of this text ask it: cs's low bytes, coder 0 -/
theorem codOf {cs : List Int32} {n : Nat} (hn : cs.length = n) (hb : ∀ c ∈ cs, ¬ 255 < c) : CodA cs 0 (Int32.ofNat n) ((cs.map lo8).map Value.int) := Or.inl ⟨rfl, by rw [hn], by simp [List.map_map, Function.comp_def], hb⟩
end StrChars.Road
end Jvm.Pilot.@@N@@

namespace Jvm.Pilot.@@N@@
open Jvm Jvm.ClassFile Sem Op Lib Jvm.Free Jvm.Stand Jvm.LawKit Jvm.RoadKit Bundle Jvm.Pilot.@@N@@.Jvm.D
/-- what is left to show at a state of the walk -/
def own_G (p : Program) (e : Env) (below : List Frame) (Q : Outcome → State → Prop) (S : State) : Prop := ∃ s₂ o, Steps p.tables e below S s₂ ∧ s₂.status = .running ∧ Ended s₂ below o ∧ Q o s₂
theorem own_st {p : Program} {e : Env} {below : List Frame} {Q : Outcome → State → Prop} {S S' : State} (h : ∀ t, Steps p.tables e below S' t → Steps p.tables e below S t) (g : own_G p e below Q S') : own_G p e below Q S := by
  obtain ⟨s₂, o, a, b⟩ := g
  exact ⟨s₂, o, h _ a, b⟩
theorem own_lt {a b : Nat} (h : a < b) : a < b := h
theorem own_le {a b : Nat} (h : a ≤ b) : a ≤ b := h
theorem own_ne {a b : Nat} (h : a ≠ b) : a ≠ b := h
theorem own_since (s : State) : s.Since s.vm 0 := (State.WarmedH.refl s).since 0
/-- a contract's start: the arguments, the tables, the heap, the constants held, what may be written is no constant's -/
def own_P (Z : State) (EL : List (String × Nat)) (as : Array Value) (h : Heap) (ws : List Addr) : Array Value → State → Prop := fun a U => a = as ∧ Z.Warmed39 U.vm ∧ U.heap = h ∧ CHv Z EL U.vm h ∧ ∀ x ∈ ws, Safe Z EL U.vm h x
/-- a contract's end -/
def own_E (Z : State) (EL : List (String × Nat)) (Q : Option Value → Vm → Heap → List Loc → Prop) (rm : Room) : Array Value → State → Outcome → State → Prop := fun _ U o U' => ∃ v L, o = .returned v ∧ Q v U'.vm U'.heap L ∧ CHr Z EL U.vm U.heap U'.vm U'.heap ∧ ReturnedEndW U o U' L rm.cells rm.slots
theorem own_RW {U U' : State} {o : Outcome} {L : List Loc} {k n k' n' : Nat} (h : ReturnedEndW U o U' L k n) (h1 : k ≤ k') (h2 : n ≤ n') : ReturnedEndW U o U' L k' n' := ⟨h.1, h.2.1, h.2.2.1, h.2.2.2.mono h1 h2⟩
/-- a callee that may load constants, by its contract -/
theorem own_back {p : Program} {l : Launch} {e : Env} {R : Room} {s : State} {args : Array Value} {below : List Frame} {Z : State} {a0 : Array Value} {EL : List (String × Nat)} {h : Heap} {vm0 : Vm} {y : MethodName} {bytes : ByteArray} {maxL : Nat} {ret : Option FieldType} {rm : Room} {len W : Nat} {as' : Array Value} {ws : List Addr} {Q : Option Value → Vm → Heap → List Loc → Prop}
    (hM : MetFree l y (head1 [Cond.code y bytes maxL ret] rm) (own_P Z EL as' h ws) (fun _ _ _ _ _ => True) (own_E Z EL Q rm))
    (hZ : Z.Warmed39 vm0) (wc : (Cond.code y bytes maxL ret).before a0 Z = true) (wz : (Cond.initialized y.cls).before a0 Z = true) (hf : rm.frames + 1 ≤ R.frames) (hl : W + (maxL + 11) + rm.locals ≤ R.locals) (hEL : EW Z a0 EL) (H : CHv Z EL vm0 h) (hs : ∀ x ∈ ws, x < h.size ∧ Safe Z EL vm0 h x) :
    BackS l R p e below (s.setVm vm0) args y len W (fun A a => a = as' ∧ A.U.heap = h ∧ A.cells + rm.cells ≤ R.cells ∧ A.slots + rm.slots ≤ R.slots)
      (fun A _ v B => ∃ L, Q v B.U.vm B.U.heap L ∧ B.locs = A.locs ++ L ∧ B.cells = A.cells + rm.cells ∧ B.slots = A.slots + rm.slots ∧ CHr Z EL vm0 h B.U.vm B.U.heap) := by
  refine BackS.of_freeW (bytes := bytes) (maxL := maxL) (ret := ret) (E := fun _ first o t L k n => k = rm.cells ∧ n = rm.slots ∧ (∃ v, o = .returned v ∧ Q v t.vm t.heap L) ∧ CHr Z EL first.vm first.heap t.vm t.heap) hM hf hl ?_ ?_ (fun _ _ _ _ _ _ _ _ _ => trivial) ?_ ?_
  · intro m meth c A a Y hp
    have hU : Z.Warmed39 A.U.vm := wtrans (s := s.setVm vm0) hZ Y.warmed
    exact ⟨by show (Cond.and _ .tt).before a A.U = true; rw [Cond.before_and, mv hU wc]; rfl, mv hU wc, mv hU wz, hp.2.2.1, hp.2.2.2⟩
  · intro m meth c A a g mk Y hp
    have q := CHv.at Y hZ hEL H
    exact ⟨hp.1, wtrans (s := s.setVm vm0) hZ Y.warmed, hp.2.1, q.1, fun x hx => q.safe (hs x hx).1 (hs x hx).2⟩
  · rintro _ _ _ _ ⟨v, L, h1, h2, h3, h4⟩
    exact ⟨L, _, _, h4, rfl, rfl, ⟨v, h1, h2⟩, h3⟩
  · rintro m meth c A a g mk v t L k n Y hp _ _ ⟨e1, e2, ⟨v', e3, e4⟩, e5⟩
    cases e3; subst e1 e2
    refine ⟨L, e4, rfl, rfl, rfl, (CHv.at Y hZ hEL H).trans ?_⟩
    rw [← hp.2.1]; exact e5
/-- the end of a contract that loads no constant -/
def own_EN (Q : Option Value → Heap → List Loc → Prop) (rm : Room) : Array Value → State → Outcome → State → Prop := fun _ U o U' => ∃ v L, o = .returned v ∧ Q v U'.heap L ∧ FrameEnd U o U' L rm.cells rm.slots
theorem own_backN {p : Program} {l : Launch} {e : Env} {R : Room} {s : State} {args : Array Value} {below : List Frame} {Z : State} {a0 : Array Value} {h : Heap} {y : MethodName} {bytes : ByteArray} {maxL : Nat} {ret : Option FieldType} {rm : Room} {len W : Nat} {as' : Array Value} {Q : Option Value → Heap → List Loc → Prop}
    (hM : MetFree l y (head1 [Cond.code y bytes maxL ret] rm) (fun a U => a = as' ∧ Z.Warmed39 U.vm ∧ U.heap = h) (fun _ _ _ _ _ => True) (own_EN Q rm))
    (hZ : Z.Warmed39 s.vm) (wc : (Cond.code y bytes maxL ret).before a0 Z = true) (wz : (Cond.initialized y.cls).before a0 Z = true) (hf : rm.frames + 1 ≤ R.frames) (hl : W + (maxL + 11) + rm.locals ≤ R.locals) :
    Back l R p e below s args y len W (fun A a => a = as' ∧ A.U.heap = h ∧ A.cells + rm.cells ≤ R.cells ∧ A.slots + rm.slots ≤ R.slots)
      (fun A _ v B => ∃ L, Q v B.U.heap L ∧ B.locs = A.locs ++ L ∧ B.cells = A.cells + rm.cells ∧ B.slots = A.slots + rm.slots) := backOf (Q := Q) hM hZ wc wz hf hl
theorem own_wS {a0 : Array Value} {Z : State} (hw : ∀ d ∈ tables_1, d.before a0 Z = true) : ∀ a ∈ Bundle.stringAtoms, a.before a0 Z = true := fun d hd => hw d ((by decide +kernel : ∀ d ∈ Bundle.stringAtoms, d ∈ tables_1) d hd)
theorem own_and255 (x : Int32) : ¬ nar .char ((x &&& (255 : Int32)).toUInt32.toUInt16.toUInt32.toInt32) < 0 ∧ ¬ (255 : Int32) < nar .char ((x &&& (255 : Int32)).toUInt32.toUInt16.toUInt32.toInt32) := by
  have t : ∀ k : Fin 256, ¬ nar .char ((Int32.ofNat k.val).toUInt32.toUInt16.toUInt32.toInt32) < 0 ∧ ¬ (255 : Int32) < nar .char ((Int32.ofNat k.val).toUInt32.toUInt16.toUInt32.toInt32) := by decide +kernel
  have h : (x &&& 255).toBitVec.toNat < 256 := by
    simp only [Int32.toBitVec_and, BitVec.toNat_and]
    exact Nat.lt_succ_of_le Nat.and_le_right
  have e : (x &&& 255) = Int32.ofNat (x &&& 255).toBitVec.toNat := by
    apply Int32.toBitVec_inj.mp
    show _ = BitVec.ofNat 32 _
    rw [BitVec.ofNat_toNat]; simp
  rw [e]
  exact t ⟨_, h⟩
theorem own_and255b (x : Int32) : ¬ ((x &&& (255 : Int32)).toUInt32.toUInt16.toUInt32.toInt32) < 0 ∧ ¬ (255 : Int32) < ((x &&& (255 : Int32)).toUInt32.toUInt16.toUInt32.toInt32) := by
  have e : nar .char ((x &&& (255 : Int32)).toUInt32.toUInt16.toUInt32.toInt32) = ((x &&& (255 : Int32)).toUInt32.toUInt16.toUInt32.toInt32) := by simp only [nar, UInt32.toUInt32_toInt32, UInt16.toUInt16_toUInt32]
  have q := own_and255 x
  rw [e] at q
  exact q

/-- a String of known chars below 256; a, and its byte[], lie below n -/
def own_Str (Z : State) (n : Nat) (h : Heap) (a : Nat) (cs : List Int32) : Prop := a < n ∧ Exa Z h a "java/lang/String" ∧ (∀ c ∈ cs, ¬ c < 0 ∧ ¬ (255 : Int32) < c) ∧ cs.length ≤ 4000 ∧ ∃ (t : Nat) (kb : ClassId), t < n ∧ Fld Z h a "java/lang/String" "value" "[B" (.ref t) ∧ Fld Z h a "java/lang/String" "coder" "B" (.int 0) ∧ Arv Z h t kb .byte (Int32.ofNat cs.length) ((cs.map fun c => c.toInt8.toInt32).map Value.int) (.int 0)
theorem own_Str.keep {Z : State} {n : Nat} {h h' : Heap} {a : Nat} {cs : List Int32} {ws : List Addr} (F : own_Str Z n h a cs) (K : Keep h h' ws) (q : ∀ x ∈ ws, n ≤ x) : own_Str Z n h' a cs := by
  obtain ⟨f1, f2, f3, f4, t, kb, f5, f6, f7, f8⟩ := F
  exact ⟨f1, f2.keep K, f3, f4, t, kb, f5, f6.keep K (fun m => absurd f1 (Nat.not_lt.mpr (q _ m))), f7.keep K (fun m => absurd f1 (Nat.not_lt.mpr (q _ m))), f8.keep K (fun m => absurd f5 (Nat.not_lt.mpr (q _ m)))⟩
theorem own_Str.keepX {Z : State} {a0 : Array Value} {n k : Nat} {h h' : Heap} {a x : Nat} {C : String} {cs : List Int32} (F : own_Str Z n h a cs) (K : Keep h h' [x]) (E : Exa Z h x C) (w : (Cond.instantiable C k).before a0 Z = true) (hC : C ≠ "java/lang/String") : own_Str Z n h' a cs := by
  obtain ⟨f1, f2, f3, f4, t, kb, f5, f6, f7, f8⟩ := F
  have n1 : a ≠ x := fun q => (E.ne f2 hC) q.symm
  have n2 : t ≠ x := fun q => (E.neArv f8 w) q.symm
  exact ⟨f1, f2.keep K, f3, f4, t, kb, f5, f6.keep K (ninS n1 nin0), f7.keep K (ninS n1 nin0), f8.keep K (ninS n2 nin0)⟩
theorem own_Str.ext {Z : State} {n : Nat} {h h' : Heap} {a : Nat} {cs : List Int32} (F : own_Str Z n h a cs) (E : Ext h h') : own_Str Z n h' a cs := by
  obtain ⟨f1, f2, f3, f4, t, kb, f5, f6, f7, f8⟩ := F
  exact ⟨f1, f2.ext E, f3, f4, t, kb, f5, f6.ext E, f7.ext E, f8.ext E⟩
theorem own_Str.wr {Z : State} {n : Nat} {h h' : Heap} {a b : Nat} {sl : Nat} {v : Value} {cs : List Int32} (F : own_Str Z n h a cs) (W : Wr h h' b sl v) (q : n ≤ b) : own_Str Z n h' a cs := F.keep (Keep.of_wr W) (allS q all0)
theorem own_Str.mono {Z : State} {n n' : Nat} {h : Heap} {a : Nat} {cs : List Int32} (F : own_Str Z n h a cs) (q : n ≤ n') : own_Str Z n' h a cs := by
  obtain ⟨f1, f2, f3, f4, t, kb, f5, f6⟩ := F
  exact ⟨Nat.lt_of_lt_of_le f1 q, f2, f3, f4, t, kb, Nat.lt_of_lt_of_le f5 q, f6⟩
theorem own_pn0 : plainName "java/lang/String" = true := by first | (simp [plainName, overriddenIn]; done) | decide +kernel
theorem dS4_0 : Jvm.ClassFile.decode jdk_42_method_149_code 0 = .ok (.aload_n 0, 1) := by decide +kernel
theorem dS4_1 : Jvm.ClassFile.decode jdk_42_method_149_code 1 = .ok (.invokespecial 1, 3) := by decide +kernel
theorem dS4_4 : Jvm.ClassFile.decode jdk_42_method_149_code 4 = .ok (.iload_n 3, 1) := by decide +kernel
theorem dS4_5 : Jvm.ClassFile.decode jdk_42_method_149_code 5 = .ok (.ifCond .ne 22, 3) := by decide +kernel
theorem dS4_8 : Jvm.ClassFile.decode jdk_42_method_149_code 8 = .ok (.aload_n 0, 1) := by decide +kernel
theorem dS4_9 : Jvm.ClassFile.decode jdk_42_method_149_code 9 = .ok (.ldc 7, 2) := by decide +kernel
theorem dS4_11 : Jvm.ClassFile.decode jdk_42_method_149_code 11 = .ok (.getfield 9, 3) := by decide +kernel
theorem dS4_14 : Jvm.ClassFile.decode jdk_42_method_149_code 14 = .ok (.putfield 9, 3) := by decide +kernel
theorem dS4_17 : Jvm.ClassFile.decode jdk_42_method_149_code 17 = .ok (.aload_n 0, 1) := by decide +kernel
theorem dS4_18 : Jvm.ClassFile.decode jdk_42_method_149_code 18 = .ok (.ldc 7, 2) := by decide +kernel
theorem dS4_20 : Jvm.ClassFile.decode jdk_42_method_149_code 20 = .ok (.getfield 15, 3) := by decide +kernel
theorem dS4_23 : Jvm.ClassFile.decode jdk_42_method_149_code 23 = .ok (.putfield 15, 3) := by decide +kernel
theorem dS4_26 : Jvm.ClassFile.decode jdk_42_method_149_code 26 = .ok (.return_, 1) := by decide +kernel
theorem dS1_0 : Jvm.ClassFile.decode jdk_42_method_3_code 0 = .ok (.aload_n 0, 1) := by decide +kernel
theorem dS1_1 : Jvm.ClassFile.decode jdk_42_method_3_code 1 = .ok (.aload_n 1, 1) := by decide +kernel
theorem dS1_2 : Jvm.ClassFile.decode jdk_42_method_3_code 2 = .ok (.iconst 0, 1) := by decide +kernel
theorem dS1_3 : Jvm.ClassFile.decode jdk_42_method_3_code 3 = .ok (.aload_n 1, 1) := by decide +kernel
theorem dS1_4 : Jvm.ClassFile.decode jdk_42_method_3_code 4 = .ok (.arraylength, 1) := by decide +kernel
theorem dS1_5 : Jvm.ClassFile.decode jdk_42_method_3_code 5 = .ok (.aconst_null, 1) := by decide +kernel
theorem dS1_6 : Jvm.ClassFile.decode jdk_42_method_3_code 6 = .ok (.invokespecial 27, 3) := by decide +kernel
theorem own_pd0 : parseMethodDescriptor "([CIILjava/lang/Void;)V" = some ⟨[(.array .char), .int, .int, (.object "java/lang/Void")], none⟩ := by decide +kernel
theorem dS1_9 : Jvm.ClassFile.decode jdk_42_method_3_code 9 = .ok (.return_, 1) := by decide +kernel
theorem own_pn1 : plainFor (⟨"java/lang/Math", "min", "(II)I"⟩ : MethodName) = true := by decide +kernel
theorem dMI_0 : Jvm.ClassFile.decode jdk_29_method_69_code 0 = .ok (.iload_n 0, 1) := by decide +kernel
theorem dMI_1 : Jvm.ClassFile.decode jdk_29_method_69_code 1 = .ok (.iload_n 1, 1) := by decide +kernel
theorem dMI_2 : Jvm.ClassFile.decode jdk_29_method_69_code 2 = .ok (.if_icmp .gt 7, 3) := by decide +kernel
theorem dMI_9 : Jvm.ClassFile.decode jdk_29_method_69_code 9 = .ok (.iload_n 1, 1) := by decide +kernel
theorem dMI_10 : Jvm.ClassFile.decode jdk_29_method_69_code 10 = .ok (.ireturn, 1) := by decide +kernel
theorem dMI_5 : Jvm.ClassFile.decode jdk_29_method_69_code 5 = .ok (.iload_n 0, 1) := by decide +kernel
theorem dMI_6 : Jvm.ClassFile.decode jdk_29_method_69_code 6 = .ok (.goto 4, 3) := by decide +kernel
theorem own_pn2 : plainName "com/example/garm/garm/ChoiceEqualsPinLaw" = true := by first | (simp [plainName, overriddenIn]; done) | decide +kernel
theorem dLE_0 : Jvm.ClassFile.decode method_2_code 0 = .ok (.iload_n 0, 1) := by decide +kernel
theorem dLE_1 : Jvm.ClassFile.decode method_2_code 1 = .ok (.iconst 3, 1) := by decide +kernel
theorem dLE_2 : Jvm.ClassFile.decode method_2_code 2 = .ok (.iand, 1) := by decide +kernel
theorem dLE_3 : Jvm.ClassFile.decode method_2_code 3 = .ok (.iconst 2, 1) := by decide +kernel
theorem dLE_4 : Jvm.ClassFile.decode method_2_code 4 = .ok (.invokestatic 7, 3) := by decide +kernel
theorem own_pd1 : parseMethodDescriptor "(II)I" = some ⟨[.int, .int], some .int⟩ := by decide +kernel
theorem dLE_7 : Jvm.ClassFile.decode method_2_code 7 = .ok (.ireturn, 1) := by decide +kernel
theorem dC0_0 : Jvm.ClassFile.decode method_3_code 0 = .ok (.iload_n 0, 1) := by decide +kernel
theorem dC0_1 : Jvm.ClassFile.decode method_3_code 1 = .ok (.iconst 2, 1) := by decide +kernel
theorem dC0_2 : Jvm.ClassFile.decode method_3_code 2 = .ok (.iushr, 1) := by decide +kernel
theorem dC0_3 : Jvm.ClassFile.decode method_3_code 3 = .ok (.sipush 255, 3) := by decide +kernel
theorem dC0_6 : Jvm.ClassFile.decode method_3_code 6 = .ok (.iand, 1) := by decide +kernel
theorem dC0_7 : Jvm.ClassFile.decode method_3_code 7 = .ok (.i2c, 1) := by decide +kernel
theorem dC0_8 : Jvm.ClassFile.decode method_3_code 8 = .ok (.ireturn, 1) := by decide +kernel
theorem dC1_0 : Jvm.ClassFile.decode method_4_code 0 = .ok (.iload_n 0, 1) := by decide +kernel
theorem dC1_1 : Jvm.ClassFile.decode method_4_code 1 = .ok (.bipush 10, 2) := by decide +kernel
theorem dC1_3 : Jvm.ClassFile.decode method_4_code 3 = .ok (.iushr, 1) := by decide +kernel
theorem dC1_4 : Jvm.ClassFile.decode method_4_code 4 = .ok (.sipush 255, 3) := by decide +kernel
theorem dC1_7 : Jvm.ClassFile.decode method_4_code 7 = .ok (.iand, 1) := by decide +kernel
theorem dC1_8 : Jvm.ClassFile.decode method_4_code 8 = .ok (.i2c, 1) := by decide +kernel
theorem dC1_9 : Jvm.ClassFile.decode method_4_code 9 = .ok (.ireturn, 1) := by decide +kernel
theorem dST_0 : Jvm.ClassFile.decode method_5_code 0 = .ok (.iload_n 0, 1) := by decide +kernel
theorem dST_1 : Jvm.ClassFile.decode method_5_code 1 = .ok (.invokestatic 13, 3) := by decide +kernel
theorem own_pd2 : parseMethodDescriptor "(I)I" = some ⟨[.int], some .int⟩ := by decide +kernel
theorem dST_4 : Jvm.ClassFile.decode method_5_code 4 = .ok (.istore_n 1, 1) := by decide +kernel
theorem dST_5 : Jvm.ClassFile.decode method_5_code 5 = .ok (.iload_n 1, 1) := by decide +kernel
theorem dST_6 : Jvm.ClassFile.decode method_5_code 6 = .ok (.ifCond .ne 14, 3) := by decide +kernel
theorem dST_9 : Jvm.ClassFile.decode method_5_code 9 = .ok (.new 19, 3) := by decide +kernel
theorem dST_12 : Jvm.ClassFile.decode method_5_code 12 = .ok (.dup, 1) := by decide +kernel
theorem dST_13 : Jvm.ClassFile.decode method_5_code 13 = .ok (.iconst 0, 1) := by decide +kernel
theorem dST_14 : Jvm.ClassFile.decode method_5_code 14 = .ok (.newarray .char, 2) := by decide +kernel
theorem dST_16 : Jvm.ClassFile.decode method_5_code 16 = .ok (.invokespecial 21, 3) := by decide +kernel
theorem own_pd3 : parseMethodDescriptor "([C)V" = some ⟨[(.array .char)], none⟩ := by decide +kernel
theorem dST_19 : Jvm.ClassFile.decode method_5_code 19 = .ok (.areturn, 1) := by decide +kernel
theorem dST_20 : Jvm.ClassFile.decode method_5_code 20 = .ok (.iload_n 1, 1) := by decide +kernel
theorem dST_21 : Jvm.ClassFile.decode method_5_code 21 = .ok (.iconst 1, 1) := by decide +kernel
theorem dST_22 : Jvm.ClassFile.decode method_5_code 22 = .ok (.if_icmp .ne 23, 3) := by decide +kernel
theorem dST_25 : Jvm.ClassFile.decode method_5_code 25 = .ok (.iconst 1, 1) := by decide +kernel
theorem dST_26 : Jvm.ClassFile.decode method_5_code 26 = .ok (.newarray .char, 2) := by decide +kernel
theorem dST_28 : Jvm.ClassFile.decode method_5_code 28 = .ok (.astore_n 2, 1) := by decide +kernel
theorem dST_29 : Jvm.ClassFile.decode method_5_code 29 = .ok (.aload_n 2, 1) := by decide +kernel
theorem dST_30 : Jvm.ClassFile.decode method_5_code 30 = .ok (.iconst 0, 1) := by decide +kernel
theorem dST_31 : Jvm.ClassFile.decode method_5_code 31 = .ok (.iload_n 0, 1) := by decide +kernel
theorem dST_32 : Jvm.ClassFile.decode method_5_code 32 = .ok (.invokestatic 24, 3) := by decide +kernel
theorem own_pd4 : parseMethodDescriptor "(I)C" = some ⟨[.int], some .char⟩ := by decide +kernel
theorem dST_35 : Jvm.ClassFile.decode method_5_code 35 = .ok (.castore, 1) := by decide +kernel
theorem dST_36 : Jvm.ClassFile.decode method_5_code 36 = .ok (.new 19, 3) := by decide +kernel
theorem dST_39 : Jvm.ClassFile.decode method_5_code 39 = .ok (.dup, 1) := by decide +kernel
theorem dST_40 : Jvm.ClassFile.decode method_5_code 40 = .ok (.aload_n 2, 1) := by decide +kernel
theorem dST_41 : Jvm.ClassFile.decode method_5_code 41 = .ok (.invokespecial 21, 3) := by decide +kernel
theorem dST_44 : Jvm.ClassFile.decode method_5_code 44 = .ok (.areturn, 1) := by decide +kernel
theorem dST_45 : Jvm.ClassFile.decode method_5_code 45 = .ok (.iconst 2, 1) := by decide +kernel
theorem dST_46 : Jvm.ClassFile.decode method_5_code 46 = .ok (.newarray .char, 2) := by decide +kernel
theorem dST_48 : Jvm.ClassFile.decode method_5_code 48 = .ok (.astore_n 2, 1) := by decide +kernel
theorem dST_49 : Jvm.ClassFile.decode method_5_code 49 = .ok (.aload_n 2, 1) := by decide +kernel
theorem dST_50 : Jvm.ClassFile.decode method_5_code 50 = .ok (.iconst 0, 1) := by decide +kernel
theorem dST_51 : Jvm.ClassFile.decode method_5_code 51 = .ok (.iload_n 0, 1) := by decide +kernel
theorem dST_52 : Jvm.ClassFile.decode method_5_code 52 = .ok (.invokestatic 24, 3) := by decide +kernel
theorem dST_55 : Jvm.ClassFile.decode method_5_code 55 = .ok (.castore, 1) := by decide +kernel
theorem dST_56 : Jvm.ClassFile.decode method_5_code 56 = .ok (.aload_n 2, 1) := by decide +kernel
theorem dST_57 : Jvm.ClassFile.decode method_5_code 57 = .ok (.iconst 1, 1) := by decide +kernel
theorem dST_58 : Jvm.ClassFile.decode method_5_code 58 = .ok (.iload_n 0, 1) := by decide +kernel
theorem dST_59 : Jvm.ClassFile.decode method_5_code 59 = .ok (.invokestatic 28, 3) := by decide +kernel
theorem dST_62 : Jvm.ClassFile.decode method_5_code 62 = .ok (.castore, 1) := by decide +kernel
theorem dST_63 : Jvm.ClassFile.decode method_5_code 63 = .ok (.new 19, 3) := by decide +kernel
theorem dST_66 : Jvm.ClassFile.decode method_5_code 66 = .ok (.dup, 1) := by decide +kernel
theorem dST_67 : Jvm.ClassFile.decode method_5_code 67 = .ok (.aload_n 2, 1) := by decide +kernel
theorem dST_68 : Jvm.ClassFile.decode method_5_code 68 = .ok (.invokespecial 21, 3) := by decide +kernel
theorem dST_71 : Jvm.ClassFile.decode method_5_code 71 = .ok (.areturn, 1) := by decide +kernel
theorem dSK_0 : Jvm.ClassFile.decode method_6_code 0 = .ok (.iload_n 0, 1) := by decide +kernel
theorem dSK_1 : Jvm.ClassFile.decode method_6_code 1 = .ok (.invokestatic 13, 3) := by decide +kernel
theorem dSK_4 : Jvm.ClassFile.decode method_6_code 4 = .ok (.istore_n 2, 1) := by decide +kernel
theorem dSK_5 : Jvm.ClassFile.decode method_6_code 5 = .ok (.iload_n 1, 1) := by decide +kernel
theorem dSK_6 : Jvm.ClassFile.decode method_6_code 6 = .ok (.invokestatic 13, 3) := by decide +kernel
theorem dSK_9 : Jvm.ClassFile.decode method_6_code 9 = .ok (.istore_n 3, 1) := by decide +kernel
theorem dSK_10 : Jvm.ClassFile.decode method_6_code 10 = .ok (.iload_n 2, 1) := by decide +kernel
theorem dSK_11 : Jvm.ClassFile.decode method_6_code 11 = .ok (.iload_n 3, 1) := by decide +kernel
theorem dSK_12 : Jvm.ClassFile.decode method_6_code 12 = .ok (.if_icmp .eq 5, 3) := by decide +kernel
theorem dSK_17 : Jvm.ClassFile.decode method_6_code 17 = .ok (.iload_n 2, 1) := by decide +kernel
theorem dSK_18 : Jvm.ClassFile.decode method_6_code 18 = .ok (.iconst 1, 1) := by decide +kernel
theorem dSK_19 : Jvm.ClassFile.decode method_6_code 19 = .ok (.if_icmp .lt 16, 3) := by decide +kernel
theorem dSK_35 : Jvm.ClassFile.decode method_6_code 35 = .ok (.iload_n 2, 1) := by decide +kernel
theorem dSK_36 : Jvm.ClassFile.decode method_6_code 36 = .ok (.iconst 2, 1) := by decide +kernel
theorem dSK_37 : Jvm.ClassFile.decode method_6_code 37 = .ok (.if_icmp .lt 16, 3) := by decide +kernel
theorem dSK_53 : Jvm.ClassFile.decode method_6_code 53 = .ok (.iconst 1, 1) := by decide +kernel
theorem dSK_54 : Jvm.ClassFile.decode method_6_code 54 = .ok (.ireturn, 1) := by decide +kernel
theorem dSK_40 : Jvm.ClassFile.decode method_6_code 40 = .ok (.iload_n 0, 1) := by decide +kernel
theorem dSK_41 : Jvm.ClassFile.decode method_6_code 41 = .ok (.invokestatic 28, 3) := by decide +kernel
theorem dSK_44 : Jvm.ClassFile.decode method_6_code 44 = .ok (.iload_n 1, 1) := by decide +kernel
theorem dSK_45 : Jvm.ClassFile.decode method_6_code 45 = .ok (.invokestatic 28, 3) := by decide +kernel
theorem dSK_48 : Jvm.ClassFile.decode method_6_code 48 = .ok (.if_icmp .eq 5, 3) := by decide +kernel
theorem dSK_51 : Jvm.ClassFile.decode method_6_code 51 = .ok (.iconst 0, 1) := by decide +kernel
theorem dSK_52 : Jvm.ClassFile.decode method_6_code 52 = .ok (.ireturn, 1) := by decide +kernel
theorem dSK_22 : Jvm.ClassFile.decode method_6_code 22 = .ok (.iload_n 0, 1) := by decide +kernel
theorem dSK_23 : Jvm.ClassFile.decode method_6_code 23 = .ok (.invokestatic 24, 3) := by decide +kernel
theorem dSK_26 : Jvm.ClassFile.decode method_6_code 26 = .ok (.iload_n 1, 1) := by decide +kernel
theorem dSK_27 : Jvm.ClassFile.decode method_6_code 27 = .ok (.invokestatic 24, 3) := by decide +kernel
theorem dSK_30 : Jvm.ClassFile.decode method_6_code 30 = .ok (.if_icmp .eq 5, 3) := by decide +kernel
theorem dSK_33 : Jvm.ClassFile.decode method_6_code 33 = .ok (.iconst 0, 1) := by decide +kernel
theorem dSK_34 : Jvm.ClassFile.decode method_6_code 34 = .ok (.ireturn, 1) := by decide +kernel
theorem dSK_15 : Jvm.ClassFile.decode method_6_code 15 = .ok (.iconst 0, 1) := by decide +kernel
theorem dSK_16 : Jvm.ClassFile.decode method_6_code 16 = .ok (.ireturn, 1) := by decide +kernel
theorem own_pn3 : plainName "com/example/garm/garm/SecurityTarget$Choice" = true := by first | (simp [plainName, overriddenIn]; done) | decide +kernel
theorem dCI_0 : Jvm.ClassFile.decode prog_39_method_1_code 0 = .ok (.aload_n 0, 1) := by decide +kernel
theorem dCI_1 : Jvm.ClassFile.decode prog_39_method_1_code 1 = .ok (.invokespecial 1, 3) := by decide +kernel
theorem dCI_4 : Jvm.ClassFile.decode prog_39_method_1_code 4 = .ok (.aload_n 0, 1) := by decide +kernel
theorem dCI_5 : Jvm.ClassFile.decode prog_39_method_1_code 5 = .ok (.aload_n 1, 1) := by decide +kernel
theorem dCI_6 : Jvm.ClassFile.decode prog_39_method_1_code 6 = .ok (.putfield 7, 3) := by decide +kernel
theorem dCI_9 : Jvm.ClassFile.decode prog_39_method_1_code 9 = .ok (.aload_n 0, 1) := by decide +kernel
theorem dCI_10 : Jvm.ClassFile.decode prog_39_method_1_code 10 = .ok (.aload_n 2, 1) := by decide +kernel
theorem dCI_11 : Jvm.ClassFile.decode prog_39_method_1_code 11 = .ok (.putfield 13, 3) := by decide +kernel
theorem dCI_14 : Jvm.ClassFile.decode prog_39_method_1_code 14 = .ok (.aload_n 0, 1) := by decide +kernel
theorem dCI_15 : Jvm.ClassFile.decode prog_39_method_1_code 15 = .ok (.aload_n 3, 1) := by decide +kernel
theorem dCI_16 : Jvm.ClassFile.decode prog_39_method_1_code 16 = .ok (.putfield 16, 3) := by decide +kernel
theorem dCI_19 : Jvm.ClassFile.decode prog_39_method_1_code 19 = .ok (.return_, 1) := by decide +kernel
theorem dEQ_0 : Jvm.ClassFile.decode prog_39_method_2_code 0 = .ok (.aload_n 1, 1) := by decide +kernel
theorem dEQ_1 : Jvm.ClassFile.decode prog_39_method_2_code 1 = .ok (.instanceof 8, 3) := by decide +kernel
theorem dEQ_4 : Jvm.ClassFile.decode prog_39_method_2_code 4 = .ok (.ifCond .eq 54, 3) := by decide +kernel
theorem dEQ_7 : Jvm.ClassFile.decode prog_39_method_2_code 7 = .ok (.aload_n 1, 1) := by decide +kernel
theorem dEQ_8 : Jvm.ClassFile.decode prog_39_method_2_code 8 = .ok (.checkcast 8, 3) := by decide +kernel
theorem dEQ_11 : Jvm.ClassFile.decode prog_39_method_2_code 11 = .ok (.astore_n 2, 1) := by decide +kernel
theorem dEQ_12 : Jvm.ClassFile.decode prog_39_method_2_code 12 = .ok (.aload_n 0, 1) := by decide +kernel
theorem dEQ_13 : Jvm.ClassFile.decode prog_39_method_2_code 13 = .ok (.getfield 7, 3) := by decide +kernel
theorem dEQ_16 : Jvm.ClassFile.decode prog_39_method_2_code 16 = .ok (.aload_n 2, 1) := by decide +kernel
theorem dEQ_17 : Jvm.ClassFile.decode prog_39_method_2_code 17 = .ok (.getfield 7, 3) := by decide +kernel
theorem dEQ_20 : Jvm.ClassFile.decode prog_39_method_2_code 20 = .ok (.invokevirtual 19, 3) := by decide +kernel
theorem own_pd5 : parseMethodDescriptor "(Ljava/lang/Object;)Z" = some ⟨[(.object "java/lang/Object")], some .boolean⟩ := by decide +kernel
theorem dEQ_23 : Jvm.ClassFile.decode prog_39_method_2_code 23 = .ok (.ifCond .eq 35, 3) := by decide +kernel
theorem dEQ_26 : Jvm.ClassFile.decode prog_39_method_2_code 26 = .ok (.aload_n 0, 1) := by decide +kernel
theorem dEQ_27 : Jvm.ClassFile.decode prog_39_method_2_code 27 = .ok (.getfield 13, 3) := by decide +kernel
theorem dEQ_30 : Jvm.ClassFile.decode prog_39_method_2_code 30 = .ok (.aload_n 2, 1) := by decide +kernel
theorem dEQ_31 : Jvm.ClassFile.decode prog_39_method_2_code 31 = .ok (.getfield 13, 3) := by decide +kernel
theorem dEQ_34 : Jvm.ClassFile.decode prog_39_method_2_code 34 = .ok (.invokevirtual 19, 3) := by decide +kernel
theorem dEQ_37 : Jvm.ClassFile.decode prog_39_method_2_code 37 = .ok (.ifCond .eq 21, 3) := by decide +kernel
theorem dEQ_40 : Jvm.ClassFile.decode prog_39_method_2_code 40 = .ok (.aload_n 0, 1) := by decide +kernel
theorem dEQ_41 : Jvm.ClassFile.decode prog_39_method_2_code 41 = .ok (.getfield 16, 3) := by decide +kernel
theorem dEQ_44 : Jvm.ClassFile.decode prog_39_method_2_code 44 = .ok (.aload_n 2, 1) := by decide +kernel
theorem dEQ_45 : Jvm.ClassFile.decode prog_39_method_2_code 45 = .ok (.getfield 16, 3) := by decide +kernel
theorem dEQ_48 : Jvm.ClassFile.decode prog_39_method_2_code 48 = .ok (.invokevirtual 19, 3) := by decide +kernel
theorem dEQ_51 : Jvm.ClassFile.decode prog_39_method_2_code 51 = .ok (.ifCond .eq 7, 3) := by decide +kernel
theorem dEQ_54 : Jvm.ClassFile.decode prog_39_method_2_code 54 = .ok (.iconst 1, 1) := by decide +kernel
theorem dEQ_55 : Jvm.ClassFile.decode prog_39_method_2_code 55 = .ok (.goto 4, 3) := by decide +kernel
theorem dEQ_59 : Jvm.ClassFile.decode prog_39_method_2_code 59 = .ok (.ireturn, 1) := by decide +kernel
theorem dEQ_58 : Jvm.ClassFile.decode prog_39_method_2_code 58 = .ok (.iconst 0, 1) := by decide +kernel
theorem dEN_0 : Jvm.ClassFile.decode prog_39_method_2_code 0 = .ok (.aload_n 1, 1) := by decide +kernel
theorem dEN_1 : Jvm.ClassFile.decode prog_39_method_2_code 1 = .ok (.instanceof 8, 3) := by decide +kernel
theorem dEN_4 : Jvm.ClassFile.decode prog_39_method_2_code 4 = .ok (.ifCond .eq 54, 3) := by decide +kernel
theorem dEN_58 : Jvm.ClassFile.decode prog_39_method_2_code 58 = .ok (.iconst 0, 1) := by decide +kernel
theorem dEN_59 : Jvm.ClassFile.decode prog_39_method_2_code 59 = .ok (.ireturn, 1) := by decide +kernel
theorem dES_0 : Jvm.ClassFile.decode prog_39_method_2_code 0 = .ok (.aload_n 1, 1) := by decide +kernel
theorem dES_1 : Jvm.ClassFile.decode prog_39_method_2_code 1 = .ok (.instanceof 8, 3) := by decide +kernel
theorem dES_4 : Jvm.ClassFile.decode prog_39_method_2_code 4 = .ok (.ifCond .eq 54, 3) := by decide +kernel
theorem dES_58 : Jvm.ClassFile.decode prog_39_method_2_code 58 = .ok (.iconst 0, 1) := by decide +kernel
theorem dES_59 : Jvm.ClassFile.decode prog_39_method_2_code 59 = .ok (.ireturn, 1) := by decide +kernel
theorem own_pd6 : parseMethodDescriptor "(I)Ljava/lang/String;" = some ⟨[.int], some (.object "java/lang/String")⟩ := by decide +kernel
theorem own_pd7 : parseMethodDescriptor "(Ljava/lang/String;Ljava/lang/String;Ljava/lang/String;)V" = some ⟨[(.object "java/lang/String"), (.object "java/lang/String"), (.object "java/lang/String")], none⟩ := by decide +kernel
theorem own_pd8 : parseMethodDescriptor "(II)Z" = some ⟨[.int, .int], some .boolean⟩ := by decide +kernel
def own_QE (Z : State) (x : Nat) (h0 : Heap) (n0 : Nat) (v : Option Value) (h : Heap) (L : List Loc) : Prop := v = none ∧ Fr n0 L ∧ Keep h0 h [x] ∧ ∃ (t : Nat) (kb : ClassId), t ≠ x ∧ Fld Z h x "java/lang/String" "value" "[B" (.ref t) ∧ Fld Z h x "java/lang/String" "coder" "B" (.int 0) ∧ Arv Z h t kb .byte (0 : Int32) [] (.int 0)
theorem ef_own_init4E (m : MethodId) (x0 : Nat) (x1 : Nat) : entryFrame m #[(.ref x0), (.ref x1), (.int (0 : Int32)), (.int (0 : Int32)), .null] 6 = mkF m 0 #[.val (.ref x0), .val (.ref x1), .val (.int (0 : Int32)), .val (.int (0 : Int32)), .val .null, .unset] [] := by first | (simp [entryFrame, mkF, argsToLocals, Value.category]; done) | rfl
set_option maxRecDepth 65536 in
set_option maxHeartbeats 40000000 in
theorem own_init4E (l : Launch) (Z : State) (a0 : Array Value) (hw : ∀ d ∈ tables_1, d.before a0 Z = true) (hEL : EW Z a0 consts_1) (ws : List Jvm.Cond) (x b : Nat) (v0 c0 : Value) (h0 : Heap) (n0 : Nat) (Z0 : n0 ≤ h0.size) (X00 : Old Z n0 h0) (Ex : Exa Z h0 x "java/lang/String") (Fv : Fld Z h0 x "java/lang/String" "value" "[B" v0) (Fc : Fld Z h0 x "java/lang/String" "coder" "B" c0) (gx : n0 ≤ x) (ltx : x < h0.size) :
    MetFree l (⟨"java/lang/String", "<init>", "([CIILjava/lang/Void;)V"⟩ : MethodName) (head1 (Jvm.Cond.code (⟨"java/lang/String", "<init>", "([CIILjava/lang/Void;)V"⟩ : MethodName) jdk_42_method_149_code 6 none :: ws) ({ frames := 1, cells := 2, slots := 4, locals := 12 } : Room)) (own_P Z consts_1 #[(.ref x), (.ref b), (.int (0 : Int32)), (.int (0 : Int32)), .null] h0 [x]) (fun _ _ _ _ _ => True) (own_E Z consts_1 (fun (v : Option Value) (_ : Vm) (h : Heap) (L : List Loc) => own_QE Z x h0 n0 v h L) ({ frames := 1, cells := 2, slots := 4, locals := 12 } : Room)) := by
  refine MetFree.of_bodySF (plainFor_of_name own_pn0) hisR ?_
  intro p e s m args below meth c s₁ Bd hml0 hP hK
  obtain ⟨rfl, hZ, hh, hCH, hSafe⟩ := hP
  have hx := Bd.exec
  have hby := Bd.bytes
  have hml : c.maxLocals = 6 := hml0
  have hown : s.vm.findClass "java/lang/String" = some m.cls := findClass_of_methodNamed Bd.named
  have hnm := (name_of_methodNamed Bd.named Bd.method).1
  have X0 : Stand p l e ({ frames := 1, cells := 2, slots := 4, locals := 12 } : Room) (s.setVm s.vm) m #[(.ref x), (.ref b), (.int (0 : Int32)), (.int (0 : Int32)), .null] below meth c s₁ [] 0 0 := Stand.of_body Bd
  have e0 : s₁.heap = h0 := by rw [← hh, Bd.state]; rfl
  have N0 := Fr.nil n0
  have K0 : Keep h0 h0 [x] := Keep.refl h0 [x]
  have S0 : s.Since s.vm 0 := own_since s
  have C0 : CHr Z consts_1 s.vm h0 s.vm h0 := CHr.refl hCH
  refine show own_G p e below (own_E Z consts_1 (fun (v : Option Value) (_ : Vm) (h : Heap) (L : List Loc) => own_QE Z x h0 n0 v h L) ({ frames := 1, cells := 2, slots := 4, locals := 12 } : Room) #[(.ref x), (.ref b), (.int (0 : Int32)), (.int (0 : Int32)), .null] s) _ from ?_
  refine own_st (fun tq kq => castTop (ef_own_init4E m (x) (b)) kq) ?_
  show own_G p e below _ (s₁.setTop (mkF m 0 #[.val (.ref x), .val (.ref b), .val (.int (0 : Int32)), .val (.int (0 : Int32)), .val .null, .unset] []))
  have hws0 : ∀ y ∈ [x], n0 ≤ y := allS gx all0
  refine own_st (fun tq kq => XS.aloadN X0.here hx rfl (hb hby dS4_0) rfl rfl kq) ?_
  show own_G p e below _ (s₁.setTop (mkF m 1 #[.val (.ref x), .val (.ref b), .val (.int (0 : Int32)), .val (.int (0 : Int32)), .val .null, .unset] [(.ref x)]))
  obtain ⟨T1, X1, e1, st1⟩ := initO X0 hx hZ hown (hw _ (List.mem_of_getElem? (i := 22) rfl)) (hw _ (List.mem_of_getElem? (i := 23) rfl)) (hw _ (List.mem_of_getElem? (i := 24) rfl)) e0 (g := (mkF m 1 #[.val (.ref x), .val (.ref b), .val (.int (0 : Int32)), .val (.int (0 : Int32)), .val .null, .unset] [(.ref x)])) rfl (by rw [hml]; rfl) rfl (hb hby dS4_1) (by decide) (W := 0) (by show 2 * 0 + _ ≤ _; exact Nat.le_of_eq rfl) (by decide)
  refine own_st st1 ?_
  show own_G p e below _ (T1.setTop (mkF m 4 #[.val (.ref x), .val (.ref b), .val (.int (0 : Int32)), .val (.int (0 : Int32)), .val .null, .unset] []))
  refine own_st (fun tq kq => XS.iloadN X1.here hx rfl (hb hby dS4_4) rfl  kq) ?_
  show own_G p e below _ (T1.setTop (mkF m 5 #[.val (.ref x), .val (.ref b), .val (.int (0 : Int32)), .val (.int (0 : Int32)), .val .null, .unset] [(.int (0 : Int32))]))
  refine own_st (fun tq kq => XS.ifNo X1.here hx rfl (hb hby dS4_5) rfl ((if0 _ _).trans (teq (by decide : ((0 : Int32) = (0 : Int32)))).2) kq) ?_
  refine own_st (fun tq kq => XS.aloadN X1.here hx rfl (hb hby dS4_8) rfl rfl kq) ?_
  show own_G p e below _ (T1.setTop (mkF m 9 #[.val (.ref x), .val (.ref b), .val (.int (0 : Int32)), .val (.int (0 : Int32)), .val .null, .unset] [(.ref x)]))
  obtain ⟨a2, T2, h2, k2, b2, kb2, X2, e2, E2, S2, hk2, Z2, o2, Ex2, Fc2, Fv2, Av2, la2, lb2, c2, L2, ne2, st2⟩ := ldcCH (s := s) (vm0 := s.vm) X1 hx hZ hown (hw _ (List.mem_of_getElem? (i := 25) rfl)) (own_wS hw) e1 S0 (own_le (by omega)) hEL (by simp [consts_1]) C0.1 (vs := []) (z := (0 : Int32)) ⟨by decide, by decide⟩ (by decide) (by decide) (g := (mkF m 9 #[.val (.ref x), .val (.ref b), .val (.int (0 : Int32)), .val (.int (0 : Int32)), .val .null, .unset] [(.ref x)])) rfl (hb hby dS4_9) (n := 0) (by decide) (by decide) (by decide) (by decide)
  have la2 := own_lt la2
  have lb2 := own_lt lb2
  have sz2 : h0.size ≤ h2.size := E2.1
  have K2 : Keep h0 h2 [x] := K0.ext E2
  have C2 := C0.trans c2
  have Sf2_3 := c2.safe (own_lt (by omega)) (hSafe _ (List.mem_of_getElem? (i := 0) rfl))
  obtain ⟨nx4, ny4⟩ := ne2 _ Sf2_3
  have nx4 := own_ne nx4
  have ny4 := own_ne ny4
  refine own_st st2 ?_
  show own_G p e below _ (T2.setTop (mkF m 11 #[.val (.ref x), .val (.ref b), .val (.int (0 : Int32)), .val (.int (0 : Int32)), .val .null, .unset] [(.ref a2), (.ref x)]))
  obtain ⟨T5, X5, e5, st5⟩ := getF X2 hx Z2 o2 (host := "") (Or.inl (hw _ (List.mem_of_getElem? (i := 31) rfl))) Via.refl e2 Fv2 (g := (mkF m 11 #[.val (.ref x), .val (.ref b), .val (.int (0 : Int32)), .val (.int (0 : Int32)), .val .null, .unset] [(.ref a2), (.ref x)])) rfl rfl (hb hby dS4_11)
  refine own_st st5 ?_
  show own_G p e below _ (T5.setTop (mkF m 14 #[.val (.ref x), .val (.ref b), .val (.int (0 : Int32)), .val (.int (0 : Int32)), .val .null, .unset] [(.ref b2), (.ref x)]))
  obtain ⟨T6, h6, X6, e6, W6, st6⟩ := putF X5 hx Z2 o2 (host := "") (Or.inl (hw _ (List.mem_of_getElem? (i := 31) rfl))) Via.refl e5 (Fv.ext E2) (Ex.ext E2) (Or.inr ⟨(hw _ (List.mem_of_getElem? (i := 27) rfl)), rfl, hnm⟩) (hw _ (List.mem_of_getElem? (i := 12) rfl)) (ty := (.array .byte)) (by decide) rfl rfl (g := (mkF m 14 #[.val (.ref x), .val (.ref b), .val (.int (0 : Int32)), .val (.int (0 : Int32)), .val .null, .unset] [(.ref b2), (.ref x)])) rfl rfl (hb hby dS4_14)
  have Fw6 := (Fv.ext E2).same W6
  have sz6 : h2.size ≤ h6.size := (Keep.of_wr W6).1
  have K6 : Keep h0 h6 [x] := K2.wr W6 (Or.inl (by simp))
  have c6 : CHr Z consts_1 T2.vm h2 T2.vm h6 := CHr.wr W6 Sf2_3 C2.1
  have C6 := C2.trans c6
  have Sf6_7 := c6.safe (own_lt (by omega)) Sf2_3
  have N6 := Fr.snoc X6 N0 (own_le (by omega))
  refine own_st st6 ?_
  show own_G p e below _ (T6.setTop (mkF m 17 #[.val (.ref x), .val (.ref b), .val (.int (0 : Int32)), .val (.int (0 : Int32)), .val .null, .unset] []))
  refine own_st (fun tq kq => XS.aloadN X6.here hx rfl (hb hby dS4_17) rfl rfl kq) ?_
  show own_G p e below _ (T6.setTop (mkF m 18 #[.val (.ref x), .val (.ref b), .val (.int (0 : Int32)), .val (.int (0 : Int32)), .val .null, .unset] [(.ref x)]))
  refine own_st (fun tq kq => ldcAgain (s := s) (vm0 := T2.vm) X6 hx Z2 o2 (hw _ (List.mem_of_getElem? (i := 25) rfl)) L2 (g := (mkF m 18 #[.val (.ref x), .val (.ref b), .val (.int (0 : Int32)), .val (.int (0 : Int32)), .val .null, .unset] [(.ref x)])) rfl (hb hby dS4_18) _ kq) ?_
  show own_G p e below _ (T6.setTop (mkF m 20 #[.val (.ref x), .val (.ref b), .val (.int (0 : Int32)), .val (.int (0 : Int32)), .val .null, .unset] [(.ref a2), (.ref x)]))
  obtain ⟨T8, X8, e8, st8⟩ := getF X6 hx Z2 o2 (host := "") (Or.inl (hw _ (List.mem_of_getElem? (i := 32) rfl))) Via.refl e6 (Fc2.other W6 (Or.inl (own_ne (by omega)))) (g := (mkF m 20 #[.val (.ref x), .val (.ref b), .val (.int (0 : Int32)), .val (.int (0 : Int32)), .val .null, .unset] [(.ref a2), (.ref x)])) rfl rfl (hb hby dS4_20)
  refine own_st st8 ?_
  show own_G p e below _ (T8.setTop (mkF m 23 #[.val (.ref x), .val (.ref b), .val (.int (0 : Int32)), .val (.int (0 : Int32)), .val .null, .unset] [(.int (0 : Int32)), (.ref x)]))
  obtain ⟨T9, h9, X9, e9, W9, st9⟩ := putF X8 hx Z2 o2 (host := "") (Or.inl (hw _ (List.mem_of_getElem? (i := 32) rfl))) Via.refl e8 ((Fc.ext E2).other W6 (Or.inr (slot_ne (Or.inr (hw _ (List.mem_of_getElem? (i := 28) rfl))) (Or.inr (hw _ (List.mem_of_getElem? (i := 27) rfl))) (by decide) (t := .byte) (t' := (.array .byte)) (by decide) (by decide)))) ((Ex.ext E2).wr W6) (Or.inr ⟨(hw _ (List.mem_of_getElem? (i := 28) rfl)), rfl, hnm⟩) (hw _ (List.mem_of_getElem? (i := 12) rfl)) (ty := .byte) (by decide) rfl rfl (g := (mkF m 23 #[.val (.ref x), .val (.ref b), .val (.int (0 : Int32)), .val (.int (0 : Int32)), .val .null, .unset] [(.int (0 : Int32)), (.ref x)])) rfl rfl (hb hby dS4_23)
  have Fw9 := ((Fc.ext E2).other W6 (Or.inr (slot_ne (Or.inr (hw _ (List.mem_of_getElem? (i := 28) rfl))) (Or.inr (hw _ (List.mem_of_getElem? (i := 27) rfl))) (by decide) (t := .byte) (t' := (.array .byte)) (by decide) (by decide)))).same W9
  have sz9 : h6.size ≤ h9.size := (Keep.of_wr W9).1
  have K9 : Keep h0 h9 [x] := K6.wr W9 (Or.inl (by simp))
  have c9 : CHr Z consts_1 T2.vm h6 T2.vm h9 := CHr.wr W9 Sf6_7 C6.1
  have C9 := C6.trans c9
  have Sf9_10 := c9.safe (own_lt (by omega)) Sf6_7
  have N9 := Fr.snoc X9 N6 (own_le (by omega))
  refine own_st st9 ?_
  show own_G p e below _ (T9.setTop (mkF m 26 #[.val (.ref x), .val (.ref b), .val (.int (0 : Int32)), .val (.int (0 : Int32)), .val .null, .unset] []))
  obtain ⟨fs, hr, hrun, hended, hRW⟩ := X9.leaveW S2 (by rw [e9]; exact (own_le (by omega))) (v := none) (fun _ => rfl)
  have cE := C9.trans (CHv.at (s := s) (vm0 := T2.vm) X9 Z2 hEL C9.1)
  refine ⟨_, _, X9.returnOut hx Bd.returns (hb hby dS4_26) hr, hrun, hended, _, _, rfl, ?_, ?_, own_RW hRW (by decide) (by decide)⟩
  · change (fun (v : Option Value) (_ : Vm) (h : Heap) (L : List Loc) => own_QE Z x h0 n0 v h L) (none) T9.vm T9.heap _; rw [e9]; exact ⟨rfl, N9, K9, b2, _, (by omega), (Fw6.other W9 (Or.inr (slot_ne (Or.inr (hw _ (List.mem_of_getElem? (i := 27) rfl))) (Or.inr (hw _ (List.mem_of_getElem? (i := 28) rfl))) (by decide) (t := (.array .byte)) (t' := .byte) (by decide) (by decide)))), Fw9, ((Av2.other W6 (own_ne (by omega))).other W9 (own_ne (by omega)))⟩
  · rw [hh]; change CHr Z consts_1 s.vm h0 T9.vm T9.heap; rw [e9]; exact cE

theorem ef_own_init1E (m : MethodId) (x0 : Nat) (x1 : Nat) : entryFrame m #[(.ref x0), (.ref x1)] 2 = mkF m 0 #[.val (.ref x0), .val (.ref x1)] [] := by first | (simp [entryFrame, mkF, argsToLocals, Value.category]; done) | rfl
set_option maxRecDepth 65536 in
set_option maxHeartbeats 40000000 in
theorem own_init1E (l : Launch) (Z : State) (a0 : Array Value) (hw : ∀ d ∈ tables_1, d.before a0 Z = true) (hEL : EW Z a0 consts_1) (ws : List Jvm.Cond) (x b : Nat) (v0 c0 dv : Value) (kC : ClassId) (h0 : Heap) (n0 : Nat) (Z0 : n0 ≤ h0.size) (X00 : Old Z n0 h0) (Ex : Exa Z h0 x "java/lang/String") (Fv : Fld Z h0 x "java/lang/String" "value" "[B" v0) (Fc : Fld Z h0 x "java/lang/String" "coder" "B" c0) (gx : n0 ≤ x) (ltx : x < h0.size) (Vb : Arv Z h0 b kC .char (0 : Int32) [] dv) :
    MetFree l (⟨"java/lang/String", "<init>", "([C)V"⟩ : MethodName) (head1 (Jvm.Cond.code (⟨"java/lang/String", "<init>", "([C)V"⟩ : MethodName) jdk_42_method_3_code 2 none :: ws) ({ frames := 2, cells := 2, slots := 4, locals := 29 } : Room)) (own_P Z consts_1 #[(.ref x), (.ref b)] h0 [x]) (fun _ _ _ _ _ => True) (own_E Z consts_1 (fun (v : Option Value) (_ : Vm) (h : Heap) (L : List Loc) => own_QE Z x h0 n0 v h L) ({ frames := 2, cells := 2, slots := 4, locals := 29 } : Room)) := by
  refine MetFree.of_bodySF (plainFor_of_name own_pn0) hisR ?_
  intro p e s m args below meth c s₁ Bd hml0 hP hK
  obtain ⟨rfl, hZ, hh, hCH, hSafe⟩ := hP
  have hx := Bd.exec
  have hby := Bd.bytes
  have hml : c.maxLocals = 2 := hml0
  have hown : s.vm.findClass "java/lang/String" = some m.cls := findClass_of_methodNamed Bd.named
  have hnm := (name_of_methodNamed Bd.named Bd.method).1
  have X0 : Stand p l e ({ frames := 2, cells := 2, slots := 4, locals := 29 } : Room) (s.setVm s.vm) m #[(.ref x), (.ref b)] below meth c s₁ [] 0 0 := Stand.of_body Bd
  have e0 : s₁.heap = h0 := by rw [← hh, Bd.state]; rfl
  have N0 := Fr.nil n0
  have K0 : Keep h0 h0 [x] := Keep.refl h0 [x]
  have S0 : s.Since s.vm 0 := own_since s
  have C0 : CHr Z consts_1 s.vm h0 s.vm h0 := CHr.refl hCH
  refine show own_G p e below (own_E Z consts_1 (fun (v : Option Value) (_ : Vm) (h : Heap) (L : List Loc) => own_QE Z x h0 n0 v h L) ({ frames := 2, cells := 2, slots := 4, locals := 29 } : Room) #[(.ref x), (.ref b)] s) _ from ?_
  refine own_st (fun tq kq => castTop (ef_own_init1E m (x) (b)) kq) ?_
  show own_G p e below _ (s₁.setTop (mkF m 0 #[.val (.ref x), .val (.ref b)] []))
  have hws0 : ∀ y ∈ [x], n0 ≤ y := allS gx all0
  refine own_st (fun tq kq => XS.aloadN X0.here hx rfl (hb hby dS1_0) rfl rfl kq) ?_
  refine own_st (fun tq kq => XS.aloadN X0.here hx rfl (hb hby dS1_1) rfl rfl kq) ?_
  refine own_st (fun tq kq => XS.iconst X0.here hx rfl (hb hby dS1_2) kq) ?_
  refine own_st (fun tq kq => XS.aloadN X0.here hx rfl (hb hby dS1_3) rfl rfl kq) ?_
  show own_G p e below _ (s₁.setTop (mkF m 4 #[.val (.ref x), .val (.ref b)] [(.ref b), (.int (0 : Int32)), (.ref b), (.ref x)]))
  obtain ⟨cl1, Ar1, q1, S_1, N_1, H_1, G_1⟩ := id Vb
  refine own_st (fun tq kq => X0.arraylength hx (by rw [e0]; exact Ar1.1) (State.isArrayOf_alike hZ.alike Ar1.2.1) (g := (mkF m 4 #[.val (.ref x), .val (.ref b)] [(.ref b), (.int (0 : Int32)), (.ref b), (.ref x)])) rfl rfl (hb hby dS1_4) _ kq) ?_
  rw [len_of S_1 N_1]
  show own_G p e below _ (s₁.setTop (mkF m 5 #[.val (.ref x), .val (.ref b)] [(.int (0 : Int32)), (.int (0 : Int32)), (.ref b), (.ref x)]))
  refine own_st (fun tq kq => XS.aconstNull X0.here hx rfl (hb hby dS1_5) kq) ?_
  show own_G p e below _ (s₁.setTop (mkF m 6 #[.val (.ref x), .val (.ref b)] [.null, (.int (0 : Int32)), (.int (0 : Int32)), (.ref b), (.ref x)]))
  obtain ⟨_, _, ⟨T2, L2, k2, n2⟩, -, Y2, S2p, gr2, ⟨Lc2, hQ2, l2, y2, z2, c2⟩, st2⟩ := X0.specialBackS hx (y := (⟨"java/lang/String", "<init>", "([CIILjava/lang/Void;)V"⟩ : MethodName)) rfl hown (mvT hZ (hw _ (List.mem_of_getElem? (i := 18) rfl))) (mvT hZ (hw _ (List.mem_of_getElem? (i := 19) rfl))) (mvT hZ (hw _ (List.mem_of_getElem? (i := 21) rfl))) (by decide) (own_back (s := s) (vm0 := s.vm) (W := 0) (own_init4E l Z a0 hw hEL [] (x) (b) (v0) (c0) h0 n0 (by omega) (X00.keep K0 hws0) Ex Fv Fc gx ltx) hZ (hw _ (List.mem_of_getElem? (i := 21) rfl)) (hw _ (List.mem_of_getElem? (i := 13) rfl)) (by decide) (by decide) hEL C0.1 (allS ⟨own_lt (by omega), (hSafe _ (List.mem_of_getElem? (i := 0) rfl))⟩ all0)) (g := (mkF m 6 #[.val (.ref x), .val (.ref b)] [.null, (.int (0 : Int32)), (.int (0 : Int32)), (.ref b), (.ref x)])) rfl (by rw [hml]; rfl) (Steps.refl _) (a := x) (argsL := [(.ref b), (.int (0 : Int32)), (.int (0 : Int32)), .null]) (rest := []) (lenOf own_pd0 rfl) rfl (by show 2 * 0 + _ ≤ _; exact Nat.le_of_eq rfl) (hb hby dS1_6) (fun _ _ => ⟨rfl, e0, (by decide : 0 + 2 ≤ _), (by decide : 0 + 4 ≤ _)⟩)
  dsimp only [Pt.U, Pt.locs, Pt.cells, Pt.slots] at Y2 S2p gr2 l2 y2 z2 st2 hQ2 c2
  subst l2 y2 z2
  obtain ⟨X2, S2, Z2, o2⟩ := rebS S0 (by rw [e0]; exact (own_le (by omega))) Y2 S2p gr2 hZ hown
  obtain ⟨rfl, Nq2, Kq2, R2⟩ := hQ2
  have KK2 : Keep h0 T2.heap [x] := Kq2
  have sz2 : h0.size ≤ T2.heap.size := KK2.1
  have K2 : Keep h0 T2.heap [x] := K0.trans KK2 (allS (Or.inl (by simp)) all0)
  have C2 := C0.trans c2
  have Sf2_3 := c2.safe (own_lt (by omega)) (hSafe _ (List.mem_of_getElem? (i := 0) rfl))
  have N2 := Fr.app N0 Nq2
  refine own_st (fun tq kq => st2.trans kq) ?_
  show own_G p e below _ (T2.setTop (mkF m 9 #[.val (.ref x), .val (.ref b)] []))
  obtain ⟨fs, hr, hrun, hended, hRW⟩ := X2.leaveW S2 (own_le (by omega)) (v := none) (fun _ => rfl)
  have cE := C2.trans (CHv.at (s := s) (vm0 := T2.vm) X2 Z2 hEL C2.1)
  refine ⟨_, _, X2.returnOut hx Bd.returns (hb hby dS1_9) hr, hrun, hended, _, _, rfl, ?_, ?_, own_RW hRW (by decide) (by decide)⟩
  · change (fun (v : Option Value) (_ : Vm) (h : Heap) (L : List Loc) => own_QE Z x h0 n0 v h L) (none) T2.vm T2.heap _; exact ⟨rfl, N2, K2, R2⟩
  · rw [hh]; change CHr Z consts_1 s.vm h0 T2.vm T2.heap; exact cE

/-- what new String(char[]) leaves, of any length -/
def own_QS (Z : State) (x : Nat) (cs : List Int32) (h0 : Heap) (n0 : Nat) (v : Option Value) (h : Heap) (L : List Loc) : Prop := v = none ∧ Fr n0 L ∧ Keep h0 h [x] ∧ own_Str Z h.size h x cs
set_option maxRecDepth 65536 in
set_option maxHeartbeats 40000000 in
/-- new String(char[]) at a call: no char, or up to 4,000 chars from 0 to 255 -/
theorem own_newStr {p : Program} {l : Launch} {e : Env} {R : Room} {s : State} {args : Array Value} {below : List Frame} {len W : Nat} {Z : State} {a0 : Array Value} {h : Heap} {vm0 : Vm} (hZ : Z.Warmed39 vm0) (hw : ∀ d ∈ tables_1, d.before a0 Z = true) (hEL : EW Z a0 consts_1) (H : CHv Z consts_1 vm0 h)
    {x b : Nat} {kC : ClassId} {cs : List Int32} {d v0 c0 : Value} {z N : Int32} {n n0 : Nat} (hs : Safe Z consts_1 vm0 h x) (hx0 : n0 ≤ x) (X00 : Old Z n0 h) (E : Exa Z h x "java/lang/String") (V : Fld Z h x "java/lang/String" "value" "[B" v0) (C : Fld Z h x "java/lang/String" "coder" "B" c0) (K : Arv Z h b kC .char N (cs.map Value.int) d) (S : Sta Z Z.heap "java/lang/String" "COMPACT_STRINGS" "Z" (.int z)) (hz : ¬ z = 0)
    (hn : cs.length = n) (hN : N = Int32.ofNat n) (l2 : n ≤ 4000) (hp : ∀ c ∈ cs, ¬ c < 0 ∧ ¬ (255 : Int32) < c) (hfr : 4 ≤ R.frames) (hlo : W + 65 ≤ R.locals) :
    BackS l R p e below (s.setVm vm0) args (⟨"java/lang/String", "<init>", "([C)V"⟩ : MethodName) len W (fun P a => a = #[.ref x, .ref b] ∧ P.U.heap = h ∧ P.cells + 2 ≤ R.cells ∧ P.slots + (n + 4) ≤ R.slots)
      (fun P _ v B => ∃ L, own_QS Z x cs h n0 v B.U.heap L ∧ B.locs = P.locs ++ L ∧ B.cells = P.cells + 2 ∧ B.slots = P.slots + (n + 4) ∧ CHr Z consts_1 vm0 h B.U.vm B.U.heap) := by
  have hh0 : n0 ≤ h.size := by have := X00.1; have := X00.2.1; omega
  rcases Nat.eq_zero_or_pos n with hn0 | hn0
  · subst hn0
    obtain rfl : cs = [] := List.length_eq_zero_iff.mp hn
    obtain rfl : N = (0 : Int32) := hN
    intro m meth c P g ig mk a X hg hsize hdg hW hnn hp'
    obtain ⟨v, B, Y, q1, q2, ⟨L, hQ, e1, e2, e3, hc⟩, st⟩ := own_back (rm := ({ frames := 2, cells := 2, slots := 4, locals := 29 } : Room)) (R := R) (W := W) (s := s) (vm0 := vm0) (own_init1E l Z a0 hw hEL [] x b v0 c0 d kC h n0 hh0 X00 E V C hx0 E.lt K) hZ (hw _ (List.mem_of_getElem? (i := 17) rfl)) (hw _ (List.mem_of_getElem? (i := 13) rfl)) (by show 2 + 1 ≤ _; omega) (by show W + (2 + 11) + 29 ≤ _; omega) hEL H (allS ⟨E.lt, hs⟩ all0) m meth c P g ig mk a X hg hsize hdg hW hnn ⟨hp'.1, hp'.2.1, hp'.2.2.1, hp'.2.2.2⟩
    obtain ⟨r1, r2, r3, t, kb, r4, r5, r6, r7⟩ := hQ
    exact ⟨v, B, Y, q1, q2, ⟨L, ⟨r1, r2, r3, r5.lt, E.keep r3, hp, by decide, t, kb, r7.lt, r5, r6, r7⟩, e1, e2, e3, hc⟩, st⟩
  · have hws : ∀ d ∈ StrChars.Road.words, d.before a0 Z = true := fun d hd => hw d ((by decide +kernel : ∀ d ∈ StrChars.Road.words, d ∈ tables_1) d hd)
    intro m meth c P g ig mk a X hg hsize hdg hW hnn hp'
    obtain ⟨v, B, Y, ⟨L, hQ, e1, e2, e3⟩, st⟩ := StrChars.Road.backV (R := R) (W := W) (s := s.setVm vm0) hZ hws (kI := 4) (hw _ (List.mem_of_getElem? (i := 12) rfl)) (cs := cs) (bs := cs.map (fun c => c.toInt8.toInt32)) (n := n) hx0 hh0 E V C K (S.ext X00.2) hz hn hN hn0 l2 hp rfl hfr hlo m meth c P g ig mk a X hg hsize hdg hW hnn ⟨hp'.1, hp'.2.1, Nat.le_trans (by omega) hp'.2.2.1, Nat.le_trans (by omega) hp'.2.2.2⟩
    obtain ⟨BU, BL, Bc, Bs⟩ := B
    dsimp only [Pt.U, Pt.locs, Pt.cells, Pt.slots] at Y hQ e1 e2 e3 st
    obtain ⟨r1, r2, r3, r4, r5, t, kb, u1, u2, u3, u4, u5⟩ := hQ
    have hCH : CHr Z consts_1 vm0 h vm0 BU.heap := CHr.keep r3 (allS hs all0) H
    have Y2 : Stand p l e R (s.setVm vm0) m args below meth c BU BL (P.cells + 2) (P.slots + (n + 4)) := Y.mono (by rw [e2]; exact Nat.add_le_add_left (by decide) _) (by rw [e3]; exact Nat.add_le_add_left (Nat.le_add_right _ _) _)
    refine ⟨v, ⟨BU, BL, P.cells + 2, P.slots + (n + 4)⟩, Y2.retabled Y2.warmed.wide, Y2.warmed.since _, ?_, ⟨L, ⟨r1, r2, r3, u4.lt, r4, hp, by omega, t, kb, u5.lt, u4, r5, ?_⟩, e1, rfl, rfl, hCH.trans (CHv.at (s := s) (vm0 := vm0) Y2 hZ hEL hCH.1)⟩, st⟩
    · show P.U.heap.size ≤ BU.heap.size
      rw [hp'.2.1]; exact r3.1
    · rw [hn, ← hN]; exact u5

theorem own_wEq {a0 : Array Value} {Z : State} (hw : ∀ d ∈ tables_1, d.before a0 Z = true) : ∀ d ∈ StrChars.Road.wordsEq, d.before a0 Z = true := fun d hd => hw d ((by decide +kernel : ∀ d ∈ StrChars.Road.wordsEq, d ∈ tables_1) d hd)
theorem own_up {cs : List Int32} (h : ∀ c ∈ cs, ¬ c < 0 ∧ ¬ (255 : Int32) < c) : ∀ c ∈ cs, ¬ c < 0 ∧ ¬ (65535 : Int32) < c := fun c hc => ⟨(h c hc).1, fun q => (h c hc).2 (by rw [Int32.lt_iff_toInt_lt] at q ⊢; have e1 : (65535 : Int32).toInt = 65535 := rfl; have e2 : (255 : Int32).toInt = 255 := rfl; omega)⟩

/-- an object of C (whose superclass is the root S) is none of K, a class that may be made -/
theorem own_noSub {Z : State} {a0 : Array Value} {C S K : String} {n : Nat} (w : (Cond.superclass C S).before a0 Z = true) (wo : (Cond.noSuperclass S).before a0 Z = true) (wk : (Cond.instantiable K n).before a0 Z = true) (hn : C ≠ K) (hs : S ≠ K) : ∃ c t, Z.vm.findClass C = some c ∧ Z.vm.findClass K = some t ∧ Z.vm.assignable c t = false := by
  obtain ⟨t, kt, g1, g2, g3, g4, -⟩ := Cond.instantiable_spec wk
  obtain ⟨o, ko, o1, o2, o3, -, -⟩ := Cond.noSuperclass_spec wo
  obtain ⟨c, h0⟩ := found_sup w
  obtain ⟨p, k, kp, h1, h2, h3, h4, h5, -, h7⟩ := Cond.superclass_spec h0 w
  cases o1.symm.trans h1
  have ne1 := ids_ne h0 g1 hn
  have ne2 := ids_ne o1 g1 hs
  have g5 : kt.isInterface = false := by simp only [Bool.or_eq_false_iff] at g4; exact g4.1
  have sub : ∀ fuel, Z.vm.isSubclassAux fuel c t = false := fun fuel => by
    cases fuel with
    | zero => rfl
    | succ f =>
      have q : Z.vm.isSubclassAux f o t = false := by
        cases f with
        | zero => rfl
        | succ f => simp [Vm.isSubclassAux, ne2, o2, o3]
      simp [Vm.isSubclassAux, ne1, h2, h4, q]
  refine ⟨c, t, h0, g1, ?_⟩
  show Z.vm.assignableAux (255 + 1) c t = false
  simp [Vm.assignableAux, ne1, h2, g2, h5, g3, g5, Vm.isSubclass, sub]

def own_min (a b : Int32) : Int32 := if b < a then b else a
def own_len (p : Int32) : Int32 := own_min (p &&& (3 : Int32)) (2 : Int32)
def own_c0 (p : Int32) : Int32 := nar .char ((((p.toUInt32 >>> ((2 : Int32) &&& 31).toUInt32).toInt32) &&& (255 : Int32)).toUInt32.toUInt16.toUInt32.toInt32)
def own_c1 (p : Int32) : Int32 := nar .char ((((p.toUInt32 >>> ((10 : Int32) &&& 31).toUInt32).toInt32) &&& (255 : Int32)).toUInt32.toUInt16.toUInt32.toInt32)
theorem own_c0_ok (p : Int32) : ¬ nar .char (own_c0 p) < 0 ∧ ¬ (255 : Int32) < nar .char (own_c0 p) := by
  have q := own_and255 ((p.toUInt32 >>> ((2 : Int32) &&& 31).toUInt32).toInt32)
  have e : nar .char (own_c0 p) = own_c0 p := by simp only [own_c0, nar, UInt32.toUInt32_toInt32, UInt16.toUInt16_toUInt32]
  rw [e]; exact q
theorem own_c1_ok (p : Int32) : ¬ nar .char (own_c1 p) < 0 ∧ ¬ (255 : Int32) < nar .char (own_c1 p) := by
  have q := own_and255 ((p.toUInt32 >>> ((10 : Int32) &&& 31).toUInt32).toInt32)
  have e : nar .char (own_c1 p) = own_c1 p := by simp only [own_c1, nar, UInt32.toUInt32_toInt32, UInt16.toUInt16_toUInt32]
  rw [e]; exact q
theorem own_c0_nar (p : Int32) : nar .char (own_c0 p) = own_c0 p := by simp only [own_c0, nar, UInt32.toUInt32_toInt32, UInt16.toUInt16_toUInt32]
theorem own_c1_nar (p : Int32) : nar .char (own_c1 p) = own_c1 p := by simp only [own_c1, nar, UInt32.toUInt32_toInt32, UInt16.toUInt16_toUInt32]
theorem own_len3 (p : Int32) : own_len p = 0 ∨ own_len p = 1 ∨ own_len p = 2 := by
  have h := c_and p (3 : Int32) (by decide)
  have e3 : (3 : Int32).toInt = 3 := rfl
  have e0 : (0 : Int32).toInt = 0 := rfl
  have e1 : (1 : Int32).toInt = 1 := rfl
  have e2 : (2 : Int32).toInt = 2 := rfl
  unfold own_len own_min
  split
  · exact Or.inr (Or.inr rfl)
  · rename_i q
    rw [Int32.lt_iff_toInt_lt] at q
    simp only [← Int32.toInt_inj, e0, e1, e2]
    omega
def own_str (p : Int32) : List Int32 := if own_len p = 0 then [] else if own_len p = 1 then [own_c0 p] else [own_c0 p, own_c1 p]
theorem own_str0 {p : Int32} (h : own_len p = 0) : own_str p = [] := by unfold own_str; rw [if_pos h]
theorem own_str1 {p : Int32} (h : own_len p = 1) : own_str p = [own_c0 p] := by unfold own_str; rw [if_neg (by rw [h]; decide), if_pos h]
theorem own_str2 {p : Int32} (h : own_len p = 2) : own_str p = [own_c0 p, own_c1 p] := by unfold own_str; rw [if_neg (by rw [h]; decide), if_neg (by rw [h]; decide)]
theorem own_str_len {p q : Int32} (h : ¬ own_len p = own_len q) : ¬ own_str p = own_str q := by
  intro e
  rcases own_len3 p with a | a | a <;> rcases own_len3 q with b | b | b <;> first | exact h (a.trans b.symm) | (simp only [own_str0, own_str1, own_str2, a, b] at e; simp at e)

theorem ef_own_minC (m : MethodId) (x0 : Int32) (x1 : Int32) : entryFrame m #[(.int x0), (.int x1)] 2 = mkF m 0 #[.val (.int x0), .val (.int x1)] [] := by first | (simp [entryFrame, mkF, argsToLocals, Value.category]; done) | rfl
set_option maxRecDepth 65536 in
set_option maxHeartbeats 40000000 in
theorem own_minC (l : Launch) (Z : State) (a0 : Array Value) (hw : ∀ d ∈ tables_1, d.before a0 Z = true) (ws : List Jvm.Cond) (a b : Int32) (h0 : Heap) (n0 : Nat) (Z0 : n0 ≤ h0.size) (X00 : Old Z n0 h0)  :
    MetFree l (⟨"java/lang/Math", "min", "(II)I"⟩ : MethodName) (head1 (Jvm.Cond.code (⟨"java/lang/Math", "min", "(II)I"⟩ : MethodName) jdk_29_method_69_code 2 (some .int) :: ws) ({ frames := 0, cells := 0, slots := 0, locals := 0 } : Room)) (fun av_ U => av_ = #[(.int a), (.int b)] ∧ Z.Warmed39 U.vm ∧ U.heap = h0) (fun _ _ _ _ _ => True) (own_EN (fun (v : Option Value) (h : Heap) (L : List Loc) => v = some (.int (own_min a b)) ∧ Fr n0 L ∧ h = h0) ({ frames := 0, cells := 0, slots := 0, locals := 0 } : Room)) := by
  refine MetFree.of_bodySF own_pn1 hisR ?_
  intro p e s m args below meth c s₁ Bd hml0 hP hK
  obtain ⟨rfl, hZ, hh⟩ := hP
  have hx := Bd.exec
  have hby := Bd.bytes
  have hml : c.maxLocals = 2 := hml0
  have hown : s.vm.findClass "java/lang/Math" = some m.cls := findClass_of_methodNamed Bd.named
  have hnm := (name_of_methodNamed Bd.named Bd.method).1
  have X0 : Stand p l e ({ frames := 0, cells := 0, slots := 0, locals := 0 } : Room) s m #[(.int a), (.int b)] below meth c s₁ [] 0 0 := Stand.of_body Bd
  have e0 : s₁.heap = h0 := by rw [← hh, Bd.state]; rfl
  have N0 := Fr.nil n0
  have K0 : Keep h0 h0 [] := Keep.refl h0 []
  refine show own_G p e below (own_EN (fun (v : Option Value) (h : Heap) (L : List Loc) => v = some (.int (own_min a b)) ∧ Fr n0 L ∧ h = h0) ({ frames := 0, cells := 0, slots := 0, locals := 0 } : Room) #[(.int a), (.int b)] s) _ from ?_
  refine own_st (fun tq kq => castTop (ef_own_minC m (a) (b)) kq) ?_
  show own_G p e below _ (s₁.setTop (mkF m 0 #[.val (.int a), .val (.int b)] []))
  refine own_st (fun tq kq => XS.iloadN X0.here hx rfl (hb hby dMI_0) rfl  kq) ?_
  refine own_st (fun tq kq => XS.iloadN X0.here hx rfl (hb hby dMI_1) rfl  kq) ?_
  show own_G p e below _ (s₁.setTop (mkF m 2 #[.val (.int a), .val (.int b)] [(.int b), (.int a)]))
  by_cases hc2_1 : (b < a)
  ·
    refine own_st (fun tq kq => XS.icmpYes X0.here hx rfl (pc0 := 2) (pc' := 9) rfl (hb hby dMI_2) rfl (tlt hc2_1).2.2.1 (by decide) (by decide) kq) ?_
    refine own_st (fun tq kq => XS.iloadN X0.here hx rfl (hb hby dMI_9) rfl  kq) ?_
    show own_G p e below _ (s₁.setTop (mkF m 10 #[.val (.int a), .val (.int b)] [(.int b)]))
    obtain ⟨fs, hr, hrun, hended, hW, hsame⟩ := X0.leave (v := some (.int b)) (fun h => by rw [Bd.returns] at h; cases h)
    refine ⟨_, _, retOut X0 hx Bd.returns rfl (Or.inl ⟨rfl, by simp, _, rfl⟩) (hb hby dMI_10) hr, hrun, hended, _, _, rfl, ?_, ⟨_, rfl⟩, hW, hsame.mono (by decide) (by decide)⟩
    change (fun (v : Option Value) (h : Heap) (L : List Loc) => v = some (.int (own_min a b)) ∧ Fr n0 L ∧ h = h0) (some (.int b)) s₁.heap _; rw [e0]; exact ⟨by unfold own_min; rw [if_pos hc2_1], N0, rfl⟩
  ·
    refine own_st (fun tq kq => XS.icmpNo X0.here hx rfl (hb hby dMI_2) rfl (flt hc2_1).2.2.1 kq) ?_
    refine own_st (fun tq kq => XS.iloadN X0.here hx rfl (hb hby dMI_5) rfl  kq) ?_
    refine own_st (fun tq kq => XS.goto X0.here hx rfl (pc0 := 6) (pc' := 10) rfl (hb hby dMI_6) (by decide) (by decide) kq) ?_
    show own_G p e below _ (s₁.setTop (mkF m 10 #[.val (.int a), .val (.int b)] [(.int a)]))
    obtain ⟨fs, hr, hrun, hended, hW, hsame⟩ := X0.leave (v := some (.int a)) (fun h => by rw [Bd.returns] at h; cases h)
    refine ⟨_, _, retOut X0 hx Bd.returns rfl (Or.inl ⟨rfl, by simp, _, rfl⟩) (hb hby dMI_10) hr, hrun, hended, _, _, rfl, ?_, ⟨_, rfl⟩, hW, hsame.mono (by decide) (by decide)⟩
    change (fun (v : Option Value) (h : Heap) (L : List Loc) => v = some (.int (own_min a b)) ∧ Fr n0 L ∧ h = h0) (some (.int a)) s₁.heap _; rw [e0]; exact ⟨by unfold own_min; rw [if_neg hc2_1], N0, rfl⟩

theorem ef_own_lenC (m : MethodId) (x0 : Int32) : entryFrame m #[(.int x0)] 1 = mkF m 0 #[.val (.int x0)] [] := by first | (simp [entryFrame, mkF, argsToLocals, Value.category]; done) | rfl
set_option maxRecDepth 65536 in
set_option maxHeartbeats 40000000 in
theorem own_lenC (l : Launch) (Z : State) (a0 : Array Value) (hw : ∀ d ∈ tables_1, d.before a0 Z = true) (ws : List Jvm.Cond) (a : Int32) (h0 : Heap) (n0 : Nat) (Z0 : n0 ≤ h0.size) (X00 : Old Z n0 h0)  :
    MetFree l (⟨"com/example/garm/garm/ChoiceEqualsPinLaw", "len", "(I)I"⟩ : MethodName) (head1 (Jvm.Cond.code (⟨"com/example/garm/garm/ChoiceEqualsPinLaw", "len", "(I)I"⟩ : MethodName) method_2_code 1 (some .int) :: ws) ({ frames := 1, cells := 0, slots := 0, locals := 20 } : Room)) (fun av_ U => av_ = #[(.int a)] ∧ Z.Warmed39 U.vm ∧ U.heap = h0) (fun _ _ _ _ _ => True) (own_EN (fun (v : Option Value) (h : Heap) (L : List Loc) => v = some (.int (own_len a)) ∧ Fr n0 L ∧ h = h0) ({ frames := 1, cells := 0, slots := 0, locals := 20 } : Room)) := by
  refine MetFree.of_bodySF (plainFor_of_name own_pn2) hisR ?_
  intro p e s m args below meth c s₁ Bd hml0 hP hK
  obtain ⟨rfl, hZ, hh⟩ := hP
  have hx := Bd.exec
  have hby := Bd.bytes
  have hml : c.maxLocals = 1 := hml0
  have hown : s.vm.findClass "com/example/garm/garm/ChoiceEqualsPinLaw" = some m.cls := findClass_of_methodNamed Bd.named
  have hnm := (name_of_methodNamed Bd.named Bd.method).1
  have X0 : Stand p l e ({ frames := 1, cells := 0, slots := 0, locals := 20 } : Room) s m #[(.int a)] below meth c s₁ [] 0 0 := Stand.of_body Bd
  have e0 : s₁.heap = h0 := by rw [← hh, Bd.state]; rfl
  have N0 := Fr.nil n0
  have K0 : Keep h0 h0 [] := Keep.refl h0 []
  refine show own_G p e below (own_EN (fun (v : Option Value) (h : Heap) (L : List Loc) => v = some (.int (own_len a)) ∧ Fr n0 L ∧ h = h0) ({ frames := 1, cells := 0, slots := 0, locals := 20 } : Room) #[(.int a)] s) _ from ?_
  refine own_st (fun tq kq => castTop (ef_own_lenC m (a)) kq) ?_
  show own_G p e below _ (s₁.setTop (mkF m 0 #[.val (.int a)] []))
  refine own_st (fun tq kq => XS.iloadN X0.here hx rfl (hb hby dLE_0) rfl  kq) ?_
  refine own_st (fun tq kq => XS.iconst X0.here hx rfl (hb hby dLE_1) kq) ?_
  refine own_st (fun tq kq => XS.iand X0.here hx rfl (hb hby dLE_2) rfl kq) ?_
  refine own_st (fun tq kq => XS.iconst X0.here hx rfl (hb hby dLE_3) kq) ?_
  show own_G p e below _ (s₁.setTop (mkF m 4 #[.val (.int a)] [(.int (2 : Int32)), (.int (a &&& (3 : Int32)))]))
  obtain ⟨_, _, ⟨T1, L1, k1, n1⟩, -, X1, ⟨Lc1, hQ1, l1, y1, z1⟩, st1⟩ := Jvm.LawKit.callS X0 hx (y := (⟨"java/lang/Math", "min", "(II)I"⟩ : MethodName)) hown (mvT hZ (hw _ (List.mem_of_getElem? (i := 7) rfl))) (mvT hZ (hw _ (List.mem_of_getElem? (i := 8) rfl))) (mvT hZ (hw _ (List.mem_of_getElem? (i := 9) rfl))) (mvT hZ (hw _ (List.mem_of_getElem? (i := 10) rfl))) (by decide) (own_backN (W := 0) (own_minC l Z a0 hw [] ((a &&& (3 : Int32))) ((2 : Int32)) h0 n0 (by omega) (X00.keep K0 all0) ) hZ (hw _ (List.mem_of_getElem? (i := 10) rfl)) (hw _ (List.mem_of_getElem? (i := 9) rfl)) (by decide) (by decide)) (g := (mkF m 4 #[.val (.int a)] [(.int (2 : Int32)), (.int (a &&& (3 : Int32)))])) rfl (by rw [hml]; rfl) (argsL := [(.int (a &&& (3 : Int32))), (.int (2 : Int32))]) (rest := []) (lenOf own_pd1 rfl) rfl (by show 2 * 0 + _ ≤ _; exact Nat.le_of_eq rfl) (hb hby dLE_4) (fun _ _ => ⟨rfl, e0, (by decide : 0 + 0 ≤ _), (by decide : 0 + 0 ≤ _)⟩)
  dsimp only [Pt.U, Pt.locs, Pt.cells, Pt.slots] at X1 l1 y1 z1 st1 hQ1
  subst l1 y1 z1
  obtain ⟨rfl, Nq1, sm1⟩ := hQ1
  have N1 := Fr.app N0 Nq1
  refine own_st st1 ?_
  show own_G p e below _ (T1.setTop (mkF m 7 #[.val (.int a)] [(.int (own_min (a &&& (3 : Int32)) (2 : Int32)))]))
  obtain ⟨fs, hr, hrun, hended, hW, hsame⟩ := X1.leave (v := some (.int (own_min (a &&& (3 : Int32)) (2 : Int32)))) (fun h => by rw [Bd.returns] at h; cases h)
  refine ⟨_, _, retOut X1 hx Bd.returns rfl (Or.inl ⟨rfl, by simp, _, rfl⟩) (hb hby dLE_7) hr, hrun, hended, _, _, rfl, ?_, ⟨_, rfl⟩, hW, hsame.mono (by decide) (by decide)⟩
  change (fun (v : Option Value) (h : Heap) (L : List Loc) => v = some (.int (own_len a)) ∧ Fr n0 L ∧ h = h0) (some (.int (own_min (a &&& (3 : Int32)) (2 : Int32)))) T1.heap _; rw [sm1]; exact ⟨rfl, N1, rfl⟩

theorem ef_own_c0C (m : MethodId) (x0 : Int32) : entryFrame m #[(.int x0)] 1 = mkF m 0 #[.val (.int x0)] [] := by first | (simp [entryFrame, mkF, argsToLocals, Value.category]; done) | rfl
set_option maxRecDepth 65536 in
set_option maxHeartbeats 40000000 in
theorem own_c0C (l : Launch) (Z : State) (a0 : Array Value) (hw : ∀ d ∈ tables_1, d.before a0 Z = true) (ws : List Jvm.Cond) (a : Int32) (h0 : Heap) (n0 : Nat) (Z0 : n0 ≤ h0.size) (X00 : Old Z n0 h0)  :
    MetFree l (⟨"com/example/garm/garm/ChoiceEqualsPinLaw", "c0", "(I)C"⟩ : MethodName) (head1 (Jvm.Cond.code (⟨"com/example/garm/garm/ChoiceEqualsPinLaw", "c0", "(I)C"⟩ : MethodName) method_3_code 1 (some .char) :: ws) ({ frames := 0, cells := 0, slots := 0, locals := 0 } : Room)) (fun av_ U => av_ = #[(.int a)] ∧ Z.Warmed39 U.vm ∧ U.heap = h0) (fun _ _ _ _ _ => True) (own_EN (fun (v : Option Value) (h : Heap) (L : List Loc) => v = some (.int (own_c0 a)) ∧ Fr n0 L ∧ h = h0) ({ frames := 0, cells := 0, slots := 0, locals := 0 } : Room)) := by
  refine MetFree.of_bodySF (plainFor_of_name own_pn2) hisR ?_
  intro p e s m args below meth c s₁ Bd hml0 hP hK
  obtain ⟨rfl, hZ, hh⟩ := hP
  have hx := Bd.exec
  have hby := Bd.bytes
  have hml : c.maxLocals = 1 := hml0
  have hown : s.vm.findClass "com/example/garm/garm/ChoiceEqualsPinLaw" = some m.cls := findClass_of_methodNamed Bd.named
  have hnm := (name_of_methodNamed Bd.named Bd.method).1
  have X0 : Stand p l e ({ frames := 0, cells := 0, slots := 0, locals := 0 } : Room) s m #[(.int a)] below meth c s₁ [] 0 0 := Stand.of_body Bd
  have e0 : s₁.heap = h0 := by rw [← hh, Bd.state]; rfl
  have N0 := Fr.nil n0
  have K0 : Keep h0 h0 [] := Keep.refl h0 []
  refine show own_G p e below (own_EN (fun (v : Option Value) (h : Heap) (L : List Loc) => v = some (.int (own_c0 a)) ∧ Fr n0 L ∧ h = h0) ({ frames := 0, cells := 0, slots := 0, locals := 0 } : Room) #[(.int a)] s) _ from ?_
  refine own_st (fun tq kq => castTop (ef_own_c0C m (a)) kq) ?_
  show own_G p e below _ (s₁.setTop (mkF m 0 #[.val (.int a)] []))
  refine own_st (fun tq kq => XS.iloadN X0.here hx rfl (hb hby dC0_0) rfl  kq) ?_
  refine own_st (fun tq kq => XS.iconst X0.here hx rfl (hb hby dC0_1) kq) ?_
  refine own_st (fun tq kq => XS.iushr X0.here hx rfl (hb hby dC0_2) rfl kq) ?_
  refine own_st (fun tq kq => XS.sipush X0.here hx rfl (hb hby dC0_3) kq) ?_
  show own_G p e below _ (s₁.setTop (mkF m 6 #[.val (.int a)] [(.int (255 : Int32)), (.int ((a.toUInt32 >>> ((2 : Int32) &&& 31).toUInt32).toInt32))]))
  refine own_st (fun tq kq => XS.iand X0.here hx rfl (hb hby dC0_6) rfl kq) ?_
  refine own_st (fun tq kq => XS.i2c X0.here hx rfl (hb hby dC0_7) rfl kq) ?_
  show own_G p e below _ (s₁.setTop (mkF m 8 #[.val (.int a)] [(.int ((((a.toUInt32 >>> ((2 : Int32) &&& 31).toUInt32).toInt32) &&& (255 : Int32)).toUInt32.toUInt16.toUInt32.toInt32))]))
  obtain ⟨fs, hr, hrun, hended, hW, hsame⟩ := X0.leave (v := some (.int (nar .char ((((a.toUInt32 >>> ((2 : Int32) &&& 31).toUInt32).toInt32) &&& (255 : Int32)).toUInt32.toUInt16.toUInt32.toInt32)))) (fun h => by rw [Bd.returns] at h; cases h)
  refine ⟨_, _, retN X0 hx (t := .char) Bd.returns (by simp) (hb hby dC0_8) hr, hrun, hended, _, _, rfl, ?_, ⟨_, rfl⟩, hW, hsame.mono (by decide) (by decide)⟩
  change (fun (v : Option Value) (h : Heap) (L : List Loc) => v = some (.int (own_c0 a)) ∧ Fr n0 L ∧ h = h0) (some (.int (nar .char ((((a.toUInt32 >>> ((2 : Int32) &&& 31).toUInt32).toInt32) &&& (255 : Int32)).toUInt32.toUInt16.toUInt32.toInt32)))) s₁.heap _; rw [e0]; exact ⟨rfl, N0, rfl⟩

theorem ef_own_c1C (m : MethodId) (x0 : Int32) : entryFrame m #[(.int x0)] 1 = mkF m 0 #[.val (.int x0)] [] := by first | (simp [entryFrame, mkF, argsToLocals, Value.category]; done) | rfl
set_option maxRecDepth 65536 in
set_option maxHeartbeats 40000000 in
theorem own_c1C (l : Launch) (Z : State) (a0 : Array Value) (hw : ∀ d ∈ tables_1, d.before a0 Z = true) (ws : List Jvm.Cond) (a : Int32) (h0 : Heap) (n0 : Nat) (Z0 : n0 ≤ h0.size) (X00 : Old Z n0 h0)  :
    MetFree l (⟨"com/example/garm/garm/ChoiceEqualsPinLaw", "c1", "(I)C"⟩ : MethodName) (head1 (Jvm.Cond.code (⟨"com/example/garm/garm/ChoiceEqualsPinLaw", "c1", "(I)C"⟩ : MethodName) method_4_code 1 (some .char) :: ws) ({ frames := 0, cells := 0, slots := 0, locals := 0 } : Room)) (fun av_ U => av_ = #[(.int a)] ∧ Z.Warmed39 U.vm ∧ U.heap = h0) (fun _ _ _ _ _ => True) (own_EN (fun (v : Option Value) (h : Heap) (L : List Loc) => v = some (.int (own_c1 a)) ∧ Fr n0 L ∧ h = h0) ({ frames := 0, cells := 0, slots := 0, locals := 0 } : Room)) := by
  refine MetFree.of_bodySF (plainFor_of_name own_pn2) hisR ?_
  intro p e s m args below meth c s₁ Bd hml0 hP hK
  obtain ⟨rfl, hZ, hh⟩ := hP
  have hx := Bd.exec
  have hby := Bd.bytes
  have hml : c.maxLocals = 1 := hml0
  have hown : s.vm.findClass "com/example/garm/garm/ChoiceEqualsPinLaw" = some m.cls := findClass_of_methodNamed Bd.named
  have hnm := (name_of_methodNamed Bd.named Bd.method).1
  have X0 : Stand p l e ({ frames := 0, cells := 0, slots := 0, locals := 0 } : Room) s m #[(.int a)] below meth c s₁ [] 0 0 := Stand.of_body Bd
  have e0 : s₁.heap = h0 := by rw [← hh, Bd.state]; rfl
  have N0 := Fr.nil n0
  have K0 : Keep h0 h0 [] := Keep.refl h0 []
  refine show own_G p e below (own_EN (fun (v : Option Value) (h : Heap) (L : List Loc) => v = some (.int (own_c1 a)) ∧ Fr n0 L ∧ h = h0) ({ frames := 0, cells := 0, slots := 0, locals := 0 } : Room) #[(.int a)] s) _ from ?_
  refine own_st (fun tq kq => castTop (ef_own_c1C m (a)) kq) ?_
  show own_G p e below _ (s₁.setTop (mkF m 0 #[.val (.int a)] []))
  refine own_st (fun tq kq => XS.iloadN X0.here hx rfl (hb hby dC1_0) rfl  kq) ?_
  refine own_st (fun tq kq => XS.bipush X0.here hx rfl (hb hby dC1_1) kq) ?_
  refine own_st (fun tq kq => XS.iushr X0.here hx rfl (hb hby dC1_3) rfl kq) ?_
  refine own_st (fun tq kq => XS.sipush X0.here hx rfl (hb hby dC1_4) kq) ?_
  show own_G p e below _ (s₁.setTop (mkF m 7 #[.val (.int a)] [(.int (255 : Int32)), (.int ((a.toUInt32 >>> ((10 : Int32) &&& 31).toUInt32).toInt32))]))
  refine own_st (fun tq kq => XS.iand X0.here hx rfl (hb hby dC1_7) rfl kq) ?_
  refine own_st (fun tq kq => XS.i2c X0.here hx rfl (hb hby dC1_8) rfl kq) ?_
  show own_G p e below _ (s₁.setTop (mkF m 9 #[.val (.int a)] [(.int ((((a.toUInt32 >>> ((10 : Int32) &&& 31).toUInt32).toInt32) &&& (255 : Int32)).toUInt32.toUInt16.toUInt32.toInt32))]))
  obtain ⟨fs, hr, hrun, hended, hW, hsame⟩ := X0.leave (v := some (.int (nar .char ((((a.toUInt32 >>> ((10 : Int32) &&& 31).toUInt32).toInt32) &&& (255 : Int32)).toUInt32.toUInt16.toUInt32.toInt32)))) (fun h => by rw [Bd.returns] at h; cases h)
  refine ⟨_, _, retN X0 hx (t := .char) Bd.returns (by simp) (hb hby dC1_9) hr, hrun, hended, _, _, rfl, ?_, ⟨_, rfl⟩, hW, hsame.mono (by decide) (by decide)⟩
  change (fun (v : Option Value) (h : Heap) (L : List Loc) => v = some (.int (own_c1 a)) ∧ Fr n0 L ∧ h = h0) (some (.int (nar .char ((((a.toUInt32 >>> ((10 : Int32) &&& 31).toUInt32).toInt32) &&& (255 : Int32)).toUInt32.toUInt16.toUInt32.toInt32)))) s₁.heap _; rw [e0]; exact ⟨rfl, N0, rfl⟩

theorem ef_own_strC (m : MethodId) (x0 : Int32) : entryFrame m #[(.int x0)] 3 = mkF m 0 #[.val (.int x0), .unset, .unset] [] := by first | (simp [entryFrame, mkF, argsToLocals, Value.category]; done) | rfl
set_option maxRecDepth 65536 in
set_option maxHeartbeats 40000000 in
theorem own_strC (l : Launch) (Z : State) (a0 : Array Value) (hw : ∀ d ∈ tables_1, d.before a0 Z = true) (hEL : EW Z a0 consts_1) (ws : List Jvm.Cond) (p0 G1 : Int32) (h0 : Heap) (n0 : Nat) (Z0 : n0 ≤ h0.size) (X00 : Old Z n0 h0) (O2 : Sta Z Z.heap "java/lang/String" "COMPACT_STRINGS" "Z" (.int G1)) (P5 : ¬ (G1 = (0 : Int32))) :
    MetFree l (⟨"com/example/garm/garm/ChoiceEqualsPinLaw", "str", "(I)Ljava/lang/String;"⟩ : MethodName) (head1 (Jvm.Cond.code (⟨"com/example/garm/garm/ChoiceEqualsPinLaw", "str", "(I)Ljava/lang/String;"⟩ : MethodName) method_5_code 3 (some (.object "java/lang/String")) :: ws) ({ frames := 6, cells := 4, slots := 16, locals := 130 } : Room)) (own_P Z consts_1 #[(.int p0)] h0 []) (fun _ _ _ _ _ => True) (own_E Z consts_1 (fun (v : Option Value) (_ : Vm) (h : Heap) (L : List Loc) => ∃ a : Nat, v = some (.ref a) ∧ Fr n0 L ∧ Keep h0 h [] ∧ h0.size ≤ a ∧ own_Str Z h.size h a (own_str p0)) ({ frames := 6, cells := 4, slots := 16, locals := 130 } : Room)) := by
  refine MetFree.of_bodySF (plainFor_of_name own_pn2) hisR ?_
  intro p e s m args below meth c s₁ Bd hml0 hP hK
  obtain ⟨rfl, hZ, hh, hCH, hSafe⟩ := hP
  have hx := Bd.exec
  have hby := Bd.bytes
  have hml : c.maxLocals = 3 := hml0
  have hown : s.vm.findClass "com/example/garm/garm/ChoiceEqualsPinLaw" = some m.cls := findClass_of_methodNamed Bd.named
  have hnm := (name_of_methodNamed Bd.named Bd.method).1
  have X0 : Stand p l e ({ frames := 6, cells := 4, slots := 16, locals := 130 } : Room) (s.setVm s.vm) m #[(.int p0)] below meth c s₁ [] 0 0 := Stand.of_body Bd
  have e0 : s₁.heap = h0 := by rw [← hh, Bd.state]; rfl
  have N0 := Fr.nil n0
  have K0 : Keep h0 h0 [] := Keep.refl h0 []
  have S0 : s.Since s.vm 0 := own_since s
  have C0 : CHr Z consts_1 s.vm h0 s.vm h0 := CHr.refl hCH
  refine show own_G p e below (own_E Z consts_1 (fun (v : Option Value) (_ : Vm) (h : Heap) (L : List Loc) => ∃ a : Nat, v = some (.ref a) ∧ Fr n0 L ∧ Keep h0 h [] ∧ h0.size ≤ a ∧ own_Str Z h.size h a (own_str p0)) ({ frames := 6, cells := 4, slots := 16, locals := 130 } : Room) #[(.int p0)] s) _ from ?_
  refine own_st (fun tq kq => castTop (ef_own_strC m (p0)) kq) ?_
  show own_G p e below _ (s₁.setTop (mkF m 0 #[.val (.int p0), .unset, .unset] []))
  refine own_st (fun tq kq => XS.iloadN X0.here hx rfl (hb hby dST_0) rfl  kq) ?_
  show own_G p e below _ (s₁.setTop (mkF m 1 #[.val (.int p0), .unset, .unset] [(.int p0)]))
  obtain ⟨_, _, ⟨T1, L1, k1, n1⟩, -, X1, ⟨Lc1, hQ1, l1, y1, z1⟩, st1⟩ := Jvm.LawKit.callS X0 hx (y := (⟨"com/example/garm/garm/ChoiceEqualsPinLaw", "len", "(I)I"⟩ : MethodName)) hown (mvT hZ (hw _ (List.mem_of_getElem? (i := 4) rfl))) (mvT hZ (hw _ (List.mem_of_getElem? (i := 5) rfl))) (mvT hZ (hw _ (List.mem_of_getElem? (i := 2) rfl))) (mvT hZ (hw _ (List.mem_of_getElem? (i := 6) rfl))) (by decide) (own_backN (W := 0) (own_lenC l Z a0 hw [] (p0) h0 n0 (by omega) (X00.keep K0 all0) ) hZ (hw _ (List.mem_of_getElem? (i := 6) rfl)) (hw _ (List.mem_of_getElem? (i := 2) rfl)) (by decide) (by decide)) (g := (mkF m 1 #[.val (.int p0), .unset, .unset] [(.int p0)])) rfl (by rw [hml]; rfl) (argsL := [(.int p0)]) (rest := []) (lenOf own_pd2 rfl) rfl (by show 2 * 0 + _ ≤ _; exact Nat.le_of_eq rfl) (hb hby dST_1) (fun _ _ => ⟨rfl, e0, (by decide : 0 + 0 ≤ _), (by decide : 0 + 0 ≤ _)⟩)
  dsimp only [Pt.U, Pt.locs, Pt.cells, Pt.slots] at X1 l1 y1 z1 st1 hQ1
  subst l1 y1 z1
  obtain ⟨rfl, Nq1, sm1⟩ := hQ1
  have N1 := Fr.app N0 Nq1
  refine own_st st1 ?_
  show own_G p e below _ (T1.setTop (mkF m 4 #[.val (.int p0), .unset, .unset] [(.int (own_len p0))]))
  refine own_st (fun tq kq => XS.istoreN X1.here hx rfl (hb hby dST_4) rfl (l' := #[.val (.int p0), .val (.int (own_len p0)), .unset]) rfl kq) ?_
  refine own_st (fun tq kq => XS.iloadN X1.here hx rfl (hb hby dST_5) rfl  kq) ?_
  show own_G p e below _ (T1.setTop (mkF m 6 #[.val (.int p0), .val (.int (own_len p0)), .unset] [(.int (own_len p0))]))
  by_cases hc6_2 : ((own_len p0) = (0 : Int32))
  ·
    refine own_st (fun tq kq => XS.ifNo X1.here hx rfl (hb hby dST_6) rfl ((if0 _ _).trans (teq hc6_2).2) kq) ?_
    show own_G p e below _ (T1.setTop (mkF m 9 #[.val (.int p0), .val (.int (own_len p0)), .unset] []))
    obtain ⟨T3, h3, X3, e3, E3, A3, D3, -, st3⟩ := newO X1 hx hZ hown (hw _ (List.mem_of_getElem? (i := 11) rfl)) (hw _ (List.mem_of_getElem? (i := 12) rfl)) (hw _ (List.mem_of_getElem? (i := 13) rfl)) sm1 (g := (mkF m 9 #[.val (.int p0), .val (.int (own_len p0)), .unset] [])) rfl (hb hby dST_9) (by decide) (by decide)
    obtain ⟨b3, g3⟩ : ∃ z, z = h0.size := ⟨_, rfl⟩
    rw [← g3] at A3 D3 st3
    have lt3 : b3 < h3.size := A3.lt
    have Sn3 : Safe Z consts_1 s.vm h0 b3 := Safe.new (own_le (by omega))
    have sz3 : h0.size ≤ h3.size := E3.1
    have K3 : Keep h0 h3 [] := K0.ext E3
    have c3 : CHr Z consts_1 s.vm h0 s.vm h3 := CHr.ext E3 C0.1
    have C3 := C0.trans c3
    have Sf3 : Safe Z consts_1 s.vm h3 b3 := Safe.ext E3 C0.1 Sn3
    have F3_value : Fld Z h3 b3 "java/lang/String" "value" "[B" .null := D3 (Or.inr (hw _ (List.mem_of_getElem? (i := 27) rfl))) (ty := (.array .byte)) (by decide)
    have F3_coder : Fld Z h3 b3 "java/lang/String" "coder" "B" (.int (0 : Int32)) := D3 (Or.inr (hw _ (List.mem_of_getElem? (i := 28) rfl))) (ty := .byte) (by decide)
    refine own_st st3 ?_
    show own_G p e below _ (T3.setTop (mkF m 12 #[.val (.int p0), .val (.int (own_len p0)), .unset] [(.ref b3)]))
    refine own_st (fun tq kq => XS.dup X3.here hx rfl (hb hby dST_12) rfl rfl kq) ?_
    refine own_st (fun tq kq => XS.iconst X3.here hx rfl (hb hby dST_13) kq) ?_
    show own_G p e below _ (T3.setTop (mkF m 14 #[.val (.int p0), .val (.int (own_len p0)), .unset] [(.int (0 : Int32)), (.ref b3), (.ref b3)]))
    obtain ⟨T4, h4, k4, X4, e4, E4, A4, st4⟩ := newP X3 hx hZ (hw _ (List.mem_of_getElem? (i := 14) rfl)) e3 (g := (mkF m 14 #[.val (.int p0), .val (.int (own_len p0)), .unset] [(.int (0 : Int32)), (.ref b3), (.ref b3)])) rfl (hb hby dST_14) rfl (by decide) (cap := 0) (by decide) (by decide) (by decide) (by decide)
    obtain ⟨b4, g4⟩ : ∃ z, z = h3.size := ⟨_, rfl⟩
    rw [← g4] at A4 st4
    have lt4 : b4 < h4.size := A4.lt
    have V4 : Arv Z h4 b4 k4 .char (0 : Int32) [] (.int (0 : Int32)) := Arv.new A4 (by decide)
    have sz4 : h3.size ≤ h4.size := E4.1
    have K4 : Keep h0 h4 [] := K3.ext E4
    have c4 : CHr Z consts_1 s.vm h3 s.vm h4 := CHr.ext E4 C3.1
    have C4 := C3.trans c4
    have Sf4_5 := c4.safe (own_lt (by omega)) Sf3
    refine own_st st4 ?_
    show own_G p e below _ (T4.setTop (mkF m 16 #[.val (.int p0), .val (.int (own_len p0)), .unset] [(.ref b4), (.ref b3), (.ref b3)]))
    have hp6 : ∀ c ∈ ([] : List Int32), ¬ c < 0 ∧ ¬ (255 : Int32) < c := fun c hc => by cases hc
    obtain ⟨_, _, ⟨T6, L6, k6, n6⟩, -, Y6, S6p, gr6, ⟨Lc6, hQ6, l6, y6, z6, c6⟩, st6⟩ := X4.specialBackS hx (y := (⟨"java/lang/String", "<init>", "([C)V"⟩ : MethodName)) rfl hown (mvT hZ (hw _ (List.mem_of_getElem? (i := 15) rfl))) (mvT hZ (hw _ (List.mem_of_getElem? (i := 16) rfl))) (mvT hZ (hw _ (List.mem_of_getElem? (i := 17) rfl))) (by decide) (own_newStr (s := s) (vm0 := s.vm) (W := 1) hZ hw hEL C4.1 (cs := ([] : List Int32)) (n := 0) (n0 := n0) Sf4_5 (by omega) (X00.keep K4 all0) (A3.ext E4) (F3_value.ext E4) (F3_coder.ext E4) V4 O2 P5 rfl rfl (by decide) hp6 (by decide) (by decide)) (g := (mkF m 16 #[.val (.int p0), .val (.int (own_len p0)), .unset] [(.ref b4), (.ref b3), (.ref b3)])) rfl (by rw [hml]; rfl) (Steps.refl _) (a := b3) (argsL := [(.ref b4)]) (rest := [(.ref b3)]) (lenOf own_pd3 rfl) rfl (by show 2 * 0 + _ ≤ _; exact Nat.le_of_eq rfl) (hb hby dST_16) (fun _ _ => ⟨rfl, e4, (by decide : 2 + 2 ≤ _), (by decide : 4 + 4 ≤ _)⟩)
    dsimp only [Pt.U, Pt.locs, Pt.cells, Pt.slots] at Y6 S6p gr6 l6 y6 z6 st6 hQ6 c6
    subst l6 y6 z6
    obtain ⟨X6, S6, Z6, o6⟩ := rebS S0 (by rw [e4]; exact (own_le (by omega))) Y6 S6p gr6 hZ hown
    obtain ⟨rfl, Nq6, Kq6, Str6⟩ := hQ6
    have KK6 : Keep h4 T6.heap [b3] := Kq6
    have sz6 : h4.size ≤ T6.heap.size := KK6.1
    have K6 : Keep h0 T6.heap [] := K4.trans KK6 (allS (Or.inr (own_le (by omega))) all0)
    have C6 := C4.trans c6
    have Sf6_7 := c6.safe (own_lt (by omega)) Sf4_5
    have N6 := Fr.app N1 Nq6
    refine own_st (fun tq kq => st6.trans kq) ?_
    show own_G p e below _ (T6.setTop (mkF m 19 #[.val (.int p0), .val (.int (own_len p0)), .unset] [(.ref b3)]))
    obtain ⟨fs, hr, hrun, hended, hRW⟩ := X6.leaveW S6 (own_le (by omega)) (v := some (.ref b3)) (fun h => by rw [Bd.returns] at h; cases h)
    have cE := C6.trans (CHv.at (s := s) (vm0 := T6.vm) X6 Z6 hEL C6.1)
    refine ⟨_, _, retOut X6 hx Bd.returns rfl (Or.inr (Or.inr (Or.inr (Or.inr ⟨rfl, rfl, rfl⟩)))) (hb hby dST_19) hr, hrun, hended, _, _, rfl, ?_, ?_, own_RW hRW (by decide) (by decide)⟩
    · change (fun (v : Option Value) (_ : Vm) (h : Heap) (L : List Loc) => ∃ a : Nat, v = some (.ref a) ∧ Fr n0 L ∧ Keep h0 h [] ∧ h0.size ≤ a ∧ own_Str Z h.size h a (own_str p0)) (some (.ref b3)) T6.vm T6.heap _; exact ⟨b3, rfl, N6, K6, (by omega), (by rw [own_str0 hc6_2]; have q := Str6; first | exact q | (simp only [own_c0_nar, own_c1_nar] at q; exact q))⟩
    · rw [hh]; change CHr Z consts_1 s.vm h0 T6.vm T6.heap; exact cE
  ·
    refine own_st (fun tq kq => XS.ifYes X1.here hx rfl (pc0 := 6) (pc' := 20) rfl (hb hby dST_6) rfl ((if0 _ _).trans (feq hc6_2).2) (by decide) (by decide) kq) ?_
    refine own_st (fun tq kq => XS.iloadN X1.here hx rfl (hb hby dST_20) rfl  kq) ?_
    refine own_st (fun tq kq => XS.iconst X1.here hx rfl (hb hby dST_21) kq) ?_
    show own_G p e below _ (T1.setTop (mkF m 22 #[.val (.int p0), .val (.int (own_len p0)), .unset] [(.int (1 : Int32)), (.int (own_len p0))]))
    by_cases hc22_8 : ((own_len p0) = (1 : Int32))
    ·
      refine own_st (fun tq kq => XS.icmpNo X1.here hx rfl (hb hby dST_22) rfl (teq hc22_8).2 kq) ?_
      refine own_st (fun tq kq => XS.iconst X1.here hx rfl (hb hby dST_25) kq) ?_
      show own_G p e below _ (T1.setTop (mkF m 26 #[.val (.int p0), .val (.int (own_len p0)), .unset] [(.int (1 : Int32))]))
      obtain ⟨T9, h9, k9, X9, e9, E9, A9, st9⟩ := newP X1 hx hZ (hw _ (List.mem_of_getElem? (i := 14) rfl)) sm1 (g := (mkF m 26 #[.val (.int p0), .val (.int (own_len p0)), .unset] [(.int (1 : Int32))])) rfl (hb hby dST_26) rfl (by decide) (cap := 1) (by decide) (by decide) (by decide) (by decide)
      obtain ⟨b9, g9⟩ : ∃ z, z = h0.size := ⟨_, rfl⟩
      rw [← g9] at A9 st9
      have lt9 : b9 < h9.size := A9.lt
      have V9 : Arv Z h9 b9 k9 .char (1 : Int32) [(.int (0 : Int32))] (.int (0 : Int32)) := (Arv.new A9 (by decide)).pad (pad_rep [] (.int (0 : Int32)) 1)
      have sz9 : h0.size ≤ h9.size := E9.1
      have K9 : Keep h0 h9 [] := K0.ext E9
      have c9 : CHr Z consts_1 s.vm h0 s.vm h9 := CHr.ext E9 C0.1
      have C9 := C0.trans c9
      refine own_st st9 ?_
      show own_G p e below _ (T9.setTop (mkF m 28 #[.val (.int p0), .val (.int (own_len p0)), .unset] [(.ref b9)]))
      refine own_st (fun tq kq => XS.astoreN X9.here hx rfl (hb hby dST_28) rfl rfl (l' := #[.val (.int p0), .val (.int (own_len p0)), .val (.ref b9)]) rfl kq) ?_
      refine own_st (fun tq kq => XS.aloadN X9.here hx rfl (hb hby dST_29) rfl rfl kq) ?_
      refine own_st (fun tq kq => XS.iconst X9.here hx rfl (hb hby dST_30) kq) ?_
      refine own_st (fun tq kq => XS.iloadN X9.here hx rfl (hb hby dST_31) rfl  kq) ?_
      show own_G p e below _ (T9.setTop (mkF m 32 #[.val (.int p0), .val (.int (own_len p0)), .val (.ref b9)] [(.int p0), (.int (0 : Int32)), (.ref b9)]))
      obtain ⟨_, _, ⟨T10, L10, k10, n10⟩, -, X10, ⟨Lc10, hQ10, l10, y10, z10⟩, st10⟩ := Jvm.LawKit.callS X9 hx (y := (⟨"com/example/garm/garm/ChoiceEqualsPinLaw", "c0", "(I)C"⟩ : MethodName)) hown (mvT hZ (hw _ (List.mem_of_getElem? (i := 36) rfl))) (mvT hZ (hw _ (List.mem_of_getElem? (i := 37) rfl))) (mvT hZ (hw _ (List.mem_of_getElem? (i := 2) rfl))) (mvT hZ (hw _ (List.mem_of_getElem? (i := 38) rfl))) (by decide) (own_backN (W := 2) (own_c0C l Z a0 hw [] (p0) h9 n0 (by omega) (X00.keep K9 all0) ) hZ (hw _ (List.mem_of_getElem? (i := 38) rfl)) (hw _ (List.mem_of_getElem? (i := 2) rfl)) (by decide) (by decide)) (g := (mkF m 32 #[.val (.int p0), .val (.int (own_len p0)), .val (.ref b9)] [(.int p0), (.int (0 : Int32)), (.ref b9)])) rfl (by rw [hml]; rfl) (argsL := [(.int p0)]) (rest := [(.int (0 : Int32)), (.ref b9)]) (lenOf own_pd4 rfl) rfl (by show 2 * 0 + _ ≤ _; exact Nat.le_of_eq rfl) (hb hby dST_32) (fun _ _ => ⟨rfl, e9, (by decide : 1 + 0 ≤ _), (by decide : 1 + 0 ≤ _)⟩)
      dsimp only [Pt.U, Pt.locs, Pt.cells, Pt.slots] at X10 l10 y10 z10 st10 hQ10
      subst l10 y10 z10
      obtain ⟨rfl, Nq10, sm10⟩ := hQ10
      have N10 := Fr.app N1 Nq10
      refine own_st st10 ?_
      show own_G p e below _ (T10.setTop (mkF m 35 #[.val (.int p0), .val (.int (own_len p0)), .val (.ref b9)] [(.int (own_c0 p0)), (.int (0 : Int32)), (.ref b9)]))
      obtain ⟨cl11, Ar11, q11, S_11, N_11, H_11, G_11⟩ := id V9
      have in11 : ¬ ((0 : Int32) < 0 ∨ cl11.slots.size ≤ ((0 : Int32)).toNatClampNeg) := inb_of S_11 ⟨by decide, by decide⟩
      obtain ⟨T11, h11, X11, e11, W11, st11⟩ := stC X10 hx hZ sm10 Ar11 (j := (0 : Int32)) in11 (g := (mkF m 35 #[.val (.int p0), .val (.int (own_len p0)), .val (.ref b9)] [(.int (own_c0 p0)), (.int (0 : Int32)), (.ref b9)])) rfl rfl (hb hby dST_35)
      have V11 := Arv.set Ar11 q11 S_11 N_11 H_11 G_11 (fits_nar_char _) W11 0 rfl (Nat.le_of_ble_eq_true rfl)
      have sz11 : h9.size ≤ h11.size := (Keep.of_wr W11).1
      have K11 : Keep h0 h11 [] := K9.wr W11 (Or.inr (own_le (by omega)))
      have c11 : CHr Z consts_1 s.vm h9 s.vm h11 := CHr.wr W11 (Safe.arr hZ.alike Ar11 (by decide)) C9.1
      have C11 := C9.trans c11
      have N11 := Fr.snoc X11 N10 (own_le (by omega))
      refine own_st st11 ?_
      show own_G p e below _ (T11.setTop (mkF m 36 #[.val (.int p0), .val (.int (own_len p0)), .val (.ref b9)] []))
      obtain ⟨T12, h12, X12, e12, E12, A12, D12, -, st12⟩ := newO X11 hx hZ hown (hw _ (List.mem_of_getElem? (i := 11) rfl)) (hw _ (List.mem_of_getElem? (i := 12) rfl)) (hw _ (List.mem_of_getElem? (i := 13) rfl)) e11 (g := (mkF m 36 #[.val (.int p0), .val (.int (own_len p0)), .val (.ref b9)] [])) rfl (hb hby dST_36) (by decide) (by decide)
      obtain ⟨b12, g12⟩ : ∃ z, z = h11.size := ⟨_, rfl⟩
      rw [← g12] at A12 D12 st12
      have lt12 : b12 < h12.size := A12.lt
      have Sn12 : Safe Z consts_1 s.vm h11 b12 := Safe.new (own_le (by omega))
      have sz12 : h11.size ≤ h12.size := E12.1
      have K12 : Keep h0 h12 [] := K11.ext E12
      have c12 : CHr Z consts_1 s.vm h11 s.vm h12 := CHr.ext E12 C11.1
      have C12 := C11.trans c12
      have Sf12 : Safe Z consts_1 s.vm h12 b12 := Safe.ext E12 C11.1 Sn12
      have F12_value : Fld Z h12 b12 "java/lang/String" "value" "[B" .null := D12 (Or.inr (hw _ (List.mem_of_getElem? (i := 27) rfl))) (ty := (.array .byte)) (by decide)
      have F12_coder : Fld Z h12 b12 "java/lang/String" "coder" "B" (.int (0 : Int32)) := D12 (Or.inr (hw _ (List.mem_of_getElem? (i := 28) rfl))) (ty := .byte) (by decide)
      refine own_st st12 ?_
      show own_G p e below _ (T12.setTop (mkF m 39 #[.val (.int p0), .val (.int (own_len p0)), .val (.ref b9)] [(.ref b12)]))
      refine own_st (fun tq kq => XS.dup X12.here hx rfl (hb hby dST_39) rfl rfl kq) ?_
      refine own_st (fun tq kq => XS.aloadN X12.here hx rfl (hb hby dST_40) rfl rfl kq) ?_
      show own_G p e below _ (T12.setTop (mkF m 41 #[.val (.int p0), .val (.int (own_len p0)), .val (.ref b9)] [(.ref b9), (.ref b12), (.ref b12)]))
      have hp13 : ∀ c ∈ ([(nar .char (own_c0 p0))] : List Int32), ¬ c < 0 ∧ ¬ (255 : Int32) < c := by
        intro c hc
        simp only [List.mem_cons, List.not_mem_nil, or_false] at hc
        rcases hc with rfl
        · exact own_c0_ok _
      obtain ⟨_, _, ⟨T13, L13, k13, n13⟩, -, Y13, S13p, gr13, ⟨Lc13, hQ13, l13, y13, z13, c13⟩, st13⟩ := X12.specialBackS hx (y := (⟨"java/lang/String", "<init>", "([C)V"⟩ : MethodName)) rfl hown (mvT hZ (hw _ (List.mem_of_getElem? (i := 15) rfl))) (mvT hZ (hw _ (List.mem_of_getElem? (i := 16) rfl))) (mvT hZ (hw _ (List.mem_of_getElem? (i := 17) rfl))) (by decide) (own_newStr (s := s) (vm0 := s.vm) (W := 1) hZ hw hEL C12.1 (cs := ([(nar .char (own_c0 p0))] : List Int32)) (n := 1) (n0 := n0) Sf12 (by omega) (X00.keep K12 all0) A12 F12_value F12_coder (V11.ext E12) O2 P5 rfl rfl (by decide) hp13 (by decide) (by decide)) (g := (mkF m 41 #[.val (.int p0), .val (.int (own_len p0)), .val (.ref b9)] [(.ref b9), (.ref b12), (.ref b12)])) rfl (by rw [hml]; rfl) (Steps.refl _) (a := b12) (argsL := [(.ref b9)]) (rest := [(.ref b12)]) (lenOf own_pd3 rfl) rfl (by show 2 * 0 + _ ≤ _; exact Nat.le_of_eq rfl) (hb hby dST_41) (fun _ _ => ⟨rfl, e12, (by decide : 2 + 2 ≤ _), (by decide : 5 + 5 ≤ _)⟩)
      dsimp only [Pt.U, Pt.locs, Pt.cells, Pt.slots] at Y13 S13p gr13 l13 y13 z13 st13 hQ13 c13
      subst l13 y13 z13
      obtain ⟨X13, S13, Z13, o13⟩ := rebS S0 (by rw [e12]; exact (own_le (by omega))) Y13 S13p gr13 hZ hown
      obtain ⟨rfl, Nq13, Kq13, Str13⟩ := hQ13
      have KK13 : Keep h12 T13.heap [b12] := Kq13
      have sz13 : h12.size ≤ T13.heap.size := KK13.1
      have K13 : Keep h0 T13.heap [] := K12.trans KK13 (allS (Or.inr (own_le (by omega))) all0)
      have C13 := C12.trans c13
      have Sf13_14 := c13.safe (own_lt (by omega)) Sf12
      have N13 := Fr.app N11 Nq13
      refine own_st (fun tq kq => st13.trans kq) ?_
      show own_G p e below _ (T13.setTop (mkF m 44 #[.val (.int p0), .val (.int (own_len p0)), .val (.ref b9)] [(.ref b12)]))
      obtain ⟨fs, hr, hrun, hended, hRW⟩ := X13.leaveW S13 (own_le (by omega)) (v := some (.ref b12)) (fun h => by rw [Bd.returns] at h; cases h)
      have cE := C13.trans (CHv.at (s := s) (vm0 := T13.vm) X13 Z13 hEL C13.1)
      refine ⟨_, _, retOut X13 hx Bd.returns rfl (Or.inr (Or.inr (Or.inr (Or.inr ⟨rfl, rfl, rfl⟩)))) (hb hby dST_44) hr, hrun, hended, _, _, rfl, ?_, ?_, own_RW hRW (by decide) (by decide)⟩
      · change (fun (v : Option Value) (_ : Vm) (h : Heap) (L : List Loc) => ∃ a : Nat, v = some (.ref a) ∧ Fr n0 L ∧ Keep h0 h [] ∧ h0.size ≤ a ∧ own_Str Z h.size h a (own_str p0)) (some (.ref b12)) T13.vm T13.heap _; exact ⟨b12, rfl, N13, K13, (by omega), (by rw [own_str1 hc22_8]; have q := Str13; first | exact q | (simp only [own_c0_nar, own_c1_nar] at q; exact q))⟩
      · rw [hh]; change CHr Z consts_1 s.vm h0 T13.vm T13.heap; exact cE
    ·
      refine own_st (fun tq kq => XS.icmpYes X1.here hx rfl (pc0 := 22) (pc' := 45) rfl (hb hby dST_22) rfl (feq hc22_8).2 (by decide) (by decide) kq) ?_
      refine own_st (fun tq kq => XS.iconst X1.here hx rfl (hb hby dST_45) kq) ?_
      show own_G p e below _ (T1.setTop (mkF m 46 #[.val (.int p0), .val (.int (own_len p0)), .unset] [(.int (2 : Int32))]))
      obtain ⟨T15, h15, k15, X15, e15, E15, A15, st15⟩ := newP X1 hx hZ (hw _ (List.mem_of_getElem? (i := 14) rfl)) sm1 (g := (mkF m 46 #[.val (.int p0), .val (.int (own_len p0)), .unset] [(.int (2 : Int32))])) rfl (hb hby dST_46) rfl (by decide) (cap := 2) (by decide) (by decide) (by decide) (by decide)
      obtain ⟨b15, g15⟩ : ∃ z, z = h0.size := ⟨_, rfl⟩
      rw [← g15] at A15 st15
      have lt15 : b15 < h15.size := A15.lt
      have V15 : Arv Z h15 b15 k15 .char (2 : Int32) [(.int (0 : Int32)), (.int (0 : Int32))] (.int (0 : Int32)) := (Arv.new A15 (by decide)).pad (pad_rep [] (.int (0 : Int32)) 2)
      have sz15 : h0.size ≤ h15.size := E15.1
      have K15 : Keep h0 h15 [] := K0.ext E15
      have c15 : CHr Z consts_1 s.vm h0 s.vm h15 := CHr.ext E15 C0.1
      have C15 := C0.trans c15
      refine own_st st15 ?_
      show own_G p e below _ (T15.setTop (mkF m 48 #[.val (.int p0), .val (.int (own_len p0)), .unset] [(.ref b15)]))
      refine own_st (fun tq kq => XS.astoreN X15.here hx rfl (hb hby dST_48) rfl rfl (l' := #[.val (.int p0), .val (.int (own_len p0)), .val (.ref b15)]) rfl kq) ?_
      refine own_st (fun tq kq => XS.aloadN X15.here hx rfl (hb hby dST_49) rfl rfl kq) ?_
      refine own_st (fun tq kq => XS.iconst X15.here hx rfl (hb hby dST_50) kq) ?_
      refine own_st (fun tq kq => XS.iloadN X15.here hx rfl (hb hby dST_51) rfl  kq) ?_
      show own_G p e below _ (T15.setTop (mkF m 52 #[.val (.int p0), .val (.int (own_len p0)), .val (.ref b15)] [(.int p0), (.int (0 : Int32)), (.ref b15)]))
      obtain ⟨_, _, ⟨T16, L16, k16, n16⟩, -, X16, ⟨Lc16, hQ16, l16, y16, z16⟩, st16⟩ := Jvm.LawKit.callS X15 hx (y := (⟨"com/example/garm/garm/ChoiceEqualsPinLaw", "c0", "(I)C"⟩ : MethodName)) hown (mvT hZ (hw _ (List.mem_of_getElem? (i := 36) rfl))) (mvT hZ (hw _ (List.mem_of_getElem? (i := 37) rfl))) (mvT hZ (hw _ (List.mem_of_getElem? (i := 2) rfl))) (mvT hZ (hw _ (List.mem_of_getElem? (i := 38) rfl))) (by decide) (own_backN (W := 2) (own_c0C l Z a0 hw [] (p0) h15 n0 (by omega) (X00.keep K15 all0) ) hZ (hw _ (List.mem_of_getElem? (i := 38) rfl)) (hw _ (List.mem_of_getElem? (i := 2) rfl)) (by decide) (by decide)) (g := (mkF m 52 #[.val (.int p0), .val (.int (own_len p0)), .val (.ref b15)] [(.int p0), (.int (0 : Int32)), (.ref b15)])) rfl (by rw [hml]; rfl) (argsL := [(.int p0)]) (rest := [(.int (0 : Int32)), (.ref b15)]) (lenOf own_pd4 rfl) rfl (by show 2 * 0 + _ ≤ _; exact Nat.le_of_eq rfl) (hb hby dST_52) (fun _ _ => ⟨rfl, e15, (by decide : 1 + 0 ≤ _), (by decide : 2 + 0 ≤ _)⟩)
      dsimp only [Pt.U, Pt.locs, Pt.cells, Pt.slots] at X16 l16 y16 z16 st16 hQ16
      subst l16 y16 z16
      obtain ⟨rfl, Nq16, sm16⟩ := hQ16
      have N16 := Fr.app N1 Nq16
      refine own_st st16 ?_
      show own_G p e below _ (T16.setTop (mkF m 55 #[.val (.int p0), .val (.int (own_len p0)), .val (.ref b15)] [(.int (own_c0 p0)), (.int (0 : Int32)), (.ref b15)]))
      obtain ⟨cl17, Ar17, q17, S_17, N_17, H_17, G_17⟩ := id V15
      have in17 : ¬ ((0 : Int32) < 0 ∨ cl17.slots.size ≤ ((0 : Int32)).toNatClampNeg) := inb_of S_17 ⟨by decide, by decide⟩
      obtain ⟨T17, h17, X17, e17, W17, st17⟩ := stC X16 hx hZ sm16 Ar17 (j := (0 : Int32)) in17 (g := (mkF m 55 #[.val (.int p0), .val (.int (own_len p0)), .val (.ref b15)] [(.int (own_c0 p0)), (.int (0 : Int32)), (.ref b15)])) rfl rfl (hb hby dST_55)
      have V17 := Arv.set Ar17 q17 S_17 N_17 H_17 G_17 (fits_nar_char _) W17 0 rfl (Nat.le_of_ble_eq_true rfl)
      have sz17 : h15.size ≤ h17.size := (Keep.of_wr W17).1
      have K17 : Keep h0 h17 [] := K15.wr W17 (Or.inr (own_le (by omega)))
      have c17 : CHr Z consts_1 s.vm h15 s.vm h17 := CHr.wr W17 (Safe.arr hZ.alike Ar17 (by decide)) C15.1
      have C17 := C15.trans c17
      have N17 := Fr.snoc X17 N16 (own_le (by omega))
      refine own_st st17 ?_
      show own_G p e below _ (T17.setTop (mkF m 56 #[.val (.int p0), .val (.int (own_len p0)), .val (.ref b15)] []))
      refine own_st (fun tq kq => XS.aloadN X17.here hx rfl (hb hby dST_56) rfl rfl kq) ?_
      refine own_st (fun tq kq => XS.iconst X17.here hx rfl (hb hby dST_57) kq) ?_
      refine own_st (fun tq kq => XS.iloadN X17.here hx rfl (hb hby dST_58) rfl  kq) ?_
      show own_G p e below _ (T17.setTop (mkF m 59 #[.val (.int p0), .val (.int (own_len p0)), .val (.ref b15)] [(.int p0), (.int (1 : Int32)), (.ref b15)]))
      obtain ⟨_, _, ⟨T18, L18, k18, n18⟩, -, X18, ⟨Lc18, hQ18, l18, y18, z18⟩, st18⟩ := Jvm.LawKit.callS X17 hx (y := (⟨"com/example/garm/garm/ChoiceEqualsPinLaw", "c1", "(I)C"⟩ : MethodName)) hown (mvT hZ (hw _ (List.mem_of_getElem? (i := 39) rfl))) (mvT hZ (hw _ (List.mem_of_getElem? (i := 40) rfl))) (mvT hZ (hw _ (List.mem_of_getElem? (i := 2) rfl))) (mvT hZ (hw _ (List.mem_of_getElem? (i := 41) rfl))) (by decide) (own_backN (W := 2) (own_c1C l Z a0 hw [] (p0) h17 n0 (by omega) (X00.keep K17 all0) ) hZ (hw _ (List.mem_of_getElem? (i := 41) rfl)) (hw _ (List.mem_of_getElem? (i := 2) rfl)) (by decide) (by decide)) (g := (mkF m 59 #[.val (.int p0), .val (.int (own_len p0)), .val (.ref b15)] [(.int p0), (.int (1 : Int32)), (.ref b15)])) rfl (by rw [hml]; rfl) (argsL := [(.int p0)]) (rest := [(.int (1 : Int32)), (.ref b15)]) (lenOf own_pd4 rfl) rfl (by show 2 * 0 + _ ≤ _; exact Nat.le_of_eq rfl) (hb hby dST_59) (fun _ _ => ⟨rfl, e17, (by decide : 1 + 0 ≤ _), (by decide : 2 + 0 ≤ _)⟩)
      dsimp only [Pt.U, Pt.locs, Pt.cells, Pt.slots] at X18 l18 y18 z18 st18 hQ18
      subst l18 y18 z18
      obtain ⟨rfl, Nq18, sm18⟩ := hQ18
      have N18 := Fr.app N17 Nq18
      refine own_st st18 ?_
      show own_G p e below _ (T18.setTop (mkF m 62 #[.val (.int p0), .val (.int (own_len p0)), .val (.ref b15)] [(.int (own_c1 p0)), (.int (1 : Int32)), (.ref b15)]))
      obtain ⟨cl19, Ar19, q19, S_19, N_19, H_19, G_19⟩ := id V17
      have in19 : ¬ ((1 : Int32) < 0 ∨ cl19.slots.size ≤ ((1 : Int32)).toNatClampNeg) := inb_of S_19 ⟨by decide, by decide⟩
      obtain ⟨T19, h19, X19, e19, W19, st19⟩ := stC X18 hx hZ sm18 Ar19 (j := (1 : Int32)) in19 (g := (mkF m 62 #[.val (.int p0), .val (.int (own_len p0)), .val (.ref b15)] [(.int (own_c1 p0)), (.int (1 : Int32)), (.ref b15)])) rfl rfl (hb hby dST_62)
      have V19 := Arv.set Ar19 q19 S_19 N_19 H_19 G_19 (fits_nar_char _) W19 1 rfl (Nat.le_of_ble_eq_true rfl)
      have sz19 : h17.size ≤ h19.size := (Keep.of_wr W19).1
      have K19 : Keep h0 h19 [] := K17.wr W19 (Or.inr (own_le (by omega)))
      have c19 : CHr Z consts_1 s.vm h17 s.vm h19 := CHr.wr W19 (Safe.arr hZ.alike Ar19 (by decide)) C17.1
      have C19 := C17.trans c19
      have N19 := Fr.snoc X19 N18 (own_le (by omega))
      refine own_st st19 ?_
      show own_G p e below _ (T19.setTop (mkF m 63 #[.val (.int p0), .val (.int (own_len p0)), .val (.ref b15)] []))
      obtain ⟨T20, h20, X20, e20, E20, A20, D20, -, st20⟩ := newO X19 hx hZ hown (hw _ (List.mem_of_getElem? (i := 11) rfl)) (hw _ (List.mem_of_getElem? (i := 12) rfl)) (hw _ (List.mem_of_getElem? (i := 13) rfl)) e19 (g := (mkF m 63 #[.val (.int p0), .val (.int (own_len p0)), .val (.ref b15)] [])) rfl (hb hby dST_63) (by decide) (by decide)
      obtain ⟨b20, g20⟩ : ∃ z, z = h19.size := ⟨_, rfl⟩
      rw [← g20] at A20 D20 st20
      have lt20 : b20 < h20.size := A20.lt
      have Sn20 : Safe Z consts_1 s.vm h19 b20 := Safe.new (own_le (by omega))
      have sz20 : h19.size ≤ h20.size := E20.1
      have K20 : Keep h0 h20 [] := K19.ext E20
      have c20 : CHr Z consts_1 s.vm h19 s.vm h20 := CHr.ext E20 C19.1
      have C20 := C19.trans c20
      have Sf20 : Safe Z consts_1 s.vm h20 b20 := Safe.ext E20 C19.1 Sn20
      have F20_value : Fld Z h20 b20 "java/lang/String" "value" "[B" .null := D20 (Or.inr (hw _ (List.mem_of_getElem? (i := 27) rfl))) (ty := (.array .byte)) (by decide)
      have F20_coder : Fld Z h20 b20 "java/lang/String" "coder" "B" (.int (0 : Int32)) := D20 (Or.inr (hw _ (List.mem_of_getElem? (i := 28) rfl))) (ty := .byte) (by decide)
      refine own_st st20 ?_
      show own_G p e below _ (T20.setTop (mkF m 66 #[.val (.int p0), .val (.int (own_len p0)), .val (.ref b15)] [(.ref b20)]))
      refine own_st (fun tq kq => XS.dup X20.here hx rfl (hb hby dST_66) rfl rfl kq) ?_
      refine own_st (fun tq kq => XS.aloadN X20.here hx rfl (hb hby dST_67) rfl rfl kq) ?_
      show own_G p e below _ (T20.setTop (mkF m 68 #[.val (.int p0), .val (.int (own_len p0)), .val (.ref b15)] [(.ref b15), (.ref b20), (.ref b20)]))
      have hp21 : ∀ c ∈ ([(nar .char (own_c0 p0)), (nar .char (own_c1 p0))] : List Int32), ¬ c < 0 ∧ ¬ (255 : Int32) < c := by
        intro c hc
        simp only [List.mem_cons, List.not_mem_nil, or_false] at hc
        rcases hc with rfl | rfl
        · exact own_c0_ok _
        · exact own_c1_ok _
      obtain ⟨_, _, ⟨T21, L21, k21, n21⟩, -, Y21, S21p, gr21, ⟨Lc21, hQ21, l21, y21, z21, c21⟩, st21⟩ := X20.specialBackS hx (y := (⟨"java/lang/String", "<init>", "([C)V"⟩ : MethodName)) rfl hown (mvT hZ (hw _ (List.mem_of_getElem? (i := 15) rfl))) (mvT hZ (hw _ (List.mem_of_getElem? (i := 16) rfl))) (mvT hZ (hw _ (List.mem_of_getElem? (i := 17) rfl))) (by decide) (own_newStr (s := s) (vm0 := s.vm) (W := 1) hZ hw hEL C20.1 (cs := ([(nar .char (own_c0 p0)), (nar .char (own_c1 p0))] : List Int32)) (n := 2) (n0 := n0) Sf20 (by omega) (X00.keep K20 all0) A20 F20_value F20_coder (V19.ext E20) O2 P5 rfl rfl (by decide) hp21 (by decide) (by decide)) (g := (mkF m 68 #[.val (.int p0), .val (.int (own_len p0)), .val (.ref b15)] [(.ref b15), (.ref b20), (.ref b20)])) rfl (by rw [hml]; rfl) (Steps.refl _) (a := b20) (argsL := [(.ref b15)]) (rest := [(.ref b20)]) (lenOf own_pd3 rfl) rfl (by show 2 * 0 + _ ≤ _; exact Nat.le_of_eq rfl) (hb hby dST_68) (fun _ _ => ⟨rfl, e20, (by decide : 2 + 2 ≤ _), (by decide : 6 + 6 ≤ _)⟩)
      dsimp only [Pt.U, Pt.locs, Pt.cells, Pt.slots] at Y21 S21p gr21 l21 y21 z21 st21 hQ21 c21
      subst l21 y21 z21
      obtain ⟨X21, S21, Z21, o21⟩ := rebS S0 (by rw [e20]; exact (own_le (by omega))) Y21 S21p gr21 hZ hown
      obtain ⟨rfl, Nq21, Kq21, Str21⟩ := hQ21
      have KK21 : Keep h20 T21.heap [b20] := Kq21
      have sz21 : h20.size ≤ T21.heap.size := KK21.1
      have K21 : Keep h0 T21.heap [] := K20.trans KK21 (allS (Or.inr (own_le (by omega))) all0)
      have C21 := C20.trans c21
      have Sf21_22 := c21.safe (own_lt (by omega)) Sf20
      have N21 := Fr.app N19 Nq21
      refine own_st (fun tq kq => st21.trans kq) ?_
      show own_G p e below _ (T21.setTop (mkF m 71 #[.val (.int p0), .val (.int (own_len p0)), .val (.ref b15)] [(.ref b20)]))
      obtain ⟨fs, hr, hrun, hended, hRW⟩ := X21.leaveW S21 (own_le (by omega)) (v := some (.ref b20)) (fun h => by rw [Bd.returns] at h; cases h)
      have cE := C21.trans (CHv.at (s := s) (vm0 := T21.vm) X21 Z21 hEL C21.1)
      refine ⟨_, _, retOut X21 hx Bd.returns rfl (Or.inr (Or.inr (Or.inr (Or.inr ⟨rfl, rfl, rfl⟩)))) (hb hby dST_71) hr, hrun, hended, _, _, rfl, ?_, ?_, own_RW hRW (by decide) (by decide)⟩
      · change (fun (v : Option Value) (_ : Vm) (h : Heap) (L : List Loc) => ∃ a : Nat, v = some (.ref a) ∧ Fr n0 L ∧ Keep h0 h [] ∧ h0.size ≤ a ∧ own_Str Z h.size h a (own_str p0)) (some (.ref b20)) T21.vm T21.heap _; exact ⟨b20, rfl, N21, K21, (by omega), (by rw [own_str2 (((own_len3 p0).resolve_left hc6_2).resolve_left hc22_8)]; have q := Str21; first | exact q | (simp only [own_c0_nar, own_c1_nar] at q; exact q))⟩
      · rw [hh]; change CHr Z consts_1 s.vm h0 T21.vm T21.heap; exact cE

theorem own_same1 {p q : Int32} (h : own_len p = own_len q) (h0 : own_len p < (1 : Int32) ∨ own_c0 p = own_c0 q) (h1 : own_len p < (2 : Int32) ∨ own_c1 p = own_c1 q) : own_str p = own_str q := by
  rcases own_len3 p with a | a | a
  · rw [own_str0 a, own_str0 (h ▸ a)]
  · rw [own_str1 a, own_str1 (h ▸ a), h0.resolve_left (by rw [a]; decide)]
  · rw [own_str2 a, own_str2 (h ▸ a), h0.resolve_left (by rw [a]; decide), h1.resolve_left (by rw [a]; decide)]
theorem own_same0a {p q : Int32} (h : own_len p = own_len q) (h0 : ¬ own_len p < (1 : Int32)) (h1 : ¬ own_c0 p = own_c0 q) : ¬ own_str p = own_str q := by
  rcases own_len3 p with a | a | a
  · exact absurd (by rw [a]; decide) h0
  · rw [own_str1 a, own_str1 (h ▸ a)]; intro e; simp only [List.cons.injEq] at e; exact h1 e.1
  · rw [own_str2 a, own_str2 (h ▸ a)]; intro e; simp only [List.cons.injEq] at e; exact h1 e.1
theorem own_same0b {p q : Int32} (h : own_len p = own_len q) (h0 : ¬ own_len p < (2 : Int32)) (h1 : ¬ own_c1 p = own_c1 q) : ¬ own_str p = own_str q := by
  rcases own_len3 p with a | a | a
  · exact absurd (by rw [a]; decide) h0
  · exact absurd (by rw [a]; decide) h0
  · rw [own_str2 a, own_str2 (h ▸ a)]; intro e; simp only [List.cons.injEq] at e; exact h1 e.2.1

theorem ef_own_keyC (m : MethodId) (x0 : Int32) (x1 : Int32) : entryFrame m #[(.int x0), (.int x1)] 4 = mkF m 0 #[.val (.int x0), .val (.int x1), .unset, .unset] [] := by first | (simp [entryFrame, mkF, argsToLocals, Value.category]; done) | rfl
set_option maxRecDepth 65536 in
set_option maxHeartbeats 40000000 in
theorem own_keyC (l : Launch) (Z : State) (a0 : Array Value) (hw : ∀ d ∈ tables_1, d.before a0 Z = true) (ws : List Jvm.Cond) (a b : Int32) (h0 : Heap) (n0 : Nat) (Z0 : n0 ≤ h0.size) (X00 : Old Z n0 h0)  :
    MetFree l (⟨"com/example/garm/garm/ChoiceEqualsPinLaw", "sameKey", "(II)Z"⟩ : MethodName) (head1 (Jvm.Cond.code (⟨"com/example/garm/garm/ChoiceEqualsPinLaw", "sameKey", "(II)Z"⟩ : MethodName) method_6_code 4 (some .boolean) :: ws) ({ frames := 2, cells := 0, slots := 0, locals := 40 } : Room)) (fun av_ U => av_ = #[(.int a), (.int b)] ∧ Z.Warmed39 U.vm ∧ U.heap = h0) (fun _ _ _ _ _ => True) (own_EN (fun (v : Option Value) (h : Heap) (L : List Loc) => ((v = some (.int (1 : Int32)) ∧ own_str a = own_str b) ∨ (v = some (.int (0 : Int32)) ∧ ¬ own_str a = own_str b)) ∧ Fr n0 L ∧ h = h0) ({ frames := 2, cells := 0, slots := 0, locals := 40 } : Room)) := by
  refine MetFree.of_bodySF (plainFor_of_name own_pn2) hisR ?_
  intro p e s m args below meth c s₁ Bd hml0 hP hK
  obtain ⟨rfl, hZ, hh⟩ := hP
  have hx := Bd.exec
  have hby := Bd.bytes
  have hml : c.maxLocals = 4 := hml0
  have hown : s.vm.findClass "com/example/garm/garm/ChoiceEqualsPinLaw" = some m.cls := findClass_of_methodNamed Bd.named
  have hnm := (name_of_methodNamed Bd.named Bd.method).1
  have X0 : Stand p l e ({ frames := 2, cells := 0, slots := 0, locals := 40 } : Room) s m #[(.int a), (.int b)] below meth c s₁ [] 0 0 := Stand.of_body Bd
  have e0 : s₁.heap = h0 := by rw [← hh, Bd.state]; rfl
  have N0 := Fr.nil n0
  have K0 : Keep h0 h0 [] := Keep.refl h0 []
  refine show own_G p e below (own_EN (fun (v : Option Value) (h : Heap) (L : List Loc) => ((v = some (.int (1 : Int32)) ∧ own_str a = own_str b) ∨ (v = some (.int (0 : Int32)) ∧ ¬ own_str a = own_str b)) ∧ Fr n0 L ∧ h = h0) ({ frames := 2, cells := 0, slots := 0, locals := 40 } : Room) #[(.int a), (.int b)] s) _ from ?_
  refine own_st (fun tq kq => castTop (ef_own_keyC m (a) (b)) kq) ?_
  show own_G p e below _ (s₁.setTop (mkF m 0 #[.val (.int a), .val (.int b), .unset, .unset] []))
  refine own_st (fun tq kq => XS.iloadN X0.here hx rfl (hb hby dSK_0) rfl  kq) ?_
  show own_G p e below _ (s₁.setTop (mkF m 1 #[.val (.int a), .val (.int b), .unset, .unset] [(.int a)]))
  obtain ⟨_, _, ⟨T1, L1, k1, n1⟩, -, X1, ⟨Lc1, hQ1, l1, y1, z1⟩, st1⟩ := Jvm.LawKit.callS X0 hx (y := (⟨"com/example/garm/garm/ChoiceEqualsPinLaw", "len", "(I)I"⟩ : MethodName)) hown (mvT hZ (hw _ (List.mem_of_getElem? (i := 4) rfl))) (mvT hZ (hw _ (List.mem_of_getElem? (i := 5) rfl))) (mvT hZ (hw _ (List.mem_of_getElem? (i := 2) rfl))) (mvT hZ (hw _ (List.mem_of_getElem? (i := 6) rfl))) (by decide) (own_backN (W := 0) (own_lenC l Z a0 hw [] (a) h0 n0 (by omega) (X00.keep K0 all0) ) hZ (hw _ (List.mem_of_getElem? (i := 6) rfl)) (hw _ (List.mem_of_getElem? (i := 2) rfl)) (by decide) (by decide)) (g := (mkF m 1 #[.val (.int a), .val (.int b), .unset, .unset] [(.int a)])) rfl (by rw [hml]; rfl) (argsL := [(.int a)]) (rest := []) (lenOf own_pd2 rfl) rfl (by show 2 * 0 + _ ≤ _; exact Nat.le_of_eq rfl) (hb hby dSK_1) (fun _ _ => ⟨rfl, e0, (by decide : 0 + 0 ≤ _), (by decide : 0 + 0 ≤ _)⟩)
  dsimp only [Pt.U, Pt.locs, Pt.cells, Pt.slots] at X1 l1 y1 z1 st1 hQ1
  subst l1 y1 z1
  obtain ⟨rfl, Nq1, sm1⟩ := hQ1
  have N1 := Fr.app N0 Nq1
  refine own_st st1 ?_
  show own_G p e below _ (T1.setTop (mkF m 4 #[.val (.int a), .val (.int b), .unset, .unset] [(.int (own_len a))]))
  refine own_st (fun tq kq => XS.istoreN X1.here hx rfl (hb hby dSK_4) rfl (l' := #[.val (.int a), .val (.int b), .val (.int (own_len a)), .unset]) rfl kq) ?_
  refine own_st (fun tq kq => XS.iloadN X1.here hx rfl (hb hby dSK_5) rfl  kq) ?_
  show own_G p e below _ (T1.setTop (mkF m 6 #[.val (.int a), .val (.int b), .val (.int (own_len a)), .unset] [(.int b)]))
  obtain ⟨_, _, ⟨T2, L2, k2, n2⟩, -, X2, ⟨Lc2, hQ2, l2, y2, z2⟩, st2⟩ := Jvm.LawKit.callS X1 hx (y := (⟨"com/example/garm/garm/ChoiceEqualsPinLaw", "len", "(I)I"⟩ : MethodName)) hown (mvT hZ (hw _ (List.mem_of_getElem? (i := 4) rfl))) (mvT hZ (hw _ (List.mem_of_getElem? (i := 5) rfl))) (mvT hZ (hw _ (List.mem_of_getElem? (i := 2) rfl))) (mvT hZ (hw _ (List.mem_of_getElem? (i := 6) rfl))) (by decide) (own_backN (W := 0) (own_lenC l Z a0 hw [] (b) h0 n0 (by omega) (X00.keep K0 all0) ) hZ (hw _ (List.mem_of_getElem? (i := 6) rfl)) (hw _ (List.mem_of_getElem? (i := 2) rfl)) (by decide) (by decide)) (g := (mkF m 6 #[.val (.int a), .val (.int b), .val (.int (own_len a)), .unset] [(.int b)])) rfl (by rw [hml]; rfl) (argsL := [(.int b)]) (rest := []) (lenOf own_pd2 rfl) rfl (by show 2 * 0 + _ ≤ _; exact Nat.le_of_eq rfl) (hb hby dSK_6) (fun _ _ => ⟨rfl, sm1, (by decide : 0 + 0 ≤ _), (by decide : 0 + 0 ≤ _)⟩)
  dsimp only [Pt.U, Pt.locs, Pt.cells, Pt.slots] at X2 l2 y2 z2 st2 hQ2
  subst l2 y2 z2
  obtain ⟨rfl, Nq2, sm2⟩ := hQ2
  have N2 := Fr.app N1 Nq2
  refine own_st st2 ?_
  show own_G p e below _ (T2.setTop (mkF m 9 #[.val (.int a), .val (.int b), .val (.int (own_len a)), .unset] [(.int (own_len b))]))
  refine own_st (fun tq kq => XS.istoreN X2.here hx rfl (hb hby dSK_9) rfl (l' := #[.val (.int a), .val (.int b), .val (.int (own_len a)), .val (.int (own_len b))]) rfl kq) ?_
  refine own_st (fun tq kq => XS.iloadN X2.here hx rfl (hb hby dSK_10) rfl  kq) ?_
  refine own_st (fun tq kq => XS.iloadN X2.here hx rfl (hb hby dSK_11) rfl  kq) ?_
  show own_G p e below _ (T2.setTop (mkF m 12 #[.val (.int a), .val (.int b), .val (.int (own_len a)), .val (.int (own_len b))] [(.int (own_len b)), (.int (own_len a))]))
  by_cases hc12_3 : ((own_len a) = (own_len b))
  ·
    refine own_st (fun tq kq => XS.icmpYes X2.here hx rfl (pc0 := 12) (pc' := 17) rfl (hb hby dSK_12) rfl (teq hc12_3).1 (by decide) (by decide) kq) ?_
    refine own_st (fun tq kq => XS.iloadN X2.here hx rfl (hb hby dSK_17) rfl  kq) ?_
    refine own_st (fun tq kq => XS.iconst X2.here hx rfl (hb hby dSK_18) kq) ?_
    show own_G p e below _ (T2.setTop (mkF m 19 #[.val (.int a), .val (.int b), .val (.int (own_len a)), .val (.int (own_len b))] [(.int (1 : Int32)), (.int (own_len a))]))
    by_cases hc19_4 : ((own_len a) < (1 : Int32))
    ·
      refine own_st (fun tq kq => XS.icmpYes X2.here hx rfl (pc0 := 19) (pc' := 35) rfl (hb hby dSK_19) rfl (tlt hc19_4).1 (by decide) (by decide) kq) ?_
      refine own_st (fun tq kq => XS.iloadN X2.here hx rfl (hb hby dSK_35) rfl  kq) ?_
      refine own_st (fun tq kq => XS.iconst X2.here hx rfl (hb hby dSK_36) kq) ?_
      show own_G p e below _ (T2.setTop (mkF m 37 #[.val (.int a), .val (.int b), .val (.int (own_len a)), .val (.int (own_len b))] [(.int (2 : Int32)), (.int (own_len a))]))
      by_cases hc37_5 : ((own_len a) < (2 : Int32))
      ·
        refine own_st (fun tq kq => XS.icmpYes X2.here hx rfl (pc0 := 37) (pc' := 53) rfl (hb hby dSK_37) rfl (tlt hc37_5).1 (by decide) (by decide) kq) ?_
        refine own_st (fun tq kq => XS.iconst X2.here hx rfl (hb hby dSK_53) kq) ?_
        show own_G p e below _ (T2.setTop (mkF m 54 #[.val (.int a), .val (.int b), .val (.int (own_len a)), .val (.int (own_len b))] [(.int (1 : Int32))]))
        obtain ⟨fs, hr, hrun, hended, hW, hsame⟩ := X2.leave (v := some (.int (1 : Int32))) (fun h => by rw [Bd.returns] at h; cases h)
        refine ⟨_, _, retN X2 hx (t := .boolean) Bd.returns (by simp) (hb hby dSK_54) hr, hrun, hended, _, _, rfl, ?_, ⟨_, rfl⟩, hW, hsame.mono (by decide) (by decide)⟩
        change (fun (v : Option Value) (h : Heap) (L : List Loc) => ((v = some (.int (1 : Int32)) ∧ own_str a = own_str b) ∨ (v = some (.int (0 : Int32)) ∧ ¬ own_str a = own_str b)) ∧ Fr n0 L ∧ h = h0) (some (.int (1 : Int32))) T2.heap _; rw [sm2]; exact ⟨Or.inl ⟨rfl, own_same1 hc12_3 (Or.inl hc19_4) (Or.inl hc37_5)⟩, N2, rfl⟩
      ·
        refine own_st (fun tq kq => XS.icmpNo X2.here hx rfl (hb hby dSK_37) rfl (flt hc37_5).1 kq) ?_
        refine own_st (fun tq kq => XS.iloadN X2.here hx rfl (hb hby dSK_40) rfl  kq) ?_
        show own_G p e below _ (T2.setTop (mkF m 41 #[.val (.int a), .val (.int b), .val (.int (own_len a)), .val (.int (own_len b))] [(.int a)]))
        obtain ⟨_, _, ⟨T6, L6, k6, n6⟩, -, X6, ⟨Lc6, hQ6, l6, y6, z6⟩, st6⟩ := Jvm.LawKit.callS X2 hx (y := (⟨"com/example/garm/garm/ChoiceEqualsPinLaw", "c1", "(I)C"⟩ : MethodName)) hown (mvT hZ (hw _ (List.mem_of_getElem? (i := 39) rfl))) (mvT hZ (hw _ (List.mem_of_getElem? (i := 40) rfl))) (mvT hZ (hw _ (List.mem_of_getElem? (i := 2) rfl))) (mvT hZ (hw _ (List.mem_of_getElem? (i := 41) rfl))) (by decide) (own_backN (W := 0) (own_c1C l Z a0 hw [] (a) h0 n0 (by omega) (X00.keep K0 all0) ) hZ (hw _ (List.mem_of_getElem? (i := 41) rfl)) (hw _ (List.mem_of_getElem? (i := 2) rfl)) (by decide) (by decide)) (g := (mkF m 41 #[.val (.int a), .val (.int b), .val (.int (own_len a)), .val (.int (own_len b))] [(.int a)])) rfl (by rw [hml]; rfl) (argsL := [(.int a)]) (rest := []) (lenOf own_pd4 rfl) rfl (by show 2 * 0 + _ ≤ _; exact Nat.le_of_eq rfl) (hb hby dSK_41) (fun _ _ => ⟨rfl, sm2, (by decide : 0 + 0 ≤ _), (by decide : 0 + 0 ≤ _)⟩)
        dsimp only [Pt.U, Pt.locs, Pt.cells, Pt.slots] at X6 l6 y6 z6 st6 hQ6
        subst l6 y6 z6
        obtain ⟨rfl, Nq6, sm6⟩ := hQ6
        have N6 := Fr.app N2 Nq6
        refine own_st st6 ?_
        show own_G p e below _ (T6.setTop (mkF m 44 #[.val (.int a), .val (.int b), .val (.int (own_len a)), .val (.int (own_len b))] [(.int (own_c1 a))]))
        refine own_st (fun tq kq => XS.iloadN X6.here hx rfl (hb hby dSK_44) rfl  kq) ?_
        show own_G p e below _ (T6.setTop (mkF m 45 #[.val (.int a), .val (.int b), .val (.int (own_len a)), .val (.int (own_len b))] [(.int b), (.int (own_c1 a))]))
        obtain ⟨_, _, ⟨T7, L7, k7, n7⟩, -, X7, ⟨Lc7, hQ7, l7, y7, z7⟩, st7⟩ := Jvm.LawKit.callS X6 hx (y := (⟨"com/example/garm/garm/ChoiceEqualsPinLaw", "c1", "(I)C"⟩ : MethodName)) hown (mvT hZ (hw _ (List.mem_of_getElem? (i := 39) rfl))) (mvT hZ (hw _ (List.mem_of_getElem? (i := 40) rfl))) (mvT hZ (hw _ (List.mem_of_getElem? (i := 2) rfl))) (mvT hZ (hw _ (List.mem_of_getElem? (i := 41) rfl))) (by decide) (own_backN (W := 1) (own_c1C l Z a0 hw [] (b) h0 n0 (by omega) (X00.keep K0 all0) ) hZ (hw _ (List.mem_of_getElem? (i := 41) rfl)) (hw _ (List.mem_of_getElem? (i := 2) rfl)) (by decide) (by decide)) (g := (mkF m 45 #[.val (.int a), .val (.int b), .val (.int (own_len a)), .val (.int (own_len b))] [(.int b), (.int (own_c1 a))])) rfl (by rw [hml]; rfl) (argsL := [(.int b)]) (rest := [(.int (own_c1 a))]) (lenOf own_pd4 rfl) rfl (by show 2 * 0 + _ ≤ _; exact Nat.le_of_eq rfl) (hb hby dSK_45) (fun _ _ => ⟨rfl, sm6, (by decide : 0 + 0 ≤ _), (by decide : 0 + 0 ≤ _)⟩)
        dsimp only [Pt.U, Pt.locs, Pt.cells, Pt.slots] at X7 l7 y7 z7 st7 hQ7
        subst l7 y7 z7
        obtain ⟨rfl, Nq7, sm7⟩ := hQ7
        have N7 := Fr.app N6 Nq7
        refine own_st st7 ?_
        show own_G p e below _ (T7.setTop (mkF m 48 #[.val (.int a), .val (.int b), .val (.int (own_len a)), .val (.int (own_len b))] [(.int (own_c1 b)), (.int (own_c1 a))]))
        by_cases hc48_8 : ((own_c1 a) = (own_c1 b))
        ·
          refine own_st (fun tq kq => XS.icmpYes X7.here hx rfl (pc0 := 48) (pc' := 53) rfl (hb hby dSK_48) rfl (teq hc48_8).1 (by decide) (by decide) kq) ?_
          refine own_st (fun tq kq => XS.iconst X7.here hx rfl (hb hby dSK_53) kq) ?_
          show own_G p e below _ (T7.setTop (mkF m 54 #[.val (.int a), .val (.int b), .val (.int (own_len a)), .val (.int (own_len b))] [(.int (1 : Int32))]))
          obtain ⟨fs, hr, hrun, hended, hW, hsame⟩ := X7.leave (v := some (.int (1 : Int32))) (fun h => by rw [Bd.returns] at h; cases h)
          refine ⟨_, _, retN X7 hx (t := .boolean) Bd.returns (by simp) (hb hby dSK_54) hr, hrun, hended, _, _, rfl, ?_, ⟨_, rfl⟩, hW, hsame.mono (by decide) (by decide)⟩
          change (fun (v : Option Value) (h : Heap) (L : List Loc) => ((v = some (.int (1 : Int32)) ∧ own_str a = own_str b) ∨ (v = some (.int (0 : Int32)) ∧ ¬ own_str a = own_str b)) ∧ Fr n0 L ∧ h = h0) (some (.int (1 : Int32))) T7.heap _; rw [sm7]; exact ⟨Or.inl ⟨rfl, own_same1 hc12_3 (Or.inl hc19_4) (Or.inr hc48_8)⟩, N7, rfl⟩
        ·
          refine own_st (fun tq kq => XS.icmpNo X7.here hx rfl (hb hby dSK_48) rfl (feq hc48_8).1 kq) ?_
          refine own_st (fun tq kq => XS.iconst X7.here hx rfl (hb hby dSK_51) kq) ?_
          show own_G p e below _ (T7.setTop (mkF m 52 #[.val (.int a), .val (.int b), .val (.int (own_len a)), .val (.int (own_len b))] [(.int (0 : Int32))]))
          obtain ⟨fs, hr, hrun, hended, hW, hsame⟩ := X7.leave (v := some (.int (0 : Int32))) (fun h => by rw [Bd.returns] at h; cases h)
          refine ⟨_, _, retN X7 hx (t := .boolean) Bd.returns (by simp) (hb hby dSK_52) hr, hrun, hended, _, _, rfl, ?_, ⟨_, rfl⟩, hW, hsame.mono (by decide) (by decide)⟩
          change (fun (v : Option Value) (h : Heap) (L : List Loc) => ((v = some (.int (1 : Int32)) ∧ own_str a = own_str b) ∨ (v = some (.int (0 : Int32)) ∧ ¬ own_str a = own_str b)) ∧ Fr n0 L ∧ h = h0) (some (.int (0 : Int32))) T7.heap _; rw [sm7]; exact ⟨Or.inr ⟨rfl, own_same0b hc12_3 hc37_5 hc48_8⟩, N7, rfl⟩
    ·
      refine own_st (fun tq kq => XS.icmpNo X2.here hx rfl (hb hby dSK_19) rfl (flt hc19_4).1 kq) ?_
      refine own_st (fun tq kq => XS.iloadN X2.here hx rfl (hb hby dSK_22) rfl  kq) ?_
      show own_G p e below _ (T2.setTop (mkF m 23 #[.val (.int a), .val (.int b), .val (.int (own_len a)), .val (.int (own_len b))] [(.int a)]))
      obtain ⟨_, _, ⟨T9, L9, k9, n9⟩, -, X9, ⟨Lc9, hQ9, l9, y9, z9⟩, st9⟩ := Jvm.LawKit.callS X2 hx (y := (⟨"com/example/garm/garm/ChoiceEqualsPinLaw", "c0", "(I)C"⟩ : MethodName)) hown (mvT hZ (hw _ (List.mem_of_getElem? (i := 36) rfl))) (mvT hZ (hw _ (List.mem_of_getElem? (i := 37) rfl))) (mvT hZ (hw _ (List.mem_of_getElem? (i := 2) rfl))) (mvT hZ (hw _ (List.mem_of_getElem? (i := 38) rfl))) (by decide) (own_backN (W := 0) (own_c0C l Z a0 hw [] (a) h0 n0 (by omega) (X00.keep K0 all0) ) hZ (hw _ (List.mem_of_getElem? (i := 38) rfl)) (hw _ (List.mem_of_getElem? (i := 2) rfl)) (by decide) (by decide)) (g := (mkF m 23 #[.val (.int a), .val (.int b), .val (.int (own_len a)), .val (.int (own_len b))] [(.int a)])) rfl (by rw [hml]; rfl) (argsL := [(.int a)]) (rest := []) (lenOf own_pd4 rfl) rfl (by show 2 * 0 + _ ≤ _; exact Nat.le_of_eq rfl) (hb hby dSK_23) (fun _ _ => ⟨rfl, sm2, (by decide : 0 + 0 ≤ _), (by decide : 0 + 0 ≤ _)⟩)
      dsimp only [Pt.U, Pt.locs, Pt.cells, Pt.slots] at X9 l9 y9 z9 st9 hQ9
      subst l9 y9 z9
      obtain ⟨rfl, Nq9, sm9⟩ := hQ9
      have N9 := Fr.app N2 Nq9
      refine own_st st9 ?_
      show own_G p e below _ (T9.setTop (mkF m 26 #[.val (.int a), .val (.int b), .val (.int (own_len a)), .val (.int (own_len b))] [(.int (own_c0 a))]))
      refine own_st (fun tq kq => XS.iloadN X9.here hx rfl (hb hby dSK_26) rfl  kq) ?_
      show own_G p e below _ (T9.setTop (mkF m 27 #[.val (.int a), .val (.int b), .val (.int (own_len a)), .val (.int (own_len b))] [(.int b), (.int (own_c0 a))]))
      obtain ⟨_, _, ⟨T10, L10, k10, n10⟩, -, X10, ⟨Lc10, hQ10, l10, y10, z10⟩, st10⟩ := Jvm.LawKit.callS X9 hx (y := (⟨"com/example/garm/garm/ChoiceEqualsPinLaw", "c0", "(I)C"⟩ : MethodName)) hown (mvT hZ (hw _ (List.mem_of_getElem? (i := 36) rfl))) (mvT hZ (hw _ (List.mem_of_getElem? (i := 37) rfl))) (mvT hZ (hw _ (List.mem_of_getElem? (i := 2) rfl))) (mvT hZ (hw _ (List.mem_of_getElem? (i := 38) rfl))) (by decide) (own_backN (W := 1) (own_c0C l Z a0 hw [] (b) h0 n0 (by omega) (X00.keep K0 all0) ) hZ (hw _ (List.mem_of_getElem? (i := 38) rfl)) (hw _ (List.mem_of_getElem? (i := 2) rfl)) (by decide) (by decide)) (g := (mkF m 27 #[.val (.int a), .val (.int b), .val (.int (own_len a)), .val (.int (own_len b))] [(.int b), (.int (own_c0 a))])) rfl (by rw [hml]; rfl) (argsL := [(.int b)]) (rest := [(.int (own_c0 a))]) (lenOf own_pd4 rfl) rfl (by show 2 * 0 + _ ≤ _; exact Nat.le_of_eq rfl) (hb hby dSK_27) (fun _ _ => ⟨rfl, sm9, (by decide : 0 + 0 ≤ _), (by decide : 0 + 0 ≤ _)⟩)
      dsimp only [Pt.U, Pt.locs, Pt.cells, Pt.slots] at X10 l10 y10 z10 st10 hQ10
      subst l10 y10 z10
      obtain ⟨rfl, Nq10, sm10⟩ := hQ10
      have N10 := Fr.app N9 Nq10
      refine own_st st10 ?_
      show own_G p e below _ (T10.setTop (mkF m 30 #[.val (.int a), .val (.int b), .val (.int (own_len a)), .val (.int (own_len b))] [(.int (own_c0 b)), (.int (own_c0 a))]))
      by_cases hc30_11 : ((own_c0 a) = (own_c0 b))
      ·
        refine own_st (fun tq kq => XS.icmpYes X10.here hx rfl (pc0 := 30) (pc' := 35) rfl (hb hby dSK_30) rfl (teq hc30_11).1 (by decide) (by decide) kq) ?_
        refine own_st (fun tq kq => XS.iloadN X10.here hx rfl (hb hby dSK_35) rfl  kq) ?_
        refine own_st (fun tq kq => XS.iconst X10.here hx rfl (hb hby dSK_36) kq) ?_
        show own_G p e below _ (T10.setTop (mkF m 37 #[.val (.int a), .val (.int b), .val (.int (own_len a)), .val (.int (own_len b))] [(.int (2 : Int32)), (.int (own_len a))]))
        by_cases hc37_12 : ((own_len a) < (2 : Int32))
        ·
          refine own_st (fun tq kq => XS.icmpYes X10.here hx rfl (pc0 := 37) (pc' := 53) rfl (hb hby dSK_37) rfl (tlt hc37_12).1 (by decide) (by decide) kq) ?_
          refine own_st (fun tq kq => XS.iconst X10.here hx rfl (hb hby dSK_53) kq) ?_
          show own_G p e below _ (T10.setTop (mkF m 54 #[.val (.int a), .val (.int b), .val (.int (own_len a)), .val (.int (own_len b))] [(.int (1 : Int32))]))
          obtain ⟨fs, hr, hrun, hended, hW, hsame⟩ := X10.leave (v := some (.int (1 : Int32))) (fun h => by rw [Bd.returns] at h; cases h)
          refine ⟨_, _, retN X10 hx (t := .boolean) Bd.returns (by simp) (hb hby dSK_54) hr, hrun, hended, _, _, rfl, ?_, ⟨_, rfl⟩, hW, hsame.mono (by decide) (by decide)⟩
          change (fun (v : Option Value) (h : Heap) (L : List Loc) => ((v = some (.int (1 : Int32)) ∧ own_str a = own_str b) ∨ (v = some (.int (0 : Int32)) ∧ ¬ own_str a = own_str b)) ∧ Fr n0 L ∧ h = h0) (some (.int (1 : Int32))) T10.heap _; rw [sm10]; exact ⟨Or.inl ⟨rfl, own_same1 hc12_3 (Or.inr hc30_11) (Or.inl hc37_12)⟩, N10, rfl⟩
        ·
          refine own_st (fun tq kq => XS.icmpNo X10.here hx rfl (hb hby dSK_37) rfl (flt hc37_12).1 kq) ?_
          refine own_st (fun tq kq => XS.iloadN X10.here hx rfl (hb hby dSK_40) rfl  kq) ?_
          show own_G p e below _ (T10.setTop (mkF m 41 #[.val (.int a), .val (.int b), .val (.int (own_len a)), .val (.int (own_len b))] [(.int a)]))
          obtain ⟨_, _, ⟨T13, L13, k13, n13⟩, -, X13, ⟨Lc13, hQ13, l13, y13, z13⟩, st13⟩ := Jvm.LawKit.callS X10 hx (y := (⟨"com/example/garm/garm/ChoiceEqualsPinLaw", "c1", "(I)C"⟩ : MethodName)) hown (mvT hZ (hw _ (List.mem_of_getElem? (i := 39) rfl))) (mvT hZ (hw _ (List.mem_of_getElem? (i := 40) rfl))) (mvT hZ (hw _ (List.mem_of_getElem? (i := 2) rfl))) (mvT hZ (hw _ (List.mem_of_getElem? (i := 41) rfl))) (by decide) (own_backN (W := 0) (own_c1C l Z a0 hw [] (a) h0 n0 (by omega) (X00.keep K0 all0) ) hZ (hw _ (List.mem_of_getElem? (i := 41) rfl)) (hw _ (List.mem_of_getElem? (i := 2) rfl)) (by decide) (by decide)) (g := (mkF m 41 #[.val (.int a), .val (.int b), .val (.int (own_len a)), .val (.int (own_len b))] [(.int a)])) rfl (by rw [hml]; rfl) (argsL := [(.int a)]) (rest := []) (lenOf own_pd4 rfl) rfl (by show 2 * 0 + _ ≤ _; exact Nat.le_of_eq rfl) (hb hby dSK_41) (fun _ _ => ⟨rfl, sm10, (by decide : 0 + 0 ≤ _), (by decide : 0 + 0 ≤ _)⟩)
          dsimp only [Pt.U, Pt.locs, Pt.cells, Pt.slots] at X13 l13 y13 z13 st13 hQ13
          subst l13 y13 z13
          obtain ⟨rfl, Nq13, sm13⟩ := hQ13
          have N13 := Fr.app N10 Nq13
          refine own_st st13 ?_
          show own_G p e below _ (T13.setTop (mkF m 44 #[.val (.int a), .val (.int b), .val (.int (own_len a)), .val (.int (own_len b))] [(.int (own_c1 a))]))
          refine own_st (fun tq kq => XS.iloadN X13.here hx rfl (hb hby dSK_44) rfl  kq) ?_
          show own_G p e below _ (T13.setTop (mkF m 45 #[.val (.int a), .val (.int b), .val (.int (own_len a)), .val (.int (own_len b))] [(.int b), (.int (own_c1 a))]))
          obtain ⟨_, _, ⟨T14, L14, k14, n14⟩, -, X14, ⟨Lc14, hQ14, l14, y14, z14⟩, st14⟩ := Jvm.LawKit.callS X13 hx (y := (⟨"com/example/garm/garm/ChoiceEqualsPinLaw", "c1", "(I)C"⟩ : MethodName)) hown (mvT hZ (hw _ (List.mem_of_getElem? (i := 39) rfl))) (mvT hZ (hw _ (List.mem_of_getElem? (i := 40) rfl))) (mvT hZ (hw _ (List.mem_of_getElem? (i := 2) rfl))) (mvT hZ (hw _ (List.mem_of_getElem? (i := 41) rfl))) (by decide) (own_backN (W := 1) (own_c1C l Z a0 hw [] (b) h0 n0 (by omega) (X00.keep K0 all0) ) hZ (hw _ (List.mem_of_getElem? (i := 41) rfl)) (hw _ (List.mem_of_getElem? (i := 2) rfl)) (by decide) (by decide)) (g := (mkF m 45 #[.val (.int a), .val (.int b), .val (.int (own_len a)), .val (.int (own_len b))] [(.int b), (.int (own_c1 a))])) rfl (by rw [hml]; rfl) (argsL := [(.int b)]) (rest := [(.int (own_c1 a))]) (lenOf own_pd4 rfl) rfl (by show 2 * 0 + _ ≤ _; exact Nat.le_of_eq rfl) (hb hby dSK_45) (fun _ _ => ⟨rfl, sm13, (by decide : 0 + 0 ≤ _), (by decide : 0 + 0 ≤ _)⟩)
          dsimp only [Pt.U, Pt.locs, Pt.cells, Pt.slots] at X14 l14 y14 z14 st14 hQ14
          subst l14 y14 z14
          obtain ⟨rfl, Nq14, sm14⟩ := hQ14
          have N14 := Fr.app N13 Nq14
          refine own_st st14 ?_
          show own_G p e below _ (T14.setTop (mkF m 48 #[.val (.int a), .val (.int b), .val (.int (own_len a)), .val (.int (own_len b))] [(.int (own_c1 b)), (.int (own_c1 a))]))
          by_cases hc48_15 : ((own_c1 a) = (own_c1 b))
          ·
            refine own_st (fun tq kq => XS.icmpYes X14.here hx rfl (pc0 := 48) (pc' := 53) rfl (hb hby dSK_48) rfl (teq hc48_15).1 (by decide) (by decide) kq) ?_
            refine own_st (fun tq kq => XS.iconst X14.here hx rfl (hb hby dSK_53) kq) ?_
            show own_G p e below _ (T14.setTop (mkF m 54 #[.val (.int a), .val (.int b), .val (.int (own_len a)), .val (.int (own_len b))] [(.int (1 : Int32))]))
            obtain ⟨fs, hr, hrun, hended, hW, hsame⟩ := X14.leave (v := some (.int (1 : Int32))) (fun h => by rw [Bd.returns] at h; cases h)
            refine ⟨_, _, retN X14 hx (t := .boolean) Bd.returns (by simp) (hb hby dSK_54) hr, hrun, hended, _, _, rfl, ?_, ⟨_, rfl⟩, hW, hsame.mono (by decide) (by decide)⟩
            change (fun (v : Option Value) (h : Heap) (L : List Loc) => ((v = some (.int (1 : Int32)) ∧ own_str a = own_str b) ∨ (v = some (.int (0 : Int32)) ∧ ¬ own_str a = own_str b)) ∧ Fr n0 L ∧ h = h0) (some (.int (1 : Int32))) T14.heap _; rw [sm14]; exact ⟨Or.inl ⟨rfl, own_same1 hc12_3 (Or.inr hc30_11) (Or.inr hc48_15)⟩, N14, rfl⟩
          ·
            refine own_st (fun tq kq => XS.icmpNo X14.here hx rfl (hb hby dSK_48) rfl (feq hc48_15).1 kq) ?_
            refine own_st (fun tq kq => XS.iconst X14.here hx rfl (hb hby dSK_51) kq) ?_
            show own_G p e below _ (T14.setTop (mkF m 52 #[.val (.int a), .val (.int b), .val (.int (own_len a)), .val (.int (own_len b))] [(.int (0 : Int32))]))
            obtain ⟨fs, hr, hrun, hended, hW, hsame⟩ := X14.leave (v := some (.int (0 : Int32))) (fun h => by rw [Bd.returns] at h; cases h)
            refine ⟨_, _, retN X14 hx (t := .boolean) Bd.returns (by simp) (hb hby dSK_52) hr, hrun, hended, _, _, rfl, ?_, ⟨_, rfl⟩, hW, hsame.mono (by decide) (by decide)⟩
            change (fun (v : Option Value) (h : Heap) (L : List Loc) => ((v = some (.int (1 : Int32)) ∧ own_str a = own_str b) ∨ (v = some (.int (0 : Int32)) ∧ ¬ own_str a = own_str b)) ∧ Fr n0 L ∧ h = h0) (some (.int (0 : Int32))) T14.heap _; rw [sm14]; exact ⟨Or.inr ⟨rfl, own_same0b hc12_3 hc37_12 hc48_15⟩, N14, rfl⟩
      ·
        refine own_st (fun tq kq => XS.icmpNo X10.here hx rfl (hb hby dSK_30) rfl (feq hc30_11).1 kq) ?_
        refine own_st (fun tq kq => XS.iconst X10.here hx rfl (hb hby dSK_33) kq) ?_
        show own_G p e below _ (T10.setTop (mkF m 34 #[.val (.int a), .val (.int b), .val (.int (own_len a)), .val (.int (own_len b))] [(.int (0 : Int32))]))
        obtain ⟨fs, hr, hrun, hended, hW, hsame⟩ := X10.leave (v := some (.int (0 : Int32))) (fun h => by rw [Bd.returns] at h; cases h)
        refine ⟨_, _, retN X10 hx (t := .boolean) Bd.returns (by simp) (hb hby dSK_34) hr, hrun, hended, _, _, rfl, ?_, ⟨_, rfl⟩, hW, hsame.mono (by decide) (by decide)⟩
        change (fun (v : Option Value) (h : Heap) (L : List Loc) => ((v = some (.int (1 : Int32)) ∧ own_str a = own_str b) ∨ (v = some (.int (0 : Int32)) ∧ ¬ own_str a = own_str b)) ∧ Fr n0 L ∧ h = h0) (some (.int (0 : Int32))) T10.heap _; rw [sm10]; exact ⟨Or.inr ⟨rfl, own_same0a hc12_3 hc19_4 hc30_11⟩, N10, rfl⟩
  ·
    refine own_st (fun tq kq => XS.icmpNo X2.here hx rfl (hb hby dSK_12) rfl (feq hc12_3).1 kq) ?_
    refine own_st (fun tq kq => XS.iconst X2.here hx rfl (hb hby dSK_15) kq) ?_
    show own_G p e below _ (T2.setTop (mkF m 16 #[.val (.int a), .val (.int b), .val (.int (own_len a)), .val (.int (own_len b))] [(.int (0 : Int32))]))
    obtain ⟨fs, hr, hrun, hended, hW, hsame⟩ := X2.leave (v := some (.int (0 : Int32))) (fun h => by rw [Bd.returns] at h; cases h)
    refine ⟨_, _, retN X2 hx (t := .boolean) Bd.returns (by simp) (hb hby dSK_16) hr, hrun, hended, _, _, rfl, ?_, ⟨_, rfl⟩, hW, hsame.mono (by decide) (by decide)⟩
    change (fun (v : Option Value) (h : Heap) (L : List Loc) => ((v = some (.int (1 : Int32)) ∧ own_str a = own_str b) ∨ (v = some (.int (0 : Int32)) ∧ ¬ own_str a = own_str b)) ∧ Fr n0 L ∧ h = h0) (some (.int (0 : Int32))) T2.heap _; rw [sm2]; exact ⟨Or.inr ⟨rfl, own_str_len hc12_3⟩, N2, rfl⟩

theorem ef_own_ctor (m : MethodId) (x0 : Nat) (x1 : Nat) (x2 : Nat) (x3 : Nat) : entryFrame m #[(.ref x0), (.ref x1), (.ref x2), (.ref x3)] 4 = mkF m 0 #[.val (.ref x0), .val (.ref x1), .val (.ref x2), .val (.ref x3)] [] := by first | (simp [entryFrame, mkF, argsToLocals, Value.category]; done) | rfl
set_option maxRecDepth 65536 in
set_option maxHeartbeats 40000000 in
theorem own_ctor (l : Launch) (Z : State) (a0 : Array Value) (hw : ∀ d ∈ tables_1, d.before a0 Z = true) (ws : List Jvm.Cond) (x s0 s1 s2 : Nat) (u0 u1 u2 : Value) (h0 : Heap) (n0 : Nat) (Z0 : n0 ≤ h0.size) (X00 : Old Z n0 h0) (Ex : Exa Z h0 x "com/example/garm/garm/SecurityTarget$Choice") (F0 : Fld Z h0 x "com/example/garm/garm/SecurityTarget$Choice" "element" "Ljava/lang/String;" u0) (F1 : Fld Z h0 x "com/example/garm/garm/SecurityTarget$Choice" "selection" "Ljava/lang/String;" u1) (F2 : Fld Z h0 x "com/example/garm/garm/SecurityTarget$Choice" "item" "Ljava/lang/String;" u2) (gx : n0 ≤ x) (ltx : x < h0.size) :
    MetFree l (⟨"com/example/garm/garm/SecurityTarget$Choice", "<init>", "(Ljava/lang/String;Ljava/lang/String;Ljava/lang/String;)V"⟩ : MethodName) (head1 (Jvm.Cond.code (⟨"com/example/garm/garm/SecurityTarget$Choice", "<init>", "(Ljava/lang/String;Ljava/lang/String;Ljava/lang/String;)V"⟩ : MethodName) prog_39_method_1_code 4 none :: ws) ({ frames := 1, cells := 0, slots := 0, locals := 12 } : Room)) (fun av_ U => av_ = #[(.ref x), (.ref s0), (.ref s1), (.ref s2)] ∧ Z.Warmed39 U.vm ∧ U.heap = h0) (fun _ _ _ _ _ => True) (own_EN (fun (v : Option Value) (h : Heap) (L : List Loc) => v = none ∧ Fr n0 L ∧ Keep h0 h [x] ∧ Fld Z h x "com/example/garm/garm/SecurityTarget$Choice" "element" "Ljava/lang/String;" (.ref s0) ∧ Fld Z h x "com/example/garm/garm/SecurityTarget$Choice" "selection" "Ljava/lang/String;" (.ref s1) ∧ Fld Z h x "com/example/garm/garm/SecurityTarget$Choice" "item" "Ljava/lang/String;" (.ref s2)) ({ frames := 1, cells := 0, slots := 0, locals := 12 } : Room)) := by
  refine MetFree.of_bodySF (plainFor_of_name own_pn3) hisR ?_
  intro p e s m args below meth c s₁ Bd hml0 hP hK
  obtain ⟨rfl, hZ, hh⟩ := hP
  have hx := Bd.exec
  have hby := Bd.bytes
  have hml : c.maxLocals = 4 := hml0
  have hown : s.vm.findClass "com/example/garm/garm/SecurityTarget$Choice" = some m.cls := findClass_of_methodNamed Bd.named
  have hnm := (name_of_methodNamed Bd.named Bd.method).1
  have X0 : Stand p l e ({ frames := 1, cells := 0, slots := 0, locals := 12 } : Room) s m #[(.ref x), (.ref s0), (.ref s1), (.ref s2)] below meth c s₁ [] 0 0 := Stand.of_body Bd
  have e0 : s₁.heap = h0 := by rw [← hh, Bd.state]; rfl
  have N0 := Fr.nil n0
  have K0 : Keep h0 h0 [x] := Keep.refl h0 [x]
  refine show own_G p e below (own_EN (fun (v : Option Value) (h : Heap) (L : List Loc) => v = none ∧ Fr n0 L ∧ Keep h0 h [x] ∧ Fld Z h x "com/example/garm/garm/SecurityTarget$Choice" "element" "Ljava/lang/String;" (.ref s0) ∧ Fld Z h x "com/example/garm/garm/SecurityTarget$Choice" "selection" "Ljava/lang/String;" (.ref s1) ∧ Fld Z h x "com/example/garm/garm/SecurityTarget$Choice" "item" "Ljava/lang/String;" (.ref s2)) ({ frames := 1, cells := 0, slots := 0, locals := 12 } : Room) #[(.ref x), (.ref s0), (.ref s1), (.ref s2)] s) _ from ?_
  refine own_st (fun tq kq => castTop (ef_own_ctor m (x) (s0) (s1) (s2)) kq) ?_
  show own_G p e below _ (s₁.setTop (mkF m 0 #[.val (.ref x), .val (.ref s0), .val (.ref s1), .val (.ref s2)] []))
  have hws0 : ∀ y ∈ [x], n0 ≤ y := allS gx all0
  refine own_st (fun tq kq => XS.aloadN X0.here hx rfl (hb hby dCI_0) rfl rfl kq) ?_
  show own_G p e below _ (s₁.setTop (mkF m 1 #[.val (.ref x), .val (.ref s0), .val (.ref s1), .val (.ref s2)] [(.ref x)]))
  obtain ⟨T1, X1, e1, st1⟩ := initO X0 hx hZ hown (hw _ (List.mem_of_getElem? (i := 56) rfl)) (hw _ (List.mem_of_getElem? (i := 23) rfl)) (hw _ (List.mem_of_getElem? (i := 24) rfl)) e0 (g := (mkF m 1 #[.val (.ref x), .val (.ref s0), .val (.ref s1), .val (.ref s2)] [(.ref x)])) rfl (by rw [hml]; rfl) rfl (hb hby dCI_1) (by decide) (W := 0) (by show 2 * 0 + _ ≤ _; exact Nat.le_of_eq rfl) (by decide)
  refine own_st st1 ?_
  show own_G p e below _ (T1.setTop (mkF m 4 #[.val (.ref x), .val (.ref s0), .val (.ref s1), .val (.ref s2)] []))
  refine own_st (fun tq kq => XS.aloadN X1.here hx rfl (hb hby dCI_4) rfl rfl kq) ?_
  refine own_st (fun tq kq => XS.aloadN X1.here hx rfl (hb hby dCI_5) rfl rfl kq) ?_
  show own_G p e below _ (T1.setTop (mkF m 6 #[.val (.ref x), .val (.ref s0), .val (.ref s1), .val (.ref s2)] [(.ref s0), (.ref x)]))
  obtain ⟨T2, h2, X2, e2, W2, st2⟩ := putF X1 hx hZ hown (host := "") (Or.inl (hw _ (List.mem_of_getElem? (i := 57) rfl))) Via.refl e1 F0 Ex (Or.inr ⟨(hw _ (List.mem_of_getElem? (i := 58) rfl)), rfl, hnm⟩) (hw _ (List.mem_of_getElem? (i := 34) rfl)) (ty := (.object "java/lang/String")) (by decide) rfl rfl (g := (mkF m 6 #[.val (.ref x), .val (.ref s0), .val (.ref s1), .val (.ref s2)] [(.ref s0), (.ref x)])) rfl rfl (hb hby dCI_6)
  have Fw2 := F0.same W2
  have sz2 : h0.size ≤ h2.size := (Keep.of_wr W2).1
  have K2 : Keep h0 h2 [x] := K0.wr W2 (Or.inl (by simp))
  have N2 := Fr.snoc X2 N0 (own_le (by omega))
  refine own_st st2 ?_
  show own_G p e below _ (T2.setTop (mkF m 9 #[.val (.ref x), .val (.ref s0), .val (.ref s1), .val (.ref s2)] []))
  refine own_st (fun tq kq => XS.aloadN X2.here hx rfl (hb hby dCI_9) rfl rfl kq) ?_
  refine own_st (fun tq kq => XS.aloadN X2.here hx rfl (hb hby dCI_10) rfl rfl kq) ?_
  show own_G p e below _ (T2.setTop (mkF m 11 #[.val (.ref x), .val (.ref s0), .val (.ref s1), .val (.ref s2)] [(.ref s1), (.ref x)]))
  obtain ⟨T3, h3, X3, e3, W3, st3⟩ := putF X2 hx hZ hown (host := "") (Or.inl (hw _ (List.mem_of_getElem? (i := 59) rfl))) Via.refl e2 (F1.other W2 (Or.inr (slot_ne (Or.inr (hw _ (List.mem_of_getElem? (i := 60) rfl))) (Or.inr (hw _ (List.mem_of_getElem? (i := 58) rfl))) (by decide) (t := (.object "java/lang/String")) (t' := (.object "java/lang/String")) (by decide) (by decide)))) (Ex.wr W2) (Or.inr ⟨(hw _ (List.mem_of_getElem? (i := 60) rfl)), rfl, hnm⟩) (hw _ (List.mem_of_getElem? (i := 34) rfl)) (ty := (.object "java/lang/String")) (by decide) rfl rfl (g := (mkF m 11 #[.val (.ref x), .val (.ref s0), .val (.ref s1), .val (.ref s2)] [(.ref s1), (.ref x)])) rfl rfl (hb hby dCI_11)
  have Fw3 := (F1.other W2 (Or.inr (slot_ne (Or.inr (hw _ (List.mem_of_getElem? (i := 60) rfl))) (Or.inr (hw _ (List.mem_of_getElem? (i := 58) rfl))) (by decide) (t := (.object "java/lang/String")) (t' := (.object "java/lang/String")) (by decide) (by decide)))).same W3
  have sz3 : h2.size ≤ h3.size := (Keep.of_wr W3).1
  have K3 : Keep h0 h3 [x] := K2.wr W3 (Or.inl (by simp))
  have N3 := Fr.snoc X3 N2 (own_le (by omega))
  refine own_st st3 ?_
  show own_G p e below _ (T3.setTop (mkF m 14 #[.val (.ref x), .val (.ref s0), .val (.ref s1), .val (.ref s2)] []))
  refine own_st (fun tq kq => XS.aloadN X3.here hx rfl (hb hby dCI_14) rfl rfl kq) ?_
  refine own_st (fun tq kq => XS.aloadN X3.here hx rfl (hb hby dCI_15) rfl rfl kq) ?_
  show own_G p e below _ (T3.setTop (mkF m 16 #[.val (.ref x), .val (.ref s0), .val (.ref s1), .val (.ref s2)] [(.ref s2), (.ref x)]))
  obtain ⟨T4, h4, X4, e4, W4, st4⟩ := putF X3 hx hZ hown (host := "") (Or.inl (hw _ (List.mem_of_getElem? (i := 61) rfl))) Via.refl e3 ((F2.other W2 (Or.inr (slot_ne (Or.inr (hw _ (List.mem_of_getElem? (i := 62) rfl))) (Or.inr (hw _ (List.mem_of_getElem? (i := 58) rfl))) (by decide) (t := (.object "java/lang/String")) (t' := (.object "java/lang/String")) (by decide) (by decide)))).other W3 (Or.inr (slot_ne (Or.inr (hw _ (List.mem_of_getElem? (i := 62) rfl))) (Or.inr (hw _ (List.mem_of_getElem? (i := 60) rfl))) (by decide) (t := (.object "java/lang/String")) (t' := (.object "java/lang/String")) (by decide) (by decide)))) ((Ex.wr W2).wr W3) (Or.inr ⟨(hw _ (List.mem_of_getElem? (i := 62) rfl)), rfl, hnm⟩) (hw _ (List.mem_of_getElem? (i := 34) rfl)) (ty := (.object "java/lang/String")) (by decide) rfl rfl (g := (mkF m 16 #[.val (.ref x), .val (.ref s0), .val (.ref s1), .val (.ref s2)] [(.ref s2), (.ref x)])) rfl rfl (hb hby dCI_16)
  have Fw4 := ((F2.other W2 (Or.inr (slot_ne (Or.inr (hw _ (List.mem_of_getElem? (i := 62) rfl))) (Or.inr (hw _ (List.mem_of_getElem? (i := 58) rfl))) (by decide) (t := (.object "java/lang/String")) (t' := (.object "java/lang/String")) (by decide) (by decide)))).other W3 (Or.inr (slot_ne (Or.inr (hw _ (List.mem_of_getElem? (i := 62) rfl))) (Or.inr (hw _ (List.mem_of_getElem? (i := 60) rfl))) (by decide) (t := (.object "java/lang/String")) (t' := (.object "java/lang/String")) (by decide) (by decide)))).same W4
  have sz4 : h3.size ≤ h4.size := (Keep.of_wr W4).1
  have K4 : Keep h0 h4 [x] := K3.wr W4 (Or.inl (by simp))
  have N4 := Fr.snoc X4 N3 (own_le (by omega))
  refine own_st st4 ?_
  show own_G p e below _ (T4.setTop (mkF m 19 #[.val (.ref x), .val (.ref s0), .val (.ref s1), .val (.ref s2)] []))
  obtain ⟨fs, hr, hrun, hended, hW, hsame⟩ := X4.leave (v := none) (fun _ => rfl)
  refine ⟨_, _, X4.returnOut hx Bd.returns (hb hby dCI_19) hr, hrun, hended, _, _, rfl, ?_, ⟨_, rfl⟩, hW, hsame.mono (by decide) (by decide)⟩
  change (fun (v : Option Value) (h : Heap) (L : List Loc) => v = none ∧ Fr n0 L ∧ Keep h0 h [x] ∧ Fld Z h x "com/example/garm/garm/SecurityTarget$Choice" "element" "Ljava/lang/String;" (.ref s0) ∧ Fld Z h x "com/example/garm/garm/SecurityTarget$Choice" "selection" "Ljava/lang/String;" (.ref s1) ∧ Fld Z h x "com/example/garm/garm/SecurityTarget$Choice" "item" "Ljava/lang/String;" (.ref s2)) (none) T4.heap _; rw [e4]; exact ⟨rfl, N4, K4, ((Fw2.other W3 (Or.inr (slot_ne (Or.inr (hw _ (List.mem_of_getElem? (i := 58) rfl))) (Or.inr (hw _ (List.mem_of_getElem? (i := 60) rfl))) (by decide) (t := (.object "java/lang/String")) (t' := (.object "java/lang/String")) (by decide) (by decide)))).other W4 (Or.inr (slot_ne (Or.inr (hw _ (List.mem_of_getElem? (i := 58) rfl))) (Or.inr (hw _ (List.mem_of_getElem? (i := 62) rfl))) (by decide) (t := (.object "java/lang/String")) (t' := (.object "java/lang/String")) (by decide) (by decide)))), (Fw3.other W4 (Or.inr (slot_ne (Or.inr (hw _ (List.mem_of_getElem? (i := 60) rfl))) (Or.inr (hw _ (List.mem_of_getElem? (i := 62) rfl))) (by decide) (t := (.object "java/lang/String")) (t' := (.object "java/lang/String")) (by decide) (by decide)))), Fw4⟩

theorem ef_own_eqC (m : MethodId) (x0 : Nat) (x1 : Nat) : entryFrame m #[(.ref x0), (.ref x1)] 3 = mkF m 0 #[.val (.ref x0), .val (.ref x1), .unset] [] := by first | (simp [entryFrame, mkF, argsToLocals, Value.category]; done) | rfl
set_option maxRecDepth 65536 in
set_option maxHeartbeats 40000000 in
theorem own_eqC (l : Launch) (Z : State) (a0 : Array Value) (hw : ∀ d ∈ tables_1, d.before a0 Z = true) (ws : List Jvm.Cond) (x y s0 s1 s2 t0 t1 t2 : Nat) (c0 c1 c2 d0 d1 d2 : List Int32) (nb : Nat) (G1 : Int32) (h0 : Heap) (n0 : Nat) (Z0 : n0 ≤ h0.size) (X00 : Old Z n0 h0) (Ey : Exa Z h0 y "com/example/garm/garm/SecurityTarget$Choice") (F0 : Fld Z h0 x "com/example/garm/garm/SecurityTarget$Choice" "element" "Ljava/lang/String;" (.ref s0)) (F1 : Fld Z h0 x "com/example/garm/garm/SecurityTarget$Choice" "selection" "Ljava/lang/String;" (.ref s1)) (F2 : Fld Z h0 x "com/example/garm/garm/SecurityTarget$Choice" "item" "Ljava/lang/String;" (.ref s2)) (G_0 : Fld Z h0 y "com/example/garm/garm/SecurityTarget$Choice" "element" "Ljava/lang/String;" (.ref t0)) (G_1 : Fld Z h0 y "com/example/garm/garm/SecurityTarget$Choice" "selection" "Ljava/lang/String;" (.ref t1)) (G_2 : Fld Z h0 y "com/example/garm/garm/SecurityTarget$Choice" "item" "Ljava/lang/String;" (.ref t2)) (S0 : own_Str Z nb h0 s0 c0) (S1 : own_Str Z nb h0 s1 c1) (S2 : own_Str Z nb h0 s2 c2) (R0 : own_Str Z nb h0 t0 d0) (R1 : own_Str Z nb h0 t1 d1) (R2 : own_Str Z nb h0 t2 d2) (O2 : Sta Z Z.heap "java/lang/String" "COMPACT_STRINGS" "Z" (.int G1)) (P5 : ¬ (G1 = (0 : Int32))) :
    MetFree l (⟨"com/example/garm/garm/SecurityTarget$Choice", "equals", "(Ljava/lang/Object;)Z"⟩ : MethodName) (head1 (Jvm.Cond.code (⟨"com/example/garm/garm/SecurityTarget$Choice", "equals", "(Ljava/lang/Object;)Z"⟩ : MethodName) prog_39_method_2_code 3 (some .boolean) :: ws) ({ frames := 2, cells := 0, slots := 0, locals := 40 } : Room)) (fun av_ U => av_ = #[(.ref x), (.ref y)] ∧ Z.Warmed39 U.vm ∧ U.heap = h0) (fun _ _ _ _ _ => True) (own_EN (fun (v : Option Value) (h : Heap) (L : List Loc) => ((v = some (.int (1 : Int32)) ∧ c0 = d0 ∧ c1 = d1 ∧ c2 = d2) ∨ (v = some (.int (0 : Int32)) ∧ ¬ (c0 = d0 ∧ c1 = d1 ∧ c2 = d2))) ∧ Fr n0 L ∧ h = h0) ({ frames := 2, cells := 0, slots := 0, locals := 40 } : Room)) := by
  refine MetFree.of_bodySF (plainFor_of_name own_pn3) hisR ?_
  intro p e s m args below meth c s₁ Bd hml0 hP hK
  obtain ⟨rfl, hZ, hh⟩ := hP
  have hx := Bd.exec
  have hby := Bd.bytes
  have hml : c.maxLocals = 3 := hml0
  have hown : s.vm.findClass "com/example/garm/garm/SecurityTarget$Choice" = some m.cls := findClass_of_methodNamed Bd.named
  have hnm := (name_of_methodNamed Bd.named Bd.method).1
  have X0 : Stand p l e ({ frames := 2, cells := 0, slots := 0, locals := 40 } : Room) s m #[(.ref x), (.ref y)] below meth c s₁ [] 0 0 := Stand.of_body Bd
  have e0 : s₁.heap = h0 := by rw [← hh, Bd.state]; rfl
  have N0 := Fr.nil n0
  have K0 : Keep h0 h0 [] := Keep.refl h0 []
  refine show own_G p e below (own_EN (fun (v : Option Value) (h : Heap) (L : List Loc) => ((v = some (.int (1 : Int32)) ∧ c0 = d0 ∧ c1 = d1 ∧ c2 = d2) ∨ (v = some (.int (0 : Int32)) ∧ ¬ (c0 = d0 ∧ c1 = d1 ∧ c2 = d2))) ∧ Fr n0 L ∧ h = h0) ({ frames := 2, cells := 0, slots := 0, locals := 40 } : Room) #[(.ref x), (.ref y)] s) _ from ?_
  refine own_st (fun tq kq => castTop (ef_own_eqC m (x) (y)) kq) ?_
  show own_G p e below _ (s₁.setTop (mkF m 0 #[.val (.ref x), .val (.ref y), .unset] []))
  refine own_st (fun tq kq => XS.aloadN X0.here hx rfl (hb hby dEQ_0) rfl rfl kq) ?_
  show own_G p e below _ (s₁.setTop (mkF m 1 #[.val (.ref x), .val (.ref y), .unset] [(.ref y)]))
  obtain ⟨T1, X1, e1, st1⟩ := instY X0 hx hZ hown (hw _ (List.mem_of_getElem? (i := 71) rfl)) e0 (Ins.self Ey) (g := (mkF m 1 #[.val (.ref x), .val (.ref y), .unset] [(.ref y)])) rfl rfl (hb hby dEQ_1)
  refine own_st st1 ?_
  show own_G p e below _ (T1.setTop (mkF m 4 #[.val (.ref x), .val (.ref y), .unset] [(.int (1 : Int32))]))
  refine own_st (fun tq kq => XS.ifNo X1.here hx rfl (hb hby dEQ_4) rfl ((if0 _ _).trans (feq (by decide : ¬ ((1 : Int32) = (0 : Int32)))).1) kq) ?_
  refine own_st (fun tq kq => XS.aloadN X1.here hx rfl (hb hby dEQ_7) rfl rfl kq) ?_
  show own_G p e below _ (T1.setTop (mkF m 8 #[.val (.ref x), .val (.ref y), .unset] [(.ref y)]))
  obtain ⟨T2, X2, e2, st2⟩ := castY X1 hx hZ hown (hw _ (List.mem_of_getElem? (i := 71) rfl)) e1 (Ins.self Ey) (g := (mkF m 8 #[.val (.ref x), .val (.ref y), .unset] [(.ref y)])) rfl rfl (hb hby dEQ_8)
  refine own_st st2 ?_
  show own_G p e below _ (T2.setTop (mkF m 11 #[.val (.ref x), .val (.ref y), .unset] [(.ref y)]))
  refine own_st (fun tq kq => XS.astoreN X2.here hx rfl (hb hby dEQ_11) rfl rfl (l' := #[.val (.ref x), .val (.ref y), .val (.ref y)]) rfl kq) ?_
  refine own_st (fun tq kq => XS.aloadN X2.here hx rfl (hb hby dEQ_12) rfl rfl kq) ?_
  show own_G p e below _ (T2.setTop (mkF m 13 #[.val (.ref x), .val (.ref y), .val (.ref y)] [(.ref x)]))
  obtain ⟨T3, X3, e3, st3⟩ := getF X2 hx hZ hown (host := "") (Or.inl (hw _ (List.mem_of_getElem? (i := 57) rfl))) Via.refl e2 F0 (g := (mkF m 13 #[.val (.ref x), .val (.ref y), .val (.ref y)] [(.ref x)])) rfl rfl (hb hby dEQ_13)
  refine own_st st3 ?_
  show own_G p e below _ (T3.setTop (mkF m 16 #[.val (.ref x), .val (.ref y), .val (.ref y)] [(.ref s0)]))
  refine own_st (fun tq kq => XS.aloadN X3.here hx rfl (hb hby dEQ_16) rfl rfl kq) ?_
  show own_G p e below _ (T3.setTop (mkF m 17 #[.val (.ref x), .val (.ref y), .val (.ref y)] [(.ref y), (.ref s0)]))
  obtain ⟨T4, X4, e4, st4⟩ := getF X3 hx hZ hown (host := "") (Or.inl (hw _ (List.mem_of_getElem? (i := 57) rfl))) Via.refl e3 G_0 (g := (mkF m 17 #[.val (.ref x), .val (.ref y), .val (.ref y)] [(.ref y), (.ref s0)])) rfl rfl (hb hby dEQ_17)
  refine own_st st4 ?_
  show own_G p e below _ (T4.setTop (mkF m 20 #[.val (.ref x), .val (.ref y), .val (.ref y)] [(.ref t0), (.ref s0)]))
  obtain ⟨-, E1_5, hb1_5, ln1_5, t1_5, kb1_5, -, V1_5, C1_5, A1_5⟩ := id S0
  obtain ⟨-, E2_5, hb2_5, ln2_5, t2_5, kb2_5, -, V2_5, C2_5, A2_5⟩ := id R0
  obtain ⟨cq5, kq5, q5a, q5b, q5c⟩ := isOf hZ e4 S0.2.1
  obtain ⟨_, _, ⟨T5, L5, k5, n5⟩, -, X5, ⟨Lc5, hQ5, l5, y5, z5⟩, st5⟩ := X4.virtualBack hx (y := (⟨"java/lang/String", "equals", "(Ljava/lang/Object;)Z"⟩ : MethodName)) (z := (⟨"java/lang/String", "equals", "(Ljava/lang/Object;)Z"⟩ : MethodName)) hown (mvT hZ (hw _ (List.mem_of_getElem? (i := 73) rfl))) (mvT hZ (hw _ (List.mem_of_getElem? (i := 74) rfl))) (notFace_of_selects (args := #[]) (mvT hZ (hw _ (List.mem_of_getElem? (i := 76) rfl)))) (mvT hZ (hw _ (List.mem_of_getElem? (i := 76) rfl))) (mvT hZ (hw _ (List.mem_of_getElem? (i := 75) rfl))) (by decide) (StrChars.Road.eqW (W := 0) hZ (own_wEq hw) (kI := 4) (hw _ (List.mem_of_getElem? (i := 12) rfl)) E1_5 V1_5 C1_5 A1_5 (StrChars.Road.codOf rfl (fun c hc => (hb1_5 c hc).2)) (own_up hb1_5) ln1_5 E2_5 V2_5 C2_5 A2_5 (StrChars.Road.codOf rfl (fun c hc => (hb2_5 c hc).2)) (own_up hb2_5) ln2_5 (O2.ext (X00.keep K0 all0).2) P5 (by decide) (by decide)) q5a q5c (g := (mkF m 20 #[.val (.ref x), .val (.ref y), .val (.ref y)] [(.ref t0), (.ref s0)])) rfl (by rw [hml]; rfl) (Steps.refl _) (argsL := [(.ref t0)]) (rest := []) (lenOf own_pd5 rfl) rfl (by show 2 * 0 + _ ≤ _; exact Nat.le_of_eq rfl) (hb hby dEQ_20) (fun _ _ => ⟨rfl, e4, (by decide : 0 + 0 ≤ _), (by decide : 0 + 0 ≤ _)⟩)
  dsimp only [Pt.U, Pt.locs, Pt.cells, Pt.slots] at X5 l5 y5 z5 st5 hQ5
  subst l5 y5 z5
  obtain ⟨hr5, rfl, sm5⟩ := hQ5
  have N5 := Fr.app N0 (Fr.nil n0)
  rcases hr5 with ⟨rfl, eq5⟩ | ⟨rfl, eq5⟩
  ·
    refine own_st (fun tq kq => st5.trans kq) ?_
    show own_G p e below _ (T5.setTop (mkF m 23 #[.val (.ref x), .val (.ref y), .val (.ref y)] [(.int (1 : Int32))]))
    refine own_st (fun tq kq => XS.ifNo X5.here hx rfl (hb hby dEQ_23) rfl ((if0 _ _).trans (feq (by decide : ¬ ((1 : Int32) = (0 : Int32)))).1) kq) ?_
    refine own_st (fun tq kq => XS.aloadN X5.here hx rfl (hb hby dEQ_26) rfl rfl kq) ?_
    show own_G p e below _ (T5.setTop (mkF m 27 #[.val (.ref x), .val (.ref y), .val (.ref y)] [(.ref x)]))
    obtain ⟨T6, X6, e6, st6⟩ := getF X5 hx hZ hown (host := "") (Or.inl (hw _ (List.mem_of_getElem? (i := 59) rfl))) Via.refl sm5 F1 (g := (mkF m 27 #[.val (.ref x), .val (.ref y), .val (.ref y)] [(.ref x)])) rfl rfl (hb hby dEQ_27)
    refine own_st st6 ?_
    show own_G p e below _ (T6.setTop (mkF m 30 #[.val (.ref x), .val (.ref y), .val (.ref y)] [(.ref s1)]))
    refine own_st (fun tq kq => XS.aloadN X6.here hx rfl (hb hby dEQ_30) rfl rfl kq) ?_
    show own_G p e below _ (T6.setTop (mkF m 31 #[.val (.ref x), .val (.ref y), .val (.ref y)] [(.ref y), (.ref s1)]))
    obtain ⟨T7, X7, e7, st7⟩ := getF X6 hx hZ hown (host := "") (Or.inl (hw _ (List.mem_of_getElem? (i := 59) rfl))) Via.refl e6 G_1 (g := (mkF m 31 #[.val (.ref x), .val (.ref y), .val (.ref y)] [(.ref y), (.ref s1)])) rfl rfl (hb hby dEQ_31)
    refine own_st st7 ?_
    show own_G p e below _ (T7.setTop (mkF m 34 #[.val (.ref x), .val (.ref y), .val (.ref y)] [(.ref t1), (.ref s1)]))
    obtain ⟨-, E1_8, hb1_8, ln1_8, t1_8, kb1_8, -, V1_8, C1_8, A1_8⟩ := id S1
    obtain ⟨-, E2_8, hb2_8, ln2_8, t2_8, kb2_8, -, V2_8, C2_8, A2_8⟩ := id R1
    obtain ⟨cq8, kq8, q8a, q8b, q8c⟩ := isOf hZ e7 S1.2.1
    obtain ⟨_, _, ⟨T8, L8, k8, n8⟩, -, X8, ⟨Lc8, hQ8, l8, y8, z8⟩, st8⟩ := X7.virtualBack hx (y := (⟨"java/lang/String", "equals", "(Ljava/lang/Object;)Z"⟩ : MethodName)) (z := (⟨"java/lang/String", "equals", "(Ljava/lang/Object;)Z"⟩ : MethodName)) hown (mvT hZ (hw _ (List.mem_of_getElem? (i := 73) rfl))) (mvT hZ (hw _ (List.mem_of_getElem? (i := 74) rfl))) (notFace_of_selects (args := #[]) (mvT hZ (hw _ (List.mem_of_getElem? (i := 76) rfl)))) (mvT hZ (hw _ (List.mem_of_getElem? (i := 76) rfl))) (mvT hZ (hw _ (List.mem_of_getElem? (i := 75) rfl))) (by decide) (StrChars.Road.eqW (W := 0) hZ (own_wEq hw) (kI := 4) (hw _ (List.mem_of_getElem? (i := 12) rfl)) E1_8 V1_8 C1_8 A1_8 (StrChars.Road.codOf rfl (fun c hc => (hb1_8 c hc).2)) (own_up hb1_8) ln1_8 E2_8 V2_8 C2_8 A2_8 (StrChars.Road.codOf rfl (fun c hc => (hb2_8 c hc).2)) (own_up hb2_8) ln2_8 (O2.ext (X00.keep K0 all0).2) P5 (by decide) (by decide)) q8a q8c (g := (mkF m 34 #[.val (.ref x), .val (.ref y), .val (.ref y)] [(.ref t1), (.ref s1)])) rfl (by rw [hml]; rfl) (Steps.refl _) (argsL := [(.ref t1)]) (rest := []) (lenOf own_pd5 rfl) rfl (by show 2 * 0 + _ ≤ _; exact Nat.le_of_eq rfl) (hb hby dEQ_34) (fun _ _ => ⟨rfl, e7, (by decide : 0 + 0 ≤ _), (by decide : 0 + 0 ≤ _)⟩)
    dsimp only [Pt.U, Pt.locs, Pt.cells, Pt.slots] at X8 l8 y8 z8 st8 hQ8
    subst l8 y8 z8
    obtain ⟨hr8, rfl, sm8⟩ := hQ8
    have N8 := Fr.app N5 (Fr.nil n0)
    rcases hr8 with ⟨rfl, eq8⟩ | ⟨rfl, eq8⟩
    ·
      refine own_st (fun tq kq => st8.trans kq) ?_
      show own_G p e below _ (T8.setTop (mkF m 37 #[.val (.ref x), .val (.ref y), .val (.ref y)] [(.int (1 : Int32))]))
      refine own_st (fun tq kq => XS.ifNo X8.here hx rfl (hb hby dEQ_37) rfl ((if0 _ _).trans (feq (by decide : ¬ ((1 : Int32) = (0 : Int32)))).1) kq) ?_
      refine own_st (fun tq kq => XS.aloadN X8.here hx rfl (hb hby dEQ_40) rfl rfl kq) ?_
      show own_G p e below _ (T8.setTop (mkF m 41 #[.val (.ref x), .val (.ref y), .val (.ref y)] [(.ref x)]))
      obtain ⟨T9, X9, e9, st9⟩ := getF X8 hx hZ hown (host := "") (Or.inl (hw _ (List.mem_of_getElem? (i := 61) rfl))) Via.refl sm8 F2 (g := (mkF m 41 #[.val (.ref x), .val (.ref y), .val (.ref y)] [(.ref x)])) rfl rfl (hb hby dEQ_41)
      refine own_st st9 ?_
      show own_G p e below _ (T9.setTop (mkF m 44 #[.val (.ref x), .val (.ref y), .val (.ref y)] [(.ref s2)]))
      refine own_st (fun tq kq => XS.aloadN X9.here hx rfl (hb hby dEQ_44) rfl rfl kq) ?_
      show own_G p e below _ (T9.setTop (mkF m 45 #[.val (.ref x), .val (.ref y), .val (.ref y)] [(.ref y), (.ref s2)]))
      obtain ⟨T10, X10, e10, st10⟩ := getF X9 hx hZ hown (host := "") (Or.inl (hw _ (List.mem_of_getElem? (i := 61) rfl))) Via.refl e9 G_2 (g := (mkF m 45 #[.val (.ref x), .val (.ref y), .val (.ref y)] [(.ref y), (.ref s2)])) rfl rfl (hb hby dEQ_45)
      refine own_st st10 ?_
      show own_G p e below _ (T10.setTop (mkF m 48 #[.val (.ref x), .val (.ref y), .val (.ref y)] [(.ref t2), (.ref s2)]))
      obtain ⟨-, E1_11, hb1_11, ln1_11, t1_11, kb1_11, -, V1_11, C1_11, A1_11⟩ := id S2
      obtain ⟨-, E2_11, hb2_11, ln2_11, t2_11, kb2_11, -, V2_11, C2_11, A2_11⟩ := id R2
      obtain ⟨cq11, kq11, q11a, q11b, q11c⟩ := isOf hZ e10 S2.2.1
      obtain ⟨_, _, ⟨T11, L11, k11, n11⟩, -, X11, ⟨Lc11, hQ11, l11, y11, z11⟩, st11⟩ := X10.virtualBack hx (y := (⟨"java/lang/String", "equals", "(Ljava/lang/Object;)Z"⟩ : MethodName)) (z := (⟨"java/lang/String", "equals", "(Ljava/lang/Object;)Z"⟩ : MethodName)) hown (mvT hZ (hw _ (List.mem_of_getElem? (i := 73) rfl))) (mvT hZ (hw _ (List.mem_of_getElem? (i := 74) rfl))) (notFace_of_selects (args := #[]) (mvT hZ (hw _ (List.mem_of_getElem? (i := 76) rfl)))) (mvT hZ (hw _ (List.mem_of_getElem? (i := 76) rfl))) (mvT hZ (hw _ (List.mem_of_getElem? (i := 75) rfl))) (by decide) (StrChars.Road.eqW (W := 0) hZ (own_wEq hw) (kI := 4) (hw _ (List.mem_of_getElem? (i := 12) rfl)) E1_11 V1_11 C1_11 A1_11 (StrChars.Road.codOf rfl (fun c hc => (hb1_11 c hc).2)) (own_up hb1_11) ln1_11 E2_11 V2_11 C2_11 A2_11 (StrChars.Road.codOf rfl (fun c hc => (hb2_11 c hc).2)) (own_up hb2_11) ln2_11 (O2.ext (X00.keep K0 all0).2) P5 (by decide) (by decide)) q11a q11c (g := (mkF m 48 #[.val (.ref x), .val (.ref y), .val (.ref y)] [(.ref t2), (.ref s2)])) rfl (by rw [hml]; rfl) (Steps.refl _) (argsL := [(.ref t2)]) (rest := []) (lenOf own_pd5 rfl) rfl (by show 2 * 0 + _ ≤ _; exact Nat.le_of_eq rfl) (hb hby dEQ_48) (fun _ _ => ⟨rfl, e10, (by decide : 0 + 0 ≤ _), (by decide : 0 + 0 ≤ _)⟩)
      dsimp only [Pt.U, Pt.locs, Pt.cells, Pt.slots] at X11 l11 y11 z11 st11 hQ11
      subst l11 y11 z11
      obtain ⟨hr11, rfl, sm11⟩ := hQ11
      have N11 := Fr.app N8 (Fr.nil n0)
      rcases hr11 with ⟨rfl, eq11⟩ | ⟨rfl, eq11⟩
      ·
        refine own_st (fun tq kq => st11.trans kq) ?_
        show own_G p e below _ (T11.setTop (mkF m 51 #[.val (.ref x), .val (.ref y), .val (.ref y)] [(.int (1 : Int32))]))
        refine own_st (fun tq kq => XS.ifNo X11.here hx rfl (hb hby dEQ_51) rfl ((if0 _ _).trans (feq (by decide : ¬ ((1 : Int32) = (0 : Int32)))).1) kq) ?_
        refine own_st (fun tq kq => XS.iconst X11.here hx rfl (hb hby dEQ_54) kq) ?_
        refine own_st (fun tq kq => XS.goto X11.here hx rfl (pc0 := 55) (pc' := 59) rfl (hb hby dEQ_55) (by decide) (by decide) kq) ?_
        show own_G p e below _ (T11.setTop (mkF m 59 #[.val (.ref x), .val (.ref y), .val (.ref y)] [(.int (1 : Int32))]))
        obtain ⟨fs, hr, hrun, hended, hW, hsame⟩ := X11.leave (v := some (.int (1 : Int32))) (fun h => by rw [Bd.returns] at h; cases h)
        refine ⟨_, _, retN X11 hx (t := .boolean) Bd.returns (by simp) (hb hby dEQ_59) hr, hrun, hended, _, _, rfl, ?_, ⟨_, rfl⟩, hW, hsame.mono (by decide) (by decide)⟩
        change (fun (v : Option Value) (h : Heap) (L : List Loc) => ((v = some (.int (1 : Int32)) ∧ c0 = d0 ∧ c1 = d1 ∧ c2 = d2) ∨ (v = some (.int (0 : Int32)) ∧ ¬ (c0 = d0 ∧ c1 = d1 ∧ c2 = d2))) ∧ Fr n0 L ∧ h = h0) (some (.int (1 : Int32))) T11.heap _; rw [sm11]; exact ⟨Or.inl ⟨rfl, eq5, eq8, eq11⟩, N11, rfl⟩
      ·
        refine own_st (fun tq kq => st11.trans kq) ?_
        show own_G p e below _ (T11.setTop (mkF m 51 #[.val (.ref x), .val (.ref y), .val (.ref y)] [(.int (0 : Int32))]))
        refine own_st (fun tq kq => XS.ifYes X11.here hx rfl (pc0 := 51) (pc' := 58) rfl (hb hby dEQ_51) rfl ((if0 _ _).trans (teq (by decide : ((0 : Int32) = (0 : Int32)))).1) (by decide) (by decide) kq) ?_
        refine own_st (fun tq kq => XS.iconst X11.here hx rfl (hb hby dEQ_58) kq) ?_
        show own_G p e below _ (T11.setTop (mkF m 59 #[.val (.ref x), .val (.ref y), .val (.ref y)] [(.int (0 : Int32))]))
        obtain ⟨fs, hr, hrun, hended, hW, hsame⟩ := X11.leave (v := some (.int (0 : Int32))) (fun h => by rw [Bd.returns] at h; cases h)
        refine ⟨_, _, retN X11 hx (t := .boolean) Bd.returns (by simp) (hb hby dEQ_59) hr, hrun, hended, _, _, rfl, ?_, ⟨_, rfl⟩, hW, hsame.mono (by decide) (by decide)⟩
        change (fun (v : Option Value) (h : Heap) (L : List Loc) => ((v = some (.int (1 : Int32)) ∧ c0 = d0 ∧ c1 = d1 ∧ c2 = d2) ∨ (v = some (.int (0 : Int32)) ∧ ¬ (c0 = d0 ∧ c1 = d1 ∧ c2 = d2))) ∧ Fr n0 L ∧ h = h0) (some (.int (0 : Int32))) T11.heap _; rw [sm11]; exact ⟨Or.inr ⟨rfl, fun q => eq11 q.2.2⟩, N11, rfl⟩
    ·
      refine own_st (fun tq kq => st8.trans kq) ?_
      show own_G p e below _ (T8.setTop (mkF m 37 #[.val (.ref x), .val (.ref y), .val (.ref y)] [(.int (0 : Int32))]))
      refine own_st (fun tq kq => XS.ifYes X8.here hx rfl (pc0 := 37) (pc' := 58) rfl (hb hby dEQ_37) rfl ((if0 _ _).trans (teq (by decide : ((0 : Int32) = (0 : Int32)))).1) (by decide) (by decide) kq) ?_
      refine own_st (fun tq kq => XS.iconst X8.here hx rfl (hb hby dEQ_58) kq) ?_
      show own_G p e below _ (T8.setTop (mkF m 59 #[.val (.ref x), .val (.ref y), .val (.ref y)] [(.int (0 : Int32))]))
      obtain ⟨fs, hr, hrun, hended, hW, hsame⟩ := X8.leave (v := some (.int (0 : Int32))) (fun h => by rw [Bd.returns] at h; cases h)
      refine ⟨_, _, retN X8 hx (t := .boolean) Bd.returns (by simp) (hb hby dEQ_59) hr, hrun, hended, _, _, rfl, ?_, ⟨_, rfl⟩, hW, hsame.mono (by decide) (by decide)⟩
      change (fun (v : Option Value) (h : Heap) (L : List Loc) => ((v = some (.int (1 : Int32)) ∧ c0 = d0 ∧ c1 = d1 ∧ c2 = d2) ∨ (v = some (.int (0 : Int32)) ∧ ¬ (c0 = d0 ∧ c1 = d1 ∧ c2 = d2))) ∧ Fr n0 L ∧ h = h0) (some (.int (0 : Int32))) T8.heap _; rw [sm8]; exact ⟨Or.inr ⟨rfl, fun q => eq8 q.2.1⟩, N8, rfl⟩
  ·
    refine own_st (fun tq kq => st5.trans kq) ?_
    show own_G p e below _ (T5.setTop (mkF m 23 #[.val (.ref x), .val (.ref y), .val (.ref y)] [(.int (0 : Int32))]))
    refine own_st (fun tq kq => XS.ifYes X5.here hx rfl (pc0 := 23) (pc' := 58) rfl (hb hby dEQ_23) rfl ((if0 _ _).trans (teq (by decide : ((0 : Int32) = (0 : Int32)))).1) (by decide) (by decide) kq) ?_
    refine own_st (fun tq kq => XS.iconst X5.here hx rfl (hb hby dEQ_58) kq) ?_
    show own_G p e below _ (T5.setTop (mkF m 59 #[.val (.ref x), .val (.ref y), .val (.ref y)] [(.int (0 : Int32))]))
    obtain ⟨fs, hr, hrun, hended, hW, hsame⟩ := X5.leave (v := some (.int (0 : Int32))) (fun h => by rw [Bd.returns] at h; cases h)
    refine ⟨_, _, retN X5 hx (t := .boolean) Bd.returns (by simp) (hb hby dEQ_59) hr, hrun, hended, _, _, rfl, ?_, ⟨_, rfl⟩, hW, hsame.mono (by decide) (by decide)⟩
    change (fun (v : Option Value) (h : Heap) (L : List Loc) => ((v = some (.int (1 : Int32)) ∧ c0 = d0 ∧ c1 = d1 ∧ c2 = d2) ∨ (v = some (.int (0 : Int32)) ∧ ¬ (c0 = d0 ∧ c1 = d1 ∧ c2 = d2))) ∧ Fr n0 L ∧ h = h0) (some (.int (0 : Int32))) T5.heap _; rw [sm5]; exact ⟨Or.inr ⟨rfl, fun q => eq5 q.1⟩, N5, rfl⟩

theorem ef_own_eqN (m : MethodId) (x0 : Nat) : entryFrame m #[(.ref x0), .null] 3 = mkF m 0 #[.val (.ref x0), .val .null, .unset] [] := by first | (simp [entryFrame, mkF, argsToLocals, Value.category]; done) | rfl
set_option maxRecDepth 65536 in
set_option maxHeartbeats 40000000 in
theorem own_eqN (l : Launch) (Z : State) (a0 : Array Value) (hw : ∀ d ∈ tables_1, d.before a0 Z = true) (ws : List Jvm.Cond) (x : Nat) (h0 : Heap) (n0 : Nat) (Z0 : n0 ≤ h0.size) (X00 : Old Z n0 h0)  :
    MetFree l (⟨"com/example/garm/garm/SecurityTarget$Choice", "equals", "(Ljava/lang/Object;)Z"⟩ : MethodName) (head1 (Jvm.Cond.code (⟨"com/example/garm/garm/SecurityTarget$Choice", "equals", "(Ljava/lang/Object;)Z"⟩ : MethodName) prog_39_method_2_code 3 (some .boolean) :: ws) ({ frames := 2, cells := 0, slots := 0, locals := 40 } : Room)) (fun av_ U => av_ = #[(.ref x), .null] ∧ Z.Warmed39 U.vm ∧ U.heap = h0) (fun _ _ _ _ _ => True) (own_EN (fun (v : Option Value) (h : Heap) (L : List Loc) => v = some (.int (0 : Int32)) ∧ Fr n0 L ∧ h = h0) ({ frames := 2, cells := 0, slots := 0, locals := 40 } : Room)) := by
  refine MetFree.of_bodySF (plainFor_of_name own_pn3) hisR ?_
  intro p e s m args below meth c s₁ Bd hml0 hP hK
  obtain ⟨rfl, hZ, hh⟩ := hP
  have hx := Bd.exec
  have hby := Bd.bytes
  have hml : c.maxLocals = 3 := hml0
  have hown : s.vm.findClass "com/example/garm/garm/SecurityTarget$Choice" = some m.cls := findClass_of_methodNamed Bd.named
  have hnm := (name_of_methodNamed Bd.named Bd.method).1
  have X0 : Stand p l e ({ frames := 2, cells := 0, slots := 0, locals := 40 } : Room) s m #[(.ref x), .null] below meth c s₁ [] 0 0 := Stand.of_body Bd
  have e0 : s₁.heap = h0 := by rw [← hh, Bd.state]; rfl
  have N0 := Fr.nil n0
  have K0 : Keep h0 h0 [] := Keep.refl h0 []
  refine show own_G p e below (own_EN (fun (v : Option Value) (h : Heap) (L : List Loc) => v = some (.int (0 : Int32)) ∧ Fr n0 L ∧ h = h0) ({ frames := 2, cells := 0, slots := 0, locals := 40 } : Room) #[(.ref x), .null] s) _ from ?_
  refine own_st (fun tq kq => castTop (ef_own_eqN m (x)) kq) ?_
  show own_G p e below _ (s₁.setTop (mkF m 0 #[.val (.ref x), .val .null, .unset] []))
  refine own_st (fun tq kq => XS.aloadN X0.here hx rfl (hb hby dEN_0) rfl rfl kq) ?_
  show own_G p e below _ (s₁.setTop (mkF m 1 #[.val (.ref x), .val .null, .unset] [.null]))
  refine own_st (fun tq kq => X0.instanceofNull hx (g := (mkF m 1 #[.val (.ref x), .val .null, .unset] [.null])) rfl rfl (hb hby dEN_1) _ kq) ?_
  show own_G p e below _ (s₁.setTop (mkF m 4 #[.val (.ref x), .val .null, .unset] [(.int (0 : Int32))]))
  refine own_st (fun tq kq => XS.ifYes X0.here hx rfl (pc0 := 4) (pc' := 58) rfl (hb hby dEN_4) rfl ((if0 _ _).trans (teq (by decide : ((0 : Int32) = (0 : Int32)))).1) (by decide) (by decide) kq) ?_
  refine own_st (fun tq kq => XS.iconst X0.here hx rfl (hb hby dEN_58) kq) ?_
  show own_G p e below _ (s₁.setTop (mkF m 59 #[.val (.ref x), .val .null, .unset] [(.int (0 : Int32))]))
  obtain ⟨fs, hr, hrun, hended, hW, hsame⟩ := X0.leave (v := some (.int (0 : Int32))) (fun h => by rw [Bd.returns] at h; cases h)
  refine ⟨_, _, retN X0 hx (t := .boolean) Bd.returns (by simp) (hb hby dEN_59) hr, hrun, hended, _, _, rfl, ?_, ⟨_, rfl⟩, hW, hsame.mono (by decide) (by decide)⟩
  change (fun (v : Option Value) (h : Heap) (L : List Loc) => v = some (.int (0 : Int32)) ∧ Fr n0 L ∧ h = h0) (some (.int (0 : Int32))) s₁.heap _; rw [e0]; exact ⟨rfl, N0, rfl⟩

theorem ef_own_eqS (m : MethodId) (x0 : Nat) (x1 : Nat) : entryFrame m #[(.ref x0), (.ref x1)] 3 = mkF m 0 #[.val (.ref x0), .val (.ref x1), .unset] [] := by first | (simp [entryFrame, mkF, argsToLocals, Value.category]; done) | rfl
set_option maxRecDepth 65536 in
set_option maxHeartbeats 40000000 in
theorem own_eqS (l : Launch) (Z : State) (a0 : Array Value) (hw : ∀ d ∈ tables_1, d.before a0 Z = true) (ws : List Jvm.Cond) (x y : Nat) (h0 : Heap) (n0 : Nat) (Z0 : n0 ≤ h0.size) (X00 : Old Z n0 h0) (Ey : Exa Z h0 y "java/lang/String") :
    MetFree l (⟨"com/example/garm/garm/SecurityTarget$Choice", "equals", "(Ljava/lang/Object;)Z"⟩ : MethodName) (head1 (Jvm.Cond.code (⟨"com/example/garm/garm/SecurityTarget$Choice", "equals", "(Ljava/lang/Object;)Z"⟩ : MethodName) prog_39_method_2_code 3 (some .boolean) :: ws) ({ frames := 2, cells := 0, slots := 0, locals := 40 } : Room)) (fun av_ U => av_ = #[(.ref x), (.ref y)] ∧ Z.Warmed39 U.vm ∧ U.heap = h0) (fun _ _ _ _ _ => True) (own_EN (fun (v : Option Value) (h : Heap) (L : List Loc) => v = some (.int (0 : Int32)) ∧ Fr n0 L ∧ h = h0) ({ frames := 2, cells := 0, slots := 0, locals := 40 } : Room)) := by
  refine MetFree.of_bodySF (plainFor_of_name own_pn3) hisR ?_
  intro p e s m args below meth c s₁ Bd hml0 hP hK
  obtain ⟨rfl, hZ, hh⟩ := hP
  have hx := Bd.exec
  have hby := Bd.bytes
  have hml : c.maxLocals = 3 := hml0
  have hown : s.vm.findClass "com/example/garm/garm/SecurityTarget$Choice" = some m.cls := findClass_of_methodNamed Bd.named
  have hnm := (name_of_methodNamed Bd.named Bd.method).1
  have X0 : Stand p l e ({ frames := 2, cells := 0, slots := 0, locals := 40 } : Room) s m #[(.ref x), (.ref y)] below meth c s₁ [] 0 0 := Stand.of_body Bd
  have e0 : s₁.heap = h0 := by rw [← hh, Bd.state]; rfl
  have N0 := Fr.nil n0
  have K0 : Keep h0 h0 [] := Keep.refl h0 []
  refine show own_G p e below (own_EN (fun (v : Option Value) (h : Heap) (L : List Loc) => v = some (.int (0 : Int32)) ∧ Fr n0 L ∧ h = h0) ({ frames := 2, cells := 0, slots := 0, locals := 40 } : Room) #[(.ref x), (.ref y)] s) _ from ?_
  refine own_st (fun tq kq => castTop (ef_own_eqS m (x) (y)) kq) ?_
  show own_G p e below _ (s₁.setTop (mkF m 0 #[.val (.ref x), .val (.ref y), .unset] []))
  refine own_st (fun tq kq => XS.aloadN X0.here hx rfl (hb hby dES_0) rfl rfl kq) ?_
  show own_G p e below _ (s₁.setTop (mkF m 1 #[.val (.ref x), .val (.ref y), .unset] [(.ref y)]))
  obtain ⟨T1, X1, e1, st1⟩ := instNo X0 hx hZ hown (hw _ (List.mem_of_getElem? (i := 71) rfl)) e0 Ey (own_noSub (hw _ (List.mem_of_getElem? (i := 83) rfl)) (hw _ (List.mem_of_getElem? (i := 84) rfl)) (hw _ (List.mem_of_getElem? (i := 34) rfl)) (by decide) (by decide)) (g := (mkF m 1 #[.val (.ref x), .val (.ref y), .unset] [(.ref y)])) rfl rfl (hb hby dES_1)
  refine own_st st1 ?_
  show own_G p e below _ (T1.setTop (mkF m 4 #[.val (.ref x), .val (.ref y), .unset] [(.int (0 : Int32))]))
  refine own_st (fun tq kq => XS.ifYes X1.here hx rfl (pc0 := 4) (pc' := 58) rfl (hb hby dES_4) rfl ((if0 _ _).trans (teq (by decide : ((0 : Int32) = (0 : Int32)))).1) (by decide) (by decide) kq) ?_
  refine own_st (fun tq kq => XS.iconst X1.here hx rfl (hb hby dES_58) kq) ?_
  show own_G p e below _ (T1.setTop (mkF m 59 #[.val (.ref x), .val (.ref y), .unset] [(.int (0 : Int32))]))
  obtain ⟨fs, hr, hrun, hended, hW, hsame⟩ := X1.leave (v := some (.int (0 : Int32))) (fun h => by rw [Bd.returns] at h; cases h)
  refine ⟨_, _, retN X1 hx (t := .boolean) Bd.returns (by simp) (hb hby dES_59) hr, hrun, hended, _, _, rfl, ?_, ⟨_, rfl⟩, hW, hsame.mono (by decide) (by decide)⟩
  change (fun (v : Option Value) (h : Heap) (L : List Loc) => v = some (.int (0 : Int32)) ∧ Fr n0 L ∧ h = h0) (some (.int (0 : Int32))) T1.heap _; rw [e1]; exact ⟨rfl, N0, rfl⟩

theorem ef_rm0 (m : MethodId) (x0 : Int32) (x1 : Int32) (x2 : Int32) (x3 : Int32) (x4 : Int32) (x5 : Int32) : entryFrame m #[(.int x0), (.int x1), (.int x2), (.int x3), (.int x4), (.int x5)] maxLocals = mkF m 0 #[.val (.int x0), .val (.int x1), .val (.int x2), .val (.int x3), .val (.int x4), .val (.int x5), .unset, .unset, .unset, .unset, .unset, .unset, .unset, .unset, .unset, .unset, .unset, .unset] [] := by first | (simp [entryFrame, mkF, argsToLocals, Value.category, maxLocals]; done) | rfl
set_option maxRecDepth 65536 in
set_option maxHeartbeats 40000000 in
theorem rm0 (l : Launch) (Z : State) (a0 : Array Value) (hw : ∀ d ∈ tables_1, d.before a0 Z = true) (hEL : EW Z a0 consts_1) (ws : List Jvm.Cond) (p0 p1 p2 p3 p4 p5 G1 : Int32) (h0 : Heap) (n0 : Nat) (Z0 : n0 ≤ h0.size) (X00 : Old Z n0 h0) (O2 : Sta Z Z.heap "java/lang/String" "COMPACT_STRINGS" "Z" (.int G1)) (P5 : ¬ (G1 = (0 : Int32))) :
    MetFree l x (head1 (Jvm.Cond.code x code maxLocals ret :: ws) room_1) (own_P Z consts_1 #[(.int p0), (.int p1), (.int p2), (.int p3), (.int p4), (.int p5)] h0 []) (fun _ _ _ _ _ => True) (own_E Z consts_1 (fun (v : Option Value) (_ : Vm) (h : Heap) (L : List Loc) => v = some (.int (1 : Int32)) ∧ Fr n0 L) room_1) := by
  refine MetFree.of_bodySF (plainFor_of_name own_pn2) hisR ?_
  intro p e s m args below meth c s₁ Bd hml0 hP hK
  obtain ⟨rfl, hZ, hh, hCH, hSafe⟩ := hP
  have hx := Bd.exec
  have hby := Bd.bytes
  have hml : c.maxLocals = 18 := hml0
  have hown : s.vm.findClass "com/example/garm/garm/ChoiceEqualsPinLaw" = some m.cls := findClass_of_methodNamed Bd.named
  have hnm := (name_of_methodNamed Bd.named Bd.method).1
  have X0 : Stand p l e room_1 (s.setVm s.vm) m #[(.int p0), (.int p1), (.int p2), (.int p3), (.int p4), (.int p5)] below meth c s₁ [] 0 0 := Stand.of_body Bd
  have e0 : s₁.heap = h0 := by rw [← hh, Bd.state]; rfl
  have N0 := Fr.nil n0
  have K0 : Keep h0 h0 [] := Keep.refl h0 []
  have S0 : s.Since s.vm 0 := own_since s
  have C0 : CHr Z consts_1 s.vm h0 s.vm h0 := CHr.refl hCH
  refine show own_G p e below (own_E Z consts_1 (fun (v : Option Value) (_ : Vm) (h : Heap) (L : List Loc) => v = some (.int (1 : Int32)) ∧ Fr n0 L) room_1 #[(.int p0), (.int p1), (.int p2), (.int p3), (.int p4), (.int p5)] s) _ from ?_
  have tail : ∀ (T : State) (r0 r1 r2 : Int32), Stand p l e room_1 (s.setVm s.vm) m #[(.int p0), (.int p1), (.int p2), (.int p3), (.int p4), (.int p5)] below meth c T [] 0 0 → T.heap = h0 → own_G p e below (own_E Z consts_1 (fun (v : Option Value) (_ : Vm) (h : Heap) (L : List Loc) => v = some (.int (1 : Int32)) ∧ Fr n0 L) room_1 #[(.int p0), (.int p1), (.int p2), (.int p3), (.int p4), (.int p5)] s) (T.setTop (mkF m 49 #[.val (.int p0), .val (.int p1), .val (.int p2), .val (.int p3), .val (.int p4), .val (.int p5), .val (.int r0), .val (.int r1), .val (.int r2), .unset, .unset, .unset, .unset, .unset, .unset, .unset, .unset, .unset] [])) := by
    intro T r0 r1 r2 X0 e0 
    refine own_st (fun tq kq => XS.iloadN X0.here hx rfl (hb hby at_49) rfl  kq) ?_
    show own_G p e below _ (T.setTop (mkF m 50 #[.val (.int p0), .val (.int p1), .val (.int p2), .val (.int p3), .val (.int p4), .val (.int p5), .val (.int r0), .val (.int r1), .val (.int r2), .unset, .unset, .unset, .unset, .unset, .unset, .unset, .unset, .unset] [(.int p0)]))
    obtain ⟨_, _, ⟨T1, L1, k1, n1⟩, -, Y1, S1p, gr1, ⟨Lc1, hQ1, l1, y1, z1, c1⟩, st1⟩ := callSS X0 hx (y := (⟨"com/example/garm/garm/ChoiceEqualsPinLaw", "str", "(I)Ljava/lang/String;"⟩ : MethodName)) hown (mvT hZ (hw _ (List.mem_of_getElem? (i := 0) rfl))) (mvT hZ (hw _ (List.mem_of_getElem? (i := 1) rfl))) (mvT hZ (hw _ (List.mem_of_getElem? (i := 2) rfl))) (mvT hZ (hw _ (List.mem_of_getElem? (i := 3) rfl))) (by decide) (own_back (s := s) (vm0 := s.vm) (W := 0) (own_strC l Z a0 hw hEL [] (p0) (G1) h0 n0 (by omega) (X00.keep K0 all0) O2 P5) hZ (hw _ (List.mem_of_getElem? (i := 3) rfl)) (hw _ (List.mem_of_getElem? (i := 2) rfl)) (by decide) (by decide) hEL C0.1 all0) (g := (mkF m 50 #[.val (.int p0), .val (.int p1), .val (.int p2), .val (.int p3), .val (.int p4), .val (.int p5), .val (.int r0), .val (.int r1), .val (.int r2), .unset, .unset, .unset, .unset, .unset, .unset, .unset, .unset, .unset] [(.int p0)])) rfl (by rw [hml]; rfl) (argsL := [(.int p0)]) (rest := []) (lenOf own_pd6 rfl) rfl (by show 2 * 0 + _ ≤ _; exact Nat.le_of_eq rfl) (hb hby at_50) (fun _ _ => ⟨rfl, e0, (by decide : 0 + 4 ≤ _), (by decide : 0 + 16 ≤ _)⟩)
    dsimp only [Pt.U, Pt.locs, Pt.cells, Pt.slots] at Y1 S1p gr1 l1 y1 z1 st1 hQ1 c1
    subst l1 y1 z1
    obtain ⟨X1, S1, Z1, o1⟩ := rebS S0 (by rw [e0]; exact (own_le (by omega))) Y1 S1p gr1 hZ hown
    obtain ⟨a1, rfl, Nq1, Kq1, ga1, Str1⟩ := hQ1
    have KK1 : Keep h0 T1.heap [] := Kq1
    have sz1 : h0.size ≤ T1.heap.size := KK1.1
    have K1 : Keep h0 T1.heap [] := K0.trans KK1 all0
    have C1 := C0.trans c1
    have N1 := Fr.app N0 Nq1
    refine own_st (fun tq kq => st1.trans kq) ?_
    show own_G p e below _ (T1.setTop (mkF m 53 #[.val (.int p0), .val (.int p1), .val (.int p2), .val (.int p3), .val (.int p4), .val (.int p5), .val (.int r0), .val (.int r1), .val (.int r2), .unset, .unset, .unset, .unset, .unset, .unset, .unset, .unset, .unset] [(.ref a1)]))
    refine own_st (fun tq kq => XS.astore X1.here hx rfl (hb hby at_53) rfl rfl (l' := #[.val (.int p0), .val (.int p1), .val (.int p2), .val (.int p3), .val (.int p4), .val (.int p5), .val (.int r0), .val (.int r1), .val (.int r2), .val (.ref a1), .unset, .unset, .unset, .unset, .unset, .unset, .unset, .unset]) rfl kq) ?_
    show own_G p e below _ (T1.setTop (mkF m 55 #[.val (.int p0), .val (.int p1), .val (.int p2), .val (.int p3), .val (.int p4), .val (.int p5), .val (.int r0), .val (.int r1), .val (.int r2), .val (.ref a1), .unset, .unset, .unset, .unset, .unset, .unset, .unset, .unset] []))
    obtain ⟨T2, h2, X2, e2, E2, A2, D2, -, st2⟩ := newO X1 hx Z1 o1 (hw _ (List.mem_of_getElem? (i := 33) rfl)) (hw _ (List.mem_of_getElem? (i := 34) rfl)) (hw _ (List.mem_of_getElem? (i := 35) rfl)) rfl (g := (mkF m 55 #[.val (.int p0), .val (.int p1), .val (.int p2), .val (.int p3), .val (.int p4), .val (.int p5), .val (.int r0), .val (.int r1), .val (.int r2), .val (.ref a1), .unset, .unset, .unset, .unset, .unset, .unset, .unset, .unset] [])) rfl (hb hby at_55) (by decide) (by decide)
    obtain ⟨b2, g2⟩ : ∃ z, z = T1.heap.size := ⟨_, rfl⟩
    rw [← g2] at A2 D2 st2
    have lt2 : b2 < h2.size := A2.lt
    have sz2 : T1.heap.size ≤ h2.size := E2.1
    have K2 : Keep h0 h2 [] := K1.ext E2
    have c2 : CHr Z consts_1 T1.vm T1.heap T1.vm h2 := CHr.ext E2 C1.1
    have C2 := C1.trans c2
    have F2_element : Fld Z h2 b2 "com/example/garm/garm/SecurityTarget$Choice" "element" "Ljava/lang/String;" .null := D2 (Or.inr (hw _ (List.mem_of_getElem? (i := 58) rfl))) (ty := (.object "java/lang/String")) (by decide)
    have F2_selection : Fld Z h2 b2 "com/example/garm/garm/SecurityTarget$Choice" "selection" "Ljava/lang/String;" .null := D2 (Or.inr (hw _ (List.mem_of_getElem? (i := 60) rfl))) (ty := (.object "java/lang/String")) (by decide)
    have F2_item : Fld Z h2 b2 "com/example/garm/garm/SecurityTarget$Choice" "item" "Ljava/lang/String;" .null := D2 (Or.inr (hw _ (List.mem_of_getElem? (i := 62) rfl))) (ty := (.object "java/lang/String")) (by decide)
    refine own_st st2 ?_
    show own_G p e below _ (T2.setTop (mkF m 58 #[.val (.int p0), .val (.int p1), .val (.int p2), .val (.int p3), .val (.int p4), .val (.int p5), .val (.int r0), .val (.int r1), .val (.int r2), .val (.ref a1), .unset, .unset, .unset, .unset, .unset, .unset, .unset, .unset] [(.ref b2)]))
    refine own_st (fun tq kq => XS.dup X2.here hx rfl (hb hby at_58) rfl rfl kq) ?_
    refine own_st (fun tq kq => XS.iloadN X2.here hx rfl (hb hby at_59) rfl  kq) ?_
    show own_G p e below _ (T2.setTop (mkF m 60 #[.val (.int p0), .val (.int p1), .val (.int p2), .val (.int p3), .val (.int p4), .val (.int p5), .val (.int r0), .val (.int r1), .val (.int r2), .val (.ref a1), .unset, .unset, .unset, .unset, .unset, .unset, .unset, .unset] [(.int p0), (.ref b2), (.ref b2)]))
    obtain ⟨_, _, ⟨T3, L3, k3, n3⟩, -, Y3, S3p, gr3, ⟨Lc3, hQ3, l3, y3, z3, c3⟩, st3⟩ := callSS X2 hx (y := (⟨"com/example/garm/garm/ChoiceEqualsPinLaw", "str", "(I)Ljava/lang/String;"⟩ : MethodName)) o1 (mvT Z1 (hw _ (List.mem_of_getElem? (i := 0) rfl))) (mvT Z1 (hw _ (List.mem_of_getElem? (i := 1) rfl))) (mvT Z1 (hw _ (List.mem_of_getElem? (i := 2) rfl))) (mvT Z1 (hw _ (List.mem_of_getElem? (i := 3) rfl))) (by decide) (own_back (s := s) (vm0 := T1.vm) (W := 2) (own_strC l Z a0 hw hEL [] (p0) (G1) h2 n0 (by omega) (X00.keep K2 all0) O2 P5) Z1 (hw _ (List.mem_of_getElem? (i := 3) rfl)) (hw _ (List.mem_of_getElem? (i := 2) rfl)) (by decide) (by decide) hEL C2.1 all0) (g := (mkF m 60 #[.val (.int p0), .val (.int p1), .val (.int p2), .val (.int p3), .val (.int p4), .val (.int p5), .val (.int r0), .val (.int r1), .val (.int r2), .val (.ref a1), .unset, .unset, .unset, .unset, .unset, .unset, .unset, .unset] [(.int p0), (.ref b2), (.ref b2)])) rfl (by rw [hml]; rfl) (argsL := [(.int p0)]) (rest := [(.ref b2), (.ref b2)]) (lenOf own_pd6 rfl) rfl (by show 2 * 0 + _ ≤ _; exact Nat.le_of_eq rfl) (hb hby at_60) (fun _ _ => ⟨rfl, e2, (by decide : 5 + 4 ≤ _), (by decide : 19 + 16 ≤ _)⟩)
    dsimp only [Pt.U, Pt.locs, Pt.cells, Pt.slots] at Y3 S3p gr3 l3 y3 z3 st3 hQ3 c3
    subst l3 y3 z3
    obtain ⟨X3, S3, Z3, o3⟩ := rebS S1 (by rw [e2]; exact (own_le (by omega))) Y3 S3p gr3 Z1 o1
    obtain ⟨a3, rfl, Nq3, Kq3, ga3, Str3⟩ := hQ3
    have KK3 : Keep h2 T3.heap [] := Kq3
    have sz3 : h2.size ≤ T3.heap.size := KK3.1
    have K3 : Keep h0 T3.heap [] := K2.trans KK3 all0
    have C3 := C2.trans c3
    have N3 := Fr.app N1 Nq3
    refine own_st (fun tq kq => st3.trans kq) ?_
    show own_G p e below _ (T3.setTop (mkF m 63 #[.val (.int p0), .val (.int p1), .val (.int p2), .val (.int p3), .val (.int p4), .val (.int p5), .val (.int r0), .val (.int r1), .val (.int r2), .val (.ref a1), .unset, .unset, .unset, .unset, .unset, .unset, .unset, .unset] [(.ref a3), (.ref b2), (.ref b2)]))
    refine own_st (fun tq kq => XS.iloadN X3.here hx rfl (hb hby at_63) rfl  kq) ?_
    show own_G p e below _ (T3.setTop (mkF m 64 #[.val (.int p0), .val (.int p1), .val (.int p2), .val (.int p3), .val (.int p4), .val (.int p5), .val (.int r0), .val (.int r1), .val (.int r2), .val (.ref a1), .unset, .unset, .unset, .unset, .unset, .unset, .unset, .unset] [(.int p1), (.ref a3), (.ref b2), (.ref b2)]))
    obtain ⟨_, _, ⟨T4, L4, k4, n4⟩, -, Y4, S4p, gr4, ⟨Lc4, hQ4, l4, y4, z4, c4⟩, st4⟩ := callSS X3 hx (y := (⟨"com/example/garm/garm/ChoiceEqualsPinLaw", "str", "(I)Ljava/lang/String;"⟩ : MethodName)) o3 (mvT Z3 (hw _ (List.mem_of_getElem? (i := 0) rfl))) (mvT Z3 (hw _ (List.mem_of_getElem? (i := 1) rfl))) (mvT Z3 (hw _ (List.mem_of_getElem? (i := 2) rfl))) (mvT Z3 (hw _ (List.mem_of_getElem? (i := 3) rfl))) (by decide) (own_back (s := s) (vm0 := T3.vm) (W := 3) (own_strC l Z a0 hw hEL [] (p1) (G1) T3.heap n0 (by omega) (X00.keep K3 all0) O2 P5) Z3 (hw _ (List.mem_of_getElem? (i := 3) rfl)) (hw _ (List.mem_of_getElem? (i := 2) rfl)) (by decide) (by decide) hEL C3.1 all0) (g := (mkF m 64 #[.val (.int p0), .val (.int p1), .val (.int p2), .val (.int p3), .val (.int p4), .val (.int p5), .val (.int r0), .val (.int r1), .val (.int r2), .val (.ref a1), .unset, .unset, .unset, .unset, .unset, .unset, .unset, .unset] [(.int p1), (.ref a3), (.ref b2), (.ref b2)])) rfl (by rw [hml]; rfl) (argsL := [(.int p1)]) (rest := [(.ref a3), (.ref b2), (.ref b2)]) (lenOf own_pd6 rfl) rfl (by show 2 * 0 + _ ≤ _; exact Nat.le_of_eq rfl) (hb hby at_64) (fun _ _ => ⟨rfl, rfl, (by decide : 9 + 4 ≤ _), (by decide : 35 + 16 ≤ _)⟩)
    dsimp only [Pt.U, Pt.locs, Pt.cells, Pt.slots] at Y4 S4p gr4 l4 y4 z4 st4 hQ4 c4
    subst l4 y4 z4
    obtain ⟨X4, S4, Z4, o4⟩ := rebS S3 (own_le (by omega)) Y4 S4p gr4 Z3 o3
    obtain ⟨a4, rfl, Nq4, Kq4, ga4, Str4⟩ := hQ4
    have KK4 : Keep T3.heap T4.heap [] := Kq4
    have sz4 : T3.heap.size ≤ T4.heap.size := KK4.1
    have K4 : Keep h0 T4.heap [] := K3.trans KK4 all0
    have C4 := C3.trans c4
    have N4 := Fr.app N3 Nq4
    refine own_st (fun tq kq => st4.trans kq) ?_
    show own_G p e below _ (T4.setTop (mkF m 67 #[.val (.int p0), .val (.int p1), .val (.int p2), .val (.int p3), .val (.int p4), .val (.int p5), .val (.int r0), .val (.int r1), .val (.int r2), .val (.ref a1), .unset, .unset, .unset, .unset, .unset, .unset, .unset, .unset] [(.ref a4), (.ref a3), (.ref b2), (.ref b2)]))
    refine own_st (fun tq kq => XS.iloadN X4.here hx rfl (hb hby at_67) rfl  kq) ?_
    show own_G p e below _ (T4.setTop (mkF m 68 #[.val (.int p0), .val (.int p1), .val (.int p2), .val (.int p3), .val (.int p4), .val (.int p5), .val (.int r0), .val (.int r1), .val (.int r2), .val (.ref a1), .unset, .unset, .unset, .unset, .unset, .unset, .unset, .unset] [(.int p2), (.ref a4), (.ref a3), (.ref b2), (.ref b2)]))
    obtain ⟨_, _, ⟨T5, L5, k5, n5⟩, -, Y5, S5p, gr5, ⟨Lc5, hQ5, l5, y5, z5, c5⟩, st5⟩ := callSS X4 hx (y := (⟨"com/example/garm/garm/ChoiceEqualsPinLaw", "str", "(I)Ljava/lang/String;"⟩ : MethodName)) o4 (mvT Z4 (hw _ (List.mem_of_getElem? (i := 0) rfl))) (mvT Z4 (hw _ (List.mem_of_getElem? (i := 1) rfl))) (mvT Z4 (hw _ (List.mem_of_getElem? (i := 2) rfl))) (mvT Z4 (hw _ (List.mem_of_getElem? (i := 3) rfl))) (by decide) (own_back (s := s) (vm0 := T4.vm) (W := 4) (own_strC l Z a0 hw hEL [] (p2) (G1) T4.heap n0 (by omega) (X00.keep K4 all0) O2 P5) Z4 (hw _ (List.mem_of_getElem? (i := 3) rfl)) (hw _ (List.mem_of_getElem? (i := 2) rfl)) (by decide) (by decide) hEL C4.1 all0) (g := (mkF m 68 #[.val (.int p0), .val (.int p1), .val (.int p2), .val (.int p3), .val (.int p4), .val (.int p5), .val (.int r0), .val (.int r1), .val (.int r2), .val (.ref a1), .unset, .unset, .unset, .unset, .unset, .unset, .unset, .unset] [(.int p2), (.ref a4), (.ref a3), (.ref b2), (.ref b2)])) rfl (by rw [hml]; rfl) (argsL := [(.int p2)]) (rest := [(.ref a4), (.ref a3), (.ref b2), (.ref b2)]) (lenOf own_pd6 rfl) rfl (by show 2 * 0 + _ ≤ _; exact Nat.le_of_eq rfl) (hb hby at_68) (fun _ _ => ⟨rfl, rfl, (by decide : 13 + 4 ≤ _), (by decide : 51 + 16 ≤ _)⟩)
    dsimp only [Pt.U, Pt.locs, Pt.cells, Pt.slots] at Y5 S5p gr5 l5 y5 z5 st5 hQ5 c5
    subst l5 y5 z5
    obtain ⟨X5, S5, Z5, o5⟩ := rebS S4 (own_le (by omega)) Y5 S5p gr5 Z4 o4
    obtain ⟨a5, rfl, Nq5, Kq5, ga5, Str5⟩ := hQ5
    have KK5 : Keep T4.heap T5.heap [] := Kq5
    have sz5 : T4.heap.size ≤ T5.heap.size := KK5.1
    have K5 : Keep h0 T5.heap [] := K4.trans KK5 all0
    have C5 := C4.trans c5
    have N5 := Fr.app N4 Nq5
    refine own_st (fun tq kq => st5.trans kq) ?_
    show own_G p e below _ (T5.setTop (mkF m 71 #[.val (.int p0), .val (.int p1), .val (.int p2), .val (.int p3), .val (.int p4), .val (.int p5), .val (.int r0), .val (.int r1), .val (.int r2), .val (.ref a1), .unset, .unset, .unset, .unset, .unset, .unset, .unset, .unset] [(.ref a5), (.ref a4), (.ref a3), (.ref b2), (.ref b2)]))
    obtain ⟨_, _, ⟨T6, L6, k6, n6⟩, -, X6, ⟨Lc6, hQ6, l6, y6, z6⟩, st6⟩ := X5.specialBack hx (y := (⟨"com/example/garm/garm/SecurityTarget$Choice", "<init>", "(Ljava/lang/String;Ljava/lang/String;Ljava/lang/String;)V"⟩ : MethodName)) rfl o5 (mvT Z5 (hw _ (List.mem_of_getElem? (i := 53) rfl))) (mvT Z5 (hw _ (List.mem_of_getElem? (i := 54) rfl))) (mvT Z5 (hw _ (List.mem_of_getElem? (i := 55) rfl))) (by decide) (own_backN (W := 1) (own_ctor l Z a0 hw [] (b2) (a3) (a4) (a5) (.null) (.null) (.null) T5.heap n0 (by omega) (X00.keep K5 all0) (((A2.keep KK3).keep KK4).keep KK5) (((F2_element.keep KK3 nin0).keep KK4 nin0).keep KK5 nin0) (((F2_selection.keep KK3 nin0).keep KK4 nin0).keep KK5 nin0) (((F2_item.keep KK3 nin0).keep KK4 nin0).keep KK5 nin0) (by omega) (by omega)) Z5 (hw _ (List.mem_of_getElem? (i := 55) rfl)) (hw _ (List.mem_of_getElem? (i := 35) rfl)) (by decide) (by decide)) (g := (mkF m 71 #[.val (.int p0), .val (.int p1), .val (.int p2), .val (.int p3), .val (.int p4), .val (.int p5), .val (.int r0), .val (.int r1), .val (.int r2), .val (.ref a1), .unset, .unset, .unset, .unset, .unset, .unset, .unset, .unset] [(.ref a5), (.ref a4), (.ref a3), (.ref b2), (.ref b2)])) rfl (by rw [hml]; rfl) (Steps.refl _) (a := b2) (argsL := [(.ref a3), (.ref a4), (.ref a5)]) (rest := [(.ref b2)]) (lenOf own_pd7 rfl) rfl (by show 2 * 0 + _ ≤ _; exact Nat.le_of_eq rfl) (hb hby at_71) (fun _ _ => ⟨rfl, rfl, (by decide : 17 + 0 ≤ _), (by decide : 67 + 0 ≤ _)⟩)
    dsimp only [Pt.U, Pt.locs, Pt.cells, Pt.slots] at X6 l6 y6 z6 st6 hQ6
    subst l6 y6 z6
    obtain ⟨rfl, Nq6, Kq6, Ff0_6, Ff1_6, Ff2_6⟩ := hQ6
    have KK6 : Keep T5.heap T6.heap [b2] := Kq6
    have sz6 : T5.heap.size ≤ T6.heap.size := KK6.1
    have K6 : Keep h0 T6.heap [] := K5.trans KK6 (allS (Or.inr (own_le (by omega))) all0)
    have c6 : CHr Z consts_1 T5.vm T5.heap T5.vm T6.heap := CHr.keep KK6 (allS (Safe.exa Z5.alike (((A2.keep KK3).keep KK4).keep KK5) (by decide) (by decide)) all0) C5.1
    have C6 := C5.trans c6
    have N6 := Fr.app N5 Nq6
    refine own_st (fun tq kq => st6.trans kq) ?_
    show own_G p e below _ (T6.setTop (mkF m 74 #[.val (.int p0), .val (.int p1), .val (.int p2), .val (.int p3), .val (.int p4), .val (.int p5), .val (.int r0), .val (.int r1), .val (.int r2), .val (.ref a1), .unset, .unset, .unset, .unset, .unset, .unset, .unset, .unset] [(.ref b2)]))
    refine own_st (fun tq kq => XS.astore X6.here hx rfl (hb hby at_74) rfl rfl (l' := #[.val (.int p0), .val (.int p1), .val (.int p2), .val (.int p3), .val (.int p4), .val (.int p5), .val (.int r0), .val (.int r1), .val (.int r2), .val (.ref a1), .val (.ref b2), .unset, .unset, .unset, .unset, .unset, .unset, .unset]) rfl kq) ?_
    show own_G p e below _ (T6.setTop (mkF m 76 #[.val (.int p0), .val (.int p1), .val (.int p2), .val (.int p3), .val (.int p4), .val (.int p5), .val (.int r0), .val (.int r1), .val (.int r2), .val (.ref a1), .val (.ref b2), .unset, .unset, .unset, .unset, .unset, .unset, .unset] []))
    obtain ⟨T7, h7, X7, e7, E7, A7, D7, -, st7⟩ := newO X6 hx Z5 o5 (hw _ (List.mem_of_getElem? (i := 33) rfl)) (hw _ (List.mem_of_getElem? (i := 34) rfl)) (hw _ (List.mem_of_getElem? (i := 35) rfl)) rfl (g := (mkF m 76 #[.val (.int p0), .val (.int p1), .val (.int p2), .val (.int p3), .val (.int p4), .val (.int p5), .val (.int r0), .val (.int r1), .val (.int r2), .val (.ref a1), .val (.ref b2), .unset, .unset, .unset, .unset, .unset, .unset, .unset] [])) rfl (hb hby at_76) (by decide) (by decide)
    obtain ⟨b7, g7⟩ : ∃ z, z = T6.heap.size := ⟨_, rfl⟩
    rw [← g7] at A7 D7 st7
    have lt7 : b7 < h7.size := A7.lt
    have sz7 : T6.heap.size ≤ h7.size := E7.1
    have K7 : Keep h0 h7 [] := K6.ext E7
    have c7 : CHr Z consts_1 T5.vm T6.heap T5.vm h7 := CHr.ext E7 C6.1
    have C7 := C6.trans c7
    have F7_element : Fld Z h7 b7 "com/example/garm/garm/SecurityTarget$Choice" "element" "Ljava/lang/String;" .null := D7 (Or.inr (hw _ (List.mem_of_getElem? (i := 58) rfl))) (ty := (.object "java/lang/String")) (by decide)
    have F7_selection : Fld Z h7 b7 "com/example/garm/garm/SecurityTarget$Choice" "selection" "Ljava/lang/String;" .null := D7 (Or.inr (hw _ (List.mem_of_getElem? (i := 60) rfl))) (ty := (.object "java/lang/String")) (by decide)
    have F7_item : Fld Z h7 b7 "com/example/garm/garm/SecurityTarget$Choice" "item" "Ljava/lang/String;" .null := D7 (Or.inr (hw _ (List.mem_of_getElem? (i := 62) rfl))) (ty := (.object "java/lang/String")) (by decide)
    refine own_st st7 ?_
    show own_G p e below _ (T7.setTop (mkF m 79 #[.val (.int p0), .val (.int p1), .val (.int p2), .val (.int p3), .val (.int p4), .val (.int p5), .val (.int r0), .val (.int r1), .val (.int r2), .val (.ref a1), .val (.ref b2), .unset, .unset, .unset, .unset, .unset, .unset, .unset] [(.ref b7)]))
    refine own_st (fun tq kq => XS.dup X7.here hx rfl (hb hby at_79) rfl rfl kq) ?_
    refine own_st (fun tq kq => XS.iload X7.here hx rfl (hb hby at_80) rfl  kq) ?_
    show own_G p e below _ (T7.setTop (mkF m 82 #[.val (.int p0), .val (.int p1), .val (.int p2), .val (.int p3), .val (.int p4), .val (.int p5), .val (.int r0), .val (.int r1), .val (.int r2), .val (.ref a1), .val (.ref b2), .unset, .unset, .unset, .unset, .unset, .unset, .unset] [(.int r0), (.ref b7), (.ref b7)]))
    obtain ⟨_, _, ⟨T8, L8, k8, n8⟩, -, Y8, S8p, gr8, ⟨Lc8, hQ8, l8, y8, z8, c8⟩, st8⟩ := callSS X7 hx (y := (⟨"com/example/garm/garm/ChoiceEqualsPinLaw", "str", "(I)Ljava/lang/String;"⟩ : MethodName)) o5 (mvT Z5 (hw _ (List.mem_of_getElem? (i := 0) rfl))) (mvT Z5 (hw _ (List.mem_of_getElem? (i := 1) rfl))) (mvT Z5 (hw _ (List.mem_of_getElem? (i := 2) rfl))) (mvT Z5 (hw _ (List.mem_of_getElem? (i := 3) rfl))) (by decide) (own_back (s := s) (vm0 := T5.vm) (W := 2) (own_strC l Z a0 hw hEL [] (r0) (G1) h7 n0 (by omega) (X00.keep K7 all0) O2 P5) Z5 (hw _ (List.mem_of_getElem? (i := 3) rfl)) (hw _ (List.mem_of_getElem? (i := 2) rfl)) (by decide) (by decide) hEL C7.1 all0) (g := (mkF m 82 #[.val (.int p0), .val (.int p1), .val (.int p2), .val (.int p3), .val (.int p4), .val (.int p5), .val (.int r0), .val (.int r1), .val (.int r2), .val (.ref a1), .val (.ref b2), .unset, .unset, .unset, .unset, .unset, .unset, .unset] [(.int r0), (.ref b7), (.ref b7)])) rfl (by rw [hml]; rfl) (argsL := [(.int r0)]) (rest := [(.ref b7), (.ref b7)]) (lenOf own_pd6 rfl) rfl (by show 2 * 0 + _ ≤ _; exact Nat.le_of_eq rfl) (hb hby at_82) (fun _ _ => ⟨rfl, e7, (by decide : 18 + 4 ≤ _), (by decide : 70 + 16 ≤ _)⟩)
    dsimp only [Pt.U, Pt.locs, Pt.cells, Pt.slots] at Y8 S8p gr8 l8 y8 z8 st8 hQ8 c8
    subst l8 y8 z8
    obtain ⟨X8, S8, Z8, o8⟩ := rebS S5 (by rw [e7]; exact (own_le (by omega))) Y8 S8p gr8 Z5 o5
    obtain ⟨a8, rfl, Nq8, Kq8, ga8, Str8⟩ := hQ8
    have KK8 : Keep h7 T8.heap [] := Kq8
    have sz8 : h7.size ≤ T8.heap.size := KK8.1
    have K8 : Keep h0 T8.heap [] := K7.trans KK8 all0
    have C8 := C7.trans c8
    have N8 := Fr.app N6 Nq8
    refine own_st (fun tq kq => st8.trans kq) ?_
    show own_G p e below _ (T8.setTop (mkF m 85 #[.val (.int p0), .val (.int p1), .val (.int p2), .val (.int p3), .val (.int p4), .val (.int p5), .val (.int r0), .val (.int r1), .val (.int r2), .val (.ref a1), .val (.ref b2), .unset, .unset, .unset, .unset, .unset, .unset, .unset] [(.ref a8), (.ref b7), (.ref b7)]))
    refine own_st (fun tq kq => XS.iload X8.here hx rfl (hb hby at_85) rfl  kq) ?_
    show own_G p e below _ (T8.setTop (mkF m 87 #[.val (.int p0), .val (.int p1), .val (.int p2), .val (.int p3), .val (.int p4), .val (.int p5), .val (.int r0), .val (.int r1), .val (.int r2), .val (.ref a1), .val (.ref b2), .unset, .unset, .unset, .unset, .unset, .unset, .unset] [(.int r1), (.ref a8), (.ref b7), (.ref b7)]))
    obtain ⟨_, _, ⟨T9, L9, k9, n9⟩, -, Y9, S9p, gr9, ⟨Lc9, hQ9, l9, y9, z9, c9⟩, st9⟩ := callSS X8 hx (y := (⟨"com/example/garm/garm/ChoiceEqualsPinLaw", "str", "(I)Ljava/lang/String;"⟩ : MethodName)) o8 (mvT Z8 (hw _ (List.mem_of_getElem? (i := 0) rfl))) (mvT Z8 (hw _ (List.mem_of_getElem? (i := 1) rfl))) (mvT Z8 (hw _ (List.mem_of_getElem? (i := 2) rfl))) (mvT Z8 (hw _ (List.mem_of_getElem? (i := 3) rfl))) (by decide) (own_back (s := s) (vm0 := T8.vm) (W := 3) (own_strC l Z a0 hw hEL [] (r1) (G1) T8.heap n0 (by omega) (X00.keep K8 all0) O2 P5) Z8 (hw _ (List.mem_of_getElem? (i := 3) rfl)) (hw _ (List.mem_of_getElem? (i := 2) rfl)) (by decide) (by decide) hEL C8.1 all0) (g := (mkF m 87 #[.val (.int p0), .val (.int p1), .val (.int p2), .val (.int p3), .val (.int p4), .val (.int p5), .val (.int r0), .val (.int r1), .val (.int r2), .val (.ref a1), .val (.ref b2), .unset, .unset, .unset, .unset, .unset, .unset, .unset] [(.int r1), (.ref a8), (.ref b7), (.ref b7)])) rfl (by rw [hml]; rfl) (argsL := [(.int r1)]) (rest := [(.ref a8), (.ref b7), (.ref b7)]) (lenOf own_pd6 rfl) rfl (by show 2 * 0 + _ ≤ _; exact Nat.le_of_eq rfl) (hb hby at_87) (fun _ _ => ⟨rfl, rfl, (by decide : 22 + 4 ≤ _), (by decide : 86 + 16 ≤ _)⟩)
    dsimp only [Pt.U, Pt.locs, Pt.cells, Pt.slots] at Y9 S9p gr9 l9 y9 z9 st9 hQ9 c9
    subst l9 y9 z9
    obtain ⟨X9, S9, Z9, o9⟩ := rebS S8 (own_le (by omega)) Y9 S9p gr9 Z8 o8
    obtain ⟨a9, rfl, Nq9, Kq9, ga9, Str9⟩ := hQ9
    have KK9 : Keep T8.heap T9.heap [] := Kq9
    have sz9 : T8.heap.size ≤ T9.heap.size := KK9.1
    have K9 : Keep h0 T9.heap [] := K8.trans KK9 all0
    have C9 := C8.trans c9
    have N9 := Fr.app N8 Nq9
    refine own_st (fun tq kq => st9.trans kq) ?_
    show own_G p e below _ (T9.setTop (mkF m 90 #[.val (.int p0), .val (.int p1), .val (.int p2), .val (.int p3), .val (.int p4), .val (.int p5), .val (.int r0), .val (.int r1), .val (.int r2), .val (.ref a1), .val (.ref b2), .unset, .unset, .unset, .unset, .unset, .unset, .unset] [(.ref a9), (.ref a8), (.ref b7), (.ref b7)]))
    refine own_st (fun tq kq => XS.iload X9.here hx rfl (hb hby at_90) rfl  kq) ?_
    show own_G p e below _ (T9.setTop (mkF m 92 #[.val (.int p0), .val (.int p1), .val (.int p2), .val (.int p3), .val (.int p4), .val (.int p5), .val (.int r0), .val (.int r1), .val (.int r2), .val (.ref a1), .val (.ref b2), .unset, .unset, .unset, .unset, .unset, .unset, .unset] [(.int r2), (.ref a9), (.ref a8), (.ref b7), (.ref b7)]))
    obtain ⟨_, _, ⟨T10, L10, k10, n10⟩, -, Y10, S10p, gr10, ⟨Lc10, hQ10, l10, y10, z10, c10⟩, st10⟩ := callSS X9 hx (y := (⟨"com/example/garm/garm/ChoiceEqualsPinLaw", "str", "(I)Ljava/lang/String;"⟩ : MethodName)) o9 (mvT Z9 (hw _ (List.mem_of_getElem? (i := 0) rfl))) (mvT Z9 (hw _ (List.mem_of_getElem? (i := 1) rfl))) (mvT Z9 (hw _ (List.mem_of_getElem? (i := 2) rfl))) (mvT Z9 (hw _ (List.mem_of_getElem? (i := 3) rfl))) (by decide) (own_back (s := s) (vm0 := T9.vm) (W := 4) (own_strC l Z a0 hw hEL [] (r2) (G1) T9.heap n0 (by omega) (X00.keep K9 all0) O2 P5) Z9 (hw _ (List.mem_of_getElem? (i := 3) rfl)) (hw _ (List.mem_of_getElem? (i := 2) rfl)) (by decide) (by decide) hEL C9.1 all0) (g := (mkF m 92 #[.val (.int p0), .val (.int p1), .val (.int p2), .val (.int p3), .val (.int p4), .val (.int p5), .val (.int r0), .val (.int r1), .val (.int r2), .val (.ref a1), .val (.ref b2), .unset, .unset, .unset, .unset, .unset, .unset, .unset] [(.int r2), (.ref a9), (.ref a8), (.ref b7), (.ref b7)])) rfl (by rw [hml]; rfl) (argsL := [(.int r2)]) (rest := [(.ref a9), (.ref a8), (.ref b7), (.ref b7)]) (lenOf own_pd6 rfl) rfl (by show 2 * 0 + _ ≤ _; exact Nat.le_of_eq rfl) (hb hby at_92) (fun _ _ => ⟨rfl, rfl, (by decide : 26 + 4 ≤ _), (by decide : 102 + 16 ≤ _)⟩)
    dsimp only [Pt.U, Pt.locs, Pt.cells, Pt.slots] at Y10 S10p gr10 l10 y10 z10 st10 hQ10 c10
    subst l10 y10 z10
    obtain ⟨X10, S10, Z10, o10⟩ := rebS S9 (own_le (by omega)) Y10 S10p gr10 Z9 o9
    obtain ⟨a10, rfl, Nq10, Kq10, ga10, Str10⟩ := hQ10
    have KK10 : Keep T9.heap T10.heap [] := Kq10
    have sz10 : T9.heap.size ≤ T10.heap.size := KK10.1
    have K10 : Keep h0 T10.heap [] := K9.trans KK10 all0
    have C10 := C9.trans c10
    have N10 := Fr.app N9 Nq10
    refine own_st (fun tq kq => st10.trans kq) ?_
    show own_G p e below _ (T10.setTop (mkF m 95 #[.val (.int p0), .val (.int p1), .val (.int p2), .val (.int p3), .val (.int p4), .val (.int p5), .val (.int r0), .val (.int r1), .val (.int r2), .val (.ref a1), .val (.ref b2), .unset, .unset, .unset, .unset, .unset, .unset, .unset] [(.ref a10), (.ref a9), (.ref a8), (.ref b7), (.ref b7)]))
    obtain ⟨_, _, ⟨T11, L11, k11, n11⟩, -, X11, ⟨Lc11, hQ11, l11, y11, z11⟩, st11⟩ := X10.specialBack hx (y := (⟨"com/example/garm/garm/SecurityTarget$Choice", "<init>", "(Ljava/lang/String;Ljava/lang/String;Ljava/lang/String;)V"⟩ : MethodName)) rfl o10 (mvT Z10 (hw _ (List.mem_of_getElem? (i := 53) rfl))) (mvT Z10 (hw _ (List.mem_of_getElem? (i := 54) rfl))) (mvT Z10 (hw _ (List.mem_of_getElem? (i := 55) rfl))) (by decide) (own_backN (W := 1) (own_ctor l Z a0 hw [] (b7) (a8) (a9) (a10) (.null) (.null) (.null) T10.heap n0 (by omega) (X00.keep K10 all0) (((A7.keep KK8).keep KK9).keep KK10) (((F7_element.keep KK8 nin0).keep KK9 nin0).keep KK10 nin0) (((F7_selection.keep KK8 nin0).keep KK9 nin0).keep KK10 nin0) (((F7_item.keep KK8 nin0).keep KK9 nin0).keep KK10 nin0) (by omega) (by omega)) Z10 (hw _ (List.mem_of_getElem? (i := 55) rfl)) (hw _ (List.mem_of_getElem? (i := 35) rfl)) (by decide) (by decide)) (g := (mkF m 95 #[.val (.int p0), .val (.int p1), .val (.int p2), .val (.int p3), .val (.int p4), .val (.int p5), .val (.int r0), .val (.int r1), .val (.int r2), .val (.ref a1), .val (.ref b2), .unset, .unset, .unset, .unset, .unset, .unset, .unset] [(.ref a10), (.ref a9), (.ref a8), (.ref b7), (.ref b7)])) rfl (by rw [hml]; rfl) (Steps.refl _) (a := b7) (argsL := [(.ref a8), (.ref a9), (.ref a10)]) (rest := [(.ref b7)]) (lenOf own_pd7 rfl) rfl (by show 2 * 0 + _ ≤ _; exact Nat.le_of_eq rfl) (hb hby at_95) (fun _ _ => ⟨rfl, rfl, (by decide : 30 + 0 ≤ _), (by decide : 118 + 0 ≤ _)⟩)
    dsimp only [Pt.U, Pt.locs, Pt.cells, Pt.slots] at X11 l11 y11 z11 st11 hQ11
    subst l11 y11 z11
    obtain ⟨rfl, Nq11, Kq11, Ff0_11, Ff1_11, Ff2_11⟩ := hQ11
    have KK11 : Keep T10.heap T11.heap [b7] := Kq11
    have sz11 : T10.heap.size ≤ T11.heap.size := KK11.1
    have K11 : Keep h0 T11.heap [] := K10.trans KK11 (allS (Or.inr (own_le (by omega))) all0)
    have c11 : CHr Z consts_1 T10.vm T10.heap T10.vm T11.heap := CHr.keep KK11 (allS (Safe.exa Z10.alike (((A7.keep KK8).keep KK9).keep KK10) (by decide) (by decide)) all0) C10.1
    have C11 := C10.trans c11
    have N11 := Fr.app N10 Nq11
    refine own_st (fun tq kq => st11.trans kq) ?_
    show own_G p e below _ (T11.setTop (mkF m 98 #[.val (.int p0), .val (.int p1), .val (.int p2), .val (.int p3), .val (.int p4), .val (.int p5), .val (.int r0), .val (.int r1), .val (.int r2), .val (.ref a1), .val (.ref b2), .unset, .unset, .unset, .unset, .unset, .unset, .unset] [(.ref b7)]))
    refine own_st (fun tq kq => XS.astore X11.here hx rfl (hb hby at_98) rfl rfl (l' := #[.val (.int p0), .val (.int p1), .val (.int p2), .val (.int p3), .val (.int p4), .val (.int p5), .val (.int r0), .val (.int r1), .val (.int r2), .val (.ref a1), .val (.ref b2), .val (.ref b7), .unset, .unset, .unset, .unset, .unset, .unset]) rfl kq) ?_
    refine own_st (fun tq kq => XS.iloadN X11.here hx rfl (hb hby at_100) rfl  kq) ?_
    refine own_st (fun tq kq => XS.iload X11.here hx rfl (hb hby at_101) rfl  kq) ?_
    show own_G p e below _ (T11.setTop (mkF m 103 #[.val (.int p0), .val (.int p1), .val (.int p2), .val (.int p3), .val (.int p4), .val (.int p5), .val (.int r0), .val (.int r1), .val (.int r2), .val (.ref a1), .val (.ref b2), .val (.ref b7), .unset, .unset, .unset, .unset, .unset, .unset] [(.int r0), (.int p0)]))
    obtain ⟨_, _, ⟨T12, L12, k12, n12⟩, -, X12, ⟨Lc12, hQ12, l12, y12, z12⟩, st12⟩ := Jvm.LawKit.callS X11 hx (y := (⟨"com/example/garm/garm/ChoiceEqualsPinLaw", "sameKey", "(II)Z"⟩ : MethodName)) o10 (mvT Z10 (hw _ (List.mem_of_getElem? (i := 63) rfl))) (mvT Z10 (hw _ (List.mem_of_getElem? (i := 64) rfl))) (mvT Z10 (hw _ (List.mem_of_getElem? (i := 2) rfl))) (mvT Z10 (hw _ (List.mem_of_getElem? (i := 65) rfl))) (by decide) (own_backN (W := 0) (own_keyC l Z a0 hw [] (p0) (r0) T11.heap n0 (by omega) (X00.keep K11 all0) ) Z10 (hw _ (List.mem_of_getElem? (i := 65) rfl)) (hw _ (List.mem_of_getElem? (i := 2) rfl)) (by decide) (by decide)) (g := (mkF m 103 #[.val (.int p0), .val (.int p1), .val (.int p2), .val (.int p3), .val (.int p4), .val (.int p5), .val (.int r0), .val (.int r1), .val (.int r2), .val (.ref a1), .val (.ref b2), .val (.ref b7), .unset, .unset, .unset, .unset, .unset, .unset] [(.int r0), (.int p0)])) rfl (by rw [hml]; rfl) (argsL := [(.int p0), (.int r0)]) (rest := []) (lenOf own_pd8 rfl) rfl (by show 2 * 0 + _ ≤ _; exact Nat.le_of_eq rfl) (hb hby at_103) (fun _ _ => ⟨rfl, rfl, (by decide : 30 + 0 ≤ _), (by decide : 118 + 0 ≤ _)⟩)
    dsimp only [Pt.U, Pt.locs, Pt.cells, Pt.slots] at X12 l12 y12 z12 st12 hQ12
    subst l12 y12 z12
    obtain ⟨hr12, Nq12, sm12⟩ := hQ12
    have N12 := Fr.app N11 Nq12
    rcases hr12 with ⟨rfl, eq12⟩ | ⟨rfl, eq12⟩
    ·
      refine own_st st12 ?_
      show own_G p e below _ (T12.setTop (mkF m 106 #[.val (.int p0), .val (.int p1), .val (.int p2), .val (.int p3), .val (.int p4), .val (.int p5), .val (.int r0), .val (.int r1), .val (.int r2), .val (.ref a1), .val (.ref b2), .val (.ref b7), .unset, .unset, .unset, .unset, .unset, .unset] [(.int (1 : Int32))]))
      refine own_st (fun tq kq => XS.ifNo X12.here hx rfl (hb hby at_106) rfl ((if0 _ _).trans (feq (by decide : ¬ ((1 : Int32) = (0 : Int32)))).1) kq) ?_
      refine own_st (fun tq kq => XS.iloadN X12.here hx rfl (hb hby at_109) rfl  kq) ?_
      refine own_st (fun tq kq => XS.iload X12.here hx rfl (hb hby at_110) rfl  kq) ?_
      show own_G p e below _ (T12.setTop (mkF m 112 #[.val (.int p0), .val (.int p1), .val (.int p2), .val (.int p3), .val (.int p4), .val (.int p5), .val (.int r0), .val (.int r1), .val (.int r2), .val (.ref a1), .val (.ref b2), .val (.ref b7), .unset, .unset, .unset, .unset, .unset, .unset] [(.int r1), (.int p1)]))
      obtain ⟨_, _, ⟨T13, L13, k13, n13⟩, -, X13, ⟨Lc13, hQ13, l13, y13, z13⟩, st13⟩ := Jvm.LawKit.callS X12 hx (y := (⟨"com/example/garm/garm/ChoiceEqualsPinLaw", "sameKey", "(II)Z"⟩ : MethodName)) o10 (mvT Z10 (hw _ (List.mem_of_getElem? (i := 63) rfl))) (mvT Z10 (hw _ (List.mem_of_getElem? (i := 64) rfl))) (mvT Z10 (hw _ (List.mem_of_getElem? (i := 2) rfl))) (mvT Z10 (hw _ (List.mem_of_getElem? (i := 65) rfl))) (by decide) (own_backN (W := 0) (own_keyC l Z a0 hw [] (p1) (r1) T11.heap n0 (by omega) (X00.keep K11 all0) ) Z10 (hw _ (List.mem_of_getElem? (i := 65) rfl)) (hw _ (List.mem_of_getElem? (i := 2) rfl)) (by decide) (by decide)) (g := (mkF m 112 #[.val (.int p0), .val (.int p1), .val (.int p2), .val (.int p3), .val (.int p4), .val (.int p5), .val (.int r0), .val (.int r1), .val (.int r2), .val (.ref a1), .val (.ref b2), .val (.ref b7), .unset, .unset, .unset, .unset, .unset, .unset] [(.int r1), (.int p1)])) rfl (by rw [hml]; rfl) (argsL := [(.int p1), (.int r1)]) (rest := []) (lenOf own_pd8 rfl) rfl (by show 2 * 0 + _ ≤ _; exact Nat.le_of_eq rfl) (hb hby at_112) (fun _ _ => ⟨rfl, sm12, (by decide : 30 + 0 ≤ _), (by decide : 118 + 0 ≤ _)⟩)
      dsimp only [Pt.U, Pt.locs, Pt.cells, Pt.slots] at X13 l13 y13 z13 st13 hQ13
      subst l13 y13 z13
      obtain ⟨hr13, Nq13, sm13⟩ := hQ13
      have N13 := Fr.app N12 Nq13
      rcases hr13 with ⟨rfl, eq13⟩ | ⟨rfl, eq13⟩
      ·
        refine own_st st13 ?_
        show own_G p e below _ (T13.setTop (mkF m 115 #[.val (.int p0), .val (.int p1), .val (.int p2), .val (.int p3), .val (.int p4), .val (.int p5), .val (.int r0), .val (.int r1), .val (.int r2), .val (.ref a1), .val (.ref b2), .val (.ref b7), .unset, .unset, .unset, .unset, .unset, .unset] [(.int (1 : Int32))]))
        refine own_st (fun tq kq => XS.ifNo X13.here hx rfl (hb hby at_115) rfl ((if0 _ _).trans (feq (by decide : ¬ ((1 : Int32) = (0 : Int32)))).1) kq) ?_
        refine own_st (fun tq kq => XS.iloadN X13.here hx rfl (hb hby at_118) rfl  kq) ?_
        refine own_st (fun tq kq => XS.iload X13.here hx rfl (hb hby at_119) rfl  kq) ?_
        show own_G p e below _ (T13.setTop (mkF m 121 #[.val (.int p0), .val (.int p1), .val (.int p2), .val (.int p3), .val (.int p4), .val (.int p5), .val (.int r0), .val (.int r1), .val (.int r2), .val (.ref a1), .val (.ref b2), .val (.ref b7), .unset, .unset, .unset, .unset, .unset, .unset] [(.int r2), (.int p2)]))
        obtain ⟨_, _, ⟨T14, L14, k14, n14⟩, -, X14, ⟨Lc14, hQ14, l14, y14, z14⟩, st14⟩ := Jvm.LawKit.callS X13 hx (y := (⟨"com/example/garm/garm/ChoiceEqualsPinLaw", "sameKey", "(II)Z"⟩ : MethodName)) o10 (mvT Z10 (hw _ (List.mem_of_getElem? (i := 63) rfl))) (mvT Z10 (hw _ (List.mem_of_getElem? (i := 64) rfl))) (mvT Z10 (hw _ (List.mem_of_getElem? (i := 2) rfl))) (mvT Z10 (hw _ (List.mem_of_getElem? (i := 65) rfl))) (by decide) (own_backN (W := 0) (own_keyC l Z a0 hw [] (p2) (r2) T11.heap n0 (by omega) (X00.keep K11 all0) ) Z10 (hw _ (List.mem_of_getElem? (i := 65) rfl)) (hw _ (List.mem_of_getElem? (i := 2) rfl)) (by decide) (by decide)) (g := (mkF m 121 #[.val (.int p0), .val (.int p1), .val (.int p2), .val (.int p3), .val (.int p4), .val (.int p5), .val (.int r0), .val (.int r1), .val (.int r2), .val (.ref a1), .val (.ref b2), .val (.ref b7), .unset, .unset, .unset, .unset, .unset, .unset] [(.int r2), (.int p2)])) rfl (by rw [hml]; rfl) (argsL := [(.int p2), (.int r2)]) (rest := []) (lenOf own_pd8 rfl) rfl (by show 2 * 0 + _ ≤ _; exact Nat.le_of_eq rfl) (hb hby at_121) (fun _ _ => ⟨rfl, sm13, (by decide : 30 + 0 ≤ _), (by decide : 118 + 0 ≤ _)⟩)
        dsimp only [Pt.U, Pt.locs, Pt.cells, Pt.slots] at X14 l14 y14 z14 st14 hQ14
        subst l14 y14 z14
        obtain ⟨hr14, Nq14, sm14⟩ := hQ14
        have N14 := Fr.app N13 Nq14
        rcases hr14 with ⟨rfl, eq14⟩ | ⟨rfl, eq14⟩
        ·
          refine own_st st14 ?_
          show own_G p e below _ (T14.setTop (mkF m 124 #[.val (.int p0), .val (.int p1), .val (.int p2), .val (.int p3), .val (.int p4), .val (.int p5), .val (.int r0), .val (.int r1), .val (.int r2), .val (.ref a1), .val (.ref b2), .val (.ref b7), .unset, .unset, .unset, .unset, .unset, .unset] [(.int (1 : Int32))]))
          refine own_st (fun tq kq => XS.ifNo X14.here hx rfl (hb hby at_124) rfl ((if0 _ _).trans (feq (by decide : ¬ ((1 : Int32) = (0 : Int32)))).1) kq) ?_
          refine own_st (fun tq kq => XS.iconst X14.here hx rfl (hb hby at_127) kq) ?_
          refine own_st (fun tq kq => XS.goto X14.here hx rfl (pc0 := 128) (pc' := 132) rfl (hb hby at_128) (by decide) (by decide) kq) ?_
          refine own_st (fun tq kq => XS.istore X14.here hx rfl (hb hby at_132) rfl (l' := #[.val (.int p0), .val (.int p1), .val (.int p2), .val (.int p3), .val (.int p4), .val (.int p5), .val (.int r0), .val (.int r1), .val (.int r2), .val (.ref a1), .val (.ref b2), .val (.ref b7), .val (.int (1 : Int32)), .unset, .unset, .unset, .unset, .unset]) rfl kq) ?_
          show own_G p e below _ (T14.setTop (mkF m 134 #[.val (.int p0), .val (.int p1), .val (.int p2), .val (.int p3), .val (.int p4), .val (.int p5), .val (.int r0), .val (.int r1), .val (.int r2), .val (.ref a1), .val (.ref b2), .val (.ref b7), .val (.int (1 : Int32)), .unset, .unset, .unset, .unset, .unset] []))
          refine own_st (fun tq kq => XS.aload X14.here hx rfl (hb hby at_134) rfl rfl kq) ?_
          refine own_st (fun tq kq => XS.aload X14.here hx rfl (hb hby at_136) rfl rfl kq) ?_
          show own_G p e below _ (T14.setTop (mkF m 138 #[.val (.int p0), .val (.int p1), .val (.int p2), .val (.int p3), .val (.int p4), .val (.int p5), .val (.int r0), .val (.int r1), .val (.int r2), .val (.ref a1), .val (.ref b2), .val (.ref b7), .val (.int (1 : Int32)), .unset, .unset, .unset, .unset, .unset] [(.ref b7), (.ref b2)]))
          obtain ⟨cq15, kq15, q15a, q15b, q15c⟩ := isOf Z10 sm14 (((((((((A2.keep KK3).keep KK4).keep KK5).keep KK6).ext E7).keep KK8).keep KK9).keep KK10).keep KK11)
          obtain ⟨_, _, ⟨T15, L15, k15, n15⟩, -, X15, ⟨Lc15, hQ15, l15, y15, z15⟩, st15⟩ := X14.virtualBack hx (y := (⟨"com/example/garm/garm/SecurityTarget$Choice", "equals", "(Ljava/lang/Object;)Z"⟩ : MethodName)) (z := (⟨"com/example/garm/garm/SecurityTarget$Choice", "equals", "(Ljava/lang/Object;)Z"⟩ : MethodName)) o10 (mvT Z10 (hw _ (List.mem_of_getElem? (i := 66) rfl))) (mvT Z10 (hw _ (List.mem_of_getElem? (i := 67) rfl))) (notFace_of_selects (args := #[]) (mvT Z10 (hw _ (List.mem_of_getElem? (i := 69) rfl)))) (mvT Z10 (hw _ (List.mem_of_getElem? (i := 69) rfl))) (mvT Z10 (hw _ (List.mem_of_getElem? (i := 68) rfl))) (by decide) (own_backN (W := 0) (own_eqC l Z a0 hw [] (b2) (b7) (a3) (a4) (a5) (a8) (a9) (a10) ((own_str p0)) ((own_str p1)) ((own_str p2)) ((own_str r0)) ((own_str r1)) ((own_str r2)) (T11.heap.size) (G1) T11.heap n0 (by omega) (X00.keep K11 all0) ((((A7.keep KK8).keep KK9).keep KK10).keep KK11) (((((Ff0_6.ext E7).keep KK8 nin0).keep KK9 nin0).keep KK10 nin0).keep KK11 (ninS (own_ne (by omega)) nin0)) (((((Ff1_6.ext E7).keep KK8 nin0).keep KK9 nin0).keep KK10 nin0).keep KK11 (ninS (own_ne (by omega)) nin0)) (((((Ff2_6.ext E7).keep KK8 nin0).keep KK9 nin0).keep KK10 nin0).keep KK11 (ninS (own_ne (by omega)) nin0)) Ff0_11 Ff1_11 Ff2_11 (own_Str.mono ((((((((Str3.keep KK4 all0).keep KK5 all0).keepX KK6 (((A2.keep KK3).keep KK4).keep KK5) (hw _ (List.mem_of_getElem? (i := 34) rfl)) (by decide)).ext E7).keep KK8 all0).keep KK9 all0).keep KK10 all0).keepX KK11 (((A7.keep KK8).keep KK9).keep KK10) (hw _ (List.mem_of_getElem? (i := 34) rfl)) (by decide)) (by omega)) (own_Str.mono (((((((Str4.keep KK5 all0).keepX KK6 (((A2.keep KK3).keep KK4).keep KK5) (hw _ (List.mem_of_getElem? (i := 34) rfl)) (by decide)).ext E7).keep KK8 all0).keep KK9 all0).keep KK10 all0).keepX KK11 (((A7.keep KK8).keep KK9).keep KK10) (hw _ (List.mem_of_getElem? (i := 34) rfl)) (by decide)) (by omega)) (own_Str.mono ((((((Str5.keepX KK6 (((A2.keep KK3).keep KK4).keep KK5) (hw _ (List.mem_of_getElem? (i := 34) rfl)) (by decide)).ext E7).keep KK8 all0).keep KK9 all0).keep KK10 all0).keepX KK11 (((A7.keep KK8).keep KK9).keep KK10) (hw _ (List.mem_of_getElem? (i := 34) rfl)) (by decide)) (by omega)) (own_Str.mono (((Str8.keep KK9 all0).keep KK10 all0).keepX KK11 (((A7.keep KK8).keep KK9).keep KK10) (hw _ (List.mem_of_getElem? (i := 34) rfl)) (by decide)) (by omega)) (own_Str.mono ((Str9.keep KK10 all0).keepX KK11 (((A7.keep KK8).keep KK9).keep KK10) (hw _ (List.mem_of_getElem? (i := 34) rfl)) (by decide)) (by omega)) (own_Str.mono (Str10.keepX KK11 (((A7.keep KK8).keep KK9).keep KK10) (hw _ (List.mem_of_getElem? (i := 34) rfl)) (by decide)) (by omega)) O2 P5) Z10 (hw _ (List.mem_of_getElem? (i := 70) rfl)) (hw _ (List.mem_of_getElem? (i := 35) rfl)) (by decide) (by decide)) q15a q15c (g := (mkF m 138 #[.val (.int p0), .val (.int p1), .val (.int p2), .val (.int p3), .val (.int p4), .val (.int p5), .val (.int r0), .val (.int r1), .val (.int r2), .val (.ref a1), .val (.ref b2), .val (.ref b7), .val (.int (1 : Int32)), .unset, .unset, .unset, .unset, .unset] [(.ref b7), (.ref b2)])) rfl (by rw [hml]; rfl) (Steps.refl _) (argsL := [(.ref b7)]) (rest := []) (lenOf own_pd5 rfl) rfl (by show 2 * 0 + _ ≤ _; exact Nat.le_of_eq rfl) (hb hby at_138) (fun _ _ => ⟨rfl, sm14, (by decide : 30 + 0 ≤ _), (by decide : 118 + 0 ≤ _)⟩)
          dsimp only [Pt.U, Pt.locs, Pt.cells, Pt.slots] at X15 l15 y15 z15 st15 hQ15
          subst l15 y15 z15
          obtain ⟨hr15, Nq15, sm15⟩ := hQ15
          obtain ⟨rfl, ee15⟩ := hr15.resolve_right (fun q => q.2 ⟨eq12, eq13, eq14⟩)
          have N15 := Fr.app N14 Nq15
          refine own_st (fun tq kq => st15.trans kq) ?_
          show own_G p e below _ (T15.setTop (mkF m 141 #[.val (.int p0), .val (.int p1), .val (.int p2), .val (.int p3), .val (.int p4), .val (.int p5), .val (.int r0), .val (.int r1), .val (.int r2), .val (.ref a1), .val (.ref b2), .val (.ref b7), .val (.int (1 : Int32)), .unset, .unset, .unset, .unset, .unset] [(.int (1 : Int32))]))
          refine own_st (fun tq kq => XS.istore X15.here hx rfl (hb hby at_141) rfl (l' := #[.val (.int p0), .val (.int p1), .val (.int p2), .val (.int p3), .val (.int p4), .val (.int p5), .val (.int r0), .val (.int r1), .val (.int r2), .val (.ref a1), .val (.ref b2), .val (.ref b7), .val (.int (1 : Int32)), .val (.int (1 : Int32)), .unset, .unset, .unset, .unset]) rfl kq) ?_
          refine own_st (fun tq kq => XS.aload X15.here hx rfl (hb hby at_143) rfl rfl kq) ?_
          refine own_st (fun tq kq => XS.aload X15.here hx rfl (hb hby at_145) rfl rfl kq) ?_
          show own_G p e below _ (T15.setTop (mkF m 147 #[.val (.int p0), .val (.int p1), .val (.int p2), .val (.int p3), .val (.int p4), .val (.int p5), .val (.int r0), .val (.int r1), .val (.int r2), .val (.ref a1), .val (.ref b2), .val (.ref b7), .val (.int (1 : Int32)), .val (.int (1 : Int32)), .unset, .unset, .unset, .unset] [(.ref b2), (.ref b7)]))
          obtain ⟨cq16, kq16, q16a, q16b, q16c⟩ := isOf Z10 sm15 ((((A7.keep KK8).keep KK9).keep KK10).keep KK11)
          obtain ⟨_, _, ⟨T16, L16, k16, n16⟩, -, X16, ⟨Lc16, hQ16, l16, y16, z16⟩, st16⟩ := X15.virtualBack hx (y := (⟨"com/example/garm/garm/SecurityTarget$Choice", "equals", "(Ljava/lang/Object;)Z"⟩ : MethodName)) (z := (⟨"com/example/garm/garm/SecurityTarget$Choice", "equals", "(Ljava/lang/Object;)Z"⟩ : MethodName)) o10 (mvT Z10 (hw _ (List.mem_of_getElem? (i := 66) rfl))) (mvT Z10 (hw _ (List.mem_of_getElem? (i := 67) rfl))) (notFace_of_selects (args := #[]) (mvT Z10 (hw _ (List.mem_of_getElem? (i := 69) rfl)))) (mvT Z10 (hw _ (List.mem_of_getElem? (i := 69) rfl))) (mvT Z10 (hw _ (List.mem_of_getElem? (i := 68) rfl))) (by decide) (own_backN (W := 0) (own_eqC l Z a0 hw [] (b7) (b2) (a8) (a9) (a10) (a3) (a4) (a5) ((own_str r0)) ((own_str r1)) ((own_str r2)) ((own_str p0)) ((own_str p1)) ((own_str p2)) (T11.heap.size) (G1) T11.heap n0 (by omega) (X00.keep K11 all0) (((((((((A2.keep KK3).keep KK4).keep KK5).keep KK6).ext E7).keep KK8).keep KK9).keep KK10).keep KK11) Ff0_11 Ff1_11 Ff2_11 (((((Ff0_6.ext E7).keep KK8 nin0).keep KK9 nin0).keep KK10 nin0).keep KK11 (ninS (own_ne (by omega)) nin0)) (((((Ff1_6.ext E7).keep KK8 nin0).keep KK9 nin0).keep KK10 nin0).keep KK11 (ninS (own_ne (by omega)) nin0)) (((((Ff2_6.ext E7).keep KK8 nin0).keep KK9 nin0).keep KK10 nin0).keep KK11 (ninS (own_ne (by omega)) nin0)) (own_Str.mono (((Str8.keep KK9 all0).keep KK10 all0).keepX KK11 (((A7.keep KK8).keep KK9).keep KK10) (hw _ (List.mem_of_getElem? (i := 34) rfl)) (by decide)) (by omega)) (own_Str.mono ((Str9.keep KK10 all0).keepX KK11 (((A7.keep KK8).keep KK9).keep KK10) (hw _ (List.mem_of_getElem? (i := 34) rfl)) (by decide)) (by omega)) (own_Str.mono (Str10.keepX KK11 (((A7.keep KK8).keep KK9).keep KK10) (hw _ (List.mem_of_getElem? (i := 34) rfl)) (by decide)) (by omega)) (own_Str.mono ((((((((Str3.keep KK4 all0).keep KK5 all0).keepX KK6 (((A2.keep KK3).keep KK4).keep KK5) (hw _ (List.mem_of_getElem? (i := 34) rfl)) (by decide)).ext E7).keep KK8 all0).keep KK9 all0).keep KK10 all0).keepX KK11 (((A7.keep KK8).keep KK9).keep KK10) (hw _ (List.mem_of_getElem? (i := 34) rfl)) (by decide)) (by omega)) (own_Str.mono (((((((Str4.keep KK5 all0).keepX KK6 (((A2.keep KK3).keep KK4).keep KK5) (hw _ (List.mem_of_getElem? (i := 34) rfl)) (by decide)).ext E7).keep KK8 all0).keep KK9 all0).keep KK10 all0).keepX KK11 (((A7.keep KK8).keep KK9).keep KK10) (hw _ (List.mem_of_getElem? (i := 34) rfl)) (by decide)) (by omega)) (own_Str.mono ((((((Str5.keepX KK6 (((A2.keep KK3).keep KK4).keep KK5) (hw _ (List.mem_of_getElem? (i := 34) rfl)) (by decide)).ext E7).keep KK8 all0).keep KK9 all0).keep KK10 all0).keepX KK11 (((A7.keep KK8).keep KK9).keep KK10) (hw _ (List.mem_of_getElem? (i := 34) rfl)) (by decide)) (by omega)) O2 P5) Z10 (hw _ (List.mem_of_getElem? (i := 70) rfl)) (hw _ (List.mem_of_getElem? (i := 35) rfl)) (by decide) (by decide)) q16a q16c (g := (mkF m 147 #[.val (.int p0), .val (.int p1), .val (.int p2), .val (.int p3), .val (.int p4), .val (.int p5), .val (.int r0), .val (.int r1), .val (.int r2), .val (.ref a1), .val (.ref b2), .val (.ref b7), .val (.int (1 : Int32)), .val (.int (1 : Int32)), .unset, .unset, .unset, .unset] [(.ref b2), (.ref b7)])) rfl (by rw [hml]; rfl) (Steps.refl _) (argsL := [(.ref b2)]) (rest := []) (lenOf own_pd5 rfl) rfl (by show 2 * 0 + _ ≤ _; exact Nat.le_of_eq rfl) (hb hby at_147) (fun _ _ => ⟨rfl, sm15, (by decide : 30 + 0 ≤ _), (by decide : 118 + 0 ≤ _)⟩)
          dsimp only [Pt.U, Pt.locs, Pt.cells, Pt.slots] at X16 l16 y16 z16 st16 hQ16
          subst l16 y16 z16
          obtain ⟨hr16, Nq16, sm16⟩ := hQ16
          obtain ⟨rfl, ee16⟩ := hr16.resolve_right (fun q => q.2 ⟨eq12.symm, eq13.symm, eq14.symm⟩)
          have N16 := Fr.app N15 Nq16
          refine own_st (fun tq kq => st16.trans kq) ?_
          show own_G p e below _ (T16.setTop (mkF m 150 #[.val (.int p0), .val (.int p1), .val (.int p2), .val (.int p3), .val (.int p4), .val (.int p5), .val (.int r0), .val (.int r1), .val (.int r2), .val (.ref a1), .val (.ref b2), .val (.ref b7), .val (.int (1 : Int32)), .val (.int (1 : Int32)), .unset, .unset, .unset, .unset] [(.int (1 : Int32))]))
          refine own_st (fun tq kq => XS.istore X16.here hx rfl (hb hby at_150) rfl (l' := #[.val (.int p0), .val (.int p1), .val (.int p2), .val (.int p3), .val (.int p4), .val (.int p5), .val (.int r0), .val (.int r1), .val (.int r2), .val (.ref a1), .val (.ref b2), .val (.ref b7), .val (.int (1 : Int32)), .val (.int (1 : Int32)), .val (.int (1 : Int32)), .unset, .unset, .unset]) rfl kq) ?_
          refine own_st (fun tq kq => XS.aload X16.here hx rfl (hb hby at_152) rfl rfl kq) ?_
          refine own_st (fun tq kq => XS.aload X16.here hx rfl (hb hby at_154) rfl rfl kq) ?_
          show own_G p e below _ (T16.setTop (mkF m 156 #[.val (.int p0), .val (.int p1), .val (.int p2), .val (.int p3), .val (.int p4), .val (.int p5), .val (.int r0), .val (.int r1), .val (.int r2), .val (.ref a1), .val (.ref b2), .val (.ref b7), .val (.int (1 : Int32)), .val (.int (1 : Int32)), .val (.int (1 : Int32)), .unset, .unset, .unset] [(.ref b2), (.ref b2)]))
          obtain ⟨cq17, kq17, q17a, q17b, q17c⟩ := isOf Z10 sm16 (((((((((A2.keep KK3).keep KK4).keep KK5).keep KK6).ext E7).keep KK8).keep KK9).keep KK10).keep KK11)
          obtain ⟨_, _, ⟨T17, L17, k17, n17⟩, -, X17, ⟨Lc17, hQ17, l17, y17, z17⟩, st17⟩ := X16.virtualBack hx (y := (⟨"com/example/garm/garm/SecurityTarget$Choice", "equals", "(Ljava/lang/Object;)Z"⟩ : MethodName)) (z := (⟨"com/example/garm/garm/SecurityTarget$Choice", "equals", "(Ljava/lang/Object;)Z"⟩ : MethodName)) o10 (mvT Z10 (hw _ (List.mem_of_getElem? (i := 66) rfl))) (mvT Z10 (hw _ (List.mem_of_getElem? (i := 67) rfl))) (notFace_of_selects (args := #[]) (mvT Z10 (hw _ (List.mem_of_getElem? (i := 69) rfl)))) (mvT Z10 (hw _ (List.mem_of_getElem? (i := 69) rfl))) (mvT Z10 (hw _ (List.mem_of_getElem? (i := 68) rfl))) (by decide) (own_backN (W := 0) (own_eqC l Z a0 hw [] (b2) (b2) (a3) (a4) (a5) (a3) (a4) (a5) ((own_str p0)) ((own_str p1)) ((own_str p2)) ((own_str p0)) ((own_str p1)) ((own_str p2)) (T11.heap.size) (G1) T11.heap n0 (by omega) (X00.keep K11 all0) (((((((((A2.keep KK3).keep KK4).keep KK5).keep KK6).ext E7).keep KK8).keep KK9).keep KK10).keep KK11) (((((Ff0_6.ext E7).keep KK8 nin0).keep KK9 nin0).keep KK10 nin0).keep KK11 (ninS (own_ne (by omega)) nin0)) (((((Ff1_6.ext E7).keep KK8 nin0).keep KK9 nin0).keep KK10 nin0).keep KK11 (ninS (own_ne (by omega)) nin0)) (((((Ff2_6.ext E7).keep KK8 nin0).keep KK9 nin0).keep KK10 nin0).keep KK11 (ninS (own_ne (by omega)) nin0)) (((((Ff0_6.ext E7).keep KK8 nin0).keep KK9 nin0).keep KK10 nin0).keep KK11 (ninS (own_ne (by omega)) nin0)) (((((Ff1_6.ext E7).keep KK8 nin0).keep KK9 nin0).keep KK10 nin0).keep KK11 (ninS (own_ne (by omega)) nin0)) (((((Ff2_6.ext E7).keep KK8 nin0).keep KK9 nin0).keep KK10 nin0).keep KK11 (ninS (own_ne (by omega)) nin0)) (own_Str.mono ((((((((Str3.keep KK4 all0).keep KK5 all0).keepX KK6 (((A2.keep KK3).keep KK4).keep KK5) (hw _ (List.mem_of_getElem? (i := 34) rfl)) (by decide)).ext E7).keep KK8 all0).keep KK9 all0).keep KK10 all0).keepX KK11 (((A7.keep KK8).keep KK9).keep KK10) (hw _ (List.mem_of_getElem? (i := 34) rfl)) (by decide)) (by omega)) (own_Str.mono (((((((Str4.keep KK5 all0).keepX KK6 (((A2.keep KK3).keep KK4).keep KK5) (hw _ (List.mem_of_getElem? (i := 34) rfl)) (by decide)).ext E7).keep KK8 all0).keep KK9 all0).keep KK10 all0).keepX KK11 (((A7.keep KK8).keep KK9).keep KK10) (hw _ (List.mem_of_getElem? (i := 34) rfl)) (by decide)) (by omega)) (own_Str.mono ((((((Str5.keepX KK6 (((A2.keep KK3).keep KK4).keep KK5) (hw _ (List.mem_of_getElem? (i := 34) rfl)) (by decide)).ext E7).keep KK8 all0).keep KK9 all0).keep KK10 all0).keepX KK11 (((A7.keep KK8).keep KK9).keep KK10) (hw _ (List.mem_of_getElem? (i := 34) rfl)) (by decide)) (by omega)) (own_Str.mono ((((((((Str3.keep KK4 all0).keep KK5 all0).keepX KK6 (((A2.keep KK3).keep KK4).keep KK5) (hw _ (List.mem_of_getElem? (i := 34) rfl)) (by decide)).ext E7).keep KK8 all0).keep KK9 all0).keep KK10 all0).keepX KK11 (((A7.keep KK8).keep KK9).keep KK10) (hw _ (List.mem_of_getElem? (i := 34) rfl)) (by decide)) (by omega)) (own_Str.mono (((((((Str4.keep KK5 all0).keepX KK6 (((A2.keep KK3).keep KK4).keep KK5) (hw _ (List.mem_of_getElem? (i := 34) rfl)) (by decide)).ext E7).keep KK8 all0).keep KK9 all0).keep KK10 all0).keepX KK11 (((A7.keep KK8).keep KK9).keep KK10) (hw _ (List.mem_of_getElem? (i := 34) rfl)) (by decide)) (by omega)) (own_Str.mono ((((((Str5.keepX KK6 (((A2.keep KK3).keep KK4).keep KK5) (hw _ (List.mem_of_getElem? (i := 34) rfl)) (by decide)).ext E7).keep KK8 all0).keep KK9 all0).keep KK10 all0).keepX KK11 (((A7.keep KK8).keep KK9).keep KK10) (hw _ (List.mem_of_getElem? (i := 34) rfl)) (by decide)) (by omega)) O2 P5) Z10 (hw _ (List.mem_of_getElem? (i := 70) rfl)) (hw _ (List.mem_of_getElem? (i := 35) rfl)) (by decide) (by decide)) q17a q17c (g := (mkF m 156 #[.val (.int p0), .val (.int p1), .val (.int p2), .val (.int p3), .val (.int p4), .val (.int p5), .val (.int r0), .val (.int r1), .val (.int r2), .val (.ref a1), .val (.ref b2), .val (.ref b7), .val (.int (1 : Int32)), .val (.int (1 : Int32)), .val (.int (1 : Int32)), .unset, .unset, .unset] [(.ref b2), (.ref b2)])) rfl (by rw [hml]; rfl) (Steps.refl _) (argsL := [(.ref b2)]) (rest := []) (lenOf own_pd5 rfl) rfl (by show 2 * 0 + _ ≤ _; exact Nat.le_of_eq rfl) (hb hby at_156) (fun _ _ => ⟨rfl, sm16, (by decide : 30 + 0 ≤ _), (by decide : 118 + 0 ≤ _)⟩)
          dsimp only [Pt.U, Pt.locs, Pt.cells, Pt.slots] at X17 l17 y17 z17 st17 hQ17
          subst l17 y17 z17
          obtain ⟨hr17, Nq17, sm17⟩ := hQ17
          obtain ⟨rfl, ee17⟩ := hr17.resolve_right (fun q => q.2 ⟨rfl, rfl, rfl⟩)
          have N17 := Fr.app N16 Nq17
          refine own_st (fun tq kq => st17.trans kq) ?_
          show own_G p e below _ (T17.setTop (mkF m 159 #[.val (.int p0), .val (.int p1), .val (.int p2), .val (.int p3), .val (.int p4), .val (.int p5), .val (.int r0), .val (.int r1), .val (.int r2), .val (.ref a1), .val (.ref b2), .val (.ref b7), .val (.int (1 : Int32)), .val (.int (1 : Int32)), .val (.int (1 : Int32)), .unset, .unset, .unset] [(.int (1 : Int32))]))
          refine own_st (fun tq kq => XS.istore X17.here hx rfl (hb hby at_159) rfl (l' := #[.val (.int p0), .val (.int p1), .val (.int p2), .val (.int p3), .val (.int p4), .val (.int p5), .val (.int r0), .val (.int r1), .val (.int r2), .val (.ref a1), .val (.ref b2), .val (.ref b7), .val (.int (1 : Int32)), .val (.int (1 : Int32)), .val (.int (1 : Int32)), .val (.int (1 : Int32)), .unset, .unset]) rfl kq) ?_
          refine own_st (fun tq kq => XS.aload X17.here hx rfl (hb hby at_161) rfl rfl kq) ?_
          refine own_st (fun tq kq => XS.aconstNull X17.here hx rfl (hb hby at_163) kq) ?_
          show own_G p e below _ (T17.setTop (mkF m 164 #[.val (.int p0), .val (.int p1), .val (.int p2), .val (.int p3), .val (.int p4), .val (.int p5), .val (.int r0), .val (.int r1), .val (.int r2), .val (.ref a1), .val (.ref b2), .val (.ref b7), .val (.int (1 : Int32)), .val (.int (1 : Int32)), .val (.int (1 : Int32)), .val (.int (1 : Int32)), .unset, .unset] [.null, (.ref b2)]))
          obtain ⟨cq18, kq18, q18a, q18b, q18c⟩ := isOf Z10 sm17 (((((((((A2.keep KK3).keep KK4).keep KK5).keep KK6).ext E7).keep KK8).keep KK9).keep KK10).keep KK11)
          obtain ⟨_, _, ⟨T18, L18, k18, n18⟩, -, X18, ⟨Lc18, hQ18, l18, y18, z18⟩, st18⟩ := X17.virtualBack hx (y := (⟨"com/example/garm/garm/SecurityTarget$Choice", "equals", "(Ljava/lang/Object;)Z"⟩ : MethodName)) (z := (⟨"com/example/garm/garm/SecurityTarget$Choice", "equals", "(Ljava/lang/Object;)Z"⟩ : MethodName)) o10 (mvT Z10 (hw _ (List.mem_of_getElem? (i := 66) rfl))) (mvT Z10 (hw _ (List.mem_of_getElem? (i := 67) rfl))) (notFace_of_selects (args := #[]) (mvT Z10 (hw _ (List.mem_of_getElem? (i := 69) rfl)))) (mvT Z10 (hw _ (List.mem_of_getElem? (i := 69) rfl))) (mvT Z10 (hw _ (List.mem_of_getElem? (i := 68) rfl))) (by decide) (own_backN (W := 0) (own_eqN l Z a0 hw [] (b2) T11.heap n0 (by omega) (X00.keep K11 all0) ) Z10 (hw _ (List.mem_of_getElem? (i := 70) rfl)) (hw _ (List.mem_of_getElem? (i := 35) rfl)) (by decide) (by decide)) q18a q18c (g := (mkF m 164 #[.val (.int p0), .val (.int p1), .val (.int p2), .val (.int p3), .val (.int p4), .val (.int p5), .val (.int r0), .val (.int r1), .val (.int r2), .val (.ref a1), .val (.ref b2), .val (.ref b7), .val (.int (1 : Int32)), .val (.int (1 : Int32)), .val (.int (1 : Int32)), .val (.int (1 : Int32)), .unset, .unset] [.null, (.ref b2)])) rfl (by rw [hml]; rfl) (Steps.refl _) (argsL := [.null]) (rest := []) (lenOf own_pd5 rfl) rfl (by show 2 * 0 + _ ≤ _; exact Nat.le_of_eq rfl) (hb hby at_164) (fun _ _ => ⟨rfl, sm17, (by decide : 30 + 0 ≤ _), (by decide : 118 + 0 ≤ _)⟩)
          dsimp only [Pt.U, Pt.locs, Pt.cells, Pt.slots] at X18 l18 y18 z18 st18 hQ18
          subst l18 y18 z18
          obtain ⟨rfl, Nq18, sm18⟩ := hQ18
          have N18 := Fr.app N17 Nq18
          refine own_st (fun tq kq => st18.trans kq) ?_
          show own_G p e below _ (T18.setTop (mkF m 167 #[.val (.int p0), .val (.int p1), .val (.int p2), .val (.int p3), .val (.int p4), .val (.int p5), .val (.int r0), .val (.int r1), .val (.int r2), .val (.ref a1), .val (.ref b2), .val (.ref b7), .val (.int (1 : Int32)), .val (.int (1 : Int32)), .val (.int (1 : Int32)), .val (.int (1 : Int32)), .unset, .unset] [(.int (0 : Int32))]))
          refine own_st (fun tq kq => XS.istore X18.here hx rfl (hb hby at_167) rfl (l' := #[.val (.int p0), .val (.int p1), .val (.int p2), .val (.int p3), .val (.int p4), .val (.int p5), .val (.int r0), .val (.int r1), .val (.int r2), .val (.ref a1), .val (.ref b2), .val (.ref b7), .val (.int (1 : Int32)), .val (.int (1 : Int32)), .val (.int (1 : Int32)), .val (.int (1 : Int32)), .val (.int (0 : Int32)), .unset]) rfl kq) ?_
          refine own_st (fun tq kq => XS.aload X18.here hx rfl (hb hby at_169) rfl rfl kq) ?_
          refine own_st (fun tq kq => XS.aload X18.here hx rfl (hb hby at_171) rfl rfl kq) ?_
          show own_G p e below _ (T18.setTop (mkF m 173 #[.val (.int p0), .val (.int p1), .val (.int p2), .val (.int p3), .val (.int p4), .val (.int p5), .val (.int r0), .val (.int r1), .val (.int r2), .val (.ref a1), .val (.ref b2), .val (.ref b7), .val (.int (1 : Int32)), .val (.int (1 : Int32)), .val (.int (1 : Int32)), .val (.int (1 : Int32)), .val (.int (0 : Int32)), .unset] [(.ref a1), (.ref b2)]))
          obtain ⟨cq19, kq19, q19a, q19b, q19c⟩ := isOf Z10 sm18 (((((((((A2.keep KK3).keep KK4).keep KK5).keep KK6).ext E7).keep KK8).keep KK9).keep KK10).keep KK11)
          obtain ⟨_, _, ⟨T19, L19, k19, n19⟩, -, X19, ⟨Lc19, hQ19, l19, y19, z19⟩, st19⟩ := X18.virtualBack hx (y := (⟨"com/example/garm/garm/SecurityTarget$Choice", "equals", "(Ljava/lang/Object;)Z"⟩ : MethodName)) (z := (⟨"com/example/garm/garm/SecurityTarget$Choice", "equals", "(Ljava/lang/Object;)Z"⟩ : MethodName)) o10 (mvT Z10 (hw _ (List.mem_of_getElem? (i := 66) rfl))) (mvT Z10 (hw _ (List.mem_of_getElem? (i := 67) rfl))) (notFace_of_selects (args := #[]) (mvT Z10 (hw _ (List.mem_of_getElem? (i := 69) rfl)))) (mvT Z10 (hw _ (List.mem_of_getElem? (i := 69) rfl))) (mvT Z10 (hw _ (List.mem_of_getElem? (i := 68) rfl))) (by decide) (own_backN (W := 0) (own_eqS l Z a0 hw [] (b2) (a1) T11.heap n0 (by omega) (X00.keep K11 all0) ((((((((((Str1.2.1.ext E2).keep KK3).keep KK4).keep KK5).keep KK6).ext E7).keep KK8).keep KK9).keep KK10).keep KK11)) Z10 (hw _ (List.mem_of_getElem? (i := 70) rfl)) (hw _ (List.mem_of_getElem? (i := 35) rfl)) (by decide) (by decide)) q19a q19c (g := (mkF m 173 #[.val (.int p0), .val (.int p1), .val (.int p2), .val (.int p3), .val (.int p4), .val (.int p5), .val (.int r0), .val (.int r1), .val (.int r2), .val (.ref a1), .val (.ref b2), .val (.ref b7), .val (.int (1 : Int32)), .val (.int (1 : Int32)), .val (.int (1 : Int32)), .val (.int (1 : Int32)), .val (.int (0 : Int32)), .unset] [(.ref a1), (.ref b2)])) rfl (by rw [hml]; rfl) (Steps.refl _) (argsL := [(.ref a1)]) (rest := []) (lenOf own_pd5 rfl) rfl (by show 2 * 0 + _ ≤ _; exact Nat.le_of_eq rfl) (hb hby at_173) (fun _ _ => ⟨rfl, sm18, (by decide : 30 + 0 ≤ _), (by decide : 118 + 0 ≤ _)⟩)
          dsimp only [Pt.U, Pt.locs, Pt.cells, Pt.slots] at X19 l19 y19 z19 st19 hQ19
          subst l19 y19 z19
          obtain ⟨rfl, Nq19, sm19⟩ := hQ19
          have N19 := Fr.app N18 Nq19
          refine own_st (fun tq kq => st19.trans kq) ?_
          show own_G p e below _ (T19.setTop (mkF m 176 #[.val (.int p0), .val (.int p1), .val (.int p2), .val (.int p3), .val (.int p4), .val (.int p5), .val (.int r0), .val (.int r1), .val (.int r2), .val (.ref a1), .val (.ref b2), .val (.ref b7), .val (.int (1 : Int32)), .val (.int (1 : Int32)), .val (.int (1 : Int32)), .val (.int (1 : Int32)), .val (.int (0 : Int32)), .unset] [(.int (0 : Int32))]))
          refine own_st (fun tq kq => XS.istore X19.here hx rfl (hb hby at_176) rfl (l' := #[.val (.int p0), .val (.int p1), .val (.int p2), .val (.int p3), .val (.int p4), .val (.int p5), .val (.int r0), .val (.int r1), .val (.int r2), .val (.ref a1), .val (.ref b2), .val (.ref b7), .val (.int (1 : Int32)), .val (.int (1 : Int32)), .val (.int (1 : Int32)), .val (.int (1 : Int32)), .val (.int (0 : Int32)), .val (.int (0 : Int32))]) rfl kq) ?_
          refine own_st (fun tq kq => XS.iload X19.here hx rfl (hb hby at_178) rfl  kq) ?_
          refine own_st (fun tq kq => XS.iload X19.here hx rfl (hb hby at_180) rfl  kq) ?_
          show own_G p e below _ (T19.setTop (mkF m 182 #[.val (.int p0), .val (.int p1), .val (.int p2), .val (.int p3), .val (.int p4), .val (.int p5), .val (.int r0), .val (.int r1), .val (.int r2), .val (.ref a1), .val (.ref b2), .val (.ref b7), .val (.int (1 : Int32)), .val (.int (1 : Int32)), .val (.int (1 : Int32)), .val (.int (1 : Int32)), .val (.int (0 : Int32)), .val (.int (0 : Int32))] [(.int (1 : Int32)), (.int (1 : Int32))]))
          refine own_st (fun tq kq => XS.icmpNo X19.here hx rfl (hb hby at_182) rfl (teq (by decide : ((1 : Int32) = (1 : Int32)))).2 kq) ?_
          refine own_st (fun tq kq => XS.iload X19.here hx rfl (hb hby at_185) rfl  kq) ?_
          refine own_st (fun tq kq => XS.iload X19.here hx rfl (hb hby at_187) rfl  kq) ?_
          show own_G p e below _ (T19.setTop (mkF m 189 #[.val (.int p0), .val (.int p1), .val (.int p2), .val (.int p3), .val (.int p4), .val (.int p5), .val (.int r0), .val (.int r1), .val (.int r2), .val (.ref a1), .val (.ref b2), .val (.ref b7), .val (.int (1 : Int32)), .val (.int (1 : Int32)), .val (.int (1 : Int32)), .val (.int (1 : Int32)), .val (.int (0 : Int32)), .val (.int (0 : Int32))] [(.int (1 : Int32)), (.int (1 : Int32))]))
          refine own_st (fun tq kq => XS.icmpNo X19.here hx rfl (hb hby at_189) rfl (teq (by decide : ((1 : Int32) = (1 : Int32)))).2 kq) ?_
          refine own_st (fun tq kq => XS.iload X19.here hx rfl (hb hby at_192) rfl  kq) ?_
          show own_G p e below _ (T19.setTop (mkF m 194 #[.val (.int p0), .val (.int p1), .val (.int p2), .val (.int p3), .val (.int p4), .val (.int p5), .val (.int r0), .val (.int r1), .val (.int r2), .val (.ref a1), .val (.ref b2), .val (.ref b7), .val (.int (1 : Int32)), .val (.int (1 : Int32)), .val (.int (1 : Int32)), .val (.int (1 : Int32)), .val (.int (0 : Int32)), .val (.int (0 : Int32))] [(.int (1 : Int32))]))
          refine own_st (fun tq kq => XS.ifNo X19.here hx rfl (hb hby at_194) rfl ((if0 _ _).trans (feq (by decide : ¬ ((1 : Int32) = (0 : Int32)))).1) kq) ?_
          refine own_st (fun tq kq => XS.iload X19.here hx rfl (hb hby at_197) rfl  kq) ?_
          show own_G p e below _ (T19.setTop (mkF m 199 #[.val (.int p0), .val (.int p1), .val (.int p2), .val (.int p3), .val (.int p4), .val (.int p5), .val (.int r0), .val (.int r1), .val (.int r2), .val (.ref a1), .val (.ref b2), .val (.ref b7), .val (.int (1 : Int32)), .val (.int (1 : Int32)), .val (.int (1 : Int32)), .val (.int (1 : Int32)), .val (.int (0 : Int32)), .val (.int (0 : Int32))] [(.int (0 : Int32))]))
          refine own_st (fun tq kq => XS.ifNo X19.here hx rfl (hb hby at_199) rfl ((if0 _ _).trans (teq (by decide : ((0 : Int32) = (0 : Int32)))).2) kq) ?_
          refine own_st (fun tq kq => XS.iload X19.here hx rfl (hb hby at_202) rfl  kq) ?_
          show own_G p e below _ (T19.setTop (mkF m 204 #[.val (.int p0), .val (.int p1), .val (.int p2), .val (.int p3), .val (.int p4), .val (.int p5), .val (.int r0), .val (.int r1), .val (.int r2), .val (.ref a1), .val (.ref b2), .val (.ref b7), .val (.int (1 : Int32)), .val (.int (1 : Int32)), .val (.int (1 : Int32)), .val (.int (1 : Int32)), .val (.int (0 : Int32)), .val (.int (0 : Int32))] [(.int (0 : Int32))]))
          refine own_st (fun tq kq => XS.ifNo X19.here hx rfl (hb hby at_204) rfl ((if0 _ _).trans (teq (by decide : ((0 : Int32) = (0 : Int32)))).2) kq) ?_
          refine own_st (fun tq kq => XS.iconst X19.here hx rfl (hb hby at_207) kq) ?_
          refine own_st (fun tq kq => XS.goto X19.here hx rfl (pc0 := 208) (pc' := 212) rfl (hb hby at_208) (by decide) (by decide) kq) ?_
          show own_G p e below _ (T19.setTop (mkF m 212 #[.val (.int p0), .val (.int p1), .val (.int p2), .val (.int p3), .val (.int p4), .val (.int p5), .val (.int r0), .val (.int r1), .val (.int r2), .val (.ref a1), .val (.ref b2), .val (.ref b7), .val (.int (1 : Int32)), .val (.int (1 : Int32)), .val (.int (1 : Int32)), .val (.int (1 : Int32)), .val (.int (0 : Int32)), .val (.int (0 : Int32))] [(.int (1 : Int32))]))
          obtain ⟨fs, hr, hrun, hended, hRW⟩ := X19.leaveW S10 (by rw [sm19]; exact (own_le (by omega))) (v := some (.int (1 : Int32))) (fun h => by rw [Bd.returns] at h; cases h)
          have cE := C11.trans (CHv.at (s := s) (vm0 := T10.vm) X19 Z10 hEL C11.1)
          refine ⟨_, _, retN X19 hx (t := .boolean) Bd.returns (by simp) (hb hby at_212) hr, hrun, hended, _, _, rfl, ?_, ?_, own_RW hRW (by decide) (by decide)⟩
          · change (fun (v : Option Value) (_ : Vm) (h : Heap) (L : List Loc) => v = some (.int (1 : Int32)) ∧ Fr n0 L) (some (.int (1 : Int32))) T19.vm T19.heap _; rw [sm19]; exact ⟨rfl, N19⟩
          · rw [hh]; change CHr Z consts_1 s.vm h0 T19.vm T19.heap; rw [sm19]; exact cE
        ·
          refine own_st st14 ?_
          show own_G p e below _ (T14.setTop (mkF m 124 #[.val (.int p0), .val (.int p1), .val (.int p2), .val (.int p3), .val (.int p4), .val (.int p5), .val (.int r0), .val (.int r1), .val (.int r2), .val (.ref a1), .val (.ref b2), .val (.ref b7), .unset, .unset, .unset, .unset, .unset, .unset] [(.int (0 : Int32))]))
          refine own_st (fun tq kq => XS.ifYes X14.here hx rfl (pc0 := 124) (pc' := 131) rfl (hb hby at_124) rfl ((if0 _ _).trans (teq (by decide : ((0 : Int32) = (0 : Int32)))).1) (by decide) (by decide) kq) ?_
          refine own_st (fun tq kq => XS.iconst X14.here hx rfl (hb hby at_131) kq) ?_
          refine own_st (fun tq kq => XS.istore X14.here hx rfl (hb hby at_132) rfl (l' := #[.val (.int p0), .val (.int p1), .val (.int p2), .val (.int p3), .val (.int p4), .val (.int p5), .val (.int r0), .val (.int r1), .val (.int r2), .val (.ref a1), .val (.ref b2), .val (.ref b7), .val (.int (0 : Int32)), .unset, .unset, .unset, .unset, .unset]) rfl kq) ?_
          refine own_st (fun tq kq => XS.aload X14.here hx rfl (hb hby at_134) rfl rfl kq) ?_
          show own_G p e below _ (T14.setTop (mkF m 136 #[.val (.int p0), .val (.int p1), .val (.int p2), .val (.int p3), .val (.int p4), .val (.int p5), .val (.int r0), .val (.int r1), .val (.int r2), .val (.ref a1), .val (.ref b2), .val (.ref b7), .val (.int (0 : Int32)), .unset, .unset, .unset, .unset, .unset] [(.ref b2)]))
          refine own_st (fun tq kq => XS.aload X14.here hx rfl (hb hby at_136) rfl rfl kq) ?_
          show own_G p e below _ (T14.setTop (mkF m 138 #[.val (.int p0), .val (.int p1), .val (.int p2), .val (.int p3), .val (.int p4), .val (.int p5), .val (.int r0), .val (.int r1), .val (.int r2), .val (.ref a1), .val (.ref b2), .val (.ref b7), .val (.int (0 : Int32)), .unset, .unset, .unset, .unset, .unset] [(.ref b7), (.ref b2)]))
          obtain ⟨cq20, kq20, q20a, q20b, q20c⟩ := isOf Z10 sm14 (((((((((A2.keep KK3).keep KK4).keep KK5).keep KK6).ext E7).keep KK8).keep KK9).keep KK10).keep KK11)
          obtain ⟨_, _, ⟨T20, L20, k20, n20⟩, -, X20, ⟨Lc20, hQ20, l20, y20, z20⟩, st20⟩ := X14.virtualBack hx (y := (⟨"com/example/garm/garm/SecurityTarget$Choice", "equals", "(Ljava/lang/Object;)Z"⟩ : MethodName)) (z := (⟨"com/example/garm/garm/SecurityTarget$Choice", "equals", "(Ljava/lang/Object;)Z"⟩ : MethodName)) o10 (mvT Z10 (hw _ (List.mem_of_getElem? (i := 66) rfl))) (mvT Z10 (hw _ (List.mem_of_getElem? (i := 67) rfl))) (notFace_of_selects (args := #[]) (mvT Z10 (hw _ (List.mem_of_getElem? (i := 69) rfl)))) (mvT Z10 (hw _ (List.mem_of_getElem? (i := 69) rfl))) (mvT Z10 (hw _ (List.mem_of_getElem? (i := 68) rfl))) (by decide) (own_backN (W := 0) (own_eqC l Z a0 hw [] (b2) (b7) (a3) (a4) (a5) (a8) (a9) (a10) ((own_str p0)) ((own_str p1)) ((own_str p2)) ((own_str r0)) ((own_str r1)) ((own_str r2)) (T11.heap.size) (G1) T11.heap n0 (by omega) (X00.keep K11 all0) ((((A7.keep KK8).keep KK9).keep KK10).keep KK11) (((((Ff0_6.ext E7).keep KK8 nin0).keep KK9 nin0).keep KK10 nin0).keep KK11 (ninS (own_ne (by omega)) nin0)) (((((Ff1_6.ext E7).keep KK8 nin0).keep KK9 nin0).keep KK10 nin0).keep KK11 (ninS (own_ne (by omega)) nin0)) (((((Ff2_6.ext E7).keep KK8 nin0).keep KK9 nin0).keep KK10 nin0).keep KK11 (ninS (own_ne (by omega)) nin0)) Ff0_11 Ff1_11 Ff2_11 (own_Str.mono ((((((((Str3.keep KK4 all0).keep KK5 all0).keepX KK6 (((A2.keep KK3).keep KK4).keep KK5) (hw _ (List.mem_of_getElem? (i := 34) rfl)) (by decide)).ext E7).keep KK8 all0).keep KK9 all0).keep KK10 all0).keepX KK11 (((A7.keep KK8).keep KK9).keep KK10) (hw _ (List.mem_of_getElem? (i := 34) rfl)) (by decide)) (by omega)) (own_Str.mono (((((((Str4.keep KK5 all0).keepX KK6 (((A2.keep KK3).keep KK4).keep KK5) (hw _ (List.mem_of_getElem? (i := 34) rfl)) (by decide)).ext E7).keep KK8 all0).keep KK9 all0).keep KK10 all0).keepX KK11 (((A7.keep KK8).keep KK9).keep KK10) (hw _ (List.mem_of_getElem? (i := 34) rfl)) (by decide)) (by omega)) (own_Str.mono ((((((Str5.keepX KK6 (((A2.keep KK3).keep KK4).keep KK5) (hw _ (List.mem_of_getElem? (i := 34) rfl)) (by decide)).ext E7).keep KK8 all0).keep KK9 all0).keep KK10 all0).keepX KK11 (((A7.keep KK8).keep KK9).keep KK10) (hw _ (List.mem_of_getElem? (i := 34) rfl)) (by decide)) (by omega)) (own_Str.mono (((Str8.keep KK9 all0).keep KK10 all0).keepX KK11 (((A7.keep KK8).keep KK9).keep KK10) (hw _ (List.mem_of_getElem? (i := 34) rfl)) (by decide)) (by omega)) (own_Str.mono ((Str9.keep KK10 all0).keepX KK11 (((A7.keep KK8).keep KK9).keep KK10) (hw _ (List.mem_of_getElem? (i := 34) rfl)) (by decide)) (by omega)) (own_Str.mono (Str10.keepX KK11 (((A7.keep KK8).keep KK9).keep KK10) (hw _ (List.mem_of_getElem? (i := 34) rfl)) (by decide)) (by omega)) O2 P5) Z10 (hw _ (List.mem_of_getElem? (i := 70) rfl)) (hw _ (List.mem_of_getElem? (i := 35) rfl)) (by decide) (by decide)) q20a q20c (g := (mkF m 138 #[.val (.int p0), .val (.int p1), .val (.int p2), .val (.int p3), .val (.int p4), .val (.int p5), .val (.int r0), .val (.int r1), .val (.int r2), .val (.ref a1), .val (.ref b2), .val (.ref b7), .val (.int (0 : Int32)), .unset, .unset, .unset, .unset, .unset] [(.ref b7), (.ref b2)])) rfl (by rw [hml]; rfl) (Steps.refl _) (argsL := [(.ref b7)]) (rest := []) (lenOf own_pd5 rfl) rfl (by show 2 * 0 + _ ≤ _; exact Nat.le_of_eq rfl) (hb hby at_138) (fun _ _ => ⟨rfl, sm14, (by decide : 30 + 0 ≤ _), (by decide : 118 + 0 ≤ _)⟩)
          dsimp only [Pt.U, Pt.locs, Pt.cells, Pt.slots] at X20 l20 y20 z20 st20 hQ20
          subst l20 y20 z20
          obtain ⟨hr20, Nq20, sm20⟩ := hQ20
          obtain ⟨rfl, ee20⟩ := hr20.resolve_left (fun q => (fun q => eq14 q.2.2) q.2)
          have N20 := Fr.app N14 Nq20
          refine own_st (fun tq kq => st20.trans kq) ?_
          show own_G p e below _ (T20.setTop (mkF m 141 #[.val (.int p0), .val (.int p1), .val (.int p2), .val (.int p3), .val (.int p4), .val (.int p5), .val (.int r0), .val (.int r1), .val (.int r2), .val (.ref a1), .val (.ref b2), .val (.ref b7), .val (.int (0 : Int32)), .unset, .unset, .unset, .unset, .unset] [(.int (0 : Int32))]))
          refine own_st (fun tq kq => XS.istore X20.here hx rfl (hb hby at_141) rfl (l' := #[.val (.int p0), .val (.int p1), .val (.int p2), .val (.int p3), .val (.int p4), .val (.int p5), .val (.int r0), .val (.int r1), .val (.int r2), .val (.ref a1), .val (.ref b2), .val (.ref b7), .val (.int (0 : Int32)), .val (.int (0 : Int32)), .unset, .unset, .unset, .unset]) rfl kq) ?_
          refine own_st (fun tq kq => XS.aload X20.here hx rfl (hb hby at_143) rfl rfl kq) ?_
          refine own_st (fun tq kq => XS.aload X20.here hx rfl (hb hby at_145) rfl rfl kq) ?_
          show own_G p e below _ (T20.setTop (mkF m 147 #[.val (.int p0), .val (.int p1), .val (.int p2), .val (.int p3), .val (.int p4), .val (.int p5), .val (.int r0), .val (.int r1), .val (.int r2), .val (.ref a1), .val (.ref b2), .val (.ref b7), .val (.int (0 : Int32)), .val (.int (0 : Int32)), .unset, .unset, .unset, .unset] [(.ref b2), (.ref b7)]))
          obtain ⟨cq21, kq21, q21a, q21b, q21c⟩ := isOf Z10 sm20 ((((A7.keep KK8).keep KK9).keep KK10).keep KK11)
          obtain ⟨_, _, ⟨T21, L21, k21, n21⟩, -, X21, ⟨Lc21, hQ21, l21, y21, z21⟩, st21⟩ := X20.virtualBack hx (y := (⟨"com/example/garm/garm/SecurityTarget$Choice", "equals", "(Ljava/lang/Object;)Z"⟩ : MethodName)) (z := (⟨"com/example/garm/garm/SecurityTarget$Choice", "equals", "(Ljava/lang/Object;)Z"⟩ : MethodName)) o10 (mvT Z10 (hw _ (List.mem_of_getElem? (i := 66) rfl))) (mvT Z10 (hw _ (List.mem_of_getElem? (i := 67) rfl))) (notFace_of_selects (args := #[]) (mvT Z10 (hw _ (List.mem_of_getElem? (i := 69) rfl)))) (mvT Z10 (hw _ (List.mem_of_getElem? (i := 69) rfl))) (mvT Z10 (hw _ (List.mem_of_getElem? (i := 68) rfl))) (by decide) (own_backN (W := 0) (own_eqC l Z a0 hw [] (b7) (b2) (a8) (a9) (a10) (a3) (a4) (a5) ((own_str r0)) ((own_str r1)) ((own_str r2)) ((own_str p0)) ((own_str p1)) ((own_str p2)) (T11.heap.size) (G1) T11.heap n0 (by omega) (X00.keep K11 all0) (((((((((A2.keep KK3).keep KK4).keep KK5).keep KK6).ext E7).keep KK8).keep KK9).keep KK10).keep KK11) Ff0_11 Ff1_11 Ff2_11 (((((Ff0_6.ext E7).keep KK8 nin0).keep KK9 nin0).keep KK10 nin0).keep KK11 (ninS (own_ne (by omega)) nin0)) (((((Ff1_6.ext E7).keep KK8 nin0).keep KK9 nin0).keep KK10 nin0).keep KK11 (ninS (own_ne (by omega)) nin0)) (((((Ff2_6.ext E7).keep KK8 nin0).keep KK9 nin0).keep KK10 nin0).keep KK11 (ninS (own_ne (by omega)) nin0)) (own_Str.mono (((Str8.keep KK9 all0).keep KK10 all0).keepX KK11 (((A7.keep KK8).keep KK9).keep KK10) (hw _ (List.mem_of_getElem? (i := 34) rfl)) (by decide)) (by omega)) (own_Str.mono ((Str9.keep KK10 all0).keepX KK11 (((A7.keep KK8).keep KK9).keep KK10) (hw _ (List.mem_of_getElem? (i := 34) rfl)) (by decide)) (by omega)) (own_Str.mono (Str10.keepX KK11 (((A7.keep KK8).keep KK9).keep KK10) (hw _ (List.mem_of_getElem? (i := 34) rfl)) (by decide)) (by omega)) (own_Str.mono ((((((((Str3.keep KK4 all0).keep KK5 all0).keepX KK6 (((A2.keep KK3).keep KK4).keep KK5) (hw _ (List.mem_of_getElem? (i := 34) rfl)) (by decide)).ext E7).keep KK8 all0).keep KK9 all0).keep KK10 all0).keepX KK11 (((A7.keep KK8).keep KK9).keep KK10) (hw _ (List.mem_of_getElem? (i := 34) rfl)) (by decide)) (by omega)) (own_Str.mono (((((((Str4.keep KK5 all0).keepX KK6 (((A2.keep KK3).keep KK4).keep KK5) (hw _ (List.mem_of_getElem? (i := 34) rfl)) (by decide)).ext E7).keep KK8 all0).keep KK9 all0).keep KK10 all0).keepX KK11 (((A7.keep KK8).keep KK9).keep KK10) (hw _ (List.mem_of_getElem? (i := 34) rfl)) (by decide)) (by omega)) (own_Str.mono ((((((Str5.keepX KK6 (((A2.keep KK3).keep KK4).keep KK5) (hw _ (List.mem_of_getElem? (i := 34) rfl)) (by decide)).ext E7).keep KK8 all0).keep KK9 all0).keep KK10 all0).keepX KK11 (((A7.keep KK8).keep KK9).keep KK10) (hw _ (List.mem_of_getElem? (i := 34) rfl)) (by decide)) (by omega)) O2 P5) Z10 (hw _ (List.mem_of_getElem? (i := 70) rfl)) (hw _ (List.mem_of_getElem? (i := 35) rfl)) (by decide) (by decide)) q21a q21c (g := (mkF m 147 #[.val (.int p0), .val (.int p1), .val (.int p2), .val (.int p3), .val (.int p4), .val (.int p5), .val (.int r0), .val (.int r1), .val (.int r2), .val (.ref a1), .val (.ref b2), .val (.ref b7), .val (.int (0 : Int32)), .val (.int (0 : Int32)), .unset, .unset, .unset, .unset] [(.ref b2), (.ref b7)])) rfl (by rw [hml]; rfl) (Steps.refl _) (argsL := [(.ref b2)]) (rest := []) (lenOf own_pd5 rfl) rfl (by show 2 * 0 + _ ≤ _; exact Nat.le_of_eq rfl) (hb hby at_147) (fun _ _ => ⟨rfl, sm20, (by decide : 30 + 0 ≤ _), (by decide : 118 + 0 ≤ _)⟩)
          dsimp only [Pt.U, Pt.locs, Pt.cells, Pt.slots] at X21 l21 y21 z21 st21 hQ21
          subst l21 y21 z21
          obtain ⟨hr21, Nq21, sm21⟩ := hQ21
          obtain ⟨rfl, ee21⟩ := hr21.resolve_left (fun q => (fun q => eq14 (q.2.2).symm) q.2)
          have N21 := Fr.app N20 Nq21
          refine own_st (fun tq kq => st21.trans kq) ?_
          show own_G p e below _ (T21.setTop (mkF m 150 #[.val (.int p0), .val (.int p1), .val (.int p2), .val (.int p3), .val (.int p4), .val (.int p5), .val (.int r0), .val (.int r1), .val (.int r2), .val (.ref a1), .val (.ref b2), .val (.ref b7), .val (.int (0 : Int32)), .val (.int (0 : Int32)), .unset, .unset, .unset, .unset] [(.int (0 : Int32))]))
          refine own_st (fun tq kq => XS.istore X21.here hx rfl (hb hby at_150) rfl (l' := #[.val (.int p0), .val (.int p1), .val (.int p2), .val (.int p3), .val (.int p4), .val (.int p5), .val (.int r0), .val (.int r1), .val (.int r2), .val (.ref a1), .val (.ref b2), .val (.ref b7), .val (.int (0 : Int32)), .val (.int (0 : Int32)), .val (.int (0 : Int32)), .unset, .unset, .unset]) rfl kq) ?_
          refine own_st (fun tq kq => XS.aload X21.here hx rfl (hb hby at_152) rfl rfl kq) ?_
          refine own_st (fun tq kq => XS.aload X21.here hx rfl (hb hby at_154) rfl rfl kq) ?_
          show own_G p e below _ (T21.setTop (mkF m 156 #[.val (.int p0), .val (.int p1), .val (.int p2), .val (.int p3), .val (.int p4), .val (.int p5), .val (.int r0), .val (.int r1), .val (.int r2), .val (.ref a1), .val (.ref b2), .val (.ref b7), .val (.int (0 : Int32)), .val (.int (0 : Int32)), .val (.int (0 : Int32)), .unset, .unset, .unset] [(.ref b2), (.ref b2)]))
          obtain ⟨cq22, kq22, q22a, q22b, q22c⟩ := isOf Z10 sm21 (((((((((A2.keep KK3).keep KK4).keep KK5).keep KK6).ext E7).keep KK8).keep KK9).keep KK10).keep KK11)
          obtain ⟨_, _, ⟨T22, L22, k22, n22⟩, -, X22, ⟨Lc22, hQ22, l22, y22, z22⟩, st22⟩ := X21.virtualBack hx (y := (⟨"com/example/garm/garm/SecurityTarget$Choice", "equals", "(Ljava/lang/Object;)Z"⟩ : MethodName)) (z := (⟨"com/example/garm/garm/SecurityTarget$Choice", "equals", "(Ljava/lang/Object;)Z"⟩ : MethodName)) o10 (mvT Z10 (hw _ (List.mem_of_getElem? (i := 66) rfl))) (mvT Z10 (hw _ (List.mem_of_getElem? (i := 67) rfl))) (notFace_of_selects (args := #[]) (mvT Z10 (hw _ (List.mem_of_getElem? (i := 69) rfl)))) (mvT Z10 (hw _ (List.mem_of_getElem? (i := 69) rfl))) (mvT Z10 (hw _ (List.mem_of_getElem? (i := 68) rfl))) (by decide) (own_backN (W := 0) (own_eqC l Z a0 hw [] (b2) (b2) (a3) (a4) (a5) (a3) (a4) (a5) ((own_str p0)) ((own_str p1)) ((own_str p2)) ((own_str p0)) ((own_str p1)) ((own_str p2)) (T11.heap.size) (G1) T11.heap n0 (by omega) (X00.keep K11 all0) (((((((((A2.keep KK3).keep KK4).keep KK5).keep KK6).ext E7).keep KK8).keep KK9).keep KK10).keep KK11) (((((Ff0_6.ext E7).keep KK8 nin0).keep KK9 nin0).keep KK10 nin0).keep KK11 (ninS (own_ne (by omega)) nin0)) (((((Ff1_6.ext E7).keep KK8 nin0).keep KK9 nin0).keep KK10 nin0).keep KK11 (ninS (own_ne (by omega)) nin0)) (((((Ff2_6.ext E7).keep KK8 nin0).keep KK9 nin0).keep KK10 nin0).keep KK11 (ninS (own_ne (by omega)) nin0)) (((((Ff0_6.ext E7).keep KK8 nin0).keep KK9 nin0).keep KK10 nin0).keep KK11 (ninS (own_ne (by omega)) nin0)) (((((Ff1_6.ext E7).keep KK8 nin0).keep KK9 nin0).keep KK10 nin0).keep KK11 (ninS (own_ne (by omega)) nin0)) (((((Ff2_6.ext E7).keep KK8 nin0).keep KK9 nin0).keep KK10 nin0).keep KK11 (ninS (own_ne (by omega)) nin0)) (own_Str.mono ((((((((Str3.keep KK4 all0).keep KK5 all0).keepX KK6 (((A2.keep KK3).keep KK4).keep KK5) (hw _ (List.mem_of_getElem? (i := 34) rfl)) (by decide)).ext E7).keep KK8 all0).keep KK9 all0).keep KK10 all0).keepX KK11 (((A7.keep KK8).keep KK9).keep KK10) (hw _ (List.mem_of_getElem? (i := 34) rfl)) (by decide)) (by omega)) (own_Str.mono (((((((Str4.keep KK5 all0).keepX KK6 (((A2.keep KK3).keep KK4).keep KK5) (hw _ (List.mem_of_getElem? (i := 34) rfl)) (by decide)).ext E7).keep KK8 all0).keep KK9 all0).keep KK10 all0).keepX KK11 (((A7.keep KK8).keep KK9).keep KK10) (hw _ (List.mem_of_getElem? (i := 34) rfl)) (by decide)) (by omega)) (own_Str.mono ((((((Str5.keepX KK6 (((A2.keep KK3).keep KK4).keep KK5) (hw _ (List.mem_of_getElem? (i := 34) rfl)) (by decide)).ext E7).keep KK8 all0).keep KK9 all0).keep KK10 all0).keepX KK11 (((A7.keep KK8).keep KK9).keep KK10) (hw _ (List.mem_of_getElem? (i := 34) rfl)) (by decide)) (by omega)) (own_Str.mono ((((((((Str3.keep KK4 all0).keep KK5 all0).keepX KK6 (((A2.keep KK3).keep KK4).keep KK5) (hw _ (List.mem_of_getElem? (i := 34) rfl)) (by decide)).ext E7).keep KK8 all0).keep KK9 all0).keep KK10 all0).keepX KK11 (((A7.keep KK8).keep KK9).keep KK10) (hw _ (List.mem_of_getElem? (i := 34) rfl)) (by decide)) (by omega)) (own_Str.mono (((((((Str4.keep KK5 all0).keepX KK6 (((A2.keep KK3).keep KK4).keep KK5) (hw _ (List.mem_of_getElem? (i := 34) rfl)) (by decide)).ext E7).keep KK8 all0).keep KK9 all0).keep KK10 all0).keepX KK11 (((A7.keep KK8).keep KK9).keep KK10) (hw _ (List.mem_of_getElem? (i := 34) rfl)) (by decide)) (by omega)) (own_Str.mono ((((((Str5.keepX KK6 (((A2.keep KK3).keep KK4).keep KK5) (hw _ (List.mem_of_getElem? (i := 34) rfl)) (by decide)).ext E7).keep KK8 all0).keep KK9 all0).keep KK10 all0).keepX KK11 (((A7.keep KK8).keep KK9).keep KK10) (hw _ (List.mem_of_getElem? (i := 34) rfl)) (by decide)) (by omega)) O2 P5) Z10 (hw _ (List.mem_of_getElem? (i := 70) rfl)) (hw _ (List.mem_of_getElem? (i := 35) rfl)) (by decide) (by decide)) q22a q22c (g := (mkF m 156 #[.val (.int p0), .val (.int p1), .val (.int p2), .val (.int p3), .val (.int p4), .val (.int p5), .val (.int r0), .val (.int r1), .val (.int r2), .val (.ref a1), .val (.ref b2), .val (.ref b7), .val (.int (0 : Int32)), .val (.int (0 : Int32)), .val (.int (0 : Int32)), .unset, .unset, .unset] [(.ref b2), (.ref b2)])) rfl (by rw [hml]; rfl) (Steps.refl _) (argsL := [(.ref b2)]) (rest := []) (lenOf own_pd5 rfl) rfl (by show 2 * 0 + _ ≤ _; exact Nat.le_of_eq rfl) (hb hby at_156) (fun _ _ => ⟨rfl, sm21, (by decide : 30 + 0 ≤ _), (by decide : 118 + 0 ≤ _)⟩)
          dsimp only [Pt.U, Pt.locs, Pt.cells, Pt.slots] at X22 l22 y22 z22 st22 hQ22
          subst l22 y22 z22
          obtain ⟨hr22, Nq22, sm22⟩ := hQ22
          obtain ⟨rfl, ee22⟩ := hr22.resolve_right (fun q => q.2 ⟨rfl, rfl, rfl⟩)
          have N22 := Fr.app N21 Nq22
          refine own_st (fun tq kq => st22.trans kq) ?_
          show own_G p e below _ (T22.setTop (mkF m 159 #[.val (.int p0), .val (.int p1), .val (.int p2), .val (.int p3), .val (.int p4), .val (.int p5), .val (.int r0), .val (.int r1), .val (.int r2), .val (.ref a1), .val (.ref b2), .val (.ref b7), .val (.int (0 : Int32)), .val (.int (0 : Int32)), .val (.int (0 : Int32)), .unset, .unset, .unset] [(.int (1 : Int32))]))
          refine own_st (fun tq kq => XS.istore X22.here hx rfl (hb hby at_159) rfl (l' := #[.val (.int p0), .val (.int p1), .val (.int p2), .val (.int p3), .val (.int p4), .val (.int p5), .val (.int r0), .val (.int r1), .val (.int r2), .val (.ref a1), .val (.ref b2), .val (.ref b7), .val (.int (0 : Int32)), .val (.int (0 : Int32)), .val (.int (0 : Int32)), .val (.int (1 : Int32)), .unset, .unset]) rfl kq) ?_
          refine own_st (fun tq kq => XS.aload X22.here hx rfl (hb hby at_161) rfl rfl kq) ?_
          refine own_st (fun tq kq => XS.aconstNull X22.here hx rfl (hb hby at_163) kq) ?_
          show own_G p e below _ (T22.setTop (mkF m 164 #[.val (.int p0), .val (.int p1), .val (.int p2), .val (.int p3), .val (.int p4), .val (.int p5), .val (.int r0), .val (.int r1), .val (.int r2), .val (.ref a1), .val (.ref b2), .val (.ref b7), .val (.int (0 : Int32)), .val (.int (0 : Int32)), .val (.int (0 : Int32)), .val (.int (1 : Int32)), .unset, .unset] [.null, (.ref b2)]))
          obtain ⟨cq23, kq23, q23a, q23b, q23c⟩ := isOf Z10 sm22 (((((((((A2.keep KK3).keep KK4).keep KK5).keep KK6).ext E7).keep KK8).keep KK9).keep KK10).keep KK11)
          obtain ⟨_, _, ⟨T23, L23, k23, n23⟩, -, X23, ⟨Lc23, hQ23, l23, y23, z23⟩, st23⟩ := X22.virtualBack hx (y := (⟨"com/example/garm/garm/SecurityTarget$Choice", "equals", "(Ljava/lang/Object;)Z"⟩ : MethodName)) (z := (⟨"com/example/garm/garm/SecurityTarget$Choice", "equals", "(Ljava/lang/Object;)Z"⟩ : MethodName)) o10 (mvT Z10 (hw _ (List.mem_of_getElem? (i := 66) rfl))) (mvT Z10 (hw _ (List.mem_of_getElem? (i := 67) rfl))) (notFace_of_selects (args := #[]) (mvT Z10 (hw _ (List.mem_of_getElem? (i := 69) rfl)))) (mvT Z10 (hw _ (List.mem_of_getElem? (i := 69) rfl))) (mvT Z10 (hw _ (List.mem_of_getElem? (i := 68) rfl))) (by decide) (own_backN (W := 0) (own_eqN l Z a0 hw [] (b2) T11.heap n0 (by omega) (X00.keep K11 all0) ) Z10 (hw _ (List.mem_of_getElem? (i := 70) rfl)) (hw _ (List.mem_of_getElem? (i := 35) rfl)) (by decide) (by decide)) q23a q23c (g := (mkF m 164 #[.val (.int p0), .val (.int p1), .val (.int p2), .val (.int p3), .val (.int p4), .val (.int p5), .val (.int r0), .val (.int r1), .val (.int r2), .val (.ref a1), .val (.ref b2), .val (.ref b7), .val (.int (0 : Int32)), .val (.int (0 : Int32)), .val (.int (0 : Int32)), .val (.int (1 : Int32)), .unset, .unset] [.null, (.ref b2)])) rfl (by rw [hml]; rfl) (Steps.refl _) (argsL := [.null]) (rest := []) (lenOf own_pd5 rfl) rfl (by show 2 * 0 + _ ≤ _; exact Nat.le_of_eq rfl) (hb hby at_164) (fun _ _ => ⟨rfl, sm22, (by decide : 30 + 0 ≤ _), (by decide : 118 + 0 ≤ _)⟩)
          dsimp only [Pt.U, Pt.locs, Pt.cells, Pt.slots] at X23 l23 y23 z23 st23 hQ23
          subst l23 y23 z23
          obtain ⟨rfl, Nq23, sm23⟩ := hQ23
          have N23 := Fr.app N22 Nq23
          refine own_st (fun tq kq => st23.trans kq) ?_
          show own_G p e below _ (T23.setTop (mkF m 167 #[.val (.int p0), .val (.int p1), .val (.int p2), .val (.int p3), .val (.int p4), .val (.int p5), .val (.int r0), .val (.int r1), .val (.int r2), .val (.ref a1), .val (.ref b2), .val (.ref b7), .val (.int (0 : Int32)), .val (.int (0 : Int32)), .val (.int (0 : Int32)), .val (.int (1 : Int32)), .unset, .unset] [(.int (0 : Int32))]))
          refine own_st (fun tq kq => XS.istore X23.here hx rfl (hb hby at_167) rfl (l' := #[.val (.int p0), .val (.int p1), .val (.int p2), .val (.int p3), .val (.int p4), .val (.int p5), .val (.int r0), .val (.int r1), .val (.int r2), .val (.ref a1), .val (.ref b2), .val (.ref b7), .val (.int (0 : Int32)), .val (.int (0 : Int32)), .val (.int (0 : Int32)), .val (.int (1 : Int32)), .val (.int (0 : Int32)), .unset]) rfl kq) ?_
          refine own_st (fun tq kq => XS.aload X23.here hx rfl (hb hby at_169) rfl rfl kq) ?_
          refine own_st (fun tq kq => XS.aload X23.here hx rfl (hb hby at_171) rfl rfl kq) ?_
          show own_G p e below _ (T23.setTop (mkF m 173 #[.val (.int p0), .val (.int p1), .val (.int p2), .val (.int p3), .val (.int p4), .val (.int p5), .val (.int r0), .val (.int r1), .val (.int r2), .val (.ref a1), .val (.ref b2), .val (.ref b7), .val (.int (0 : Int32)), .val (.int (0 : Int32)), .val (.int (0 : Int32)), .val (.int (1 : Int32)), .val (.int (0 : Int32)), .unset] [(.ref a1), (.ref b2)]))
          obtain ⟨cq24, kq24, q24a, q24b, q24c⟩ := isOf Z10 sm23 (((((((((A2.keep KK3).keep KK4).keep KK5).keep KK6).ext E7).keep KK8).keep KK9).keep KK10).keep KK11)
          obtain ⟨_, _, ⟨T24, L24, k24, n24⟩, -, X24, ⟨Lc24, hQ24, l24, y24, z24⟩, st24⟩ := X23.virtualBack hx (y := (⟨"com/example/garm/garm/SecurityTarget$Choice", "equals", "(Ljava/lang/Object;)Z"⟩ : MethodName)) (z := (⟨"com/example/garm/garm/SecurityTarget$Choice", "equals", "(Ljava/lang/Object;)Z"⟩ : MethodName)) o10 (mvT Z10 (hw _ (List.mem_of_getElem? (i := 66) rfl))) (mvT Z10 (hw _ (List.mem_of_getElem? (i := 67) rfl))) (notFace_of_selects (args := #[]) (mvT Z10 (hw _ (List.mem_of_getElem? (i := 69) rfl)))) (mvT Z10 (hw _ (List.mem_of_getElem? (i := 69) rfl))) (mvT Z10 (hw _ (List.mem_of_getElem? (i := 68) rfl))) (by decide) (own_backN (W := 0) (own_eqS l Z a0 hw [] (b2) (a1) T11.heap n0 (by omega) (X00.keep K11 all0) ((((((((((Str1.2.1.ext E2).keep KK3).keep KK4).keep KK5).keep KK6).ext E7).keep KK8).keep KK9).keep KK10).keep KK11)) Z10 (hw _ (List.mem_of_getElem? (i := 70) rfl)) (hw _ (List.mem_of_getElem? (i := 35) rfl)) (by decide) (by decide)) q24a q24c (g := (mkF m 173 #[.val (.int p0), .val (.int p1), .val (.int p2), .val (.int p3), .val (.int p4), .val (.int p5), .val (.int r0), .val (.int r1), .val (.int r2), .val (.ref a1), .val (.ref b2), .val (.ref b7), .val (.int (0 : Int32)), .val (.int (0 : Int32)), .val (.int (0 : Int32)), .val (.int (1 : Int32)), .val (.int (0 : Int32)), .unset] [(.ref a1), (.ref b2)])) rfl (by rw [hml]; rfl) (Steps.refl _) (argsL := [(.ref a1)]) (rest := []) (lenOf own_pd5 rfl) rfl (by show 2 * 0 + _ ≤ _; exact Nat.le_of_eq rfl) (hb hby at_173) (fun _ _ => ⟨rfl, sm23, (by decide : 30 + 0 ≤ _), (by decide : 118 + 0 ≤ _)⟩)
          dsimp only [Pt.U, Pt.locs, Pt.cells, Pt.slots] at X24 l24 y24 z24 st24 hQ24
          subst l24 y24 z24
          obtain ⟨rfl, Nq24, sm24⟩ := hQ24
          have N24 := Fr.app N23 Nq24
          refine own_st (fun tq kq => st24.trans kq) ?_
          show own_G p e below _ (T24.setTop (mkF m 176 #[.val (.int p0), .val (.int p1), .val (.int p2), .val (.int p3), .val (.int p4), .val (.int p5), .val (.int r0), .val (.int r1), .val (.int r2), .val (.ref a1), .val (.ref b2), .val (.ref b7), .val (.int (0 : Int32)), .val (.int (0 : Int32)), .val (.int (0 : Int32)), .val (.int (1 : Int32)), .val (.int (0 : Int32)), .unset] [(.int (0 : Int32))]))
          refine own_st (fun tq kq => XS.istore X24.here hx rfl (hb hby at_176) rfl (l' := #[.val (.int p0), .val (.int p1), .val (.int p2), .val (.int p3), .val (.int p4), .val (.int p5), .val (.int r0), .val (.int r1), .val (.int r2), .val (.ref a1), .val (.ref b2), .val (.ref b7), .val (.int (0 : Int32)), .val (.int (0 : Int32)), .val (.int (0 : Int32)), .val (.int (1 : Int32)), .val (.int (0 : Int32)), .val (.int (0 : Int32))]) rfl kq) ?_
          refine own_st (fun tq kq => XS.iload X24.here hx rfl (hb hby at_178) rfl  kq) ?_
          refine own_st (fun tq kq => XS.iload X24.here hx rfl (hb hby at_180) rfl  kq) ?_
          show own_G p e below _ (T24.setTop (mkF m 182 #[.val (.int p0), .val (.int p1), .val (.int p2), .val (.int p3), .val (.int p4), .val (.int p5), .val (.int r0), .val (.int r1), .val (.int r2), .val (.ref a1), .val (.ref b2), .val (.ref b7), .val (.int (0 : Int32)), .val (.int (0 : Int32)), .val (.int (0 : Int32)), .val (.int (1 : Int32)), .val (.int (0 : Int32)), .val (.int (0 : Int32))] [(.int (0 : Int32)), (.int (0 : Int32))]))
          refine own_st (fun tq kq => XS.icmpNo X24.here hx rfl (hb hby at_182) rfl (teq (by decide : ((0 : Int32) = (0 : Int32)))).2 kq) ?_
          refine own_st (fun tq kq => XS.iload X24.here hx rfl (hb hby at_185) rfl  kq) ?_
          refine own_st (fun tq kq => XS.iload X24.here hx rfl (hb hby at_187) rfl  kq) ?_
          show own_G p e below _ (T24.setTop (mkF m 189 #[.val (.int p0), .val (.int p1), .val (.int p2), .val (.int p3), .val (.int p4), .val (.int p5), .val (.int r0), .val (.int r1), .val (.int r2), .val (.ref a1), .val (.ref b2), .val (.ref b7), .val (.int (0 : Int32)), .val (.int (0 : Int32)), .val (.int (0 : Int32)), .val (.int (1 : Int32)), .val (.int (0 : Int32)), .val (.int (0 : Int32))] [(.int (0 : Int32)), (.int (0 : Int32))]))
          refine own_st (fun tq kq => XS.icmpNo X24.here hx rfl (hb hby at_189) rfl (teq (by decide : ((0 : Int32) = (0 : Int32)))).2 kq) ?_
          refine own_st (fun tq kq => XS.iload X24.here hx rfl (hb hby at_192) rfl  kq) ?_
          show own_G p e below _ (T24.setTop (mkF m 194 #[.val (.int p0), .val (.int p1), .val (.int p2), .val (.int p3), .val (.int p4), .val (.int p5), .val (.int r0), .val (.int r1), .val (.int r2), .val (.ref a1), .val (.ref b2), .val (.ref b7), .val (.int (0 : Int32)), .val (.int (0 : Int32)), .val (.int (0 : Int32)), .val (.int (1 : Int32)), .val (.int (0 : Int32)), .val (.int (0 : Int32))] [(.int (1 : Int32))]))
          refine own_st (fun tq kq => XS.ifNo X24.here hx rfl (hb hby at_194) rfl ((if0 _ _).trans (feq (by decide : ¬ ((1 : Int32) = (0 : Int32)))).1) kq) ?_
          refine own_st (fun tq kq => XS.iload X24.here hx rfl (hb hby at_197) rfl  kq) ?_
          show own_G p e below _ (T24.setTop (mkF m 199 #[.val (.int p0), .val (.int p1), .val (.int p2), .val (.int p3), .val (.int p4), .val (.int p5), .val (.int r0), .val (.int r1), .val (.int r2), .val (.ref a1), .val (.ref b2), .val (.ref b7), .val (.int (0 : Int32)), .val (.int (0 : Int32)), .val (.int (0 : Int32)), .val (.int (1 : Int32)), .val (.int (0 : Int32)), .val (.int (0 : Int32))] [(.int (0 : Int32))]))
          refine own_st (fun tq kq => XS.ifNo X24.here hx rfl (hb hby at_199) rfl ((if0 _ _).trans (teq (by decide : ((0 : Int32) = (0 : Int32)))).2) kq) ?_
          refine own_st (fun tq kq => XS.iload X24.here hx rfl (hb hby at_202) rfl  kq) ?_
          show own_G p e below _ (T24.setTop (mkF m 204 #[.val (.int p0), .val (.int p1), .val (.int p2), .val (.int p3), .val (.int p4), .val (.int p5), .val (.int r0), .val (.int r1), .val (.int r2), .val (.ref a1), .val (.ref b2), .val (.ref b7), .val (.int (0 : Int32)), .val (.int (0 : Int32)), .val (.int (0 : Int32)), .val (.int (1 : Int32)), .val (.int (0 : Int32)), .val (.int (0 : Int32))] [(.int (0 : Int32))]))
          refine own_st (fun tq kq => XS.ifNo X24.here hx rfl (hb hby at_204) rfl ((if0 _ _).trans (teq (by decide : ((0 : Int32) = (0 : Int32)))).2) kq) ?_
          refine own_st (fun tq kq => XS.iconst X24.here hx rfl (hb hby at_207) kq) ?_
          refine own_st (fun tq kq => XS.goto X24.here hx rfl (pc0 := 208) (pc' := 212) rfl (hb hby at_208) (by decide) (by decide) kq) ?_
          show own_G p e below _ (T24.setTop (mkF m 212 #[.val (.int p0), .val (.int p1), .val (.int p2), .val (.int p3), .val (.int p4), .val (.int p5), .val (.int r0), .val (.int r1), .val (.int r2), .val (.ref a1), .val (.ref b2), .val (.ref b7), .val (.int (0 : Int32)), .val (.int (0 : Int32)), .val (.int (0 : Int32)), .val (.int (1 : Int32)), .val (.int (0 : Int32)), .val (.int (0 : Int32))] [(.int (1 : Int32))]))
          obtain ⟨fs, hr, hrun, hended, hRW⟩ := X24.leaveW S10 (by rw [sm24]; exact (own_le (by omega))) (v := some (.int (1 : Int32))) (fun h => by rw [Bd.returns] at h; cases h)
          have cE := C11.trans (CHv.at (s := s) (vm0 := T10.vm) X24 Z10 hEL C11.1)
          refine ⟨_, _, retN X24 hx (t := .boolean) Bd.returns (by simp) (hb hby at_212) hr, hrun, hended, _, _, rfl, ?_, ?_, own_RW hRW (by decide) (by decide)⟩
          · change (fun (v : Option Value) (_ : Vm) (h : Heap) (L : List Loc) => v = some (.int (1 : Int32)) ∧ Fr n0 L) (some (.int (1 : Int32))) T24.vm T24.heap _; rw [sm24]; exact ⟨rfl, N24⟩
          · rw [hh]; change CHr Z consts_1 s.vm h0 T24.vm T24.heap; rw [sm24]; exact cE
      ·
        refine own_st st13 ?_
        show own_G p e below _ (T13.setTop (mkF m 115 #[.val (.int p0), .val (.int p1), .val (.int p2), .val (.int p3), .val (.int p4), .val (.int p5), .val (.int r0), .val (.int r1), .val (.int r2), .val (.ref a1), .val (.ref b2), .val (.ref b7), .unset, .unset, .unset, .unset, .unset, .unset] [(.int (0 : Int32))]))
        refine own_st (fun tq kq => XS.ifYes X13.here hx rfl (pc0 := 115) (pc' := 131) rfl (hb hby at_115) rfl ((if0 _ _).trans (teq (by decide : ((0 : Int32) = (0 : Int32)))).1) (by decide) (by decide) kq) ?_
        refine own_st (fun tq kq => XS.iconst X13.here hx rfl (hb hby at_131) kq) ?_
        refine own_st (fun tq kq => XS.istore X13.here hx rfl (hb hby at_132) rfl (l' := #[.val (.int p0), .val (.int p1), .val (.int p2), .val (.int p3), .val (.int p4), .val (.int p5), .val (.int r0), .val (.int r1), .val (.int r2), .val (.ref a1), .val (.ref b2), .val (.ref b7), .val (.int (0 : Int32)), .unset, .unset, .unset, .unset, .unset]) rfl kq) ?_
        refine own_st (fun tq kq => XS.aload X13.here hx rfl (hb hby at_134) rfl rfl kq) ?_
        show own_G p e below _ (T13.setTop (mkF m 136 #[.val (.int p0), .val (.int p1), .val (.int p2), .val (.int p3), .val (.int p4), .val (.int p5), .val (.int r0), .val (.int r1), .val (.int r2), .val (.ref a1), .val (.ref b2), .val (.ref b7), .val (.int (0 : Int32)), .unset, .unset, .unset, .unset, .unset] [(.ref b2)]))
        refine own_st (fun tq kq => XS.aload X13.here hx rfl (hb hby at_136) rfl rfl kq) ?_
        show own_G p e below _ (T13.setTop (mkF m 138 #[.val (.int p0), .val (.int p1), .val (.int p2), .val (.int p3), .val (.int p4), .val (.int p5), .val (.int r0), .val (.int r1), .val (.int r2), .val (.ref a1), .val (.ref b2), .val (.ref b7), .val (.int (0 : Int32)), .unset, .unset, .unset, .unset, .unset] [(.ref b7), (.ref b2)]))
        obtain ⟨cq25, kq25, q25a, q25b, q25c⟩ := isOf Z10 sm13 (((((((((A2.keep KK3).keep KK4).keep KK5).keep KK6).ext E7).keep KK8).keep KK9).keep KK10).keep KK11)
        obtain ⟨_, _, ⟨T25, L25, k25, n25⟩, -, X25, ⟨Lc25, hQ25, l25, y25, z25⟩, st25⟩ := X13.virtualBack hx (y := (⟨"com/example/garm/garm/SecurityTarget$Choice", "equals", "(Ljava/lang/Object;)Z"⟩ : MethodName)) (z := (⟨"com/example/garm/garm/SecurityTarget$Choice", "equals", "(Ljava/lang/Object;)Z"⟩ : MethodName)) o10 (mvT Z10 (hw _ (List.mem_of_getElem? (i := 66) rfl))) (mvT Z10 (hw _ (List.mem_of_getElem? (i := 67) rfl))) (notFace_of_selects (args := #[]) (mvT Z10 (hw _ (List.mem_of_getElem? (i := 69) rfl)))) (mvT Z10 (hw _ (List.mem_of_getElem? (i := 69) rfl))) (mvT Z10 (hw _ (List.mem_of_getElem? (i := 68) rfl))) (by decide) (own_backN (W := 0) (own_eqC l Z a0 hw [] (b2) (b7) (a3) (a4) (a5) (a8) (a9) (a10) ((own_str p0)) ((own_str p1)) ((own_str p2)) ((own_str r0)) ((own_str r1)) ((own_str r2)) (T11.heap.size) (G1) T11.heap n0 (by omega) (X00.keep K11 all0) ((((A7.keep KK8).keep KK9).keep KK10).keep KK11) (((((Ff0_6.ext E7).keep KK8 nin0).keep KK9 nin0).keep KK10 nin0).keep KK11 (ninS (own_ne (by omega)) nin0)) (((((Ff1_6.ext E7).keep KK8 nin0).keep KK9 nin0).keep KK10 nin0).keep KK11 (ninS (own_ne (by omega)) nin0)) (((((Ff2_6.ext E7).keep KK8 nin0).keep KK9 nin0).keep KK10 nin0).keep KK11 (ninS (own_ne (by omega)) nin0)) Ff0_11 Ff1_11 Ff2_11 (own_Str.mono ((((((((Str3.keep KK4 all0).keep KK5 all0).keepX KK6 (((A2.keep KK3).keep KK4).keep KK5) (hw _ (List.mem_of_getElem? (i := 34) rfl)) (by decide)).ext E7).keep KK8 all0).keep KK9 all0).keep KK10 all0).keepX KK11 (((A7.keep KK8).keep KK9).keep KK10) (hw _ (List.mem_of_getElem? (i := 34) rfl)) (by decide)) (by omega)) (own_Str.mono (((((((Str4.keep KK5 all0).keepX KK6 (((A2.keep KK3).keep KK4).keep KK5) (hw _ (List.mem_of_getElem? (i := 34) rfl)) (by decide)).ext E7).keep KK8 all0).keep KK9 all0).keep KK10 all0).keepX KK11 (((A7.keep KK8).keep KK9).keep KK10) (hw _ (List.mem_of_getElem? (i := 34) rfl)) (by decide)) (by omega)) (own_Str.mono ((((((Str5.keepX KK6 (((A2.keep KK3).keep KK4).keep KK5) (hw _ (List.mem_of_getElem? (i := 34) rfl)) (by decide)).ext E7).keep KK8 all0).keep KK9 all0).keep KK10 all0).keepX KK11 (((A7.keep KK8).keep KK9).keep KK10) (hw _ (List.mem_of_getElem? (i := 34) rfl)) (by decide)) (by omega)) (own_Str.mono (((Str8.keep KK9 all0).keep KK10 all0).keepX KK11 (((A7.keep KK8).keep KK9).keep KK10) (hw _ (List.mem_of_getElem? (i := 34) rfl)) (by decide)) (by omega)) (own_Str.mono ((Str9.keep KK10 all0).keepX KK11 (((A7.keep KK8).keep KK9).keep KK10) (hw _ (List.mem_of_getElem? (i := 34) rfl)) (by decide)) (by omega)) (own_Str.mono (Str10.keepX KK11 (((A7.keep KK8).keep KK9).keep KK10) (hw _ (List.mem_of_getElem? (i := 34) rfl)) (by decide)) (by omega)) O2 P5) Z10 (hw _ (List.mem_of_getElem? (i := 70) rfl)) (hw _ (List.mem_of_getElem? (i := 35) rfl)) (by decide) (by decide)) q25a q25c (g := (mkF m 138 #[.val (.int p0), .val (.int p1), .val (.int p2), .val (.int p3), .val (.int p4), .val (.int p5), .val (.int r0), .val (.int r1), .val (.int r2), .val (.ref a1), .val (.ref b2), .val (.ref b7), .val (.int (0 : Int32)), .unset, .unset, .unset, .unset, .unset] [(.ref b7), (.ref b2)])) rfl (by rw [hml]; rfl) (Steps.refl _) (argsL := [(.ref b7)]) (rest := []) (lenOf own_pd5 rfl) rfl (by show 2 * 0 + _ ≤ _; exact Nat.le_of_eq rfl) (hb hby at_138) (fun _ _ => ⟨rfl, sm13, (by decide : 30 + 0 ≤ _), (by decide : 118 + 0 ≤ _)⟩)
        dsimp only [Pt.U, Pt.locs, Pt.cells, Pt.slots] at X25 l25 y25 z25 st25 hQ25
        subst l25 y25 z25
        obtain ⟨hr25, Nq25, sm25⟩ := hQ25
        obtain ⟨rfl, ee25⟩ := hr25.resolve_left (fun q => (fun q => eq13 q.2.1) q.2)
        have N25 := Fr.app N13 Nq25
        refine own_st (fun tq kq => st25.trans kq) ?_
        show own_G p e below _ (T25.setTop (mkF m 141 #[.val (.int p0), .val (.int p1), .val (.int p2), .val (.int p3), .val (.int p4), .val (.int p5), .val (.int r0), .val (.int r1), .val (.int r2), .val (.ref a1), .val (.ref b2), .val (.ref b7), .val (.int (0 : Int32)), .unset, .unset, .unset, .unset, .unset] [(.int (0 : Int32))]))
        refine own_st (fun tq kq => XS.istore X25.here hx rfl (hb hby at_141) rfl (l' := #[.val (.int p0), .val (.int p1), .val (.int p2), .val (.int p3), .val (.int p4), .val (.int p5), .val (.int r0), .val (.int r1), .val (.int r2), .val (.ref a1), .val (.ref b2), .val (.ref b7), .val (.int (0 : Int32)), .val (.int (0 : Int32)), .unset, .unset, .unset, .unset]) rfl kq) ?_
        refine own_st (fun tq kq => XS.aload X25.here hx rfl (hb hby at_143) rfl rfl kq) ?_
        refine own_st (fun tq kq => XS.aload X25.here hx rfl (hb hby at_145) rfl rfl kq) ?_
        show own_G p e below _ (T25.setTop (mkF m 147 #[.val (.int p0), .val (.int p1), .val (.int p2), .val (.int p3), .val (.int p4), .val (.int p5), .val (.int r0), .val (.int r1), .val (.int r2), .val (.ref a1), .val (.ref b2), .val (.ref b7), .val (.int (0 : Int32)), .val (.int (0 : Int32)), .unset, .unset, .unset, .unset] [(.ref b2), (.ref b7)]))
        obtain ⟨cq26, kq26, q26a, q26b, q26c⟩ := isOf Z10 sm25 ((((A7.keep KK8).keep KK9).keep KK10).keep KK11)
        obtain ⟨_, _, ⟨T26, L26, k26, n26⟩, -, X26, ⟨Lc26, hQ26, l26, y26, z26⟩, st26⟩ := X25.virtualBack hx (y := (⟨"com/example/garm/garm/SecurityTarget$Choice", "equals", "(Ljava/lang/Object;)Z"⟩ : MethodName)) (z := (⟨"com/example/garm/garm/SecurityTarget$Choice", "equals", "(Ljava/lang/Object;)Z"⟩ : MethodName)) o10 (mvT Z10 (hw _ (List.mem_of_getElem? (i := 66) rfl))) (mvT Z10 (hw _ (List.mem_of_getElem? (i := 67) rfl))) (notFace_of_selects (args := #[]) (mvT Z10 (hw _ (List.mem_of_getElem? (i := 69) rfl)))) (mvT Z10 (hw _ (List.mem_of_getElem? (i := 69) rfl))) (mvT Z10 (hw _ (List.mem_of_getElem? (i := 68) rfl))) (by decide) (own_backN (W := 0) (own_eqC l Z a0 hw [] (b7) (b2) (a8) (a9) (a10) (a3) (a4) (a5) ((own_str r0)) ((own_str r1)) ((own_str r2)) ((own_str p0)) ((own_str p1)) ((own_str p2)) (T11.heap.size) (G1) T11.heap n0 (by omega) (X00.keep K11 all0) (((((((((A2.keep KK3).keep KK4).keep KK5).keep KK6).ext E7).keep KK8).keep KK9).keep KK10).keep KK11) Ff0_11 Ff1_11 Ff2_11 (((((Ff0_6.ext E7).keep KK8 nin0).keep KK9 nin0).keep KK10 nin0).keep KK11 (ninS (own_ne (by omega)) nin0)) (((((Ff1_6.ext E7).keep KK8 nin0).keep KK9 nin0).keep KK10 nin0).keep KK11 (ninS (own_ne (by omega)) nin0)) (((((Ff2_6.ext E7).keep KK8 nin0).keep KK9 nin0).keep KK10 nin0).keep KK11 (ninS (own_ne (by omega)) nin0)) (own_Str.mono (((Str8.keep KK9 all0).keep KK10 all0).keepX KK11 (((A7.keep KK8).keep KK9).keep KK10) (hw _ (List.mem_of_getElem? (i := 34) rfl)) (by decide)) (by omega)) (own_Str.mono ((Str9.keep KK10 all0).keepX KK11 (((A7.keep KK8).keep KK9).keep KK10) (hw _ (List.mem_of_getElem? (i := 34) rfl)) (by decide)) (by omega)) (own_Str.mono (Str10.keepX KK11 (((A7.keep KK8).keep KK9).keep KK10) (hw _ (List.mem_of_getElem? (i := 34) rfl)) (by decide)) (by omega)) (own_Str.mono ((((((((Str3.keep KK4 all0).keep KK5 all0).keepX KK6 (((A2.keep KK3).keep KK4).keep KK5) (hw _ (List.mem_of_getElem? (i := 34) rfl)) (by decide)).ext E7).keep KK8 all0).keep KK9 all0).keep KK10 all0).keepX KK11 (((A7.keep KK8).keep KK9).keep KK10) (hw _ (List.mem_of_getElem? (i := 34) rfl)) (by decide)) (by omega)) (own_Str.mono (((((((Str4.keep KK5 all0).keepX KK6 (((A2.keep KK3).keep KK4).keep KK5) (hw _ (List.mem_of_getElem? (i := 34) rfl)) (by decide)).ext E7).keep KK8 all0).keep KK9 all0).keep KK10 all0).keepX KK11 (((A7.keep KK8).keep KK9).keep KK10) (hw _ (List.mem_of_getElem? (i := 34) rfl)) (by decide)) (by omega)) (own_Str.mono ((((((Str5.keepX KK6 (((A2.keep KK3).keep KK4).keep KK5) (hw _ (List.mem_of_getElem? (i := 34) rfl)) (by decide)).ext E7).keep KK8 all0).keep KK9 all0).keep KK10 all0).keepX KK11 (((A7.keep KK8).keep KK9).keep KK10) (hw _ (List.mem_of_getElem? (i := 34) rfl)) (by decide)) (by omega)) O2 P5) Z10 (hw _ (List.mem_of_getElem? (i := 70) rfl)) (hw _ (List.mem_of_getElem? (i := 35) rfl)) (by decide) (by decide)) q26a q26c (g := (mkF m 147 #[.val (.int p0), .val (.int p1), .val (.int p2), .val (.int p3), .val (.int p4), .val (.int p5), .val (.int r0), .val (.int r1), .val (.int r2), .val (.ref a1), .val (.ref b2), .val (.ref b7), .val (.int (0 : Int32)), .val (.int (0 : Int32)), .unset, .unset, .unset, .unset] [(.ref b2), (.ref b7)])) rfl (by rw [hml]; rfl) (Steps.refl _) (argsL := [(.ref b2)]) (rest := []) (lenOf own_pd5 rfl) rfl (by show 2 * 0 + _ ≤ _; exact Nat.le_of_eq rfl) (hb hby at_147) (fun _ _ => ⟨rfl, sm25, (by decide : 30 + 0 ≤ _), (by decide : 118 + 0 ≤ _)⟩)
        dsimp only [Pt.U, Pt.locs, Pt.cells, Pt.slots] at X26 l26 y26 z26 st26 hQ26
        subst l26 y26 z26
        obtain ⟨hr26, Nq26, sm26⟩ := hQ26
        obtain ⟨rfl, ee26⟩ := hr26.resolve_left (fun q => (fun q => eq13 (q.2.1).symm) q.2)
        have N26 := Fr.app N25 Nq26
        refine own_st (fun tq kq => st26.trans kq) ?_
        show own_G p e below _ (T26.setTop (mkF m 150 #[.val (.int p0), .val (.int p1), .val (.int p2), .val (.int p3), .val (.int p4), .val (.int p5), .val (.int r0), .val (.int r1), .val (.int r2), .val (.ref a1), .val (.ref b2), .val (.ref b7), .val (.int (0 : Int32)), .val (.int (0 : Int32)), .unset, .unset, .unset, .unset] [(.int (0 : Int32))]))
        refine own_st (fun tq kq => XS.istore X26.here hx rfl (hb hby at_150) rfl (l' := #[.val (.int p0), .val (.int p1), .val (.int p2), .val (.int p3), .val (.int p4), .val (.int p5), .val (.int r0), .val (.int r1), .val (.int r2), .val (.ref a1), .val (.ref b2), .val (.ref b7), .val (.int (0 : Int32)), .val (.int (0 : Int32)), .val (.int (0 : Int32)), .unset, .unset, .unset]) rfl kq) ?_
        refine own_st (fun tq kq => XS.aload X26.here hx rfl (hb hby at_152) rfl rfl kq) ?_
        refine own_st (fun tq kq => XS.aload X26.here hx rfl (hb hby at_154) rfl rfl kq) ?_
        show own_G p e below _ (T26.setTop (mkF m 156 #[.val (.int p0), .val (.int p1), .val (.int p2), .val (.int p3), .val (.int p4), .val (.int p5), .val (.int r0), .val (.int r1), .val (.int r2), .val (.ref a1), .val (.ref b2), .val (.ref b7), .val (.int (0 : Int32)), .val (.int (0 : Int32)), .val (.int (0 : Int32)), .unset, .unset, .unset] [(.ref b2), (.ref b2)]))
        obtain ⟨cq27, kq27, q27a, q27b, q27c⟩ := isOf Z10 sm26 (((((((((A2.keep KK3).keep KK4).keep KK5).keep KK6).ext E7).keep KK8).keep KK9).keep KK10).keep KK11)
        obtain ⟨_, _, ⟨T27, L27, k27, n27⟩, -, X27, ⟨Lc27, hQ27, l27, y27, z27⟩, st27⟩ := X26.virtualBack hx (y := (⟨"com/example/garm/garm/SecurityTarget$Choice", "equals", "(Ljava/lang/Object;)Z"⟩ : MethodName)) (z := (⟨"com/example/garm/garm/SecurityTarget$Choice", "equals", "(Ljava/lang/Object;)Z"⟩ : MethodName)) o10 (mvT Z10 (hw _ (List.mem_of_getElem? (i := 66) rfl))) (mvT Z10 (hw _ (List.mem_of_getElem? (i := 67) rfl))) (notFace_of_selects (args := #[]) (mvT Z10 (hw _ (List.mem_of_getElem? (i := 69) rfl)))) (mvT Z10 (hw _ (List.mem_of_getElem? (i := 69) rfl))) (mvT Z10 (hw _ (List.mem_of_getElem? (i := 68) rfl))) (by decide) (own_backN (W := 0) (own_eqC l Z a0 hw [] (b2) (b2) (a3) (a4) (a5) (a3) (a4) (a5) ((own_str p0)) ((own_str p1)) ((own_str p2)) ((own_str p0)) ((own_str p1)) ((own_str p2)) (T11.heap.size) (G1) T11.heap n0 (by omega) (X00.keep K11 all0) (((((((((A2.keep KK3).keep KK4).keep KK5).keep KK6).ext E7).keep KK8).keep KK9).keep KK10).keep KK11) (((((Ff0_6.ext E7).keep KK8 nin0).keep KK9 nin0).keep KK10 nin0).keep KK11 (ninS (own_ne (by omega)) nin0)) (((((Ff1_6.ext E7).keep KK8 nin0).keep KK9 nin0).keep KK10 nin0).keep KK11 (ninS (own_ne (by omega)) nin0)) (((((Ff2_6.ext E7).keep KK8 nin0).keep KK9 nin0).keep KK10 nin0).keep KK11 (ninS (own_ne (by omega)) nin0)) (((((Ff0_6.ext E7).keep KK8 nin0).keep KK9 nin0).keep KK10 nin0).keep KK11 (ninS (own_ne (by omega)) nin0)) (((((Ff1_6.ext E7).keep KK8 nin0).keep KK9 nin0).keep KK10 nin0).keep KK11 (ninS (own_ne (by omega)) nin0)) (((((Ff2_6.ext E7).keep KK8 nin0).keep KK9 nin0).keep KK10 nin0).keep KK11 (ninS (own_ne (by omega)) nin0)) (own_Str.mono ((((((((Str3.keep KK4 all0).keep KK5 all0).keepX KK6 (((A2.keep KK3).keep KK4).keep KK5) (hw _ (List.mem_of_getElem? (i := 34) rfl)) (by decide)).ext E7).keep KK8 all0).keep KK9 all0).keep KK10 all0).keepX KK11 (((A7.keep KK8).keep KK9).keep KK10) (hw _ (List.mem_of_getElem? (i := 34) rfl)) (by decide)) (by omega)) (own_Str.mono (((((((Str4.keep KK5 all0).keepX KK6 (((A2.keep KK3).keep KK4).keep KK5) (hw _ (List.mem_of_getElem? (i := 34) rfl)) (by decide)).ext E7).keep KK8 all0).keep KK9 all0).keep KK10 all0).keepX KK11 (((A7.keep KK8).keep KK9).keep KK10) (hw _ (List.mem_of_getElem? (i := 34) rfl)) (by decide)) (by omega)) (own_Str.mono ((((((Str5.keepX KK6 (((A2.keep KK3).keep KK4).keep KK5) (hw _ (List.mem_of_getElem? (i := 34) rfl)) (by decide)).ext E7).keep KK8 all0).keep KK9 all0).keep KK10 all0).keepX KK11 (((A7.keep KK8).keep KK9).keep KK10) (hw _ (List.mem_of_getElem? (i := 34) rfl)) (by decide)) (by omega)) (own_Str.mono ((((((((Str3.keep KK4 all0).keep KK5 all0).keepX KK6 (((A2.keep KK3).keep KK4).keep KK5) (hw _ (List.mem_of_getElem? (i := 34) rfl)) (by decide)).ext E7).keep KK8 all0).keep KK9 all0).keep KK10 all0).keepX KK11 (((A7.keep KK8).keep KK9).keep KK10) (hw _ (List.mem_of_getElem? (i := 34) rfl)) (by decide)) (by omega)) (own_Str.mono (((((((Str4.keep KK5 all0).keepX KK6 (((A2.keep KK3).keep KK4).keep KK5) (hw _ (List.mem_of_getElem? (i := 34) rfl)) (by decide)).ext E7).keep KK8 all0).keep KK9 all0).keep KK10 all0).keepX KK11 (((A7.keep KK8).keep KK9).keep KK10) (hw _ (List.mem_of_getElem? (i := 34) rfl)) (by decide)) (by omega)) (own_Str.mono ((((((Str5.keepX KK6 (((A2.keep KK3).keep KK4).keep KK5) (hw _ (List.mem_of_getElem? (i := 34) rfl)) (by decide)).ext E7).keep KK8 all0).keep KK9 all0).keep KK10 all0).keepX KK11 (((A7.keep KK8).keep KK9).keep KK10) (hw _ (List.mem_of_getElem? (i := 34) rfl)) (by decide)) (by omega)) O2 P5) Z10 (hw _ (List.mem_of_getElem? (i := 70) rfl)) (hw _ (List.mem_of_getElem? (i := 35) rfl)) (by decide) (by decide)) q27a q27c (g := (mkF m 156 #[.val (.int p0), .val (.int p1), .val (.int p2), .val (.int p3), .val (.int p4), .val (.int p5), .val (.int r0), .val (.int r1), .val (.int r2), .val (.ref a1), .val (.ref b2), .val (.ref b7), .val (.int (0 : Int32)), .val (.int (0 : Int32)), .val (.int (0 : Int32)), .unset, .unset, .unset] [(.ref b2), (.ref b2)])) rfl (by rw [hml]; rfl) (Steps.refl _) (argsL := [(.ref b2)]) (rest := []) (lenOf own_pd5 rfl) rfl (by show 2 * 0 + _ ≤ _; exact Nat.le_of_eq rfl) (hb hby at_156) (fun _ _ => ⟨rfl, sm26, (by decide : 30 + 0 ≤ _), (by decide : 118 + 0 ≤ _)⟩)
        dsimp only [Pt.U, Pt.locs, Pt.cells, Pt.slots] at X27 l27 y27 z27 st27 hQ27
        subst l27 y27 z27
        obtain ⟨hr27, Nq27, sm27⟩ := hQ27
        obtain ⟨rfl, ee27⟩ := hr27.resolve_right (fun q => q.2 ⟨rfl, rfl, rfl⟩)
        have N27 := Fr.app N26 Nq27
        refine own_st (fun tq kq => st27.trans kq) ?_
        show own_G p e below _ (T27.setTop (mkF m 159 #[.val (.int p0), .val (.int p1), .val (.int p2), .val (.int p3), .val (.int p4), .val (.int p5), .val (.int r0), .val (.int r1), .val (.int r2), .val (.ref a1), .val (.ref b2), .val (.ref b7), .val (.int (0 : Int32)), .val (.int (0 : Int32)), .val (.int (0 : Int32)), .unset, .unset, .unset] [(.int (1 : Int32))]))
        refine own_st (fun tq kq => XS.istore X27.here hx rfl (hb hby at_159) rfl (l' := #[.val (.int p0), .val (.int p1), .val (.int p2), .val (.int p3), .val (.int p4), .val (.int p5), .val (.int r0), .val (.int r1), .val (.int r2), .val (.ref a1), .val (.ref b2), .val (.ref b7), .val (.int (0 : Int32)), .val (.int (0 : Int32)), .val (.int (0 : Int32)), .val (.int (1 : Int32)), .unset, .unset]) rfl kq) ?_
        refine own_st (fun tq kq => XS.aload X27.here hx rfl (hb hby at_161) rfl rfl kq) ?_
        refine own_st (fun tq kq => XS.aconstNull X27.here hx rfl (hb hby at_163) kq) ?_
        show own_G p e below _ (T27.setTop (mkF m 164 #[.val (.int p0), .val (.int p1), .val (.int p2), .val (.int p3), .val (.int p4), .val (.int p5), .val (.int r0), .val (.int r1), .val (.int r2), .val (.ref a1), .val (.ref b2), .val (.ref b7), .val (.int (0 : Int32)), .val (.int (0 : Int32)), .val (.int (0 : Int32)), .val (.int (1 : Int32)), .unset, .unset] [.null, (.ref b2)]))
        obtain ⟨cq28, kq28, q28a, q28b, q28c⟩ := isOf Z10 sm27 (((((((((A2.keep KK3).keep KK4).keep KK5).keep KK6).ext E7).keep KK8).keep KK9).keep KK10).keep KK11)
        obtain ⟨_, _, ⟨T28, L28, k28, n28⟩, -, X28, ⟨Lc28, hQ28, l28, y28, z28⟩, st28⟩ := X27.virtualBack hx (y := (⟨"com/example/garm/garm/SecurityTarget$Choice", "equals", "(Ljava/lang/Object;)Z"⟩ : MethodName)) (z := (⟨"com/example/garm/garm/SecurityTarget$Choice", "equals", "(Ljava/lang/Object;)Z"⟩ : MethodName)) o10 (mvT Z10 (hw _ (List.mem_of_getElem? (i := 66) rfl))) (mvT Z10 (hw _ (List.mem_of_getElem? (i := 67) rfl))) (notFace_of_selects (args := #[]) (mvT Z10 (hw _ (List.mem_of_getElem? (i := 69) rfl)))) (mvT Z10 (hw _ (List.mem_of_getElem? (i := 69) rfl))) (mvT Z10 (hw _ (List.mem_of_getElem? (i := 68) rfl))) (by decide) (own_backN (W := 0) (own_eqN l Z a0 hw [] (b2) T11.heap n0 (by omega) (X00.keep K11 all0) ) Z10 (hw _ (List.mem_of_getElem? (i := 70) rfl)) (hw _ (List.mem_of_getElem? (i := 35) rfl)) (by decide) (by decide)) q28a q28c (g := (mkF m 164 #[.val (.int p0), .val (.int p1), .val (.int p2), .val (.int p3), .val (.int p4), .val (.int p5), .val (.int r0), .val (.int r1), .val (.int r2), .val (.ref a1), .val (.ref b2), .val (.ref b7), .val (.int (0 : Int32)), .val (.int (0 : Int32)), .val (.int (0 : Int32)), .val (.int (1 : Int32)), .unset, .unset] [.null, (.ref b2)])) rfl (by rw [hml]; rfl) (Steps.refl _) (argsL := [.null]) (rest := []) (lenOf own_pd5 rfl) rfl (by show 2 * 0 + _ ≤ _; exact Nat.le_of_eq rfl) (hb hby at_164) (fun _ _ => ⟨rfl, sm27, (by decide : 30 + 0 ≤ _), (by decide : 118 + 0 ≤ _)⟩)
        dsimp only [Pt.U, Pt.locs, Pt.cells, Pt.slots] at X28 l28 y28 z28 st28 hQ28
        subst l28 y28 z28
        obtain ⟨rfl, Nq28, sm28⟩ := hQ28
        have N28 := Fr.app N27 Nq28
        refine own_st (fun tq kq => st28.trans kq) ?_
        show own_G p e below _ (T28.setTop (mkF m 167 #[.val (.int p0), .val (.int p1), .val (.int p2), .val (.int p3), .val (.int p4), .val (.int p5), .val (.int r0), .val (.int r1), .val (.int r2), .val (.ref a1), .val (.ref b2), .val (.ref b7), .val (.int (0 : Int32)), .val (.int (0 : Int32)), .val (.int (0 : Int32)), .val (.int (1 : Int32)), .unset, .unset] [(.int (0 : Int32))]))
        refine own_st (fun tq kq => XS.istore X28.here hx rfl (hb hby at_167) rfl (l' := #[.val (.int p0), .val (.int p1), .val (.int p2), .val (.int p3), .val (.int p4), .val (.int p5), .val (.int r0), .val (.int r1), .val (.int r2), .val (.ref a1), .val (.ref b2), .val (.ref b7), .val (.int (0 : Int32)), .val (.int (0 : Int32)), .val (.int (0 : Int32)), .val (.int (1 : Int32)), .val (.int (0 : Int32)), .unset]) rfl kq) ?_
        refine own_st (fun tq kq => XS.aload X28.here hx rfl (hb hby at_169) rfl rfl kq) ?_
        refine own_st (fun tq kq => XS.aload X28.here hx rfl (hb hby at_171) rfl rfl kq) ?_
        show own_G p e below _ (T28.setTop (mkF m 173 #[.val (.int p0), .val (.int p1), .val (.int p2), .val (.int p3), .val (.int p4), .val (.int p5), .val (.int r0), .val (.int r1), .val (.int r2), .val (.ref a1), .val (.ref b2), .val (.ref b7), .val (.int (0 : Int32)), .val (.int (0 : Int32)), .val (.int (0 : Int32)), .val (.int (1 : Int32)), .val (.int (0 : Int32)), .unset] [(.ref a1), (.ref b2)]))
        obtain ⟨cq29, kq29, q29a, q29b, q29c⟩ := isOf Z10 sm28 (((((((((A2.keep KK3).keep KK4).keep KK5).keep KK6).ext E7).keep KK8).keep KK9).keep KK10).keep KK11)
        obtain ⟨_, _, ⟨T29, L29, k29, n29⟩, -, X29, ⟨Lc29, hQ29, l29, y29, z29⟩, st29⟩ := X28.virtualBack hx (y := (⟨"com/example/garm/garm/SecurityTarget$Choice", "equals", "(Ljava/lang/Object;)Z"⟩ : MethodName)) (z := (⟨"com/example/garm/garm/SecurityTarget$Choice", "equals", "(Ljava/lang/Object;)Z"⟩ : MethodName)) o10 (mvT Z10 (hw _ (List.mem_of_getElem? (i := 66) rfl))) (mvT Z10 (hw _ (List.mem_of_getElem? (i := 67) rfl))) (notFace_of_selects (args := #[]) (mvT Z10 (hw _ (List.mem_of_getElem? (i := 69) rfl)))) (mvT Z10 (hw _ (List.mem_of_getElem? (i := 69) rfl))) (mvT Z10 (hw _ (List.mem_of_getElem? (i := 68) rfl))) (by decide) (own_backN (W := 0) (own_eqS l Z a0 hw [] (b2) (a1) T11.heap n0 (by omega) (X00.keep K11 all0) ((((((((((Str1.2.1.ext E2).keep KK3).keep KK4).keep KK5).keep KK6).ext E7).keep KK8).keep KK9).keep KK10).keep KK11)) Z10 (hw _ (List.mem_of_getElem? (i := 70) rfl)) (hw _ (List.mem_of_getElem? (i := 35) rfl)) (by decide) (by decide)) q29a q29c (g := (mkF m 173 #[.val (.int p0), .val (.int p1), .val (.int p2), .val (.int p3), .val (.int p4), .val (.int p5), .val (.int r0), .val (.int r1), .val (.int r2), .val (.ref a1), .val (.ref b2), .val (.ref b7), .val (.int (0 : Int32)), .val (.int (0 : Int32)), .val (.int (0 : Int32)), .val (.int (1 : Int32)), .val (.int (0 : Int32)), .unset] [(.ref a1), (.ref b2)])) rfl (by rw [hml]; rfl) (Steps.refl _) (argsL := [(.ref a1)]) (rest := []) (lenOf own_pd5 rfl) rfl (by show 2 * 0 + _ ≤ _; exact Nat.le_of_eq rfl) (hb hby at_173) (fun _ _ => ⟨rfl, sm28, (by decide : 30 + 0 ≤ _), (by decide : 118 + 0 ≤ _)⟩)
        dsimp only [Pt.U, Pt.locs, Pt.cells, Pt.slots] at X29 l29 y29 z29 st29 hQ29
        subst l29 y29 z29
        obtain ⟨rfl, Nq29, sm29⟩ := hQ29
        have N29 := Fr.app N28 Nq29
        refine own_st (fun tq kq => st29.trans kq) ?_
        show own_G p e below _ (T29.setTop (mkF m 176 #[.val (.int p0), .val (.int p1), .val (.int p2), .val (.int p3), .val (.int p4), .val (.int p5), .val (.int r0), .val (.int r1), .val (.int r2), .val (.ref a1), .val (.ref b2), .val (.ref b7), .val (.int (0 : Int32)), .val (.int (0 : Int32)), .val (.int (0 : Int32)), .val (.int (1 : Int32)), .val (.int (0 : Int32)), .unset] [(.int (0 : Int32))]))
        refine own_st (fun tq kq => XS.istore X29.here hx rfl (hb hby at_176) rfl (l' := #[.val (.int p0), .val (.int p1), .val (.int p2), .val (.int p3), .val (.int p4), .val (.int p5), .val (.int r0), .val (.int r1), .val (.int r2), .val (.ref a1), .val (.ref b2), .val (.ref b7), .val (.int (0 : Int32)), .val (.int (0 : Int32)), .val (.int (0 : Int32)), .val (.int (1 : Int32)), .val (.int (0 : Int32)), .val (.int (0 : Int32))]) rfl kq) ?_
        refine own_st (fun tq kq => XS.iload X29.here hx rfl (hb hby at_178) rfl  kq) ?_
        refine own_st (fun tq kq => XS.iload X29.here hx rfl (hb hby at_180) rfl  kq) ?_
        show own_G p e below _ (T29.setTop (mkF m 182 #[.val (.int p0), .val (.int p1), .val (.int p2), .val (.int p3), .val (.int p4), .val (.int p5), .val (.int r0), .val (.int r1), .val (.int r2), .val (.ref a1), .val (.ref b2), .val (.ref b7), .val (.int (0 : Int32)), .val (.int (0 : Int32)), .val (.int (0 : Int32)), .val (.int (1 : Int32)), .val (.int (0 : Int32)), .val (.int (0 : Int32))] [(.int (0 : Int32)), (.int (0 : Int32))]))
        refine own_st (fun tq kq => XS.icmpNo X29.here hx rfl (hb hby at_182) rfl (teq (by decide : ((0 : Int32) = (0 : Int32)))).2 kq) ?_
        refine own_st (fun tq kq => XS.iload X29.here hx rfl (hb hby at_185) rfl  kq) ?_
        refine own_st (fun tq kq => XS.iload X29.here hx rfl (hb hby at_187) rfl  kq) ?_
        show own_G p e below _ (T29.setTop (mkF m 189 #[.val (.int p0), .val (.int p1), .val (.int p2), .val (.int p3), .val (.int p4), .val (.int p5), .val (.int r0), .val (.int r1), .val (.int r2), .val (.ref a1), .val (.ref b2), .val (.ref b7), .val (.int (0 : Int32)), .val (.int (0 : Int32)), .val (.int (0 : Int32)), .val (.int (1 : Int32)), .val (.int (0 : Int32)), .val (.int (0 : Int32))] [(.int (0 : Int32)), (.int (0 : Int32))]))
        refine own_st (fun tq kq => XS.icmpNo X29.here hx rfl (hb hby at_189) rfl (teq (by decide : ((0 : Int32) = (0 : Int32)))).2 kq) ?_
        refine own_st (fun tq kq => XS.iload X29.here hx rfl (hb hby at_192) rfl  kq) ?_
        show own_G p e below _ (T29.setTop (mkF m 194 #[.val (.int p0), .val (.int p1), .val (.int p2), .val (.int p3), .val (.int p4), .val (.int p5), .val (.int r0), .val (.int r1), .val (.int r2), .val (.ref a1), .val (.ref b2), .val (.ref b7), .val (.int (0 : Int32)), .val (.int (0 : Int32)), .val (.int (0 : Int32)), .val (.int (1 : Int32)), .val (.int (0 : Int32)), .val (.int (0 : Int32))] [(.int (1 : Int32))]))
        refine own_st (fun tq kq => XS.ifNo X29.here hx rfl (hb hby at_194) rfl ((if0 _ _).trans (feq (by decide : ¬ ((1 : Int32) = (0 : Int32)))).1) kq) ?_
        refine own_st (fun tq kq => XS.iload X29.here hx rfl (hb hby at_197) rfl  kq) ?_
        show own_G p e below _ (T29.setTop (mkF m 199 #[.val (.int p0), .val (.int p1), .val (.int p2), .val (.int p3), .val (.int p4), .val (.int p5), .val (.int r0), .val (.int r1), .val (.int r2), .val (.ref a1), .val (.ref b2), .val (.ref b7), .val (.int (0 : Int32)), .val (.int (0 : Int32)), .val (.int (0 : Int32)), .val (.int (1 : Int32)), .val (.int (0 : Int32)), .val (.int (0 : Int32))] [(.int (0 : Int32))]))
        refine own_st (fun tq kq => XS.ifNo X29.here hx rfl (hb hby at_199) rfl ((if0 _ _).trans (teq (by decide : ((0 : Int32) = (0 : Int32)))).2) kq) ?_
        refine own_st (fun tq kq => XS.iload X29.here hx rfl (hb hby at_202) rfl  kq) ?_
        show own_G p e below _ (T29.setTop (mkF m 204 #[.val (.int p0), .val (.int p1), .val (.int p2), .val (.int p3), .val (.int p4), .val (.int p5), .val (.int r0), .val (.int r1), .val (.int r2), .val (.ref a1), .val (.ref b2), .val (.ref b7), .val (.int (0 : Int32)), .val (.int (0 : Int32)), .val (.int (0 : Int32)), .val (.int (1 : Int32)), .val (.int (0 : Int32)), .val (.int (0 : Int32))] [(.int (0 : Int32))]))
        refine own_st (fun tq kq => XS.ifNo X29.here hx rfl (hb hby at_204) rfl ((if0 _ _).trans (teq (by decide : ((0 : Int32) = (0 : Int32)))).2) kq) ?_
        refine own_st (fun tq kq => XS.iconst X29.here hx rfl (hb hby at_207) kq) ?_
        refine own_st (fun tq kq => XS.goto X29.here hx rfl (pc0 := 208) (pc' := 212) rfl (hb hby at_208) (by decide) (by decide) kq) ?_
        show own_G p e below _ (T29.setTop (mkF m 212 #[.val (.int p0), .val (.int p1), .val (.int p2), .val (.int p3), .val (.int p4), .val (.int p5), .val (.int r0), .val (.int r1), .val (.int r2), .val (.ref a1), .val (.ref b2), .val (.ref b7), .val (.int (0 : Int32)), .val (.int (0 : Int32)), .val (.int (0 : Int32)), .val (.int (1 : Int32)), .val (.int (0 : Int32)), .val (.int (0 : Int32))] [(.int (1 : Int32))]))
        obtain ⟨fs, hr, hrun, hended, hRW⟩ := X29.leaveW S10 (by rw [sm29]; exact (own_le (by omega))) (v := some (.int (1 : Int32))) (fun h => by rw [Bd.returns] at h; cases h)
        have cE := C11.trans (CHv.at (s := s) (vm0 := T10.vm) X29 Z10 hEL C11.1)
        refine ⟨_, _, retN X29 hx (t := .boolean) Bd.returns (by simp) (hb hby at_212) hr, hrun, hended, _, _, rfl, ?_, ?_, own_RW hRW (by decide) (by decide)⟩
        · change (fun (v : Option Value) (_ : Vm) (h : Heap) (L : List Loc) => v = some (.int (1 : Int32)) ∧ Fr n0 L) (some (.int (1 : Int32))) T29.vm T29.heap _; rw [sm29]; exact ⟨rfl, N29⟩
        · rw [hh]; change CHr Z consts_1 s.vm h0 T29.vm T29.heap; rw [sm29]; exact cE
    ·
      refine own_st st12 ?_
      show own_G p e below _ (T12.setTop (mkF m 106 #[.val (.int p0), .val (.int p1), .val (.int p2), .val (.int p3), .val (.int p4), .val (.int p5), .val (.int r0), .val (.int r1), .val (.int r2), .val (.ref a1), .val (.ref b2), .val (.ref b7), .unset, .unset, .unset, .unset, .unset, .unset] [(.int (0 : Int32))]))
      refine own_st (fun tq kq => XS.ifYes X12.here hx rfl (pc0 := 106) (pc' := 131) rfl (hb hby at_106) rfl ((if0 _ _).trans (teq (by decide : ((0 : Int32) = (0 : Int32)))).1) (by decide) (by decide) kq) ?_
      refine own_st (fun tq kq => XS.iconst X12.here hx rfl (hb hby at_131) kq) ?_
      refine own_st (fun tq kq => XS.istore X12.here hx rfl (hb hby at_132) rfl (l' := #[.val (.int p0), .val (.int p1), .val (.int p2), .val (.int p3), .val (.int p4), .val (.int p5), .val (.int r0), .val (.int r1), .val (.int r2), .val (.ref a1), .val (.ref b2), .val (.ref b7), .val (.int (0 : Int32)), .unset, .unset, .unset, .unset, .unset]) rfl kq) ?_
      refine own_st (fun tq kq => XS.aload X12.here hx rfl (hb hby at_134) rfl rfl kq) ?_
      show own_G p e below _ (T12.setTop (mkF m 136 #[.val (.int p0), .val (.int p1), .val (.int p2), .val (.int p3), .val (.int p4), .val (.int p5), .val (.int r0), .val (.int r1), .val (.int r2), .val (.ref a1), .val (.ref b2), .val (.ref b7), .val (.int (0 : Int32)), .unset, .unset, .unset, .unset, .unset] [(.ref b2)]))
      refine own_st (fun tq kq => XS.aload X12.here hx rfl (hb hby at_136) rfl rfl kq) ?_
      show own_G p e below _ (T12.setTop (mkF m 138 #[.val (.int p0), .val (.int p1), .val (.int p2), .val (.int p3), .val (.int p4), .val (.int p5), .val (.int r0), .val (.int r1), .val (.int r2), .val (.ref a1), .val (.ref b2), .val (.ref b7), .val (.int (0 : Int32)), .unset, .unset, .unset, .unset, .unset] [(.ref b7), (.ref b2)]))
      obtain ⟨cq30, kq30, q30a, q30b, q30c⟩ := isOf Z10 sm12 (((((((((A2.keep KK3).keep KK4).keep KK5).keep KK6).ext E7).keep KK8).keep KK9).keep KK10).keep KK11)
      obtain ⟨_, _, ⟨T30, L30, k30, n30⟩, -, X30, ⟨Lc30, hQ30, l30, y30, z30⟩, st30⟩ := X12.virtualBack hx (y := (⟨"com/example/garm/garm/SecurityTarget$Choice", "equals", "(Ljava/lang/Object;)Z"⟩ : MethodName)) (z := (⟨"com/example/garm/garm/SecurityTarget$Choice", "equals", "(Ljava/lang/Object;)Z"⟩ : MethodName)) o10 (mvT Z10 (hw _ (List.mem_of_getElem? (i := 66) rfl))) (mvT Z10 (hw _ (List.mem_of_getElem? (i := 67) rfl))) (notFace_of_selects (args := #[]) (mvT Z10 (hw _ (List.mem_of_getElem? (i := 69) rfl)))) (mvT Z10 (hw _ (List.mem_of_getElem? (i := 69) rfl))) (mvT Z10 (hw _ (List.mem_of_getElem? (i := 68) rfl))) (by decide) (own_backN (W := 0) (own_eqC l Z a0 hw [] (b2) (b7) (a3) (a4) (a5) (a8) (a9) (a10) ((own_str p0)) ((own_str p1)) ((own_str p2)) ((own_str r0)) ((own_str r1)) ((own_str r2)) (T11.heap.size) (G1) T11.heap n0 (by omega) (X00.keep K11 all0) ((((A7.keep KK8).keep KK9).keep KK10).keep KK11) (((((Ff0_6.ext E7).keep KK8 nin0).keep KK9 nin0).keep KK10 nin0).keep KK11 (ninS (own_ne (by omega)) nin0)) (((((Ff1_6.ext E7).keep KK8 nin0).keep KK9 nin0).keep KK10 nin0).keep KK11 (ninS (own_ne (by omega)) nin0)) (((((Ff2_6.ext E7).keep KK8 nin0).keep KK9 nin0).keep KK10 nin0).keep KK11 (ninS (own_ne (by omega)) nin0)) Ff0_11 Ff1_11 Ff2_11 (own_Str.mono ((((((((Str3.keep KK4 all0).keep KK5 all0).keepX KK6 (((A2.keep KK3).keep KK4).keep KK5) (hw _ (List.mem_of_getElem? (i := 34) rfl)) (by decide)).ext E7).keep KK8 all0).keep KK9 all0).keep KK10 all0).keepX KK11 (((A7.keep KK8).keep KK9).keep KK10) (hw _ (List.mem_of_getElem? (i := 34) rfl)) (by decide)) (by omega)) (own_Str.mono (((((((Str4.keep KK5 all0).keepX KK6 (((A2.keep KK3).keep KK4).keep KK5) (hw _ (List.mem_of_getElem? (i := 34) rfl)) (by decide)).ext E7).keep KK8 all0).keep KK9 all0).keep KK10 all0).keepX KK11 (((A7.keep KK8).keep KK9).keep KK10) (hw _ (List.mem_of_getElem? (i := 34) rfl)) (by decide)) (by omega)) (own_Str.mono ((((((Str5.keepX KK6 (((A2.keep KK3).keep KK4).keep KK5) (hw _ (List.mem_of_getElem? (i := 34) rfl)) (by decide)).ext E7).keep KK8 all0).keep KK9 all0).keep KK10 all0).keepX KK11 (((A7.keep KK8).keep KK9).keep KK10) (hw _ (List.mem_of_getElem? (i := 34) rfl)) (by decide)) (by omega)) (own_Str.mono (((Str8.keep KK9 all0).keep KK10 all0).keepX KK11 (((A7.keep KK8).keep KK9).keep KK10) (hw _ (List.mem_of_getElem? (i := 34) rfl)) (by decide)) (by omega)) (own_Str.mono ((Str9.keep KK10 all0).keepX KK11 (((A7.keep KK8).keep KK9).keep KK10) (hw _ (List.mem_of_getElem? (i := 34) rfl)) (by decide)) (by omega)) (own_Str.mono (Str10.keepX KK11 (((A7.keep KK8).keep KK9).keep KK10) (hw _ (List.mem_of_getElem? (i := 34) rfl)) (by decide)) (by omega)) O2 P5) Z10 (hw _ (List.mem_of_getElem? (i := 70) rfl)) (hw _ (List.mem_of_getElem? (i := 35) rfl)) (by decide) (by decide)) q30a q30c (g := (mkF m 138 #[.val (.int p0), .val (.int p1), .val (.int p2), .val (.int p3), .val (.int p4), .val (.int p5), .val (.int r0), .val (.int r1), .val (.int r2), .val (.ref a1), .val (.ref b2), .val (.ref b7), .val (.int (0 : Int32)), .unset, .unset, .unset, .unset, .unset] [(.ref b7), (.ref b2)])) rfl (by rw [hml]; rfl) (Steps.refl _) (argsL := [(.ref b7)]) (rest := []) (lenOf own_pd5 rfl) rfl (by show 2 * 0 + _ ≤ _; exact Nat.le_of_eq rfl) (hb hby at_138) (fun _ _ => ⟨rfl, sm12, (by decide : 30 + 0 ≤ _), (by decide : 118 + 0 ≤ _)⟩)
      dsimp only [Pt.U, Pt.locs, Pt.cells, Pt.slots] at X30 l30 y30 z30 st30 hQ30
      subst l30 y30 z30
      obtain ⟨hr30, Nq30, sm30⟩ := hQ30
      obtain ⟨rfl, ee30⟩ := hr30.resolve_left (fun q => (fun q => eq12 q.1) q.2)
      have N30 := Fr.app N12 Nq30
      refine own_st (fun tq kq => st30.trans kq) ?_
      show own_G p e below _ (T30.setTop (mkF m 141 #[.val (.int p0), .val (.int p1), .val (.int p2), .val (.int p3), .val (.int p4), .val (.int p5), .val (.int r0), .val (.int r1), .val (.int r2), .val (.ref a1), .val (.ref b2), .val (.ref b7), .val (.int (0 : Int32)), .unset, .unset, .unset, .unset, .unset] [(.int (0 : Int32))]))
      refine own_st (fun tq kq => XS.istore X30.here hx rfl (hb hby at_141) rfl (l' := #[.val (.int p0), .val (.int p1), .val (.int p2), .val (.int p3), .val (.int p4), .val (.int p5), .val (.int r0), .val (.int r1), .val (.int r2), .val (.ref a1), .val (.ref b2), .val (.ref b7), .val (.int (0 : Int32)), .val (.int (0 : Int32)), .unset, .unset, .unset, .unset]) rfl kq) ?_
      refine own_st (fun tq kq => XS.aload X30.here hx rfl (hb hby at_143) rfl rfl kq) ?_
      refine own_st (fun tq kq => XS.aload X30.here hx rfl (hb hby at_145) rfl rfl kq) ?_
      show own_G p e below _ (T30.setTop (mkF m 147 #[.val (.int p0), .val (.int p1), .val (.int p2), .val (.int p3), .val (.int p4), .val (.int p5), .val (.int r0), .val (.int r1), .val (.int r2), .val (.ref a1), .val (.ref b2), .val (.ref b7), .val (.int (0 : Int32)), .val (.int (0 : Int32)), .unset, .unset, .unset, .unset] [(.ref b2), (.ref b7)]))
      obtain ⟨cq31, kq31, q31a, q31b, q31c⟩ := isOf Z10 sm30 ((((A7.keep KK8).keep KK9).keep KK10).keep KK11)
      obtain ⟨_, _, ⟨T31, L31, k31, n31⟩, -, X31, ⟨Lc31, hQ31, l31, y31, z31⟩, st31⟩ := X30.virtualBack hx (y := (⟨"com/example/garm/garm/SecurityTarget$Choice", "equals", "(Ljava/lang/Object;)Z"⟩ : MethodName)) (z := (⟨"com/example/garm/garm/SecurityTarget$Choice", "equals", "(Ljava/lang/Object;)Z"⟩ : MethodName)) o10 (mvT Z10 (hw _ (List.mem_of_getElem? (i := 66) rfl))) (mvT Z10 (hw _ (List.mem_of_getElem? (i := 67) rfl))) (notFace_of_selects (args := #[]) (mvT Z10 (hw _ (List.mem_of_getElem? (i := 69) rfl)))) (mvT Z10 (hw _ (List.mem_of_getElem? (i := 69) rfl))) (mvT Z10 (hw _ (List.mem_of_getElem? (i := 68) rfl))) (by decide) (own_backN (W := 0) (own_eqC l Z a0 hw [] (b7) (b2) (a8) (a9) (a10) (a3) (a4) (a5) ((own_str r0)) ((own_str r1)) ((own_str r2)) ((own_str p0)) ((own_str p1)) ((own_str p2)) (T11.heap.size) (G1) T11.heap n0 (by omega) (X00.keep K11 all0) (((((((((A2.keep KK3).keep KK4).keep KK5).keep KK6).ext E7).keep KK8).keep KK9).keep KK10).keep KK11) Ff0_11 Ff1_11 Ff2_11 (((((Ff0_6.ext E7).keep KK8 nin0).keep KK9 nin0).keep KK10 nin0).keep KK11 (ninS (own_ne (by omega)) nin0)) (((((Ff1_6.ext E7).keep KK8 nin0).keep KK9 nin0).keep KK10 nin0).keep KK11 (ninS (own_ne (by omega)) nin0)) (((((Ff2_6.ext E7).keep KK8 nin0).keep KK9 nin0).keep KK10 nin0).keep KK11 (ninS (own_ne (by omega)) nin0)) (own_Str.mono (((Str8.keep KK9 all0).keep KK10 all0).keepX KK11 (((A7.keep KK8).keep KK9).keep KK10) (hw _ (List.mem_of_getElem? (i := 34) rfl)) (by decide)) (by omega)) (own_Str.mono ((Str9.keep KK10 all0).keepX KK11 (((A7.keep KK8).keep KK9).keep KK10) (hw _ (List.mem_of_getElem? (i := 34) rfl)) (by decide)) (by omega)) (own_Str.mono (Str10.keepX KK11 (((A7.keep KK8).keep KK9).keep KK10) (hw _ (List.mem_of_getElem? (i := 34) rfl)) (by decide)) (by omega)) (own_Str.mono ((((((((Str3.keep KK4 all0).keep KK5 all0).keepX KK6 (((A2.keep KK3).keep KK4).keep KK5) (hw _ (List.mem_of_getElem? (i := 34) rfl)) (by decide)).ext E7).keep KK8 all0).keep KK9 all0).keep KK10 all0).keepX KK11 (((A7.keep KK8).keep KK9).keep KK10) (hw _ (List.mem_of_getElem? (i := 34) rfl)) (by decide)) (by omega)) (own_Str.mono (((((((Str4.keep KK5 all0).keepX KK6 (((A2.keep KK3).keep KK4).keep KK5) (hw _ (List.mem_of_getElem? (i := 34) rfl)) (by decide)).ext E7).keep KK8 all0).keep KK9 all0).keep KK10 all0).keepX KK11 (((A7.keep KK8).keep KK9).keep KK10) (hw _ (List.mem_of_getElem? (i := 34) rfl)) (by decide)) (by omega)) (own_Str.mono ((((((Str5.keepX KK6 (((A2.keep KK3).keep KK4).keep KK5) (hw _ (List.mem_of_getElem? (i := 34) rfl)) (by decide)).ext E7).keep KK8 all0).keep KK9 all0).keep KK10 all0).keepX KK11 (((A7.keep KK8).keep KK9).keep KK10) (hw _ (List.mem_of_getElem? (i := 34) rfl)) (by decide)) (by omega)) O2 P5) Z10 (hw _ (List.mem_of_getElem? (i := 70) rfl)) (hw _ (List.mem_of_getElem? (i := 35) rfl)) (by decide) (by decide)) q31a q31c (g := (mkF m 147 #[.val (.int p0), .val (.int p1), .val (.int p2), .val (.int p3), .val (.int p4), .val (.int p5), .val (.int r0), .val (.int r1), .val (.int r2), .val (.ref a1), .val (.ref b2), .val (.ref b7), .val (.int (0 : Int32)), .val (.int (0 : Int32)), .unset, .unset, .unset, .unset] [(.ref b2), (.ref b7)])) rfl (by rw [hml]; rfl) (Steps.refl _) (argsL := [(.ref b2)]) (rest := []) (lenOf own_pd5 rfl) rfl (by show 2 * 0 + _ ≤ _; exact Nat.le_of_eq rfl) (hb hby at_147) (fun _ _ => ⟨rfl, sm30, (by decide : 30 + 0 ≤ _), (by decide : 118 + 0 ≤ _)⟩)
      dsimp only [Pt.U, Pt.locs, Pt.cells, Pt.slots] at X31 l31 y31 z31 st31 hQ31
      subst l31 y31 z31
      obtain ⟨hr31, Nq31, sm31⟩ := hQ31
      obtain ⟨rfl, ee31⟩ := hr31.resolve_left (fun q => (fun q => eq12 (q.1).symm) q.2)
      have N31 := Fr.app N30 Nq31
      refine own_st (fun tq kq => st31.trans kq) ?_
      show own_G p e below _ (T31.setTop (mkF m 150 #[.val (.int p0), .val (.int p1), .val (.int p2), .val (.int p3), .val (.int p4), .val (.int p5), .val (.int r0), .val (.int r1), .val (.int r2), .val (.ref a1), .val (.ref b2), .val (.ref b7), .val (.int (0 : Int32)), .val (.int (0 : Int32)), .unset, .unset, .unset, .unset] [(.int (0 : Int32))]))
      refine own_st (fun tq kq => XS.istore X31.here hx rfl (hb hby at_150) rfl (l' := #[.val (.int p0), .val (.int p1), .val (.int p2), .val (.int p3), .val (.int p4), .val (.int p5), .val (.int r0), .val (.int r1), .val (.int r2), .val (.ref a1), .val (.ref b2), .val (.ref b7), .val (.int (0 : Int32)), .val (.int (0 : Int32)), .val (.int (0 : Int32)), .unset, .unset, .unset]) rfl kq) ?_
      refine own_st (fun tq kq => XS.aload X31.here hx rfl (hb hby at_152) rfl rfl kq) ?_
      refine own_st (fun tq kq => XS.aload X31.here hx rfl (hb hby at_154) rfl rfl kq) ?_
      show own_G p e below _ (T31.setTop (mkF m 156 #[.val (.int p0), .val (.int p1), .val (.int p2), .val (.int p3), .val (.int p4), .val (.int p5), .val (.int r0), .val (.int r1), .val (.int r2), .val (.ref a1), .val (.ref b2), .val (.ref b7), .val (.int (0 : Int32)), .val (.int (0 : Int32)), .val (.int (0 : Int32)), .unset, .unset, .unset] [(.ref b2), (.ref b2)]))
      obtain ⟨cq32, kq32, q32a, q32b, q32c⟩ := isOf Z10 sm31 (((((((((A2.keep KK3).keep KK4).keep KK5).keep KK6).ext E7).keep KK8).keep KK9).keep KK10).keep KK11)
      obtain ⟨_, _, ⟨T32, L32, k32, n32⟩, -, X32, ⟨Lc32, hQ32, l32, y32, z32⟩, st32⟩ := X31.virtualBack hx (y := (⟨"com/example/garm/garm/SecurityTarget$Choice", "equals", "(Ljava/lang/Object;)Z"⟩ : MethodName)) (z := (⟨"com/example/garm/garm/SecurityTarget$Choice", "equals", "(Ljava/lang/Object;)Z"⟩ : MethodName)) o10 (mvT Z10 (hw _ (List.mem_of_getElem? (i := 66) rfl))) (mvT Z10 (hw _ (List.mem_of_getElem? (i := 67) rfl))) (notFace_of_selects (args := #[]) (mvT Z10 (hw _ (List.mem_of_getElem? (i := 69) rfl)))) (mvT Z10 (hw _ (List.mem_of_getElem? (i := 69) rfl))) (mvT Z10 (hw _ (List.mem_of_getElem? (i := 68) rfl))) (by decide) (own_backN (W := 0) (own_eqC l Z a0 hw [] (b2) (b2) (a3) (a4) (a5) (a3) (a4) (a5) ((own_str p0)) ((own_str p1)) ((own_str p2)) ((own_str p0)) ((own_str p1)) ((own_str p2)) (T11.heap.size) (G1) T11.heap n0 (by omega) (X00.keep K11 all0) (((((((((A2.keep KK3).keep KK4).keep KK5).keep KK6).ext E7).keep KK8).keep KK9).keep KK10).keep KK11) (((((Ff0_6.ext E7).keep KK8 nin0).keep KK9 nin0).keep KK10 nin0).keep KK11 (ninS (own_ne (by omega)) nin0)) (((((Ff1_6.ext E7).keep KK8 nin0).keep KK9 nin0).keep KK10 nin0).keep KK11 (ninS (own_ne (by omega)) nin0)) (((((Ff2_6.ext E7).keep KK8 nin0).keep KK9 nin0).keep KK10 nin0).keep KK11 (ninS (own_ne (by omega)) nin0)) (((((Ff0_6.ext E7).keep KK8 nin0).keep KK9 nin0).keep KK10 nin0).keep KK11 (ninS (own_ne (by omega)) nin0)) (((((Ff1_6.ext E7).keep KK8 nin0).keep KK9 nin0).keep KK10 nin0).keep KK11 (ninS (own_ne (by omega)) nin0)) (((((Ff2_6.ext E7).keep KK8 nin0).keep KK9 nin0).keep KK10 nin0).keep KK11 (ninS (own_ne (by omega)) nin0)) (own_Str.mono ((((((((Str3.keep KK4 all0).keep KK5 all0).keepX KK6 (((A2.keep KK3).keep KK4).keep KK5) (hw _ (List.mem_of_getElem? (i := 34) rfl)) (by decide)).ext E7).keep KK8 all0).keep KK9 all0).keep KK10 all0).keepX KK11 (((A7.keep KK8).keep KK9).keep KK10) (hw _ (List.mem_of_getElem? (i := 34) rfl)) (by decide)) (by omega)) (own_Str.mono (((((((Str4.keep KK5 all0).keepX KK6 (((A2.keep KK3).keep KK4).keep KK5) (hw _ (List.mem_of_getElem? (i := 34) rfl)) (by decide)).ext E7).keep KK8 all0).keep KK9 all0).keep KK10 all0).keepX KK11 (((A7.keep KK8).keep KK9).keep KK10) (hw _ (List.mem_of_getElem? (i := 34) rfl)) (by decide)) (by omega)) (own_Str.mono ((((((Str5.keepX KK6 (((A2.keep KK3).keep KK4).keep KK5) (hw _ (List.mem_of_getElem? (i := 34) rfl)) (by decide)).ext E7).keep KK8 all0).keep KK9 all0).keep KK10 all0).keepX KK11 (((A7.keep KK8).keep KK9).keep KK10) (hw _ (List.mem_of_getElem? (i := 34) rfl)) (by decide)) (by omega)) (own_Str.mono ((((((((Str3.keep KK4 all0).keep KK5 all0).keepX KK6 (((A2.keep KK3).keep KK4).keep KK5) (hw _ (List.mem_of_getElem? (i := 34) rfl)) (by decide)).ext E7).keep KK8 all0).keep KK9 all0).keep KK10 all0).keepX KK11 (((A7.keep KK8).keep KK9).keep KK10) (hw _ (List.mem_of_getElem? (i := 34) rfl)) (by decide)) (by omega)) (own_Str.mono (((((((Str4.keep KK5 all0).keepX KK6 (((A2.keep KK3).keep KK4).keep KK5) (hw _ (List.mem_of_getElem? (i := 34) rfl)) (by decide)).ext E7).keep KK8 all0).keep KK9 all0).keep KK10 all0).keepX KK11 (((A7.keep KK8).keep KK9).keep KK10) (hw _ (List.mem_of_getElem? (i := 34) rfl)) (by decide)) (by omega)) (own_Str.mono ((((((Str5.keepX KK6 (((A2.keep KK3).keep KK4).keep KK5) (hw _ (List.mem_of_getElem? (i := 34) rfl)) (by decide)).ext E7).keep KK8 all0).keep KK9 all0).keep KK10 all0).keepX KK11 (((A7.keep KK8).keep KK9).keep KK10) (hw _ (List.mem_of_getElem? (i := 34) rfl)) (by decide)) (by omega)) O2 P5) Z10 (hw _ (List.mem_of_getElem? (i := 70) rfl)) (hw _ (List.mem_of_getElem? (i := 35) rfl)) (by decide) (by decide)) q32a q32c (g := (mkF m 156 #[.val (.int p0), .val (.int p1), .val (.int p2), .val (.int p3), .val (.int p4), .val (.int p5), .val (.int r0), .val (.int r1), .val (.int r2), .val (.ref a1), .val (.ref b2), .val (.ref b7), .val (.int (0 : Int32)), .val (.int (0 : Int32)), .val (.int (0 : Int32)), .unset, .unset, .unset] [(.ref b2), (.ref b2)])) rfl (by rw [hml]; rfl) (Steps.refl _) (argsL := [(.ref b2)]) (rest := []) (lenOf own_pd5 rfl) rfl (by show 2 * 0 + _ ≤ _; exact Nat.le_of_eq rfl) (hb hby at_156) (fun _ _ => ⟨rfl, sm31, (by decide : 30 + 0 ≤ _), (by decide : 118 + 0 ≤ _)⟩)
      dsimp only [Pt.U, Pt.locs, Pt.cells, Pt.slots] at X32 l32 y32 z32 st32 hQ32
      subst l32 y32 z32
      obtain ⟨hr32, Nq32, sm32⟩ := hQ32
      obtain ⟨rfl, ee32⟩ := hr32.resolve_right (fun q => q.2 ⟨rfl, rfl, rfl⟩)
      have N32 := Fr.app N31 Nq32
      refine own_st (fun tq kq => st32.trans kq) ?_
      show own_G p e below _ (T32.setTop (mkF m 159 #[.val (.int p0), .val (.int p1), .val (.int p2), .val (.int p3), .val (.int p4), .val (.int p5), .val (.int r0), .val (.int r1), .val (.int r2), .val (.ref a1), .val (.ref b2), .val (.ref b7), .val (.int (0 : Int32)), .val (.int (0 : Int32)), .val (.int (0 : Int32)), .unset, .unset, .unset] [(.int (1 : Int32))]))
      refine own_st (fun tq kq => XS.istore X32.here hx rfl (hb hby at_159) rfl (l' := #[.val (.int p0), .val (.int p1), .val (.int p2), .val (.int p3), .val (.int p4), .val (.int p5), .val (.int r0), .val (.int r1), .val (.int r2), .val (.ref a1), .val (.ref b2), .val (.ref b7), .val (.int (0 : Int32)), .val (.int (0 : Int32)), .val (.int (0 : Int32)), .val (.int (1 : Int32)), .unset, .unset]) rfl kq) ?_
      refine own_st (fun tq kq => XS.aload X32.here hx rfl (hb hby at_161) rfl rfl kq) ?_
      refine own_st (fun tq kq => XS.aconstNull X32.here hx rfl (hb hby at_163) kq) ?_
      show own_G p e below _ (T32.setTop (mkF m 164 #[.val (.int p0), .val (.int p1), .val (.int p2), .val (.int p3), .val (.int p4), .val (.int p5), .val (.int r0), .val (.int r1), .val (.int r2), .val (.ref a1), .val (.ref b2), .val (.ref b7), .val (.int (0 : Int32)), .val (.int (0 : Int32)), .val (.int (0 : Int32)), .val (.int (1 : Int32)), .unset, .unset] [.null, (.ref b2)]))
      obtain ⟨cq33, kq33, q33a, q33b, q33c⟩ := isOf Z10 sm32 (((((((((A2.keep KK3).keep KK4).keep KK5).keep KK6).ext E7).keep KK8).keep KK9).keep KK10).keep KK11)
      obtain ⟨_, _, ⟨T33, L33, k33, n33⟩, -, X33, ⟨Lc33, hQ33, l33, y33, z33⟩, st33⟩ := X32.virtualBack hx (y := (⟨"com/example/garm/garm/SecurityTarget$Choice", "equals", "(Ljava/lang/Object;)Z"⟩ : MethodName)) (z := (⟨"com/example/garm/garm/SecurityTarget$Choice", "equals", "(Ljava/lang/Object;)Z"⟩ : MethodName)) o10 (mvT Z10 (hw _ (List.mem_of_getElem? (i := 66) rfl))) (mvT Z10 (hw _ (List.mem_of_getElem? (i := 67) rfl))) (notFace_of_selects (args := #[]) (mvT Z10 (hw _ (List.mem_of_getElem? (i := 69) rfl)))) (mvT Z10 (hw _ (List.mem_of_getElem? (i := 69) rfl))) (mvT Z10 (hw _ (List.mem_of_getElem? (i := 68) rfl))) (by decide) (own_backN (W := 0) (own_eqN l Z a0 hw [] (b2) T11.heap n0 (by omega) (X00.keep K11 all0) ) Z10 (hw _ (List.mem_of_getElem? (i := 70) rfl)) (hw _ (List.mem_of_getElem? (i := 35) rfl)) (by decide) (by decide)) q33a q33c (g := (mkF m 164 #[.val (.int p0), .val (.int p1), .val (.int p2), .val (.int p3), .val (.int p4), .val (.int p5), .val (.int r0), .val (.int r1), .val (.int r2), .val (.ref a1), .val (.ref b2), .val (.ref b7), .val (.int (0 : Int32)), .val (.int (0 : Int32)), .val (.int (0 : Int32)), .val (.int (1 : Int32)), .unset, .unset] [.null, (.ref b2)])) rfl (by rw [hml]; rfl) (Steps.refl _) (argsL := [.null]) (rest := []) (lenOf own_pd5 rfl) rfl (by show 2 * 0 + _ ≤ _; exact Nat.le_of_eq rfl) (hb hby at_164) (fun _ _ => ⟨rfl, sm32, (by decide : 30 + 0 ≤ _), (by decide : 118 + 0 ≤ _)⟩)
      dsimp only [Pt.U, Pt.locs, Pt.cells, Pt.slots] at X33 l33 y33 z33 st33 hQ33
      subst l33 y33 z33
      obtain ⟨rfl, Nq33, sm33⟩ := hQ33
      have N33 := Fr.app N32 Nq33
      refine own_st (fun tq kq => st33.trans kq) ?_
      show own_G p e below _ (T33.setTop (mkF m 167 #[.val (.int p0), .val (.int p1), .val (.int p2), .val (.int p3), .val (.int p4), .val (.int p5), .val (.int r0), .val (.int r1), .val (.int r2), .val (.ref a1), .val (.ref b2), .val (.ref b7), .val (.int (0 : Int32)), .val (.int (0 : Int32)), .val (.int (0 : Int32)), .val (.int (1 : Int32)), .unset, .unset] [(.int (0 : Int32))]))
      refine own_st (fun tq kq => XS.istore X33.here hx rfl (hb hby at_167) rfl (l' := #[.val (.int p0), .val (.int p1), .val (.int p2), .val (.int p3), .val (.int p4), .val (.int p5), .val (.int r0), .val (.int r1), .val (.int r2), .val (.ref a1), .val (.ref b2), .val (.ref b7), .val (.int (0 : Int32)), .val (.int (0 : Int32)), .val (.int (0 : Int32)), .val (.int (1 : Int32)), .val (.int (0 : Int32)), .unset]) rfl kq) ?_
      refine own_st (fun tq kq => XS.aload X33.here hx rfl (hb hby at_169) rfl rfl kq) ?_
      refine own_st (fun tq kq => XS.aload X33.here hx rfl (hb hby at_171) rfl rfl kq) ?_
      show own_G p e below _ (T33.setTop (mkF m 173 #[.val (.int p0), .val (.int p1), .val (.int p2), .val (.int p3), .val (.int p4), .val (.int p5), .val (.int r0), .val (.int r1), .val (.int r2), .val (.ref a1), .val (.ref b2), .val (.ref b7), .val (.int (0 : Int32)), .val (.int (0 : Int32)), .val (.int (0 : Int32)), .val (.int (1 : Int32)), .val (.int (0 : Int32)), .unset] [(.ref a1), (.ref b2)]))
      obtain ⟨cq34, kq34, q34a, q34b, q34c⟩ := isOf Z10 sm33 (((((((((A2.keep KK3).keep KK4).keep KK5).keep KK6).ext E7).keep KK8).keep KK9).keep KK10).keep KK11)
      obtain ⟨_, _, ⟨T34, L34, k34, n34⟩, -, X34, ⟨Lc34, hQ34, l34, y34, z34⟩, st34⟩ := X33.virtualBack hx (y := (⟨"com/example/garm/garm/SecurityTarget$Choice", "equals", "(Ljava/lang/Object;)Z"⟩ : MethodName)) (z := (⟨"com/example/garm/garm/SecurityTarget$Choice", "equals", "(Ljava/lang/Object;)Z"⟩ : MethodName)) o10 (mvT Z10 (hw _ (List.mem_of_getElem? (i := 66) rfl))) (mvT Z10 (hw _ (List.mem_of_getElem? (i := 67) rfl))) (notFace_of_selects (args := #[]) (mvT Z10 (hw _ (List.mem_of_getElem? (i := 69) rfl)))) (mvT Z10 (hw _ (List.mem_of_getElem? (i := 69) rfl))) (mvT Z10 (hw _ (List.mem_of_getElem? (i := 68) rfl))) (by decide) (own_backN (W := 0) (own_eqS l Z a0 hw [] (b2) (a1) T11.heap n0 (by omega) (X00.keep K11 all0) ((((((((((Str1.2.1.ext E2).keep KK3).keep KK4).keep KK5).keep KK6).ext E7).keep KK8).keep KK9).keep KK10).keep KK11)) Z10 (hw _ (List.mem_of_getElem? (i := 70) rfl)) (hw _ (List.mem_of_getElem? (i := 35) rfl)) (by decide) (by decide)) q34a q34c (g := (mkF m 173 #[.val (.int p0), .val (.int p1), .val (.int p2), .val (.int p3), .val (.int p4), .val (.int p5), .val (.int r0), .val (.int r1), .val (.int r2), .val (.ref a1), .val (.ref b2), .val (.ref b7), .val (.int (0 : Int32)), .val (.int (0 : Int32)), .val (.int (0 : Int32)), .val (.int (1 : Int32)), .val (.int (0 : Int32)), .unset] [(.ref a1), (.ref b2)])) rfl (by rw [hml]; rfl) (Steps.refl _) (argsL := [(.ref a1)]) (rest := []) (lenOf own_pd5 rfl) rfl (by show 2 * 0 + _ ≤ _; exact Nat.le_of_eq rfl) (hb hby at_173) (fun _ _ => ⟨rfl, sm33, (by decide : 30 + 0 ≤ _), (by decide : 118 + 0 ≤ _)⟩)
      dsimp only [Pt.U, Pt.locs, Pt.cells, Pt.slots] at X34 l34 y34 z34 st34 hQ34
      subst l34 y34 z34
      obtain ⟨rfl, Nq34, sm34⟩ := hQ34
      have N34 := Fr.app N33 Nq34
      refine own_st (fun tq kq => st34.trans kq) ?_
      show own_G p e below _ (T34.setTop (mkF m 176 #[.val (.int p0), .val (.int p1), .val (.int p2), .val (.int p3), .val (.int p4), .val (.int p5), .val (.int r0), .val (.int r1), .val (.int r2), .val (.ref a1), .val (.ref b2), .val (.ref b7), .val (.int (0 : Int32)), .val (.int (0 : Int32)), .val (.int (0 : Int32)), .val (.int (1 : Int32)), .val (.int (0 : Int32)), .unset] [(.int (0 : Int32))]))
      refine own_st (fun tq kq => XS.istore X34.here hx rfl (hb hby at_176) rfl (l' := #[.val (.int p0), .val (.int p1), .val (.int p2), .val (.int p3), .val (.int p4), .val (.int p5), .val (.int r0), .val (.int r1), .val (.int r2), .val (.ref a1), .val (.ref b2), .val (.ref b7), .val (.int (0 : Int32)), .val (.int (0 : Int32)), .val (.int (0 : Int32)), .val (.int (1 : Int32)), .val (.int (0 : Int32)), .val (.int (0 : Int32))]) rfl kq) ?_
      refine own_st (fun tq kq => XS.iload X34.here hx rfl (hb hby at_178) rfl  kq) ?_
      refine own_st (fun tq kq => XS.iload X34.here hx rfl (hb hby at_180) rfl  kq) ?_
      show own_G p e below _ (T34.setTop (mkF m 182 #[.val (.int p0), .val (.int p1), .val (.int p2), .val (.int p3), .val (.int p4), .val (.int p5), .val (.int r0), .val (.int r1), .val (.int r2), .val (.ref a1), .val (.ref b2), .val (.ref b7), .val (.int (0 : Int32)), .val (.int (0 : Int32)), .val (.int (0 : Int32)), .val (.int (1 : Int32)), .val (.int (0 : Int32)), .val (.int (0 : Int32))] [(.int (0 : Int32)), (.int (0 : Int32))]))
      refine own_st (fun tq kq => XS.icmpNo X34.here hx rfl (hb hby at_182) rfl (teq (by decide : ((0 : Int32) = (0 : Int32)))).2 kq) ?_
      refine own_st (fun tq kq => XS.iload X34.here hx rfl (hb hby at_185) rfl  kq) ?_
      refine own_st (fun tq kq => XS.iload X34.here hx rfl (hb hby at_187) rfl  kq) ?_
      show own_G p e below _ (T34.setTop (mkF m 189 #[.val (.int p0), .val (.int p1), .val (.int p2), .val (.int p3), .val (.int p4), .val (.int p5), .val (.int r0), .val (.int r1), .val (.int r2), .val (.ref a1), .val (.ref b2), .val (.ref b7), .val (.int (0 : Int32)), .val (.int (0 : Int32)), .val (.int (0 : Int32)), .val (.int (1 : Int32)), .val (.int (0 : Int32)), .val (.int (0 : Int32))] [(.int (0 : Int32)), (.int (0 : Int32))]))
      refine own_st (fun tq kq => XS.icmpNo X34.here hx rfl (hb hby at_189) rfl (teq (by decide : ((0 : Int32) = (0 : Int32)))).2 kq) ?_
      refine own_st (fun tq kq => XS.iload X34.here hx rfl (hb hby at_192) rfl  kq) ?_
      show own_G p e below _ (T34.setTop (mkF m 194 #[.val (.int p0), .val (.int p1), .val (.int p2), .val (.int p3), .val (.int p4), .val (.int p5), .val (.int r0), .val (.int r1), .val (.int r2), .val (.ref a1), .val (.ref b2), .val (.ref b7), .val (.int (0 : Int32)), .val (.int (0 : Int32)), .val (.int (0 : Int32)), .val (.int (1 : Int32)), .val (.int (0 : Int32)), .val (.int (0 : Int32))] [(.int (1 : Int32))]))
      refine own_st (fun tq kq => XS.ifNo X34.here hx rfl (hb hby at_194) rfl ((if0 _ _).trans (feq (by decide : ¬ ((1 : Int32) = (0 : Int32)))).1) kq) ?_
      refine own_st (fun tq kq => XS.iload X34.here hx rfl (hb hby at_197) rfl  kq) ?_
      show own_G p e below _ (T34.setTop (mkF m 199 #[.val (.int p0), .val (.int p1), .val (.int p2), .val (.int p3), .val (.int p4), .val (.int p5), .val (.int r0), .val (.int r1), .val (.int r2), .val (.ref a1), .val (.ref b2), .val (.ref b7), .val (.int (0 : Int32)), .val (.int (0 : Int32)), .val (.int (0 : Int32)), .val (.int (1 : Int32)), .val (.int (0 : Int32)), .val (.int (0 : Int32))] [(.int (0 : Int32))]))
      refine own_st (fun tq kq => XS.ifNo X34.here hx rfl (hb hby at_199) rfl ((if0 _ _).trans (teq (by decide : ((0 : Int32) = (0 : Int32)))).2) kq) ?_
      refine own_st (fun tq kq => XS.iload X34.here hx rfl (hb hby at_202) rfl  kq) ?_
      show own_G p e below _ (T34.setTop (mkF m 204 #[.val (.int p0), .val (.int p1), .val (.int p2), .val (.int p3), .val (.int p4), .val (.int p5), .val (.int r0), .val (.int r1), .val (.int r2), .val (.ref a1), .val (.ref b2), .val (.ref b7), .val (.int (0 : Int32)), .val (.int (0 : Int32)), .val (.int (0 : Int32)), .val (.int (1 : Int32)), .val (.int (0 : Int32)), .val (.int (0 : Int32))] [(.int (0 : Int32))]))
      refine own_st (fun tq kq => XS.ifNo X34.here hx rfl (hb hby at_204) rfl ((if0 _ _).trans (teq (by decide : ((0 : Int32) = (0 : Int32)))).2) kq) ?_
      refine own_st (fun tq kq => XS.iconst X34.here hx rfl (hb hby at_207) kq) ?_
      refine own_st (fun tq kq => XS.goto X34.here hx rfl (pc0 := 208) (pc' := 212) rfl (hb hby at_208) (by decide) (by decide) kq) ?_
      show own_G p e below _ (T34.setTop (mkF m 212 #[.val (.int p0), .val (.int p1), .val (.int p2), .val (.int p3), .val (.int p4), .val (.int p5), .val (.int r0), .val (.int r1), .val (.int r2), .val (.ref a1), .val (.ref b2), .val (.ref b7), .val (.int (0 : Int32)), .val (.int (0 : Int32)), .val (.int (0 : Int32)), .val (.int (1 : Int32)), .val (.int (0 : Int32)), .val (.int (0 : Int32))] [(.int (1 : Int32))]))
      obtain ⟨fs, hr, hrun, hended, hRW⟩ := X34.leaveW S10 (by rw [sm34]; exact (own_le (by omega))) (v := some (.int (1 : Int32))) (fun h => by rw [Bd.returns] at h; cases h)
      have cE := C11.trans (CHv.at (s := s) (vm0 := T10.vm) X34 Z10 hEL C11.1)
      refine ⟨_, _, retN X34 hx (t := .boolean) Bd.returns (by simp) (hb hby at_212) hr, hrun, hended, _, _, rfl, ?_, ?_, own_RW hRW (by decide) (by decide)⟩
      · change (fun (v : Option Value) (_ : Vm) (h : Heap) (L : List Loc) => v = some (.int (1 : Int32)) ∧ Fr n0 L) (some (.int (1 : Int32))) T34.vm T34.heap _; rw [sm34]; exact ⟨rfl, N34⟩
      · rw [hh]; change CHr Z consts_1 s.vm h0 T34.vm T34.heap; rw [sm34]; exact cE
  refine own_st (fun tq kq => castTop (ef_rm0 m (p0) (p1) (p2) (p3) (p4) (p5)) kq) ?_
  show own_G p e below _ (s₁.setTop (mkF m 0 #[.val (.int p0), .val (.int p1), .val (.int p2), .val (.int p3), .val (.int p4), .val (.int p5), .unset, .unset, .unset, .unset, .unset, .unset, .unset, .unset, .unset, .unset, .unset, .unset] []))
  refine own_st (fun tq kq => XS.iloadN X0.here hx rfl (hb hby at_0) rfl  kq) ?_
  refine own_st (fun tq kq => XS.iconst X0.here hx rfl (hb hby at_1) kq) ?_
  refine own_st (fun tq kq => XS.iand X0.here hx rfl (hb hby at_2) rfl kq) ?_
  show own_G p e below _ (s₁.setTop (mkF m 3 #[.val (.int p0), .val (.int p1), .val (.int p2), .val (.int p3), .val (.int p4), .val (.int p5), .unset, .unset, .unset, .unset, .unset, .unset, .unset, .unset, .unset, .unset, .unset, .unset] [(.int (p3 &&& (1 : Int32)))]))
  by_cases hc3_35 : ((p3 &&& (1 : Int32)) = (0 : Int32))
  ·
    refine own_st (fun tq kq => XS.ifYes X0.here hx rfl (pc0 := 3) (pc' := 10) rfl (hb hby at_3) rfl ((if0 _ _).trans (teq hc3_35).1) (by decide) (by decide) kq) ?_
    refine own_st (fun tq kq => XS.iloadN X0.here hx rfl (hb hby at_10) rfl  kq) ?_
    refine own_st (fun tq kq => XS.iconst X0.here hx rfl (hb hby at_11) kq) ?_
    refine own_st (fun tq kq => XS.iushr X0.here hx rfl (hb hby at_12) rfl kq) ?_
    show own_G p e below _ (s₁.setTop (mkF m 13 #[.val (.int p0), .val (.int p1), .val (.int p2), .val (.int p3), .val (.int p4), .val (.int p5), .unset, .unset, .unset, .unset, .unset, .unset, .unset, .unset, .unset, .unset, .unset, .unset] [(.int ((p3.toUInt32 >>> ((1 : Int32) &&& 31).toUInt32).toInt32))]))
    refine own_st (fun tq kq => XS.istore X0.here hx rfl (hb hby at_13) rfl (l' := #[.val (.int p0), .val (.int p1), .val (.int p2), .val (.int p3), .val (.int p4), .val (.int p5), .val (.int ((p3.toUInt32 >>> ((1 : Int32) &&& 31).toUInt32).toInt32)), .unset, .unset, .unset, .unset, .unset, .unset, .unset, .unset, .unset, .unset, .unset]) rfl kq) ?_
    refine own_st (fun tq kq => XS.iload X0.here hx rfl (hb hby at_15) rfl  kq) ?_
    refine own_st (fun tq kq => XS.iconst X0.here hx rfl (hb hby at_17) kq) ?_
    refine own_st (fun tq kq => XS.iand X0.here hx rfl (hb hby at_18) rfl kq) ?_
    show own_G p e below _ (s₁.setTop (mkF m 19 #[.val (.int p0), .val (.int p1), .val (.int p2), .val (.int p3), .val (.int p4), .val (.int p5), .val (.int ((p3.toUInt32 >>> ((1 : Int32) &&& 31).toUInt32).toInt32)), .unset, .unset, .unset, .unset, .unset, .unset, .unset, .unset, .unset, .unset, .unset] [(.int (p4 &&& (1 : Int32)))]))
    by_cases hc19_36 : ((p4 &&& (1 : Int32)) = (0 : Int32))
    ·
      refine own_st (fun tq kq => XS.ifYes X0.here hx rfl (pc0 := 19) (pc' := 26) rfl (hb hby at_19) rfl ((if0 _ _).trans (teq hc19_36).1) (by decide) (by decide) kq) ?_
      refine own_st (fun tq kq => XS.iload X0.here hx rfl (hb hby at_26) rfl  kq) ?_
      refine own_st (fun tq kq => XS.iconst X0.here hx rfl (hb hby at_28) kq) ?_
      refine own_st (fun tq kq => XS.iushr X0.here hx rfl (hb hby at_29) rfl kq) ?_
      show own_G p e below _ (s₁.setTop (mkF m 30 #[.val (.int p0), .val (.int p1), .val (.int p2), .val (.int p3), .val (.int p4), .val (.int p5), .val (.int ((p3.toUInt32 >>> ((1 : Int32) &&& 31).toUInt32).toInt32)), .unset, .unset, .unset, .unset, .unset, .unset, .unset, .unset, .unset, .unset, .unset] [(.int ((p4.toUInt32 >>> ((1 : Int32) &&& 31).toUInt32).toInt32))]))
      refine own_st (fun tq kq => XS.istore X0.here hx rfl (hb hby at_30) rfl (l' := #[.val (.int p0), .val (.int p1), .val (.int p2), .val (.int p3), .val (.int p4), .val (.int p5), .val (.int ((p3.toUInt32 >>> ((1 : Int32) &&& 31).toUInt32).toInt32)), .val (.int ((p4.toUInt32 >>> ((1 : Int32) &&& 31).toUInt32).toInt32)), .unset, .unset, .unset, .unset, .unset, .unset, .unset, .unset, .unset, .unset]) rfl kq) ?_
      refine own_st (fun tq kq => XS.iload X0.here hx rfl (hb hby at_32) rfl  kq) ?_
      refine own_st (fun tq kq => XS.iconst X0.here hx rfl (hb hby at_34) kq) ?_
      refine own_st (fun tq kq => XS.iand X0.here hx rfl (hb hby at_35) rfl kq) ?_
      show own_G p e below _ (s₁.setTop (mkF m 36 #[.val (.int p0), .val (.int p1), .val (.int p2), .val (.int p3), .val (.int p4), .val (.int p5), .val (.int ((p3.toUInt32 >>> ((1 : Int32) &&& 31).toUInt32).toInt32)), .val (.int ((p4.toUInt32 >>> ((1 : Int32) &&& 31).toUInt32).toInt32)), .unset, .unset, .unset, .unset, .unset, .unset, .unset, .unset, .unset, .unset] [(.int (p5 &&& (1 : Int32)))]))
      by_cases hc36_37 : ((p5 &&& (1 : Int32)) = (0 : Int32))
      ·
        refine own_st (fun tq kq => XS.ifYes X0.here hx rfl (pc0 := 36) (pc' := 43) rfl (hb hby at_36) rfl ((if0 _ _).trans (teq hc36_37).1) (by decide) (by decide) kq) ?_
        refine own_st (fun tq kq => XS.iload X0.here hx rfl (hb hby at_43) rfl  kq) ?_
        refine own_st (fun tq kq => XS.iconst X0.here hx rfl (hb hby at_45) kq) ?_
        refine own_st (fun tq kq => XS.iushr X0.here hx rfl (hb hby at_46) rfl kq) ?_
        show own_G p e below _ (s₁.setTop (mkF m 47 #[.val (.int p0), .val (.int p1), .val (.int p2), .val (.int p3), .val (.int p4), .val (.int p5), .val (.int ((p3.toUInt32 >>> ((1 : Int32) &&& 31).toUInt32).toInt32)), .val (.int ((p4.toUInt32 >>> ((1 : Int32) &&& 31).toUInt32).toInt32)), .unset, .unset, .unset, .unset, .unset, .unset, .unset, .unset, .unset, .unset] [(.int ((p5.toUInt32 >>> ((1 : Int32) &&& 31).toUInt32).toInt32))]))
        refine own_st (fun tq kq => XS.istore X0.here hx rfl (hb hby at_47) rfl (l' := #[.val (.int p0), .val (.int p1), .val (.int p2), .val (.int p3), .val (.int p4), .val (.int p5), .val (.int ((p3.toUInt32 >>> ((1 : Int32) &&& 31).toUInt32).toInt32)), .val (.int ((p4.toUInt32 >>> ((1 : Int32) &&& 31).toUInt32).toInt32)), .val (.int ((p5.toUInt32 >>> ((1 : Int32) &&& 31).toUInt32).toInt32)), .unset, .unset, .unset, .unset, .unset, .unset, .unset, .unset, .unset]) rfl kq) ?_
        show own_G p e below _ (s₁.setTop (mkF m 49 #[.val (.int p0), .val (.int p1), .val (.int p2), .val (.int p3), .val (.int p4), .val (.int p5), .val (.int ((p3.toUInt32 >>> ((1 : Int32) &&& 31).toUInt32).toInt32)), .val (.int ((p4.toUInt32 >>> ((1 : Int32) &&& 31).toUInt32).toInt32)), .val (.int ((p5.toUInt32 >>> ((1 : Int32) &&& 31).toUInt32).toInt32)), .unset, .unset, .unset, .unset, .unset, .unset, .unset, .unset, .unset] []))
        exact tail s₁ ((p3.toUInt32 >>> ((1 : Int32) &&& 31).toUInt32).toInt32) ((p4.toUInt32 >>> ((1 : Int32) &&& 31).toUInt32).toInt32) ((p5.toUInt32 >>> ((1 : Int32) &&& 31).toUInt32).toInt32) X0 e0
      ·
        refine own_st (fun tq kq => XS.ifNo X0.here hx rfl (hb hby at_36) rfl ((if0 _ _).trans (feq hc36_37).1) kq) ?_
        refine own_st (fun tq kq => XS.iloadN X0.here hx rfl (hb hby at_39) rfl  kq) ?_
        refine own_st (fun tq kq => XS.goto X0.here hx rfl (pc0 := 40) (pc' := 47) rfl (hb hby at_40) (by decide) (by decide) kq) ?_
        refine own_st (fun tq kq => XS.istore X0.here hx rfl (hb hby at_47) rfl (l' := #[.val (.int p0), .val (.int p1), .val (.int p2), .val (.int p3), .val (.int p4), .val (.int p5), .val (.int ((p3.toUInt32 >>> ((1 : Int32) &&& 31).toUInt32).toInt32)), .val (.int ((p4.toUInt32 >>> ((1 : Int32) &&& 31).toUInt32).toInt32)), .val (.int p2), .unset, .unset, .unset, .unset, .unset, .unset, .unset, .unset, .unset]) rfl kq) ?_
        show own_G p e below _ (s₁.setTop (mkF m 49 #[.val (.int p0), .val (.int p1), .val (.int p2), .val (.int p3), .val (.int p4), .val (.int p5), .val (.int ((p3.toUInt32 >>> ((1 : Int32) &&& 31).toUInt32).toInt32)), .val (.int ((p4.toUInt32 >>> ((1 : Int32) &&& 31).toUInt32).toInt32)), .val (.int p2), .unset, .unset, .unset, .unset, .unset, .unset, .unset, .unset, .unset] []))
        exact tail s₁ ((p3.toUInt32 >>> ((1 : Int32) &&& 31).toUInt32).toInt32) ((p4.toUInt32 >>> ((1 : Int32) &&& 31).toUInt32).toInt32) p2 X0 e0
    ·
      refine own_st (fun tq kq => XS.ifNo X0.here hx rfl (hb hby at_19) rfl ((if0 _ _).trans (feq hc19_36).1) kq) ?_
      refine own_st (fun tq kq => XS.iloadN X0.here hx rfl (hb hby at_22) rfl  kq) ?_
      refine own_st (fun tq kq => XS.goto X0.here hx rfl (pc0 := 23) (pc' := 30) rfl (hb hby at_23) (by decide) (by decide) kq) ?_
      refine own_st (fun tq kq => XS.istore X0.here hx rfl (hb hby at_30) rfl (l' := #[.val (.int p0), .val (.int p1), .val (.int p2), .val (.int p3), .val (.int p4), .val (.int p5), .val (.int ((p3.toUInt32 >>> ((1 : Int32) &&& 31).toUInt32).toInt32)), .val (.int p1), .unset, .unset, .unset, .unset, .unset, .unset, .unset, .unset, .unset, .unset]) rfl kq) ?_
      show own_G p e below _ (s₁.setTop (mkF m 32 #[.val (.int p0), .val (.int p1), .val (.int p2), .val (.int p3), .val (.int p4), .val (.int p5), .val (.int ((p3.toUInt32 >>> ((1 : Int32) &&& 31).toUInt32).toInt32)), .val (.int p1), .unset, .unset, .unset, .unset, .unset, .unset, .unset, .unset, .unset, .unset] []))
      refine own_st (fun tq kq => XS.iload X0.here hx rfl (hb hby at_32) rfl  kq) ?_
      refine own_st (fun tq kq => XS.iconst X0.here hx rfl (hb hby at_34) kq) ?_
      refine own_st (fun tq kq => XS.iand X0.here hx rfl (hb hby at_35) rfl kq) ?_
      show own_G p e below _ (s₁.setTop (mkF m 36 #[.val (.int p0), .val (.int p1), .val (.int p2), .val (.int p3), .val (.int p4), .val (.int p5), .val (.int ((p3.toUInt32 >>> ((1 : Int32) &&& 31).toUInt32).toInt32)), .val (.int p1), .unset, .unset, .unset, .unset, .unset, .unset, .unset, .unset, .unset, .unset] [(.int (p5 &&& (1 : Int32)))]))
      by_cases hc36_38 : ((p5 &&& (1 : Int32)) = (0 : Int32))
      ·
        refine own_st (fun tq kq => XS.ifYes X0.here hx rfl (pc0 := 36) (pc' := 43) rfl (hb hby at_36) rfl ((if0 _ _).trans (teq hc36_38).1) (by decide) (by decide) kq) ?_
        refine own_st (fun tq kq => XS.iload X0.here hx rfl (hb hby at_43) rfl  kq) ?_
        refine own_st (fun tq kq => XS.iconst X0.here hx rfl (hb hby at_45) kq) ?_
        refine own_st (fun tq kq => XS.iushr X0.here hx rfl (hb hby at_46) rfl kq) ?_
        show own_G p e below _ (s₁.setTop (mkF m 47 #[.val (.int p0), .val (.int p1), .val (.int p2), .val (.int p3), .val (.int p4), .val (.int p5), .val (.int ((p3.toUInt32 >>> ((1 : Int32) &&& 31).toUInt32).toInt32)), .val (.int p1), .unset, .unset, .unset, .unset, .unset, .unset, .unset, .unset, .unset, .unset] [(.int ((p5.toUInt32 >>> ((1 : Int32) &&& 31).toUInt32).toInt32))]))
        refine own_st (fun tq kq => XS.istore X0.here hx rfl (hb hby at_47) rfl (l' := #[.val (.int p0), .val (.int p1), .val (.int p2), .val (.int p3), .val (.int p4), .val (.int p5), .val (.int ((p3.toUInt32 >>> ((1 : Int32) &&& 31).toUInt32).toInt32)), .val (.int p1), .val (.int ((p5.toUInt32 >>> ((1 : Int32) &&& 31).toUInt32).toInt32)), .unset, .unset, .unset, .unset, .unset, .unset, .unset, .unset, .unset]) rfl kq) ?_
        show own_G p e below _ (s₁.setTop (mkF m 49 #[.val (.int p0), .val (.int p1), .val (.int p2), .val (.int p3), .val (.int p4), .val (.int p5), .val (.int ((p3.toUInt32 >>> ((1 : Int32) &&& 31).toUInt32).toInt32)), .val (.int p1), .val (.int ((p5.toUInt32 >>> ((1 : Int32) &&& 31).toUInt32).toInt32)), .unset, .unset, .unset, .unset, .unset, .unset, .unset, .unset, .unset] []))
        exact tail s₁ ((p3.toUInt32 >>> ((1 : Int32) &&& 31).toUInt32).toInt32) p1 ((p5.toUInt32 >>> ((1 : Int32) &&& 31).toUInt32).toInt32) X0 e0
      ·
        refine own_st (fun tq kq => XS.ifNo X0.here hx rfl (hb hby at_36) rfl ((if0 _ _).trans (feq hc36_38).1) kq) ?_
        refine own_st (fun tq kq => XS.iloadN X0.here hx rfl (hb hby at_39) rfl  kq) ?_
        refine own_st (fun tq kq => XS.goto X0.here hx rfl (pc0 := 40) (pc' := 47) rfl (hb hby at_40) (by decide) (by decide) kq) ?_
        refine own_st (fun tq kq => XS.istore X0.here hx rfl (hb hby at_47) rfl (l' := #[.val (.int p0), .val (.int p1), .val (.int p2), .val (.int p3), .val (.int p4), .val (.int p5), .val (.int ((p3.toUInt32 >>> ((1 : Int32) &&& 31).toUInt32).toInt32)), .val (.int p1), .val (.int p2), .unset, .unset, .unset, .unset, .unset, .unset, .unset, .unset, .unset]) rfl kq) ?_
        show own_G p e below _ (s₁.setTop (mkF m 49 #[.val (.int p0), .val (.int p1), .val (.int p2), .val (.int p3), .val (.int p4), .val (.int p5), .val (.int ((p3.toUInt32 >>> ((1 : Int32) &&& 31).toUInt32).toInt32)), .val (.int p1), .val (.int p2), .unset, .unset, .unset, .unset, .unset, .unset, .unset, .unset, .unset] []))
        exact tail s₁ ((p3.toUInt32 >>> ((1 : Int32) &&& 31).toUInt32).toInt32) p1 p2 X0 e0
  ·
    refine own_st (fun tq kq => XS.ifNo X0.here hx rfl (hb hby at_3) rfl ((if0 _ _).trans (feq hc3_35).1) kq) ?_
    refine own_st (fun tq kq => XS.iloadN X0.here hx rfl (hb hby at_6) rfl  kq) ?_
    refine own_st (fun tq kq => XS.goto X0.here hx rfl (pc0 := 7) (pc' := 13) rfl (hb hby at_7) (by decide) (by decide) kq) ?_
    refine own_st (fun tq kq => XS.istore X0.here hx rfl (hb hby at_13) rfl (l' := #[.val (.int p0), .val (.int p1), .val (.int p2), .val (.int p3), .val (.int p4), .val (.int p5), .val (.int p0), .unset, .unset, .unset, .unset, .unset, .unset, .unset, .unset, .unset, .unset, .unset]) rfl kq) ?_
    show own_G p e below _ (s₁.setTop (mkF m 15 #[.val (.int p0), .val (.int p1), .val (.int p2), .val (.int p3), .val (.int p4), .val (.int p5), .val (.int p0), .unset, .unset, .unset, .unset, .unset, .unset, .unset, .unset, .unset, .unset, .unset] []))
    refine own_st (fun tq kq => XS.iload X0.here hx rfl (hb hby at_15) rfl  kq) ?_
    refine own_st (fun tq kq => XS.iconst X0.here hx rfl (hb hby at_17) kq) ?_
    refine own_st (fun tq kq => XS.iand X0.here hx rfl (hb hby at_18) rfl kq) ?_
    show own_G p e below _ (s₁.setTop (mkF m 19 #[.val (.int p0), .val (.int p1), .val (.int p2), .val (.int p3), .val (.int p4), .val (.int p5), .val (.int p0), .unset, .unset, .unset, .unset, .unset, .unset, .unset, .unset, .unset, .unset, .unset] [(.int (p4 &&& (1 : Int32)))]))
    by_cases hc19_39 : ((p4 &&& (1 : Int32)) = (0 : Int32))
    ·
      refine own_st (fun tq kq => XS.ifYes X0.here hx rfl (pc0 := 19) (pc' := 26) rfl (hb hby at_19) rfl ((if0 _ _).trans (teq hc19_39).1) (by decide) (by decide) kq) ?_
      refine own_st (fun tq kq => XS.iload X0.here hx rfl (hb hby at_26) rfl  kq) ?_
      refine own_st (fun tq kq => XS.iconst X0.here hx rfl (hb hby at_28) kq) ?_
      refine own_st (fun tq kq => XS.iushr X0.here hx rfl (hb hby at_29) rfl kq) ?_
      show own_G p e below _ (s₁.setTop (mkF m 30 #[.val (.int p0), .val (.int p1), .val (.int p2), .val (.int p3), .val (.int p4), .val (.int p5), .val (.int p0), .unset, .unset, .unset, .unset, .unset, .unset, .unset, .unset, .unset, .unset, .unset] [(.int ((p4.toUInt32 >>> ((1 : Int32) &&& 31).toUInt32).toInt32))]))
      refine own_st (fun tq kq => XS.istore X0.here hx rfl (hb hby at_30) rfl (l' := #[.val (.int p0), .val (.int p1), .val (.int p2), .val (.int p3), .val (.int p4), .val (.int p5), .val (.int p0), .val (.int ((p4.toUInt32 >>> ((1 : Int32) &&& 31).toUInt32).toInt32)), .unset, .unset, .unset, .unset, .unset, .unset, .unset, .unset, .unset, .unset]) rfl kq) ?_
      refine own_st (fun tq kq => XS.iload X0.here hx rfl (hb hby at_32) rfl  kq) ?_
      refine own_st (fun tq kq => XS.iconst X0.here hx rfl (hb hby at_34) kq) ?_
      refine own_st (fun tq kq => XS.iand X0.here hx rfl (hb hby at_35) rfl kq) ?_
      show own_G p e below _ (s₁.setTop (mkF m 36 #[.val (.int p0), .val (.int p1), .val (.int p2), .val (.int p3), .val (.int p4), .val (.int p5), .val (.int p0), .val (.int ((p4.toUInt32 >>> ((1 : Int32) &&& 31).toUInt32).toInt32)), .unset, .unset, .unset, .unset, .unset, .unset, .unset, .unset, .unset, .unset] [(.int (p5 &&& (1 : Int32)))]))
      by_cases hc36_40 : ((p5 &&& (1 : Int32)) = (0 : Int32))
      ·
        refine own_st (fun tq kq => XS.ifYes X0.here hx rfl (pc0 := 36) (pc' := 43) rfl (hb hby at_36) rfl ((if0 _ _).trans (teq hc36_40).1) (by decide) (by decide) kq) ?_
        refine own_st (fun tq kq => XS.iload X0.here hx rfl (hb hby at_43) rfl  kq) ?_
        refine own_st (fun tq kq => XS.iconst X0.here hx rfl (hb hby at_45) kq) ?_
        refine own_st (fun tq kq => XS.iushr X0.here hx rfl (hb hby at_46) rfl kq) ?_
        show own_G p e below _ (s₁.setTop (mkF m 47 #[.val (.int p0), .val (.int p1), .val (.int p2), .val (.int p3), .val (.int p4), .val (.int p5), .val (.int p0), .val (.int ((p4.toUInt32 >>> ((1 : Int32) &&& 31).toUInt32).toInt32)), .unset, .unset, .unset, .unset, .unset, .unset, .unset, .unset, .unset, .unset] [(.int ((p5.toUInt32 >>> ((1 : Int32) &&& 31).toUInt32).toInt32))]))
        refine own_st (fun tq kq => XS.istore X0.here hx rfl (hb hby at_47) rfl (l' := #[.val (.int p0), .val (.int p1), .val (.int p2), .val (.int p3), .val (.int p4), .val (.int p5), .val (.int p0), .val (.int ((p4.toUInt32 >>> ((1 : Int32) &&& 31).toUInt32).toInt32)), .val (.int ((p5.toUInt32 >>> ((1 : Int32) &&& 31).toUInt32).toInt32)), .unset, .unset, .unset, .unset, .unset, .unset, .unset, .unset, .unset]) rfl kq) ?_
        show own_G p e below _ (s₁.setTop (mkF m 49 #[.val (.int p0), .val (.int p1), .val (.int p2), .val (.int p3), .val (.int p4), .val (.int p5), .val (.int p0), .val (.int ((p4.toUInt32 >>> ((1 : Int32) &&& 31).toUInt32).toInt32)), .val (.int ((p5.toUInt32 >>> ((1 : Int32) &&& 31).toUInt32).toInt32)), .unset, .unset, .unset, .unset, .unset, .unset, .unset, .unset, .unset] []))
        exact tail s₁ p0 ((p4.toUInt32 >>> ((1 : Int32) &&& 31).toUInt32).toInt32) ((p5.toUInt32 >>> ((1 : Int32) &&& 31).toUInt32).toInt32) X0 e0
      ·
        refine own_st (fun tq kq => XS.ifNo X0.here hx rfl (hb hby at_36) rfl ((if0 _ _).trans (feq hc36_40).1) kq) ?_
        refine own_st (fun tq kq => XS.iloadN X0.here hx rfl (hb hby at_39) rfl  kq) ?_
        refine own_st (fun tq kq => XS.goto X0.here hx rfl (pc0 := 40) (pc' := 47) rfl (hb hby at_40) (by decide) (by decide) kq) ?_
        refine own_st (fun tq kq => XS.istore X0.here hx rfl (hb hby at_47) rfl (l' := #[.val (.int p0), .val (.int p1), .val (.int p2), .val (.int p3), .val (.int p4), .val (.int p5), .val (.int p0), .val (.int ((p4.toUInt32 >>> ((1 : Int32) &&& 31).toUInt32).toInt32)), .val (.int p2), .unset, .unset, .unset, .unset, .unset, .unset, .unset, .unset, .unset]) rfl kq) ?_
        show own_G p e below _ (s₁.setTop (mkF m 49 #[.val (.int p0), .val (.int p1), .val (.int p2), .val (.int p3), .val (.int p4), .val (.int p5), .val (.int p0), .val (.int ((p4.toUInt32 >>> ((1 : Int32) &&& 31).toUInt32).toInt32)), .val (.int p2), .unset, .unset, .unset, .unset, .unset, .unset, .unset, .unset, .unset] []))
        exact tail s₁ p0 ((p4.toUInt32 >>> ((1 : Int32) &&& 31).toUInt32).toInt32) p2 X0 e0
    ·
      refine own_st (fun tq kq => XS.ifNo X0.here hx rfl (hb hby at_19) rfl ((if0 _ _).trans (feq hc19_39).1) kq) ?_
      refine own_st (fun tq kq => XS.iloadN X0.here hx rfl (hb hby at_22) rfl  kq) ?_
      refine own_st (fun tq kq => XS.goto X0.here hx rfl (pc0 := 23) (pc' := 30) rfl (hb hby at_23) (by decide) (by decide) kq) ?_
      refine own_st (fun tq kq => XS.istore X0.here hx rfl (hb hby at_30) rfl (l' := #[.val (.int p0), .val (.int p1), .val (.int p2), .val (.int p3), .val (.int p4), .val (.int p5), .val (.int p0), .val (.int p1), .unset, .unset, .unset, .unset, .unset, .unset, .unset, .unset, .unset, .unset]) rfl kq) ?_
      show own_G p e below _ (s₁.setTop (mkF m 32 #[.val (.int p0), .val (.int p1), .val (.int p2), .val (.int p3), .val (.int p4), .val (.int p5), .val (.int p0), .val (.int p1), .unset, .unset, .unset, .unset, .unset, .unset, .unset, .unset, .unset, .unset] []))
      refine own_st (fun tq kq => XS.iload X0.here hx rfl (hb hby at_32) rfl  kq) ?_
      refine own_st (fun tq kq => XS.iconst X0.here hx rfl (hb hby at_34) kq) ?_
      refine own_st (fun tq kq => XS.iand X0.here hx rfl (hb hby at_35) rfl kq) ?_
      show own_G p e below _ (s₁.setTop (mkF m 36 #[.val (.int p0), .val (.int p1), .val (.int p2), .val (.int p3), .val (.int p4), .val (.int p5), .val (.int p0), .val (.int p1), .unset, .unset, .unset, .unset, .unset, .unset, .unset, .unset, .unset, .unset] [(.int (p5 &&& (1 : Int32)))]))
      by_cases hc36_41 : ((p5 &&& (1 : Int32)) = (0 : Int32))
      ·
        refine own_st (fun tq kq => XS.ifYes X0.here hx rfl (pc0 := 36) (pc' := 43) rfl (hb hby at_36) rfl ((if0 _ _).trans (teq hc36_41).1) (by decide) (by decide) kq) ?_
        refine own_st (fun tq kq => XS.iload X0.here hx rfl (hb hby at_43) rfl  kq) ?_
        refine own_st (fun tq kq => XS.iconst X0.here hx rfl (hb hby at_45) kq) ?_
        refine own_st (fun tq kq => XS.iushr X0.here hx rfl (hb hby at_46) rfl kq) ?_
        show own_G p e below _ (s₁.setTop (mkF m 47 #[.val (.int p0), .val (.int p1), .val (.int p2), .val (.int p3), .val (.int p4), .val (.int p5), .val (.int p0), .val (.int p1), .unset, .unset, .unset, .unset, .unset, .unset, .unset, .unset, .unset, .unset] [(.int ((p5.toUInt32 >>> ((1 : Int32) &&& 31).toUInt32).toInt32))]))
        refine own_st (fun tq kq => XS.istore X0.here hx rfl (hb hby at_47) rfl (l' := #[.val (.int p0), .val (.int p1), .val (.int p2), .val (.int p3), .val (.int p4), .val (.int p5), .val (.int p0), .val (.int p1), .val (.int ((p5.toUInt32 >>> ((1 : Int32) &&& 31).toUInt32).toInt32)), .unset, .unset, .unset, .unset, .unset, .unset, .unset, .unset, .unset]) rfl kq) ?_
        show own_G p e below _ (s₁.setTop (mkF m 49 #[.val (.int p0), .val (.int p1), .val (.int p2), .val (.int p3), .val (.int p4), .val (.int p5), .val (.int p0), .val (.int p1), .val (.int ((p5.toUInt32 >>> ((1 : Int32) &&& 31).toUInt32).toInt32)), .unset, .unset, .unset, .unset, .unset, .unset, .unset, .unset, .unset] []))
        exact tail s₁ p0 p1 ((p5.toUInt32 >>> ((1 : Int32) &&& 31).toUInt32).toInt32) X0 e0
      ·
        refine own_st (fun tq kq => XS.ifNo X0.here hx rfl (hb hby at_36) rfl ((if0 _ _).trans (feq hc36_41).1) kq) ?_
        refine own_st (fun tq kq => XS.iloadN X0.here hx rfl (hb hby at_39) rfl  kq) ?_
        refine own_st (fun tq kq => XS.goto X0.here hx rfl (pc0 := 40) (pc' := 47) rfl (hb hby at_40) (by decide) (by decide) kq) ?_
        refine own_st (fun tq kq => XS.istore X0.here hx rfl (hb hby at_47) rfl (l' := #[.val (.int p0), .val (.int p1), .val (.int p2), .val (.int p3), .val (.int p4), .val (.int p5), .val (.int p0), .val (.int p1), .val (.int p2), .unset, .unset, .unset, .unset, .unset, .unset, .unset, .unset, .unset]) rfl kq) ?_
        show own_G p e below _ (s₁.setTop (mkF m 49 #[.val (.int p0), .val (.int p1), .val (.int p2), .val (.int p3), .val (.int p4), .val (.int p5), .val (.int p0), .val (.int p1), .val (.int p2), .unset, .unset, .unset, .unset, .unset, .unset, .unset, .unset, .unset] []))
        exact tail s₁ p0 p1 p2 X0 e0

set_option maxRecDepth 65536 in
set_option maxHeartbeats 40000000 in
theorem comes_1 {Post : Tables → Env → Array Value → State → Outcome → State → Prop} (hpost : ∀ tb e args s v u, (limb_1_1.after args s (.returned v) u = true ∧ limb_1_2.after args s (.returned v) u = true ∧ True) → ReturnedEndW s (.returned v) u (Jvm.fieldLocs frame_1_writes args s ++ Jvm.arrayLocs frame_1_arrays args s ++ Jvm.staticLocs frame_1_statics s) 56 1216 → Post tb e args s (.returned v) u) :
    ArmFor flags0 classFile x code maxLocals ret World_1 tables_1 room_1 Calls_1 rest_1 Pre_1 Post := by
  intro l hfl _ _ p e ha hc hk s m args below hf hA hF happ hP
  obtain ⟨hcalls, hrest, hpre⟩ := hP
  obtain ⟨-, -, -, hnamed, -, -, -, hat⟩ := (Spec.applies_iff hf).mp happ
  obtain ⟨hg, hn⟩ := and_e (Cond.before_iff.mp (show (Jvm.Cond.and given_1 narrow_1).before args s = true from hpre))
  obtain ⟨ga0, gb0⟩ := and_e hg
  obtain ⟨ga1, gb1⟩ := and_e gb0
  obtain ⟨ga2, gb2⟩ := and_e gb1
  obtain ⟨ga3, gb3⟩ := and_e gb2
  obtain ⟨ga4, gb4⟩ := and_e gb3
  obtain ⟨ga5, gb5⟩ := and_e gb4
  obtain ⟨w0, w1, w2, w3, w4, w5, rfl⟩ : ∃ w0 w1 w2 w3 w4 w5 : Value, args = #[w0, w1, w2, w3, w4, w5] := by
    have hs : args.size = 6 := by simpa [Cond.value, given_1] using ga0
    obtain ⟨L⟩ := args
    match L, hs with
    | [w0, w1, w2, w3, w4, w5], _ => exact ⟨w0, w1, w2, w3, w4, w5, rfl⟩
  have hw := fun d (hd : d ∈ tables_1) => atoms_spec (ws := Jvm.Cond.code x code maxLocals ret :: tables_1) hat d (List.mem_cons_of_mem _ hd)
  have hfit : Fit s := fun {y c} hc i hi => by
    obtain ⟨ha, rfl⟩ := Array.getElem?_eq_some_iff.mp hc
    have q := List.all_eq_true.mp ((Array.all_eq_true_iff_forall_mem.mp hF) _ (Array.getElem_mem ha)) i (List.mem_range.mpr hi)
    simpa [Array.getElem?_eq_getElem hi] using q
  obtain ⟨hsets, hown0⟩ := atoms_of _ (rest_1_c_eq ▸ (show rest_1_c.before _ s = true from hrest))
  have hr0 := Cond.before_iff.mp hown0
  obtain ⟨i0, ei0⟩ := is_v ga1
  obtain rfl : w0 = (.int i0) := Option.some.inj ei0
  obtain ⟨i1, ei1⟩ := is_v ga2
  obtain rfl : w1 = (.int i1) := Option.some.inj ei1
  obtain ⟨i2, ei2⟩ := is_v ga3
  obtain rfl : w2 = (.int i2) := Option.some.inj ei2
  obtain ⟨i3, ei3⟩ := is_v ga4
  obtain rfl : w3 = (.int i3) := Option.some.inj ei3
  obtain ⟨i4, ei4⟩ := is_v ga5
  obtain rfl : w4 = (.int i4) := Option.some.inj ei4
  obtain ⟨i5, ei5⟩ := is_v gb5
  obtain rfl : w5 = (.int i5) := Option.some.inj ei5
  have n5 := not_v (Cond.before_iff.mp (hsets _ (List.mem_of_getElem? (i := 2) rfl)))
  obtain ⟨iG, eG⟩ := is_v (Cond.before_iff.mp (hsets _ (List.mem_of_getElem? (i := 1) rfl)))
  have SG : Sta s s.heap "java/lang/String" "COMPACT_STRINGS" "Z" (.int iG) := Sta.start eG (Or.inl (hsets _ (List.mem_of_getElem? (i := 0) rfl)))
  have cG : ¬ (iG = (0 : Int32)) := gotF (Cond.eq_ints eG (Term.int_eval (0))) n5
  have hEL : EW s _ consts_1 := (EW.cons (hw _ (List.mem_of_getElem? (i := 25) rfl)) (by decide) EW.nil)
  have hheld : ∀ p ∈ consts_1, Jvm.Lit.constHeld s p.1 p.2 := hcalls.1
  have hcw : Jvm.Lit.compactW.before _ s = true := hsets _ (List.mem_of_getElem? (i := 2) rfl)
  have hCH : CHv s consts_1 s.vm s.heap := CHv.start hEL hheld hcw (hw _ (List.mem_of_getElem? (i := 26) rfl)) (hw _ (List.mem_of_getElem? (i := 12) rfl))
  obtain ⟨n, o, h1, h2, h3, _, L, rfl, ⟨rfl, N⟩, -, hq⟩ := rm0 l s _ hw hEL tables_1 i0 i1 i2 i3 i4 i5 iG s.heap s.heap.size (Nat.le_refl _) (Old.start s) SG cG p e ha hc hk s m _ below hf ((Spec.applies_iff_loose hf).mp happ).1 ⟨rfl, State.Warmed39.refl s, rfl, hCH, all0⟩ trivial
  refine ⟨n, _, h1, h2, h3, hpost _ _ _ _ _ _ ⟨Cond.after_iff.mpr rfl, Cond.after_iff.mpr (eq_i res_at (Term.int_eval (1)) rfl), trivial⟩ ⟨hq.1, hq.2.1, hq.2.2.1, (hq.2.2.2.sift fun y hy => Or.inr (N y hy)).mono (by decide) (by decide)⟩⟩
theorem main_1_1 : Claimed_1_1 := comes_1 fun _ _ _ _ _ _ h hF => ⟨h.1, hF⟩
theorem main_1_2 : Claimed_1_2 := comes_1 fun _ _ _ _ _ _ h hF => ⟨h.2.1, hF⟩
end Jvm.Pilot.@@N@@
namespace Jvm.Pilot.@@N@@
open Jvm Jvm.ClassFile Sem Op Lib Jvm.Free Jvm.Stand Jvm.Pilot.@@N@@.Jvm.D
/-! MADE BY PROGRAM (witnessworld.py) out of the Statement's table words and the real class files: 21 classes; the members and pool entries that the words name. The judged class is class 1, her method 6. -/
namespace start1
open Jvm.ClassFile
def u (s : String) : CpInfo := .utf8 (stringToUtf16 s)
/-- a pool by its gaps: so many unusable entries, then the entry; so many at the end -/
def gap : Nat → List CpInfo → List CpInfo
  | 0, r => r
  | n + 1, r => .unusable :: gap n r
def poolList (es : List (Nat × CpInfo)) (last : Nat) : List CpInfo := es.foldr (fun e r => gap e.1 (e.2 :: r)) (gap last [])
def pool (es : List (Nat × CpInfo)) (last : Nat) : Array CpInfo := ⟨poolList es last⟩
def fileOf (pool : Array CpInfo) (this : Nat) (attrs : Array Attribute := #[]) (ms : Array MethodInfo := #[]) (fl : Nat := 33) (sup : Nat := 0) (ifs : Array Nat := #[]) (fds : Array FieldInfo := #[]) : ClassFile where
  minorVersion := 0
  majorVersion := 65
  constantPool := pool
  accessFlags := fl
  thisClass := this
  superClass := sup
  interfaces := ifs
  fields := fds
  methods := ms
  attributes := attrs
def plain (name : String) (sup : Option ClassId) : Class where
  name := name
  kind := .ordinary
  loader := none
  accessFlags := 33
  super := sup
  interfaces := #[]
  cf := none
  fields := #[]
  methods := #[]
  instanceTypes := #[]
  staticTypes := #[]
  resolved := #[]
  callSites := []
  init := .initialized
  statics := none
  mirror := none

def pool0 : Array CpInfo := pool [(5, u "<init>"), (0, u "()V"), (1, .class_ 10), (1, u "java/lang/Object")] 113

def k0c0 : Code := { maxStack := 0, maxLocals := 1, code := object_method_1_code, exceptionTable := #[], attributes := #[] }
def k0m0 : Method := { name := "<init>", desc := "()V", sig := { parameters := [], returnType := none }, accessFlags := 1, code := some k0c0 }
/-- java/lang/Object -/
def k0 : Class := { plain "java/lang/Object" none with
  accessFlags := 33
  interfaces := #[]
  cf := some (fileOf pool0 8 #[] #[{ accessFlags := 1, nameIndex := 5, descriptorIndex := 6, attributes := #[] }] 33 0 #[] #[])
  fields := #[]
  methods := #[k0m0]
  instanceTypes := #[]
  staticTypes := #[]
  resolved := Array.replicate 124 none
  statics := none }

def pool1 : Array CpInfo := pool [(2, .class_ 4), (1, u "java/lang/Object"), (0, u "<init>"), (0, u "()V"), (0, .methodref 8 9), (0, .class_ 10), (0, .nameAndType 11 12), (0, u "java/lang/Math"), (0, u "min"), (0, u "(II)I"), (0, .methodref 14 15), (0, .class_ 16), (0, .nameAndType 17 18), (0, u "com/example/garm/garm/ChoiceEqualsPinLaw"), (0, u "len"), (0, u "(I)I"), (0, .class_ 20), (0, u "java/lang/String"), (0, .methodref 19 22), (0, .nameAndType 5 23), (0, u "([C)V"), (0, .methodref 14 25), (0, .nameAndType 26 27), (0, u "c0"), (0, u "(I)C"), (0, .methodref 14 29), (0, .nameAndType 30 27), (0, u "c1"), (0, .methodref 14 32), (0, .nameAndType 33 34), (0, u "str"), (0, u "(I)Ljava/lang/String;"), (0, .class_ 36), (0, u "com/example/garm/garm/SecurityTarget$Choice"), (0, .methodref 35 38), (0, .nameAndType 5 39), (0, u "(Ljava/lang/String;Ljava/lang/String;Ljava/lang/String;)V"), (0, .methodref 14 41), (0, .nameAndType 42 43), (0, u "sameKey"), (0, u "(II)Z"), (0, .methodref 35 45), (0, .nameAndType 46 47), (0, u "equals"), (0, u "(Ljava/lang/Object;)Z"), (3, u "law"), (0, u "(IIIIII)Z")] 6

def k1m0 : Method := { name := "<init>", desc := "()V", sig := { parameters := [], returnType := none }, accessFlags := 2, code := none }
def k1c1 : Code := { maxStack := 2, maxLocals := 1, code := method_2_code, exceptionTable := #[], attributes := #[] }
def k1m1 : Method := { name := "len", desc := "(I)I", sig := { parameters := [.int], returnType := some .int }, accessFlags := 10, code := some k1c1 }
def k1c2 : Code := { maxStack := 2, maxLocals := 1, code := method_3_code, exceptionTable := #[], attributes := #[] }
def k1m2 : Method := { name := "c0", desc := "(I)C", sig := { parameters := [.int], returnType := some .char }, accessFlags := 10, code := some k1c2 }
def k1c3 : Code := { maxStack := 2, maxLocals := 1, code := method_4_code, exceptionTable := #[], attributes := #[] }
def k1m3 : Method := { name := "c1", desc := "(I)C", sig := { parameters := [.int], returnType := some .char }, accessFlags := 10, code := some k1c3 }
def k1c4 : Code := { maxStack := 3, maxLocals := 3, code := method_5_code, exceptionTable := #[], attributes := #[] }
def k1m4 : Method := { name := "str", desc := "(I)Ljava/lang/String;", sig := { parameters := [.int], returnType := some (.object "java/lang/String") }, accessFlags := 10, code := some k1c4 }
def k1c5 : Code := { maxStack := 2, maxLocals := 4, code := method_6_code, exceptionTable := #[], attributes := #[] }
def k1m5 : Method := { name := "sameKey", desc := "(II)Z", sig := { parameters := [.int, .int], returnType := some .boolean }, accessFlags := 10, code := some k1c5 }
def k1c6 : Code := { maxStack := 5, maxLocals := 18, code := code, exceptionTable := #[], attributes := #[] }
def k1m6 : Method := { name := "law", desc := "(IIIIII)Z", sig := { parameters := [.int, .int, .int, .int, .int, .int], returnType := some .boolean }, accessFlags := 9, code := some k1c6 }
/-- com/example/garm/garm/ChoiceEqualsPinLaw -/
def k1 : Class := { plain "com/example/garm/garm/ChoiceEqualsPinLaw" (some 0) with
  accessFlags := 49
  interfaces := #[]
  cf := some (fileOf pool1 14 #[] #[{ accessFlags := 2, nameIndex := 5, descriptorIndex := 6, attributes := #[] }, { accessFlags := 10, nameIndex := 17, descriptorIndex := 18, attributes := #[] }, { accessFlags := 10, nameIndex := 26, descriptorIndex := 27, attributes := #[] }, { accessFlags := 10, nameIndex := 30, descriptorIndex := 27, attributes := #[] }, { accessFlags := 10, nameIndex := 33, descriptorIndex := 34, attributes := #[] }, { accessFlags := 10, nameIndex := 42, descriptorIndex := 43, attributes := #[] }, { accessFlags := 9, nameIndex := 51, descriptorIndex := 52, attributes := #[] }] 49 2 #[] #[])
  fields := #[]
  methods := #[k1m0, k1m1, k1m2, k1m3, k1m4, k1m5, k1m6]
  instanceTypes := #[]
  staticTypes := #[]
  resolved := Array.replicate 59 none
  statics := none }

def pool2 : Array CpInfo := pool [(1, .class_ 2), (0, u "java/lang/Math"), (1, .class_ 6), (1, u "java/lang/Object"), (0, u "<init>"), (0, u "()V"), (89, .class_ 100), (1, u "java/lang/Math$RandomNumberGeneratorHolder"), (71, u "negativeZeroFloatBits"), (0, u "J"), (2, u "negativeZeroDoubleBits"), (24, u "min"), (43, u "$assertionsDisabled"), (0, u "Z"), (88, u "(II)I"), (2, u "twoToTheDoubleScaleDown"), (0, u "D"), (4, u "twoToTheDoubleScaleUp"), (9, u "E"), (3, u "PI"), (2, u "TAU"), (2, u "DEGREES_TO_RADIANS"), (0, u "RADIANS_TO_DEGREES")] 94

def k2m0 : Method := { name := "<init>", desc := "()V", sig := { parameters := [], returnType := none }, accessFlags := 2, code := none }
def k2c1 : Code := { maxStack := 2, maxLocals := 2, code := jdk_29_method_69_code, exceptionTable := #[], attributes := #[] }
def k2m1 : Method := { name := "min", desc := "(II)I", sig := { parameters := [.int, .int], returnType := some .int }, accessFlags := 9, code := some k2c1 }
/-- java/lang/Math -/
def k2 : Class := { plain "java/lang/Math" (some 0) with
  accessFlags := 49
  interfaces := #[]
  cf := some (fileOf pool2 1 #[.nestMembers #[98]] #[{ accessFlags := 2, nameIndex := 7, descriptorIndex := 8, attributes := #[] }, { accessFlags := 9, nameIndex := 201, descriptorIndex := 335, attributes := #[] }] 49 4 #[] #[{ accessFlags := 25, nameIndex := 354, descriptorIndex := 339, attributes := #[] }, { accessFlags := 25, nameIndex := 358, descriptorIndex := 339, attributes := #[] }, { accessFlags := 25, nameIndex := 361, descriptorIndex := 339, attributes := #[] }, { accessFlags := 26, nameIndex := 364, descriptorIndex := 339, attributes := #[] }, { accessFlags := 26, nameIndex := 365, descriptorIndex := 339, attributes := #[] }, { accessFlags := 26, nameIndex := 172, descriptorIndex := 173, attributes := #[] }, { accessFlags := 26, nameIndex := 176, descriptorIndex := 173, attributes := #[] }, { accessFlags := 8, nameIndex := 344, descriptorIndex := 339, attributes := #[] }, { accessFlags := 8, nameIndex := 338, descriptorIndex := 339, attributes := #[] }, { accessFlags := 4120, nameIndex := 245, descriptorIndex := 246, attributes := #[] }])
  fields := #[{ name := "E", type := .double, accessFlags := 25, slot := 0, constantValue := 0 }, { name := "PI", type := .double, accessFlags := 25, slot := 1, constantValue := 0 }, { name := "TAU", type := .double, accessFlags := 25, slot := 2, constantValue := 0 }, { name := "DEGREES_TO_RADIANS", type := .double, accessFlags := 26, slot := 3, constantValue := 0 }, { name := "RADIANS_TO_DEGREES", type := .double, accessFlags := 26, slot := 4, constantValue := 0 }, { name := "negativeZeroFloatBits", type := .long, accessFlags := 26, slot := 5, constantValue := 0 }, { name := "negativeZeroDoubleBits", type := .long, accessFlags := 26, slot := 6, constantValue := 0 }, { name := "twoToTheDoubleScaleUp", type := .double, accessFlags := 8, slot := 7, constantValue := 0 }, { name := "twoToTheDoubleScaleDown", type := .double, accessFlags := 8, slot := 8, constantValue := 0 }, { name := "$assertionsDisabled", type := .boolean, accessFlags := 4120, slot := 9, constantValue := 0 }]
  methods := #[k2m0, k2m1]
  instanceTypes := #[]
  staticTypes := #[.double, .double, .double, .double, .double, .long, .long, .double, .double, .boolean]
  resolved := Array.replicate 460 none
  statics := none }

def pool3 : Array CpInfo := pool [(1, .class_ 2), (0, u "java/io/Serializable"), (0, .class_ 4), (0, u "java/lang/Object")] 2

/-- java/io/Serializable -/
def k3 : Class := { plain "java/io/Serializable" (some 0) with
  accessFlags := 1537
  interfaces := #[]
  cf := some (fileOf pool3 1 #[] #[] 1537 3 #[] #[])
  fields := #[]
  methods := #[]
  instanceTypes := #[]
  staticTypes := #[]
  resolved := Array.replicate 7 none
  statics := none }

def pool4 : Array CpInfo := pool [(1, .class_ 2), (0, u "java/lang/Comparable"), (0, .class_ 4), (0, u "java/lang/Object")] 7

/-- java/lang/Comparable -/
def k4 : Class := { plain "java/lang/Comparable" (some 0) with
  accessFlags := 1537
  interfaces := #[]
  cf := some (fileOf pool4 1 #[] #[] 1537 3 #[] #[])
  fields := #[]
  methods := #[]
  instanceTypes := #[]
  staticTypes := #[]
  resolved := Array.replicate 12 none
  statics := none }

def pool5 : Array CpInfo := pool [(2, .class_ 4), (1, u "java/lang/CharSequence"), (42, .class_ 48), (0, u "java/lang/CharSequence$1CodePointIterator"), (10, .class_ 60), (0, u "java/lang/CharSequence$1CharIterator"), (5, .class_ 67), (0, u "java/lang/Object")] 63

/-- java/lang/CharSequence -/
def k5 : Class := { plain "java/lang/CharSequence" (some 0) with
  accessFlags := 1537
  interfaces := #[]
  cf := some (fileOf pool5 2 #[.nestMembers #[47, 59]] #[] 1537 66 #[] #[])
  fields := #[]
  methods := #[]
  instanceTypes := #[]
  staticTypes := #[]
  resolved := Array.replicate 131 none
  statics := none }

def pool6 : Array CpInfo := pool [(1, .class_ 2), (0, u "java/lang/constant/Constable"), (0, .class_ 4), (0, u "java/lang/Object")] 6

/-- java/lang/constant/Constable -/
def k6 : Class := { plain "java/lang/constant/Constable" (some 0) with
  accessFlags := 1537
  interfaces := #[]
  cf := some (fileOf pool6 1 #[] #[] 1537 3 #[] #[])
  fields := #[]
  methods := #[]
  instanceTypes := #[]
  staticTypes := #[]
  resolved := Array.replicate 11 none
  statics := none }

def pool7 : Array CpInfo := pool [(1, .class_ 2), (0, u "java/lang/constant/ConstantDesc"), (0, .class_ 4), (0, u "java/lang/Object")] 32

/-- java/lang/constant/ConstantDesc -/
def k7 : Class := { plain "java/lang/constant/ConstantDesc" (some 0) with
  accessFlags := 1537
  interfaces := #[]
  cf := some (fileOf pool7 1 #[] #[] 1537 3 #[] #[])
  fields := #[]
  methods := #[]
  instanceTypes := #[]
  staticTypes := #[]
  resolved := Array.replicate 37 none
  statics := none }

def pool8 : Array CpInfo := pool [(1, .methodref 2 3), (0, .class_ 4), (0, .nameAndType 5 6), (0, u "java/lang/Object"), (0, u "<init>"), (0, u "()V"), (0, .string 8), (0, u ""), (0, .fieldref 10 11), (0, .class_ 12), (0, .nameAndType 13 14), (0, u "java/lang/String"), (0, u "value"), (0, u "[B"), (0, .fieldref 10 16), (0, .nameAndType 17 18), (0, u "coder"), (0, u "B"), (2, u "hash"), (0, u "I"), (2, u "hashIsZero"), (0, u "Z"), (0, .methodref 10 28), (0, .nameAndType 5 29), (0, u "([CIILjava/lang/Void;)V"), (8, .fieldref 10 39), (0, .nameAndType 40 26), (0, u "COMPACT_STRINGS"), (1, .class_ 44), (1, u "java/lang/StringUTF16"), (0, u "compress"), (1, .methodref 42 48), (0, .nameAndType 49 50), (0, u "coderFromArrayLen"), (0, u "([BI)B"), (56, .class_ 109), (1, u "java/lang/StringLatin1"), (67, .methodref 42 178), (0, .nameAndType 45 179), (0, u "([CII)[B"), (361, .methodref 107 542), (0, .nameAndType 543 544), (0, u "equals"), (0, u "([B[B)Z"), (28, u "(Ljava/lang/Object;)Z"), (1, .class_ 576), (0, u "java/lang/CharSequence"), (22, u "CASE_INSENSITIVE_ORDER"), (0, u "Ljava/util/Comparator;"), (409, u "([C)V"), (90, u "serialPersistentFields"), (0, u "[Ljava/io/ObjectStreamField;"), (0, .class_ 1104), (0, u "java/lang/String$CaseInsensitiveComparator"), (1, .class_ 1107), (0, u "java/io/Serializable"), (0, .class_ 1109), (0, u "java/lang/Comparable"), (0, .class_ 1111), (0, u "java/lang/constant/Constable"), (0, .class_ 1113), (0, u "java/lang/constant/ConstantDesc"), (2, u "serialVersionUID"), (0, u "J"), (3, u "REPL"), (0, u "C"), (2, u "LATIN1"), (1, u "UTF16")] 323

def k8m0 : Method := { name := "<init>", desc := "()V", sig := { parameters := [], returnType := none }, accessFlags := 1, code := none }
def k8c1 : Code := { maxStack := 5, maxLocals := 2, code := jdk_42_method_3_code, exceptionTable := #[], attributes := #[] }
def k8m1 : Method := { name := "<init>", desc := "([C)V", sig := { parameters := [(.array .char)], returnType := none }, accessFlags := 1, code := some k8c1 }
def k8c2 : Code := { maxStack := 2, maxLocals := 3, code := jdk_42_method_66_code, exceptionTable := #[], attributes := #[] }
def k8m2 : Method := { name := "equals", desc := "(Ljava/lang/Object;)Z", sig := { parameters := [(.object "java/lang/Object")], returnType := some .boolean }, accessFlags := 1, code := some k8c2 }
def k8c3 : Code := { maxStack := 4, maxLocals := 6, code := jdk_42_method_149_code, exceptionTable := #[], attributes := #[] }
def k8m3 : Method := { name := "<init>", desc := "([CIILjava/lang/Void;)V", sig := { parameters := [(.array .char), .int, .int, (.object "java/lang/Void")], returnType := none }, accessFlags := 2, code := some k8c3 }
/-- java/lang/String -/
def k8 : Class := { plain "java/lang/String" (some 0) with
  accessFlags := 49
  interfaces := #[3, 4, 5, 6, 7]
  cf := some (fileOf pool8 10 #[.nestMembers #[1103]] #[{ accessFlags := 1, nameIndex := 5, descriptorIndex := 6, attributes := #[] }, { accessFlags := 1, nameIndex := 5, descriptorIndex := 1010, attributes := #[] }, { accessFlags := 1, nameIndex := 543, descriptorIndex := 573, attributes := #[] }, { accessFlags := 2, nameIndex := 5, descriptorIndex := 29, attributes := #[] }] 49 2 #[1106, 1108, 575, 1110, 1112] #[{ accessFlags := 18, nameIndex := 13, descriptorIndex := 14, attributes := #[] }, { accessFlags := 18, nameIndex := 17, descriptorIndex := 18, attributes := #[] }, { accessFlags := 2, nameIndex := 21, descriptorIndex := 22, attributes := #[] }, { accessFlags := 2, nameIndex := 25, descriptorIndex := 26, attributes := #[] }, { accessFlags := 26, nameIndex := 1116, descriptorIndex := 1117, attributes := #[] }, { accessFlags := 24, nameIndex := 40, descriptorIndex := 26, attributes := #[] }, { accessFlags := 26, nameIndex := 1101, descriptorIndex := 1102, attributes := #[] }, { accessFlags := 26, nameIndex := 1121, descriptorIndex := 1122, attributes := #[] }, { accessFlags := 25, nameIndex := 599, descriptorIndex := 600, attributes := #[] }, { accessFlags := 24, nameIndex := 1125, descriptorIndex := 18, attributes := #[] }, { accessFlags := 24, nameIndex := 1127, descriptorIndex := 18, attributes := #[] }])
  fields := #[{ name := "value", type := (.array .byte), accessFlags := 18, slot := 0, constantValue := 0 }, { name := "coder", type := .byte, accessFlags := 18, slot := 1, constantValue := 0 }, { name := "hash", type := .int, accessFlags := 2, slot := 2, constantValue := 0 }, { name := "hashIsZero", type := .boolean, accessFlags := 2, slot := 3, constantValue := 0 }, { name := "serialVersionUID", type := .long, accessFlags := 26, slot := 0, constantValue := 0 }, { name := "COMPACT_STRINGS", type := .boolean, accessFlags := 24, slot := 1, constantValue := 0 }, { name := "serialPersistentFields", type := (.array (.object "java/io/ObjectStreamField")), accessFlags := 26, slot := 2, constantValue := 0 }, { name := "REPL", type := .char, accessFlags := 26, slot := 3, constantValue := 0 }, { name := "CASE_INSENSITIVE_ORDER", type := (.object "java/util/Comparator"), accessFlags := 25, slot := 4, constantValue := 0 }, { name := "LATIN1", type := .byte, accessFlags := 24, slot := 5, constantValue := 0 }, { name := "UTF16", type := .byte, accessFlags := 24, slot := 6, constantValue := 0 }]
  methods := #[k8m0, k8m1, k8m2, k8m3]
  instanceTypes := #[(.array .byte), .byte, .int, .boolean]
  staticTypes := #[.long, .boolean, (.array (.object "java/io/ObjectStreamField")), .char, (.object "java/util/Comparator"), .byte, .byte]
  resolved := Array.replicate 1451 none
  statics := some 0 }

def pool9 : Array CpInfo := pool [(1, .methodref 2 3), (0, .class_ 4), (0, .nameAndType 5 6), (0, u "java/lang/Object"), (0, u "<init>"), (0, u "()V"), (0, .fieldref 8 9), (0, .class_ 10), (0, .nameAndType 11 12), (0, u "com/example/garm/garm/SecurityTarget$Choice"), (0, u "element"), (0, u "Ljava/lang/String;"), (0, .fieldref 8 14), (0, .nameAndType 15 12), (0, u "selection"), (0, .fieldref 8 17), (0, .nameAndType 18 12), (0, u "item"), (0, .methodref 20 21), (0, .class_ 22), (0, .nameAndType 23 24), (0, u "java/lang/String"), (0, u "equals"), (0, u "(Ljava/lang/Object;)Z"), (6, u "(Ljava/lang/String;Ljava/lang/String;Ljava/lang/String;)V"), (8, .class_ 41), (0, u "com/example/garm/garm/SecurityTarget")] 2

def k9c0 : Code := { maxStack := 2, maxLocals := 4, code := prog_39_method_1_code, exceptionTable := #[], attributes := #[] }
def k9m0 : Method := { name := "<init>", desc := "(Ljava/lang/String;Ljava/lang/String;Ljava/lang/String;)V", sig := { parameters := [(.object "java/lang/String"), (.object "java/lang/String"), (.object "java/lang/String")], returnType := none }, accessFlags := 0, code := some k9c0 }
def k9c1 : Code := { maxStack := 2, maxLocals := 3, code := prog_39_method_2_code, exceptionTable := #[], attributes := #[] }
def k9m1 : Method := { name := "equals", desc := "(Ljava/lang/Object;)Z", sig := { parameters := [(.object "java/lang/Object")], returnType := some .boolean }, accessFlags := 1, code := some k9c1 }
/-- com/example/garm/garm/SecurityTarget$Choice -/
def k9 : Class := { plain "com/example/garm/garm/SecurityTarget$Choice" (some 0) with
  accessFlags := 48
  interfaces := #[]
  cf := some (fileOf pool9 8 #[.nestHost 40] #[{ accessFlags := 0, nameIndex := 5, descriptorIndex := 31, attributes := #[] }, { accessFlags := 1, nameIndex := 23, descriptorIndex := 24, attributes := #[] }] 48 2 #[] #[{ accessFlags := 18, nameIndex := 11, descriptorIndex := 12, attributes := #[] }, { accessFlags := 18, nameIndex := 15, descriptorIndex := 12, attributes := #[] }, { accessFlags := 18, nameIndex := 18, descriptorIndex := 12, attributes := #[] }])
  fields := #[{ name := "element", type := (.object "java/lang/String"), accessFlags := 18, slot := 0, constantValue := 0 }, { name := "selection", type := (.object "java/lang/String"), accessFlags := 18, slot := 1, constantValue := 0 }, { name := "item", type := (.object "java/lang/String"), accessFlags := 18, slot := 2, constantValue := 0 }]
  methods := #[k9m0, k9m1]
  instanceTypes := #[(.object "java/lang/String"), (.object "java/lang/String"), (.object "java/lang/String")]
  staticTypes := #[]
  resolved := Array.replicate 44 none
  statics := none }

def pool10 : Array CpInfo := pool [(6, .class_ 8), (1, u "java/lang/Object"), (0, u "<init>"), (0, u "()V"), (1, .class_ 14), (1, u "java/lang/StringUTF16"), (31, u "$assertionsDisabled"), (0, u "Z"), (13, u "HI_BYTE_SHIFT"), (0, u "I"), (2, u "LO_BYTE_SHIFT"), (49, .methodref 12 116), (0, .nameAndType 117 118), (0, u "compress"), (0, u "([CI[BII)I"), (3, u "([CII)[B"), (138, u "coderFromArrayLen"), (0, u "([BI)B"), (106, .class_ 371), (1, u "java/lang/StringUTF16$LinesSpliterator"), (58, u "MAX_LENGTH"), (196, .class_ 628), (0, u "java/lang/StringUTF16$CodePointsSpliterator"), (0, .class_ 630), (0, u "java/lang/StringUTF16$CharsSpliterator")] 4

def k10m0 : Method := { name := "<init>", desc := "()V", sig := { parameters := [], returnType := none }, accessFlags := 0, code := none }
def k10c1 : Code := { maxStack := 2, maxLocals := 2, code := jdk_52_method_15_code, exceptionTable := #[], attributes := #[] }
def k10m1 : Method := { name := "coderFromArrayLen", desc := "([BI)B", sig := { parameters := [(.array .byte), .int], returnType := some .byte }, accessFlags := 8, code := some k10c1 }
def k10c2 : Code := { maxStack := 5, maxLocals := 6, code := jdk_52_method_16_code, exceptionTable := #[], attributes := #[] }
def k10m2 : Method := { name := "compress", desc := "([CII)[B", sig := { parameters := [(.array .char), .int, .int], returnType := some (.array .byte) }, accessFlags := 9, code := some k10c2 }
def k10c3 : Code := { maxStack := 3, maxLocals := 7, code := jdk_52_method_21_code, exceptionTable := #[], attributes := #[] }
def k10m3 : Method := { name := "compress", desc := "([CI[BII)I", sig := { parameters := [(.array .char), .int, (.array .byte), .int, .int], returnType := some .int }, accessFlags := 9, code := some k10c3 }
/-- java/lang/StringUTF16 -/
def k10 : Class := { plain "java/lang/StringUTF16" (some 0) with
  accessFlags := 48
  interfaces := #[]
  cf := some (fileOf pool10 12 #[.nestMembers #[627, 629, 369]] #[{ accessFlags := 0, nameIndex := 9, descriptorIndex := 10, attributes := #[] }, { accessFlags := 8, nameIndex := 261, descriptorIndex := 262, attributes := #[] }, { accessFlags := 9, nameIndex := 117, descriptorIndex := 122, attributes := #[] }, { accessFlags := 9, nameIndex := 117, descriptorIndex := 118, attributes := #[] }] 48 6 #[] #[{ accessFlags := 26, nameIndex := 61, descriptorIndex := 62, attributes := #[] }, { accessFlags := 26, nameIndex := 65, descriptorIndex := 62, attributes := #[] }, { accessFlags := 24, nameIndex := 430, descriptorIndex := 62, attributes := #[] }, { accessFlags := 4120, nameIndex := 46, descriptorIndex := 47, attributes := #[] }])
  fields := #[{ name := "HI_BYTE_SHIFT", type := .int, accessFlags := 26, slot := 0, constantValue := 0 }, { name := "LO_BYTE_SHIFT", type := .int, accessFlags := 26, slot := 1, constantValue := 0 }, { name := "MAX_LENGTH", type := .int, accessFlags := 24, slot := 2, constantValue := 0 }, { name := "$assertionsDisabled", type := .boolean, accessFlags := 4120, slot := 3, constantValue := 0 }]
  methods := #[k10m0, k10m1, k10m2, k10m3]
  instanceTypes := #[]
  staticTypes := #[.int, .int, .int, .boolean]
  resolved := Array.replicate 635 none
  statics := none }

def pool11 : Array CpInfo := pool [(4, .class_ 6), (1, u "java/lang/Object"), (0, u "<init>"), (0, u "()V"), (5, .class_ 16), (1, u "java/lang/StringLatin1"), (104, u "$assertionsDisabled"), (0, u "Z"), (98, .class_ 223), (1, u "java/lang/StringLatin1$LinesSpliterator"), (57, u "equals"), (0, u "([B[B)Z"), (107, .class_ 391), (0, u "java/lang/StringLatin1$CharsSpliterator")] 3

def k11m0 : Method := { name := "<init>", desc := "()V", sig := { parameters := [], returnType := none }, accessFlags := 0, code := none }
def k11c1 : Code := { maxStack := 3, maxLocals := 3, code := jdk_43_method_13_code, exceptionTable := #[], attributes := #[] }
def k11m1 : Method := { name := "equals", desc := "([B[B)Z", sig := { parameters := [(.array .byte), (.array .byte)], returnType := some .boolean }, accessFlags := 9, code := some k11c1 }
/-- java/lang/StringLatin1 -/
def k11 : Class := { plain "java/lang/StringLatin1" (some 0) with
  accessFlags := 48
  interfaces := #[]
  cf := some (fileOf pool11 14 #[.nestMembers #[390, 221]] #[{ accessFlags := 0, nameIndex := 7, descriptorIndex := 8, attributes := #[] }, { accessFlags := 9, nameIndex := 281, descriptorIndex := 282, attributes := #[] }] 48 4 #[] #[{ accessFlags := 4120, nameIndex := 121, descriptorIndex := 122, attributes := #[] }])
  fields := #[{ name := "$assertionsDisabled", type := .boolean, accessFlags := 4120, slot := 0, constantValue := 0 }]
  methods := #[k11m0, k11m1]
  instanceTypes := #[]
  staticTypes := #[.boolean]
  resolved := Array.replicate 395 none
  statics := none }

def pool12 : Array CpInfo := pool [(2, .class_ 4), (1, u "java/lang/Object"), (0, u "<init>"), (0, u "()V"), (17, .class_ 26), (1, u "jdk/internal/util/Preconditions"), (28, .class_ 56), (0, u "jdk/internal/util/Preconditions$4"), (57, .class_ 115), (0, u "jdk/internal/util/Preconditions$1"), (7, u "SIOOBE_FORMATTER"), (0, u "Ljava/util/function/BiFunction;"), (0, .class_ 126), (0, u "jdk/internal/util/Preconditions$2"), (3, u "AIOOBE_FORMATTER"), (0, .class_ 132), (0, u "jdk/internal/util/Preconditions$3"), (3, u "IOOBE_FORMATTER")] 57

def k12m0 : Method := { name := "<init>", desc := "()V", sig := { parameters := [], returnType := none }, accessFlags := 1, code := none }
/-- jdk/internal/util/Preconditions -/
def k12 : Class := { plain "jdk/internal/util/Preconditions" (some 0) with
  accessFlags := 33
  interfaces := #[]
  cf := some (fileOf pool12 24 #[.nestMembers #[55, 131, 125, 114]] #[{ accessFlags := 1, nameIndex := 5, descriptorIndex := 6, attributes := #[] }] 33 2 #[] #[{ accessFlags := 25, nameIndex := 123, descriptorIndex := 124, attributes := #[] }, { accessFlags := 25, nameIndex := 130, descriptorIndex := 124, attributes := #[] }, { accessFlags := 25, nameIndex := 136, descriptorIndex := 124, attributes := #[] }])
  fields := #[{ name := "SIOOBE_FORMATTER", type := (.object "java/util/function/BiFunction"), accessFlags := 25, slot := 0, constantValue := 0 }, { name := "AIOOBE_FORMATTER", type := (.object "java/util/function/BiFunction"), accessFlags := 25, slot := 1, constantValue := 0 }, { name := "IOOBE_FORMATTER", type := (.object "java/util/function/BiFunction"), accessFlags := 25, slot := 2, constantValue := 0 }]
  methods := #[k12m0]
  instanceTypes := #[]
  staticTypes := #[(.object "java/util/function/BiFunction"), (.object "java/util/function/BiFunction"), (.object "java/util/function/BiFunction")]
  resolved := Array.replicate 194 none
  statics := some 1 }

def pool13 : Array CpInfo := pool [(9, u "<init>"), (6, .class_ 18), (1, u "java/lang/Object"), (0, u "()V"), (1, .class_ 23), (1, u "jdk/internal/util/ArraysSupport"), (0, u "LOG2_ARRAY_LONG_INDEX_SCALE"), (0, u "I"), (2, u "U"), (0, u "Ljdk/internal/misc/Unsafe;"), (8, u "BIG_ENDIAN"), (0, u "Z"), (8, u "LOG2_BYTE_BIT_SIZE"), (4, u "LOG2_ARRAY_INT_INDEX_SCALE"), (54, u "JLA"), (0, u "Ljdk/internal/access/JavaLangAccess;"), (11, u "LOG2_ARRAY_BOOLEAN_INDEX_SCALE"), (9, u "LOG2_ARRAY_BYTE_INDEX_SCALE"), (5, u "LOG2_ARRAY_CHAR_INDEX_SCALE"), (5, u "LOG2_ARRAY_SHORT_INDEX_SCALE"), (18, u "LOG2_ARRAY_FLOAT_INDEX_SCALE"), (24, u "LOG2_ARRAY_DOUBLE_INDEX_SCALE"), (89, u "T_BOOLEAN"), (2, u "T_CHAR"), (1, u "T_FLOAT"), (1, u "T_DOUBLE"), (1, u "T_BYTE"), (1, u "T_SHORT"), (1, u "T_INT"), (1, u "T_LONG"), (1, u "SOFT_MAX_ARRAY_LENGTH")] 83

def k13m0 : Method := { name := "<init>", desc := "()V", sig := { parameters := [], returnType := none }, accessFlags := 2, code := none }
/-- jdk/internal/util/ArraysSupport -/
def k13 : Class := { plain "jdk/internal/util/ArraysSupport" (some 0) with
  accessFlags := 33
  interfaces := #[]
  cf := some (fileOf pool13 21 #[] #[{ accessFlags := 2, nameIndex := 9, descriptorIndex := 19, attributes := #[] }] 33 16 #[] #[{ accessFlags := 24, nameIndex := 28, descriptorIndex := 29, attributes := #[] }, { accessFlags := 26, nameIndex := 38, descriptorIndex := 39, attributes := #[] }, { accessFlags := 25, nameIndex := 121, descriptorIndex := 25, attributes := #[] }, { accessFlags := 25, nameIndex := 131, descriptorIndex := 25, attributes := #[] }, { accessFlags := 25, nameIndex := 137, descriptorIndex := 25, attributes := #[] }, { accessFlags := 25, nameIndex := 143, descriptorIndex := 25, attributes := #[] }, { accessFlags := 25, nameIndex := 53, descriptorIndex := 25, attributes := #[] }, { accessFlags := 25, nameIndex := 24, descriptorIndex := 25, attributes := #[] }, { accessFlags := 25, nameIndex := 162, descriptorIndex := 25, attributes := #[] }, { accessFlags := 25, nameIndex := 187, descriptorIndex := 25, attributes := #[] }, { accessFlags := 26, nameIndex := 48, descriptorIndex := 25, attributes := #[] }, { accessFlags := 25, nameIndex := 277, descriptorIndex := 25, attributes := #[] }, { accessFlags := 25, nameIndex := 280, descriptorIndex := 25, attributes := #[] }, { accessFlags := 25, nameIndex := 282, descriptorIndex := 25, attributes := #[] }, { accessFlags := 25, nameIndex := 284, descriptorIndex := 25, attributes := #[] }, { accessFlags := 25, nameIndex := 286, descriptorIndex := 25, attributes := #[] }, { accessFlags := 25, nameIndex := 288, descriptorIndex := 25, attributes := #[] }, { accessFlags := 25, nameIndex := 290, descriptorIndex := 25, attributes := #[] }, { accessFlags := 25, nameIndex := 292, descriptorIndex := 25, attributes := #[] }, { accessFlags := 26, nameIndex := 108, descriptorIndex := 109, attributes := #[] }, { accessFlags := 25, nameIndex := 294, descriptorIndex := 25, attributes := #[] }])
  fields := #[{ name := "U", type := (.object "jdk/internal/misc/Unsafe"), accessFlags := 24, slot := 0, constantValue := 0 }, { name := "BIG_ENDIAN", type := .boolean, accessFlags := 26, slot := 1, constantValue := 0 }, { name := "LOG2_ARRAY_BOOLEAN_INDEX_SCALE", type := .int, accessFlags := 25, slot := 2, constantValue := 0 }, { name := "LOG2_ARRAY_BYTE_INDEX_SCALE", type := .int, accessFlags := 25, slot := 3, constantValue := 0 }, { name := "LOG2_ARRAY_CHAR_INDEX_SCALE", type := .int, accessFlags := 25, slot := 4, constantValue := 0 }, { name := "LOG2_ARRAY_SHORT_INDEX_SCALE", type := .int, accessFlags := 25, slot := 5, constantValue := 0 }, { name := "LOG2_ARRAY_INT_INDEX_SCALE", type := .int, accessFlags := 25, slot := 6, constantValue := 0 }, { name := "LOG2_ARRAY_LONG_INDEX_SCALE", type := .int, accessFlags := 25, slot := 7, constantValue := 0 }, { name := "LOG2_ARRAY_FLOAT_INDEX_SCALE", type := .int, accessFlags := 25, slot := 8, constantValue := 0 }, { name := "LOG2_ARRAY_DOUBLE_INDEX_SCALE", type := .int, accessFlags := 25, slot := 9, constantValue := 0 }, { name := "LOG2_BYTE_BIT_SIZE", type := .int, accessFlags := 26, slot := 10, constantValue := 0 }, { name := "T_BOOLEAN", type := .int, accessFlags := 25, slot := 11, constantValue := 0 }, { name := "T_CHAR", type := .int, accessFlags := 25, slot := 12, constantValue := 0 }, { name := "T_FLOAT", type := .int, accessFlags := 25, slot := 13, constantValue := 0 }, { name := "T_DOUBLE", type := .int, accessFlags := 25, slot := 14, constantValue := 0 }, { name := "T_BYTE", type := .int, accessFlags := 25, slot := 15, constantValue := 0 }, { name := "T_SHORT", type := .int, accessFlags := 25, slot := 16, constantValue := 0 }, { name := "T_INT", type := .int, accessFlags := 25, slot := 17, constantValue := 0 }, { name := "T_LONG", type := .int, accessFlags := 25, slot := 18, constantValue := 0 }, { name := "JLA", type := (.object "jdk/internal/access/JavaLangAccess"), accessFlags := 26, slot := 19, constantValue := 0 }, { name := "SOFT_MAX_ARRAY_LENGTH", type := .int, accessFlags := 25, slot := 20, constantValue := 0 }]
  methods := #[k13m0]
  instanceTypes := #[]
  staticTypes := #[(.object "jdk/internal/misc/Unsafe"), .boolean, .int, .int, .int, .int, .int, .int, .int, .int, .int, .int, .int, .int, .int, .int, .int, .int, .int, (.object "jdk/internal/access/JavaLangAccess"), .int]
  resolved := Array.replicate 378 none
  statics := none }

def pool14 : Array CpInfo := pool [(1, u "java/lang/Cloneable"), (0, .class_ 1), (0, u "java/lang/Object"), (0, .class_ 3)] 3

/-- java/lang/Cloneable -/
def k14 : Class := { plain "java/lang/Cloneable" (some 0) with
  accessFlags := 1537
  interfaces := #[]
  cf := some (fileOf pool14 2 #[] #[] 1537 4 #[] #[])
  fields := #[]
  methods := #[]
  instanceTypes := #[]
  staticTypes := #[]
  resolved := Array.replicate 8 none
  statics := none }

/-- the primitive byte -/
def k15 : Class := { plain "byte" none with kind := .primitive 'B', accessFlags := 0x411 }
/-- [B -/
def k16 : Class := { plain "[B" (some 0) with kind := .array 15 .byte, interfaces := #[14, 3], accessFlags := 1041 }

/-- the primitive char -/
def k17 : Class := { plain "char" none with kind := .primitive 'C', accessFlags := 0x411 }
/-- [C -/
def k18 : Class := { plain "[C" (some 0) with kind := .array 17 .char, interfaces := #[14, 3], accessFlags := 1041 }

/-- the primitive int -/
def k19 : Class := { plain "int" none with kind := .primitive 'I', accessFlags := 0x411 }
/-- [I -/
def k20 : Class := { plain "[I" (some 0) with kind := .array 19 .int, interfaces := #[14, 3], accessFlags := 1041 }

def heap : Heap := #[{ cls := 8, slots := #[.long 0, .int 1, .null, .int 0, .null, .int 0, .int 0], vm := .statics 8 },
  { cls := 12, slots := #[.null, .null, .null], vm := .statics 12 }]
def classes : Array Class := #[k0, k1, k2, k3, k4, k5, k6, k7, k8, k9, k10, k11, k12, k13, k14, k15, k16, k17, k18, k19, k20]
def interned : List (Array UInt16 × Addr) := []
def slotsUsed : Nat := 10
def theMethod : MethodId := ⟨1, 6⟩
def args0 : Array Value := #[.int 5, .int 6, .int 7, .int 8, .int 9, .int 10]
def aboutOver (below : List Frame) : State where
  vm := { classes := classes, interned := interned.toArray }
  heap := heap
  slotsUsed := slotsUsed
  threads := #[{ frames := .invoking theMethod args0 :: below }]
def below0 : List Frame := [.native { method := ⟨0, 0⟩, args := #[] }]
def about1 : State := aboutOver below0
def p0 : Program := .bare "" "" ""
def e0 : Env := launch0.env 0 0 0
theorem w_frames : about1.frames = Frame.invoking theMethod args0 :: below0 := rfl
set_option maxRecDepth 65536 in
theorem w_args : argsFit about1.vm theMethod args0 = true := by decide +kernel
set_option maxRecDepth 65536 in
theorem w_heap : heapFits about1 = true := by decide +kernel
set_option maxRecDepth 65536 in
theorem w_runnable : about1.curStatus? = some .runnable := by decide +kernel
set_option maxRecDepth 65536 in
theorem w_alone : about1.alone = true := by decide +kernel
set_option maxRecDepth 65536 in
theorem w_named : about1.methodNamed? x = some theMethod := by decide +kernel
set_option maxRecDepth 65536 in
theorem w_hears : about1.hears theMethod below0 = true := by decide +kernel
set_option maxRecDepth 65536 in
theorem w_ripe : about1.ripe theMethod args0 below0 = true := by decide +kernel
theorem w_running : about1.status = .running := rfl
set_option maxRecDepth 65536 in
theorem w_room : about1.hasRoom e0.platform room_1 = true :=
  launch0.hasRoom_least _ room_1 (by decide +kernel) (by decide +kernel) (by decide +kernel) (by decide +kernel) (by decide +kernel) (by decide +kernel)
theorem allAtoms_all (ts : List Jvm.Cond) (a : Array Jvm.Value) (st : Jvm.State) : (allAtoms ts).before a st = ts.all (fun c => c.before a st) := by
  induction ts with
  | nil => rfl
  | cons c t ih =>
    show (Jvm.Cond.and c (allAtoms t)).before a st = _
    rw [Jvm.Cond.before_and, ih, List.all_cons]
def words1 : List Jvm.Cond := Jvm.Cond.code x code maxLocals ret :: tables_1
/-- a 'code' word, met by the world's own term for the bytes: nothing is compared byte by byte -/
theorem code_word {y : MethodName} {bytes : ByteArray} {mx : Nat} {rt : Option FieldType} {a : Array Value} {s : State} {m : MethodId} {meth : Method} {c : Code} (h1 : s.methodNamed? y = some m) (h2 : s.vm.method? m = some meth) (h3 : meth.code = some c) (h4 : c.code = bytes)
    (h5 : (c.maxLocals == mx && c.exceptionTable.isEmpty && decide (c.maxStack ≤ mostOperands) && decide (meth.sig.returnType = rt) && !meth.locks && decide (parseMethodDescriptor y.desc = some meth.sig)) = true) : (Jvm.Cond.code y bytes mx rt).before a s = true := by
  simp only [Bool.and_eq_true, beq_iff_eq, Bool.not_eq_true', decide_eq_true_eq] at h5
  obtain ⟨⟨⟨⟨⟨g1, g2⟩, g3⟩, g4⟩, g5⟩, g6⟩ := h5
  simp [Cond.before, Cond.holds, Cond.value, h1, h2, h3, h4, g1, g2, g3, g4, g5, g6]
def isCode : Jvm.Cond → Bool
  | .code _ _ _ _ => true
  | _ => false
theorem all_split {L : List Jvm.Cond} {P : Jvm.Cond → Bool} (h1 : L.all (fun c => isCode c || P c) = true) (h2 : ∀ c ∈ L.filter isCode, P c = true) : L.all P = true := by
  refine List.all_eq_true.mpr fun c hc => ?_
  have h := List.all_eq_true.mp h1 c hc
  rcases Bool.eq_false_or_eq_true (isCode c) with hi | hi
  · exact h2 c (List.mem_filter.mpr ⟨hc, hi⟩)
  · simpa [hi] using h
set_option maxRecDepth 65536 in
theorem w_c0 : (Jvm.Cond.code x code maxLocals ret).before args0 about1 = true := code_word (m := ⟨1, 6⟩) (meth := k1m6) (c := k1c6) (by decide +kernel) rfl rfl rfl (by decide +kernel)
set_option maxRecDepth 65536 in
theorem w_c1 : (Jvm.Cond.code ({ cls := "com/example/garm/garm/ChoiceEqualsPinLaw", name := "str", desc := "(I)Ljava/lang/String;" } : Jvm.MethodName) method_5_code (3 : Nat) (Option.some (Jvm.ClassFile.FieldType.object "java/lang/String"))).before args0 about1 = true := code_word (m := ⟨1, 4⟩) (meth := k1m4) (c := k1c4) (by decide +kernel) rfl rfl rfl (by decide +kernel)
set_option maxRecDepth 65536 in
theorem w_c2 : (Jvm.Cond.code ({ cls := "com/example/garm/garm/ChoiceEqualsPinLaw", name := "len", desc := "(I)I" } : Jvm.MethodName) method_2_code (1 : Nat) (Option.some Jvm.ClassFile.FieldType.int)).before args0 about1 = true := code_word (m := ⟨1, 1⟩) (meth := k1m1) (c := k1c1) (by decide +kernel) rfl rfl rfl (by decide +kernel)
set_option maxRecDepth 65536 in
theorem w_c3 : (Jvm.Cond.code ({ cls := "java/lang/Math", name := "min", desc := "(II)I" } : Jvm.MethodName) jdk_29_method_69_code (2 : Nat) (Option.some Jvm.ClassFile.FieldType.int)).before args0 about1 = true := code_word (m := ⟨2, 1⟩) (meth := k2m1) (c := k2c1) (by decide +kernel) rfl rfl rfl (by decide +kernel)
set_option maxRecDepth 65536 in
theorem w_c4 : (Jvm.Cond.code ({ cls := "java/lang/String", name := "<init>", desc := "([C)V" } : Jvm.MethodName) jdk_42_method_3_code (2 : Nat) (Option.none : Option Jvm.ClassFile.FieldType)).before args0 about1 = true := code_word (m := ⟨8, 1⟩) (meth := k8m1) (c := k8c1) (by decide +kernel) rfl rfl rfl (by decide +kernel)
set_option maxRecDepth 65536 in
theorem w_c5 : (Jvm.Cond.code ({ cls := "java/lang/String", name := "<init>", desc := "([CIILjava/lang/Void;)V" } : Jvm.MethodName) jdk_42_method_149_code (6 : Nat) (Option.none : Option Jvm.ClassFile.FieldType)).before args0 about1 = true := code_word (m := ⟨8, 3⟩) (meth := k8m3) (c := k8c3) (by decide +kernel) rfl rfl rfl (by decide +kernel)
set_option maxRecDepth 65536 in
theorem w_c6 : (Jvm.Cond.code ({ cls := "java/lang/Object", name := "<init>", desc := "()V" } : Jvm.MethodName) object_method_1_code (1 : Nat) (Option.none : Option Jvm.ClassFile.FieldType)).before args0 about1 = true := code_word (m := ⟨0, 0⟩) (meth := k0m0) (c := k0c0) (by decide +kernel) rfl rfl rfl (by decide +kernel)
set_option maxRecDepth 65536 in
theorem w_c7 : (Jvm.Cond.code ({ cls := "com/example/garm/garm/ChoiceEqualsPinLaw", name := "c0", desc := "(I)C" } : Jvm.MethodName) method_3_code (1 : Nat) (Option.some Jvm.ClassFile.FieldType.char)).before args0 about1 = true := code_word (m := ⟨1, 2⟩) (meth := k1m2) (c := k1c2) (by decide +kernel) rfl rfl rfl (by decide +kernel)
set_option maxRecDepth 65536 in
theorem w_c8 : (Jvm.Cond.code ({ cls := "com/example/garm/garm/ChoiceEqualsPinLaw", name := "c1", desc := "(I)C" } : Jvm.MethodName) method_4_code (1 : Nat) (Option.some Jvm.ClassFile.FieldType.char)).before args0 about1 = true := code_word (m := ⟨1, 3⟩) (meth := k1m3) (c := k1c3) (by decide +kernel) rfl rfl rfl (by decide +kernel)
set_option maxRecDepth 65536 in
theorem w_c9 : (Jvm.Cond.code ({ cls := "java/lang/StringUTF16", name := "compress", desc := "([CII)[B" } : Jvm.MethodName) jdk_52_method_16_code (6 : Nat) (Option.some (Jvm.ClassFile.FieldType.array Jvm.ClassFile.FieldType.byte))).before args0 about1 = true := code_word (m := ⟨10, 2⟩) (meth := k10m2) (c := k10c2) (by decide +kernel) rfl rfl rfl (by decide +kernel)
set_option maxRecDepth 65536 in
theorem w_c10 : (Jvm.Cond.code ({ cls := "java/lang/StringUTF16", name := "compress", desc := "([CI[BII)I" } : Jvm.MethodName) jdk_52_method_21_code (7 : Nat) (Option.some Jvm.ClassFile.FieldType.int)).before args0 about1 = true := code_word (m := ⟨10, 3⟩) (meth := k10m3) (c := k10c3) (by decide +kernel) rfl rfl rfl (by decide +kernel)
set_option maxRecDepth 65536 in
theorem w_c11 : (Jvm.Cond.code ({ cls := "java/lang/StringUTF16", name := "coderFromArrayLen", desc := "([BI)B" } : Jvm.MethodName) jdk_52_method_15_code (2 : Nat) (Option.some Jvm.ClassFile.FieldType.byte)).before args0 about1 = true := code_word (m := ⟨10, 1⟩) (meth := k10m1) (c := k10c1) (by decide +kernel) rfl rfl rfl (by decide +kernel)
set_option maxRecDepth 65536 in
theorem w_c12 : (Jvm.Cond.code ({ cls := "com/example/garm/garm/SecurityTarget$Choice", name := "<init>", desc := "(Ljava/lang/String;Ljava/lang/String;Ljava/lang/String;)V" } : Jvm.MethodName) prog_39_method_1_code (4 : Nat) (Option.none : Option Jvm.ClassFile.FieldType)).before args0 about1 = true := code_word (m := ⟨9, 0⟩) (meth := k9m0) (c := k9c0) (by decide +kernel) rfl rfl rfl (by decide +kernel)
set_option maxRecDepth 65536 in
theorem w_c13 : (Jvm.Cond.code ({ cls := "com/example/garm/garm/ChoiceEqualsPinLaw", name := "sameKey", desc := "(II)Z" } : Jvm.MethodName) method_6_code (4 : Nat) (Option.some Jvm.ClassFile.FieldType.boolean)).before args0 about1 = true := code_word (m := ⟨1, 5⟩) (meth := k1m5) (c := k1c5) (by decide +kernel) rfl rfl rfl (by decide +kernel)
set_option maxRecDepth 65536 in
theorem w_c14 : (Jvm.Cond.code ({ cls := "com/example/garm/garm/SecurityTarget$Choice", name := "equals", desc := "(Ljava/lang/Object;)Z" } : Jvm.MethodName) prog_39_method_2_code (3 : Nat) (Option.some Jvm.ClassFile.FieldType.boolean)).before args0 about1 = true := code_word (m := ⟨9, 1⟩) (meth := k9m1) (c := k9c1) (by decide +kernel) rfl rfl rfl (by decide +kernel)
set_option maxRecDepth 65536 in
theorem w_c15 : (Jvm.Cond.code ({ cls := "java/lang/String", name := "equals", desc := "(Ljava/lang/Object;)Z" } : Jvm.MethodName) jdk_42_method_66_code (3 : Nat) (Option.some Jvm.ClassFile.FieldType.boolean)).before args0 about1 = true := code_word (m := ⟨8, 2⟩) (meth := k8m2) (c := k8c2) (by decide +kernel) rfl rfl rfl (by decide +kernel)
set_option maxRecDepth 65536 in
theorem w_c16 : (Jvm.Cond.code ({ cls := "java/lang/StringLatin1", name := "equals", desc := "([B[B)Z" } : Jvm.MethodName) jdk_43_method_13_code (3 : Nat) (Option.some Jvm.ClassFile.FieldType.boolean)).before args0 about1 = true := code_word (m := ⟨11, 1⟩) (meth := k11m1) (c := k11c1) (by decide +kernel) rfl rfl rfl (by decide +kernel)
def codes1 : List Jvm.Cond := [Jvm.Cond.code x code maxLocals ret, Jvm.Cond.code ({ cls := "com/example/garm/garm/ChoiceEqualsPinLaw", name := "str", desc := "(I)Ljava/lang/String;" } : Jvm.MethodName) method_5_code (3 : Nat) (Option.some (Jvm.ClassFile.FieldType.object "java/lang/String")), Jvm.Cond.code ({ cls := "com/example/garm/garm/ChoiceEqualsPinLaw", name := "len", desc := "(I)I" } : Jvm.MethodName) method_2_code (1 : Nat) (Option.some Jvm.ClassFile.FieldType.int), Jvm.Cond.code ({ cls := "java/lang/Math", name := "min", desc := "(II)I" } : Jvm.MethodName) jdk_29_method_69_code (2 : Nat) (Option.some Jvm.ClassFile.FieldType.int), Jvm.Cond.code ({ cls := "java/lang/String", name := "<init>", desc := "([C)V" } : Jvm.MethodName) jdk_42_method_3_code (2 : Nat) (Option.none : Option Jvm.ClassFile.FieldType), Jvm.Cond.code ({ cls := "java/lang/String", name := "<init>", desc := "([CIILjava/lang/Void;)V" } : Jvm.MethodName) jdk_42_method_149_code (6 : Nat) (Option.none : Option Jvm.ClassFile.FieldType), Jvm.Cond.code ({ cls := "java/lang/Object", name := "<init>", desc := "()V" } : Jvm.MethodName) object_method_1_code (1 : Nat) (Option.none : Option Jvm.ClassFile.FieldType), Jvm.Cond.code ({ cls := "com/example/garm/garm/ChoiceEqualsPinLaw", name := "c0", desc := "(I)C" } : Jvm.MethodName) method_3_code (1 : Nat) (Option.some Jvm.ClassFile.FieldType.char), Jvm.Cond.code ({ cls := "com/example/garm/garm/ChoiceEqualsPinLaw", name := "c1", desc := "(I)C" } : Jvm.MethodName) method_4_code (1 : Nat) (Option.some Jvm.ClassFile.FieldType.char), Jvm.Cond.code ({ cls := "java/lang/StringUTF16", name := "compress", desc := "([CII)[B" } : Jvm.MethodName) jdk_52_method_16_code (6 : Nat) (Option.some (Jvm.ClassFile.FieldType.array Jvm.ClassFile.FieldType.byte)), Jvm.Cond.code ({ cls := "java/lang/StringUTF16", name := "compress", desc := "([CI[BII)I" } : Jvm.MethodName) jdk_52_method_21_code (7 : Nat) (Option.some Jvm.ClassFile.FieldType.int), Jvm.Cond.code ({ cls := "java/lang/StringUTF16", name := "coderFromArrayLen", desc := "([BI)B" } : Jvm.MethodName) jdk_52_method_15_code (2 : Nat) (Option.some Jvm.ClassFile.FieldType.byte), Jvm.Cond.code ({ cls := "com/example/garm/garm/SecurityTarget$Choice", name := "<init>", desc := "(Ljava/lang/String;Ljava/lang/String;Ljava/lang/String;)V" } : Jvm.MethodName) prog_39_method_1_code (4 : Nat) (Option.none : Option Jvm.ClassFile.FieldType), Jvm.Cond.code ({ cls := "com/example/garm/garm/ChoiceEqualsPinLaw", name := "sameKey", desc := "(II)Z" } : Jvm.MethodName) method_6_code (4 : Nat) (Option.some Jvm.ClassFile.FieldType.boolean), Jvm.Cond.code ({ cls := "com/example/garm/garm/SecurityTarget$Choice", name := "equals", desc := "(Ljava/lang/Object;)Z" } : Jvm.MethodName) prog_39_method_2_code (3 : Nat) (Option.some Jvm.ClassFile.FieldType.boolean), Jvm.Cond.code ({ cls := "java/lang/String", name := "equals", desc := "(Ljava/lang/Object;)Z" } : Jvm.MethodName) jdk_42_method_66_code (3 : Nat) (Option.some Jvm.ClassFile.FieldType.boolean), Jvm.Cond.code ({ cls := "java/lang/StringLatin1", name := "equals", desc := "([B[B)Z" } : Jvm.MethodName) jdk_43_method_13_code (3 : Nat) (Option.some Jvm.ClassFile.FieldType.boolean)]
set_option maxRecDepth 65536 in
theorem codes_eq : words1.filter isCode = codes1 := rfl
theorem w_codes : ∀ c ∈ words1.filter isCode, c.before args0 about1 = true := by
  rw [codes_eq]
  intro c hc
  simp only [codes1, List.mem_cons, List.not_mem_nil, or_false] at hc
  rcases hc with rfl | rfl | rfl | rfl | rfl | rfl | rfl | rfl | rfl | rfl | rfl | rfl | rfl | rfl | rfl | rfl | rfl
  · exact w_c0
  · exact w_c1
  · exact w_c2
  · exact w_c3
  · exact w_c4
  · exact w_c5
  · exact w_c6
  · exact w_c7
  · exact w_c8
  · exact w_c9
  · exact w_c10
  · exact w_c11
  · exact w_c12
  · exact w_c13
  · exact w_c14
  · exact w_c15
  · exact w_c16
set_option maxRecDepth 65536 in
theorem w_t1 : (words1.take 24).all (fun c => isCode c || c.before args0 about1) = true := by decide +kernel
set_option maxRecDepth 65536 in
theorem w_t2 : ((words1.drop 24).take 24).all (fun c => isCode c || c.before args0 about1) = true := by decide +kernel
set_option maxRecDepth 65536 in
theorem w_t3 : (((words1.drop 24).drop 24).take 24).all (fun c => isCode c || c.before args0 about1) = true := by decide +kernel
set_option maxRecDepth 65536 in
theorem w_t4 : (((words1.drop 24).drop 24).drop 24).all (fun c => isCode c || c.before args0 about1) = true := by decide +kernel
theorem w_tables : (allAtoms (Jvm.Cond.code x code maxLocals ret :: tables_1)).before args0 about1 = true := by
  rw [allAtoms_all]
  show words1.all (fun c => c.before args0 about1) = true
  refine all_split ?_ w_codes
  rw [← List.take_append_drop 24 words1, List.all_append, w_t1, ← List.take_append_drop 24 (words1.drop 24), List.all_append, w_t2, ← List.take_append_drop 24 ((words1.drop 24).drop 24), List.all_append, w_t3, w_t4]
  rfl
set_option maxRecDepth 65536 in
theorem w_rest : rest_1_c.before args0 about1 = true := by decide +kernel
set_option maxRecDepth 65536 in
theorem w_case : (Jvm.Cond.and given_1 narrow_1).before args0 about1 = true := by decide +kernel
set_option maxRecDepth 65536 in
theorem w_consts : constsHeld consts_1 about1 := Jvm.Lit.constsHeldB_iff.mp (by decide +kernel)
theorem w_applies : (headSpec (Jvm.Cond.code x code maxLocals ret :: tables_1) room_1).applies x e0.platform about1 = true :=
  (Spec.applies_iff w_frames).mpr ⟨w_running, w_runnable, w_alone, w_named, w_hears, w_ripe, w_room, w_tables⟩
theorem atStart : AtStart classFile x code maxLocals ret World_1 tables_1 room_1 Calls_1 rest_1 Pre_1 launch0 p0 e0 about1 theMethod args0 below0 :=
  ⟨lists_1, trivial, launch0.admits_env _ _ _, launch0.least_env, fairChoices_fair.cas, fairChoices_fair.clock, w_frames, w_args, w_heap, w_applies, ⟨w_consts, trivial⟩, w_rest, w_case⟩
end start1
theorem witness_1 : WitnessClaimed_1 := ⟨start1.p0, start1.e0, start1.about1, start1.theMethod, start1.args0, start1.below0, start1.atStart⟩
end Jvm.Pilot.@@N@@
