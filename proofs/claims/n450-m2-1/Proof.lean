import JvmDerived
import JvmDerived.Pilot.@@N@@Statement
import JvmDerived.Pilot.@@N@@Code
set_option linter.unusedVariables false
set_option linter.unusedSimpArgs false
/- laws to paste: Road.backV, Road.eqW, Road.codOf (cut by pick.py; bodies as the Statement names them) -/
namespace Jvm.Pilot.@@N@@
namespace StrChars
open Jvm Sem ClassFile Op Lib Jvm.Stand Jvm.Free.XT Jvm.Free.ALB Jvm.Free.JM Jvm.Free
open Jvm.Lib.Cold (StaticIs)
/-- a char array whose places are chars -/
def Ch (a : Addr) (A : Cell) (U : State) : Prop := Arr .char a A U ∧ Typed .char A
theorem Ch.mv {a : Addr} {A : Cell} {U U' : State} (h : Ch a A U) (hal : U.vm.Alike U'.vm) (hh : U'.heap = U.heap) : Ch a A U' := ⟨h.1.mv hal hh, h.2⟩
theorem Ch.keep {a : Addr} {A : Cell} {U U' : State} (h : Ch a A U) (hal : U.vm.Alike U'.vm) (hk : U'.heap[a]? = some A) : Ch a A U' := ⟨h.1.keep hal hk, h.2⟩
/-- what place i of a char[]'s cell holds -/
def cv (A : Cell) (i : Nat) : Int32 := match A.slots[i]? with | some (.int x) => x | _ => 0
theorem Ch.get {a : Addr} {A : Cell} {U : State} (h : Ch a A U) {i : Nat} (hi : i < A.slots.size) : A.slots[i]? = some (.int (cv A i)) := by
  have e := Array.getElem?_eq_getElem hi
  have f := h.2 i _ e
  unfold cv; rw [e]
  generalize A.slots[i] = v at f
  cases v <;> simp [fits] at f ⊢
/-- the byte that i2b leaves of a char -/
def lo8 (x : Int32) : Int32 := x.toInt8.toInt32
theorem fits_lo8 (y : Int32) : fits .byte (.int (lo8 y)) = true := by
  have h1 := y.toInt8.le_toInt
  have h2 := y.toInt8.toInt_lt
  simp only [lo8, fits, Bool.and_eq_true, decide_eq_true_eq, Int32.le_iff_toInt_le, Int8.toInt_toInt32, show (-128 : Int32).toInt = -128 from by decide, show (127 : Int32).toInt = 127 from by decide]
  omega
/-- A' is A but that each place j of lo .. hi - 1 holds f j -/
def Laid (A A' : Cell) (lo hi : Nat) (f : Nat → Value) : Prop := A'.cls = A.cls ∧ A'.vm = A.vm ∧ A'.slots.size = A.slots.size ∧ ∀ i, A'.slots[i]? = if lo ≤ i ∧ i < hi then some (f i) else A.slots[i]?
theorem Laid.zero (A : Cell) (lo : Nat) (f : Nat → Value) : Laid A A lo (lo + 0) f := ⟨rfl, rfl, rfl, fun i => by rw [if_neg (by omega)]⟩
theorem Laid.step {A Ak : Cell} {lo k : Nat} {f : Nat → Value} {v : Value} (h : Laid A Ak lo k f) (hlo : lo ≤ k) (hk : k < Ak.slots.size) (hv : v = f k) : Laid A (Ak.setSlot k v) lo (k + 1) f := by
  refine ⟨h.1, h.2.1, by simpa [Cell.setSlot] using h.2.2.1, fun i => ?_⟩
  by_cases e : k = i
  · subst e; rw [Cell.slots_setSlot_self v hk, if_pos (by omega), hv]
  · rw [Cell.slots_setSlot_ne v e, h.2.2.2 i]
    by_cases q : lo ≤ i ∧ i < k
    · rw [if_pos q, if_pos (by omega)]
    · rw [if_neg q, if_neg (by omega)]
def U16 : String := "java/lang/StringUTF16"
namespace Cmp5
def yN : MethodName := ⟨"java/lang/StringUTF16", "compress", "([CI[BII)I"⟩
abbrev yB : ByteArray := jdk_52_method_21_code
theorem d0 : decode yB 0 = .ok (.iconst 0, 1) := by decide +kernel
theorem d1 : decode yB 1 = .ok (.istore 5, 2) := by decide +kernel
theorem d3 : decode yB 3 = .ok (.iload 5, 2) := by decide +kernel
theorem d5 : decode yB 5 = .ok (.iload 4, 2) := by decide +kernel
theorem d7 : decode yB 7 = .ok (.if_icmp (.ge) 37, 3) := by decide +kernel
theorem d10 : decode yB 10 = .ok (.aload_n 0, 1) := by decide +kernel
theorem d11 : decode yB 11 = .ok (.iload_n 1, 1) := by decide +kernel
theorem d12 : decode yB 12 = .ok (.caload, 1) := by decide +kernel
theorem d13 : decode yB 13 = .ok (.istore 6, 2) := by decide +kernel
theorem d15 : decode yB 15 = .ok (.iload 6, 2) := by decide +kernel
theorem d17 : decode yB 17 = .ok (.sipush 255, 3) := by decide +kernel
theorem d20 : decode yB 20 = .ok (.if_icmp (.le) 6, 3) := by decide +kernel
theorem d26 : decode yB 26 = .ok (.aload_n 2, 1) := by decide +kernel
theorem d27 : decode yB 27 = .ok (.iload_n 3, 1) := by decide +kernel
theorem d28 : decode yB 28 = .ok (.iload 6, 2) := by decide +kernel
theorem d30 : decode yB 30 = .ok (.i2b, 1) := by decide +kernel
theorem d31 : decode yB 31 = .ok (.bastore, 1) := by decide +kernel
theorem d32 : decode yB 32 = .ok (.iinc 1 1, 3) := by decide +kernel
theorem d35 : decode yB 35 = .ok (.iinc 3 1, 3) := by decide +kernel
theorem d38 : decode yB 38 = .ok (.iinc 5 1, 3) := by decide +kernel
theorem d41 : decode yB 41 = .ok (.goto (-38), 3) := by decide +kernel
theorem d44 : decode yB 44 = .ok (.iload 4, 2) := by decide +kernel
theorem d46 : decode yB 46 = .ok (.ireturn, 1) := by decide +kernel
def site : List Cond := []
def tab : Cond := tabOf yN yB 7 (some .int) site
def P (b : Addr) (A : Cell) (d : Addr) (B : Cell) (o q len : Nat) (args : Array Value) (s : State) : Prop := args = #[.ref b, .int (Int32.ofNat o), .ref d, .int (Int32.ofNat q), .int (Int32.ofNat len)] ∧ Ch b A s ∧ Arr .byte d B s ∧ b ≠ d ∧ o + len ≤ A.slots.size ∧ q + len ≤ B.slots.size ∧ ∀ i, i < len → ¬ 255 < cv A (o + i)
def E (b : Addr) (A : Cell) (d : Addr) (B : Cell) (o q len : Nat) (r : Option Value) (s u : State) : Prop := r = some (.int (Int32.ofNat len)) ∧ ∃ B', Put d B' s u ∧ Laid B B' q (q + len) (fun j => Value.int (lo8 (cv A (o + (j - q)))))
/-- no char of the range above 255: len; the places written hold each char's low byte -/
theorem law (l : Launch) (b : Addr) (A : Cell) (d : Addr) (B : Cell) (o q len : Nat) : Law l yN 5 5 0 0 yB 7 (some .int) site (P b A d B o q len) (E b A d B o q len) (copyLocs d q len) 0 0 := by
  refine Law.of_walk (plainFor_of_name (by decide +kernel)) (by decide +kernel) (by decide +kernel) (by decide) (fun _ _ h => by rw [h.1]; rfl) (fun _ U U' hal hh h => ⟨h.1, h.2.1.mv hal hh, h.2.2.1.mv hal hh, h.2.2.2⟩) (fun r U U' V V' h1 hal h2 h => ⟨h.1, h.2.elim fun B' q => ⟨B', q.1.mv h1 h2, q.2⟩⟩) ?_
  intro p e s m args below meth c s₁ X0 hexec hbytes hml hret hlk hnm hown hh0 W hP
  obtain ⟨rfl, hA, hB, hne, l1, l2, hp⟩ := hP
  have c1 : Steps p.tables e below (s₁.setTop (entryFrame m #[.ref b, .int (Int32.ofNat o), .ref d, .int (Int32.ofNat q), .int (Int32.ofNat len)] 7)) (s₁.setTop (mkF m 0 #[.val (.ref b), .val (.int (Int32.ofNat o)), .val (.ref d), .val (.int (Int32.ofNat q)), .val (.int (Int32.ofNat len)), .unset, .unset] [])) := entry rfl
  have hA0 := hA.1.mv X0.warmed.alike hh0
  have hB0 := hB.mv X0.warmed.alike hh0
  have a31 := hA.1.2.2.2
  have c2 : Steps p.tables e below (s₁.setTop (entryFrame m #[.ref b, .int (Int32.ofNat o), .ref d, .int (Int32.ofNat q), .int (Int32.ofNat len)] 7)) (s₁.setTop (mkF m 3 #[.val (.ref b), .val (.int (Int32.ofNat o)), .val (.ref d), .val (.int (Int32.ofNat q)), .val (.int (Int32.ofNat len)), .val (.int 0), .unset] [])) := c1.trans (by
    refine iconstV X0.here hexec rfl 0 (hb hbytes d0) (by decide) ?_
    refine XS.istore X0.here hexec rfl (hb hbytes d1) rfl rfl ?_
    exact Steps.refl _)
  have loop : ∀ (r i : Nat), i + r = len → ∀ (z : Slot), (z = .unset ∨ ∃ w, z = .val w ∧ w.category = 1) → ∀ (Tl : State) (Bk : Cell), Stand p l e { frames := 0, locals := 0, cells := 0, slots := 0 } s m #[.ref b, .int (Int32.ofNat o), .ref d, .int (Int32.ofNat q), .int (Int32.ofNat len)] below meth c Tl ([] ++ copyLocs d q i) 0 0 → Put d Bk s₁ Tl → Laid B Bk q (q + i) (fun j => Value.int (lo8 (cv A (o + (j - q))))) →
      Steps p.tables e below (s₁.setTop (entryFrame m #[.ref b, .int (Int32.ofNat o), .ref d, .int (Int32.ofNat q), .int (Int32.ofNat len)] 7)) (Tl.setTop (mkF m 3 #[.val (.ref b), .val (.int (Int32.ofNat (o + i))), .val (.ref d), .val (.int (Int32.ofNat (q + i))), .val (.int (Int32.ofNat len)), .val (.int (Int32.ofNat i)), z] [])) → ∃ (T' : State) (B' : Cell) (z' : Slot), Stand p l e { frames := 0, locals := 0, cells := 0, slots := 0 } s m #[.ref b, .int (Int32.ofNat o), .ref d, .int (Int32.ofNat q), .int (Int32.ofNat len)] below meth c T' ([] ++ copyLocs d q len) 0 0 ∧ Put d B' s₁ T' ∧ Laid B B' q (q + len) (fun j => Value.int (lo8 (cv A (o + (j - q))))) ∧
      Steps p.tables e below (s₁.setTop (entryFrame m #[.ref b, .int (Int32.ofNat o), .ref d, .int (Int32.ofNat q), .int (Int32.ofNat len)] 7)) (T'.setTop (mkF m 3 #[.val (.ref b), .val (.int (Int32.ofNat (o + len))), .val (.ref d), .val (.int (Int32.ofNat (q + len))), .val (.int (Int32.ofNat len)), .val (.int (Int32.ofNat len)), z'] [])) := by
    intro r
    induction r with
    | zero =>
      intro i hi z hz Tl Bk Xl pl fl cl
      have hil : i = len := by omega
      rw [hil] at Xl fl cl
      exact ⟨Tl, Bk, z, Xl, pl, fl, cl⟩
    | succ r ih =>
      intro i hi z hz Tl Bk Xl pl fl cl
      have all := X0.warmed.alike.symm.trans Xl.warmed.alike
      have hAl := hA0.keep all (pl.other hne hA0.1)
      have hBk := hB0.like all pl.1 fl.1 fl.2.1 fl.2.2.1
      have hlt : q + i < Bk.slots.size := by rw [fl.2.2.1]; omega
      have c3 : Steps p.tables e below (s₁.setTop (entryFrame m #[.ref b, .int (Int32.ofNat o), .ref d, .int (Int32.ofNat q), .int (Int32.ofNat len)] 7)) (Tl.setTop (mkF m 12 #[.val (.ref b), .val (.int (Int32.ofNat (o + i))), .val (.ref d), .val (.int (Int32.ofNat (q + i))), .val (.int (Int32.ofNat len)), .val (.int (Int32.ofNat i)), z] [.int (Int32.ofNat (o + i)), .ref b])) := cl.trans (by
        refine XS.iload Xl.here hexec rfl (hb hbytes d3) rfl ?_
        refine XS.iload Xl.here hexec rfl (hb hbytes d5) rfl ?_
        refine XS.icmpNo Xl.here hexec rfl (hb hbytes d7) rfl (ii_ge_f (lt32 (by omega) (by omega))) ?_
        refine XS.aloadN Xl.here hexec rfl (hb hbytes d10) rfl rfl ?_
        refine XS.iloadN Xl.here hexec rfl (hb hbytes d11) rfl ?_
        exact Steps.refl _)
      have c4 : Steps p.tables e below (s₁.setTop (entryFrame m #[.ref b, .int (Int32.ofNat o), .ref d, .int (Int32.ofNat q), .int (Int32.ofNat len)] 7)) (Tl.setTop (mkF m 13 #[.val (.ref b), .val (.int (Int32.ofNat (o + i))), .val (.ref d), .val (.int (Int32.ofNat (q + i))), .val (.int (Int32.ofNat len)), .val (.int (Int32.ofNat i)), z] [.int (cv A (o + i))])) := c3.trans (by
        refine Xl.aget hexec hAl rfl (hA.get (i := o + i) (by omega)) rfl rfl (hb hbytes d12) ?_
        exact Steps.refl _)
      have c5 : Steps p.tables e below (s₁.setTop (entryFrame m #[.ref b, .int (Int32.ofNat o), .ref d, .int (Int32.ofNat q), .int (Int32.ofNat len)] 7)) (Tl.setTop (mkF m 15 #[.val (.ref b), .val (.int (Int32.ofNat (o + i))), .val (.ref d), .val (.int (Int32.ofNat (q + i))), .val (.int (Int32.ofNat len)), .val (.int (Int32.ofNat i)), .val (.int (cv A (o + i)))] [])) := c4.trans (by
        refine XS.istoreS Xl.here hexec rfl (hb hbytes d13) rfl rfl hz ?_
        exact Steps.refl _)
      have c6 : Steps p.tables e below (s₁.setTop (entryFrame m #[.ref b, .int (Int32.ofNat o), .ref d, .int (Int32.ofNat q), .int (Int32.ofNat len)] 7)) (Tl.setTop (mkF m 31 #[.val (.ref b), .val (.int (Int32.ofNat (o + i))), .val (.ref d), .val (.int (Int32.ofNat (q + i))), .val (.int (Int32.ofNat len)), .val (.int (Int32.ofNat i)), .val (.int (cv A (o + i)))] [.int (lo8 (cv A (o + i))), .int (Int32.ofNat (q + i)), .ref d])) := c5.trans (by
        refine XS.iload Xl.here hexec rfl (hb hbytes d15) rfl ?_
        refine sipushV Xl.here hexec rfl 255 (hb hbytes d17) (by decide) ?_
        refine XS.icmpYes Xl.here hexec rfl (pc0 := 20) rfl (hb hbytes d20) rfl (ii_le_t (hp i (by omega))) (by decide) rfl ?_
        refine XS.aloadN Xl.here hexec rfl (hb hbytes d26) rfl rfl ?_
        refine XS.iloadN Xl.here hexec rfl (hb hbytes d27) rfl ?_
        refine XS.iload Xl.here hexec rfl (hb hbytes d28) rfl ?_
        refine i2b Xl.here hexec rfl (hb hbytes d30) rfl ?_
        exact Steps.refl _)
      obtain ⟨T7, X7, p7, st7⟩ := Xl.aput hexec hBk rfl hlt rfl (fits_lo8 (cv A (o + i))) (g := (mkF m 31 #[.val (.ref b), .val (.int (Int32.ofNat (o + i))), .val (.ref d), .val (.int (Int32.ofNat (q + i))), .val (.int (Int32.ofNat len)), .val (.int (Int32.ofNat i)), .val (.int (cv A (o + i)))] [.int (lo8 (cv A (o + i))), .int (Int32.ofNat (q + i)), .ref d])) rfl (rest := []) rfl (hb hbytes d31)
      have c8 : Steps p.tables e below (s₁.setTop (entryFrame m #[.ref b, .int (Int32.ofNat o), .ref d, .int (Int32.ofNat q), .int (Int32.ofNat len)] 7)) (T7.setTop (mkF m 32 #[.val (.ref b), .val (.int (Int32.ofNat (o + i))), .val (.ref d), .val (.int (Int32.ofNat (q + i))), .val (.int (Int32.ofNat len)), .val (.int (Int32.ofNat i)), .val (.int (cv A (o + i)))] [])) := c6.trans (st7 _ (Steps.refl _))
      have c9 : Steps p.tables e below (s₁.setTop (entryFrame m #[.ref b, .int (Int32.ofNat o), .ref d, .int (Int32.ofNat q), .int (Int32.ofNat len)] 7)) (T7.setTop (mkF m 3 #[.val (.ref b), .val (.int (Int32.ofNat (o + i) + 1)), .val (.ref d), .val (.int (Int32.ofNat (q + i) + 1)), .val (.int (Int32.ofNat len)), .val (.int (Int32.ofNat i + 1)), .val (.int (cv A (o + i)))] [])) := c8.trans (by
        refine iincV X7.here hexec rfl 1 (hb hbytes d32) (by decide) rfl rfl ?_
        refine iincV X7.here hexec rfl 1 (hb hbytes d35) (by decide) rfl rfl ?_
        refine iincV X7.here hexec rfl 1 (hb hbytes d38) (by decide) rfl rfl ?_
        refine XS.goto X7.here hexec rfl (pc0 := 41) rfl (hb hbytes d41) (by decide) rfl ?_
        exact Steps.refl _)
      have c10 : Steps p.tables e below (s₁.setTop (entryFrame m #[.ref b, .int (Int32.ofNat o), .ref d, .int (Int32.ofNat q), .int (Int32.ofNat len)] 7)) (T7.setTop (mkF m 3 #[.val (.ref b), .val (.int (Int32.ofNat (o + (i + 1)))), .val (.ref d), .val (.int (Int32.ofNat (q + (i + 1)))), .val (.int (Int32.ofNat len)), .val (.int (Int32.ofNat (i + 1))), .val (.int (cv A (o + i)))] [])) := by
        have := c9
        rw [succ32, succ32, succ32] at this
        exact this
      exact ih (i + 1) (by omega) _ (Or.inr ⟨_, rfl, rfl⟩) T7 _ (by rw [copyLocs_step, ← List.append_assoc]; exact X7) (pl.trans p7) (fl.step (by omega) hlt (by simp)) c10
  obtain ⟨T9, B9, z9, X9, p9, f9, g9⟩ := loop len 0 (by omega) .unset (Or.inl rfl) s₁ B (by simpa [copyLocs] using X0) ⟨hB0.1, fun _ _ => rfl, rfl⟩ (Laid.zero _ _ _) c2
  have c11 : Steps p.tables e below (s₁.setTop (entryFrame m #[.ref b, .int (Int32.ofNat o), .ref d, .int (Int32.ofNat q), .int (Int32.ofNat len)] 7)) (T9.setTop (mkF m 46 #[.val (.ref b), .val (.int (Int32.ofNat (o + len))), .val (.ref d), .val (.int (Int32.ofNat (q + len))), .val (.int (Int32.ofNat len)), .val (.int (Int32.ofNat len)), z9] [.int (Int32.ofNat len)])) := g9.trans (by
    refine XS.iload X9.here hexec rfl (hb hbytes d3) rfl ?_
    refine XS.iload X9.here hexec rfl (hb hbytes d5) rfl ?_
    refine XS.icmpYes X9.here hexec rfl (pc0 := 7) rfl (hb hbytes d7) rfl (ii_ge_t (nlt32 (by omega) (Nat.le_refl _))) (by decide) rfl ?_
    refine XS.iload X9.here hexec rfl (hb hbytes d44) rfl ?_
    exact Steps.refl _)
  exact ⟨T9, some (.int (Int32.ofNat len)), _, _, _, X9, by simp, rfl, rfl, (fun h => by cases h), ⟨rfl, B9, p9.from hh0, f9⟩, fun fs hl => c11.trans (X9.ireturnOut hexec hret rfl (Or.inl rfl) (hb hbytes d46) hl)⟩
end Cmp5
namespace Cmp3
def yN : MethodName := ⟨"java/lang/StringUTF16", "compress", "([CII)[B"⟩
abbrev yB : ByteArray := jdk_52_method_16_code
theorem d0 : decode yB 0 = .ok (.iload_n 2, 1) := by decide +kernel
theorem d1 : decode yB 1 = .ok (.newarray .byte, 2) := by decide +kernel
theorem d3 : decode yB 3 = .ok (.astore_n 3, 1) := by decide +kernel
theorem d4 : decode yB 4 = .ok (.aload_n 0, 1) := by decide +kernel
theorem d5 : decode yB 5 = .ok (.iload_n 1, 1) := by decide +kernel
theorem d6 : decode yB 6 = .ok (.aload_n 3, 1) := by decide +kernel
theorem d7 : decode yB 7 = .ok (.iconst 0, 1) := by decide +kernel
theorem d8 : decode yB 8 = .ok (.iload_n 2, 1) := by decide +kernel
theorem d9 : decode yB 9 = .ok (.invokestatic 115, 3) := by decide +kernel
theorem d12 : decode yB 12 = .ok (.istore 4, 2) := by decide +kernel
theorem d14 : decode yB 14 = .ok (.iload 4, 2) := by decide +kernel
theorem d16 : decode yB 16 = .ok (.iload_n 2, 1) := by decide +kernel
theorem d17 : decode yB 17 = .ok (.if_icmp (.eq) 40, 3) := by decide +kernel
theorem d57 : decode yB 57 = .ok (.aload_n 3, 1) := by decide +kernel
theorem d58 : decode yB 58 = .ok (.areturn, 1) := by decide +kernel
def site : List Cond := [.arrayClass .byte, Cmp5.tab] ++ staticW U16 115 Cmp5.yN
def tab : Cond := tabOf yN yB 6 (some (.array .byte)) site
def P (b : Addr) (A : Cell) (o len : Nat) (args : Array Value) (s : State) : Prop := args = #[.ref b, .int (Int32.ofNat o), .int (Int32.ofNat len)] ∧ Ch b A s ∧ o + len ≤ A.slots.size ∧ len ≤ 536870912 ∧ ∀ i, i < len → ¬ 255 < cv A (o + i)
def E (b : Addr) (A : Cell) (o len : Nat) (r : Option Value) (s u : State) : Prop := NewArr .byte "[B" len (fun j => .int (lo8 (cv A (o + j)))) r s u ∧ u.heap.size = s.heap.size + 1
/-- no char of the range above 255: a new byte[] of their low bytes -/
theorem law (l : Launch) (b : Addr) (A : Cell) (o len : Nat) : Law l yN 3 3 1 18 yB 6 (some (.array .byte)) site (P b A o len) (E b A o len) [] 1 len := by
  refine Law.of_walk (plainFor_of_name (by decide +kernel)) (by decide +kernel) (by decide +kernel) (by decide) (fun _ _ h => by rw [h.1]; rfl) (fun _ U U' hal hh h => ⟨h.1, h.2.1.mv hal hh, h.2.2⟩) (fun r U U' V V' h1 hal h2 h => ⟨NewArr.mv r U U' V V' h1 hal h2 h.1, by rw [h1, h2]; exact h.2⟩) ?_
  intro p e s m args below meth c s₁ X0 hexec hbytes hml hret hlk hnm hown hh0 W hP
  obtain ⟨rfl, hA, l1, l2, hp⟩ := hP
  have a31 := hA.1.2.2.2
  have c1 : Steps p.tables e below (s₁.setTop (entryFrame m #[.ref b, .int (Int32.ofNat o), .int (Int32.ofNat len)] 6)) (s₁.setTop (mkF m 0 #[.val (.ref b), .val (.int (Int32.ofNat o)), .val (.int (Int32.ofNat len)), .unset, .unset, .unset] [])) := entry rfl
  have c2 : Steps p.tables e below (s₁.setTop (entryFrame m #[.ref b, .int (Int32.ofNat o), .int (Int32.ofNat len)] 6)) (s₁.setTop (mkF m 1 #[.val (.ref b), .val (.int (Int32.ofNat o)), .val (.int (Int32.ofNat len)), .unset, .unset, .unset] [.int (Int32.ofNat len)])) := c1.trans (by
    refine XS.iloadN X0.here hexec rfl (hb hbytes d0) rfl ?_
    exact Steps.refl _)
  obtain ⟨T3, B3, X3, ba3, bs3, bv3, bh3, bf3, st3⟩ := X0.anew hexec (atype := .byte) (wk W (.arrayClass .byte)) rfl (by show len * 1 ≤ _; omega) (by omega) (g := (mkF m 1 #[.val (.ref b), .val (.int (Int32.ofNat o)), .val (.int (Int32.ofNat len)), .unset, .unset, .unset] [.int (Int32.ofNat len)])) rfl (hb hbytes d1) (rest := []) rfl (Nat.le_refl _) (by show 0 + len ≤ len; omega)
  rw [hh0] at ba3 st3
  have kp3 : XT.Kept s T3 := (XT.Kept.of_eq hh0).push bh3
  have hA3 := hA.keep X3.warmed.alike (kp3 _ _ hA.1.1)
  have hne : b ≠ s.heap.size := hA.1.ne
  have c4 : Steps p.tables e below (s₁.setTop (entryFrame m #[.ref b, .int (Int32.ofNat o), .int (Int32.ofNat len)] 6)) (T3.setTop (mkF m 3 #[.val (.ref b), .val (.int (Int32.ofNat o)), .val (.int (Int32.ofNat len)), .unset, .unset, .unset] [.ref s.heap.size])) := c2.trans (st3 _ (Steps.refl _))
  have c5 : Steps p.tables e below (s₁.setTop (entryFrame m #[.ref b, .int (Int32.ofNat o), .int (Int32.ofNat len)] 6)) (T3.setTop (mkF m 9 #[.val (.ref b), .val (.int (Int32.ofNat o)), .val (.int (Int32.ofNat len)), .val (.ref s.heap.size), .unset, .unset] [.int (Int32.ofNat len), .int 0, .ref s.heap.size, .int (Int32.ofNat o), .ref b])) := c4.trans (by
    refine XS.astoreN X3.here hexec rfl (hb hbytes d3) rfl rfl rfl ?_
    refine XS.aloadN X3.here hexec rfl (hb hbytes d4) rfl rfl ?_
    refine XS.iloadN X3.here hexec rfl (hb hbytes d5) rfl ?_
    refine XS.aloadN X3.here hexec rfl (hb hbytes d6) rfl rfl ?_
    refine iconstV X3.here hexec rfl 0 (hb hbytes d7) (by decide) ?_
    refine XS.iloadN X3.here hexec rfl (hb hbytes d8) rfl ?_
    exact Steps.refl _)
  obtain ⟨v6, T6, X6, E6, g6⟩ := X3.callS hexec (Cmp5.law l b A s.heap.size B3 o 0 len) hown (wks W (staticW U16 115 Cmp5.yN)) (wk W Cmp5.tab) (W := 0) (Nat.le_of_ble_eq_true rfl) (Nat.le_of_ble_eq_true rfl) (Nat.le_refl _) (by show 0 + len + 0 ≤ len; omega) (g := (mkF m 9 #[.val (.ref b), .val (.int (Int32.ofNat o)), .val (.int (Int32.ofNat len)), .val (.ref s.heap.size), .unset, .unset] [.int (Int32.ofNat len), .int (Int32.ofNat 0), .ref s.heap.size, .int (Int32.ofNat o), .ref b])) rfl (by rw [hml]; rfl) c5 (argsL := [.ref b, .int (Int32.ofNat o), .ref s.heap.size, .int (Int32.ofNat 0), .int (Int32.ofNat len)]) (rest := []) rfl rfl (by show 2 * 0 + 0 ≤ _; decide) (hb hbytes d9) (⟨rfl, hA3, ba3, hne, l1, by rw [bs3]; simp, hp⟩)
  obtain ⟨rfl, B6, p6, f6⟩ := E6
  have c7 : Steps p.tables e below (s₁.setTop (entryFrame m #[.ref b, .int (Int32.ofNat o), .int (Int32.ofNat len)] 6)) (T6.setTop (mkF m 12 #[.val (.ref b), .val (.int (Int32.ofNat o)), .val (.int (Int32.ofNat len)), .val (.ref s.heap.size), .unset, .unset] [.int (Int32.ofNat len)])) := g6
  have c8 : Steps p.tables e below (s₁.setTop (entryFrame m #[.ref b, .int (Int32.ofNat o), .int (Int32.ofNat len)] 6)) (T6.setTop (mkF m 58 #[.val (.ref b), .val (.int (Int32.ofNat o)), .val (.int (Int32.ofNat len)), .val (.ref s.heap.size), .val (.int (Int32.ofNat len)), .unset] [.ref s.heap.size])) := c7.trans (by
    refine XS.istore X6.here hexec rfl (hb hbytes d12) rfl rfl ?_
    refine XS.iload X6.here hexec rfl (hb hbytes d14) rfl ?_
    refine XS.iloadN X6.here hexec rfl (hb hbytes d16) rfl ?_
    refine XS.icmpYes X6.here hexec rfl (pc0 := 17) rfl (hb hbytes d17) rfl (ii_eq_t rfl) (by decide) rfl ?_
    refine XS.aloadN X6.here hexec rfl (hb hbytes d57) rfl rfl ?_
    exact Steps.refl _)
  have X8 := X6.wide (L' := []) (cells' := 1) (slots' := len) (fun x hx hlt => by
    simp only [List.nil_append, copyLocs, List.mem_map, List.mem_range] at hx
    obtain ⟨i, -, rfl⟩ := hx
    exact absurd hlt (Nat.lt_irrefl _)) (Nat.le_refl _) (by omega)
  exact ⟨T6, some (.ref s.heap.size), _, _, _, X8, rfl, rfl, rfl, (fun h => by cases h), ⟨⟨rfl, B6, ba3.like (X3.warmed.alike.symm.trans X6.warmed.alike) p6.1 f6.1 f6.2.1 f6.2.2.1, f6.2.1.trans bv3, by rw [X6.warmed.alike.findClass, f6.1]; exact bf3, by rw [f6.2.2.1, bs3]; simp, fun j hj => by rw [f6.2.2.2 j, if_pos (by omega)]; rfl, kp3.put p6 (Nat.le_refl _)⟩, by rw [p6.2.2, bh3, hh0]; simp⟩, fun fs hl => c8.trans (X8.areturnOut hexec rfl hret rfl (hb hbytes d58) hl)⟩
end Cmp3
namespace CodL
def yN : MethodName := ⟨"java/lang/StringUTF16", "coderFromArrayLen", "([BI)B"⟩
abbrev yB : ByteArray := jdk_52_method_15_code
theorem d0 : decode yB 0 = .ok (.iload_n 1, 1) := by decide +kernel
theorem d1 : decode yB 1 = .ok (.aload_n 0, 1) := by decide +kernel
theorem d2 : decode yB 2 = .ok (.arraylength, 1) := by decide +kernel
theorem d3 : decode yB 3 = .ok (.isub, 1) := by decide +kernel
theorem d4 : decode yB 4 = .ok (.bipush 31, 2) := by decide +kernel
theorem d6 : decode yB 6 = .ok (.iushr, 1) := by decide +kernel
theorem d7 : decode yB 7 = .ok (.i2b, 1) := by decide +kernel
theorem d8 : decode yB 8 = .ok (.ireturn, 1) := by decide +kernel
def site : List Cond := []
def tab : Cond := tabOf yN yB 2 (some .byte) site
def P (d : Addr) (B : Cell) (args : Array Value) (s : State) : Prop := args = #[.ref d, .int (Int32.ofNat B.slots.size)] ∧ Arr .byte d B s
def E (r : Option Value) (s u : State) : Prop := XT.PureE (some (.int 0)) r s u
/-- an array as long as the number of chars: LATIN1 -/
theorem law (l : Launch) (d : Addr) (B : Cell) : Law l yN 2 2 0 0 yB 2 (some .byte) site (P d B) E [] 0 0 := by
  refine Law.of_walk (plainFor_of_name (by decide +kernel)) (by decide +kernel) (by decide +kernel) (by decide) (fun _ _ h => by rw [h.1]; rfl) (fun _ U U' hal hh h => ⟨h.1, h.2.mv hal hh⟩) (fun r U U' V V' h1 hal h2 h => XT.PureE.mv r U U' V V' h1 hal h2 h) ?_
  intro p e s m args below meth c s₁ X0 hexec hbytes hml hret hlk hnm hown hh0 W hP
  obtain ⟨rfl, hB⟩ := hP
  have hB0 := hB.mv X0.warmed.alike hh0
  have c1 : Steps p.tables e below (s₁.setTop (entryFrame m #[.ref d, .int (Int32.ofNat B.slots.size)] 2)) (s₁.setTop (mkF m 0 #[.val (.ref d), .val (.int (Int32.ofNat B.slots.size))] [])) := entry rfl
  have c2 : Steps p.tables e below (s₁.setTop (entryFrame m #[.ref d, .int (Int32.ofNat B.slots.size)] 2)) (s₁.setTop (mkF m 2 #[.val (.ref d), .val (.int (Int32.ofNat B.slots.size))] [.ref d, .int (Int32.ofNat B.slots.size)])) := c1.trans (by
    refine XS.iloadN X0.here hexec rfl (hb hbytes d0) rfl ?_
    refine XS.aloadN X0.here hexec rfl (hb hbytes d1) rfl rfl ?_
    exact Steps.refl _)
  have c3 : Steps p.tables e below (s₁.setTop (entryFrame m #[.ref d, .int (Int32.ofNat B.slots.size)] 2)) (s₁.setTop (mkF m 8 #[.val (.ref d), .val (.int (Int32.ofNat B.slots.size))] [.int (lo8 (ushr (Int32.ofNat B.slots.size - Int32.ofNat B.slots.size) 31))])) := c2.trans (by
    refine X0.alen hexec hB0 rfl rfl (hb hbytes d2) ?_
    refine XS.isub X0.here hexec rfl (hb hbytes d3) rfl ?_
    refine bipushV X0.here hexec rfl 31 (hb hbytes d4) (by decide) ?_
    refine iushr X0.here hexec rfl (hb hbytes d6) rfl ?_
    refine i2b X0.here hexec rfl (hb hbytes d7) rfl ?_
    exact Steps.refl _)
  have e0 : lo8 (ushr (Int32.ofNat B.slots.size - Int32.ofNat B.slots.size) 31) = 0 := by rw [Int32.sub_self]; decide
  rw [e0] at c3
  exact ⟨s₁, some (.int 0), _, _, _, X0, rfl, rfl, rfl, (fun h => by cases h), ⟨rfl, hh0⟩, fun fs hl => c3.trans (X0.ireturnOut hexec hret rfl (Or.inr (Or.inr (Or.inl rfl))) (hb hbytes d8) hl)⟩
end CodL
/-- the String at a is Latin-1 over a new byte[] (the heap's one new cell): the low bytes of the len chars of A from o on; every cell but a is kept -/
def Got (a : Addr) (D : Cell) (fV fC : Field) (A : Cell) (o len : Nat) (r : Option Value) (s u : State) : Prop := r = none ∧ ∃ D' V : Cell, Blank "java/lang/String" a D' u ∧ Same D D' [fV.slot, fC.slot] ∧ D'.slots[fV.slot]? = some (.ref s.heap.size) ∧ D'.slots[fC.slot]? = some (.int 0) ∧ Arr .byte s.heap.size V u ∧ V.vm = .none ∧ u.vm.findClass "[B" = some V.cls ∧ V.slots.size = len ∧ (∀ j, j < len → V.slots[j]? = some (.int (lo8 (cv A (o + j))))) ∧ (∀ (y : Addr) (c : Cell), y ≠ a → s.heap[y]? = some c → u.heap[y]? = some c) ∧ u.heap.size = s.heap.size + 1
theorem Got.mv {a : Addr} {D A : Cell} {fV fC : Field} {o len : Nat} : ∀ r (U U' V V' : State), U'.heap = U.heap → V.vm.Alike V'.vm → V'.heap = V.heap → Got a D fV fC A o len r U V → Got a D fV fC A o len r U' V' :=
  fun r U U' V V' h1 hal h2 ⟨e0, D', X, a1, a2, a3, a4, a5, a6, a7, a8, a9, a10, a11⟩ => ⟨e0, D', X, a1.mv hal h2, a2, by rw [h1]; exact a3, a4, by rw [h1]; exact a5.mv hal h2, a6, by rw [hal.findClass]; exact a7, a8, a9, by rw [h1, h2]; exact a10, by rw [h1, h2]; exact a11⟩
namespace New4
def yN : MethodName := ⟨"java/lang/String", "<init>", "([CIILjava/lang/Void;)V"⟩
abbrev yB : ByteArray := jdk_42_method_149_code
theorem d0 : decode yB 0 = .ok (.aload_n 0, 1) := by decide +kernel
theorem d1 : decode yB 1 = .ok (.invokespecial 1, 3) := by decide +kernel
theorem d4 : decode yB 4 = .ok (.iload_n 3, 1) := by decide +kernel
theorem d5 : decode yB 5 = .ok (.ifCond (.ne) 22, 3) := by decide +kernel
theorem d27 : decode yB 27 = .ok (.getstatic 38, 3) := by decide +kernel
theorem d30 : decode yB 30 = .ok (.ifCond (.eq) 28, 3) := by decide +kernel
theorem d33 : decode yB 33 = .ok (.aload_n 1, 1) := by decide +kernel
theorem d34 : decode yB 34 = .ok (.iload_n 2, 1) := by decide +kernel
theorem d35 : decode yB 35 = .ok (.iload_n 3, 1) := by decide +kernel
theorem d36 : decode yB 36 = .ok (.invokestatic 177, 3) := by decide +kernel
theorem d39 : decode yB 39 = .ok (.astore 5, 2) := by decide +kernel
theorem d41 : decode yB 41 = .ok (.aload_n 0, 1) := by decide +kernel
theorem d42 : decode yB 42 = .ok (.aload 5, 2) := by decide +kernel
theorem d44 : decode yB 44 = .ok (.iload_n 3, 1) := by decide +kernel
theorem d45 : decode yB 45 = .ok (.invokestatic 47, 3) := by decide +kernel
theorem d48 : decode yB 48 = .ok (.putfield 15, 3) := by decide +kernel
theorem d51 : decode yB 51 = .ok (.aload_n 0, 1) := by decide +kernel
theorem d52 : decode yB 52 = .ok (.aload 5, 2) := by decide +kernel
theorem d54 : decode yB 54 = .ok (.putfield 9, 3) := by decide +kernel
theorem d57 : decode yB 57 = .ok (.return_, 1) := by decide +kernel
def site : List Cond := [.fieldLink "java/lang/String" 38 "java/lang/String" "COMPACT_STRINGS" "Z", Cmp3.tab, CodL.tab, .laysFinal "java/lang/String" "java/lang/String" "value" "[B", .fieldLink "java/lang/String" 9 "java/lang/String" "value" "[B", .laysFinal "java/lang/String" "java/lang/String" "coder" "B", .fieldLink "java/lang/String" 15 "java/lang/String" "coder" "B"] ++ objW "java/lang/String" 1 ++ staticW "java/lang/String" 177 Cmp3.yN ++ staticW "java/lang/String" 47 CodL.yN
def tab : Cond := tabOf yN yB 6 none site
def P (a : Addr) (D : Cell) (fV fC : Field) (b : Addr) (A : Cell) (z : Int32) (o len : Nat) (args : Array Value) (s : State) : Prop := args = #[.ref a, .ref b, .int (Int32.ofNat o), .int (Int32.ofNat len), .null] ∧ Blank "java/lang/String" a D s ∧ Found "java/lang/String" "value" "[B" fV s ∧ Found "java/lang/String" "coder" "B" fC s ∧ Ch b A s ∧ StaticIs s "java/lang/String" "COMPACT_STRINGS" "Z" (.int z) ∧ ¬ z = 0 ∧ 0 < len ∧ o + len ≤ A.slots.size ∧ len ≤ 536870912 ∧ ∀ i, i < len → ¬ 255 < cv A (o + i)
def E (a : Addr) (D : Cell) (fV fC : Field) (A : Cell) (o len : Nat) (r : Option Value) (s u : State) : Prop := Got a D fV fC A o len r s u
/-- len > 0, no char of the range above 255: a Latin-1 String of their low bytes -/
theorem law (l : Launch) (a : Addr) (D : Cell) (fV fC : Field) (b : Addr) (A : Cell) (z : Int32) (o len : Nat) : Law l yN 5 4 2 35 yB 6 none site (P a D fV fC b A z o len) (E a D fV fC A o len) [⟨a, fC.slot⟩, ⟨a, fV.slot⟩] 1 len := by
  refine Law.of_walk (plainFor_of_name (by decide +kernel)) (by decide +kernel) (by decide +kernel) (by decide) (fun _ _ h => by rw [h.1]; rfl) (fun _ U U' hal hh h => ⟨h.1, h.2.1.mv hal hh, h.2.2.1.al hal, h.2.2.2.1.al hal, h.2.2.2.2.1.mv hal hh, h.2.2.2.2.2.1.there hal hh, h.2.2.2.2.2.2⟩) (fun r U U' V V' h1 hal h2 h => Got.mv r U U' V V' h1 hal h2 h) ?_
  intro p e s m args below meth c s₁ X0 hexec hbytes hml hret hlk hnm hown hh0 W hP
  obtain ⟨rfl, hB, f1, f2, hA, s1, hz, l0, l1, l2, hp⟩ := hP
  have a31 := hA.1.2.2.2
  have c1 : Steps p.tables e below (s₁.setTop (entryFrame m #[.ref a, .ref b, .int (Int32.ofNat o), .int (Int32.ofNat len), .null] 6)) (s₁.setTop (mkF m 0 #[.val (.ref a), .val (.ref b), .val (.int (Int32.ofNat o)), .val (.int (Int32.ofNat len)), .val .null, .unset] [])) := entry rfl
  have c2 : Steps p.tables e below (s₁.setTop (entryFrame m #[.ref a, .ref b, .int (Int32.ofNat o), .int (Int32.ofNat len), .null] 6)) (s₁.setTop (mkF m 1 #[.val (.ref a), .val (.ref b), .val (.int (Int32.ofNat o)), .val (.int (Int32.ofNat len)), .val .null, .unset] [.ref a])) := c1.trans (by
    refine XS.aloadN X0.here hexec rfl (hb hbytes d0) rfl rfl ?_
    exact Steps.refl _)
  obtain ⟨T3, X3, q3, st3⟩ := X0.oinit hexec hown (wks W (objW "java/lang/String" 1)) (g := (mkF m 1 #[.val (.ref a), .val (.ref b), .val (.int (Int32.ofNat o)), .val (.int (Int32.ofNat len)), .val .null, .unset] [.ref a])) rfl (by rw [hml]; rfl) (rest := []) rfl (hb hbytes d1) (W := 0) (by show 2 * 0 + 0 ≤ _; decide) (Nat.le_of_ble_eq_true rfl) (Nat.le_of_ble_eq_true rfl)
  have hh3 := q3.trans hh0
  have c4 : Steps p.tables e below (s₁.setTop (entryFrame m #[.ref a, .ref b, .int (Int32.ofNat o), .int (Int32.ofNat len), .null] 6)) (T3.setTop (mkF m 27 #[.val (.ref a), .val (.ref b), .val (.int (Int32.ofNat o)), .val (.int (Int32.ofNat len)), .val .null, .unset] [])) := (c2.trans (st3 _ (Steps.refl _))).trans (by
    refine XS.iloadN X3.here hexec rfl (hb hbytes d4) rfl ?_
    refine XS.ifYes X3.here hexec rfl (pc0 := 5) rfl (hb hbytes d5) rfl (i0_ne_t (nz32 (by omega) l0)) (by decide) rfl ?_
    exact Steps.refl _)
  obtain ⟨T5, X5, q5, st5⟩ := X3.sget hexec hown (wk W (.fieldLink "java/lang/String" 38 "java/lang/String" "COMPACT_STRINGS" "Z")) s1 (fun _ _ h => by rw [hh3]; exact h) (g := (mkF m 27 #[.val (.ref a), .val (.ref b), .val (.int (Int32.ofNat o)), .val (.int (Int32.ofNat len)), .val .null, .unset] [])) rfl (hb hbytes d27)
  have hh5 := q5.trans hh3
  have c6 : Steps p.tables e below (s₁.setTop (entryFrame m #[.ref a, .ref b, .int (Int32.ofNat o), .int (Int32.ofNat len), .null] 6)) (T5.setTop (mkF m 30 #[.val (.ref a), .val (.ref b), .val (.int (Int32.ofNat o)), .val (.int (Int32.ofNat len)), .val .null, .unset] [.int z])) := c4.trans (st5 _ (Steps.refl _))
  have c7 : Steps p.tables e below (s₁.setTop (entryFrame m #[.ref a, .ref b, .int (Int32.ofNat o), .int (Int32.ofNat len), .null] 6)) (T5.setTop (mkF m 36 #[.val (.ref a), .val (.ref b), .val (.int (Int32.ofNat o)), .val (.int (Int32.ofNat len)), .val .null, .unset] [.int (Int32.ofNat len), .int (Int32.ofNat o), .ref b])) := c6.trans (by
    refine XS.ifNo X5.here hexec rfl (hb hbytes d30) rfl (i0_eq_f hz) ?_
    refine XS.aloadN X5.here hexec rfl (hb hbytes d33) rfl rfl ?_
    refine XS.iloadN X5.here hexec rfl (hb hbytes d34) rfl ?_
    refine XS.iloadN X5.here hexec rfl (hb hbytes d35) rfl ?_
    exact Steps.refl _)
  obtain ⟨v8, T8, X8, E8, g8⟩ := X5.callS hexec (Cmp3.law l b A o len) hown (wks W (staticW "java/lang/String" 177 Cmp3.yN)) (wk W Cmp3.tab) (W := 0) (Nat.le_of_ble_eq_true rfl) (Nat.le_of_ble_eq_true rfl) (Nat.le_refl _) (by show 0 + len ≤ len; omega) (g := (mkF m 36 #[.val (.ref a), .val (.ref b), .val (.int (Int32.ofNat o)), .val (.int (Int32.ofNat len)), .val .null, .unset] [.int (Int32.ofNat len), .int (Int32.ofNat o), .ref b])) rfl (by rw [hml]; rfl) c7 (argsL := [.ref b, .int (Int32.ofNat o), .int (Int32.ofNat len)]) (rest := []) rfl rfl (by show 2 * 0 + 0 ≤ _; decide) (hb hbytes d36) (⟨rfl, hA.mv X5.warmed.alike hh5, l1, l2, hp⟩)
  obtain ⟨e8, z8⟩ := E8
  obtain ⟨rfl, N, n1, n2, n3, n4, n5, n6⟩ := NewArr.mv _ T5 s _ _ hh5.symm (Vm.Alike.refl _) rfl e8
  rw [hh5] at z8
  have hB1 := hB.keep X8.warmed.alike (n6 _ _ hB.1)
  have hne : s.heap.size ≠ a := (Nat.ne_of_lt (Array.getElem?_eq_some_iff.mp hB.1).1).symm
  have c9 : Steps p.tables e below (s₁.setTop (entryFrame m #[.ref a, .ref b, .int (Int32.ofNat o), .int (Int32.ofNat len), .null] 6)) (T8.setTop (mkF m 39 #[.val (.ref a), .val (.ref b), .val (.int (Int32.ofNat o)), .val (.int (Int32.ofNat len)), .val .null, .unset] [.ref s.heap.size])) := g8
  have c10 : Steps p.tables e below (s₁.setTop (entryFrame m #[.ref a, .ref b, .int (Int32.ofNat o), .int (Int32.ofNat len), .null] 6)) (T8.setTop (mkF m 45 #[.val (.ref a), .val (.ref b), .val (.int (Int32.ofNat o)), .val (.int (Int32.ofNat len)), .val .null, .val (.ref s.heap.size)] [.int (Int32.ofNat N.slots.size), .ref s.heap.size, .ref a])) := by
    have hc : Steps p.tables e below (s₁.setTop (entryFrame m #[.ref a, .ref b, .int (Int32.ofNat o), .int (Int32.ofNat len), .null] 6)) (T8.setTop (mkF m 45 #[.val (.ref a), .val (.ref b), .val (.int (Int32.ofNat o)), .val (.int (Int32.ofNat len)), .val .null, .val (.ref s.heap.size)] [.int (Int32.ofNat len), .ref s.heap.size, .ref a])) := c9.trans (by
      refine XS.astore X8.here hexec rfl (hb hbytes d39) rfl rfl rfl ?_
      refine XS.aloadN X8.here hexec rfl (hb hbytes d41) rfl rfl ?_
      refine XS.aload X8.here hexec rfl (hb hbytes d42) rfl rfl ?_
      refine XS.iloadN X8.here hexec rfl (hb hbytes d44) rfl ?_
      exact Steps.refl _)
    rw [n4]; exact hc
  obtain ⟨v11, T11, X11, E11, g11⟩ := X8.callS hexec (CodL.law l s.heap.size N) hown (wks W (staticW "java/lang/String" 47 CodL.yN)) (wk W CodL.tab) (W := 1) (Nat.le_of_ble_eq_true rfl) (Nat.le_of_ble_eq_true rfl) (Nat.le_refl _) (by show 0 + len + 0 ≤ len; omega) (g := (mkF m 45 #[.val (.ref a), .val (.ref b), .val (.int (Int32.ofNat o)), .val (.int (Int32.ofNat len)), .val .null, .val (.ref s.heap.size)] [.int (Int32.ofNat N.slots.size), .ref s.heap.size, .ref a])) rfl (by rw [hml]; rfl) c10 (argsL := [.ref s.heap.size, .int (Int32.ofNat N.slots.size)]) (rest := [.ref a]) rfl rfl (by show 2 * 0 + (1 + 0) ≤ _; decide) (hb hbytes d45) (⟨rfl, n1⟩)
  obtain ⟨rfl, q11⟩ := E11
  have hB11 := hB1.mv (X8.warmed.alike.symm.trans X11.warmed.alike) q11
  have c12 : Steps p.tables e below (s₁.setTop (entryFrame m #[.ref a, .ref b, .int (Int32.ofNat o), .int (Int32.ofNat len), .null] 6)) (T11.setTop (mkF m 48 #[.val (.ref a), .val (.ref b), .val (.int (Int32.ofNat o)), .val (.int (Int32.ofNat len)), .val .null, .val (.ref s.heap.size)] [.int 0, .ref a])) := g11
  obtain ⟨T13, X13, p13, bl13, sl13, st13⟩ := X11.finit hexec hown (wk W (.fieldLink "java/lang/String" 15 "java/lang/String" "coder" "B")) (Or.inr ⟨_, (wk W (.laysFinal "java/lang/String" "java/lang/String" "coder" "B"))⟩) (Or.inl ⟨rfl, hnm⟩) f2 (Or.inl rfl) hB11 (t := .byte) (by decide +kernel) rfl (g := (mkF m 48 #[.val (.ref a), .val (.ref b), .val (.int (Int32.ofNat o)), .val (.int (Int32.ofNat len)), .val .null, .val (.ref s.heap.size)] [.int 0, .ref a])) rfl (rest := []) rfl (hb hbytes d48)
  have c14 : Steps p.tables e below (s₁.setTop (entryFrame m #[.ref a, .ref b, .int (Int32.ofNat o), .int (Int32.ofNat len), .null] 6)) (T13.setTop (mkF m 54 #[.val (.ref a), .val (.ref b), .val (.int (Int32.ofNat o)), .val (.int (Int32.ofNat len)), .val .null, .val (.ref s.heap.size)] [.ref s.heap.size, .ref a])) := (c12.trans (st13 _ (Steps.refl _))).trans (by
    refine XS.aloadN X13.here hexec rfl (hb hbytes d51) rfl rfl ?_
    refine XS.aload X13.here hexec rfl (hb hbytes d52) rfl rfl ?_
    exact Steps.refl _)
  obtain ⟨T15, X15, p15, bl15, sl15, st15⟩ := X13.finit hexec hown (wk W (.fieldLink "java/lang/String" 9 "java/lang/String" "value" "[B")) (Or.inr ⟨_, (wk W (.laysFinal "java/lang/String" "java/lang/String" "value" "[B"))⟩) (Or.inl ⟨rfl, hnm⟩) f1 (Or.inl rfl) bl13 (t := (.array .byte)) (by decide +kernel) rfl (g := (mkF m 54 #[.val (.ref a), .val (.ref b), .val (.int (Int32.ofNat o)), .val (.int (Int32.ofNat len)), .val .null, .val (.ref s.heap.size)] [.ref s.heap.size, .ref a])) rfl (rest := []) rfl (hb hbytes d54)
  have c16 : Steps p.tables e below (s₁.setTop (entryFrame m #[.ref a, .ref b, .int (Int32.ofNat o), .int (Int32.ofNat len), .null] 6)) (T15.setTop (mkF m 57 #[.val (.ref a), .val (.ref b), .val (.int (Int32.ofNat o)), .val (.int (Int32.ofNat len)), .val .null, .val (.ref s.heap.size)] [])) := c14.trans (st15 _ (Steps.refl _))
  have ap := apart (Or.inr ⟨_, (wk W (.laysFinal "java/lang/String" "java/lang/String" "value" "[B"))⟩) (Or.inr ⟨_, (wk W (.laysFinal "java/lang/String" "java/lang/String" "coder" "B"))⟩) f1 f2 (t₁ := .array .byte) (t₂ := .byte) (by decide +kernel) (by decide +kernel) (by decide)
  have al := X8.warmed.alike.symm.trans X15.warmed.alike
  have n7 : T11.heap[s.heap.size]? = some N := by rw [q11]; exact n1.1
  exact ⟨T15, none, _, _, _, X15, by simp, rfl, by omega, (fun _ => rfl), ⟨rfl, _, N, bl15, ((Same.refl D _).set _ (by simp)).set _ (by simp), sl15, (Cell.slots_setSlot_ne _ ap).trans sl13, n1.keep al (p15.other hne (p13.other hne n7)), n2, by rw [al.findClass]; exact n3, n4, n5, fun y c h1 h2 => p15.other h1 (p13.other h1 (by rw [q11]; exact n6 y c h2)), by rw [p15.2.2, p13.2.2, q11]; exact z8⟩, fun fs hl => c16.trans (X15.returnOut hexec hret (hb hbytes d57) hl)⟩
end New4
namespace New1
def yN : MethodName := ⟨"java/lang/String", "<init>", "([C)V"⟩
abbrev yB : ByteArray := jdk_42_method_3_code
theorem d0 : decode yB 0 = .ok (.aload_n 0, 1) := by decide +kernel
theorem d1 : decode yB 1 = .ok (.aload_n 1, 1) := by decide +kernel
theorem d2 : decode yB 2 = .ok (.iconst 0, 1) := by decide +kernel
theorem d3 : decode yB 3 = .ok (.aload_n 1, 1) := by decide +kernel
theorem d4 : decode yB 4 = .ok (.arraylength, 1) := by decide +kernel
theorem d5 : decode yB 5 = .ok (.aconst_null, 1) := by decide +kernel
theorem d6 : decode yB 6 = .ok (.invokespecial 27, 3) := by decide +kernel
theorem d9 : decode yB 9 = .ok (.return_, 1) := by decide +kernel
def site : List Cond := [New4.tab] ++ initW "java/lang/String" 27 New4.yN
def tab : Cond := tabOf yN yB 2 none site
def P (a : Addr) (D : Cell) (fV fC : Field) (b : Addr) (A : Cell) (z : Int32) (args : Array Value) (s : State) : Prop := args = #[.ref a, .ref b] ∧ Blank "java/lang/String" a D s ∧ Found "java/lang/String" "value" "[B" fV s ∧ Found "java/lang/String" "coder" "B" fC s ∧ Ch b A s ∧ StaticIs s "java/lang/String" "COMPACT_STRINGS" "Z" (.int z) ∧ ¬ z = 0 ∧ 0 < A.slots.size ∧ A.slots.size ≤ 536870912 ∧ ∀ i, i < A.slots.size → ¬ 255 < cv A i
def E (a : Addr) (D : Cell) (fV fC : Field) (A : Cell) (r : Option Value) (s u : State) : Prop := Got a D fV fC A 0 A.slots.size r s u
/-- new String(chars), not empty, no char above 255: a Latin-1 String of their low bytes -/
theorem law (l : Launch) (a : Addr) (D : Cell) (fV fC : Field) (b : Addr) (A : Cell) (z : Int32) : Law l yN 2 1 3 52 yB 2 none site (P a D fV fC b A z) (E a D fV fC A) [⟨a, fC.slot⟩, ⟨a, fV.slot⟩] 1 A.slots.size := by
  refine Law.of_walk (plainFor_of_name (by decide +kernel)) (by decide +kernel) (by decide +kernel) (by decide) (fun _ _ h => by rw [h.1]; rfl) (fun _ U U' hal hh h => ⟨h.1, h.2.1.mv hal hh, h.2.2.1.al hal, h.2.2.2.1.al hal, h.2.2.2.2.1.mv hal hh, h.2.2.2.2.2.1.there hal hh, h.2.2.2.2.2.2⟩) (fun r U U' V V' h1 hal h2 h => Got.mv r U U' V V' h1 hal h2 h) ?_
  intro p e s m args below meth c s₁ X0 hexec hbytes hml hret hlk hnm hown hh0 W hP
  obtain ⟨rfl, hB, f1, f2, hA, s1, hz, l0, l2, hp⟩ := hP
  have c1 : Steps p.tables e below (s₁.setTop (entryFrame m #[.ref a, .ref b] 2)) (s₁.setTop (mkF m 0 #[.val (.ref a), .val (.ref b)] [])) := entry rfl
  have c2 : Steps p.tables e below (s₁.setTop (entryFrame m #[.ref a, .ref b] 2)) (s₁.setTop (mkF m 6 #[.val (.ref a), .val (.ref b)] [.null, .int (Int32.ofNat A.slots.size), .int 0, .ref b, .ref a])) := c1.trans (by
    refine XS.aloadN X0.here hexec rfl (hb hbytes d0) rfl rfl ?_
    refine XS.aloadN X0.here hexec rfl (hb hbytes d1) rfl rfl ?_
    refine iconstV X0.here hexec rfl 0 (hb hbytes d2) (by decide) ?_
    refine XS.aloadN X0.here hexec rfl (hb hbytes d3) rfl rfl ?_
    refine X0.alen hexec (hA.1.mv X0.warmed.alike hh0) rfl rfl (hb hbytes d4) ?_
    refine XS.aconstNull X0.here hexec rfl (hb hbytes d5) ?_
    exact Steps.refl _)
  obtain ⟨v3, T3, X3, E3, g3⟩ := X0.callN hexec (New4.law l a D fV fC b A z 0 A.slots.size) rfl hown (wks W (initW "java/lang/String" 27 New4.yN)) (W New4.tab (by simp only [site, List.mem_cons, List.mem_append, true_or, or_true])) (W := 0) (Nat.le_of_ble_eq_true rfl) (Nat.le_of_ble_eq_true rfl) (Nat.le_refl _) (by show 0 + A.slots.size ≤ A.slots.size; omega) (g := (mkF m 6 #[.val (.ref a), .val (.ref b)] [.null, .int (Int32.ofNat A.slots.size), .int (Int32.ofNat 0), .ref b, .ref a])) rfl (by rw [hml]; rfl) c2 (argsL := [.ref b, .int (Int32.ofNat 0), .int (Int32.ofNat A.slots.size), .null]) (rest := []) rfl rfl (by show 2 * 0 + 0 ≤ _; decide) (hb hbytes d6) (⟨rfl, hB.mv X0.warmed.alike hh0, f1.al X0.warmed.alike, f2.al X0.warmed.alike, hA.mv X0.warmed.alike hh0, s1.there X0.warmed.alike hh0, hz, l0, by omega, l2, fun i hi => by rw [Nat.zero_add]; exact hp i hi⟩)
  have e0 := Got.mv _ s₁ s _ _ hh0.symm (Vm.Alike.refl _) rfl E3
  obtain rfl := e0.1
  have c4 : Steps p.tables e below (s₁.setTop (entryFrame m #[.ref a, .ref b] 2)) (T3.setTop (mkF m 9 #[.val (.ref a), .val (.ref b)] [])) := g3
  exact ⟨T3, none, _, _, _, X3, by simp, rfl, by omega, (fun _ => rfl), e0, fun fs hl => c4.trans (X3.returnOut hexec hret (hb hbytes d9) hl)⟩
theorem pays {l : Launch} {R : Room} {p : Program} {e : Env} {below : List Frame} {s : State} {sargs : Array Value} {len W : Nat} (a : Addr) (D : Cell) (fV fC : Field) (b : Addr) (A : Cell) (z : Int32) (htab : tab.before sargs s = true) (hfr : 4 ≤ R.frames) (hlo : W + 65 ≤ R.locals) :
    Back l R p e below s sargs yN len W (fun A₁ a₁ => A₁.cells + 1 ≤ R.cells ∧ A₁.slots + A.slots.size ≤ R.slots ∧ P a D fV fC b A z a₁ A₁.U) (fun A₁ _ v₁ B₁ => E a D fV fC A v₁ A₁.U B₁.U ∧ B₁.locs = A₁.locs ++ [⟨a, fC.slot⟩, ⟨a, fV.slot⟩] ∧ B₁.cells = A₁.cells + 1 ∧ B₁.slots = A₁.slots + A.slots.size) :=
  (law l a D fV fC b A z).pays htab hfr (by omega)
end New1
/-- the byte, read back as charAt reads it, is the char -/
theorem lo8_mask {x : Int32} (h0 : ¬ x < 0) (h1 : ¬ 255 < x) : lo8 x &&& 255 = x := by
  have t : ∀ k : Fin 256, lo8 (Int32.ofNat k.val) &&& 255 = Int32.ofNat k.val := by decide +kernel
  rw [Int32.lt_iff_toInt_lt] at h0 h1
  have e0 : (0 : Int32).toInt = 0 := rfl
  have e1 : (255 : Int32).toInt = 255 := rfl
  obtain ⟨k, hk⟩ : ∃ k : Nat, x.toInt = k := ⟨x.toInt.toNat, by omega⟩
  have hx : x = Int32.ofNat k := Int32.toInt_inj.mp (by rw [hk, Int32.toInt_ofNat_small (by omega)])
  rw [hx]
  exact t ⟨k, by omega⟩
end StrChars
namespace StrChars.Road
open Jvm Sem ClassFile Op Lib Jvm.Stand Jvm.Free Jvm.Free.XT
open Jvm.Lib.Cold (StaticIs)
abbrev ST : String := "java/lang/String"
/-- every table word that New1's law asks, flat -/
abbrev words : List Jvm.Cond := [.code New1.yN New1.yB 2 none, .initialized ST, .methodLink ST 27 New4.yN, .instanceMethod New4.yN,
  .code New4.yN New4.yB 6 none, .fieldLink ST 38 ST "COMPACT_STRINGS" "Z", .laysFinal ST ST "value" "[B", .fieldLink ST 9 ST "value" "[B", .laysFinal ST ST "coder" "B", .fieldLink ST 15 ST "coder" "B",
  .methodLink ST 1 Lib.objectInit, .instanceMethod Lib.objectInit, .code Lib.objectInit ⟨#[0xb1]⟩ 1 none, .methodLink ST 177 Cmp3.yN, .static Cmp3.yN, .methodLink ST 47 CodL.yN, .static CodL.yN,
  .code Cmp3.yN Cmp3.yB 6 (some (.array .byte)), .initialized U16, .arrayClass .byte, .methodLink U16 115 Cmp5.yN, .static Cmp5.yN, .code Cmp5.yN Cmp5.yB 7 (some .int), .code CodL.yN CodL.yB 2 (some .byte)]
theorem tab_of {a : Array Value} {s : State} (h : ∀ w ∈ words, w.before a s = true) : New1.tab.before a s = true := by
  have h5 : Cmp5.tab.before a s = true := unparts (wk h (.code Cmp5.yN Cmp5.yB 7 (some .int))) (wks h (.initialized Cmp5.yN.cls :: Cmp5.site))
  have hc : CodL.tab.before a s = true := unparts (wk h (.code CodL.yN CodL.yB 2 (some .byte))) (wks h (.initialized CodL.yN.cls :: CodL.site))
  have q5 : ∀ w ∈ Cmp5.tab :: words, w.before a s = true := fun w hw => (List.mem_cons.mp hw).elim (fun e => e ▸ h5) (h w)
  have h3 : Cmp3.tab.before a s = true := unparts (wk q5 (.code Cmp3.yN Cmp3.yB 6 (some (.array .byte)))) (wks q5 (.initialized Cmp3.yN.cls :: Cmp3.site))
  have q3 : ∀ w ∈ Cmp3.tab :: CodL.tab :: words, w.before a s = true := fun w hw => (List.mem_cons.mp hw).elim (fun e => e ▸ h3) fun hw => (List.mem_cons.mp hw).elim (fun e => e ▸ hc) (h w)
  have h4 : New4.tab.before a s = true := unparts (wk q3 (.code New4.yN New4.yB 6 none)) (wks q3 (.initialized New4.yN.cls :: New4.site))
  have q4 : ∀ w ∈ New4.tab :: words, w.before a s = true := fun w hw => (List.mem_cons.mp hw).elim (fun e => e ▸ h4) (h w)
  exact unparts (wk q4 (.code New1.yN New1.yB 2 none)) (wks q4 (.initialized New1.yN.cls :: New1.site))
/-- the words ride from the start Z to the walk's own state -/
theorem moved {Z s : State} {a0 args : Array Value} (hZ : Z.Warmed39 s.vm) (hw : ∀ d ∈ words, d.before a0 Z = true) : ∀ d ∈ words, d.before args s = true := fun d hd => by
  have q := hw d hd
  have t : ∀ d ∈ words, d = .arrayClass .byte ∨ (d.onTables && d.keepsFace) = true := by decide +kernel
  rcases t d hd with rfl | t
  · exact RoadKit.mvA hZ q
  · exact RoadKit.mv hZ q t
/-- WHAT COMES BACK, over the tables of the start Z: h the heap at the call, h' behind it -/
def Q (Z : State) (x : Addr) (A : Cell) (h : Heap) (v : Option Value) (h' : Heap) (L : List Loc) : Prop := v = none ∧ (∀ y ∈ L, y.base = x) ∧ RoadKit.Keep h h' [x] ∧ h'.size = h.size + 1 ∧ RoadKit.Exa Z h' x ST ∧ RoadKit.Fld Z h' x ST "value" "[B" (.ref h.size) ∧ RoadKit.Fld Z h' x ST "coder" "B" (.int 0) ∧
  (∃ V : Cell, RoadKit.Arr Z h' h.size V .byte ∧ V.vm = .none ∧ Z.vm.findClass "[B" = some V.cls ∧ V.slots.size = A.slots.size ∧ ∀ j, j < A.slots.size → V.slots[j]? = some (.int (lo8 (cv A j)))) ∧
  ∀ (O n d : String) (w : Value), RoadKit.Fld Z h x O n d w → RoadKit.slotOf Z O n d ≠ RoadKit.slotOf Z ST "value" "[B" → RoadKit.slotOf Z O n d ≠ RoadKit.slotOf Z ST "coder" "B" → RoadKit.Fld Z h' x O n d w
/-- **new String(chars) AT A CALL, IN THE ROAD'S FORM**: for specialBack behind newO: x the fresh String, b the char[] with the cell A -/
theorem back {p : Program} {l : Launch} {e : Env} {R : Room} {s : State} {args : Array Value} {below : List Frame} {len W : Nat} {Z : State} {a0 : Array Value} {h : Heap} (hZ : Z.Warmed39 s.vm) (hw : ∀ d ∈ words, d.before a0 Z = true) {kI : Nat} (wi : (Jvm.Cond.instantiable ST kI).before a0 Z = true)
    {x b : Addr} {A : Cell} {z : Int32} {v0 c0 : Value} (E : RoadKit.Exa Z h x ST) (V : RoadKit.Fld Z h x ST "value" "[B" v0) (C : RoadKit.Fld Z h x ST "coder" "B" c0) (K : RoadKit.Arr Z h b A .char) (hty : Typed .char A) (S : RoadKit.Sta Z h ST "COMPACT_STRINGS" "Z" (.int z)) (hz : ¬ z = 0)
    (l0 : 0 < A.slots.size) (l2 : A.slots.size ≤ 536870912) (hp : ∀ i, i < A.slots.size → ¬ 255 < cv A i) (hfr : 4 ≤ R.frames) (hlo : W + 65 ≤ R.locals) :
    Back l R p e below s args New1.yN len W (fun P a => a = #[.ref x, .ref b] ∧ P.U.heap = h ∧ P.cells + 1 ≤ R.cells ∧ P.slots + A.slots.size ≤ R.slots)
      (fun P _ v B => ∃ L, Q Z x A h v B.U.heap L ∧ B.locs = P.locs ++ L ∧ B.cells = P.cells + 1 ∧ B.slots = P.slots + A.slots.size) := by
  intro m meth c P g ig mk a X hg hsize hdg hW hn hp'
  obtain ⟨rfl, rfl, r1, r2⟩ := hp'
  have al : Z.vm.Alike P.U.vm := hZ.alike.trans X.warmed.alike
  obtain ⟨D, cfV, kV, iV, fV, hD, gV, stV, knV, obV, asV, slV⟩ := id V
  obtain ⟨D', cfC, kC, iC, fC, hD', gC, stC, -, -, asC, slC⟩ := id C
  cases hD.symm.trans hD'
  obtain ⟨D2, kD, e1, e2, e3, e4, e5⟩ := id E
  cases hD.symm.trans e1
  obtain ⟨c2, k2, i1, i2, i3, -⟩ := Cond.instantiable_spec wi
  cases e2.symm.trans i1
  cases e3.symm.trans i2
  obtain ⟨kU, u1, u2⟩ := al.2.2 _ _ e3
  have hB : Blank ST x D P.U := ⟨hD, ⟨knV, fun q hq => by rw [hq] at obV; cases obV⟩, by rw [al.findClass]; exact e2, kU, u1, by rw [u2]; exact i3, by rw [u2]; exact e5 i3⟩
  have F1 : Found ST "value" "[B" fV P.U := ⟨SBG.found_only al ⟨cfV, kV, iV, gV⟩, stV⟩
  have F2 : Found ST "coder" "B" fC P.U := ⟨SBG.found_only al ⟨cfC, kC, iC, gC⟩, stC⟩
  have hA : Ch b A P.U := ⟨⟨K.1, State.isArrayOf_alike al K.2.1, K.2.2, by omega⟩, hty⟩
  have hS : StaticIs P.U ST "COMPACT_STRINGS" "Z" (.int z) := by
    obtain ⟨cfS, iS, kS, fS, st, cS, t1, t2, t3, t4, t5, t6, t7⟩ := S
    exact StaticIs.there (s := { Z with heap := P.U.heap }) ⟨cfS, iS, kS, fS, st, cS, t1, t2, t3, t4, t5, (fun q => by rw [q] at t6; cases t6), t7⟩ al rfl
  obtain ⟨v, B, X', ⟨⟨hv, E', V', q1, q2, q3, q4, q5, q6, q7, q8, q9, q10, q11⟩, hl, hc, hs⟩, st⟩ := New1.pays x D fV fC b A z (tab_of (moved hZ hw)) hfr hlo m meth c P g ig mk _ X hg hsize hdg hW hn ⟨r1, r2, rfl, hB, F1, F2, hA, hS, hz, l0, l2, hp⟩
  have al' : Z.vm.Alike B.U.vm := hZ.alike.trans X'.warmed.alike
  have hsz : E'.slots.size = D.slots.size := by
    obtain ⟨-, -, -, kB, w1, w2, w3⟩ := q1
    obtain ⟨kB', y1, y2⟩ := al'.2.2 _ _ e3
    rw [q2.2.1] at w1
    cases w1.symm.trans y1
    rw [w3, e5 i3, y2]
  refine ⟨v, B, X', ⟨_, ⟨hv, ?_, ⟨by omega, fun y cy hy hn' => q10 y cy (by simpa using hn') hy, fun y cy hy => ?_⟩, q11, ⟨E', _, q1.1, by rw [q2.2.1]; exact e2, by rw [q2.2.1]; exact e3, by rw [q2.1]; exact obV, fun _ => by rw [hsz]; exact e5 i3⟩,
    ⟨E', cfV, kV, iV, fV, q1.1, gV, stV, by rw [q2.1]; exact knV, by rw [q2.1]; exact obV, by rw [q2.2.1]; exact asV, q3⟩, ⟨E', cfC, kC, iC, fC, q1.1, gC, stC, by rw [q2.1]; exact knV, by rw [q2.1]; exact obV, by rw [q2.2.1]; exact asC, q4⟩,
    ⟨V', ⟨q5.1, State.isArrayOf_alike al'.symm q5.2.1, q5.2.2.1⟩, q6, by rw [← al'.findClass]; exact q7, q8, fun j hj => by have := q9 j hj; rwa [Nat.zero_add] at this⟩, fun O n d w F n1 n2 => ?_⟩, hl, hc, hs⟩, st⟩
  · intro y hy
    simp only [List.mem_cons, List.not_mem_nil, or_false] at hy
    rcases hy with rfl | rfl <;> rfl
  · by_cases q : y = x
    · subst q
      cases hD.symm.trans hy
      exact ⟨E', q1.1, q2.2.1, q2.1, hsz⟩
    · exact ⟨cy, q10 y cy q hy, rfl, rfl, rfl⟩
  · obtain ⟨D3, cf, k, i, f, g1, g2, g3, g4, g5, g6, g7⟩ := F
    cases hD.symm.trans g1
    simp only [RoadKit.slotOf, g2, gV, gC, Option.map_some, Option.getD_some] at n1 n2
    exact ⟨E', cf, k, i, f, q1.1, g2, g3, by rw [q2.1]; exact g4, by rw [q2.1]; exact g5, by rw [q2.2.1]; exact g6, by rw [q2.2.2 f.slot (by simp [n1, n2])]; exact g7⟩
end StrChars.Road
namespace StrChars.Road
open Jvm Sem ClassFile Op Lib Jvm.Stand Jvm.Free Jvm.Free.XT
/-- WHAT COMES BACK, the byte[] as a list of values -/
def QA (Z : State) (x : Addr) (zn : Int32) (cs : List Int32) (h : Heap) (v : Option Value) (h' : Heap) (L : List Loc) : Prop := v = none ∧ (∀ y ∈ L, y.base = x) ∧ RoadKit.Keep h h' [x] ∧ h'.size = h.size + 1 ∧ RoadKit.Exa Z h' x ST ∧ RoadKit.Fld Z h' x ST "value" "[B" (.ref h.size) ∧ RoadKit.Fld Z h' x ST "coder" "B" (.int 0) ∧
  (∃ kb, Z.vm.findClass "[B" = some kb ∧ RoadKit.Arv Z h' h.size kb .byte zn (cs.map fun c => .int (lo8 c)) (.int 0)) ∧
  ∀ (O n d : String) (w : Value), RoadKit.Fld Z h x O n d w → RoadKit.slotOf Z O n d ≠ RoadKit.slotOf Z ST "value" "[B" → RoadKit.slotOf Z O n d ≠ RoadKit.slotOf Z ST "coder" "B" → RoadKit.Fld Z h' x O n d w
/-- **new String(chars) AT A CALL, THE ARRAYS AS LISTS**: the char[] at b holds cs, not empty, no char above 255 -/
theorem backArv {p : Program} {l : Launch} {e : Env} {R : Room} {s : State} {args : Array Value} {below : List Frame} {len W : Nat} {Z : State} {a0 : Array Value} {h : Heap} (hZ : Z.Warmed39 s.vm) (hw : ∀ d ∈ words, d.before a0 Z = true) {kI : Nat} (wi : (Jvm.Cond.instantiable ST kI).before a0 Z = true)
    {x b : Addr} {k : ClassId} {zn z : Int32} {cs : List Int32} {dv v0 c0 : Value} (E : RoadKit.Exa Z h x ST) (V : RoadKit.Fld Z h x ST "value" "[B" v0) (C : RoadKit.Fld Z h x ST "coder" "B" c0) (K : RoadKit.Arv Z h b k .char zn (cs.map Value.int) dv) (S : RoadKit.Sta Z h ST "COMPACT_STRINGS" "Z" (.int z)) (hz : ¬ z = 0)
    (hlen : zn.toNatClampNeg = cs.length) (h0 : 0 < cs.length) (hbig : cs.length ≤ 536870912) (hall : ∀ c ∈ cs, ¬ 255 < c) (hfr : 4 ≤ R.frames) (hlo : W + 65 ≤ R.locals) :
    Back l R p e below s args New1.yN len W (fun P a => a = #[.ref x, .ref b] ∧ P.U.heap = h ∧ P.cells + 1 ≤ R.cells ∧ P.slots + cs.length ≤ R.slots)
      (fun P _ v B => ∃ L, QA Z x zn cs h v B.U.heap L ∧ B.locs = P.locs ++ L ∧ B.cells = P.cells + 1 ∧ B.slots = P.slots + cs.length) := by
  obtain ⟨A, K1, K2, K3, K4, K5, K6⟩ := K
  have e : A.slots.size = cs.length := K3.trans hlen
  have hat : ∀ (i : Nat) (hi : i < cs.length), A.slots[i]? = some (.int cs[i]) := fun i hi => by rw [K5 i (by omega)]; simp [List.getD_eq_getElem?_getD, hi]
  have hcv : ∀ (i : Nat) (hi : i < cs.length), cv A i = cs[i] := fun i hi => by unfold cv; rw [hat i hi]
  have hty : Typed .char A := fun i v hv => by
    have hi : i < A.slots.size := (Array.getElem?_eq_some_iff.mp hv).1
    have q := K5 i hi
    rw [hv] at q
    rw [Option.some.inj q]
    exact K6 i hi
  refine Back.mono (back hZ hw wi E V C K1 hty S hz (by omega) (by omega) (fun i hi => by rw [hcv i (by omega)]; exact hall _ (List.getElem_mem _)) hfr hlo) (fun P a hp => ⟨hp.1, hp.2.1, hp.2.2.1, by rw [e]; exact hp.2.2.2⟩) (fun P a v B hp hq => ?_)
  obtain ⟨L, ⟨q1, q2, q3, q4, q5, q6, q7, ⟨V', v1, v2, v3, v4, v5⟩, q9⟩, hl, hc, hs⟩ := hq
  refine ⟨L, ⟨q1, q2, q3, q4, q5, q6, q7, ⟨V'.cls, v3, V', v1, rfl, by rw [v4, e, hlen], K4, fun i hi => ?_, fun i hi => ?_⟩, q9⟩, hl, hc, by rw [hs, e]⟩
  · have hi' : i < cs.length := by omega
    rw [v5 i (by omega), hcv i hi']; simp [List.getD_eq_getElem?_getD, hi']
  · have hi' : i < cs.length := by omega
    simp only [List.getD_eq_getElem?_getD, List.getElem?_map, List.getElem?_eq_getElem hi', Option.map_some, Option.getD_some]
    exact fits_lo8 _
end StrChars.Road
namespace StrChars.Road
open Jvm Sem ClassFile Op Lib Jvm.Stand Jvm.Free Jvm.Free.XT
/-- WHAT COMES BACK, in the writer's own shape -/
def QV (Z : State) (x : Addr) (N : Int32) (bs : List Int32) (h : Heap) (n0 : Nat) (v : Option Value) (h' : Heap) (L : List Loc) : Prop := v = none ∧ RoadKit.Fr n0 L ∧ RoadKit.Keep h h' [x] ∧ RoadKit.Exa Z h' x ST ∧ RoadKit.Fld Z h' x ST "coder" "B" (.int 0) ∧
  ∃ (t : Addr) (kb : ClassId), n0 ≤ t ∧ h.size ≤ t ∧ ¬ t = x ∧ RoadKit.Fld Z h' x ST "value" "[B" (.ref t) ∧ RoadKit.Arv Z h' t kb .byte N (bs.map Value.int) (.int 0)
/-- **new String(chars) AT A CALL, FOR THE WRITER**: a char[] of n known ints, each 0 to 255 -/
theorem backV {p : Program} {l : Launch} {e : Env} {R : Room} {s : State} {args : Array Value} {below : List Frame} {len W : Nat} {Z : State} {a0 : Array Value} {h : Heap} (hZ : Z.Warmed39 s.vm) (hw : ∀ d ∈ words, d.before a0 Z = true) {kI : Nat} (wi : (Jvm.Cond.instantiable ST kI).before a0 Z = true)
    {x b : Addr} {kC : ClassId} {cs bs : List Int32} {d v0 c0 : Value} {z N : Int32} {n n0 : Nat} (hx0 : n0 ≤ x) (hh0 : n0 ≤ h.size) (E : RoadKit.Exa Z h x ST) (V : RoadKit.Fld Z h x ST "value" "[B" v0) (C : RoadKit.Fld Z h x ST "coder" "B" c0) (K : RoadKit.Arv Z h b kC .char N (cs.map Value.int) d) (S : RoadKit.Sta Z h ST "COMPACT_STRINGS" "Z" (.int z)) (hz : ¬ z = 0)
    (hn : cs.length = n) (hN : N = Int32.ofNat n) (l0 : 0 < n) (l2 : n ≤ 4000) (hp : ∀ c ∈ cs, ¬ c < 0 ∧ ¬ (255 : Int32) < c) (hb : bs = cs.map (fun c => c.toInt8.toInt32)) (hfr : 4 ≤ R.frames) (hlo : W + 65 ≤ R.locals) :
    Back l R p e below s args (⟨"java/lang/String", "<init>", "([C)V"⟩ : MethodName) len W (fun P a => a = #[.ref x, .ref b] ∧ P.U.heap = h ∧ P.cells + 1 ≤ R.cells ∧ P.slots + n ≤ R.slots)
      (fun P _ v B => ∃ L, QV Z x N bs h n0 v B.U.heap L ∧ B.locs = P.locs ++ L ∧ B.cells = P.cells + 1 ∧ B.slots = P.slots + n) := by
  subst hn hN hb
  refine Back.mono (backArv hZ hw wi E V C K S hz (n32 (by omega)) l0 (by omega) (fun c hc => (hp c hc).2) hfr hlo) (fun P a hp => hp) (fun P a v B hp hq => ?_)
  obtain ⟨L, ⟨q1, q2, q3, q4, q5, q6, q7, ⟨kb, v1, v2⟩, q9⟩, hl, hc, hs⟩ := hq
  exact ⟨L, ⟨q1, fun y hy => by rw [q2 y hy]; exact hx0, q3, q5, q7, h.size, kb, hh0, Nat.le_refl _, Nat.ne_of_gt E.lt, q6, by rw [List.map_map]; exact v2⟩, hl, hc, hs⟩
end StrChars.Road
namespace StrChars
open Jvm Sem ClassFile Op Lib Jvm.Stand Jvm.Free.XT Jvm.Free.ALB Jvm.Free.JM Jvm.Free
open Jvm.Lib.Cold (StaticIs)
def hi8 (x : Int32) : Int32 := lo8 (x >>> ((8 : Int32) &&& 31))
/-- what StringUTF16.getChar makes of two bytes -/
def pairCh (u v : Int32) : Int32 := (((u &&& 255) <<< ((0 : Int32) &&& 31)) ||| ((v &&& 255) <<< ((8 : Int32) &&& 31))).toUInt32.toUInt16.toUInt32.toInt32
theorem lo8_and (x : Int32) : (lo8 x &&& 255).toBitVec.toNat = x.toBitVec.toNat % 256 := by
  have h : (lo8 x).toBitVec = (x.toBitVec.signExtend 8).signExtend 32 := by rw [lo8, Int8.toBitVec_toInt32, Int32.toBitVec_toInt8]
  rw [Int32.toBitVec_and, BitVec.toNat_and, h]
  have e : ((x.toBitVec.signExtend 8).signExtend 32).toNat % 256 = x.toBitVec.toNat % 256 := by
    rw [BitVec.toNat_signExtend]
    have hlt := x.toBitVec.isLt
    simp only [BitVec.toNat_setWidth, BitVec.toNat_signExtend]
    split <;> split <;> omega
  rw [← e]
  exact Nat.and_two_pow_sub_one_eq_mod _ 8
theorem pair_says {c : Int32} (h0 : ¬ c < 0) (h1 : ¬ 65535 < c) : pairCh (lo8 c) (hi8 c) = c := by
  rw [Int32.lt_iff_toInt_lt] at h0 h1
  have e0 : (0 : Int32).toInt = 0 := rfl
  have e1 : (65535 : Int32).toInt = 65535 := rfl
  have hc : c.toInt = c.toBitVec.toNat := by
    have := c.toBitVec.isLt
    have e : c.toInt = c.toBitVec.toInt := rfl
    rw [e] at h0 h1
    rw [e]
    rw [BitVec.toInt_eq_toNat_cond] at h0 h1 ⊢
    split at h0 <;> split <;> omega
  have hn : c.toBitVec.toNat < 65536 := by omega
  have a1 := lo8_and c
  have a2 : (hi8 c &&& 255).toBitVec.toNat = c.toBitVec.toNat / 256 := by
    rw [hi8, lo8_and]
    have e : ((8 : Int32) &&& 31) = 8 := by decide
    rw [e, Int32.toBitVec_shiftRight]
    have e2 : ((8 : Int32).toBitVec.smod 32) = 8#32 := by decide
    rw [e2, BitVec.sshiftRight_eq', BitVec.toNat_sshiftRight_of_msb_false (by rw [BitVec.msb_eq_false_iff_two_mul_lt]; omega)]
    show c.toBitVec.toNat >>> 8 % 256 = _
    rw [Nat.shiftRight_eq_div_pow]
    omega
  unfold pairCh
  apply Int32.toBitVec_inj.mp
  apply BitVec.eq_of_toNat_eq
  have f0 : ((0 : Int32) &&& 31) = 0 := by decide
  have f8 : ((8 : Int32) &&& 31) = 8 := by decide
  rw [f0, f8]
  have g : (((lo8 c &&& 255) <<< (0 : Int32)) ||| ((hi8 c &&& 255) <<< (8 : Int32))).toBitVec.toNat = c.toBitVec.toNat := by
    rw [Int32.toBitVec_or, Int32.toBitVec_shiftLeft, Int32.toBitVec_shiftLeft]
    have s0 : ((0 : Int32).toBitVec.smod 32) = 0#32 := by decide
    have s8 : ((8 : Int32).toBitVec.smod 32) = 8#32 := by decide
    rw [s0, s8, BitVec.toNat_or]
    simp only [BitVec.shiftLeft_eq', BitVec.toNat_shiftLeft, a1, a2]
    show (c.toBitVec.toNat % 256) <<< 0 % 2 ^ 32 ||| (c.toBitVec.toNat / 256) <<< 8 % 2 ^ 32 = _
    rw [Nat.shiftLeft_zero, Nat.mod_eq_of_lt (show c.toBitVec.toNat % 256 < 2 ^ 32 by omega), Nat.mod_eq_of_lt (show (c.toBitVec.toNat / 256) <<< 8 < 2 ^ 32 by rw [Nat.shiftLeft_eq]; omega), Nat.or_comm, ← Nat.shiftLeft_add_eq_or_of_lt (by omega), Nat.shiftLeft_eq]
    omega
  show BitVec.toNat (((((lo8 c &&& 255) <<< (0 : Int32)) ||| ((hi8 c &&& 255) <<< (8 : Int32))).toBitVec.setWidth 16).setWidth 32) = _
  rw [BitVec.toNat_setWidth, BitVec.toNat_setWidth, g]
  omega
end StrChars
namespace StrChars
open Jvm Sem ClassFile Op Lib Jvm.Stand Jvm.Free.XT Jvm.Free.ALB Jvm.Free.JM Jvm.Free
open Jvm.Lib.Cold (StaticIs)
/-- the array's cell V codes the n chars f 0 .. f (n - 1) by the coder cd, as the JDK does: coder 1 just where some char is above 255 -/
def Cod (cd : Int32) (n : Nat) (f : Nat → Int32) (V : Cell) : Prop := (cd = 0 ∧ V.slots.size = n ∧ ∀ j, j < n → V.slots[j]? = some (.int (lo8 (f j))) ∧ ¬ 255 < f j) ∨ (cd = 1 ∧ V.slots.size = 2 * n ∧ (∀ j, j < n → V.slots[2 * j]? = some (.int (lo8 (f j))) ∧ V.slots[2 * j + 1]? = some (.int (hi8 (f j)))) ∧ ∃ j, j < n ∧ 255 < f j)
/-- **x is a String of the n chars f 0 .. f (n - 1)**, Latin-1 or UTF-16; its array at t has the cell V -/
def Txt (x t : Addr) (V : Cell) (cd : Int32) (n : Nat) (f : Nat → Int32) (U : State) : Prop := Exact "java/lang/String" x U ∧ Has x "java/lang/String" "value" "[B" (.ref t) U ∧ Has x "java/lang/String" "coder" "B" (.int cd) U ∧ XT.Arr .byte t V U ∧ Cod cd n f V ∧ ∀ j, j < n → ¬ f j < 0 ∧ ¬ 65535 < f j
theorem Txt.mv {x t : Addr} {V : Cell} {cd : Int32} {n : Nat} {f : Nat → Int32} {U U' : State} (h : Txt x t V cd n f U) (hal : U.vm.Alike U'.vm) (hh : U'.heap = U.heap) : Txt x t V cd n f U' := ⟨h.1.mv hal hh, h.2.1.mv hal hh, h.2.2.1.mv hal hh, h.2.2.2.1.mv hal hh, h.2.2.2.2⟩
end StrChars
namespace StrChars.Road
open Jvm Sem ClassFile Op Lib Jvm.Stand Jvm.Free Jvm.Free.XT
open Jvm.Lib.Cold (StaticIs)
theorem consq {a : Array Value} {s : State} {c : Jvm.Cond} {L : List Jvm.Cond} (h0 : c.before a s = true) (h : ∀ w ∈ L, w.before a s = true) : ∀ w ∈ c :: L, w.before a s = true := fun w hw => (List.mem_cons.mp hw).elim (fun e => e ▸ h0) (h w)
/-- the bytes of the chars cs, low before high -/
def wideBytes : List Int32 → List Value
  | [] => []
  | c :: cs => .int (lo8 c) :: .int (hi8 c) :: wideBytes cs
theorem wide_lo (d : Value) : ∀ (cs : List Int32) (j : Nat), j < cs.length → (wideBytes cs).getD (2 * j) d = .int (lo8 (cs.getD j 0))
  | [], j, h => absurd h (Nat.not_lt_zero j)
  | c :: cs, 0, _ => rfl
  | c :: cs, j + 1, h => by
    have q := wide_lo d cs j (by simpa using h)
    rw [show 2 * (j + 1) = 2 * j + 1 + 1 from by omega]
    simpa [wideBytes] using q
theorem wide_hi (d : Value) : ∀ (cs : List Int32) (j : Nat), j < cs.length → (wideBytes cs).getD (2 * j + 1) d = .int (hi8 (cs.getD j 0))
  | [], j, h => absurd h (Nat.not_lt_zero j)
  | c :: cs, 0, _ => rfl
  | c :: cs, j + 1, h => by
    have q := wide_hi d cs j (by simpa using h)
    rw [show 2 * (j + 1) + 1 = 2 * j + 1 + 1 + 1 from by omega]
    simpa [wideBytes] using q
theorem low_at (d : Value) (cs : List Int32) (j : Nat) (h : j < cs.length) : (cs.map fun c => Value.int (lo8 c)).getD j d = .int (lo8 (cs.getD j 0)) := by
  simp [List.getD_eq_getElem?_getD, h]
/-- an array of N2 bytes vs codes the chars cs by the coder cd -/
def CodA (cs : List Int32) (cd N2 : Int32) (vs : List Value) : Prop := (cd = 0 ∧ N2 = Int32.ofNat cs.length ∧ vs = (cs.map fun c => Value.int (lo8 c)) ∧ ∀ c ∈ cs, ¬ 255 < c) ∨ (cd = 1 ∧ N2 = Int32.ofNat (2 * cs.length) ∧ vs = wideBytes cs ∧ ∃ c ∈ cs, 255 < c)
theorem CodA.cod {cs : List Int32} {cd N2 : Int32} {vs : List Value} {V : Cell} (h : CodA cs cd N2 vs) (hn : 2 * cs.length < 2 ^ 31) (hs : V.slots.size = N2.toNatClampNeg) (hv : RoadKit.Has V vs (.int 0)) : Cod cd cs.length (fun j => cs.getD j 0) V := by
  rcases h with ⟨rfl, rfl, rfl, h⟩ | ⟨rfl, rfl, rfl, c, hc, hw⟩
  · rw [n32 (by omega)] at hs
    exact Or.inl ⟨rfl, hs, fun j hj => ⟨by rw [hv j (by omega), low_at _ _ _ hj], by
      have e : cs.getD j 0 = cs[j] := by simp [List.getD_eq_getElem?_getD, hj]
      show ¬ 255 < cs.getD j 0
      rw [e]; exact h _ (List.getElem_mem _)⟩⟩
  · rw [n32 (by omega)] at hs
    obtain ⟨j, hj, rfl⟩ := List.getElem_of_mem hc
    exact Or.inr ⟨rfl, hs, fun j hj => ⟨by rw [hv _ (by omega), wide_lo _ _ _ hj], by rw [hv _ (by omega), wide_hi _ _ _ hj]⟩, j, hj, by
      have e : cs.getD j 0 = cs[j] := by simp [List.getD_eq_getElem?_getD, hj]
      show 255 < cs.getD j 0
      rw [e]; exact hw⟩
/-- an object of exactly java/lang/String, its two fields found: as the laws ask it -/
theorem strObj {Z U : State} {a0 : Array Value} {kI : Nat} (wi : (Jvm.Cond.instantiable ST kI).before a0 Z = true) (al : Z.vm.Alike U.vm) {x : Addr} {v0 c0 : Value} (E : RoadKit.Exa Z U.heap x ST) (V : RoadKit.Fld Z U.heap x ST "value" "[B" v0) (C : RoadKit.Fld Z U.heap x ST "coder" "B" c0) :
    ∃ (D : Cell) (fV fC : Field), Blank ST x D U ∧ Found ST "value" "[B" fV U ∧ Found ST "coder" "B" fC U ∧ D.slots[fV.slot]? = some v0 ∧ D.slots[fC.slot]? = some c0 ∧ RoadKit.slotOf Z ST "value" "[B" = fV.slot ∧ RoadKit.slotOf Z ST "coder" "B" = fC.slot := by
  obtain ⟨D, cfV, kV, iV, fV, hD, gV, stV, knV, obV, asV, slV⟩ := V
  obtain ⟨D', cfC, kC, iC, fC, hD', gC, stC, -, -, asC, slC⟩ := C
  cases hD.symm.trans hD'
  obtain ⟨D2, kD, e1, e2, e3, e4, e5⟩ := E
  cases hD.symm.trans e1
  obtain ⟨c2, k2, i1, i2, i3, -⟩ := Cond.instantiable_spec wi
  cases e2.symm.trans i1
  cases e3.symm.trans i2
  obtain ⟨kU, u1, u2⟩ := al.2.2 _ _ e3
  exact ⟨D, fV, fC, ⟨hD, ⟨knV, fun q hq => by rw [hq] at obV; cases obV⟩, by rw [al.findClass]; exact e2, kU, u1, by rw [u2]; exact i3, by rw [u2]; exact e5 i3⟩, ⟨SBG.found_only al ⟨cfV, kV, iV, gV⟩, stV⟩, ⟨SBG.found_only al ⟨cfC, kC, iC, gC⟩, stC⟩, slV, slC, by simp [RoadKit.slotOf, gV], by simp [RoadKit.slotOf, gC]⟩
theorem sta_is {Z U : State} (al : Z.vm.Alike U.vm) {C n d : String} {v : Value} (S : RoadKit.Sta Z U.heap C n d v) : StaticIs U C n d v := by
  obtain ⟨cfS, iS, kS, fS, st, cS, t1, t2, t3, t4, t5, t6, t7⟩ := S
  exact StaticIs.there (s := { Z with heap := U.heap }) ⟨cfS, iS, kS, fS, st, cS, t1, t2, t3, t4, t5, (fun q => by rw [q] at t6; cases t6), t7⟩ al rfl
end StrChars.Road
namespace StrChars
open Jvm Sem ClassFile Op Lib Jvm.Stand Jvm.Free.XT Jvm.Free.ALB Jvm.Free.JM Jvm.Free
open Jvm.Lib.Cold (StaticIs)
/-- what place i of a byte[]'s cell holds -/
def yv (A : Cell) (i : Nat) : Int32 := match A.slots[i]? with | some (.int x) => x | _ => 0
theorem yv_get {a : Addr} {A : Cell} {U : State} (h : XT.Arr .byte a A U) (ht : Typed .byte A) {i : Nat} (hi : i < A.slots.size) : A.slots[i]? = some (.int (yv A i)) := by
  have e := Array.getElem?_eq_getElem hi
  have f := ht i _ e
  unfold yv; rw [e]
  generalize A.slots[i] = v at f
  cases v <;> simp [fits] at f ⊢
/-- the two arrays are equal, place for place -/
def EqC (A B : Cell) : Prop := A.slots.size = B.slots.size ∧ ∀ i, i < A.slots.size → yv A i = yv B i
/-- a boolean that says whether p -/
def Says01 (q : Prop) (r : Option Value) (s u : State) : Prop := ∃ v : Int32, r = some (.int v) ∧ u.heap = s.heap ∧ ((v = 1 ∧ q) ∨ (v = 0 ∧ ¬ q))
theorem Says01.mv {q : Prop} : ∀ r (U U' V V' : State), U'.heap = U.heap → V.vm.Alike V'.vm → V'.heap = V.heap → Says01 q r U V → Says01 q r U' V' :=
  fun r U U' V V' h1 _ h2 ⟨v, a, b, c⟩ => ⟨v, a, by rw [h1, h2]; exact b, c⟩
namespace LEq
def yN : MethodName := ⟨"java/lang/StringLatin1", "equals", "([B[B)Z"⟩
abbrev yB : ByteArray := jdk_43_method_13_code
theorem d0 : decode yB 0 = .ok (.aload_n 0, 1) := by decide +kernel
theorem d1 : decode yB 1 = .ok (.arraylength, 1) := by decide +kernel
theorem d2 : decode yB 2 = .ok (.aload_n 1, 1) := by decide +kernel
theorem d3 : decode yB 3 = .ok (.arraylength, 1) := by decide +kernel
theorem d4 : decode yB 4 = .ok (.if_icmp (.ne) 30, 3) := by decide +kernel
theorem d7 : decode yB 7 = .ok (.iconst 0, 1) := by decide +kernel
theorem d8 : decode yB 8 = .ok (.istore_n 2, 1) := by decide +kernel
theorem d9 : decode yB 9 = .ok (.iload_n 2, 1) := by decide +kernel
theorem d10 : decode yB 10 = .ok (.aload_n 0, 1) := by decide +kernel
theorem d11 : decode yB 11 = .ok (.arraylength, 1) := by decide +kernel
theorem d12 : decode yB 12 = .ok (.if_icmp (.ge) 20, 3) := by decide +kernel
theorem d15 : decode yB 15 = .ok (.aload_n 0, 1) := by decide +kernel
theorem d16 : decode yB 16 = .ok (.iload_n 2, 1) := by decide +kernel
theorem d17 : decode yB 17 = .ok (.baload, 1) := by decide +kernel
theorem d18 : decode yB 18 = .ok (.aload_n 1, 1) := by decide +kernel
theorem d19 : decode yB 19 = .ok (.iload_n 2, 1) := by decide +kernel
theorem d20 : decode yB 20 = .ok (.baload, 1) := by decide +kernel
theorem d21 : decode yB 21 = .ok (.if_icmp (.eq) 5, 3) := by decide +kernel
theorem d24 : decode yB 24 = .ok (.iconst 0, 1) := by decide +kernel
theorem d25 : decode yB 25 = .ok (.ireturn, 1) := by decide +kernel
theorem d26 : decode yB 26 = .ok (.iinc 2 1, 3) := by decide +kernel
theorem d29 : decode yB 29 = .ok (.goto (-20), 3) := by decide +kernel
theorem d32 : decode yB 32 = .ok (.iconst 1, 1) := by decide +kernel
theorem d33 : decode yB 33 = .ok (.ireturn, 1) := by decide +kernel
theorem d34 : decode yB 34 = .ok (.iconst 0, 1) := by decide +kernel
theorem d35 : decode yB 35 = .ok (.ireturn, 1) := by decide +kernel
def site : List Cond := []
def tab : Cond := tabOf yN yB 3 (some .boolean) site
def P (a : Addr) (A : Cell) (b : Addr) (B : Cell) (args : Array Value) (s : State) : Prop := args = #[.ref a, .ref b] ∧ XT.Arr .byte a A s ∧ Typed .byte A ∧ XT.Arr .byte b B s ∧ Typed .byte B
/-- whether two byte[] are equal, place for place -/
theorem law (l : Launch) (a : Addr) (A : Cell) (b : Addr) (B : Cell) : Law l yN 2 2 0 0 yB 3 (some .boolean) site (P a A b B) (Says01 (EqC A B)) [] 0 0 := by
  refine Law.of_walk (plainFor_of_name (by decide +kernel)) (by decide +kernel) (by decide +kernel) (by decide) (fun _ _ h => by rw [h.1]; rfl) (fun _ U U' hal hh h => ⟨h.1, h.2.1.mv hal hh, h.2.2.1, h.2.2.2.1.mv hal hh, h.2.2.2.2⟩) (fun r U U' V V' h1 hal h2 h => Says01.mv r U U' V V' h1 hal h2 h) ?_
  intro p e s m args below meth c s₁ X0 hexec hbytes hml hret hlk hnm hown hh0 W hP
  obtain ⟨rfl, hA, tA, hB, tB⟩ := hP
  have a31 := hA.2.2.2
  have b31 := hB.2.2.2
  have hA0 := hA.mv X0.warmed.alike hh0
  have hB0 := hB.mv X0.warmed.alike hh0
  have c1 : Steps p.tables e below (s₁.setTop (entryFrame m #[.ref a, .ref b] 3)) (s₁.setTop (mkF m 0 #[.val (.ref a), .val (.ref b), .unset] [])) := entry rfl
  have c2 : Steps p.tables e below (s₁.setTop (entryFrame m #[.ref a, .ref b] 3)) (s₁.setTop (mkF m 4 #[.val (.ref a), .val (.ref b), .unset] [.int (Int32.ofNat B.slots.size), .int (Int32.ofNat A.slots.size)])) := c1.trans (by
    refine XS.aloadN X0.here hexec rfl (hb hbytes d0) rfl rfl ?_
    refine X0.alen hexec hA0 rfl rfl (hb hbytes d1) ?_
    refine XS.aloadN X0.here hexec rfl (hb hbytes d2) rfl rfl ?_
    refine X0.alen hexec hB0 rfl rfl (hb hbytes d3) ?_
    exact Steps.refl _)
  by_cases hs : A.slots.size = B.slots.size
  · have c3 : Steps p.tables e below (s₁.setTop (entryFrame m #[.ref a, .ref b] 3)) (s₁.setTop (mkF m 9 #[.val (.ref a), .val (.ref b), .val (.int 0)] [])) := c2.trans (by
      refine XS.icmpNo X0.here hexec rfl (hb hbytes d4) rfl (ii_ne_f (by rw [hs])) ?_
      refine iconstV X0.here hexec rfl 0 (hb hbytes d7) (by decide) ?_
      refine XS.istoreN X0.here hexec rfl (hb hbytes d8) rfl rfl ?_
      exact Steps.refl _)
    have loop : ∀ (r i : Nat), i + r = A.slots.size → (∀ j, j < i → yv A j = yv B j) → Steps p.tables e below (s₁.setTop (entryFrame m #[.ref a, .ref b] 3)) (s₁.setTop (mkF m 9 #[.val (.ref a), .val (.ref b), .val (.int (Int32.ofNat i))] [])) → ∃ (pc : Nat) (Ls : Array Slot) (v : Int32), (pc = 25 ∨ pc = 33) ∧ ((v = 1 ∧ EqC A B) ∨ (v = 0 ∧ ¬ EqC A B)) ∧ Steps p.tables e below (s₁.setTop (entryFrame m #[.ref a, .ref b] 3)) (s₁.setTop (mkF m pc Ls [.int v])) := by
      intro r
      induction r with
      | zero =>
        intro i hi he cl
        exact ⟨33, _, 1, Or.inr rfl, Or.inl ⟨rfl, hs, fun j hj => he j (by omega)⟩, cl.trans (by
          refine XS.iloadN X0.here hexec rfl (hb hbytes d9) rfl ?_
          refine XS.aloadN X0.here hexec rfl (hb hbytes d10) rfl rfl ?_
          refine X0.alen hexec hA0 rfl rfl (hb hbytes d11) ?_
          refine XS.icmpYes X0.here hexec rfl (pc0 := 12) rfl (hb hbytes d12) rfl (ii_ge_t (nlt32 (by omega) (by omega))) (by decide) rfl ?_
          refine iconstV X0.here hexec rfl 1 (hb hbytes d32) (by decide) ?_
          exact Steps.refl _)⟩
      | succ r ih =>
        intro i hi he cl
        have c4 : Steps p.tables e below (s₁.setTop (entryFrame m #[.ref a, .ref b] 3)) (s₁.setTop (mkF m 21 #[.val (.ref a), .val (.ref b), .val (.int (Int32.ofNat i))] [.int (yv B i), .int (yv A i)])) := cl.trans (by
          refine XS.iloadN X0.here hexec rfl (hb hbytes d9) rfl ?_
          refine XS.aloadN X0.here hexec rfl (hb hbytes d10) rfl rfl ?_
          refine X0.alen hexec hA0 rfl rfl (hb hbytes d11) ?_
          refine XS.icmpNo X0.here hexec rfl (hb hbytes d12) rfl (ii_ge_f (lt32 (by omega) (by omega))) ?_
          refine XS.aloadN X0.here hexec rfl (hb hbytes d15) rfl rfl ?_
          refine XS.iloadN X0.here hexec rfl (hb hbytes d16) rfl ?_
          refine X0.aget hexec hA0 rfl (yv_get hA tA (i := i) (by omega)) rfl rfl (hb hbytes d17) ?_
          refine XS.aloadN X0.here hexec rfl (hb hbytes d18) rfl rfl ?_
          refine XS.iloadN X0.here hexec rfl (hb hbytes d19) rfl ?_
          refine X0.aget hexec hB0 rfl (yv_get hB tB (i := i) (by omega)) rfl rfl (hb hbytes d20) ?_
          exact Steps.refl _)
        by_cases hv : yv A i = yv B i
        · have c5 : Steps p.tables e below (s₁.setTop (entryFrame m #[.ref a, .ref b] 3)) (s₁.setTop (mkF m 9 #[.val (.ref a), .val (.ref b), .val (.int (Int32.ofNat i + 1))] [])) := c4.trans (by
            refine XS.icmpYes X0.here hexec rfl (pc0 := 21) rfl (hb hbytes d21) rfl (ii_eq_t hv) (by decide) rfl ?_
            refine iincV X0.here hexec rfl 1 (hb hbytes d26) (by decide) rfl rfl ?_
            refine XS.goto X0.here hexec rfl (pc0 := 29) rfl (hb hbytes d29) (by decide) rfl ?_
            exact Steps.refl _)
          rw [succ32] at c5
          exact ih (i + 1) (by omega) (fun j hj => by
            by_cases e : j = i
            · rw [e]; exact hv
            · exact he j (by omega)) c5
        · exact ⟨25, _, 0, Or.inl rfl, Or.inr ⟨rfl, fun q => hv (q.2 i (by omega))⟩, c4.trans (by
            refine XS.icmpNo X0.here hexec rfl (hb hbytes d21) rfl (ii_eq_f hv) ?_
            refine iconstV X0.here hexec rfl 0 (hb hbytes d24) (by decide) ?_
            exact Steps.refl _)⟩
    obtain ⟨pc, Ls, v, hpc, hv, cz⟩ := loop A.slots.size 0 (by omega) (fun j hj => absurd hj (Nat.not_lt_zero j)) c3
    have nv : narrow .boolean (.int v) = .int v := by rcases hv with ⟨rfl, -⟩ | ⟨rfl, -⟩ <;> rfl
    rcases hpc with rfl | rfl
    · exact ⟨s₁, some (.int v), _, _, _, X0, rfl, rfl, rfl, (fun h => by cases h), ⟨v, rfl, hh0, hv⟩, fun fs hl => cz.trans (X0.ireturnOut hexec hret nv (Or.inr (Or.inl rfl)) (hb hbytes d25) hl)⟩
    · exact ⟨s₁, some (.int v), _, _, _, X0, rfl, rfl, rfl, (fun h => by cases h), ⟨v, rfl, hh0, hv⟩, fun fs hl => cz.trans (X0.ireturnOut hexec hret nv (Or.inr (Or.inl rfl)) (hb hbytes d33) hl)⟩
  · have c3 : Steps p.tables e below (s₁.setTop (entryFrame m #[.ref a, .ref b] 3)) (s₁.setTop (mkF m 35 #[.val (.ref a), .val (.ref b), .unset] [.int 0])) := c2.trans (by
      refine XS.icmpYes X0.here hexec rfl (pc0 := 4) rfl (hb hbytes d4) rfl (ii_ne_t (ne32 a31 b31 hs)) (by decide) rfl ?_
      refine iconstV X0.here hexec rfl 0 (hb hbytes d34) (by decide) ?_
      exact Steps.refl _)
    exact ⟨s₁, some (.int 0), _, _, _, X0, rfl, rfl, rfl, (fun h => by cases h), ⟨0, rfl, hh0, Or.inr ⟨rfl, fun q => hs q.1⟩⟩, fun fs hl => c3.trans (X0.ireturnOut hexec hret rfl (Or.inr (Or.inl rfl)) (hb hbytes d35) hl)⟩
end LEq
theorem Cod.ty {cd : Int32} {n : Nat} {f : Nat → Int32} {V : Cell} (h : Cod cd n f V) : Typed .byte V := fun i v hv => by
  have hi : i < V.slots.size := (Array.getElem?_eq_some_iff.mp hv).1
  rcases h with ⟨-, k1, k2⟩ | ⟨-, k1, k2, -⟩
  · rw [(k2 i (by omega)).1] at hv; cases hv; exact fits_lo8 _
  · rcases Nat.mod_two_eq_zero_or_one i with e | e
    · obtain ⟨j, rfl⟩ : ∃ j, i = 2 * j := ⟨i / 2, by omega⟩
      rw [(k2 j (by omega)).1] at hv; cases hv; exact fits_lo8 _
    · obtain ⟨j, rfl⟩ : ∃ j, i = 2 * j + 1 := ⟨i / 2, by omega⟩
      rw [(k2 j (by omega)).2] at hv; cases hv; exact fits_lo8 _
/-- the same text -/
def SameT (n : Nat) (f : Nat → Int32) (k : Nat) (g : Nat → Int32) : Prop := n = k ∧ ∀ j, j < n → f j = g j
theorem lo8_inj {x y : Int32} (h0 : ¬ x < 0) (h1 : ¬ 255 < x) (k0 : ¬ y < 0) (k1 : ¬ 255 < y) (h : lo8 x = lo8 y) : x = y := by
  rw [← lo8_mask h0 h1, ← lo8_mask k0 k1, h]
/-- arrays coded by one coder are equal just where the texts are -/
theorem Cod.eqv {cd : Int32} {n k : Nat} {f g : Nat → Int32} {V V' : Cell} (h : Cod cd n f V) (h' : Cod cd k g V') (hf : ∀ j, j < n → ¬ f j < 0 ∧ ¬ 65535 < f j) (hg : ∀ j, j < k → ¬ g j < 0 ∧ ¬ 65535 < g j) : EqC V V' ↔ SameT n f k g := by
  have yvv : ∀ {W : Cell} {i : Nat} {x : Int32}, W.slots[i]? = some (.int x) → yv W i = x := fun q => by unfold yv; rw [q]
  rcases h with ⟨rfl, k1, k2⟩ | ⟨rfl, k1, k2, -⟩
  · rcases h' with ⟨-, m1, m2⟩ | ⟨e, -⟩
    · constructor
      · rintro ⟨e1, e2⟩
        refine ⟨by omega, fun j hj => ?_⟩
        have q := e2 j (by omega)
        rw [yvv (k2 j hj).1, yvv (m2 j (by omega)).1] at q
        exact lo8_inj (hf j hj).1 (k2 j hj).2 (hg j (by omega)).1 (m2 j (by omega)).2 q
      · rintro ⟨rfl, e2⟩
        refine ⟨by omega, fun j hj => ?_⟩
        rw [yvv (k2 j (by omega)).1, yvv (m2 j (by omega)).1, e2 j (by omega)]
    · exact absurd e (by decide)
  · rcases h' with ⟨e, -⟩ | ⟨-, m1, m2, -⟩
    · exact absurd e (by decide)
    · constructor
      · rintro ⟨e1, e2⟩
        refine ⟨by omega, fun j hj => ?_⟩
        have q1 := e2 (2 * j) (by omega)
        have q2 := e2 (2 * j + 1) (by omega)
        rw [yvv (k2 j hj).1, yvv (m2 j (by omega)).1] at q1
        rw [yvv (k2 j hj).2, yvv (m2 j (by omega)).2] at q2
        rw [← pair_says (hf j hj).1 (hf j hj).2, ← pair_says (hg j (by omega)).1 (hg j (by omega)).2, q1, q2]
      · rintro ⟨rfl, e2⟩
        refine ⟨by omega, fun i hi => ?_⟩
        rcases Nat.mod_two_eq_zero_or_one i with e | e
        · obtain ⟨j, rfl⟩ : ∃ j, i = 2 * j := ⟨i / 2, by omega⟩
          rw [yvv (k2 j (by omega)).1, yvv (m2 j (by omega)).1, e2 j (by omega)]
        · obtain ⟨j, rfl⟩ : ∃ j, i = 2 * j + 1 := ⟨i / 2, by omega⟩
          rw [yvv (k2 j (by omega)).2, yvv (m2 j (by omega)).2, e2 j (by omega)]
/-- two codings differ: so do the texts -/
theorem Cod.dif {cd cd' : Int32} {n k : Nat} {f g : Nat → Int32} {V V' : Cell} (h : Cod cd n f V) (h' : Cod cd' k g V') (hne : ¬ cd = cd') : ¬ SameT n f k g := by
  rintro ⟨rfl, e⟩
  rcases h with ⟨rfl, -, k2⟩ | ⟨rfl, -, -, j, hj, hw⟩
  · rcases h' with ⟨rfl, -⟩ | ⟨-, -, -, j, hj, hw⟩
    · exact hne rfl
    · exact (k2 j hj).2 (by rw [e j hj]; exact hw)
  · rcases h' with ⟨-, -, m2⟩ | ⟨rfl, -⟩
    · exact (m2 j hj).2 (by rw [← e j hj]; exact hw)
    · exact hne rfl
/-- an object of exactly C is an instance of C -/
theorem cinst {p : Program} {l : Launch} {e : Env} {R : Room} {s : State} {m : MethodId} {args : Array Value} {below : List Frame} {meth : Method} {c : Code} {T : State} {locs : List Loc} {cells slots : Nat} (X : Stand p l e R s m args below meth c T locs cells slots) (hexec : p.tables.exec = Jvm.exec) {own C : String} {index : Nat} (hown : s.vm.findClass own = some m.cls) (hlink : (Cond.classLink own index C).before args s = true) {a : Addr} (hE : Exact C a T)
    {g : JFrame} (hg : g.method = m) {rest : List Value} (hstack : g.stack = .ref a :: rest) (hdg : decode c.code g.pc = .ok (.instanceof index, 3)) :
    ∃ T', Stand p l e R s m args below meth c T' locs cells slots ∧ T'.heap = T.heap ∧ ∀ target, Steps p.tables e below (T'.setTop { g with pc := g.pc + 3, stack := .int 1 :: rest }) target → Steps p.tables e below (T.setTop g) target := by
  obtain ⟨cB, h1, D, h2, h3, h4⟩ := hE
  have h1' : s.vm.findClass C = some cB := by rw [← X.warmed.alike.findClass]; exact h1
  obtain ⟨vm', X', st⟩ := X.instanceofYes hexec hown hlink h2 h4 h1' (by rw [h3]; exact Jvm.Free.SB.assignable_self _ _) hg hstack hdg
  exact ⟨_, X', rfl, st⟩
theorem cself {p : Program} {l : Launch} {e : Env} {R : Room} {s : State} {m : MethodId} {args : Array Value} {below : List Frame} {meth : Method} {c : Code} {T : State} {locs : List Loc} {cells slots : Nat} (X : Stand p l e R s m args below meth c T locs cells slots) (hexec : p.tables.exec = Jvm.exec) {own C : String} {index : Nat} (hown : s.vm.findClass own = some m.cls) (hlink : (Cond.classLink own index C).before args s = true) {a : Addr} (hE : Exact C a T)
    {g : JFrame} (hg : g.method = m) {rest : List Value} (hstack : g.stack = .ref a :: rest) (hdg : decode c.code g.pc = .ok (.checkcast index, 3)) :
    ∃ T', Stand p l e R s m args below meth c T' locs cells slots ∧ T'.heap = T.heap ∧ ∀ target, Steps p.tables e below (T'.setTop { g with pc := g.pc + 3, stack := .ref a :: rest }) target → Steps p.tables e below (T.setTop g) target := by
  obtain ⟨cB, h1, D, h2, h3, h4⟩ := hE
  have h1' : s.vm.findClass C = some cB := by rw [← X.warmed.alike.findClass]; exact h1
  obtain ⟨vm', X', st⟩ := X.checkcastYes hexec hown hlink h2 h4 h1' (by rw [h3]; exact Jvm.Free.SB.assignable_self _ _) hg hstack hdg
  exact ⟨_, X', rfl, fun t h => st t (by rw [← hstack] at h; exact h)⟩
namespace SEq
def yN : MethodName := ⟨"java/lang/String", "equals", "(Ljava/lang/Object;)Z"⟩
abbrev yB : ByteArray := jdk_42_method_66_code
theorem d0 : decode yB 0 = .ok (.aload_n 0, 1) := by decide +kernel
theorem d1 : decode yB 1 = .ok (.aload_n 1, 1) := by decide +kernel
theorem d2 : decode yB 2 = .ok (.if_acmp (.ne) 5, 3) := by decide +kernel
theorem d5 : decode yB 5 = .ok (.iconst 1, 1) := by decide +kernel
theorem d6 : decode yB 6 = .ok (.ireturn, 1) := by decide +kernel
theorem d7 : decode yB 7 = .ok (.aload_n 1, 1) := by decide +kernel
theorem d8 : decode yB 8 = .ok (.instanceof 10, 3) := by decide +kernel
theorem d11 : decode yB 11 = .ok (.ifCond (.eq) 43, 3) := by decide +kernel
theorem d14 : decode yB 14 = .ok (.aload_n 1, 1) := by decide +kernel
theorem d15 : decode yB 15 = .ok (.checkcast 10, 3) := by decide +kernel
theorem d18 : decode yB 18 = .ok (.astore_n 2, 1) := by decide +kernel
theorem d19 : decode yB 19 = .ok (.getstatic 38, 3) := by decide +kernel
theorem d22 : decode yB 22 = .ok (.ifCond (.eq) 14, 3) := by decide +kernel
theorem d25 : decode yB 25 = .ok (.aload_n 0, 1) := by decide +kernel
theorem d26 : decode yB 26 = .ok (.getfield 15, 3) := by decide +kernel
theorem d29 : decode yB 29 = .ok (.aload_n 2, 1) := by decide +kernel
theorem d30 : decode yB 30 = .ok (.getfield 15, 3) := by decide +kernel
theorem d33 : decode yB 33 = .ok (.if_icmp (.ne) 21, 3) := by decide +kernel
theorem d36 : decode yB 36 = .ok (.aload_n 0, 1) := by decide +kernel
theorem d37 : decode yB 37 = .ok (.getfield 9, 3) := by decide +kernel
theorem d40 : decode yB 40 = .ok (.aload_n 2, 1) := by decide +kernel
theorem d41 : decode yB 41 = .ok (.getfield 9, 3) := by decide +kernel
theorem d44 : decode yB 44 = .ok (.invokestatic 541, 3) := by decide +kernel
theorem d47 : decode yB 47 = .ok (.ifCond (.eq) 7, 3) := by decide +kernel
theorem d50 : decode yB 50 = .ok (.iconst 1, 1) := by decide +kernel
theorem d51 : decode yB 51 = .ok (.goto 4, 3) := by decide +kernel
theorem d54 : decode yB 54 = .ok (.iconst 0, 1) := by decide +kernel
theorem d55 : decode yB 55 = .ok (.ireturn, 1) := by decide +kernel
def site : List Cond := [.classLink "java/lang/String" 10 "java/lang/String", .fieldLink "java/lang/String" 38 "java/lang/String" "COMPACT_STRINGS" "Z", .fieldLink "java/lang/String" 15 "java/lang/String" "coder" "B", .fieldLink "java/lang/String" 9 "java/lang/String" "value" "[B", LEq.tab] ++ staticW "java/lang/String" 541 LEq.yN
def tab : Cond := tabOf yN yB 3 (some .boolean) site
def P (x t : Addr) (V : Cell) (cd : Int32) (n : Nat) (f : Nat → Int32) (y t' : Addr) (V' : Cell) (cd' : Int32) (k : Nat) (g : Nat → Int32) (z : Int32) (args : Array Value) (s : State) : Prop := args = #[.ref x, .ref y] ∧ Txt x t V cd n f s ∧ Txt y t' V' cd' k g s ∧ StaticIs s "java/lang/String" "COMPACT_STRINGS" "Z" (.int z) ∧ ¬ z = 0
/-- equals(Object) of two Strings: whether the texts are the same -/
theorem law (l : Launch) (x t : Addr) (V : Cell) (cd : Int32) (n : Nat) (f : Nat → Int32) (y t' : Addr) (V' : Cell) (cd' : Int32) (k : Nat) (g : Nat → Int32) (z : Int32) : Law l yN 2 1 1 14 yB 3 (some .boolean) site (P x t V cd n f y t' V' cd' k g z) (Says01 (SameT n f k g)) [] 0 0 := by
  refine Law.of_walk (plainFor_of_name (by decide +kernel)) (by decide +kernel) (by decide +kernel) (by decide) (fun _ _ h => by rw [h.1]; rfl) (fun _ U U' hal hh h => ⟨h.1, h.2.1.mv hal hh, h.2.2.1.mv hal hh, h.2.2.2.1.there hal hh, h.2.2.2.2⟩) (fun r U U' V V' h1 hal h2 h => Says01.mv r U U' V V' h1 hal h2 h) ?_
  intro p e s m args below meth c s₁ X0 hexec hbytes hml hret hlk hnm hown hh0 W hP
  obtain ⟨rfl, hx, hy, s1, hz⟩ := hP
  have c1 : Steps p.tables e below (s₁.setTop (entryFrame m #[.ref x, .ref y] 3)) (s₁.setTop (mkF m 2 #[.val (.ref x), .val (.ref y), .unset] [.ref y, .ref x])) := Steps.trans (entry rfl) (by
    show Steps p.tables e below (s₁.setTop (mkF m 0 #[.val (.ref x), .val (.ref y), .unset] [])) _
    refine XS.aloadN X0.here hexec rfl (hb hbytes d0) rfl rfl ?_
    refine XS.aloadN X0.here hexec rfl (hb hbytes d1) rfl rfl ?_
    exact Steps.refl _)
  by_cases hxy : x = y
  · have c2 : Steps p.tables e below (s₁.setTop (entryFrame m #[.ref x, .ref y] 3)) (s₁.setTop (mkF m 6 #[.val (.ref x), .val (.ref y), .unset] [.int 1])) := c1.trans (by
      refine acmpNo X0.here hexec rfl (hb hbytes d2) rfl rfl rfl (by simp [acmp, hxy]) ?_
      refine iconstV X0.here hexec rfl 1 (hb hbytes d5) (by decide) ?_
      exact Steps.refl _)
    subst hxy
    have ec : cd = cd' := by
      obtain ⟨D, fd, a1, a2, a3⟩ := hx.2.2.1
      obtain ⟨D', fd', b1, b2, b3⟩ := hy.2.2.1
      cases a1.symm.trans b1
      obtain ⟨q1, q2, q3, q4⟩ := a2.1
      obtain ⟨r1, r2, r3, r4⟩ := b2.1
      cases q4.symm.trans r4
      cases a3.symm.trans b3; rfl
    have et : t = t' := by
      obtain ⟨D, fd, a1, a2, a3⟩ := hx.2.1
      obtain ⟨D', fd', b1, b2, b3⟩ := hy.2.1
      cases a1.symm.trans b1
      obtain ⟨q1, q2, q3, q4⟩ := a2.1
      obtain ⟨r1, r2, r3, r4⟩ := b2.1
      cases q4.symm.trans r4
      cases a3.symm.trans b3; rfl
    subst ec et
    have ev : V = V' := by cases hx.2.2.2.1.1.symm.trans hy.2.2.2.1.1; rfl
    subst ev
    have hs : SameT n f k g := (Cod.eqv hx.2.2.2.2.1 hy.2.2.2.2.1 hx.2.2.2.2.2 hy.2.2.2.2.2).mp ⟨rfl, fun _ _ => rfl⟩
    exact ⟨s₁, some (.int 1), _, _, _, X0, rfl, rfl, rfl, (fun h => by cases h), ⟨1, rfl, hh0, Or.inl ⟨rfl, hs⟩⟩, fun fs hl => c2.trans (X0.ireturnOut hexec hret rfl (Or.inr (Or.inl rfl)) (hb hbytes d6) hl)⟩
  · have c2 : Steps p.tables e below (s₁.setTop (entryFrame m #[.ref x, .ref y] 3)) (s₁.setTop (mkF m 8 #[.val (.ref x), .val (.ref y), .unset] [.ref y])) := c1.trans (by
      refine acmpYes X0.here hexec rfl (pc0 := 2) rfl (hb hbytes d2) rfl rfl rfl (by simp [acmp, hxy]) (by decide) rfl ?_
      refine XS.aloadN X0.here hexec rfl (hb hbytes d7) rfl rfl ?_
      exact Steps.refl _)
    obtain ⟨T3, X3, q3, st3⟩ := cinst X0 hexec hown (wk W (.classLink "java/lang/String" 10 "java/lang/String")) (hy.mv X0.warmed.alike hh0).1 (g := (mkF m 8 #[.val (.ref x), .val (.ref y), .unset] [.ref y])) rfl (rest := []) rfl (hb hbytes d8)
    have hh3 := q3.trans hh0
    have c4 : Steps p.tables e below (s₁.setTop (entryFrame m #[.ref x, .ref y] 3)) (T3.setTop (mkF m 15 #[.val (.ref x), .val (.ref y), .unset] [.ref y])) := (c2.trans (st3 _ (Steps.refl _))).trans (by
      refine XS.ifNo X3.here hexec rfl (hb hbytes d11) rfl (i0_eq_f (by decide)) ?_
      refine XS.aloadN X3.here hexec rfl (hb hbytes d14) rfl rfl ?_
      exact Steps.refl _)
    obtain ⟨T5, X5, q5, st5⟩ := cself X3 hexec hown (wk W (.classLink "java/lang/String" 10 "java/lang/String")) (hy.mv X3.warmed.alike hh3).1 (g := (mkF m 15 #[.val (.ref x), .val (.ref y), .unset] [.ref y])) rfl (rest := []) rfl (hb hbytes d15)
    have hh5 := q5.trans hh3
    have c6 : Steps p.tables e below (s₁.setTop (entryFrame m #[.ref x, .ref y] 3)) (T5.setTop (mkF m 19 #[.val (.ref x), .val (.ref y), .val (.ref y)] [])) := (c4.trans (st5 _ (Steps.refl _))).trans (by
      refine XS.astoreN X5.here hexec rfl (hb hbytes d18) rfl rfl rfl ?_
      exact Steps.refl _)
    obtain ⟨T7, X7, q7, st7⟩ := X5.sget hexec hown (wk W (.fieldLink "java/lang/String" 38 "java/lang/String" "COMPACT_STRINGS" "Z")) s1 (fun _ _ h => by rw [hh5]; exact h) (g := (mkF m 19 #[.val (.ref x), .val (.ref y), .val (.ref y)] [])) rfl (hb hbytes d19)
    have hh7 := q7.trans hh5
    have c8 : Steps p.tables e below (s₁.setTop (entryFrame m #[.ref x, .ref y] 3)) (T7.setTop (mkF m 26 #[.val (.ref x), .val (.ref y), .val (.ref y)] [.ref x])) := (c6.trans (st7 _ (Steps.refl _))).trans (by
      refine XS.ifNo X7.here hexec rfl (hb hbytes d22) rfl (i0_eq_f hz) ?_
      refine XS.aloadN X7.here hexec rfl (hb hbytes d25) rfl rfl ?_
      exact Steps.refl _)
    obtain ⟨T9, X9, q9, st9⟩ := X7.hget hexec hown (wk W (.fieldLink "java/lang/String" 15 "java/lang/String" "coder" "B")) (hx.mv X7.warmed.alike hh7).2.2.1 (g := (mkF m 26 #[.val (.ref x), .val (.ref y), .val (.ref y)] [.ref x])) rfl (rest := []) rfl (hb hbytes d26)
    have hh9 := q9.trans hh7
    have c10 : Steps p.tables e below (s₁.setTop (entryFrame m #[.ref x, .ref y] 3)) (T9.setTop (mkF m 30 #[.val (.ref x), .val (.ref y), .val (.ref y)] [.ref y, .int cd])) := (c8.trans (st9 _ (Steps.refl _))).trans (by
      refine XS.aloadN X9.here hexec rfl (hb hbytes d29) rfl rfl ?_
      exact Steps.refl _)
    obtain ⟨T11, X11, q11, st11⟩ := X9.hget hexec hown (wk W (.fieldLink "java/lang/String" 15 "java/lang/String" "coder" "B")) (hy.mv X9.warmed.alike hh9).2.2.1 (g := (mkF m 30 #[.val (.ref x), .val (.ref y), .val (.ref y)] [.ref y, .int cd])) rfl (rest := [.int cd]) rfl (hb hbytes d30)
    have hh11 := q11.trans hh9
    have c12 : Steps p.tables e below (s₁.setTop (entryFrame m #[.ref x, .ref y] 3)) (T11.setTop (mkF m 33 #[.val (.ref x), .val (.ref y), .val (.ref y)] [.int cd', .int cd])) := c10.trans (st11 _ (Steps.refl _))
    by_cases hcd : cd = cd'
    · subst hcd
      have c13 : Steps p.tables e below (s₁.setTop (entryFrame m #[.ref x, .ref y] 3)) (T11.setTop (mkF m 37 #[.val (.ref x), .val (.ref y), .val (.ref y)] [.ref x])) := c12.trans (by
        refine XS.icmpNo X11.here hexec rfl (hb hbytes d33) rfl (ii_ne_f rfl) ?_
        refine XS.aloadN X11.here hexec rfl (hb hbytes d36) rfl rfl ?_
        exact Steps.refl _)
      obtain ⟨T14, X14, q14, st14⟩ := X11.hget hexec hown (wk W (.fieldLink "java/lang/String" 9 "java/lang/String" "value" "[B")) (hx.mv X11.warmed.alike hh11).2.1 (g := (mkF m 37 #[.val (.ref x), .val (.ref y), .val (.ref y)] [.ref x])) rfl (rest := []) rfl (hb hbytes d37)
      have hh14 := q14.trans hh11
      have c15 : Steps p.tables e below (s₁.setTop (entryFrame m #[.ref x, .ref y] 3)) (T14.setTop (mkF m 41 #[.val (.ref x), .val (.ref y), .val (.ref y)] [.ref y, .ref t])) := (c13.trans (st14 _ (Steps.refl _))).trans (by
        refine XS.aloadN X14.here hexec rfl (hb hbytes d40) rfl rfl ?_
        exact Steps.refl _)
      obtain ⟨T16, X16, q16, st16⟩ := X14.hget hexec hown (wk W (.fieldLink "java/lang/String" 9 "java/lang/String" "value" "[B")) (hy.mv X14.warmed.alike hh14).2.1 (g := (mkF m 41 #[.val (.ref x), .val (.ref y), .val (.ref y)] [.ref y, .ref t])) rfl (rest := [.ref t]) rfl (hb hbytes d41)
      have hh16 := q16.trans hh14
      have c17 : Steps p.tables e below (s₁.setTop (entryFrame m #[.ref x, .ref y] 3)) (T16.setTop (mkF m 44 #[.val (.ref x), .val (.ref y), .val (.ref y)] [.ref t', .ref t])) := c15.trans (st16 _ (Steps.refl _))
      obtain ⟨v18, T18, X18, E18, g18⟩ := X16.callS hexec (LEq.law l t V t' V') hown (wks W (staticW "java/lang/String" 541 LEq.yN)) (wk W LEq.tab) (W := 0) (Nat.le_of_ble_eq_true rfl) (Nat.le_of_ble_eq_true rfl) (Nat.le_refl _) (Nat.le_refl _) (g := (mkF m 44 #[.val (.ref x), .val (.ref y), .val (.ref y)] [.ref t', .ref t])) rfl (by rw [hml]; rfl) c17 (argsL := [.ref t, .ref t']) (rest := []) rfl rfl (by show 2 * 0 + 0 ≤ _; decide) (hb hbytes d44) (⟨rfl, hx.2.2.2.1.mv X16.warmed.alike hh16, hx.2.2.2.2.1.ty, hy.2.2.2.1.mv X16.warmed.alike hh16, hy.2.2.2.2.1.ty⟩)
      obtain ⟨v, rfl, q18, hv⟩ := E18
      have iff := Cod.eqv hx.2.2.2.2.1 hy.2.2.2.2.1 hx.2.2.2.2.2 hy.2.2.2.2.2
      rcases hv with ⟨rfl, he⟩ | ⟨rfl, he⟩
      · have c19 : Steps p.tables e below (s₁.setTop (entryFrame m #[.ref x, .ref y] 3)) (T18.setTop (mkF m 55 #[.val (.ref x), .val (.ref y), .val (.ref y)] [.int 1])) := Steps.trans g18 (by
          refine XS.ifNo X18.here hexec rfl (hb hbytes d47) rfl (i0_eq_f (by decide)) ?_
          refine iconstV X18.here hexec rfl 1 (hb hbytes d50) (by decide) ?_
          refine XS.goto X18.here hexec rfl (pc0 := 51) rfl (hb hbytes d51) (by decide) rfl ?_
          exact Steps.refl _)
        exact ⟨T18, some (.int 1), _, _, _, X18, rfl, rfl, rfl, (fun h => by cases h), ⟨1, rfl, q18.trans hh16, Or.inl ⟨rfl, iff.mp he⟩⟩, fun fs hl => c19.trans (X18.ireturnOut hexec hret rfl (Or.inr (Or.inl rfl)) (hb hbytes d55) hl)⟩
      · have c19 : Steps p.tables e below (s₁.setTop (entryFrame m #[.ref x, .ref y] 3)) (T18.setTop (mkF m 55 #[.val (.ref x), .val (.ref y), .val (.ref y)] [.int 0])) := Steps.trans g18 (by
          refine XS.ifYes X18.here hexec rfl (pc0 := 47) rfl (hb hbytes d47) rfl (i0_eq_t rfl) (by decide) rfl ?_
          refine iconstV X18.here hexec rfl 0 (hb hbytes d54) (by decide) ?_
          exact Steps.refl _)
        exact ⟨T18, some (.int 0), _, _, _, X18, rfl, rfl, rfl, (fun h => by cases h), ⟨0, rfl, q18.trans hh16, Or.inr ⟨rfl, fun q => he (iff.mpr q)⟩⟩, fun fs hl => c19.trans (X18.ireturnOut hexec hret rfl (Or.inr (Or.inl rfl)) (hb hbytes d55) hl)⟩
    · have c13 : Steps p.tables e below (s₁.setTop (entryFrame m #[.ref x, .ref y] 3)) (T11.setTop (mkF m 55 #[.val (.ref x), .val (.ref y), .val (.ref y)] [.int 0])) := c12.trans (by
        refine XS.icmpYes X11.here hexec rfl (pc0 := 33) rfl (hb hbytes d33) rfl (ii_ne_t hcd) (by decide) rfl ?_
        refine iconstV X11.here hexec rfl 0 (hb hbytes d54) (by decide) ?_
        exact Steps.refl _)
      exact ⟨T11, some (.int 0), _, _, _, X11, rfl, rfl, rfl, (fun h => by cases h), ⟨0, rfl, hh11, Or.inr ⟨rfl, Cod.dif hx.2.2.2.2.1 hy.2.2.2.2.1 hcd⟩⟩, fun fs hl => c13.trans (X11.ireturnOut hexec hret rfl (Or.inr (Or.inl rfl)) (hb hbytes d55) hl)⟩
theorem pays {l : Launch} {R : Room} {p : Program} {e : Env} {below : List Frame} {s : State} {sargs : Array Value} {len W : Nat} (x t : Addr) (V : Cell) (cd : Int32) (n : Nat) (f : Nat → Int32) (y t' : Addr) (V' : Cell) (cd' : Int32) (k : Nat) (g : Nat → Int32) (z : Int32) (htab : tab.before sargs s = true) (hfr : 2 ≤ R.frames) (hlo : W + 28 ≤ R.locals) :
    Back l R p e below s sargs yN len W (fun A₁ a₁ => A₁.cells + 0 ≤ R.cells ∧ A₁.slots + 0 ≤ R.slots ∧ P x t V cd n f y t' V' cd' k g z a₁ A₁.U) (fun A₁ _ v₁ B₁ => Says01 (SameT n f k g) v₁ A₁.U B₁.U ∧ B₁.locs = A₁.locs ++ [] ∧ B₁.cells = A₁.cells + 0 ∧ B₁.slots = A₁.slots + 0) :=
  (law l x t V cd n f y t' V' cd' k g z).pays htab hfr (by omega)
end SEq
end StrChars
namespace StrChars.Road
open Jvm Sem ClassFile Op Lib Jvm.Stand Jvm.Free Jvm.Free.XT
open Jvm.Lib.Cold (StaticIs)
/-- the words of String.equals(Object) -/
abbrev wordsEq : List Jvm.Cond := [.code SEq.yN SEq.yB 3 (some .boolean), .initialized ST, .classLink ST 10 ST, .fieldLink ST 38 ST "COMPACT_STRINGS" "Z", .fieldLink ST 15 ST "coder" "B", .fieldLink ST 9 ST "value" "[B", .methodLink ST 541 LEq.yN, .static LEq.yN, .code LEq.yN LEq.yB 3 (some .boolean), .initialized "java/lang/StringLatin1"]
theorem tabEq_of {a : Array Value} {s : State} (h : ∀ w ∈ wordsEq, w.before a s = true) : SEq.tab.before a s = true := by
  have hl : LEq.tab.before a s = true := unparts (wk h (.code LEq.yN LEq.yB 3 (some .boolean))) (wks h (.initialized LEq.yN.cls :: LEq.site))
  have q := consq hl h
  exact unparts (wk q (.code SEq.yN SEq.yB 3 (some .boolean))) (wks q (.initialized SEq.yN.cls :: SEq.site))
theorem movedEq {Z s : State} {a0 args : Array Value} (hZ : Z.Warmed39 s.vm) (hw : ∀ d ∈ wordsEq, d.before a0 Z = true) : ∀ d ∈ wordsEq, d.before args s = true := fun d hd => by
  have t : ∀ d ∈ wordsEq, (d.onTables && d.keepsFace) = true := by decide +kernel
  exact RoadKit.mv hZ (hw d hd) (t d hd)
/-- the road's facts of a String, as the laws ask it -/
theorem txt_of {Z U : State} {a0 : Array Value} {kI : Nat} (wi : (Jvm.Cond.instantiable ST kI).before a0 Z = true) (al : Z.vm.Alike U.vm) {x t : Addr} {kb : ClassId} {cs : List Int32} {cd N2 : Int32} {vs : List Value} (E : RoadKit.Exa Z U.heap x ST) (V : RoadKit.Fld Z U.heap x ST "value" "[B" (.ref t)) (C : RoadKit.Fld Z U.heap x ST "coder" "B" (.int cd)) (K : RoadKit.Arv Z U.heap t kb .byte N2 vs (.int 0)) (hc : CodA cs cd N2 vs) (hb : ∀ c ∈ cs, ¬ c < 0 ∧ ¬ (65535 : Int32) < c) (l2 : cs.length ≤ 4000) :
    ∃ A, Txt x t A cd cs.length (fun j => cs.getD j 0) U := by
  obtain ⟨A, K1, K2, K3, K4, K5, K6⟩ := K
  have hcod := hc.cod (by omega) K3 K5
  obtain ⟨D, fV, fC, hB, F1, F2, g1, g2, -, -⟩ := strObj wi al E V C
  exact ⟨A, ⟨_, hB.2.2.1, D, hB.1, rfl, by cases q : D.vm <;> first | rfl | exact absurd q (hB.2.1.2 _)⟩, Has.of hB F1 g1, Has.of hB F2 g2, ⟨K1.1, State.isArrayOf_alike al K1.2.1, K1.2.2, by rcases hcod with ⟨-, q, -⟩ | ⟨-, q, -⟩ <;> omega⟩, hcod, fun j hj => by
    have e : cs.getD j 0 = cs[j] := by simp [List.getD_eq_getElem?_getD, hj]
    show ¬ cs.getD j 0 < 0 ∧ ¬ 65535 < cs.getD j 0
    rw [e]; exact hb _ (List.getElem_mem _)⟩
theorem same_list (cs ds : List Int32) : SameT cs.length (fun j => cs.getD j 0) ds.length (fun j => ds.getD j 0) ↔ cs = ds := by
  constructor
  · rintro ⟨e, q⟩
    refine List.ext_getElem e fun j h1 h2 => ?_
    have := q j h1
    simpa [List.getD_eq_getElem?_getD, h1, h2] using this
  · rintro rfl
    exact ⟨rfl, fun _ _ => rfl⟩
/-- **equals(Object) OF TWO SUCH STRINGS**: 1 just where the chars are the same -/
theorem eqW {p : Program} {l : Launch} {e : Env} {R : Room} {s : State} {args : Array Value} {below : List Frame} {len W : Nat} {Z : State} {a0 : Array Value} {h : Heap} (hZ : Z.Warmed39 s.vm) (hw : ∀ d ∈ wordsEq, d.before a0 Z = true) {kI : Nat} (wi : (Jvm.Cond.instantiable ST kI).before a0 Z = true)
    {x t : Addr} {kb : ClassId} {cs : List Int32} {cd N2 : Int32} {vs : List Value} (E : RoadKit.Exa Z h x ST) (V : RoadKit.Fld Z h x ST "value" "[B" (.ref t)) (C : RoadKit.Fld Z h x ST "coder" "B" (.int cd)) (K : RoadKit.Arv Z h t kb .byte N2 vs (.int 0)) (hc : CodA cs cd N2 vs) (hb : ∀ c ∈ cs, ¬ c < 0 ∧ ¬ (65535 : Int32) < c) (l2 : cs.length ≤ 4000)
    {y t' : Addr} {kb' : ClassId} {ds : List Int32} {cd' N2' : Int32} {vs' : List Value} (E' : RoadKit.Exa Z h y ST) (V' : RoadKit.Fld Z h y ST "value" "[B" (.ref t')) (C' : RoadKit.Fld Z h y ST "coder" "B" (.int cd')) (K' : RoadKit.Arv Z h t' kb' .byte N2' vs' (.int 0)) (hc' : CodA ds cd' N2' vs') (hb' : ∀ c ∈ ds, ¬ c < 0 ∧ ¬ (65535 : Int32) < c) (l2' : ds.length ≤ 4000)
    {z : Int32} (S : RoadKit.Sta Z h ST "COMPACT_STRINGS" "Z" (.int z)) (hz : ¬ z = 0) (hfr : 2 ≤ R.frames) (hlo : W + 28 ≤ R.locals) :
    Back l R p e below s args (⟨"java/lang/String", "equals", "(Ljava/lang/Object;)Z"⟩ : MethodName) len W (fun P a => a = #[.ref x, .ref y] ∧ P.U.heap = h ∧ P.cells + 0 ≤ R.cells ∧ P.slots + 0 ≤ R.slots)
      (fun P _ v B => ∃ L, (((v = some (.int 1) ∧ cs = ds) ∨ (v = some (.int 0) ∧ ¬ cs = ds)) ∧ L = [] ∧ B.U.heap = h) ∧ B.locs = P.locs ++ L ∧ B.cells = P.cells + 0 ∧ B.slots = P.slots + 0) := by
  intro m meth c P g ig mk a X hg hsize hdg hW hn hp'
  obtain ⟨rfl, rfl, r1, r2⟩ := hp'
  have al : Z.vm.Alike P.U.vm := hZ.alike.trans X.warmed.alike
  obtain ⟨A, hx⟩ := txt_of wi al E V C K hc hb l2
  obtain ⟨A', hy⟩ := txt_of wi al E' V' C' K' hc' hb' l2'
  obtain ⟨v, B, X', ⟨⟨w, hv, hh, hq⟩, hl, hk, hs⟩, st⟩ := SEq.pays x t A cd cs.length (fun j => cs.getD j 0) y t' A' cd' ds.length (fun j => ds.getD j 0) z (tabEq_of (movedEq hZ hw)) hfr hlo m meth c P g ig mk _ X hg hsize hdg hW hn ⟨r1, r2, rfl, hx, hy, sta_is al S, hz⟩
  refine ⟨v, B, X', ⟨[], ⟨?_, rfl, hh⟩, hl, hk, hs⟩, st⟩
  rcases hq with ⟨rfl, q⟩ | ⟨rfl, q⟩
  · exact Or.inl ⟨hv, (same_list cs ds).mp q⟩
  · exact Or.inr ⟨hv, fun e => q ((same_list cs ds).mpr e)⟩
end StrChars.Road
namespace StrChars.Road
open Jvm Sem ClassFile Op Lib Jvm.Stand Jvm.Free Jvm.Free.XT
open Jvm.Lib.Cold (StaticIs)
/-- what backV says of its String, as the contracts of this text ask it: cs's low bytes, coder 0 -/
theorem codOf {cs : List Int32} {n : Nat} (hn : cs.length = n) (hb : ∀ c ∈ cs, ¬ 255 < c) : CodA cs 0 (Int32.ofNat n) ((cs.map lo8).map Value.int) := Or.inl ⟨rfl, by rw [hn], by simp [List.map_map, Function.comp_def], hb⟩
end StrChars.Road
end Jvm.Pilot.@@N@@

namespace Jvm.Pilot.@@N@@
open Jvm Jvm.ClassFile Sem Op Lib Jvm.Free Jvm.Stand Jvm.LawKit Jvm.RoadKit Bundle Jvm.Pilot.@@N@@.Jvm.D
/-- what is left to show at a state of the walk -/
def own_G (p : Program) (e : Env) (below : List Frame) (Q : Outcome → State → Prop) (S : State) : Prop := ∃ s₂ o, Steps p.tables e below S s₂ ∧ s₂.status = .running ∧ Ended s₂ below o ∧ Q o s₂
theorem own_st {p : Program} {e : Env} {below : List Frame} {Q : Outcome → State → Prop} {S S' : State} (h : ∀ t, Steps p.tables e below S' t → Steps p.tables e below S t) (g : own_G p e below Q S') : own_G p e below Q S := by
  obtain ⟨s₂, o, a, b⟩ := g
  exact ⟨s₂, o, h _ a, b⟩
theorem own_lt {a b : Nat} (h : a < b) : a < b := h
theorem own_le {a b : Nat} (h : a ≤ b) : a ≤ b := h
theorem own_ne {a b : Nat} (h : a ≠ b) : a ≠ b := h
theorem own_since (s : State) : s.Since s.vm 0 := (State.WarmedH.refl s).since 0
/-- a contract's start: the arguments, the tables, the heap, the constants held, what may be written is no constant's -/
def own_P (Z : State) (EL : List (String × Nat)) (as : Array Value) (h : Heap) (ws : List Addr) : Array Value → State → Prop := fun a U => a = as ∧ Z.Warmed39 U.vm ∧ U.heap = h ∧ CHv Z EL U.vm h ∧ ∀ x ∈ ws, Safe Z EL U.vm h x
/-- a contract's end -/
def own_E (Z : State) (EL : List (String × Nat)) (Q : Option Value → Vm → Heap → List Loc → Prop) (rm : Room) : Array Value → State → Outcome → State → Prop := fun _ U o U' => ∃ v L, o = .returned v ∧ Q v U'.vm U'.heap L ∧ CHr Z EL U.vm U.heap U'.vm U'.heap ∧ ReturnedEndW U o U' L rm.cells rm.slots
theorem own_RW {U U' : State} {o : Outcome} {L : List Loc} {k n k' n' : Nat} (h : ReturnedEndW U o U' L k n) (h1 : k ≤ k') (h2 : n ≤ n') : ReturnedEndW U o U' L k' n' := ⟨h.1, h.2.1, h.2.2.1, h.2.2.2.mono h1 h2⟩
/-- a callee that may load constants, by its contract -/
theorem own_back {p : Program} {l : Launch} {e : Env} {R : Room} {s : State} {args : Array Value} {below : List Frame} {Z : State} {a0 : Array Value} {EL : List (String × Nat)} {h : Heap} {vm0 : Vm} {y : MethodName} {bytes : ByteArray} {maxL : Nat} {ret : Option FieldType} {rm : Room} {len W : Nat} {as' : Array Value} {ws : List Addr} {Q : Option Value → Vm → Heap → List Loc → Prop}
    (hM : MetFree l y (head1 [Cond.code y bytes maxL ret] rm) (own_P Z EL as' h ws) (fun _ _ _ _ _ => True) (own_E Z EL Q rm))
    (hZ : Z.Warmed39 vm0) (wc : (Cond.code y bytes maxL ret).before a0 Z = true) (wz : (Cond.initialized y.cls).before a0 Z = true) (hf : rm.frames + 1 ≤ R.frames) (hl : W + (maxL + 11) + rm.locals ≤ R.locals) (hEL : EW Z a0 EL) (H : CHv Z EL vm0 h) (hs : ∀ x ∈ ws, x < h.size ∧ Safe Z EL vm0 h x) :
    BackS l R p e below (s.setVm vm0) args y len W (fun A a => a = as' ∧ A.U.heap = h ∧ A.cells + rm.cells ≤ R.cells ∧ A.slots + rm.slots ≤ R.slots)
      (fun A _ v B => ∃ L, Q v B.U.vm B.U.heap L ∧ B.locs = A.locs ++ L ∧ B.cells = A.cells + rm.cells ∧ B.slots = A.slots + rm.slots ∧ CHr Z EL vm0 h B.U.vm B.U.heap) := by
  refine BackS.of_freeW (bytes := bytes) (maxL := maxL) (ret := ret) (E := fun _ first o t L k n => k = rm.cells ∧ n = rm.slots ∧ (∃ v, o = .returned v ∧ Q v t.vm t.heap L) ∧ CHr Z EL first.vm first.heap t.vm t.heap) hM hf hl ?_ ?_ (fun _ _ _ _ _ _ _ _ _ => trivial) ?_ ?_
  · intro m meth c A a Y hp
    have hU : Z.Warmed39 A.U.vm := wtrans (s := s.setVm vm0) hZ Y.warmed
    exact ⟨by show (Cond.and _ .tt).before a A.U = true; rw [Cond.before_and, mv hU wc]; rfl, mv hU wc, mv hU wz, hp.2.2.1, hp.2.2.2⟩
  · intro m meth c A a g mk Y hp
    have q := CHv.at Y hZ hEL H
    exact ⟨hp.1, wtrans (s := s.setVm vm0) hZ Y.warmed, hp.2.1, q.1, fun x hx => q.safe (hs x hx).1 (hs x hx).2⟩
  · rintro _ _ _ _ ⟨v, L, h1, h2, h3, h4⟩
    exact ⟨L, _, _, h4, rfl, rfl, ⟨v, h1, h2⟩, h3⟩
  · rintro m meth c A a g mk v t L k n Y hp _ _ ⟨e1, e2, ⟨v', e3, e4⟩, e5⟩
    cases e3; subst e1 e2
    refine ⟨L, e4, rfl, rfl, rfl, (CHv.at Y hZ hEL H).trans ?_⟩
    rw [← hp.2.1]; exact e5
/-- the end of a contract that loads no constant -/
def own_EN (Q : Option Value → Heap → List Loc → Prop) (rm : Room) : Array Value → State → Outcome → State → Prop := fun _ U o U' => ∃ v L, o = .returned v ∧ Q v U'.heap L ∧ FrameEnd U o U' L rm.cells rm.slots
theorem own_backN {p : Program} {l : Launch} {e : Env} {R : Room} {s : State} {args : Array Value} {below : List Frame} {Z : State} {a0 : Array Value} {h : Heap} {y : MethodName} {bytes : ByteArray} {maxL : Nat} {ret : Option FieldType} {rm : Room} {len W : Nat} {as' : Array Value} {Q : Option Value → Heap → List Loc → Prop}
    (hM : MetFree l y (head1 [Cond.code y bytes maxL ret] rm) (fun a U => a = as' ∧ Z.Warmed39 U.vm ∧ U.heap = h) (fun _ _ _ _ _ => True) (own_EN Q rm))
    (hZ : Z.Warmed39 s.vm) (wc : (Cond.code y bytes maxL ret).before a0 Z = true) (wz : (Cond.initialized y.cls).before a0 Z = true) (hf : rm.frames + 1 ≤ R.frames) (hl : W + (maxL + 11) + rm.locals ≤ R.locals) :
    Back l R p e below s args y len W (fun A a => a = as' ∧ A.U.heap = h ∧ A.cells + rm.cells ≤ R.cells ∧ A.slots + rm.slots ≤ R.slots)
      (fun A _ v B => ∃ L, Q v B.U.heap L ∧ B.locs = A.locs ++ L ∧ B.cells = A.cells + rm.cells ∧ B.slots = A.slots + rm.slots) := backOf (Q := Q) hM hZ wc wz hf hl
theorem own_wS {a0 : Array Value} {Z : State} (hw : ∀ d ∈ tables_1, d.before a0 Z = true) : ∀ a ∈ Bundle.stringAtoms, a.before a0 Z = true := fun d hd => hw d ((by decide +kernel : ∀ d ∈ Bundle.stringAtoms, d ∈ tables_1) d hd)
theorem own_and255 (x : Int32) : ¬ nar .char ((x &&& (255 : Int32)).toUInt32.toUInt16.toUInt32.toInt32) < 0 ∧ ¬ (255 : Int32) < nar .char ((x &&& (255 : Int32)).toUInt32.toUInt16.toUInt32.toInt32) := by
  have t : ∀ k : Fin 256, ¬ nar .char ((Int32.ofNat k.val).toUInt32.toUInt16.toUInt32.toInt32) < 0 ∧ ¬ (255 : Int32) < nar .char ((Int32.ofNat k.val).toUInt32.toUInt16.toUInt32.toInt32) := by decide +kernel
  have h : (x &&& 255).toBitVec.toNat < 256 := by
    simp only [Int32.toBitVec_and, BitVec.toNat_and]
    exact Nat.lt_succ_of_le Nat.and_le_right
  have e : (x &&& 255) = Int32.ofNat (x &&& 255).toBitVec.toNat := by
    apply Int32.toBitVec_inj.mp
    show _ = BitVec.ofNat 32 _
    rw [BitVec.ofNat_toNat]; simp
  rw [e]
  exact t ⟨_, h⟩
theorem own_and255b (x : Int32) : ¬ ((x &&& (255 : Int32)).toUInt32.toUInt16.toUInt32.toInt32) < 0 ∧ ¬ (255 : Int32) < ((x &&& (255 : Int32)).toUInt32.toUInt16.toUInt32.toInt32) := by
  have e : nar .char ((x &&& (255 : Int32)).toUInt32.toUInt16.toUInt32.toInt32) = ((x &&& (255 : Int32)).toUInt32.toUInt16.toUInt32.toInt32) := by simp only [nar, UInt32.toUInt32_toInt32, UInt16.toUInt16_toUInt32]
  have q := own_and255 x
  rw [e] at q
  exact q

/-- a String of known chars below 256; a, and its byte[], lie below n -/
def own_Str (Z : State) (n : Nat) (h : Heap) (a : Nat) (cs : List Int32) : Prop := a < n ∧ Exa Z h a "java/lang/String" ∧ (∀ c ∈ cs, ¬ c < 0 ∧ ¬ (255 : Int32) < c) ∧ cs.length ≤ 4000 ∧ ∃ (t : Nat) (kb : ClassId), t < n ∧ Fld Z h a "java/lang/String" "value" "[B" (.ref t) ∧ Fld Z h a "java/lang/String" "coder" "B" (.int 0) ∧ Arv Z h t kb .byte (Int32.ofNat cs.length) ((cs.map fun c => c.toInt8.toInt32).map Value.int) (.int 0)
theorem own_Str.keep {Z : State} {n : Nat} {h h' : Heap} {a : Nat} {cs : List Int32} {ws : List Addr} (F : own_Str Z n h a cs) (K : Keep h h' ws) (q : ∀ x ∈ ws, n ≤ x) : own_Str Z n h' a cs := by
  obtain ⟨f1, f2, f3, f4, t, kb, f5, f6, f7, f8⟩ := F
  exact ⟨f1, f2.keep K, f3, f4, t, kb, f5, f6.keep K (fun m => absurd f1 (Nat.not_lt.mpr (q _ m))), f7.keep K (fun m => absurd f1 (Nat.not_lt.mpr (q _ m))), f8.keep K (fun m => absurd f5 (Nat.not_lt.mpr (q _ m)))⟩
theorem own_Str.keepX {Z : State} {a0 : Array Value} {n k : Nat} {h h' : Heap} {a x : Nat} {C : String} {cs : List Int32} (F : own_Str Z n h a cs) (K : Keep h h' [x]) (E : Exa Z h x C) (w : (Cond.instantiable C k).before a0 Z = true) (hC : C ≠ "java/lang/String") : own_Str Z n h' a cs := by
  obtain ⟨f1, f2, f3, f4, t, kb, f5, f6, f7, f8⟩ := F
  have n1 : a ≠ x := fun q => (E.ne f2 hC) q.symm
  have n2 : t ≠ x := fun q => (E.neArv f8 w) q.symm
  exact ⟨f1, f2.keep K, f3, f4, t, kb, f5, f6.keep K (ninS n1 nin0), f7.keep K (ninS n1 nin0), f8.keep K (ninS n2 nin0)⟩
theorem own_Str.ext {Z : State} {n : Nat} {h h' : Heap} {a : Nat} {cs : List Int32} (F : own_Str Z n h a cs) (E : Ext h h') : own_Str Z n h' a cs := by
  obtain ⟨f1, f2, f3, f4, t, kb, f5, f6, f7, f8⟩ := F
  exact ⟨f1, f2.ext E, f3, f4, t, kb, f5, f6.ext E, f7.ext E, f8.ext E⟩
theorem own_Str.wr {Z : State} {n : Nat} {h h' : Heap} {a b : Nat} {sl : Nat} {v : Value} {cs : List Int32} (F : own_Str Z n h a cs) (W : Wr h h' b sl v) (q : n ≤ b) : own_Str Z n h' a cs := F.keep (Keep.of_wr W) (allS q all0)
theorem own_Str.mono {Z : State} {n n' : Nat} {h : Heap} {a : Nat} {cs : List Int32} (F : own_Str Z n h a cs) (q : n ≤ n') : own_Str Z n' h a cs := by
  obtain ⟨f1, f2, f3, f4, t, kb, f5, f6⟩ := F
  exact ⟨Nat.lt_of_lt_of_le f1 q, f2, f3, f4, t, kb, Nat.lt_of_lt_of_le f5 q, f6⟩
theorem own_pn0 : plainName "java/lang/String" = true := by first | (simp [plainName, overriddenIn]; done) | decide +kernel
theorem dS4_0 : Jvm.ClassFile.decode jdk_42_method_149_code 0 = .ok (.aload_n 0, 1) := by decide +kernel
theorem dS4_1 : Jvm.ClassFile.decode jdk_42_method_149_code 1 = .ok (.invokespecial 1, 3) := by decide +kernel
theorem dS4_4 : Jvm.ClassFile.decode jdk_42_method_149_code 4 = .ok (.iload_n 3, 1) := by decide +kernel
theorem dS4_5 : Jvm.ClassFile.decode jdk_42_method_149_code 5 = .ok (.ifCond .ne 22, 3) := by decide +kernel
theorem dS4_8 : Jvm.ClassFile.decode jdk_42_method_149_code 8 = .ok (.aload_n 0, 1) := by decide +kernel
theorem dS4_9 : Jvm.ClassFile.decode jdk_42_method_149_code 9 = .ok (.ldc 7, 2) := by decide +kernel
theorem dS4_11 : Jvm.ClassFile.decode jdk_42_method_149_code 11 = .ok (.getfield 9, 3) := by decide +kernel
theorem dS4_14 : Jvm.ClassFile.decode jdk_42_method_149_code 14 = .ok (.putfield 9, 3) := by decide +kernel
theorem dS4_17 : Jvm.ClassFile.decode jdk_42_method_149_code 17 = .ok (.aload_n 0, 1) := by decide +kernel
theorem dS4_18 : Jvm.ClassFile.decode jdk_42_method_149_code 18 = .ok (.ldc 7, 2) := by decide +kernel
theorem dS4_20 : Jvm.ClassFile.decode jdk_42_method_149_code 20 = .ok (.getfield 15, 3) := by decide +kernel
theorem dS4_23 : Jvm.ClassFile.decode jdk_42_method_149_code 23 = .ok (.putfield 15, 3) := by decide +kernel
theorem dS4_26 : Jvm.ClassFile.decode jdk_42_method_149_code 26 = .ok (.return_, 1) := by decide +kernel
theorem dS1_0 : Jvm.ClassFile.decode jdk_42_method_3_code 0 = .ok (.aload_n 0, 1) := by decide +kernel
theorem dS1_1 : Jvm.ClassFile.decode jdk_42_method_3_code 1 = .ok (.aload_n 1, 1) := by decide +kernel
theorem dS1_2 : Jvm.ClassFile.decode jdk_42_method_3_code 2 = .ok (.iconst 0, 1) := by decide +kernel
theorem dS1_3 : Jvm.ClassFile.decode jdk_42_method_3_code 3 = .ok (.aload_n 1, 1) := by decide +kernel
theorem dS1_4 : Jvm.ClassFile.decode jdk_42_method_3_code 4 = .ok (.arraylength, 1) := by decide +kernel
theorem dS1_5 : Jvm.ClassFile.decode jdk_42_method_3_code 5 = .ok (.aconst_null, 1) := by decide +kernel
theorem dS1_6 : Jvm.ClassFile.decode jdk_42_method_3_code 6 = .ok (.invokespecial 27, 3) := by decide +kernel
theorem own_pd0 : parseMethodDescriptor "([CIILjava/lang/Void;)V" = some ⟨[(.array .char), .int, .int, (.object "java/lang/Void")], none⟩ := by decide +kernel
theorem dS1_9 : Jvm.ClassFile.decode jdk_42_method_3_code 9 = .ok (.return_, 1) := by decide +kernel
theorem own_pn1 : plainName "com/example/veild/veild/policy/Constraint$Relation" = true := by first | (simp [plainName, overriddenIn]; done) | decide +kernel
theorem dHO1_0 : Jvm.ClassFile.decode prog_12_method_6_code 0 = .ok (.aload_n 1, 1) := by decide +kernel
theorem dHO1_1 : Jvm.ClassFile.decode prog_12_method_6_code 1 = .ok (.aload_n 2, 1) := by decide +kernel
theorem dHO1_2 : Jvm.ClassFile.decode prog_12_method_6_code 2 = .ok (.invokevirtual 41, 3) := by decide +kernel
theorem own_pd1 : parseMethodDescriptor "(Ljava/lang/Object;)Z" = some ⟨[(.object "java/lang/Object")], some .boolean⟩ := by decide +kernel
theorem dHO1_5 : Jvm.ClassFile.decode prog_12_method_6_code 5 = .ok (.aload_n 0, 1) := by decide +kernel
theorem dHO1_6 : Jvm.ClassFile.decode prog_12_method_6_code 6 = .ok (.getfield 33, 3) := by decide +kernel
theorem dHO1_9 : Jvm.ClassFile.decode prog_12_method_6_code 9 = .ok (.if_icmp .ne 7, 3) := by decide +kernel
theorem dHO1_12 : Jvm.ClassFile.decode prog_12_method_6_code 12 = .ok (.iconst 1, 1) := by decide +kernel
theorem dHO1_13 : Jvm.ClassFile.decode prog_12_method_6_code 13 = .ok (.goto 4, 3) := by decide +kernel
theorem dHO1_17 : Jvm.ClassFile.decode prog_12_method_6_code 17 = .ok (.ireturn, 1) := by decide +kernel
theorem dHO1_16 : Jvm.ClassFile.decode prog_12_method_6_code 16 = .ok (.iconst 0, 1) := by decide +kernel
theorem dHO0_0 : Jvm.ClassFile.decode prog_12_method_6_code 0 = .ok (.aload_n 1, 1) := by decide +kernel
theorem dHO0_1 : Jvm.ClassFile.decode prog_12_method_6_code 1 = .ok (.aload_n 2, 1) := by decide +kernel
theorem dHO0_2 : Jvm.ClassFile.decode prog_12_method_6_code 2 = .ok (.invokevirtual 41, 3) := by decide +kernel
theorem dHO0_5 : Jvm.ClassFile.decode prog_12_method_6_code 5 = .ok (.aload_n 0, 1) := by decide +kernel
theorem dHO0_6 : Jvm.ClassFile.decode prog_12_method_6_code 6 = .ok (.getfield 33, 3) := by decide +kernel
theorem dHO0_9 : Jvm.ClassFile.decode prog_12_method_6_code 9 = .ok (.if_icmp .ne 7, 3) := by decide +kernel
theorem dHO0_16 : Jvm.ClassFile.decode prog_12_method_6_code 16 = .ok (.iconst 0, 1) := by decide +kernel
theorem dHO0_17 : Jvm.ClassFile.decode prog_12_method_6_code 17 = .ok (.ireturn, 1) := by decide +kernel
theorem dHO0_12 : Jvm.ClassFile.decode prog_12_method_6_code 12 = .ok (.iconst 1, 1) := by decide +kernel
theorem dHO0_13 : Jvm.ClassFile.decode prog_12_method_6_code 13 = .ok (.goto 4, 3) := by decide +kernel
theorem own_pn2 : plainName "com/example/veild/veild/policy/RelationHoldsPinLaw" = true := by first | (simp [plainName, overriddenIn]; done) | decide +kernel
theorem own_pd2 : parseMethodDescriptor "([C)V" = some ⟨[(.array .char)], none⟩ := by decide +kernel
theorem own_pd3 : parseMethodDescriptor "(Ljava/lang/String;Ljava/lang/String;)Z" = some ⟨[(.object "java/lang/String"), (.object "java/lang/String")], some .boolean⟩ := by decide +kernel
def own_QE (Z : State) (x : Nat) (h0 : Heap) (n0 : Nat) (v : Option Value) (h : Heap) (L : List Loc) : Prop := v = none ∧ Fr n0 L ∧ Keep h0 h [x] ∧ ∃ (t : Nat) (kb : ClassId), t ≠ x ∧ Fld Z h x "java/lang/String" "value" "[B" (.ref t) ∧ Fld Z h x "java/lang/String" "coder" "B" (.int 0) ∧ Arv Z h t kb .byte (0 : Int32) [] (.int 0)
theorem ef_own_init4E (m : MethodId) (x0 : Nat) (x1 : Nat) : entryFrame m #[(.ref x0), (.ref x1), (.int (0 : Int32)), (.int (0 : Int32)), .null] 6 = mkF m 0 #[.val (.ref x0), .val (.ref x1), .val (.int (0 : Int32)), .val (.int (0 : Int32)), .val .null, .unset] [] := by first | (simp [entryFrame, mkF, argsToLocals, Value.category]; done) | rfl
set_option maxRecDepth 65536 in
set_option maxHeartbeats 40000000 in
theorem own_init4E (l : Launch) (Z : State) (a0 : Array Value) (hw : ∀ d ∈ tables_1, d.before a0 Z = true) (hEL : EW Z a0 consts_1) (ws : List Jvm.Cond) (x b : Nat) (v0 c0 : Value) (h0 : Heap) (n0 : Nat) (Z0 : n0 ≤ h0.size) (X00 : Old Z n0 h0) (Ex : Exa Z h0 x "java/lang/String") (Fv : Fld Z h0 x "java/lang/String" "value" "[B" v0) (Fc : Fld Z h0 x "java/lang/String" "coder" "B" c0) (gx : n0 ≤ x) (ltx : x < h0.size) :
    MetFree l (⟨"java/lang/String", "<init>", "([CIILjava/lang/Void;)V"⟩ : MethodName) (head1 (Jvm.Cond.code (⟨"java/lang/String", "<init>", "([CIILjava/lang/Void;)V"⟩ : MethodName) jdk_42_method_149_code 6 none :: ws) ({ frames := 1, cells := 2, slots := 4, locals := 12 } : Room)) (own_P Z consts_1 #[(.ref x), (.ref b), (.int (0 : Int32)), (.int (0 : Int32)), .null] h0 [x]) (fun _ _ _ _ _ => True) (own_E Z consts_1 (fun (v : Option Value) (_ : Vm) (h : Heap) (L : List Loc) => own_QE Z x h0 n0 v h L) ({ frames := 1, cells := 2, slots := 4, locals := 12 } : Room)) := by
  refine MetFree.of_bodySF (plainFor_of_name own_pn0) hisR ?_
  intro p e s m args below meth c s₁ Bd hml0 hP hK
  obtain ⟨rfl, hZ, hh, hCH, hSafe⟩ := hP
  have hx := Bd.exec
  have hby := Bd.bytes
  have hml : c.maxLocals = 6 := hml0
  have hown : s.vm.findClass "java/lang/String" = some m.cls := findClass_of_methodNamed Bd.named
  have hnm := (name_of_methodNamed Bd.named Bd.method).1
  have X0 : Stand p l e ({ frames := 1, cells := 2, slots := 4, locals := 12 } : Room) (s.setVm s.vm) m #[(.ref x), (.ref b), (.int (0 : Int32)), (.int (0 : Int32)), .null] below meth c s₁ [] 0 0 := Stand.of_body Bd
  have e0 : s₁.heap = h0 := by rw [← hh, Bd.state]; rfl
  have N0 := Fr.nil n0
  have K0 : Keep h0 h0 [x] := Keep.refl h0 [x]
  have S0 : s.Since s.vm 0 := own_since s
  have C0 : CHr Z consts_1 s.vm h0 s.vm h0 := CHr.refl hCH
  refine show own_G p e below (own_E Z consts_1 (fun (v : Option Value) (_ : Vm) (h : Heap) (L : List Loc) => own_QE Z x h0 n0 v h L) ({ frames := 1, cells := 2, slots := 4, locals := 12 } : Room) #[(.ref x), (.ref b), (.int (0 : Int32)), (.int (0 : Int32)), .null] s) _ from ?_
  refine own_st (fun tq kq => castTop (ef_own_init4E m (x) (b)) kq) ?_
  show own_G p e below _ (s₁.setTop (mkF m 0 #[.val (.ref x), .val (.ref b), .val (.int (0 : Int32)), .val (.int (0 : Int32)), .val .null, .unset] []))
  have hws0 : ∀ y ∈ [x], n0 ≤ y := allS gx all0
  refine own_st (fun tq kq => XS.aloadN X0.here hx rfl (hb hby dS4_0) rfl rfl kq) ?_
  show own_G p e below _ (s₁.setTop (mkF m 1 #[.val (.ref x), .val (.ref b), .val (.int (0 : Int32)), .val (.int (0 : Int32)), .val .null, .unset] [(.ref x)]))
  obtain ⟨T1, X1, e1, st1⟩ := initO X0 hx hZ hown (hw _ (List.mem_of_getElem? (i := 14) rfl)) (hw _ (List.mem_of_getElem? (i := 15) rfl)) (hw _ (List.mem_of_getElem? (i := 16) rfl)) e0 (g := (mkF m 1 #[.val (.ref x), .val (.ref b), .val (.int (0 : Int32)), .val (.int (0 : Int32)), .val .null, .unset] [(.ref x)])) rfl (by rw [hml]; rfl) rfl (hb hby dS4_1) (by decide) (W := 0) (by show 2 * 0 + _ ≤ _; exact Nat.le_of_eq rfl) (by decide)
  refine own_st st1 ?_
  show own_G p e below _ (T1.setTop (mkF m 4 #[.val (.ref x), .val (.ref b), .val (.int (0 : Int32)), .val (.int (0 : Int32)), .val .null, .unset] []))
  refine own_st (fun tq kq => XS.iloadN X1.here hx rfl (hb hby dS4_4) rfl  kq) ?_
  show own_G p e below _ (T1.setTop (mkF m 5 #[.val (.ref x), .val (.ref b), .val (.int (0 : Int32)), .val (.int (0 : Int32)), .val .null, .unset] [(.int (0 : Int32))]))
  refine own_st (fun tq kq => XS.ifNo X1.here hx rfl (hb hby dS4_5) rfl ((if0 _ _).trans (teq (by decide : ((0 : Int32) = (0 : Int32)))).2) kq) ?_
  refine own_st (fun tq kq => XS.aloadN X1.here hx rfl (hb hby dS4_8) rfl rfl kq) ?_
  show own_G p e below _ (T1.setTop (mkF m 9 #[.val (.ref x), .val (.ref b), .val (.int (0 : Int32)), .val (.int (0 : Int32)), .val .null, .unset] [(.ref x)]))
  obtain ⟨a2, T2, h2, k2, b2, kb2, X2, e2, E2, S2, hk2, Z2, o2, Ex2, Fc2, Fv2, Av2, la2, lb2, c2, L2, ne2, st2⟩ := ldcCH (s := s) (vm0 := s.vm) X1 hx hZ hown (hw _ (List.mem_of_getElem? (i := 33) rfl)) (own_wS hw) e1 S0 (own_le (by omega)) hEL (by simp [consts_1]) C0.1 (vs := []) (z := (0 : Int32)) ⟨by decide, by decide⟩ (by decide) (by decide) (g := (mkF m 9 #[.val (.ref x), .val (.ref b), .val (.int (0 : Int32)), .val (.int (0 : Int32)), .val .null, .unset] [(.ref x)])) rfl (hb hby dS4_9) (n := 0) (by decide) (by decide) (by decide) (by decide)
  have la2 := own_lt la2
  have lb2 := own_lt lb2
  have sz2 : h0.size ≤ h2.size := E2.1
  have K2 : Keep h0 h2 [x] := K0.ext E2
  have C2 := C0.trans c2
  have Sf2_3 := c2.safe (own_lt (by omega)) (hSafe _ (List.mem_of_getElem? (i := 0) rfl))
  obtain ⟨nx4, ny4⟩ := ne2 _ Sf2_3
  have nx4 := own_ne nx4
  have ny4 := own_ne ny4
  refine own_st st2 ?_
  show own_G p e below _ (T2.setTop (mkF m 11 #[.val (.ref x), .val (.ref b), .val (.int (0 : Int32)), .val (.int (0 : Int32)), .val .null, .unset] [(.ref a2), (.ref x)]))
  obtain ⟨T5, X5, e5, st5⟩ := getF X2 hx Z2 o2 (host := "") (Or.inl (hw _ (List.mem_of_getElem? (i := 31) rfl))) Via.refl e2 Fv2 (g := (mkF m 11 #[.val (.ref x), .val (.ref b), .val (.int (0 : Int32)), .val (.int (0 : Int32)), .val .null, .unset] [(.ref a2), (.ref x)])) rfl rfl (hb hby dS4_11)
  refine own_st st5 ?_
  show own_G p e below _ (T5.setTop (mkF m 14 #[.val (.ref x), .val (.ref b), .val (.int (0 : Int32)), .val (.int (0 : Int32)), .val .null, .unset] [(.ref b2), (.ref x)]))
  obtain ⟨T6, h6, X6, e6, W6, st6⟩ := putF X5 hx Z2 o2 (host := "") (Or.inl (hw _ (List.mem_of_getElem? (i := 31) rfl))) Via.refl e5 (Fv.ext E2) (Ex.ext E2) (Or.inr ⟨(hw _ (List.mem_of_getElem? (i := 32) rfl)), rfl, hnm⟩) (hw _ (List.mem_of_getElem? (i := 5) rfl)) (ty := (.array .byte)) (by decide) rfl rfl (g := (mkF m 14 #[.val (.ref x), .val (.ref b), .val (.int (0 : Int32)), .val (.int (0 : Int32)), .val .null, .unset] [(.ref b2), (.ref x)])) rfl rfl (hb hby dS4_14)
  have Fw6 := (Fv.ext E2).same W6
  have sz6 : h2.size ≤ h6.size := (Keep.of_wr W6).1
  have K6 : Keep h0 h6 [x] := K2.wr W6 (Or.inl (by simp))
  have c6 : CHr Z consts_1 T2.vm h2 T2.vm h6 := CHr.wr W6 Sf2_3 C2.1
  have C6 := C2.trans c6
  have Sf6_7 := c6.safe (own_lt (by omega)) Sf2_3
  have N6 := Fr.snoc X6 N0 (own_le (by omega))
  refine own_st st6 ?_
  show own_G p e below _ (T6.setTop (mkF m 17 #[.val (.ref x), .val (.ref b), .val (.int (0 : Int32)), .val (.int (0 : Int32)), .val .null, .unset] []))
  refine own_st (fun tq kq => XS.aloadN X6.here hx rfl (hb hby dS4_17) rfl rfl kq) ?_
  show own_G p e below _ (T6.setTop (mkF m 18 #[.val (.ref x), .val (.ref b), .val (.int (0 : Int32)), .val (.int (0 : Int32)), .val .null, .unset] [(.ref x)]))
  refine own_st (fun tq kq => ldcAgain (s := s) (vm0 := T2.vm) X6 hx Z2 o2 (hw _ (List.mem_of_getElem? (i := 33) rfl)) L2 (g := (mkF m 18 #[.val (.ref x), .val (.ref b), .val (.int (0 : Int32)), .val (.int (0 : Int32)), .val .null, .unset] [(.ref x)])) rfl (hb hby dS4_18) _ kq) ?_
  show own_G p e below _ (T6.setTop (mkF m 20 #[.val (.ref x), .val (.ref b), .val (.int (0 : Int32)), .val (.int (0 : Int32)), .val .null, .unset] [(.ref a2), (.ref x)]))
  obtain ⟨T8, X8, e8, st8⟩ := getF X6 hx Z2 o2 (host := "") (Or.inl (hw _ (List.mem_of_getElem? (i := 29) rfl))) Via.refl e6 (Fc2.other W6 (Or.inl (own_ne (by omega)))) (g := (mkF m 20 #[.val (.ref x), .val (.ref b), .val (.int (0 : Int32)), .val (.int (0 : Int32)), .val .null, .unset] [(.ref a2), (.ref x)])) rfl rfl (hb hby dS4_20)
  refine own_st st8 ?_
  show own_G p e below _ (T8.setTop (mkF m 23 #[.val (.ref x), .val (.ref b), .val (.int (0 : Int32)), .val (.int (0 : Int32)), .val .null, .unset] [(.int (0 : Int32)), (.ref x)]))
  obtain ⟨T9, h9, X9, e9, W9, st9⟩ := putF X8 hx Z2 o2 (host := "") (Or.inl (hw _ (List.mem_of_getElem? (i := 29) rfl))) Via.refl e8 ((Fc.ext E2).other W6 (Or.inr (slot_ne (Or.inr (hw _ (List.mem_of_getElem? (i := 30) rfl))) (Or.inr (hw _ (List.mem_of_getElem? (i := 32) rfl))) (by decide) (t := .byte) (t' := (.array .byte)) (by decide) (by decide)))) ((Ex.ext E2).wr W6) (Or.inr ⟨(hw _ (List.mem_of_getElem? (i := 30) rfl)), rfl, hnm⟩) (hw _ (List.mem_of_getElem? (i := 5) rfl)) (ty := .byte) (by decide) rfl rfl (g := (mkF m 23 #[.val (.ref x), .val (.ref b), .val (.int (0 : Int32)), .val (.int (0 : Int32)), .val .null, .unset] [(.int (0 : Int32)), (.ref x)])) rfl rfl (hb hby dS4_23)
  have Fw9 := ((Fc.ext E2).other W6 (Or.inr (slot_ne (Or.inr (hw _ (List.mem_of_getElem? (i := 30) rfl))) (Or.inr (hw _ (List.mem_of_getElem? (i := 32) rfl))) (by decide) (t := .byte) (t' := (.array .byte)) (by decide) (by decide)))).same W9
  have sz9 : h6.size ≤ h9.size := (Keep.of_wr W9).1
  have K9 : Keep h0 h9 [x] := K6.wr W9 (Or.inl (by simp))
  have c9 : CHr Z consts_1 T2.vm h6 T2.vm h9 := CHr.wr W9 Sf6_7 C6.1
  have C9 := C6.trans c9
  have Sf9_10 := c9.safe (own_lt (by omega)) Sf6_7
  have N9 := Fr.snoc X9 N6 (own_le (by omega))
  refine own_st st9 ?_
  show own_G p e below _ (T9.setTop (mkF m 26 #[.val (.ref x), .val (.ref b), .val (.int (0 : Int32)), .val (.int (0 : Int32)), .val .null, .unset] []))
  obtain ⟨fs, hr, hrun, hended, hRW⟩ := X9.leaveW S2 (by rw [e9]; exact (own_le (by omega))) (v := none) (fun _ => rfl)
  have cE := C9.trans (CHv.at (s := s) (vm0 := T2.vm) X9 Z2 hEL C9.1)
  refine ⟨_, _, X9.returnOut hx Bd.returns (hb hby dS4_26) hr, hrun, hended, _, _, rfl, ?_, ?_, own_RW hRW (by decide) (by decide)⟩
  · change (fun (v : Option Value) (_ : Vm) (h : Heap) (L : List Loc) => own_QE Z x h0 n0 v h L) (none) T9.vm T9.heap _; rw [e9]; exact ⟨rfl, N9, K9, b2, _, (by omega), (Fw6.other W9 (Or.inr (slot_ne (Or.inr (hw _ (List.mem_of_getElem? (i := 32) rfl))) (Or.inr (hw _ (List.mem_of_getElem? (i := 30) rfl))) (by decide) (t := (.array .byte)) (t' := .byte) (by decide) (by decide)))), Fw9, ((Av2.other W6 (own_ne (by omega))).other W9 (own_ne (by omega)))⟩
  · rw [hh]; change CHr Z consts_1 s.vm h0 T9.vm T9.heap; rw [e9]; exact cE

theorem ef_own_init1E (m : MethodId) (x0 : Nat) (x1 : Nat) : entryFrame m #[(.ref x0), (.ref x1)] 2 = mkF m 0 #[.val (.ref x0), .val (.ref x1)] [] := by first | (simp [entryFrame, mkF, argsToLocals, Value.category]; done) | rfl
set_option maxRecDepth 65536 in
set_option maxHeartbeats 40000000 in
theorem own_init1E (l : Launch) (Z : State) (a0 : Array Value) (hw : ∀ d ∈ tables_1, d.before a0 Z = true) (hEL : EW Z a0 consts_1) (ws : List Jvm.Cond) (x b : Nat) (v0 c0 dv : Value) (kC : ClassId) (h0 : Heap) (n0 : Nat) (Z0 : n0 ≤ h0.size) (X00 : Old Z n0 h0) (Ex : Exa Z h0 x "java/lang/String") (Fv : Fld Z h0 x "java/lang/String" "value" "[B" v0) (Fc : Fld Z h0 x "java/lang/String" "coder" "B" c0) (gx : n0 ≤ x) (ltx : x < h0.size) (Vb : Arv Z h0 b kC .char (0 : Int32) [] dv) :
    MetFree l (⟨"java/lang/String", "<init>", "([C)V"⟩ : MethodName) (head1 (Jvm.Cond.code (⟨"java/lang/String", "<init>", "([C)V"⟩ : MethodName) jdk_42_method_3_code 2 none :: ws) ({ frames := 2, cells := 2, slots := 4, locals := 29 } : Room)) (own_P Z consts_1 #[(.ref x), (.ref b)] h0 [x]) (fun _ _ _ _ _ => True) (own_E Z consts_1 (fun (v : Option Value) (_ : Vm) (h : Heap) (L : List Loc) => own_QE Z x h0 n0 v h L) ({ frames := 2, cells := 2, slots := 4, locals := 29 } : Room)) := by
  refine MetFree.of_bodySF (plainFor_of_name own_pn0) hisR ?_
  intro p e s m args below meth c s₁ Bd hml0 hP hK
  obtain ⟨rfl, hZ, hh, hCH, hSafe⟩ := hP
  have hx := Bd.exec
  have hby := Bd.bytes
  have hml : c.maxLocals = 2 := hml0
  have hown : s.vm.findClass "java/lang/String" = some m.cls := findClass_of_methodNamed Bd.named
  have hnm := (name_of_methodNamed Bd.named Bd.method).1
  have X0 : Stand p l e ({ frames := 2, cells := 2, slots := 4, locals := 29 } : Room) (s.setVm s.vm) m #[(.ref x), (.ref b)] below meth c s₁ [] 0 0 := Stand.of_body Bd
  have e0 : s₁.heap = h0 := by rw [← hh, Bd.state]; rfl
  have N0 := Fr.nil n0
  have K0 : Keep h0 h0 [x] := Keep.refl h0 [x]
  have S0 : s.Since s.vm 0 := own_since s
  have C0 : CHr Z consts_1 s.vm h0 s.vm h0 := CHr.refl hCH
  refine show own_G p e below (own_E Z consts_1 (fun (v : Option Value) (_ : Vm) (h : Heap) (L : List Loc) => own_QE Z x h0 n0 v h L) ({ frames := 2, cells := 2, slots := 4, locals := 29 } : Room) #[(.ref x), (.ref b)] s) _ from ?_
  refine own_st (fun tq kq => castTop (ef_own_init1E m (x) (b)) kq) ?_
  show own_G p e below _ (s₁.setTop (mkF m 0 #[.val (.ref x), .val (.ref b)] []))
  have hws0 : ∀ y ∈ [x], n0 ≤ y := allS gx all0
  refine own_st (fun tq kq => XS.aloadN X0.here hx rfl (hb hby dS1_0) rfl rfl kq) ?_
  refine own_st (fun tq kq => XS.aloadN X0.here hx rfl (hb hby dS1_1) rfl rfl kq) ?_
  refine own_st (fun tq kq => XS.iconst X0.here hx rfl (hb hby dS1_2) kq) ?_
  refine own_st (fun tq kq => XS.aloadN X0.here hx rfl (hb hby dS1_3) rfl rfl kq) ?_
  show own_G p e below _ (s₁.setTop (mkF m 4 #[.val (.ref x), .val (.ref b)] [(.ref b), (.int (0 : Int32)), (.ref b), (.ref x)]))
  obtain ⟨cl1, Ar1, q1, S_1, N_1, H_1, G_1⟩ := id Vb
  refine own_st (fun tq kq => X0.arraylength hx (by rw [e0]; exact Ar1.1) (State.isArrayOf_alike hZ.alike Ar1.2.1) (g := (mkF m 4 #[.val (.ref x), .val (.ref b)] [(.ref b), (.int (0 : Int32)), (.ref b), (.ref x)])) rfl rfl (hb hby dS1_4) _ kq) ?_
  rw [len_of S_1 N_1]
  show own_G p e below _ (s₁.setTop (mkF m 5 #[.val (.ref x), .val (.ref b)] [(.int (0 : Int32)), (.int (0 : Int32)), (.ref b), (.ref x)]))
  refine own_st (fun tq kq => XS.aconstNull X0.here hx rfl (hb hby dS1_5) kq) ?_
  show own_G p e below _ (s₁.setTop (mkF m 6 #[.val (.ref x), .val (.ref b)] [.null, (.int (0 : Int32)), (.int (0 : Int32)), (.ref b), (.ref x)]))
  obtain ⟨_, _, ⟨T2, L2, k2, n2⟩, -, Y2, S2p, gr2, ⟨Lc2, hQ2, l2, y2, z2, c2⟩, st2⟩ := X0.specialBackS hx (y := (⟨"java/lang/String", "<init>", "([CIILjava/lang/Void;)V"⟩ : MethodName)) rfl hown (mvT hZ (hw _ (List.mem_of_getElem? (i := 10) rfl))) (mvT hZ (hw _ (List.mem_of_getElem? (i := 11) rfl))) (mvT hZ (hw _ (List.mem_of_getElem? (i := 13) rfl))) (by decide) (own_back (s := s) (vm0 := s.vm) (W := 0) (own_init4E l Z a0 hw hEL [] (x) (b) (v0) (c0) h0 n0 (by omega) (X00.keep K0 hws0) Ex Fv Fc gx ltx) hZ (hw _ (List.mem_of_getElem? (i := 13) rfl)) (hw _ (List.mem_of_getElem? (i := 6) rfl)) (by decide) (by decide) hEL C0.1 (allS ⟨own_lt (by omega), (hSafe _ (List.mem_of_getElem? (i := 0) rfl))⟩ all0)) (g := (mkF m 6 #[.val (.ref x), .val (.ref b)] [.null, (.int (0 : Int32)), (.int (0 : Int32)), (.ref b), (.ref x)])) rfl (by rw [hml]; rfl) (Steps.refl _) (a := x) (argsL := [(.ref b), (.int (0 : Int32)), (.int (0 : Int32)), .null]) (rest := []) (lenOf own_pd0 rfl) rfl (by show 2 * 0 + _ ≤ _; exact Nat.le_of_eq rfl) (hb hby dS1_6) (fun _ _ => ⟨rfl, e0, (by decide : 0 + 2 ≤ _), (by decide : 0 + 4 ≤ _)⟩)
  dsimp only [Pt.U, Pt.locs, Pt.cells, Pt.slots] at Y2 S2p gr2 l2 y2 z2 st2 hQ2 c2
  subst l2 y2 z2
  obtain ⟨X2, S2, Z2, o2⟩ := rebS S0 (by rw [e0]; exact (own_le (by omega))) Y2 S2p gr2 hZ hown
  obtain ⟨rfl, Nq2, Kq2, R2⟩ := hQ2
  have KK2 : Keep h0 T2.heap [x] := Kq2
  have sz2 : h0.size ≤ T2.heap.size := KK2.1
  have K2 : Keep h0 T2.heap [x] := K0.trans KK2 (allS (Or.inl (by simp)) all0)
  have C2 := C0.trans c2
  have Sf2_3 := c2.safe (own_lt (by omega)) (hSafe _ (List.mem_of_getElem? (i := 0) rfl))
  have N2 := Fr.app N0 Nq2
  refine own_st (fun tq kq => st2.trans kq) ?_
  show own_G p e below _ (T2.setTop (mkF m 9 #[.val (.ref x), .val (.ref b)] []))
  obtain ⟨fs, hr, hrun, hended, hRW⟩ := X2.leaveW S2 (own_le (by omega)) (v := none) (fun _ => rfl)
  have cE := C2.trans (CHv.at (s := s) (vm0 := T2.vm) X2 Z2 hEL C2.1)
  refine ⟨_, _, X2.returnOut hx Bd.returns (hb hby dS1_9) hr, hrun, hended, _, _, rfl, ?_, ?_, own_RW hRW (by decide) (by decide)⟩
  · change (fun (v : Option Value) (_ : Vm) (h : Heap) (L : List Loc) => own_QE Z x h0 n0 v h L) (none) T2.vm T2.heap _; exact ⟨rfl, N2, K2, R2⟩
  · rw [hh]; change CHr Z consts_1 s.vm h0 T2.vm T2.heap; exact cE

/-- what new String(char[]) leaves, of any length -/
def own_QS (Z : State) (x : Nat) (cs : List Int32) (h0 : Heap) (n0 : Nat) (v : Option Value) (h : Heap) (L : List Loc) : Prop := v = none ∧ Fr n0 L ∧ Keep h0 h [x] ∧ own_Str Z h.size h x cs
set_option maxRecDepth 65536 in
set_option maxHeartbeats 40000000 in
/-- new String(char[]) at a call: no char, or up to 4,000 chars from 0 to 255 -/
theorem own_newStr {p : Program} {l : Launch} {e : Env} {R : Room} {s : State} {args : Array Value} {below : List Frame} {len W : Nat} {Z : State} {a0 : Array Value} {h : Heap} {vm0 : Vm} (hZ : Z.Warmed39 vm0) (hw : ∀ d ∈ tables_1, d.before a0 Z = true) (hEL : EW Z a0 consts_1) (H : CHv Z consts_1 vm0 h)
    {x b : Nat} {kC : ClassId} {cs : List Int32} {d v0 c0 : Value} {z N : Int32} {n n0 : Nat} (hs : Safe Z consts_1 vm0 h x) (hx0 : n0 ≤ x) (X00 : Old Z n0 h) (E : Exa Z h x "java/lang/String") (V : Fld Z h x "java/lang/String" "value" "[B" v0) (C : Fld Z h x "java/lang/String" "coder" "B" c0) (K : Arv Z h b kC .char N (cs.map Value.int) d) (S : Sta Z Z.heap "java/lang/String" "COMPACT_STRINGS" "Z" (.int z)) (hz : ¬ z = 0)
    (hn : cs.length = n) (hN : N = Int32.ofNat n) (l2 : n ≤ 4000) (hp : ∀ c ∈ cs, ¬ c < 0 ∧ ¬ (255 : Int32) < c) (hfr : 4 ≤ R.frames) (hlo : W + 65 ≤ R.locals) :
    BackS l R p e below (s.setVm vm0) args (⟨"java/lang/String", "<init>", "([C)V"⟩ : MethodName) len W (fun P a => a = #[.ref x, .ref b] ∧ P.U.heap = h ∧ P.cells + 2 ≤ R.cells ∧ P.slots + (n + 4) ≤ R.slots)
      (fun P _ v B => ∃ L, own_QS Z x cs h n0 v B.U.heap L ∧ B.locs = P.locs ++ L ∧ B.cells = P.cells + 2 ∧ B.slots = P.slots + (n + 4) ∧ CHr Z consts_1 vm0 h B.U.vm B.U.heap) := by
  have hh0 : n0 ≤ h.size := by have := X00.1; have := X00.2.1; omega
  rcases Nat.eq_zero_or_pos n with hn0 | hn0
  · subst hn0
    obtain rfl : cs = [] := List.length_eq_zero_iff.mp hn
    obtain rfl : N = (0 : Int32) := hN
    intro m meth c P g ig mk a X hg hsize hdg hW hnn hp'
    obtain ⟨v, B, Y, q1, q2, ⟨L, hQ, e1, e2, e3, hc⟩, st⟩ := own_back (rm := ({ frames := 2, cells := 2, slots := 4, locals := 29 } : Room)) (R := R) (W := W) (s := s) (vm0 := vm0) (own_init1E l Z a0 hw hEL [] x b v0 c0 d kC h n0 hh0 X00 E V C hx0 E.lt K) hZ (hw _ (List.mem_of_getElem? (i := 9) rfl)) (hw _ (List.mem_of_getElem? (i := 6) rfl)) (by show 2 + 1 ≤ _; omega) (by show W + (2 + 11) + 29 ≤ _; omega) hEL H (allS ⟨E.lt, hs⟩ all0) m meth c P g ig mk a X hg hsize hdg hW hnn ⟨hp'.1, hp'.2.1, hp'.2.2.1, hp'.2.2.2⟩
    obtain ⟨r1, r2, r3, t, kb, r4, r5, r6, r7⟩ := hQ
    exact ⟨v, B, Y, q1, q2, ⟨L, ⟨r1, r2, r3, r5.lt, E.keep r3, hp, by decide, t, kb, r7.lt, r5, r6, r7⟩, e1, e2, e3, hc⟩, st⟩
  · have hws : ∀ d ∈ StrChars.Road.words, d.before a0 Z = true := fun d hd => hw d ((by decide +kernel : ∀ d ∈ StrChars.Road.words, d ∈ tables_1) d hd)
    intro m meth c P g ig mk a X hg hsize hdg hW hnn hp'
    obtain ⟨v, B, Y, ⟨L, hQ, e1, e2, e3⟩, st⟩ := StrChars.Road.backV (R := R) (W := W) (s := s.setVm vm0) hZ hws (kI := 4) (hw _ (List.mem_of_getElem? (i := 5) rfl)) (cs := cs) (bs := cs.map (fun c => c.toInt8.toInt32)) (n := n) hx0 hh0 E V C K (S.ext X00.2) hz hn hN hn0 l2 hp rfl hfr hlo m meth c P g ig mk a X hg hsize hdg hW hnn ⟨hp'.1, hp'.2.1, Nat.le_trans (by omega) hp'.2.2.1, Nat.le_trans (by omega) hp'.2.2.2⟩
    obtain ⟨BU, BL, Bc, Bs⟩ := B
    dsimp only [Pt.U, Pt.locs, Pt.cells, Pt.slots] at Y hQ e1 e2 e3 st
    obtain ⟨r1, r2, r3, r4, r5, t, kb, u1, u2, u3, u4, u5⟩ := hQ
    have hCH : CHr Z consts_1 vm0 h vm0 BU.heap := CHr.keep r3 (allS hs all0) H
    have Y2 : Stand p l e R (s.setVm vm0) m args below meth c BU BL (P.cells + 2) (P.slots + (n + 4)) := Y.mono (by rw [e2]; exact Nat.add_le_add_left (by decide) _) (by rw [e3]; exact Nat.add_le_add_left (Nat.le_add_right _ _) _)
    refine ⟨v, ⟨BU, BL, P.cells + 2, P.slots + (n + 4)⟩, Y2.retabled Y2.warmed.wide, Y2.warmed.since _, ?_, ⟨L, ⟨r1, r2, r3, u4.lt, r4, hp, by omega, t, kb, u5.lt, u4, r5, ?_⟩, e1, rfl, rfl, hCH.trans (CHv.at (s := s) (vm0 := vm0) Y2 hZ hEL hCH.1)⟩, st⟩
    · show P.U.heap.size ≤ BU.heap.size
      rw [hp'.2.1]; exact r3.1
    · rw [hn, ← hN]; exact u5

theorem own_wEq {a0 : Array Value} {Z : State} (hw : ∀ d ∈ tables_1, d.before a0 Z = true) : ∀ d ∈ StrChars.Road.wordsEq, d.before a0 Z = true := fun d hd => hw d ((by decide +kernel : ∀ d ∈ StrChars.Road.wordsEq, d ∈ tables_1) d hd)
theorem own_up {cs : List Int32} (h : ∀ c ∈ cs, ¬ c < 0 ∧ ¬ (255 : Int32) < c) : ∀ c ∈ cs, ¬ c < 0 ∧ ¬ (65535 : Int32) < c := fun c hc => ⟨(h c hc).1, fun q => (h c hc).2 (by rw [Int32.lt_iff_toInt_lt] at q ⊢; have e1 : (65535 : Int32).toInt = 65535 := rfl; have e2 : (255 : Int32).toInt = 255 := rfl; omega)⟩

theorem ef_own_holds1 (m : MethodId) (x0 : Nat) (x1 : Nat) (x2 : Nat) : entryFrame m #[(.ref x0), (.ref x1), (.ref x2)] 3 = mkF m 0 #[.val (.ref x0), .val (.ref x1), .val (.ref x2)] [] := by first | (simp [entryFrame, mkF, argsToLocals, Value.category]; done) | rfl
set_option maxRecDepth 65536 in
set_option maxHeartbeats 40000000 in
theorem own_holds1 (l : Launch) (Z : State) (a0 : Array Value) (hw : ∀ d ∈ tables_1, d.before a0 Z = true) (ws : List Jvm.Cond) (x q f : Nat) (cs ds : List Int32) (nb : Nat) (G1 : Int32) (h0 : Heap) (n0 : Nat) (Z0 : n0 ≤ h0.size) (X00 : Old Z n0 h0) (F1 : Fld Z h0 x "com/example/veild/veild/policy/Constraint$Relation" "same" "Z" (.int (1 : Int32))) (Sq : own_Str Z nb h0 q cs) (Sf : own_Str Z nb h0 f ds) (O2 : Sta Z Z.heap "java/lang/String" "COMPACT_STRINGS" "Z" (.int G1)) (P5 : ¬ (G1 = (0 : Int32))) :
    MetFree l (⟨"com/example/veild/veild/policy/Constraint$Relation", "holds", "(Ljava/lang/String;Ljava/lang/String;)Z"⟩ : MethodName) (head1 (Jvm.Cond.code (⟨"com/example/veild/veild/policy/Constraint$Relation", "holds", "(Ljava/lang/String;Ljava/lang/String;)Z"⟩ : MethodName) prog_12_method_6_code 3 (some .boolean) :: ws) ({ frames := 2, cells := 0, slots := 0, locals := 32 } : Room)) (fun av_ U => av_ = #[(.ref x), (.ref q), (.ref f)] ∧ Z.Warmed39 U.vm ∧ U.heap = h0) (fun _ _ _ _ _ => True) (own_EN (fun (v : Option Value) (h : Heap) (L : List Loc) => ((v = some (.int (1 : Int32)) ∧ cs = ds) ∨ (v = some (.int (0 : Int32)) ∧ ¬ cs = ds)) ∧ Fr n0 L ∧ h = h0) ({ frames := 2, cells := 0, slots := 0, locals := 32 } : Room)) := by
  refine MetFree.of_bodySF (plainFor_of_name own_pn1) hisR ?_
  intro p e s m args below meth c s₁ Bd hml0 hP hK
  obtain ⟨rfl, hZ, hh⟩ := hP
  have hx := Bd.exec
  have hby := Bd.bytes
  have hml : c.maxLocals = 3 := hml0
  have hown : s.vm.findClass "com/example/veild/veild/policy/Constraint$Relation" = some m.cls := findClass_of_methodNamed Bd.named
  have hnm := (name_of_methodNamed Bd.named Bd.method).1
  have X0 : Stand p l e ({ frames := 2, cells := 0, slots := 0, locals := 32 } : Room) s m #[(.ref x), (.ref q), (.ref f)] below meth c s₁ [] 0 0 := Stand.of_body Bd
  have e0 : s₁.heap = h0 := by rw [← hh, Bd.state]; rfl
  have N0 := Fr.nil n0
  have K0 : Keep h0 h0 [] := Keep.refl h0 []
  refine show own_G p e below (own_EN (fun (v : Option Value) (h : Heap) (L : List Loc) => ((v = some (.int (1 : Int32)) ∧ cs = ds) ∨ (v = some (.int (0 : Int32)) ∧ ¬ cs = ds)) ∧ Fr n0 L ∧ h = h0) ({ frames := 2, cells := 0, slots := 0, locals := 32 } : Room) #[(.ref x), (.ref q), (.ref f)] s) _ from ?_
  refine own_st (fun tq kq => castTop (ef_own_holds1 m (x) (q) (f)) kq) ?_
  show own_G p e below _ (s₁.setTop (mkF m 0 #[.val (.ref x), .val (.ref q), .val (.ref f)] []))
  refine own_st (fun tq kq => XS.aloadN X0.here hx rfl (hb hby dHO1_0) rfl rfl kq) ?_
  refine own_st (fun tq kq => XS.aloadN X0.here hx rfl (hb hby dHO1_1) rfl rfl kq) ?_
  show own_G p e below _ (s₁.setTop (mkF m 2 #[.val (.ref x), .val (.ref q), .val (.ref f)] [(.ref f), (.ref q)]))
  obtain ⟨-, E1_1, hb1_1, ln1_1, t1_1, kb1_1, -, V1_1, C1_1, A1_1⟩ := id Sq
  obtain ⟨-, E2_1, hb2_1, ln2_1, t2_1, kb2_1, -, V2_1, C2_1, A2_1⟩ := id Sf
  obtain ⟨cq1, kq1, q1a, q1b, q1c⟩ := isOf hZ e0 Sq.2.1
  obtain ⟨_, _, ⟨T1, L1, k1, n1⟩, -, X1, ⟨Lc1, hQ1, l1, y1, z1⟩, st1⟩ := X0.virtualBack hx (y := (⟨"java/lang/String", "equals", "(Ljava/lang/Object;)Z"⟩ : MethodName)) (z := (⟨"java/lang/String", "equals", "(Ljava/lang/Object;)Z"⟩ : MethodName)) hown (mvT hZ (hw _ (List.mem_of_getElem? (i := 41) rfl))) (mvT hZ (hw _ (List.mem_of_getElem? (i := 42) rfl))) (notFace_of_selects (args := #[]) (mvT hZ (hw _ (List.mem_of_getElem? (i := 44) rfl)))) (mvT hZ (hw _ (List.mem_of_getElem? (i := 44) rfl))) (mvT hZ (hw _ (List.mem_of_getElem? (i := 43) rfl))) (by decide) (StrChars.Road.eqW (W := 0) hZ (own_wEq hw) (kI := 4) (hw _ (List.mem_of_getElem? (i := 5) rfl)) E1_1 V1_1 C1_1 A1_1 (StrChars.Road.codOf rfl (fun c hc => (hb1_1 c hc).2)) (own_up hb1_1) ln1_1 E2_1 V2_1 C2_1 A2_1 (StrChars.Road.codOf rfl (fun c hc => (hb2_1 c hc).2)) (own_up hb2_1) ln2_1 (O2.ext (X00.keep K0 all0).2) P5 (by decide) (by decide)) q1a q1c (g := (mkF m 2 #[.val (.ref x), .val (.ref q), .val (.ref f)] [(.ref f), (.ref q)])) rfl (by rw [hml]; rfl) (Steps.refl _) (argsL := [(.ref f)]) (rest := []) (lenOf own_pd1 rfl) rfl (by show 2 * 0 + _ ≤ _; exact Nat.le_of_eq rfl) (hb hby dHO1_2) (fun _ _ => ⟨rfl, e0, (by decide : 0 + 0 ≤ _), (by decide : 0 + 0 ≤ _)⟩)
  dsimp only [Pt.U, Pt.locs, Pt.cells, Pt.slots] at X1 l1 y1 z1 st1 hQ1
  subst l1 y1 z1
  obtain ⟨hr1, rfl, sm1⟩ := hQ1
  have N1 := Fr.app N0 (Fr.nil n0)
  rcases hr1 with ⟨rfl, eq1⟩ | ⟨rfl, eq1⟩
  ·
    refine own_st (fun tq kq => st1.trans kq) ?_
    show own_G p e below _ (T1.setTop (mkF m 5 #[.val (.ref x), .val (.ref q), .val (.ref f)] [(.int (1 : Int32))]))
    refine own_st (fun tq kq => XS.aloadN X1.here hx rfl (hb hby dHO1_5) rfl rfl kq) ?_
    show own_G p e below _ (T1.setTop (mkF m 6 #[.val (.ref x), .val (.ref q), .val (.ref f)] [(.ref x), (.int (1 : Int32))]))
    obtain ⟨T2, X2, e2, st2⟩ := getF X1 hx hZ hown (host := "") (Or.inl (hw _ (List.mem_of_getElem? (i := 51) rfl))) Via.refl sm1 F1 (g := (mkF m 6 #[.val (.ref x), .val (.ref q), .val (.ref f)] [(.ref x), (.int (1 : Int32))])) rfl rfl (hb hby dHO1_6)
    refine own_st st2 ?_
    show own_G p e below _ (T2.setTop (mkF m 9 #[.val (.ref x), .val (.ref q), .val (.ref f)] [(.int (1 : Int32)), (.int (1 : Int32))]))
    refine own_st (fun tq kq => XS.icmpNo X2.here hx rfl (hb hby dHO1_9) rfl (teq (by decide : ((1 : Int32) = (1 : Int32)))).2 kq) ?_
    refine own_st (fun tq kq => XS.iconst X2.here hx rfl (hb hby dHO1_12) kq) ?_
    refine own_st (fun tq kq => XS.goto X2.here hx rfl (pc0 := 13) (pc' := 17) rfl (hb hby dHO1_13) (by decide) (by decide) kq) ?_
    show own_G p e below _ (T2.setTop (mkF m 17 #[.val (.ref x), .val (.ref q), .val (.ref f)] [(.int (1 : Int32))]))
    obtain ⟨fs, hr, hrun, hended, hW, hsame⟩ := X2.leave (v := some (.int (1 : Int32))) (fun h => by rw [Bd.returns] at h; cases h)
    refine ⟨_, _, retN X2 hx (t := .boolean) Bd.returns (by simp) (hb hby dHO1_17) hr, hrun, hended, _, _, rfl, ?_, ⟨_, rfl⟩, hW, hsame.mono (by decide) (by decide)⟩
    change (fun (v : Option Value) (h : Heap) (L : List Loc) => ((v = some (.int (1 : Int32)) ∧ cs = ds) ∨ (v = some (.int (0 : Int32)) ∧ ¬ cs = ds)) ∧ Fr n0 L ∧ h = h0) (some (.int (1 : Int32))) T2.heap _; rw [e2]; exact ⟨Or.inl ⟨rfl, eq1⟩, N1, rfl⟩
  ·
    refine own_st (fun tq kq => st1.trans kq) ?_
    show own_G p e below _ (T1.setTop (mkF m 5 #[.val (.ref x), .val (.ref q), .val (.ref f)] [(.int (0 : Int32))]))
    refine own_st (fun tq kq => XS.aloadN X1.here hx rfl (hb hby dHO1_5) rfl rfl kq) ?_
    show own_G p e below _ (T1.setTop (mkF m 6 #[.val (.ref x), .val (.ref q), .val (.ref f)] [(.ref x), (.int (0 : Int32))]))
    obtain ⟨T3, X3, e3, st3⟩ := getF X1 hx hZ hown (host := "") (Or.inl (hw _ (List.mem_of_getElem? (i := 51) rfl))) Via.refl sm1 F1 (g := (mkF m 6 #[.val (.ref x), .val (.ref q), .val (.ref f)] [(.ref x), (.int (0 : Int32))])) rfl rfl (hb hby dHO1_6)
    refine own_st st3 ?_
    show own_G p e below _ (T3.setTop (mkF m 9 #[.val (.ref x), .val (.ref q), .val (.ref f)] [(.int (1 : Int32)), (.int (0 : Int32))]))
    refine own_st (fun tq kq => XS.icmpYes X3.here hx rfl (pc0 := 9) (pc' := 16) rfl (hb hby dHO1_9) rfl (feq (by decide : ¬ ((0 : Int32) = (1 : Int32)))).2 (by decide) (by decide) kq) ?_
    refine own_st (fun tq kq => XS.iconst X3.here hx rfl (hb hby dHO1_16) kq) ?_
    show own_G p e below _ (T3.setTop (mkF m 17 #[.val (.ref x), .val (.ref q), .val (.ref f)] [(.int (0 : Int32))]))
    obtain ⟨fs, hr, hrun, hended, hW, hsame⟩ := X3.leave (v := some (.int (0 : Int32))) (fun h => by rw [Bd.returns] at h; cases h)
    refine ⟨_, _, retN X3 hx (t := .boolean) Bd.returns (by simp) (hb hby dHO1_17) hr, hrun, hended, _, _, rfl, ?_, ⟨_, rfl⟩, hW, hsame.mono (by decide) (by decide)⟩
    change (fun (v : Option Value) (h : Heap) (L : List Loc) => ((v = some (.int (1 : Int32)) ∧ cs = ds) ∨ (v = some (.int (0 : Int32)) ∧ ¬ cs = ds)) ∧ Fr n0 L ∧ h = h0) (some (.int (0 : Int32))) T3.heap _; rw [e3]; exact ⟨Or.inr ⟨rfl, eq1⟩, N1, rfl⟩

theorem ef_own_holds0 (m : MethodId) (x0 : Nat) (x1 : Nat) (x2 : Nat) : entryFrame m #[(.ref x0), (.ref x1), (.ref x2)] 3 = mkF m 0 #[.val (.ref x0), .val (.ref x1), .val (.ref x2)] [] := by first | (simp [entryFrame, mkF, argsToLocals, Value.category]; done) | rfl
set_option maxRecDepth 65536 in
set_option maxHeartbeats 40000000 in
theorem own_holds0 (l : Launch) (Z : State) (a0 : Array Value) (hw : ∀ d ∈ tables_1, d.before a0 Z = true) (ws : List Jvm.Cond) (x q f : Nat) (cs ds : List Int32) (nb : Nat) (G1 : Int32) (h0 : Heap) (n0 : Nat) (Z0 : n0 ≤ h0.size) (X00 : Old Z n0 h0) (F1 : Fld Z h0 x "com/example/veild/veild/policy/Constraint$Relation" "same" "Z" (.int (0 : Int32))) (Sq : own_Str Z nb h0 q cs) (Sf : own_Str Z nb h0 f ds) (O2 : Sta Z Z.heap "java/lang/String" "COMPACT_STRINGS" "Z" (.int G1)) (P5 : ¬ (G1 = (0 : Int32))) :
    MetFree l (⟨"com/example/veild/veild/policy/Constraint$Relation", "holds", "(Ljava/lang/String;Ljava/lang/String;)Z"⟩ : MethodName) (head1 (Jvm.Cond.code (⟨"com/example/veild/veild/policy/Constraint$Relation", "holds", "(Ljava/lang/String;Ljava/lang/String;)Z"⟩ : MethodName) prog_12_method_6_code 3 (some .boolean) :: ws) ({ frames := 2, cells := 0, slots := 0, locals := 32 } : Room)) (fun av_ U => av_ = #[(.ref x), (.ref q), (.ref f)] ∧ Z.Warmed39 U.vm ∧ U.heap = h0) (fun _ _ _ _ _ => True) (own_EN (fun (v : Option Value) (h : Heap) (L : List Loc) => ((v = some (.int (0 : Int32)) ∧ cs = ds) ∨ (v = some (.int (1 : Int32)) ∧ ¬ cs = ds)) ∧ Fr n0 L ∧ h = h0) ({ frames := 2, cells := 0, slots := 0, locals := 32 } : Room)) := by
  refine MetFree.of_bodySF (plainFor_of_name own_pn1) hisR ?_
  intro p e s m args below meth c s₁ Bd hml0 hP hK
  obtain ⟨rfl, hZ, hh⟩ := hP
  have hx := Bd.exec
  have hby := Bd.bytes
  have hml : c.maxLocals = 3 := hml0
  have hown : s.vm.findClass "com/example/veild/veild/policy/Constraint$Relation" = some m.cls := findClass_of_methodNamed Bd.named
  have hnm := (name_of_methodNamed Bd.named Bd.method).1
  have X0 : Stand p l e ({ frames := 2, cells := 0, slots := 0, locals := 32 } : Room) s m #[(.ref x), (.ref q), (.ref f)] below meth c s₁ [] 0 0 := Stand.of_body Bd
  have e0 : s₁.heap = h0 := by rw [← hh, Bd.state]; rfl
  have N0 := Fr.nil n0
  have K0 : Keep h0 h0 [] := Keep.refl h0 []
  refine show own_G p e below (own_EN (fun (v : Option Value) (h : Heap) (L : List Loc) => ((v = some (.int (0 : Int32)) ∧ cs = ds) ∨ (v = some (.int (1 : Int32)) ∧ ¬ cs = ds)) ∧ Fr n0 L ∧ h = h0) ({ frames := 2, cells := 0, slots := 0, locals := 32 } : Room) #[(.ref x), (.ref q), (.ref f)] s) _ from ?_
  refine own_st (fun tq kq => castTop (ef_own_holds0 m (x) (q) (f)) kq) ?_
  show own_G p e below _ (s₁.setTop (mkF m 0 #[.val (.ref x), .val (.ref q), .val (.ref f)] []))
  refine own_st (fun tq kq => XS.aloadN X0.here hx rfl (hb hby dHO0_0) rfl rfl kq) ?_
  refine own_st (fun tq kq => XS.aloadN X0.here hx rfl (hb hby dHO0_1) rfl rfl kq) ?_
  show own_G p e below _ (s₁.setTop (mkF m 2 #[.val (.ref x), .val (.ref q), .val (.ref f)] [(.ref f), (.ref q)]))
  obtain ⟨-, E1_1, hb1_1, ln1_1, t1_1, kb1_1, -, V1_1, C1_1, A1_1⟩ := id Sq
  obtain ⟨-, E2_1, hb2_1, ln2_1, t2_1, kb2_1, -, V2_1, C2_1, A2_1⟩ := id Sf
  obtain ⟨cq1, kq1, q1a, q1b, q1c⟩ := isOf hZ e0 Sq.2.1
  obtain ⟨_, _, ⟨T1, L1, k1, n1⟩, -, X1, ⟨Lc1, hQ1, l1, y1, z1⟩, st1⟩ := X0.virtualBack hx (y := (⟨"java/lang/String", "equals", "(Ljava/lang/Object;)Z"⟩ : MethodName)) (z := (⟨"java/lang/String", "equals", "(Ljava/lang/Object;)Z"⟩ : MethodName)) hown (mvT hZ (hw _ (List.mem_of_getElem? (i := 41) rfl))) (mvT hZ (hw _ (List.mem_of_getElem? (i := 42) rfl))) (notFace_of_selects (args := #[]) (mvT hZ (hw _ (List.mem_of_getElem? (i := 44) rfl)))) (mvT hZ (hw _ (List.mem_of_getElem? (i := 44) rfl))) (mvT hZ (hw _ (List.mem_of_getElem? (i := 43) rfl))) (by decide) (StrChars.Road.eqW (W := 0) hZ (own_wEq hw) (kI := 4) (hw _ (List.mem_of_getElem? (i := 5) rfl)) E1_1 V1_1 C1_1 A1_1 (StrChars.Road.codOf rfl (fun c hc => (hb1_1 c hc).2)) (own_up hb1_1) ln1_1 E2_1 V2_1 C2_1 A2_1 (StrChars.Road.codOf rfl (fun c hc => (hb2_1 c hc).2)) (own_up hb2_1) ln2_1 (O2.ext (X00.keep K0 all0).2) P5 (by decide) (by decide)) q1a q1c (g := (mkF m 2 #[.val (.ref x), .val (.ref q), .val (.ref f)] [(.ref f), (.ref q)])) rfl (by rw [hml]; rfl) (Steps.refl _) (argsL := [(.ref f)]) (rest := []) (lenOf own_pd1 rfl) rfl (by show 2 * 0 + _ ≤ _; exact Nat.le_of_eq rfl) (hb hby dHO0_2) (fun _ _ => ⟨rfl, e0, (by decide : 0 + 0 ≤ _), (by decide : 0 + 0 ≤ _)⟩)
  dsimp only [Pt.U, Pt.locs, Pt.cells, Pt.slots] at X1 l1 y1 z1 st1 hQ1
  subst l1 y1 z1
  obtain ⟨hr1, rfl, sm1⟩ := hQ1
  have N1 := Fr.app N0 (Fr.nil n0)
  rcases hr1 with ⟨rfl, eq1⟩ | ⟨rfl, eq1⟩
  ·
    refine own_st (fun tq kq => st1.trans kq) ?_
    show own_G p e below _ (T1.setTop (mkF m 5 #[.val (.ref x), .val (.ref q), .val (.ref f)] [(.int (1 : Int32))]))
    refine own_st (fun tq kq => XS.aloadN X1.here hx rfl (hb hby dHO0_5) rfl rfl kq) ?_
    show own_G p e below _ (T1.setTop (mkF m 6 #[.val (.ref x), .val (.ref q), .val (.ref f)] [(.ref x), (.int (1 : Int32))]))
    obtain ⟨T2, X2, e2, st2⟩ := getF X1 hx hZ hown (host := "") (Or.inl (hw _ (List.mem_of_getElem? (i := 51) rfl))) Via.refl sm1 F1 (g := (mkF m 6 #[.val (.ref x), .val (.ref q), .val (.ref f)] [(.ref x), (.int (1 : Int32))])) rfl rfl (hb hby dHO0_6)
    refine own_st st2 ?_
    show own_G p e below _ (T2.setTop (mkF m 9 #[.val (.ref x), .val (.ref q), .val (.ref f)] [(.int (0 : Int32)), (.int (1 : Int32))]))
    refine own_st (fun tq kq => XS.icmpYes X2.here hx rfl (pc0 := 9) (pc' := 16) rfl (hb hby dHO0_9) rfl (feq (by decide : ¬ ((1 : Int32) = (0 : Int32)))).2 (by decide) (by decide) kq) ?_
    refine own_st (fun tq kq => XS.iconst X2.here hx rfl (hb hby dHO0_16) kq) ?_
    show own_G p e below _ (T2.setTop (mkF m 17 #[.val (.ref x), .val (.ref q), .val (.ref f)] [(.int (0 : Int32))]))
    obtain ⟨fs, hr, hrun, hended, hW, hsame⟩ := X2.leave (v := some (.int (0 : Int32))) (fun h => by rw [Bd.returns] at h; cases h)
    refine ⟨_, _, retN X2 hx (t := .boolean) Bd.returns (by simp) (hb hby dHO0_17) hr, hrun, hended, _, _, rfl, ?_, ⟨_, rfl⟩, hW, hsame.mono (by decide) (by decide)⟩
    change (fun (v : Option Value) (h : Heap) (L : List Loc) => ((v = some (.int (0 : Int32)) ∧ cs = ds) ∨ (v = some (.int (1 : Int32)) ∧ ¬ cs = ds)) ∧ Fr n0 L ∧ h = h0) (some (.int (0 : Int32))) T2.heap _; rw [e2]; exact ⟨Or.inl ⟨rfl, eq1⟩, N1, rfl⟩
  ·
    refine own_st (fun tq kq => st1.trans kq) ?_
    show own_G p e below _ (T1.setTop (mkF m 5 #[.val (.ref x), .val (.ref q), .val (.ref f)] [(.int (0 : Int32))]))
    refine own_st (fun tq kq => XS.aloadN X1.here hx rfl (hb hby dHO0_5) rfl rfl kq) ?_
    show own_G p e below _ (T1.setTop (mkF m 6 #[.val (.ref x), .val (.ref q), .val (.ref f)] [(.ref x), (.int (0 : Int32))]))
    obtain ⟨T3, X3, e3, st3⟩ := getF X1 hx hZ hown (host := "") (Or.inl (hw _ (List.mem_of_getElem? (i := 51) rfl))) Via.refl sm1 F1 (g := (mkF m 6 #[.val (.ref x), .val (.ref q), .val (.ref f)] [(.ref x), (.int (0 : Int32))])) rfl rfl (hb hby dHO0_6)
    refine own_st st3 ?_
    show own_G p e below _ (T3.setTop (mkF m 9 #[.val (.ref x), .val (.ref q), .val (.ref f)] [(.int (0 : Int32)), (.int (0 : Int32))]))
    refine own_st (fun tq kq => XS.icmpNo X3.here hx rfl (hb hby dHO0_9) rfl (teq (by decide : ((0 : Int32) = (0 : Int32)))).2 kq) ?_
    refine own_st (fun tq kq => XS.iconst X3.here hx rfl (hb hby dHO0_12) kq) ?_
    refine own_st (fun tq kq => XS.goto X3.here hx rfl (pc0 := 13) (pc' := 17) rfl (hb hby dHO0_13) (by decide) (by decide) kq) ?_
    show own_G p e below _ (T3.setTop (mkF m 17 #[.val (.ref x), .val (.ref q), .val (.ref f)] [(.int (1 : Int32))]))
    obtain ⟨fs, hr, hrun, hended, hW, hsame⟩ := X3.leave (v := some (.int (1 : Int32))) (fun h => by rw [Bd.returns] at h; cases h)
    refine ⟨_, _, retN X3 hx (t := .boolean) Bd.returns (by simp) (hb hby dHO0_17) hr, hrun, hended, _, _, rfl, ?_, ⟨_, rfl⟩, hW, hsame.mono (by decide) (by decide)⟩
    change (fun (v : Option Value) (h : Heap) (L : List Loc) => ((v = some (.int (0 : Int32)) ∧ cs = ds) ∨ (v = some (.int (1 : Int32)) ∧ ¬ cs = ds)) ∧ Fr n0 L ∧ h = h0) (some (.int (1 : Int32))) T3.heap _; rw [e3]; exact ⟨Or.inr ⟨rfl, eq1⟩, N1, rfl⟩

theorem own_i2cn (x : Int32) : nar .char (x.toUInt32.toUInt16.toUInt32.toInt32) = x.toUInt32.toUInt16.toUInt32.toInt32 := by simp only [nar, UInt32.toUInt32_toInt32, UInt16.toUInt16_toUInt32]
theorem own_rem3 (x : Int32) : (x &&& (3 : Int32)) % (3 : Int32) = 0 ∨ (x &&& (3 : Int32)) % (3 : Int32) = 1 ∨ (x &&& (3 : Int32)) % (3 : Int32) = 2 := by
  have h := c_and x (3 : Int32) (by decide)
  have e3 : (3 : Int32).toInt = 3 := rfl
  have e0 : (0 : Int32).toInt = 0 := rfl
  have e1 : (1 : Int32).toInt = 1 := rfl
  have e2 : (2 : Int32).toInt = 2 := rfl
  have q := (c_irem (x &&& (3 : Int32)) (3 : Int32) 3 rfl).1 h.1
  simp only [← Int32.toInt_inj, q, e0, e1, e2]
  omega

theorem ef_rm0 (m : MethodId) (x0 : Int32) (x1 : Int32) (x2 : Int32) : entryFrame m #[(.int x0), (.int x1), (.int x2)] maxLocals = mkF m 0 #[.val (.int x0), .val (.int x1), .val (.int x2), .unset, .unset, .unset, .unset, .unset, .unset, .unset, .unset, .unset, .unset, .unset, .unset, .unset, .unset] [] := by first | (simp [entryFrame, mkF, argsToLocals, Value.category, maxLocals]; done) | rfl
set_option maxRecDepth 65536 in
set_option maxHeartbeats 40000000 in
theorem rm0 (l : Launch) (Z : State) (a0 : Array Value) (hw : ∀ d ∈ tables_1, d.before a0 Z = true) (hEL : EW Z a0 consts_1) (ws : List Jvm.Cond) (p0 p1 p2 G1 : Int32) (wS wD : Nat) (h0 : Heap) (n0 : Nat) (Z0 : n0 ≤ h0.size) (X00 : Old Z n0 h0) (O2 : Sta Z Z.heap "java/lang/String" "COMPACT_STRINGS" "Z" (.int G1)) (P5 : ¬ (G1 = (0 : Int32))) (OS : Sta Z Z.heap "com/example/veild/veild/policy/Constraint$Relation" "SAME_USER" "Lcom/example/veild/veild/policy/Constraint$Relation;" (.ref wS)) (OD : Sta Z Z.heap "com/example/veild/veild/policy/Constraint$Relation" "DIFFERENT_USER" "Lcom/example/veild/veild/policy/Constraint$Relation;" (.ref wD)) (ES : Exa Z Z.heap wS "com/example/veild/veild/policy/Constraint$Relation") (ED : Exa Z Z.heap wD "com/example/veild/veild/policy/Constraint$Relation") (FS : Fld Z Z.heap wS "com/example/veild/veild/policy/Constraint$Relation" "same" "Z" (.int (1 : Int32))) (FD : Fld Z Z.heap wD "com/example/veild/veild/policy/Constraint$Relation" "same" "Z" (.int (0 : Int32))) :
    MetFree l x (head1 (Jvm.Cond.code x code maxLocals ret :: ws) room_1) (own_P Z consts_1 #[(.int p0), (.int p1), (.int p2)] h0 []) (fun _ _ _ _ _ => True) (own_E Z consts_1 (fun (v : Option Value) (_ : Vm) (h : Heap) (L : List Loc) => v = some (.int (1 : Int32)) ∧ Fr n0 L) room_1) := by
  refine MetFree.of_bodySF (plainFor_of_name own_pn2) hisR ?_
  intro p e s m args below meth c s₁ Bd hml0 hP hK
  obtain ⟨rfl, hZ, hh, hCH, hSafe⟩ := hP
  have hx := Bd.exec
  have hby := Bd.bytes
  have hml : c.maxLocals = 17 := hml0
  have hown : s.vm.findClass "com/example/veild/veild/policy/RelationHoldsPinLaw" = some m.cls := findClass_of_methodNamed Bd.named
  have hnm := (name_of_methodNamed Bd.named Bd.method).1
  have X0 : Stand p l e room_1 (s.setVm s.vm) m #[(.int p0), (.int p1), (.int p2)] below meth c s₁ [] 0 0 := Stand.of_body Bd
  have e0 : s₁.heap = h0 := by rw [← hh, Bd.state]; rfl
  have N0 := Fr.nil n0
  have K0 : Keep h0 h0 [] := Keep.refl h0 []
  have S0 : s.Since s.vm 0 := own_since s
  have C0 : CHr Z consts_1 s.vm h0 s.vm h0 := CHr.refl hCH
  refine show own_G p e below (own_E Z consts_1 (fun (v : Option Value) (_ : Vm) (h : Heap) (L : List Loc) => v = some (.int (1 : Int32)) ∧ Fr n0 L) room_1 #[(.int p0), (.int p1), (.int p2)] s) _ from ?_
  have tail : ∀ (T : State) (rl : Nat) (sm lu lr u0 u1 r0 r1 : Int32), Stand p l e room_1 (s.setVm s.vm) m #[(.int p0), (.int p1), (.int p2)] below meth c T [] 0 0 → T.heap = h0 → (sm = 1 ∨ sm = 0) → (Exa Z Z.heap rl "com/example/veild/veild/policy/Constraint$Relation") → (Fld Z Z.heap rl "com/example/veild/veild/policy/Constraint$Relation" "same" "Z" (.int sm)) → (lu = 0 ∨ lu = 1 ∨ lu = 2) → (lr = 0 ∨ lr = 1 ∨ lr = 2) → (¬ nar .char u0 < 0 ∧ ¬ (255 : Int32) < nar .char u0) → (¬ nar .char u1 < 0 ∧ ¬ (255 : Int32) < nar .char u1) → (¬ nar .char r0 < 0 ∧ ¬ (255 : Int32) < nar .char r0) → (¬ nar .char r1 < 0 ∧ ¬ (255 : Int32) < nar .char r1) → (nar .char u0 = u0) → (nar .char u1 = u1) → (nar .char r0 = r0) → (nar .char r1 = r1) → own_G p e below (own_E Z consts_1 (fun (v : Option Value) (_ : Vm) (h : Heap) (L : List Loc) => v = some (.int (1 : Int32)) ∧ Fr n0 L) room_1 #[(.int p0), (.int p1), (.int p2)] s) (T.setTop (mkF m 119 #[.val (.int p0), .val (.int p1), .val (.int p2), .val (.int sm), .val (.ref rl), .val (.int lu), .val (.int lr), .val (.int u0), .val (.int u1), .val (.int r0), .val (.int r1), .unset, .unset, .unset, .unset, .unset, .unset] [])) := by
    intro T rl sm lu lr u0 u1 r0 r1 X0 e0 hsm Er Fr1 hlu hlr hu0 hu1 hr0 hr1 nu0 nu1 nr0 nr1
    rcases hlu with rfl | rfl | rfl <;> rcases hlr with rfl | rfl | rfl
    ·
      show own_G p e below _ (T.setTop (mkF m 119 #[.val (.int p0), .val (.int p1), .val (.int p2), .val (.int sm), .val (.ref rl), .val (.int (0 : Int32)), .val (.int (0 : Int32)), .val (.int u0), .val (.int u1), .val (.int r0), .val (.int r1), .unset, .unset, .unset, .unset, .unset, .unset] []))
      refine own_st (fun tq kq => XS.iload X0.here hx rfl (hb hby at_119) rfl  kq) ?_
      show own_G p e below _ (T.setTop (mkF m 121 #[.val (.int p0), .val (.int p1), .val (.int p2), .val (.int sm), .val (.ref rl), .val (.int (0 : Int32)), .val (.int (0 : Int32)), .val (.int u0), .val (.int u1), .val (.int r0), .val (.int r1), .unset, .unset, .unset, .unset, .unset, .unset] [(.int (0 : Int32))]))
      obtain ⟨T1, h1, k1, X1, e1, E1, A1, st1⟩ := newP X0 hx hZ (hw _ (List.mem_of_getElem? (i := 3) rfl)) e0 (g := (mkF m 121 #[.val (.int p0), .val (.int p1), .val (.int p2), .val (.int sm), .val (.ref rl), .val (.int (0 : Int32)), .val (.int (0 : Int32)), .val (.int u0), .val (.int u1), .val (.int r0), .val (.int r1), .unset, .unset, .unset, .unset, .unset, .unset] [(.int (0 : Int32))])) rfl (hb hby at_121) rfl (by decide) (cap := 0) (by decide) (by decide) (by decide) (by decide)
      obtain ⟨b1, g1⟩ : ∃ z, z = h0.size := ⟨_, rfl⟩
      rw [← g1] at A1 st1
      have lt1 : b1 < h1.size := A1.lt
      have V1 : Arv Z h1 b1 k1 .char (0 : Int32) [] (.int (0 : Int32)) := Arv.new A1 (by decide)
      have sz1 : h0.size ≤ h1.size := E1.1
      have K1 : Keep h0 h1 [] := K0.ext E1
      have c1 : CHr Z consts_1 s.vm h0 s.vm h1 := CHr.ext E1 C0.1
      have C1 := C0.trans c1
      refine own_st st1 ?_
      show own_G p e below _ (T1.setTop (mkF m 123 #[.val (.int p0), .val (.int p1), .val (.int p2), .val (.int sm), .val (.ref rl), .val (.int (0 : Int32)), .val (.int (0 : Int32)), .val (.int u0), .val (.int u1), .val (.int r0), .val (.int r1), .unset, .unset, .unset, .unset, .unset, .unset] [(.ref b1)]))
      refine own_st (fun tq kq => XS.astore X1.here hx rfl (hb hby at_123) rfl rfl (l' := #[.val (.int p0), .val (.int p1), .val (.int p2), .val (.int sm), .val (.ref rl), .val (.int (0 : Int32)), .val (.int (0 : Int32)), .val (.int u0), .val (.int u1), .val (.int r0), .val (.int r1), .val (.ref b1), .unset, .unset, .unset, .unset, .unset]) rfl kq) ?_
      refine own_st (fun tq kq => XS.iload X1.here hx rfl (hb hby at_125) rfl  kq) ?_
      show own_G p e below _ (T1.setTop (mkF m 127 #[.val (.int p0), .val (.int p1), .val (.int p2), .val (.int sm), .val (.ref rl), .val (.int (0 : Int32)), .val (.int (0 : Int32)), .val (.int u0), .val (.int u1), .val (.int r0), .val (.int r1), .val (.ref b1), .unset, .unset, .unset, .unset, .unset] [(.int (0 : Int32))]))
      refine own_st (fun tq kq => XS.ifYes X1.here hx rfl (pc0 := 127) (pc' := 136) rfl (hb hby at_127) rfl ((if0 _ _).trans (flt (by decide : ¬ ((0 : Int32) < (0 : Int32)))).2.2.2) (by decide) (by decide) kq) ?_
      refine own_st (fun tq kq => XS.iload X1.here hx rfl (hb hby at_136) rfl  kq) ?_
      refine own_st (fun tq kq => XS.iconst X1.here hx rfl (hb hby at_138) kq) ?_
      show own_G p e below _ (T1.setTop (mkF m 139 #[.val (.int p0), .val (.int p1), .val (.int p2), .val (.int sm), .val (.ref rl), .val (.int (0 : Int32)), .val (.int (0 : Int32)), .val (.int u0), .val (.int u1), .val (.int r0), .val (.int r1), .val (.ref b1), .unset, .unset, .unset, .unset, .unset] [(.int (1 : Int32)), (.int (0 : Int32))]))
      refine own_st (fun tq kq => XS.icmpYes X1.here hx rfl (pc0 := 139) (pc' := 148) rfl (hb hby at_139) rfl (flt (by decide : ¬ ((1 : Int32) < (0 : Int32)))).2.2.2 (by decide) (by decide) kq) ?_
      refine own_st (fun tq kq => XS.iload X1.here hx rfl (hb hby at_148) rfl  kq) ?_
      show own_G p e below _ (T1.setTop (mkF m 150 #[.val (.int p0), .val (.int p1), .val (.int p2), .val (.int sm), .val (.ref rl), .val (.int (0 : Int32)), .val (.int (0 : Int32)), .val (.int u0), .val (.int u1), .val (.int r0), .val (.int r1), .val (.ref b1), .unset, .unset, .unset, .unset, .unset] [(.int (0 : Int32))]))
      obtain ⟨T2, h2, k2, X2, e2, E2, A2, st2⟩ := newP X1 hx hZ (hw _ (List.mem_of_getElem? (i := 3) rfl)) e1 (g := (mkF m 150 #[.val (.int p0), .val (.int p1), .val (.int p2), .val (.int sm), .val (.ref rl), .val (.int (0 : Int32)), .val (.int (0 : Int32)), .val (.int u0), .val (.int u1), .val (.int r0), .val (.int r1), .val (.ref b1), .unset, .unset, .unset, .unset, .unset] [(.int (0 : Int32))])) rfl (hb hby at_150) rfl (by decide) (cap := 0) (by decide) (by decide) (by decide) (by decide)
      obtain ⟨b2, g2⟩ : ∃ z, z = h1.size := ⟨_, rfl⟩
      rw [← g2] at A2 st2
      have lt2 : b2 < h2.size := A2.lt
      have V2 : Arv Z h2 b2 k2 .char (0 : Int32) [] (.int (0 : Int32)) := Arv.new A2 (by decide)
      have sz2 : h1.size ≤ h2.size := E2.1
      have K2 : Keep h0 h2 [] := K1.ext E2
      have c2 : CHr Z consts_1 s.vm h1 s.vm h2 := CHr.ext E2 C1.1
      have C2 := C1.trans c2
      refine own_st st2 ?_
      show own_G p e below _ (T2.setTop (mkF m 152 #[.val (.int p0), .val (.int p1), .val (.int p2), .val (.int sm), .val (.ref rl), .val (.int (0 : Int32)), .val (.int (0 : Int32)), .val (.int u0), .val (.int u1), .val (.int r0), .val (.int r1), .val (.ref b1), .unset, .unset, .unset, .unset, .unset] [(.ref b2)]))
      refine own_st (fun tq kq => XS.astore X2.here hx rfl (hb hby at_152) rfl rfl (l' := #[.val (.int p0), .val (.int p1), .val (.int p2), .val (.int sm), .val (.ref rl), .val (.int (0 : Int32)), .val (.int (0 : Int32)), .val (.int u0), .val (.int u1), .val (.int r0), .val (.int r1), .val (.ref b1), .val (.ref b2), .unset, .unset, .unset, .unset]) rfl kq) ?_
      refine own_st (fun tq kq => XS.iload X2.here hx rfl (hb hby at_154) rfl  kq) ?_
      show own_G p e below _ (T2.setTop (mkF m 156 #[.val (.int p0), .val (.int p1), .val (.int p2), .val (.int sm), .val (.ref rl), .val (.int (0 : Int32)), .val (.int (0 : Int32)), .val (.int u0), .val (.int u1), .val (.int r0), .val (.int r1), .val (.ref b1), .val (.ref b2), .unset, .unset, .unset, .unset] [(.int (0 : Int32))]))
      refine own_st (fun tq kq => XS.ifYes X2.here hx rfl (pc0 := 156) (pc' := 165) rfl (hb hby at_156) rfl ((if0 _ _).trans (flt (by decide : ¬ ((0 : Int32) < (0 : Int32)))).2.2.2) (by decide) (by decide) kq) ?_
      refine own_st (fun tq kq => XS.iload X2.here hx rfl (hb hby at_165) rfl  kq) ?_
      refine own_st (fun tq kq => XS.iconst X2.here hx rfl (hb hby at_167) kq) ?_
      show own_G p e below _ (T2.setTop (mkF m 168 #[.val (.int p0), .val (.int p1), .val (.int p2), .val (.int sm), .val (.ref rl), .val (.int (0 : Int32)), .val (.int (0 : Int32)), .val (.int u0), .val (.int u1), .val (.int r0), .val (.int r1), .val (.ref b1), .val (.ref b2), .unset, .unset, .unset, .unset] [(.int (1 : Int32)), (.int (0 : Int32))]))
      refine own_st (fun tq kq => XS.icmpYes X2.here hx rfl (pc0 := 168) (pc' := 177) rfl (hb hby at_168) rfl (flt (by decide : ¬ ((1 : Int32) < (0 : Int32)))).2.2.2 (by decide) (by decide) kq) ?_
      show own_G p e below _ (T2.setTop (mkF m 177 #[.val (.int p0), .val (.int p1), .val (.int p2), .val (.int sm), .val (.ref rl), .val (.int (0 : Int32)), .val (.int (0 : Int32)), .val (.int u0), .val (.int u1), .val (.int r0), .val (.int r1), .val (.ref b1), .val (.ref b2), .unset, .unset, .unset, .unset] []))
      obtain ⟨T3, h3, X3, e3, E3, A3, D3, -, st3⟩ := newO X2 hx hZ hown (hw _ (List.mem_of_getElem? (i := 4) rfl)) (hw _ (List.mem_of_getElem? (i := 5) rfl)) (hw _ (List.mem_of_getElem? (i := 6) rfl)) e2 (g := (mkF m 177 #[.val (.int p0), .val (.int p1), .val (.int p2), .val (.int sm), .val (.ref rl), .val (.int (0 : Int32)), .val (.int (0 : Int32)), .val (.int u0), .val (.int u1), .val (.int r0), .val (.int r1), .val (.ref b1), .val (.ref b2), .unset, .unset, .unset, .unset] [])) rfl (hb hby at_177) (by decide) (by decide)
      obtain ⟨b3, g3⟩ : ∃ z, z = h2.size := ⟨_, rfl⟩
      rw [← g3] at A3 D3 st3
      have lt3 : b3 < h3.size := A3.lt
      have Sn3 : Safe Z consts_1 s.vm h2 b3 := Safe.new (own_le (by omega))
      have sz3 : h2.size ≤ h3.size := E3.1
      have K3 : Keep h0 h3 [] := K2.ext E3
      have c3 : CHr Z consts_1 s.vm h2 s.vm h3 := CHr.ext E3 C2.1
      have C3 := C2.trans c3
      have Sf3 : Safe Z consts_1 s.vm h3 b3 := Safe.ext E3 C2.1 Sn3
      have F3_coder : Fld Z h3 b3 "java/lang/String" "coder" "B" (.int (0 : Int32)) := D3 (Or.inr (hw _ (List.mem_of_getElem? (i := 30) rfl))) (ty := .byte) (by decide)
      have F3_value : Fld Z h3 b3 "java/lang/String" "value" "[B" .null := D3 (Or.inr (hw _ (List.mem_of_getElem? (i := 32) rfl))) (ty := (.array .byte)) (by decide)
      refine own_st st3 ?_
      show own_G p e below _ (T3.setTop (mkF m 180 #[.val (.int p0), .val (.int p1), .val (.int p2), .val (.int sm), .val (.ref rl), .val (.int (0 : Int32)), .val (.int (0 : Int32)), .val (.int u0), .val (.int u1), .val (.int r0), .val (.int r1), .val (.ref b1), .val (.ref b2), .unset, .unset, .unset, .unset] [(.ref b3)]))
      refine own_st (fun tq kq => XS.dup X3.here hx rfl (hb hby at_180) rfl rfl kq) ?_
      refine own_st (fun tq kq => XS.aload X3.here hx rfl (hb hby at_181) rfl rfl kq) ?_
      show own_G p e below _ (T3.setTop (mkF m 183 #[.val (.int p0), .val (.int p1), .val (.int p2), .val (.int sm), .val (.ref rl), .val (.int (0 : Int32)), .val (.int (0 : Int32)), .val (.int u0), .val (.int u1), .val (.int r0), .val (.int r1), .val (.ref b1), .val (.ref b2), .unset, .unset, .unset, .unset] [(.ref b1), (.ref b3), (.ref b3)]))
      have hp4 : ∀ c ∈ ([] : List Int32), ¬ c < 0 ∧ ¬ (255 : Int32) < c := fun c hc => by cases hc
      obtain ⟨_, _, ⟨T4, L4, k4, n4⟩, -, Y4, S4p, gr4, ⟨Lc4, hQ4, l4, y4, z4, c4⟩, st4⟩ := X3.specialBackS hx (y := (⟨"java/lang/String", "<init>", "([C)V"⟩ : MethodName)) rfl hown (mvT hZ (hw _ (List.mem_of_getElem? (i := 7) rfl))) (mvT hZ (hw _ (List.mem_of_getElem? (i := 8) rfl))) (mvT hZ (hw _ (List.mem_of_getElem? (i := 9) rfl))) (by decide) (own_newStr (s := s) (vm0 := s.vm) (W := 1) hZ hw hEL C3.1 (cs := ([] : List Int32)) (n := 0) (n0 := n0) Sf3 (by omega) (X00.keep K3 all0) A3 F3_value F3_coder ((V1.ext E2).ext E3) O2 P5 rfl rfl (by decide) hp4 (by decide) (by decide)) (g := (mkF m 183 #[.val (.int p0), .val (.int p1), .val (.int p2), .val (.int sm), .val (.ref rl), .val (.int (0 : Int32)), .val (.int (0 : Int32)), .val (.int u0), .val (.int u1), .val (.int r0), .val (.int r1), .val (.ref b1), .val (.ref b2), .unset, .unset, .unset, .unset] [(.ref b1), (.ref b3), (.ref b3)])) rfl (by rw [hml]; rfl) (Steps.refl _) (a := b3) (argsL := [(.ref b1)]) (rest := [(.ref b3)]) (lenOf own_pd2 rfl) rfl (by show 2 * 0 + _ ≤ _; exact Nat.le_of_eq rfl) (hb hby at_183) (fun _ _ => ⟨rfl, e3, (by decide : 3 + 2 ≤ _), (by decide : 4 + 4 ≤ _)⟩)
      dsimp only [Pt.U, Pt.locs, Pt.cells, Pt.slots] at Y4 S4p gr4 l4 y4 z4 st4 hQ4 c4
      subst l4 y4 z4
      obtain ⟨X4, S4, Z4, o4⟩ := rebS S0 (by rw [e3]; exact (own_le (by omega))) Y4 S4p gr4 hZ hown
      obtain ⟨rfl, Nq4, Kq4, Str4⟩ := hQ4
      have KK4 : Keep h3 T4.heap [b3] := Kq4
      have sz4 : h3.size ≤ T4.heap.size := KK4.1
      have K4 : Keep h0 T4.heap [] := K3.trans KK4 (allS (Or.inr (own_le (by omega))) all0)
      have C4 := C3.trans c4
      have Sf4_5 := c4.safe (own_lt (by omega)) Sf3
      have N4 := Fr.app N0 Nq4
      refine own_st (fun tq kq => st4.trans kq) ?_
      show own_G p e below _ (T4.setTop (mkF m 186 #[.val (.int p0), .val (.int p1), .val (.int p2), .val (.int sm), .val (.ref rl), .val (.int (0 : Int32)), .val (.int (0 : Int32)), .val (.int u0), .val (.int u1), .val (.int r0), .val (.int r1), .val (.ref b1), .val (.ref b2), .unset, .unset, .unset, .unset] [(.ref b3)]))
      refine own_st (fun tq kq => XS.astore X4.here hx rfl (hb hby at_186) rfl rfl (l' := #[.val (.int p0), .val (.int p1), .val (.int p2), .val (.int sm), .val (.ref rl), .val (.int (0 : Int32)), .val (.int (0 : Int32)), .val (.int u0), .val (.int u1), .val (.int r0), .val (.int r1), .val (.ref b1), .val (.ref b2), .val (.ref b3), .unset, .unset, .unset]) rfl kq) ?_
      show own_G p e below _ (T4.setTop (mkF m 188 #[.val (.int p0), .val (.int p1), .val (.int p2), .val (.int sm), .val (.ref rl), .val (.int (0 : Int32)), .val (.int (0 : Int32)), .val (.int u0), .val (.int u1), .val (.int r0), .val (.int r1), .val (.ref b1), .val (.ref b2), .val (.ref b3), .unset, .unset, .unset] []))
      obtain ⟨T6, h6, X6, e6, E6, A6, D6, -, st6⟩ := newO X4 hx Z4 o4 (hw _ (List.mem_of_getElem? (i := 4) rfl)) (hw _ (List.mem_of_getElem? (i := 5) rfl)) (hw _ (List.mem_of_getElem? (i := 6) rfl)) rfl (g := (mkF m 188 #[.val (.int p0), .val (.int p1), .val (.int p2), .val (.int sm), .val (.ref rl), .val (.int (0 : Int32)), .val (.int (0 : Int32)), .val (.int u0), .val (.int u1), .val (.int r0), .val (.int r1), .val (.ref b1), .val (.ref b2), .val (.ref b3), .unset, .unset, .unset] [])) rfl (hb hby at_188) (by decide) (by decide)
      obtain ⟨b6, g6⟩ : ∃ z, z = T4.heap.size := ⟨_, rfl⟩
      rw [← g6] at A6 D6 st6
      have lt6 : b6 < h6.size := A6.lt
      have Sn6 : Safe Z consts_1 T4.vm T4.heap b6 := Safe.new (own_le (by omega))
      have sz6 : T4.heap.size ≤ h6.size := E6.1
      have K6 : Keep h0 h6 [] := K4.ext E6
      have c6 : CHr Z consts_1 T4.vm T4.heap T4.vm h6 := CHr.ext E6 C4.1
      have C6 := C4.trans c6
      have Sf6_7 := c6.safe (own_lt (by omega)) Sf4_5
      have Sf6 : Safe Z consts_1 T4.vm h6 b6 := Safe.ext E6 C4.1 Sn6
      have F6_coder : Fld Z h6 b6 "java/lang/String" "coder" "B" (.int (0 : Int32)) := D6 (Or.inr (hw _ (List.mem_of_getElem? (i := 30) rfl))) (ty := .byte) (by decide)
      have F6_value : Fld Z h6 b6 "java/lang/String" "value" "[B" .null := D6 (Or.inr (hw _ (List.mem_of_getElem? (i := 32) rfl))) (ty := (.array .byte)) (by decide)
      refine own_st st6 ?_
      show own_G p e below _ (T6.setTop (mkF m 191 #[.val (.int p0), .val (.int p1), .val (.int p2), .val (.int sm), .val (.ref rl), .val (.int (0 : Int32)), .val (.int (0 : Int32)), .val (.int u0), .val (.int u1), .val (.int r0), .val (.int r1), .val (.ref b1), .val (.ref b2), .val (.ref b3), .unset, .unset, .unset] [(.ref b6)]))
      refine own_st (fun tq kq => XS.dup X6.here hx rfl (hb hby at_191) rfl rfl kq) ?_
      refine own_st (fun tq kq => XS.aload X6.here hx rfl (hb hby at_192) rfl rfl kq) ?_
      show own_G p e below _ (T6.setTop (mkF m 194 #[.val (.int p0), .val (.int p1), .val (.int p2), .val (.int sm), .val (.ref rl), .val (.int (0 : Int32)), .val (.int (0 : Int32)), .val (.int u0), .val (.int u1), .val (.int r0), .val (.int r1), .val (.ref b1), .val (.ref b2), .val (.ref b3), .unset, .unset, .unset] [(.ref b2), (.ref b6), (.ref b6)]))
      have hp8 : ∀ c ∈ ([] : List Int32), ¬ c < 0 ∧ ¬ (255 : Int32) < c := fun c hc => by cases hc
      obtain ⟨_, _, ⟨T8, L8, k8, n8⟩, -, Y8, S8p, gr8, ⟨Lc8, hQ8, l8, y8, z8, c8⟩, st8⟩ := X6.specialBackS hx (y := (⟨"java/lang/String", "<init>", "([C)V"⟩ : MethodName)) rfl o4 (mvT Z4 (hw _ (List.mem_of_getElem? (i := 7) rfl))) (mvT Z4 (hw _ (List.mem_of_getElem? (i := 8) rfl))) (mvT Z4 (hw _ (List.mem_of_getElem? (i := 9) rfl))) (by decide) (own_newStr (s := s) (vm0 := T4.vm) (W := 1) Z4 hw hEL C6.1 (cs := ([] : List Int32)) (n := 0) (n0 := n0) Sf6 (by omega) (X00.keep K6 all0) A6 F6_value F6_coder (((V2.ext E3).keep KK4 (ninS (own_ne (by omega)) nin0)).ext E6) O2 P5 rfl rfl (by decide) hp8 (by decide) (by decide)) (g := (mkF m 194 #[.val (.int p0), .val (.int p1), .val (.int p2), .val (.int sm), .val (.ref rl), .val (.int (0 : Int32)), .val (.int (0 : Int32)), .val (.int u0), .val (.int u1), .val (.int r0), .val (.int r1), .val (.ref b1), .val (.ref b2), .val (.ref b3), .unset, .unset, .unset] [(.ref b2), (.ref b6), (.ref b6)])) rfl (by rw [hml]; rfl) (Steps.refl _) (a := b6) (argsL := [(.ref b2)]) (rest := [(.ref b6)]) (lenOf own_pd2 rfl) rfl (by show 2 * 0 + _ ≤ _; exact Nat.le_of_eq rfl) (hb hby at_194) (fun _ _ => ⟨rfl, e6, (by decide : 6 + 2 ≤ _), (by decide : 12 + 4 ≤ _)⟩)
      dsimp only [Pt.U, Pt.locs, Pt.cells, Pt.slots] at Y8 S8p gr8 l8 y8 z8 st8 hQ8 c8
      subst l8 y8 z8
      obtain ⟨X8, S8, Z8, o8⟩ := rebS S4 (by rw [e6]; exact (own_le (by omega))) Y8 S8p gr8 Z4 o4
      obtain ⟨rfl, Nq8, Kq8, Str8⟩ := hQ8
      have KK8 : Keep h6 T8.heap [b6] := Kq8
      have sz8 : h6.size ≤ T8.heap.size := KK8.1
      have K8 : Keep h0 T8.heap [] := K6.trans KK8 (allS (Or.inr (own_le (by omega))) all0)
      have C8 := C6.trans c8
      have Sf8_9 := c8.safe (own_lt (by omega)) Sf6_7
      have Sf8_10 := c8.safe (own_lt (by omega)) Sf6
      have N8 := Fr.app N4 Nq8
      refine own_st (fun tq kq => st8.trans kq) ?_
      show own_G p e below _ (T8.setTop (mkF m 197 #[.val (.int p0), .val (.int p1), .val (.int p2), .val (.int sm), .val (.ref rl), .val (.int (0 : Int32)), .val (.int (0 : Int32)), .val (.int u0), .val (.int u1), .val (.int r0), .val (.int r1), .val (.ref b1), .val (.ref b2), .val (.ref b3), .unset, .unset, .unset] [(.ref b6)]))
      refine own_st (fun tq kq => XS.astore X8.here hx rfl (hb hby at_197) rfl rfl (l' := #[.val (.int p0), .val (.int p1), .val (.int p2), .val (.int sm), .val (.ref rl), .val (.int (0 : Int32)), .val (.int (0 : Int32)), .val (.int u0), .val (.int u1), .val (.int r0), .val (.int r1), .val (.ref b1), .val (.ref b2), .val (.ref b3), .val (.ref b6), .unset, .unset]) rfl kq) ?_
      refine own_st (fun tq kq => XS.iload X8.here hx rfl (hb hby at_199) rfl  kq) ?_
      refine own_st (fun tq kq => XS.iload X8.here hx rfl (hb hby at_201) rfl  kq) ?_
      show own_G p e below _ (T8.setTop (mkF m 203 #[.val (.int p0), .val (.int p1), .val (.int p2), .val (.int sm), .val (.ref rl), .val (.int (0 : Int32)), .val (.int (0 : Int32)), .val (.int u0), .val (.int u1), .val (.int r0), .val (.int r1), .val (.ref b1), .val (.ref b2), .val (.ref b3), .val (.ref b6), .unset, .unset] [(.int (0 : Int32)), (.int (0 : Int32))]))
      refine own_st (fun tq kq => XS.icmpNo X8.here hx rfl (hb hby at_203) rfl (teq (by decide : ((0 : Int32) = (0 : Int32)))).2 kq) ?_
      refine own_st (fun tq kq => XS.iload X8.here hx rfl (hb hby at_206) rfl  kq) ?_
      refine own_st (fun tq kq => XS.iconst X8.here hx rfl (hb hby at_208) kq) ?_
      show own_G p e below _ (T8.setTop (mkF m 209 #[.val (.int p0), .val (.int p1), .val (.int p2), .val (.int sm), .val (.ref rl), .val (.int (0 : Int32)), .val (.int (0 : Int32)), .val (.int u0), .val (.int u1), .val (.int r0), .val (.int r1), .val (.ref b1), .val (.ref b2), .val (.ref b3), .val (.ref b6), .unset, .unset] [(.int (1 : Int32)), (.int (0 : Int32))]))
      refine own_st (fun tq kq => XS.icmpYes X8.here hx rfl (pc0 := 209) (pc' := 219) rfl (hb hby at_209) rfl (tlt (by decide : ((0 : Int32) < (1 : Int32)))).1 (by decide) (by decide) kq) ?_
      refine own_st (fun tq kq => XS.iload X8.here hx rfl (hb hby at_219) rfl  kq) ?_
      refine own_st (fun tq kq => XS.iconst X8.here hx rfl (hb hby at_221) kq) ?_
      show own_G p e below _ (T8.setTop (mkF m 222 #[.val (.int p0), .val (.int p1), .val (.int p2), .val (.int sm), .val (.ref rl), .val (.int (0 : Int32)), .val (.int (0 : Int32)), .val (.int u0), .val (.int u1), .val (.int r0), .val (.int r1), .val (.ref b1), .val (.ref b2), .val (.ref b3), .val (.ref b6), .unset, .unset] [(.int (2 : Int32)), (.int (0 : Int32))]))
      refine own_st (fun tq kq => XS.icmpYes X8.here hx rfl (pc0 := 222) (pc' := 232) rfl (hb hby at_222) rfl (tlt (by decide : ((0 : Int32) < (2 : Int32)))).1 (by decide) (by decide) kq) ?_
      refine own_st (fun tq kq => XS.iconst X8.here hx rfl (hb hby at_232) kq) ?_
      refine own_st (fun tq kq => XS.goto X8.here hx rfl (pc0 := 233) (pc' := 237) rfl (hb hby at_233) (by decide) (by decide) kq) ?_
      refine own_st (fun tq kq => XS.istore X8.here hx rfl (hb hby at_237) rfl (l' := #[.val (.int p0), .val (.int p1), .val (.int p2), .val (.int sm), .val (.ref rl), .val (.int (0 : Int32)), .val (.int (0 : Int32)), .val (.int u0), .val (.int u1), .val (.int r0), .val (.int r1), .val (.ref b1), .val (.ref b2), .val (.ref b3), .val (.ref b6), .val (.int (1 : Int32)), .unset]) rfl kq) ?_
      show own_G p e below _ (T8.setTop (mkF m 239 #[.val (.int p0), .val (.int p1), .val (.int p2), .val (.int sm), .val (.ref rl), .val (.int (0 : Int32)), .val (.int (0 : Int32)), .val (.int u0), .val (.int u1), .val (.int r0), .val (.int r1), .val (.ref b1), .val (.ref b2), .val (.ref b3), .val (.ref b6), .val (.int (1 : Int32)), .unset] []))
      rcases hsm with rfl | rfl
      ·
        show own_G p e below _ (T8.setTop (mkF m 239 #[.val (.int p0), .val (.int p1), .val (.int p2), .val (.int (1 : Int32)), .val (.ref rl), .val (.int (0 : Int32)), .val (.int (0 : Int32)), .val (.int u0), .val (.int u1), .val (.int r0), .val (.int r1), .val (.ref b1), .val (.ref b2), .val (.ref b3), .val (.ref b6), .val (.int (1 : Int32)), .unset] []))
        refine own_st (fun tq kq => XS.iloadN X8.here hx rfl (hb hby at_239) rfl  kq) ?_
        show own_G p e below _ (T8.setTop (mkF m 240 #[.val (.int p0), .val (.int p1), .val (.int p2), .val (.int (1 : Int32)), .val (.ref rl), .val (.int (0 : Int32)), .val (.int (0 : Int32)), .val (.int u0), .val (.int u1), .val (.int r0), .val (.int r1), .val (.ref b1), .val (.ref b2), .val (.ref b3), .val (.ref b6), .val (.int (1 : Int32)), .unset] [(.int (1 : Int32))]))
        refine own_st (fun tq kq => XS.ifNo X8.here hx rfl (hb hby at_240) rfl ((if0 _ _).trans (feq (by decide : ¬ ((1 : Int32) = (0 : Int32)))).1) kq) ?_
        refine own_st (fun tq kq => XS.iload X8.here hx rfl (hb hby at_243) rfl  kq) ?_
        refine own_st (fun tq kq => XS.goto X8.here hx rfl (pc0 := 245) (pc' := 258) rfl (hb hby at_245) (by decide) (by decide) kq) ?_
        refine own_st (fun tq kq => XS.istore X8.here hx rfl (hb hby at_258) rfl (l' := #[.val (.int p0), .val (.int p1), .val (.int p2), .val (.int (1 : Int32)), .val (.ref rl), .val (.int (0 : Int32)), .val (.int (0 : Int32)), .val (.int u0), .val (.int u1), .val (.int r0), .val (.int r1), .val (.ref b1), .val (.ref b2), .val (.ref b3), .val (.ref b6), .val (.int (1 : Int32)), .val (.int (1 : Int32))]) rfl kq) ?_
        show own_G p e below _ (T8.setTop (mkF m 260 #[.val (.int p0), .val (.int p1), .val (.int p2), .val (.int (1 : Int32)), .val (.ref rl), .val (.int (0 : Int32)), .val (.int (0 : Int32)), .val (.int u0), .val (.int u1), .val (.int r0), .val (.int r1), .val (.ref b1), .val (.ref b2), .val (.ref b3), .val (.ref b6), .val (.int (1 : Int32)), .val (.int (1 : Int32))] []))
        refine own_st (fun tq kq => XS.aload X8.here hx rfl (hb hby at_260) rfl rfl kq) ?_
        refine own_st (fun tq kq => XS.aload X8.here hx rfl (hb hby at_262) rfl rfl kq) ?_
        refine own_st (fun tq kq => XS.aload X8.here hx rfl (hb hby at_264) rfl rfl kq) ?_
        show own_G p e below _ (T8.setTop (mkF m 266 #[.val (.int p0), .val (.int p1), .val (.int p2), .val (.int (1 : Int32)), .val (.ref rl), .val (.int (0 : Int32)), .val (.int (0 : Int32)), .val (.int u0), .val (.int u1), .val (.int r0), .val (.int r1), .val (.ref b1), .val (.ref b2), .val (.ref b3), .val (.ref b6), .val (.int (1 : Int32)), .val (.int (1 : Int32))] [(.ref b6), (.ref b3), (.ref rl)]))
        obtain ⟨cq11, kq11, q11a, q11b, q11c⟩ := isOf Z8 rfl (((((((Er.ext (X00.keep K0 all0).2).ext E1).ext E2).ext E3).keep KK4).ext E6).keep KK8)
        obtain ⟨_, _, ⟨T11, L11, k11, n11⟩, -, X11, ⟨Lc11, hQ11, l11, y11, z11⟩, st11⟩ := X8.virtualBack hx (y := (⟨"com/example/veild/veild/policy/Constraint$Relation", "holds", "(Ljava/lang/String;Ljava/lang/String;)Z"⟩ : MethodName)) (z := (⟨"com/example/veild/veild/policy/Constraint$Relation", "holds", "(Ljava/lang/String;Ljava/lang/String;)Z"⟩ : MethodName)) o8 (mvT Z8 (hw _ (List.mem_of_getElem? (i := 36) rfl))) (mvT Z8 (hw _ (List.mem_of_getElem? (i := 37) rfl))) (notFace_of_selects (args := #[]) (mvT Z8 (hw _ (List.mem_of_getElem? (i := 39) rfl)))) (mvT Z8 (hw _ (List.mem_of_getElem? (i := 39) rfl))) (mvT Z8 (hw _ (List.mem_of_getElem? (i := 38) rfl))) (by decide) (own_backN (W := 0) (own_holds1 l Z a0 hw [] (rl) (b3) (b6) (([] : List Int32)) (([] : List Int32)) (T8.heap.size) (G1) T8.heap n0 (by omega) (X00.keep K8 all0) (Fr1.ext (X00.keep K8 all0).2) (own_Str.mono ((Str4.ext E6).keep KK8 (allS (own_le (by omega)) all0)) (by omega)) (own_Str.mono Str8 (by omega)) O2 P5) Z8 (hw _ (List.mem_of_getElem? (i := 40) rfl)) (hw _ (List.mem_of_getElem? (i := 1) rfl)) (by decide) (by decide)) q11a q11c (g := (mkF m 266 #[.val (.int p0), .val (.int p1), .val (.int p2), .val (.int (1 : Int32)), .val (.ref rl), .val (.int (0 : Int32)), .val (.int (0 : Int32)), .val (.int u0), .val (.int u1), .val (.int r0), .val (.int r1), .val (.ref b1), .val (.ref b2), .val (.ref b3), .val (.ref b6), .val (.int (1 : Int32)), .val (.int (1 : Int32))] [(.ref b6), (.ref b3), (.ref rl)])) rfl (by rw [hml]; rfl) (Steps.refl _) (argsL := [(.ref b3), (.ref b6)]) (rest := []) (lenOf own_pd3 rfl) rfl (by show 2 * 0 + _ ≤ _; exact Nat.le_of_eq rfl) (hb hby at_266) (fun _ _ => ⟨rfl, rfl, (by decide : 8 + 0 ≤ _), (by decide : 16 + 0 ≤ _)⟩)
        dsimp only [Pt.U, Pt.locs, Pt.cells, Pt.slots] at X11 l11 y11 z11 st11 hQ11
        subst l11 y11 z11
        obtain ⟨hr11, Nq11, sm11⟩ := hQ11
        obtain ⟨rfl, eq11⟩ := hr11.resolve_right (fun q => q.2 (rfl))
        have N11 := Fr.app N8 Nq11
        refine own_st (fun tq kq => st11.trans kq) ?_
        show own_G p e below _ (T11.setTop (mkF m 269 #[.val (.int p0), .val (.int p1), .val (.int p2), .val (.int (1 : Int32)), .val (.ref rl), .val (.int (0 : Int32)), .val (.int (0 : Int32)), .val (.int u0), .val (.int u1), .val (.int r0), .val (.int r1), .val (.ref b1), .val (.ref b2), .val (.ref b3), .val (.ref b6), .val (.int (1 : Int32)), .val (.int (1 : Int32))] [(.int (1 : Int32))]))
        refine own_st (fun tq kq => XS.iload X11.here hx rfl (hb hby at_269) rfl  kq) ?_
        show own_G p e below _ (T11.setTop (mkF m 271 #[.val (.int p0), .val (.int p1), .val (.int p2), .val (.int (1 : Int32)), .val (.ref rl), .val (.int (0 : Int32)), .val (.int (0 : Int32)), .val (.int u0), .val (.int u1), .val (.int r0), .val (.int r1), .val (.ref b1), .val (.ref b2), .val (.ref b3), .val (.ref b6), .val (.int (1 : Int32)), .val (.int (1 : Int32))] [(.int (1 : Int32)), (.int (1 : Int32))]))
        refine own_st (fun tq kq => XS.icmpNo X11.here hx rfl (hb hby at_271) rfl (teq (by decide : ((1 : Int32) = (1 : Int32)))).2 kq) ?_
        refine own_st (fun tq kq => XS.iconst X11.here hx rfl (hb hby at_274) kq) ?_
        refine own_st (fun tq kq => XS.goto X11.here hx rfl (pc0 := 275) (pc' := 279) rfl (hb hby at_275) (by decide) (by decide) kq) ?_
        show own_G p e below _ (T11.setTop (mkF m 279 #[.val (.int p0), .val (.int p1), .val (.int p2), .val (.int (1 : Int32)), .val (.ref rl), .val (.int (0 : Int32)), .val (.int (0 : Int32)), .val (.int u0), .val (.int u1), .val (.int r0), .val (.int r1), .val (.ref b1), .val (.ref b2), .val (.ref b3), .val (.ref b6), .val (.int (1 : Int32)), .val (.int (1 : Int32))] [(.int (1 : Int32))]))
        obtain ⟨fs, hr, hrun, hended, hRW⟩ := X11.leaveW S8 (by rw [sm11]; exact (own_le (by omega))) (v := some (.int (1 : Int32))) (fun h => by rw [Bd.returns] at h; cases h)
        have cE := C8.trans (CHv.at (s := s) (vm0 := T8.vm) X11 Z8 hEL C8.1)
        refine ⟨_, _, retN X11 hx (t := .boolean) Bd.returns (by simp) (hb hby at_279) hr, hrun, hended, _, _, rfl, ?_, ?_, own_RW hRW (by decide) (by decide)⟩
        · change (fun (v : Option Value) (_ : Vm) (h : Heap) (L : List Loc) => v = some (.int (1 : Int32)) ∧ Fr n0 L) (some (.int (1 : Int32))) T11.vm T11.heap _; rw [sm11]; exact ⟨rfl, N11⟩
        · rw [hh]; change CHr Z consts_1 s.vm h0 T11.vm T11.heap; rw [sm11]; exact cE
      ·
        show own_G p e below _ (T8.setTop (mkF m 239 #[.val (.int p0), .val (.int p1), .val (.int p2), .val (.int (0 : Int32)), .val (.ref rl), .val (.int (0 : Int32)), .val (.int (0 : Int32)), .val (.int u0), .val (.int u1), .val (.int r0), .val (.int r1), .val (.ref b1), .val (.ref b2), .val (.ref b3), .val (.ref b6), .val (.int (1 : Int32)), .unset] []))
        refine own_st (fun tq kq => XS.iloadN X8.here hx rfl (hb hby at_239) rfl  kq) ?_
        show own_G p e below _ (T8.setTop (mkF m 240 #[.val (.int p0), .val (.int p1), .val (.int p2), .val (.int (0 : Int32)), .val (.ref rl), .val (.int (0 : Int32)), .val (.int (0 : Int32)), .val (.int u0), .val (.int u1), .val (.int r0), .val (.int r1), .val (.ref b1), .val (.ref b2), .val (.ref b3), .val (.ref b6), .val (.int (1 : Int32)), .unset] [(.int (0 : Int32))]))
        refine own_st (fun tq kq => XS.ifYes X8.here hx rfl (pc0 := 240) (pc' := 248) rfl (hb hby at_240) rfl ((if0 _ _).trans (teq (by decide : ((0 : Int32) = (0 : Int32)))).1) (by decide) (by decide) kq) ?_
        refine own_st (fun tq kq => XS.iload X8.here hx rfl (hb hby at_248) rfl  kq) ?_
        show own_G p e below _ (T8.setTop (mkF m 250 #[.val (.int p0), .val (.int p1), .val (.int p2), .val (.int (0 : Int32)), .val (.ref rl), .val (.int (0 : Int32)), .val (.int (0 : Int32)), .val (.int u0), .val (.int u1), .val (.int r0), .val (.int r1), .val (.ref b1), .val (.ref b2), .val (.ref b3), .val (.ref b6), .val (.int (1 : Int32)), .unset] [(.int (1 : Int32))]))
        refine own_st (fun tq kq => XS.ifYes X8.here hx rfl (pc0 := 250) (pc' := 257) rfl (hb hby at_250) rfl ((if0 _ _).trans (feq (by decide : ¬ ((1 : Int32) = (0 : Int32)))).2) (by decide) (by decide) kq) ?_
        refine own_st (fun tq kq => XS.iconst X8.here hx rfl (hb hby at_257) kq) ?_
        refine own_st (fun tq kq => XS.istore X8.here hx rfl (hb hby at_258) rfl (l' := #[.val (.int p0), .val (.int p1), .val (.int p2), .val (.int (0 : Int32)), .val (.ref rl), .val (.int (0 : Int32)), .val (.int (0 : Int32)), .val (.int u0), .val (.int u1), .val (.int r0), .val (.int r1), .val (.ref b1), .val (.ref b2), .val (.ref b3), .val (.ref b6), .val (.int (1 : Int32)), .val (.int (0 : Int32))]) rfl kq) ?_
        refine own_st (fun tq kq => XS.aload X8.here hx rfl (hb hby at_260) rfl rfl kq) ?_
        show own_G p e below _ (T8.setTop (mkF m 262 #[.val (.int p0), .val (.int p1), .val (.int p2), .val (.int (0 : Int32)), .val (.ref rl), .val (.int (0 : Int32)), .val (.int (0 : Int32)), .val (.int u0), .val (.int u1), .val (.int r0), .val (.int r1), .val (.ref b1), .val (.ref b2), .val (.ref b3), .val (.ref b6), .val (.int (1 : Int32)), .val (.int (0 : Int32))] [(.ref rl)]))
        refine own_st (fun tq kq => XS.aload X8.here hx rfl (hb hby at_262) rfl rfl kq) ?_
        refine own_st (fun tq kq => XS.aload X8.here hx rfl (hb hby at_264) rfl rfl kq) ?_
        show own_G p e below _ (T8.setTop (mkF m 266 #[.val (.int p0), .val (.int p1), .val (.int p2), .val (.int (0 : Int32)), .val (.ref rl), .val (.int (0 : Int32)), .val (.int (0 : Int32)), .val (.int u0), .val (.int u1), .val (.int r0), .val (.int r1), .val (.ref b1), .val (.ref b2), .val (.ref b3), .val (.ref b6), .val (.int (1 : Int32)), .val (.int (0 : Int32))] [(.ref b6), (.ref b3), (.ref rl)]))
        obtain ⟨cq12, kq12, q12a, q12b, q12c⟩ := isOf Z8 rfl (((((((Er.ext (X00.keep K0 all0).2).ext E1).ext E2).ext E3).keep KK4).ext E6).keep KK8)
        obtain ⟨_, _, ⟨T12, L12, k12, n12⟩, -, X12, ⟨Lc12, hQ12, l12, y12, z12⟩, st12⟩ := X8.virtualBack hx (y := (⟨"com/example/veild/veild/policy/Constraint$Relation", "holds", "(Ljava/lang/String;Ljava/lang/String;)Z"⟩ : MethodName)) (z := (⟨"com/example/veild/veild/policy/Constraint$Relation", "holds", "(Ljava/lang/String;Ljava/lang/String;)Z"⟩ : MethodName)) o8 (mvT Z8 (hw _ (List.mem_of_getElem? (i := 36) rfl))) (mvT Z8 (hw _ (List.mem_of_getElem? (i := 37) rfl))) (notFace_of_selects (args := #[]) (mvT Z8 (hw _ (List.mem_of_getElem? (i := 39) rfl)))) (mvT Z8 (hw _ (List.mem_of_getElem? (i := 39) rfl))) (mvT Z8 (hw _ (List.mem_of_getElem? (i := 38) rfl))) (by decide) (own_backN (W := 0) (own_holds0 l Z a0 hw [] (rl) (b3) (b6) (([] : List Int32)) (([] : List Int32)) (T8.heap.size) (G1) T8.heap n0 (by omega) (X00.keep K8 all0) (Fr1.ext (X00.keep K8 all0).2) (own_Str.mono ((Str4.ext E6).keep KK8 (allS (own_le (by omega)) all0)) (by omega)) (own_Str.mono Str8 (by omega)) O2 P5) Z8 (hw _ (List.mem_of_getElem? (i := 40) rfl)) (hw _ (List.mem_of_getElem? (i := 1) rfl)) (by decide) (by decide)) q12a q12c (g := (mkF m 266 #[.val (.int p0), .val (.int p1), .val (.int p2), .val (.int (0 : Int32)), .val (.ref rl), .val (.int (0 : Int32)), .val (.int (0 : Int32)), .val (.int u0), .val (.int u1), .val (.int r0), .val (.int r1), .val (.ref b1), .val (.ref b2), .val (.ref b3), .val (.ref b6), .val (.int (1 : Int32)), .val (.int (0 : Int32))] [(.ref b6), (.ref b3), (.ref rl)])) rfl (by rw [hml]; rfl) (Steps.refl _) (argsL := [(.ref b3), (.ref b6)]) (rest := []) (lenOf own_pd3 rfl) rfl (by show 2 * 0 + _ ≤ _; exact Nat.le_of_eq rfl) (hb hby at_266) (fun _ _ => ⟨rfl, rfl, (by decide : 8 + 0 ≤ _), (by decide : 16 + 0 ≤ _)⟩)
        dsimp only [Pt.U, Pt.locs, Pt.cells, Pt.slots] at X12 l12 y12 z12 st12 hQ12
        subst l12 y12 z12
        obtain ⟨hr12, Nq12, sm12⟩ := hQ12
        obtain ⟨rfl, eq12⟩ := hr12.resolve_right (fun q => q.2 (rfl))
        have N12 := Fr.app N8 Nq12
        refine own_st (fun tq kq => st12.trans kq) ?_
        show own_G p e below _ (T12.setTop (mkF m 269 #[.val (.int p0), .val (.int p1), .val (.int p2), .val (.int (0 : Int32)), .val (.ref rl), .val (.int (0 : Int32)), .val (.int (0 : Int32)), .val (.int u0), .val (.int u1), .val (.int r0), .val (.int r1), .val (.ref b1), .val (.ref b2), .val (.ref b3), .val (.ref b6), .val (.int (1 : Int32)), .val (.int (0 : Int32))] [(.int (0 : Int32))]))
        refine own_st (fun tq kq => XS.iload X12.here hx rfl (hb hby at_269) rfl  kq) ?_
        show own_G p e below _ (T12.setTop (mkF m 271 #[.val (.int p0), .val (.int p1), .val (.int p2), .val (.int (0 : Int32)), .val (.ref rl), .val (.int (0 : Int32)), .val (.int (0 : Int32)), .val (.int u0), .val (.int u1), .val (.int r0), .val (.int r1), .val (.ref b1), .val (.ref b2), .val (.ref b3), .val (.ref b6), .val (.int (1 : Int32)), .val (.int (0 : Int32))] [(.int (0 : Int32)), (.int (0 : Int32))]))
        refine own_st (fun tq kq => XS.icmpNo X12.here hx rfl (hb hby at_271) rfl (teq (by decide : ((0 : Int32) = (0 : Int32)))).2 kq) ?_
        refine own_st (fun tq kq => XS.iconst X12.here hx rfl (hb hby at_274) kq) ?_
        refine own_st (fun tq kq => XS.goto X12.here hx rfl (pc0 := 275) (pc' := 279) rfl (hb hby at_275) (by decide) (by decide) kq) ?_
        show own_G p e below _ (T12.setTop (mkF m 279 #[.val (.int p0), .val (.int p1), .val (.int p2), .val (.int (0 : Int32)), .val (.ref rl), .val (.int (0 : Int32)), .val (.int (0 : Int32)), .val (.int u0), .val (.int u1), .val (.int r0), .val (.int r1), .val (.ref b1), .val (.ref b2), .val (.ref b3), .val (.ref b6), .val (.int (1 : Int32)), .val (.int (0 : Int32))] [(.int (1 : Int32))]))
        obtain ⟨fs, hr, hrun, hended, hRW⟩ := X12.leaveW S8 (by rw [sm12]; exact (own_le (by omega))) (v := some (.int (1 : Int32))) (fun h => by rw [Bd.returns] at h; cases h)
        have cE := C8.trans (CHv.at (s := s) (vm0 := T8.vm) X12 Z8 hEL C8.1)
        refine ⟨_, _, retN X12 hx (t := .boolean) Bd.returns (by simp) (hb hby at_279) hr, hrun, hended, _, _, rfl, ?_, ?_, own_RW hRW (by decide) (by decide)⟩
        · change (fun (v : Option Value) (_ : Vm) (h : Heap) (L : List Loc) => v = some (.int (1 : Int32)) ∧ Fr n0 L) (some (.int (1 : Int32))) T12.vm T12.heap _; rw [sm12]; exact ⟨rfl, N12⟩
        · rw [hh]; change CHr Z consts_1 s.vm h0 T12.vm T12.heap; rw [sm12]; exact cE
    ·
      show own_G p e below _ (T.setTop (mkF m 119 #[.val (.int p0), .val (.int p1), .val (.int p2), .val (.int sm), .val (.ref rl), .val (.int (0 : Int32)), .val (.int (1 : Int32)), .val (.int u0), .val (.int u1), .val (.int r0), .val (.int r1), .unset, .unset, .unset, .unset, .unset, .unset] []))
      refine own_st (fun tq kq => XS.iload X0.here hx rfl (hb hby at_119) rfl  kq) ?_
      show own_G p e below _ (T.setTop (mkF m 121 #[.val (.int p0), .val (.int p1), .val (.int p2), .val (.int sm), .val (.ref rl), .val (.int (0 : Int32)), .val (.int (1 : Int32)), .val (.int u0), .val (.int u1), .val (.int r0), .val (.int r1), .unset, .unset, .unset, .unset, .unset, .unset] [(.int (0 : Int32))]))
      obtain ⟨T13, h13, k13, X13, e13, E13, A13, st13⟩ := newP X0 hx hZ (hw _ (List.mem_of_getElem? (i := 3) rfl)) e0 (g := (mkF m 121 #[.val (.int p0), .val (.int p1), .val (.int p2), .val (.int sm), .val (.ref rl), .val (.int (0 : Int32)), .val (.int (1 : Int32)), .val (.int u0), .val (.int u1), .val (.int r0), .val (.int r1), .unset, .unset, .unset, .unset, .unset, .unset] [(.int (0 : Int32))])) rfl (hb hby at_121) rfl (by decide) (cap := 0) (by decide) (by decide) (by decide) (by decide)
      obtain ⟨b13, g13⟩ : ∃ z, z = h0.size := ⟨_, rfl⟩
      rw [← g13] at A13 st13
      have lt13 : b13 < h13.size := A13.lt
      have V13 : Arv Z h13 b13 k13 .char (0 : Int32) [] (.int (0 : Int32)) := Arv.new A13 (by decide)
      have sz13 : h0.size ≤ h13.size := E13.1
      have K13 : Keep h0 h13 [] := K0.ext E13
      have c13 : CHr Z consts_1 s.vm h0 s.vm h13 := CHr.ext E13 C0.1
      have C13 := C0.trans c13
      refine own_st st13 ?_
      show own_G p e below _ (T13.setTop (mkF m 123 #[.val (.int p0), .val (.int p1), .val (.int p2), .val (.int sm), .val (.ref rl), .val (.int (0 : Int32)), .val (.int (1 : Int32)), .val (.int u0), .val (.int u1), .val (.int r0), .val (.int r1), .unset, .unset, .unset, .unset, .unset, .unset] [(.ref b13)]))
      refine own_st (fun tq kq => XS.astore X13.here hx rfl (hb hby at_123) rfl rfl (l' := #[.val (.int p0), .val (.int p1), .val (.int p2), .val (.int sm), .val (.ref rl), .val (.int (0 : Int32)), .val (.int (1 : Int32)), .val (.int u0), .val (.int u1), .val (.int r0), .val (.int r1), .val (.ref b13), .unset, .unset, .unset, .unset, .unset]) rfl kq) ?_
      refine own_st (fun tq kq => XS.iload X13.here hx rfl (hb hby at_125) rfl  kq) ?_
      show own_G p e below _ (T13.setTop (mkF m 127 #[.val (.int p0), .val (.int p1), .val (.int p2), .val (.int sm), .val (.ref rl), .val (.int (0 : Int32)), .val (.int (1 : Int32)), .val (.int u0), .val (.int u1), .val (.int r0), .val (.int r1), .val (.ref b13), .unset, .unset, .unset, .unset, .unset] [(.int (0 : Int32))]))
      refine own_st (fun tq kq => XS.ifYes X13.here hx rfl (pc0 := 127) (pc' := 136) rfl (hb hby at_127) rfl ((if0 _ _).trans (flt (by decide : ¬ ((0 : Int32) < (0 : Int32)))).2.2.2) (by decide) (by decide) kq) ?_
      refine own_st (fun tq kq => XS.iload X13.here hx rfl (hb hby at_136) rfl  kq) ?_
      refine own_st (fun tq kq => XS.iconst X13.here hx rfl (hb hby at_138) kq) ?_
      show own_G p e below _ (T13.setTop (mkF m 139 #[.val (.int p0), .val (.int p1), .val (.int p2), .val (.int sm), .val (.ref rl), .val (.int (0 : Int32)), .val (.int (1 : Int32)), .val (.int u0), .val (.int u1), .val (.int r0), .val (.int r1), .val (.ref b13), .unset, .unset, .unset, .unset, .unset] [(.int (1 : Int32)), (.int (0 : Int32))]))
      refine own_st (fun tq kq => XS.icmpYes X13.here hx rfl (pc0 := 139) (pc' := 148) rfl (hb hby at_139) rfl (flt (by decide : ¬ ((1 : Int32) < (0 : Int32)))).2.2.2 (by decide) (by decide) kq) ?_
      refine own_st (fun tq kq => XS.iload X13.here hx rfl (hb hby at_148) rfl  kq) ?_
      show own_G p e below _ (T13.setTop (mkF m 150 #[.val (.int p0), .val (.int p1), .val (.int p2), .val (.int sm), .val (.ref rl), .val (.int (0 : Int32)), .val (.int (1 : Int32)), .val (.int u0), .val (.int u1), .val (.int r0), .val (.int r1), .val (.ref b13), .unset, .unset, .unset, .unset, .unset] [(.int (1 : Int32))]))
      obtain ⟨T14, h14, k14, X14, e14, E14, A14, st14⟩ := newP X13 hx hZ (hw _ (List.mem_of_getElem? (i := 3) rfl)) e13 (g := (mkF m 150 #[.val (.int p0), .val (.int p1), .val (.int p2), .val (.int sm), .val (.ref rl), .val (.int (0 : Int32)), .val (.int (1 : Int32)), .val (.int u0), .val (.int u1), .val (.int r0), .val (.int r1), .val (.ref b13), .unset, .unset, .unset, .unset, .unset] [(.int (1 : Int32))])) rfl (hb hby at_150) rfl (by decide) (cap := 1) (by decide) (by decide) (by decide) (by decide)
      obtain ⟨b14, g14⟩ : ∃ z, z = h13.size := ⟨_, rfl⟩
      rw [← g14] at A14 st14
      have lt14 : b14 < h14.size := A14.lt
      have V14 : Arv Z h14 b14 k14 .char (1 : Int32) [(.int (0 : Int32))] (.int (0 : Int32)) := (Arv.new A14 (by decide)).pad (pad_rep [] (.int (0 : Int32)) 1)
      have sz14 : h13.size ≤ h14.size := E14.1
      have K14 : Keep h0 h14 [] := K13.ext E14
      have c14 : CHr Z consts_1 s.vm h13 s.vm h14 := CHr.ext E14 C13.1
      have C14 := C13.trans c14
      refine own_st st14 ?_
      show own_G p e below _ (T14.setTop (mkF m 152 #[.val (.int p0), .val (.int p1), .val (.int p2), .val (.int sm), .val (.ref rl), .val (.int (0 : Int32)), .val (.int (1 : Int32)), .val (.int u0), .val (.int u1), .val (.int r0), .val (.int r1), .val (.ref b13), .unset, .unset, .unset, .unset, .unset] [(.ref b14)]))
      refine own_st (fun tq kq => XS.astore X14.here hx rfl (hb hby at_152) rfl rfl (l' := #[.val (.int p0), .val (.int p1), .val (.int p2), .val (.int sm), .val (.ref rl), .val (.int (0 : Int32)), .val (.int (1 : Int32)), .val (.int u0), .val (.int u1), .val (.int r0), .val (.int r1), .val (.ref b13), .val (.ref b14), .unset, .unset, .unset, .unset]) rfl kq) ?_
      refine own_st (fun tq kq => XS.iload X14.here hx rfl (hb hby at_154) rfl  kq) ?_
      show own_G p e below _ (T14.setTop (mkF m 156 #[.val (.int p0), .val (.int p1), .val (.int p2), .val (.int sm), .val (.ref rl), .val (.int (0 : Int32)), .val (.int (1 : Int32)), .val (.int u0), .val (.int u1), .val (.int r0), .val (.int r1), .val (.ref b13), .val (.ref b14), .unset, .unset, .unset, .unset] [(.int (1 : Int32))]))
      refine own_st (fun tq kq => XS.ifNo X14.here hx rfl (hb hby at_156) rfl ((if0 _ _).trans (tlt (by decide : ((0 : Int32) < (1 : Int32)))).2.2.2) kq) ?_
      refine own_st (fun tq kq => XS.aload X14.here hx rfl (hb hby at_159) rfl rfl kq) ?_
      refine own_st (fun tq kq => XS.iconst X14.here hx rfl (hb hby at_161) kq) ?_
      refine own_st (fun tq kq => XS.iload X14.here hx rfl (hb hby at_162) rfl  kq) ?_
      show own_G p e below _ (T14.setTop (mkF m 164 #[.val (.int p0), .val (.int p1), .val (.int p2), .val (.int sm), .val (.ref rl), .val (.int (0 : Int32)), .val (.int (1 : Int32)), .val (.int u0), .val (.int u1), .val (.int r0), .val (.int r1), .val (.ref b13), .val (.ref b14), .unset, .unset, .unset, .unset] [(.int r0), (.int (0 : Int32)), (.ref b14)]))
      obtain ⟨cl15, Ar15, q15, S_15, N_15, H_15, G_15⟩ := id V14
      have in15 : ¬ ((0 : Int32) < 0 ∨ cl15.slots.size ≤ ((0 : Int32)).toNatClampNeg) := inb_of S_15 ⟨by decide, by decide⟩
      obtain ⟨T15, h15, X15, e15, W15, st15⟩ := stC X14 hx hZ e14 Ar15 (j := (0 : Int32)) in15 (g := (mkF m 164 #[.val (.int p0), .val (.int p1), .val (.int p2), .val (.int sm), .val (.ref rl), .val (.int (0 : Int32)), .val (.int (1 : Int32)), .val (.int u0), .val (.int u1), .val (.int r0), .val (.int r1), .val (.ref b13), .val (.ref b14), .unset, .unset, .unset, .unset] [(.int r0), (.int (0 : Int32)), (.ref b14)])) rfl rfl (hb hby at_164)
      have V15 := Arv.set Ar15 q15 S_15 N_15 H_15 G_15 (fits_nar_char _) W15 0 rfl (Nat.le_of_ble_eq_true rfl)
      have sz15 : h14.size ≤ h15.size := (Keep.of_wr W15).1
      have K15 : Keep h0 h15 [] := K14.wr W15 (Or.inr (own_le (by omega)))
      have c15 : CHr Z consts_1 s.vm h14 s.vm h15 := CHr.wr W15 (Safe.arr hZ.alike Ar15 (by decide)) C14.1
      have C15 := C14.trans c15
      have N15 := Fr.snoc X15 N0 (own_le (by omega))
      refine own_st st15 ?_
      show own_G p e below _ (T15.setTop (mkF m 165 #[.val (.int p0), .val (.int p1), .val (.int p2), .val (.int sm), .val (.ref rl), .val (.int (0 : Int32)), .val (.int (1 : Int32)), .val (.int u0), .val (.int u1), .val (.int r0), .val (.int r1), .val (.ref b13), .val (.ref b14), .unset, .unset, .unset, .unset] []))
      refine own_st (fun tq kq => XS.iload X15.here hx rfl (hb hby at_165) rfl  kq) ?_
      refine own_st (fun tq kq => XS.iconst X15.here hx rfl (hb hby at_167) kq) ?_
      show own_G p e below _ (T15.setTop (mkF m 168 #[.val (.int p0), .val (.int p1), .val (.int p2), .val (.int sm), .val (.ref rl), .val (.int (0 : Int32)), .val (.int (1 : Int32)), .val (.int u0), .val (.int u1), .val (.int r0), .val (.int r1), .val (.ref b13), .val (.ref b14), .unset, .unset, .unset, .unset] [(.int (1 : Int32)), (.int (1 : Int32))]))
      refine own_st (fun tq kq => XS.icmpYes X15.here hx rfl (pc0 := 168) (pc' := 177) rfl (hb hby at_168) rfl (flt (by decide : ¬ ((1 : Int32) < (1 : Int32)))).2.2.2 (by decide) (by decide) kq) ?_
      show own_G p e below _ (T15.setTop (mkF m 177 #[.val (.int p0), .val (.int p1), .val (.int p2), .val (.int sm), .val (.ref rl), .val (.int (0 : Int32)), .val (.int (1 : Int32)), .val (.int u0), .val (.int u1), .val (.int r0), .val (.int r1), .val (.ref b13), .val (.ref b14), .unset, .unset, .unset, .unset] []))
      obtain ⟨T16, h16, X16, e16, E16, A16, D16, -, st16⟩ := newO X15 hx hZ hown (hw _ (List.mem_of_getElem? (i := 4) rfl)) (hw _ (List.mem_of_getElem? (i := 5) rfl)) (hw _ (List.mem_of_getElem? (i := 6) rfl)) e15 (g := (mkF m 177 #[.val (.int p0), .val (.int p1), .val (.int p2), .val (.int sm), .val (.ref rl), .val (.int (0 : Int32)), .val (.int (1 : Int32)), .val (.int u0), .val (.int u1), .val (.int r0), .val (.int r1), .val (.ref b13), .val (.ref b14), .unset, .unset, .unset, .unset] [])) rfl (hb hby at_177) (by decide) (by decide)
      obtain ⟨b16, g16⟩ : ∃ z, z = h15.size := ⟨_, rfl⟩
      rw [← g16] at A16 D16 st16
      have lt16 : b16 < h16.size := A16.lt
      have Sn16 : Safe Z consts_1 s.vm h15 b16 := Safe.new (own_le (by omega))
      have sz16 : h15.size ≤ h16.size := E16.1
      have K16 : Keep h0 h16 [] := K15.ext E16
      have c16 : CHr Z consts_1 s.vm h15 s.vm h16 := CHr.ext E16 C15.1
      have C16 := C15.trans c16
      have Sf16 : Safe Z consts_1 s.vm h16 b16 := Safe.ext E16 C15.1 Sn16
      have F16_coder : Fld Z h16 b16 "java/lang/String" "coder" "B" (.int (0 : Int32)) := D16 (Or.inr (hw _ (List.mem_of_getElem? (i := 30) rfl))) (ty := .byte) (by decide)
      have F16_value : Fld Z h16 b16 "java/lang/String" "value" "[B" .null := D16 (Or.inr (hw _ (List.mem_of_getElem? (i := 32) rfl))) (ty := (.array .byte)) (by decide)
      refine own_st st16 ?_
      show own_G p e below _ (T16.setTop (mkF m 180 #[.val (.int p0), .val (.int p1), .val (.int p2), .val (.int sm), .val (.ref rl), .val (.int (0 : Int32)), .val (.int (1 : Int32)), .val (.int u0), .val (.int u1), .val (.int r0), .val (.int r1), .val (.ref b13), .val (.ref b14), .unset, .unset, .unset, .unset] [(.ref b16)]))
      refine own_st (fun tq kq => XS.dup X16.here hx rfl (hb hby at_180) rfl rfl kq) ?_
      refine own_st (fun tq kq => XS.aload X16.here hx rfl (hb hby at_181) rfl rfl kq) ?_
      show own_G p e below _ (T16.setTop (mkF m 183 #[.val (.int p0), .val (.int p1), .val (.int p2), .val (.int sm), .val (.ref rl), .val (.int (0 : Int32)), .val (.int (1 : Int32)), .val (.int u0), .val (.int u1), .val (.int r0), .val (.int r1), .val (.ref b13), .val (.ref b14), .unset, .unset, .unset, .unset] [(.ref b13), (.ref b16), (.ref b16)]))
      have hp17 : ∀ c ∈ ([] : List Int32), ¬ c < 0 ∧ ¬ (255 : Int32) < c := fun c hc => by cases hc
      obtain ⟨_, _, ⟨T17, L17, k17, n17⟩, -, Y17, S17p, gr17, ⟨Lc17, hQ17, l17, y17, z17, c17⟩, st17⟩ := X16.specialBackS hx (y := (⟨"java/lang/String", "<init>", "([C)V"⟩ : MethodName)) rfl hown (mvT hZ (hw _ (List.mem_of_getElem? (i := 7) rfl))) (mvT hZ (hw _ (List.mem_of_getElem? (i := 8) rfl))) (mvT hZ (hw _ (List.mem_of_getElem? (i := 9) rfl))) (by decide) (own_newStr (s := s) (vm0 := s.vm) (W := 1) hZ hw hEL C16.1 (cs := ([] : List Int32)) (n := 0) (n0 := n0) Sf16 (by omega) (X00.keep K16 all0) A16 F16_value F16_coder (((V13.ext E14).other W15 (own_ne (by omega))).ext E16) O2 P5 rfl rfl (by decide) hp17 (by decide) (by decide)) (g := (mkF m 183 #[.val (.int p0), .val (.int p1), .val (.int p2), .val (.int sm), .val (.ref rl), .val (.int (0 : Int32)), .val (.int (1 : Int32)), .val (.int u0), .val (.int u1), .val (.int r0), .val (.int r1), .val (.ref b13), .val (.ref b14), .unset, .unset, .unset, .unset] [(.ref b13), (.ref b16), (.ref b16)])) rfl (by rw [hml]; rfl) (Steps.refl _) (a := b16) (argsL := [(.ref b13)]) (rest := [(.ref b16)]) (lenOf own_pd2 rfl) rfl (by show 2 * 0 + _ ≤ _; exact Nat.le_of_eq rfl) (hb hby at_183) (fun _ _ => ⟨rfl, e16, (by decide : 3 + 2 ≤ _), (by decide : 5 + 4 ≤ _)⟩)
      dsimp only [Pt.U, Pt.locs, Pt.cells, Pt.slots] at Y17 S17p gr17 l17 y17 z17 st17 hQ17 c17
      subst l17 y17 z17
      obtain ⟨X17, S17, Z17, o17⟩ := rebS S0 (by rw [e16]; exact (own_le (by omega))) Y17 S17p gr17 hZ hown
      obtain ⟨rfl, Nq17, Kq17, Str17⟩ := hQ17
      have KK17 : Keep h16 T17.heap [b16] := Kq17
      have sz17 : h16.size ≤ T17.heap.size := KK17.1
      have K17 : Keep h0 T17.heap [] := K16.trans KK17 (allS (Or.inr (own_le (by omega))) all0)
      have C17 := C16.trans c17
      have Sf17_18 := c17.safe (own_lt (by omega)) Sf16
      have N17 := Fr.app N15 Nq17
      refine own_st (fun tq kq => st17.trans kq) ?_
      show own_G p e below _ (T17.setTop (mkF m 186 #[.val (.int p0), .val (.int p1), .val (.int p2), .val (.int sm), .val (.ref rl), .val (.int (0 : Int32)), .val (.int (1 : Int32)), .val (.int u0), .val (.int u1), .val (.int r0), .val (.int r1), .val (.ref b13), .val (.ref b14), .unset, .unset, .unset, .unset] [(.ref b16)]))
      refine own_st (fun tq kq => XS.astore X17.here hx rfl (hb hby at_186) rfl rfl (l' := #[.val (.int p0), .val (.int p1), .val (.int p2), .val (.int sm), .val (.ref rl), .val (.int (0 : Int32)), .val (.int (1 : Int32)), .val (.int u0), .val (.int u1), .val (.int r0), .val (.int r1), .val (.ref b13), .val (.ref b14), .val (.ref b16), .unset, .unset, .unset]) rfl kq) ?_
      show own_G p e below _ (T17.setTop (mkF m 188 #[.val (.int p0), .val (.int p1), .val (.int p2), .val (.int sm), .val (.ref rl), .val (.int (0 : Int32)), .val (.int (1 : Int32)), .val (.int u0), .val (.int u1), .val (.int r0), .val (.int r1), .val (.ref b13), .val (.ref b14), .val (.ref b16), .unset, .unset, .unset] []))
      obtain ⟨T19, h19, X19, e19, E19, A19, D19, -, st19⟩ := newO X17 hx Z17 o17 (hw _ (List.mem_of_getElem? (i := 4) rfl)) (hw _ (List.mem_of_getElem? (i := 5) rfl)) (hw _ (List.mem_of_getElem? (i := 6) rfl)) rfl (g := (mkF m 188 #[.val (.int p0), .val (.int p1), .val (.int p2), .val (.int sm), .val (.ref rl), .val (.int (0 : Int32)), .val (.int (1 : Int32)), .val (.int u0), .val (.int u1), .val (.int r0), .val (.int r1), .val (.ref b13), .val (.ref b14), .val (.ref b16), .unset, .unset, .unset] [])) rfl (hb hby at_188) (by decide) (by decide)
      obtain ⟨b19, g19⟩ : ∃ z, z = T17.heap.size := ⟨_, rfl⟩
      rw [← g19] at A19 D19 st19
      have lt19 : b19 < h19.size := A19.lt
      have Sn19 : Safe Z consts_1 T17.vm T17.heap b19 := Safe.new (own_le (by omega))
      have sz19 : T17.heap.size ≤ h19.size := E19.1
      have K19 : Keep h0 h19 [] := K17.ext E19
      have c19 : CHr Z consts_1 T17.vm T17.heap T17.vm h19 := CHr.ext E19 C17.1
      have C19 := C17.trans c19
      have Sf19_20 := c19.safe (own_lt (by omega)) Sf17_18
      have Sf19 : Safe Z consts_1 T17.vm h19 b19 := Safe.ext E19 C17.1 Sn19
      have F19_coder : Fld Z h19 b19 "java/lang/String" "coder" "B" (.int (0 : Int32)) := D19 (Or.inr (hw _ (List.mem_of_getElem? (i := 30) rfl))) (ty := .byte) (by decide)
      have F19_value : Fld Z h19 b19 "java/lang/String" "value" "[B" .null := D19 (Or.inr (hw _ (List.mem_of_getElem? (i := 32) rfl))) (ty := (.array .byte)) (by decide)
      refine own_st st19 ?_
      show own_G p e below _ (T19.setTop (mkF m 191 #[.val (.int p0), .val (.int p1), .val (.int p2), .val (.int sm), .val (.ref rl), .val (.int (0 : Int32)), .val (.int (1 : Int32)), .val (.int u0), .val (.int u1), .val (.int r0), .val (.int r1), .val (.ref b13), .val (.ref b14), .val (.ref b16), .unset, .unset, .unset] [(.ref b19)]))
      refine own_st (fun tq kq => XS.dup X19.here hx rfl (hb hby at_191) rfl rfl kq) ?_
      refine own_st (fun tq kq => XS.aload X19.here hx rfl (hb hby at_192) rfl rfl kq) ?_
      show own_G p e below _ (T19.setTop (mkF m 194 #[.val (.int p0), .val (.int p1), .val (.int p2), .val (.int sm), .val (.ref rl), .val (.int (0 : Int32)), .val (.int (1 : Int32)), .val (.int u0), .val (.int u1), .val (.int r0), .val (.int r1), .val (.ref b13), .val (.ref b14), .val (.ref b16), .unset, .unset, .unset] [(.ref b14), (.ref b19), (.ref b19)]))
      have hp21 : ∀ c ∈ ([(nar .char r0)] : List Int32), ¬ c < 0 ∧ ¬ (255 : Int32) < c := by
        intro c hc
        simp only [List.mem_cons, List.not_mem_nil, or_false] at hc
        rcases hc with rfl
        · assumption
      obtain ⟨_, _, ⟨T21, L21, k21, n21⟩, -, Y21, S21p, gr21, ⟨Lc21, hQ21, l21, y21, z21, c21⟩, st21⟩ := X19.specialBackS hx (y := (⟨"java/lang/String", "<init>", "([C)V"⟩ : MethodName)) rfl o17 (mvT Z17 (hw _ (List.mem_of_getElem? (i := 7) rfl))) (mvT Z17 (hw _ (List.mem_of_getElem? (i := 8) rfl))) (mvT Z17 (hw _ (List.mem_of_getElem? (i := 9) rfl))) (by decide) (own_newStr (s := s) (vm0 := T17.vm) (W := 1) Z17 hw hEL C19.1 (cs := ([(nar .char r0)] : List Int32)) (n := 1) (n0 := n0) Sf19 (by omega) (X00.keep K19 all0) A19 F19_value F19_coder (((V15.ext E16).keep KK17 (ninS (own_ne (by omega)) nin0)).ext E19) O2 P5 rfl rfl (by decide) hp21 (by decide) (by decide)) (g := (mkF m 194 #[.val (.int p0), .val (.int p1), .val (.int p2), .val (.int sm), .val (.ref rl), .val (.int (0 : Int32)), .val (.int (1 : Int32)), .val (.int u0), .val (.int u1), .val (.int r0), .val (.int r1), .val (.ref b13), .val (.ref b14), .val (.ref b16), .unset, .unset, .unset] [(.ref b14), (.ref b19), (.ref b19)])) rfl (by rw [hml]; rfl) (Steps.refl _) (a := b19) (argsL := [(.ref b14)]) (rest := [(.ref b19)]) (lenOf own_pd2 rfl) rfl (by show 2 * 0 + _ ≤ _; exact Nat.le_of_eq rfl) (hb hby at_194) (fun _ _ => ⟨rfl, e19, (by decide : 6 + 2 ≤ _), (by decide : 13 + 5 ≤ _)⟩)
      dsimp only [Pt.U, Pt.locs, Pt.cells, Pt.slots] at Y21 S21p gr21 l21 y21 z21 st21 hQ21 c21
      subst l21 y21 z21
      obtain ⟨X21, S21, Z21, o21⟩ := rebS S17 (by rw [e19]; exact (own_le (by omega))) Y21 S21p gr21 Z17 o17
      obtain ⟨rfl, Nq21, Kq21, Str21⟩ := hQ21
      have KK21 : Keep h19 T21.heap [b19] := Kq21
      have sz21 : h19.size ≤ T21.heap.size := KK21.1
      have K21 : Keep h0 T21.heap [] := K19.trans KK21 (allS (Or.inr (own_le (by omega))) all0)
      have C21 := C19.trans c21
      have Sf21_22 := c21.safe (own_lt (by omega)) Sf19_20
      have Sf21_23 := c21.safe (own_lt (by omega)) Sf19
      have N21 := Fr.app N17 Nq21
      refine own_st (fun tq kq => st21.trans kq) ?_
      show own_G p e below _ (T21.setTop (mkF m 197 #[.val (.int p0), .val (.int p1), .val (.int p2), .val (.int sm), .val (.ref rl), .val (.int (0 : Int32)), .val (.int (1 : Int32)), .val (.int u0), .val (.int u1), .val (.int r0), .val (.int r1), .val (.ref b13), .val (.ref b14), .val (.ref b16), .unset, .unset, .unset] [(.ref b19)]))
      refine own_st (fun tq kq => XS.astore X21.here hx rfl (hb hby at_197) rfl rfl (l' := #[.val (.int p0), .val (.int p1), .val (.int p2), .val (.int sm), .val (.ref rl), .val (.int (0 : Int32)), .val (.int (1 : Int32)), .val (.int u0), .val (.int u1), .val (.int r0), .val (.int r1), .val (.ref b13), .val (.ref b14), .val (.ref b16), .val (.ref b19), .unset, .unset]) rfl kq) ?_
      refine own_st (fun tq kq => XS.iload X21.here hx rfl (hb hby at_199) rfl  kq) ?_
      refine own_st (fun tq kq => XS.iload X21.here hx rfl (hb hby at_201) rfl  kq) ?_
      show own_G p e below _ (T21.setTop (mkF m 203 #[.val (.int p0), .val (.int p1), .val (.int p2), .val (.int sm), .val (.ref rl), .val (.int (0 : Int32)), .val (.int (1 : Int32)), .val (.int u0), .val (.int u1), .val (.int r0), .val (.int r1), .val (.ref b13), .val (.ref b14), .val (.ref b16), .val (.ref b19), .unset, .unset] [(.int (1 : Int32)), (.int (0 : Int32))]))
      refine own_st (fun tq kq => XS.icmpYes X21.here hx rfl (pc0 := 203) (pc' := 236) rfl (hb hby at_203) rfl (feq (by decide : ¬ ((0 : Int32) = (1 : Int32)))).2 (by decide) (by decide) kq) ?_
      refine own_st (fun tq kq => XS.iconst X21.here hx rfl (hb hby at_236) kq) ?_
      refine own_st (fun tq kq => XS.istore X21.here hx rfl (hb hby at_237) rfl (l' := #[.val (.int p0), .val (.int p1), .val (.int p2), .val (.int sm), .val (.ref rl), .val (.int (0 : Int32)), .val (.int (1 : Int32)), .val (.int u0), .val (.int u1), .val (.int r0), .val (.int r1), .val (.ref b13), .val (.ref b14), .val (.ref b16), .val (.ref b19), .val (.int (0 : Int32)), .unset]) rfl kq) ?_
      show own_G p e below _ (T21.setTop (mkF m 239 #[.val (.int p0), .val (.int p1), .val (.int p2), .val (.int sm), .val (.ref rl), .val (.int (0 : Int32)), .val (.int (1 : Int32)), .val (.int u0), .val (.int u1), .val (.int r0), .val (.int r1), .val (.ref b13), .val (.ref b14), .val (.ref b16), .val (.ref b19), .val (.int (0 : Int32)), .unset] []))
      rcases hsm with rfl | rfl
      ·
        show own_G p e below _ (T21.setTop (mkF m 239 #[.val (.int p0), .val (.int p1), .val (.int p2), .val (.int (1 : Int32)), .val (.ref rl), .val (.int (0 : Int32)), .val (.int (1 : Int32)), .val (.int u0), .val (.int u1), .val (.int r0), .val (.int r1), .val (.ref b13), .val (.ref b14), .val (.ref b16), .val (.ref b19), .val (.int (0 : Int32)), .unset] []))
        refine own_st (fun tq kq => XS.iloadN X21.here hx rfl (hb hby at_239) rfl  kq) ?_
        show own_G p e below _ (T21.setTop (mkF m 240 #[.val (.int p0), .val (.int p1), .val (.int p2), .val (.int (1 : Int32)), .val (.ref rl), .val (.int (0 : Int32)), .val (.int (1 : Int32)), .val (.int u0), .val (.int u1), .val (.int r0), .val (.int r1), .val (.ref b13), .val (.ref b14), .val (.ref b16), .val (.ref b19), .val (.int (0 : Int32)), .unset] [(.int (1 : Int32))]))
        refine own_st (fun tq kq => XS.ifNo X21.here hx rfl (hb hby at_240) rfl ((if0 _ _).trans (feq (by decide : ¬ ((1 : Int32) = (0 : Int32)))).1) kq) ?_
        refine own_st (fun tq kq => XS.iload X21.here hx rfl (hb hby at_243) rfl  kq) ?_
        refine own_st (fun tq kq => XS.goto X21.here hx rfl (pc0 := 245) (pc' := 258) rfl (hb hby at_245) (by decide) (by decide) kq) ?_
        refine own_st (fun tq kq => XS.istore X21.here hx rfl (hb hby at_258) rfl (l' := #[.val (.int p0), .val (.int p1), .val (.int p2), .val (.int (1 : Int32)), .val (.ref rl), .val (.int (0 : Int32)), .val (.int (1 : Int32)), .val (.int u0), .val (.int u1), .val (.int r0), .val (.int r1), .val (.ref b13), .val (.ref b14), .val (.ref b16), .val (.ref b19), .val (.int (0 : Int32)), .val (.int (0 : Int32))]) rfl kq) ?_
        show own_G p e below _ (T21.setTop (mkF m 260 #[.val (.int p0), .val (.int p1), .val (.int p2), .val (.int (1 : Int32)), .val (.ref rl), .val (.int (0 : Int32)), .val (.int (1 : Int32)), .val (.int u0), .val (.int u1), .val (.int r0), .val (.int r1), .val (.ref b13), .val (.ref b14), .val (.ref b16), .val (.ref b19), .val (.int (0 : Int32)), .val (.int (0 : Int32))] []))
        refine own_st (fun tq kq => XS.aload X21.here hx rfl (hb hby at_260) rfl rfl kq) ?_
        refine own_st (fun tq kq => XS.aload X21.here hx rfl (hb hby at_262) rfl rfl kq) ?_
        refine own_st (fun tq kq => XS.aload X21.here hx rfl (hb hby at_264) rfl rfl kq) ?_
        show own_G p e below _ (T21.setTop (mkF m 266 #[.val (.int p0), .val (.int p1), .val (.int p2), .val (.int (1 : Int32)), .val (.ref rl), .val (.int (0 : Int32)), .val (.int (1 : Int32)), .val (.int u0), .val (.int u1), .val (.int r0), .val (.int r1), .val (.ref b13), .val (.ref b14), .val (.ref b16), .val (.ref b19), .val (.int (0 : Int32)), .val (.int (0 : Int32))] [(.ref b19), (.ref b16), (.ref rl)]))
        obtain ⟨cq24, kq24, q24a, q24b, q24c⟩ := isOf Z21 rfl ((((((((Er.ext (X00.keep K0 all0).2).ext E13).ext E14).wr W15).ext E16).keep KK17).ext E19).keep KK21)
        obtain ⟨_, _, ⟨T24, L24, k24, n24⟩, -, X24, ⟨Lc24, hQ24, l24, y24, z24⟩, st24⟩ := X21.virtualBack hx (y := (⟨"com/example/veild/veild/policy/Constraint$Relation", "holds", "(Ljava/lang/String;Ljava/lang/String;)Z"⟩ : MethodName)) (z := (⟨"com/example/veild/veild/policy/Constraint$Relation", "holds", "(Ljava/lang/String;Ljava/lang/String;)Z"⟩ : MethodName)) o21 (mvT Z21 (hw _ (List.mem_of_getElem? (i := 36) rfl))) (mvT Z21 (hw _ (List.mem_of_getElem? (i := 37) rfl))) (notFace_of_selects (args := #[]) (mvT Z21 (hw _ (List.mem_of_getElem? (i := 39) rfl)))) (mvT Z21 (hw _ (List.mem_of_getElem? (i := 39) rfl))) (mvT Z21 (hw _ (List.mem_of_getElem? (i := 38) rfl))) (by decide) (own_backN (W := 0) (own_holds1 l Z a0 hw [] (rl) (b16) (b19) (([] : List Int32)) (([(nar .char r0)] : List Int32)) (T21.heap.size) (G1) T21.heap n0 (by omega) (X00.keep K21 all0) (Fr1.ext (X00.keep K21 all0).2) (own_Str.mono ((Str17.ext E19).keep KK21 (allS (own_le (by omega)) all0)) (by omega)) (own_Str.mono Str21 (by omega)) O2 P5) Z21 (hw _ (List.mem_of_getElem? (i := 40) rfl)) (hw _ (List.mem_of_getElem? (i := 1) rfl)) (by decide) (by decide)) q24a q24c (g := (mkF m 266 #[.val (.int p0), .val (.int p1), .val (.int p2), .val (.int (1 : Int32)), .val (.ref rl), .val (.int (0 : Int32)), .val (.int (1 : Int32)), .val (.int u0), .val (.int u1), .val (.int r0), .val (.int r1), .val (.ref b13), .val (.ref b14), .val (.ref b16), .val (.ref b19), .val (.int (0 : Int32)), .val (.int (0 : Int32))] [(.ref b19), (.ref b16), (.ref rl)])) rfl (by rw [hml]; rfl) (Steps.refl _) (argsL := [(.ref b16), (.ref b19)]) (rest := []) (lenOf own_pd3 rfl) rfl (by show 2 * 0 + _ ≤ _; exact Nat.le_of_eq rfl) (hb hby at_266) (fun _ _ => ⟨rfl, rfl, (by decide : 8 + 0 ≤ _), (by decide : 18 + 0 ≤ _)⟩)
        dsimp only [Pt.U, Pt.locs, Pt.cells, Pt.slots] at X24 l24 y24 z24 st24 hQ24
        subst l24 y24 z24
        obtain ⟨hr24, Nq24, sm24⟩ := hQ24
        obtain ⟨rfl, eq24⟩ := hr24.resolve_left (fun q => (by simp : ¬ _) q.2)
        have N24 := Fr.app N21 Nq24
        refine own_st (fun tq kq => st24.trans kq) ?_
        show own_G p e below _ (T24.setTop (mkF m 269 #[.val (.int p0), .val (.int p1), .val (.int p2), .val (.int (1 : Int32)), .val (.ref rl), .val (.int (0 : Int32)), .val (.int (1 : Int32)), .val (.int u0), .val (.int u1), .val (.int r0), .val (.int r1), .val (.ref b13), .val (.ref b14), .val (.ref b16), .val (.ref b19), .val (.int (0 : Int32)), .val (.int (0 : Int32))] [(.int (0 : Int32))]))
        refine own_st (fun tq kq => XS.iload X24.here hx rfl (hb hby at_269) rfl  kq) ?_
        show own_G p e below _ (T24.setTop (mkF m 271 #[.val (.int p0), .val (.int p1), .val (.int p2), .val (.int (1 : Int32)), .val (.ref rl), .val (.int (0 : Int32)), .val (.int (1 : Int32)), .val (.int u0), .val (.int u1), .val (.int r0), .val (.int r1), .val (.ref b13), .val (.ref b14), .val (.ref b16), .val (.ref b19), .val (.int (0 : Int32)), .val (.int (0 : Int32))] [(.int (0 : Int32)), (.int (0 : Int32))]))
        refine own_st (fun tq kq => XS.icmpNo X24.here hx rfl (hb hby at_271) rfl (teq (by decide : ((0 : Int32) = (0 : Int32)))).2 kq) ?_
        refine own_st (fun tq kq => XS.iconst X24.here hx rfl (hb hby at_274) kq) ?_
        refine own_st (fun tq kq => XS.goto X24.here hx rfl (pc0 := 275) (pc' := 279) rfl (hb hby at_275) (by decide) (by decide) kq) ?_
        show own_G p e below _ (T24.setTop (mkF m 279 #[.val (.int p0), .val (.int p1), .val (.int p2), .val (.int (1 : Int32)), .val (.ref rl), .val (.int (0 : Int32)), .val (.int (1 : Int32)), .val (.int u0), .val (.int u1), .val (.int r0), .val (.int r1), .val (.ref b13), .val (.ref b14), .val (.ref b16), .val (.ref b19), .val (.int (0 : Int32)), .val (.int (0 : Int32))] [(.int (1 : Int32))]))
        obtain ⟨fs, hr, hrun, hended, hRW⟩ := X24.leaveW S21 (by rw [sm24]; exact (own_le (by omega))) (v := some (.int (1 : Int32))) (fun h => by rw [Bd.returns] at h; cases h)
        have cE := C21.trans (CHv.at (s := s) (vm0 := T21.vm) X24 Z21 hEL C21.1)
        refine ⟨_, _, retN X24 hx (t := .boolean) Bd.returns (by simp) (hb hby at_279) hr, hrun, hended, _, _, rfl, ?_, ?_, own_RW hRW (by decide) (by decide)⟩
        · change (fun (v : Option Value) (_ : Vm) (h : Heap) (L : List Loc) => v = some (.int (1 : Int32)) ∧ Fr n0 L) (some (.int (1 : Int32))) T24.vm T24.heap _; rw [sm24]; exact ⟨rfl, N24⟩
        · rw [hh]; change CHr Z consts_1 s.vm h0 T24.vm T24.heap; rw [sm24]; exact cE
      ·
        show own_G p e below _ (T21.setTop (mkF m 239 #[.val (.int p0), .val (.int p1), .val (.int p2), .val (.int (0 : Int32)), .val (.ref rl), .val (.int (0 : Int32)), .val (.int (1 : Int32)), .val (.int u0), .val (.int u1), .val (.int r0), .val (.int r1), .val (.ref b13), .val (.ref b14), .val (.ref b16), .val (.ref b19), .val (.int (0 : Int32)), .unset] []))
        refine own_st (fun tq kq => XS.iloadN X21.here hx rfl (hb hby at_239) rfl  kq) ?_
        show own_G p e below _ (T21.setTop (mkF m 240 #[.val (.int p0), .val (.int p1), .val (.int p2), .val (.int (0 : Int32)), .val (.ref rl), .val (.int (0 : Int32)), .val (.int (1 : Int32)), .val (.int u0), .val (.int u1), .val (.int r0), .val (.int r1), .val (.ref b13), .val (.ref b14), .val (.ref b16), .val (.ref b19), .val (.int (0 : Int32)), .unset] [(.int (0 : Int32))]))
        refine own_st (fun tq kq => XS.ifYes X21.here hx rfl (pc0 := 240) (pc' := 248) rfl (hb hby at_240) rfl ((if0 _ _).trans (teq (by decide : ((0 : Int32) = (0 : Int32)))).1) (by decide) (by decide) kq) ?_
        refine own_st (fun tq kq => XS.iload X21.here hx rfl (hb hby at_248) rfl  kq) ?_
        show own_G p e below _ (T21.setTop (mkF m 250 #[.val (.int p0), .val (.int p1), .val (.int p2), .val (.int (0 : Int32)), .val (.ref rl), .val (.int (0 : Int32)), .val (.int (1 : Int32)), .val (.int u0), .val (.int u1), .val (.int r0), .val (.int r1), .val (.ref b13), .val (.ref b14), .val (.ref b16), .val (.ref b19), .val (.int (0 : Int32)), .unset] [(.int (0 : Int32))]))
        refine own_st (fun tq kq => XS.ifNo X21.here hx rfl (hb hby at_250) rfl ((if0 _ _).trans (teq (by decide : ((0 : Int32) = (0 : Int32)))).2) kq) ?_
        refine own_st (fun tq kq => XS.iconst X21.here hx rfl (hb hby at_253) kq) ?_
        refine own_st (fun tq kq => XS.goto X21.here hx rfl (pc0 := 254) (pc' := 258) rfl (hb hby at_254) (by decide) (by decide) kq) ?_
        refine own_st (fun tq kq => XS.istore X21.here hx rfl (hb hby at_258) rfl (l' := #[.val (.int p0), .val (.int p1), .val (.int p2), .val (.int (0 : Int32)), .val (.ref rl), .val (.int (0 : Int32)), .val (.int (1 : Int32)), .val (.int u0), .val (.int u1), .val (.int r0), .val (.int r1), .val (.ref b13), .val (.ref b14), .val (.ref b16), .val (.ref b19), .val (.int (0 : Int32)), .val (.int (1 : Int32))]) rfl kq) ?_
        show own_G p e below _ (T21.setTop (mkF m 260 #[.val (.int p0), .val (.int p1), .val (.int p2), .val (.int (0 : Int32)), .val (.ref rl), .val (.int (0 : Int32)), .val (.int (1 : Int32)), .val (.int u0), .val (.int u1), .val (.int r0), .val (.int r1), .val (.ref b13), .val (.ref b14), .val (.ref b16), .val (.ref b19), .val (.int (0 : Int32)), .val (.int (1 : Int32))] []))
        refine own_st (fun tq kq => XS.aload X21.here hx rfl (hb hby at_260) rfl rfl kq) ?_
        refine own_st (fun tq kq => XS.aload X21.here hx rfl (hb hby at_262) rfl rfl kq) ?_
        refine own_st (fun tq kq => XS.aload X21.here hx rfl (hb hby at_264) rfl rfl kq) ?_
        show own_G p e below _ (T21.setTop (mkF m 266 #[.val (.int p0), .val (.int p1), .val (.int p2), .val (.int (0 : Int32)), .val (.ref rl), .val (.int (0 : Int32)), .val (.int (1 : Int32)), .val (.int u0), .val (.int u1), .val (.int r0), .val (.int r1), .val (.ref b13), .val (.ref b14), .val (.ref b16), .val (.ref b19), .val (.int (0 : Int32)), .val (.int (1 : Int32))] [(.ref b19), (.ref b16), (.ref rl)]))
        obtain ⟨cq25, kq25, q25a, q25b, q25c⟩ := isOf Z21 rfl ((((((((Er.ext (X00.keep K0 all0).2).ext E13).ext E14).wr W15).ext E16).keep KK17).ext E19).keep KK21)
        obtain ⟨_, _, ⟨T25, L25, k25, n25⟩, -, X25, ⟨Lc25, hQ25, l25, y25, z25⟩, st25⟩ := X21.virtualBack hx (y := (⟨"com/example/veild/veild/policy/Constraint$Relation", "holds", "(Ljava/lang/String;Ljava/lang/String;)Z"⟩ : MethodName)) (z := (⟨"com/example/veild/veild/policy/Constraint$Relation", "holds", "(Ljava/lang/String;Ljava/lang/String;)Z"⟩ : MethodName)) o21 (mvT Z21 (hw _ (List.mem_of_getElem? (i := 36) rfl))) (mvT Z21 (hw _ (List.mem_of_getElem? (i := 37) rfl))) (notFace_of_selects (args := #[]) (mvT Z21 (hw _ (List.mem_of_getElem? (i := 39) rfl)))) (mvT Z21 (hw _ (List.mem_of_getElem? (i := 39) rfl))) (mvT Z21 (hw _ (List.mem_of_getElem? (i := 38) rfl))) (by decide) (own_backN (W := 0) (own_holds0 l Z a0 hw [] (rl) (b16) (b19) (([] : List Int32)) (([(nar .char r0)] : List Int32)) (T21.heap.size) (G1) T21.heap n0 (by omega) (X00.keep K21 all0) (Fr1.ext (X00.keep K21 all0).2) (own_Str.mono ((Str17.ext E19).keep KK21 (allS (own_le (by omega)) all0)) (by omega)) (own_Str.mono Str21 (by omega)) O2 P5) Z21 (hw _ (List.mem_of_getElem? (i := 40) rfl)) (hw _ (List.mem_of_getElem? (i := 1) rfl)) (by decide) (by decide)) q25a q25c (g := (mkF m 266 #[.val (.int p0), .val (.int p1), .val (.int p2), .val (.int (0 : Int32)), .val (.ref rl), .val (.int (0 : Int32)), .val (.int (1 : Int32)), .val (.int u0), .val (.int u1), .val (.int r0), .val (.int r1), .val (.ref b13), .val (.ref b14), .val (.ref b16), .val (.ref b19), .val (.int (0 : Int32)), .val (.int (1 : Int32))] [(.ref b19), (.ref b16), (.ref rl)])) rfl (by rw [hml]; rfl) (Steps.refl _) (argsL := [(.ref b16), (.ref b19)]) (rest := []) (lenOf own_pd3 rfl) rfl (by show 2 * 0 + _ ≤ _; exact Nat.le_of_eq rfl) (hb hby at_266) (fun _ _ => ⟨rfl, rfl, (by decide : 8 + 0 ≤ _), (by decide : 18 + 0 ≤ _)⟩)
        dsimp only [Pt.U, Pt.locs, Pt.cells, Pt.slots] at X25 l25 y25 z25 st25 hQ25
        subst l25 y25 z25
        obtain ⟨hr25, Nq25, sm25⟩ := hQ25
        obtain ⟨rfl, eq25⟩ := hr25.resolve_left (fun q => (by simp : ¬ _) q.2)
        have N25 := Fr.app N21 Nq25
        refine own_st (fun tq kq => st25.trans kq) ?_
        show own_G p e below _ (T25.setTop (mkF m 269 #[.val (.int p0), .val (.int p1), .val (.int p2), .val (.int (0 : Int32)), .val (.ref rl), .val (.int (0 : Int32)), .val (.int (1 : Int32)), .val (.int u0), .val (.int u1), .val (.int r0), .val (.int r1), .val (.ref b13), .val (.ref b14), .val (.ref b16), .val (.ref b19), .val (.int (0 : Int32)), .val (.int (1 : Int32))] [(.int (1 : Int32))]))
        refine own_st (fun tq kq => XS.iload X25.here hx rfl (hb hby at_269) rfl  kq) ?_
        show own_G p e below _ (T25.setTop (mkF m 271 #[.val (.int p0), .val (.int p1), .val (.int p2), .val (.int (0 : Int32)), .val (.ref rl), .val (.int (0 : Int32)), .val (.int (1 : Int32)), .val (.int u0), .val (.int u1), .val (.int r0), .val (.int r1), .val (.ref b13), .val (.ref b14), .val (.ref b16), .val (.ref b19), .val (.int (0 : Int32)), .val (.int (1 : Int32))] [(.int (1 : Int32)), (.int (1 : Int32))]))
        refine own_st (fun tq kq => XS.icmpNo X25.here hx rfl (hb hby at_271) rfl (teq (by decide : ((1 : Int32) = (1 : Int32)))).2 kq) ?_
        refine own_st (fun tq kq => XS.iconst X25.here hx rfl (hb hby at_274) kq) ?_
        refine own_st (fun tq kq => XS.goto X25.here hx rfl (pc0 := 275) (pc' := 279) rfl (hb hby at_275) (by decide) (by decide) kq) ?_
        show own_G p e below _ (T25.setTop (mkF m 279 #[.val (.int p0), .val (.int p1), .val (.int p2), .val (.int (0 : Int32)), .val (.ref rl), .val (.int (0 : Int32)), .val (.int (1 : Int32)), .val (.int u0), .val (.int u1), .val (.int r0), .val (.int r1), .val (.ref b13), .val (.ref b14), .val (.ref b16), .val (.ref b19), .val (.int (0 : Int32)), .val (.int (1 : Int32))] [(.int (1 : Int32))]))
        obtain ⟨fs, hr, hrun, hended, hRW⟩ := X25.leaveW S21 (by rw [sm25]; exact (own_le (by omega))) (v := some (.int (1 : Int32))) (fun h => by rw [Bd.returns] at h; cases h)
        have cE := C21.trans (CHv.at (s := s) (vm0 := T21.vm) X25 Z21 hEL C21.1)
        refine ⟨_, _, retN X25 hx (t := .boolean) Bd.returns (by simp) (hb hby at_279) hr, hrun, hended, _, _, rfl, ?_, ?_, own_RW hRW (by decide) (by decide)⟩
        · change (fun (v : Option Value) (_ : Vm) (h : Heap) (L : List Loc) => v = some (.int (1 : Int32)) ∧ Fr n0 L) (some (.int (1 : Int32))) T25.vm T25.heap _; rw [sm25]; exact ⟨rfl, N25⟩
        · rw [hh]; change CHr Z consts_1 s.vm h0 T25.vm T25.heap; rw [sm25]; exact cE
    ·
      show own_G p e below _ (T.setTop (mkF m 119 #[.val (.int p0), .val (.int p1), .val (.int p2), .val (.int sm), .val (.ref rl), .val (.int (0 : Int32)), .val (.int (2 : Int32)), .val (.int u0), .val (.int u1), .val (.int r0), .val (.int r1), .unset, .unset, .unset, .unset, .unset, .unset] []))
      refine own_st (fun tq kq => XS.iload X0.here hx rfl (hb hby at_119) rfl  kq) ?_
      show own_G p e below _ (T.setTop (mkF m 121 #[.val (.int p0), .val (.int p1), .val (.int p2), .val (.int sm), .val (.ref rl), .val (.int (0 : Int32)), .val (.int (2 : Int32)), .val (.int u0), .val (.int u1), .val (.int r0), .val (.int r1), .unset, .unset, .unset, .unset, .unset, .unset] [(.int (0 : Int32))]))
      obtain ⟨T26, h26, k26, X26, e26, E26, A26, st26⟩ := newP X0 hx hZ (hw _ (List.mem_of_getElem? (i := 3) rfl)) e0 (g := (mkF m 121 #[.val (.int p0), .val (.int p1), .val (.int p2), .val (.int sm), .val (.ref rl), .val (.int (0 : Int32)), .val (.int (2 : Int32)), .val (.int u0), .val (.int u1), .val (.int r0), .val (.int r1), .unset, .unset, .unset, .unset, .unset, .unset] [(.int (0 : Int32))])) rfl (hb hby at_121) rfl (by decide) (cap := 0) (by decide) (by decide) (by decide) (by decide)
      obtain ⟨b26, g26⟩ : ∃ z, z = h0.size := ⟨_, rfl⟩
      rw [← g26] at A26 st26
      have lt26 : b26 < h26.size := A26.lt
      have V26 : Arv Z h26 b26 k26 .char (0 : Int32) [] (.int (0 : Int32)) := Arv.new A26 (by decide)
      have sz26 : h0.size ≤ h26.size := E26.1
      have K26 : Keep h0 h26 [] := K0.ext E26
      have c26 : CHr Z consts_1 s.vm h0 s.vm h26 := CHr.ext E26 C0.1
      have C26 := C0.trans c26
      refine own_st st26 ?_
      show own_G p e below _ (T26.setTop (mkF m 123 #[.val (.int p0), .val (.int p1), .val (.int p2), .val (.int sm), .val (.ref rl), .val (.int (0 : Int32)), .val (.int (2 : Int32)), .val (.int u0), .val (.int u1), .val (.int r0), .val (.int r1), .unset, .unset, .unset, .unset, .unset, .unset] [(.ref b26)]))
      refine own_st (fun tq kq => XS.astore X26.here hx rfl (hb hby at_123) rfl rfl (l' := #[.val (.int p0), .val (.int p1), .val (.int p2), .val (.int sm), .val (.ref rl), .val (.int (0 : Int32)), .val (.int (2 : Int32)), .val (.int u0), .val (.int u1), .val (.int r0), .val (.int r1), .val (.ref b26), .unset, .unset, .unset, .unset, .unset]) rfl kq) ?_
      refine own_st (fun tq kq => XS.iload X26.here hx rfl (hb hby at_125) rfl  kq) ?_
      show own_G p e below _ (T26.setTop (mkF m 127 #[.val (.int p0), .val (.int p1), .val (.int p2), .val (.int sm), .val (.ref rl), .val (.int (0 : Int32)), .val (.int (2 : Int32)), .val (.int u0), .val (.int u1), .val (.int r0), .val (.int r1), .val (.ref b26), .unset, .unset, .unset, .unset, .unset] [(.int (0 : Int32))]))
      refine own_st (fun tq kq => XS.ifYes X26.here hx rfl (pc0 := 127) (pc' := 136) rfl (hb hby at_127) rfl ((if0 _ _).trans (flt (by decide : ¬ ((0 : Int32) < (0 : Int32)))).2.2.2) (by decide) (by decide) kq) ?_
      refine own_st (fun tq kq => XS.iload X26.here hx rfl (hb hby at_136) rfl  kq) ?_
      refine own_st (fun tq kq => XS.iconst X26.here hx rfl (hb hby at_138) kq) ?_
      show own_G p e below _ (T26.setTop (mkF m 139 #[.val (.int p0), .val (.int p1), .val (.int p2), .val (.int sm), .val (.ref rl), .val (.int (0 : Int32)), .val (.int (2 : Int32)), .val (.int u0), .val (.int u1), .val (.int r0), .val (.int r1), .val (.ref b26), .unset, .unset, .unset, .unset, .unset] [(.int (1 : Int32)), (.int (0 : Int32))]))
      refine own_st (fun tq kq => XS.icmpYes X26.here hx rfl (pc0 := 139) (pc' := 148) rfl (hb hby at_139) rfl (flt (by decide : ¬ ((1 : Int32) < (0 : Int32)))).2.2.2 (by decide) (by decide) kq) ?_
      refine own_st (fun tq kq => XS.iload X26.here hx rfl (hb hby at_148) rfl  kq) ?_
      show own_G p e below _ (T26.setTop (mkF m 150 #[.val (.int p0), .val (.int p1), .val (.int p2), .val (.int sm), .val (.ref rl), .val (.int (0 : Int32)), .val (.int (2 : Int32)), .val (.int u0), .val (.int u1), .val (.int r0), .val (.int r1), .val (.ref b26), .unset, .unset, .unset, .unset, .unset] [(.int (2 : Int32))]))
      obtain ⟨T27, h27, k27, X27, e27, E27, A27, st27⟩ := newP X26 hx hZ (hw _ (List.mem_of_getElem? (i := 3) rfl)) e26 (g := (mkF m 150 #[.val (.int p0), .val (.int p1), .val (.int p2), .val (.int sm), .val (.ref rl), .val (.int (0 : Int32)), .val (.int (2 : Int32)), .val (.int u0), .val (.int u1), .val (.int r0), .val (.int r1), .val (.ref b26), .unset, .unset, .unset, .unset, .unset] [(.int (2 : Int32))])) rfl (hb hby at_150) rfl (by decide) (cap := 2) (by decide) (by decide) (by decide) (by decide)
      obtain ⟨b27, g27⟩ : ∃ z, z = h26.size := ⟨_, rfl⟩
      rw [← g27] at A27 st27
      have lt27 : b27 < h27.size := A27.lt
      have V27 : Arv Z h27 b27 k27 .char (2 : Int32) [(.int (0 : Int32)), (.int (0 : Int32))] (.int (0 : Int32)) := (Arv.new A27 (by decide)).pad (pad_rep [] (.int (0 : Int32)) 2)
      have sz27 : h26.size ≤ h27.size := E27.1
      have K27 : Keep h0 h27 [] := K26.ext E27
      have c27 : CHr Z consts_1 s.vm h26 s.vm h27 := CHr.ext E27 C26.1
      have C27 := C26.trans c27
      refine own_st st27 ?_
      show own_G p e below _ (T27.setTop (mkF m 152 #[.val (.int p0), .val (.int p1), .val (.int p2), .val (.int sm), .val (.ref rl), .val (.int (0 : Int32)), .val (.int (2 : Int32)), .val (.int u0), .val (.int u1), .val (.int r0), .val (.int r1), .val (.ref b26), .unset, .unset, .unset, .unset, .unset] [(.ref b27)]))
      refine own_st (fun tq kq => XS.astore X27.here hx rfl (hb hby at_152) rfl rfl (l' := #[.val (.int p0), .val (.int p1), .val (.int p2), .val (.int sm), .val (.ref rl), .val (.int (0 : Int32)), .val (.int (2 : Int32)), .val (.int u0), .val (.int u1), .val (.int r0), .val (.int r1), .val (.ref b26), .val (.ref b27), .unset, .unset, .unset, .unset]) rfl kq) ?_
      refine own_st (fun tq kq => XS.iload X27.here hx rfl (hb hby at_154) rfl  kq) ?_
      show own_G p e below _ (T27.setTop (mkF m 156 #[.val (.int p0), .val (.int p1), .val (.int p2), .val (.int sm), .val (.ref rl), .val (.int (0 : Int32)), .val (.int (2 : Int32)), .val (.int u0), .val (.int u1), .val (.int r0), .val (.int r1), .val (.ref b26), .val (.ref b27), .unset, .unset, .unset, .unset] [(.int (2 : Int32))]))
      refine own_st (fun tq kq => XS.ifNo X27.here hx rfl (hb hby at_156) rfl ((if0 _ _).trans (tlt (by decide : ((0 : Int32) < (2 : Int32)))).2.2.2) kq) ?_
      refine own_st (fun tq kq => XS.aload X27.here hx rfl (hb hby at_159) rfl rfl kq) ?_
      refine own_st (fun tq kq => XS.iconst X27.here hx rfl (hb hby at_161) kq) ?_
      refine own_st (fun tq kq => XS.iload X27.here hx rfl (hb hby at_162) rfl  kq) ?_
      show own_G p e below _ (T27.setTop (mkF m 164 #[.val (.int p0), .val (.int p1), .val (.int p2), .val (.int sm), .val (.ref rl), .val (.int (0 : Int32)), .val (.int (2 : Int32)), .val (.int u0), .val (.int u1), .val (.int r0), .val (.int r1), .val (.ref b26), .val (.ref b27), .unset, .unset, .unset, .unset] [(.int r0), (.int (0 : Int32)), (.ref b27)]))
      obtain ⟨cl28, Ar28, q28, S_28, N_28, H_28, G_28⟩ := id V27
      have in28 : ¬ ((0 : Int32) < 0 ∨ cl28.slots.size ≤ ((0 : Int32)).toNatClampNeg) := inb_of S_28 ⟨by decide, by decide⟩
      obtain ⟨T28, h28, X28, e28, W28, st28⟩ := stC X27 hx hZ e27 Ar28 (j := (0 : Int32)) in28 (g := (mkF m 164 #[.val (.int p0), .val (.int p1), .val (.int p2), .val (.int sm), .val (.ref rl), .val (.int (0 : Int32)), .val (.int (2 : Int32)), .val (.int u0), .val (.int u1), .val (.int r0), .val (.int r1), .val (.ref b26), .val (.ref b27), .unset, .unset, .unset, .unset] [(.int r0), (.int (0 : Int32)), (.ref b27)])) rfl rfl (hb hby at_164)
      have V28 := Arv.set Ar28 q28 S_28 N_28 H_28 G_28 (fits_nar_char _) W28 0 rfl (Nat.le_of_ble_eq_true rfl)
      have sz28 : h27.size ≤ h28.size := (Keep.of_wr W28).1
      have K28 : Keep h0 h28 [] := K27.wr W28 (Or.inr (own_le (by omega)))
      have c28 : CHr Z consts_1 s.vm h27 s.vm h28 := CHr.wr W28 (Safe.arr hZ.alike Ar28 (by decide)) C27.1
      have C28 := C27.trans c28
      have N28 := Fr.snoc X28 N0 (own_le (by omega))
      refine own_st st28 ?_
      show own_G p e below _ (T28.setTop (mkF m 165 #[.val (.int p0), .val (.int p1), .val (.int p2), .val (.int sm), .val (.ref rl), .val (.int (0 : Int32)), .val (.int (2 : Int32)), .val (.int u0), .val (.int u1), .val (.int r0), .val (.int r1), .val (.ref b26), .val (.ref b27), .unset, .unset, .unset, .unset] []))
      refine own_st (fun tq kq => XS.iload X28.here hx rfl (hb hby at_165) rfl  kq) ?_
      refine own_st (fun tq kq => XS.iconst X28.here hx rfl (hb hby at_167) kq) ?_
      show own_G p e below _ (T28.setTop (mkF m 168 #[.val (.int p0), .val (.int p1), .val (.int p2), .val (.int sm), .val (.ref rl), .val (.int (0 : Int32)), .val (.int (2 : Int32)), .val (.int u0), .val (.int u1), .val (.int r0), .val (.int r1), .val (.ref b26), .val (.ref b27), .unset, .unset, .unset, .unset] [(.int (1 : Int32)), (.int (2 : Int32))]))
      refine own_st (fun tq kq => XS.icmpNo X28.here hx rfl (hb hby at_168) rfl (tlt (by decide : ((1 : Int32) < (2 : Int32)))).2.2.2 kq) ?_
      refine own_st (fun tq kq => XS.aload X28.here hx rfl (hb hby at_171) rfl rfl kq) ?_
      refine own_st (fun tq kq => XS.iconst X28.here hx rfl (hb hby at_173) kq) ?_
      refine own_st (fun tq kq => XS.iload X28.here hx rfl (hb hby at_174) rfl  kq) ?_
      show own_G p e below _ (T28.setTop (mkF m 176 #[.val (.int p0), .val (.int p1), .val (.int p2), .val (.int sm), .val (.ref rl), .val (.int (0 : Int32)), .val (.int (2 : Int32)), .val (.int u0), .val (.int u1), .val (.int r0), .val (.int r1), .val (.ref b26), .val (.ref b27), .unset, .unset, .unset, .unset] [(.int r1), (.int (1 : Int32)), (.ref b27)]))
      obtain ⟨cl29, Ar29, q29, S_29, N_29, H_29, G_29⟩ := id V28
      have in29 : ¬ ((1 : Int32) < 0 ∨ cl29.slots.size ≤ ((1 : Int32)).toNatClampNeg) := inb_of S_29 ⟨by decide, by decide⟩
      obtain ⟨T29, h29, X29, e29, W29, st29⟩ := stC X28 hx hZ e28 Ar29 (j := (1 : Int32)) in29 (g := (mkF m 176 #[.val (.int p0), .val (.int p1), .val (.int p2), .val (.int sm), .val (.ref rl), .val (.int (0 : Int32)), .val (.int (2 : Int32)), .val (.int u0), .val (.int u1), .val (.int r0), .val (.int r1), .val (.ref b26), .val (.ref b27), .unset, .unset, .unset, .unset] [(.int r1), (.int (1 : Int32)), (.ref b27)])) rfl rfl (hb hby at_176)
      have V29 := Arv.set Ar29 q29 S_29 N_29 H_29 G_29 (fits_nar_char _) W29 1 rfl (Nat.le_of_ble_eq_true rfl)
      have sz29 : h28.size ≤ h29.size := (Keep.of_wr W29).1
      have K29 : Keep h0 h29 [] := K28.wr W29 (Or.inr (own_le (by omega)))
      have c29 : CHr Z consts_1 s.vm h28 s.vm h29 := CHr.wr W29 (Safe.arr hZ.alike Ar29 (by decide)) C28.1
      have C29 := C28.trans c29
      have N29 := Fr.snoc X29 N28 (own_le (by omega))
      refine own_st st29 ?_
      show own_G p e below _ (T29.setTop (mkF m 177 #[.val (.int p0), .val (.int p1), .val (.int p2), .val (.int sm), .val (.ref rl), .val (.int (0 : Int32)), .val (.int (2 : Int32)), .val (.int u0), .val (.int u1), .val (.int r0), .val (.int r1), .val (.ref b26), .val (.ref b27), .unset, .unset, .unset, .unset] []))
      obtain ⟨T30, h30, X30, e30, E30, A30, D30, -, st30⟩ := newO X29 hx hZ hown (hw _ (List.mem_of_getElem? (i := 4) rfl)) (hw _ (List.mem_of_getElem? (i := 5) rfl)) (hw _ (List.mem_of_getElem? (i := 6) rfl)) e29 (g := (mkF m 177 #[.val (.int p0), .val (.int p1), .val (.int p2), .val (.int sm), .val (.ref rl), .val (.int (0 : Int32)), .val (.int (2 : Int32)), .val (.int u0), .val (.int u1), .val (.int r0), .val (.int r1), .val (.ref b26), .val (.ref b27), .unset, .unset, .unset, .unset] [])) rfl (hb hby at_177) (by decide) (by decide)
      obtain ⟨b30, g30⟩ : ∃ z, z = h29.size := ⟨_, rfl⟩
      rw [← g30] at A30 D30 st30
      have lt30 : b30 < h30.size := A30.lt
      have Sn30 : Safe Z consts_1 s.vm h29 b30 := Safe.new (own_le (by omega))
      have sz30 : h29.size ≤ h30.size := E30.1
      have K30 : Keep h0 h30 [] := K29.ext E30
      have c30 : CHr Z consts_1 s.vm h29 s.vm h30 := CHr.ext E30 C29.1
      have C30 := C29.trans c30
      have Sf30 : Safe Z consts_1 s.vm h30 b30 := Safe.ext E30 C29.1 Sn30
      have F30_coder : Fld Z h30 b30 "java/lang/String" "coder" "B" (.int (0 : Int32)) := D30 (Or.inr (hw _ (List.mem_of_getElem? (i := 30) rfl))) (ty := .byte) (by decide)
      have F30_value : Fld Z h30 b30 "java/lang/String" "value" "[B" .null := D30 (Or.inr (hw _ (List.mem_of_getElem? (i := 32) rfl))) (ty := (.array .byte)) (by decide)
      refine own_st st30 ?_
      show own_G p e below _ (T30.setTop (mkF m 180 #[.val (.int p0), .val (.int p1), .val (.int p2), .val (.int sm), .val (.ref rl), .val (.int (0 : Int32)), .val (.int (2 : Int32)), .val (.int u0), .val (.int u1), .val (.int r0), .val (.int r1), .val (.ref b26), .val (.ref b27), .unset, .unset, .unset, .unset] [(.ref b30)]))
      refine own_st (fun tq kq => XS.dup X30.here hx rfl (hb hby at_180) rfl rfl kq) ?_
      refine own_st (fun tq kq => XS.aload X30.here hx rfl (hb hby at_181) rfl rfl kq) ?_
      show own_G p e below _ (T30.setTop (mkF m 183 #[.val (.int p0), .val (.int p1), .val (.int p2), .val (.int sm), .val (.ref rl), .val (.int (0 : Int32)), .val (.int (2 : Int32)), .val (.int u0), .val (.int u1), .val (.int r0), .val (.int r1), .val (.ref b26), .val (.ref b27), .unset, .unset, .unset, .unset] [(.ref b26), (.ref b30), (.ref b30)]))
      have hp31 : ∀ c ∈ ([] : List Int32), ¬ c < 0 ∧ ¬ (255 : Int32) < c := fun c hc => by cases hc
      obtain ⟨_, _, ⟨T31, L31, k31, n31⟩, -, Y31, S31p, gr31, ⟨Lc31, hQ31, l31, y31, z31, c31⟩, st31⟩ := X30.specialBackS hx (y := (⟨"java/lang/String", "<init>", "([C)V"⟩ : MethodName)) rfl hown (mvT hZ (hw _ (List.mem_of_getElem? (i := 7) rfl))) (mvT hZ (hw _ (List.mem_of_getElem? (i := 8) rfl))) (mvT hZ (hw _ (List.mem_of_getElem? (i := 9) rfl))) (by decide) (own_newStr (s := s) (vm0 := s.vm) (W := 1) hZ hw hEL C30.1 (cs := ([] : List Int32)) (n := 0) (n0 := n0) Sf30 (by omega) (X00.keep K30 all0) A30 F30_value F30_coder ((((V26.ext E27).other W28 (own_ne (by omega))).other W29 (own_ne (by omega))).ext E30) O2 P5 rfl rfl (by decide) hp31 (by decide) (by decide)) (g := (mkF m 183 #[.val (.int p0), .val (.int p1), .val (.int p2), .val (.int sm), .val (.ref rl), .val (.int (0 : Int32)), .val (.int (2 : Int32)), .val (.int u0), .val (.int u1), .val (.int r0), .val (.int r1), .val (.ref b26), .val (.ref b27), .unset, .unset, .unset, .unset] [(.ref b26), (.ref b30), (.ref b30)])) rfl (by rw [hml]; rfl) (Steps.refl _) (a := b30) (argsL := [(.ref b26)]) (rest := [(.ref b30)]) (lenOf own_pd2 rfl) rfl (by show 2 * 0 + _ ≤ _; exact Nat.le_of_eq rfl) (hb hby at_183) (fun _ _ => ⟨rfl, e30, (by decide : 3 + 2 ≤ _), (by decide : 6 + 4 ≤ _)⟩)
      dsimp only [Pt.U, Pt.locs, Pt.cells, Pt.slots] at Y31 S31p gr31 l31 y31 z31 st31 hQ31 c31
      subst l31 y31 z31
      obtain ⟨X31, S31, Z31, o31⟩ := rebS S0 (by rw [e30]; exact (own_le (by omega))) Y31 S31p gr31 hZ hown
      obtain ⟨rfl, Nq31, Kq31, Str31⟩ := hQ31
      have KK31 : Keep h30 T31.heap [b30] := Kq31
      have sz31 : h30.size ≤ T31.heap.size := KK31.1
      have K31 : Keep h0 T31.heap [] := K30.trans KK31 (allS (Or.inr (own_le (by omega))) all0)
      have C31 := C30.trans c31
      have Sf31_32 := c31.safe (own_lt (by omega)) Sf30
      have N31 := Fr.app N29 Nq31
      refine own_st (fun tq kq => st31.trans kq) ?_
      show own_G p e below _ (T31.setTop (mkF m 186 #[.val (.int p0), .val (.int p1), .val (.int p2), .val (.int sm), .val (.ref rl), .val (.int (0 : Int32)), .val (.int (2 : Int32)), .val (.int u0), .val (.int u1), .val (.int r0), .val (.int r1), .val (.ref b26), .val (.ref b27), .unset, .unset, .unset, .unset] [(.ref b30)]))
      refine own_st (fun tq kq => XS.astore X31.here hx rfl (hb hby at_186) rfl rfl (l' := #[.val (.int p0), .val (.int p1), .val (.int p2), .val (.int sm), .val (.ref rl), .val (.int (0 : Int32)), .val (.int (2 : Int32)), .val (.int u0), .val (.int u1), .val (.int r0), .val (.int r1), .val (.ref b26), .val (.ref b27), .val (.ref b30), .unset, .unset, .unset]) rfl kq) ?_
      show own_G p e below _ (T31.setTop (mkF m 188 #[.val (.int p0), .val (.int p1), .val (.int p2), .val (.int sm), .val (.ref rl), .val (.int (0 : Int32)), .val (.int (2 : Int32)), .val (.int u0), .val (.int u1), .val (.int r0), .val (.int r1), .val (.ref b26), .val (.ref b27), .val (.ref b30), .unset, .unset, .unset] []))
      obtain ⟨T33, h33, X33, e33, E33, A33, D33, -, st33⟩ := newO X31 hx Z31 o31 (hw _ (List.mem_of_getElem? (i := 4) rfl)) (hw _ (List.mem_of_getElem? (i := 5) rfl)) (hw _ (List.mem_of_getElem? (i := 6) rfl)) rfl (g := (mkF m 188 #[.val (.int p0), .val (.int p1), .val (.int p2), .val (.int sm), .val (.ref rl), .val (.int (0 : Int32)), .val (.int (2 : Int32)), .val (.int u0), .val (.int u1), .val (.int r0), .val (.int r1), .val (.ref b26), .val (.ref b27), .val (.ref b30), .unset, .unset, .unset] [])) rfl (hb hby at_188) (by decide) (by decide)
      obtain ⟨b33, g33⟩ : ∃ z, z = T31.heap.size := ⟨_, rfl⟩
      rw [← g33] at A33 D33 st33
      have lt33 : b33 < h33.size := A33.lt
      have Sn33 : Safe Z consts_1 T31.vm T31.heap b33 := Safe.new (own_le (by omega))
      have sz33 : T31.heap.size ≤ h33.size := E33.1
      have K33 : Keep h0 h33 [] := K31.ext E33
      have c33 : CHr Z consts_1 T31.vm T31.heap T31.vm h33 := CHr.ext E33 C31.1
      have C33 := C31.trans c33
      have Sf33_34 := c33.safe (own_lt (by omega)) Sf31_32
      have Sf33 : Safe Z consts_1 T31.vm h33 b33 := Safe.ext E33 C31.1 Sn33
      have F33_coder : Fld Z h33 b33 "java/lang/String" "coder" "B" (.int (0 : Int32)) := D33 (Or.inr (hw _ (List.mem_of_getElem? (i := 30) rfl))) (ty := .byte) (by decide)
      have F33_value : Fld Z h33 b33 "java/lang/String" "value" "[B" .null := D33 (Or.inr (hw _ (List.mem_of_getElem? (i := 32) rfl))) (ty := (.array .byte)) (by decide)
      refine own_st st33 ?_
      show own_G p e below _ (T33.setTop (mkF m 191 #[.val (.int p0), .val (.int p1), .val (.int p2), .val (.int sm), .val (.ref rl), .val (.int (0 : Int32)), .val (.int (2 : Int32)), .val (.int u0), .val (.int u1), .val (.int r0), .val (.int r1), .val (.ref b26), .val (.ref b27), .val (.ref b30), .unset, .unset, .unset] [(.ref b33)]))
      refine own_st (fun tq kq => XS.dup X33.here hx rfl (hb hby at_191) rfl rfl kq) ?_
      refine own_st (fun tq kq => XS.aload X33.here hx rfl (hb hby at_192) rfl rfl kq) ?_
      show own_G p e below _ (T33.setTop (mkF m 194 #[.val (.int p0), .val (.int p1), .val (.int p2), .val (.int sm), .val (.ref rl), .val (.int (0 : Int32)), .val (.int (2 : Int32)), .val (.int u0), .val (.int u1), .val (.int r0), .val (.int r1), .val (.ref b26), .val (.ref b27), .val (.ref b30), .unset, .unset, .unset] [(.ref b27), (.ref b33), (.ref b33)]))
      have hp35 : ∀ c ∈ ([(nar .char r0), (nar .char r1)] : List Int32), ¬ c < 0 ∧ ¬ (255 : Int32) < c := by
        intro c hc
        simp only [List.mem_cons, List.not_mem_nil, or_false] at hc
        rcases hc with rfl | rfl
        · assumption
        · assumption
      obtain ⟨_, _, ⟨T35, L35, k35, n35⟩, -, Y35, S35p, gr35, ⟨Lc35, hQ35, l35, y35, z35, c35⟩, st35⟩ := X33.specialBackS hx (y := (⟨"java/lang/String", "<init>", "([C)V"⟩ : MethodName)) rfl o31 (mvT Z31 (hw _ (List.mem_of_getElem? (i := 7) rfl))) (mvT Z31 (hw _ (List.mem_of_getElem? (i := 8) rfl))) (mvT Z31 (hw _ (List.mem_of_getElem? (i := 9) rfl))) (by decide) (own_newStr (s := s) (vm0 := T31.vm) (W := 1) Z31 hw hEL C33.1 (cs := ([(nar .char r0), (nar .char r1)] : List Int32)) (n := 2) (n0 := n0) Sf33 (by omega) (X00.keep K33 all0) A33 F33_value F33_coder (((V29.ext E30).keep KK31 (ninS (own_ne (by omega)) nin0)).ext E33) O2 P5 rfl rfl (by decide) hp35 (by decide) (by decide)) (g := (mkF m 194 #[.val (.int p0), .val (.int p1), .val (.int p2), .val (.int sm), .val (.ref rl), .val (.int (0 : Int32)), .val (.int (2 : Int32)), .val (.int u0), .val (.int u1), .val (.int r0), .val (.int r1), .val (.ref b26), .val (.ref b27), .val (.ref b30), .unset, .unset, .unset] [(.ref b27), (.ref b33), (.ref b33)])) rfl (by rw [hml]; rfl) (Steps.refl _) (a := b33) (argsL := [(.ref b27)]) (rest := [(.ref b33)]) (lenOf own_pd2 rfl) rfl (by show 2 * 0 + _ ≤ _; exact Nat.le_of_eq rfl) (hb hby at_194) (fun _ _ => ⟨rfl, e33, (by decide : 6 + 2 ≤ _), (by decide : 14 + 6 ≤ _)⟩)
      dsimp only [Pt.U, Pt.locs, Pt.cells, Pt.slots] at Y35 S35p gr35 l35 y35 z35 st35 hQ35 c35
      subst l35 y35 z35
      obtain ⟨X35, S35, Z35, o35⟩ := rebS S31 (by rw [e33]; exact (own_le (by omega))) Y35 S35p gr35 Z31 o31
      obtain ⟨rfl, Nq35, Kq35, Str35⟩ := hQ35
      have KK35 : Keep h33 T35.heap [b33] := Kq35
      have sz35 : h33.size ≤ T35.heap.size := KK35.1
      have K35 : Keep h0 T35.heap [] := K33.trans KK35 (allS (Or.inr (own_le (by omega))) all0)
      have C35 := C33.trans c35
      have Sf35_36 := c35.safe (own_lt (by omega)) Sf33_34
      have Sf35_37 := c35.safe (own_lt (by omega)) Sf33
      have N35 := Fr.app N31 Nq35
      refine own_st (fun tq kq => st35.trans kq) ?_
      show own_G p e below _ (T35.setTop (mkF m 197 #[.val (.int p0), .val (.int p1), .val (.int p2), .val (.int sm), .val (.ref rl), .val (.int (0 : Int32)), .val (.int (2 : Int32)), .val (.int u0), .val (.int u1), .val (.int r0), .val (.int r1), .val (.ref b26), .val (.ref b27), .val (.ref b30), .unset, .unset, .unset] [(.ref b33)]))
      refine own_st (fun tq kq => XS.astore X35.here hx rfl (hb hby at_197) rfl rfl (l' := #[.val (.int p0), .val (.int p1), .val (.int p2), .val (.int sm), .val (.ref rl), .val (.int (0 : Int32)), .val (.int (2 : Int32)), .val (.int u0), .val (.int u1), .val (.int r0), .val (.int r1), .val (.ref b26), .val (.ref b27), .val (.ref b30), .val (.ref b33), .unset, .unset]) rfl kq) ?_
      refine own_st (fun tq kq => XS.iload X35.here hx rfl (hb hby at_199) rfl  kq) ?_
      refine own_st (fun tq kq => XS.iload X35.here hx rfl (hb hby at_201) rfl  kq) ?_
      show own_G p e below _ (T35.setTop (mkF m 203 #[.val (.int p0), .val (.int p1), .val (.int p2), .val (.int sm), .val (.ref rl), .val (.int (0 : Int32)), .val (.int (2 : Int32)), .val (.int u0), .val (.int u1), .val (.int r0), .val (.int r1), .val (.ref b26), .val (.ref b27), .val (.ref b30), .val (.ref b33), .unset, .unset] [(.int (2 : Int32)), (.int (0 : Int32))]))
      refine own_st (fun tq kq => XS.icmpYes X35.here hx rfl (pc0 := 203) (pc' := 236) rfl (hb hby at_203) rfl (feq (by decide : ¬ ((0 : Int32) = (2 : Int32)))).2 (by decide) (by decide) kq) ?_
      refine own_st (fun tq kq => XS.iconst X35.here hx rfl (hb hby at_236) kq) ?_
      refine own_st (fun tq kq => XS.istore X35.here hx rfl (hb hby at_237) rfl (l' := #[.val (.int p0), .val (.int p1), .val (.int p2), .val (.int sm), .val (.ref rl), .val (.int (0 : Int32)), .val (.int (2 : Int32)), .val (.int u0), .val (.int u1), .val (.int r0), .val (.int r1), .val (.ref b26), .val (.ref b27), .val (.ref b30), .val (.ref b33), .val (.int (0 : Int32)), .unset]) rfl kq) ?_
      show own_G p e below _ (T35.setTop (mkF m 239 #[.val (.int p0), .val (.int p1), .val (.int p2), .val (.int sm), .val (.ref rl), .val (.int (0 : Int32)), .val (.int (2 : Int32)), .val (.int u0), .val (.int u1), .val (.int r0), .val (.int r1), .val (.ref b26), .val (.ref b27), .val (.ref b30), .val (.ref b33), .val (.int (0 : Int32)), .unset] []))
      rcases hsm with rfl | rfl
      ·
        show own_G p e below _ (T35.setTop (mkF m 239 #[.val (.int p0), .val (.int p1), .val (.int p2), .val (.int (1 : Int32)), .val (.ref rl), .val (.int (0 : Int32)), .val (.int (2 : Int32)), .val (.int u0), .val (.int u1), .val (.int r0), .val (.int r1), .val (.ref b26), .val (.ref b27), .val (.ref b30), .val (.ref b33), .val (.int (0 : Int32)), .unset] []))
        refine own_st (fun tq kq => XS.iloadN X35.here hx rfl (hb hby at_239) rfl  kq) ?_
        show own_G p e below _ (T35.setTop (mkF m 240 #[.val (.int p0), .val (.int p1), .val (.int p2), .val (.int (1 : Int32)), .val (.ref rl), .val (.int (0 : Int32)), .val (.int (2 : Int32)), .val (.int u0), .val (.int u1), .val (.int r0), .val (.int r1), .val (.ref b26), .val (.ref b27), .val (.ref b30), .val (.ref b33), .val (.int (0 : Int32)), .unset] [(.int (1 : Int32))]))
        refine own_st (fun tq kq => XS.ifNo X35.here hx rfl (hb hby at_240) rfl ((if0 _ _).trans (feq (by decide : ¬ ((1 : Int32) = (0 : Int32)))).1) kq) ?_
        refine own_st (fun tq kq => XS.iload X35.here hx rfl (hb hby at_243) rfl  kq) ?_
        refine own_st (fun tq kq => XS.goto X35.here hx rfl (pc0 := 245) (pc' := 258) rfl (hb hby at_245) (by decide) (by decide) kq) ?_
        refine own_st (fun tq kq => XS.istore X35.here hx rfl (hb hby at_258) rfl (l' := #[.val (.int p0), .val (.int p1), .val (.int p2), .val (.int (1 : Int32)), .val (.ref rl), .val (.int (0 : Int32)), .val (.int (2 : Int32)), .val (.int u0), .val (.int u1), .val (.int r0), .val (.int r1), .val (.ref b26), .val (.ref b27), .val (.ref b30), .val (.ref b33), .val (.int (0 : Int32)), .val (.int (0 : Int32))]) rfl kq) ?_
        show own_G p e below _ (T35.setTop (mkF m 260 #[.val (.int p0), .val (.int p1), .val (.int p2), .val (.int (1 : Int32)), .val (.ref rl), .val (.int (0 : Int32)), .val (.int (2 : Int32)), .val (.int u0), .val (.int u1), .val (.int r0), .val (.int r1), .val (.ref b26), .val (.ref b27), .val (.ref b30), .val (.ref b33), .val (.int (0 : Int32)), .val (.int (0 : Int32))] []))
        refine own_st (fun tq kq => XS.aload X35.here hx rfl (hb hby at_260) rfl rfl kq) ?_
        refine own_st (fun tq kq => XS.aload X35.here hx rfl (hb hby at_262) rfl rfl kq) ?_
        refine own_st (fun tq kq => XS.aload X35.here hx rfl (hb hby at_264) rfl rfl kq) ?_
        show own_G p e below _ (T35.setTop (mkF m 266 #[.val (.int p0), .val (.int p1), .val (.int p2), .val (.int (1 : Int32)), .val (.ref rl), .val (.int (0 : Int32)), .val (.int (2 : Int32)), .val (.int u0), .val (.int u1), .val (.int r0), .val (.int r1), .val (.ref b26), .val (.ref b27), .val (.ref b30), .val (.ref b33), .val (.int (0 : Int32)), .val (.int (0 : Int32))] [(.ref b33), (.ref b30), (.ref rl)]))
        obtain ⟨cq38, kq38, q38a, q38b, q38c⟩ := isOf Z35 rfl (((((((((Er.ext (X00.keep K0 all0).2).ext E26).ext E27).wr W28).wr W29).ext E30).keep KK31).ext E33).keep KK35)
        obtain ⟨_, _, ⟨T38, L38, k38, n38⟩, -, X38, ⟨Lc38, hQ38, l38, y38, z38⟩, st38⟩ := X35.virtualBack hx (y := (⟨"com/example/veild/veild/policy/Constraint$Relation", "holds", "(Ljava/lang/String;Ljava/lang/String;)Z"⟩ : MethodName)) (z := (⟨"com/example/veild/veild/policy/Constraint$Relation", "holds", "(Ljava/lang/String;Ljava/lang/String;)Z"⟩ : MethodName)) o35 (mvT Z35 (hw _ (List.mem_of_getElem? (i := 36) rfl))) (mvT Z35 (hw _ (List.mem_of_getElem? (i := 37) rfl))) (notFace_of_selects (args := #[]) (mvT Z35 (hw _ (List.mem_of_getElem? (i := 39) rfl)))) (mvT Z35 (hw _ (List.mem_of_getElem? (i := 39) rfl))) (mvT Z35 (hw _ (List.mem_of_getElem? (i := 38) rfl))) (by decide) (own_backN (W := 0) (own_holds1 l Z a0 hw [] (rl) (b30) (b33) (([] : List Int32)) (([(nar .char r0), (nar .char r1)] : List Int32)) (T35.heap.size) (G1) T35.heap n0 (by omega) (X00.keep K35 all0) (Fr1.ext (X00.keep K35 all0).2) (own_Str.mono ((Str31.ext E33).keep KK35 (allS (own_le (by omega)) all0)) (by omega)) (own_Str.mono Str35 (by omega)) O2 P5) Z35 (hw _ (List.mem_of_getElem? (i := 40) rfl)) (hw _ (List.mem_of_getElem? (i := 1) rfl)) (by decide) (by decide)) q38a q38c (g := (mkF m 266 #[.val (.int p0), .val (.int p1), .val (.int p2), .val (.int (1 : Int32)), .val (.ref rl), .val (.int (0 : Int32)), .val (.int (2 : Int32)), .val (.int u0), .val (.int u1), .val (.int r0), .val (.int r1), .val (.ref b26), .val (.ref b27), .val (.ref b30), .val (.ref b33), .val (.int (0 : Int32)), .val (.int (0 : Int32))] [(.ref b33), (.ref b30), (.ref rl)])) rfl (by rw [hml]; rfl) (Steps.refl _) (argsL := [(.ref b30), (.ref b33)]) (rest := []) (lenOf own_pd3 rfl) rfl (by show 2 * 0 + _ ≤ _; exact Nat.le_of_eq rfl) (hb hby at_266) (fun _ _ => ⟨rfl, rfl, (by decide : 8 + 0 ≤ _), (by decide : 20 + 0 ≤ _)⟩)
        dsimp only [Pt.U, Pt.locs, Pt.cells, Pt.slots] at X38 l38 y38 z38 st38 hQ38
        subst l38 y38 z38
        obtain ⟨hr38, Nq38, sm38⟩ := hQ38
        obtain ⟨rfl, eq38⟩ := hr38.resolve_left (fun q => (by simp : ¬ _) q.2)
        have N38 := Fr.app N35 Nq38
        refine own_st (fun tq kq => st38.trans kq) ?_
        show own_G p e below _ (T38.setTop (mkF m 269 #[.val (.int p0), .val (.int p1), .val (.int p2), .val (.int (1 : Int32)), .val (.ref rl), .val (.int (0 : Int32)), .val (.int (2 : Int32)), .val (.int u0), .val (.int u1), .val (.int r0), .val (.int r1), .val (.ref b26), .val (.ref b27), .val (.ref b30), .val (.ref b33), .val (.int (0 : Int32)), .val (.int (0 : Int32))] [(.int (0 : Int32))]))
        refine own_st (fun tq kq => XS.iload X38.here hx rfl (hb hby at_269) rfl  kq) ?_
        show own_G p e below _ (T38.setTop (mkF m 271 #[.val (.int p0), .val (.int p1), .val (.int p2), .val (.int (1 : Int32)), .val (.ref rl), .val (.int (0 : Int32)), .val (.int (2 : Int32)), .val (.int u0), .val (.int u1), .val (.int r0), .val (.int r1), .val (.ref b26), .val (.ref b27), .val (.ref b30), .val (.ref b33), .val (.int (0 : Int32)), .val (.int (0 : Int32))] [(.int (0 : Int32)), (.int (0 : Int32))]))
        refine own_st (fun tq kq => XS.icmpNo X38.here hx rfl (hb hby at_271) rfl (teq (by decide : ((0 : Int32) = (0 : Int32)))).2 kq) ?_
        refine own_st (fun tq kq => XS.iconst X38.here hx rfl (hb hby at_274) kq) ?_
        refine own_st (fun tq kq => XS.goto X38.here hx rfl (pc0 := 275) (pc' := 279) rfl (hb hby at_275) (by decide) (by decide) kq) ?_
        show own_G p e below _ (T38.setTop (mkF m 279 #[.val (.int p0), .val (.int p1), .val (.int p2), .val (.int (1 : Int32)), .val (.ref rl), .val (.int (0 : Int32)), .val (.int (2 : Int32)), .val (.int u0), .val (.int u1), .val (.int r0), .val (.int r1), .val (.ref b26), .val (.ref b27), .val (.ref b30), .val (.ref b33), .val (.int (0 : Int32)), .val (.int (0 : Int32))] [(.int (1 : Int32))]))
        obtain ⟨fs, hr, hrun, hended, hRW⟩ := X38.leaveW S35 (by rw [sm38]; exact (own_le (by omega))) (v := some (.int (1 : Int32))) (fun h => by rw [Bd.returns] at h; cases h)
        have cE := C35.trans (CHv.at (s := s) (vm0 := T35.vm) X38 Z35 hEL C35.1)
        refine ⟨_, _, retN X38 hx (t := .boolean) Bd.returns (by simp) (hb hby at_279) hr, hrun, hended, _, _, rfl, ?_, ?_, own_RW hRW (by decide) (by decide)⟩
        · change (fun (v : Option Value) (_ : Vm) (h : Heap) (L : List Loc) => v = some (.int (1 : Int32)) ∧ Fr n0 L) (some (.int (1 : Int32))) T38.vm T38.heap _; rw [sm38]; exact ⟨rfl, N38⟩
        · rw [hh]; change CHr Z consts_1 s.vm h0 T38.vm T38.heap; rw [sm38]; exact cE
      ·
        show own_G p e below _ (T35.setTop (mkF m 239 #[.val (.int p0), .val (.int p1), .val (.int p2), .val (.int (0 : Int32)), .val (.ref rl), .val (.int (0 : Int32)), .val (.int (2 : Int32)), .val (.int u0), .val (.int u1), .val (.int r0), .val (.int r1), .val (.ref b26), .val (.ref b27), .val (.ref b30), .val (.ref b33), .val (.int (0 : Int32)), .unset] []))
        refine own_st (fun tq kq => XS.iloadN X35.here hx rfl (hb hby at_239) rfl  kq) ?_
        show own_G p e below _ (T35.setTop (mkF m 240 #[.val (.int p0), .val (.int p1), .val (.int p2), .val (.int (0 : Int32)), .val (.ref rl), .val (.int (0 : Int32)), .val (.int (2 : Int32)), .val (.int u0), .val (.int u1), .val (.int r0), .val (.int r1), .val (.ref b26), .val (.ref b27), .val (.ref b30), .val (.ref b33), .val (.int (0 : Int32)), .unset] [(.int (0 : Int32))]))
        refine own_st (fun tq kq => XS.ifYes X35.here hx rfl (pc0 := 240) (pc' := 248) rfl (hb hby at_240) rfl ((if0 _ _).trans (teq (by decide : ((0 : Int32) = (0 : Int32)))).1) (by decide) (by decide) kq) ?_
        refine own_st (fun tq kq => XS.iload X35.here hx rfl (hb hby at_248) rfl  kq) ?_
        show own_G p e below _ (T35.setTop (mkF m 250 #[.val (.int p0), .val (.int p1), .val (.int p2), .val (.int (0 : Int32)), .val (.ref rl), .val (.int (0 : Int32)), .val (.int (2 : Int32)), .val (.int u0), .val (.int u1), .val (.int r0), .val (.int r1), .val (.ref b26), .val (.ref b27), .val (.ref b30), .val (.ref b33), .val (.int (0 : Int32)), .unset] [(.int (0 : Int32))]))
        refine own_st (fun tq kq => XS.ifNo X35.here hx rfl (hb hby at_250) rfl ((if0 _ _).trans (teq (by decide : ((0 : Int32) = (0 : Int32)))).2) kq) ?_
        refine own_st (fun tq kq => XS.iconst X35.here hx rfl (hb hby at_253) kq) ?_
        refine own_st (fun tq kq => XS.goto X35.here hx rfl (pc0 := 254) (pc' := 258) rfl (hb hby at_254) (by decide) (by decide) kq) ?_
        refine own_st (fun tq kq => XS.istore X35.here hx rfl (hb hby at_258) rfl (l' := #[.val (.int p0), .val (.int p1), .val (.int p2), .val (.int (0 : Int32)), .val (.ref rl), .val (.int (0 : Int32)), .val (.int (2 : Int32)), .val (.int u0), .val (.int u1), .val (.int r0), .val (.int r1), .val (.ref b26), .val (.ref b27), .val (.ref b30), .val (.ref b33), .val (.int (0 : Int32)), .val (.int (1 : Int32))]) rfl kq) ?_
        show own_G p e below _ (T35.setTop (mkF m 260 #[.val (.int p0), .val (.int p1), .val (.int p2), .val (.int (0 : Int32)), .val (.ref rl), .val (.int (0 : Int32)), .val (.int (2 : Int32)), .val (.int u0), .val (.int u1), .val (.int r0), .val (.int r1), .val (.ref b26), .val (.ref b27), .val (.ref b30), .val (.ref b33), .val (.int (0 : Int32)), .val (.int (1 : Int32))] []))
        refine own_st (fun tq kq => XS.aload X35.here hx rfl (hb hby at_260) rfl rfl kq) ?_
        refine own_st (fun tq kq => XS.aload X35.here hx rfl (hb hby at_262) rfl rfl kq) ?_
        refine own_st (fun tq kq => XS.aload X35.here hx rfl (hb hby at_264) rfl rfl kq) ?_
        show own_G p e below _ (T35.setTop (mkF m 266 #[.val (.int p0), .val (.int p1), .val (.int p2), .val (.int (0 : Int32)), .val (.ref rl), .val (.int (0 : Int32)), .val (.int (2 : Int32)), .val (.int u0), .val (.int u1), .val (.int r0), .val (.int r1), .val (.ref b26), .val (.ref b27), .val (.ref b30), .val (.ref b33), .val (.int (0 : Int32)), .val (.int (1 : Int32))] [(.ref b33), (.ref b30), (.ref rl)]))
        obtain ⟨cq39, kq39, q39a, q39b, q39c⟩ := isOf Z35 rfl (((((((((Er.ext (X00.keep K0 all0).2).ext E26).ext E27).wr W28).wr W29).ext E30).keep KK31).ext E33).keep KK35)
        obtain ⟨_, _, ⟨T39, L39, k39, n39⟩, -, X39, ⟨Lc39, hQ39, l39, y39, z39⟩, st39⟩ := X35.virtualBack hx (y := (⟨"com/example/veild/veild/policy/Constraint$Relation", "holds", "(Ljava/lang/String;Ljava/lang/String;)Z"⟩ : MethodName)) (z := (⟨"com/example/veild/veild/policy/Constraint$Relation", "holds", "(Ljava/lang/String;Ljava/lang/String;)Z"⟩ : MethodName)) o35 (mvT Z35 (hw _ (List.mem_of_getElem? (i := 36) rfl))) (mvT Z35 (hw _ (List.mem_of_getElem? (i := 37) rfl))) (notFace_of_selects (args := #[]) (mvT Z35 (hw _ (List.mem_of_getElem? (i := 39) rfl)))) (mvT Z35 (hw _ (List.mem_of_getElem? (i := 39) rfl))) (mvT Z35 (hw _ (List.mem_of_getElem? (i := 38) rfl))) (by decide) (own_backN (W := 0) (own_holds0 l Z a0 hw [] (rl) (b30) (b33) (([] : List Int32)) (([(nar .char r0), (nar .char r1)] : List Int32)) (T35.heap.size) (G1) T35.heap n0 (by omega) (X00.keep K35 all0) (Fr1.ext (X00.keep K35 all0).2) (own_Str.mono ((Str31.ext E33).keep KK35 (allS (own_le (by omega)) all0)) (by omega)) (own_Str.mono Str35 (by omega)) O2 P5) Z35 (hw _ (List.mem_of_getElem? (i := 40) rfl)) (hw _ (List.mem_of_getElem? (i := 1) rfl)) (by decide) (by decide)) q39a q39c (g := (mkF m 266 #[.val (.int p0), .val (.int p1), .val (.int p2), .val (.int (0 : Int32)), .val (.ref rl), .val (.int (0 : Int32)), .val (.int (2 : Int32)), .val (.int u0), .val (.int u1), .val (.int r0), .val (.int r1), .val (.ref b26), .val (.ref b27), .val (.ref b30), .val (.ref b33), .val (.int (0 : Int32)), .val (.int (1 : Int32))] [(.ref b33), (.ref b30), (.ref rl)])) rfl (by rw [hml]; rfl) (Steps.refl _) (argsL := [(.ref b30), (.ref b33)]) (rest := []) (lenOf own_pd3 rfl) rfl (by show 2 * 0 + _ ≤ _; exact Nat.le_of_eq rfl) (hb hby at_266) (fun _ _ => ⟨rfl, rfl, (by decide : 8 + 0 ≤ _), (by decide : 20 + 0 ≤ _)⟩)
        dsimp only [Pt.U, Pt.locs, Pt.cells, Pt.slots] at X39 l39 y39 z39 st39 hQ39
        subst l39 y39 z39
        obtain ⟨hr39, Nq39, sm39⟩ := hQ39
        obtain ⟨rfl, eq39⟩ := hr39.resolve_left (fun q => (by simp : ¬ _) q.2)
        have N39 := Fr.app N35 Nq39
        refine own_st (fun tq kq => st39.trans kq) ?_
        show own_G p e below _ (T39.setTop (mkF m 269 #[.val (.int p0), .val (.int p1), .val (.int p2), .val (.int (0 : Int32)), .val (.ref rl), .val (.int (0 : Int32)), .val (.int (2 : Int32)), .val (.int u0), .val (.int u1), .val (.int r0), .val (.int r1), .val (.ref b26), .val (.ref b27), .val (.ref b30), .val (.ref b33), .val (.int (0 : Int32)), .val (.int (1 : Int32))] [(.int (1 : Int32))]))
        refine own_st (fun tq kq => XS.iload X39.here hx rfl (hb hby at_269) rfl  kq) ?_
        show own_G p e below _ (T39.setTop (mkF m 271 #[.val (.int p0), .val (.int p1), .val (.int p2), .val (.int (0 : Int32)), .val (.ref rl), .val (.int (0 : Int32)), .val (.int (2 : Int32)), .val (.int u0), .val (.int u1), .val (.int r0), .val (.int r1), .val (.ref b26), .val (.ref b27), .val (.ref b30), .val (.ref b33), .val (.int (0 : Int32)), .val (.int (1 : Int32))] [(.int (1 : Int32)), (.int (1 : Int32))]))
        refine own_st (fun tq kq => XS.icmpNo X39.here hx rfl (hb hby at_271) rfl (teq (by decide : ((1 : Int32) = (1 : Int32)))).2 kq) ?_
        refine own_st (fun tq kq => XS.iconst X39.here hx rfl (hb hby at_274) kq) ?_
        refine own_st (fun tq kq => XS.goto X39.here hx rfl (pc0 := 275) (pc' := 279) rfl (hb hby at_275) (by decide) (by decide) kq) ?_
        show own_G p e below _ (T39.setTop (mkF m 279 #[.val (.int p0), .val (.int p1), .val (.int p2), .val (.int (0 : Int32)), .val (.ref rl), .val (.int (0 : Int32)), .val (.int (2 : Int32)), .val (.int u0), .val (.int u1), .val (.int r0), .val (.int r1), .val (.ref b26), .val (.ref b27), .val (.ref b30), .val (.ref b33), .val (.int (0 : Int32)), .val (.int (1 : Int32))] [(.int (1 : Int32))]))
        obtain ⟨fs, hr, hrun, hended, hRW⟩ := X39.leaveW S35 (by rw [sm39]; exact (own_le (by omega))) (v := some (.int (1 : Int32))) (fun h => by rw [Bd.returns] at h; cases h)
        have cE := C35.trans (CHv.at (s := s) (vm0 := T35.vm) X39 Z35 hEL C35.1)
        refine ⟨_, _, retN X39 hx (t := .boolean) Bd.returns (by simp) (hb hby at_279) hr, hrun, hended, _, _, rfl, ?_, ?_, own_RW hRW (by decide) (by decide)⟩
        · change (fun (v : Option Value) (_ : Vm) (h : Heap) (L : List Loc) => v = some (.int (1 : Int32)) ∧ Fr n0 L) (some (.int (1 : Int32))) T39.vm T39.heap _; rw [sm39]; exact ⟨rfl, N39⟩
        · rw [hh]; change CHr Z consts_1 s.vm h0 T39.vm T39.heap; rw [sm39]; exact cE
    ·
      show own_G p e below _ (T.setTop (mkF m 119 #[.val (.int p0), .val (.int p1), .val (.int p2), .val (.int sm), .val (.ref rl), .val (.int (1 : Int32)), .val (.int (0 : Int32)), .val (.int u0), .val (.int u1), .val (.int r0), .val (.int r1), .unset, .unset, .unset, .unset, .unset, .unset] []))
      refine own_st (fun tq kq => XS.iload X0.here hx rfl (hb hby at_119) rfl  kq) ?_
      show own_G p e below _ (T.setTop (mkF m 121 #[.val (.int p0), .val (.int p1), .val (.int p2), .val (.int sm), .val (.ref rl), .val (.int (1 : Int32)), .val (.int (0 : Int32)), .val (.int u0), .val (.int u1), .val (.int r0), .val (.int r1), .unset, .unset, .unset, .unset, .unset, .unset] [(.int (1 : Int32))]))
      obtain ⟨T40, h40, k40, X40, e40, E40, A40, st40⟩ := newP X0 hx hZ (hw _ (List.mem_of_getElem? (i := 3) rfl)) e0 (g := (mkF m 121 #[.val (.int p0), .val (.int p1), .val (.int p2), .val (.int sm), .val (.ref rl), .val (.int (1 : Int32)), .val (.int (0 : Int32)), .val (.int u0), .val (.int u1), .val (.int r0), .val (.int r1), .unset, .unset, .unset, .unset, .unset, .unset] [(.int (1 : Int32))])) rfl (hb hby at_121) rfl (by decide) (cap := 1) (by decide) (by decide) (by decide) (by decide)
      obtain ⟨b40, g40⟩ : ∃ z, z = h0.size := ⟨_, rfl⟩
      rw [← g40] at A40 st40
      have lt40 : b40 < h40.size := A40.lt
      have V40 : Arv Z h40 b40 k40 .char (1 : Int32) [(.int (0 : Int32))] (.int (0 : Int32)) := (Arv.new A40 (by decide)).pad (pad_rep [] (.int (0 : Int32)) 1)
      have sz40 : h0.size ≤ h40.size := E40.1
      have K40 : Keep h0 h40 [] := K0.ext E40
      have c40 : CHr Z consts_1 s.vm h0 s.vm h40 := CHr.ext E40 C0.1
      have C40 := C0.trans c40
      refine own_st st40 ?_
      show own_G p e below _ (T40.setTop (mkF m 123 #[.val (.int p0), .val (.int p1), .val (.int p2), .val (.int sm), .val (.ref rl), .val (.int (1 : Int32)), .val (.int (0 : Int32)), .val (.int u0), .val (.int u1), .val (.int r0), .val (.int r1), .unset, .unset, .unset, .unset, .unset, .unset] [(.ref b40)]))
      refine own_st (fun tq kq => XS.astore X40.here hx rfl (hb hby at_123) rfl rfl (l' := #[.val (.int p0), .val (.int p1), .val (.int p2), .val (.int sm), .val (.ref rl), .val (.int (1 : Int32)), .val (.int (0 : Int32)), .val (.int u0), .val (.int u1), .val (.int r0), .val (.int r1), .val (.ref b40), .unset, .unset, .unset, .unset, .unset]) rfl kq) ?_
      refine own_st (fun tq kq => XS.iload X40.here hx rfl (hb hby at_125) rfl  kq) ?_
      show own_G p e below _ (T40.setTop (mkF m 127 #[.val (.int p0), .val (.int p1), .val (.int p2), .val (.int sm), .val (.ref rl), .val (.int (1 : Int32)), .val (.int (0 : Int32)), .val (.int u0), .val (.int u1), .val (.int r0), .val (.int r1), .val (.ref b40), .unset, .unset, .unset, .unset, .unset] [(.int (1 : Int32))]))
      refine own_st (fun tq kq => XS.ifNo X40.here hx rfl (hb hby at_127) rfl ((if0 _ _).trans (tlt (by decide : ((0 : Int32) < (1 : Int32)))).2.2.2) kq) ?_
      refine own_st (fun tq kq => XS.aload X40.here hx rfl (hb hby at_130) rfl rfl kq) ?_
      refine own_st (fun tq kq => XS.iconst X40.here hx rfl (hb hby at_132) kq) ?_
      refine own_st (fun tq kq => XS.iload X40.here hx rfl (hb hby at_133) rfl  kq) ?_
      show own_G p e below _ (T40.setTop (mkF m 135 #[.val (.int p0), .val (.int p1), .val (.int p2), .val (.int sm), .val (.ref rl), .val (.int (1 : Int32)), .val (.int (0 : Int32)), .val (.int u0), .val (.int u1), .val (.int r0), .val (.int r1), .val (.ref b40), .unset, .unset, .unset, .unset, .unset] [(.int u0), (.int (0 : Int32)), (.ref b40)]))
      obtain ⟨cl41, Ar41, q41, S_41, N_41, H_41, G_41⟩ := id V40
      have in41 : ¬ ((0 : Int32) < 0 ∨ cl41.slots.size ≤ ((0 : Int32)).toNatClampNeg) := inb_of S_41 ⟨by decide, by decide⟩
      obtain ⟨T41, h41, X41, e41, W41, st41⟩ := stC X40 hx hZ e40 Ar41 (j := (0 : Int32)) in41 (g := (mkF m 135 #[.val (.int p0), .val (.int p1), .val (.int p2), .val (.int sm), .val (.ref rl), .val (.int (1 : Int32)), .val (.int (0 : Int32)), .val (.int u0), .val (.int u1), .val (.int r0), .val (.int r1), .val (.ref b40), .unset, .unset, .unset, .unset, .unset] [(.int u0), (.int (0 : Int32)), (.ref b40)])) rfl rfl (hb hby at_135)
      have V41 := Arv.set Ar41 q41 S_41 N_41 H_41 G_41 (fits_nar_char _) W41 0 rfl (Nat.le_of_ble_eq_true rfl)
      have sz41 : h40.size ≤ h41.size := (Keep.of_wr W41).1
      have K41 : Keep h0 h41 [] := K40.wr W41 (Or.inr (own_le (by omega)))
      have c41 : CHr Z consts_1 s.vm h40 s.vm h41 := CHr.wr W41 (Safe.arr hZ.alike Ar41 (by decide)) C40.1
      have C41 := C40.trans c41
      have N41 := Fr.snoc X41 N0 (own_le (by omega))
      refine own_st st41 ?_
      show own_G p e below _ (T41.setTop (mkF m 136 #[.val (.int p0), .val (.int p1), .val (.int p2), .val (.int sm), .val (.ref rl), .val (.int (1 : Int32)), .val (.int (0 : Int32)), .val (.int u0), .val (.int u1), .val (.int r0), .val (.int r1), .val (.ref b40), .unset, .unset, .unset, .unset, .unset] []))
      refine own_st (fun tq kq => XS.iload X41.here hx rfl (hb hby at_136) rfl  kq) ?_
      refine own_st (fun tq kq => XS.iconst X41.here hx rfl (hb hby at_138) kq) ?_
      show own_G p e below _ (T41.setTop (mkF m 139 #[.val (.int p0), .val (.int p1), .val (.int p2), .val (.int sm), .val (.ref rl), .val (.int (1 : Int32)), .val (.int (0 : Int32)), .val (.int u0), .val (.int u1), .val (.int r0), .val (.int r1), .val (.ref b40), .unset, .unset, .unset, .unset, .unset] [(.int (1 : Int32)), (.int (1 : Int32))]))
      refine own_st (fun tq kq => XS.icmpYes X41.here hx rfl (pc0 := 139) (pc' := 148) rfl (hb hby at_139) rfl (flt (by decide : ¬ ((1 : Int32) < (1 : Int32)))).2.2.2 (by decide) (by decide) kq) ?_
      refine own_st (fun tq kq => XS.iload X41.here hx rfl (hb hby at_148) rfl  kq) ?_
      show own_G p e below _ (T41.setTop (mkF m 150 #[.val (.int p0), .val (.int p1), .val (.int p2), .val (.int sm), .val (.ref rl), .val (.int (1 : Int32)), .val (.int (0 : Int32)), .val (.int u0), .val (.int u1), .val (.int r0), .val (.int r1), .val (.ref b40), .unset, .unset, .unset, .unset, .unset] [(.int (0 : Int32))]))
      obtain ⟨T42, h42, k42, X42, e42, E42, A42, st42⟩ := newP X41 hx hZ (hw _ (List.mem_of_getElem? (i := 3) rfl)) e41 (g := (mkF m 150 #[.val (.int p0), .val (.int p1), .val (.int p2), .val (.int sm), .val (.ref rl), .val (.int (1 : Int32)), .val (.int (0 : Int32)), .val (.int u0), .val (.int u1), .val (.int r0), .val (.int r1), .val (.ref b40), .unset, .unset, .unset, .unset, .unset] [(.int (0 : Int32))])) rfl (hb hby at_150) rfl (by decide) (cap := 0) (by decide) (by decide) (by decide) (by decide)
      obtain ⟨b42, g42⟩ : ∃ z, z = h41.size := ⟨_, rfl⟩
      rw [← g42] at A42 st42
      have lt42 : b42 < h42.size := A42.lt
      have V42 : Arv Z h42 b42 k42 .char (0 : Int32) [] (.int (0 : Int32)) := Arv.new A42 (by decide)
      have sz42 : h41.size ≤ h42.size := E42.1
      have K42 : Keep h0 h42 [] := K41.ext E42
      have c42 : CHr Z consts_1 s.vm h41 s.vm h42 := CHr.ext E42 C41.1
      have C42 := C41.trans c42
      refine own_st st42 ?_
      show own_G p e below _ (T42.setTop (mkF m 152 #[.val (.int p0), .val (.int p1), .val (.int p2), .val (.int sm), .val (.ref rl), .val (.int (1 : Int32)), .val (.int (0 : Int32)), .val (.int u0), .val (.int u1), .val (.int r0), .val (.int r1), .val (.ref b40), .unset, .unset, .unset, .unset, .unset] [(.ref b42)]))
      refine own_st (fun tq kq => XS.astore X42.here hx rfl (hb hby at_152) rfl rfl (l' := #[.val (.int p0), .val (.int p1), .val (.int p2), .val (.int sm), .val (.ref rl), .val (.int (1 : Int32)), .val (.int (0 : Int32)), .val (.int u0), .val (.int u1), .val (.int r0), .val (.int r1), .val (.ref b40), .val (.ref b42), .unset, .unset, .unset, .unset]) rfl kq) ?_
      refine own_st (fun tq kq => XS.iload X42.here hx rfl (hb hby at_154) rfl  kq) ?_
      show own_G p e below _ (T42.setTop (mkF m 156 #[.val (.int p0), .val (.int p1), .val (.int p2), .val (.int sm), .val (.ref rl), .val (.int (1 : Int32)), .val (.int (0 : Int32)), .val (.int u0), .val (.int u1), .val (.int r0), .val (.int r1), .val (.ref b40), .val (.ref b42), .unset, .unset, .unset, .unset] [(.int (0 : Int32))]))
      refine own_st (fun tq kq => XS.ifYes X42.here hx rfl (pc0 := 156) (pc' := 165) rfl (hb hby at_156) rfl ((if0 _ _).trans (flt (by decide : ¬ ((0 : Int32) < (0 : Int32)))).2.2.2) (by decide) (by decide) kq) ?_
      refine own_st (fun tq kq => XS.iload X42.here hx rfl (hb hby at_165) rfl  kq) ?_
      refine own_st (fun tq kq => XS.iconst X42.here hx rfl (hb hby at_167) kq) ?_
      show own_G p e below _ (T42.setTop (mkF m 168 #[.val (.int p0), .val (.int p1), .val (.int p2), .val (.int sm), .val (.ref rl), .val (.int (1 : Int32)), .val (.int (0 : Int32)), .val (.int u0), .val (.int u1), .val (.int r0), .val (.int r1), .val (.ref b40), .val (.ref b42), .unset, .unset, .unset, .unset] [(.int (1 : Int32)), (.int (0 : Int32))]))
      refine own_st (fun tq kq => XS.icmpYes X42.here hx rfl (pc0 := 168) (pc' := 177) rfl (hb hby at_168) rfl (flt (by decide : ¬ ((1 : Int32) < (0 : Int32)))).2.2.2 (by decide) (by decide) kq) ?_
      show own_G p e below _ (T42.setTop (mkF m 177 #[.val (.int p0), .val (.int p1), .val (.int p2), .val (.int sm), .val (.ref rl), .val (.int (1 : Int32)), .val (.int (0 : Int32)), .val (.int u0), .val (.int u1), .val (.int r0), .val (.int r1), .val (.ref b40), .val (.ref b42), .unset, .unset, .unset, .unset] []))
      obtain ⟨T43, h43, X43, e43, E43, A43, D43, -, st43⟩ := newO X42 hx hZ hown (hw _ (List.mem_of_getElem? (i := 4) rfl)) (hw _ (List.mem_of_getElem? (i := 5) rfl)) (hw _ (List.mem_of_getElem? (i := 6) rfl)) e42 (g := (mkF m 177 #[.val (.int p0), .val (.int p1), .val (.int p2), .val (.int sm), .val (.ref rl), .val (.int (1 : Int32)), .val (.int (0 : Int32)), .val (.int u0), .val (.int u1), .val (.int r0), .val (.int r1), .val (.ref b40), .val (.ref b42), .unset, .unset, .unset, .unset] [])) rfl (hb hby at_177) (by decide) (by decide)
      obtain ⟨b43, g43⟩ : ∃ z, z = h42.size := ⟨_, rfl⟩
      rw [← g43] at A43 D43 st43
      have lt43 : b43 < h43.size := A43.lt
      have Sn43 : Safe Z consts_1 s.vm h42 b43 := Safe.new (own_le (by omega))
      have sz43 : h42.size ≤ h43.size := E43.1
      have K43 : Keep h0 h43 [] := K42.ext E43
      have c43 : CHr Z consts_1 s.vm h42 s.vm h43 := CHr.ext E43 C42.1
      have C43 := C42.trans c43
      have Sf43 : Safe Z consts_1 s.vm h43 b43 := Safe.ext E43 C42.1 Sn43
      have F43_coder : Fld Z h43 b43 "java/lang/String" "coder" "B" (.int (0 : Int32)) := D43 (Or.inr (hw _ (List.mem_of_getElem? (i := 30) rfl))) (ty := .byte) (by decide)
      have F43_value : Fld Z h43 b43 "java/lang/String" "value" "[B" .null := D43 (Or.inr (hw _ (List.mem_of_getElem? (i := 32) rfl))) (ty := (.array .byte)) (by decide)
      refine own_st st43 ?_
      show own_G p e below _ (T43.setTop (mkF m 180 #[.val (.int p0), .val (.int p1), .val (.int p2), .val (.int sm), .val (.ref rl), .val (.int (1 : Int32)), .val (.int (0 : Int32)), .val (.int u0), .val (.int u1), .val (.int r0), .val (.int r1), .val (.ref b40), .val (.ref b42), .unset, .unset, .unset, .unset] [(.ref b43)]))
      refine own_st (fun tq kq => XS.dup X43.here hx rfl (hb hby at_180) rfl rfl kq) ?_
      refine own_st (fun tq kq => XS.aload X43.here hx rfl (hb hby at_181) rfl rfl kq) ?_
      show own_G p e below _ (T43.setTop (mkF m 183 #[.val (.int p0), .val (.int p1), .val (.int p2), .val (.int sm), .val (.ref rl), .val (.int (1 : Int32)), .val (.int (0 : Int32)), .val (.int u0), .val (.int u1), .val (.int r0), .val (.int r1), .val (.ref b40), .val (.ref b42), .unset, .unset, .unset, .unset] [(.ref b40), (.ref b43), (.ref b43)]))
      have hp44 : ∀ c ∈ ([(nar .char u0)] : List Int32), ¬ c < 0 ∧ ¬ (255 : Int32) < c := by
        intro c hc
        simp only [List.mem_cons, List.not_mem_nil, or_false] at hc
        rcases hc with rfl
        · assumption
      obtain ⟨_, _, ⟨T44, L44, k44, n44⟩, -, Y44, S44p, gr44, ⟨Lc44, hQ44, l44, y44, z44, c44⟩, st44⟩ := X43.specialBackS hx (y := (⟨"java/lang/String", "<init>", "([C)V"⟩ : MethodName)) rfl hown (mvT hZ (hw _ (List.mem_of_getElem? (i := 7) rfl))) (mvT hZ (hw _ (List.mem_of_getElem? (i := 8) rfl))) (mvT hZ (hw _ (List.mem_of_getElem? (i := 9) rfl))) (by decide) (own_newStr (s := s) (vm0 := s.vm) (W := 1) hZ hw hEL C43.1 (cs := ([(nar .char u0)] : List Int32)) (n := 1) (n0 := n0) Sf43 (by omega) (X00.keep K43 all0) A43 F43_value F43_coder ((V41.ext E42).ext E43) O2 P5 rfl rfl (by decide) hp44 (by decide) (by decide)) (g := (mkF m 183 #[.val (.int p0), .val (.int p1), .val (.int p2), .val (.int sm), .val (.ref rl), .val (.int (1 : Int32)), .val (.int (0 : Int32)), .val (.int u0), .val (.int u1), .val (.int r0), .val (.int r1), .val (.ref b40), .val (.ref b42), .unset, .unset, .unset, .unset] [(.ref b40), (.ref b43), (.ref b43)])) rfl (by rw [hml]; rfl) (Steps.refl _) (a := b43) (argsL := [(.ref b40)]) (rest := [(.ref b43)]) (lenOf own_pd2 rfl) rfl (by show 2 * 0 + _ ≤ _; exact Nat.le_of_eq rfl) (hb hby at_183) (fun _ _ => ⟨rfl, e43, (by decide : 3 + 2 ≤ _), (by decide : 5 + 5 ≤ _)⟩)
      dsimp only [Pt.U, Pt.locs, Pt.cells, Pt.slots] at Y44 S44p gr44 l44 y44 z44 st44 hQ44 c44
      subst l44 y44 z44
      obtain ⟨X44, S44, Z44, o44⟩ := rebS S0 (by rw [e43]; exact (own_le (by omega))) Y44 S44p gr44 hZ hown
      obtain ⟨rfl, Nq44, Kq44, Str44⟩ := hQ44
      have KK44 : Keep h43 T44.heap [b43] := Kq44
      have sz44 : h43.size ≤ T44.heap.size := KK44.1
      have K44 : Keep h0 T44.heap [] := K43.trans KK44 (allS (Or.inr (own_le (by omega))) all0)
      have C44 := C43.trans c44
      have Sf44_45 := c44.safe (own_lt (by omega)) Sf43
      have N44 := Fr.app N41 Nq44
      refine own_st (fun tq kq => st44.trans kq) ?_
      show own_G p e below _ (T44.setTop (mkF m 186 #[.val (.int p0), .val (.int p1), .val (.int p2), .val (.int sm), .val (.ref rl), .val (.int (1 : Int32)), .val (.int (0 : Int32)), .val (.int u0), .val (.int u1), .val (.int r0), .val (.int r1), .val (.ref b40), .val (.ref b42), .unset, .unset, .unset, .unset] [(.ref b43)]))
      refine own_st (fun tq kq => XS.astore X44.here hx rfl (hb hby at_186) rfl rfl (l' := #[.val (.int p0), .val (.int p1), .val (.int p2), .val (.int sm), .val (.ref rl), .val (.int (1 : Int32)), .val (.int (0 : Int32)), .val (.int u0), .val (.int u1), .val (.int r0), .val (.int r1), .val (.ref b40), .val (.ref b42), .val (.ref b43), .unset, .unset, .unset]) rfl kq) ?_
      show own_G p e below _ (T44.setTop (mkF m 188 #[.val (.int p0), .val (.int p1), .val (.int p2), .val (.int sm), .val (.ref rl), .val (.int (1 : Int32)), .val (.int (0 : Int32)), .val (.int u0), .val (.int u1), .val (.int r0), .val (.int r1), .val (.ref b40), .val (.ref b42), .val (.ref b43), .unset, .unset, .unset] []))
      obtain ⟨T46, h46, X46, e46, E46, A46, D46, -, st46⟩ := newO X44 hx Z44 o44 (hw _ (List.mem_of_getElem? (i := 4) rfl)) (hw _ (List.mem_of_getElem? (i := 5) rfl)) (hw _ (List.mem_of_getElem? (i := 6) rfl)) rfl (g := (mkF m 188 #[.val (.int p0), .val (.int p1), .val (.int p2), .val (.int sm), .val (.ref rl), .val (.int (1 : Int32)), .val (.int (0 : Int32)), .val (.int u0), .val (.int u1), .val (.int r0), .val (.int r1), .val (.ref b40), .val (.ref b42), .val (.ref b43), .unset, .unset, .unset] [])) rfl (hb hby at_188) (by decide) (by decide)
      obtain ⟨b46, g46⟩ : ∃ z, z = T44.heap.size := ⟨_, rfl⟩
      rw [← g46] at A46 D46 st46
      have lt46 : b46 < h46.size := A46.lt
      have Sn46 : Safe Z consts_1 T44.vm T44.heap b46 := Safe.new (own_le (by omega))
      have sz46 : T44.heap.size ≤ h46.size := E46.1
      have K46 : Keep h0 h46 [] := K44.ext E46
      have c46 : CHr Z consts_1 T44.vm T44.heap T44.vm h46 := CHr.ext E46 C44.1
      have C46 := C44.trans c46
      have Sf46_47 := c46.safe (own_lt (by omega)) Sf44_45
      have Sf46 : Safe Z consts_1 T44.vm h46 b46 := Safe.ext E46 C44.1 Sn46
      have F46_coder : Fld Z h46 b46 "java/lang/String" "coder" "B" (.int (0 : Int32)) := D46 (Or.inr (hw _ (List.mem_of_getElem? (i := 30) rfl))) (ty := .byte) (by decide)
      have F46_value : Fld Z h46 b46 "java/lang/String" "value" "[B" .null := D46 (Or.inr (hw _ (List.mem_of_getElem? (i := 32) rfl))) (ty := (.array .byte)) (by decide)
      refine own_st st46 ?_
      show own_G p e below _ (T46.setTop (mkF m 191 #[.val (.int p0), .val (.int p1), .val (.int p2), .val (.int sm), .val (.ref rl), .val (.int (1 : Int32)), .val (.int (0 : Int32)), .val (.int u0), .val (.int u1), .val (.int r0), .val (.int r1), .val (.ref b40), .val (.ref b42), .val (.ref b43), .unset, .unset, .unset] [(.ref b46)]))
      refine own_st (fun tq kq => XS.dup X46.here hx rfl (hb hby at_191) rfl rfl kq) ?_
      refine own_st (fun tq kq => XS.aload X46.here hx rfl (hb hby at_192) rfl rfl kq) ?_
      show own_G p e below _ (T46.setTop (mkF m 194 #[.val (.int p0), .val (.int p1), .val (.int p2), .val (.int sm), .val (.ref rl), .val (.int (1 : Int32)), .val (.int (0 : Int32)), .val (.int u0), .val (.int u1), .val (.int r0), .val (.int r1), .val (.ref b40), .val (.ref b42), .val (.ref b43), .unset, .unset, .unset] [(.ref b42), (.ref b46), (.ref b46)]))
      have hp48 : ∀ c ∈ ([] : List Int32), ¬ c < 0 ∧ ¬ (255 : Int32) < c := fun c hc => by cases hc
      obtain ⟨_, _, ⟨T48, L48, k48, n48⟩, -, Y48, S48p, gr48, ⟨Lc48, hQ48, l48, y48, z48, c48⟩, st48⟩ := X46.specialBackS hx (y := (⟨"java/lang/String", "<init>", "([C)V"⟩ : MethodName)) rfl o44 (mvT Z44 (hw _ (List.mem_of_getElem? (i := 7) rfl))) (mvT Z44 (hw _ (List.mem_of_getElem? (i := 8) rfl))) (mvT Z44 (hw _ (List.mem_of_getElem? (i := 9) rfl))) (by decide) (own_newStr (s := s) (vm0 := T44.vm) (W := 1) Z44 hw hEL C46.1 (cs := ([] : List Int32)) (n := 0) (n0 := n0) Sf46 (by omega) (X00.keep K46 all0) A46 F46_value F46_coder (((V42.ext E43).keep KK44 (ninS (own_ne (by omega)) nin0)).ext E46) O2 P5 rfl rfl (by decide) hp48 (by decide) (by decide)) (g := (mkF m 194 #[.val (.int p0), .val (.int p1), .val (.int p2), .val (.int sm), .val (.ref rl), .val (.int (1 : Int32)), .val (.int (0 : Int32)), .val (.int u0), .val (.int u1), .val (.int r0), .val (.int r1), .val (.ref b40), .val (.ref b42), .val (.ref b43), .unset, .unset, .unset] [(.ref b42), (.ref b46), (.ref b46)])) rfl (by rw [hml]; rfl) (Steps.refl _) (a := b46) (argsL := [(.ref b42)]) (rest := [(.ref b46)]) (lenOf own_pd2 rfl) rfl (by show 2 * 0 + _ ≤ _; exact Nat.le_of_eq rfl) (hb hby at_194) (fun _ _ => ⟨rfl, e46, (by decide : 6 + 2 ≤ _), (by decide : 14 + 4 ≤ _)⟩)
      dsimp only [Pt.U, Pt.locs, Pt.cells, Pt.slots] at Y48 S48p gr48 l48 y48 z48 st48 hQ48 c48
      subst l48 y48 z48
      obtain ⟨X48, S48, Z48, o48⟩ := rebS S44 (by rw [e46]; exact (own_le (by omega))) Y48 S48p gr48 Z44 o44
      obtain ⟨rfl, Nq48, Kq48, Str48⟩ := hQ48
      have KK48 : Keep h46 T48.heap [b46] := Kq48
      have sz48 : h46.size ≤ T48.heap.size := KK48.1
      have K48 : Keep h0 T48.heap [] := K46.trans KK48 (allS (Or.inr (own_le (by omega))) all0)
      have C48 := C46.trans c48
      have Sf48_49 := c48.safe (own_lt (by omega)) Sf46_47
      have Sf48_50 := c48.safe (own_lt (by omega)) Sf46
      have N48 := Fr.app N44 Nq48
      refine own_st (fun tq kq => st48.trans kq) ?_
      show own_G p e below _ (T48.setTop (mkF m 197 #[.val (.int p0), .val (.int p1), .val (.int p2), .val (.int sm), .val (.ref rl), .val (.int (1 : Int32)), .val (.int (0 : Int32)), .val (.int u0), .val (.int u1), .val (.int r0), .val (.int r1), .val (.ref b40), .val (.ref b42), .val (.ref b43), .unset, .unset, .unset] [(.ref b46)]))
      refine own_st (fun tq kq => XS.astore X48.here hx rfl (hb hby at_197) rfl rfl (l' := #[.val (.int p0), .val (.int p1), .val (.int p2), .val (.int sm), .val (.ref rl), .val (.int (1 : Int32)), .val (.int (0 : Int32)), .val (.int u0), .val (.int u1), .val (.int r0), .val (.int r1), .val (.ref b40), .val (.ref b42), .val (.ref b43), .val (.ref b46), .unset, .unset]) rfl kq) ?_
      refine own_st (fun tq kq => XS.iload X48.here hx rfl (hb hby at_199) rfl  kq) ?_
      refine own_st (fun tq kq => XS.iload X48.here hx rfl (hb hby at_201) rfl  kq) ?_
      show own_G p e below _ (T48.setTop (mkF m 203 #[.val (.int p0), .val (.int p1), .val (.int p2), .val (.int sm), .val (.ref rl), .val (.int (1 : Int32)), .val (.int (0 : Int32)), .val (.int u0), .val (.int u1), .val (.int r0), .val (.int r1), .val (.ref b40), .val (.ref b42), .val (.ref b43), .val (.ref b46), .unset, .unset] [(.int (0 : Int32)), (.int (1 : Int32))]))
      refine own_st (fun tq kq => XS.icmpYes X48.here hx rfl (pc0 := 203) (pc' := 236) rfl (hb hby at_203) rfl (feq (by decide : ¬ ((1 : Int32) = (0 : Int32)))).2 (by decide) (by decide) kq) ?_
      refine own_st (fun tq kq => XS.iconst X48.here hx rfl (hb hby at_236) kq) ?_
      refine own_st (fun tq kq => XS.istore X48.here hx rfl (hb hby at_237) rfl (l' := #[.val (.int p0), .val (.int p1), .val (.int p2), .val (.int sm), .val (.ref rl), .val (.int (1 : Int32)), .val (.int (0 : Int32)), .val (.int u0), .val (.int u1), .val (.int r0), .val (.int r1), .val (.ref b40), .val (.ref b42), .val (.ref b43), .val (.ref b46), .val (.int (0 : Int32)), .unset]) rfl kq) ?_
      show own_G p e below _ (T48.setTop (mkF m 239 #[.val (.int p0), .val (.int p1), .val (.int p2), .val (.int sm), .val (.ref rl), .val (.int (1 : Int32)), .val (.int (0 : Int32)), .val (.int u0), .val (.int u1), .val (.int r0), .val (.int r1), .val (.ref b40), .val (.ref b42), .val (.ref b43), .val (.ref b46), .val (.int (0 : Int32)), .unset] []))
      rcases hsm with rfl | rfl
      ·
        show own_G p e below _ (T48.setTop (mkF m 239 #[.val (.int p0), .val (.int p1), .val (.int p2), .val (.int (1 : Int32)), .val (.ref rl), .val (.int (1 : Int32)), .val (.int (0 : Int32)), .val (.int u0), .val (.int u1), .val (.int r0), .val (.int r1), .val (.ref b40), .val (.ref b42), .val (.ref b43), .val (.ref b46), .val (.int (0 : Int32)), .unset] []))
        refine own_st (fun tq kq => XS.iloadN X48.here hx rfl (hb hby at_239) rfl  kq) ?_
        show own_G p e below _ (T48.setTop (mkF m 240 #[.val (.int p0), .val (.int p1), .val (.int p2), .val (.int (1 : Int32)), .val (.ref rl), .val (.int (1 : Int32)), .val (.int (0 : Int32)), .val (.int u0), .val (.int u1), .val (.int r0), .val (.int r1), .val (.ref b40), .val (.ref b42), .val (.ref b43), .val (.ref b46), .val (.int (0 : Int32)), .unset] [(.int (1 : Int32))]))
        refine own_st (fun tq kq => XS.ifNo X48.here hx rfl (hb hby at_240) rfl ((if0 _ _).trans (feq (by decide : ¬ ((1 : Int32) = (0 : Int32)))).1) kq) ?_
        refine own_st (fun tq kq => XS.iload X48.here hx rfl (hb hby at_243) rfl  kq) ?_
        refine own_st (fun tq kq => XS.goto X48.here hx rfl (pc0 := 245) (pc' := 258) rfl (hb hby at_245) (by decide) (by decide) kq) ?_
        refine own_st (fun tq kq => XS.istore X48.here hx rfl (hb hby at_258) rfl (l' := #[.val (.int p0), .val (.int p1), .val (.int p2), .val (.int (1 : Int32)), .val (.ref rl), .val (.int (1 : Int32)), .val (.int (0 : Int32)), .val (.int u0), .val (.int u1), .val (.int r0), .val (.int r1), .val (.ref b40), .val (.ref b42), .val (.ref b43), .val (.ref b46), .val (.int (0 : Int32)), .val (.int (0 : Int32))]) rfl kq) ?_
        show own_G p e below _ (T48.setTop (mkF m 260 #[.val (.int p0), .val (.int p1), .val (.int p2), .val (.int (1 : Int32)), .val (.ref rl), .val (.int (1 : Int32)), .val (.int (0 : Int32)), .val (.int u0), .val (.int u1), .val (.int r0), .val (.int r1), .val (.ref b40), .val (.ref b42), .val (.ref b43), .val (.ref b46), .val (.int (0 : Int32)), .val (.int (0 : Int32))] []))
        refine own_st (fun tq kq => XS.aload X48.here hx rfl (hb hby at_260) rfl rfl kq) ?_
        refine own_st (fun tq kq => XS.aload X48.here hx rfl (hb hby at_262) rfl rfl kq) ?_
        refine own_st (fun tq kq => XS.aload X48.here hx rfl (hb hby at_264) rfl rfl kq) ?_
        show own_G p e below _ (T48.setTop (mkF m 266 #[.val (.int p0), .val (.int p1), .val (.int p2), .val (.int (1 : Int32)), .val (.ref rl), .val (.int (1 : Int32)), .val (.int (0 : Int32)), .val (.int u0), .val (.int u1), .val (.int r0), .val (.int r1), .val (.ref b40), .val (.ref b42), .val (.ref b43), .val (.ref b46), .val (.int (0 : Int32)), .val (.int (0 : Int32))] [(.ref b46), (.ref b43), (.ref rl)]))
        obtain ⟨cq51, kq51, q51a, q51b, q51c⟩ := isOf Z48 rfl ((((((((Er.ext (X00.keep K0 all0).2).ext E40).wr W41).ext E42).ext E43).keep KK44).ext E46).keep KK48)
        obtain ⟨_, _, ⟨T51, L51, k51, n51⟩, -, X51, ⟨Lc51, hQ51, l51, y51, z51⟩, st51⟩ := X48.virtualBack hx (y := (⟨"com/example/veild/veild/policy/Constraint$Relation", "holds", "(Ljava/lang/String;Ljava/lang/String;)Z"⟩ : MethodName)) (z := (⟨"com/example/veild/veild/policy/Constraint$Relation", "holds", "(Ljava/lang/String;Ljava/lang/String;)Z"⟩ : MethodName)) o48 (mvT Z48 (hw _ (List.mem_of_getElem? (i := 36) rfl))) (mvT Z48 (hw _ (List.mem_of_getElem? (i := 37) rfl))) (notFace_of_selects (args := #[]) (mvT Z48 (hw _ (List.mem_of_getElem? (i := 39) rfl)))) (mvT Z48 (hw _ (List.mem_of_getElem? (i := 39) rfl))) (mvT Z48 (hw _ (List.mem_of_getElem? (i := 38) rfl))) (by decide) (own_backN (W := 0) (own_holds1 l Z a0 hw [] (rl) (b43) (b46) (([(nar .char u0)] : List Int32)) (([] : List Int32)) (T48.heap.size) (G1) T48.heap n0 (by omega) (X00.keep K48 all0) (Fr1.ext (X00.keep K48 all0).2) (own_Str.mono ((Str44.ext E46).keep KK48 (allS (own_le (by omega)) all0)) (by omega)) (own_Str.mono Str48 (by omega)) O2 P5) Z48 (hw _ (List.mem_of_getElem? (i := 40) rfl)) (hw _ (List.mem_of_getElem? (i := 1) rfl)) (by decide) (by decide)) q51a q51c (g := (mkF m 266 #[.val (.int p0), .val (.int p1), .val (.int p2), .val (.int (1 : Int32)), .val (.ref rl), .val (.int (1 : Int32)), .val (.int (0 : Int32)), .val (.int u0), .val (.int u1), .val (.int r0), .val (.int r1), .val (.ref b40), .val (.ref b42), .val (.ref b43), .val (.ref b46), .val (.int (0 : Int32)), .val (.int (0 : Int32))] [(.ref b46), (.ref b43), (.ref rl)])) rfl (by rw [hml]; rfl) (Steps.refl _) (argsL := [(.ref b43), (.ref b46)]) (rest := []) (lenOf own_pd3 rfl) rfl (by show 2 * 0 + _ ≤ _; exact Nat.le_of_eq rfl) (hb hby at_266) (fun _ _ => ⟨rfl, rfl, (by decide : 8 + 0 ≤ _), (by decide : 18 + 0 ≤ _)⟩)
        dsimp only [Pt.U, Pt.locs, Pt.cells, Pt.slots] at X51 l51 y51 z51 st51 hQ51
        subst l51 y51 z51
        obtain ⟨hr51, Nq51, sm51⟩ := hQ51
        obtain ⟨rfl, eq51⟩ := hr51.resolve_left (fun q => (by simp : ¬ _) q.2)
        have N51 := Fr.app N48 Nq51
        refine own_st (fun tq kq => st51.trans kq) ?_
        show own_G p e below _ (T51.setTop (mkF m 269 #[.val (.int p0), .val (.int p1), .val (.int p2), .val (.int (1 : Int32)), .val (.ref rl), .val (.int (1 : Int32)), .val (.int (0 : Int32)), .val (.int u0), .val (.int u1), .val (.int r0), .val (.int r1), .val (.ref b40), .val (.ref b42), .val (.ref b43), .val (.ref b46), .val (.int (0 : Int32)), .val (.int (0 : Int32))] [(.int (0 : Int32))]))
        refine own_st (fun tq kq => XS.iload X51.here hx rfl (hb hby at_269) rfl  kq) ?_
        show own_G p e below _ (T51.setTop (mkF m 271 #[.val (.int p0), .val (.int p1), .val (.int p2), .val (.int (1 : Int32)), .val (.ref rl), .val (.int (1 : Int32)), .val (.int (0 : Int32)), .val (.int u0), .val (.int u1), .val (.int r0), .val (.int r1), .val (.ref b40), .val (.ref b42), .val (.ref b43), .val (.ref b46), .val (.int (0 : Int32)), .val (.int (0 : Int32))] [(.int (0 : Int32)), (.int (0 : Int32))]))
        refine own_st (fun tq kq => XS.icmpNo X51.here hx rfl (hb hby at_271) rfl (teq (by decide : ((0 : Int32) = (0 : Int32)))).2 kq) ?_
        refine own_st (fun tq kq => XS.iconst X51.here hx rfl (hb hby at_274) kq) ?_
        refine own_st (fun tq kq => XS.goto X51.here hx rfl (pc0 := 275) (pc' := 279) rfl (hb hby at_275) (by decide) (by decide) kq) ?_
        show own_G p e below _ (T51.setTop (mkF m 279 #[.val (.int p0), .val (.int p1), .val (.int p2), .val (.int (1 : Int32)), .val (.ref rl), .val (.int (1 : Int32)), .val (.int (0 : Int32)), .val (.int u0), .val (.int u1), .val (.int r0), .val (.int r1), .val (.ref b40), .val (.ref b42), .val (.ref b43), .val (.ref b46), .val (.int (0 : Int32)), .val (.int (0 : Int32))] [(.int (1 : Int32))]))
        obtain ⟨fs, hr, hrun, hended, hRW⟩ := X51.leaveW S48 (by rw [sm51]; exact (own_le (by omega))) (v := some (.int (1 : Int32))) (fun h => by rw [Bd.returns] at h; cases h)
        have cE := C48.trans (CHv.at (s := s) (vm0 := T48.vm) X51 Z48 hEL C48.1)
        refine ⟨_, _, retN X51 hx (t := .boolean) Bd.returns (by simp) (hb hby at_279) hr, hrun, hended, _, _, rfl, ?_, ?_, own_RW hRW (by decide) (by decide)⟩
        · change (fun (v : Option Value) (_ : Vm) (h : Heap) (L : List Loc) => v = some (.int (1 : Int32)) ∧ Fr n0 L) (some (.int (1 : Int32))) T51.vm T51.heap _; rw [sm51]; exact ⟨rfl, N51⟩
        · rw [hh]; change CHr Z consts_1 s.vm h0 T51.vm T51.heap; rw [sm51]; exact cE
      ·
        show own_G p e below _ (T48.setTop (mkF m 239 #[.val (.int p0), .val (.int p1), .val (.int p2), .val (.int (0 : Int32)), .val (.ref rl), .val (.int (1 : Int32)), .val (.int (0 : Int32)), .val (.int u0), .val (.int u1), .val (.int r0), .val (.int r1), .val (.ref b40), .val (.ref b42), .val (.ref b43), .val (.ref b46), .val (.int (0 : Int32)), .unset] []))
        refine own_st (fun tq kq => XS.iloadN X48.here hx rfl (hb hby at_239) rfl  kq) ?_
        show own_G p e below _ (T48.setTop (mkF m 240 #[.val (.int p0), .val (.int p1), .val (.int p2), .val (.int (0 : Int32)), .val (.ref rl), .val (.int (1 : Int32)), .val (.int (0 : Int32)), .val (.int u0), .val (.int u1), .val (.int r0), .val (.int r1), .val (.ref b40), .val (.ref b42), .val (.ref b43), .val (.ref b46), .val (.int (0 : Int32)), .unset] [(.int (0 : Int32))]))
        refine own_st (fun tq kq => XS.ifYes X48.here hx rfl (pc0 := 240) (pc' := 248) rfl (hb hby at_240) rfl ((if0 _ _).trans (teq (by decide : ((0 : Int32) = (0 : Int32)))).1) (by decide) (by decide) kq) ?_
        refine own_st (fun tq kq => XS.iload X48.here hx rfl (hb hby at_248) rfl  kq) ?_
        show own_G p e below _ (T48.setTop (mkF m 250 #[.val (.int p0), .val (.int p1), .val (.int p2), .val (.int (0 : Int32)), .val (.ref rl), .val (.int (1 : Int32)), .val (.int (0 : Int32)), .val (.int u0), .val (.int u1), .val (.int r0), .val (.int r1), .val (.ref b40), .val (.ref b42), .val (.ref b43), .val (.ref b46), .val (.int (0 : Int32)), .unset] [(.int (0 : Int32))]))
        refine own_st (fun tq kq => XS.ifNo X48.here hx rfl (hb hby at_250) rfl ((if0 _ _).trans (teq (by decide : ((0 : Int32) = (0 : Int32)))).2) kq) ?_
        refine own_st (fun tq kq => XS.iconst X48.here hx rfl (hb hby at_253) kq) ?_
        refine own_st (fun tq kq => XS.goto X48.here hx rfl (pc0 := 254) (pc' := 258) rfl (hb hby at_254) (by decide) (by decide) kq) ?_
        refine own_st (fun tq kq => XS.istore X48.here hx rfl (hb hby at_258) rfl (l' := #[.val (.int p0), .val (.int p1), .val (.int p2), .val (.int (0 : Int32)), .val (.ref rl), .val (.int (1 : Int32)), .val (.int (0 : Int32)), .val (.int u0), .val (.int u1), .val (.int r0), .val (.int r1), .val (.ref b40), .val (.ref b42), .val (.ref b43), .val (.ref b46), .val (.int (0 : Int32)), .val (.int (1 : Int32))]) rfl kq) ?_
        show own_G p e below _ (T48.setTop (mkF m 260 #[.val (.int p0), .val (.int p1), .val (.int p2), .val (.int (0 : Int32)), .val (.ref rl), .val (.int (1 : Int32)), .val (.int (0 : Int32)), .val (.int u0), .val (.int u1), .val (.int r0), .val (.int r1), .val (.ref b40), .val (.ref b42), .val (.ref b43), .val (.ref b46), .val (.int (0 : Int32)), .val (.int (1 : Int32))] []))
        refine own_st (fun tq kq => XS.aload X48.here hx rfl (hb hby at_260) rfl rfl kq) ?_
        refine own_st (fun tq kq => XS.aload X48.here hx rfl (hb hby at_262) rfl rfl kq) ?_
        refine own_st (fun tq kq => XS.aload X48.here hx rfl (hb hby at_264) rfl rfl kq) ?_
        show own_G p e below _ (T48.setTop (mkF m 266 #[.val (.int p0), .val (.int p1), .val (.int p2), .val (.int (0 : Int32)), .val (.ref rl), .val (.int (1 : Int32)), .val (.int (0 : Int32)), .val (.int u0), .val (.int u1), .val (.int r0), .val (.int r1), .val (.ref b40), .val (.ref b42), .val (.ref b43), .val (.ref b46), .val (.int (0 : Int32)), .val (.int (1 : Int32))] [(.ref b46), (.ref b43), (.ref rl)]))
        obtain ⟨cq52, kq52, q52a, q52b, q52c⟩ := isOf Z48 rfl ((((((((Er.ext (X00.keep K0 all0).2).ext E40).wr W41).ext E42).ext E43).keep KK44).ext E46).keep KK48)
        obtain ⟨_, _, ⟨T52, L52, k52, n52⟩, -, X52, ⟨Lc52, hQ52, l52, y52, z52⟩, st52⟩ := X48.virtualBack hx (y := (⟨"com/example/veild/veild/policy/Constraint$Relation", "holds", "(Ljava/lang/String;Ljava/lang/String;)Z"⟩ : MethodName)) (z := (⟨"com/example/veild/veild/policy/Constraint$Relation", "holds", "(Ljava/lang/String;Ljava/lang/String;)Z"⟩ : MethodName)) o48 (mvT Z48 (hw _ (List.mem_of_getElem? (i := 36) rfl))) (mvT Z48 (hw _ (List.mem_of_getElem? (i := 37) rfl))) (notFace_of_selects (args := #[]) (mvT Z48 (hw _ (List.mem_of_getElem? (i := 39) rfl)))) (mvT Z48 (hw _ (List.mem_of_getElem? (i := 39) rfl))) (mvT Z48 (hw _ (List.mem_of_getElem? (i := 38) rfl))) (by decide) (own_backN (W := 0) (own_holds0 l Z a0 hw [] (rl) (b43) (b46) (([(nar .char u0)] : List Int32)) (([] : List Int32)) (T48.heap.size) (G1) T48.heap n0 (by omega) (X00.keep K48 all0) (Fr1.ext (X00.keep K48 all0).2) (own_Str.mono ((Str44.ext E46).keep KK48 (allS (own_le (by omega)) all0)) (by omega)) (own_Str.mono Str48 (by omega)) O2 P5) Z48 (hw _ (List.mem_of_getElem? (i := 40) rfl)) (hw _ (List.mem_of_getElem? (i := 1) rfl)) (by decide) (by decide)) q52a q52c (g := (mkF m 266 #[.val (.int p0), .val (.int p1), .val (.int p2), .val (.int (0 : Int32)), .val (.ref rl), .val (.int (1 : Int32)), .val (.int (0 : Int32)), .val (.int u0), .val (.int u1), .val (.int r0), .val (.int r1), .val (.ref b40), .val (.ref b42), .val (.ref b43), .val (.ref b46), .val (.int (0 : Int32)), .val (.int (1 : Int32))] [(.ref b46), (.ref b43), (.ref rl)])) rfl (by rw [hml]; rfl) (Steps.refl _) (argsL := [(.ref b43), (.ref b46)]) (rest := []) (lenOf own_pd3 rfl) rfl (by show 2 * 0 + _ ≤ _; exact Nat.le_of_eq rfl) (hb hby at_266) (fun _ _ => ⟨rfl, rfl, (by decide : 8 + 0 ≤ _), (by decide : 18 + 0 ≤ _)⟩)
        dsimp only [Pt.U, Pt.locs, Pt.cells, Pt.slots] at X52 l52 y52 z52 st52 hQ52
        subst l52 y52 z52
        obtain ⟨hr52, Nq52, sm52⟩ := hQ52
        obtain ⟨rfl, eq52⟩ := hr52.resolve_left (fun q => (by simp : ¬ _) q.2)
        have N52 := Fr.app N48 Nq52
        refine own_st (fun tq kq => st52.trans kq) ?_
        show own_G p e below _ (T52.setTop (mkF m 269 #[.val (.int p0), .val (.int p1), .val (.int p2), .val (.int (0 : Int32)), .val (.ref rl), .val (.int (1 : Int32)), .val (.int (0 : Int32)), .val (.int u0), .val (.int u1), .val (.int r0), .val (.int r1), .val (.ref b40), .val (.ref b42), .val (.ref b43), .val (.ref b46), .val (.int (0 : Int32)), .val (.int (1 : Int32))] [(.int (1 : Int32))]))
        refine own_st (fun tq kq => XS.iload X52.here hx rfl (hb hby at_269) rfl  kq) ?_
        show own_G p e below _ (T52.setTop (mkF m 271 #[.val (.int p0), .val (.int p1), .val (.int p2), .val (.int (0 : Int32)), .val (.ref rl), .val (.int (1 : Int32)), .val (.int (0 : Int32)), .val (.int u0), .val (.int u1), .val (.int r0), .val (.int r1), .val (.ref b40), .val (.ref b42), .val (.ref b43), .val (.ref b46), .val (.int (0 : Int32)), .val (.int (1 : Int32))] [(.int (1 : Int32)), (.int (1 : Int32))]))
        refine own_st (fun tq kq => XS.icmpNo X52.here hx rfl (hb hby at_271) rfl (teq (by decide : ((1 : Int32) = (1 : Int32)))).2 kq) ?_
        refine own_st (fun tq kq => XS.iconst X52.here hx rfl (hb hby at_274) kq) ?_
        refine own_st (fun tq kq => XS.goto X52.here hx rfl (pc0 := 275) (pc' := 279) rfl (hb hby at_275) (by decide) (by decide) kq) ?_
        show own_G p e below _ (T52.setTop (mkF m 279 #[.val (.int p0), .val (.int p1), .val (.int p2), .val (.int (0 : Int32)), .val (.ref rl), .val (.int (1 : Int32)), .val (.int (0 : Int32)), .val (.int u0), .val (.int u1), .val (.int r0), .val (.int r1), .val (.ref b40), .val (.ref b42), .val (.ref b43), .val (.ref b46), .val (.int (0 : Int32)), .val (.int (1 : Int32))] [(.int (1 : Int32))]))
        obtain ⟨fs, hr, hrun, hended, hRW⟩ := X52.leaveW S48 (by rw [sm52]; exact (own_le (by omega))) (v := some (.int (1 : Int32))) (fun h => by rw [Bd.returns] at h; cases h)
        have cE := C48.trans (CHv.at (s := s) (vm0 := T48.vm) X52 Z48 hEL C48.1)
        refine ⟨_, _, retN X52 hx (t := .boolean) Bd.returns (by simp) (hb hby at_279) hr, hrun, hended, _, _, rfl, ?_, ?_, own_RW hRW (by decide) (by decide)⟩
        · change (fun (v : Option Value) (_ : Vm) (h : Heap) (L : List Loc) => v = some (.int (1 : Int32)) ∧ Fr n0 L) (some (.int (1 : Int32))) T52.vm T52.heap _; rw [sm52]; exact ⟨rfl, N52⟩
        · rw [hh]; change CHr Z consts_1 s.vm h0 T52.vm T52.heap; rw [sm52]; exact cE
    ·
      show own_G p e below _ (T.setTop (mkF m 119 #[.val (.int p0), .val (.int p1), .val (.int p2), .val (.int sm), .val (.ref rl), .val (.int (1 : Int32)), .val (.int (1 : Int32)), .val (.int u0), .val (.int u1), .val (.int r0), .val (.int r1), .unset, .unset, .unset, .unset, .unset, .unset] []))
      refine own_st (fun tq kq => XS.iload X0.here hx rfl (hb hby at_119) rfl  kq) ?_
      show own_G p e below _ (T.setTop (mkF m 121 #[.val (.int p0), .val (.int p1), .val (.int p2), .val (.int sm), .val (.ref rl), .val (.int (1 : Int32)), .val (.int (1 : Int32)), .val (.int u0), .val (.int u1), .val (.int r0), .val (.int r1), .unset, .unset, .unset, .unset, .unset, .unset] [(.int (1 : Int32))]))
      obtain ⟨T53, h53, k53, X53, e53, E53, A53, st53⟩ := newP X0 hx hZ (hw _ (List.mem_of_getElem? (i := 3) rfl)) e0 (g := (mkF m 121 #[.val (.int p0), .val (.int p1), .val (.int p2), .val (.int sm), .val (.ref rl), .val (.int (1 : Int32)), .val (.int (1 : Int32)), .val (.int u0), .val (.int u1), .val (.int r0), .val (.int r1), .unset, .unset, .unset, .unset, .unset, .unset] [(.int (1 : Int32))])) rfl (hb hby at_121) rfl (by decide) (cap := 1) (by decide) (by decide) (by decide) (by decide)
      obtain ⟨b53, g53⟩ : ∃ z, z = h0.size := ⟨_, rfl⟩
      rw [← g53] at A53 st53
      have lt53 : b53 < h53.size := A53.lt
      have V53 : Arv Z h53 b53 k53 .char (1 : Int32) [(.int (0 : Int32))] (.int (0 : Int32)) := (Arv.new A53 (by decide)).pad (pad_rep [] (.int (0 : Int32)) 1)
      have sz53 : h0.size ≤ h53.size := E53.1
      have K53 : Keep h0 h53 [] := K0.ext E53
      have c53 : CHr Z consts_1 s.vm h0 s.vm h53 := CHr.ext E53 C0.1
      have C53 := C0.trans c53
      refine own_st st53 ?_
      show own_G p e below _ (T53.setTop (mkF m 123 #[.val (.int p0), .val (.int p1), .val (.int p2), .val (.int sm), .val (.ref rl), .val (.int (1 : Int32)), .val (.int (1 : Int32)), .val (.int u0), .val (.int u1), .val (.int r0), .val (.int r1), .unset, .unset, .unset, .unset, .unset, .unset] [(.ref b53)]))
      refine own_st (fun tq kq => XS.astore X53.here hx rfl (hb hby at_123) rfl rfl (l' := #[.val (.int p0), .val (.int p1), .val (.int p2), .val (.int sm), .val (.ref rl), .val (.int (1 : Int32)), .val (.int (1 : Int32)), .val (.int u0), .val (.int u1), .val (.int r0), .val (.int r1), .val (.ref b53), .unset, .unset, .unset, .unset, .unset]) rfl kq) ?_
      refine own_st (fun tq kq => XS.iload X53.here hx rfl (hb hby at_125) rfl  kq) ?_
      show own_G p e below _ (T53.setTop (mkF m 127 #[.val (.int p0), .val (.int p1), .val (.int p2), .val (.int sm), .val (.ref rl), .val (.int (1 : Int32)), .val (.int (1 : Int32)), .val (.int u0), .val (.int u1), .val (.int r0), .val (.int r1), .val (.ref b53), .unset, .unset, .unset, .unset, .unset] [(.int (1 : Int32))]))
      refine own_st (fun tq kq => XS.ifNo X53.here hx rfl (hb hby at_127) rfl ((if0 _ _).trans (tlt (by decide : ((0 : Int32) < (1 : Int32)))).2.2.2) kq) ?_
      refine own_st (fun tq kq => XS.aload X53.here hx rfl (hb hby at_130) rfl rfl kq) ?_
      refine own_st (fun tq kq => XS.iconst X53.here hx rfl (hb hby at_132) kq) ?_
      refine own_st (fun tq kq => XS.iload X53.here hx rfl (hb hby at_133) rfl  kq) ?_
      show own_G p e below _ (T53.setTop (mkF m 135 #[.val (.int p0), .val (.int p1), .val (.int p2), .val (.int sm), .val (.ref rl), .val (.int (1 : Int32)), .val (.int (1 : Int32)), .val (.int u0), .val (.int u1), .val (.int r0), .val (.int r1), .val (.ref b53), .unset, .unset, .unset, .unset, .unset] [(.int u0), (.int (0 : Int32)), (.ref b53)]))
      obtain ⟨cl54, Ar54, q54, S_54, N_54, H_54, G_54⟩ := id V53
      have in54 : ¬ ((0 : Int32) < 0 ∨ cl54.slots.size ≤ ((0 : Int32)).toNatClampNeg) := inb_of S_54 ⟨by decide, by decide⟩
      obtain ⟨T54, h54, X54, e54, W54, st54⟩ := stC X53 hx hZ e53 Ar54 (j := (0 : Int32)) in54 (g := (mkF m 135 #[.val (.int p0), .val (.int p1), .val (.int p2), .val (.int sm), .val (.ref rl), .val (.int (1 : Int32)), .val (.int (1 : Int32)), .val (.int u0), .val (.int u1), .val (.int r0), .val (.int r1), .val (.ref b53), .unset, .unset, .unset, .unset, .unset] [(.int u0), (.int (0 : Int32)), (.ref b53)])) rfl rfl (hb hby at_135)
      have V54 := Arv.set Ar54 q54 S_54 N_54 H_54 G_54 (fits_nar_char _) W54 0 rfl (Nat.le_of_ble_eq_true rfl)
      have sz54 : h53.size ≤ h54.size := (Keep.of_wr W54).1
      have K54 : Keep h0 h54 [] := K53.wr W54 (Or.inr (own_le (by omega)))
      have c54 : CHr Z consts_1 s.vm h53 s.vm h54 := CHr.wr W54 (Safe.arr hZ.alike Ar54 (by decide)) C53.1
      have C54 := C53.trans c54
      have N54 := Fr.snoc X54 N0 (own_le (by omega))
      refine own_st st54 ?_
      show own_G p e below _ (T54.setTop (mkF m 136 #[.val (.int p0), .val (.int p1), .val (.int p2), .val (.int sm), .val (.ref rl), .val (.int (1 : Int32)), .val (.int (1 : Int32)), .val (.int u0), .val (.int u1), .val (.int r0), .val (.int r1), .val (.ref b53), .unset, .unset, .unset, .unset, .unset] []))
      refine own_st (fun tq kq => XS.iload X54.here hx rfl (hb hby at_136) rfl  kq) ?_
      refine own_st (fun tq kq => XS.iconst X54.here hx rfl (hb hby at_138) kq) ?_
      show own_G p e below _ (T54.setTop (mkF m 139 #[.val (.int p0), .val (.int p1), .val (.int p2), .val (.int sm), .val (.ref rl), .val (.int (1 : Int32)), .val (.int (1 : Int32)), .val (.int u0), .val (.int u1), .val (.int r0), .val (.int r1), .val (.ref b53), .unset, .unset, .unset, .unset, .unset] [(.int (1 : Int32)), (.int (1 : Int32))]))
      refine own_st (fun tq kq => XS.icmpYes X54.here hx rfl (pc0 := 139) (pc' := 148) rfl (hb hby at_139) rfl (flt (by decide : ¬ ((1 : Int32) < (1 : Int32)))).2.2.2 (by decide) (by decide) kq) ?_
      refine own_st (fun tq kq => XS.iload X54.here hx rfl (hb hby at_148) rfl  kq) ?_
      show own_G p e below _ (T54.setTop (mkF m 150 #[.val (.int p0), .val (.int p1), .val (.int p2), .val (.int sm), .val (.ref rl), .val (.int (1 : Int32)), .val (.int (1 : Int32)), .val (.int u0), .val (.int u1), .val (.int r0), .val (.int r1), .val (.ref b53), .unset, .unset, .unset, .unset, .unset] [(.int (1 : Int32))]))
      obtain ⟨T55, h55, k55, X55, e55, E55, A55, st55⟩ := newP X54 hx hZ (hw _ (List.mem_of_getElem? (i := 3) rfl)) e54 (g := (mkF m 150 #[.val (.int p0), .val (.int p1), .val (.int p2), .val (.int sm), .val (.ref rl), .val (.int (1 : Int32)), .val (.int (1 : Int32)), .val (.int u0), .val (.int u1), .val (.int r0), .val (.int r1), .val (.ref b53), .unset, .unset, .unset, .unset, .unset] [(.int (1 : Int32))])) rfl (hb hby at_150) rfl (by decide) (cap := 1) (by decide) (by decide) (by decide) (by decide)
      obtain ⟨b55, g55⟩ : ∃ z, z = h54.size := ⟨_, rfl⟩
      rw [← g55] at A55 st55
      have lt55 : b55 < h55.size := A55.lt
      have V55 : Arv Z h55 b55 k55 .char (1 : Int32) [(.int (0 : Int32))] (.int (0 : Int32)) := (Arv.new A55 (by decide)).pad (pad_rep [] (.int (0 : Int32)) 1)
      have sz55 : h54.size ≤ h55.size := E55.1
      have K55 : Keep h0 h55 [] := K54.ext E55
      have c55 : CHr Z consts_1 s.vm h54 s.vm h55 := CHr.ext E55 C54.1
      have C55 := C54.trans c55
      refine own_st st55 ?_
      show own_G p e below _ (T55.setTop (mkF m 152 #[.val (.int p0), .val (.int p1), .val (.int p2), .val (.int sm), .val (.ref rl), .val (.int (1 : Int32)), .val (.int (1 : Int32)), .val (.int u0), .val (.int u1), .val (.int r0), .val (.int r1), .val (.ref b53), .unset, .unset, .unset, .unset, .unset] [(.ref b55)]))
      refine own_st (fun tq kq => XS.astore X55.here hx rfl (hb hby at_152) rfl rfl (l' := #[.val (.int p0), .val (.int p1), .val (.int p2), .val (.int sm), .val (.ref rl), .val (.int (1 : Int32)), .val (.int (1 : Int32)), .val (.int u0), .val (.int u1), .val (.int r0), .val (.int r1), .val (.ref b53), .val (.ref b55), .unset, .unset, .unset, .unset]) rfl kq) ?_
      refine own_st (fun tq kq => XS.iload X55.here hx rfl (hb hby at_154) rfl  kq) ?_
      show own_G p e below _ (T55.setTop (mkF m 156 #[.val (.int p0), .val (.int p1), .val (.int p2), .val (.int sm), .val (.ref rl), .val (.int (1 : Int32)), .val (.int (1 : Int32)), .val (.int u0), .val (.int u1), .val (.int r0), .val (.int r1), .val (.ref b53), .val (.ref b55), .unset, .unset, .unset, .unset] [(.int (1 : Int32))]))
      refine own_st (fun tq kq => XS.ifNo X55.here hx rfl (hb hby at_156) rfl ((if0 _ _).trans (tlt (by decide : ((0 : Int32) < (1 : Int32)))).2.2.2) kq) ?_
      refine own_st (fun tq kq => XS.aload X55.here hx rfl (hb hby at_159) rfl rfl kq) ?_
      refine own_st (fun tq kq => XS.iconst X55.here hx rfl (hb hby at_161) kq) ?_
      refine own_st (fun tq kq => XS.iload X55.here hx rfl (hb hby at_162) rfl  kq) ?_
      show own_G p e below _ (T55.setTop (mkF m 164 #[.val (.int p0), .val (.int p1), .val (.int p2), .val (.int sm), .val (.ref rl), .val (.int (1 : Int32)), .val (.int (1 : Int32)), .val (.int u0), .val (.int u1), .val (.int r0), .val (.int r1), .val (.ref b53), .val (.ref b55), .unset, .unset, .unset, .unset] [(.int r0), (.int (0 : Int32)), (.ref b55)]))
      obtain ⟨cl56, Ar56, q56, S_56, N_56, H_56, G_56⟩ := id V55
      have in56 : ¬ ((0 : Int32) < 0 ∨ cl56.slots.size ≤ ((0 : Int32)).toNatClampNeg) := inb_of S_56 ⟨by decide, by decide⟩
      obtain ⟨T56, h56, X56, e56, W56, st56⟩ := stC X55 hx hZ e55 Ar56 (j := (0 : Int32)) in56 (g := (mkF m 164 #[.val (.int p0), .val (.int p1), .val (.int p2), .val (.int sm), .val (.ref rl), .val (.int (1 : Int32)), .val (.int (1 : Int32)), .val (.int u0), .val (.int u1), .val (.int r0), .val (.int r1), .val (.ref b53), .val (.ref b55), .unset, .unset, .unset, .unset] [(.int r0), (.int (0 : Int32)), (.ref b55)])) rfl rfl (hb hby at_164)
      have V56 := Arv.set Ar56 q56 S_56 N_56 H_56 G_56 (fits_nar_char _) W56 0 rfl (Nat.le_of_ble_eq_true rfl)
      have sz56 : h55.size ≤ h56.size := (Keep.of_wr W56).1
      have K56 : Keep h0 h56 [] := K55.wr W56 (Or.inr (own_le (by omega)))
      have c56 : CHr Z consts_1 s.vm h55 s.vm h56 := CHr.wr W56 (Safe.arr hZ.alike Ar56 (by decide)) C55.1
      have C56 := C55.trans c56
      have N56 := Fr.snoc X56 N54 (own_le (by omega))
      refine own_st st56 ?_
      show own_G p e below _ (T56.setTop (mkF m 165 #[.val (.int p0), .val (.int p1), .val (.int p2), .val (.int sm), .val (.ref rl), .val (.int (1 : Int32)), .val (.int (1 : Int32)), .val (.int u0), .val (.int u1), .val (.int r0), .val (.int r1), .val (.ref b53), .val (.ref b55), .unset, .unset, .unset, .unset] []))
      refine own_st (fun tq kq => XS.iload X56.here hx rfl (hb hby at_165) rfl  kq) ?_
      refine own_st (fun tq kq => XS.iconst X56.here hx rfl (hb hby at_167) kq) ?_
      show own_G p e below _ (T56.setTop (mkF m 168 #[.val (.int p0), .val (.int p1), .val (.int p2), .val (.int sm), .val (.ref rl), .val (.int (1 : Int32)), .val (.int (1 : Int32)), .val (.int u0), .val (.int u1), .val (.int r0), .val (.int r1), .val (.ref b53), .val (.ref b55), .unset, .unset, .unset, .unset] [(.int (1 : Int32)), (.int (1 : Int32))]))
      refine own_st (fun tq kq => XS.icmpYes X56.here hx rfl (pc0 := 168) (pc' := 177) rfl (hb hby at_168) rfl (flt (by decide : ¬ ((1 : Int32) < (1 : Int32)))).2.2.2 (by decide) (by decide) kq) ?_
      show own_G p e below _ (T56.setTop (mkF m 177 #[.val (.int p0), .val (.int p1), .val (.int p2), .val (.int sm), .val (.ref rl), .val (.int (1 : Int32)), .val (.int (1 : Int32)), .val (.int u0), .val (.int u1), .val (.int r0), .val (.int r1), .val (.ref b53), .val (.ref b55), .unset, .unset, .unset, .unset] []))
      obtain ⟨T57, h57, X57, e57, E57, A57, D57, -, st57⟩ := newO X56 hx hZ hown (hw _ (List.mem_of_getElem? (i := 4) rfl)) (hw _ (List.mem_of_getElem? (i := 5) rfl)) (hw _ (List.mem_of_getElem? (i := 6) rfl)) e56 (g := (mkF m 177 #[.val (.int p0), .val (.int p1), .val (.int p2), .val (.int sm), .val (.ref rl), .val (.int (1 : Int32)), .val (.int (1 : Int32)), .val (.int u0), .val (.int u1), .val (.int r0), .val (.int r1), .val (.ref b53), .val (.ref b55), .unset, .unset, .unset, .unset] [])) rfl (hb hby at_177) (by decide) (by decide)
      obtain ⟨b57, g57⟩ : ∃ z, z = h56.size := ⟨_, rfl⟩
      rw [← g57] at A57 D57 st57
      have lt57 : b57 < h57.size := A57.lt
      have Sn57 : Safe Z consts_1 s.vm h56 b57 := Safe.new (own_le (by omega))
      have sz57 : h56.size ≤ h57.size := E57.1
      have K57 : Keep h0 h57 [] := K56.ext E57
      have c57 : CHr Z consts_1 s.vm h56 s.vm h57 := CHr.ext E57 C56.1
      have C57 := C56.trans c57
      have Sf57 : Safe Z consts_1 s.vm h57 b57 := Safe.ext E57 C56.1 Sn57
      have F57_coder : Fld Z h57 b57 "java/lang/String" "coder" "B" (.int (0 : Int32)) := D57 (Or.inr (hw _ (List.mem_of_getElem? (i := 30) rfl))) (ty := .byte) (by decide)
      have F57_value : Fld Z h57 b57 "java/lang/String" "value" "[B" .null := D57 (Or.inr (hw _ (List.mem_of_getElem? (i := 32) rfl))) (ty := (.array .byte)) (by decide)
      refine own_st st57 ?_
      show own_G p e below _ (T57.setTop (mkF m 180 #[.val (.int p0), .val (.int p1), .val (.int p2), .val (.int sm), .val (.ref rl), .val (.int (1 : Int32)), .val (.int (1 : Int32)), .val (.int u0), .val (.int u1), .val (.int r0), .val (.int r1), .val (.ref b53), .val (.ref b55), .unset, .unset, .unset, .unset] [(.ref b57)]))
      refine own_st (fun tq kq => XS.dup X57.here hx rfl (hb hby at_180) rfl rfl kq) ?_
      refine own_st (fun tq kq => XS.aload X57.here hx rfl (hb hby at_181) rfl rfl kq) ?_
      show own_G p e below _ (T57.setTop (mkF m 183 #[.val (.int p0), .val (.int p1), .val (.int p2), .val (.int sm), .val (.ref rl), .val (.int (1 : Int32)), .val (.int (1 : Int32)), .val (.int u0), .val (.int u1), .val (.int r0), .val (.int r1), .val (.ref b53), .val (.ref b55), .unset, .unset, .unset, .unset] [(.ref b53), (.ref b57), (.ref b57)]))
      have hp58 : ∀ c ∈ ([(nar .char u0)] : List Int32), ¬ c < 0 ∧ ¬ (255 : Int32) < c := by
        intro c hc
        simp only [List.mem_cons, List.not_mem_nil, or_false] at hc
        rcases hc with rfl
        · assumption
      obtain ⟨_, _, ⟨T58, L58, k58, n58⟩, -, Y58, S58p, gr58, ⟨Lc58, hQ58, l58, y58, z58, c58⟩, st58⟩ := X57.specialBackS hx (y := (⟨"java/lang/String", "<init>", "([C)V"⟩ : MethodName)) rfl hown (mvT hZ (hw _ (List.mem_of_getElem? (i := 7) rfl))) (mvT hZ (hw _ (List.mem_of_getElem? (i := 8) rfl))) (mvT hZ (hw _ (List.mem_of_getElem? (i := 9) rfl))) (by decide) (own_newStr (s := s) (vm0 := s.vm) (W := 1) hZ hw hEL C57.1 (cs := ([(nar .char u0)] : List Int32)) (n := 1) (n0 := n0) Sf57 (by omega) (X00.keep K57 all0) A57 F57_value F57_coder (((V54.ext E55).other W56 (own_ne (by omega))).ext E57) O2 P5 rfl rfl (by decide) hp58 (by decide) (by decide)) (g := (mkF m 183 #[.val (.int p0), .val (.int p1), .val (.int p2), .val (.int sm), .val (.ref rl), .val (.int (1 : Int32)), .val (.int (1 : Int32)), .val (.int u0), .val (.int u1), .val (.int r0), .val (.int r1), .val (.ref b53), .val (.ref b55), .unset, .unset, .unset, .unset] [(.ref b53), (.ref b57), (.ref b57)])) rfl (by rw [hml]; rfl) (Steps.refl _) (a := b57) (argsL := [(.ref b53)]) (rest := [(.ref b57)]) (lenOf own_pd2 rfl) rfl (by show 2 * 0 + _ ≤ _; exact Nat.le_of_eq rfl) (hb hby at_183) (fun _ _ => ⟨rfl, e57, (by decide : 3 + 2 ≤ _), (by decide : 6 + 5 ≤ _)⟩)
      dsimp only [Pt.U, Pt.locs, Pt.cells, Pt.slots] at Y58 S58p gr58 l58 y58 z58 st58 hQ58 c58
      subst l58 y58 z58
      obtain ⟨X58, S58, Z58, o58⟩ := rebS S0 (by rw [e57]; exact (own_le (by omega))) Y58 S58p gr58 hZ hown
      obtain ⟨rfl, Nq58, Kq58, Str58⟩ := hQ58
      have KK58 : Keep h57 T58.heap [b57] := Kq58
      have sz58 : h57.size ≤ T58.heap.size := KK58.1
      have K58 : Keep h0 T58.heap [] := K57.trans KK58 (allS (Or.inr (own_le (by omega))) all0)
      have C58 := C57.trans c58
      have Sf58_59 := c58.safe (own_lt (by omega)) Sf57
      have N58 := Fr.app N56 Nq58
      refine own_st (fun tq kq => st58.trans kq) ?_
      show own_G p e below _ (T58.setTop (mkF m 186 #[.val (.int p0), .val (.int p1), .val (.int p2), .val (.int sm), .val (.ref rl), .val (.int (1 : Int32)), .val (.int (1 : Int32)), .val (.int u0), .val (.int u1), .val (.int r0), .val (.int r1), .val (.ref b53), .val (.ref b55), .unset, .unset, .unset, .unset] [(.ref b57)]))
      refine own_st (fun tq kq => XS.astore X58.here hx rfl (hb hby at_186) rfl rfl (l' := #[.val (.int p0), .val (.int p1), .val (.int p2), .val (.int sm), .val (.ref rl), .val (.int (1 : Int32)), .val (.int (1 : Int32)), .val (.int u0), .val (.int u1), .val (.int r0), .val (.int r1), .val (.ref b53), .val (.ref b55), .val (.ref b57), .unset, .unset, .unset]) rfl kq) ?_
      show own_G p e below _ (T58.setTop (mkF m 188 #[.val (.int p0), .val (.int p1), .val (.int p2), .val (.int sm), .val (.ref rl), .val (.int (1 : Int32)), .val (.int (1 : Int32)), .val (.int u0), .val (.int u1), .val (.int r0), .val (.int r1), .val (.ref b53), .val (.ref b55), .val (.ref b57), .unset, .unset, .unset] []))
      obtain ⟨T60, h60, X60, e60, E60, A60, D60, -, st60⟩ := newO X58 hx Z58 o58 (hw _ (List.mem_of_getElem? (i := 4) rfl)) (hw _ (List.mem_of_getElem? (i := 5) rfl)) (hw _ (List.mem_of_getElem? (i := 6) rfl)) rfl (g := (mkF m 188 #[.val (.int p0), .val (.int p1), .val (.int p2), .val (.int sm), .val (.ref rl), .val (.int (1 : Int32)), .val (.int (1 : Int32)), .val (.int u0), .val (.int u1), .val (.int r0), .val (.int r1), .val (.ref b53), .val (.ref b55), .val (.ref b57), .unset, .unset, .unset] [])) rfl (hb hby at_188) (by decide) (by decide)
      obtain ⟨b60, g60⟩ : ∃ z, z = T58.heap.size := ⟨_, rfl⟩
      rw [← g60] at A60 D60 st60
      have lt60 : b60 < h60.size := A60.lt
      have Sn60 : Safe Z consts_1 T58.vm T58.heap b60 := Safe.new (own_le (by omega))
      have sz60 : T58.heap.size ≤ h60.size := E60.1
      have K60 : Keep h0 h60 [] := K58.ext E60
      have c60 : CHr Z consts_1 T58.vm T58.heap T58.vm h60 := CHr.ext E60 C58.1
      have C60 := C58.trans c60
      have Sf60_61 := c60.safe (own_lt (by omega)) Sf58_59
      have Sf60 : Safe Z consts_1 T58.vm h60 b60 := Safe.ext E60 C58.1 Sn60
      have F60_coder : Fld Z h60 b60 "java/lang/String" "coder" "B" (.int (0 : Int32)) := D60 (Or.inr (hw _ (List.mem_of_getElem? (i := 30) rfl))) (ty := .byte) (by decide)
      have F60_value : Fld Z h60 b60 "java/lang/String" "value" "[B" .null := D60 (Or.inr (hw _ (List.mem_of_getElem? (i := 32) rfl))) (ty := (.array .byte)) (by decide)
      refine own_st st60 ?_
      show own_G p e below _ (T60.setTop (mkF m 191 #[.val (.int p0), .val (.int p1), .val (.int p2), .val (.int sm), .val (.ref rl), .val (.int (1 : Int32)), .val (.int (1 : Int32)), .val (.int u0), .val (.int u1), .val (.int r0), .val (.int r1), .val (.ref b53), .val (.ref b55), .val (.ref b57), .unset, .unset, .unset] [(.ref b60)]))
      refine own_st (fun tq kq => XS.dup X60.here hx rfl (hb hby at_191) rfl rfl kq) ?_
      refine own_st (fun tq kq => XS.aload X60.here hx rfl (hb hby at_192) rfl rfl kq) ?_
      show own_G p e below _ (T60.setTop (mkF m 194 #[.val (.int p0), .val (.int p1), .val (.int p2), .val (.int sm), .val (.ref rl), .val (.int (1 : Int32)), .val (.int (1 : Int32)), .val (.int u0), .val (.int u1), .val (.int r0), .val (.int r1), .val (.ref b53), .val (.ref b55), .val (.ref b57), .unset, .unset, .unset] [(.ref b55), (.ref b60), (.ref b60)]))
      have hp62 : ∀ c ∈ ([(nar .char r0)] : List Int32), ¬ c < 0 ∧ ¬ (255 : Int32) < c := by
        intro c hc
        simp only [List.mem_cons, List.not_mem_nil, or_false] at hc
        rcases hc with rfl
        · assumption
      obtain ⟨_, _, ⟨T62, L62, k62, n62⟩, -, Y62, S62p, gr62, ⟨Lc62, hQ62, l62, y62, z62, c62⟩, st62⟩ := X60.specialBackS hx (y := (⟨"java/lang/String", "<init>", "([C)V"⟩ : MethodName)) rfl o58 (mvT Z58 (hw _ (List.mem_of_getElem? (i := 7) rfl))) (mvT Z58 (hw _ (List.mem_of_getElem? (i := 8) rfl))) (mvT Z58 (hw _ (List.mem_of_getElem? (i := 9) rfl))) (by decide) (own_newStr (s := s) (vm0 := T58.vm) (W := 1) Z58 hw hEL C60.1 (cs := ([(nar .char r0)] : List Int32)) (n := 1) (n0 := n0) Sf60 (by omega) (X00.keep K60 all0) A60 F60_value F60_coder (((V56.ext E57).keep KK58 (ninS (own_ne (by omega)) nin0)).ext E60) O2 P5 rfl rfl (by decide) hp62 (by decide) (by decide)) (g := (mkF m 194 #[.val (.int p0), .val (.int p1), .val (.int p2), .val (.int sm), .val (.ref rl), .val (.int (1 : Int32)), .val (.int (1 : Int32)), .val (.int u0), .val (.int u1), .val (.int r0), .val (.int r1), .val (.ref b53), .val (.ref b55), .val (.ref b57), .unset, .unset, .unset] [(.ref b55), (.ref b60), (.ref b60)])) rfl (by rw [hml]; rfl) (Steps.refl _) (a := b60) (argsL := [(.ref b55)]) (rest := [(.ref b60)]) (lenOf own_pd2 rfl) rfl (by show 2 * 0 + _ ≤ _; exact Nat.le_of_eq rfl) (hb hby at_194) (fun _ _ => ⟨rfl, e60, (by decide : 6 + 2 ≤ _), (by decide : 15 + 5 ≤ _)⟩)
      dsimp only [Pt.U, Pt.locs, Pt.cells, Pt.slots] at Y62 S62p gr62 l62 y62 z62 st62 hQ62 c62
      subst l62 y62 z62
      obtain ⟨X62, S62, Z62, o62⟩ := rebS S58 (by rw [e60]; exact (own_le (by omega))) Y62 S62p gr62 Z58 o58
      obtain ⟨rfl, Nq62, Kq62, Str62⟩ := hQ62
      have KK62 : Keep h60 T62.heap [b60] := Kq62
      have sz62 : h60.size ≤ T62.heap.size := KK62.1
      have K62 : Keep h0 T62.heap [] := K60.trans KK62 (allS (Or.inr (own_le (by omega))) all0)
      have C62 := C60.trans c62
      have Sf62_63 := c62.safe (own_lt (by omega)) Sf60_61
      have Sf62_64 := c62.safe (own_lt (by omega)) Sf60
      have N62 := Fr.app N58 Nq62
      refine own_st (fun tq kq => st62.trans kq) ?_
      show own_G p e below _ (T62.setTop (mkF m 197 #[.val (.int p0), .val (.int p1), .val (.int p2), .val (.int sm), .val (.ref rl), .val (.int (1 : Int32)), .val (.int (1 : Int32)), .val (.int u0), .val (.int u1), .val (.int r0), .val (.int r1), .val (.ref b53), .val (.ref b55), .val (.ref b57), .unset, .unset, .unset] [(.ref b60)]))
      refine own_st (fun tq kq => XS.astore X62.here hx rfl (hb hby at_197) rfl rfl (l' := #[.val (.int p0), .val (.int p1), .val (.int p2), .val (.int sm), .val (.ref rl), .val (.int (1 : Int32)), .val (.int (1 : Int32)), .val (.int u0), .val (.int u1), .val (.int r0), .val (.int r1), .val (.ref b53), .val (.ref b55), .val (.ref b57), .val (.ref b60), .unset, .unset]) rfl kq) ?_
      refine own_st (fun tq kq => XS.iload X62.here hx rfl (hb hby at_199) rfl  kq) ?_
      refine own_st (fun tq kq => XS.iload X62.here hx rfl (hb hby at_201) rfl  kq) ?_
      show own_G p e below _ (T62.setTop (mkF m 203 #[.val (.int p0), .val (.int p1), .val (.int p2), .val (.int sm), .val (.ref rl), .val (.int (1 : Int32)), .val (.int (1 : Int32)), .val (.int u0), .val (.int u1), .val (.int r0), .val (.int r1), .val (.ref b53), .val (.ref b55), .val (.ref b57), .val (.ref b60), .unset, .unset] [(.int (1 : Int32)), (.int (1 : Int32))]))
      refine own_st (fun tq kq => XS.icmpNo X62.here hx rfl (hb hby at_203) rfl (teq (by decide : ((1 : Int32) = (1 : Int32)))).2 kq) ?_
      refine own_st (fun tq kq => XS.iload X62.here hx rfl (hb hby at_206) rfl  kq) ?_
      refine own_st (fun tq kq => XS.iconst X62.here hx rfl (hb hby at_208) kq) ?_
      show own_G p e below _ (T62.setTop (mkF m 209 #[.val (.int p0), .val (.int p1), .val (.int p2), .val (.int sm), .val (.ref rl), .val (.int (1 : Int32)), .val (.int (1 : Int32)), .val (.int u0), .val (.int u1), .val (.int r0), .val (.int r1), .val (.ref b53), .val (.ref b55), .val (.ref b57), .val (.ref b60), .unset, .unset] [(.int (1 : Int32)), (.int (1 : Int32))]))
      refine own_st (fun tq kq => XS.icmpNo X62.here hx rfl (hb hby at_209) rfl (flt (by decide : ¬ ((1 : Int32) < (1 : Int32)))).1 kq) ?_
      refine own_st (fun tq kq => XS.iload X62.here hx rfl (hb hby at_212) rfl  kq) ?_
      refine own_st (fun tq kq => XS.iload X62.here hx rfl (hb hby at_214) rfl  kq) ?_
      show own_G p e below _ (T62.setTop (mkF m 216 #[.val (.int p0), .val (.int p1), .val (.int p2), .val (.int sm), .val (.ref rl), .val (.int (1 : Int32)), .val (.int (1 : Int32)), .val (.int u0), .val (.int u1), .val (.int r0), .val (.int r1), .val (.ref b53), .val (.ref b55), .val (.ref b57), .val (.ref b60), .unset, .unset] [(.int r0), (.int u0)]))
      by_cases hc216_65 : (u0 = r0)
      ·
        refine own_st (fun tq kq => XS.icmpNo X62.here hx rfl (hb hby at_216) rfl (teq hc216_65).2 kq) ?_
        refine own_st (fun tq kq => XS.iload X62.here hx rfl (hb hby at_219) rfl  kq) ?_
        refine own_st (fun tq kq => XS.iconst X62.here hx rfl (hb hby at_221) kq) ?_
        show own_G p e below _ (T62.setTop (mkF m 222 #[.val (.int p0), .val (.int p1), .val (.int p2), .val (.int sm), .val (.ref rl), .val (.int (1 : Int32)), .val (.int (1 : Int32)), .val (.int u0), .val (.int u1), .val (.int r0), .val (.int r1), .val (.ref b53), .val (.ref b55), .val (.ref b57), .val (.ref b60), .unset, .unset] [(.int (2 : Int32)), (.int (1 : Int32))]))
        refine own_st (fun tq kq => XS.icmpYes X62.here hx rfl (pc0 := 222) (pc' := 232) rfl (hb hby at_222) rfl (tlt (by decide : ((1 : Int32) < (2 : Int32)))).1 (by decide) (by decide) kq) ?_
        refine own_st (fun tq kq => XS.iconst X62.here hx rfl (hb hby at_232) kq) ?_
        refine own_st (fun tq kq => XS.goto X62.here hx rfl (pc0 := 233) (pc' := 237) rfl (hb hby at_233) (by decide) (by decide) kq) ?_
        refine own_st (fun tq kq => XS.istore X62.here hx rfl (hb hby at_237) rfl (l' := #[.val (.int p0), .val (.int p1), .val (.int p2), .val (.int sm), .val (.ref rl), .val (.int (1 : Int32)), .val (.int (1 : Int32)), .val (.int u0), .val (.int u1), .val (.int r0), .val (.int r1), .val (.ref b53), .val (.ref b55), .val (.ref b57), .val (.ref b60), .val (.int (1 : Int32)), .unset]) rfl kq) ?_
        show own_G p e below _ (T62.setTop (mkF m 239 #[.val (.int p0), .val (.int p1), .val (.int p2), .val (.int sm), .val (.ref rl), .val (.int (1 : Int32)), .val (.int (1 : Int32)), .val (.int u0), .val (.int u1), .val (.int r0), .val (.int r1), .val (.ref b53), .val (.ref b55), .val (.ref b57), .val (.ref b60), .val (.int (1 : Int32)), .unset] []))
        rcases hsm with rfl | rfl
        ·
          show own_G p e below _ (T62.setTop (mkF m 239 #[.val (.int p0), .val (.int p1), .val (.int p2), .val (.int (1 : Int32)), .val (.ref rl), .val (.int (1 : Int32)), .val (.int (1 : Int32)), .val (.int u0), .val (.int u1), .val (.int r0), .val (.int r1), .val (.ref b53), .val (.ref b55), .val (.ref b57), .val (.ref b60), .val (.int (1 : Int32)), .unset] []))
          refine own_st (fun tq kq => XS.iloadN X62.here hx rfl (hb hby at_239) rfl  kq) ?_
          show own_G p e below _ (T62.setTop (mkF m 240 #[.val (.int p0), .val (.int p1), .val (.int p2), .val (.int (1 : Int32)), .val (.ref rl), .val (.int (1 : Int32)), .val (.int (1 : Int32)), .val (.int u0), .val (.int u1), .val (.int r0), .val (.int r1), .val (.ref b53), .val (.ref b55), .val (.ref b57), .val (.ref b60), .val (.int (1 : Int32)), .unset] [(.int (1 : Int32))]))
          refine own_st (fun tq kq => XS.ifNo X62.here hx rfl (hb hby at_240) rfl ((if0 _ _).trans (feq (by decide : ¬ ((1 : Int32) = (0 : Int32)))).1) kq) ?_
          refine own_st (fun tq kq => XS.iload X62.here hx rfl (hb hby at_243) rfl  kq) ?_
          refine own_st (fun tq kq => XS.goto X62.here hx rfl (pc0 := 245) (pc' := 258) rfl (hb hby at_245) (by decide) (by decide) kq) ?_
          refine own_st (fun tq kq => XS.istore X62.here hx rfl (hb hby at_258) rfl (l' := #[.val (.int p0), .val (.int p1), .val (.int p2), .val (.int (1 : Int32)), .val (.ref rl), .val (.int (1 : Int32)), .val (.int (1 : Int32)), .val (.int u0), .val (.int u1), .val (.int r0), .val (.int r1), .val (.ref b53), .val (.ref b55), .val (.ref b57), .val (.ref b60), .val (.int (1 : Int32)), .val (.int (1 : Int32))]) rfl kq) ?_
          show own_G p e below _ (T62.setTop (mkF m 260 #[.val (.int p0), .val (.int p1), .val (.int p2), .val (.int (1 : Int32)), .val (.ref rl), .val (.int (1 : Int32)), .val (.int (1 : Int32)), .val (.int u0), .val (.int u1), .val (.int r0), .val (.int r1), .val (.ref b53), .val (.ref b55), .val (.ref b57), .val (.ref b60), .val (.int (1 : Int32)), .val (.int (1 : Int32))] []))
          refine own_st (fun tq kq => XS.aload X62.here hx rfl (hb hby at_260) rfl rfl kq) ?_
          refine own_st (fun tq kq => XS.aload X62.here hx rfl (hb hby at_262) rfl rfl kq) ?_
          refine own_st (fun tq kq => XS.aload X62.here hx rfl (hb hby at_264) rfl rfl kq) ?_
          show own_G p e below _ (T62.setTop (mkF m 266 #[.val (.int p0), .val (.int p1), .val (.int p2), .val (.int (1 : Int32)), .val (.ref rl), .val (.int (1 : Int32)), .val (.int (1 : Int32)), .val (.int u0), .val (.int u1), .val (.int r0), .val (.int r1), .val (.ref b53), .val (.ref b55), .val (.ref b57), .val (.ref b60), .val (.int (1 : Int32)), .val (.int (1 : Int32))] [(.ref b60), (.ref b57), (.ref rl)]))
          obtain ⟨cq66, kq66, q66a, q66b, q66c⟩ := isOf Z62 rfl (((((((((Er.ext (X00.keep K0 all0).2).ext E53).wr W54).ext E55).wr W56).ext E57).keep KK58).ext E60).keep KK62)
          obtain ⟨_, _, ⟨T66, L66, k66, n66⟩, -, X66, ⟨Lc66, hQ66, l66, y66, z66⟩, st66⟩ := X62.virtualBack hx (y := (⟨"com/example/veild/veild/policy/Constraint$Relation", "holds", "(Ljava/lang/String;Ljava/lang/String;)Z"⟩ : MethodName)) (z := (⟨"com/example/veild/veild/policy/Constraint$Relation", "holds", "(Ljava/lang/String;Ljava/lang/String;)Z"⟩ : MethodName)) o62 (mvT Z62 (hw _ (List.mem_of_getElem? (i := 36) rfl))) (mvT Z62 (hw _ (List.mem_of_getElem? (i := 37) rfl))) (notFace_of_selects (args := #[]) (mvT Z62 (hw _ (List.mem_of_getElem? (i := 39) rfl)))) (mvT Z62 (hw _ (List.mem_of_getElem? (i := 39) rfl))) (mvT Z62 (hw _ (List.mem_of_getElem? (i := 38) rfl))) (by decide) (own_backN (W := 0) (own_holds1 l Z a0 hw [] (rl) (b57) (b60) (([(nar .char u0)] : List Int32)) (([(nar .char r0)] : List Int32)) (T62.heap.size) (G1) T62.heap n0 (by omega) (X00.keep K62 all0) (Fr1.ext (X00.keep K62 all0).2) (own_Str.mono ((Str58.ext E60).keep KK62 (allS (own_le (by omega)) all0)) (by omega)) (own_Str.mono Str62 (by omega)) O2 P5) Z62 (hw _ (List.mem_of_getElem? (i := 40) rfl)) (hw _ (List.mem_of_getElem? (i := 1) rfl)) (by decide) (by decide)) q66a q66c (g := (mkF m 266 #[.val (.int p0), .val (.int p1), .val (.int p2), .val (.int (1 : Int32)), .val (.ref rl), .val (.int (1 : Int32)), .val (.int (1 : Int32)), .val (.int u0), .val (.int u1), .val (.int r0), .val (.int r1), .val (.ref b53), .val (.ref b55), .val (.ref b57), .val (.ref b60), .val (.int (1 : Int32)), .val (.int (1 : Int32))] [(.ref b60), (.ref b57), (.ref rl)])) rfl (by rw [hml]; rfl) (Steps.refl _) (argsL := [(.ref b57), (.ref b60)]) (rest := []) (lenOf own_pd3 rfl) rfl (by show 2 * 0 + _ ≤ _; exact Nat.le_of_eq rfl) (hb hby at_266) (fun _ _ => ⟨rfl, rfl, (by decide : 8 + 0 ≤ _), (by decide : 20 + 0 ≤ _)⟩)
          dsimp only [Pt.U, Pt.locs, Pt.cells, Pt.slots] at X66 l66 y66 z66 st66 hQ66
          subst l66 y66 z66
          obtain ⟨hr66, Nq66, sm66⟩ := hQ66
          obtain ⟨rfl, eq66⟩ := hr66.resolve_right (fun q => q.2 (by rw [hc216_65]))
          have N66 := Fr.app N62 Nq66
          refine own_st (fun tq kq => st66.trans kq) ?_
          show own_G p e below _ (T66.setTop (mkF m 269 #[.val (.int p0), .val (.int p1), .val (.int p2), .val (.int (1 : Int32)), .val (.ref rl), .val (.int (1 : Int32)), .val (.int (1 : Int32)), .val (.int u0), .val (.int u1), .val (.int r0), .val (.int r1), .val (.ref b53), .val (.ref b55), .val (.ref b57), .val (.ref b60), .val (.int (1 : Int32)), .val (.int (1 : Int32))] [(.int (1 : Int32))]))
          refine own_st (fun tq kq => XS.iload X66.here hx rfl (hb hby at_269) rfl  kq) ?_
          show own_G p e below _ (T66.setTop (mkF m 271 #[.val (.int p0), .val (.int p1), .val (.int p2), .val (.int (1 : Int32)), .val (.ref rl), .val (.int (1 : Int32)), .val (.int (1 : Int32)), .val (.int u0), .val (.int u1), .val (.int r0), .val (.int r1), .val (.ref b53), .val (.ref b55), .val (.ref b57), .val (.ref b60), .val (.int (1 : Int32)), .val (.int (1 : Int32))] [(.int (1 : Int32)), (.int (1 : Int32))]))
          refine own_st (fun tq kq => XS.icmpNo X66.here hx rfl (hb hby at_271) rfl (teq (by decide : ((1 : Int32) = (1 : Int32)))).2 kq) ?_
          refine own_st (fun tq kq => XS.iconst X66.here hx rfl (hb hby at_274) kq) ?_
          refine own_st (fun tq kq => XS.goto X66.here hx rfl (pc0 := 275) (pc' := 279) rfl (hb hby at_275) (by decide) (by decide) kq) ?_
          show own_G p e below _ (T66.setTop (mkF m 279 #[.val (.int p0), .val (.int p1), .val (.int p2), .val (.int (1 : Int32)), .val (.ref rl), .val (.int (1 : Int32)), .val (.int (1 : Int32)), .val (.int u0), .val (.int u1), .val (.int r0), .val (.int r1), .val (.ref b53), .val (.ref b55), .val (.ref b57), .val (.ref b60), .val (.int (1 : Int32)), .val (.int (1 : Int32))] [(.int (1 : Int32))]))
          obtain ⟨fs, hr, hrun, hended, hRW⟩ := X66.leaveW S62 (by rw [sm66]; exact (own_le (by omega))) (v := some (.int (1 : Int32))) (fun h => by rw [Bd.returns] at h; cases h)
          have cE := C62.trans (CHv.at (s := s) (vm0 := T62.vm) X66 Z62 hEL C62.1)
          refine ⟨_, _, retN X66 hx (t := .boolean) Bd.returns (by simp) (hb hby at_279) hr, hrun, hended, _, _, rfl, ?_, ?_, own_RW hRW (by decide) (by decide)⟩
          · change (fun (v : Option Value) (_ : Vm) (h : Heap) (L : List Loc) => v = some (.int (1 : Int32)) ∧ Fr n0 L) (some (.int (1 : Int32))) T66.vm T66.heap _; rw [sm66]; exact ⟨rfl, N66⟩
          · rw [hh]; change CHr Z consts_1 s.vm h0 T66.vm T66.heap; rw [sm66]; exact cE
        ·
          show own_G p e below _ (T62.setTop (mkF m 239 #[.val (.int p0), .val (.int p1), .val (.int p2), .val (.int (0 : Int32)), .val (.ref rl), .val (.int (1 : Int32)), .val (.int (1 : Int32)), .val (.int u0), .val (.int u1), .val (.int r0), .val (.int r1), .val (.ref b53), .val (.ref b55), .val (.ref b57), .val (.ref b60), .val (.int (1 : Int32)), .unset] []))
          refine own_st (fun tq kq => XS.iloadN X62.here hx rfl (hb hby at_239) rfl  kq) ?_
          show own_G p e below _ (T62.setTop (mkF m 240 #[.val (.int p0), .val (.int p1), .val (.int p2), .val (.int (0 : Int32)), .val (.ref rl), .val (.int (1 : Int32)), .val (.int (1 : Int32)), .val (.int u0), .val (.int u1), .val (.int r0), .val (.int r1), .val (.ref b53), .val (.ref b55), .val (.ref b57), .val (.ref b60), .val (.int (1 : Int32)), .unset] [(.int (0 : Int32))]))
          refine own_st (fun tq kq => XS.ifYes X62.here hx rfl (pc0 := 240) (pc' := 248) rfl (hb hby at_240) rfl ((if0 _ _).trans (teq (by decide : ((0 : Int32) = (0 : Int32)))).1) (by decide) (by decide) kq) ?_
          refine own_st (fun tq kq => XS.iload X62.here hx rfl (hb hby at_248) rfl  kq) ?_
          show own_G p e below _ (T62.setTop (mkF m 250 #[.val (.int p0), .val (.int p1), .val (.int p2), .val (.int (0 : Int32)), .val (.ref rl), .val (.int (1 : Int32)), .val (.int (1 : Int32)), .val (.int u0), .val (.int u1), .val (.int r0), .val (.int r1), .val (.ref b53), .val (.ref b55), .val (.ref b57), .val (.ref b60), .val (.int (1 : Int32)), .unset] [(.int (1 : Int32))]))
          refine own_st (fun tq kq => XS.ifYes X62.here hx rfl (pc0 := 250) (pc' := 257) rfl (hb hby at_250) rfl ((if0 _ _).trans (feq (by decide : ¬ ((1 : Int32) = (0 : Int32)))).2) (by decide) (by decide) kq) ?_
          refine own_st (fun tq kq => XS.iconst X62.here hx rfl (hb hby at_257) kq) ?_
          refine own_st (fun tq kq => XS.istore X62.here hx rfl (hb hby at_258) rfl (l' := #[.val (.int p0), .val (.int p1), .val (.int p2), .val (.int (0 : Int32)), .val (.ref rl), .val (.int (1 : Int32)), .val (.int (1 : Int32)), .val (.int u0), .val (.int u1), .val (.int r0), .val (.int r1), .val (.ref b53), .val (.ref b55), .val (.ref b57), .val (.ref b60), .val (.int (1 : Int32)), .val (.int (0 : Int32))]) rfl kq) ?_
          refine own_st (fun tq kq => XS.aload X62.here hx rfl (hb hby at_260) rfl rfl kq) ?_
          show own_G p e below _ (T62.setTop (mkF m 262 #[.val (.int p0), .val (.int p1), .val (.int p2), .val (.int (0 : Int32)), .val (.ref rl), .val (.int (1 : Int32)), .val (.int (1 : Int32)), .val (.int u0), .val (.int u1), .val (.int r0), .val (.int r1), .val (.ref b53), .val (.ref b55), .val (.ref b57), .val (.ref b60), .val (.int (1 : Int32)), .val (.int (0 : Int32))] [(.ref rl)]))
          refine own_st (fun tq kq => XS.aload X62.here hx rfl (hb hby at_262) rfl rfl kq) ?_
          refine own_st (fun tq kq => XS.aload X62.here hx rfl (hb hby at_264) rfl rfl kq) ?_
          show own_G p e below _ (T62.setTop (mkF m 266 #[.val (.int p0), .val (.int p1), .val (.int p2), .val (.int (0 : Int32)), .val (.ref rl), .val (.int (1 : Int32)), .val (.int (1 : Int32)), .val (.int u0), .val (.int u1), .val (.int r0), .val (.int r1), .val (.ref b53), .val (.ref b55), .val (.ref b57), .val (.ref b60), .val (.int (1 : Int32)), .val (.int (0 : Int32))] [(.ref b60), (.ref b57), (.ref rl)]))
          obtain ⟨cq67, kq67, q67a, q67b, q67c⟩ := isOf Z62 rfl (((((((((Er.ext (X00.keep K0 all0).2).ext E53).wr W54).ext E55).wr W56).ext E57).keep KK58).ext E60).keep KK62)
          obtain ⟨_, _, ⟨T67, L67, k67, n67⟩, -, X67, ⟨Lc67, hQ67, l67, y67, z67⟩, st67⟩ := X62.virtualBack hx (y := (⟨"com/example/veild/veild/policy/Constraint$Relation", "holds", "(Ljava/lang/String;Ljava/lang/String;)Z"⟩ : MethodName)) (z := (⟨"com/example/veild/veild/policy/Constraint$Relation", "holds", "(Ljava/lang/String;Ljava/lang/String;)Z"⟩ : MethodName)) o62 (mvT Z62 (hw _ (List.mem_of_getElem? (i := 36) rfl))) (mvT Z62 (hw _ (List.mem_of_getElem? (i := 37) rfl))) (notFace_of_selects (args := #[]) (mvT Z62 (hw _ (List.mem_of_getElem? (i := 39) rfl)))) (mvT Z62 (hw _ (List.mem_of_getElem? (i := 39) rfl))) (mvT Z62 (hw _ (List.mem_of_getElem? (i := 38) rfl))) (by decide) (own_backN (W := 0) (own_holds0 l Z a0 hw [] (rl) (b57) (b60) (([(nar .char u0)] : List Int32)) (([(nar .char r0)] : List Int32)) (T62.heap.size) (G1) T62.heap n0 (by omega) (X00.keep K62 all0) (Fr1.ext (X00.keep K62 all0).2) (own_Str.mono ((Str58.ext E60).keep KK62 (allS (own_le (by omega)) all0)) (by omega)) (own_Str.mono Str62 (by omega)) O2 P5) Z62 (hw _ (List.mem_of_getElem? (i := 40) rfl)) (hw _ (List.mem_of_getElem? (i := 1) rfl)) (by decide) (by decide)) q67a q67c (g := (mkF m 266 #[.val (.int p0), .val (.int p1), .val (.int p2), .val (.int (0 : Int32)), .val (.ref rl), .val (.int (1 : Int32)), .val (.int (1 : Int32)), .val (.int u0), .val (.int u1), .val (.int r0), .val (.int r1), .val (.ref b53), .val (.ref b55), .val (.ref b57), .val (.ref b60), .val (.int (1 : Int32)), .val (.int (0 : Int32))] [(.ref b60), (.ref b57), (.ref rl)])) rfl (by rw [hml]; rfl) (Steps.refl _) (argsL := [(.ref b57), (.ref b60)]) (rest := []) (lenOf own_pd3 rfl) rfl (by show 2 * 0 + _ ≤ _; exact Nat.le_of_eq rfl) (hb hby at_266) (fun _ _ => ⟨rfl, rfl, (by decide : 8 + 0 ≤ _), (by decide : 20 + 0 ≤ _)⟩)
          dsimp only [Pt.U, Pt.locs, Pt.cells, Pt.slots] at X67 l67 y67 z67 st67 hQ67
          subst l67 y67 z67
          obtain ⟨hr67, Nq67, sm67⟩ := hQ67
          obtain ⟨rfl, eq67⟩ := hr67.resolve_right (fun q => q.2 (by rw [hc216_65]))
          have N67 := Fr.app N62 Nq67
          refine own_st (fun tq kq => st67.trans kq) ?_
          show own_G p e below _ (T67.setTop (mkF m 269 #[.val (.int p0), .val (.int p1), .val (.int p2), .val (.int (0 : Int32)), .val (.ref rl), .val (.int (1 : Int32)), .val (.int (1 : Int32)), .val (.int u0), .val (.int u1), .val (.int r0), .val (.int r1), .val (.ref b53), .val (.ref b55), .val (.ref b57), .val (.ref b60), .val (.int (1 : Int32)), .val (.int (0 : Int32))] [(.int (0 : Int32))]))
          refine own_st (fun tq kq => XS.iload X67.here hx rfl (hb hby at_269) rfl  kq) ?_
          show own_G p e below _ (T67.setTop (mkF m 271 #[.val (.int p0), .val (.int p1), .val (.int p2), .val (.int (0 : Int32)), .val (.ref rl), .val (.int (1 : Int32)), .val (.int (1 : Int32)), .val (.int u0), .val (.int u1), .val (.int r0), .val (.int r1), .val (.ref b53), .val (.ref b55), .val (.ref b57), .val (.ref b60), .val (.int (1 : Int32)), .val (.int (0 : Int32))] [(.int (0 : Int32)), (.int (0 : Int32))]))
          refine own_st (fun tq kq => XS.icmpNo X67.here hx rfl (hb hby at_271) rfl (teq (by decide : ((0 : Int32) = (0 : Int32)))).2 kq) ?_
          refine own_st (fun tq kq => XS.iconst X67.here hx rfl (hb hby at_274) kq) ?_
          refine own_st (fun tq kq => XS.goto X67.here hx rfl (pc0 := 275) (pc' := 279) rfl (hb hby at_275) (by decide) (by decide) kq) ?_
          show own_G p e below _ (T67.setTop (mkF m 279 #[.val (.int p0), .val (.int p1), .val (.int p2), .val (.int (0 : Int32)), .val (.ref rl), .val (.int (1 : Int32)), .val (.int (1 : Int32)), .val (.int u0), .val (.int u1), .val (.int r0), .val (.int r1), .val (.ref b53), .val (.ref b55), .val (.ref b57), .val (.ref b60), .val (.int (1 : Int32)), .val (.int (0 : Int32))] [(.int (1 : Int32))]))
          obtain ⟨fs, hr, hrun, hended, hRW⟩ := X67.leaveW S62 (by rw [sm67]; exact (own_le (by omega))) (v := some (.int (1 : Int32))) (fun h => by rw [Bd.returns] at h; cases h)
          have cE := C62.trans (CHv.at (s := s) (vm0 := T62.vm) X67 Z62 hEL C62.1)
          refine ⟨_, _, retN X67 hx (t := .boolean) Bd.returns (by simp) (hb hby at_279) hr, hrun, hended, _, _, rfl, ?_, ?_, own_RW hRW (by decide) (by decide)⟩
          · change (fun (v : Option Value) (_ : Vm) (h : Heap) (L : List Loc) => v = some (.int (1 : Int32)) ∧ Fr n0 L) (some (.int (1 : Int32))) T67.vm T67.heap _; rw [sm67]; exact ⟨rfl, N67⟩
          · rw [hh]; change CHr Z consts_1 s.vm h0 T67.vm T67.heap; rw [sm67]; exact cE
      ·
        refine own_st (fun tq kq => XS.icmpYes X62.here hx rfl (pc0 := 216) (pc' := 236) rfl (hb hby at_216) rfl (feq hc216_65).2 (by decide) (by decide) kq) ?_
        refine own_st (fun tq kq => XS.iconst X62.here hx rfl (hb hby at_236) kq) ?_
        refine own_st (fun tq kq => XS.istore X62.here hx rfl (hb hby at_237) rfl (l' := #[.val (.int p0), .val (.int p1), .val (.int p2), .val (.int sm), .val (.ref rl), .val (.int (1 : Int32)), .val (.int (1 : Int32)), .val (.int u0), .val (.int u1), .val (.int r0), .val (.int r1), .val (.ref b53), .val (.ref b55), .val (.ref b57), .val (.ref b60), .val (.int (0 : Int32)), .unset]) rfl kq) ?_
        show own_G p e below _ (T62.setTop (mkF m 239 #[.val (.int p0), .val (.int p1), .val (.int p2), .val (.int sm), .val (.ref rl), .val (.int (1 : Int32)), .val (.int (1 : Int32)), .val (.int u0), .val (.int u1), .val (.int r0), .val (.int r1), .val (.ref b53), .val (.ref b55), .val (.ref b57), .val (.ref b60), .val (.int (0 : Int32)), .unset] []))
        rcases hsm with rfl | rfl
        ·
          show own_G p e below _ (T62.setTop (mkF m 239 #[.val (.int p0), .val (.int p1), .val (.int p2), .val (.int (1 : Int32)), .val (.ref rl), .val (.int (1 : Int32)), .val (.int (1 : Int32)), .val (.int u0), .val (.int u1), .val (.int r0), .val (.int r1), .val (.ref b53), .val (.ref b55), .val (.ref b57), .val (.ref b60), .val (.int (0 : Int32)), .unset] []))
          refine own_st (fun tq kq => XS.iloadN X62.here hx rfl (hb hby at_239) rfl  kq) ?_
          show own_G p e below _ (T62.setTop (mkF m 240 #[.val (.int p0), .val (.int p1), .val (.int p2), .val (.int (1 : Int32)), .val (.ref rl), .val (.int (1 : Int32)), .val (.int (1 : Int32)), .val (.int u0), .val (.int u1), .val (.int r0), .val (.int r1), .val (.ref b53), .val (.ref b55), .val (.ref b57), .val (.ref b60), .val (.int (0 : Int32)), .unset] [(.int (1 : Int32))]))
          refine own_st (fun tq kq => XS.ifNo X62.here hx rfl (hb hby at_240) rfl ((if0 _ _).trans (feq (by decide : ¬ ((1 : Int32) = (0 : Int32)))).1) kq) ?_
          refine own_st (fun tq kq => XS.iload X62.here hx rfl (hb hby at_243) rfl  kq) ?_
          refine own_st (fun tq kq => XS.goto X62.here hx rfl (pc0 := 245) (pc' := 258) rfl (hb hby at_245) (by decide) (by decide) kq) ?_
          refine own_st (fun tq kq => XS.istore X62.here hx rfl (hb hby at_258) rfl (l' := #[.val (.int p0), .val (.int p1), .val (.int p2), .val (.int (1 : Int32)), .val (.ref rl), .val (.int (1 : Int32)), .val (.int (1 : Int32)), .val (.int u0), .val (.int u1), .val (.int r0), .val (.int r1), .val (.ref b53), .val (.ref b55), .val (.ref b57), .val (.ref b60), .val (.int (0 : Int32)), .val (.int (0 : Int32))]) rfl kq) ?_
          show own_G p e below _ (T62.setTop (mkF m 260 #[.val (.int p0), .val (.int p1), .val (.int p2), .val (.int (1 : Int32)), .val (.ref rl), .val (.int (1 : Int32)), .val (.int (1 : Int32)), .val (.int u0), .val (.int u1), .val (.int r0), .val (.int r1), .val (.ref b53), .val (.ref b55), .val (.ref b57), .val (.ref b60), .val (.int (0 : Int32)), .val (.int (0 : Int32))] []))
          refine own_st (fun tq kq => XS.aload X62.here hx rfl (hb hby at_260) rfl rfl kq) ?_
          refine own_st (fun tq kq => XS.aload X62.here hx rfl (hb hby at_262) rfl rfl kq) ?_
          refine own_st (fun tq kq => XS.aload X62.here hx rfl (hb hby at_264) rfl rfl kq) ?_
          show own_G p e below _ (T62.setTop (mkF m 266 #[.val (.int p0), .val (.int p1), .val (.int p2), .val (.int (1 : Int32)), .val (.ref rl), .val (.int (1 : Int32)), .val (.int (1 : Int32)), .val (.int u0), .val (.int u1), .val (.int r0), .val (.int r1), .val (.ref b53), .val (.ref b55), .val (.ref b57), .val (.ref b60), .val (.int (0 : Int32)), .val (.int (0 : Int32))] [(.ref b60), (.ref b57), (.ref rl)]))
          obtain ⟨cq68, kq68, q68a, q68b, q68c⟩ := isOf Z62 rfl (((((((((Er.ext (X00.keep K0 all0).2).ext E53).wr W54).ext E55).wr W56).ext E57).keep KK58).ext E60).keep KK62)
          obtain ⟨_, _, ⟨T68, L68, k68, n68⟩, -, X68, ⟨Lc68, hQ68, l68, y68, z68⟩, st68⟩ := X62.virtualBack hx (y := (⟨"com/example/veild/veild/policy/Constraint$Relation", "holds", "(Ljava/lang/String;Ljava/lang/String;)Z"⟩ : MethodName)) (z := (⟨"com/example/veild/veild/policy/Constraint$Relation", "holds", "(Ljava/lang/String;Ljava/lang/String;)Z"⟩ : MethodName)) o62 (mvT Z62 (hw _ (List.mem_of_getElem? (i := 36) rfl))) (mvT Z62 (hw _ (List.mem_of_getElem? (i := 37) rfl))) (notFace_of_selects (args := #[]) (mvT Z62 (hw _ (List.mem_of_getElem? (i := 39) rfl)))) (mvT Z62 (hw _ (List.mem_of_getElem? (i := 39) rfl))) (mvT Z62 (hw _ (List.mem_of_getElem? (i := 38) rfl))) (by decide) (own_backN (W := 0) (own_holds1 l Z a0 hw [] (rl) (b57) (b60) (([(nar .char u0)] : List Int32)) (([(nar .char r0)] : List Int32)) (T62.heap.size) (G1) T62.heap n0 (by omega) (X00.keep K62 all0) (Fr1.ext (X00.keep K62 all0).2) (own_Str.mono ((Str58.ext E60).keep KK62 (allS (own_le (by omega)) all0)) (by omega)) (own_Str.mono Str62 (by omega)) O2 P5) Z62 (hw _ (List.mem_of_getElem? (i := 40) rfl)) (hw _ (List.mem_of_getElem? (i := 1) rfl)) (by decide) (by decide)) q68a q68c (g := (mkF m 266 #[.val (.int p0), .val (.int p1), .val (.int p2), .val (.int (1 : Int32)), .val (.ref rl), .val (.int (1 : Int32)), .val (.int (1 : Int32)), .val (.int u0), .val (.int u1), .val (.int r0), .val (.int r1), .val (.ref b53), .val (.ref b55), .val (.ref b57), .val (.ref b60), .val (.int (0 : Int32)), .val (.int (0 : Int32))] [(.ref b60), (.ref b57), (.ref rl)])) rfl (by rw [hml]; rfl) (Steps.refl _) (argsL := [(.ref b57), (.ref b60)]) (rest := []) (lenOf own_pd3 rfl) rfl (by show 2 * 0 + _ ≤ _; exact Nat.le_of_eq rfl) (hb hby at_266) (fun _ _ => ⟨rfl, rfl, (by decide : 8 + 0 ≤ _), (by decide : 20 + 0 ≤ _)⟩)
          dsimp only [Pt.U, Pt.locs, Pt.cells, Pt.slots] at X68 l68 y68 z68 st68 hQ68
          subst l68 y68 z68
          obtain ⟨hr68, Nq68, sm68⟩ := hQ68
          obtain ⟨rfl, eq68⟩ := hr68.resolve_left (fun q => (by intro hh; apply hc216_65; simp only [List.cons.injEq, nu0, nu1, nr0, nr1] at hh; exact hh.1 : ¬ _) q.2)
          have N68 := Fr.app N62 Nq68
          refine own_st (fun tq kq => st68.trans kq) ?_
          show own_G p e below _ (T68.setTop (mkF m 269 #[.val (.int p0), .val (.int p1), .val (.int p2), .val (.int (1 : Int32)), .val (.ref rl), .val (.int (1 : Int32)), .val (.int (1 : Int32)), .val (.int u0), .val (.int u1), .val (.int r0), .val (.int r1), .val (.ref b53), .val (.ref b55), .val (.ref b57), .val (.ref b60), .val (.int (0 : Int32)), .val (.int (0 : Int32))] [(.int (0 : Int32))]))
          refine own_st (fun tq kq => XS.iload X68.here hx rfl (hb hby at_269) rfl  kq) ?_
          show own_G p e below _ (T68.setTop (mkF m 271 #[.val (.int p0), .val (.int p1), .val (.int p2), .val (.int (1 : Int32)), .val (.ref rl), .val (.int (1 : Int32)), .val (.int (1 : Int32)), .val (.int u0), .val (.int u1), .val (.int r0), .val (.int r1), .val (.ref b53), .val (.ref b55), .val (.ref b57), .val (.ref b60), .val (.int (0 : Int32)), .val (.int (0 : Int32))] [(.int (0 : Int32)), (.int (0 : Int32))]))
          refine own_st (fun tq kq => XS.icmpNo X68.here hx rfl (hb hby at_271) rfl (teq (by decide : ((0 : Int32) = (0 : Int32)))).2 kq) ?_
          refine own_st (fun tq kq => XS.iconst X68.here hx rfl (hb hby at_274) kq) ?_
          refine own_st (fun tq kq => XS.goto X68.here hx rfl (pc0 := 275) (pc' := 279) rfl (hb hby at_275) (by decide) (by decide) kq) ?_
          show own_G p e below _ (T68.setTop (mkF m 279 #[.val (.int p0), .val (.int p1), .val (.int p2), .val (.int (1 : Int32)), .val (.ref rl), .val (.int (1 : Int32)), .val (.int (1 : Int32)), .val (.int u0), .val (.int u1), .val (.int r0), .val (.int r1), .val (.ref b53), .val (.ref b55), .val (.ref b57), .val (.ref b60), .val (.int (0 : Int32)), .val (.int (0 : Int32))] [(.int (1 : Int32))]))
          obtain ⟨fs, hr, hrun, hended, hRW⟩ := X68.leaveW S62 (by rw [sm68]; exact (own_le (by omega))) (v := some (.int (1 : Int32))) (fun h => by rw [Bd.returns] at h; cases h)
          have cE := C62.trans (CHv.at (s := s) (vm0 := T62.vm) X68 Z62 hEL C62.1)
          refine ⟨_, _, retN X68 hx (t := .boolean) Bd.returns (by simp) (hb hby at_279) hr, hrun, hended, _, _, rfl, ?_, ?_, own_RW hRW (by decide) (by decide)⟩
          · change (fun (v : Option Value) (_ : Vm) (h : Heap) (L : List Loc) => v = some (.int (1 : Int32)) ∧ Fr n0 L) (some (.int (1 : Int32))) T68.vm T68.heap _; rw [sm68]; exact ⟨rfl, N68⟩
          · rw [hh]; change CHr Z consts_1 s.vm h0 T68.vm T68.heap; rw [sm68]; exact cE
        ·
          show own_G p e below _ (T62.setTop (mkF m 239 #[.val (.int p0), .val (.int p1), .val (.int p2), .val (.int (0 : Int32)), .val (.ref rl), .val (.int (1 : Int32)), .val (.int (1 : Int32)), .val (.int u0), .val (.int u1), .val (.int r0), .val (.int r1), .val (.ref b53), .val (.ref b55), .val (.ref b57), .val (.ref b60), .val (.int (0 : Int32)), .unset] []))
          refine own_st (fun tq kq => XS.iloadN X62.here hx rfl (hb hby at_239) rfl  kq) ?_
          show own_G p e below _ (T62.setTop (mkF m 240 #[.val (.int p0), .val (.int p1), .val (.int p2), .val (.int (0 : Int32)), .val (.ref rl), .val (.int (1 : Int32)), .val (.int (1 : Int32)), .val (.int u0), .val (.int u1), .val (.int r0), .val (.int r1), .val (.ref b53), .val (.ref b55), .val (.ref b57), .val (.ref b60), .val (.int (0 : Int32)), .unset] [(.int (0 : Int32))]))
          refine own_st (fun tq kq => XS.ifYes X62.here hx rfl (pc0 := 240) (pc' := 248) rfl (hb hby at_240) rfl ((if0 _ _).trans (teq (by decide : ((0 : Int32) = (0 : Int32)))).1) (by decide) (by decide) kq) ?_
          refine own_st (fun tq kq => XS.iload X62.here hx rfl (hb hby at_248) rfl  kq) ?_
          show own_G p e below _ (T62.setTop (mkF m 250 #[.val (.int p0), .val (.int p1), .val (.int p2), .val (.int (0 : Int32)), .val (.ref rl), .val (.int (1 : Int32)), .val (.int (1 : Int32)), .val (.int u0), .val (.int u1), .val (.int r0), .val (.int r1), .val (.ref b53), .val (.ref b55), .val (.ref b57), .val (.ref b60), .val (.int (0 : Int32)), .unset] [(.int (0 : Int32))]))
          refine own_st (fun tq kq => XS.ifNo X62.here hx rfl (hb hby at_250) rfl ((if0 _ _).trans (teq (by decide : ((0 : Int32) = (0 : Int32)))).2) kq) ?_
          refine own_st (fun tq kq => XS.iconst X62.here hx rfl (hb hby at_253) kq) ?_
          refine own_st (fun tq kq => XS.goto X62.here hx rfl (pc0 := 254) (pc' := 258) rfl (hb hby at_254) (by decide) (by decide) kq) ?_
          refine own_st (fun tq kq => XS.istore X62.here hx rfl (hb hby at_258) rfl (l' := #[.val (.int p0), .val (.int p1), .val (.int p2), .val (.int (0 : Int32)), .val (.ref rl), .val (.int (1 : Int32)), .val (.int (1 : Int32)), .val (.int u0), .val (.int u1), .val (.int r0), .val (.int r1), .val (.ref b53), .val (.ref b55), .val (.ref b57), .val (.ref b60), .val (.int (0 : Int32)), .val (.int (1 : Int32))]) rfl kq) ?_
          show own_G p e below _ (T62.setTop (mkF m 260 #[.val (.int p0), .val (.int p1), .val (.int p2), .val (.int (0 : Int32)), .val (.ref rl), .val (.int (1 : Int32)), .val (.int (1 : Int32)), .val (.int u0), .val (.int u1), .val (.int r0), .val (.int r1), .val (.ref b53), .val (.ref b55), .val (.ref b57), .val (.ref b60), .val (.int (0 : Int32)), .val (.int (1 : Int32))] []))
          refine own_st (fun tq kq => XS.aload X62.here hx rfl (hb hby at_260) rfl rfl kq) ?_
          refine own_st (fun tq kq => XS.aload X62.here hx rfl (hb hby at_262) rfl rfl kq) ?_
          refine own_st (fun tq kq => XS.aload X62.here hx rfl (hb hby at_264) rfl rfl kq) ?_
          show own_G p e below _ (T62.setTop (mkF m 266 #[.val (.int p0), .val (.int p1), .val (.int p2), .val (.int (0 : Int32)), .val (.ref rl), .val (.int (1 : Int32)), .val (.int (1 : Int32)), .val (.int u0), .val (.int u1), .val (.int r0), .val (.int r1), .val (.ref b53), .val (.ref b55), .val (.ref b57), .val (.ref b60), .val (.int (0 : Int32)), .val (.int (1 : Int32))] [(.ref b60), (.ref b57), (.ref rl)]))
          obtain ⟨cq69, kq69, q69a, q69b, q69c⟩ := isOf Z62 rfl (((((((((Er.ext (X00.keep K0 all0).2).ext E53).wr W54).ext E55).wr W56).ext E57).keep KK58).ext E60).keep KK62)
          obtain ⟨_, _, ⟨T69, L69, k69, n69⟩, -, X69, ⟨Lc69, hQ69, l69, y69, z69⟩, st69⟩ := X62.virtualBack hx (y := (⟨"com/example/veild/veild/policy/Constraint$Relation", "holds", "(Ljava/lang/String;Ljava/lang/String;)Z"⟩ : MethodName)) (z := (⟨"com/example/veild/veild/policy/Constraint$Relation", "holds", "(Ljava/lang/String;Ljava/lang/String;)Z"⟩ : MethodName)) o62 (mvT Z62 (hw _ (List.mem_of_getElem? (i := 36) rfl))) (mvT Z62 (hw _ (List.mem_of_getElem? (i := 37) rfl))) (notFace_of_selects (args := #[]) (mvT Z62 (hw _ (List.mem_of_getElem? (i := 39) rfl)))) (mvT Z62 (hw _ (List.mem_of_getElem? (i := 39) rfl))) (mvT Z62 (hw _ (List.mem_of_getElem? (i := 38) rfl))) (by decide) (own_backN (W := 0) (own_holds0 l Z a0 hw [] (rl) (b57) (b60) (([(nar .char u0)] : List Int32)) (([(nar .char r0)] : List Int32)) (T62.heap.size) (G1) T62.heap n0 (by omega) (X00.keep K62 all0) (Fr1.ext (X00.keep K62 all0).2) (own_Str.mono ((Str58.ext E60).keep KK62 (allS (own_le (by omega)) all0)) (by omega)) (own_Str.mono Str62 (by omega)) O2 P5) Z62 (hw _ (List.mem_of_getElem? (i := 40) rfl)) (hw _ (List.mem_of_getElem? (i := 1) rfl)) (by decide) (by decide)) q69a q69c (g := (mkF m 266 #[.val (.int p0), .val (.int p1), .val (.int p2), .val (.int (0 : Int32)), .val (.ref rl), .val (.int (1 : Int32)), .val (.int (1 : Int32)), .val (.int u0), .val (.int u1), .val (.int r0), .val (.int r1), .val (.ref b53), .val (.ref b55), .val (.ref b57), .val (.ref b60), .val (.int (0 : Int32)), .val (.int (1 : Int32))] [(.ref b60), (.ref b57), (.ref rl)])) rfl (by rw [hml]; rfl) (Steps.refl _) (argsL := [(.ref b57), (.ref b60)]) (rest := []) (lenOf own_pd3 rfl) rfl (by show 2 * 0 + _ ≤ _; exact Nat.le_of_eq rfl) (hb hby at_266) (fun _ _ => ⟨rfl, rfl, (by decide : 8 + 0 ≤ _), (by decide : 20 + 0 ≤ _)⟩)
          dsimp only [Pt.U, Pt.locs, Pt.cells, Pt.slots] at X69 l69 y69 z69 st69 hQ69
          subst l69 y69 z69
          obtain ⟨hr69, Nq69, sm69⟩ := hQ69
          obtain ⟨rfl, eq69⟩ := hr69.resolve_left (fun q => (by intro hh; apply hc216_65; simp only [List.cons.injEq, nu0, nu1, nr0, nr1] at hh; exact hh.1 : ¬ _) q.2)
          have N69 := Fr.app N62 Nq69
          refine own_st (fun tq kq => st69.trans kq) ?_
          show own_G p e below _ (T69.setTop (mkF m 269 #[.val (.int p0), .val (.int p1), .val (.int p2), .val (.int (0 : Int32)), .val (.ref rl), .val (.int (1 : Int32)), .val (.int (1 : Int32)), .val (.int u0), .val (.int u1), .val (.int r0), .val (.int r1), .val (.ref b53), .val (.ref b55), .val (.ref b57), .val (.ref b60), .val (.int (0 : Int32)), .val (.int (1 : Int32))] [(.int (1 : Int32))]))
          refine own_st (fun tq kq => XS.iload X69.here hx rfl (hb hby at_269) rfl  kq) ?_
          show own_G p e below _ (T69.setTop (mkF m 271 #[.val (.int p0), .val (.int p1), .val (.int p2), .val (.int (0 : Int32)), .val (.ref rl), .val (.int (1 : Int32)), .val (.int (1 : Int32)), .val (.int u0), .val (.int u1), .val (.int r0), .val (.int r1), .val (.ref b53), .val (.ref b55), .val (.ref b57), .val (.ref b60), .val (.int (0 : Int32)), .val (.int (1 : Int32))] [(.int (1 : Int32)), (.int (1 : Int32))]))
          refine own_st (fun tq kq => XS.icmpNo X69.here hx rfl (hb hby at_271) rfl (teq (by decide : ((1 : Int32) = (1 : Int32)))).2 kq) ?_
          refine own_st (fun tq kq => XS.iconst X69.here hx rfl (hb hby at_274) kq) ?_
          refine own_st (fun tq kq => XS.goto X69.here hx rfl (pc0 := 275) (pc' := 279) rfl (hb hby at_275) (by decide) (by decide) kq) ?_
          show own_G p e below _ (T69.setTop (mkF m 279 #[.val (.int p0), .val (.int p1), .val (.int p2), .val (.int (0 : Int32)), .val (.ref rl), .val (.int (1 : Int32)), .val (.int (1 : Int32)), .val (.int u0), .val (.int u1), .val (.int r0), .val (.int r1), .val (.ref b53), .val (.ref b55), .val (.ref b57), .val (.ref b60), .val (.int (0 : Int32)), .val (.int (1 : Int32))] [(.int (1 : Int32))]))
          obtain ⟨fs, hr, hrun, hended, hRW⟩ := X69.leaveW S62 (by rw [sm69]; exact (own_le (by omega))) (v := some (.int (1 : Int32))) (fun h => by rw [Bd.returns] at h; cases h)
          have cE := C62.trans (CHv.at (s := s) (vm0 := T62.vm) X69 Z62 hEL C62.1)
          refine ⟨_, _, retN X69 hx (t := .boolean) Bd.returns (by simp) (hb hby at_279) hr, hrun, hended, _, _, rfl, ?_, ?_, own_RW hRW (by decide) (by decide)⟩
          · change (fun (v : Option Value) (_ : Vm) (h : Heap) (L : List Loc) => v = some (.int (1 : Int32)) ∧ Fr n0 L) (some (.int (1 : Int32))) T69.vm T69.heap _; rw [sm69]; exact ⟨rfl, N69⟩
          · rw [hh]; change CHr Z consts_1 s.vm h0 T69.vm T69.heap; rw [sm69]; exact cE
    ·
      show own_G p e below _ (T.setTop (mkF m 119 #[.val (.int p0), .val (.int p1), .val (.int p2), .val (.int sm), .val (.ref rl), .val (.int (1 : Int32)), .val (.int (2 : Int32)), .val (.int u0), .val (.int u1), .val (.int r0), .val (.int r1), .unset, .unset, .unset, .unset, .unset, .unset] []))
      refine own_st (fun tq kq => XS.iload X0.here hx rfl (hb hby at_119) rfl  kq) ?_
      show own_G p e below _ (T.setTop (mkF m 121 #[.val (.int p0), .val (.int p1), .val (.int p2), .val (.int sm), .val (.ref rl), .val (.int (1 : Int32)), .val (.int (2 : Int32)), .val (.int u0), .val (.int u1), .val (.int r0), .val (.int r1), .unset, .unset, .unset, .unset, .unset, .unset] [(.int (1 : Int32))]))
      obtain ⟨T70, h70, k70, X70, e70, E70, A70, st70⟩ := newP X0 hx hZ (hw _ (List.mem_of_getElem? (i := 3) rfl)) e0 (g := (mkF m 121 #[.val (.int p0), .val (.int p1), .val (.int p2), .val (.int sm), .val (.ref rl), .val (.int (1 : Int32)), .val (.int (2 : Int32)), .val (.int u0), .val (.int u1), .val (.int r0), .val (.int r1), .unset, .unset, .unset, .unset, .unset, .unset] [(.int (1 : Int32))])) rfl (hb hby at_121) rfl (by decide) (cap := 1) (by decide) (by decide) (by decide) (by decide)
      obtain ⟨b70, g70⟩ : ∃ z, z = h0.size := ⟨_, rfl⟩
      rw [← g70] at A70 st70
      have lt70 : b70 < h70.size := A70.lt
      have V70 : Arv Z h70 b70 k70 .char (1 : Int32) [(.int (0 : Int32))] (.int (0 : Int32)) := (Arv.new A70 (by decide)).pad (pad_rep [] (.int (0 : Int32)) 1)
      have sz70 : h0.size ≤ h70.size := E70.1
      have K70 : Keep h0 h70 [] := K0.ext E70
      have c70 : CHr Z consts_1 s.vm h0 s.vm h70 := CHr.ext E70 C0.1
      have C70 := C0.trans c70
      refine own_st st70 ?_
      show own_G p e below _ (T70.setTop (mkF m 123 #[.val (.int p0), .val (.int p1), .val (.int p2), .val (.int sm), .val (.ref rl), .val (.int (1 : Int32)), .val (.int (2 : Int32)), .val (.int u0), .val (.int u1), .val (.int r0), .val (.int r1), .unset, .unset, .unset, .unset, .unset, .unset] [(.ref b70)]))
      refine own_st (fun tq kq => XS.astore X70.here hx rfl (hb hby at_123) rfl rfl (l' := #[.val (.int p0), .val (.int p1), .val (.int p2), .val (.int sm), .val (.ref rl), .val (.int (1 : Int32)), .val (.int (2 : Int32)), .val (.int u0), .val (.int u1), .val (.int r0), .val (.int r1), .val (.ref b70), .unset, .unset, .unset, .unset, .unset]) rfl kq) ?_
      refine own_st (fun tq kq => XS.iload X70.here hx rfl (hb hby at_125) rfl  kq) ?_
      show own_G p e below _ (T70.setTop (mkF m 127 #[.val (.int p0), .val (.int p1), .val (.int p2), .val (.int sm), .val (.ref rl), .val (.int (1 : Int32)), .val (.int (2 : Int32)), .val (.int u0), .val (.int u1), .val (.int r0), .val (.int r1), .val (.ref b70), .unset, .unset, .unset, .unset, .unset] [(.int (1 : Int32))]))
      refine own_st (fun tq kq => XS.ifNo X70.here hx rfl (hb hby at_127) rfl ((if0 _ _).trans (tlt (by decide : ((0 : Int32) < (1 : Int32)))).2.2.2) kq) ?_
      refine own_st (fun tq kq => XS.aload X70.here hx rfl (hb hby at_130) rfl rfl kq) ?_
      refine own_st (fun tq kq => XS.iconst X70.here hx rfl (hb hby at_132) kq) ?_
      refine own_st (fun tq kq => XS.iload X70.here hx rfl (hb hby at_133) rfl  kq) ?_
      show own_G p e below _ (T70.setTop (mkF m 135 #[.val (.int p0), .val (.int p1), .val (.int p2), .val (.int sm), .val (.ref rl), .val (.int (1 : Int32)), .val (.int (2 : Int32)), .val (.int u0), .val (.int u1), .val (.int r0), .val (.int r1), .val (.ref b70), .unset, .unset, .unset, .unset, .unset] [(.int u0), (.int (0 : Int32)), (.ref b70)]))
      obtain ⟨cl71, Ar71, q71, S_71, N_71, H_71, G_71⟩ := id V70
      have in71 : ¬ ((0 : Int32) < 0 ∨ cl71.slots.size ≤ ((0 : Int32)).toNatClampNeg) := inb_of S_71 ⟨by decide, by decide⟩
      obtain ⟨T71, h71, X71, e71, W71, st71⟩ := stC X70 hx hZ e70 Ar71 (j := (0 : Int32)) in71 (g := (mkF m 135 #[.val (.int p0), .val (.int p1), .val (.int p2), .val (.int sm), .val (.ref rl), .val (.int (1 : Int32)), .val (.int (2 : Int32)), .val (.int u0), .val (.int u1), .val (.int r0), .val (.int r1), .val (.ref b70), .unset, .unset, .unset, .unset, .unset] [(.int u0), (.int (0 : Int32)), (.ref b70)])) rfl rfl (hb hby at_135)
      have V71 := Arv.set Ar71 q71 S_71 N_71 H_71 G_71 (fits_nar_char _) W71 0 rfl (Nat.le_of_ble_eq_true rfl)
      have sz71 : h70.size ≤ h71.size := (Keep.of_wr W71).1
      have K71 : Keep h0 h71 [] := K70.wr W71 (Or.inr (own_le (by omega)))
      have c71 : CHr Z consts_1 s.vm h70 s.vm h71 := CHr.wr W71 (Safe.arr hZ.alike Ar71 (by decide)) C70.1
      have C71 := C70.trans c71
      have N71 := Fr.snoc X71 N0 (own_le (by omega))
      refine own_st st71 ?_
      show own_G p e below _ (T71.setTop (mkF m 136 #[.val (.int p0), .val (.int p1), .val (.int p2), .val (.int sm), .val (.ref rl), .val (.int (1 : Int32)), .val (.int (2 : Int32)), .val (.int u0), .val (.int u1), .val (.int r0), .val (.int r1), .val (.ref b70), .unset, .unset, .unset, .unset, .unset] []))
      refine own_st (fun tq kq => XS.iload X71.here hx rfl (hb hby at_136) rfl  kq) ?_
      refine own_st (fun tq kq => XS.iconst X71.here hx rfl (hb hby at_138) kq) ?_
      show own_G p e below _ (T71.setTop (mkF m 139 #[.val (.int p0), .val (.int p1), .val (.int p2), .val (.int sm), .val (.ref rl), .val (.int (1 : Int32)), .val (.int (2 : Int32)), .val (.int u0), .val (.int u1), .val (.int r0), .val (.int r1), .val (.ref b70), .unset, .unset, .unset, .unset, .unset] [(.int (1 : Int32)), (.int (1 : Int32))]))
      refine own_st (fun tq kq => XS.icmpYes X71.here hx rfl (pc0 := 139) (pc' := 148) rfl (hb hby at_139) rfl (flt (by decide : ¬ ((1 : Int32) < (1 : Int32)))).2.2.2 (by decide) (by decide) kq) ?_
      refine own_st (fun tq kq => XS.iload X71.here hx rfl (hb hby at_148) rfl  kq) ?_
      show own_G p e below _ (T71.setTop (mkF m 150 #[.val (.int p0), .val (.int p1), .val (.int p2), .val (.int sm), .val (.ref rl), .val (.int (1 : Int32)), .val (.int (2 : Int32)), .val (.int u0), .val (.int u1), .val (.int r0), .val (.int r1), .val (.ref b70), .unset, .unset, .unset, .unset, .unset] [(.int (2 : Int32))]))
      obtain ⟨T72, h72, k72, X72, e72, E72, A72, st72⟩ := newP X71 hx hZ (hw _ (List.mem_of_getElem? (i := 3) rfl)) e71 (g := (mkF m 150 #[.val (.int p0), .val (.int p1), .val (.int p2), .val (.int sm), .val (.ref rl), .val (.int (1 : Int32)), .val (.int (2 : Int32)), .val (.int u0), .val (.int u1), .val (.int r0), .val (.int r1), .val (.ref b70), .unset, .unset, .unset, .unset, .unset] [(.int (2 : Int32))])) rfl (hb hby at_150) rfl (by decide) (cap := 2) (by decide) (by decide) (by decide) (by decide)
      obtain ⟨b72, g72⟩ : ∃ z, z = h71.size := ⟨_, rfl⟩
      rw [← g72] at A72 st72
      have lt72 : b72 < h72.size := A72.lt
      have V72 : Arv Z h72 b72 k72 .char (2 : Int32) [(.int (0 : Int32)), (.int (0 : Int32))] (.int (0 : Int32)) := (Arv.new A72 (by decide)).pad (pad_rep [] (.int (0 : Int32)) 2)
      have sz72 : h71.size ≤ h72.size := E72.1
      have K72 : Keep h0 h72 [] := K71.ext E72
      have c72 : CHr Z consts_1 s.vm h71 s.vm h72 := CHr.ext E72 C71.1
      have C72 := C71.trans c72
      refine own_st st72 ?_
      show own_G p e below _ (T72.setTop (mkF m 152 #[.val (.int p0), .val (.int p1), .val (.int p2), .val (.int sm), .val (.ref rl), .val (.int (1 : Int32)), .val (.int (2 : Int32)), .val (.int u0), .val (.int u1), .val (.int r0), .val (.int r1), .val (.ref b70), .unset, .unset, .unset, .unset, .unset] [(.ref b72)]))
      refine own_st (fun tq kq => XS.astore X72.here hx rfl (hb hby at_152) rfl rfl (l' := #[.val (.int p0), .val (.int p1), .val (.int p2), .val (.int sm), .val (.ref rl), .val (.int (1 : Int32)), .val (.int (2 : Int32)), .val (.int u0), .val (.int u1), .val (.int r0), .val (.int r1), .val (.ref b70), .val (.ref b72), .unset, .unset, .unset, .unset]) rfl kq) ?_
      refine own_st (fun tq kq => XS.iload X72.here hx rfl (hb hby at_154) rfl  kq) ?_
      show own_G p e below _ (T72.setTop (mkF m 156 #[.val (.int p0), .val (.int p1), .val (.int p2), .val (.int sm), .val (.ref rl), .val (.int (1 : Int32)), .val (.int (2 : Int32)), .val (.int u0), .val (.int u1), .val (.int r0), .val (.int r1), .val (.ref b70), .val (.ref b72), .unset, .unset, .unset, .unset] [(.int (2 : Int32))]))
      refine own_st (fun tq kq => XS.ifNo X72.here hx rfl (hb hby at_156) rfl ((if0 _ _).trans (tlt (by decide : ((0 : Int32) < (2 : Int32)))).2.2.2) kq) ?_
      refine own_st (fun tq kq => XS.aload X72.here hx rfl (hb hby at_159) rfl rfl kq) ?_
      refine own_st (fun tq kq => XS.iconst X72.here hx rfl (hb hby at_161) kq) ?_
      refine own_st (fun tq kq => XS.iload X72.here hx rfl (hb hby at_162) rfl  kq) ?_
      show own_G p e below _ (T72.setTop (mkF m 164 #[.val (.int p0), .val (.int p1), .val (.int p2), .val (.int sm), .val (.ref rl), .val (.int (1 : Int32)), .val (.int (2 : Int32)), .val (.int u0), .val (.int u1), .val (.int r0), .val (.int r1), .val (.ref b70), .val (.ref b72), .unset, .unset, .unset, .unset] [(.int r0), (.int (0 : Int32)), (.ref b72)]))
      obtain ⟨cl73, Ar73, q73, S_73, N_73, H_73, G_73⟩ := id V72
      have in73 : ¬ ((0 : Int32) < 0 ∨ cl73.slots.size ≤ ((0 : Int32)).toNatClampNeg) := inb_of S_73 ⟨by decide, by decide⟩
      obtain ⟨T73, h73, X73, e73, W73, st73⟩ := stC X72 hx hZ e72 Ar73 (j := (0 : Int32)) in73 (g := (mkF m 164 #[.val (.int p0), .val (.int p1), .val (.int p2), .val (.int sm), .val (.ref rl), .val (.int (1 : Int32)), .val (.int (2 : Int32)), .val (.int u0), .val (.int u1), .val (.int r0), .val (.int r1), .val (.ref b70), .val (.ref b72), .unset, .unset, .unset, .unset] [(.int r0), (.int (0 : Int32)), (.ref b72)])) rfl rfl (hb hby at_164)
      have V73 := Arv.set Ar73 q73 S_73 N_73 H_73 G_73 (fits_nar_char _) W73 0 rfl (Nat.le_of_ble_eq_true rfl)
      have sz73 : h72.size ≤ h73.size := (Keep.of_wr W73).1
      have K73 : Keep h0 h73 [] := K72.wr W73 (Or.inr (own_le (by omega)))
      have c73 : CHr Z consts_1 s.vm h72 s.vm h73 := CHr.wr W73 (Safe.arr hZ.alike Ar73 (by decide)) C72.1
      have C73 := C72.trans c73
      have N73 := Fr.snoc X73 N71 (own_le (by omega))
      refine own_st st73 ?_
      show own_G p e below _ (T73.setTop (mkF m 165 #[.val (.int p0), .val (.int p1), .val (.int p2), .val (.int sm), .val (.ref rl), .val (.int (1 : Int32)), .val (.int (2 : Int32)), .val (.int u0), .val (.int u1), .val (.int r0), .val (.int r1), .val (.ref b70), .val (.ref b72), .unset, .unset, .unset, .unset] []))
      refine own_st (fun tq kq => XS.iload X73.here hx rfl (hb hby at_165) rfl  kq) ?_
      refine own_st (fun tq kq => XS.iconst X73.here hx rfl (hb hby at_167) kq) ?_
      show own_G p e below _ (T73.setTop (mkF m 168 #[.val (.int p0), .val (.int p1), .val (.int p2), .val (.int sm), .val (.ref rl), .val (.int (1 : Int32)), .val (.int (2 : Int32)), .val (.int u0), .val (.int u1), .val (.int r0), .val (.int r1), .val (.ref b70), .val (.ref b72), .unset, .unset, .unset, .unset] [(.int (1 : Int32)), (.int (2 : Int32))]))
      refine own_st (fun tq kq => XS.icmpNo X73.here hx rfl (hb hby at_168) rfl (tlt (by decide : ((1 : Int32) < (2 : Int32)))).2.2.2 kq) ?_
      refine own_st (fun tq kq => XS.aload X73.here hx rfl (hb hby at_171) rfl rfl kq) ?_
      refine own_st (fun tq kq => XS.iconst X73.here hx rfl (hb hby at_173) kq) ?_
      refine own_st (fun tq kq => XS.iload X73.here hx rfl (hb hby at_174) rfl  kq) ?_
      show own_G p e below _ (T73.setTop (mkF m 176 #[.val (.int p0), .val (.int p1), .val (.int p2), .val (.int sm), .val (.ref rl), .val (.int (1 : Int32)), .val (.int (2 : Int32)), .val (.int u0), .val (.int u1), .val (.int r0), .val (.int r1), .val (.ref b70), .val (.ref b72), .unset, .unset, .unset, .unset] [(.int r1), (.int (1 : Int32)), (.ref b72)]))
      obtain ⟨cl74, Ar74, q74, S_74, N_74, H_74, G_74⟩ := id V73
      have in74 : ¬ ((1 : Int32) < 0 ∨ cl74.slots.size ≤ ((1 : Int32)).toNatClampNeg) := inb_of S_74 ⟨by decide, by decide⟩
      obtain ⟨T74, h74, X74, e74, W74, st74⟩ := stC X73 hx hZ e73 Ar74 (j := (1 : Int32)) in74 (g := (mkF m 176 #[.val (.int p0), .val (.int p1), .val (.int p2), .val (.int sm), .val (.ref rl), .val (.int (1 : Int32)), .val (.int (2 : Int32)), .val (.int u0), .val (.int u1), .val (.int r0), .val (.int r1), .val (.ref b70), .val (.ref b72), .unset, .unset, .unset, .unset] [(.int r1), (.int (1 : Int32)), (.ref b72)])) rfl rfl (hb hby at_176)
      have V74 := Arv.set Ar74 q74 S_74 N_74 H_74 G_74 (fits_nar_char _) W74 1 rfl (Nat.le_of_ble_eq_true rfl)
      have sz74 : h73.size ≤ h74.size := (Keep.of_wr W74).1
      have K74 : Keep h0 h74 [] := K73.wr W74 (Or.inr (own_le (by omega)))
      have c74 : CHr Z consts_1 s.vm h73 s.vm h74 := CHr.wr W74 (Safe.arr hZ.alike Ar74 (by decide)) C73.1
      have C74 := C73.trans c74
      have N74 := Fr.snoc X74 N73 (own_le (by omega))
      refine own_st st74 ?_
      show own_G p e below _ (T74.setTop (mkF m 177 #[.val (.int p0), .val (.int p1), .val (.int p2), .val (.int sm), .val (.ref rl), .val (.int (1 : Int32)), .val (.int (2 : Int32)), .val (.int u0), .val (.int u1), .val (.int r0), .val (.int r1), .val (.ref b70), .val (.ref b72), .unset, .unset, .unset, .unset] []))
      obtain ⟨T75, h75, X75, e75, E75, A75, D75, -, st75⟩ := newO X74 hx hZ hown (hw _ (List.mem_of_getElem? (i := 4) rfl)) (hw _ (List.mem_of_getElem? (i := 5) rfl)) (hw _ (List.mem_of_getElem? (i := 6) rfl)) e74 (g := (mkF m 177 #[.val (.int p0), .val (.int p1), .val (.int p2), .val (.int sm), .val (.ref rl), .val (.int (1 : Int32)), .val (.int (2 : Int32)), .val (.int u0), .val (.int u1), .val (.int r0), .val (.int r1), .val (.ref b70), .val (.ref b72), .unset, .unset, .unset, .unset] [])) rfl (hb hby at_177) (by decide) (by decide)
      obtain ⟨b75, g75⟩ : ∃ z, z = h74.size := ⟨_, rfl⟩
      rw [← g75] at A75 D75 st75
      have lt75 : b75 < h75.size := A75.lt
      have Sn75 : Safe Z consts_1 s.vm h74 b75 := Safe.new (own_le (by omega))
      have sz75 : h74.size ≤ h75.size := E75.1
      have K75 : Keep h0 h75 [] := K74.ext E75
      have c75 : CHr Z consts_1 s.vm h74 s.vm h75 := CHr.ext E75 C74.1
      have C75 := C74.trans c75
      have Sf75 : Safe Z consts_1 s.vm h75 b75 := Safe.ext E75 C74.1 Sn75
      have F75_coder : Fld Z h75 b75 "java/lang/String" "coder" "B" (.int (0 : Int32)) := D75 (Or.inr (hw _ (List.mem_of_getElem? (i := 30) rfl))) (ty := .byte) (by decide)
      have F75_value : Fld Z h75 b75 "java/lang/String" "value" "[B" .null := D75 (Or.inr (hw _ (List.mem_of_getElem? (i := 32) rfl))) (ty := (.array .byte)) (by decide)
      refine own_st st75 ?_
      show own_G p e below _ (T75.setTop (mkF m 180 #[.val (.int p0), .val (.int p1), .val (.int p2), .val (.int sm), .val (.ref rl), .val (.int (1 : Int32)), .val (.int (2 : Int32)), .val (.int u0), .val (.int u1), .val (.int r0), .val (.int r1), .val (.ref b70), .val (.ref b72), .unset, .unset, .unset, .unset] [(.ref b75)]))
      refine own_st (fun tq kq => XS.dup X75.here hx rfl (hb hby at_180) rfl rfl kq) ?_
      refine own_st (fun tq kq => XS.aload X75.here hx rfl (hb hby at_181) rfl rfl kq) ?_
      show own_G p e below _ (T75.setTop (mkF m 183 #[.val (.int p0), .val (.int p1), .val (.int p2), .val (.int sm), .val (.ref rl), .val (.int (1 : Int32)), .val (.int (2 : Int32)), .val (.int u0), .val (.int u1), .val (.int r0), .val (.int r1), .val (.ref b70), .val (.ref b72), .unset, .unset, .unset, .unset] [(.ref b70), (.ref b75), (.ref b75)]))
      have hp76 : ∀ c ∈ ([(nar .char u0)] : List Int32), ¬ c < 0 ∧ ¬ (255 : Int32) < c := by
        intro c hc
        simp only [List.mem_cons, List.not_mem_nil, or_false] at hc
        rcases hc with rfl
        · assumption
      obtain ⟨_, _, ⟨T76, L76, k76, n76⟩, -, Y76, S76p, gr76, ⟨Lc76, hQ76, l76, y76, z76, c76⟩, st76⟩ := X75.specialBackS hx (y := (⟨"java/lang/String", "<init>", "([C)V"⟩ : MethodName)) rfl hown (mvT hZ (hw _ (List.mem_of_getElem? (i := 7) rfl))) (mvT hZ (hw _ (List.mem_of_getElem? (i := 8) rfl))) (mvT hZ (hw _ (List.mem_of_getElem? (i := 9) rfl))) (by decide) (own_newStr (s := s) (vm0 := s.vm) (W := 1) hZ hw hEL C75.1 (cs := ([(nar .char u0)] : List Int32)) (n := 1) (n0 := n0) Sf75 (by omega) (X00.keep K75 all0) A75 F75_value F75_coder ((((V71.ext E72).other W73 (own_ne (by omega))).other W74 (own_ne (by omega))).ext E75) O2 P5 rfl rfl (by decide) hp76 (by decide) (by decide)) (g := (mkF m 183 #[.val (.int p0), .val (.int p1), .val (.int p2), .val (.int sm), .val (.ref rl), .val (.int (1 : Int32)), .val (.int (2 : Int32)), .val (.int u0), .val (.int u1), .val (.int r0), .val (.int r1), .val (.ref b70), .val (.ref b72), .unset, .unset, .unset, .unset] [(.ref b70), (.ref b75), (.ref b75)])) rfl (by rw [hml]; rfl) (Steps.refl _) (a := b75) (argsL := [(.ref b70)]) (rest := [(.ref b75)]) (lenOf own_pd2 rfl) rfl (by show 2 * 0 + _ ≤ _; exact Nat.le_of_eq rfl) (hb hby at_183) (fun _ _ => ⟨rfl, e75, (by decide : 3 + 2 ≤ _), (by decide : 7 + 5 ≤ _)⟩)
      dsimp only [Pt.U, Pt.locs, Pt.cells, Pt.slots] at Y76 S76p gr76 l76 y76 z76 st76 hQ76 c76
      subst l76 y76 z76
      obtain ⟨X76, S76, Z76, o76⟩ := rebS S0 (by rw [e75]; exact (own_le (by omega))) Y76 S76p gr76 hZ hown
      obtain ⟨rfl, Nq76, Kq76, Str76⟩ := hQ76
      have KK76 : Keep h75 T76.heap [b75] := Kq76
      have sz76 : h75.size ≤ T76.heap.size := KK76.1
      have K76 : Keep h0 T76.heap [] := K75.trans KK76 (allS (Or.inr (own_le (by omega))) all0)
      have C76 := C75.trans c76
      have Sf76_77 := c76.safe (own_lt (by omega)) Sf75
      have N76 := Fr.app N74 Nq76
      refine own_st (fun tq kq => st76.trans kq) ?_
      show own_G p e below _ (T76.setTop (mkF m 186 #[.val (.int p0), .val (.int p1), .val (.int p2), .val (.int sm), .val (.ref rl), .val (.int (1 : Int32)), .val (.int (2 : Int32)), .val (.int u0), .val (.int u1), .val (.int r0), .val (.int r1), .val (.ref b70), .val (.ref b72), .unset, .unset, .unset, .unset] [(.ref b75)]))
      refine own_st (fun tq kq => XS.astore X76.here hx rfl (hb hby at_186) rfl rfl (l' := #[.val (.int p0), .val (.int p1), .val (.int p2), .val (.int sm), .val (.ref rl), .val (.int (1 : Int32)), .val (.int (2 : Int32)), .val (.int u0), .val (.int u1), .val (.int r0), .val (.int r1), .val (.ref b70), .val (.ref b72), .val (.ref b75), .unset, .unset, .unset]) rfl kq) ?_
      show own_G p e below _ (T76.setTop (mkF m 188 #[.val (.int p0), .val (.int p1), .val (.int p2), .val (.int sm), .val (.ref rl), .val (.int (1 : Int32)), .val (.int (2 : Int32)), .val (.int u0), .val (.int u1), .val (.int r0), .val (.int r1), .val (.ref b70), .val (.ref b72), .val (.ref b75), .unset, .unset, .unset] []))
      obtain ⟨T78, h78, X78, e78, E78, A78, D78, -, st78⟩ := newO X76 hx Z76 o76 (hw _ (List.mem_of_getElem? (i := 4) rfl)) (hw _ (List.mem_of_getElem? (i := 5) rfl)) (hw _ (List.mem_of_getElem? (i := 6) rfl)) rfl (g := (mkF m 188 #[.val (.int p0), .val (.int p1), .val (.int p2), .val (.int sm), .val (.ref rl), .val (.int (1 : Int32)), .val (.int (2 : Int32)), .val (.int u0), .val (.int u1), .val (.int r0), .val (.int r1), .val (.ref b70), .val (.ref b72), .val (.ref b75), .unset, .unset, .unset] [])) rfl (hb hby at_188) (by decide) (by decide)
      obtain ⟨b78, g78⟩ : ∃ z, z = T76.heap.size := ⟨_, rfl⟩
      rw [← g78] at A78 D78 st78
      have lt78 : b78 < h78.size := A78.lt
      have Sn78 : Safe Z consts_1 T76.vm T76.heap b78 := Safe.new (own_le (by omega))
      have sz78 : T76.heap.size ≤ h78.size := E78.1
      have K78 : Keep h0 h78 [] := K76.ext E78
      have c78 : CHr Z consts_1 T76.vm T76.heap T76.vm h78 := CHr.ext E78 C76.1
      have C78 := C76.trans c78
      have Sf78_79 := c78.safe (own_lt (by omega)) Sf76_77
      have Sf78 : Safe Z consts_1 T76.vm h78 b78 := Safe.ext E78 C76.1 Sn78
      have F78_coder : Fld Z h78 b78 "java/lang/String" "coder" "B" (.int (0 : Int32)) := D78 (Or.inr (hw _ (List.mem_of_getElem? (i := 30) rfl))) (ty := .byte) (by decide)
      have F78_value : Fld Z h78 b78 "java/lang/String" "value" "[B" .null := D78 (Or.inr (hw _ (List.mem_of_getElem? (i := 32) rfl))) (ty := (.array .byte)) (by decide)
      refine own_st st78 ?_
      show own_G p e below _ (T78.setTop (mkF m 191 #[.val (.int p0), .val (.int p1), .val (.int p2), .val (.int sm), .val (.ref rl), .val (.int (1 : Int32)), .val (.int (2 : Int32)), .val (.int u0), .val (.int u1), .val (.int r0), .val (.int r1), .val (.ref b70), .val (.ref b72), .val (.ref b75), .unset, .unset, .unset] [(.ref b78)]))
      refine own_st (fun tq kq => XS.dup X78.here hx rfl (hb hby at_191) rfl rfl kq) ?_
      refine own_st (fun tq kq => XS.aload X78.here hx rfl (hb hby at_192) rfl rfl kq) ?_
      show own_G p e below _ (T78.setTop (mkF m 194 #[.val (.int p0), .val (.int p1), .val (.int p2), .val (.int sm), .val (.ref rl), .val (.int (1 : Int32)), .val (.int (2 : Int32)), .val (.int u0), .val (.int u1), .val (.int r0), .val (.int r1), .val (.ref b70), .val (.ref b72), .val (.ref b75), .unset, .unset, .unset] [(.ref b72), (.ref b78), (.ref b78)]))
      have hp80 : ∀ c ∈ ([(nar .char r0), (nar .char r1)] : List Int32), ¬ c < 0 ∧ ¬ (255 : Int32) < c := by
        intro c hc
        simp only [List.mem_cons, List.not_mem_nil, or_false] at hc
        rcases hc with rfl | rfl
        · assumption
        · assumption
      obtain ⟨_, _, ⟨T80, L80, k80, n80⟩, -, Y80, S80p, gr80, ⟨Lc80, hQ80, l80, y80, z80, c80⟩, st80⟩ := X78.specialBackS hx (y := (⟨"java/lang/String", "<init>", "([C)V"⟩ : MethodName)) rfl o76 (mvT Z76 (hw _ (List.mem_of_getElem? (i := 7) rfl))) (mvT Z76 (hw _ (List.mem_of_getElem? (i := 8) rfl))) (mvT Z76 (hw _ (List.mem_of_getElem? (i := 9) rfl))) (by decide) (own_newStr (s := s) (vm0 := T76.vm) (W := 1) Z76 hw hEL C78.1 (cs := ([(nar .char r0), (nar .char r1)] : List Int32)) (n := 2) (n0 := n0) Sf78 (by omega) (X00.keep K78 all0) A78 F78_value F78_coder (((V74.ext E75).keep KK76 (ninS (own_ne (by omega)) nin0)).ext E78) O2 P5 rfl rfl (by decide) hp80 (by decide) (by decide)) (g := (mkF m 194 #[.val (.int p0), .val (.int p1), .val (.int p2), .val (.int sm), .val (.ref rl), .val (.int (1 : Int32)), .val (.int (2 : Int32)), .val (.int u0), .val (.int u1), .val (.int r0), .val (.int r1), .val (.ref b70), .val (.ref b72), .val (.ref b75), .unset, .unset, .unset] [(.ref b72), (.ref b78), (.ref b78)])) rfl (by rw [hml]; rfl) (Steps.refl _) (a := b78) (argsL := [(.ref b72)]) (rest := [(.ref b78)]) (lenOf own_pd2 rfl) rfl (by show 2 * 0 + _ ≤ _; exact Nat.le_of_eq rfl) (hb hby at_194) (fun _ _ => ⟨rfl, e78, (by decide : 6 + 2 ≤ _), (by decide : 16 + 6 ≤ _)⟩)
      dsimp only [Pt.U, Pt.locs, Pt.cells, Pt.slots] at Y80 S80p gr80 l80 y80 z80 st80 hQ80 c80
      subst l80 y80 z80
      obtain ⟨X80, S80, Z80, o80⟩ := rebS S76 (by rw [e78]; exact (own_le (by omega))) Y80 S80p gr80 Z76 o76
      obtain ⟨rfl, Nq80, Kq80, Str80⟩ := hQ80
      have KK80 : Keep h78 T80.heap [b78] := Kq80
      have sz80 : h78.size ≤ T80.heap.size := KK80.1
      have K80 : Keep h0 T80.heap [] := K78.trans KK80 (allS (Or.inr (own_le (by omega))) all0)
      have C80 := C78.trans c80
      have Sf80_81 := c80.safe (own_lt (by omega)) Sf78_79
      have Sf80_82 := c80.safe (own_lt (by omega)) Sf78
      have N80 := Fr.app N76 Nq80
      refine own_st (fun tq kq => st80.trans kq) ?_
      show own_G p e below _ (T80.setTop (mkF m 197 #[.val (.int p0), .val (.int p1), .val (.int p2), .val (.int sm), .val (.ref rl), .val (.int (1 : Int32)), .val (.int (2 : Int32)), .val (.int u0), .val (.int u1), .val (.int r0), .val (.int r1), .val (.ref b70), .val (.ref b72), .val (.ref b75), .unset, .unset, .unset] [(.ref b78)]))
      refine own_st (fun tq kq => XS.astore X80.here hx rfl (hb hby at_197) rfl rfl (l' := #[.val (.int p0), .val (.int p1), .val (.int p2), .val (.int sm), .val (.ref rl), .val (.int (1 : Int32)), .val (.int (2 : Int32)), .val (.int u0), .val (.int u1), .val (.int r0), .val (.int r1), .val (.ref b70), .val (.ref b72), .val (.ref b75), .val (.ref b78), .unset, .unset]) rfl kq) ?_
      refine own_st (fun tq kq => XS.iload X80.here hx rfl (hb hby at_199) rfl  kq) ?_
      refine own_st (fun tq kq => XS.iload X80.here hx rfl (hb hby at_201) rfl  kq) ?_
      show own_G p e below _ (T80.setTop (mkF m 203 #[.val (.int p0), .val (.int p1), .val (.int p2), .val (.int sm), .val (.ref rl), .val (.int (1 : Int32)), .val (.int (2 : Int32)), .val (.int u0), .val (.int u1), .val (.int r0), .val (.int r1), .val (.ref b70), .val (.ref b72), .val (.ref b75), .val (.ref b78), .unset, .unset] [(.int (2 : Int32)), (.int (1 : Int32))]))
      refine own_st (fun tq kq => XS.icmpYes X80.here hx rfl (pc0 := 203) (pc' := 236) rfl (hb hby at_203) rfl (feq (by decide : ¬ ((1 : Int32) = (2 : Int32)))).2 (by decide) (by decide) kq) ?_
      refine own_st (fun tq kq => XS.iconst X80.here hx rfl (hb hby at_236) kq) ?_
      refine own_st (fun tq kq => XS.istore X80.here hx rfl (hb hby at_237) rfl (l' := #[.val (.int p0), .val (.int p1), .val (.int p2), .val (.int sm), .val (.ref rl), .val (.int (1 : Int32)), .val (.int (2 : Int32)), .val (.int u0), .val (.int u1), .val (.int r0), .val (.int r1), .val (.ref b70), .val (.ref b72), .val (.ref b75), .val (.ref b78), .val (.int (0 : Int32)), .unset]) rfl kq) ?_
      show own_G p e below _ (T80.setTop (mkF m 239 #[.val (.int p0), .val (.int p1), .val (.int p2), .val (.int sm), .val (.ref rl), .val (.int (1 : Int32)), .val (.int (2 : Int32)), .val (.int u0), .val (.int u1), .val (.int r0), .val (.int r1), .val (.ref b70), .val (.ref b72), .val (.ref b75), .val (.ref b78), .val (.int (0 : Int32)), .unset] []))
      rcases hsm with rfl | rfl
      ·
        show own_G p e below _ (T80.setTop (mkF m 239 #[.val (.int p0), .val (.int p1), .val (.int p2), .val (.int (1 : Int32)), .val (.ref rl), .val (.int (1 : Int32)), .val (.int (2 : Int32)), .val (.int u0), .val (.int u1), .val (.int r0), .val (.int r1), .val (.ref b70), .val (.ref b72), .val (.ref b75), .val (.ref b78), .val (.int (0 : Int32)), .unset] []))
        refine own_st (fun tq kq => XS.iloadN X80.here hx rfl (hb hby at_239) rfl  kq) ?_
        show own_G p e below _ (T80.setTop (mkF m 240 #[.val (.int p0), .val (.int p1), .val (.int p2), .val (.int (1 : Int32)), .val (.ref rl), .val (.int (1 : Int32)), .val (.int (2 : Int32)), .val (.int u0), .val (.int u1), .val (.int r0), .val (.int r1), .val (.ref b70), .val (.ref b72), .val (.ref b75), .val (.ref b78), .val (.int (0 : Int32)), .unset] [(.int (1 : Int32))]))
        refine own_st (fun tq kq => XS.ifNo X80.here hx rfl (hb hby at_240) rfl ((if0 _ _).trans (feq (by decide : ¬ ((1 : Int32) = (0 : Int32)))).1) kq) ?_
        refine own_st (fun tq kq => XS.iload X80.here hx rfl (hb hby at_243) rfl  kq) ?_
        refine own_st (fun tq kq => XS.goto X80.here hx rfl (pc0 := 245) (pc' := 258) rfl (hb hby at_245) (by decide) (by decide) kq) ?_
        refine own_st (fun tq kq => XS.istore X80.here hx rfl (hb hby at_258) rfl (l' := #[.val (.int p0), .val (.int p1), .val (.int p2), .val (.int (1 : Int32)), .val (.ref rl), .val (.int (1 : Int32)), .val (.int (2 : Int32)), .val (.int u0), .val (.int u1), .val (.int r0), .val (.int r1), .val (.ref b70), .val (.ref b72), .val (.ref b75), .val (.ref b78), .val (.int (0 : Int32)), .val (.int (0 : Int32))]) rfl kq) ?_
        show own_G p e below _ (T80.setTop (mkF m 260 #[.val (.int p0), .val (.int p1), .val (.int p2), .val (.int (1 : Int32)), .val (.ref rl), .val (.int (1 : Int32)), .val (.int (2 : Int32)), .val (.int u0), .val (.int u1), .val (.int r0), .val (.int r1), .val (.ref b70), .val (.ref b72), .val (.ref b75), .val (.ref b78), .val (.int (0 : Int32)), .val (.int (0 : Int32))] []))
        refine own_st (fun tq kq => XS.aload X80.here hx rfl (hb hby at_260) rfl rfl kq) ?_
        refine own_st (fun tq kq => XS.aload X80.here hx rfl (hb hby at_262) rfl rfl kq) ?_
        refine own_st (fun tq kq => XS.aload X80.here hx rfl (hb hby at_264) rfl rfl kq) ?_
        show own_G p e below _ (T80.setTop (mkF m 266 #[.val (.int p0), .val (.int p1), .val (.int p2), .val (.int (1 : Int32)), .val (.ref rl), .val (.int (1 : Int32)), .val (.int (2 : Int32)), .val (.int u0), .val (.int u1), .val (.int r0), .val (.int r1), .val (.ref b70), .val (.ref b72), .val (.ref b75), .val (.ref b78), .val (.int (0 : Int32)), .val (.int (0 : Int32))] [(.ref b78), (.ref b75), (.ref rl)]))
        obtain ⟨cq83, kq83, q83a, q83b, q83c⟩ := isOf Z80 rfl ((((((((((Er.ext (X00.keep K0 all0).2).ext E70).wr W71).ext E72).wr W73).wr W74).ext E75).keep KK76).ext E78).keep KK80)
        obtain ⟨_, _, ⟨T83, L83, k83, n83⟩, -, X83, ⟨Lc83, hQ83, l83, y83, z83⟩, st83⟩ := X80.virtualBack hx (y := (⟨"com/example/veild/veild/policy/Constraint$Relation", "holds", "(Ljava/lang/String;Ljava/lang/String;)Z"⟩ : MethodName)) (z := (⟨"com/example/veild/veild/policy/Constraint$Relation", "holds", "(Ljava/lang/String;Ljava/lang/String;)Z"⟩ : MethodName)) o80 (mvT Z80 (hw _ (List.mem_of_getElem? (i := 36) rfl))) (mvT Z80 (hw _ (List.mem_of_getElem? (i := 37) rfl))) (notFace_of_selects (args := #[]) (mvT Z80 (hw _ (List.mem_of_getElem? (i := 39) rfl)))) (mvT Z80 (hw _ (List.mem_of_getElem? (i := 39) rfl))) (mvT Z80 (hw _ (List.mem_of_getElem? (i := 38) rfl))) (by decide) (own_backN (W := 0) (own_holds1 l Z a0 hw [] (rl) (b75) (b78) (([(nar .char u0)] : List Int32)) (([(nar .char r0), (nar .char r1)] : List Int32)) (T80.heap.size) (G1) T80.heap n0 (by omega) (X00.keep K80 all0) (Fr1.ext (X00.keep K80 all0).2) (own_Str.mono ((Str76.ext E78).keep KK80 (allS (own_le (by omega)) all0)) (by omega)) (own_Str.mono Str80 (by omega)) O2 P5) Z80 (hw _ (List.mem_of_getElem? (i := 40) rfl)) (hw _ (List.mem_of_getElem? (i := 1) rfl)) (by decide) (by decide)) q83a q83c (g := (mkF m 266 #[.val (.int p0), .val (.int p1), .val (.int p2), .val (.int (1 : Int32)), .val (.ref rl), .val (.int (1 : Int32)), .val (.int (2 : Int32)), .val (.int u0), .val (.int u1), .val (.int r0), .val (.int r1), .val (.ref b70), .val (.ref b72), .val (.ref b75), .val (.ref b78), .val (.int (0 : Int32)), .val (.int (0 : Int32))] [(.ref b78), (.ref b75), (.ref rl)])) rfl (by rw [hml]; rfl) (Steps.refl _) (argsL := [(.ref b75), (.ref b78)]) (rest := []) (lenOf own_pd3 rfl) rfl (by show 2 * 0 + _ ≤ _; exact Nat.le_of_eq rfl) (hb hby at_266) (fun _ _ => ⟨rfl, rfl, (by decide : 8 + 0 ≤ _), (by decide : 22 + 0 ≤ _)⟩)
        dsimp only [Pt.U, Pt.locs, Pt.cells, Pt.slots] at X83 l83 y83 z83 st83 hQ83
        subst l83 y83 z83
        obtain ⟨hr83, Nq83, sm83⟩ := hQ83
        obtain ⟨rfl, eq83⟩ := hr83.resolve_left (fun q => (by simp : ¬ _) q.2)
        have N83 := Fr.app N80 Nq83
        refine own_st (fun tq kq => st83.trans kq) ?_
        show own_G p e below _ (T83.setTop (mkF m 269 #[.val (.int p0), .val (.int p1), .val (.int p2), .val (.int (1 : Int32)), .val (.ref rl), .val (.int (1 : Int32)), .val (.int (2 : Int32)), .val (.int u0), .val (.int u1), .val (.int r0), .val (.int r1), .val (.ref b70), .val (.ref b72), .val (.ref b75), .val (.ref b78), .val (.int (0 : Int32)), .val (.int (0 : Int32))] [(.int (0 : Int32))]))
        refine own_st (fun tq kq => XS.iload X83.here hx rfl (hb hby at_269) rfl  kq) ?_
        show own_G p e below _ (T83.setTop (mkF m 271 #[.val (.int p0), .val (.int p1), .val (.int p2), .val (.int (1 : Int32)), .val (.ref rl), .val (.int (1 : Int32)), .val (.int (2 : Int32)), .val (.int u0), .val (.int u1), .val (.int r0), .val (.int r1), .val (.ref b70), .val (.ref b72), .val (.ref b75), .val (.ref b78), .val (.int (0 : Int32)), .val (.int (0 : Int32))] [(.int (0 : Int32)), (.int (0 : Int32))]))
        refine own_st (fun tq kq => XS.icmpNo X83.here hx rfl (hb hby at_271) rfl (teq (by decide : ((0 : Int32) = (0 : Int32)))).2 kq) ?_
        refine own_st (fun tq kq => XS.iconst X83.here hx rfl (hb hby at_274) kq) ?_
        refine own_st (fun tq kq => XS.goto X83.here hx rfl (pc0 := 275) (pc' := 279) rfl (hb hby at_275) (by decide) (by decide) kq) ?_
        show own_G p e below _ (T83.setTop (mkF m 279 #[.val (.int p0), .val (.int p1), .val (.int p2), .val (.int (1 : Int32)), .val (.ref rl), .val (.int (1 : Int32)), .val (.int (2 : Int32)), .val (.int u0), .val (.int u1), .val (.int r0), .val (.int r1), .val (.ref b70), .val (.ref b72), .val (.ref b75), .val (.ref b78), .val (.int (0 : Int32)), .val (.int (0 : Int32))] [(.int (1 : Int32))]))
        obtain ⟨fs, hr, hrun, hended, hRW⟩ := X83.leaveW S80 (by rw [sm83]; exact (own_le (by omega))) (v := some (.int (1 : Int32))) (fun h => by rw [Bd.returns] at h; cases h)
        have cE := C80.trans (CHv.at (s := s) (vm0 := T80.vm) X83 Z80 hEL C80.1)
        refine ⟨_, _, retN X83 hx (t := .boolean) Bd.returns (by simp) (hb hby at_279) hr, hrun, hended, _, _, rfl, ?_, ?_, own_RW hRW (by decide) (by decide)⟩
        · change (fun (v : Option Value) (_ : Vm) (h : Heap) (L : List Loc) => v = some (.int (1 : Int32)) ∧ Fr n0 L) (some (.int (1 : Int32))) T83.vm T83.heap _; rw [sm83]; exact ⟨rfl, N83⟩
        · rw [hh]; change CHr Z consts_1 s.vm h0 T83.vm T83.heap; rw [sm83]; exact cE
      ·
        show own_G p e below _ (T80.setTop (mkF m 239 #[.val (.int p0), .val (.int p1), .val (.int p2), .val (.int (0 : Int32)), .val (.ref rl), .val (.int (1 : Int32)), .val (.int (2 : Int32)), .val (.int u0), .val (.int u1), .val (.int r0), .val (.int r1), .val (.ref b70), .val (.ref b72), .val (.ref b75), .val (.ref b78), .val (.int (0 : Int32)), .unset] []))
        refine own_st (fun tq kq => XS.iloadN X80.here hx rfl (hb hby at_239) rfl  kq) ?_
        show own_G p e below _ (T80.setTop (mkF m 240 #[.val (.int p0), .val (.int p1), .val (.int p2), .val (.int (0 : Int32)), .val (.ref rl), .val (.int (1 : Int32)), .val (.int (2 : Int32)), .val (.int u0), .val (.int u1), .val (.int r0), .val (.int r1), .val (.ref b70), .val (.ref b72), .val (.ref b75), .val (.ref b78), .val (.int (0 : Int32)), .unset] [(.int (0 : Int32))]))
        refine own_st (fun tq kq => XS.ifYes X80.here hx rfl (pc0 := 240) (pc' := 248) rfl (hb hby at_240) rfl ((if0 _ _).trans (teq (by decide : ((0 : Int32) = (0 : Int32)))).1) (by decide) (by decide) kq) ?_
        refine own_st (fun tq kq => XS.iload X80.here hx rfl (hb hby at_248) rfl  kq) ?_
        show own_G p e below _ (T80.setTop (mkF m 250 #[.val (.int p0), .val (.int p1), .val (.int p2), .val (.int (0 : Int32)), .val (.ref rl), .val (.int (1 : Int32)), .val (.int (2 : Int32)), .val (.int u0), .val (.int u1), .val (.int r0), .val (.int r1), .val (.ref b70), .val (.ref b72), .val (.ref b75), .val (.ref b78), .val (.int (0 : Int32)), .unset] [(.int (0 : Int32))]))
        refine own_st (fun tq kq => XS.ifNo X80.here hx rfl (hb hby at_250) rfl ((if0 _ _).trans (teq (by decide : ((0 : Int32) = (0 : Int32)))).2) kq) ?_
        refine own_st (fun tq kq => XS.iconst X80.here hx rfl (hb hby at_253) kq) ?_
        refine own_st (fun tq kq => XS.goto X80.here hx rfl (pc0 := 254) (pc' := 258) rfl (hb hby at_254) (by decide) (by decide) kq) ?_
        refine own_st (fun tq kq => XS.istore X80.here hx rfl (hb hby at_258) rfl (l' := #[.val (.int p0), .val (.int p1), .val (.int p2), .val (.int (0 : Int32)), .val (.ref rl), .val (.int (1 : Int32)), .val (.int (2 : Int32)), .val (.int u0), .val (.int u1), .val (.int r0), .val (.int r1), .val (.ref b70), .val (.ref b72), .val (.ref b75), .val (.ref b78), .val (.int (0 : Int32)), .val (.int (1 : Int32))]) rfl kq) ?_
        show own_G p e below _ (T80.setTop (mkF m 260 #[.val (.int p0), .val (.int p1), .val (.int p2), .val (.int (0 : Int32)), .val (.ref rl), .val (.int (1 : Int32)), .val (.int (2 : Int32)), .val (.int u0), .val (.int u1), .val (.int r0), .val (.int r1), .val (.ref b70), .val (.ref b72), .val (.ref b75), .val (.ref b78), .val (.int (0 : Int32)), .val (.int (1 : Int32))] []))
        refine own_st (fun tq kq => XS.aload X80.here hx rfl (hb hby at_260) rfl rfl kq) ?_
        refine own_st (fun tq kq => XS.aload X80.here hx rfl (hb hby at_262) rfl rfl kq) ?_
        refine own_st (fun tq kq => XS.aload X80.here hx rfl (hb hby at_264) rfl rfl kq) ?_
        show own_G p e below _ (T80.setTop (mkF m 266 #[.val (.int p0), .val (.int p1), .val (.int p2), .val (.int (0 : Int32)), .val (.ref rl), .val (.int (1 : Int32)), .val (.int (2 : Int32)), .val (.int u0), .val (.int u1), .val (.int r0), .val (.int r1), .val (.ref b70), .val (.ref b72), .val (.ref b75), .val (.ref b78), .val (.int (0 : Int32)), .val (.int (1 : Int32))] [(.ref b78), (.ref b75), (.ref rl)]))
        obtain ⟨cq84, kq84, q84a, q84b, q84c⟩ := isOf Z80 rfl ((((((((((Er.ext (X00.keep K0 all0).2).ext E70).wr W71).ext E72).wr W73).wr W74).ext E75).keep KK76).ext E78).keep KK80)
        obtain ⟨_, _, ⟨T84, L84, k84, n84⟩, -, X84, ⟨Lc84, hQ84, l84, y84, z84⟩, st84⟩ := X80.virtualBack hx (y := (⟨"com/example/veild/veild/policy/Constraint$Relation", "holds", "(Ljava/lang/String;Ljava/lang/String;)Z"⟩ : MethodName)) (z := (⟨"com/example/veild/veild/policy/Constraint$Relation", "holds", "(Ljava/lang/String;Ljava/lang/String;)Z"⟩ : MethodName)) o80 (mvT Z80 (hw _ (List.mem_of_getElem? (i := 36) rfl))) (mvT Z80 (hw _ (List.mem_of_getElem? (i := 37) rfl))) (notFace_of_selects (args := #[]) (mvT Z80 (hw _ (List.mem_of_getElem? (i := 39) rfl)))) (mvT Z80 (hw _ (List.mem_of_getElem? (i := 39) rfl))) (mvT Z80 (hw _ (List.mem_of_getElem? (i := 38) rfl))) (by decide) (own_backN (W := 0) (own_holds0 l Z a0 hw [] (rl) (b75) (b78) (([(nar .char u0)] : List Int32)) (([(nar .char r0), (nar .char r1)] : List Int32)) (T80.heap.size) (G1) T80.heap n0 (by omega) (X00.keep K80 all0) (Fr1.ext (X00.keep K80 all0).2) (own_Str.mono ((Str76.ext E78).keep KK80 (allS (own_le (by omega)) all0)) (by omega)) (own_Str.mono Str80 (by omega)) O2 P5) Z80 (hw _ (List.mem_of_getElem? (i := 40) rfl)) (hw _ (List.mem_of_getElem? (i := 1) rfl)) (by decide) (by decide)) q84a q84c (g := (mkF m 266 #[.val (.int p0), .val (.int p1), .val (.int p2), .val (.int (0 : Int32)), .val (.ref rl), .val (.int (1 : Int32)), .val (.int (2 : Int32)), .val (.int u0), .val (.int u1), .val (.int r0), .val (.int r1), .val (.ref b70), .val (.ref b72), .val (.ref b75), .val (.ref b78), .val (.int (0 : Int32)), .val (.int (1 : Int32))] [(.ref b78), (.ref b75), (.ref rl)])) rfl (by rw [hml]; rfl) (Steps.refl _) (argsL := [(.ref b75), (.ref b78)]) (rest := []) (lenOf own_pd3 rfl) rfl (by show 2 * 0 + _ ≤ _; exact Nat.le_of_eq rfl) (hb hby at_266) (fun _ _ => ⟨rfl, rfl, (by decide : 8 + 0 ≤ _), (by decide : 22 + 0 ≤ _)⟩)
        dsimp only [Pt.U, Pt.locs, Pt.cells, Pt.slots] at X84 l84 y84 z84 st84 hQ84
        subst l84 y84 z84
        obtain ⟨hr84, Nq84, sm84⟩ := hQ84
        obtain ⟨rfl, eq84⟩ := hr84.resolve_left (fun q => (by simp : ¬ _) q.2)
        have N84 := Fr.app N80 Nq84
        refine own_st (fun tq kq => st84.trans kq) ?_
        show own_G p e below _ (T84.setTop (mkF m 269 #[.val (.int p0), .val (.int p1), .val (.int p2), .val (.int (0 : Int32)), .val (.ref rl), .val (.int (1 : Int32)), .val (.int (2 : Int32)), .val (.int u0), .val (.int u1), .val (.int r0), .val (.int r1), .val (.ref b70), .val (.ref b72), .val (.ref b75), .val (.ref b78), .val (.int (0 : Int32)), .val (.int (1 : Int32))] [(.int (1 : Int32))]))
        refine own_st (fun tq kq => XS.iload X84.here hx rfl (hb hby at_269) rfl  kq) ?_
        show own_G p e below _ (T84.setTop (mkF m 271 #[.val (.int p0), .val (.int p1), .val (.int p2), .val (.int (0 : Int32)), .val (.ref rl), .val (.int (1 : Int32)), .val (.int (2 : Int32)), .val (.int u0), .val (.int u1), .val (.int r0), .val (.int r1), .val (.ref b70), .val (.ref b72), .val (.ref b75), .val (.ref b78), .val (.int (0 : Int32)), .val (.int (1 : Int32))] [(.int (1 : Int32)), (.int (1 : Int32))]))
        refine own_st (fun tq kq => XS.icmpNo X84.here hx rfl (hb hby at_271) rfl (teq (by decide : ((1 : Int32) = (1 : Int32)))).2 kq) ?_
        refine own_st (fun tq kq => XS.iconst X84.here hx rfl (hb hby at_274) kq) ?_
        refine own_st (fun tq kq => XS.goto X84.here hx rfl (pc0 := 275) (pc' := 279) rfl (hb hby at_275) (by decide) (by decide) kq) ?_
        show own_G p e below _ (T84.setTop (mkF m 279 #[.val (.int p0), .val (.int p1), .val (.int p2), .val (.int (0 : Int32)), .val (.ref rl), .val (.int (1 : Int32)), .val (.int (2 : Int32)), .val (.int u0), .val (.int u1), .val (.int r0), .val (.int r1), .val (.ref b70), .val (.ref b72), .val (.ref b75), .val (.ref b78), .val (.int (0 : Int32)), .val (.int (1 : Int32))] [(.int (1 : Int32))]))
        obtain ⟨fs, hr, hrun, hended, hRW⟩ := X84.leaveW S80 (by rw [sm84]; exact (own_le (by omega))) (v := some (.int (1 : Int32))) (fun h => by rw [Bd.returns] at h; cases h)
        have cE := C80.trans (CHv.at (s := s) (vm0 := T80.vm) X84 Z80 hEL C80.1)
        refine ⟨_, _, retN X84 hx (t := .boolean) Bd.returns (by simp) (hb hby at_279) hr, hrun, hended, _, _, rfl, ?_, ?_, own_RW hRW (by decide) (by decide)⟩
        · change (fun (v : Option Value) (_ : Vm) (h : Heap) (L : List Loc) => v = some (.int (1 : Int32)) ∧ Fr n0 L) (some (.int (1 : Int32))) T84.vm T84.heap _; rw [sm84]; exact ⟨rfl, N84⟩
        · rw [hh]; change CHr Z consts_1 s.vm h0 T84.vm T84.heap; rw [sm84]; exact cE
    ·
      show own_G p e below _ (T.setTop (mkF m 119 #[.val (.int p0), .val (.int p1), .val (.int p2), .val (.int sm), .val (.ref rl), .val (.int (2 : Int32)), .val (.int (0 : Int32)), .val (.int u0), .val (.int u1), .val (.int r0), .val (.int r1), .unset, .unset, .unset, .unset, .unset, .unset] []))
      refine own_st (fun tq kq => XS.iload X0.here hx rfl (hb hby at_119) rfl  kq) ?_
      show own_G p e below _ (T.setTop (mkF m 121 #[.val (.int p0), .val (.int p1), .val (.int p2), .val (.int sm), .val (.ref rl), .val (.int (2 : Int32)), .val (.int (0 : Int32)), .val (.int u0), .val (.int u1), .val (.int r0), .val (.int r1), .unset, .unset, .unset, .unset, .unset, .unset] [(.int (2 : Int32))]))
      obtain ⟨T85, h85, k85, X85, e85, E85, A85, st85⟩ := newP X0 hx hZ (hw _ (List.mem_of_getElem? (i := 3) rfl)) e0 (g := (mkF m 121 #[.val (.int p0), .val (.int p1), .val (.int p2), .val (.int sm), .val (.ref rl), .val (.int (2 : Int32)), .val (.int (0 : Int32)), .val (.int u0), .val (.int u1), .val (.int r0), .val (.int r1), .unset, .unset, .unset, .unset, .unset, .unset] [(.int (2 : Int32))])) rfl (hb hby at_121) rfl (by decide) (cap := 2) (by decide) (by decide) (by decide) (by decide)
      obtain ⟨b85, g85⟩ : ∃ z, z = h0.size := ⟨_, rfl⟩
      rw [← g85] at A85 st85
      have lt85 : b85 < h85.size := A85.lt
      have V85 : Arv Z h85 b85 k85 .char (2 : Int32) [(.int (0 : Int32)), (.int (0 : Int32))] (.int (0 : Int32)) := (Arv.new A85 (by decide)).pad (pad_rep [] (.int (0 : Int32)) 2)
      have sz85 : h0.size ≤ h85.size := E85.1
      have K85 : Keep h0 h85 [] := K0.ext E85
      have c85 : CHr Z consts_1 s.vm h0 s.vm h85 := CHr.ext E85 C0.1
      have C85 := C0.trans c85
      refine own_st st85 ?_
      show own_G p e below _ (T85.setTop (mkF m 123 #[.val (.int p0), .val (.int p1), .val (.int p2), .val (.int sm), .val (.ref rl), .val (.int (2 : Int32)), .val (.int (0 : Int32)), .val (.int u0), .val (.int u1), .val (.int r0), .val (.int r1), .unset, .unset, .unset, .unset, .unset, .unset] [(.ref b85)]))
      refine own_st (fun tq kq => XS.astore X85.here hx rfl (hb hby at_123) rfl rfl (l' := #[.val (.int p0), .val (.int p1), .val (.int p2), .val (.int sm), .val (.ref rl), .val (.int (2 : Int32)), .val (.int (0 : Int32)), .val (.int u0), .val (.int u1), .val (.int r0), .val (.int r1), .val (.ref b85), .unset, .unset, .unset, .unset, .unset]) rfl kq) ?_
      refine own_st (fun tq kq => XS.iload X85.here hx rfl (hb hby at_125) rfl  kq) ?_
      show own_G p e below _ (T85.setTop (mkF m 127 #[.val (.int p0), .val (.int p1), .val (.int p2), .val (.int sm), .val (.ref rl), .val (.int (2 : Int32)), .val (.int (0 : Int32)), .val (.int u0), .val (.int u1), .val (.int r0), .val (.int r1), .val (.ref b85), .unset, .unset, .unset, .unset, .unset] [(.int (2 : Int32))]))
      refine own_st (fun tq kq => XS.ifNo X85.here hx rfl (hb hby at_127) rfl ((if0 _ _).trans (tlt (by decide : ((0 : Int32) < (2 : Int32)))).2.2.2) kq) ?_
      refine own_st (fun tq kq => XS.aload X85.here hx rfl (hb hby at_130) rfl rfl kq) ?_
      refine own_st (fun tq kq => XS.iconst X85.here hx rfl (hb hby at_132) kq) ?_
      refine own_st (fun tq kq => XS.iload X85.here hx rfl (hb hby at_133) rfl  kq) ?_
      show own_G p e below _ (T85.setTop (mkF m 135 #[.val (.int p0), .val (.int p1), .val (.int p2), .val (.int sm), .val (.ref rl), .val (.int (2 : Int32)), .val (.int (0 : Int32)), .val (.int u0), .val (.int u1), .val (.int r0), .val (.int r1), .val (.ref b85), .unset, .unset, .unset, .unset, .unset] [(.int u0), (.int (0 : Int32)), (.ref b85)]))
      obtain ⟨cl86, Ar86, q86, S_86, N_86, H_86, G_86⟩ := id V85
      have in86 : ¬ ((0 : Int32) < 0 ∨ cl86.slots.size ≤ ((0 : Int32)).toNatClampNeg) := inb_of S_86 ⟨by decide, by decide⟩
      obtain ⟨T86, h86, X86, e86, W86, st86⟩ := stC X85 hx hZ e85 Ar86 (j := (0 : Int32)) in86 (g := (mkF m 135 #[.val (.int p0), .val (.int p1), .val (.int p2), .val (.int sm), .val (.ref rl), .val (.int (2 : Int32)), .val (.int (0 : Int32)), .val (.int u0), .val (.int u1), .val (.int r0), .val (.int r1), .val (.ref b85), .unset, .unset, .unset, .unset, .unset] [(.int u0), (.int (0 : Int32)), (.ref b85)])) rfl rfl (hb hby at_135)
      have V86 := Arv.set Ar86 q86 S_86 N_86 H_86 G_86 (fits_nar_char _) W86 0 rfl (Nat.le_of_ble_eq_true rfl)
      have sz86 : h85.size ≤ h86.size := (Keep.of_wr W86).1
      have K86 : Keep h0 h86 [] := K85.wr W86 (Or.inr (own_le (by omega)))
      have c86 : CHr Z consts_1 s.vm h85 s.vm h86 := CHr.wr W86 (Safe.arr hZ.alike Ar86 (by decide)) C85.1
      have C86 := C85.trans c86
      have N86 := Fr.snoc X86 N0 (own_le (by omega))
      refine own_st st86 ?_
      show own_G p e below _ (T86.setTop (mkF m 136 #[.val (.int p0), .val (.int p1), .val (.int p2), .val (.int sm), .val (.ref rl), .val (.int (2 : Int32)), .val (.int (0 : Int32)), .val (.int u0), .val (.int u1), .val (.int r0), .val (.int r1), .val (.ref b85), .unset, .unset, .unset, .unset, .unset] []))
      refine own_st (fun tq kq => XS.iload X86.here hx rfl (hb hby at_136) rfl  kq) ?_
      refine own_st (fun tq kq => XS.iconst X86.here hx rfl (hb hby at_138) kq) ?_
      show own_G p e below _ (T86.setTop (mkF m 139 #[.val (.int p0), .val (.int p1), .val (.int p2), .val (.int sm), .val (.ref rl), .val (.int (2 : Int32)), .val (.int (0 : Int32)), .val (.int u0), .val (.int u1), .val (.int r0), .val (.int r1), .val (.ref b85), .unset, .unset, .unset, .unset, .unset] [(.int (1 : Int32)), (.int (2 : Int32))]))
      refine own_st (fun tq kq => XS.icmpNo X86.here hx rfl (hb hby at_139) rfl (tlt (by decide : ((1 : Int32) < (2 : Int32)))).2.2.2 kq) ?_
      refine own_st (fun tq kq => XS.aload X86.here hx rfl (hb hby at_142) rfl rfl kq) ?_
      refine own_st (fun tq kq => XS.iconst X86.here hx rfl (hb hby at_144) kq) ?_
      refine own_st (fun tq kq => XS.iload X86.here hx rfl (hb hby at_145) rfl  kq) ?_
      show own_G p e below _ (T86.setTop (mkF m 147 #[.val (.int p0), .val (.int p1), .val (.int p2), .val (.int sm), .val (.ref rl), .val (.int (2 : Int32)), .val (.int (0 : Int32)), .val (.int u0), .val (.int u1), .val (.int r0), .val (.int r1), .val (.ref b85), .unset, .unset, .unset, .unset, .unset] [(.int u1), (.int (1 : Int32)), (.ref b85)]))
      obtain ⟨cl87, Ar87, q87, S_87, N_87, H_87, G_87⟩ := id V86
      have in87 : ¬ ((1 : Int32) < 0 ∨ cl87.slots.size ≤ ((1 : Int32)).toNatClampNeg) := inb_of S_87 ⟨by decide, by decide⟩
      obtain ⟨T87, h87, X87, e87, W87, st87⟩ := stC X86 hx hZ e86 Ar87 (j := (1 : Int32)) in87 (g := (mkF m 147 #[.val (.int p0), .val (.int p1), .val (.int p2), .val (.int sm), .val (.ref rl), .val (.int (2 : Int32)), .val (.int (0 : Int32)), .val (.int u0), .val (.int u1), .val (.int r0), .val (.int r1), .val (.ref b85), .unset, .unset, .unset, .unset, .unset] [(.int u1), (.int (1 : Int32)), (.ref b85)])) rfl rfl (hb hby at_147)
      have V87 := Arv.set Ar87 q87 S_87 N_87 H_87 G_87 (fits_nar_char _) W87 1 rfl (Nat.le_of_ble_eq_true rfl)
      have sz87 : h86.size ≤ h87.size := (Keep.of_wr W87).1
      have K87 : Keep h0 h87 [] := K86.wr W87 (Or.inr (own_le (by omega)))
      have c87 : CHr Z consts_1 s.vm h86 s.vm h87 := CHr.wr W87 (Safe.arr hZ.alike Ar87 (by decide)) C86.1
      have C87 := C86.trans c87
      have N87 := Fr.snoc X87 N86 (own_le (by omega))
      refine own_st st87 ?_
      show own_G p e below _ (T87.setTop (mkF m 148 #[.val (.int p0), .val (.int p1), .val (.int p2), .val (.int sm), .val (.ref rl), .val (.int (2 : Int32)), .val (.int (0 : Int32)), .val (.int u0), .val (.int u1), .val (.int r0), .val (.int r1), .val (.ref b85), .unset, .unset, .unset, .unset, .unset] []))
      refine own_st (fun tq kq => XS.iload X87.here hx rfl (hb hby at_148) rfl  kq) ?_
      show own_G p e below _ (T87.setTop (mkF m 150 #[.val (.int p0), .val (.int p1), .val (.int p2), .val (.int sm), .val (.ref rl), .val (.int (2 : Int32)), .val (.int (0 : Int32)), .val (.int u0), .val (.int u1), .val (.int r0), .val (.int r1), .val (.ref b85), .unset, .unset, .unset, .unset, .unset] [(.int (0 : Int32))]))
      obtain ⟨T88, h88, k88, X88, e88, E88, A88, st88⟩ := newP X87 hx hZ (hw _ (List.mem_of_getElem? (i := 3) rfl)) e87 (g := (mkF m 150 #[.val (.int p0), .val (.int p1), .val (.int p2), .val (.int sm), .val (.ref rl), .val (.int (2 : Int32)), .val (.int (0 : Int32)), .val (.int u0), .val (.int u1), .val (.int r0), .val (.int r1), .val (.ref b85), .unset, .unset, .unset, .unset, .unset] [(.int (0 : Int32))])) rfl (hb hby at_150) rfl (by decide) (cap := 0) (by decide) (by decide) (by decide) (by decide)
      obtain ⟨b88, g88⟩ : ∃ z, z = h87.size := ⟨_, rfl⟩
      rw [← g88] at A88 st88
      have lt88 : b88 < h88.size := A88.lt
      have V88 : Arv Z h88 b88 k88 .char (0 : Int32) [] (.int (0 : Int32)) := Arv.new A88 (by decide)
      have sz88 : h87.size ≤ h88.size := E88.1
      have K88 : Keep h0 h88 [] := K87.ext E88
      have c88 : CHr Z consts_1 s.vm h87 s.vm h88 := CHr.ext E88 C87.1
      have C88 := C87.trans c88
      refine own_st st88 ?_
      show own_G p e below _ (T88.setTop (mkF m 152 #[.val (.int p0), .val (.int p1), .val (.int p2), .val (.int sm), .val (.ref rl), .val (.int (2 : Int32)), .val (.int (0 : Int32)), .val (.int u0), .val (.int u1), .val (.int r0), .val (.int r1), .val (.ref b85), .unset, .unset, .unset, .unset, .unset] [(.ref b88)]))
      refine own_st (fun tq kq => XS.astore X88.here hx rfl (hb hby at_152) rfl rfl (l' := #[.val (.int p0), .val (.int p1), .val (.int p2), .val (.int sm), .val (.ref rl), .val (.int (2 : Int32)), .val (.int (0 : Int32)), .val (.int u0), .val (.int u1), .val (.int r0), .val (.int r1), .val (.ref b85), .val (.ref b88), .unset, .unset, .unset, .unset]) rfl kq) ?_
      refine own_st (fun tq kq => XS.iload X88.here hx rfl (hb hby at_154) rfl  kq) ?_
      show own_G p e below _ (T88.setTop (mkF m 156 #[.val (.int p0), .val (.int p1), .val (.int p2), .val (.int sm), .val (.ref rl), .val (.int (2 : Int32)), .val (.int (0 : Int32)), .val (.int u0), .val (.int u1), .val (.int r0), .val (.int r1), .val (.ref b85), .val (.ref b88), .unset, .unset, .unset, .unset] [(.int (0 : Int32))]))
      refine own_st (fun tq kq => XS.ifYes X88.here hx rfl (pc0 := 156) (pc' := 165) rfl (hb hby at_156) rfl ((if0 _ _).trans (flt (by decide : ¬ ((0 : Int32) < (0 : Int32)))).2.2.2) (by decide) (by decide) kq) ?_
      refine own_st (fun tq kq => XS.iload X88.here hx rfl (hb hby at_165) rfl  kq) ?_
      refine own_st (fun tq kq => XS.iconst X88.here hx rfl (hb hby at_167) kq) ?_
      show own_G p e below _ (T88.setTop (mkF m 168 #[.val (.int p0), .val (.int p1), .val (.int p2), .val (.int sm), .val (.ref rl), .val (.int (2 : Int32)), .val (.int (0 : Int32)), .val (.int u0), .val (.int u1), .val (.int r0), .val (.int r1), .val (.ref b85), .val (.ref b88), .unset, .unset, .unset, .unset] [(.int (1 : Int32)), (.int (0 : Int32))]))
      refine own_st (fun tq kq => XS.icmpYes X88.here hx rfl (pc0 := 168) (pc' := 177) rfl (hb hby at_168) rfl (flt (by decide : ¬ ((1 : Int32) < (0 : Int32)))).2.2.2 (by decide) (by decide) kq) ?_
      show own_G p e below _ (T88.setTop (mkF m 177 #[.val (.int p0), .val (.int p1), .val (.int p2), .val (.int sm), .val (.ref rl), .val (.int (2 : Int32)), .val (.int (0 : Int32)), .val (.int u0), .val (.int u1), .val (.int r0), .val (.int r1), .val (.ref b85), .val (.ref b88), .unset, .unset, .unset, .unset] []))
      obtain ⟨T89, h89, X89, e89, E89, A89, D89, -, st89⟩ := newO X88 hx hZ hown (hw _ (List.mem_of_getElem? (i := 4) rfl)) (hw _ (List.mem_of_getElem? (i := 5) rfl)) (hw _ (List.mem_of_getElem? (i := 6) rfl)) e88 (g := (mkF m 177 #[.val (.int p0), .val (.int p1), .val (.int p2), .val (.int sm), .val (.ref rl), .val (.int (2 : Int32)), .val (.int (0 : Int32)), .val (.int u0), .val (.int u1), .val (.int r0), .val (.int r1), .val (.ref b85), .val (.ref b88), .unset, .unset, .unset, .unset] [])) rfl (hb hby at_177) (by decide) (by decide)
      obtain ⟨b89, g89⟩ : ∃ z, z = h88.size := ⟨_, rfl⟩
      rw [← g89] at A89 D89 st89
      have lt89 : b89 < h89.size := A89.lt
      have Sn89 : Safe Z consts_1 s.vm h88 b89 := Safe.new (own_le (by omega))
      have sz89 : h88.size ≤ h89.size := E89.1
      have K89 : Keep h0 h89 [] := K88.ext E89
      have c89 : CHr Z consts_1 s.vm h88 s.vm h89 := CHr.ext E89 C88.1
      have C89 := C88.trans c89
      have Sf89 : Safe Z consts_1 s.vm h89 b89 := Safe.ext E89 C88.1 Sn89
      have F89_coder : Fld Z h89 b89 "java/lang/String" "coder" "B" (.int (0 : Int32)) := D89 (Or.inr (hw _ (List.mem_of_getElem? (i := 30) rfl))) (ty := .byte) (by decide)
      have F89_value : Fld Z h89 b89 "java/lang/String" "value" "[B" .null := D89 (Or.inr (hw _ (List.mem_of_getElem? (i := 32) rfl))) (ty := (.array .byte)) (by decide)
      refine own_st st89 ?_
      show own_G p e below _ (T89.setTop (mkF m 180 #[.val (.int p0), .val (.int p1), .val (.int p2), .val (.int sm), .val (.ref rl), .val (.int (2 : Int32)), .val (.int (0 : Int32)), .val (.int u0), .val (.int u1), .val (.int r0), .val (.int r1), .val (.ref b85), .val (.ref b88), .unset, .unset, .unset, .unset] [(.ref b89)]))
      refine own_st (fun tq kq => XS.dup X89.here hx rfl (hb hby at_180) rfl rfl kq) ?_
      refine own_st (fun tq kq => XS.aload X89.here hx rfl (hb hby at_181) rfl rfl kq) ?_
      show own_G p e below _ (T89.setTop (mkF m 183 #[.val (.int p0), .val (.int p1), .val (.int p2), .val (.int sm), .val (.ref rl), .val (.int (2 : Int32)), .val (.int (0 : Int32)), .val (.int u0), .val (.int u1), .val (.int r0), .val (.int r1), .val (.ref b85), .val (.ref b88), .unset, .unset, .unset, .unset] [(.ref b85), (.ref b89), (.ref b89)]))
      have hp90 : ∀ c ∈ ([(nar .char u0), (nar .char u1)] : List Int32), ¬ c < 0 ∧ ¬ (255 : Int32) < c := by
        intro c hc
        simp only [List.mem_cons, List.not_mem_nil, or_false] at hc
        rcases hc with rfl | rfl
        · assumption
        · assumption
      obtain ⟨_, _, ⟨T90, L90, k90, n90⟩, -, Y90, S90p, gr90, ⟨Lc90, hQ90, l90, y90, z90, c90⟩, st90⟩ := X89.specialBackS hx (y := (⟨"java/lang/String", "<init>", "([C)V"⟩ : MethodName)) rfl hown (mvT hZ (hw _ (List.mem_of_getElem? (i := 7) rfl))) (mvT hZ (hw _ (List.mem_of_getElem? (i := 8) rfl))) (mvT hZ (hw _ (List.mem_of_getElem? (i := 9) rfl))) (by decide) (own_newStr (s := s) (vm0 := s.vm) (W := 1) hZ hw hEL C89.1 (cs := ([(nar .char u0), (nar .char u1)] : List Int32)) (n := 2) (n0 := n0) Sf89 (by omega) (X00.keep K89 all0) A89 F89_value F89_coder ((V87.ext E88).ext E89) O2 P5 rfl rfl (by decide) hp90 (by decide) (by decide)) (g := (mkF m 183 #[.val (.int p0), .val (.int p1), .val (.int p2), .val (.int sm), .val (.ref rl), .val (.int (2 : Int32)), .val (.int (0 : Int32)), .val (.int u0), .val (.int u1), .val (.int r0), .val (.int r1), .val (.ref b85), .val (.ref b88), .unset, .unset, .unset, .unset] [(.ref b85), (.ref b89), (.ref b89)])) rfl (by rw [hml]; rfl) (Steps.refl _) (a := b89) (argsL := [(.ref b85)]) (rest := [(.ref b89)]) (lenOf own_pd2 rfl) rfl (by show 2 * 0 + _ ≤ _; exact Nat.le_of_eq rfl) (hb hby at_183) (fun _ _ => ⟨rfl, e89, (by decide : 3 + 2 ≤ _), (by decide : 6 + 6 ≤ _)⟩)
      dsimp only [Pt.U, Pt.locs, Pt.cells, Pt.slots] at Y90 S90p gr90 l90 y90 z90 st90 hQ90 c90
      subst l90 y90 z90
      obtain ⟨X90, S90, Z90, o90⟩ := rebS S0 (by rw [e89]; exact (own_le (by omega))) Y90 S90p gr90 hZ hown
      obtain ⟨rfl, Nq90, Kq90, Str90⟩ := hQ90
      have KK90 : Keep h89 T90.heap [b89] := Kq90
      have sz90 : h89.size ≤ T90.heap.size := KK90.1
      have K90 : Keep h0 T90.heap [] := K89.trans KK90 (allS (Or.inr (own_le (by omega))) all0)
      have C90 := C89.trans c90
      have Sf90_91 := c90.safe (own_lt (by omega)) Sf89
      have N90 := Fr.app N87 Nq90
      refine own_st (fun tq kq => st90.trans kq) ?_
      show own_G p e below _ (T90.setTop (mkF m 186 #[.val (.int p0), .val (.int p1), .val (.int p2), .val (.int sm), .val (.ref rl), .val (.int (2 : Int32)), .val (.int (0 : Int32)), .val (.int u0), .val (.int u1), .val (.int r0), .val (.int r1), .val (.ref b85), .val (.ref b88), .unset, .unset, .unset, .unset] [(.ref b89)]))
      refine own_st (fun tq kq => XS.astore X90.here hx rfl (hb hby at_186) rfl rfl (l' := #[.val (.int p0), .val (.int p1), .val (.int p2), .val (.int sm), .val (.ref rl), .val (.int (2 : Int32)), .val (.int (0 : Int32)), .val (.int u0), .val (.int u1), .val (.int r0), .val (.int r1), .val (.ref b85), .val (.ref b88), .val (.ref b89), .unset, .unset, .unset]) rfl kq) ?_
      show own_G p e below _ (T90.setTop (mkF m 188 #[.val (.int p0), .val (.int p1), .val (.int p2), .val (.int sm), .val (.ref rl), .val (.int (2 : Int32)), .val (.int (0 : Int32)), .val (.int u0), .val (.int u1), .val (.int r0), .val (.int r1), .val (.ref b85), .val (.ref b88), .val (.ref b89), .unset, .unset, .unset] []))
      obtain ⟨T92, h92, X92, e92, E92, A92, D92, -, st92⟩ := newO X90 hx Z90 o90 (hw _ (List.mem_of_getElem? (i := 4) rfl)) (hw _ (List.mem_of_getElem? (i := 5) rfl)) (hw _ (List.mem_of_getElem? (i := 6) rfl)) rfl (g := (mkF m 188 #[.val (.int p0), .val (.int p1), .val (.int p2), .val (.int sm), .val (.ref rl), .val (.int (2 : Int32)), .val (.int (0 : Int32)), .val (.int u0), .val (.int u1), .val (.int r0), .val (.int r1), .val (.ref b85), .val (.ref b88), .val (.ref b89), .unset, .unset, .unset] [])) rfl (hb hby at_188) (by decide) (by decide)
      obtain ⟨b92, g92⟩ : ∃ z, z = T90.heap.size := ⟨_, rfl⟩
      rw [← g92] at A92 D92 st92
      have lt92 : b92 < h92.size := A92.lt
      have Sn92 : Safe Z consts_1 T90.vm T90.heap b92 := Safe.new (own_le (by omega))
      have sz92 : T90.heap.size ≤ h92.size := E92.1
      have K92 : Keep h0 h92 [] := K90.ext E92
      have c92 : CHr Z consts_1 T90.vm T90.heap T90.vm h92 := CHr.ext E92 C90.1
      have C92 := C90.trans c92
      have Sf92_93 := c92.safe (own_lt (by omega)) Sf90_91
      have Sf92 : Safe Z consts_1 T90.vm h92 b92 := Safe.ext E92 C90.1 Sn92
      have F92_coder : Fld Z h92 b92 "java/lang/String" "coder" "B" (.int (0 : Int32)) := D92 (Or.inr (hw _ (List.mem_of_getElem? (i := 30) rfl))) (ty := .byte) (by decide)
      have F92_value : Fld Z h92 b92 "java/lang/String" "value" "[B" .null := D92 (Or.inr (hw _ (List.mem_of_getElem? (i := 32) rfl))) (ty := (.array .byte)) (by decide)
      refine own_st st92 ?_
      show own_G p e below _ (T92.setTop (mkF m 191 #[.val (.int p0), .val (.int p1), .val (.int p2), .val (.int sm), .val (.ref rl), .val (.int (2 : Int32)), .val (.int (0 : Int32)), .val (.int u0), .val (.int u1), .val (.int r0), .val (.int r1), .val (.ref b85), .val (.ref b88), .val (.ref b89), .unset, .unset, .unset] [(.ref b92)]))
      refine own_st (fun tq kq => XS.dup X92.here hx rfl (hb hby at_191) rfl rfl kq) ?_
      refine own_st (fun tq kq => XS.aload X92.here hx rfl (hb hby at_192) rfl rfl kq) ?_
      show own_G p e below _ (T92.setTop (mkF m 194 #[.val (.int p0), .val (.int p1), .val (.int p2), .val (.int sm), .val (.ref rl), .val (.int (2 : Int32)), .val (.int (0 : Int32)), .val (.int u0), .val (.int u1), .val (.int r0), .val (.int r1), .val (.ref b85), .val (.ref b88), .val (.ref b89), .unset, .unset, .unset] [(.ref b88), (.ref b92), (.ref b92)]))
      have hp94 : ∀ c ∈ ([] : List Int32), ¬ c < 0 ∧ ¬ (255 : Int32) < c := fun c hc => by cases hc
      obtain ⟨_, _, ⟨T94, L94, k94, n94⟩, -, Y94, S94p, gr94, ⟨Lc94, hQ94, l94, y94, z94, c94⟩, st94⟩ := X92.specialBackS hx (y := (⟨"java/lang/String", "<init>", "([C)V"⟩ : MethodName)) rfl o90 (mvT Z90 (hw _ (List.mem_of_getElem? (i := 7) rfl))) (mvT Z90 (hw _ (List.mem_of_getElem? (i := 8) rfl))) (mvT Z90 (hw _ (List.mem_of_getElem? (i := 9) rfl))) (by decide) (own_newStr (s := s) (vm0 := T90.vm) (W := 1) Z90 hw hEL C92.1 (cs := ([] : List Int32)) (n := 0) (n0 := n0) Sf92 (by omega) (X00.keep K92 all0) A92 F92_value F92_coder (((V88.ext E89).keep KK90 (ninS (own_ne (by omega)) nin0)).ext E92) O2 P5 rfl rfl (by decide) hp94 (by decide) (by decide)) (g := (mkF m 194 #[.val (.int p0), .val (.int p1), .val (.int p2), .val (.int sm), .val (.ref rl), .val (.int (2 : Int32)), .val (.int (0 : Int32)), .val (.int u0), .val (.int u1), .val (.int r0), .val (.int r1), .val (.ref b85), .val (.ref b88), .val (.ref b89), .unset, .unset, .unset] [(.ref b88), (.ref b92), (.ref b92)])) rfl (by rw [hml]; rfl) (Steps.refl _) (a := b92) (argsL := [(.ref b88)]) (rest := [(.ref b92)]) (lenOf own_pd2 rfl) rfl (by show 2 * 0 + _ ≤ _; exact Nat.le_of_eq rfl) (hb hby at_194) (fun _ _ => ⟨rfl, e92, (by decide : 6 + 2 ≤ _), (by decide : 16 + 4 ≤ _)⟩)
      dsimp only [Pt.U, Pt.locs, Pt.cells, Pt.slots] at Y94 S94p gr94 l94 y94 z94 st94 hQ94 c94
      subst l94 y94 z94
      obtain ⟨X94, S94, Z94, o94⟩ := rebS S90 (by rw [e92]; exact (own_le (by omega))) Y94 S94p gr94 Z90 o90
      obtain ⟨rfl, Nq94, Kq94, Str94⟩ := hQ94
      have KK94 : Keep h92 T94.heap [b92] := Kq94
      have sz94 : h92.size ≤ T94.heap.size := KK94.1
      have K94 : Keep h0 T94.heap [] := K92.trans KK94 (allS (Or.inr (own_le (by omega))) all0)
      have C94 := C92.trans c94
      have Sf94_95 := c94.safe (own_lt (by omega)) Sf92_93
      have Sf94_96 := c94.safe (own_lt (by omega)) Sf92
      have N94 := Fr.app N90 Nq94
      refine own_st (fun tq kq => st94.trans kq) ?_
      show own_G p e below _ (T94.setTop (mkF m 197 #[.val (.int p0), .val (.int p1), .val (.int p2), .val (.int sm), .val (.ref rl), .val (.int (2 : Int32)), .val (.int (0 : Int32)), .val (.int u0), .val (.int u1), .val (.int r0), .val (.int r1), .val (.ref b85), .val (.ref b88), .val (.ref b89), .unset, .unset, .unset] [(.ref b92)]))
      refine own_st (fun tq kq => XS.astore X94.here hx rfl (hb hby at_197) rfl rfl (l' := #[.val (.int p0), .val (.int p1), .val (.int p2), .val (.int sm), .val (.ref rl), .val (.int (2 : Int32)), .val (.int (0 : Int32)), .val (.int u0), .val (.int u1), .val (.int r0), .val (.int r1), .val (.ref b85), .val (.ref b88), .val (.ref b89), .val (.ref b92), .unset, .unset]) rfl kq) ?_
      refine own_st (fun tq kq => XS.iload X94.here hx rfl (hb hby at_199) rfl  kq) ?_
      refine own_st (fun tq kq => XS.iload X94.here hx rfl (hb hby at_201) rfl  kq) ?_
      show own_G p e below _ (T94.setTop (mkF m 203 #[.val (.int p0), .val (.int p1), .val (.int p2), .val (.int sm), .val (.ref rl), .val (.int (2 : Int32)), .val (.int (0 : Int32)), .val (.int u0), .val (.int u1), .val (.int r0), .val (.int r1), .val (.ref b85), .val (.ref b88), .val (.ref b89), .val (.ref b92), .unset, .unset] [(.int (0 : Int32)), (.int (2 : Int32))]))
      refine own_st (fun tq kq => XS.icmpYes X94.here hx rfl (pc0 := 203) (pc' := 236) rfl (hb hby at_203) rfl (feq (by decide : ¬ ((2 : Int32) = (0 : Int32)))).2 (by decide) (by decide) kq) ?_
      refine own_st (fun tq kq => XS.iconst X94.here hx rfl (hb hby at_236) kq) ?_
      refine own_st (fun tq kq => XS.istore X94.here hx rfl (hb hby at_237) rfl (l' := #[.val (.int p0), .val (.int p1), .val (.int p2), .val (.int sm), .val (.ref rl), .val (.int (2 : Int32)), .val (.int (0 : Int32)), .val (.int u0), .val (.int u1), .val (.int r0), .val (.int r1), .val (.ref b85), .val (.ref b88), .val (.ref b89), .val (.ref b92), .val (.int (0 : Int32)), .unset]) rfl kq) ?_
      show own_G p e below _ (T94.setTop (mkF m 239 #[.val (.int p0), .val (.int p1), .val (.int p2), .val (.int sm), .val (.ref rl), .val (.int (2 : Int32)), .val (.int (0 : Int32)), .val (.int u0), .val (.int u1), .val (.int r0), .val (.int r1), .val (.ref b85), .val (.ref b88), .val (.ref b89), .val (.ref b92), .val (.int (0 : Int32)), .unset] []))
      rcases hsm with rfl | rfl
      ·
        show own_G p e below _ (T94.setTop (mkF m 239 #[.val (.int p0), .val (.int p1), .val (.int p2), .val (.int (1 : Int32)), .val (.ref rl), .val (.int (2 : Int32)), .val (.int (0 : Int32)), .val (.int u0), .val (.int u1), .val (.int r0), .val (.int r1), .val (.ref b85), .val (.ref b88), .val (.ref b89), .val (.ref b92), .val (.int (0 : Int32)), .unset] []))
        refine own_st (fun tq kq => XS.iloadN X94.here hx rfl (hb hby at_239) rfl  kq) ?_
        show own_G p e below _ (T94.setTop (mkF m 240 #[.val (.int p0), .val (.int p1), .val (.int p2), .val (.int (1 : Int32)), .val (.ref rl), .val (.int (2 : Int32)), .val (.int (0 : Int32)), .val (.int u0), .val (.int u1), .val (.int r0), .val (.int r1), .val (.ref b85), .val (.ref b88), .val (.ref b89), .val (.ref b92), .val (.int (0 : Int32)), .unset] [(.int (1 : Int32))]))
        refine own_st (fun tq kq => XS.ifNo X94.here hx rfl (hb hby at_240) rfl ((if0 _ _).trans (feq (by decide : ¬ ((1 : Int32) = (0 : Int32)))).1) kq) ?_
        refine own_st (fun tq kq => XS.iload X94.here hx rfl (hb hby at_243) rfl  kq) ?_
        refine own_st (fun tq kq => XS.goto X94.here hx rfl (pc0 := 245) (pc' := 258) rfl (hb hby at_245) (by decide) (by decide) kq) ?_
        refine own_st (fun tq kq => XS.istore X94.here hx rfl (hb hby at_258) rfl (l' := #[.val (.int p0), .val (.int p1), .val (.int p2), .val (.int (1 : Int32)), .val (.ref rl), .val (.int (2 : Int32)), .val (.int (0 : Int32)), .val (.int u0), .val (.int u1), .val (.int r0), .val (.int r1), .val (.ref b85), .val (.ref b88), .val (.ref b89), .val (.ref b92), .val (.int (0 : Int32)), .val (.int (0 : Int32))]) rfl kq) ?_
        show own_G p e below _ (T94.setTop (mkF m 260 #[.val (.int p0), .val (.int p1), .val (.int p2), .val (.int (1 : Int32)), .val (.ref rl), .val (.int (2 : Int32)), .val (.int (0 : Int32)), .val (.int u0), .val (.int u1), .val (.int r0), .val (.int r1), .val (.ref b85), .val (.ref b88), .val (.ref b89), .val (.ref b92), .val (.int (0 : Int32)), .val (.int (0 : Int32))] []))
        refine own_st (fun tq kq => XS.aload X94.here hx rfl (hb hby at_260) rfl rfl kq) ?_
        refine own_st (fun tq kq => XS.aload X94.here hx rfl (hb hby at_262) rfl rfl kq) ?_
        refine own_st (fun tq kq => XS.aload X94.here hx rfl (hb hby at_264) rfl rfl kq) ?_
        show own_G p e below _ (T94.setTop (mkF m 266 #[.val (.int p0), .val (.int p1), .val (.int p2), .val (.int (1 : Int32)), .val (.ref rl), .val (.int (2 : Int32)), .val (.int (0 : Int32)), .val (.int u0), .val (.int u1), .val (.int r0), .val (.int r1), .val (.ref b85), .val (.ref b88), .val (.ref b89), .val (.ref b92), .val (.int (0 : Int32)), .val (.int (0 : Int32))] [(.ref b92), (.ref b89), (.ref rl)]))
        obtain ⟨cq97, kq97, q97a, q97b, q97c⟩ := isOf Z94 rfl (((((((((Er.ext (X00.keep K0 all0).2).ext E85).wr W86).wr W87).ext E88).ext E89).keep KK90).ext E92).keep KK94)
        obtain ⟨_, _, ⟨T97, L97, k97, n97⟩, -, X97, ⟨Lc97, hQ97, l97, y97, z97⟩, st97⟩ := X94.virtualBack hx (y := (⟨"com/example/veild/veild/policy/Constraint$Relation", "holds", "(Ljava/lang/String;Ljava/lang/String;)Z"⟩ : MethodName)) (z := (⟨"com/example/veild/veild/policy/Constraint$Relation", "holds", "(Ljava/lang/String;Ljava/lang/String;)Z"⟩ : MethodName)) o94 (mvT Z94 (hw _ (List.mem_of_getElem? (i := 36) rfl))) (mvT Z94 (hw _ (List.mem_of_getElem? (i := 37) rfl))) (notFace_of_selects (args := #[]) (mvT Z94 (hw _ (List.mem_of_getElem? (i := 39) rfl)))) (mvT Z94 (hw _ (List.mem_of_getElem? (i := 39) rfl))) (mvT Z94 (hw _ (List.mem_of_getElem? (i := 38) rfl))) (by decide) (own_backN (W := 0) (own_holds1 l Z a0 hw [] (rl) (b89) (b92) (([(nar .char u0), (nar .char u1)] : List Int32)) (([] : List Int32)) (T94.heap.size) (G1) T94.heap n0 (by omega) (X00.keep K94 all0) (Fr1.ext (X00.keep K94 all0).2) (own_Str.mono ((Str90.ext E92).keep KK94 (allS (own_le (by omega)) all0)) (by omega)) (own_Str.mono Str94 (by omega)) O2 P5) Z94 (hw _ (List.mem_of_getElem? (i := 40) rfl)) (hw _ (List.mem_of_getElem? (i := 1) rfl)) (by decide) (by decide)) q97a q97c (g := (mkF m 266 #[.val (.int p0), .val (.int p1), .val (.int p2), .val (.int (1 : Int32)), .val (.ref rl), .val (.int (2 : Int32)), .val (.int (0 : Int32)), .val (.int u0), .val (.int u1), .val (.int r0), .val (.int r1), .val (.ref b85), .val (.ref b88), .val (.ref b89), .val (.ref b92), .val (.int (0 : Int32)), .val (.int (0 : Int32))] [(.ref b92), (.ref b89), (.ref rl)])) rfl (by rw [hml]; rfl) (Steps.refl _) (argsL := [(.ref b89), (.ref b92)]) (rest := []) (lenOf own_pd3 rfl) rfl (by show 2 * 0 + _ ≤ _; exact Nat.le_of_eq rfl) (hb hby at_266) (fun _ _ => ⟨rfl, rfl, (by decide : 8 + 0 ≤ _), (by decide : 20 + 0 ≤ _)⟩)
        dsimp only [Pt.U, Pt.locs, Pt.cells, Pt.slots] at X97 l97 y97 z97 st97 hQ97
        subst l97 y97 z97
        obtain ⟨hr97, Nq97, sm97⟩ := hQ97
        obtain ⟨rfl, eq97⟩ := hr97.resolve_left (fun q => (by simp : ¬ _) q.2)
        have N97 := Fr.app N94 Nq97
        refine own_st (fun tq kq => st97.trans kq) ?_
        show own_G p e below _ (T97.setTop (mkF m 269 #[.val (.int p0), .val (.int p1), .val (.int p2), .val (.int (1 : Int32)), .val (.ref rl), .val (.int (2 : Int32)), .val (.int (0 : Int32)), .val (.int u0), .val (.int u1), .val (.int r0), .val (.int r1), .val (.ref b85), .val (.ref b88), .val (.ref b89), .val (.ref b92), .val (.int (0 : Int32)), .val (.int (0 : Int32))] [(.int (0 : Int32))]))
        refine own_st (fun tq kq => XS.iload X97.here hx rfl (hb hby at_269) rfl  kq) ?_
        show own_G p e below _ (T97.setTop (mkF m 271 #[.val (.int p0), .val (.int p1), .val (.int p2), .val (.int (1 : Int32)), .val (.ref rl), .val (.int (2 : Int32)), .val (.int (0 : Int32)), .val (.int u0), .val (.int u1), .val (.int r0), .val (.int r1), .val (.ref b85), .val (.ref b88), .val (.ref b89), .val (.ref b92), .val (.int (0 : Int32)), .val (.int (0 : Int32))] [(.int (0 : Int32)), (.int (0 : Int32))]))
        refine own_st (fun tq kq => XS.icmpNo X97.here hx rfl (hb hby at_271) rfl (teq (by decide : ((0 : Int32) = (0 : Int32)))).2 kq) ?_
        refine own_st (fun tq kq => XS.iconst X97.here hx rfl (hb hby at_274) kq) ?_
        refine own_st (fun tq kq => XS.goto X97.here hx rfl (pc0 := 275) (pc' := 279) rfl (hb hby at_275) (by decide) (by decide) kq) ?_
        show own_G p e below _ (T97.setTop (mkF m 279 #[.val (.int p0), .val (.int p1), .val (.int p2), .val (.int (1 : Int32)), .val (.ref rl), .val (.int (2 : Int32)), .val (.int (0 : Int32)), .val (.int u0), .val (.int u1), .val (.int r0), .val (.int r1), .val (.ref b85), .val (.ref b88), .val (.ref b89), .val (.ref b92), .val (.int (0 : Int32)), .val (.int (0 : Int32))] [(.int (1 : Int32))]))
        obtain ⟨fs, hr, hrun, hended, hRW⟩ := X97.leaveW S94 (by rw [sm97]; exact (own_le (by omega))) (v := some (.int (1 : Int32))) (fun h => by rw [Bd.returns] at h; cases h)
        have cE := C94.trans (CHv.at (s := s) (vm0 := T94.vm) X97 Z94 hEL C94.1)
        refine ⟨_, _, retN X97 hx (t := .boolean) Bd.returns (by simp) (hb hby at_279) hr, hrun, hended, _, _, rfl, ?_, ?_, own_RW hRW (by decide) (by decide)⟩
        · change (fun (v : Option Value) (_ : Vm) (h : Heap) (L : List Loc) => v = some (.int (1 : Int32)) ∧ Fr n0 L) (some (.int (1 : Int32))) T97.vm T97.heap _; rw [sm97]; exact ⟨rfl, N97⟩
        · rw [hh]; change CHr Z consts_1 s.vm h0 T97.vm T97.heap; rw [sm97]; exact cE
      ·
        show own_G p e below _ (T94.setTop (mkF m 239 #[.val (.int p0), .val (.int p1), .val (.int p2), .val (.int (0 : Int32)), .val (.ref rl), .val (.int (2 : Int32)), .val (.int (0 : Int32)), .val (.int u0), .val (.int u1), .val (.int r0), .val (.int r1), .val (.ref b85), .val (.ref b88), .val (.ref b89), .val (.ref b92), .val (.int (0 : Int32)), .unset] []))
        refine own_st (fun tq kq => XS.iloadN X94.here hx rfl (hb hby at_239) rfl  kq) ?_
        show own_G p e below _ (T94.setTop (mkF m 240 #[.val (.int p0), .val (.int p1), .val (.int p2), .val (.int (0 : Int32)), .val (.ref rl), .val (.int (2 : Int32)), .val (.int (0 : Int32)), .val (.int u0), .val (.int u1), .val (.int r0), .val (.int r1), .val (.ref b85), .val (.ref b88), .val (.ref b89), .val (.ref b92), .val (.int (0 : Int32)), .unset] [(.int (0 : Int32))]))
        refine own_st (fun tq kq => XS.ifYes X94.here hx rfl (pc0 := 240) (pc' := 248) rfl (hb hby at_240) rfl ((if0 _ _).trans (teq (by decide : ((0 : Int32) = (0 : Int32)))).1) (by decide) (by decide) kq) ?_
        refine own_st (fun tq kq => XS.iload X94.here hx rfl (hb hby at_248) rfl  kq) ?_
        show own_G p e below _ (T94.setTop (mkF m 250 #[.val (.int p0), .val (.int p1), .val (.int p2), .val (.int (0 : Int32)), .val (.ref rl), .val (.int (2 : Int32)), .val (.int (0 : Int32)), .val (.int u0), .val (.int u1), .val (.int r0), .val (.int r1), .val (.ref b85), .val (.ref b88), .val (.ref b89), .val (.ref b92), .val (.int (0 : Int32)), .unset] [(.int (0 : Int32))]))
        refine own_st (fun tq kq => XS.ifNo X94.here hx rfl (hb hby at_250) rfl ((if0 _ _).trans (teq (by decide : ((0 : Int32) = (0 : Int32)))).2) kq) ?_
        refine own_st (fun tq kq => XS.iconst X94.here hx rfl (hb hby at_253) kq) ?_
        refine own_st (fun tq kq => XS.goto X94.here hx rfl (pc0 := 254) (pc' := 258) rfl (hb hby at_254) (by decide) (by decide) kq) ?_
        refine own_st (fun tq kq => XS.istore X94.here hx rfl (hb hby at_258) rfl (l' := #[.val (.int p0), .val (.int p1), .val (.int p2), .val (.int (0 : Int32)), .val (.ref rl), .val (.int (2 : Int32)), .val (.int (0 : Int32)), .val (.int u0), .val (.int u1), .val (.int r0), .val (.int r1), .val (.ref b85), .val (.ref b88), .val (.ref b89), .val (.ref b92), .val (.int (0 : Int32)), .val (.int (1 : Int32))]) rfl kq) ?_
        show own_G p e below _ (T94.setTop (mkF m 260 #[.val (.int p0), .val (.int p1), .val (.int p2), .val (.int (0 : Int32)), .val (.ref rl), .val (.int (2 : Int32)), .val (.int (0 : Int32)), .val (.int u0), .val (.int u1), .val (.int r0), .val (.int r1), .val (.ref b85), .val (.ref b88), .val (.ref b89), .val (.ref b92), .val (.int (0 : Int32)), .val (.int (1 : Int32))] []))
        refine own_st (fun tq kq => XS.aload X94.here hx rfl (hb hby at_260) rfl rfl kq) ?_
        refine own_st (fun tq kq => XS.aload X94.here hx rfl (hb hby at_262) rfl rfl kq) ?_
        refine own_st (fun tq kq => XS.aload X94.here hx rfl (hb hby at_264) rfl rfl kq) ?_
        show own_G p e below _ (T94.setTop (mkF m 266 #[.val (.int p0), .val (.int p1), .val (.int p2), .val (.int (0 : Int32)), .val (.ref rl), .val (.int (2 : Int32)), .val (.int (0 : Int32)), .val (.int u0), .val (.int u1), .val (.int r0), .val (.int r1), .val (.ref b85), .val (.ref b88), .val (.ref b89), .val (.ref b92), .val (.int (0 : Int32)), .val (.int (1 : Int32))] [(.ref b92), (.ref b89), (.ref rl)]))
        obtain ⟨cq98, kq98, q98a, q98b, q98c⟩ := isOf Z94 rfl (((((((((Er.ext (X00.keep K0 all0).2).ext E85).wr W86).wr W87).ext E88).ext E89).keep KK90).ext E92).keep KK94)
        obtain ⟨_, _, ⟨T98, L98, k98, n98⟩, -, X98, ⟨Lc98, hQ98, l98, y98, z98⟩, st98⟩ := X94.virtualBack hx (y := (⟨"com/example/veild/veild/policy/Constraint$Relation", "holds", "(Ljava/lang/String;Ljava/lang/String;)Z"⟩ : MethodName)) (z := (⟨"com/example/veild/veild/policy/Constraint$Relation", "holds", "(Ljava/lang/String;Ljava/lang/String;)Z"⟩ : MethodName)) o94 (mvT Z94 (hw _ (List.mem_of_getElem? (i := 36) rfl))) (mvT Z94 (hw _ (List.mem_of_getElem? (i := 37) rfl))) (notFace_of_selects (args := #[]) (mvT Z94 (hw _ (List.mem_of_getElem? (i := 39) rfl)))) (mvT Z94 (hw _ (List.mem_of_getElem? (i := 39) rfl))) (mvT Z94 (hw _ (List.mem_of_getElem? (i := 38) rfl))) (by decide) (own_backN (W := 0) (own_holds0 l Z a0 hw [] (rl) (b89) (b92) (([(nar .char u0), (nar .char u1)] : List Int32)) (([] : List Int32)) (T94.heap.size) (G1) T94.heap n0 (by omega) (X00.keep K94 all0) (Fr1.ext (X00.keep K94 all0).2) (own_Str.mono ((Str90.ext E92).keep KK94 (allS (own_le (by omega)) all0)) (by omega)) (own_Str.mono Str94 (by omega)) O2 P5) Z94 (hw _ (List.mem_of_getElem? (i := 40) rfl)) (hw _ (List.mem_of_getElem? (i := 1) rfl)) (by decide) (by decide)) q98a q98c (g := (mkF m 266 #[.val (.int p0), .val (.int p1), .val (.int p2), .val (.int (0 : Int32)), .val (.ref rl), .val (.int (2 : Int32)), .val (.int (0 : Int32)), .val (.int u0), .val (.int u1), .val (.int r0), .val (.int r1), .val (.ref b85), .val (.ref b88), .val (.ref b89), .val (.ref b92), .val (.int (0 : Int32)), .val (.int (1 : Int32))] [(.ref b92), (.ref b89), (.ref rl)])) rfl (by rw [hml]; rfl) (Steps.refl _) (argsL := [(.ref b89), (.ref b92)]) (rest := []) (lenOf own_pd3 rfl) rfl (by show 2 * 0 + _ ≤ _; exact Nat.le_of_eq rfl) (hb hby at_266) (fun _ _ => ⟨rfl, rfl, (by decide : 8 + 0 ≤ _), (by decide : 20 + 0 ≤ _)⟩)
        dsimp only [Pt.U, Pt.locs, Pt.cells, Pt.slots] at X98 l98 y98 z98 st98 hQ98
        subst l98 y98 z98
        obtain ⟨hr98, Nq98, sm98⟩ := hQ98
        obtain ⟨rfl, eq98⟩ := hr98.resolve_left (fun q => (by simp : ¬ _) q.2)
        have N98 := Fr.app N94 Nq98
        refine own_st (fun tq kq => st98.trans kq) ?_
        show own_G p e below _ (T98.setTop (mkF m 269 #[.val (.int p0), .val (.int p1), .val (.int p2), .val (.int (0 : Int32)), .val (.ref rl), .val (.int (2 : Int32)), .val (.int (0 : Int32)), .val (.int u0), .val (.int u1), .val (.int r0), .val (.int r1), .val (.ref b85), .val (.ref b88), .val (.ref b89), .val (.ref b92), .val (.int (0 : Int32)), .val (.int (1 : Int32))] [(.int (1 : Int32))]))
        refine own_st (fun tq kq => XS.iload X98.here hx rfl (hb hby at_269) rfl  kq) ?_
        show own_G p e below _ (T98.setTop (mkF m 271 #[.val (.int p0), .val (.int p1), .val (.int p2), .val (.int (0 : Int32)), .val (.ref rl), .val (.int (2 : Int32)), .val (.int (0 : Int32)), .val (.int u0), .val (.int u1), .val (.int r0), .val (.int r1), .val (.ref b85), .val (.ref b88), .val (.ref b89), .val (.ref b92), .val (.int (0 : Int32)), .val (.int (1 : Int32))] [(.int (1 : Int32)), (.int (1 : Int32))]))
        refine own_st (fun tq kq => XS.icmpNo X98.here hx rfl (hb hby at_271) rfl (teq (by decide : ((1 : Int32) = (1 : Int32)))).2 kq) ?_
        refine own_st (fun tq kq => XS.iconst X98.here hx rfl (hb hby at_274) kq) ?_
        refine own_st (fun tq kq => XS.goto X98.here hx rfl (pc0 := 275) (pc' := 279) rfl (hb hby at_275) (by decide) (by decide) kq) ?_
        show own_G p e below _ (T98.setTop (mkF m 279 #[.val (.int p0), .val (.int p1), .val (.int p2), .val (.int (0 : Int32)), .val (.ref rl), .val (.int (2 : Int32)), .val (.int (0 : Int32)), .val (.int u0), .val (.int u1), .val (.int r0), .val (.int r1), .val (.ref b85), .val (.ref b88), .val (.ref b89), .val (.ref b92), .val (.int (0 : Int32)), .val (.int (1 : Int32))] [(.int (1 : Int32))]))
        obtain ⟨fs, hr, hrun, hended, hRW⟩ := X98.leaveW S94 (by rw [sm98]; exact (own_le (by omega))) (v := some (.int (1 : Int32))) (fun h => by rw [Bd.returns] at h; cases h)
        have cE := C94.trans (CHv.at (s := s) (vm0 := T94.vm) X98 Z94 hEL C94.1)
        refine ⟨_, _, retN X98 hx (t := .boolean) Bd.returns (by simp) (hb hby at_279) hr, hrun, hended, _, _, rfl, ?_, ?_, own_RW hRW (by decide) (by decide)⟩
        · change (fun (v : Option Value) (_ : Vm) (h : Heap) (L : List Loc) => v = some (.int (1 : Int32)) ∧ Fr n0 L) (some (.int (1 : Int32))) T98.vm T98.heap _; rw [sm98]; exact ⟨rfl, N98⟩
        · rw [hh]; change CHr Z consts_1 s.vm h0 T98.vm T98.heap; rw [sm98]; exact cE
    ·
      show own_G p e below _ (T.setTop (mkF m 119 #[.val (.int p0), .val (.int p1), .val (.int p2), .val (.int sm), .val (.ref rl), .val (.int (2 : Int32)), .val (.int (1 : Int32)), .val (.int u0), .val (.int u1), .val (.int r0), .val (.int r1), .unset, .unset, .unset, .unset, .unset, .unset] []))
      refine own_st (fun tq kq => XS.iload X0.here hx rfl (hb hby at_119) rfl  kq) ?_
      show own_G p e below _ (T.setTop (mkF m 121 #[.val (.int p0), .val (.int p1), .val (.int p2), .val (.int sm), .val (.ref rl), .val (.int (2 : Int32)), .val (.int (1 : Int32)), .val (.int u0), .val (.int u1), .val (.int r0), .val (.int r1), .unset, .unset, .unset, .unset, .unset, .unset] [(.int (2 : Int32))]))
      obtain ⟨T99, h99, k99, X99, e99, E99, A99, st99⟩ := newP X0 hx hZ (hw _ (List.mem_of_getElem? (i := 3) rfl)) e0 (g := (mkF m 121 #[.val (.int p0), .val (.int p1), .val (.int p2), .val (.int sm), .val (.ref rl), .val (.int (2 : Int32)), .val (.int (1 : Int32)), .val (.int u0), .val (.int u1), .val (.int r0), .val (.int r1), .unset, .unset, .unset, .unset, .unset, .unset] [(.int (2 : Int32))])) rfl (hb hby at_121) rfl (by decide) (cap := 2) (by decide) (by decide) (by decide) (by decide)
      obtain ⟨b99, g99⟩ : ∃ z, z = h0.size := ⟨_, rfl⟩
      rw [← g99] at A99 st99
      have lt99 : b99 < h99.size := A99.lt
      have V99 : Arv Z h99 b99 k99 .char (2 : Int32) [(.int (0 : Int32)), (.int (0 : Int32))] (.int (0 : Int32)) := (Arv.new A99 (by decide)).pad (pad_rep [] (.int (0 : Int32)) 2)
      have sz99 : h0.size ≤ h99.size := E99.1
      have K99 : Keep h0 h99 [] := K0.ext E99
      have c99 : CHr Z consts_1 s.vm h0 s.vm h99 := CHr.ext E99 C0.1
      have C99 := C0.trans c99
      refine own_st st99 ?_
      show own_G p e below _ (T99.setTop (mkF m 123 #[.val (.int p0), .val (.int p1), .val (.int p2), .val (.int sm), .val (.ref rl), .val (.int (2 : Int32)), .val (.int (1 : Int32)), .val (.int u0), .val (.int u1), .val (.int r0), .val (.int r1), .unset, .unset, .unset, .unset, .unset, .unset] [(.ref b99)]))
      refine own_st (fun tq kq => XS.astore X99.here hx rfl (hb hby at_123) rfl rfl (l' := #[.val (.int p0), .val (.int p1), .val (.int p2), .val (.int sm), .val (.ref rl), .val (.int (2 : Int32)), .val (.int (1 : Int32)), .val (.int u0), .val (.int u1), .val (.int r0), .val (.int r1), .val (.ref b99), .unset, .unset, .unset, .unset, .unset]) rfl kq) ?_
      refine own_st (fun tq kq => XS.iload X99.here hx rfl (hb hby at_125) rfl  kq) ?_
      show own_G p e below _ (T99.setTop (mkF m 127 #[.val (.int p0), .val (.int p1), .val (.int p2), .val (.int sm), .val (.ref rl), .val (.int (2 : Int32)), .val (.int (1 : Int32)), .val (.int u0), .val (.int u1), .val (.int r0), .val (.int r1), .val (.ref b99), .unset, .unset, .unset, .unset, .unset] [(.int (2 : Int32))]))
      refine own_st (fun tq kq => XS.ifNo X99.here hx rfl (hb hby at_127) rfl ((if0 _ _).trans (tlt (by decide : ((0 : Int32) < (2 : Int32)))).2.2.2) kq) ?_
      refine own_st (fun tq kq => XS.aload X99.here hx rfl (hb hby at_130) rfl rfl kq) ?_
      refine own_st (fun tq kq => XS.iconst X99.here hx rfl (hb hby at_132) kq) ?_
      refine own_st (fun tq kq => XS.iload X99.here hx rfl (hb hby at_133) rfl  kq) ?_
      show own_G p e below _ (T99.setTop (mkF m 135 #[.val (.int p0), .val (.int p1), .val (.int p2), .val (.int sm), .val (.ref rl), .val (.int (2 : Int32)), .val (.int (1 : Int32)), .val (.int u0), .val (.int u1), .val (.int r0), .val (.int r1), .val (.ref b99), .unset, .unset, .unset, .unset, .unset] [(.int u0), (.int (0 : Int32)), (.ref b99)]))
      obtain ⟨cl100, Ar100, q100, S_100, N_100, H_100, G_100⟩ := id V99
      have in100 : ¬ ((0 : Int32) < 0 ∨ cl100.slots.size ≤ ((0 : Int32)).toNatClampNeg) := inb_of S_100 ⟨by decide, by decide⟩
      obtain ⟨T100, h100, X100, e100, W100, st100⟩ := stC X99 hx hZ e99 Ar100 (j := (0 : Int32)) in100 (g := (mkF m 135 #[.val (.int p0), .val (.int p1), .val (.int p2), .val (.int sm), .val (.ref rl), .val (.int (2 : Int32)), .val (.int (1 : Int32)), .val (.int u0), .val (.int u1), .val (.int r0), .val (.int r1), .val (.ref b99), .unset, .unset, .unset, .unset, .unset] [(.int u0), (.int (0 : Int32)), (.ref b99)])) rfl rfl (hb hby at_135)
      have V100 := Arv.set Ar100 q100 S_100 N_100 H_100 G_100 (fits_nar_char _) W100 0 rfl (Nat.le_of_ble_eq_true rfl)
      have sz100 : h99.size ≤ h100.size := (Keep.of_wr W100).1
      have K100 : Keep h0 h100 [] := K99.wr W100 (Or.inr (own_le (by omega)))
      have c100 : CHr Z consts_1 s.vm h99 s.vm h100 := CHr.wr W100 (Safe.arr hZ.alike Ar100 (by decide)) C99.1
      have C100 := C99.trans c100
      have N100 := Fr.snoc X100 N0 (own_le (by omega))
      refine own_st st100 ?_
      show own_G p e below _ (T100.setTop (mkF m 136 #[.val (.int p0), .val (.int p1), .val (.int p2), .val (.int sm), .val (.ref rl), .val (.int (2 : Int32)), .val (.int (1 : Int32)), .val (.int u0), .val (.int u1), .val (.int r0), .val (.int r1), .val (.ref b99), .unset, .unset, .unset, .unset, .unset] []))
      refine own_st (fun tq kq => XS.iload X100.here hx rfl (hb hby at_136) rfl  kq) ?_
      refine own_st (fun tq kq => XS.iconst X100.here hx rfl (hb hby at_138) kq) ?_
      show own_G p e below _ (T100.setTop (mkF m 139 #[.val (.int p0), .val (.int p1), .val (.int p2), .val (.int sm), .val (.ref rl), .val (.int (2 : Int32)), .val (.int (1 : Int32)), .val (.int u0), .val (.int u1), .val (.int r0), .val (.int r1), .val (.ref b99), .unset, .unset, .unset, .unset, .unset] [(.int (1 : Int32)), (.int (2 : Int32))]))
      refine own_st (fun tq kq => XS.icmpNo X100.here hx rfl (hb hby at_139) rfl (tlt (by decide : ((1 : Int32) < (2 : Int32)))).2.2.2 kq) ?_
      refine own_st (fun tq kq => XS.aload X100.here hx rfl (hb hby at_142) rfl rfl kq) ?_
      refine own_st (fun tq kq => XS.iconst X100.here hx rfl (hb hby at_144) kq) ?_
      refine own_st (fun tq kq => XS.iload X100.here hx rfl (hb hby at_145) rfl  kq) ?_
      show own_G p e below _ (T100.setTop (mkF m 147 #[.val (.int p0), .val (.int p1), .val (.int p2), .val (.int sm), .val (.ref rl), .val (.int (2 : Int32)), .val (.int (1 : Int32)), .val (.int u0), .val (.int u1), .val (.int r0), .val (.int r1), .val (.ref b99), .unset, .unset, .unset, .unset, .unset] [(.int u1), (.int (1 : Int32)), (.ref b99)]))
      obtain ⟨cl101, Ar101, q101, S_101, N_101, H_101, G_101⟩ := id V100
      have in101 : ¬ ((1 : Int32) < 0 ∨ cl101.slots.size ≤ ((1 : Int32)).toNatClampNeg) := inb_of S_101 ⟨by decide, by decide⟩
      obtain ⟨T101, h101, X101, e101, W101, st101⟩ := stC X100 hx hZ e100 Ar101 (j := (1 : Int32)) in101 (g := (mkF m 147 #[.val (.int p0), .val (.int p1), .val (.int p2), .val (.int sm), .val (.ref rl), .val (.int (2 : Int32)), .val (.int (1 : Int32)), .val (.int u0), .val (.int u1), .val (.int r0), .val (.int r1), .val (.ref b99), .unset, .unset, .unset, .unset, .unset] [(.int u1), (.int (1 : Int32)), (.ref b99)])) rfl rfl (hb hby at_147)
      have V101 := Arv.set Ar101 q101 S_101 N_101 H_101 G_101 (fits_nar_char _) W101 1 rfl (Nat.le_of_ble_eq_true rfl)
      have sz101 : h100.size ≤ h101.size := (Keep.of_wr W101).1
      have K101 : Keep h0 h101 [] := K100.wr W101 (Or.inr (own_le (by omega)))
      have c101 : CHr Z consts_1 s.vm h100 s.vm h101 := CHr.wr W101 (Safe.arr hZ.alike Ar101 (by decide)) C100.1
      have C101 := C100.trans c101
      have N101 := Fr.snoc X101 N100 (own_le (by omega))
      refine own_st st101 ?_
      show own_G p e below _ (T101.setTop (mkF m 148 #[.val (.int p0), .val (.int p1), .val (.int p2), .val (.int sm), .val (.ref rl), .val (.int (2 : Int32)), .val (.int (1 : Int32)), .val (.int u0), .val (.int u1), .val (.int r0), .val (.int r1), .val (.ref b99), .unset, .unset, .unset, .unset, .unset] []))
      refine own_st (fun tq kq => XS.iload X101.here hx rfl (hb hby at_148) rfl  kq) ?_
      show own_G p e below _ (T101.setTop (mkF m 150 #[.val (.int p0), .val (.int p1), .val (.int p2), .val (.int sm), .val (.ref rl), .val (.int (2 : Int32)), .val (.int (1 : Int32)), .val (.int u0), .val (.int u1), .val (.int r0), .val (.int r1), .val (.ref b99), .unset, .unset, .unset, .unset, .unset] [(.int (1 : Int32))]))
      obtain ⟨T102, h102, k102, X102, e102, E102, A102, st102⟩ := newP X101 hx hZ (hw _ (List.mem_of_getElem? (i := 3) rfl)) e101 (g := (mkF m 150 #[.val (.int p0), .val (.int p1), .val (.int p2), .val (.int sm), .val (.ref rl), .val (.int (2 : Int32)), .val (.int (1 : Int32)), .val (.int u0), .val (.int u1), .val (.int r0), .val (.int r1), .val (.ref b99), .unset, .unset, .unset, .unset, .unset] [(.int (1 : Int32))])) rfl (hb hby at_150) rfl (by decide) (cap := 1) (by decide) (by decide) (by decide) (by decide)
      obtain ⟨b102, g102⟩ : ∃ z, z = h101.size := ⟨_, rfl⟩
      rw [← g102] at A102 st102
      have lt102 : b102 < h102.size := A102.lt
      have V102 : Arv Z h102 b102 k102 .char (1 : Int32) [(.int (0 : Int32))] (.int (0 : Int32)) := (Arv.new A102 (by decide)).pad (pad_rep [] (.int (0 : Int32)) 1)
      have sz102 : h101.size ≤ h102.size := E102.1
      have K102 : Keep h0 h102 [] := K101.ext E102
      have c102 : CHr Z consts_1 s.vm h101 s.vm h102 := CHr.ext E102 C101.1
      have C102 := C101.trans c102
      refine own_st st102 ?_
      show own_G p e below _ (T102.setTop (mkF m 152 #[.val (.int p0), .val (.int p1), .val (.int p2), .val (.int sm), .val (.ref rl), .val (.int (2 : Int32)), .val (.int (1 : Int32)), .val (.int u0), .val (.int u1), .val (.int r0), .val (.int r1), .val (.ref b99), .unset, .unset, .unset, .unset, .unset] [(.ref b102)]))
      refine own_st (fun tq kq => XS.astore X102.here hx rfl (hb hby at_152) rfl rfl (l' := #[.val (.int p0), .val (.int p1), .val (.int p2), .val (.int sm), .val (.ref rl), .val (.int (2 : Int32)), .val (.int (1 : Int32)), .val (.int u0), .val (.int u1), .val (.int r0), .val (.int r1), .val (.ref b99), .val (.ref b102), .unset, .unset, .unset, .unset]) rfl kq) ?_
      refine own_st (fun tq kq => XS.iload X102.here hx rfl (hb hby at_154) rfl  kq) ?_
      show own_G p e below _ (T102.setTop (mkF m 156 #[.val (.int p0), .val (.int p1), .val (.int p2), .val (.int sm), .val (.ref rl), .val (.int (2 : Int32)), .val (.int (1 : Int32)), .val (.int u0), .val (.int u1), .val (.int r0), .val (.int r1), .val (.ref b99), .val (.ref b102), .unset, .unset, .unset, .unset] [(.int (1 : Int32))]))
      refine own_st (fun tq kq => XS.ifNo X102.here hx rfl (hb hby at_156) rfl ((if0 _ _).trans (tlt (by decide : ((0 : Int32) < (1 : Int32)))).2.2.2) kq) ?_
      refine own_st (fun tq kq => XS.aload X102.here hx rfl (hb hby at_159) rfl rfl kq) ?_
      refine own_st (fun tq kq => XS.iconst X102.here hx rfl (hb hby at_161) kq) ?_
      refine own_st (fun tq kq => XS.iload X102.here hx rfl (hb hby at_162) rfl  kq) ?_
      show own_G p e below _ (T102.setTop (mkF m 164 #[.val (.int p0), .val (.int p1), .val (.int p2), .val (.int sm), .val (.ref rl), .val (.int (2 : Int32)), .val (.int (1 : Int32)), .val (.int u0), .val (.int u1), .val (.int r0), .val (.int r1), .val (.ref b99), .val (.ref b102), .unset, .unset, .unset, .unset] [(.int r0), (.int (0 : Int32)), (.ref b102)]))
      obtain ⟨cl103, Ar103, q103, S_103, N_103, H_103, G_103⟩ := id V102
      have in103 : ¬ ((0 : Int32) < 0 ∨ cl103.slots.size ≤ ((0 : Int32)).toNatClampNeg) := inb_of S_103 ⟨by decide, by decide⟩
      obtain ⟨T103, h103, X103, e103, W103, st103⟩ := stC X102 hx hZ e102 Ar103 (j := (0 : Int32)) in103 (g := (mkF m 164 #[.val (.int p0), .val (.int p1), .val (.int p2), .val (.int sm), .val (.ref rl), .val (.int (2 : Int32)), .val (.int (1 : Int32)), .val (.int u0), .val (.int u1), .val (.int r0), .val (.int r1), .val (.ref b99), .val (.ref b102), .unset, .unset, .unset, .unset] [(.int r0), (.int (0 : Int32)), (.ref b102)])) rfl rfl (hb hby at_164)
      have V103 := Arv.set Ar103 q103 S_103 N_103 H_103 G_103 (fits_nar_char _) W103 0 rfl (Nat.le_of_ble_eq_true rfl)
      have sz103 : h102.size ≤ h103.size := (Keep.of_wr W103).1
      have K103 : Keep h0 h103 [] := K102.wr W103 (Or.inr (own_le (by omega)))
      have c103 : CHr Z consts_1 s.vm h102 s.vm h103 := CHr.wr W103 (Safe.arr hZ.alike Ar103 (by decide)) C102.1
      have C103 := C102.trans c103
      have N103 := Fr.snoc X103 N101 (own_le (by omega))
      refine own_st st103 ?_
      show own_G p e below _ (T103.setTop (mkF m 165 #[.val (.int p0), .val (.int p1), .val (.int p2), .val (.int sm), .val (.ref rl), .val (.int (2 : Int32)), .val (.int (1 : Int32)), .val (.int u0), .val (.int u1), .val (.int r0), .val (.int r1), .val (.ref b99), .val (.ref b102), .unset, .unset, .unset, .unset] []))
      refine own_st (fun tq kq => XS.iload X103.here hx rfl (hb hby at_165) rfl  kq) ?_
      refine own_st (fun tq kq => XS.iconst X103.here hx rfl (hb hby at_167) kq) ?_
      show own_G p e below _ (T103.setTop (mkF m 168 #[.val (.int p0), .val (.int p1), .val (.int p2), .val (.int sm), .val (.ref rl), .val (.int (2 : Int32)), .val (.int (1 : Int32)), .val (.int u0), .val (.int u1), .val (.int r0), .val (.int r1), .val (.ref b99), .val (.ref b102), .unset, .unset, .unset, .unset] [(.int (1 : Int32)), (.int (1 : Int32))]))
      refine own_st (fun tq kq => XS.icmpYes X103.here hx rfl (pc0 := 168) (pc' := 177) rfl (hb hby at_168) rfl (flt (by decide : ¬ ((1 : Int32) < (1 : Int32)))).2.2.2 (by decide) (by decide) kq) ?_
      show own_G p e below _ (T103.setTop (mkF m 177 #[.val (.int p0), .val (.int p1), .val (.int p2), .val (.int sm), .val (.ref rl), .val (.int (2 : Int32)), .val (.int (1 : Int32)), .val (.int u0), .val (.int u1), .val (.int r0), .val (.int r1), .val (.ref b99), .val (.ref b102), .unset, .unset, .unset, .unset] []))
      obtain ⟨T104, h104, X104, e104, E104, A104, D104, -, st104⟩ := newO X103 hx hZ hown (hw _ (List.mem_of_getElem? (i := 4) rfl)) (hw _ (List.mem_of_getElem? (i := 5) rfl)) (hw _ (List.mem_of_getElem? (i := 6) rfl)) e103 (g := (mkF m 177 #[.val (.int p0), .val (.int p1), .val (.int p2), .val (.int sm), .val (.ref rl), .val (.int (2 : Int32)), .val (.int (1 : Int32)), .val (.int u0), .val (.int u1), .val (.int r0), .val (.int r1), .val (.ref b99), .val (.ref b102), .unset, .unset, .unset, .unset] [])) rfl (hb hby at_177) (by decide) (by decide)
      obtain ⟨b104, g104⟩ : ∃ z, z = h103.size := ⟨_, rfl⟩
      rw [← g104] at A104 D104 st104
      have lt104 : b104 < h104.size := A104.lt
      have Sn104 : Safe Z consts_1 s.vm h103 b104 := Safe.new (own_le (by omega))
      have sz104 : h103.size ≤ h104.size := E104.1
      have K104 : Keep h0 h104 [] := K103.ext E104
      have c104 : CHr Z consts_1 s.vm h103 s.vm h104 := CHr.ext E104 C103.1
      have C104 := C103.trans c104
      have Sf104 : Safe Z consts_1 s.vm h104 b104 := Safe.ext E104 C103.1 Sn104
      have F104_coder : Fld Z h104 b104 "java/lang/String" "coder" "B" (.int (0 : Int32)) := D104 (Or.inr (hw _ (List.mem_of_getElem? (i := 30) rfl))) (ty := .byte) (by decide)
      have F104_value : Fld Z h104 b104 "java/lang/String" "value" "[B" .null := D104 (Or.inr (hw _ (List.mem_of_getElem? (i := 32) rfl))) (ty := (.array .byte)) (by decide)
      refine own_st st104 ?_
      show own_G p e below _ (T104.setTop (mkF m 180 #[.val (.int p0), .val (.int p1), .val (.int p2), .val (.int sm), .val (.ref rl), .val (.int (2 : Int32)), .val (.int (1 : Int32)), .val (.int u0), .val (.int u1), .val (.int r0), .val (.int r1), .val (.ref b99), .val (.ref b102), .unset, .unset, .unset, .unset] [(.ref b104)]))
      refine own_st (fun tq kq => XS.dup X104.here hx rfl (hb hby at_180) rfl rfl kq) ?_
      refine own_st (fun tq kq => XS.aload X104.here hx rfl (hb hby at_181) rfl rfl kq) ?_
      show own_G p e below _ (T104.setTop (mkF m 183 #[.val (.int p0), .val (.int p1), .val (.int p2), .val (.int sm), .val (.ref rl), .val (.int (2 : Int32)), .val (.int (1 : Int32)), .val (.int u0), .val (.int u1), .val (.int r0), .val (.int r1), .val (.ref b99), .val (.ref b102), .unset, .unset, .unset, .unset] [(.ref b99), (.ref b104), (.ref b104)]))
      have hp105 : ∀ c ∈ ([(nar .char u0), (nar .char u1)] : List Int32), ¬ c < 0 ∧ ¬ (255 : Int32) < c := by
        intro c hc
        simp only [List.mem_cons, List.not_mem_nil, or_false] at hc
        rcases hc with rfl | rfl
        · assumption
        · assumption
      obtain ⟨_, _, ⟨T105, L105, k105, n105⟩, -, Y105, S105p, gr105, ⟨Lc105, hQ105, l105, y105, z105, c105⟩, st105⟩ := X104.specialBackS hx (y := (⟨"java/lang/String", "<init>", "([C)V"⟩ : MethodName)) rfl hown (mvT hZ (hw _ (List.mem_of_getElem? (i := 7) rfl))) (mvT hZ (hw _ (List.mem_of_getElem? (i := 8) rfl))) (mvT hZ (hw _ (List.mem_of_getElem? (i := 9) rfl))) (by decide) (own_newStr (s := s) (vm0 := s.vm) (W := 1) hZ hw hEL C104.1 (cs := ([(nar .char u0), (nar .char u1)] : List Int32)) (n := 2) (n0 := n0) Sf104 (by omega) (X00.keep K104 all0) A104 F104_value F104_coder (((V101.ext E102).other W103 (own_ne (by omega))).ext E104) O2 P5 rfl rfl (by decide) hp105 (by decide) (by decide)) (g := (mkF m 183 #[.val (.int p0), .val (.int p1), .val (.int p2), .val (.int sm), .val (.ref rl), .val (.int (2 : Int32)), .val (.int (1 : Int32)), .val (.int u0), .val (.int u1), .val (.int r0), .val (.int r1), .val (.ref b99), .val (.ref b102), .unset, .unset, .unset, .unset] [(.ref b99), (.ref b104), (.ref b104)])) rfl (by rw [hml]; rfl) (Steps.refl _) (a := b104) (argsL := [(.ref b99)]) (rest := [(.ref b104)]) (lenOf own_pd2 rfl) rfl (by show 2 * 0 + _ ≤ _; exact Nat.le_of_eq rfl) (hb hby at_183) (fun _ _ => ⟨rfl, e104, (by decide : 3 + 2 ≤ _), (by decide : 7 + 6 ≤ _)⟩)
      dsimp only [Pt.U, Pt.locs, Pt.cells, Pt.slots] at Y105 S105p gr105 l105 y105 z105 st105 hQ105 c105
      subst l105 y105 z105
      obtain ⟨X105, S105, Z105, o105⟩ := rebS S0 (by rw [e104]; exact (own_le (by omega))) Y105 S105p gr105 hZ hown
      obtain ⟨rfl, Nq105, Kq105, Str105⟩ := hQ105
      have KK105 : Keep h104 T105.heap [b104] := Kq105
      have sz105 : h104.size ≤ T105.heap.size := KK105.1
      have K105 : Keep h0 T105.heap [] := K104.trans KK105 (allS (Or.inr (own_le (by omega))) all0)
      have C105 := C104.trans c105
      have Sf105_106 := c105.safe (own_lt (by omega)) Sf104
      have N105 := Fr.app N103 Nq105
      refine own_st (fun tq kq => st105.trans kq) ?_
      show own_G p e below _ (T105.setTop (mkF m 186 #[.val (.int p0), .val (.int p1), .val (.int p2), .val (.int sm), .val (.ref rl), .val (.int (2 : Int32)), .val (.int (1 : Int32)), .val (.int u0), .val (.int u1), .val (.int r0), .val (.int r1), .val (.ref b99), .val (.ref b102), .unset, .unset, .unset, .unset] [(.ref b104)]))
      refine own_st (fun tq kq => XS.astore X105.here hx rfl (hb hby at_186) rfl rfl (l' := #[.val (.int p0), .val (.int p1), .val (.int p2), .val (.int sm), .val (.ref rl), .val (.int (2 : Int32)), .val (.int (1 : Int32)), .val (.int u0), .val (.int u1), .val (.int r0), .val (.int r1), .val (.ref b99), .val (.ref b102), .val (.ref b104), .unset, .unset, .unset]) rfl kq) ?_
      show own_G p e below _ (T105.setTop (mkF m 188 #[.val (.int p0), .val (.int p1), .val (.int p2), .val (.int sm), .val (.ref rl), .val (.int (2 : Int32)), .val (.int (1 : Int32)), .val (.int u0), .val (.int u1), .val (.int r0), .val (.int r1), .val (.ref b99), .val (.ref b102), .val (.ref b104), .unset, .unset, .unset] []))
      obtain ⟨T107, h107, X107, e107, E107, A107, D107, -, st107⟩ := newO X105 hx Z105 o105 (hw _ (List.mem_of_getElem? (i := 4) rfl)) (hw _ (List.mem_of_getElem? (i := 5) rfl)) (hw _ (List.mem_of_getElem? (i := 6) rfl)) rfl (g := (mkF m 188 #[.val (.int p0), .val (.int p1), .val (.int p2), .val (.int sm), .val (.ref rl), .val (.int (2 : Int32)), .val (.int (1 : Int32)), .val (.int u0), .val (.int u1), .val (.int r0), .val (.int r1), .val (.ref b99), .val (.ref b102), .val (.ref b104), .unset, .unset, .unset] [])) rfl (hb hby at_188) (by decide) (by decide)
      obtain ⟨b107, g107⟩ : ∃ z, z = T105.heap.size := ⟨_, rfl⟩
      rw [← g107] at A107 D107 st107
      have lt107 : b107 < h107.size := A107.lt
      have Sn107 : Safe Z consts_1 T105.vm T105.heap b107 := Safe.new (own_le (by omega))
      have sz107 : T105.heap.size ≤ h107.size := E107.1
      have K107 : Keep h0 h107 [] := K105.ext E107
      have c107 : CHr Z consts_1 T105.vm T105.heap T105.vm h107 := CHr.ext E107 C105.1
      have C107 := C105.trans c107
      have Sf107_108 := c107.safe (own_lt (by omega)) Sf105_106
      have Sf107 : Safe Z consts_1 T105.vm h107 b107 := Safe.ext E107 C105.1 Sn107
      have F107_coder : Fld Z h107 b107 "java/lang/String" "coder" "B" (.int (0 : Int32)) := D107 (Or.inr (hw _ (List.mem_of_getElem? (i := 30) rfl))) (ty := .byte) (by decide)
      have F107_value : Fld Z h107 b107 "java/lang/String" "value" "[B" .null := D107 (Or.inr (hw _ (List.mem_of_getElem? (i := 32) rfl))) (ty := (.array .byte)) (by decide)
      refine own_st st107 ?_
      show own_G p e below _ (T107.setTop (mkF m 191 #[.val (.int p0), .val (.int p1), .val (.int p2), .val (.int sm), .val (.ref rl), .val (.int (2 : Int32)), .val (.int (1 : Int32)), .val (.int u0), .val (.int u1), .val (.int r0), .val (.int r1), .val (.ref b99), .val (.ref b102), .val (.ref b104), .unset, .unset, .unset] [(.ref b107)]))
      refine own_st (fun tq kq => XS.dup X107.here hx rfl (hb hby at_191) rfl rfl kq) ?_
      refine own_st (fun tq kq => XS.aload X107.here hx rfl (hb hby at_192) rfl rfl kq) ?_
      show own_G p e below _ (T107.setTop (mkF m 194 #[.val (.int p0), .val (.int p1), .val (.int p2), .val (.int sm), .val (.ref rl), .val (.int (2 : Int32)), .val (.int (1 : Int32)), .val (.int u0), .val (.int u1), .val (.int r0), .val (.int r1), .val (.ref b99), .val (.ref b102), .val (.ref b104), .unset, .unset, .unset] [(.ref b102), (.ref b107), (.ref b107)]))
      have hp109 : ∀ c ∈ ([(nar .char r0)] : List Int32), ¬ c < 0 ∧ ¬ (255 : Int32) < c := by
        intro c hc
        simp only [List.mem_cons, List.not_mem_nil, or_false] at hc
        rcases hc with rfl
        · assumption
      obtain ⟨_, _, ⟨T109, L109, k109, n109⟩, -, Y109, S109p, gr109, ⟨Lc109, hQ109, l109, y109, z109, c109⟩, st109⟩ := X107.specialBackS hx (y := (⟨"java/lang/String", "<init>", "([C)V"⟩ : MethodName)) rfl o105 (mvT Z105 (hw _ (List.mem_of_getElem? (i := 7) rfl))) (mvT Z105 (hw _ (List.mem_of_getElem? (i := 8) rfl))) (mvT Z105 (hw _ (List.mem_of_getElem? (i := 9) rfl))) (by decide) (own_newStr (s := s) (vm0 := T105.vm) (W := 1) Z105 hw hEL C107.1 (cs := ([(nar .char r0)] : List Int32)) (n := 1) (n0 := n0) Sf107 (by omega) (X00.keep K107 all0) A107 F107_value F107_coder (((V103.ext E104).keep KK105 (ninS (own_ne (by omega)) nin0)).ext E107) O2 P5 rfl rfl (by decide) hp109 (by decide) (by decide)) (g := (mkF m 194 #[.val (.int p0), .val (.int p1), .val (.int p2), .val (.int sm), .val (.ref rl), .val (.int (2 : Int32)), .val (.int (1 : Int32)), .val (.int u0), .val (.int u1), .val (.int r0), .val (.int r1), .val (.ref b99), .val (.ref b102), .val (.ref b104), .unset, .unset, .unset] [(.ref b102), (.ref b107), (.ref b107)])) rfl (by rw [hml]; rfl) (Steps.refl _) (a := b107) (argsL := [(.ref b102)]) (rest := [(.ref b107)]) (lenOf own_pd2 rfl) rfl (by show 2 * 0 + _ ≤ _; exact Nat.le_of_eq rfl) (hb hby at_194) (fun _ _ => ⟨rfl, e107, (by decide : 6 + 2 ≤ _), (by decide : 17 + 5 ≤ _)⟩)
      dsimp only [Pt.U, Pt.locs, Pt.cells, Pt.slots] at Y109 S109p gr109 l109 y109 z109 st109 hQ109 c109
      subst l109 y109 z109
      obtain ⟨X109, S109, Z109, o109⟩ := rebS S105 (by rw [e107]; exact (own_le (by omega))) Y109 S109p gr109 Z105 o105
      obtain ⟨rfl, Nq109, Kq109, Str109⟩ := hQ109
      have KK109 : Keep h107 T109.heap [b107] := Kq109
      have sz109 : h107.size ≤ T109.heap.size := KK109.1
      have K109 : Keep h0 T109.heap [] := K107.trans KK109 (allS (Or.inr (own_le (by omega))) all0)
      have C109 := C107.trans c109
      have Sf109_110 := c109.safe (own_lt (by omega)) Sf107_108
      have Sf109_111 := c109.safe (own_lt (by omega)) Sf107
      have N109 := Fr.app N105 Nq109
      refine own_st (fun tq kq => st109.trans kq) ?_
      show own_G p e below _ (T109.setTop (mkF m 197 #[.val (.int p0), .val (.int p1), .val (.int p2), .val (.int sm), .val (.ref rl), .val (.int (2 : Int32)), .val (.int (1 : Int32)), .val (.int u0), .val (.int u1), .val (.int r0), .val (.int r1), .val (.ref b99), .val (.ref b102), .val (.ref b104), .unset, .unset, .unset] [(.ref b107)]))
      refine own_st (fun tq kq => XS.astore X109.here hx rfl (hb hby at_197) rfl rfl (l' := #[.val (.int p0), .val (.int p1), .val (.int p2), .val (.int sm), .val (.ref rl), .val (.int (2 : Int32)), .val (.int (1 : Int32)), .val (.int u0), .val (.int u1), .val (.int r0), .val (.int r1), .val (.ref b99), .val (.ref b102), .val (.ref b104), .val (.ref b107), .unset, .unset]) rfl kq) ?_
      refine own_st (fun tq kq => XS.iload X109.here hx rfl (hb hby at_199) rfl  kq) ?_
      refine own_st (fun tq kq => XS.iload X109.here hx rfl (hb hby at_201) rfl  kq) ?_
      show own_G p e below _ (T109.setTop (mkF m 203 #[.val (.int p0), .val (.int p1), .val (.int p2), .val (.int sm), .val (.ref rl), .val (.int (2 : Int32)), .val (.int (1 : Int32)), .val (.int u0), .val (.int u1), .val (.int r0), .val (.int r1), .val (.ref b99), .val (.ref b102), .val (.ref b104), .val (.ref b107), .unset, .unset] [(.int (1 : Int32)), (.int (2 : Int32))]))
      refine own_st (fun tq kq => XS.icmpYes X109.here hx rfl (pc0 := 203) (pc' := 236) rfl (hb hby at_203) rfl (feq (by decide : ¬ ((2 : Int32) = (1 : Int32)))).2 (by decide) (by decide) kq) ?_
      refine own_st (fun tq kq => XS.iconst X109.here hx rfl (hb hby at_236) kq) ?_
      refine own_st (fun tq kq => XS.istore X109.here hx rfl (hb hby at_237) rfl (l' := #[.val (.int p0), .val (.int p1), .val (.int p2), .val (.int sm), .val (.ref rl), .val (.int (2 : Int32)), .val (.int (1 : Int32)), .val (.int u0), .val (.int u1), .val (.int r0), .val (.int r1), .val (.ref b99), .val (.ref b102), .val (.ref b104), .val (.ref b107), .val (.int (0 : Int32)), .unset]) rfl kq) ?_
      show own_G p e below _ (T109.setTop (mkF m 239 #[.val (.int p0), .val (.int p1), .val (.int p2), .val (.int sm), .val (.ref rl), .val (.int (2 : Int32)), .val (.int (1 : Int32)), .val (.int u0), .val (.int u1), .val (.int r0), .val (.int r1), .val (.ref b99), .val (.ref b102), .val (.ref b104), .val (.ref b107), .val (.int (0 : Int32)), .unset] []))
      rcases hsm with rfl | rfl
      ·
        show own_G p e below _ (T109.setTop (mkF m 239 #[.val (.int p0), .val (.int p1), .val (.int p2), .val (.int (1 : Int32)), .val (.ref rl), .val (.int (2 : Int32)), .val (.int (1 : Int32)), .val (.int u0), .val (.int u1), .val (.int r0), .val (.int r1), .val (.ref b99), .val (.ref b102), .val (.ref b104), .val (.ref b107), .val (.int (0 : Int32)), .unset] []))
        refine own_st (fun tq kq => XS.iloadN X109.here hx rfl (hb hby at_239) rfl  kq) ?_
        show own_G p e below _ (T109.setTop (mkF m 240 #[.val (.int p0), .val (.int p1), .val (.int p2), .val (.int (1 : Int32)), .val (.ref rl), .val (.int (2 : Int32)), .val (.int (1 : Int32)), .val (.int u0), .val (.int u1), .val (.int r0), .val (.int r1), .val (.ref b99), .val (.ref b102), .val (.ref b104), .val (.ref b107), .val (.int (0 : Int32)), .unset] [(.int (1 : Int32))]))
        refine own_st (fun tq kq => XS.ifNo X109.here hx rfl (hb hby at_240) rfl ((if0 _ _).trans (feq (by decide : ¬ ((1 : Int32) = (0 : Int32)))).1) kq) ?_
        refine own_st (fun tq kq => XS.iload X109.here hx rfl (hb hby at_243) rfl  kq) ?_
        refine own_st (fun tq kq => XS.goto X109.here hx rfl (pc0 := 245) (pc' := 258) rfl (hb hby at_245) (by decide) (by decide) kq) ?_
        refine own_st (fun tq kq => XS.istore X109.here hx rfl (hb hby at_258) rfl (l' := #[.val (.int p0), .val (.int p1), .val (.int p2), .val (.int (1 : Int32)), .val (.ref rl), .val (.int (2 : Int32)), .val (.int (1 : Int32)), .val (.int u0), .val (.int u1), .val (.int r0), .val (.int r1), .val (.ref b99), .val (.ref b102), .val (.ref b104), .val (.ref b107), .val (.int (0 : Int32)), .val (.int (0 : Int32))]) rfl kq) ?_
        show own_G p e below _ (T109.setTop (mkF m 260 #[.val (.int p0), .val (.int p1), .val (.int p2), .val (.int (1 : Int32)), .val (.ref rl), .val (.int (2 : Int32)), .val (.int (1 : Int32)), .val (.int u0), .val (.int u1), .val (.int r0), .val (.int r1), .val (.ref b99), .val (.ref b102), .val (.ref b104), .val (.ref b107), .val (.int (0 : Int32)), .val (.int (0 : Int32))] []))
        refine own_st (fun tq kq => XS.aload X109.here hx rfl (hb hby at_260) rfl rfl kq) ?_
        refine own_st (fun tq kq => XS.aload X109.here hx rfl (hb hby at_262) rfl rfl kq) ?_
        refine own_st (fun tq kq => XS.aload X109.here hx rfl (hb hby at_264) rfl rfl kq) ?_
        show own_G p e below _ (T109.setTop (mkF m 266 #[.val (.int p0), .val (.int p1), .val (.int p2), .val (.int (1 : Int32)), .val (.ref rl), .val (.int (2 : Int32)), .val (.int (1 : Int32)), .val (.int u0), .val (.int u1), .val (.int r0), .val (.int r1), .val (.ref b99), .val (.ref b102), .val (.ref b104), .val (.ref b107), .val (.int (0 : Int32)), .val (.int (0 : Int32))] [(.ref b107), (.ref b104), (.ref rl)]))
        obtain ⟨cq112, kq112, q112a, q112b, q112c⟩ := isOf Z109 rfl ((((((((((Er.ext (X00.keep K0 all0).2).ext E99).wr W100).wr W101).ext E102).wr W103).ext E104).keep KK105).ext E107).keep KK109)
        obtain ⟨_, _, ⟨T112, L112, k112, n112⟩, -, X112, ⟨Lc112, hQ112, l112, y112, z112⟩, st112⟩ := X109.virtualBack hx (y := (⟨"com/example/veild/veild/policy/Constraint$Relation", "holds", "(Ljava/lang/String;Ljava/lang/String;)Z"⟩ : MethodName)) (z := (⟨"com/example/veild/veild/policy/Constraint$Relation", "holds", "(Ljava/lang/String;Ljava/lang/String;)Z"⟩ : MethodName)) o109 (mvT Z109 (hw _ (List.mem_of_getElem? (i := 36) rfl))) (mvT Z109 (hw _ (List.mem_of_getElem? (i := 37) rfl))) (notFace_of_selects (args := #[]) (mvT Z109 (hw _ (List.mem_of_getElem? (i := 39) rfl)))) (mvT Z109 (hw _ (List.mem_of_getElem? (i := 39) rfl))) (mvT Z109 (hw _ (List.mem_of_getElem? (i := 38) rfl))) (by decide) (own_backN (W := 0) (own_holds1 l Z a0 hw [] (rl) (b104) (b107) (([(nar .char u0), (nar .char u1)] : List Int32)) (([(nar .char r0)] : List Int32)) (T109.heap.size) (G1) T109.heap n0 (by omega) (X00.keep K109 all0) (Fr1.ext (X00.keep K109 all0).2) (own_Str.mono ((Str105.ext E107).keep KK109 (allS (own_le (by omega)) all0)) (by omega)) (own_Str.mono Str109 (by omega)) O2 P5) Z109 (hw _ (List.mem_of_getElem? (i := 40) rfl)) (hw _ (List.mem_of_getElem? (i := 1) rfl)) (by decide) (by decide)) q112a q112c (g := (mkF m 266 #[.val (.int p0), .val (.int p1), .val (.int p2), .val (.int (1 : Int32)), .val (.ref rl), .val (.int (2 : Int32)), .val (.int (1 : Int32)), .val (.int u0), .val (.int u1), .val (.int r0), .val (.int r1), .val (.ref b99), .val (.ref b102), .val (.ref b104), .val (.ref b107), .val (.int (0 : Int32)), .val (.int (0 : Int32))] [(.ref b107), (.ref b104), (.ref rl)])) rfl (by rw [hml]; rfl) (Steps.refl _) (argsL := [(.ref b104), (.ref b107)]) (rest := []) (lenOf own_pd3 rfl) rfl (by show 2 * 0 + _ ≤ _; exact Nat.le_of_eq rfl) (hb hby at_266) (fun _ _ => ⟨rfl, rfl, (by decide : 8 + 0 ≤ _), (by decide : 22 + 0 ≤ _)⟩)
        dsimp only [Pt.U, Pt.locs, Pt.cells, Pt.slots] at X112 l112 y112 z112 st112 hQ112
        subst l112 y112 z112
        obtain ⟨hr112, Nq112, sm112⟩ := hQ112
        obtain ⟨rfl, eq112⟩ := hr112.resolve_left (fun q => (by simp : ¬ _) q.2)
        have N112 := Fr.app N109 Nq112
        refine own_st (fun tq kq => st112.trans kq) ?_
        show own_G p e below _ (T112.setTop (mkF m 269 #[.val (.int p0), .val (.int p1), .val (.int p2), .val (.int (1 : Int32)), .val (.ref rl), .val (.int (2 : Int32)), .val (.int (1 : Int32)), .val (.int u0), .val (.int u1), .val (.int r0), .val (.int r1), .val (.ref b99), .val (.ref b102), .val (.ref b104), .val (.ref b107), .val (.int (0 : Int32)), .val (.int (0 : Int32))] [(.int (0 : Int32))]))
        refine own_st (fun tq kq => XS.iload X112.here hx rfl (hb hby at_269) rfl  kq) ?_
        show own_G p e below _ (T112.setTop (mkF m 271 #[.val (.int p0), .val (.int p1), .val (.int p2), .val (.int (1 : Int32)), .val (.ref rl), .val (.int (2 : Int32)), .val (.int (1 : Int32)), .val (.int u0), .val (.int u1), .val (.int r0), .val (.int r1), .val (.ref b99), .val (.ref b102), .val (.ref b104), .val (.ref b107), .val (.int (0 : Int32)), .val (.int (0 : Int32))] [(.int (0 : Int32)), (.int (0 : Int32))]))
        refine own_st (fun tq kq => XS.icmpNo X112.here hx rfl (hb hby at_271) rfl (teq (by decide : ((0 : Int32) = (0 : Int32)))).2 kq) ?_
        refine own_st (fun tq kq => XS.iconst X112.here hx rfl (hb hby at_274) kq) ?_
        refine own_st (fun tq kq => XS.goto X112.here hx rfl (pc0 := 275) (pc' := 279) rfl (hb hby at_275) (by decide) (by decide) kq) ?_
        show own_G p e below _ (T112.setTop (mkF m 279 #[.val (.int p0), .val (.int p1), .val (.int p2), .val (.int (1 : Int32)), .val (.ref rl), .val (.int (2 : Int32)), .val (.int (1 : Int32)), .val (.int u0), .val (.int u1), .val (.int r0), .val (.int r1), .val (.ref b99), .val (.ref b102), .val (.ref b104), .val (.ref b107), .val (.int (0 : Int32)), .val (.int (0 : Int32))] [(.int (1 : Int32))]))
        obtain ⟨fs, hr, hrun, hended, hRW⟩ := X112.leaveW S109 (by rw [sm112]; exact (own_le (by omega))) (v := some (.int (1 : Int32))) (fun h => by rw [Bd.returns] at h; cases h)
        have cE := C109.trans (CHv.at (s := s) (vm0 := T109.vm) X112 Z109 hEL C109.1)
        refine ⟨_, _, retN X112 hx (t := .boolean) Bd.returns (by simp) (hb hby at_279) hr, hrun, hended, _, _, rfl, ?_, ?_, own_RW hRW (by decide) (by decide)⟩
        · change (fun (v : Option Value) (_ : Vm) (h : Heap) (L : List Loc) => v = some (.int (1 : Int32)) ∧ Fr n0 L) (some (.int (1 : Int32))) T112.vm T112.heap _; rw [sm112]; exact ⟨rfl, N112⟩
        · rw [hh]; change CHr Z consts_1 s.vm h0 T112.vm T112.heap; rw [sm112]; exact cE
      ·
        show own_G p e below _ (T109.setTop (mkF m 239 #[.val (.int p0), .val (.int p1), .val (.int p2), .val (.int (0 : Int32)), .val (.ref rl), .val (.int (2 : Int32)), .val (.int (1 : Int32)), .val (.int u0), .val (.int u1), .val (.int r0), .val (.int r1), .val (.ref b99), .val (.ref b102), .val (.ref b104), .val (.ref b107), .val (.int (0 : Int32)), .unset] []))
        refine own_st (fun tq kq => XS.iloadN X109.here hx rfl (hb hby at_239) rfl  kq) ?_
        show own_G p e below _ (T109.setTop (mkF m 240 #[.val (.int p0), .val (.int p1), .val (.int p2), .val (.int (0 : Int32)), .val (.ref rl), .val (.int (2 : Int32)), .val (.int (1 : Int32)), .val (.int u0), .val (.int u1), .val (.int r0), .val (.int r1), .val (.ref b99), .val (.ref b102), .val (.ref b104), .val (.ref b107), .val (.int (0 : Int32)), .unset] [(.int (0 : Int32))]))
        refine own_st (fun tq kq => XS.ifYes X109.here hx rfl (pc0 := 240) (pc' := 248) rfl (hb hby at_240) rfl ((if0 _ _).trans (teq (by decide : ((0 : Int32) = (0 : Int32)))).1) (by decide) (by decide) kq) ?_
        refine own_st (fun tq kq => XS.iload X109.here hx rfl (hb hby at_248) rfl  kq) ?_
        show own_G p e below _ (T109.setTop (mkF m 250 #[.val (.int p0), .val (.int p1), .val (.int p2), .val (.int (0 : Int32)), .val (.ref rl), .val (.int (2 : Int32)), .val (.int (1 : Int32)), .val (.int u0), .val (.int u1), .val (.int r0), .val (.int r1), .val (.ref b99), .val (.ref b102), .val (.ref b104), .val (.ref b107), .val (.int (0 : Int32)), .unset] [(.int (0 : Int32))]))
        refine own_st (fun tq kq => XS.ifNo X109.here hx rfl (hb hby at_250) rfl ((if0 _ _).trans (teq (by decide : ((0 : Int32) = (0 : Int32)))).2) kq) ?_
        refine own_st (fun tq kq => XS.iconst X109.here hx rfl (hb hby at_253) kq) ?_
        refine own_st (fun tq kq => XS.goto X109.here hx rfl (pc0 := 254) (pc' := 258) rfl (hb hby at_254) (by decide) (by decide) kq) ?_
        refine own_st (fun tq kq => XS.istore X109.here hx rfl (hb hby at_258) rfl (l' := #[.val (.int p0), .val (.int p1), .val (.int p2), .val (.int (0 : Int32)), .val (.ref rl), .val (.int (2 : Int32)), .val (.int (1 : Int32)), .val (.int u0), .val (.int u1), .val (.int r0), .val (.int r1), .val (.ref b99), .val (.ref b102), .val (.ref b104), .val (.ref b107), .val (.int (0 : Int32)), .val (.int (1 : Int32))]) rfl kq) ?_
        show own_G p e below _ (T109.setTop (mkF m 260 #[.val (.int p0), .val (.int p1), .val (.int p2), .val (.int (0 : Int32)), .val (.ref rl), .val (.int (2 : Int32)), .val (.int (1 : Int32)), .val (.int u0), .val (.int u1), .val (.int r0), .val (.int r1), .val (.ref b99), .val (.ref b102), .val (.ref b104), .val (.ref b107), .val (.int (0 : Int32)), .val (.int (1 : Int32))] []))
        refine own_st (fun tq kq => XS.aload X109.here hx rfl (hb hby at_260) rfl rfl kq) ?_
        refine own_st (fun tq kq => XS.aload X109.here hx rfl (hb hby at_262) rfl rfl kq) ?_
        refine own_st (fun tq kq => XS.aload X109.here hx rfl (hb hby at_264) rfl rfl kq) ?_
        show own_G p e below _ (T109.setTop (mkF m 266 #[.val (.int p0), .val (.int p1), .val (.int p2), .val (.int (0 : Int32)), .val (.ref rl), .val (.int (2 : Int32)), .val (.int (1 : Int32)), .val (.int u0), .val (.int u1), .val (.int r0), .val (.int r1), .val (.ref b99), .val (.ref b102), .val (.ref b104), .val (.ref b107), .val (.int (0 : Int32)), .val (.int (1 : Int32))] [(.ref b107), (.ref b104), (.ref rl)]))
        obtain ⟨cq113, kq113, q113a, q113b, q113c⟩ := isOf Z109 rfl ((((((((((Er.ext (X00.keep K0 all0).2).ext E99).wr W100).wr W101).ext E102).wr W103).ext E104).keep KK105).ext E107).keep KK109)
        obtain ⟨_, _, ⟨T113, L113, k113, n113⟩, -, X113, ⟨Lc113, hQ113, l113, y113, z113⟩, st113⟩ := X109.virtualBack hx (y := (⟨"com/example/veild/veild/policy/Constraint$Relation", "holds", "(Ljava/lang/String;Ljava/lang/String;)Z"⟩ : MethodName)) (z := (⟨"com/example/veild/veild/policy/Constraint$Relation", "holds", "(Ljava/lang/String;Ljava/lang/String;)Z"⟩ : MethodName)) o109 (mvT Z109 (hw _ (List.mem_of_getElem? (i := 36) rfl))) (mvT Z109 (hw _ (List.mem_of_getElem? (i := 37) rfl))) (notFace_of_selects (args := #[]) (mvT Z109 (hw _ (List.mem_of_getElem? (i := 39) rfl)))) (mvT Z109 (hw _ (List.mem_of_getElem? (i := 39) rfl))) (mvT Z109 (hw _ (List.mem_of_getElem? (i := 38) rfl))) (by decide) (own_backN (W := 0) (own_holds0 l Z a0 hw [] (rl) (b104) (b107) (([(nar .char u0), (nar .char u1)] : List Int32)) (([(nar .char r0)] : List Int32)) (T109.heap.size) (G1) T109.heap n0 (by omega) (X00.keep K109 all0) (Fr1.ext (X00.keep K109 all0).2) (own_Str.mono ((Str105.ext E107).keep KK109 (allS (own_le (by omega)) all0)) (by omega)) (own_Str.mono Str109 (by omega)) O2 P5) Z109 (hw _ (List.mem_of_getElem? (i := 40) rfl)) (hw _ (List.mem_of_getElem? (i := 1) rfl)) (by decide) (by decide)) q113a q113c (g := (mkF m 266 #[.val (.int p0), .val (.int p1), .val (.int p2), .val (.int (0 : Int32)), .val (.ref rl), .val (.int (2 : Int32)), .val (.int (1 : Int32)), .val (.int u0), .val (.int u1), .val (.int r0), .val (.int r1), .val (.ref b99), .val (.ref b102), .val (.ref b104), .val (.ref b107), .val (.int (0 : Int32)), .val (.int (1 : Int32))] [(.ref b107), (.ref b104), (.ref rl)])) rfl (by rw [hml]; rfl) (Steps.refl _) (argsL := [(.ref b104), (.ref b107)]) (rest := []) (lenOf own_pd3 rfl) rfl (by show 2 * 0 + _ ≤ _; exact Nat.le_of_eq rfl) (hb hby at_266) (fun _ _ => ⟨rfl, rfl, (by decide : 8 + 0 ≤ _), (by decide : 22 + 0 ≤ _)⟩)
        dsimp only [Pt.U, Pt.locs, Pt.cells, Pt.slots] at X113 l113 y113 z113 st113 hQ113
        subst l113 y113 z113
        obtain ⟨hr113, Nq113, sm113⟩ := hQ113
        obtain ⟨rfl, eq113⟩ := hr113.resolve_left (fun q => (by simp : ¬ _) q.2)
        have N113 := Fr.app N109 Nq113
        refine own_st (fun tq kq => st113.trans kq) ?_
        show own_G p e below _ (T113.setTop (mkF m 269 #[.val (.int p0), .val (.int p1), .val (.int p2), .val (.int (0 : Int32)), .val (.ref rl), .val (.int (2 : Int32)), .val (.int (1 : Int32)), .val (.int u0), .val (.int u1), .val (.int r0), .val (.int r1), .val (.ref b99), .val (.ref b102), .val (.ref b104), .val (.ref b107), .val (.int (0 : Int32)), .val (.int (1 : Int32))] [(.int (1 : Int32))]))
        refine own_st (fun tq kq => XS.iload X113.here hx rfl (hb hby at_269) rfl  kq) ?_
        show own_G p e below _ (T113.setTop (mkF m 271 #[.val (.int p0), .val (.int p1), .val (.int p2), .val (.int (0 : Int32)), .val (.ref rl), .val (.int (2 : Int32)), .val (.int (1 : Int32)), .val (.int u0), .val (.int u1), .val (.int r0), .val (.int r1), .val (.ref b99), .val (.ref b102), .val (.ref b104), .val (.ref b107), .val (.int (0 : Int32)), .val (.int (1 : Int32))] [(.int (1 : Int32)), (.int (1 : Int32))]))
        refine own_st (fun tq kq => XS.icmpNo X113.here hx rfl (hb hby at_271) rfl (teq (by decide : ((1 : Int32) = (1 : Int32)))).2 kq) ?_
        refine own_st (fun tq kq => XS.iconst X113.here hx rfl (hb hby at_274) kq) ?_
        refine own_st (fun tq kq => XS.goto X113.here hx rfl (pc0 := 275) (pc' := 279) rfl (hb hby at_275) (by decide) (by decide) kq) ?_
        show own_G p e below _ (T113.setTop (mkF m 279 #[.val (.int p0), .val (.int p1), .val (.int p2), .val (.int (0 : Int32)), .val (.ref rl), .val (.int (2 : Int32)), .val (.int (1 : Int32)), .val (.int u0), .val (.int u1), .val (.int r0), .val (.int r1), .val (.ref b99), .val (.ref b102), .val (.ref b104), .val (.ref b107), .val (.int (0 : Int32)), .val (.int (1 : Int32))] [(.int (1 : Int32))]))
        obtain ⟨fs, hr, hrun, hended, hRW⟩ := X113.leaveW S109 (by rw [sm113]; exact (own_le (by omega))) (v := some (.int (1 : Int32))) (fun h => by rw [Bd.returns] at h; cases h)
        have cE := C109.trans (CHv.at (s := s) (vm0 := T109.vm) X113 Z109 hEL C109.1)
        refine ⟨_, _, retN X113 hx (t := .boolean) Bd.returns (by simp) (hb hby at_279) hr, hrun, hended, _, _, rfl, ?_, ?_, own_RW hRW (by decide) (by decide)⟩
        · change (fun (v : Option Value) (_ : Vm) (h : Heap) (L : List Loc) => v = some (.int (1 : Int32)) ∧ Fr n0 L) (some (.int (1 : Int32))) T113.vm T113.heap _; rw [sm113]; exact ⟨rfl, N113⟩
        · rw [hh]; change CHr Z consts_1 s.vm h0 T113.vm T113.heap; rw [sm113]; exact cE
    ·
      show own_G p e below _ (T.setTop (mkF m 119 #[.val (.int p0), .val (.int p1), .val (.int p2), .val (.int sm), .val (.ref rl), .val (.int (2 : Int32)), .val (.int (2 : Int32)), .val (.int u0), .val (.int u1), .val (.int r0), .val (.int r1), .unset, .unset, .unset, .unset, .unset, .unset] []))
      refine own_st (fun tq kq => XS.iload X0.here hx rfl (hb hby at_119) rfl  kq) ?_
      show own_G p e below _ (T.setTop (mkF m 121 #[.val (.int p0), .val (.int p1), .val (.int p2), .val (.int sm), .val (.ref rl), .val (.int (2 : Int32)), .val (.int (2 : Int32)), .val (.int u0), .val (.int u1), .val (.int r0), .val (.int r1), .unset, .unset, .unset, .unset, .unset, .unset] [(.int (2 : Int32))]))
      obtain ⟨T114, h114, k114, X114, e114, E114, A114, st114⟩ := newP X0 hx hZ (hw _ (List.mem_of_getElem? (i := 3) rfl)) e0 (g := (mkF m 121 #[.val (.int p0), .val (.int p1), .val (.int p2), .val (.int sm), .val (.ref rl), .val (.int (2 : Int32)), .val (.int (2 : Int32)), .val (.int u0), .val (.int u1), .val (.int r0), .val (.int r1), .unset, .unset, .unset, .unset, .unset, .unset] [(.int (2 : Int32))])) rfl (hb hby at_121) rfl (by decide) (cap := 2) (by decide) (by decide) (by decide) (by decide)
      obtain ⟨b114, g114⟩ : ∃ z, z = h0.size := ⟨_, rfl⟩
      rw [← g114] at A114 st114
      have lt114 : b114 < h114.size := A114.lt
      have V114 : Arv Z h114 b114 k114 .char (2 : Int32) [(.int (0 : Int32)), (.int (0 : Int32))] (.int (0 : Int32)) := (Arv.new A114 (by decide)).pad (pad_rep [] (.int (0 : Int32)) 2)
      have sz114 : h0.size ≤ h114.size := E114.1
      have K114 : Keep h0 h114 [] := K0.ext E114
      have c114 : CHr Z consts_1 s.vm h0 s.vm h114 := CHr.ext E114 C0.1
      have C114 := C0.trans c114
      refine own_st st114 ?_
      show own_G p e below _ (T114.setTop (mkF m 123 #[.val (.int p0), .val (.int p1), .val (.int p2), .val (.int sm), .val (.ref rl), .val (.int (2 : Int32)), .val (.int (2 : Int32)), .val (.int u0), .val (.int u1), .val (.int r0), .val (.int r1), .unset, .unset, .unset, .unset, .unset, .unset] [(.ref b114)]))
      refine own_st (fun tq kq => XS.astore X114.here hx rfl (hb hby at_123) rfl rfl (l' := #[.val (.int p0), .val (.int p1), .val (.int p2), .val (.int sm), .val (.ref rl), .val (.int (2 : Int32)), .val (.int (2 : Int32)), .val (.int u0), .val (.int u1), .val (.int r0), .val (.int r1), .val (.ref b114), .unset, .unset, .unset, .unset, .unset]) rfl kq) ?_
      refine own_st (fun tq kq => XS.iload X114.here hx rfl (hb hby at_125) rfl  kq) ?_
      show own_G p e below _ (T114.setTop (mkF m 127 #[.val (.int p0), .val (.int p1), .val (.int p2), .val (.int sm), .val (.ref rl), .val (.int (2 : Int32)), .val (.int (2 : Int32)), .val (.int u0), .val (.int u1), .val (.int r0), .val (.int r1), .val (.ref b114), .unset, .unset, .unset, .unset, .unset] [(.int (2 : Int32))]))
      refine own_st (fun tq kq => XS.ifNo X114.here hx rfl (hb hby at_127) rfl ((if0 _ _).trans (tlt (by decide : ((0 : Int32) < (2 : Int32)))).2.2.2) kq) ?_
      refine own_st (fun tq kq => XS.aload X114.here hx rfl (hb hby at_130) rfl rfl kq) ?_
      refine own_st (fun tq kq => XS.iconst X114.here hx rfl (hb hby at_132) kq) ?_
      refine own_st (fun tq kq => XS.iload X114.here hx rfl (hb hby at_133) rfl  kq) ?_
      show own_G p e below _ (T114.setTop (mkF m 135 #[.val (.int p0), .val (.int p1), .val (.int p2), .val (.int sm), .val (.ref rl), .val (.int (2 : Int32)), .val (.int (2 : Int32)), .val (.int u0), .val (.int u1), .val (.int r0), .val (.int r1), .val (.ref b114), .unset, .unset, .unset, .unset, .unset] [(.int u0), (.int (0 : Int32)), (.ref b114)]))
      obtain ⟨cl115, Ar115, q115, S_115, N_115, H_115, G_115⟩ := id V114
      have in115 : ¬ ((0 : Int32) < 0 ∨ cl115.slots.size ≤ ((0 : Int32)).toNatClampNeg) := inb_of S_115 ⟨by decide, by decide⟩
      obtain ⟨T115, h115, X115, e115, W115, st115⟩ := stC X114 hx hZ e114 Ar115 (j := (0 : Int32)) in115 (g := (mkF m 135 #[.val (.int p0), .val (.int p1), .val (.int p2), .val (.int sm), .val (.ref rl), .val (.int (2 : Int32)), .val (.int (2 : Int32)), .val (.int u0), .val (.int u1), .val (.int r0), .val (.int r1), .val (.ref b114), .unset, .unset, .unset, .unset, .unset] [(.int u0), (.int (0 : Int32)), (.ref b114)])) rfl rfl (hb hby at_135)
      have V115 := Arv.set Ar115 q115 S_115 N_115 H_115 G_115 (fits_nar_char _) W115 0 rfl (Nat.le_of_ble_eq_true rfl)
      have sz115 : h114.size ≤ h115.size := (Keep.of_wr W115).1
      have K115 : Keep h0 h115 [] := K114.wr W115 (Or.inr (own_le (by omega)))
      have c115 : CHr Z consts_1 s.vm h114 s.vm h115 := CHr.wr W115 (Safe.arr hZ.alike Ar115 (by decide)) C114.1
      have C115 := C114.trans c115
      have N115 := Fr.snoc X115 N0 (own_le (by omega))
      refine own_st st115 ?_
      show own_G p e below _ (T115.setTop (mkF m 136 #[.val (.int p0), .val (.int p1), .val (.int p2), .val (.int sm), .val (.ref rl), .val (.int (2 : Int32)), .val (.int (2 : Int32)), .val (.int u0), .val (.int u1), .val (.int r0), .val (.int r1), .val (.ref b114), .unset, .unset, .unset, .unset, .unset] []))
      refine own_st (fun tq kq => XS.iload X115.here hx rfl (hb hby at_136) rfl  kq) ?_
      refine own_st (fun tq kq => XS.iconst X115.here hx rfl (hb hby at_138) kq) ?_
      show own_G p e below _ (T115.setTop (mkF m 139 #[.val (.int p0), .val (.int p1), .val (.int p2), .val (.int sm), .val (.ref rl), .val (.int (2 : Int32)), .val (.int (2 : Int32)), .val (.int u0), .val (.int u1), .val (.int r0), .val (.int r1), .val (.ref b114), .unset, .unset, .unset, .unset, .unset] [(.int (1 : Int32)), (.int (2 : Int32))]))
      refine own_st (fun tq kq => XS.icmpNo X115.here hx rfl (hb hby at_139) rfl (tlt (by decide : ((1 : Int32) < (2 : Int32)))).2.2.2 kq) ?_
      refine own_st (fun tq kq => XS.aload X115.here hx rfl (hb hby at_142) rfl rfl kq) ?_
      refine own_st (fun tq kq => XS.iconst X115.here hx rfl (hb hby at_144) kq) ?_
      refine own_st (fun tq kq => XS.iload X115.here hx rfl (hb hby at_145) rfl  kq) ?_
      show own_G p e below _ (T115.setTop (mkF m 147 #[.val (.int p0), .val (.int p1), .val (.int p2), .val (.int sm), .val (.ref rl), .val (.int (2 : Int32)), .val (.int (2 : Int32)), .val (.int u0), .val (.int u1), .val (.int r0), .val (.int r1), .val (.ref b114), .unset, .unset, .unset, .unset, .unset] [(.int u1), (.int (1 : Int32)), (.ref b114)]))
      obtain ⟨cl116, Ar116, q116, S_116, N_116, H_116, G_116⟩ := id V115
      have in116 : ¬ ((1 : Int32) < 0 ∨ cl116.slots.size ≤ ((1 : Int32)).toNatClampNeg) := inb_of S_116 ⟨by decide, by decide⟩
      obtain ⟨T116, h116, X116, e116, W116, st116⟩ := stC X115 hx hZ e115 Ar116 (j := (1 : Int32)) in116 (g := (mkF m 147 #[.val (.int p0), .val (.int p1), .val (.int p2), .val (.int sm), .val (.ref rl), .val (.int (2 : Int32)), .val (.int (2 : Int32)), .val (.int u0), .val (.int u1), .val (.int r0), .val (.int r1), .val (.ref b114), .unset, .unset, .unset, .unset, .unset] [(.int u1), (.int (1 : Int32)), (.ref b114)])) rfl rfl (hb hby at_147)
      have V116 := Arv.set Ar116 q116 S_116 N_116 H_116 G_116 (fits_nar_char _) W116 1 rfl (Nat.le_of_ble_eq_true rfl)
      have sz116 : h115.size ≤ h116.size := (Keep.of_wr W116).1
      have K116 : Keep h0 h116 [] := K115.wr W116 (Or.inr (own_le (by omega)))
      have c116 : CHr Z consts_1 s.vm h115 s.vm h116 := CHr.wr W116 (Safe.arr hZ.alike Ar116 (by decide)) C115.1
      have C116 := C115.trans c116
      have N116 := Fr.snoc X116 N115 (own_le (by omega))
      refine own_st st116 ?_
      show own_G p e below _ (T116.setTop (mkF m 148 #[.val (.int p0), .val (.int p1), .val (.int p2), .val (.int sm), .val (.ref rl), .val (.int (2 : Int32)), .val (.int (2 : Int32)), .val (.int u0), .val (.int u1), .val (.int r0), .val (.int r1), .val (.ref b114), .unset, .unset, .unset, .unset, .unset] []))
      refine own_st (fun tq kq => XS.iload X116.here hx rfl (hb hby at_148) rfl  kq) ?_
      show own_G p e below _ (T116.setTop (mkF m 150 #[.val (.int p0), .val (.int p1), .val (.int p2), .val (.int sm), .val (.ref rl), .val (.int (2 : Int32)), .val (.int (2 : Int32)), .val (.int u0), .val (.int u1), .val (.int r0), .val (.int r1), .val (.ref b114), .unset, .unset, .unset, .unset, .unset] [(.int (2 : Int32))]))
      obtain ⟨T117, h117, k117, X117, e117, E117, A117, st117⟩ := newP X116 hx hZ (hw _ (List.mem_of_getElem? (i := 3) rfl)) e116 (g := (mkF m 150 #[.val (.int p0), .val (.int p1), .val (.int p2), .val (.int sm), .val (.ref rl), .val (.int (2 : Int32)), .val (.int (2 : Int32)), .val (.int u0), .val (.int u1), .val (.int r0), .val (.int r1), .val (.ref b114), .unset, .unset, .unset, .unset, .unset] [(.int (2 : Int32))])) rfl (hb hby at_150) rfl (by decide) (cap := 2) (by decide) (by decide) (by decide) (by decide)
      obtain ⟨b117, g117⟩ : ∃ z, z = h116.size := ⟨_, rfl⟩
      rw [← g117] at A117 st117
      have lt117 : b117 < h117.size := A117.lt
      have V117 : Arv Z h117 b117 k117 .char (2 : Int32) [(.int (0 : Int32)), (.int (0 : Int32))] (.int (0 : Int32)) := (Arv.new A117 (by decide)).pad (pad_rep [] (.int (0 : Int32)) 2)
      have sz117 : h116.size ≤ h117.size := E117.1
      have K117 : Keep h0 h117 [] := K116.ext E117
      have c117 : CHr Z consts_1 s.vm h116 s.vm h117 := CHr.ext E117 C116.1
      have C117 := C116.trans c117
      refine own_st st117 ?_
      show own_G p e below _ (T117.setTop (mkF m 152 #[.val (.int p0), .val (.int p1), .val (.int p2), .val (.int sm), .val (.ref rl), .val (.int (2 : Int32)), .val (.int (2 : Int32)), .val (.int u0), .val (.int u1), .val (.int r0), .val (.int r1), .val (.ref b114), .unset, .unset, .unset, .unset, .unset] [(.ref b117)]))
      refine own_st (fun tq kq => XS.astore X117.here hx rfl (hb hby at_152) rfl rfl (l' := #[.val (.int p0), .val (.int p1), .val (.int p2), .val (.int sm), .val (.ref rl), .val (.int (2 : Int32)), .val (.int (2 : Int32)), .val (.int u0), .val (.int u1), .val (.int r0), .val (.int r1), .val (.ref b114), .val (.ref b117), .unset, .unset, .unset, .unset]) rfl kq) ?_
      refine own_st (fun tq kq => XS.iload X117.here hx rfl (hb hby at_154) rfl  kq) ?_
      show own_G p e below _ (T117.setTop (mkF m 156 #[.val (.int p0), .val (.int p1), .val (.int p2), .val (.int sm), .val (.ref rl), .val (.int (2 : Int32)), .val (.int (2 : Int32)), .val (.int u0), .val (.int u1), .val (.int r0), .val (.int r1), .val (.ref b114), .val (.ref b117), .unset, .unset, .unset, .unset] [(.int (2 : Int32))]))
      refine own_st (fun tq kq => XS.ifNo X117.here hx rfl (hb hby at_156) rfl ((if0 _ _).trans (tlt (by decide : ((0 : Int32) < (2 : Int32)))).2.2.2) kq) ?_
      refine own_st (fun tq kq => XS.aload X117.here hx rfl (hb hby at_159) rfl rfl kq) ?_
      refine own_st (fun tq kq => XS.iconst X117.here hx rfl (hb hby at_161) kq) ?_
      refine own_st (fun tq kq => XS.iload X117.here hx rfl (hb hby at_162) rfl  kq) ?_
      show own_G p e below _ (T117.setTop (mkF m 164 #[.val (.int p0), .val (.int p1), .val (.int p2), .val (.int sm), .val (.ref rl), .val (.int (2 : Int32)), .val (.int (2 : Int32)), .val (.int u0), .val (.int u1), .val (.int r0), .val (.int r1), .val (.ref b114), .val (.ref b117), .unset, .unset, .unset, .unset] [(.int r0), (.int (0 : Int32)), (.ref b117)]))
      obtain ⟨cl118, Ar118, q118, S_118, N_118, H_118, G_118⟩ := id V117
      have in118 : ¬ ((0 : Int32) < 0 ∨ cl118.slots.size ≤ ((0 : Int32)).toNatClampNeg) := inb_of S_118 ⟨by decide, by decide⟩
      obtain ⟨T118, h118, X118, e118, W118, st118⟩ := stC X117 hx hZ e117 Ar118 (j := (0 : Int32)) in118 (g := (mkF m 164 #[.val (.int p0), .val (.int p1), .val (.int p2), .val (.int sm), .val (.ref rl), .val (.int (2 : Int32)), .val (.int (2 : Int32)), .val (.int u0), .val (.int u1), .val (.int r0), .val (.int r1), .val (.ref b114), .val (.ref b117), .unset, .unset, .unset, .unset] [(.int r0), (.int (0 : Int32)), (.ref b117)])) rfl rfl (hb hby at_164)
      have V118 := Arv.set Ar118 q118 S_118 N_118 H_118 G_118 (fits_nar_char _) W118 0 rfl (Nat.le_of_ble_eq_true rfl)
      have sz118 : h117.size ≤ h118.size := (Keep.of_wr W118).1
      have K118 : Keep h0 h118 [] := K117.wr W118 (Or.inr (own_le (by omega)))
      have c118 : CHr Z consts_1 s.vm h117 s.vm h118 := CHr.wr W118 (Safe.arr hZ.alike Ar118 (by decide)) C117.1
      have C118 := C117.trans c118
      have N118 := Fr.snoc X118 N116 (own_le (by omega))
      refine own_st st118 ?_
      show own_G p e below _ (T118.setTop (mkF m 165 #[.val (.int p0), .val (.int p1), .val (.int p2), .val (.int sm), .val (.ref rl), .val (.int (2 : Int32)), .val (.int (2 : Int32)), .val (.int u0), .val (.int u1), .val (.int r0), .val (.int r1), .val (.ref b114), .val (.ref b117), .unset, .unset, .unset, .unset] []))
      refine own_st (fun tq kq => XS.iload X118.here hx rfl (hb hby at_165) rfl  kq) ?_
      refine own_st (fun tq kq => XS.iconst X118.here hx rfl (hb hby at_167) kq) ?_
      show own_G p e below _ (T118.setTop (mkF m 168 #[.val (.int p0), .val (.int p1), .val (.int p2), .val (.int sm), .val (.ref rl), .val (.int (2 : Int32)), .val (.int (2 : Int32)), .val (.int u0), .val (.int u1), .val (.int r0), .val (.int r1), .val (.ref b114), .val (.ref b117), .unset, .unset, .unset, .unset] [(.int (1 : Int32)), (.int (2 : Int32))]))
      refine own_st (fun tq kq => XS.icmpNo X118.here hx rfl (hb hby at_168) rfl (tlt (by decide : ((1 : Int32) < (2 : Int32)))).2.2.2 kq) ?_
      refine own_st (fun tq kq => XS.aload X118.here hx rfl (hb hby at_171) rfl rfl kq) ?_
      refine own_st (fun tq kq => XS.iconst X118.here hx rfl (hb hby at_173) kq) ?_
      refine own_st (fun tq kq => XS.iload X118.here hx rfl (hb hby at_174) rfl  kq) ?_
      show own_G p e below _ (T118.setTop (mkF m 176 #[.val (.int p0), .val (.int p1), .val (.int p2), .val (.int sm), .val (.ref rl), .val (.int (2 : Int32)), .val (.int (2 : Int32)), .val (.int u0), .val (.int u1), .val (.int r0), .val (.int r1), .val (.ref b114), .val (.ref b117), .unset, .unset, .unset, .unset] [(.int r1), (.int (1 : Int32)), (.ref b117)]))
      obtain ⟨cl119, Ar119, q119, S_119, N_119, H_119, G_119⟩ := id V118
      have in119 : ¬ ((1 : Int32) < 0 ∨ cl119.slots.size ≤ ((1 : Int32)).toNatClampNeg) := inb_of S_119 ⟨by decide, by decide⟩
      obtain ⟨T119, h119, X119, e119, W119, st119⟩ := stC X118 hx hZ e118 Ar119 (j := (1 : Int32)) in119 (g := (mkF m 176 #[.val (.int p0), .val (.int p1), .val (.int p2), .val (.int sm), .val (.ref rl), .val (.int (2 : Int32)), .val (.int (2 : Int32)), .val (.int u0), .val (.int u1), .val (.int r0), .val (.int r1), .val (.ref b114), .val (.ref b117), .unset, .unset, .unset, .unset] [(.int r1), (.int (1 : Int32)), (.ref b117)])) rfl rfl (hb hby at_176)
      have V119 := Arv.set Ar119 q119 S_119 N_119 H_119 G_119 (fits_nar_char _) W119 1 rfl (Nat.le_of_ble_eq_true rfl)
      have sz119 : h118.size ≤ h119.size := (Keep.of_wr W119).1
      have K119 : Keep h0 h119 [] := K118.wr W119 (Or.inr (own_le (by omega)))
      have c119 : CHr Z consts_1 s.vm h118 s.vm h119 := CHr.wr W119 (Safe.arr hZ.alike Ar119 (by decide)) C118.1
      have C119 := C118.trans c119
      have N119 := Fr.snoc X119 N118 (own_le (by omega))
      refine own_st st119 ?_
      show own_G p e below _ (T119.setTop (mkF m 177 #[.val (.int p0), .val (.int p1), .val (.int p2), .val (.int sm), .val (.ref rl), .val (.int (2 : Int32)), .val (.int (2 : Int32)), .val (.int u0), .val (.int u1), .val (.int r0), .val (.int r1), .val (.ref b114), .val (.ref b117), .unset, .unset, .unset, .unset] []))
      obtain ⟨T120, h120, X120, e120, E120, A120, D120, -, st120⟩ := newO X119 hx hZ hown (hw _ (List.mem_of_getElem? (i := 4) rfl)) (hw _ (List.mem_of_getElem? (i := 5) rfl)) (hw _ (List.mem_of_getElem? (i := 6) rfl)) e119 (g := (mkF m 177 #[.val (.int p0), .val (.int p1), .val (.int p2), .val (.int sm), .val (.ref rl), .val (.int (2 : Int32)), .val (.int (2 : Int32)), .val (.int u0), .val (.int u1), .val (.int r0), .val (.int r1), .val (.ref b114), .val (.ref b117), .unset, .unset, .unset, .unset] [])) rfl (hb hby at_177) (by decide) (by decide)
      obtain ⟨b120, g120⟩ : ∃ z, z = h119.size := ⟨_, rfl⟩
      rw [← g120] at A120 D120 st120
      have lt120 : b120 < h120.size := A120.lt
      have Sn120 : Safe Z consts_1 s.vm h119 b120 := Safe.new (own_le (by omega))
      have sz120 : h119.size ≤ h120.size := E120.1
      have K120 : Keep h0 h120 [] := K119.ext E120
      have c120 : CHr Z consts_1 s.vm h119 s.vm h120 := CHr.ext E120 C119.1
      have C120 := C119.trans c120
      have Sf120 : Safe Z consts_1 s.vm h120 b120 := Safe.ext E120 C119.1 Sn120
      have F120_coder : Fld Z h120 b120 "java/lang/String" "coder" "B" (.int (0 : Int32)) := D120 (Or.inr (hw _ (List.mem_of_getElem? (i := 30) rfl))) (ty := .byte) (by decide)
      have F120_value : Fld Z h120 b120 "java/lang/String" "value" "[B" .null := D120 (Or.inr (hw _ (List.mem_of_getElem? (i := 32) rfl))) (ty := (.array .byte)) (by decide)
      refine own_st st120 ?_
      show own_G p e below _ (T120.setTop (mkF m 180 #[.val (.int p0), .val (.int p1), .val (.int p2), .val (.int sm), .val (.ref rl), .val (.int (2 : Int32)), .val (.int (2 : Int32)), .val (.int u0), .val (.int u1), .val (.int r0), .val (.int r1), .val (.ref b114), .val (.ref b117), .unset, .unset, .unset, .unset] [(.ref b120)]))
      refine own_st (fun tq kq => XS.dup X120.here hx rfl (hb hby at_180) rfl rfl kq) ?_
      refine own_st (fun tq kq => XS.aload X120.here hx rfl (hb hby at_181) rfl rfl kq) ?_
      show own_G p e below _ (T120.setTop (mkF m 183 #[.val (.int p0), .val (.int p1), .val (.int p2), .val (.int sm), .val (.ref rl), .val (.int (2 : Int32)), .val (.int (2 : Int32)), .val (.int u0), .val (.int u1), .val (.int r0), .val (.int r1), .val (.ref b114), .val (.ref b117), .unset, .unset, .unset, .unset] [(.ref b114), (.ref b120), (.ref b120)]))
      have hp121 : ∀ c ∈ ([(nar .char u0), (nar .char u1)] : List Int32), ¬ c < 0 ∧ ¬ (255 : Int32) < c := by
        intro c hc
        simp only [List.mem_cons, List.not_mem_nil, or_false] at hc
        rcases hc with rfl | rfl
        · assumption
        · assumption
      obtain ⟨_, _, ⟨T121, L121, k121, n121⟩, -, Y121, S121p, gr121, ⟨Lc121, hQ121, l121, y121, z121, c121⟩, st121⟩ := X120.specialBackS hx (y := (⟨"java/lang/String", "<init>", "([C)V"⟩ : MethodName)) rfl hown (mvT hZ (hw _ (List.mem_of_getElem? (i := 7) rfl))) (mvT hZ (hw _ (List.mem_of_getElem? (i := 8) rfl))) (mvT hZ (hw _ (List.mem_of_getElem? (i := 9) rfl))) (by decide) (own_newStr (s := s) (vm0 := s.vm) (W := 1) hZ hw hEL C120.1 (cs := ([(nar .char u0), (nar .char u1)] : List Int32)) (n := 2) (n0 := n0) Sf120 (by omega) (X00.keep K120 all0) A120 F120_value F120_coder ((((V116.ext E117).other W118 (own_ne (by omega))).other W119 (own_ne (by omega))).ext E120) O2 P5 rfl rfl (by decide) hp121 (by decide) (by decide)) (g := (mkF m 183 #[.val (.int p0), .val (.int p1), .val (.int p2), .val (.int sm), .val (.ref rl), .val (.int (2 : Int32)), .val (.int (2 : Int32)), .val (.int u0), .val (.int u1), .val (.int r0), .val (.int r1), .val (.ref b114), .val (.ref b117), .unset, .unset, .unset, .unset] [(.ref b114), (.ref b120), (.ref b120)])) rfl (by rw [hml]; rfl) (Steps.refl _) (a := b120) (argsL := [(.ref b114)]) (rest := [(.ref b120)]) (lenOf own_pd2 rfl) rfl (by show 2 * 0 + _ ≤ _; exact Nat.le_of_eq rfl) (hb hby at_183) (fun _ _ => ⟨rfl, e120, (by decide : 3 + 2 ≤ _), (by decide : 8 + 6 ≤ _)⟩)
      dsimp only [Pt.U, Pt.locs, Pt.cells, Pt.slots] at Y121 S121p gr121 l121 y121 z121 st121 hQ121 c121
      subst l121 y121 z121
      obtain ⟨X121, S121, Z121, o121⟩ := rebS S0 (by rw [e120]; exact (own_le (by omega))) Y121 S121p gr121 hZ hown
      obtain ⟨rfl, Nq121, Kq121, Str121⟩ := hQ121
      have KK121 : Keep h120 T121.heap [b120] := Kq121
      have sz121 : h120.size ≤ T121.heap.size := KK121.1
      have K121 : Keep h0 T121.heap [] := K120.trans KK121 (allS (Or.inr (own_le (by omega))) all0)
      have C121 := C120.trans c121
      have Sf121_122 := c121.safe (own_lt (by omega)) Sf120
      have N121 := Fr.app N119 Nq121
      refine own_st (fun tq kq => st121.trans kq) ?_
      show own_G p e below _ (T121.setTop (mkF m 186 #[.val (.int p0), .val (.int p1), .val (.int p2), .val (.int sm), .val (.ref rl), .val (.int (2 : Int32)), .val (.int (2 : Int32)), .val (.int u0), .val (.int u1), .val (.int r0), .val (.int r1), .val (.ref b114), .val (.ref b117), .unset, .unset, .unset, .unset] [(.ref b120)]))
      refine own_st (fun tq kq => XS.astore X121.here hx rfl (hb hby at_186) rfl rfl (l' := #[.val (.int p0), .val (.int p1), .val (.int p2), .val (.int sm), .val (.ref rl), .val (.int (2 : Int32)), .val (.int (2 : Int32)), .val (.int u0), .val (.int u1), .val (.int r0), .val (.int r1), .val (.ref b114), .val (.ref b117), .val (.ref b120), .unset, .unset, .unset]) rfl kq) ?_
      show own_G p e below _ (T121.setTop (mkF m 188 #[.val (.int p0), .val (.int p1), .val (.int p2), .val (.int sm), .val (.ref rl), .val (.int (2 : Int32)), .val (.int (2 : Int32)), .val (.int u0), .val (.int u1), .val (.int r0), .val (.int r1), .val (.ref b114), .val (.ref b117), .val (.ref b120), .unset, .unset, .unset] []))
      obtain ⟨T123, h123, X123, e123, E123, A123, D123, -, st123⟩ := newO X121 hx Z121 o121 (hw _ (List.mem_of_getElem? (i := 4) rfl)) (hw _ (List.mem_of_getElem? (i := 5) rfl)) (hw _ (List.mem_of_getElem? (i := 6) rfl)) rfl (g := (mkF m 188 #[.val (.int p0), .val (.int p1), .val (.int p2), .val (.int sm), .val (.ref rl), .val (.int (2 : Int32)), .val (.int (2 : Int32)), .val (.int u0), .val (.int u1), .val (.int r0), .val (.int r1), .val (.ref b114), .val (.ref b117), .val (.ref b120), .unset, .unset, .unset] [])) rfl (hb hby at_188) (by decide) (by decide)
      obtain ⟨b123, g123⟩ : ∃ z, z = T121.heap.size := ⟨_, rfl⟩
      rw [← g123] at A123 D123 st123
      have lt123 : b123 < h123.size := A123.lt
      have Sn123 : Safe Z consts_1 T121.vm T121.heap b123 := Safe.new (own_le (by omega))
      have sz123 : T121.heap.size ≤ h123.size := E123.1
      have K123 : Keep h0 h123 [] := K121.ext E123
      have c123 : CHr Z consts_1 T121.vm T121.heap T121.vm h123 := CHr.ext E123 C121.1
      have C123 := C121.trans c123
      have Sf123_124 := c123.safe (own_lt (by omega)) Sf121_122
      have Sf123 : Safe Z consts_1 T121.vm h123 b123 := Safe.ext E123 C121.1 Sn123
      have F123_coder : Fld Z h123 b123 "java/lang/String" "coder" "B" (.int (0 : Int32)) := D123 (Or.inr (hw _ (List.mem_of_getElem? (i := 30) rfl))) (ty := .byte) (by decide)
      have F123_value : Fld Z h123 b123 "java/lang/String" "value" "[B" .null := D123 (Or.inr (hw _ (List.mem_of_getElem? (i := 32) rfl))) (ty := (.array .byte)) (by decide)
      refine own_st st123 ?_
      show own_G p e below _ (T123.setTop (mkF m 191 #[.val (.int p0), .val (.int p1), .val (.int p2), .val (.int sm), .val (.ref rl), .val (.int (2 : Int32)), .val (.int (2 : Int32)), .val (.int u0), .val (.int u1), .val (.int r0), .val (.int r1), .val (.ref b114), .val (.ref b117), .val (.ref b120), .unset, .unset, .unset] [(.ref b123)]))
      refine own_st (fun tq kq => XS.dup X123.here hx rfl (hb hby at_191) rfl rfl kq) ?_
      refine own_st (fun tq kq => XS.aload X123.here hx rfl (hb hby at_192) rfl rfl kq) ?_
      show own_G p e below _ (T123.setTop (mkF m 194 #[.val (.int p0), .val (.int p1), .val (.int p2), .val (.int sm), .val (.ref rl), .val (.int (2 : Int32)), .val (.int (2 : Int32)), .val (.int u0), .val (.int u1), .val (.int r0), .val (.int r1), .val (.ref b114), .val (.ref b117), .val (.ref b120), .unset, .unset, .unset] [(.ref b117), (.ref b123), (.ref b123)]))
      have hp125 : ∀ c ∈ ([(nar .char r0), (nar .char r1)] : List Int32), ¬ c < 0 ∧ ¬ (255 : Int32) < c := by
        intro c hc
        simp only [List.mem_cons, List.not_mem_nil, or_false] at hc
        rcases hc with rfl | rfl
        · assumption
        · assumption
      obtain ⟨_, _, ⟨T125, L125, k125, n125⟩, -, Y125, S125p, gr125, ⟨Lc125, hQ125, l125, y125, z125, c125⟩, st125⟩ := X123.specialBackS hx (y := (⟨"java/lang/String", "<init>", "([C)V"⟩ : MethodName)) rfl o121 (mvT Z121 (hw _ (List.mem_of_getElem? (i := 7) rfl))) (mvT Z121 (hw _ (List.mem_of_getElem? (i := 8) rfl))) (mvT Z121 (hw _ (List.mem_of_getElem? (i := 9) rfl))) (by decide) (own_newStr (s := s) (vm0 := T121.vm) (W := 1) Z121 hw hEL C123.1 (cs := ([(nar .char r0), (nar .char r1)] : List Int32)) (n := 2) (n0 := n0) Sf123 (by omega) (X00.keep K123 all0) A123 F123_value F123_coder (((V119.ext E120).keep KK121 (ninS (own_ne (by omega)) nin0)).ext E123) O2 P5 rfl rfl (by decide) hp125 (by decide) (by decide)) (g := (mkF m 194 #[.val (.int p0), .val (.int p1), .val (.int p2), .val (.int sm), .val (.ref rl), .val (.int (2 : Int32)), .val (.int (2 : Int32)), .val (.int u0), .val (.int u1), .val (.int r0), .val (.int r1), .val (.ref b114), .val (.ref b117), .val (.ref b120), .unset, .unset, .unset] [(.ref b117), (.ref b123), (.ref b123)])) rfl (by rw [hml]; rfl) (Steps.refl _) (a := b123) (argsL := [(.ref b117)]) (rest := [(.ref b123)]) (lenOf own_pd2 rfl) rfl (by show 2 * 0 + _ ≤ _; exact Nat.le_of_eq rfl) (hb hby at_194) (fun _ _ => ⟨rfl, e123, (by decide : 6 + 2 ≤ _), (by decide : 18 + 6 ≤ _)⟩)
      dsimp only [Pt.U, Pt.locs, Pt.cells, Pt.slots] at Y125 S125p gr125 l125 y125 z125 st125 hQ125 c125
      subst l125 y125 z125
      obtain ⟨X125, S125, Z125, o125⟩ := rebS S121 (by rw [e123]; exact (own_le (by omega))) Y125 S125p gr125 Z121 o121
      obtain ⟨rfl, Nq125, Kq125, Str125⟩ := hQ125
      have KK125 : Keep h123 T125.heap [b123] := Kq125
      have sz125 : h123.size ≤ T125.heap.size := KK125.1
      have K125 : Keep h0 T125.heap [] := K123.trans KK125 (allS (Or.inr (own_le (by omega))) all0)
      have C125 := C123.trans c125
      have Sf125_126 := c125.safe (own_lt (by omega)) Sf123_124
      have Sf125_127 := c125.safe (own_lt (by omega)) Sf123
      have N125 := Fr.app N121 Nq125
      refine own_st (fun tq kq => st125.trans kq) ?_
      show own_G p e below _ (T125.setTop (mkF m 197 #[.val (.int p0), .val (.int p1), .val (.int p2), .val (.int sm), .val (.ref rl), .val (.int (2 : Int32)), .val (.int (2 : Int32)), .val (.int u0), .val (.int u1), .val (.int r0), .val (.int r1), .val (.ref b114), .val (.ref b117), .val (.ref b120), .unset, .unset, .unset] [(.ref b123)]))
      refine own_st (fun tq kq => XS.astore X125.here hx rfl (hb hby at_197) rfl rfl (l' := #[.val (.int p0), .val (.int p1), .val (.int p2), .val (.int sm), .val (.ref rl), .val (.int (2 : Int32)), .val (.int (2 : Int32)), .val (.int u0), .val (.int u1), .val (.int r0), .val (.int r1), .val (.ref b114), .val (.ref b117), .val (.ref b120), .val (.ref b123), .unset, .unset]) rfl kq) ?_
      refine own_st (fun tq kq => XS.iload X125.here hx rfl (hb hby at_199) rfl  kq) ?_
      refine own_st (fun tq kq => XS.iload X125.here hx rfl (hb hby at_201) rfl  kq) ?_
      show own_G p e below _ (T125.setTop (mkF m 203 #[.val (.int p0), .val (.int p1), .val (.int p2), .val (.int sm), .val (.ref rl), .val (.int (2 : Int32)), .val (.int (2 : Int32)), .val (.int u0), .val (.int u1), .val (.int r0), .val (.int r1), .val (.ref b114), .val (.ref b117), .val (.ref b120), .val (.ref b123), .unset, .unset] [(.int (2 : Int32)), (.int (2 : Int32))]))
      refine own_st (fun tq kq => XS.icmpNo X125.here hx rfl (hb hby at_203) rfl (teq (by decide : ((2 : Int32) = (2 : Int32)))).2 kq) ?_
      refine own_st (fun tq kq => XS.iload X125.here hx rfl (hb hby at_206) rfl  kq) ?_
      refine own_st (fun tq kq => XS.iconst X125.here hx rfl (hb hby at_208) kq) ?_
      show own_G p e below _ (T125.setTop (mkF m 209 #[.val (.int p0), .val (.int p1), .val (.int p2), .val (.int sm), .val (.ref rl), .val (.int (2 : Int32)), .val (.int (2 : Int32)), .val (.int u0), .val (.int u1), .val (.int r0), .val (.int r1), .val (.ref b114), .val (.ref b117), .val (.ref b120), .val (.ref b123), .unset, .unset] [(.int (1 : Int32)), (.int (2 : Int32))]))
      refine own_st (fun tq kq => XS.icmpNo X125.here hx rfl (hb hby at_209) rfl (flt (by decide : ¬ ((2 : Int32) < (1 : Int32)))).1 kq) ?_
      refine own_st (fun tq kq => XS.iload X125.here hx rfl (hb hby at_212) rfl  kq) ?_
      refine own_st (fun tq kq => XS.iload X125.here hx rfl (hb hby at_214) rfl  kq) ?_
      show own_G p e below _ (T125.setTop (mkF m 216 #[.val (.int p0), .val (.int p1), .val (.int p2), .val (.int sm), .val (.ref rl), .val (.int (2 : Int32)), .val (.int (2 : Int32)), .val (.int u0), .val (.int u1), .val (.int r0), .val (.int r1), .val (.ref b114), .val (.ref b117), .val (.ref b120), .val (.ref b123), .unset, .unset] [(.int r0), (.int u0)]))
      by_cases hc216_128 : (u0 = r0)
      ·
        refine own_st (fun tq kq => XS.icmpNo X125.here hx rfl (hb hby at_216) rfl (teq hc216_128).2 kq) ?_
        refine own_st (fun tq kq => XS.iload X125.here hx rfl (hb hby at_219) rfl  kq) ?_
        refine own_st (fun tq kq => XS.iconst X125.here hx rfl (hb hby at_221) kq) ?_
        show own_G p e below _ (T125.setTop (mkF m 222 #[.val (.int p0), .val (.int p1), .val (.int p2), .val (.int sm), .val (.ref rl), .val (.int (2 : Int32)), .val (.int (2 : Int32)), .val (.int u0), .val (.int u1), .val (.int r0), .val (.int r1), .val (.ref b114), .val (.ref b117), .val (.ref b120), .val (.ref b123), .unset, .unset] [(.int (2 : Int32)), (.int (2 : Int32))]))
        refine own_st (fun tq kq => XS.icmpNo X125.here hx rfl (hb hby at_222) rfl (flt (by decide : ¬ ((2 : Int32) < (2 : Int32)))).1 kq) ?_
        refine own_st (fun tq kq => XS.iload X125.here hx rfl (hb hby at_225) rfl  kq) ?_
        refine own_st (fun tq kq => XS.iload X125.here hx rfl (hb hby at_227) rfl  kq) ?_
        show own_G p e below _ (T125.setTop (mkF m 229 #[.val (.int p0), .val (.int p1), .val (.int p2), .val (.int sm), .val (.ref rl), .val (.int (2 : Int32)), .val (.int (2 : Int32)), .val (.int u0), .val (.int u1), .val (.int r0), .val (.int r1), .val (.ref b114), .val (.ref b117), .val (.ref b120), .val (.ref b123), .unset, .unset] [(.int r1), (.int u1)]))
        by_cases hc229_129 : (u1 = r1)
        ·
          refine own_st (fun tq kq => XS.icmpNo X125.here hx rfl (hb hby at_229) rfl (teq hc229_129).2 kq) ?_
          refine own_st (fun tq kq => XS.iconst X125.here hx rfl (hb hby at_232) kq) ?_
          refine own_st (fun tq kq => XS.goto X125.here hx rfl (pc0 := 233) (pc' := 237) rfl (hb hby at_233) (by decide) (by decide) kq) ?_
          refine own_st (fun tq kq => XS.istore X125.here hx rfl (hb hby at_237) rfl (l' := #[.val (.int p0), .val (.int p1), .val (.int p2), .val (.int sm), .val (.ref rl), .val (.int (2 : Int32)), .val (.int (2 : Int32)), .val (.int u0), .val (.int u1), .val (.int r0), .val (.int r1), .val (.ref b114), .val (.ref b117), .val (.ref b120), .val (.ref b123), .val (.int (1 : Int32)), .unset]) rfl kq) ?_
          show own_G p e below _ (T125.setTop (mkF m 239 #[.val (.int p0), .val (.int p1), .val (.int p2), .val (.int sm), .val (.ref rl), .val (.int (2 : Int32)), .val (.int (2 : Int32)), .val (.int u0), .val (.int u1), .val (.int r0), .val (.int r1), .val (.ref b114), .val (.ref b117), .val (.ref b120), .val (.ref b123), .val (.int (1 : Int32)), .unset] []))
          rcases hsm with rfl | rfl
          ·
            show own_G p e below _ (T125.setTop (mkF m 239 #[.val (.int p0), .val (.int p1), .val (.int p2), .val (.int (1 : Int32)), .val (.ref rl), .val (.int (2 : Int32)), .val (.int (2 : Int32)), .val (.int u0), .val (.int u1), .val (.int r0), .val (.int r1), .val (.ref b114), .val (.ref b117), .val (.ref b120), .val (.ref b123), .val (.int (1 : Int32)), .unset] []))
            refine own_st (fun tq kq => XS.iloadN X125.here hx rfl (hb hby at_239) rfl  kq) ?_
            show own_G p e below _ (T125.setTop (mkF m 240 #[.val (.int p0), .val (.int p1), .val (.int p2), .val (.int (1 : Int32)), .val (.ref rl), .val (.int (2 : Int32)), .val (.int (2 : Int32)), .val (.int u0), .val (.int u1), .val (.int r0), .val (.int r1), .val (.ref b114), .val (.ref b117), .val (.ref b120), .val (.ref b123), .val (.int (1 : Int32)), .unset] [(.int (1 : Int32))]))
            refine own_st (fun tq kq => XS.ifNo X125.here hx rfl (hb hby at_240) rfl ((if0 _ _).trans (feq (by decide : ¬ ((1 : Int32) = (0 : Int32)))).1) kq) ?_
            refine own_st (fun tq kq => XS.iload X125.here hx rfl (hb hby at_243) rfl  kq) ?_
            refine own_st (fun tq kq => XS.goto X125.here hx rfl (pc0 := 245) (pc' := 258) rfl (hb hby at_245) (by decide) (by decide) kq) ?_
            refine own_st (fun tq kq => XS.istore X125.here hx rfl (hb hby at_258) rfl (l' := #[.val (.int p0), .val (.int p1), .val (.int p2), .val (.int (1 : Int32)), .val (.ref rl), .val (.int (2 : Int32)), .val (.int (2 : Int32)), .val (.int u0), .val (.int u1), .val (.int r0), .val (.int r1), .val (.ref b114), .val (.ref b117), .val (.ref b120), .val (.ref b123), .val (.int (1 : Int32)), .val (.int (1 : Int32))]) rfl kq) ?_
            show own_G p e below _ (T125.setTop (mkF m 260 #[.val (.int p0), .val (.int p1), .val (.int p2), .val (.int (1 : Int32)), .val (.ref rl), .val (.int (2 : Int32)), .val (.int (2 : Int32)), .val (.int u0), .val (.int u1), .val (.int r0), .val (.int r1), .val (.ref b114), .val (.ref b117), .val (.ref b120), .val (.ref b123), .val (.int (1 : Int32)), .val (.int (1 : Int32))] []))
            refine own_st (fun tq kq => XS.aload X125.here hx rfl (hb hby at_260) rfl rfl kq) ?_
            refine own_st (fun tq kq => XS.aload X125.here hx rfl (hb hby at_262) rfl rfl kq) ?_
            refine own_st (fun tq kq => XS.aload X125.here hx rfl (hb hby at_264) rfl rfl kq) ?_
            show own_G p e below _ (T125.setTop (mkF m 266 #[.val (.int p0), .val (.int p1), .val (.int p2), .val (.int (1 : Int32)), .val (.ref rl), .val (.int (2 : Int32)), .val (.int (2 : Int32)), .val (.int u0), .val (.int u1), .val (.int r0), .val (.int r1), .val (.ref b114), .val (.ref b117), .val (.ref b120), .val (.ref b123), .val (.int (1 : Int32)), .val (.int (1 : Int32))] [(.ref b123), (.ref b120), (.ref rl)]))
            obtain ⟨cq130, kq130, q130a, q130b, q130c⟩ := isOf Z125 rfl (((((((((((Er.ext (X00.keep K0 all0).2).ext E114).wr W115).wr W116).ext E117).wr W118).wr W119).ext E120).keep KK121).ext E123).keep KK125)
            obtain ⟨_, _, ⟨T130, L130, k130, n130⟩, -, X130, ⟨Lc130, hQ130, l130, y130, z130⟩, st130⟩ := X125.virtualBack hx (y := (⟨"com/example/veild/veild/policy/Constraint$Relation", "holds", "(Ljava/lang/String;Ljava/lang/String;)Z"⟩ : MethodName)) (z := (⟨"com/example/veild/veild/policy/Constraint$Relation", "holds", "(Ljava/lang/String;Ljava/lang/String;)Z"⟩ : MethodName)) o125 (mvT Z125 (hw _ (List.mem_of_getElem? (i := 36) rfl))) (mvT Z125 (hw _ (List.mem_of_getElem? (i := 37) rfl))) (notFace_of_selects (args := #[]) (mvT Z125 (hw _ (List.mem_of_getElem? (i := 39) rfl)))) (mvT Z125 (hw _ (List.mem_of_getElem? (i := 39) rfl))) (mvT Z125 (hw _ (List.mem_of_getElem? (i := 38) rfl))) (by decide) (own_backN (W := 0) (own_holds1 l Z a0 hw [] (rl) (b120) (b123) (([(nar .char u0), (nar .char u1)] : List Int32)) (([(nar .char r0), (nar .char r1)] : List Int32)) (T125.heap.size) (G1) T125.heap n0 (by omega) (X00.keep K125 all0) (Fr1.ext (X00.keep K125 all0).2) (own_Str.mono ((Str121.ext E123).keep KK125 (allS (own_le (by omega)) all0)) (by omega)) (own_Str.mono Str125 (by omega)) O2 P5) Z125 (hw _ (List.mem_of_getElem? (i := 40) rfl)) (hw _ (List.mem_of_getElem? (i := 1) rfl)) (by decide) (by decide)) q130a q130c (g := (mkF m 266 #[.val (.int p0), .val (.int p1), .val (.int p2), .val (.int (1 : Int32)), .val (.ref rl), .val (.int (2 : Int32)), .val (.int (2 : Int32)), .val (.int u0), .val (.int u1), .val (.int r0), .val (.int r1), .val (.ref b114), .val (.ref b117), .val (.ref b120), .val (.ref b123), .val (.int (1 : Int32)), .val (.int (1 : Int32))] [(.ref b123), (.ref b120), (.ref rl)])) rfl (by rw [hml]; rfl) (Steps.refl _) (argsL := [(.ref b120), (.ref b123)]) (rest := []) (lenOf own_pd3 rfl) rfl (by show 2 * 0 + _ ≤ _; exact Nat.le_of_eq rfl) (hb hby at_266) (fun _ _ => ⟨rfl, rfl, (by decide : 8 + 0 ≤ _), (by decide : 24 + 0 ≤ _)⟩)
            dsimp only [Pt.U, Pt.locs, Pt.cells, Pt.slots] at X130 l130 y130 z130 st130 hQ130
            subst l130 y130 z130
            obtain ⟨hr130, Nq130, sm130⟩ := hQ130
            obtain ⟨rfl, eq130⟩ := hr130.resolve_right (fun q => q.2 (by rw [hc216_128, hc229_129]))
            have N130 := Fr.app N125 Nq130
            refine own_st (fun tq kq => st130.trans kq) ?_
            show own_G p e below _ (T130.setTop (mkF m 269 #[.val (.int p0), .val (.int p1), .val (.int p2), .val (.int (1 : Int32)), .val (.ref rl), .val (.int (2 : Int32)), .val (.int (2 : Int32)), .val (.int u0), .val (.int u1), .val (.int r0), .val (.int r1), .val (.ref b114), .val (.ref b117), .val (.ref b120), .val (.ref b123), .val (.int (1 : Int32)), .val (.int (1 : Int32))] [(.int (1 : Int32))]))
            refine own_st (fun tq kq => XS.iload X130.here hx rfl (hb hby at_269) rfl  kq) ?_
            show own_G p e below _ (T130.setTop (mkF m 271 #[.val (.int p0), .val (.int p1), .val (.int p2), .val (.int (1 : Int32)), .val (.ref rl), .val (.int (2 : Int32)), .val (.int (2 : Int32)), .val (.int u0), .val (.int u1), .val (.int r0), .val (.int r1), .val (.ref b114), .val (.ref b117), .val (.ref b120), .val (.ref b123), .val (.int (1 : Int32)), .val (.int (1 : Int32))] [(.int (1 : Int32)), (.int (1 : Int32))]))
            refine own_st (fun tq kq => XS.icmpNo X130.here hx rfl (hb hby at_271) rfl (teq (by decide : ((1 : Int32) = (1 : Int32)))).2 kq) ?_
            refine own_st (fun tq kq => XS.iconst X130.here hx rfl (hb hby at_274) kq) ?_
            refine own_st (fun tq kq => XS.goto X130.here hx rfl (pc0 := 275) (pc' := 279) rfl (hb hby at_275) (by decide) (by decide) kq) ?_
            show own_G p e below _ (T130.setTop (mkF m 279 #[.val (.int p0), .val (.int p1), .val (.int p2), .val (.int (1 : Int32)), .val (.ref rl), .val (.int (2 : Int32)), .val (.int (2 : Int32)), .val (.int u0), .val (.int u1), .val (.int r0), .val (.int r1), .val (.ref b114), .val (.ref b117), .val (.ref b120), .val (.ref b123), .val (.int (1 : Int32)), .val (.int (1 : Int32))] [(.int (1 : Int32))]))
            obtain ⟨fs, hr, hrun, hended, hRW⟩ := X130.leaveW S125 (by rw [sm130]; exact (own_le (by omega))) (v := some (.int (1 : Int32))) (fun h => by rw [Bd.returns] at h; cases h)
            have cE := C125.trans (CHv.at (s := s) (vm0 := T125.vm) X130 Z125 hEL C125.1)
            refine ⟨_, _, retN X130 hx (t := .boolean) Bd.returns (by simp) (hb hby at_279) hr, hrun, hended, _, _, rfl, ?_, ?_, own_RW hRW (by decide) (by decide)⟩
            · change (fun (v : Option Value) (_ : Vm) (h : Heap) (L : List Loc) => v = some (.int (1 : Int32)) ∧ Fr n0 L) (some (.int (1 : Int32))) T130.vm T130.heap _; rw [sm130]; exact ⟨rfl, N130⟩
            · rw [hh]; change CHr Z consts_1 s.vm h0 T130.vm T130.heap; rw [sm130]; exact cE
          ·
            show own_G p e below _ (T125.setTop (mkF m 239 #[.val (.int p0), .val (.int p1), .val (.int p2), .val (.int (0 : Int32)), .val (.ref rl), .val (.int (2 : Int32)), .val (.int (2 : Int32)), .val (.int u0), .val (.int u1), .val (.int r0), .val (.int r1), .val (.ref b114), .val (.ref b117), .val (.ref b120), .val (.ref b123), .val (.int (1 : Int32)), .unset] []))
            refine own_st (fun tq kq => XS.iloadN X125.here hx rfl (hb hby at_239) rfl  kq) ?_
            show own_G p e below _ (T125.setTop (mkF m 240 #[.val (.int p0), .val (.int p1), .val (.int p2), .val (.int (0 : Int32)), .val (.ref rl), .val (.int (2 : Int32)), .val (.int (2 : Int32)), .val (.int u0), .val (.int u1), .val (.int r0), .val (.int r1), .val (.ref b114), .val (.ref b117), .val (.ref b120), .val (.ref b123), .val (.int (1 : Int32)), .unset] [(.int (0 : Int32))]))
            refine own_st (fun tq kq => XS.ifYes X125.here hx rfl (pc0 := 240) (pc' := 248) rfl (hb hby at_240) rfl ((if0 _ _).trans (teq (by decide : ((0 : Int32) = (0 : Int32)))).1) (by decide) (by decide) kq) ?_
            refine own_st (fun tq kq => XS.iload X125.here hx rfl (hb hby at_248) rfl  kq) ?_
            show own_G p e below _ (T125.setTop (mkF m 250 #[.val (.int p0), .val (.int p1), .val (.int p2), .val (.int (0 : Int32)), .val (.ref rl), .val (.int (2 : Int32)), .val (.int (2 : Int32)), .val (.int u0), .val (.int u1), .val (.int r0), .val (.int r1), .val (.ref b114), .val (.ref b117), .val (.ref b120), .val (.ref b123), .val (.int (1 : Int32)), .unset] [(.int (1 : Int32))]))
            refine own_st (fun tq kq => XS.ifYes X125.here hx rfl (pc0 := 250) (pc' := 257) rfl (hb hby at_250) rfl ((if0 _ _).trans (feq (by decide : ¬ ((1 : Int32) = (0 : Int32)))).2) (by decide) (by decide) kq) ?_
            refine own_st (fun tq kq => XS.iconst X125.here hx rfl (hb hby at_257) kq) ?_
            refine own_st (fun tq kq => XS.istore X125.here hx rfl (hb hby at_258) rfl (l' := #[.val (.int p0), .val (.int p1), .val (.int p2), .val (.int (0 : Int32)), .val (.ref rl), .val (.int (2 : Int32)), .val (.int (2 : Int32)), .val (.int u0), .val (.int u1), .val (.int r0), .val (.int r1), .val (.ref b114), .val (.ref b117), .val (.ref b120), .val (.ref b123), .val (.int (1 : Int32)), .val (.int (0 : Int32))]) rfl kq) ?_
            refine own_st (fun tq kq => XS.aload X125.here hx rfl (hb hby at_260) rfl rfl kq) ?_
            show own_G p e below _ (T125.setTop (mkF m 262 #[.val (.int p0), .val (.int p1), .val (.int p2), .val (.int (0 : Int32)), .val (.ref rl), .val (.int (2 : Int32)), .val (.int (2 : Int32)), .val (.int u0), .val (.int u1), .val (.int r0), .val (.int r1), .val (.ref b114), .val (.ref b117), .val (.ref b120), .val (.ref b123), .val (.int (1 : Int32)), .val (.int (0 : Int32))] [(.ref rl)]))
            refine own_st (fun tq kq => XS.aload X125.here hx rfl (hb hby at_262) rfl rfl kq) ?_
            refine own_st (fun tq kq => XS.aload X125.here hx rfl (hb hby at_264) rfl rfl kq) ?_
            show own_G p e below _ (T125.setTop (mkF m 266 #[.val (.int p0), .val (.int p1), .val (.int p2), .val (.int (0 : Int32)), .val (.ref rl), .val (.int (2 : Int32)), .val (.int (2 : Int32)), .val (.int u0), .val (.int u1), .val (.int r0), .val (.int r1), .val (.ref b114), .val (.ref b117), .val (.ref b120), .val (.ref b123), .val (.int (1 : Int32)), .val (.int (0 : Int32))] [(.ref b123), (.ref b120), (.ref rl)]))
            obtain ⟨cq131, kq131, q131a, q131b, q131c⟩ := isOf Z125 rfl (((((((((((Er.ext (X00.keep K0 all0).2).ext E114).wr W115).wr W116).ext E117).wr W118).wr W119).ext E120).keep KK121).ext E123).keep KK125)
            obtain ⟨_, _, ⟨T131, L131, k131, n131⟩, -, X131, ⟨Lc131, hQ131, l131, y131, z131⟩, st131⟩ := X125.virtualBack hx (y := (⟨"com/example/veild/veild/policy/Constraint$Relation", "holds", "(Ljava/lang/String;Ljava/lang/String;)Z"⟩ : MethodName)) (z := (⟨"com/example/veild/veild/policy/Constraint$Relation", "holds", "(Ljava/lang/String;Ljava/lang/String;)Z"⟩ : MethodName)) o125 (mvT Z125 (hw _ (List.mem_of_getElem? (i := 36) rfl))) (mvT Z125 (hw _ (List.mem_of_getElem? (i := 37) rfl))) (notFace_of_selects (args := #[]) (mvT Z125 (hw _ (List.mem_of_getElem? (i := 39) rfl)))) (mvT Z125 (hw _ (List.mem_of_getElem? (i := 39) rfl))) (mvT Z125 (hw _ (List.mem_of_getElem? (i := 38) rfl))) (by decide) (own_backN (W := 0) (own_holds0 l Z a0 hw [] (rl) (b120) (b123) (([(nar .char u0), (nar .char u1)] : List Int32)) (([(nar .char r0), (nar .char r1)] : List Int32)) (T125.heap.size) (G1) T125.heap n0 (by omega) (X00.keep K125 all0) (Fr1.ext (X00.keep K125 all0).2) (own_Str.mono ((Str121.ext E123).keep KK125 (allS (own_le (by omega)) all0)) (by omega)) (own_Str.mono Str125 (by omega)) O2 P5) Z125 (hw _ (List.mem_of_getElem? (i := 40) rfl)) (hw _ (List.mem_of_getElem? (i := 1) rfl)) (by decide) (by decide)) q131a q131c (g := (mkF m 266 #[.val (.int p0), .val (.int p1), .val (.int p2), .val (.int (0 : Int32)), .val (.ref rl), .val (.int (2 : Int32)), .val (.int (2 : Int32)), .val (.int u0), .val (.int u1), .val (.int r0), .val (.int r1), .val (.ref b114), .val (.ref b117), .val (.ref b120), .val (.ref b123), .val (.int (1 : Int32)), .val (.int (0 : Int32))] [(.ref b123), (.ref b120), (.ref rl)])) rfl (by rw [hml]; rfl) (Steps.refl _) (argsL := [(.ref b120), (.ref b123)]) (rest := []) (lenOf own_pd3 rfl) rfl (by show 2 * 0 + _ ≤ _; exact Nat.le_of_eq rfl) (hb hby at_266) (fun _ _ => ⟨rfl, rfl, (by decide : 8 + 0 ≤ _), (by decide : 24 + 0 ≤ _)⟩)
            dsimp only [Pt.U, Pt.locs, Pt.cells, Pt.slots] at X131 l131 y131 z131 st131 hQ131
            subst l131 y131 z131
            obtain ⟨hr131, Nq131, sm131⟩ := hQ131
            obtain ⟨rfl, eq131⟩ := hr131.resolve_right (fun q => q.2 (by rw [hc216_128, hc229_129]))
            have N131 := Fr.app N125 Nq131
            refine own_st (fun tq kq => st131.trans kq) ?_
            show own_G p e below _ (T131.setTop (mkF m 269 #[.val (.int p0), .val (.int p1), .val (.int p2), .val (.int (0 : Int32)), .val (.ref rl), .val (.int (2 : Int32)), .val (.int (2 : Int32)), .val (.int u0), .val (.int u1), .val (.int r0), .val (.int r1), .val (.ref b114), .val (.ref b117), .val (.ref b120), .val (.ref b123), .val (.int (1 : Int32)), .val (.int (0 : Int32))] [(.int (0 : Int32))]))
            refine own_st (fun tq kq => XS.iload X131.here hx rfl (hb hby at_269) rfl  kq) ?_
            show own_G p e below _ (T131.setTop (mkF m 271 #[.val (.int p0), .val (.int p1), .val (.int p2), .val (.int (0 : Int32)), .val (.ref rl), .val (.int (2 : Int32)), .val (.int (2 : Int32)), .val (.int u0), .val (.int u1), .val (.int r0), .val (.int r1), .val (.ref b114), .val (.ref b117), .val (.ref b120), .val (.ref b123), .val (.int (1 : Int32)), .val (.int (0 : Int32))] [(.int (0 : Int32)), (.int (0 : Int32))]))
            refine own_st (fun tq kq => XS.icmpNo X131.here hx rfl (hb hby at_271) rfl (teq (by decide : ((0 : Int32) = (0 : Int32)))).2 kq) ?_
            refine own_st (fun tq kq => XS.iconst X131.here hx rfl (hb hby at_274) kq) ?_
            refine own_st (fun tq kq => XS.goto X131.here hx rfl (pc0 := 275) (pc' := 279) rfl (hb hby at_275) (by decide) (by decide) kq) ?_
            show own_G p e below _ (T131.setTop (mkF m 279 #[.val (.int p0), .val (.int p1), .val (.int p2), .val (.int (0 : Int32)), .val (.ref rl), .val (.int (2 : Int32)), .val (.int (2 : Int32)), .val (.int u0), .val (.int u1), .val (.int r0), .val (.int r1), .val (.ref b114), .val (.ref b117), .val (.ref b120), .val (.ref b123), .val (.int (1 : Int32)), .val (.int (0 : Int32))] [(.int (1 : Int32))]))
            obtain ⟨fs, hr, hrun, hended, hRW⟩ := X131.leaveW S125 (by rw [sm131]; exact (own_le (by omega))) (v := some (.int (1 : Int32))) (fun h => by rw [Bd.returns] at h; cases h)
            have cE := C125.trans (CHv.at (s := s) (vm0 := T125.vm) X131 Z125 hEL C125.1)
            refine ⟨_, _, retN X131 hx (t := .boolean) Bd.returns (by simp) (hb hby at_279) hr, hrun, hended, _, _, rfl, ?_, ?_, own_RW hRW (by decide) (by decide)⟩
            · change (fun (v : Option Value) (_ : Vm) (h : Heap) (L : List Loc) => v = some (.int (1 : Int32)) ∧ Fr n0 L) (some (.int (1 : Int32))) T131.vm T131.heap _; rw [sm131]; exact ⟨rfl, N131⟩
            · rw [hh]; change CHr Z consts_1 s.vm h0 T131.vm T131.heap; rw [sm131]; exact cE
        ·
          refine own_st (fun tq kq => XS.icmpYes X125.here hx rfl (pc0 := 229) (pc' := 236) rfl (hb hby at_229) rfl (feq hc229_129).2 (by decide) (by decide) kq) ?_
          refine own_st (fun tq kq => XS.iconst X125.here hx rfl (hb hby at_236) kq) ?_
          refine own_st (fun tq kq => XS.istore X125.here hx rfl (hb hby at_237) rfl (l' := #[.val (.int p0), .val (.int p1), .val (.int p2), .val (.int sm), .val (.ref rl), .val (.int (2 : Int32)), .val (.int (2 : Int32)), .val (.int u0), .val (.int u1), .val (.int r0), .val (.int r1), .val (.ref b114), .val (.ref b117), .val (.ref b120), .val (.ref b123), .val (.int (0 : Int32)), .unset]) rfl kq) ?_
          show own_G p e below _ (T125.setTop (mkF m 239 #[.val (.int p0), .val (.int p1), .val (.int p2), .val (.int sm), .val (.ref rl), .val (.int (2 : Int32)), .val (.int (2 : Int32)), .val (.int u0), .val (.int u1), .val (.int r0), .val (.int r1), .val (.ref b114), .val (.ref b117), .val (.ref b120), .val (.ref b123), .val (.int (0 : Int32)), .unset] []))
          rcases hsm with rfl | rfl
          ·
            show own_G p e below _ (T125.setTop (mkF m 239 #[.val (.int p0), .val (.int p1), .val (.int p2), .val (.int (1 : Int32)), .val (.ref rl), .val (.int (2 : Int32)), .val (.int (2 : Int32)), .val (.int u0), .val (.int u1), .val (.int r0), .val (.int r1), .val (.ref b114), .val (.ref b117), .val (.ref b120), .val (.ref b123), .val (.int (0 : Int32)), .unset] []))
            refine own_st (fun tq kq => XS.iloadN X125.here hx rfl (hb hby at_239) rfl  kq) ?_
            show own_G p e below _ (T125.setTop (mkF m 240 #[.val (.int p0), .val (.int p1), .val (.int p2), .val (.int (1 : Int32)), .val (.ref rl), .val (.int (2 : Int32)), .val (.int (2 : Int32)), .val (.int u0), .val (.int u1), .val (.int r0), .val (.int r1), .val (.ref b114), .val (.ref b117), .val (.ref b120), .val (.ref b123), .val (.int (0 : Int32)), .unset] [(.int (1 : Int32))]))
            refine own_st (fun tq kq => XS.ifNo X125.here hx rfl (hb hby at_240) rfl ((if0 _ _).trans (feq (by decide : ¬ ((1 : Int32) = (0 : Int32)))).1) kq) ?_
            refine own_st (fun tq kq => XS.iload X125.here hx rfl (hb hby at_243) rfl  kq) ?_
            refine own_st (fun tq kq => XS.goto X125.here hx rfl (pc0 := 245) (pc' := 258) rfl (hb hby at_245) (by decide) (by decide) kq) ?_
            refine own_st (fun tq kq => XS.istore X125.here hx rfl (hb hby at_258) rfl (l' := #[.val (.int p0), .val (.int p1), .val (.int p2), .val (.int (1 : Int32)), .val (.ref rl), .val (.int (2 : Int32)), .val (.int (2 : Int32)), .val (.int u0), .val (.int u1), .val (.int r0), .val (.int r1), .val (.ref b114), .val (.ref b117), .val (.ref b120), .val (.ref b123), .val (.int (0 : Int32)), .val (.int (0 : Int32))]) rfl kq) ?_
            show own_G p e below _ (T125.setTop (mkF m 260 #[.val (.int p0), .val (.int p1), .val (.int p2), .val (.int (1 : Int32)), .val (.ref rl), .val (.int (2 : Int32)), .val (.int (2 : Int32)), .val (.int u0), .val (.int u1), .val (.int r0), .val (.int r1), .val (.ref b114), .val (.ref b117), .val (.ref b120), .val (.ref b123), .val (.int (0 : Int32)), .val (.int (0 : Int32))] []))
            refine own_st (fun tq kq => XS.aload X125.here hx rfl (hb hby at_260) rfl rfl kq) ?_
            refine own_st (fun tq kq => XS.aload X125.here hx rfl (hb hby at_262) rfl rfl kq) ?_
            refine own_st (fun tq kq => XS.aload X125.here hx rfl (hb hby at_264) rfl rfl kq) ?_
            show own_G p e below _ (T125.setTop (mkF m 266 #[.val (.int p0), .val (.int p1), .val (.int p2), .val (.int (1 : Int32)), .val (.ref rl), .val (.int (2 : Int32)), .val (.int (2 : Int32)), .val (.int u0), .val (.int u1), .val (.int r0), .val (.int r1), .val (.ref b114), .val (.ref b117), .val (.ref b120), .val (.ref b123), .val (.int (0 : Int32)), .val (.int (0 : Int32))] [(.ref b123), (.ref b120), (.ref rl)]))
            obtain ⟨cq132, kq132, q132a, q132b, q132c⟩ := isOf Z125 rfl (((((((((((Er.ext (X00.keep K0 all0).2).ext E114).wr W115).wr W116).ext E117).wr W118).wr W119).ext E120).keep KK121).ext E123).keep KK125)
            obtain ⟨_, _, ⟨T132, L132, k132, n132⟩, -, X132, ⟨Lc132, hQ132, l132, y132, z132⟩, st132⟩ := X125.virtualBack hx (y := (⟨"com/example/veild/veild/policy/Constraint$Relation", "holds", "(Ljava/lang/String;Ljava/lang/String;)Z"⟩ : MethodName)) (z := (⟨"com/example/veild/veild/policy/Constraint$Relation", "holds", "(Ljava/lang/String;Ljava/lang/String;)Z"⟩ : MethodName)) o125 (mvT Z125 (hw _ (List.mem_of_getElem? (i := 36) rfl))) (mvT Z125 (hw _ (List.mem_of_getElem? (i := 37) rfl))) (notFace_of_selects (args := #[]) (mvT Z125 (hw _ (List.mem_of_getElem? (i := 39) rfl)))) (mvT Z125 (hw _ (List.mem_of_getElem? (i := 39) rfl))) (mvT Z125 (hw _ (List.mem_of_getElem? (i := 38) rfl))) (by decide) (own_backN (W := 0) (own_holds1 l Z a0 hw [] (rl) (b120) (b123) (([(nar .char u0), (nar .char u1)] : List Int32)) (([(nar .char r0), (nar .char r1)] : List Int32)) (T125.heap.size) (G1) T125.heap n0 (by omega) (X00.keep K125 all0) (Fr1.ext (X00.keep K125 all0).2) (own_Str.mono ((Str121.ext E123).keep KK125 (allS (own_le (by omega)) all0)) (by omega)) (own_Str.mono Str125 (by omega)) O2 P5) Z125 (hw _ (List.mem_of_getElem? (i := 40) rfl)) (hw _ (List.mem_of_getElem? (i := 1) rfl)) (by decide) (by decide)) q132a q132c (g := (mkF m 266 #[.val (.int p0), .val (.int p1), .val (.int p2), .val (.int (1 : Int32)), .val (.ref rl), .val (.int (2 : Int32)), .val (.int (2 : Int32)), .val (.int u0), .val (.int u1), .val (.int r0), .val (.int r1), .val (.ref b114), .val (.ref b117), .val (.ref b120), .val (.ref b123), .val (.int (0 : Int32)), .val (.int (0 : Int32))] [(.ref b123), (.ref b120), (.ref rl)])) rfl (by rw [hml]; rfl) (Steps.refl _) (argsL := [(.ref b120), (.ref b123)]) (rest := []) (lenOf own_pd3 rfl) rfl (by show 2 * 0 + _ ≤ _; exact Nat.le_of_eq rfl) (hb hby at_266) (fun _ _ => ⟨rfl, rfl, (by decide : 8 + 0 ≤ _), (by decide : 24 + 0 ≤ _)⟩)
            dsimp only [Pt.U, Pt.locs, Pt.cells, Pt.slots] at X132 l132 y132 z132 st132 hQ132
            subst l132 y132 z132
            obtain ⟨hr132, Nq132, sm132⟩ := hQ132
            obtain ⟨rfl, eq132⟩ := hr132.resolve_left (fun q => (by intro hh; apply hc229_129; simp only [List.cons.injEq, nu0, nu1, nr0, nr1] at hh; exact hh.2.1 : ¬ _) q.2)
            have N132 := Fr.app N125 Nq132
            refine own_st (fun tq kq => st132.trans kq) ?_
            show own_G p e below _ (T132.setTop (mkF m 269 #[.val (.int p0), .val (.int p1), .val (.int p2), .val (.int (1 : Int32)), .val (.ref rl), .val (.int (2 : Int32)), .val (.int (2 : Int32)), .val (.int u0), .val (.int u1), .val (.int r0), .val (.int r1), .val (.ref b114), .val (.ref b117), .val (.ref b120), .val (.ref b123), .val (.int (0 : Int32)), .val (.int (0 : Int32))] [(.int (0 : Int32))]))
            refine own_st (fun tq kq => XS.iload X132.here hx rfl (hb hby at_269) rfl  kq) ?_
            show own_G p e below _ (T132.setTop (mkF m 271 #[.val (.int p0), .val (.int p1), .val (.int p2), .val (.int (1 : Int32)), .val (.ref rl), .val (.int (2 : Int32)), .val (.int (2 : Int32)), .val (.int u0), .val (.int u1), .val (.int r0), .val (.int r1), .val (.ref b114), .val (.ref b117), .val (.ref b120), .val (.ref b123), .val (.int (0 : Int32)), .val (.int (0 : Int32))] [(.int (0 : Int32)), (.int (0 : Int32))]))
            refine own_st (fun tq kq => XS.icmpNo X132.here hx rfl (hb hby at_271) rfl (teq (by decide : ((0 : Int32) = (0 : Int32)))).2 kq) ?_
            refine own_st (fun tq kq => XS.iconst X132.here hx rfl (hb hby at_274) kq) ?_
            refine own_st (fun tq kq => XS.goto X132.here hx rfl (pc0 := 275) (pc' := 279) rfl (hb hby at_275) (by decide) (by decide) kq) ?_
            show own_G p e below _ (T132.setTop (mkF m 279 #[.val (.int p0), .val (.int p1), .val (.int p2), .val (.int (1 : Int32)), .val (.ref rl), .val (.int (2 : Int32)), .val (.int (2 : Int32)), .val (.int u0), .val (.int u1), .val (.int r0), .val (.int r1), .val (.ref b114), .val (.ref b117), .val (.ref b120), .val (.ref b123), .val (.int (0 : Int32)), .val (.int (0 : Int32))] [(.int (1 : Int32))]))
            obtain ⟨fs, hr, hrun, hended, hRW⟩ := X132.leaveW S125 (by rw [sm132]; exact (own_le (by omega))) (v := some (.int (1 : Int32))) (fun h => by rw [Bd.returns] at h; cases h)
            have cE := C125.trans (CHv.at (s := s) (vm0 := T125.vm) X132 Z125 hEL C125.1)
            refine ⟨_, _, retN X132 hx (t := .boolean) Bd.returns (by simp) (hb hby at_279) hr, hrun, hended, _, _, rfl, ?_, ?_, own_RW hRW (by decide) (by decide)⟩
            · change (fun (v : Option Value) (_ : Vm) (h : Heap) (L : List Loc) => v = some (.int (1 : Int32)) ∧ Fr n0 L) (some (.int (1 : Int32))) T132.vm T132.heap _; rw [sm132]; exact ⟨rfl, N132⟩
            · rw [hh]; change CHr Z consts_1 s.vm h0 T132.vm T132.heap; rw [sm132]; exact cE
          ·
            show own_G p e below _ (T125.setTop (mkF m 239 #[.val (.int p0), .val (.int p1), .val (.int p2), .val (.int (0 : Int32)), .val (.ref rl), .val (.int (2 : Int32)), .val (.int (2 : Int32)), .val (.int u0), .val (.int u1), .val (.int r0), .val (.int r1), .val (.ref b114), .val (.ref b117), .val (.ref b120), .val (.ref b123), .val (.int (0 : Int32)), .unset] []))
            refine own_st (fun tq kq => XS.iloadN X125.here hx rfl (hb hby at_239) rfl  kq) ?_
            show own_G p e below _ (T125.setTop (mkF m 240 #[.val (.int p0), .val (.int p1), .val (.int p2), .val (.int (0 : Int32)), .val (.ref rl), .val (.int (2 : Int32)), .val (.int (2 : Int32)), .val (.int u0), .val (.int u1), .val (.int r0), .val (.int r1), .val (.ref b114), .val (.ref b117), .val (.ref b120), .val (.ref b123), .val (.int (0 : Int32)), .unset] [(.int (0 : Int32))]))
            refine own_st (fun tq kq => XS.ifYes X125.here hx rfl (pc0 := 240) (pc' := 248) rfl (hb hby at_240) rfl ((if0 _ _).trans (teq (by decide : ((0 : Int32) = (0 : Int32)))).1) (by decide) (by decide) kq) ?_
            refine own_st (fun tq kq => XS.iload X125.here hx rfl (hb hby at_248) rfl  kq) ?_
            show own_G p e below _ (T125.setTop (mkF m 250 #[.val (.int p0), .val (.int p1), .val (.int p2), .val (.int (0 : Int32)), .val (.ref rl), .val (.int (2 : Int32)), .val (.int (2 : Int32)), .val (.int u0), .val (.int u1), .val (.int r0), .val (.int r1), .val (.ref b114), .val (.ref b117), .val (.ref b120), .val (.ref b123), .val (.int (0 : Int32)), .unset] [(.int (0 : Int32))]))
            refine own_st (fun tq kq => XS.ifNo X125.here hx rfl (hb hby at_250) rfl ((if0 _ _).trans (teq (by decide : ((0 : Int32) = (0 : Int32)))).2) kq) ?_
            refine own_st (fun tq kq => XS.iconst X125.here hx rfl (hb hby at_253) kq) ?_
            refine own_st (fun tq kq => XS.goto X125.here hx rfl (pc0 := 254) (pc' := 258) rfl (hb hby at_254) (by decide) (by decide) kq) ?_
            refine own_st (fun tq kq => XS.istore X125.here hx rfl (hb hby at_258) rfl (l' := #[.val (.int p0), .val (.int p1), .val (.int p2), .val (.int (0 : Int32)), .val (.ref rl), .val (.int (2 : Int32)), .val (.int (2 : Int32)), .val (.int u0), .val (.int u1), .val (.int r0), .val (.int r1), .val (.ref b114), .val (.ref b117), .val (.ref b120), .val (.ref b123), .val (.int (0 : Int32)), .val (.int (1 : Int32))]) rfl kq) ?_
            show own_G p e below _ (T125.setTop (mkF m 260 #[.val (.int p0), .val (.int p1), .val (.int p2), .val (.int (0 : Int32)), .val (.ref rl), .val (.int (2 : Int32)), .val (.int (2 : Int32)), .val (.int u0), .val (.int u1), .val (.int r0), .val (.int r1), .val (.ref b114), .val (.ref b117), .val (.ref b120), .val (.ref b123), .val (.int (0 : Int32)), .val (.int (1 : Int32))] []))
            refine own_st (fun tq kq => XS.aload X125.here hx rfl (hb hby at_260) rfl rfl kq) ?_
            refine own_st (fun tq kq => XS.aload X125.here hx rfl (hb hby at_262) rfl rfl kq) ?_
            refine own_st (fun tq kq => XS.aload X125.here hx rfl (hb hby at_264) rfl rfl kq) ?_
            show own_G p e below _ (T125.setTop (mkF m 266 #[.val (.int p0), .val (.int p1), .val (.int p2), .val (.int (0 : Int32)), .val (.ref rl), .val (.int (2 : Int32)), .val (.int (2 : Int32)), .val (.int u0), .val (.int u1), .val (.int r0), .val (.int r1), .val (.ref b114), .val (.ref b117), .val (.ref b120), .val (.ref b123), .val (.int (0 : Int32)), .val (.int (1 : Int32))] [(.ref b123), (.ref b120), (.ref rl)]))
            obtain ⟨cq133, kq133, q133a, q133b, q133c⟩ := isOf Z125 rfl (((((((((((Er.ext (X00.keep K0 all0).2).ext E114).wr W115).wr W116).ext E117).wr W118).wr W119).ext E120).keep KK121).ext E123).keep KK125)
            obtain ⟨_, _, ⟨T133, L133, k133, n133⟩, -, X133, ⟨Lc133, hQ133, l133, y133, z133⟩, st133⟩ := X125.virtualBack hx (y := (⟨"com/example/veild/veild/policy/Constraint$Relation", "holds", "(Ljava/lang/String;Ljava/lang/String;)Z"⟩ : MethodName)) (z := (⟨"com/example/veild/veild/policy/Constraint$Relation", "holds", "(Ljava/lang/String;Ljava/lang/String;)Z"⟩ : MethodName)) o125 (mvT Z125 (hw _ (List.mem_of_getElem? (i := 36) rfl))) (mvT Z125 (hw _ (List.mem_of_getElem? (i := 37) rfl))) (notFace_of_selects (args := #[]) (mvT Z125 (hw _ (List.mem_of_getElem? (i := 39) rfl)))) (mvT Z125 (hw _ (List.mem_of_getElem? (i := 39) rfl))) (mvT Z125 (hw _ (List.mem_of_getElem? (i := 38) rfl))) (by decide) (own_backN (W := 0) (own_holds0 l Z a0 hw [] (rl) (b120) (b123) (([(nar .char u0), (nar .char u1)] : List Int32)) (([(nar .char r0), (nar .char r1)] : List Int32)) (T125.heap.size) (G1) T125.heap n0 (by omega) (X00.keep K125 all0) (Fr1.ext (X00.keep K125 all0).2) (own_Str.mono ((Str121.ext E123).keep KK125 (allS (own_le (by omega)) all0)) (by omega)) (own_Str.mono Str125 (by omega)) O2 P5) Z125 (hw _ (List.mem_of_getElem? (i := 40) rfl)) (hw _ (List.mem_of_getElem? (i := 1) rfl)) (by decide) (by decide)) q133a q133c (g := (mkF m 266 #[.val (.int p0), .val (.int p1), .val (.int p2), .val (.int (0 : Int32)), .val (.ref rl), .val (.int (2 : Int32)), .val (.int (2 : Int32)), .val (.int u0), .val (.int u1), .val (.int r0), .val (.int r1), .val (.ref b114), .val (.ref b117), .val (.ref b120), .val (.ref b123), .val (.int (0 : Int32)), .val (.int (1 : Int32))] [(.ref b123), (.ref b120), (.ref rl)])) rfl (by rw [hml]; rfl) (Steps.refl _) (argsL := [(.ref b120), (.ref b123)]) (rest := []) (lenOf own_pd3 rfl) rfl (by show 2 * 0 + _ ≤ _; exact Nat.le_of_eq rfl) (hb hby at_266) (fun _ _ => ⟨rfl, rfl, (by decide : 8 + 0 ≤ _), (by decide : 24 + 0 ≤ _)⟩)
            dsimp only [Pt.U, Pt.locs, Pt.cells, Pt.slots] at X133 l133 y133 z133 st133 hQ133
            subst l133 y133 z133
            obtain ⟨hr133, Nq133, sm133⟩ := hQ133
            obtain ⟨rfl, eq133⟩ := hr133.resolve_left (fun q => (by intro hh; apply hc229_129; simp only [List.cons.injEq, nu0, nu1, nr0, nr1] at hh; exact hh.2.1 : ¬ _) q.2)
            have N133 := Fr.app N125 Nq133
            refine own_st (fun tq kq => st133.trans kq) ?_
            show own_G p e below _ (T133.setTop (mkF m 269 #[.val (.int p0), .val (.int p1), .val (.int p2), .val (.int (0 : Int32)), .val (.ref rl), .val (.int (2 : Int32)), .val (.int (2 : Int32)), .val (.int u0), .val (.int u1), .val (.int r0), .val (.int r1), .val (.ref b114), .val (.ref b117), .val (.ref b120), .val (.ref b123), .val (.int (0 : Int32)), .val (.int (1 : Int32))] [(.int (1 : Int32))]))
            refine own_st (fun tq kq => XS.iload X133.here hx rfl (hb hby at_269) rfl  kq) ?_
            show own_G p e below _ (T133.setTop (mkF m 271 #[.val (.int p0), .val (.int p1), .val (.int p2), .val (.int (0 : Int32)), .val (.ref rl), .val (.int (2 : Int32)), .val (.int (2 : Int32)), .val (.int u0), .val (.int u1), .val (.int r0), .val (.int r1), .val (.ref b114), .val (.ref b117), .val (.ref b120), .val (.ref b123), .val (.int (0 : Int32)), .val (.int (1 : Int32))] [(.int (1 : Int32)), (.int (1 : Int32))]))
            refine own_st (fun tq kq => XS.icmpNo X133.here hx rfl (hb hby at_271) rfl (teq (by decide : ((1 : Int32) = (1 : Int32)))).2 kq) ?_
            refine own_st (fun tq kq => XS.iconst X133.here hx rfl (hb hby at_274) kq) ?_
            refine own_st (fun tq kq => XS.goto X133.here hx rfl (pc0 := 275) (pc' := 279) rfl (hb hby at_275) (by decide) (by decide) kq) ?_
            show own_G p e below _ (T133.setTop (mkF m 279 #[.val (.int p0), .val (.int p1), .val (.int p2), .val (.int (0 : Int32)), .val (.ref rl), .val (.int (2 : Int32)), .val (.int (2 : Int32)), .val (.int u0), .val (.int u1), .val (.int r0), .val (.int r1), .val (.ref b114), .val (.ref b117), .val (.ref b120), .val (.ref b123), .val (.int (0 : Int32)), .val (.int (1 : Int32))] [(.int (1 : Int32))]))
            obtain ⟨fs, hr, hrun, hended, hRW⟩ := X133.leaveW S125 (by rw [sm133]; exact (own_le (by omega))) (v := some (.int (1 : Int32))) (fun h => by rw [Bd.returns] at h; cases h)
            have cE := C125.trans (CHv.at (s := s) (vm0 := T125.vm) X133 Z125 hEL C125.1)
            refine ⟨_, _, retN X133 hx (t := .boolean) Bd.returns (by simp) (hb hby at_279) hr, hrun, hended, _, _, rfl, ?_, ?_, own_RW hRW (by decide) (by decide)⟩
            · change (fun (v : Option Value) (_ : Vm) (h : Heap) (L : List Loc) => v = some (.int (1 : Int32)) ∧ Fr n0 L) (some (.int (1 : Int32))) T133.vm T133.heap _; rw [sm133]; exact ⟨rfl, N133⟩
            · rw [hh]; change CHr Z consts_1 s.vm h0 T133.vm T133.heap; rw [sm133]; exact cE
      ·
        refine own_st (fun tq kq => XS.icmpYes X125.here hx rfl (pc0 := 216) (pc' := 236) rfl (hb hby at_216) rfl (feq hc216_128).2 (by decide) (by decide) kq) ?_
        refine own_st (fun tq kq => XS.iconst X125.here hx rfl (hb hby at_236) kq) ?_
        refine own_st (fun tq kq => XS.istore X125.here hx rfl (hb hby at_237) rfl (l' := #[.val (.int p0), .val (.int p1), .val (.int p2), .val (.int sm), .val (.ref rl), .val (.int (2 : Int32)), .val (.int (2 : Int32)), .val (.int u0), .val (.int u1), .val (.int r0), .val (.int r1), .val (.ref b114), .val (.ref b117), .val (.ref b120), .val (.ref b123), .val (.int (0 : Int32)), .unset]) rfl kq) ?_
        show own_G p e below _ (T125.setTop (mkF m 239 #[.val (.int p0), .val (.int p1), .val (.int p2), .val (.int sm), .val (.ref rl), .val (.int (2 : Int32)), .val (.int (2 : Int32)), .val (.int u0), .val (.int u1), .val (.int r0), .val (.int r1), .val (.ref b114), .val (.ref b117), .val (.ref b120), .val (.ref b123), .val (.int (0 : Int32)), .unset] []))
        rcases hsm with rfl | rfl
        ·
          show own_G p e below _ (T125.setTop (mkF m 239 #[.val (.int p0), .val (.int p1), .val (.int p2), .val (.int (1 : Int32)), .val (.ref rl), .val (.int (2 : Int32)), .val (.int (2 : Int32)), .val (.int u0), .val (.int u1), .val (.int r0), .val (.int r1), .val (.ref b114), .val (.ref b117), .val (.ref b120), .val (.ref b123), .val (.int (0 : Int32)), .unset] []))
          refine own_st (fun tq kq => XS.iloadN X125.here hx rfl (hb hby at_239) rfl  kq) ?_
          show own_G p e below _ (T125.setTop (mkF m 240 #[.val (.int p0), .val (.int p1), .val (.int p2), .val (.int (1 : Int32)), .val (.ref rl), .val (.int (2 : Int32)), .val (.int (2 : Int32)), .val (.int u0), .val (.int u1), .val (.int r0), .val (.int r1), .val (.ref b114), .val (.ref b117), .val (.ref b120), .val (.ref b123), .val (.int (0 : Int32)), .unset] [(.int (1 : Int32))]))
          refine own_st (fun tq kq => XS.ifNo X125.here hx rfl (hb hby at_240) rfl ((if0 _ _).trans (feq (by decide : ¬ ((1 : Int32) = (0 : Int32)))).1) kq) ?_
          refine own_st (fun tq kq => XS.iload X125.here hx rfl (hb hby at_243) rfl  kq) ?_
          refine own_st (fun tq kq => XS.goto X125.here hx rfl (pc0 := 245) (pc' := 258) rfl (hb hby at_245) (by decide) (by decide) kq) ?_
          refine own_st (fun tq kq => XS.istore X125.here hx rfl (hb hby at_258) rfl (l' := #[.val (.int p0), .val (.int p1), .val (.int p2), .val (.int (1 : Int32)), .val (.ref rl), .val (.int (2 : Int32)), .val (.int (2 : Int32)), .val (.int u0), .val (.int u1), .val (.int r0), .val (.int r1), .val (.ref b114), .val (.ref b117), .val (.ref b120), .val (.ref b123), .val (.int (0 : Int32)), .val (.int (0 : Int32))]) rfl kq) ?_
          show own_G p e below _ (T125.setTop (mkF m 260 #[.val (.int p0), .val (.int p1), .val (.int p2), .val (.int (1 : Int32)), .val (.ref rl), .val (.int (2 : Int32)), .val (.int (2 : Int32)), .val (.int u0), .val (.int u1), .val (.int r0), .val (.int r1), .val (.ref b114), .val (.ref b117), .val (.ref b120), .val (.ref b123), .val (.int (0 : Int32)), .val (.int (0 : Int32))] []))
          refine own_st (fun tq kq => XS.aload X125.here hx rfl (hb hby at_260) rfl rfl kq) ?_
          refine own_st (fun tq kq => XS.aload X125.here hx rfl (hb hby at_262) rfl rfl kq) ?_
          refine own_st (fun tq kq => XS.aload X125.here hx rfl (hb hby at_264) rfl rfl kq) ?_
          show own_G p e below _ (T125.setTop (mkF m 266 #[.val (.int p0), .val (.int p1), .val (.int p2), .val (.int (1 : Int32)), .val (.ref rl), .val (.int (2 : Int32)), .val (.int (2 : Int32)), .val (.int u0), .val (.int u1), .val (.int r0), .val (.int r1), .val (.ref b114), .val (.ref b117), .val (.ref b120), .val (.ref b123), .val (.int (0 : Int32)), .val (.int (0 : Int32))] [(.ref b123), (.ref b120), (.ref rl)]))
          obtain ⟨cq134, kq134, q134a, q134b, q134c⟩ := isOf Z125 rfl (((((((((((Er.ext (X00.keep K0 all0).2).ext E114).wr W115).wr W116).ext E117).wr W118).wr W119).ext E120).keep KK121).ext E123).keep KK125)
          obtain ⟨_, _, ⟨T134, L134, k134, n134⟩, -, X134, ⟨Lc134, hQ134, l134, y134, z134⟩, st134⟩ := X125.virtualBack hx (y := (⟨"com/example/veild/veild/policy/Constraint$Relation", "holds", "(Ljava/lang/String;Ljava/lang/String;)Z"⟩ : MethodName)) (z := (⟨"com/example/veild/veild/policy/Constraint$Relation", "holds", "(Ljava/lang/String;Ljava/lang/String;)Z"⟩ : MethodName)) o125 (mvT Z125 (hw _ (List.mem_of_getElem? (i := 36) rfl))) (mvT Z125 (hw _ (List.mem_of_getElem? (i := 37) rfl))) (notFace_of_selects (args := #[]) (mvT Z125 (hw _ (List.mem_of_getElem? (i := 39) rfl)))) (mvT Z125 (hw _ (List.mem_of_getElem? (i := 39) rfl))) (mvT Z125 (hw _ (List.mem_of_getElem? (i := 38) rfl))) (by decide) (own_backN (W := 0) (own_holds1 l Z a0 hw [] (rl) (b120) (b123) (([(nar .char u0), (nar .char u1)] : List Int32)) (([(nar .char r0), (nar .char r1)] : List Int32)) (T125.heap.size) (G1) T125.heap n0 (by omega) (X00.keep K125 all0) (Fr1.ext (X00.keep K125 all0).2) (own_Str.mono ((Str121.ext E123).keep KK125 (allS (own_le (by omega)) all0)) (by omega)) (own_Str.mono Str125 (by omega)) O2 P5) Z125 (hw _ (List.mem_of_getElem? (i := 40) rfl)) (hw _ (List.mem_of_getElem? (i := 1) rfl)) (by decide) (by decide)) q134a q134c (g := (mkF m 266 #[.val (.int p0), .val (.int p1), .val (.int p2), .val (.int (1 : Int32)), .val (.ref rl), .val (.int (2 : Int32)), .val (.int (2 : Int32)), .val (.int u0), .val (.int u1), .val (.int r0), .val (.int r1), .val (.ref b114), .val (.ref b117), .val (.ref b120), .val (.ref b123), .val (.int (0 : Int32)), .val (.int (0 : Int32))] [(.ref b123), (.ref b120), (.ref rl)])) rfl (by rw [hml]; rfl) (Steps.refl _) (argsL := [(.ref b120), (.ref b123)]) (rest := []) (lenOf own_pd3 rfl) rfl (by show 2 * 0 + _ ≤ _; exact Nat.le_of_eq rfl) (hb hby at_266) (fun _ _ => ⟨rfl, rfl, (by decide : 8 + 0 ≤ _), (by decide : 24 + 0 ≤ _)⟩)
          dsimp only [Pt.U, Pt.locs, Pt.cells, Pt.slots] at X134 l134 y134 z134 st134 hQ134
          subst l134 y134 z134
          obtain ⟨hr134, Nq134, sm134⟩ := hQ134
          obtain ⟨rfl, eq134⟩ := hr134.resolve_left (fun q => (by intro hh; apply hc216_128; simp only [List.cons.injEq, nu0, nu1, nr0, nr1] at hh; exact hh.1 : ¬ _) q.2)
          have N134 := Fr.app N125 Nq134
          refine own_st (fun tq kq => st134.trans kq) ?_
          show own_G p e below _ (T134.setTop (mkF m 269 #[.val (.int p0), .val (.int p1), .val (.int p2), .val (.int (1 : Int32)), .val (.ref rl), .val (.int (2 : Int32)), .val (.int (2 : Int32)), .val (.int u0), .val (.int u1), .val (.int r0), .val (.int r1), .val (.ref b114), .val (.ref b117), .val (.ref b120), .val (.ref b123), .val (.int (0 : Int32)), .val (.int (0 : Int32))] [(.int (0 : Int32))]))
          refine own_st (fun tq kq => XS.iload X134.here hx rfl (hb hby at_269) rfl  kq) ?_
          show own_G p e below _ (T134.setTop (mkF m 271 #[.val (.int p0), .val (.int p1), .val (.int p2), .val (.int (1 : Int32)), .val (.ref rl), .val (.int (2 : Int32)), .val (.int (2 : Int32)), .val (.int u0), .val (.int u1), .val (.int r0), .val (.int r1), .val (.ref b114), .val (.ref b117), .val (.ref b120), .val (.ref b123), .val (.int (0 : Int32)), .val (.int (0 : Int32))] [(.int (0 : Int32)), (.int (0 : Int32))]))
          refine own_st (fun tq kq => XS.icmpNo X134.here hx rfl (hb hby at_271) rfl (teq (by decide : ((0 : Int32) = (0 : Int32)))).2 kq) ?_
          refine own_st (fun tq kq => XS.iconst X134.here hx rfl (hb hby at_274) kq) ?_
          refine own_st (fun tq kq => XS.goto X134.here hx rfl (pc0 := 275) (pc' := 279) rfl (hb hby at_275) (by decide) (by decide) kq) ?_
          show own_G p e below _ (T134.setTop (mkF m 279 #[.val (.int p0), .val (.int p1), .val (.int p2), .val (.int (1 : Int32)), .val (.ref rl), .val (.int (2 : Int32)), .val (.int (2 : Int32)), .val (.int u0), .val (.int u1), .val (.int r0), .val (.int r1), .val (.ref b114), .val (.ref b117), .val (.ref b120), .val (.ref b123), .val (.int (0 : Int32)), .val (.int (0 : Int32))] [(.int (1 : Int32))]))
          obtain ⟨fs, hr, hrun, hended, hRW⟩ := X134.leaveW S125 (by rw [sm134]; exact (own_le (by omega))) (v := some (.int (1 : Int32))) (fun h => by rw [Bd.returns] at h; cases h)
          have cE := C125.trans (CHv.at (s := s) (vm0 := T125.vm) X134 Z125 hEL C125.1)
          refine ⟨_, _, retN X134 hx (t := .boolean) Bd.returns (by simp) (hb hby at_279) hr, hrun, hended, _, _, rfl, ?_, ?_, own_RW hRW (by decide) (by decide)⟩
          · change (fun (v : Option Value) (_ : Vm) (h : Heap) (L : List Loc) => v = some (.int (1 : Int32)) ∧ Fr n0 L) (some (.int (1 : Int32))) T134.vm T134.heap _; rw [sm134]; exact ⟨rfl, N134⟩
          · rw [hh]; change CHr Z consts_1 s.vm h0 T134.vm T134.heap; rw [sm134]; exact cE
        ·
          show own_G p e below _ (T125.setTop (mkF m 239 #[.val (.int p0), .val (.int p1), .val (.int p2), .val (.int (0 : Int32)), .val (.ref rl), .val (.int (2 : Int32)), .val (.int (2 : Int32)), .val (.int u0), .val (.int u1), .val (.int r0), .val (.int r1), .val (.ref b114), .val (.ref b117), .val (.ref b120), .val (.ref b123), .val (.int (0 : Int32)), .unset] []))
          refine own_st (fun tq kq => XS.iloadN X125.here hx rfl (hb hby at_239) rfl  kq) ?_
          show own_G p e below _ (T125.setTop (mkF m 240 #[.val (.int p0), .val (.int p1), .val (.int p2), .val (.int (0 : Int32)), .val (.ref rl), .val (.int (2 : Int32)), .val (.int (2 : Int32)), .val (.int u0), .val (.int u1), .val (.int r0), .val (.int r1), .val (.ref b114), .val (.ref b117), .val (.ref b120), .val (.ref b123), .val (.int (0 : Int32)), .unset] [(.int (0 : Int32))]))
          refine own_st (fun tq kq => XS.ifYes X125.here hx rfl (pc0 := 240) (pc' := 248) rfl (hb hby at_240) rfl ((if0 _ _).trans (teq (by decide : ((0 : Int32) = (0 : Int32)))).1) (by decide) (by decide) kq) ?_
          refine own_st (fun tq kq => XS.iload X125.here hx rfl (hb hby at_248) rfl  kq) ?_
          show own_G p e below _ (T125.setTop (mkF m 250 #[.val (.int p0), .val (.int p1), .val (.int p2), .val (.int (0 : Int32)), .val (.ref rl), .val (.int (2 : Int32)), .val (.int (2 : Int32)), .val (.int u0), .val (.int u1), .val (.int r0), .val (.int r1), .val (.ref b114), .val (.ref b117), .val (.ref b120), .val (.ref b123), .val (.int (0 : Int32)), .unset] [(.int (0 : Int32))]))
          refine own_st (fun tq kq => XS.ifNo X125.here hx rfl (hb hby at_250) rfl ((if0 _ _).trans (teq (by decide : ((0 : Int32) = (0 : Int32)))).2) kq) ?_
          refine own_st (fun tq kq => XS.iconst X125.here hx rfl (hb hby at_253) kq) ?_
          refine own_st (fun tq kq => XS.goto X125.here hx rfl (pc0 := 254) (pc' := 258) rfl (hb hby at_254) (by decide) (by decide) kq) ?_
          refine own_st (fun tq kq => XS.istore X125.here hx rfl (hb hby at_258) rfl (l' := #[.val (.int p0), .val (.int p1), .val (.int p2), .val (.int (0 : Int32)), .val (.ref rl), .val (.int (2 : Int32)), .val (.int (2 : Int32)), .val (.int u0), .val (.int u1), .val (.int r0), .val (.int r1), .val (.ref b114), .val (.ref b117), .val (.ref b120), .val (.ref b123), .val (.int (0 : Int32)), .val (.int (1 : Int32))]) rfl kq) ?_
          show own_G p e below _ (T125.setTop (mkF m 260 #[.val (.int p0), .val (.int p1), .val (.int p2), .val (.int (0 : Int32)), .val (.ref rl), .val (.int (2 : Int32)), .val (.int (2 : Int32)), .val (.int u0), .val (.int u1), .val (.int r0), .val (.int r1), .val (.ref b114), .val (.ref b117), .val (.ref b120), .val (.ref b123), .val (.int (0 : Int32)), .val (.int (1 : Int32))] []))
          refine own_st (fun tq kq => XS.aload X125.here hx rfl (hb hby at_260) rfl rfl kq) ?_
          refine own_st (fun tq kq => XS.aload X125.here hx rfl (hb hby at_262) rfl rfl kq) ?_
          refine own_st (fun tq kq => XS.aload X125.here hx rfl (hb hby at_264) rfl rfl kq) ?_
          show own_G p e below _ (T125.setTop (mkF m 266 #[.val (.int p0), .val (.int p1), .val (.int p2), .val (.int (0 : Int32)), .val (.ref rl), .val (.int (2 : Int32)), .val (.int (2 : Int32)), .val (.int u0), .val (.int u1), .val (.int r0), .val (.int r1), .val (.ref b114), .val (.ref b117), .val (.ref b120), .val (.ref b123), .val (.int (0 : Int32)), .val (.int (1 : Int32))] [(.ref b123), (.ref b120), (.ref rl)]))
          obtain ⟨cq135, kq135, q135a, q135b, q135c⟩ := isOf Z125 rfl (((((((((((Er.ext (X00.keep K0 all0).2).ext E114).wr W115).wr W116).ext E117).wr W118).wr W119).ext E120).keep KK121).ext E123).keep KK125)
          obtain ⟨_, _, ⟨T135, L135, k135, n135⟩, -, X135, ⟨Lc135, hQ135, l135, y135, z135⟩, st135⟩ := X125.virtualBack hx (y := (⟨"com/example/veild/veild/policy/Constraint$Relation", "holds", "(Ljava/lang/String;Ljava/lang/String;)Z"⟩ : MethodName)) (z := (⟨"com/example/veild/veild/policy/Constraint$Relation", "holds", "(Ljava/lang/String;Ljava/lang/String;)Z"⟩ : MethodName)) o125 (mvT Z125 (hw _ (List.mem_of_getElem? (i := 36) rfl))) (mvT Z125 (hw _ (List.mem_of_getElem? (i := 37) rfl))) (notFace_of_selects (args := #[]) (mvT Z125 (hw _ (List.mem_of_getElem? (i := 39) rfl)))) (mvT Z125 (hw _ (List.mem_of_getElem? (i := 39) rfl))) (mvT Z125 (hw _ (List.mem_of_getElem? (i := 38) rfl))) (by decide) (own_backN (W := 0) (own_holds0 l Z a0 hw [] (rl) (b120) (b123) (([(nar .char u0), (nar .char u1)] : List Int32)) (([(nar .char r0), (nar .char r1)] : List Int32)) (T125.heap.size) (G1) T125.heap n0 (by omega) (X00.keep K125 all0) (Fr1.ext (X00.keep K125 all0).2) (own_Str.mono ((Str121.ext E123).keep KK125 (allS (own_le (by omega)) all0)) (by omega)) (own_Str.mono Str125 (by omega)) O2 P5) Z125 (hw _ (List.mem_of_getElem? (i := 40) rfl)) (hw _ (List.mem_of_getElem? (i := 1) rfl)) (by decide) (by decide)) q135a q135c (g := (mkF m 266 #[.val (.int p0), .val (.int p1), .val (.int p2), .val (.int (0 : Int32)), .val (.ref rl), .val (.int (2 : Int32)), .val (.int (2 : Int32)), .val (.int u0), .val (.int u1), .val (.int r0), .val (.int r1), .val (.ref b114), .val (.ref b117), .val (.ref b120), .val (.ref b123), .val (.int (0 : Int32)), .val (.int (1 : Int32))] [(.ref b123), (.ref b120), (.ref rl)])) rfl (by rw [hml]; rfl) (Steps.refl _) (argsL := [(.ref b120), (.ref b123)]) (rest := []) (lenOf own_pd3 rfl) rfl (by show 2 * 0 + _ ≤ _; exact Nat.le_of_eq rfl) (hb hby at_266) (fun _ _ => ⟨rfl, rfl, (by decide : 8 + 0 ≤ _), (by decide : 24 + 0 ≤ _)⟩)
          dsimp only [Pt.U, Pt.locs, Pt.cells, Pt.slots] at X135 l135 y135 z135 st135 hQ135
          subst l135 y135 z135
          obtain ⟨hr135, Nq135, sm135⟩ := hQ135
          obtain ⟨rfl, eq135⟩ := hr135.resolve_left (fun q => (by intro hh; apply hc216_128; simp only [List.cons.injEq, nu0, nu1, nr0, nr1] at hh; exact hh.1 : ¬ _) q.2)
          have N135 := Fr.app N125 Nq135
          refine own_st (fun tq kq => st135.trans kq) ?_
          show own_G p e below _ (T135.setTop (mkF m 269 #[.val (.int p0), .val (.int p1), .val (.int p2), .val (.int (0 : Int32)), .val (.ref rl), .val (.int (2 : Int32)), .val (.int (2 : Int32)), .val (.int u0), .val (.int u1), .val (.int r0), .val (.int r1), .val (.ref b114), .val (.ref b117), .val (.ref b120), .val (.ref b123), .val (.int (0 : Int32)), .val (.int (1 : Int32))] [(.int (1 : Int32))]))
          refine own_st (fun tq kq => XS.iload X135.here hx rfl (hb hby at_269) rfl  kq) ?_
          show own_G p e below _ (T135.setTop (mkF m 271 #[.val (.int p0), .val (.int p1), .val (.int p2), .val (.int (0 : Int32)), .val (.ref rl), .val (.int (2 : Int32)), .val (.int (2 : Int32)), .val (.int u0), .val (.int u1), .val (.int r0), .val (.int r1), .val (.ref b114), .val (.ref b117), .val (.ref b120), .val (.ref b123), .val (.int (0 : Int32)), .val (.int (1 : Int32))] [(.int (1 : Int32)), (.int (1 : Int32))]))
          refine own_st (fun tq kq => XS.icmpNo X135.here hx rfl (hb hby at_271) rfl (teq (by decide : ((1 : Int32) = (1 : Int32)))).2 kq) ?_
          refine own_st (fun tq kq => XS.iconst X135.here hx rfl (hb hby at_274) kq) ?_
          refine own_st (fun tq kq => XS.goto X135.here hx rfl (pc0 := 275) (pc' := 279) rfl (hb hby at_275) (by decide) (by decide) kq) ?_
          show own_G p e below _ (T135.setTop (mkF m 279 #[.val (.int p0), .val (.int p1), .val (.int p2), .val (.int (0 : Int32)), .val (.ref rl), .val (.int (2 : Int32)), .val (.int (2 : Int32)), .val (.int u0), .val (.int u1), .val (.int r0), .val (.int r1), .val (.ref b114), .val (.ref b117), .val (.ref b120), .val (.ref b123), .val (.int (0 : Int32)), .val (.int (1 : Int32))] [(.int (1 : Int32))]))
          obtain ⟨fs, hr, hrun, hended, hRW⟩ := X135.leaveW S125 (by rw [sm135]; exact (own_le (by omega))) (v := some (.int (1 : Int32))) (fun h => by rw [Bd.returns] at h; cases h)
          have cE := C125.trans (CHv.at (s := s) (vm0 := T125.vm) X135 Z125 hEL C125.1)
          refine ⟨_, _, retN X135 hx (t := .boolean) Bd.returns (by simp) (hb hby at_279) hr, hrun, hended, _, _, rfl, ?_, ?_, own_RW hRW (by decide) (by decide)⟩
          · change (fun (v : Option Value) (_ : Vm) (h : Heap) (L : List Loc) => v = some (.int (1 : Int32)) ∧ Fr n0 L) (some (.int (1 : Int32))) T135.vm T135.heap _; rw [sm135]; exact ⟨rfl, N135⟩
          · rw [hh]; change CHr Z consts_1 s.vm h0 T135.vm T135.heap; rw [sm135]; exact cE
  refine own_st (fun tq kq => castTop (ef_rm0 m (p0) (p1) (p2)) kq) ?_
  show own_G p e below _ (s₁.setTop (mkF m 0 #[.val (.int p0), .val (.int p1), .val (.int p2), .unset, .unset, .unset, .unset, .unset, .unset, .unset, .unset, .unset, .unset, .unset, .unset, .unset, .unset] []))
  refine own_st (fun tq kq => XS.iloadN X0.here hx rfl (hb hby at_0) rfl  kq) ?_
  refine own_st (fun tq kq => XS.iconst X0.here hx rfl (hb hby at_1) kq) ?_
  refine own_st (fun tq kq => XS.iand X0.here hx rfl (hb hby at_2) rfl kq) ?_
  show own_G p e below _ (s₁.setTop (mkF m 3 #[.val (.int p0), .val (.int p1), .val (.int p2), .unset, .unset, .unset, .unset, .unset, .unset, .unset, .unset, .unset, .unset, .unset, .unset, .unset, .unset] [(.int (p2 &&& (1 : Int32)))]))
  by_cases hc3_136 : ((p2 &&& (1 : Int32)) = (0 : Int32))
  ·
    refine own_st (fun tq kq => XS.ifYes X0.here hx rfl (pc0 := 3) (pc' := 10) rfl (hb hby at_3) rfl ((if0 _ _).trans (teq hc3_136).1) (by decide) (by decide) kq) ?_
    refine own_st (fun tq kq => XS.iconst X0.here hx rfl (hb hby at_10) kq) ?_
    refine own_st (fun tq kq => XS.istoreN X0.here hx rfl (hb hby at_11) rfl (l' := #[.val (.int p0), .val (.int p1), .val (.int p2), .val (.int (0 : Int32)), .unset, .unset, .unset, .unset, .unset, .unset, .unset, .unset, .unset, .unset, .unset, .unset, .unset]) rfl kq) ?_
    refine own_st (fun tq kq => XS.iloadN X0.here hx rfl (hb hby at_12) rfl  kq) ?_
    show own_G p e below _ (s₁.setTop (mkF m 13 #[.val (.int p0), .val (.int p1), .val (.int p2), .val (.int (0 : Int32)), .unset, .unset, .unset, .unset, .unset, .unset, .unset, .unset, .unset, .unset, .unset, .unset, .unset] [(.int (0 : Int32))]))
    refine own_st (fun tq kq => XS.ifYes X0.here hx rfl (pc0 := 13) (pc' := 22) rfl (hb hby at_13) rfl ((if0 _ _).trans (teq (by decide : ((0 : Int32) = (0 : Int32)))).1) (by decide) (by decide) kq) ?_
    show own_G p e below _ (s₁.setTop (mkF m 22 #[.val (.int p0), .val (.int p1), .val (.int p2), .val (.int (0 : Int32)), .unset, .unset, .unset, .unset, .unset, .unset, .unset, .unset, .unset, .unset, .unset, .unset, .unset] []))
    obtain ⟨T137, X137, e137, st137⟩ := getS2 X0 hx hZ hown (host := "") (Or.inl (hw _ (List.mem_of_getElem? (i := 0) rfl))) Via.refl e0 (OD.ext (X00.keep K0 all0).2) (g := (mkF m 22 #[.val (.int p0), .val (.int p1), .val (.int p2), .val (.int (0 : Int32)), .unset, .unset, .unset, .unset, .unset, .unset, .unset, .unset, .unset, .unset, .unset, .unset, .unset] [])) rfl (hb hby at_22)
    refine own_st st137 ?_
    show own_G p e below _ (T137.setTop (mkF m 25 #[.val (.int p0), .val (.int p1), .val (.int p2), .val (.int (0 : Int32)), .unset, .unset, .unset, .unset, .unset, .unset, .unset, .unset, .unset, .unset, .unset, .unset, .unset] [(.ref wD)]))
    refine own_st (fun tq kq => XS.astore X137.here hx rfl (hb hby at_25) rfl rfl (l' := #[.val (.int p0), .val (.int p1), .val (.int p2), .val (.int (0 : Int32)), .val (.ref wD), .unset, .unset, .unset, .unset, .unset, .unset, .unset, .unset, .unset, .unset, .unset, .unset]) rfl kq) ?_
    refine own_st (fun tq kq => XS.iloadN X137.here hx rfl (hb hby at_27) rfl  kq) ?_
    refine own_st (fun tq kq => XS.iconst X137.here hx rfl (hb hby at_28) kq) ?_
    refine own_st (fun tq kq => XS.iushr X137.here hx rfl (hb hby at_29) rfl kq) ?_
    show own_G p e below _ (T137.setTop (mkF m 30 #[.val (.int p0), .val (.int p1), .val (.int p2), .val (.int (0 : Int32)), .val (.ref wD), .unset, .unset, .unset, .unset, .unset, .unset, .unset, .unset, .unset, .unset, .unset, .unset] [(.int ((p2.toUInt32 >>> ((1 : Int32) &&& 31).toUInt32).toInt32))]))
    refine own_st (fun tq kq => XS.iconst X137.here hx rfl (hb hby at_30) kq) ?_
    refine own_st (fun tq kq => XS.iand X137.here hx rfl (hb hby at_31) rfl kq) ?_
    refine own_st (fun tq kq => XS.iconst X137.here hx rfl (hb hby at_32) kq) ?_
    show own_G p e below _ (T137.setTop (mkF m 33 #[.val (.int p0), .val (.int p1), .val (.int p2), .val (.int (0 : Int32)), .val (.ref wD), .unset, .unset, .unset, .unset, .unset, .unset, .unset, .unset, .unset, .unset, .unset, .unset] [(.int (3 : Int32)), (.int (((p2.toUInt32 >>> ((1 : Int32) &&& 31).toUInt32).toInt32) &&& (3 : Int32)))]))
    refine own_st (fun tq kq => Jvm.RoadKit.iremM (g := (mkF m 33 #[.val (.int p0), .val (.int p1), .val (.int p2), .val (.int (0 : Int32)), .val (.ref wD), .unset, .unset, .unset, .unset, .unset, .unset, .unset, .unset, .unset, .unset, .unset, .unset] [(.int (3 : Int32)), (.int (((p2.toUInt32 >>> ((1 : Int32) &&& 31).toUInt32).toInt32) &&& (3 : Int32)))])) X137 hx rfl (hb hby at_33) rfl (by decide) kq) ?_
    refine own_st (fun tq kq => XS.istore X137.here hx rfl (hb hby at_34) rfl (l' := #[.val (.int p0), .val (.int p1), .val (.int p2), .val (.int (0 : Int32)), .val (.ref wD), .val (.int ((((p2.toUInt32 >>> ((1 : Int32) &&& 31).toUInt32).toInt32) &&& (3 : Int32)) % (3 : Int32))), .unset, .unset, .unset, .unset, .unset, .unset, .unset, .unset, .unset, .unset, .unset]) rfl kq) ?_
    refine own_st (fun tq kq => XS.iloadN X137.here hx rfl (hb hby at_36) rfl  kq) ?_
    refine own_st (fun tq kq => XS.iconst X137.here hx rfl (hb hby at_37) kq) ?_
    show own_G p e below _ (T137.setTop (mkF m 38 #[.val (.int p0), .val (.int p1), .val (.int p2), .val (.int (0 : Int32)), .val (.ref wD), .val (.int ((((p2.toUInt32 >>> ((1 : Int32) &&& 31).toUInt32).toInt32) &&& (3 : Int32)) % (3 : Int32))), .unset, .unset, .unset, .unset, .unset, .unset, .unset, .unset, .unset, .unset, .unset] [(.int (3 : Int32)), (.int p2)]))
    refine own_st (fun tq kq => XS.iushr X137.here hx rfl (hb hby at_38) rfl kq) ?_
    refine own_st (fun tq kq => XS.iconst X137.here hx rfl (hb hby at_39) kq) ?_
    refine own_st (fun tq kq => XS.iand X137.here hx rfl (hb hby at_40) rfl kq) ?_
    refine own_st (fun tq kq => XS.iconst X137.here hx rfl (hb hby at_41) kq) ?_
    show own_G p e below _ (T137.setTop (mkF m 42 #[.val (.int p0), .val (.int p1), .val (.int p2), .val (.int (0 : Int32)), .val (.ref wD), .val (.int ((((p2.toUInt32 >>> ((1 : Int32) &&& 31).toUInt32).toInt32) &&& (3 : Int32)) % (3 : Int32))), .unset, .unset, .unset, .unset, .unset, .unset, .unset, .unset, .unset, .unset, .unset] [(.int (3 : Int32)), (.int (((p2.toUInt32 >>> ((3 : Int32) &&& 31).toUInt32).toInt32) &&& (3 : Int32)))]))
    refine own_st (fun tq kq => Jvm.RoadKit.iremM (g := (mkF m 42 #[.val (.int p0), .val (.int p1), .val (.int p2), .val (.int (0 : Int32)), .val (.ref wD), .val (.int ((((p2.toUInt32 >>> ((1 : Int32) &&& 31).toUInt32).toInt32) &&& (3 : Int32)) % (3 : Int32))), .unset, .unset, .unset, .unset, .unset, .unset, .unset, .unset, .unset, .unset, .unset] [(.int (3 : Int32)), (.int (((p2.toUInt32 >>> ((3 : Int32) &&& 31).toUInt32).toInt32) &&& (3 : Int32)))])) X137 hx rfl (hb hby at_42) rfl (by decide) kq) ?_
    refine own_st (fun tq kq => XS.istore X137.here hx rfl (hb hby at_43) rfl (l' := #[.val (.int p0), .val (.int p1), .val (.int p2), .val (.int (0 : Int32)), .val (.ref wD), .val (.int ((((p2.toUInt32 >>> ((1 : Int32) &&& 31).toUInt32).toInt32) &&& (3 : Int32)) % (3 : Int32))), .val (.int ((((p2.toUInt32 >>> ((3 : Int32) &&& 31).toUInt32).toInt32) &&& (3 : Int32)) % (3 : Int32))), .unset, .unset, .unset, .unset, .unset, .unset, .unset, .unset, .unset, .unset]) rfl kq) ?_
    refine own_st (fun tq kq => XS.iloadN X137.here hx rfl (hb hby at_45) rfl  kq) ?_
    refine own_st (fun tq kq => XS.sipush X137.here hx rfl (hb hby at_46) kq) ?_
    show own_G p e below _ (T137.setTop (mkF m 49 #[.val (.int p0), .val (.int p1), .val (.int p2), .val (.int (0 : Int32)), .val (.ref wD), .val (.int ((((p2.toUInt32 >>> ((1 : Int32) &&& 31).toUInt32).toInt32) &&& (3 : Int32)) % (3 : Int32))), .val (.int ((((p2.toUInt32 >>> ((3 : Int32) &&& 31).toUInt32).toInt32) &&& (3 : Int32)) % (3 : Int32))), .unset, .unset, .unset, .unset, .unset, .unset, .unset, .unset, .unset, .unset] [(.int (128 : Int32)), (.int p2)]))
    refine own_st (fun tq kq => XS.iand X137.here hx rfl (hb hby at_49) rfl kq) ?_
    show own_G p e below _ (T137.setTop (mkF m 50 #[.val (.int p0), .val (.int p1), .val (.int p2), .val (.int (0 : Int32)), .val (.ref wD), .val (.int ((((p2.toUInt32 >>> ((1 : Int32) &&& 31).toUInt32).toInt32) &&& (3 : Int32)) % (3 : Int32))), .val (.int ((((p2.toUInt32 >>> ((3 : Int32) &&& 31).toUInt32).toInt32) &&& (3 : Int32)) % (3 : Int32))), .unset, .unset, .unset, .unset, .unset, .unset, .unset, .unset, .unset, .unset] [(.int (p2 &&& (128 : Int32)))]))
    by_cases hc50_138 : ((p2 &&& (128 : Int32)) = (0 : Int32))
    ·
      refine own_st (fun tq kq => XS.ifYes X137.here hx rfl (pc0 := 50) (pc' := 57) rfl (hb hby at_50) rfl ((if0 _ _).trans (teq hc50_138).1) (by decide) (by decide) kq) ?_
      refine own_st (fun tq kq => XS.iloadN X137.here hx rfl (hb hby at_57) rfl  kq) ?_
      refine own_st (fun tq kq => XS.sipush X137.here hx rfl (hb hby at_58) kq) ?_
      refine own_st (fun tq kq => XS.iand X137.here hx rfl (hb hby at_61) rfl kq) ?_
      show own_G p e below _ (T137.setTop (mkF m 62 #[.val (.int p0), .val (.int p1), .val (.int p2), .val (.int (0 : Int32)), .val (.ref wD), .val (.int ((((p2.toUInt32 >>> ((1 : Int32) &&& 31).toUInt32).toInt32) &&& (3 : Int32)) % (3 : Int32))), .val (.int ((((p2.toUInt32 >>> ((3 : Int32) &&& 31).toUInt32).toInt32) &&& (3 : Int32)) % (3 : Int32))), .unset, .unset, .unset, .unset, .unset, .unset, .unset, .unset, .unset, .unset] [(.int (p0 &&& (255 : Int32)))]))
      refine own_st (fun tq kq => XS.i2c X137.here hx rfl (hb hby at_62) rfl kq) ?_
      refine own_st (fun tq kq => XS.istore X137.here hx rfl (hb hby at_63) rfl (l' := #[.val (.int p0), .val (.int p1), .val (.int p2), .val (.int (0 : Int32)), .val (.ref wD), .val (.int ((((p2.toUInt32 >>> ((1 : Int32) &&& 31).toUInt32).toInt32) &&& (3 : Int32)) % (3 : Int32))), .val (.int ((((p2.toUInt32 >>> ((3 : Int32) &&& 31).toUInt32).toInt32) &&& (3 : Int32)) % (3 : Int32))), .val (.int ((p0 &&& (255 : Int32)).toUInt32.toUInt16.toUInt32.toInt32)), .unset, .unset, .unset, .unset, .unset, .unset, .unset, .unset, .unset]) rfl kq) ?_
      refine own_st (fun tq kq => XS.iloadN X137.here hx rfl (hb hby at_65) rfl  kq) ?_
      refine own_st (fun tq kq => XS.bipush X137.here hx rfl (hb hby at_66) kq) ?_
      show own_G p e below _ (T137.setTop (mkF m 68 #[.val (.int p0), .val (.int p1), .val (.int p2), .val (.int (0 : Int32)), .val (.ref wD), .val (.int ((((p2.toUInt32 >>> ((1 : Int32) &&& 31).toUInt32).toInt32) &&& (3 : Int32)) % (3 : Int32))), .val (.int ((((p2.toUInt32 >>> ((3 : Int32) &&& 31).toUInt32).toInt32) &&& (3 : Int32)) % (3 : Int32))), .val (.int ((p0 &&& (255 : Int32)).toUInt32.toUInt16.toUInt32.toInt32)), .unset, .unset, .unset, .unset, .unset, .unset, .unset, .unset, .unset] [(.int (8 : Int32)), (.int p0)]))
      refine own_st (fun tq kq => XS.iushr X137.here hx rfl (hb hby at_68) rfl kq) ?_
      refine own_st (fun tq kq => XS.sipush X137.here hx rfl (hb hby at_69) kq) ?_
      refine own_st (fun tq kq => XS.iand X137.here hx rfl (hb hby at_72) rfl kq) ?_
      refine own_st (fun tq kq => XS.i2c X137.here hx rfl (hb hby at_73) rfl kq) ?_
      show own_G p e below _ (T137.setTop (mkF m 74 #[.val (.int p0), .val (.int p1), .val (.int p2), .val (.int (0 : Int32)), .val (.ref wD), .val (.int ((((p2.toUInt32 >>> ((1 : Int32) &&& 31).toUInt32).toInt32) &&& (3 : Int32)) % (3 : Int32))), .val (.int ((((p2.toUInt32 >>> ((3 : Int32) &&& 31).toUInt32).toInt32) &&& (3 : Int32)) % (3 : Int32))), .val (.int ((p0 &&& (255 : Int32)).toUInt32.toUInt16.toUInt32.toInt32)), .unset, .unset, .unset, .unset, .unset, .unset, .unset, .unset, .unset] [(.int ((((p0.toUInt32 >>> ((8 : Int32) &&& 31).toUInt32).toInt32) &&& (255 : Int32)).toUInt32.toUInt16.toUInt32.toInt32))]))
      refine own_st (fun tq kq => XS.istore X137.here hx rfl (hb hby at_74) rfl (l' := #[.val (.int p0), .val (.int p1), .val (.int p2), .val (.int (0 : Int32)), .val (.ref wD), .val (.int ((((p2.toUInt32 >>> ((1 : Int32) &&& 31).toUInt32).toInt32) &&& (3 : Int32)) % (3 : Int32))), .val (.int ((((p2.toUInt32 >>> ((3 : Int32) &&& 31).toUInt32).toInt32) &&& (3 : Int32)) % (3 : Int32))), .val (.int ((p0 &&& (255 : Int32)).toUInt32.toUInt16.toUInt32.toInt32)), .val (.int ((((p0.toUInt32 >>> ((8 : Int32) &&& 31).toUInt32).toInt32) &&& (255 : Int32)).toUInt32.toUInt16.toUInt32.toInt32)), .unset, .unset, .unset, .unset, .unset, .unset, .unset, .unset]) rfl kq) ?_
      refine own_st (fun tq kq => XS.iloadN X137.here hx rfl (hb hby at_76) rfl  kq) ?_
      refine own_st (fun tq kq => XS.bipush X137.here hx rfl (hb hby at_77) kq) ?_
      refine own_st (fun tq kq => XS.iand X137.here hx rfl (hb hby at_79) rfl kq) ?_
      show own_G p e below _ (T137.setTop (mkF m 80 #[.val (.int p0), .val (.int p1), .val (.int p2), .val (.int (0 : Int32)), .val (.ref wD), .val (.int ((((p2.toUInt32 >>> ((1 : Int32) &&& 31).toUInt32).toInt32) &&& (3 : Int32)) % (3 : Int32))), .val (.int ((((p2.toUInt32 >>> ((3 : Int32) &&& 31).toUInt32).toInt32) &&& (3 : Int32)) % (3 : Int32))), .val (.int ((p0 &&& (255 : Int32)).toUInt32.toUInt16.toUInt32.toInt32)), .val (.int ((((p0.toUInt32 >>> ((8 : Int32) &&& 31).toUInt32).toInt32) &&& (255 : Int32)).toUInt32.toUInt16.toUInt32.toInt32)), .unset, .unset, .unset, .unset, .unset, .unset, .unset, .unset] [(.int (p2 &&& (32 : Int32)))]))
      by_cases hc80_139 : ((p2 &&& (32 : Int32)) = (0 : Int32))
      ·
        refine own_st (fun tq kq => XS.ifYes X137.here hx rfl (pc0 := 80) (pc' := 88) rfl (hb hby at_80) rfl ((if0 _ _).trans (teq hc80_139).1) (by decide) (by decide) kq) ?_
        refine own_st (fun tq kq => XS.iloadN X137.here hx rfl (hb hby at_88) rfl  kq) ?_
        refine own_st (fun tq kq => XS.sipush X137.here hx rfl (hb hby at_89) kq) ?_
        refine own_st (fun tq kq => XS.iand X137.here hx rfl (hb hby at_92) rfl kq) ?_
        show own_G p e below _ (T137.setTop (mkF m 93 #[.val (.int p0), .val (.int p1), .val (.int p2), .val (.int (0 : Int32)), .val (.ref wD), .val (.int ((((p2.toUInt32 >>> ((1 : Int32) &&& 31).toUInt32).toInt32) &&& (3 : Int32)) % (3 : Int32))), .val (.int ((((p2.toUInt32 >>> ((3 : Int32) &&& 31).toUInt32).toInt32) &&& (3 : Int32)) % (3 : Int32))), .val (.int ((p0 &&& (255 : Int32)).toUInt32.toUInt16.toUInt32.toInt32)), .val (.int ((((p0.toUInt32 >>> ((8 : Int32) &&& 31).toUInt32).toInt32) &&& (255 : Int32)).toUInt32.toUInt16.toUInt32.toInt32)), .unset, .unset, .unset, .unset, .unset, .unset, .unset, .unset] [(.int (p1 &&& (255 : Int32)))]))
        refine own_st (fun tq kq => XS.i2c X137.here hx rfl (hb hby at_93) rfl kq) ?_
        refine own_st (fun tq kq => XS.istore X137.here hx rfl (hb hby at_94) rfl (l' := #[.val (.int p0), .val (.int p1), .val (.int p2), .val (.int (0 : Int32)), .val (.ref wD), .val (.int ((((p2.toUInt32 >>> ((1 : Int32) &&& 31).toUInt32).toInt32) &&& (3 : Int32)) % (3 : Int32))), .val (.int ((((p2.toUInt32 >>> ((3 : Int32) &&& 31).toUInt32).toInt32) &&& (3 : Int32)) % (3 : Int32))), .val (.int ((p0 &&& (255 : Int32)).toUInt32.toUInt16.toUInt32.toInt32)), .val (.int ((((p0.toUInt32 >>> ((8 : Int32) &&& 31).toUInt32).toInt32) &&& (255 : Int32)).toUInt32.toUInt16.toUInt32.toInt32)), .val (.int ((p1 &&& (255 : Int32)).toUInt32.toUInt16.toUInt32.toInt32)), .unset, .unset, .unset, .unset, .unset, .unset, .unset]) rfl kq) ?_
        refine own_st (fun tq kq => XS.iloadN X137.here hx rfl (hb hby at_96) rfl  kq) ?_
        refine own_st (fun tq kq => XS.bipush X137.here hx rfl (hb hby at_97) kq) ?_
        show own_G p e below _ (T137.setTop (mkF m 99 #[.val (.int p0), .val (.int p1), .val (.int p2), .val (.int (0 : Int32)), .val (.ref wD), .val (.int ((((p2.toUInt32 >>> ((1 : Int32) &&& 31).toUInt32).toInt32) &&& (3 : Int32)) % (3 : Int32))), .val (.int ((((p2.toUInt32 >>> ((3 : Int32) &&& 31).toUInt32).toInt32) &&& (3 : Int32)) % (3 : Int32))), .val (.int ((p0 &&& (255 : Int32)).toUInt32.toUInt16.toUInt32.toInt32)), .val (.int ((((p0.toUInt32 >>> ((8 : Int32) &&& 31).toUInt32).toInt32) &&& (255 : Int32)).toUInt32.toUInt16.toUInt32.toInt32)), .val (.int ((p1 &&& (255 : Int32)).toUInt32.toUInt16.toUInt32.toInt32)), .unset, .unset, .unset, .unset, .unset, .unset, .unset] [(.int (64 : Int32)), (.int p2)]))
        refine own_st (fun tq kq => XS.iand X137.here hx rfl (hb hby at_99) rfl kq) ?_
        show own_G p e below _ (T137.setTop (mkF m 100 #[.val (.int p0), .val (.int p1), .val (.int p2), .val (.int (0 : Int32)), .val (.ref wD), .val (.int ((((p2.toUInt32 >>> ((1 : Int32) &&& 31).toUInt32).toInt32) &&& (3 : Int32)) % (3 : Int32))), .val (.int ((((p2.toUInt32 >>> ((3 : Int32) &&& 31).toUInt32).toInt32) &&& (3 : Int32)) % (3 : Int32))), .val (.int ((p0 &&& (255 : Int32)).toUInt32.toUInt16.toUInt32.toInt32)), .val (.int ((((p0.toUInt32 >>> ((8 : Int32) &&& 31).toUInt32).toInt32) &&& (255 : Int32)).toUInt32.toUInt16.toUInt32.toInt32)), .val (.int ((p1 &&& (255 : Int32)).toUInt32.toUInt16.toUInt32.toInt32)), .unset, .unset, .unset, .unset, .unset, .unset, .unset] [(.int (p2 &&& (64 : Int32)))]))
        by_cases hc100_140 : ((p2 &&& (64 : Int32)) = (0 : Int32))
        ·
          refine own_st (fun tq kq => XS.ifYes X137.here hx rfl (pc0 := 100) (pc' := 108) rfl (hb hby at_100) rfl ((if0 _ _).trans (teq hc100_140).1) (by decide) (by decide) kq) ?_
          refine own_st (fun tq kq => XS.iloadN X137.here hx rfl (hb hby at_108) rfl  kq) ?_
          refine own_st (fun tq kq => XS.bipush X137.here hx rfl (hb hby at_109) kq) ?_
          refine own_st (fun tq kq => XS.iushr X137.here hx rfl (hb hby at_111) rfl kq) ?_
          show own_G p e below _ (T137.setTop (mkF m 112 #[.val (.int p0), .val (.int p1), .val (.int p2), .val (.int (0 : Int32)), .val (.ref wD), .val (.int ((((p2.toUInt32 >>> ((1 : Int32) &&& 31).toUInt32).toInt32) &&& (3 : Int32)) % (3 : Int32))), .val (.int ((((p2.toUInt32 >>> ((3 : Int32) &&& 31).toUInt32).toInt32) &&& (3 : Int32)) % (3 : Int32))), .val (.int ((p0 &&& (255 : Int32)).toUInt32.toUInt16.toUInt32.toInt32)), .val (.int ((((p0.toUInt32 >>> ((8 : Int32) &&& 31).toUInt32).toInt32) &&& (255 : Int32)).toUInt32.toUInt16.toUInt32.toInt32)), .val (.int ((p1 &&& (255 : Int32)).toUInt32.toUInt16.toUInt32.toInt32)), .unset, .unset, .unset, .unset, .unset, .unset, .unset] [(.int ((p1.toUInt32 >>> ((8 : Int32) &&& 31).toUInt32).toInt32))]))
          refine own_st (fun tq kq => XS.sipush X137.here hx rfl (hb hby at_112) kq) ?_
          refine own_st (fun tq kq => XS.iand X137.here hx rfl (hb hby at_115) rfl kq) ?_
          refine own_st (fun tq kq => XS.i2c X137.here hx rfl (hb hby at_116) rfl kq) ?_
          refine own_st (fun tq kq => XS.istore X137.here hx rfl (hb hby at_117) rfl (l' := #[.val (.int p0), .val (.int p1), .val (.int p2), .val (.int (0 : Int32)), .val (.ref wD), .val (.int ((((p2.toUInt32 >>> ((1 : Int32) &&& 31).toUInt32).toInt32) &&& (3 : Int32)) % (3 : Int32))), .val (.int ((((p2.toUInt32 >>> ((3 : Int32) &&& 31).toUInt32).toInt32) &&& (3 : Int32)) % (3 : Int32))), .val (.int ((p0 &&& (255 : Int32)).toUInt32.toUInt16.toUInt32.toInt32)), .val (.int ((((p0.toUInt32 >>> ((8 : Int32) &&& 31).toUInt32).toInt32) &&& (255 : Int32)).toUInt32.toUInt16.toUInt32.toInt32)), .val (.int ((p1 &&& (255 : Int32)).toUInt32.toUInt16.toUInt32.toInt32)), .val (.int ((((p1.toUInt32 >>> ((8 : Int32) &&& 31).toUInt32).toInt32) &&& (255 : Int32)).toUInt32.toUInt16.toUInt32.toInt32)), .unset, .unset, .unset, .unset, .unset, .unset]) rfl kq) ?_
          show own_G p e below _ (T137.setTop (mkF m 119 #[.val (.int p0), .val (.int p1), .val (.int p2), .val (.int (0 : Int32)), .val (.ref wD), .val (.int ((((p2.toUInt32 >>> ((1 : Int32) &&& 31).toUInt32).toInt32) &&& (3 : Int32)) % (3 : Int32))), .val (.int ((((p2.toUInt32 >>> ((3 : Int32) &&& 31).toUInt32).toInt32) &&& (3 : Int32)) % (3 : Int32))), .val (.int ((p0 &&& (255 : Int32)).toUInt32.toUInt16.toUInt32.toInt32)), .val (.int ((((p0.toUInt32 >>> ((8 : Int32) &&& 31).toUInt32).toInt32) &&& (255 : Int32)).toUInt32.toUInt16.toUInt32.toInt32)), .val (.int ((p1 &&& (255 : Int32)).toUInt32.toUInt16.toUInt32.toInt32)), .val (.int ((((p1.toUInt32 >>> ((8 : Int32) &&& 31).toUInt32).toInt32) &&& (255 : Int32)).toUInt32.toUInt16.toUInt32.toInt32)), .unset, .unset, .unset, .unset, .unset, .unset] []))
          exact tail T137 wD (0 : Int32) ((((p2.toUInt32 >>> ((1 : Int32) &&& 31).toUInt32).toInt32) &&& (3 : Int32)) % (3 : Int32)) ((((p2.toUInt32 >>> ((3 : Int32) &&& 31).toUInt32).toInt32) &&& (3 : Int32)) % (3 : Int32)) ((p0 &&& (255 : Int32)).toUInt32.toUInt16.toUInt32.toInt32) ((((p0.toUInt32 >>> ((8 : Int32) &&& 31).toUInt32).toInt32) &&& (255 : Int32)).toUInt32.toUInt16.toUInt32.toInt32) ((p1 &&& (255 : Int32)).toUInt32.toUInt16.toUInt32.toInt32) ((((p1.toUInt32 >>> ((8 : Int32) &&& 31).toUInt32).toInt32) &&& (255 : Int32)).toUInt32.toUInt16.toUInt32.toInt32) X137 e137 (Or.inr rfl) ED FD (own_rem3 _) (own_rem3 _) (own_and255 _) (own_and255 _) (own_and255 _) (own_and255 _) (own_i2cn _) (own_i2cn _) (own_i2cn _) (own_i2cn _)
        ·
          refine own_st (fun tq kq => XS.ifNo X137.here hx rfl (hb hby at_100) rfl ((if0 _ _).trans (feq hc100_140).1) kq) ?_
          refine own_st (fun tq kq => XS.iload X137.here hx rfl (hb hby at_103) rfl  kq) ?_
          refine own_st (fun tq kq => XS.goto X137.here hx rfl (pc0 := 105) (pc' := 117) rfl (hb hby at_105) (by decide) (by decide) kq) ?_
          refine own_st (fun tq kq => XS.istore X137.here hx rfl (hb hby at_117) rfl (l' := #[.val (.int p0), .val (.int p1), .val (.int p2), .val (.int (0 : Int32)), .val (.ref wD), .val (.int ((((p2.toUInt32 >>> ((1 : Int32) &&& 31).toUInt32).toInt32) &&& (3 : Int32)) % (3 : Int32))), .val (.int ((((p2.toUInt32 >>> ((3 : Int32) &&& 31).toUInt32).toInt32) &&& (3 : Int32)) % (3 : Int32))), .val (.int ((p0 &&& (255 : Int32)).toUInt32.toUInt16.toUInt32.toInt32)), .val (.int ((((p0.toUInt32 >>> ((8 : Int32) &&& 31).toUInt32).toInt32) &&& (255 : Int32)).toUInt32.toUInt16.toUInt32.toInt32)), .val (.int ((p1 &&& (255 : Int32)).toUInt32.toUInt16.toUInt32.toInt32)), .val (.int ((((p0.toUInt32 >>> ((8 : Int32) &&& 31).toUInt32).toInt32) &&& (255 : Int32)).toUInt32.toUInt16.toUInt32.toInt32)), .unset, .unset, .unset, .unset, .unset, .unset]) rfl kq) ?_
          show own_G p e below _ (T137.setTop (mkF m 119 #[.val (.int p0), .val (.int p1), .val (.int p2), .val (.int (0 : Int32)), .val (.ref wD), .val (.int ((((p2.toUInt32 >>> ((1 : Int32) &&& 31).toUInt32).toInt32) &&& (3 : Int32)) % (3 : Int32))), .val (.int ((((p2.toUInt32 >>> ((3 : Int32) &&& 31).toUInt32).toInt32) &&& (3 : Int32)) % (3 : Int32))), .val (.int ((p0 &&& (255 : Int32)).toUInt32.toUInt16.toUInt32.toInt32)), .val (.int ((((p0.toUInt32 >>> ((8 : Int32) &&& 31).toUInt32).toInt32) &&& (255 : Int32)).toUInt32.toUInt16.toUInt32.toInt32)), .val (.int ((p1 &&& (255 : Int32)).toUInt32.toUInt16.toUInt32.toInt32)), .val (.int ((((p0.toUInt32 >>> ((8 : Int32) &&& 31).toUInt32).toInt32) &&& (255 : Int32)).toUInt32.toUInt16.toUInt32.toInt32)), .unset, .unset, .unset, .unset, .unset, .unset] []))
          exact tail T137 wD (0 : Int32) ((((p2.toUInt32 >>> ((1 : Int32) &&& 31).toUInt32).toInt32) &&& (3 : Int32)) % (3 : Int32)) ((((p2.toUInt32 >>> ((3 : Int32) &&& 31).toUInt32).toInt32) &&& (3 : Int32)) % (3 : Int32)) ((p0 &&& (255 : Int32)).toUInt32.toUInt16.toUInt32.toInt32) ((((p0.toUInt32 >>> ((8 : Int32) &&& 31).toUInt32).toInt32) &&& (255 : Int32)).toUInt32.toUInt16.toUInt32.toInt32) ((p1 &&& (255 : Int32)).toUInt32.toUInt16.toUInt32.toInt32) ((((p0.toUInt32 >>> ((8 : Int32) &&& 31).toUInt32).toInt32) &&& (255 : Int32)).toUInt32.toUInt16.toUInt32.toInt32) X137 e137 (Or.inr rfl) ED FD (own_rem3 _) (own_rem3 _) (own_and255 _) (own_and255 _) (own_and255 _) (own_and255 _) (own_i2cn _) (own_i2cn _) (own_i2cn _) (own_i2cn _)
      ·
        refine own_st (fun tq kq => XS.ifNo X137.here hx rfl (hb hby at_80) rfl ((if0 _ _).trans (feq hc80_139).1) kq) ?_
        refine own_st (fun tq kq => XS.iload X137.here hx rfl (hb hby at_83) rfl  kq) ?_
        refine own_st (fun tq kq => XS.goto X137.here hx rfl (pc0 := 85) (pc' := 94) rfl (hb hby at_85) (by decide) (by decide) kq) ?_
        refine own_st (fun tq kq => XS.istore X137.here hx rfl (hb hby at_94) rfl (l' := #[.val (.int p0), .val (.int p1), .val (.int p2), .val (.int (0 : Int32)), .val (.ref wD), .val (.int ((((p2.toUInt32 >>> ((1 : Int32) &&& 31).toUInt32).toInt32) &&& (3 : Int32)) % (3 : Int32))), .val (.int ((((p2.toUInt32 >>> ((3 : Int32) &&& 31).toUInt32).toInt32) &&& (3 : Int32)) % (3 : Int32))), .val (.int ((p0 &&& (255 : Int32)).toUInt32.toUInt16.toUInt32.toInt32)), .val (.int ((((p0.toUInt32 >>> ((8 : Int32) &&& 31).toUInt32).toInt32) &&& (255 : Int32)).toUInt32.toUInt16.toUInt32.toInt32)), .val (.int ((p0 &&& (255 : Int32)).toUInt32.toUInt16.toUInt32.toInt32)), .unset, .unset, .unset, .unset, .unset, .unset, .unset]) rfl kq) ?_
        show own_G p e below _ (T137.setTop (mkF m 96 #[.val (.int p0), .val (.int p1), .val (.int p2), .val (.int (0 : Int32)), .val (.ref wD), .val (.int ((((p2.toUInt32 >>> ((1 : Int32) &&& 31).toUInt32).toInt32) &&& (3 : Int32)) % (3 : Int32))), .val (.int ((((p2.toUInt32 >>> ((3 : Int32) &&& 31).toUInt32).toInt32) &&& (3 : Int32)) % (3 : Int32))), .val (.int ((p0 &&& (255 : Int32)).toUInt32.toUInt16.toUInt32.toInt32)), .val (.int ((((p0.toUInt32 >>> ((8 : Int32) &&& 31).toUInt32).toInt32) &&& (255 : Int32)).toUInt32.toUInt16.toUInt32.toInt32)), .val (.int ((p0 &&& (255 : Int32)).toUInt32.toUInt16.toUInt32.toInt32)), .unset, .unset, .unset, .unset, .unset, .unset, .unset] []))
        refine own_st (fun tq kq => XS.iloadN X137.here hx rfl (hb hby at_96) rfl  kq) ?_
        refine own_st (fun tq kq => XS.bipush X137.here hx rfl (hb hby at_97) kq) ?_
        refine own_st (fun tq kq => XS.iand X137.here hx rfl (hb hby at_99) rfl kq) ?_
        show own_G p e below _ (T137.setTop (mkF m 100 #[.val (.int p0), .val (.int p1), .val (.int p2), .val (.int (0 : Int32)), .val (.ref wD), .val (.int ((((p2.toUInt32 >>> ((1 : Int32) &&& 31).toUInt32).toInt32) &&& (3 : Int32)) % (3 : Int32))), .val (.int ((((p2.toUInt32 >>> ((3 : Int32) &&& 31).toUInt32).toInt32) &&& (3 : Int32)) % (3 : Int32))), .val (.int ((p0 &&& (255 : Int32)).toUInt32.toUInt16.toUInt32.toInt32)), .val (.int ((((p0.toUInt32 >>> ((8 : Int32) &&& 31).toUInt32).toInt32) &&& (255 : Int32)).toUInt32.toUInt16.toUInt32.toInt32)), .val (.int ((p0 &&& (255 : Int32)).toUInt32.toUInt16.toUInt32.toInt32)), .unset, .unset, .unset, .unset, .unset, .unset, .unset] [(.int (p2 &&& (64 : Int32)))]))
        by_cases hc100_141 : ((p2 &&& (64 : Int32)) = (0 : Int32))
        ·
          refine own_st (fun tq kq => XS.ifYes X137.here hx rfl (pc0 := 100) (pc' := 108) rfl (hb hby at_100) rfl ((if0 _ _).trans (teq hc100_141).1) (by decide) (by decide) kq) ?_
          refine own_st (fun tq kq => XS.iloadN X137.here hx rfl (hb hby at_108) rfl  kq) ?_
          refine own_st (fun tq kq => XS.bipush X137.here hx rfl (hb hby at_109) kq) ?_
          refine own_st (fun tq kq => XS.iushr X137.here hx rfl (hb hby at_111) rfl kq) ?_
          show own_G p e below _ (T137.setTop (mkF m 112 #[.val (.int p0), .val (.int p1), .val (.int p2), .val (.int (0 : Int32)), .val (.ref wD), .val (.int ((((p2.toUInt32 >>> ((1 : Int32) &&& 31).toUInt32).toInt32) &&& (3 : Int32)) % (3 : Int32))), .val (.int ((((p2.toUInt32 >>> ((3 : Int32) &&& 31).toUInt32).toInt32) &&& (3 : Int32)) % (3 : Int32))), .val (.int ((p0 &&& (255 : Int32)).toUInt32.toUInt16.toUInt32.toInt32)), .val (.int ((((p0.toUInt32 >>> ((8 : Int32) &&& 31).toUInt32).toInt32) &&& (255 : Int32)).toUInt32.toUInt16.toUInt32.toInt32)), .val (.int ((p0 &&& (255 : Int32)).toUInt32.toUInt16.toUInt32.toInt32)), .unset, .unset, .unset, .unset, .unset, .unset, .unset] [(.int ((p1.toUInt32 >>> ((8 : Int32) &&& 31).toUInt32).toInt32))]))
          refine own_st (fun tq kq => XS.sipush X137.here hx rfl (hb hby at_112) kq) ?_
          refine own_st (fun tq kq => XS.iand X137.here hx rfl (hb hby at_115) rfl kq) ?_
          refine own_st (fun tq kq => XS.i2c X137.here hx rfl (hb hby at_116) rfl kq) ?_
          refine own_st (fun tq kq => XS.istore X137.here hx rfl (hb hby at_117) rfl (l' := #[.val (.int p0), .val (.int p1), .val (.int p2), .val (.int (0 : Int32)), .val (.ref wD), .val (.int ((((p2.toUInt32 >>> ((1 : Int32) &&& 31).toUInt32).toInt32) &&& (3 : Int32)) % (3 : Int32))), .val (.int ((((p2.toUInt32 >>> ((3 : Int32) &&& 31).toUInt32).toInt32) &&& (3 : Int32)) % (3 : Int32))), .val (.int ((p0 &&& (255 : Int32)).toUInt32.toUInt16.toUInt32.toInt32)), .val (.int ((((p0.toUInt32 >>> ((8 : Int32) &&& 31).toUInt32).toInt32) &&& (255 : Int32)).toUInt32.toUInt16.toUInt32.toInt32)), .val (.int ((p0 &&& (255 : Int32)).toUInt32.toUInt16.toUInt32.toInt32)), .val (.int ((((p1.toUInt32 >>> ((8 : Int32) &&& 31).toUInt32).toInt32) &&& (255 : Int32)).toUInt32.toUInt16.toUInt32.toInt32)), .unset, .unset, .unset, .unset, .unset, .unset]) rfl kq) ?_
          show own_G p e below _ (T137.setTop (mkF m 119 #[.val (.int p0), .val (.int p1), .val (.int p2), .val (.int (0 : Int32)), .val (.ref wD), .val (.int ((((p2.toUInt32 >>> ((1 : Int32) &&& 31).toUInt32).toInt32) &&& (3 : Int32)) % (3 : Int32))), .val (.int ((((p2.toUInt32 >>> ((3 : Int32) &&& 31).toUInt32).toInt32) &&& (3 : Int32)) % (3 : Int32))), .val (.int ((p0 &&& (255 : Int32)).toUInt32.toUInt16.toUInt32.toInt32)), .val (.int ((((p0.toUInt32 >>> ((8 : Int32) &&& 31).toUInt32).toInt32) &&& (255 : Int32)).toUInt32.toUInt16.toUInt32.toInt32)), .val (.int ((p0 &&& (255 : Int32)).toUInt32.toUInt16.toUInt32.toInt32)), .val (.int ((((p1.toUInt32 >>> ((8 : Int32) &&& 31).toUInt32).toInt32) &&& (255 : Int32)).toUInt32.toUInt16.toUInt32.toInt32)), .unset, .unset, .unset, .unset, .unset, .unset] []))
          exact tail T137 wD (0 : Int32) ((((p2.toUInt32 >>> ((1 : Int32) &&& 31).toUInt32).toInt32) &&& (3 : Int32)) % (3 : Int32)) ((((p2.toUInt32 >>> ((3 : Int32) &&& 31).toUInt32).toInt32) &&& (3 : Int32)) % (3 : Int32)) ((p0 &&& (255 : Int32)).toUInt32.toUInt16.toUInt32.toInt32) ((((p0.toUInt32 >>> ((8 : Int32) &&& 31).toUInt32).toInt32) &&& (255 : Int32)).toUInt32.toUInt16.toUInt32.toInt32) ((p0 &&& (255 : Int32)).toUInt32.toUInt16.toUInt32.toInt32) ((((p1.toUInt32 >>> ((8 : Int32) &&& 31).toUInt32).toInt32) &&& (255 : Int32)).toUInt32.toUInt16.toUInt32.toInt32) X137 e137 (Or.inr rfl) ED FD (own_rem3 _) (own_rem3 _) (own_and255 _) (own_and255 _) (own_and255 _) (own_and255 _) (own_i2cn _) (own_i2cn _) (own_i2cn _) (own_i2cn _)
        ·
          refine own_st (fun tq kq => XS.ifNo X137.here hx rfl (hb hby at_100) rfl ((if0 _ _).trans (feq hc100_141).1) kq) ?_
          refine own_st (fun tq kq => XS.iload X137.here hx rfl (hb hby at_103) rfl  kq) ?_
          refine own_st (fun tq kq => XS.goto X137.here hx rfl (pc0 := 105) (pc' := 117) rfl (hb hby at_105) (by decide) (by decide) kq) ?_
          refine own_st (fun tq kq => XS.istore X137.here hx rfl (hb hby at_117) rfl (l' := #[.val (.int p0), .val (.int p1), .val (.int p2), .val (.int (0 : Int32)), .val (.ref wD), .val (.int ((((p2.toUInt32 >>> ((1 : Int32) &&& 31).toUInt32).toInt32) &&& (3 : Int32)) % (3 : Int32))), .val (.int ((((p2.toUInt32 >>> ((3 : Int32) &&& 31).toUInt32).toInt32) &&& (3 : Int32)) % (3 : Int32))), .val (.int ((p0 &&& (255 : Int32)).toUInt32.toUInt16.toUInt32.toInt32)), .val (.int ((((p0.toUInt32 >>> ((8 : Int32) &&& 31).toUInt32).toInt32) &&& (255 : Int32)).toUInt32.toUInt16.toUInt32.toInt32)), .val (.int ((p0 &&& (255 : Int32)).toUInt32.toUInt16.toUInt32.toInt32)), .val (.int ((((p0.toUInt32 >>> ((8 : Int32) &&& 31).toUInt32).toInt32) &&& (255 : Int32)).toUInt32.toUInt16.toUInt32.toInt32)), .unset, .unset, .unset, .unset, .unset, .unset]) rfl kq) ?_
          show own_G p e below _ (T137.setTop (mkF m 119 #[.val (.int p0), .val (.int p1), .val (.int p2), .val (.int (0 : Int32)), .val (.ref wD), .val (.int ((((p2.toUInt32 >>> ((1 : Int32) &&& 31).toUInt32).toInt32) &&& (3 : Int32)) % (3 : Int32))), .val (.int ((((p2.toUInt32 >>> ((3 : Int32) &&& 31).toUInt32).toInt32) &&& (3 : Int32)) % (3 : Int32))), .val (.int ((p0 &&& (255 : Int32)).toUInt32.toUInt16.toUInt32.toInt32)), .val (.int ((((p0.toUInt32 >>> ((8 : Int32) &&& 31).toUInt32).toInt32) &&& (255 : Int32)).toUInt32.toUInt16.toUInt32.toInt32)), .val (.int ((p0 &&& (255 : Int32)).toUInt32.toUInt16.toUInt32.toInt32)), .val (.int ((((p0.toUInt32 >>> ((8 : Int32) &&& 31).toUInt32).toInt32) &&& (255 : Int32)).toUInt32.toUInt16.toUInt32.toInt32)), .unset, .unset, .unset, .unset, .unset, .unset] []))
          exact tail T137 wD (0 : Int32) ((((p2.toUInt32 >>> ((1 : Int32) &&& 31).toUInt32).toInt32) &&& (3 : Int32)) % (3 : Int32)) ((((p2.toUInt32 >>> ((3 : Int32) &&& 31).toUInt32).toInt32) &&& (3 : Int32)) % (3 : Int32)) ((p0 &&& (255 : Int32)).toUInt32.toUInt16.toUInt32.toInt32) ((((p0.toUInt32 >>> ((8 : Int32) &&& 31).toUInt32).toInt32) &&& (255 : Int32)).toUInt32.toUInt16.toUInt32.toInt32) ((p0 &&& (255 : Int32)).toUInt32.toUInt16.toUInt32.toInt32) ((((p0.toUInt32 >>> ((8 : Int32) &&& 31).toUInt32).toInt32) &&& (255 : Int32)).toUInt32.toUInt16.toUInt32.toInt32) X137 e137 (Or.inr rfl) ED FD (own_rem3 _) (own_rem3 _) (own_and255 _) (own_and255 _) (own_and255 _) (own_and255 _) (own_i2cn _) (own_i2cn _) (own_i2cn _) (own_i2cn _)
    ·
      refine own_st (fun tq kq => XS.ifNo X137.here hx rfl (hb hby at_50) rfl ((if0 _ _).trans (feq hc50_138).1) kq) ?_
      refine own_st (fun tq kq => XS.iload X137.here hx rfl (hb hby at_53) rfl  kq) ?_
      refine own_st (fun tq kq => XS.istore X137.here hx rfl (hb hby at_55) rfl (l' := #[.val (.int p0), .val (.int p1), .val (.int p2), .val (.int (0 : Int32)), .val (.ref wD), .val (.int ((((p2.toUInt32 >>> ((1 : Int32) &&& 31).toUInt32).toInt32) &&& (3 : Int32)) % (3 : Int32))), .val (.int ((((p2.toUInt32 >>> ((1 : Int32) &&& 31).toUInt32).toInt32) &&& (3 : Int32)) % (3 : Int32))), .unset, .unset, .unset, .unset, .unset, .unset, .unset, .unset, .unset, .unset]) rfl kq) ?_
      refine own_st (fun tq kq => XS.iloadN X137.here hx rfl (hb hby at_57) rfl  kq) ?_
      show own_G p e below _ (T137.setTop (mkF m 58 #[.val (.int p0), .val (.int p1), .val (.int p2), .val (.int (0 : Int32)), .val (.ref wD), .val (.int ((((p2.toUInt32 >>> ((1 : Int32) &&& 31).toUInt32).toInt32) &&& (3 : Int32)) % (3 : Int32))), .val (.int ((((p2.toUInt32 >>> ((1 : Int32) &&& 31).toUInt32).toInt32) &&& (3 : Int32)) % (3 : Int32))), .unset, .unset, .unset, .unset, .unset, .unset, .unset, .unset, .unset, .unset] [(.int p0)]))
      refine own_st (fun tq kq => XS.sipush X137.here hx rfl (hb hby at_58) kq) ?_
      refine own_st (fun tq kq => XS.iand X137.here hx rfl (hb hby at_61) rfl kq) ?_
      refine own_st (fun tq kq => XS.i2c X137.here hx rfl (hb hby at_62) rfl kq) ?_
      refine own_st (fun tq kq => XS.istore X137.here hx rfl (hb hby at_63) rfl (l' := #[.val (.int p0), .val (.int p1), .val (.int p2), .val (.int (0 : Int32)), .val (.ref wD), .val (.int ((((p2.toUInt32 >>> ((1 : Int32) &&& 31).toUInt32).toInt32) &&& (3 : Int32)) % (3 : Int32))), .val (.int ((((p2.toUInt32 >>> ((1 : Int32) &&& 31).toUInt32).toInt32) &&& (3 : Int32)) % (3 : Int32))), .val (.int ((p0 &&& (255 : Int32)).toUInt32.toUInt16.toUInt32.toInt32)), .unset, .unset, .unset, .unset, .unset, .unset, .unset, .unset, .unset]) rfl kq) ?_
      show own_G p e below _ (T137.setTop (mkF m 65 #[.val (.int p0), .val (.int p1), .val (.int p2), .val (.int (0 : Int32)), .val (.ref wD), .val (.int ((((p2.toUInt32 >>> ((1 : Int32) &&& 31).toUInt32).toInt32) &&& (3 : Int32)) % (3 : Int32))), .val (.int ((((p2.toUInt32 >>> ((1 : Int32) &&& 31).toUInt32).toInt32) &&& (3 : Int32)) % (3 : Int32))), .val (.int ((p0 &&& (255 : Int32)).toUInt32.toUInt16.toUInt32.toInt32)), .unset, .unset, .unset, .unset, .unset, .unset, .unset, .unset, .unset] []))
      refine own_st (fun tq kq => XS.iloadN X137.here hx rfl (hb hby at_65) rfl  kq) ?_
      refine own_st (fun tq kq => XS.bipush X137.here hx rfl (hb hby at_66) kq) ?_
      refine own_st (fun tq kq => XS.iushr X137.here hx rfl (hb hby at_68) rfl kq) ?_
      refine own_st (fun tq kq => XS.sipush X137.here hx rfl (hb hby at_69) kq) ?_
      show own_G p e below _ (T137.setTop (mkF m 72 #[.val (.int p0), .val (.int p1), .val (.int p2), .val (.int (0 : Int32)), .val (.ref wD), .val (.int ((((p2.toUInt32 >>> ((1 : Int32) &&& 31).toUInt32).toInt32) &&& (3 : Int32)) % (3 : Int32))), .val (.int ((((p2.toUInt32 >>> ((1 : Int32) &&& 31).toUInt32).toInt32) &&& (3 : Int32)) % (3 : Int32))), .val (.int ((p0 &&& (255 : Int32)).toUInt32.toUInt16.toUInt32.toInt32)), .unset, .unset, .unset, .unset, .unset, .unset, .unset, .unset, .unset] [(.int (255 : Int32)), (.int ((p0.toUInt32 >>> ((8 : Int32) &&& 31).toUInt32).toInt32))]))
      refine own_st (fun tq kq => XS.iand X137.here hx rfl (hb hby at_72) rfl kq) ?_
      refine own_st (fun tq kq => XS.i2c X137.here hx rfl (hb hby at_73) rfl kq) ?_
      refine own_st (fun tq kq => XS.istore X137.here hx rfl (hb hby at_74) rfl (l' := #[.val (.int p0), .val (.int p1), .val (.int p2), .val (.int (0 : Int32)), .val (.ref wD), .val (.int ((((p2.toUInt32 >>> ((1 : Int32) &&& 31).toUInt32).toInt32) &&& (3 : Int32)) % (3 : Int32))), .val (.int ((((p2.toUInt32 >>> ((1 : Int32) &&& 31).toUInt32).toInt32) &&& (3 : Int32)) % (3 : Int32))), .val (.int ((p0 &&& (255 : Int32)).toUInt32.toUInt16.toUInt32.toInt32)), .val (.int ((((p0.toUInt32 >>> ((8 : Int32) &&& 31).toUInt32).toInt32) &&& (255 : Int32)).toUInt32.toUInt16.toUInt32.toInt32)), .unset, .unset, .unset, .unset, .unset, .unset, .unset, .unset]) rfl kq) ?_
      refine own_st (fun tq kq => XS.iloadN X137.here hx rfl (hb hby at_76) rfl  kq) ?_
      show own_G p e below _ (T137.setTop (mkF m 77 #[.val (.int p0), .val (.int p1), .val (.int p2), .val (.int (0 : Int32)), .val (.ref wD), .val (.int ((((p2.toUInt32 >>> ((1 : Int32) &&& 31).toUInt32).toInt32) &&& (3 : Int32)) % (3 : Int32))), .val (.int ((((p2.toUInt32 >>> ((1 : Int32) &&& 31).toUInt32).toInt32) &&& (3 : Int32)) % (3 : Int32))), .val (.int ((p0 &&& (255 : Int32)).toUInt32.toUInt16.toUInt32.toInt32)), .val (.int ((((p0.toUInt32 >>> ((8 : Int32) &&& 31).toUInt32).toInt32) &&& (255 : Int32)).toUInt32.toUInt16.toUInt32.toInt32)), .unset, .unset, .unset, .unset, .unset, .unset, .unset, .unset] [(.int p2)]))
      refine own_st (fun tq kq => XS.bipush X137.here hx rfl (hb hby at_77) kq) ?_
      refine own_st (fun tq kq => XS.iand X137.here hx rfl (hb hby at_79) rfl kq) ?_
      show own_G p e below _ (T137.setTop (mkF m 80 #[.val (.int p0), .val (.int p1), .val (.int p2), .val (.int (0 : Int32)), .val (.ref wD), .val (.int ((((p2.toUInt32 >>> ((1 : Int32) &&& 31).toUInt32).toInt32) &&& (3 : Int32)) % (3 : Int32))), .val (.int ((((p2.toUInt32 >>> ((1 : Int32) &&& 31).toUInt32).toInt32) &&& (3 : Int32)) % (3 : Int32))), .val (.int ((p0 &&& (255 : Int32)).toUInt32.toUInt16.toUInt32.toInt32)), .val (.int ((((p0.toUInt32 >>> ((8 : Int32) &&& 31).toUInt32).toInt32) &&& (255 : Int32)).toUInt32.toUInt16.toUInt32.toInt32)), .unset, .unset, .unset, .unset, .unset, .unset, .unset, .unset] [(.int (p2 &&& (32 : Int32)))]))
      by_cases hc80_142 : ((p2 &&& (32 : Int32)) = (0 : Int32))
      ·
        refine own_st (fun tq kq => XS.ifYes X137.here hx rfl (pc0 := 80) (pc' := 88) rfl (hb hby at_80) rfl ((if0 _ _).trans (teq hc80_142).1) (by decide) (by decide) kq) ?_
        refine own_st (fun tq kq => XS.iloadN X137.here hx rfl (hb hby at_88) rfl  kq) ?_
        refine own_st (fun tq kq => XS.sipush X137.here hx rfl (hb hby at_89) kq) ?_
        refine own_st (fun tq kq => XS.iand X137.here hx rfl (hb hby at_92) rfl kq) ?_
        show own_G p e below _ (T137.setTop (mkF m 93 #[.val (.int p0), .val (.int p1), .val (.int p2), .val (.int (0 : Int32)), .val (.ref wD), .val (.int ((((p2.toUInt32 >>> ((1 : Int32) &&& 31).toUInt32).toInt32) &&& (3 : Int32)) % (3 : Int32))), .val (.int ((((p2.toUInt32 >>> ((1 : Int32) &&& 31).toUInt32).toInt32) &&& (3 : Int32)) % (3 : Int32))), .val (.int ((p0 &&& (255 : Int32)).toUInt32.toUInt16.toUInt32.toInt32)), .val (.int ((((p0.toUInt32 >>> ((8 : Int32) &&& 31).toUInt32).toInt32) &&& (255 : Int32)).toUInt32.toUInt16.toUInt32.toInt32)), .unset, .unset, .unset, .unset, .unset, .unset, .unset, .unset] [(.int (p1 &&& (255 : Int32)))]))
        refine own_st (fun tq kq => XS.i2c X137.here hx rfl (hb hby at_93) rfl kq) ?_
        refine own_st (fun tq kq => XS.istore X137.here hx rfl (hb hby at_94) rfl (l' := #[.val (.int p0), .val (.int p1), .val (.int p2), .val (.int (0 : Int32)), .val (.ref wD), .val (.int ((((p2.toUInt32 >>> ((1 : Int32) &&& 31).toUInt32).toInt32) &&& (3 : Int32)) % (3 : Int32))), .val (.int ((((p2.toUInt32 >>> ((1 : Int32) &&& 31).toUInt32).toInt32) &&& (3 : Int32)) % (3 : Int32))), .val (.int ((p0 &&& (255 : Int32)).toUInt32.toUInt16.toUInt32.toInt32)), .val (.int ((((p0.toUInt32 >>> ((8 : Int32) &&& 31).toUInt32).toInt32) &&& (255 : Int32)).toUInt32.toUInt16.toUInt32.toInt32)), .val (.int ((p1 &&& (255 : Int32)).toUInt32.toUInt16.toUInt32.toInt32)), .unset, .unset, .unset, .unset, .unset, .unset, .unset]) rfl kq) ?_
        refine own_st (fun tq kq => XS.iloadN X137.here hx rfl (hb hby at_96) rfl  kq) ?_
        refine own_st (fun tq kq => XS.bipush X137.here hx rfl (hb hby at_97) kq) ?_
        show own_G p e below _ (T137.setTop (mkF m 99 #[.val (.int p0), .val (.int p1), .val (.int p2), .val (.int (0 : Int32)), .val (.ref wD), .val (.int ((((p2.toUInt32 >>> ((1 : Int32) &&& 31).toUInt32).toInt32) &&& (3 : Int32)) % (3 : Int32))), .val (.int ((((p2.toUInt32 >>> ((1 : Int32) &&& 31).toUInt32).toInt32) &&& (3 : Int32)) % (3 : Int32))), .val (.int ((p0 &&& (255 : Int32)).toUInt32.toUInt16.toUInt32.toInt32)), .val (.int ((((p0.toUInt32 >>> ((8 : Int32) &&& 31).toUInt32).toInt32) &&& (255 : Int32)).toUInt32.toUInt16.toUInt32.toInt32)), .val (.int ((p1 &&& (255 : Int32)).toUInt32.toUInt16.toUInt32.toInt32)), .unset, .unset, .unset, .unset, .unset, .unset, .unset] [(.int (64 : Int32)), (.int p2)]))
        refine own_st (fun tq kq => XS.iand X137.here hx rfl (hb hby at_99) rfl kq) ?_
        show own_G p e below _ (T137.setTop (mkF m 100 #[.val (.int p0), .val (.int p1), .val (.int p2), .val (.int (0 : Int32)), .val (.ref wD), .val (.int ((((p2.toUInt32 >>> ((1 : Int32) &&& 31).toUInt32).toInt32) &&& (3 : Int32)) % (3 : Int32))), .val (.int ((((p2.toUInt32 >>> ((1 : Int32) &&& 31).toUInt32).toInt32) &&& (3 : Int32)) % (3 : Int32))), .val (.int ((p0 &&& (255 : Int32)).toUInt32.toUInt16.toUInt32.toInt32)), .val (.int ((((p0.toUInt32 >>> ((8 : Int32) &&& 31).toUInt32).toInt32) &&& (255 : Int32)).toUInt32.toUInt16.toUInt32.toInt32)), .val (.int ((p1 &&& (255 : Int32)).toUInt32.toUInt16.toUInt32.toInt32)), .unset, .unset, .unset, .unset, .unset, .unset, .unset] [(.int (p2 &&& (64 : Int32)))]))
        by_cases hc100_143 : ((p2 &&& (64 : Int32)) = (0 : Int32))
        ·
          refine own_st (fun tq kq => XS.ifYes X137.here hx rfl (pc0 := 100) (pc' := 108) rfl (hb hby at_100) rfl ((if0 _ _).trans (teq hc100_143).1) (by decide) (by decide) kq) ?_
          refine own_st (fun tq kq => XS.iloadN X137.here hx rfl (hb hby at_108) rfl  kq) ?_
          refine own_st (fun tq kq => XS.bipush X137.here hx rfl (hb hby at_109) kq) ?_
          refine own_st (fun tq kq => XS.iushr X137.here hx rfl (hb hby at_111) rfl kq) ?_
          show own_G p e below _ (T137.setTop (mkF m 112 #[.val (.int p0), .val (.int p1), .val (.int p2), .val (.int (0 : Int32)), .val (.ref wD), .val (.int ((((p2.toUInt32 >>> ((1 : Int32) &&& 31).toUInt32).toInt32) &&& (3 : Int32)) % (3 : Int32))), .val (.int ((((p2.toUInt32 >>> ((1 : Int32) &&& 31).toUInt32).toInt32) &&& (3 : Int32)) % (3 : Int32))), .val (.int ((p0 &&& (255 : Int32)).toUInt32.toUInt16.toUInt32.toInt32)), .val (.int ((((p0.toUInt32 >>> ((8 : Int32) &&& 31).toUInt32).toInt32) &&& (255 : Int32)).toUInt32.toUInt16.toUInt32.toInt32)), .val (.int ((p1 &&& (255 : Int32)).toUInt32.toUInt16.toUInt32.toInt32)), .unset, .unset, .unset, .unset, .unset, .unset, .unset] [(.int ((p1.toUInt32 >>> ((8 : Int32) &&& 31).toUInt32).toInt32))]))
          refine own_st (fun tq kq => XS.sipush X137.here hx rfl (hb hby at_112) kq) ?_
          refine own_st (fun tq kq => XS.iand X137.here hx rfl (hb hby at_115) rfl kq) ?_
          refine own_st (fun tq kq => XS.i2c X137.here hx rfl (hb hby at_116) rfl kq) ?_
          refine own_st (fun tq kq => XS.istore X137.here hx rfl (hb hby at_117) rfl (l' := #[.val (.int p0), .val (.int p1), .val (.int p2), .val (.int (0 : Int32)), .val (.ref wD), .val (.int ((((p2.toUInt32 >>> ((1 : Int32) &&& 31).toUInt32).toInt32) &&& (3 : Int32)) % (3 : Int32))), .val (.int ((((p2.toUInt32 >>> ((1 : Int32) &&& 31).toUInt32).toInt32) &&& (3 : Int32)) % (3 : Int32))), .val (.int ((p0 &&& (255 : Int32)).toUInt32.toUInt16.toUInt32.toInt32)), .val (.int ((((p0.toUInt32 >>> ((8 : Int32) &&& 31).toUInt32).toInt32) &&& (255 : Int32)).toUInt32.toUInt16.toUInt32.toInt32)), .val (.int ((p1 &&& (255 : Int32)).toUInt32.toUInt16.toUInt32.toInt32)), .val (.int ((((p1.toUInt32 >>> ((8 : Int32) &&& 31).toUInt32).toInt32) &&& (255 : Int32)).toUInt32.toUInt16.toUInt32.toInt32)), .unset, .unset, .unset, .unset, .unset, .unset]) rfl kq) ?_
          show own_G p e below _ (T137.setTop (mkF m 119 #[.val (.int p0), .val (.int p1), .val (.int p2), .val (.int (0 : Int32)), .val (.ref wD), .val (.int ((((p2.toUInt32 >>> ((1 : Int32) &&& 31).toUInt32).toInt32) &&& (3 : Int32)) % (3 : Int32))), .val (.int ((((p2.toUInt32 >>> ((1 : Int32) &&& 31).toUInt32).toInt32) &&& (3 : Int32)) % (3 : Int32))), .val (.int ((p0 &&& (255 : Int32)).toUInt32.toUInt16.toUInt32.toInt32)), .val (.int ((((p0.toUInt32 >>> ((8 : Int32) &&& 31).toUInt32).toInt32) &&& (255 : Int32)).toUInt32.toUInt16.toUInt32.toInt32)), .val (.int ((p1 &&& (255 : Int32)).toUInt32.toUInt16.toUInt32.toInt32)), .val (.int ((((p1.toUInt32 >>> ((8 : Int32) &&& 31).toUInt32).toInt32) &&& (255 : Int32)).toUInt32.toUInt16.toUInt32.toInt32)), .unset, .unset, .unset, .unset, .unset, .unset] []))
          exact tail T137 wD (0 : Int32) ((((p2.toUInt32 >>> ((1 : Int32) &&& 31).toUInt32).toInt32) &&& (3 : Int32)) % (3 : Int32)) ((((p2.toUInt32 >>> ((1 : Int32) &&& 31).toUInt32).toInt32) &&& (3 : Int32)) % (3 : Int32)) ((p0 &&& (255 : Int32)).toUInt32.toUInt16.toUInt32.toInt32) ((((p0.toUInt32 >>> ((8 : Int32) &&& 31).toUInt32).toInt32) &&& (255 : Int32)).toUInt32.toUInt16.toUInt32.toInt32) ((p1 &&& (255 : Int32)).toUInt32.toUInt16.toUInt32.toInt32) ((((p1.toUInt32 >>> ((8 : Int32) &&& 31).toUInt32).toInt32) &&& (255 : Int32)).toUInt32.toUInt16.toUInt32.toInt32) X137 e137 (Or.inr rfl) ED FD (own_rem3 _) (own_rem3 _) (own_and255 _) (own_and255 _) (own_and255 _) (own_and255 _) (own_i2cn _) (own_i2cn _) (own_i2cn _) (own_i2cn _)
        ·
          refine own_st (fun tq kq => XS.ifNo X137.here hx rfl (hb hby at_100) rfl ((if0 _ _).trans (feq hc100_143).1) kq) ?_
          refine own_st (fun tq kq => XS.iload X137.here hx rfl (hb hby at_103) rfl  kq) ?_
          refine own_st (fun tq kq => XS.goto X137.here hx rfl (pc0 := 105) (pc' := 117) rfl (hb hby at_105) (by decide) (by decide) kq) ?_
          refine own_st (fun tq kq => XS.istore X137.here hx rfl (hb hby at_117) rfl (l' := #[.val (.int p0), .val (.int p1), .val (.int p2), .val (.int (0 : Int32)), .val (.ref wD), .val (.int ((((p2.toUInt32 >>> ((1 : Int32) &&& 31).toUInt32).toInt32) &&& (3 : Int32)) % (3 : Int32))), .val (.int ((((p2.toUInt32 >>> ((1 : Int32) &&& 31).toUInt32).toInt32) &&& (3 : Int32)) % (3 : Int32))), .val (.int ((p0 &&& (255 : Int32)).toUInt32.toUInt16.toUInt32.toInt32)), .val (.int ((((p0.toUInt32 >>> ((8 : Int32) &&& 31).toUInt32).toInt32) &&& (255 : Int32)).toUInt32.toUInt16.toUInt32.toInt32)), .val (.int ((p1 &&& (255 : Int32)).toUInt32.toUInt16.toUInt32.toInt32)), .val (.int ((((p0.toUInt32 >>> ((8 : Int32) &&& 31).toUInt32).toInt32) &&& (255 : Int32)).toUInt32.toUInt16.toUInt32.toInt32)), .unset, .unset, .unset, .unset, .unset, .unset]) rfl kq) ?_
          show own_G p e below _ (T137.setTop (mkF m 119 #[.val (.int p0), .val (.int p1), .val (.int p2), .val (.int (0 : Int32)), .val (.ref wD), .val (.int ((((p2.toUInt32 >>> ((1 : Int32) &&& 31).toUInt32).toInt32) &&& (3 : Int32)) % (3 : Int32))), .val (.int ((((p2.toUInt32 >>> ((1 : Int32) &&& 31).toUInt32).toInt32) &&& (3 : Int32)) % (3 : Int32))), .val (.int ((p0 &&& (255 : Int32)).toUInt32.toUInt16.toUInt32.toInt32)), .val (.int ((((p0.toUInt32 >>> ((8 : Int32) &&& 31).toUInt32).toInt32) &&& (255 : Int32)).toUInt32.toUInt16.toUInt32.toInt32)), .val (.int ((p1 &&& (255 : Int32)).toUInt32.toUInt16.toUInt32.toInt32)), .val (.int ((((p0.toUInt32 >>> ((8 : Int32) &&& 31).toUInt32).toInt32) &&& (255 : Int32)).toUInt32.toUInt16.toUInt32.toInt32)), .unset, .unset, .unset, .unset, .unset, .unset] []))
          exact tail T137 wD (0 : Int32) ((((p2.toUInt32 >>> ((1 : Int32) &&& 31).toUInt32).toInt32) &&& (3 : Int32)) % (3 : Int32)) ((((p2.toUInt32 >>> ((1 : Int32) &&& 31).toUInt32).toInt32) &&& (3 : Int32)) % (3 : Int32)) ((p0 &&& (255 : Int32)).toUInt32.toUInt16.toUInt32.toInt32) ((((p0.toUInt32 >>> ((8 : Int32) &&& 31).toUInt32).toInt32) &&& (255 : Int32)).toUInt32.toUInt16.toUInt32.toInt32) ((p1 &&& (255 : Int32)).toUInt32.toUInt16.toUInt32.toInt32) ((((p0.toUInt32 >>> ((8 : Int32) &&& 31).toUInt32).toInt32) &&& (255 : Int32)).toUInt32.toUInt16.toUInt32.toInt32) X137 e137 (Or.inr rfl) ED FD (own_rem3 _) (own_rem3 _) (own_and255 _) (own_and255 _) (own_and255 _) (own_and255 _) (own_i2cn _) (own_i2cn _) (own_i2cn _) (own_i2cn _)
      ·
        refine own_st (fun tq kq => XS.ifNo X137.here hx rfl (hb hby at_80) rfl ((if0 _ _).trans (feq hc80_142).1) kq) ?_
        refine own_st (fun tq kq => XS.iload X137.here hx rfl (hb hby at_83) rfl  kq) ?_
        refine own_st (fun tq kq => XS.goto X137.here hx rfl (pc0 := 85) (pc' := 94) rfl (hb hby at_85) (by decide) (by decide) kq) ?_
        refine own_st (fun tq kq => XS.istore X137.here hx rfl (hb hby at_94) rfl (l' := #[.val (.int p0), .val (.int p1), .val (.int p2), .val (.int (0 : Int32)), .val (.ref wD), .val (.int ((((p2.toUInt32 >>> ((1 : Int32) &&& 31).toUInt32).toInt32) &&& (3 : Int32)) % (3 : Int32))), .val (.int ((((p2.toUInt32 >>> ((1 : Int32) &&& 31).toUInt32).toInt32) &&& (3 : Int32)) % (3 : Int32))), .val (.int ((p0 &&& (255 : Int32)).toUInt32.toUInt16.toUInt32.toInt32)), .val (.int ((((p0.toUInt32 >>> ((8 : Int32) &&& 31).toUInt32).toInt32) &&& (255 : Int32)).toUInt32.toUInt16.toUInt32.toInt32)), .val (.int ((p0 &&& (255 : Int32)).toUInt32.toUInt16.toUInt32.toInt32)), .unset, .unset, .unset, .unset, .unset, .unset, .unset]) rfl kq) ?_
        show own_G p e below _ (T137.setTop (mkF m 96 #[.val (.int p0), .val (.int p1), .val (.int p2), .val (.int (0 : Int32)), .val (.ref wD), .val (.int ((((p2.toUInt32 >>> ((1 : Int32) &&& 31).toUInt32).toInt32) &&& (3 : Int32)) % (3 : Int32))), .val (.int ((((p2.toUInt32 >>> ((1 : Int32) &&& 31).toUInt32).toInt32) &&& (3 : Int32)) % (3 : Int32))), .val (.int ((p0 &&& (255 : Int32)).toUInt32.toUInt16.toUInt32.toInt32)), .val (.int ((((p0.toUInt32 >>> ((8 : Int32) &&& 31).toUInt32).toInt32) &&& (255 : Int32)).toUInt32.toUInt16.toUInt32.toInt32)), .val (.int ((p0 &&& (255 : Int32)).toUInt32.toUInt16.toUInt32.toInt32)), .unset, .unset, .unset, .unset, .unset, .unset, .unset] []))
        refine own_st (fun tq kq => XS.iloadN X137.here hx rfl (hb hby at_96) rfl  kq) ?_
        refine own_st (fun tq kq => XS.bipush X137.here hx rfl (hb hby at_97) kq) ?_
        refine own_st (fun tq kq => XS.iand X137.here hx rfl (hb hby at_99) rfl kq) ?_
        show own_G p e below _ (T137.setTop (mkF m 100 #[.val (.int p0), .val (.int p1), .val (.int p2), .val (.int (0 : Int32)), .val (.ref wD), .val (.int ((((p2.toUInt32 >>> ((1 : Int32) &&& 31).toUInt32).toInt32) &&& (3 : Int32)) % (3 : Int32))), .val (.int ((((p2.toUInt32 >>> ((1 : Int32) &&& 31).toUInt32).toInt32) &&& (3 : Int32)) % (3 : Int32))), .val (.int ((p0 &&& (255 : Int32)).toUInt32.toUInt16.toUInt32.toInt32)), .val (.int ((((p0.toUInt32 >>> ((8 : Int32) &&& 31).toUInt32).toInt32) &&& (255 : Int32)).toUInt32.toUInt16.toUInt32.toInt32)), .val (.int ((p0 &&& (255 : Int32)).toUInt32.toUInt16.toUInt32.toInt32)), .unset, .unset, .unset, .unset, .unset, .unset, .unset] [(.int (p2 &&& (64 : Int32)))]))
        by_cases hc100_144 : ((p2 &&& (64 : Int32)) = (0 : Int32))
        ·
          refine own_st (fun tq kq => XS.ifYes X137.here hx rfl (pc0 := 100) (pc' := 108) rfl (hb hby at_100) rfl ((if0 _ _).trans (teq hc100_144).1) (by decide) (by decide) kq) ?_
          refine own_st (fun tq kq => XS.iloadN X137.here hx rfl (hb hby at_108) rfl  kq) ?_
          refine own_st (fun tq kq => XS.bipush X137.here hx rfl (hb hby at_109) kq) ?_
          refine own_st (fun tq kq => XS.iushr X137.here hx rfl (hb hby at_111) rfl kq) ?_
          show own_G p e below _ (T137.setTop (mkF m 112 #[.val (.int p0), .val (.int p1), .val (.int p2), .val (.int (0 : Int32)), .val (.ref wD), .val (.int ((((p2.toUInt32 >>> ((1 : Int32) &&& 31).toUInt32).toInt32) &&& (3 : Int32)) % (3 : Int32))), .val (.int ((((p2.toUInt32 >>> ((1 : Int32) &&& 31).toUInt32).toInt32) &&& (3 : Int32)) % (3 : Int32))), .val (.int ((p0 &&& (255 : Int32)).toUInt32.toUInt16.toUInt32.toInt32)), .val (.int ((((p0.toUInt32 >>> ((8 : Int32) &&& 31).toUInt32).toInt32) &&& (255 : Int32)).toUInt32.toUInt16.toUInt32.toInt32)), .val (.int ((p0 &&& (255 : Int32)).toUInt32.toUInt16.toUInt32.toInt32)), .unset, .unset, .unset, .unset, .unset, .unset, .unset] [(.int ((p1.toUInt32 >>> ((8 : Int32) &&& 31).toUInt32).toInt32))]))
          refine own_st (fun tq kq => XS.sipush X137.here hx rfl (hb hby at_112) kq) ?_
          refine own_st (fun tq kq => XS.iand X137.here hx rfl (hb hby at_115) rfl kq) ?_
          refine own_st (fun tq kq => XS.i2c X137.here hx rfl (hb hby at_116) rfl kq) ?_
          refine own_st (fun tq kq => XS.istore X137.here hx rfl (hb hby at_117) rfl (l' := #[.val (.int p0), .val (.int p1), .val (.int p2), .val (.int (0 : Int32)), .val (.ref wD), .val (.int ((((p2.toUInt32 >>> ((1 : Int32) &&& 31).toUInt32).toInt32) &&& (3 : Int32)) % (3 : Int32))), .val (.int ((((p2.toUInt32 >>> ((1 : Int32) &&& 31).toUInt32).toInt32) &&& (3 : Int32)) % (3 : Int32))), .val (.int ((p0 &&& (255 : Int32)).toUInt32.toUInt16.toUInt32.toInt32)), .val (.int ((((p0.toUInt32 >>> ((8 : Int32) &&& 31).toUInt32).toInt32) &&& (255 : Int32)).toUInt32.toUInt16.toUInt32.toInt32)), .val (.int ((p0 &&& (255 : Int32)).toUInt32.toUInt16.toUInt32.toInt32)), .val (.int ((((p1.toUInt32 >>> ((8 : Int32) &&& 31).toUInt32).toInt32) &&& (255 : Int32)).toUInt32.toUInt16.toUInt32.toInt32)), .unset, .unset, .unset, .unset, .unset, .unset]) rfl kq) ?_
          show own_G p e below _ (T137.setTop (mkF m 119 #[.val (.int p0), .val (.int p1), .val (.int p2), .val (.int (0 : Int32)), .val (.ref wD), .val (.int ((((p2.toUInt32 >>> ((1 : Int32) &&& 31).toUInt32).toInt32) &&& (3 : Int32)) % (3 : Int32))), .val (.int ((((p2.toUInt32 >>> ((1 : Int32) &&& 31).toUInt32).toInt32) &&& (3 : Int32)) % (3 : Int32))), .val (.int ((p0 &&& (255 : Int32)).toUInt32.toUInt16.toUInt32.toInt32)), .val (.int ((((p0.toUInt32 >>> ((8 : Int32) &&& 31).toUInt32).toInt32) &&& (255 : Int32)).toUInt32.toUInt16.toUInt32.toInt32)), .val (.int ((p0 &&& (255 : Int32)).toUInt32.toUInt16.toUInt32.toInt32)), .val (.int ((((p1.toUInt32 >>> ((8 : Int32) &&& 31).toUInt32).toInt32) &&& (255 : Int32)).toUInt32.toUInt16.toUInt32.toInt32)), .unset, .unset, .unset, .unset, .unset, .unset] []))
          exact tail T137 wD (0 : Int32) ((((p2.toUInt32 >>> ((1 : Int32) &&& 31).toUInt32).toInt32) &&& (3 : Int32)) % (3 : Int32)) ((((p2.toUInt32 >>> ((1 : Int32) &&& 31).toUInt32).toInt32) &&& (3 : Int32)) % (3 : Int32)) ((p0 &&& (255 : Int32)).toUInt32.toUInt16.toUInt32.toInt32) ((((p0.toUInt32 >>> ((8 : Int32) &&& 31).toUInt32).toInt32) &&& (255 : Int32)).toUInt32.toUInt16.toUInt32.toInt32) ((p0 &&& (255 : Int32)).toUInt32.toUInt16.toUInt32.toInt32) ((((p1.toUInt32 >>> ((8 : Int32) &&& 31).toUInt32).toInt32) &&& (255 : Int32)).toUInt32.toUInt16.toUInt32.toInt32) X137 e137 (Or.inr rfl) ED FD (own_rem3 _) (own_rem3 _) (own_and255 _) (own_and255 _) (own_and255 _) (own_and255 _) (own_i2cn _) (own_i2cn _) (own_i2cn _) (own_i2cn _)
        ·
          refine own_st (fun tq kq => XS.ifNo X137.here hx rfl (hb hby at_100) rfl ((if0 _ _).trans (feq hc100_144).1) kq) ?_
          refine own_st (fun tq kq => XS.iload X137.here hx rfl (hb hby at_103) rfl  kq) ?_
          refine own_st (fun tq kq => XS.goto X137.here hx rfl (pc0 := 105) (pc' := 117) rfl (hb hby at_105) (by decide) (by decide) kq) ?_
          refine own_st (fun tq kq => XS.istore X137.here hx rfl (hb hby at_117) rfl (l' := #[.val (.int p0), .val (.int p1), .val (.int p2), .val (.int (0 : Int32)), .val (.ref wD), .val (.int ((((p2.toUInt32 >>> ((1 : Int32) &&& 31).toUInt32).toInt32) &&& (3 : Int32)) % (3 : Int32))), .val (.int ((((p2.toUInt32 >>> ((1 : Int32) &&& 31).toUInt32).toInt32) &&& (3 : Int32)) % (3 : Int32))), .val (.int ((p0 &&& (255 : Int32)).toUInt32.toUInt16.toUInt32.toInt32)), .val (.int ((((p0.toUInt32 >>> ((8 : Int32) &&& 31).toUInt32).toInt32) &&& (255 : Int32)).toUInt32.toUInt16.toUInt32.toInt32)), .val (.int ((p0 &&& (255 : Int32)).toUInt32.toUInt16.toUInt32.toInt32)), .val (.int ((((p0.toUInt32 >>> ((8 : Int32) &&& 31).toUInt32).toInt32) &&& (255 : Int32)).toUInt32.toUInt16.toUInt32.toInt32)), .unset, .unset, .unset, .unset, .unset, .unset]) rfl kq) ?_
          show own_G p e below _ (T137.setTop (mkF m 119 #[.val (.int p0), .val (.int p1), .val (.int p2), .val (.int (0 : Int32)), .val (.ref wD), .val (.int ((((p2.toUInt32 >>> ((1 : Int32) &&& 31).toUInt32).toInt32) &&& (3 : Int32)) % (3 : Int32))), .val (.int ((((p2.toUInt32 >>> ((1 : Int32) &&& 31).toUInt32).toInt32) &&& (3 : Int32)) % (3 : Int32))), .val (.int ((p0 &&& (255 : Int32)).toUInt32.toUInt16.toUInt32.toInt32)), .val (.int ((((p0.toUInt32 >>> ((8 : Int32) &&& 31).toUInt32).toInt32) &&& (255 : Int32)).toUInt32.toUInt16.toUInt32.toInt32)), .val (.int ((p0 &&& (255 : Int32)).toUInt32.toUInt16.toUInt32.toInt32)), .val (.int ((((p0.toUInt32 >>> ((8 : Int32) &&& 31).toUInt32).toInt32) &&& (255 : Int32)).toUInt32.toUInt16.toUInt32.toInt32)), .unset, .unset, .unset, .unset, .unset, .unset] []))
          exact tail T137 wD (0 : Int32) ((((p2.toUInt32 >>> ((1 : Int32) &&& 31).toUInt32).toInt32) &&& (3 : Int32)) % (3 : Int32)) ((((p2.toUInt32 >>> ((1 : Int32) &&& 31).toUInt32).toInt32) &&& (3 : Int32)) % (3 : Int32)) ((p0 &&& (255 : Int32)).toUInt32.toUInt16.toUInt32.toInt32) ((((p0.toUInt32 >>> ((8 : Int32) &&& 31).toUInt32).toInt32) &&& (255 : Int32)).toUInt32.toUInt16.toUInt32.toInt32) ((p0 &&& (255 : Int32)).toUInt32.toUInt16.toUInt32.toInt32) ((((p0.toUInt32 >>> ((8 : Int32) &&& 31).toUInt32).toInt32) &&& (255 : Int32)).toUInt32.toUInt16.toUInt32.toInt32) X137 e137 (Or.inr rfl) ED FD (own_rem3 _) (own_rem3 _) (own_and255 _) (own_and255 _) (own_and255 _) (own_and255 _) (own_i2cn _) (own_i2cn _) (own_i2cn _) (own_i2cn _)
  ·
    refine own_st (fun tq kq => XS.ifNo X0.here hx rfl (hb hby at_3) rfl ((if0 _ _).trans (feq hc3_136).1) kq) ?_
    refine own_st (fun tq kq => XS.iconst X0.here hx rfl (hb hby at_6) kq) ?_
    refine own_st (fun tq kq => XS.goto X0.here hx rfl (pc0 := 7) (pc' := 11) rfl (hb hby at_7) (by decide) (by decide) kq) ?_
    refine own_st (fun tq kq => XS.istoreN X0.here hx rfl (hb hby at_11) rfl (l' := #[.val (.int p0), .val (.int p1), .val (.int p2), .val (.int (1 : Int32)), .unset, .unset, .unset, .unset, .unset, .unset, .unset, .unset, .unset, .unset, .unset, .unset, .unset]) rfl kq) ?_
    show own_G p e below _ (s₁.setTop (mkF m 12 #[.val (.int p0), .val (.int p1), .val (.int p2), .val (.int (1 : Int32)), .unset, .unset, .unset, .unset, .unset, .unset, .unset, .unset, .unset, .unset, .unset, .unset, .unset] []))
    refine own_st (fun tq kq => XS.iloadN X0.here hx rfl (hb hby at_12) rfl  kq) ?_
    show own_G p e below _ (s₁.setTop (mkF m 13 #[.val (.int p0), .val (.int p1), .val (.int p2), .val (.int (1 : Int32)), .unset, .unset, .unset, .unset, .unset, .unset, .unset, .unset, .unset, .unset, .unset, .unset, .unset] [(.int (1 : Int32))]))
    refine own_st (fun tq kq => XS.ifNo X0.here hx rfl (hb hby at_13) rfl ((if0 _ _).trans (feq (by decide : ¬ ((1 : Int32) = (0 : Int32)))).1) kq) ?_
    show own_G p e below _ (s₁.setTop (mkF m 16 #[.val (.int p0), .val (.int p1), .val (.int p2), .val (.int (1 : Int32)), .unset, .unset, .unset, .unset, .unset, .unset, .unset, .unset, .unset, .unset, .unset, .unset, .unset] []))
    obtain ⟨T145, X145, e145, st145⟩ := getS2 X0 hx hZ hown (host := "") (Or.inl (hw _ (List.mem_of_getElem? (i := 53) rfl))) Via.refl e0 (OS.ext (X00.keep K0 all0).2) (g := (mkF m 16 #[.val (.int p0), .val (.int p1), .val (.int p2), .val (.int (1 : Int32)), .unset, .unset, .unset, .unset, .unset, .unset, .unset, .unset, .unset, .unset, .unset, .unset, .unset] [])) rfl (hb hby at_16)
    refine own_st st145 ?_
    show own_G p e below _ (T145.setTop (mkF m 19 #[.val (.int p0), .val (.int p1), .val (.int p2), .val (.int (1 : Int32)), .unset, .unset, .unset, .unset, .unset, .unset, .unset, .unset, .unset, .unset, .unset, .unset, .unset] [(.ref wS)]))
    refine own_st (fun tq kq => XS.goto X145.here hx rfl (pc0 := 19) (pc' := 25) rfl (hb hby at_19) (by decide) (by decide) kq) ?_
    refine own_st (fun tq kq => XS.astore X145.here hx rfl (hb hby at_25) rfl rfl (l' := #[.val (.int p0), .val (.int p1), .val (.int p2), .val (.int (1 : Int32)), .val (.ref wS), .unset, .unset, .unset, .unset, .unset, .unset, .unset, .unset, .unset, .unset, .unset, .unset]) rfl kq) ?_
    refine own_st (fun tq kq => XS.iloadN X145.here hx rfl (hb hby at_27) rfl  kq) ?_
    refine own_st (fun tq kq => XS.iconst X145.here hx rfl (hb hby at_28) kq) ?_
    show own_G p e below _ (T145.setTop (mkF m 29 #[.val (.int p0), .val (.int p1), .val (.int p2), .val (.int (1 : Int32)), .val (.ref wS), .unset, .unset, .unset, .unset, .unset, .unset, .unset, .unset, .unset, .unset, .unset, .unset] [(.int (1 : Int32)), (.int p2)]))
    refine own_st (fun tq kq => XS.iushr X145.here hx rfl (hb hby at_29) rfl kq) ?_
    refine own_st (fun tq kq => XS.iconst X145.here hx rfl (hb hby at_30) kq) ?_
    refine own_st (fun tq kq => XS.iand X145.here hx rfl (hb hby at_31) rfl kq) ?_
    refine own_st (fun tq kq => XS.iconst X145.here hx rfl (hb hby at_32) kq) ?_
    show own_G p e below _ (T145.setTop (mkF m 33 #[.val (.int p0), .val (.int p1), .val (.int p2), .val (.int (1 : Int32)), .val (.ref wS), .unset, .unset, .unset, .unset, .unset, .unset, .unset, .unset, .unset, .unset, .unset, .unset] [(.int (3 : Int32)), (.int (((p2.toUInt32 >>> ((1 : Int32) &&& 31).toUInt32).toInt32) &&& (3 : Int32)))]))
    refine own_st (fun tq kq => Jvm.RoadKit.iremM (g := (mkF m 33 #[.val (.int p0), .val (.int p1), .val (.int p2), .val (.int (1 : Int32)), .val (.ref wS), .unset, .unset, .unset, .unset, .unset, .unset, .unset, .unset, .unset, .unset, .unset, .unset] [(.int (3 : Int32)), (.int (((p2.toUInt32 >>> ((1 : Int32) &&& 31).toUInt32).toInt32) &&& (3 : Int32)))])) X145 hx rfl (hb hby at_33) rfl (by decide) kq) ?_
    refine own_st (fun tq kq => XS.istore X145.here hx rfl (hb hby at_34) rfl (l' := #[.val (.int p0), .val (.int p1), .val (.int p2), .val (.int (1 : Int32)), .val (.ref wS), .val (.int ((((p2.toUInt32 >>> ((1 : Int32) &&& 31).toUInt32).toInt32) &&& (3 : Int32)) % (3 : Int32))), .unset, .unset, .unset, .unset, .unset, .unset, .unset, .unset, .unset, .unset, .unset]) rfl kq) ?_
    refine own_st (fun tq kq => XS.iloadN X145.here hx rfl (hb hby at_36) rfl  kq) ?_
    refine own_st (fun tq kq => XS.iconst X145.here hx rfl (hb hby at_37) kq) ?_
    show own_G p e below _ (T145.setTop (mkF m 38 #[.val (.int p0), .val (.int p1), .val (.int p2), .val (.int (1 : Int32)), .val (.ref wS), .val (.int ((((p2.toUInt32 >>> ((1 : Int32) &&& 31).toUInt32).toInt32) &&& (3 : Int32)) % (3 : Int32))), .unset, .unset, .unset, .unset, .unset, .unset, .unset, .unset, .unset, .unset, .unset] [(.int (3 : Int32)), (.int p2)]))
    refine own_st (fun tq kq => XS.iushr X145.here hx rfl (hb hby at_38) rfl kq) ?_
    refine own_st (fun tq kq => XS.iconst X145.here hx rfl (hb hby at_39) kq) ?_
    refine own_st (fun tq kq => XS.iand X145.here hx rfl (hb hby at_40) rfl kq) ?_
    refine own_st (fun tq kq => XS.iconst X145.here hx rfl (hb hby at_41) kq) ?_
    show own_G p e below _ (T145.setTop (mkF m 42 #[.val (.int p0), .val (.int p1), .val (.int p2), .val (.int (1 : Int32)), .val (.ref wS), .val (.int ((((p2.toUInt32 >>> ((1 : Int32) &&& 31).toUInt32).toInt32) &&& (3 : Int32)) % (3 : Int32))), .unset, .unset, .unset, .unset, .unset, .unset, .unset, .unset, .unset, .unset, .unset] [(.int (3 : Int32)), (.int (((p2.toUInt32 >>> ((3 : Int32) &&& 31).toUInt32).toInt32) &&& (3 : Int32)))]))
    refine own_st (fun tq kq => Jvm.RoadKit.iremM (g := (mkF m 42 #[.val (.int p0), .val (.int p1), .val (.int p2), .val (.int (1 : Int32)), .val (.ref wS), .val (.int ((((p2.toUInt32 >>> ((1 : Int32) &&& 31).toUInt32).toInt32) &&& (3 : Int32)) % (3 : Int32))), .unset, .unset, .unset, .unset, .unset, .unset, .unset, .unset, .unset, .unset, .unset] [(.int (3 : Int32)), (.int (((p2.toUInt32 >>> ((3 : Int32) &&& 31).toUInt32).toInt32) &&& (3 : Int32)))])) X145 hx rfl (hb hby at_42) rfl (by decide) kq) ?_
    refine own_st (fun tq kq => XS.istore X145.here hx rfl (hb hby at_43) rfl (l' := #[.val (.int p0), .val (.int p1), .val (.int p2), .val (.int (1 : Int32)), .val (.ref wS), .val (.int ((((p2.toUInt32 >>> ((1 : Int32) &&& 31).toUInt32).toInt32) &&& (3 : Int32)) % (3 : Int32))), .val (.int ((((p2.toUInt32 >>> ((3 : Int32) &&& 31).toUInt32).toInt32) &&& (3 : Int32)) % (3 : Int32))), .unset, .unset, .unset, .unset, .unset, .unset, .unset, .unset, .unset, .unset]) rfl kq) ?_
    refine own_st (fun tq kq => XS.iloadN X145.here hx rfl (hb hby at_45) rfl  kq) ?_
    refine own_st (fun tq kq => XS.sipush X145.here hx rfl (hb hby at_46) kq) ?_
    show own_G p e below _ (T145.setTop (mkF m 49 #[.val (.int p0), .val (.int p1), .val (.int p2), .val (.int (1 : Int32)), .val (.ref wS), .val (.int ((((p2.toUInt32 >>> ((1 : Int32) &&& 31).toUInt32).toInt32) &&& (3 : Int32)) % (3 : Int32))), .val (.int ((((p2.toUInt32 >>> ((3 : Int32) &&& 31).toUInt32).toInt32) &&& (3 : Int32)) % (3 : Int32))), .unset, .unset, .unset, .unset, .unset, .unset, .unset, .unset, .unset, .unset] [(.int (128 : Int32)), (.int p2)]))
    refine own_st (fun tq kq => XS.iand X145.here hx rfl (hb hby at_49) rfl kq) ?_
    show own_G p e below _ (T145.setTop (mkF m 50 #[.val (.int p0), .val (.int p1), .val (.int p2), .val (.int (1 : Int32)), .val (.ref wS), .val (.int ((((p2.toUInt32 >>> ((1 : Int32) &&& 31).toUInt32).toInt32) &&& (3 : Int32)) % (3 : Int32))), .val (.int ((((p2.toUInt32 >>> ((3 : Int32) &&& 31).toUInt32).toInt32) &&& (3 : Int32)) % (3 : Int32))), .unset, .unset, .unset, .unset, .unset, .unset, .unset, .unset, .unset, .unset] [(.int (p2 &&& (128 : Int32)))]))
    by_cases hc50_146 : ((p2 &&& (128 : Int32)) = (0 : Int32))
    ·
      refine own_st (fun tq kq => XS.ifYes X145.here hx rfl (pc0 := 50) (pc' := 57) rfl (hb hby at_50) rfl ((if0 _ _).trans (teq hc50_146).1) (by decide) (by decide) kq) ?_
      refine own_st (fun tq kq => XS.iloadN X145.here hx rfl (hb hby at_57) rfl  kq) ?_
      refine own_st (fun tq kq => XS.sipush X145.here hx rfl (hb hby at_58) kq) ?_
      refine own_st (fun tq kq => XS.iand X145.here hx rfl (hb hby at_61) rfl kq) ?_
      show own_G p e below _ (T145.setTop (mkF m 62 #[.val (.int p0), .val (.int p1), .val (.int p2), .val (.int (1 : Int32)), .val (.ref wS), .val (.int ((((p2.toUInt32 >>> ((1 : Int32) &&& 31).toUInt32).toInt32) &&& (3 : Int32)) % (3 : Int32))), .val (.int ((((p2.toUInt32 >>> ((3 : Int32) &&& 31).toUInt32).toInt32) &&& (3 : Int32)) % (3 : Int32))), .unset, .unset, .unset, .unset, .unset, .unset, .unset, .unset, .unset, .unset] [(.int (p0 &&& (255 : Int32)))]))
      refine own_st (fun tq kq => XS.i2c X145.here hx rfl (hb hby at_62) rfl kq) ?_
      refine own_st (fun tq kq => XS.istore X145.here hx rfl (hb hby at_63) rfl (l' := #[.val (.int p0), .val (.int p1), .val (.int p2), .val (.int (1 : Int32)), .val (.ref wS), .val (.int ((((p2.toUInt32 >>> ((1 : Int32) &&& 31).toUInt32).toInt32) &&& (3 : Int32)) % (3 : Int32))), .val (.int ((((p2.toUInt32 >>> ((3 : Int32) &&& 31).toUInt32).toInt32) &&& (3 : Int32)) % (3 : Int32))), .val (.int ((p0 &&& (255 : Int32)).toUInt32.toUInt16.toUInt32.toInt32)), .unset, .unset, .unset, .unset, .unset, .unset, .unset, .unset, .unset]) rfl kq) ?_
      refine own_st (fun tq kq => XS.iloadN X145.here hx rfl (hb hby at_65) rfl  kq) ?_
      refine own_st (fun tq kq => XS.bipush X145.here hx rfl (hb hby at_66) kq) ?_
      show own_G p e below _ (T145.setTop (mkF m 68 #[.val (.int p0), .val (.int p1), .val (.int p2), .val (.int (1 : Int32)), .val (.ref wS), .val (.int ((((p2.toUInt32 >>> ((1 : Int32) &&& 31).toUInt32).toInt32) &&& (3 : Int32)) % (3 : Int32))), .val (.int ((((p2.toUInt32 >>> ((3 : Int32) &&& 31).toUInt32).toInt32) &&& (3 : Int32)) % (3 : Int32))), .val (.int ((p0 &&& (255 : Int32)).toUInt32.toUInt16.toUInt32.toInt32)), .unset, .unset, .unset, .unset, .unset, .unset, .unset, .unset, .unset] [(.int (8 : Int32)), (.int p0)]))
      refine own_st (fun tq kq => XS.iushr X145.here hx rfl (hb hby at_68) rfl kq) ?_
      refine own_st (fun tq kq => XS.sipush X145.here hx rfl (hb hby at_69) kq) ?_
      refine own_st (fun tq kq => XS.iand X145.here hx rfl (hb hby at_72) rfl kq) ?_
      refine own_st (fun tq kq => XS.i2c X145.here hx rfl (hb hby at_73) rfl kq) ?_
      show own_G p e below _ (T145.setTop (mkF m 74 #[.val (.int p0), .val (.int p1), .val (.int p2), .val (.int (1 : Int32)), .val (.ref wS), .val (.int ((((p2.toUInt32 >>> ((1 : Int32) &&& 31).toUInt32).toInt32) &&& (3 : Int32)) % (3 : Int32))), .val (.int ((((p2.toUInt32 >>> ((3 : Int32) &&& 31).toUInt32).toInt32) &&& (3 : Int32)) % (3 : Int32))), .val (.int ((p0 &&& (255 : Int32)).toUInt32.toUInt16.toUInt32.toInt32)), .unset, .unset, .unset, .unset, .unset, .unset, .unset, .unset, .unset] [(.int ((((p0.toUInt32 >>> ((8 : Int32) &&& 31).toUInt32).toInt32) &&& (255 : Int32)).toUInt32.toUInt16.toUInt32.toInt32))]))
      refine own_st (fun tq kq => XS.istore X145.here hx rfl (hb hby at_74) rfl (l' := #[.val (.int p0), .val (.int p1), .val (.int p2), .val (.int (1 : Int32)), .val (.ref wS), .val (.int ((((p2.toUInt32 >>> ((1 : Int32) &&& 31).toUInt32).toInt32) &&& (3 : Int32)) % (3 : Int32))), .val (.int ((((p2.toUInt32 >>> ((3 : Int32) &&& 31).toUInt32).toInt32) &&& (3 : Int32)) % (3 : Int32))), .val (.int ((p0 &&& (255 : Int32)).toUInt32.toUInt16.toUInt32.toInt32)), .val (.int ((((p0.toUInt32 >>> ((8 : Int32) &&& 31).toUInt32).toInt32) &&& (255 : Int32)).toUInt32.toUInt16.toUInt32.toInt32)), .unset, .unset, .unset, .unset, .unset, .unset, .unset, .unset]) rfl kq) ?_
      refine own_st (fun tq kq => XS.iloadN X145.here hx rfl (hb hby at_76) rfl  kq) ?_
      refine own_st (fun tq kq => XS.bipush X145.here hx rfl (hb hby at_77) kq) ?_
      refine own_st (fun tq kq => XS.iand X145.here hx rfl (hb hby at_79) rfl kq) ?_
      show own_G p e below _ (T145.setTop (mkF m 80 #[.val (.int p0), .val (.int p1), .val (.int p2), .val (.int (1 : Int32)), .val (.ref wS), .val (.int ((((p2.toUInt32 >>> ((1 : Int32) &&& 31).toUInt32).toInt32) &&& (3 : Int32)) % (3 : Int32))), .val (.int ((((p2.toUInt32 >>> ((3 : Int32) &&& 31).toUInt32).toInt32) &&& (3 : Int32)) % (3 : Int32))), .val (.int ((p0 &&& (255 : Int32)).toUInt32.toUInt16.toUInt32.toInt32)), .val (.int ((((p0.toUInt32 >>> ((8 : Int32) &&& 31).toUInt32).toInt32) &&& (255 : Int32)).toUInt32.toUInt16.toUInt32.toInt32)), .unset, .unset, .unset, .unset, .unset, .unset, .unset, .unset] [(.int (p2 &&& (32 : Int32)))]))
      by_cases hc80_147 : ((p2 &&& (32 : Int32)) = (0 : Int32))
      ·
        refine own_st (fun tq kq => XS.ifYes X145.here hx rfl (pc0 := 80) (pc' := 88) rfl (hb hby at_80) rfl ((if0 _ _).trans (teq hc80_147).1) (by decide) (by decide) kq) ?_
        refine own_st (fun tq kq => XS.iloadN X145.here hx rfl (hb hby at_88) rfl  kq) ?_
        refine own_st (fun tq kq => XS.sipush X145.here hx rfl (hb hby at_89) kq) ?_
        refine own_st (fun tq kq => XS.iand X145.here hx rfl (hb hby at_92) rfl kq) ?_
        show own_G p e below _ (T145.setTop (mkF m 93 #[.val (.int p0), .val (.int p1), .val (.int p2), .val (.int (1 : Int32)), .val (.ref wS), .val (.int ((((p2.toUInt32 >>> ((1 : Int32) &&& 31).toUInt32).toInt32) &&& (3 : Int32)) % (3 : Int32))), .val (.int ((((p2.toUInt32 >>> ((3 : Int32) &&& 31).toUInt32).toInt32) &&& (3 : Int32)) % (3 : Int32))), .val (.int ((p0 &&& (255 : Int32)).toUInt32.toUInt16.toUInt32.toInt32)), .val (.int ((((p0.toUInt32 >>> ((8 : Int32) &&& 31).toUInt32).toInt32) &&& (255 : Int32)).toUInt32.toUInt16.toUInt32.toInt32)), .unset, .unset, .unset, .unset, .unset, .unset, .unset, .unset] [(.int (p1 &&& (255 : Int32)))]))
        refine own_st (fun tq kq => XS.i2c X145.here hx rfl (hb hby at_93) rfl kq) ?_
        refine own_st (fun tq kq => XS.istore X145.here hx rfl (hb hby at_94) rfl (l' := #[.val (.int p0), .val (.int p1), .val (.int p2), .val (.int (1 : Int32)), .val (.ref wS), .val (.int ((((p2.toUInt32 >>> ((1 : Int32) &&& 31).toUInt32).toInt32) &&& (3 : Int32)) % (3 : Int32))), .val (.int ((((p2.toUInt32 >>> ((3 : Int32) &&& 31).toUInt32).toInt32) &&& (3 : Int32)) % (3 : Int32))), .val (.int ((p0 &&& (255 : Int32)).toUInt32.toUInt16.toUInt32.toInt32)), .val (.int ((((p0.toUInt32 >>> ((8 : Int32) &&& 31).toUInt32).toInt32) &&& (255 : Int32)).toUInt32.toUInt16.toUInt32.toInt32)), .val (.int ((p1 &&& (255 : Int32)).toUInt32.toUInt16.toUInt32.toInt32)), .unset, .unset, .unset, .unset, .unset, .unset, .unset]) rfl kq) ?_
        refine own_st (fun tq kq => XS.iloadN X145.here hx rfl (hb hby at_96) rfl  kq) ?_
        refine own_st (fun tq kq => XS.bipush X145.here hx rfl (hb hby at_97) kq) ?_
        show own_G p e below _ (T145.setTop (mkF m 99 #[.val (.int p0), .val (.int p1), .val (.int p2), .val (.int (1 : Int32)), .val (.ref wS), .val (.int ((((p2.toUInt32 >>> ((1 : Int32) &&& 31).toUInt32).toInt32) &&& (3 : Int32)) % (3 : Int32))), .val (.int ((((p2.toUInt32 >>> ((3 : Int32) &&& 31).toUInt32).toInt32) &&& (3 : Int32)) % (3 : Int32))), .val (.int ((p0 &&& (255 : Int32)).toUInt32.toUInt16.toUInt32.toInt32)), .val (.int ((((p0.toUInt32 >>> ((8 : Int32) &&& 31).toUInt32).toInt32) &&& (255 : Int32)).toUInt32.toUInt16.toUInt32.toInt32)), .val (.int ((p1 &&& (255 : Int32)).toUInt32.toUInt16.toUInt32.toInt32)), .unset, .unset, .unset, .unset, .unset, .unset, .unset] [(.int (64 : Int32)), (.int p2)]))
        refine own_st (fun tq kq => XS.iand X145.here hx rfl (hb hby at_99) rfl kq) ?_
        show own_G p e below _ (T145.setTop (mkF m 100 #[.val (.int p0), .val (.int p1), .val (.int p2), .val (.int (1 : Int32)), .val (.ref wS), .val (.int ((((p2.toUInt32 >>> ((1 : Int32) &&& 31).toUInt32).toInt32) &&& (3 : Int32)) % (3 : Int32))), .val (.int ((((p2.toUInt32 >>> ((3 : Int32) &&& 31).toUInt32).toInt32) &&& (3 : Int32)) % (3 : Int32))), .val (.int ((p0 &&& (255 : Int32)).toUInt32.toUInt16.toUInt32.toInt32)), .val (.int ((((p0.toUInt32 >>> ((8 : Int32) &&& 31).toUInt32).toInt32) &&& (255 : Int32)).toUInt32.toUInt16.toUInt32.toInt32)), .val (.int ((p1 &&& (255 : Int32)).toUInt32.toUInt16.toUInt32.toInt32)), .unset, .unset, .unset, .unset, .unset, .unset, .unset] [(.int (p2 &&& (64 : Int32)))]))
        by_cases hc100_148 : ((p2 &&& (64 : Int32)) = (0 : Int32))
        ·
          refine own_st (fun tq kq => XS.ifYes X145.here hx rfl (pc0 := 100) (pc' := 108) rfl (hb hby at_100) rfl ((if0 _ _).trans (teq hc100_148).1) (by decide) (by decide) kq) ?_
          refine own_st (fun tq kq => XS.iloadN X145.here hx rfl (hb hby at_108) rfl  kq) ?_
          refine own_st (fun tq kq => XS.bipush X145.here hx rfl (hb hby at_109) kq) ?_
          refine own_st (fun tq kq => XS.iushr X145.here hx rfl (hb hby at_111) rfl kq) ?_
          show own_G p e below _ (T145.setTop (mkF m 112 #[.val (.int p0), .val (.int p1), .val (.int p2), .val (.int (1 : Int32)), .val (.ref wS), .val (.int ((((p2.toUInt32 >>> ((1 : Int32) &&& 31).toUInt32).toInt32) &&& (3 : Int32)) % (3 : Int32))), .val (.int ((((p2.toUInt32 >>> ((3 : Int32) &&& 31).toUInt32).toInt32) &&& (3 : Int32)) % (3 : Int32))), .val (.int ((p0 &&& (255 : Int32)).toUInt32.toUInt16.toUInt32.toInt32)), .val (.int ((((p0.toUInt32 >>> ((8 : Int32) &&& 31).toUInt32).toInt32) &&& (255 : Int32)).toUInt32.toUInt16.toUInt32.toInt32)), .val (.int ((p1 &&& (255 : Int32)).toUInt32.toUInt16.toUInt32.toInt32)), .unset, .unset, .unset, .unset, .unset, .unset, .unset] [(.int ((p1.toUInt32 >>> ((8 : Int32) &&& 31).toUInt32).toInt32))]))
          refine own_st (fun tq kq => XS.sipush X145.here hx rfl (hb hby at_112) kq) ?_
          refine own_st (fun tq kq => XS.iand X145.here hx rfl (hb hby at_115) rfl kq) ?_
          refine own_st (fun tq kq => XS.i2c X145.here hx rfl (hb hby at_116) rfl kq) ?_
          refine own_st (fun tq kq => XS.istore X145.here hx rfl (hb hby at_117) rfl (l' := #[.val (.int p0), .val (.int p1), .val (.int p2), .val (.int (1 : Int32)), .val (.ref wS), .val (.int ((((p2.toUInt32 >>> ((1 : Int32) &&& 31).toUInt32).toInt32) &&& (3 : Int32)) % (3 : Int32))), .val (.int ((((p2.toUInt32 >>> ((3 : Int32) &&& 31).toUInt32).toInt32) &&& (3 : Int32)) % (3 : Int32))), .val (.int ((p0 &&& (255 : Int32)).toUInt32.toUInt16.toUInt32.toInt32)), .val (.int ((((p0.toUInt32 >>> ((8 : Int32) &&& 31).toUInt32).toInt32) &&& (255 : Int32)).toUInt32.toUInt16.toUInt32.toInt32)), .val (.int ((p1 &&& (255 : Int32)).toUInt32.toUInt16.toUInt32.toInt32)), .val (.int ((((p1.toUInt32 >>> ((8 : Int32) &&& 31).toUInt32).toInt32) &&& (255 : Int32)).toUInt32.toUInt16.toUInt32.toInt32)), .unset, .unset, .unset, .unset, .unset, .unset]) rfl kq) ?_
          show own_G p e below _ (T145.setTop (mkF m 119 #[.val (.int p0), .val (.int p1), .val (.int p2), .val (.int (1 : Int32)), .val (.ref wS), .val (.int ((((p2.toUInt32 >>> ((1 : Int32) &&& 31).toUInt32).toInt32) &&& (3 : Int32)) % (3 : Int32))), .val (.int ((((p2.toUInt32 >>> ((3 : Int32) &&& 31).toUInt32).toInt32) &&& (3 : Int32)) % (3 : Int32))), .val (.int ((p0 &&& (255 : Int32)).toUInt32.toUInt16.toUInt32.toInt32)), .val (.int ((((p0.toUInt32 >>> ((8 : Int32) &&& 31).toUInt32).toInt32) &&& (255 : Int32)).toUInt32.toUInt16.toUInt32.toInt32)), .val (.int ((p1 &&& (255 : Int32)).toUInt32.toUInt16.toUInt32.toInt32)), .val (.int ((((p1.toUInt32 >>> ((8 : Int32) &&& 31).toUInt32).toInt32) &&& (255 : Int32)).toUInt32.toUInt16.toUInt32.toInt32)), .unset, .unset, .unset, .unset, .unset, .unset] []))
          exact tail T145 wS (1 : Int32) ((((p2.toUInt32 >>> ((1 : Int32) &&& 31).toUInt32).toInt32) &&& (3 : Int32)) % (3 : Int32)) ((((p2.toUInt32 >>> ((3 : Int32) &&& 31).toUInt32).toInt32) &&& (3 : Int32)) % (3 : Int32)) ((p0 &&& (255 : Int32)).toUInt32.toUInt16.toUInt32.toInt32) ((((p0.toUInt32 >>> ((8 : Int32) &&& 31).toUInt32).toInt32) &&& (255 : Int32)).toUInt32.toUInt16.toUInt32.toInt32) ((p1 &&& (255 : Int32)).toUInt32.toUInt16.toUInt32.toInt32) ((((p1.toUInt32 >>> ((8 : Int32) &&& 31).toUInt32).toInt32) &&& (255 : Int32)).toUInt32.toUInt16.toUInt32.toInt32) X145 e145 (Or.inl rfl) ES FS (own_rem3 _) (own_rem3 _) (own_and255 _) (own_and255 _) (own_and255 _) (own_and255 _) (own_i2cn _) (own_i2cn _) (own_i2cn _) (own_i2cn _)
        ·
          refine own_st (fun tq kq => XS.ifNo X145.here hx rfl (hb hby at_100) rfl ((if0 _ _).trans (feq hc100_148).1) kq) ?_
          refine own_st (fun tq kq => XS.iload X145.here hx rfl (hb hby at_103) rfl  kq) ?_
          refine own_st (fun tq kq => XS.goto X145.here hx rfl (pc0 := 105) (pc' := 117) rfl (hb hby at_105) (by decide) (by decide) kq) ?_
          refine own_st (fun tq kq => XS.istore X145.here hx rfl (hb hby at_117) rfl (l' := #[.val (.int p0), .val (.int p1), .val (.int p2), .val (.int (1 : Int32)), .val (.ref wS), .val (.int ((((p2.toUInt32 >>> ((1 : Int32) &&& 31).toUInt32).toInt32) &&& (3 : Int32)) % (3 : Int32))), .val (.int ((((p2.toUInt32 >>> ((3 : Int32) &&& 31).toUInt32).toInt32) &&& (3 : Int32)) % (3 : Int32))), .val (.int ((p0 &&& (255 : Int32)).toUInt32.toUInt16.toUInt32.toInt32)), .val (.int ((((p0.toUInt32 >>> ((8 : Int32) &&& 31).toUInt32).toInt32) &&& (255 : Int32)).toUInt32.toUInt16.toUInt32.toInt32)), .val (.int ((p1 &&& (255 : Int32)).toUInt32.toUInt16.toUInt32.toInt32)), .val (.int ((((p0.toUInt32 >>> ((8 : Int32) &&& 31).toUInt32).toInt32) &&& (255 : Int32)).toUInt32.toUInt16.toUInt32.toInt32)), .unset, .unset, .unset, .unset, .unset, .unset]) rfl kq) ?_
          show own_G p e below _ (T145.setTop (mkF m 119 #[.val (.int p0), .val (.int p1), .val (.int p2), .val (.int (1 : Int32)), .val (.ref wS), .val (.int ((((p2.toUInt32 >>> ((1 : Int32) &&& 31).toUInt32).toInt32) &&& (3 : Int32)) % (3 : Int32))), .val (.int ((((p2.toUInt32 >>> ((3 : Int32) &&& 31).toUInt32).toInt32) &&& (3 : Int32)) % (3 : Int32))), .val (.int ((p0 &&& (255 : Int32)).toUInt32.toUInt16.toUInt32.toInt32)), .val (.int ((((p0.toUInt32 >>> ((8 : Int32) &&& 31).toUInt32).toInt32) &&& (255 : Int32)).toUInt32.toUInt16.toUInt32.toInt32)), .val (.int ((p1 &&& (255 : Int32)).toUInt32.toUInt16.toUInt32.toInt32)), .val (.int ((((p0.toUInt32 >>> ((8 : Int32) &&& 31).toUInt32).toInt32) &&& (255 : Int32)).toUInt32.toUInt16.toUInt32.toInt32)), .unset, .unset, .unset, .unset, .unset, .unset] []))
          exact tail T145 wS (1 : Int32) ((((p2.toUInt32 >>> ((1 : Int32) &&& 31).toUInt32).toInt32) &&& (3 : Int32)) % (3 : Int32)) ((((p2.toUInt32 >>> ((3 : Int32) &&& 31).toUInt32).toInt32) &&& (3 : Int32)) % (3 : Int32)) ((p0 &&& (255 : Int32)).toUInt32.toUInt16.toUInt32.toInt32) ((((p0.toUInt32 >>> ((8 : Int32) &&& 31).toUInt32).toInt32) &&& (255 : Int32)).toUInt32.toUInt16.toUInt32.toInt32) ((p1 &&& (255 : Int32)).toUInt32.toUInt16.toUInt32.toInt32) ((((p0.toUInt32 >>> ((8 : Int32) &&& 31).toUInt32).toInt32) &&& (255 : Int32)).toUInt32.toUInt16.toUInt32.toInt32) X145 e145 (Or.inl rfl) ES FS (own_rem3 _) (own_rem3 _) (own_and255 _) (own_and255 _) (own_and255 _) (own_and255 _) (own_i2cn _) (own_i2cn _) (own_i2cn _) (own_i2cn _)
      ·
        refine own_st (fun tq kq => XS.ifNo X145.here hx rfl (hb hby at_80) rfl ((if0 _ _).trans (feq hc80_147).1) kq) ?_
        refine own_st (fun tq kq => XS.iload X145.here hx rfl (hb hby at_83) rfl  kq) ?_
        refine own_st (fun tq kq => XS.goto X145.here hx rfl (pc0 := 85) (pc' := 94) rfl (hb hby at_85) (by decide) (by decide) kq) ?_
        refine own_st (fun tq kq => XS.istore X145.here hx rfl (hb hby at_94) rfl (l' := #[.val (.int p0), .val (.int p1), .val (.int p2), .val (.int (1 : Int32)), .val (.ref wS), .val (.int ((((p2.toUInt32 >>> ((1 : Int32) &&& 31).toUInt32).toInt32) &&& (3 : Int32)) % (3 : Int32))), .val (.int ((((p2.toUInt32 >>> ((3 : Int32) &&& 31).toUInt32).toInt32) &&& (3 : Int32)) % (3 : Int32))), .val (.int ((p0 &&& (255 : Int32)).toUInt32.toUInt16.toUInt32.toInt32)), .val (.int ((((p0.toUInt32 >>> ((8 : Int32) &&& 31).toUInt32).toInt32) &&& (255 : Int32)).toUInt32.toUInt16.toUInt32.toInt32)), .val (.int ((p0 &&& (255 : Int32)).toUInt32.toUInt16.toUInt32.toInt32)), .unset, .unset, .unset, .unset, .unset, .unset, .unset]) rfl kq) ?_
        show own_G p e below _ (T145.setTop (mkF m 96 #[.val (.int p0), .val (.int p1), .val (.int p2), .val (.int (1 : Int32)), .val (.ref wS), .val (.int ((((p2.toUInt32 >>> ((1 : Int32) &&& 31).toUInt32).toInt32) &&& (3 : Int32)) % (3 : Int32))), .val (.int ((((p2.toUInt32 >>> ((3 : Int32) &&& 31).toUInt32).toInt32) &&& (3 : Int32)) % (3 : Int32))), .val (.int ((p0 &&& (255 : Int32)).toUInt32.toUInt16.toUInt32.toInt32)), .val (.int ((((p0.toUInt32 >>> ((8 : Int32) &&& 31).toUInt32).toInt32) &&& (255 : Int32)).toUInt32.toUInt16.toUInt32.toInt32)), .val (.int ((p0 &&& (255 : Int32)).toUInt32.toUInt16.toUInt32.toInt32)), .unset, .unset, .unset, .unset, .unset, .unset, .unset] []))
        refine own_st (fun tq kq => XS.iloadN X145.here hx rfl (hb hby at_96) rfl  kq) ?_
        refine own_st (fun tq kq => XS.bipush X145.here hx rfl (hb hby at_97) kq) ?_
        refine own_st (fun tq kq => XS.iand X145.here hx rfl (hb hby at_99) rfl kq) ?_
        show own_G p e below _ (T145.setTop (mkF m 100 #[.val (.int p0), .val (.int p1), .val (.int p2), .val (.int (1 : Int32)), .val (.ref wS), .val (.int ((((p2.toUInt32 >>> ((1 : Int32) &&& 31).toUInt32).toInt32) &&& (3 : Int32)) % (3 : Int32))), .val (.int ((((p2.toUInt32 >>> ((3 : Int32) &&& 31).toUInt32).toInt32) &&& (3 : Int32)) % (3 : Int32))), .val (.int ((p0 &&& (255 : Int32)).toUInt32.toUInt16.toUInt32.toInt32)), .val (.int ((((p0.toUInt32 >>> ((8 : Int32) &&& 31).toUInt32).toInt32) &&& (255 : Int32)).toUInt32.toUInt16.toUInt32.toInt32)), .val (.int ((p0 &&& (255 : Int32)).toUInt32.toUInt16.toUInt32.toInt32)), .unset, .unset, .unset, .unset, .unset, .unset, .unset] [(.int (p2 &&& (64 : Int32)))]))
        by_cases hc100_149 : ((p2 &&& (64 : Int32)) = (0 : Int32))
        ·
          refine own_st (fun tq kq => XS.ifYes X145.here hx rfl (pc0 := 100) (pc' := 108) rfl (hb hby at_100) rfl ((if0 _ _).trans (teq hc100_149).1) (by decide) (by decide) kq) ?_
          refine own_st (fun tq kq => XS.iloadN X145.here hx rfl (hb hby at_108) rfl  kq) ?_
          refine own_st (fun tq kq => XS.bipush X145.here hx rfl (hb hby at_109) kq) ?_
          refine own_st (fun tq kq => XS.iushr X145.here hx rfl (hb hby at_111) rfl kq) ?_
          show own_G p e below _ (T145.setTop (mkF m 112 #[.val (.int p0), .val (.int p1), .val (.int p2), .val (.int (1 : Int32)), .val (.ref wS), .val (.int ((((p2.toUInt32 >>> ((1 : Int32) &&& 31).toUInt32).toInt32) &&& (3 : Int32)) % (3 : Int32))), .val (.int ((((p2.toUInt32 >>> ((3 : Int32) &&& 31).toUInt32).toInt32) &&& (3 : Int32)) % (3 : Int32))), .val (.int ((p0 &&& (255 : Int32)).toUInt32.toUInt16.toUInt32.toInt32)), .val (.int ((((p0.toUInt32 >>> ((8 : Int32) &&& 31).toUInt32).toInt32) &&& (255 : Int32)).toUInt32.toUInt16.toUInt32.toInt32)), .val (.int ((p0 &&& (255 : Int32)).toUInt32.toUInt16.toUInt32.toInt32)), .unset, .unset, .unset, .unset, .unset, .unset, .unset] [(.int ((p1.toUInt32 >>> ((8 : Int32) &&& 31).toUInt32).toInt32))]))
          refine own_st (fun tq kq => XS.sipush X145.here hx rfl (hb hby at_112) kq) ?_
          refine own_st (fun tq kq => XS.iand X145.here hx rfl (hb hby at_115) rfl kq) ?_
          refine own_st (fun tq kq => XS.i2c X145.here hx rfl (hb hby at_116) rfl kq) ?_
          refine own_st (fun tq kq => XS.istore X145.here hx rfl (hb hby at_117) rfl (l' := #[.val (.int p0), .val (.int p1), .val (.int p2), .val (.int (1 : Int32)), .val (.ref wS), .val (.int ((((p2.toUInt32 >>> ((1 : Int32) &&& 31).toUInt32).toInt32) &&& (3 : Int32)) % (3 : Int32))), .val (.int ((((p2.toUInt32 >>> ((3 : Int32) &&& 31).toUInt32).toInt32) &&& (3 : Int32)) % (3 : Int32))), .val (.int ((p0 &&& (255 : Int32)).toUInt32.toUInt16.toUInt32.toInt32)), .val (.int ((((p0.toUInt32 >>> ((8 : Int32) &&& 31).toUInt32).toInt32) &&& (255 : Int32)).toUInt32.toUInt16.toUInt32.toInt32)), .val (.int ((p0 &&& (255 : Int32)).toUInt32.toUInt16.toUInt32.toInt32)), .val (.int ((((p1.toUInt32 >>> ((8 : Int32) &&& 31).toUInt32).toInt32) &&& (255 : Int32)).toUInt32.toUInt16.toUInt32.toInt32)), .unset, .unset, .unset, .unset, .unset, .unset]) rfl kq) ?_
          show own_G p e below _ (T145.setTop (mkF m 119 #[.val (.int p0), .val (.int p1), .val (.int p2), .val (.int (1 : Int32)), .val (.ref wS), .val (.int ((((p2.toUInt32 >>> ((1 : Int32) &&& 31).toUInt32).toInt32) &&& (3 : Int32)) % (3 : Int32))), .val (.int ((((p2.toUInt32 >>> ((3 : Int32) &&& 31).toUInt32).toInt32) &&& (3 : Int32)) % (3 : Int32))), .val (.int ((p0 &&& (255 : Int32)).toUInt32.toUInt16.toUInt32.toInt32)), .val (.int ((((p0.toUInt32 >>> ((8 : Int32) &&& 31).toUInt32).toInt32) &&& (255 : Int32)).toUInt32.toUInt16.toUInt32.toInt32)), .val (.int ((p0 &&& (255 : Int32)).toUInt32.toUInt16.toUInt32.toInt32)), .val (.int ((((p1.toUInt32 >>> ((8 : Int32) &&& 31).toUInt32).toInt32) &&& (255 : Int32)).toUInt32.toUInt16.toUInt32.toInt32)), .unset, .unset, .unset, .unset, .unset, .unset] []))
          exact tail T145 wS (1 : Int32) ((((p2.toUInt32 >>> ((1 : Int32) &&& 31).toUInt32).toInt32) &&& (3 : Int32)) % (3 : Int32)) ((((p2.toUInt32 >>> ((3 : Int32) &&& 31).toUInt32).toInt32) &&& (3 : Int32)) % (3 : Int32)) ((p0 &&& (255 : Int32)).toUInt32.toUInt16.toUInt32.toInt32) ((((p0.toUInt32 >>> ((8 : Int32) &&& 31).toUInt32).toInt32) &&& (255 : Int32)).toUInt32.toUInt16.toUInt32.toInt32) ((p0 &&& (255 : Int32)).toUInt32.toUInt16.toUInt32.toInt32) ((((p1.toUInt32 >>> ((8 : Int32) &&& 31).toUInt32).toInt32) &&& (255 : Int32)).toUInt32.toUInt16.toUInt32.toInt32) X145 e145 (Or.inl rfl) ES FS (own_rem3 _) (own_rem3 _) (own_and255 _) (own_and255 _) (own_and255 _) (own_and255 _) (own_i2cn _) (own_i2cn _) (own_i2cn _) (own_i2cn _)
        ·
          refine own_st (fun tq kq => XS.ifNo X145.here hx rfl (hb hby at_100) rfl ((if0 _ _).trans (feq hc100_149).1) kq) ?_
          refine own_st (fun tq kq => XS.iload X145.here hx rfl (hb hby at_103) rfl  kq) ?_
          refine own_st (fun tq kq => XS.goto X145.here hx rfl (pc0 := 105) (pc' := 117) rfl (hb hby at_105) (by decide) (by decide) kq) ?_
          refine own_st (fun tq kq => XS.istore X145.here hx rfl (hb hby at_117) rfl (l' := #[.val (.int p0), .val (.int p1), .val (.int p2), .val (.int (1 : Int32)), .val (.ref wS), .val (.int ((((p2.toUInt32 >>> ((1 : Int32) &&& 31).toUInt32).toInt32) &&& (3 : Int32)) % (3 : Int32))), .val (.int ((((p2.toUInt32 >>> ((3 : Int32) &&& 31).toUInt32).toInt32) &&& (3 : Int32)) % (3 : Int32))), .val (.int ((p0 &&& (255 : Int32)).toUInt32.toUInt16.toUInt32.toInt32)), .val (.int ((((p0.toUInt32 >>> ((8 : Int32) &&& 31).toUInt32).toInt32) &&& (255 : Int32)).toUInt32.toUInt16.toUInt32.toInt32)), .val (.int ((p0 &&& (255 : Int32)).toUInt32.toUInt16.toUInt32.toInt32)), .val (.int ((((p0.toUInt32 >>> ((8 : Int32) &&& 31).toUInt32).toInt32) &&& (255 : Int32)).toUInt32.toUInt16.toUInt32.toInt32)), .unset, .unset, .unset, .unset, .unset, .unset]) rfl kq) ?_
          show own_G p e below _ (T145.setTop (mkF m 119 #[.val (.int p0), .val (.int p1), .val (.int p2), .val (.int (1 : Int32)), .val (.ref wS), .val (.int ((((p2.toUInt32 >>> ((1 : Int32) &&& 31).toUInt32).toInt32) &&& (3 : Int32)) % (3 : Int32))), .val (.int ((((p2.toUInt32 >>> ((3 : Int32) &&& 31).toUInt32).toInt32) &&& (3 : Int32)) % (3 : Int32))), .val (.int ((p0 &&& (255 : Int32)).toUInt32.toUInt16.toUInt32.toInt32)), .val (.int ((((p0.toUInt32 >>> ((8 : Int32) &&& 31).toUInt32).toInt32) &&& (255 : Int32)).toUInt32.toUInt16.toUInt32.toInt32)), .val (.int ((p0 &&& (255 : Int32)).toUInt32.toUInt16.toUInt32.toInt32)), .val (.int ((((p0.toUInt32 >>> ((8 : Int32) &&& 31).toUInt32).toInt32) &&& (255 : Int32)).toUInt32.toUInt16.toUInt32.toInt32)), .unset, .unset, .unset, .unset, .unset, .unset] []))
          exact tail T145 wS (1 : Int32) ((((p2.toUInt32 >>> ((1 : Int32) &&& 31).toUInt32).toInt32) &&& (3 : Int32)) % (3 : Int32)) ((((p2.toUInt32 >>> ((3 : Int32) &&& 31).toUInt32).toInt32) &&& (3 : Int32)) % (3 : Int32)) ((p0 &&& (255 : Int32)).toUInt32.toUInt16.toUInt32.toInt32) ((((p0.toUInt32 >>> ((8 : Int32) &&& 31).toUInt32).toInt32) &&& (255 : Int32)).toUInt32.toUInt16.toUInt32.toInt32) ((p0 &&& (255 : Int32)).toUInt32.toUInt16.toUInt32.toInt32) ((((p0.toUInt32 >>> ((8 : Int32) &&& 31).toUInt32).toInt32) &&& (255 : Int32)).toUInt32.toUInt16.toUInt32.toInt32) X145 e145 (Or.inl rfl) ES FS (own_rem3 _) (own_rem3 _) (own_and255 _) (own_and255 _) (own_and255 _) (own_and255 _) (own_i2cn _) (own_i2cn _) (own_i2cn _) (own_i2cn _)
    ·
      refine own_st (fun tq kq => XS.ifNo X145.here hx rfl (hb hby at_50) rfl ((if0 _ _).trans (feq hc50_146).1) kq) ?_
      refine own_st (fun tq kq => XS.iload X145.here hx rfl (hb hby at_53) rfl  kq) ?_
      refine own_st (fun tq kq => XS.istore X145.here hx rfl (hb hby at_55) rfl (l' := #[.val (.int p0), .val (.int p1), .val (.int p2), .val (.int (1 : Int32)), .val (.ref wS), .val (.int ((((p2.toUInt32 >>> ((1 : Int32) &&& 31).toUInt32).toInt32) &&& (3 : Int32)) % (3 : Int32))), .val (.int ((((p2.toUInt32 >>> ((1 : Int32) &&& 31).toUInt32).toInt32) &&& (3 : Int32)) % (3 : Int32))), .unset, .unset, .unset, .unset, .unset, .unset, .unset, .unset, .unset, .unset]) rfl kq) ?_
      refine own_st (fun tq kq => XS.iloadN X145.here hx rfl (hb hby at_57) rfl  kq) ?_
      show own_G p e below _ (T145.setTop (mkF m 58 #[.val (.int p0), .val (.int p1), .val (.int p2), .val (.int (1 : Int32)), .val (.ref wS), .val (.int ((((p2.toUInt32 >>> ((1 : Int32) &&& 31).toUInt32).toInt32) &&& (3 : Int32)) % (3 : Int32))), .val (.int ((((p2.toUInt32 >>> ((1 : Int32) &&& 31).toUInt32).toInt32) &&& (3 : Int32)) % (3 : Int32))), .unset, .unset, .unset, .unset, .unset, .unset, .unset, .unset, .unset, .unset] [(.int p0)]))
      refine own_st (fun tq kq => XS.sipush X145.here hx rfl (hb hby at_58) kq) ?_
      refine own_st (fun tq kq => XS.iand X145.here hx rfl (hb hby at_61) rfl kq) ?_
      refine own_st (fun tq kq => XS.i2c X145.here hx rfl (hb hby at_62) rfl kq) ?_
      refine own_st (fun tq kq => XS.istore X145.here hx rfl (hb hby at_63) rfl (l' := #[.val (.int p0), .val (.int p1), .val (.int p2), .val (.int (1 : Int32)), .val (.ref wS), .val (.int ((((p2.toUInt32 >>> ((1 : Int32) &&& 31).toUInt32).toInt32) &&& (3 : Int32)) % (3 : Int32))), .val (.int ((((p2.toUInt32 >>> ((1 : Int32) &&& 31).toUInt32).toInt32) &&& (3 : Int32)) % (3 : Int32))), .val (.int ((p0 &&& (255 : Int32)).toUInt32.toUInt16.toUInt32.toInt32)), .unset, .unset, .unset, .unset, .unset, .unset, .unset, .unset, .unset]) rfl kq) ?_
      show own_G p e below _ (T145.setTop (mkF m 65 #[.val (.int p0), .val (.int p1), .val (.int p2), .val (.int (1 : Int32)), .val (.ref wS), .val (.int ((((p2.toUInt32 >>> ((1 : Int32) &&& 31).toUInt32).toInt32) &&& (3 : Int32)) % (3 : Int32))), .val (.int ((((p2.toUInt32 >>> ((1 : Int32) &&& 31).toUInt32).toInt32) &&& (3 : Int32)) % (3 : Int32))), .val (.int ((p0 &&& (255 : Int32)).toUInt32.toUInt16.toUInt32.toInt32)), .unset, .unset, .unset, .unset, .unset, .unset, .unset, .unset, .unset] []))
      refine own_st (fun tq kq => XS.iloadN X145.here hx rfl (hb hby at_65) rfl  kq) ?_
      refine own_st (fun tq kq => XS.bipush X145.here hx rfl (hb hby at_66) kq) ?_
      refine own_st (fun tq kq => XS.iushr X145.here hx rfl (hb hby at_68) rfl kq) ?_
      refine own_st (fun tq kq => XS.sipush X145.here hx rfl (hb hby at_69) kq) ?_
      show own_G p e below _ (T145.setTop (mkF m 72 #[.val (.int p0), .val (.int p1), .val (.int p2), .val (.int (1 : Int32)), .val (.ref wS), .val (.int ((((p2.toUInt32 >>> ((1 : Int32) &&& 31).toUInt32).toInt32) &&& (3 : Int32)) % (3 : Int32))), .val (.int ((((p2.toUInt32 >>> ((1 : Int32) &&& 31).toUInt32).toInt32) &&& (3 : Int32)) % (3 : Int32))), .val (.int ((p0 &&& (255 : Int32)).toUInt32.toUInt16.toUInt32.toInt32)), .unset, .unset, .unset, .unset, .unset, .unset, .unset, .unset, .unset] [(.int (255 : Int32)), (.int ((p0.toUInt32 >>> ((8 : Int32) &&& 31).toUInt32).toInt32))]))
      refine own_st (fun tq kq => XS.iand X145.here hx rfl (hb hby at_72) rfl kq) ?_
      refine own_st (fun tq kq => XS.i2c X145.here hx rfl (hb hby at_73) rfl kq) ?_
      refine own_st (fun tq kq => XS.istore X145.here hx rfl (hb hby at_74) rfl (l' := #[.val (.int p0), .val (.int p1), .val (.int p2), .val (.int (1 : Int32)), .val (.ref wS), .val (.int ((((p2.toUInt32 >>> ((1 : Int32) &&& 31).toUInt32).toInt32) &&& (3 : Int32)) % (3 : Int32))), .val (.int ((((p2.toUInt32 >>> ((1 : Int32) &&& 31).toUInt32).toInt32) &&& (3 : Int32)) % (3 : Int32))), .val (.int ((p0 &&& (255 : Int32)).toUInt32.toUInt16.toUInt32.toInt32)), .val (.int ((((p0.toUInt32 >>> ((8 : Int32) &&& 31).toUInt32).toInt32) &&& (255 : Int32)).toUInt32.toUInt16.toUInt32.toInt32)), .unset, .unset, .unset, .unset, .unset, .unset, .unset, .unset]) rfl kq) ?_
      refine own_st (fun tq kq => XS.iloadN X145.here hx rfl (hb hby at_76) rfl  kq) ?_
      show own_G p e below _ (T145.setTop (mkF m 77 #[.val (.int p0), .val (.int p1), .val (.int p2), .val (.int (1 : Int32)), .val (.ref wS), .val (.int ((((p2.toUInt32 >>> ((1 : Int32) &&& 31).toUInt32).toInt32) &&& (3 : Int32)) % (3 : Int32))), .val (.int ((((p2.toUInt32 >>> ((1 : Int32) &&& 31).toUInt32).toInt32) &&& (3 : Int32)) % (3 : Int32))), .val (.int ((p0 &&& (255 : Int32)).toUInt32.toUInt16.toUInt32.toInt32)), .val (.int ((((p0.toUInt32 >>> ((8 : Int32) &&& 31).toUInt32).toInt32) &&& (255 : Int32)).toUInt32.toUInt16.toUInt32.toInt32)), .unset, .unset, .unset, .unset, .unset, .unset, .unset, .unset] [(.int p2)]))
      refine own_st (fun tq kq => XS.bipush X145.here hx rfl (hb hby at_77) kq) ?_
      refine own_st (fun tq kq => XS.iand X145.here hx rfl (hb hby at_79) rfl kq) ?_
      show own_G p e below _ (T145.setTop (mkF m 80 #[.val (.int p0), .val (.int p1), .val (.int p2), .val (.int (1 : Int32)), .val (.ref wS), .val (.int ((((p2.toUInt32 >>> ((1 : Int32) &&& 31).toUInt32).toInt32) &&& (3 : Int32)) % (3 : Int32))), .val (.int ((((p2.toUInt32 >>> ((1 : Int32) &&& 31).toUInt32).toInt32) &&& (3 : Int32)) % (3 : Int32))), .val (.int ((p0 &&& (255 : Int32)).toUInt32.toUInt16.toUInt32.toInt32)), .val (.int ((((p0.toUInt32 >>> ((8 : Int32) &&& 31).toUInt32).toInt32) &&& (255 : Int32)).toUInt32.toUInt16.toUInt32.toInt32)), .unset, .unset, .unset, .unset, .unset, .unset, .unset, .unset] [(.int (p2 &&& (32 : Int32)))]))
      by_cases hc80_150 : ((p2 &&& (32 : Int32)) = (0 : Int32))
      ·
        refine own_st (fun tq kq => XS.ifYes X145.here hx rfl (pc0 := 80) (pc' := 88) rfl (hb hby at_80) rfl ((if0 _ _).trans (teq hc80_150).1) (by decide) (by decide) kq) ?_
        refine own_st (fun tq kq => XS.iloadN X145.here hx rfl (hb hby at_88) rfl  kq) ?_
        refine own_st (fun tq kq => XS.sipush X145.here hx rfl (hb hby at_89) kq) ?_
        refine own_st (fun tq kq => XS.iand X145.here hx rfl (hb hby at_92) rfl kq) ?_
        show own_G p e below _ (T145.setTop (mkF m 93 #[.val (.int p0), .val (.int p1), .val (.int p2), .val (.int (1 : Int32)), .val (.ref wS), .val (.int ((((p2.toUInt32 >>> ((1 : Int32) &&& 31).toUInt32).toInt32) &&& (3 : Int32)) % (3 : Int32))), .val (.int ((((p2.toUInt32 >>> ((1 : Int32) &&& 31).toUInt32).toInt32) &&& (3 : Int32)) % (3 : Int32))), .val (.int ((p0 &&& (255 : Int32)).toUInt32.toUInt16.toUInt32.toInt32)), .val (.int ((((p0.toUInt32 >>> ((8 : Int32) &&& 31).toUInt32).toInt32) &&& (255 : Int32)).toUInt32.toUInt16.toUInt32.toInt32)), .unset, .unset, .unset, .unset, .unset, .unset, .unset, .unset] [(.int (p1 &&& (255 : Int32)))]))
        refine own_st (fun tq kq => XS.i2c X145.here hx rfl (hb hby at_93) rfl kq) ?_
        refine own_st (fun tq kq => XS.istore X145.here hx rfl (hb hby at_94) rfl (l' := #[.val (.int p0), .val (.int p1), .val (.int p2), .val (.int (1 : Int32)), .val (.ref wS), .val (.int ((((p2.toUInt32 >>> ((1 : Int32) &&& 31).toUInt32).toInt32) &&& (3 : Int32)) % (3 : Int32))), .val (.int ((((p2.toUInt32 >>> ((1 : Int32) &&& 31).toUInt32).toInt32) &&& (3 : Int32)) % (3 : Int32))), .val (.int ((p0 &&& (255 : Int32)).toUInt32.toUInt16.toUInt32.toInt32)), .val (.int ((((p0.toUInt32 >>> ((8 : Int32) &&& 31).toUInt32).toInt32) &&& (255 : Int32)).toUInt32.toUInt16.toUInt32.toInt32)), .val (.int ((p1 &&& (255 : Int32)).toUInt32.toUInt16.toUInt32.toInt32)), .unset, .unset, .unset, .unset, .unset, .unset, .unset]) rfl kq) ?_
        refine own_st (fun tq kq => XS.iloadN X145.here hx rfl (hb hby at_96) rfl  kq) ?_
        refine own_st (fun tq kq => XS.bipush X145.here hx rfl (hb hby at_97) kq) ?_
        show own_G p e below _ (T145.setTop (mkF m 99 #[.val (.int p0), .val (.int p1), .val (.int p2), .val (.int (1 : Int32)), .val (.ref wS), .val (.int ((((p2.toUInt32 >>> ((1 : Int32) &&& 31).toUInt32).toInt32) &&& (3 : Int32)) % (3 : Int32))), .val (.int ((((p2.toUInt32 >>> ((1 : Int32) &&& 31).toUInt32).toInt32) &&& (3 : Int32)) % (3 : Int32))), .val (.int ((p0 &&& (255 : Int32)).toUInt32.toUInt16.toUInt32.toInt32)), .val (.int ((((p0.toUInt32 >>> ((8 : Int32) &&& 31).toUInt32).toInt32) &&& (255 : Int32)).toUInt32.toUInt16.toUInt32.toInt32)), .val (.int ((p1 &&& (255 : Int32)).toUInt32.toUInt16.toUInt32.toInt32)), .unset, .unset, .unset, .unset, .unset, .unset, .unset] [(.int (64 : Int32)), (.int p2)]))
        refine own_st (fun tq kq => XS.iand X145.here hx rfl (hb hby at_99) rfl kq) ?_
        show own_G p e below _ (T145.setTop (mkF m 100 #[.val (.int p0), .val (.int p1), .val (.int p2), .val (.int (1 : Int32)), .val (.ref wS), .val (.int ((((p2.toUInt32 >>> ((1 : Int32) &&& 31).toUInt32).toInt32) &&& (3 : Int32)) % (3 : Int32))), .val (.int ((((p2.toUInt32 >>> ((1 : Int32) &&& 31).toUInt32).toInt32) &&& (3 : Int32)) % (3 : Int32))), .val (.int ((p0 &&& (255 : Int32)).toUInt32.toUInt16.toUInt32.toInt32)), .val (.int ((((p0.toUInt32 >>> ((8 : Int32) &&& 31).toUInt32).toInt32) &&& (255 : Int32)).toUInt32.toUInt16.toUInt32.toInt32)), .val (.int ((p1 &&& (255 : Int32)).toUInt32.toUInt16.toUInt32.toInt32)), .unset, .unset, .unset, .unset, .unset, .unset, .unset] [(.int (p2 &&& (64 : Int32)))]))
        by_cases hc100_151 : ((p2 &&& (64 : Int32)) = (0 : Int32))
        ·
          refine own_st (fun tq kq => XS.ifYes X145.here hx rfl (pc0 := 100) (pc' := 108) rfl (hb hby at_100) rfl ((if0 _ _).trans (teq hc100_151).1) (by decide) (by decide) kq) ?_
          refine own_st (fun tq kq => XS.iloadN X145.here hx rfl (hb hby at_108) rfl  kq) ?_
          refine own_st (fun tq kq => XS.bipush X145.here hx rfl (hb hby at_109) kq) ?_
          refine own_st (fun tq kq => XS.iushr X145.here hx rfl (hb hby at_111) rfl kq) ?_
          show own_G p e below _ (T145.setTop (mkF m 112 #[.val (.int p0), .val (.int p1), .val (.int p2), .val (.int (1 : Int32)), .val (.ref wS), .val (.int ((((p2.toUInt32 >>> ((1 : Int32) &&& 31).toUInt32).toInt32) &&& (3 : Int32)) % (3 : Int32))), .val (.int ((((p2.toUInt32 >>> ((1 : Int32) &&& 31).toUInt32).toInt32) &&& (3 : Int32)) % (3 : Int32))), .val (.int ((p0 &&& (255 : Int32)).toUInt32.toUInt16.toUInt32.toInt32)), .val (.int ((((p0.toUInt32 >>> ((8 : Int32) &&& 31).toUInt32).toInt32) &&& (255 : Int32)).toUInt32.toUInt16.toUInt32.toInt32)), .val (.int ((p1 &&& (255 : Int32)).toUInt32.toUInt16.toUInt32.toInt32)), .unset, .unset, .unset, .unset, .unset, .unset, .unset] [(.int ((p1.toUInt32 >>> ((8 : Int32) &&& 31).toUInt32).toInt32))]))
          refine own_st (fun tq kq => XS.sipush X145.here hx rfl (hb hby at_112) kq) ?_
          refine own_st (fun tq kq => XS.iand X145.here hx rfl (hb hby at_115) rfl kq) ?_
          refine own_st (fun tq kq => XS.i2c X145.here hx rfl (hb hby at_116) rfl kq) ?_
          refine own_st (fun tq kq => XS.istore X145.here hx rfl (hb hby at_117) rfl (l' := #[.val (.int p0), .val (.int p1), .val (.int p2), .val (.int (1 : Int32)), .val (.ref wS), .val (.int ((((p2.toUInt32 >>> ((1 : Int32) &&& 31).toUInt32).toInt32) &&& (3 : Int32)) % (3 : Int32))), .val (.int ((((p2.toUInt32 >>> ((1 : Int32) &&& 31).toUInt32).toInt32) &&& (3 : Int32)) % (3 : Int32))), .val (.int ((p0 &&& (255 : Int32)).toUInt32.toUInt16.toUInt32.toInt32)), .val (.int ((((p0.toUInt32 >>> ((8 : Int32) &&& 31).toUInt32).toInt32) &&& (255 : Int32)).toUInt32.toUInt16.toUInt32.toInt32)), .val (.int ((p1 &&& (255 : Int32)).toUInt32.toUInt16.toUInt32.toInt32)), .val (.int ((((p1.toUInt32 >>> ((8 : Int32) &&& 31).toUInt32).toInt32) &&& (255 : Int32)).toUInt32.toUInt16.toUInt32.toInt32)), .unset, .unset, .unset, .unset, .unset, .unset]) rfl kq) ?_
          show own_G p e below _ (T145.setTop (mkF m 119 #[.val (.int p0), .val (.int p1), .val (.int p2), .val (.int (1 : Int32)), .val (.ref wS), .val (.int ((((p2.toUInt32 >>> ((1 : Int32) &&& 31).toUInt32).toInt32) &&& (3 : Int32)) % (3 : Int32))), .val (.int ((((p2.toUInt32 >>> ((1 : Int32) &&& 31).toUInt32).toInt32) &&& (3 : Int32)) % (3 : Int32))), .val (.int ((p0 &&& (255 : Int32)).toUInt32.toUInt16.toUInt32.toInt32)), .val (.int ((((p0.toUInt32 >>> ((8 : Int32) &&& 31).toUInt32).toInt32) &&& (255 : Int32)).toUInt32.toUInt16.toUInt32.toInt32)), .val (.int ((p1 &&& (255 : Int32)).toUInt32.toUInt16.toUInt32.toInt32)), .val (.int ((((p1.toUInt32 >>> ((8 : Int32) &&& 31).toUInt32).toInt32) &&& (255 : Int32)).toUInt32.toUInt16.toUInt32.toInt32)), .unset, .unset, .unset, .unset, .unset, .unset] []))
          exact tail T145 wS (1 : Int32) ((((p2.toUInt32 >>> ((1 : Int32) &&& 31).toUInt32).toInt32) &&& (3 : Int32)) % (3 : Int32)) ((((p2.toUInt32 >>> ((1 : Int32) &&& 31).toUInt32).toInt32) &&& (3 : Int32)) % (3 : Int32)) ((p0 &&& (255 : Int32)).toUInt32.toUInt16.toUInt32.toInt32) ((((p0.toUInt32 >>> ((8 : Int32) &&& 31).toUInt32).toInt32) &&& (255 : Int32)).toUInt32.toUInt16.toUInt32.toInt32) ((p1 &&& (255 : Int32)).toUInt32.toUInt16.toUInt32.toInt32) ((((p1.toUInt32 >>> ((8 : Int32) &&& 31).toUInt32).toInt32) &&& (255 : Int32)).toUInt32.toUInt16.toUInt32.toInt32) X145 e145 (Or.inl rfl) ES FS (own_rem3 _) (own_rem3 _) (own_and255 _) (own_and255 _) (own_and255 _) (own_and255 _) (own_i2cn _) (own_i2cn _) (own_i2cn _) (own_i2cn _)
        ·
          refine own_st (fun tq kq => XS.ifNo X145.here hx rfl (hb hby at_100) rfl ((if0 _ _).trans (feq hc100_151).1) kq) ?_
          refine own_st (fun tq kq => XS.iload X145.here hx rfl (hb hby at_103) rfl  kq) ?_
          refine own_st (fun tq kq => XS.goto X145.here hx rfl (pc0 := 105) (pc' := 117) rfl (hb hby at_105) (by decide) (by decide) kq) ?_
          refine own_st (fun tq kq => XS.istore X145.here hx rfl (hb hby at_117) rfl (l' := #[.val (.int p0), .val (.int p1), .val (.int p2), .val (.int (1 : Int32)), .val (.ref wS), .val (.int ((((p2.toUInt32 >>> ((1 : Int32) &&& 31).toUInt32).toInt32) &&& (3 : Int32)) % (3 : Int32))), .val (.int ((((p2.toUInt32 >>> ((1 : Int32) &&& 31).toUInt32).toInt32) &&& (3 : Int32)) % (3 : Int32))), .val (.int ((p0 &&& (255 : Int32)).toUInt32.toUInt16.toUInt32.toInt32)), .val (.int ((((p0.toUInt32 >>> ((8 : Int32) &&& 31).toUInt32).toInt32) &&& (255 : Int32)).toUInt32.toUInt16.toUInt32.toInt32)), .val (.int ((p1 &&& (255 : Int32)).toUInt32.toUInt16.toUInt32.toInt32)), .val (.int ((((p0.toUInt32 >>> ((8 : Int32) &&& 31).toUInt32).toInt32) &&& (255 : Int32)).toUInt32.toUInt16.toUInt32.toInt32)), .unset, .unset, .unset, .unset, .unset, .unset]) rfl kq) ?_
          show own_G p e below _ (T145.setTop (mkF m 119 #[.val (.int p0), .val (.int p1), .val (.int p2), .val (.int (1 : Int32)), .val (.ref wS), .val (.int ((((p2.toUInt32 >>> ((1 : Int32) &&& 31).toUInt32).toInt32) &&& (3 : Int32)) % (3 : Int32))), .val (.int ((((p2.toUInt32 >>> ((1 : Int32) &&& 31).toUInt32).toInt32) &&& (3 : Int32)) % (3 : Int32))), .val (.int ((p0 &&& (255 : Int32)).toUInt32.toUInt16.toUInt32.toInt32)), .val (.int ((((p0.toUInt32 >>> ((8 : Int32) &&& 31).toUInt32).toInt32) &&& (255 : Int32)).toUInt32.toUInt16.toUInt32.toInt32)), .val (.int ((p1 &&& (255 : Int32)).toUInt32.toUInt16.toUInt32.toInt32)), .val (.int ((((p0.toUInt32 >>> ((8 : Int32) &&& 31).toUInt32).toInt32) &&& (255 : Int32)).toUInt32.toUInt16.toUInt32.toInt32)), .unset, .unset, .unset, .unset, .unset, .unset] []))
          exact tail T145 wS (1 : Int32) ((((p2.toUInt32 >>> ((1 : Int32) &&& 31).toUInt32).toInt32) &&& (3 : Int32)) % (3 : Int32)) ((((p2.toUInt32 >>> ((1 : Int32) &&& 31).toUInt32).toInt32) &&& (3 : Int32)) % (3 : Int32)) ((p0 &&& (255 : Int32)).toUInt32.toUInt16.toUInt32.toInt32) ((((p0.toUInt32 >>> ((8 : Int32) &&& 31).toUInt32).toInt32) &&& (255 : Int32)).toUInt32.toUInt16.toUInt32.toInt32) ((p1 &&& (255 : Int32)).toUInt32.toUInt16.toUInt32.toInt32) ((((p0.toUInt32 >>> ((8 : Int32) &&& 31).toUInt32).toInt32) &&& (255 : Int32)).toUInt32.toUInt16.toUInt32.toInt32) X145 e145 (Or.inl rfl) ES FS (own_rem3 _) (own_rem3 _) (own_and255 _) (own_and255 _) (own_and255 _) (own_and255 _) (own_i2cn _) (own_i2cn _) (own_i2cn _) (own_i2cn _)
      ·
        refine own_st (fun tq kq => XS.ifNo X145.here hx rfl (hb hby at_80) rfl ((if0 _ _).trans (feq hc80_150).1) kq) ?_
        refine own_st (fun tq kq => XS.iload X145.here hx rfl (hb hby at_83) rfl  kq) ?_
        refine own_st (fun tq kq => XS.goto X145.here hx rfl (pc0 := 85) (pc' := 94) rfl (hb hby at_85) (by decide) (by decide) kq) ?_
        refine own_st (fun tq kq => XS.istore X145.here hx rfl (hb hby at_94) rfl (l' := #[.val (.int p0), .val (.int p1), .val (.int p2), .val (.int (1 : Int32)), .val (.ref wS), .val (.int ((((p2.toUInt32 >>> ((1 : Int32) &&& 31).toUInt32).toInt32) &&& (3 : Int32)) % (3 : Int32))), .val (.int ((((p2.toUInt32 >>> ((1 : Int32) &&& 31).toUInt32).toInt32) &&& (3 : Int32)) % (3 : Int32))), .val (.int ((p0 &&& (255 : Int32)).toUInt32.toUInt16.toUInt32.toInt32)), .val (.int ((((p0.toUInt32 >>> ((8 : Int32) &&& 31).toUInt32).toInt32) &&& (255 : Int32)).toUInt32.toUInt16.toUInt32.toInt32)), .val (.int ((p0 &&& (255 : Int32)).toUInt32.toUInt16.toUInt32.toInt32)), .unset, .unset, .unset, .unset, .unset, .unset, .unset]) rfl kq) ?_
        show own_G p e below _ (T145.setTop (mkF m 96 #[.val (.int p0), .val (.int p1), .val (.int p2), .val (.int (1 : Int32)), .val (.ref wS), .val (.int ((((p2.toUInt32 >>> ((1 : Int32) &&& 31).toUInt32).toInt32) &&& (3 : Int32)) % (3 : Int32))), .val (.int ((((p2.toUInt32 >>> ((1 : Int32) &&& 31).toUInt32).toInt32) &&& (3 : Int32)) % (3 : Int32))), .val (.int ((p0 &&& (255 : Int32)).toUInt32.toUInt16.toUInt32.toInt32)), .val (.int ((((p0.toUInt32 >>> ((8 : Int32) &&& 31).toUInt32).toInt32) &&& (255 : Int32)).toUInt32.toUInt16.toUInt32.toInt32)), .val (.int ((p0 &&& (255 : Int32)).toUInt32.toUInt16.toUInt32.toInt32)), .unset, .unset, .unset, .unset, .unset, .unset, .unset] []))
        refine own_st (fun tq kq => XS.iloadN X145.here hx rfl (hb hby at_96) rfl  kq) ?_
        refine own_st (fun tq kq => XS.bipush X145.here hx rfl (hb hby at_97) kq) ?_
        refine own_st (fun tq kq => XS.iand X145.here hx rfl (hb hby at_99) rfl kq) ?_
        show own_G p e below _ (T145.setTop (mkF m 100 #[.val (.int p0), .val (.int p1), .val (.int p2), .val (.int (1 : Int32)), .val (.ref wS), .val (.int ((((p2.toUInt32 >>> ((1 : Int32) &&& 31).toUInt32).toInt32) &&& (3 : Int32)) % (3 : Int32))), .val (.int ((((p2.toUInt32 >>> ((1 : Int32) &&& 31).toUInt32).toInt32) &&& (3 : Int32)) % (3 : Int32))), .val (.int ((p0 &&& (255 : Int32)).toUInt32.toUInt16.toUInt32.toInt32)), .val (.int ((((p0.toUInt32 >>> ((8 : Int32) &&& 31).toUInt32).toInt32) &&& (255 : Int32)).toUInt32.toUInt16.toUInt32.toInt32)), .val (.int ((p0 &&& (255 : Int32)).toUInt32.toUInt16.toUInt32.toInt32)), .unset, .unset, .unset, .unset, .unset, .unset, .unset] [(.int (p2 &&& (64 : Int32)))]))
        by_cases hc100_152 : ((p2 &&& (64 : Int32)) = (0 : Int32))
        ·
          refine own_st (fun tq kq => XS.ifYes X145.here hx rfl (pc0 := 100) (pc' := 108) rfl (hb hby at_100) rfl ((if0 _ _).trans (teq hc100_152).1) (by decide) (by decide) kq) ?_
          refine own_st (fun tq kq => XS.iloadN X145.here hx rfl (hb hby at_108) rfl  kq) ?_
          refine own_st (fun tq kq => XS.bipush X145.here hx rfl (hb hby at_109) kq) ?_
          refine own_st (fun tq kq => XS.iushr X145.here hx rfl (hb hby at_111) rfl kq) ?_
          show own_G p e below _ (T145.setTop (mkF m 112 #[.val (.int p0), .val (.int p1), .val (.int p2), .val (.int (1 : Int32)), .val (.ref wS), .val (.int ((((p2.toUInt32 >>> ((1 : Int32) &&& 31).toUInt32).toInt32) &&& (3 : Int32)) % (3 : Int32))), .val (.int ((((p2.toUInt32 >>> ((1 : Int32) &&& 31).toUInt32).toInt32) &&& (3 : Int32)) % (3 : Int32))), .val (.int ((p0 &&& (255 : Int32)).toUInt32.toUInt16.toUInt32.toInt32)), .val (.int ((((p0.toUInt32 >>> ((8 : Int32) &&& 31).toUInt32).toInt32) &&& (255 : Int32)).toUInt32.toUInt16.toUInt32.toInt32)), .val (.int ((p0 &&& (255 : Int32)).toUInt32.toUInt16.toUInt32.toInt32)), .unset, .unset, .unset, .unset, .unset, .unset, .unset] [(.int ((p1.toUInt32 >>> ((8 : Int32) &&& 31).toUInt32).toInt32))]))
          refine own_st (fun tq kq => XS.sipush X145.here hx rfl (hb hby at_112) kq) ?_
          refine own_st (fun tq kq => XS.iand X145.here hx rfl (hb hby at_115) rfl kq) ?_
          refine own_st (fun tq kq => XS.i2c X145.here hx rfl (hb hby at_116) rfl kq) ?_
          refine own_st (fun tq kq => XS.istore X145.here hx rfl (hb hby at_117) rfl (l' := #[.val (.int p0), .val (.int p1), .val (.int p2), .val (.int (1 : Int32)), .val (.ref wS), .val (.int ((((p2.toUInt32 >>> ((1 : Int32) &&& 31).toUInt32).toInt32) &&& (3 : Int32)) % (3 : Int32))), .val (.int ((((p2.toUInt32 >>> ((1 : Int32) &&& 31).toUInt32).toInt32) &&& (3 : Int32)) % (3 : Int32))), .val (.int ((p0 &&& (255 : Int32)).toUInt32.toUInt16.toUInt32.toInt32)), .val (.int ((((p0.toUInt32 >>> ((8 : Int32) &&& 31).toUInt32).toInt32) &&& (255 : Int32)).toUInt32.toUInt16.toUInt32.toInt32)), .val (.int ((p0 &&& (255 : Int32)).toUInt32.toUInt16.toUInt32.toInt32)), .val (.int ((((p1.toUInt32 >>> ((8 : Int32) &&& 31).toUInt32).toInt32) &&& (255 : Int32)).toUInt32.toUInt16.toUInt32.toInt32)), .unset, .unset, .unset, .unset, .unset, .unset]) rfl kq) ?_
          show own_G p e below _ (T145.setTop (mkF m 119 #[.val (.int p0), .val (.int p1), .val (.int p2), .val (.int (1 : Int32)), .val (.ref wS), .val (.int ((((p2.toUInt32 >>> ((1 : Int32) &&& 31).toUInt32).toInt32) &&& (3 : Int32)) % (3 : Int32))), .val (.int ((((p2.toUInt32 >>> ((1 : Int32) &&& 31).toUInt32).toInt32) &&& (3 : Int32)) % (3 : Int32))), .val (.int ((p0 &&& (255 : Int32)).toUInt32.toUInt16.toUInt32.toInt32)), .val (.int ((((p0.toUInt32 >>> ((8 : Int32) &&& 31).toUInt32).toInt32) &&& (255 : Int32)).toUInt32.toUInt16.toUInt32.toInt32)), .val (.int ((p0 &&& (255 : Int32)).toUInt32.toUInt16.toUInt32.toInt32)), .val (.int ((((p1.toUInt32 >>> ((8 : Int32) &&& 31).toUInt32).toInt32) &&& (255 : Int32)).toUInt32.toUInt16.toUInt32.toInt32)), .unset, .unset, .unset, .unset, .unset, .unset] []))
          exact tail T145 wS (1 : Int32) ((((p2.toUInt32 >>> ((1 : Int32) &&& 31).toUInt32).toInt32) &&& (3 : Int32)) % (3 : Int32)) ((((p2.toUInt32 >>> ((1 : Int32) &&& 31).toUInt32).toInt32) &&& (3 : Int32)) % (3 : Int32)) ((p0 &&& (255 : Int32)).toUInt32.toUInt16.toUInt32.toInt32) ((((p0.toUInt32 >>> ((8 : Int32) &&& 31).toUInt32).toInt32) &&& (255 : Int32)).toUInt32.toUInt16.toUInt32.toInt32) ((p0 &&& (255 : Int32)).toUInt32.toUInt16.toUInt32.toInt32) ((((p1.toUInt32 >>> ((8 : Int32) &&& 31).toUInt32).toInt32) &&& (255 : Int32)).toUInt32.toUInt16.toUInt32.toInt32) X145 e145 (Or.inl rfl) ES FS (own_rem3 _) (own_rem3 _) (own_and255 _) (own_and255 _) (own_and255 _) (own_and255 _) (own_i2cn _) (own_i2cn _) (own_i2cn _) (own_i2cn _)
        ·
          refine own_st (fun tq kq => XS.ifNo X145.here hx rfl (hb hby at_100) rfl ((if0 _ _).trans (feq hc100_152).1) kq) ?_
          refine own_st (fun tq kq => XS.iload X145.here hx rfl (hb hby at_103) rfl  kq) ?_
          refine own_st (fun tq kq => XS.goto X145.here hx rfl (pc0 := 105) (pc' := 117) rfl (hb hby at_105) (by decide) (by decide) kq) ?_
          refine own_st (fun tq kq => XS.istore X145.here hx rfl (hb hby at_117) rfl (l' := #[.val (.int p0), .val (.int p1), .val (.int p2), .val (.int (1 : Int32)), .val (.ref wS), .val (.int ((((p2.toUInt32 >>> ((1 : Int32) &&& 31).toUInt32).toInt32) &&& (3 : Int32)) % (3 : Int32))), .val (.int ((((p2.toUInt32 >>> ((1 : Int32) &&& 31).toUInt32).toInt32) &&& (3 : Int32)) % (3 : Int32))), .val (.int ((p0 &&& (255 : Int32)).toUInt32.toUInt16.toUInt32.toInt32)), .val (.int ((((p0.toUInt32 >>> ((8 : Int32) &&& 31).toUInt32).toInt32) &&& (255 : Int32)).toUInt32.toUInt16.toUInt32.toInt32)), .val (.int ((p0 &&& (255 : Int32)).toUInt32.toUInt16.toUInt32.toInt32)), .val (.int ((((p0.toUInt32 >>> ((8 : Int32) &&& 31).toUInt32).toInt32) &&& (255 : Int32)).toUInt32.toUInt16.toUInt32.toInt32)), .unset, .unset, .unset, .unset, .unset, .unset]) rfl kq) ?_
          show own_G p e below _ (T145.setTop (mkF m 119 #[.val (.int p0), .val (.int p1), .val (.int p2), .val (.int (1 : Int32)), .val (.ref wS), .val (.int ((((p2.toUInt32 >>> ((1 : Int32) &&& 31).toUInt32).toInt32) &&& (3 : Int32)) % (3 : Int32))), .val (.int ((((p2.toUInt32 >>> ((1 : Int32) &&& 31).toUInt32).toInt32) &&& (3 : Int32)) % (3 : Int32))), .val (.int ((p0 &&& (255 : Int32)).toUInt32.toUInt16.toUInt32.toInt32)), .val (.int ((((p0.toUInt32 >>> ((8 : Int32) &&& 31).toUInt32).toInt32) &&& (255 : Int32)).toUInt32.toUInt16.toUInt32.toInt32)), .val (.int ((p0 &&& (255 : Int32)).toUInt32.toUInt16.toUInt32.toInt32)), .val (.int ((((p0.toUInt32 >>> ((8 : Int32) &&& 31).toUInt32).toInt32) &&& (255 : Int32)).toUInt32.toUInt16.toUInt32.toInt32)), .unset, .unset, .unset, .unset, .unset, .unset] []))
          exact tail T145 wS (1 : Int32) ((((p2.toUInt32 >>> ((1 : Int32) &&& 31).toUInt32).toInt32) &&& (3 : Int32)) % (3 : Int32)) ((((p2.toUInt32 >>> ((1 : Int32) &&& 31).toUInt32).toInt32) &&& (3 : Int32)) % (3 : Int32)) ((p0 &&& (255 : Int32)).toUInt32.toUInt16.toUInt32.toInt32) ((((p0.toUInt32 >>> ((8 : Int32) &&& 31).toUInt32).toInt32) &&& (255 : Int32)).toUInt32.toUInt16.toUInt32.toInt32) ((p0 &&& (255 : Int32)).toUInt32.toUInt16.toUInt32.toInt32) ((((p0.toUInt32 >>> ((8 : Int32) &&& 31).toUInt32).toInt32) &&& (255 : Int32)).toUInt32.toUInt16.toUInt32.toInt32) X145 e145 (Or.inl rfl) ES FS (own_rem3 _) (own_rem3 _) (own_and255 _) (own_and255 _) (own_and255 _) (own_and255 _) (own_i2cn _) (own_i2cn _) (own_i2cn _) (own_i2cn _)

set_option maxRecDepth 65536 in
set_option maxHeartbeats 40000000 in
theorem comes_1 {Post : Tables → Env → Array Value → State → Outcome → State → Prop} (hpost : ∀ tb e args s v u, (limb_1_1.after args s (.returned v) u = true ∧ limb_1_2.after args s (.returned v) u = true ∧ True) → ReturnedEndW s (.returned v) u (Jvm.fieldLocs frame_1_writes args s ++ Jvm.arrayLocs frame_1_arrays args s ++ Jvm.staticLocs frame_1_statics s) 24 1152 → Post tb e args s (.returned v) u) :
    ArmFor flags0 classFile x code maxLocals ret World_1 tables_1 room_1 Calls_1 rest_1 Pre_1 Post := by
  intro l hfl _ _ p e ha hc hk s m args below hf hA hF happ hP
  obtain ⟨hcalls, hrest, hpre⟩ := hP
  obtain ⟨-, -, -, hnamed, -, -, -, hat⟩ := (Spec.applies_iff hf).mp happ
  obtain ⟨hg, hn⟩ := and_e (Cond.before_iff.mp (show (Jvm.Cond.and given_1 narrow_1).before args s = true from hpre))
  obtain ⟨ga0, gb0⟩ := and_e hg
  obtain ⟨ga1, gb1⟩ := and_e gb0
  obtain ⟨ga2, gb2⟩ := and_e gb1
  obtain ⟨w0, w1, w2, rfl⟩ : ∃ w0 w1 w2 : Value, args = #[w0, w1, w2] := by
    have hs : args.size = 3 := by simpa [Cond.value, given_1] using ga0
    obtain ⟨L⟩ := args
    match L, hs with
    | [w0, w1, w2], _ => exact ⟨w0, w1, w2, rfl⟩
  have hw := fun d (hd : d ∈ tables_1) => atoms_spec (ws := Jvm.Cond.code x code maxLocals ret :: tables_1) hat d (List.mem_cons_of_mem _ hd)
  have hfit : Fit s := fun {y c} hc i hi => by
    obtain ⟨ha, rfl⟩ := Array.getElem?_eq_some_iff.mp hc
    have q := List.all_eq_true.mp ((Array.all_eq_true_iff_forall_mem.mp hF) _ (Array.getElem_mem ha)) i (List.mem_range.mpr hi)
    simpa [Array.getElem?_eq_getElem hi] using q
  obtain ⟨hsets, hown0⟩ := atoms_of _ (rest_1_c_eq ▸ (show rest_1_c.before _ s = true from hrest))
  have hr0 := Cond.before_iff.mp hown0
  obtain ⟨i0, ei0⟩ := is_v ga1
  obtain rfl : w0 = (.int i0) := Option.some.inj ei0
  obtain ⟨i1, ei1⟩ := is_v ga2
  obtain rfl : w1 = (.int i1) := Option.some.inj ei1
  obtain ⟨i2, ei2⟩ := is_v gb2
  obtain rfl : w2 = (.int i2) := Option.some.inj ei2
  have n5 := not_v (Cond.before_iff.mp (hsets _ (List.mem_of_getElem? (i := 2) rfl)))
  obtain ⟨iG, eG⟩ := is_v (Cond.before_iff.mp (hsets _ (List.mem_of_getElem? (i := 1) rfl)))
  have SG : Sta s s.heap "java/lang/String" "COMPACT_STRINGS" "Z" (.int iG) := Sta.start eG (Or.inl (hsets _ (List.mem_of_getElem? (i := 0) rfl)))
  have cG : ¬ (iG = (0 : Int32)) := gotF (Cond.eq_ints eG (Term.int_eval (0))) n5
  obtain ⟨nw0, hn0⟩ := and_e hn
  obtain ⟨nw1, hn1⟩ := and_e hn0
  obtain ⟨nw2, hn2⟩ := and_e hn1
  have nw3 := hn2
  obtain ⟨oD, ev_oD⟩ := exa_v nw0
  have Ex_oD : Exa s s.heap oD "com/example/veild/veild/policy/Constraint$Relation" := Exa.start ev_oD nw0
  have St_oD : Sta s s.heap "com/example/veild/veild/policy/Constraint$Relation" "DIFFERENT_USER" "Lcom/example/veild/veild/policy/Constraint$Relation;" (.ref oD) := Sta.start ev_oD (Or.inr ⟨(hw _ (List.mem_of_getElem? (i := 1) rfl)), (hw _ (List.mem_of_getElem? (i := 2) rfl))⟩)
  obtain ⟨oS, ev_oS⟩ := exa_v nw2
  have Ex_oS : Exa s s.heap oS "com/example/veild/veild/policy/Constraint$Relation" := Exa.start ev_oS nw2
  have St_oS : Sta s s.heap "com/example/veild/veild/policy/Constraint$Relation" "SAME_USER" "Lcom/example/veild/veild/policy/Constraint$Relation;" (.ref oS) := Sta.start ev_oS (Or.inr ⟨(hw _ (List.mem_of_getElem? (i := 1) rfl)), (hw _ (List.mem_of_getElem? (i := 54) rfl))⟩)
  have FD : Fld s s.heap oD "com/example/veild/veild/policy/Constraint$Relation" "same" "Z" (.int (0 : Int32)) := Fld.start (by have q := Cond.eq_int (Cond.before_iff.mpr nw1) rfl; rwa [fld_at ev_oD] at q)
  have FS : Fld s s.heap oS "com/example/veild/veild/policy/Constraint$Relation" "same" "Z" (.int (1 : Int32)) := Fld.start (by have q := Cond.eq_int (Cond.before_iff.mpr nw3) rfl; rwa [fld_at ev_oS] at q)
  have hEL : EW s _ consts_1 := (EW.cons (hw _ (List.mem_of_getElem? (i := 33) rfl)) (by decide) EW.nil)
  have hheld : ∀ p ∈ consts_1, Jvm.Lit.constHeld s p.1 p.2 := hcalls.1
  have hcw : Jvm.Lit.compactW.before _ s = true := hsets _ (List.mem_of_getElem? (i := 2) rfl)
  have hCH : CHv s consts_1 s.vm s.heap := CHv.start hEL hheld hcw (hw _ (List.mem_of_getElem? (i := 22) rfl)) (hw _ (List.mem_of_getElem? (i := 5) rfl))
  obtain ⟨n, o, h1, h2, h3, _, L, rfl, ⟨rfl, N⟩, -, hq⟩ := rm0 l s _ hw hEL tables_1 i0 i1 i2 iG oS oD s.heap s.heap.size (Nat.le_refl _) (Old.start s) SG cG St_oS St_oD Ex_oS Ex_oD FS FD p e ha hc hk s m _ below hf ((Spec.applies_iff_loose hf).mp happ).1 ⟨rfl, State.Warmed39.refl s, rfl, hCH, all0⟩ trivial
  refine ⟨n, _, h1, h2, h3, hpost _ _ _ _ _ _ ⟨Cond.after_iff.mpr rfl, Cond.after_iff.mpr (eq_i res_at (Term.int_eval (1)) rfl), trivial⟩ ⟨hq.1, hq.2.1, hq.2.2.1, (hq.2.2.2.sift fun y hy => Or.inr (N y hy)).mono (by decide) (by decide)⟩⟩
theorem main_1_1 : Claimed_1_1 := comes_1 fun _ _ _ _ _ _ h hF => ⟨h.1, hF⟩
theorem main_1_2 : Claimed_1_2 := comes_1 fun _ _ _ _ _ _ h hF => ⟨h.2.1, hF⟩
end Jvm.Pilot.@@N@@
namespace Jvm.Pilot.@@N@@
open Jvm Jvm.ClassFile Sem Op Lib Jvm.Free Jvm.Stand Jvm.Pilot.@@N@@.Jvm.D
/-! MADE BY PROGRAM (witnessworld.py) out of the Statement's table words and the real class files: 21 classes; the members and pool entries that the words name. The judged class is class 1, her method 1. -/
namespace start1
open Jvm.ClassFile
def u (s : String) : CpInfo := .utf8 (stringToUtf16 s)
/-- a pool by its gaps: so many unusable entries, then the entry; so many at the end -/
def gap : Nat → List CpInfo → List CpInfo
  | 0, r => r
  | n + 1, r => .unusable :: gap n r
def poolList (es : List (Nat × CpInfo)) (last : Nat) : List CpInfo := es.foldr (fun e r => gap e.1 (e.2 :: r)) (gap last [])
def pool (es : List (Nat × CpInfo)) (last : Nat) : Array CpInfo := ⟨poolList es last⟩
def fileOf (pool : Array CpInfo) (this : Nat) (attrs : Array Attribute := #[]) (ms : Array MethodInfo := #[]) (fl : Nat := 33) (sup : Nat := 0) (ifs : Array Nat := #[]) (fds : Array FieldInfo := #[]) : ClassFile where
  minorVersion := 0
  majorVersion := 65
  constantPool := pool
  accessFlags := fl
  thisClass := this
  superClass := sup
  interfaces := ifs
  fields := fds
  methods := ms
  attributes := attrs
def plain (name : String) (sup : Option ClassId) : Class where
  name := name
  kind := .ordinary
  loader := none
  accessFlags := 33
  super := sup
  interfaces := #[]
  cf := none
  fields := #[]
  methods := #[]
  instanceTypes := #[]
  staticTypes := #[]
  resolved := #[]
  callSites := []
  init := .initialized
  statics := none
  mirror := none

def pool0 : Array CpInfo := pool [(5, u "<init>"), (0, u "()V"), (1, .class_ 10), (1, u "java/lang/Object")] 113

def k0c0 : Code := { maxStack := 0, maxLocals := 1, code := object_method_1_code, exceptionTable := #[], attributes := #[] }
def k0m0 : Method := { name := "<init>", desc := "()V", sig := { parameters := [], returnType := none }, accessFlags := 1, code := some k0c0 }
/-- java/lang/Object -/
def k0 : Class := { plain "java/lang/Object" none with
  accessFlags := 33
  interfaces := #[]
  cf := some (fileOf pool0 8 #[] #[{ accessFlags := 1, nameIndex := 5, descriptorIndex := 6, attributes := #[] }] 33 0 #[] #[])
  fields := #[]
  methods := #[k0m0]
  instanceTypes := #[]
  staticTypes := #[]
  resolved := Array.replicate 124 none
  statics := none }

def pool1 : Array CpInfo := pool [(2, .class_ 4), (1, u "java/lang/Object"), (0, u "<init>"), (0, u "()V"), (0, .fieldref 8 9), (0, .class_ 10), (0, .nameAndType 11 12), (0, u "com/example/veild/veild/policy/Constraint$Relation"), (0, u "SAME_USER"), (0, u "Lcom/example/veild/veild/policy/Constraint$Relation;"), (0, .fieldref 8 14), (0, .nameAndType 15 12), (0, u "DIFFERENT_USER"), (0, .class_ 17), (0, u "java/lang/String"), (0, .methodref 16 19), (0, .nameAndType 5 20), (0, u "([C)V"), (0, .methodref 8 22), (0, .nameAndType 23 24), (0, u "holds"), (0, u "(Ljava/lang/String;Ljava/lang/String;)Z"), (0, .class_ 26), (0, u "com/example/veild/veild/policy/RelationHoldsPinLaw"), (2, u "law"), (0, u "(III)Z")] 9

def k1m0 : Method := { name := "<init>", desc := "()V", sig := { parameters := [], returnType := none }, accessFlags := 2, code := none }
def k1c1 : Code := { maxStack := 3, maxLocals := 17, code := code, exceptionTable := #[], attributes := #[] }
def k1m1 : Method := { name := "law", desc := "(III)Z", sig := { parameters := [.int, .int, .int], returnType := some .boolean }, accessFlags := 9, code := some k1c1 }
/-- com/example/veild/veild/policy/RelationHoldsPinLaw -/
def k1 : Class := { plain "com/example/veild/veild/policy/RelationHoldsPinLaw" (some 0) with
  accessFlags := 49
  interfaces := #[]
  cf := some (fileOf pool1 25 #[] #[{ accessFlags := 2, nameIndex := 5, descriptorIndex := 6, attributes := #[] }, { accessFlags := 9, nameIndex := 29, descriptorIndex := 30, attributes := #[] }] 49 2 #[] #[])
  fields := #[]
  methods := #[k1m0, k1m1]
  instanceTypes := #[]
  staticTypes := #[]
  resolved := Array.replicate 40 none
  statics := none }

def pool2 : Array CpInfo := pool [(1, .class_ 2), (0, u "java/lang/constant/Constable"), (0, .class_ 4), (0, u "java/lang/Object")] 6

/-- java/lang/constant/Constable -/
def k2 : Class := { plain "java/lang/constant/Constable" (some 0) with
  accessFlags := 1537
  interfaces := #[]
  cf := some (fileOf pool2 1 #[] #[] 1537 3 #[] #[])
  fields := #[]
  methods := #[]
  instanceTypes := #[]
  staticTypes := #[]
  resolved := Array.replicate 11 none
  statics := none }

def pool3 : Array CpInfo := pool [(1, .class_ 2), (0, u "java/lang/Comparable"), (0, .class_ 4), (0, u "java/lang/Object")] 7

/-- java/lang/Comparable -/
def k3 : Class := { plain "java/lang/Comparable" (some 0) with
  accessFlags := 1537
  interfaces := #[]
  cf := some (fileOf pool3 1 #[] #[] 1537 3 #[] #[])
  fields := #[]
  methods := #[]
  instanceTypes := #[]
  staticTypes := #[]
  resolved := Array.replicate 12 none
  statics := none }

def pool4 : Array CpInfo := pool [(1, .class_ 2), (0, u "java/io/Serializable"), (0, .class_ 4), (0, u "java/lang/Object")] 2

/-- java/io/Serializable -/
def k4 : Class := { plain "java/io/Serializable" (some 0) with
  accessFlags := 1537
  interfaces := #[]
  cf := some (fileOf pool4 1 #[] #[] 1537 3 #[] #[])
  fields := #[]
  methods := #[]
  instanceTypes := #[]
  staticTypes := #[]
  resolved := Array.replicate 7 none
  statics := none }

def pool5 : Array CpInfo := pool [(2, .class_ 4), (1, u "java/lang/Enum"), (0, u "name"), (0, u "Ljava/lang/String;"), (2, u "ordinal"), (0, u "I"), (1, .class_ 14), (1, u "java/lang/Object"), (4, u "hash"), (86, .class_ 108), (1, u "java/lang/Enum$EnumDesc"), (2, .class_ 112), (0, u "java/lang/constant/Constable"), (0, .class_ 114), (0, u "java/lang/Comparable"), (0, .class_ 116), (0, u "java/io/Serializable")] 87

/-- java/lang/Enum -/
def k5 : Class := { plain "java/lang/Enum" (some 0) with
  accessFlags := 1057
  interfaces := #[2, 3, 4]
  cf := some (fileOf pool5 2 #[.nestMembers #[106]] #[] 1057 12 #[111, 113, 115] #[{ accessFlags := 18, nameIndex := 5, descriptorIndex := 6, attributes := #[] }, { accessFlags := 18, nameIndex := 9, descriptorIndex := 10, attributes := #[] }, { accessFlags := 2, nameIndex := 19, descriptorIndex := 10, attributes := #[] }])
  fields := #[{ name := "name", type := (.object "java/lang/String"), accessFlags := 18, slot := 0, constantValue := 0 }, { name := "ordinal", type := .int, accessFlags := 18, slot := 1, constantValue := 0 }, { name := "hash", type := .int, accessFlags := 2, slot := 2, constantValue := 0 }]
  methods := #[]
  instanceTypes := #[(.object "java/lang/String"), .int, .int]
  staticTypes := #[]
  resolved := Array.replicate 204 none
  statics := none }

def pool6 : Array CpInfo := pool [(1, .class_ 2), (0, u "com/example/veild/veild/policy/Constraint$Relation"), (2, u "DIFFERENT_USER"), (0, u "Lcom/example/veild/veild/policy/Constraint$Relation;"), (2, u "SAME_USER"), (2, u "$VALUES"), (0, u "[Lcom/example/veild/veild/policy/Constraint$Relation;"), (6, .class_ 22), (1, u "java/lang/Enum"), (8, u "word"), (0, u "Ljava/lang/String;"), (0, .fieldref 1 34), (0, .nameAndType 35 36), (0, u "same"), (0, u "Z"), (4, .methodref 42 43), (0, .class_ 44), (0, .nameAndType 45 46), (0, u "java/lang/String"), (0, u "equals"), (0, u "(Ljava/lang/Object;)Z"), (28, u "holds"), (0, u "(Ljava/lang/String;Ljava/lang/String;)Z"), (6, .class_ 84), (0, u "com/example/veild/veild/policy/Constraint")] 2

def k6c0 : Code := { maxStack := 2, maxLocals := 3, code := prog_12_method_6_code, exceptionTable := #[], attributes := #[] }
def k6m0 : Method := { name := "holds", desc := "(Ljava/lang/String;Ljava/lang/String;)Z", sig := { parameters := [(.object "java/lang/String"), (.object "java/lang/String")], returnType := some .boolean }, accessFlags := 1, code := some k6c0 }
/-- com/example/veild/veild/policy/Constraint$Relation -/
def k6 : Class := { plain "com/example/veild/veild/policy/Constraint$Relation" (some 5) with
  accessFlags := 16433
  interfaces := #[]
  cf := some (fileOf pool6 1 #[.nestHost 83] #[{ accessFlags := 1, nameIndex := 75, descriptorIndex := 76, attributes := #[] }] 16433 20 #[] #[{ accessFlags := 16409, nameIndex := 5, descriptorIndex := 6, attributes := #[] }, { accessFlags := 16409, nameIndex := 9, descriptorIndex := 6, attributes := #[] }, { accessFlags := 18, nameIndex := 31, descriptorIndex := 32, attributes := #[] }, { accessFlags := 18, nameIndex := 35, descriptorIndex := 36, attributes := #[] }, { accessFlags := 4122, nameIndex := 12, descriptorIndex := 13, attributes := #[] }])
  fields := #[{ name := "DIFFERENT_USER", type := (.object "com/example/veild/veild/policy/Constraint$Relation"), accessFlags := 16409, slot := 0, constantValue := 0 }, { name := "SAME_USER", type := (.object "com/example/veild/veild/policy/Constraint$Relation"), accessFlags := 16409, slot := 1, constantValue := 0 }, { name := "word", type := (.object "java/lang/String"), accessFlags := 18, slot := 3, constantValue := 0 }, { name := "same", type := .boolean, accessFlags := 18, slot := 4, constantValue := 0 }, { name := "$VALUES", type := (.array (.object "com/example/veild/veild/policy/Constraint$Relation")), accessFlags := 4122, slot := 2, constantValue := 0 }]
  methods := #[k6m0]
  instanceTypes := #[(.object "java/lang/String"), .int, .int, (.object "java/lang/String"), .boolean]
  staticTypes := #[(.object "com/example/veild/veild/policy/Constraint$Relation"), (.object "com/example/veild/veild/policy/Constraint$Relation"), (.array (.object "com/example/veild/veild/policy/Constraint$Relation"))]
  resolved := Array.replicate 87 none
  statics := some 0 }

def pool7 : Array CpInfo := pool [(2, .class_ 4), (1, u "java/lang/CharSequence"), (42, .class_ 48), (0, u "java/lang/CharSequence$1CodePointIterator"), (10, .class_ 60), (0, u "java/lang/CharSequence$1CharIterator"), (5, .class_ 67), (0, u "java/lang/Object")] 63

/-- java/lang/CharSequence -/
def k7 : Class := { plain "java/lang/CharSequence" (some 0) with
  accessFlags := 1537
  interfaces := #[]
  cf := some (fileOf pool7 2 #[.nestMembers #[47, 59]] #[] 1537 66 #[] #[])
  fields := #[]
  methods := #[]
  instanceTypes := #[]
  staticTypes := #[]
  resolved := Array.replicate 131 none
  statics := none }

def pool8 : Array CpInfo := pool [(1, .class_ 2), (0, u "java/lang/constant/ConstantDesc"), (0, .class_ 4), (0, u "java/lang/Object")] 32

/-- java/lang/constant/ConstantDesc -/
def k8 : Class := { plain "java/lang/constant/ConstantDesc" (some 0) with
  accessFlags := 1537
  interfaces := #[]
  cf := some (fileOf pool8 1 #[] #[] 1537 3 #[] #[])
  fields := #[]
  methods := #[]
  instanceTypes := #[]
  staticTypes := #[]
  resolved := Array.replicate 37 none
  statics := none }

def pool9 : Array CpInfo := pool [(1, .methodref 2 3), (0, .class_ 4), (0, .nameAndType 5 6), (0, u "java/lang/Object"), (0, u "<init>"), (0, u "()V"), (0, .string 8), (0, u ""), (0, .fieldref 10 11), (0, .class_ 12), (0, .nameAndType 13 14), (0, u "java/lang/String"), (0, u "value"), (0, u "[B"), (0, .fieldref 10 16), (0, .nameAndType 17 18), (0, u "coder"), (0, u "B"), (2, u "hash"), (0, u "I"), (2, u "hashIsZero"), (0, u "Z"), (0, .methodref 10 28), (0, .nameAndType 5 29), (0, u "([CIILjava/lang/Void;)V"), (8, .fieldref 10 39), (0, .nameAndType 40 26), (0, u "COMPACT_STRINGS"), (1, .class_ 44), (1, u "java/lang/StringUTF16"), (0, u "compress"), (1, .methodref 42 48), (0, .nameAndType 49 50), (0, u "coderFromArrayLen"), (0, u "([BI)B"), (56, .class_ 109), (1, u "java/lang/StringLatin1"), (67, .methodref 42 178), (0, .nameAndType 45 179), (0, u "([CII)[B"), (361, .methodref 107 542), (0, .nameAndType 543 544), (0, u "equals"), (0, u "([B[B)Z"), (28, u "(Ljava/lang/Object;)Z"), (1, .class_ 576), (0, u "java/lang/CharSequence"), (22, u "CASE_INSENSITIVE_ORDER"), (0, u "Ljava/util/Comparator;"), (409, u "([C)V"), (90, u "serialPersistentFields"), (0, u "[Ljava/io/ObjectStreamField;"), (0, .class_ 1104), (0, u "java/lang/String$CaseInsensitiveComparator"), (1, .class_ 1107), (0, u "java/io/Serializable"), (0, .class_ 1109), (0, u "java/lang/Comparable"), (0, .class_ 1111), (0, u "java/lang/constant/Constable"), (0, .class_ 1113), (0, u "java/lang/constant/ConstantDesc"), (2, u "serialVersionUID"), (0, u "J"), (3, u "REPL"), (0, u "C"), (2, u "LATIN1"), (1, u "UTF16")] 323

def k9m0 : Method := { name := "<init>", desc := "()V", sig := { parameters := [], returnType := none }, accessFlags := 1, code := none }
def k9c1 : Code := { maxStack := 5, maxLocals := 2, code := jdk_42_method_3_code, exceptionTable := #[], attributes := #[] }
def k9m1 : Method := { name := "<init>", desc := "([C)V", sig := { parameters := [(.array .char)], returnType := none }, accessFlags := 1, code := some k9c1 }
def k9c2 : Code := { maxStack := 2, maxLocals := 3, code := jdk_42_method_66_code, exceptionTable := #[], attributes := #[] }
def k9m2 : Method := { name := "equals", desc := "(Ljava/lang/Object;)Z", sig := { parameters := [(.object "java/lang/Object")], returnType := some .boolean }, accessFlags := 1, code := some k9c2 }
def k9c3 : Code := { maxStack := 4, maxLocals := 6, code := jdk_42_method_149_code, exceptionTable := #[], attributes := #[] }
def k9m3 : Method := { name := "<init>", desc := "([CIILjava/lang/Void;)V", sig := { parameters := [(.array .char), .int, .int, (.object "java/lang/Void")], returnType := none }, accessFlags := 2, code := some k9c3 }
/-- java/lang/String -/
def k9 : Class := { plain "java/lang/String" (some 0) with
  accessFlags := 49
  interfaces := #[4, 3, 7, 2, 8]
  cf := some (fileOf pool9 10 #[.nestMembers #[1103]] #[{ accessFlags := 1, nameIndex := 5, descriptorIndex := 6, attributes := #[] }, { accessFlags := 1, nameIndex := 5, descriptorIndex := 1010, attributes := #[] }, { accessFlags := 1, nameIndex := 543, descriptorIndex := 573, attributes := #[] }, { accessFlags := 2, nameIndex := 5, descriptorIndex := 29, attributes := #[] }] 49 2 #[1106, 1108, 575, 1110, 1112] #[{ accessFlags := 18, nameIndex := 13, descriptorIndex := 14, attributes := #[] }, { accessFlags := 18, nameIndex := 17, descriptorIndex := 18, attributes := #[] }, { accessFlags := 2, nameIndex := 21, descriptorIndex := 22, attributes := #[] }, { accessFlags := 2, nameIndex := 25, descriptorIndex := 26, attributes := #[] }, { accessFlags := 26, nameIndex := 1116, descriptorIndex := 1117, attributes := #[] }, { accessFlags := 24, nameIndex := 40, descriptorIndex := 26, attributes := #[] }, { accessFlags := 26, nameIndex := 1101, descriptorIndex := 1102, attributes := #[] }, { accessFlags := 26, nameIndex := 1121, descriptorIndex := 1122, attributes := #[] }, { accessFlags := 25, nameIndex := 599, descriptorIndex := 600, attributes := #[] }, { accessFlags := 24, nameIndex := 1125, descriptorIndex := 18, attributes := #[] }, { accessFlags := 24, nameIndex := 1127, descriptorIndex := 18, attributes := #[] }])
  fields := #[{ name := "value", type := (.array .byte), accessFlags := 18, slot := 0, constantValue := 0 }, { name := "coder", type := .byte, accessFlags := 18, slot := 1, constantValue := 0 }, { name := "hash", type := .int, accessFlags := 2, slot := 2, constantValue := 0 }, { name := "hashIsZero", type := .boolean, accessFlags := 2, slot := 3, constantValue := 0 }, { name := "serialVersionUID", type := .long, accessFlags := 26, slot := 0, constantValue := 0 }, { name := "COMPACT_STRINGS", type := .boolean, accessFlags := 24, slot := 1, constantValue := 0 }, { name := "serialPersistentFields", type := (.array (.object "java/io/ObjectStreamField")), accessFlags := 26, slot := 2, constantValue := 0 }, { name := "REPL", type := .char, accessFlags := 26, slot := 3, constantValue := 0 }, { name := "CASE_INSENSITIVE_ORDER", type := (.object "java/util/Comparator"), accessFlags := 25, slot := 4, constantValue := 0 }, { name := "LATIN1", type := .byte, accessFlags := 24, slot := 5, constantValue := 0 }, { name := "UTF16", type := .byte, accessFlags := 24, slot := 6, constantValue := 0 }]
  methods := #[k9m0, k9m1, k9m2, k9m3]
  instanceTypes := #[(.array .byte), .byte, .int, .boolean]
  staticTypes := #[.long, .boolean, (.array (.object "java/io/ObjectStreamField")), .char, (.object "java/util/Comparator"), .byte, .byte]
  resolved := Array.replicate 1451 none
  statics := some 1 }

def pool10 : Array CpInfo := pool [(6, .class_ 8), (1, u "java/lang/Object"), (0, u "<init>"), (0, u "()V"), (1, .class_ 14), (1, u "java/lang/StringUTF16"), (31, u "$assertionsDisabled"), (0, u "Z"), (13, u "HI_BYTE_SHIFT"), (0, u "I"), (2, u "LO_BYTE_SHIFT"), (49, .methodref 12 116), (0, .nameAndType 117 118), (0, u "compress"), (0, u "([CI[BII)I"), (3, u "([CII)[B"), (138, u "coderFromArrayLen"), (0, u "([BI)B"), (106, .class_ 371), (1, u "java/lang/StringUTF16$LinesSpliterator"), (58, u "MAX_LENGTH"), (196, .class_ 628), (0, u "java/lang/StringUTF16$CodePointsSpliterator"), (0, .class_ 630), (0, u "java/lang/StringUTF16$CharsSpliterator")] 4

def k10m0 : Method := { name := "<init>", desc := "()V", sig := { parameters := [], returnType := none }, accessFlags := 0, code := none }
def k10c1 : Code := { maxStack := 2, maxLocals := 2, code := jdk_52_method_15_code, exceptionTable := #[], attributes := #[] }
def k10m1 : Method := { name := "coderFromArrayLen", desc := "([BI)B", sig := { parameters := [(.array .byte), .int], returnType := some .byte }, accessFlags := 8, code := some k10c1 }
def k10c2 : Code := { maxStack := 5, maxLocals := 6, code := jdk_52_method_16_code, exceptionTable := #[], attributes := #[] }
def k10m2 : Method := { name := "compress", desc := "([CII)[B", sig := { parameters := [(.array .char), .int, .int], returnType := some (.array .byte) }, accessFlags := 9, code := some k10c2 }
def k10c3 : Code := { maxStack := 3, maxLocals := 7, code := jdk_52_method_21_code, exceptionTable := #[], attributes := #[] }
def k10m3 : Method := { name := "compress", desc := "([CI[BII)I", sig := { parameters := [(.array .char), .int, (.array .byte), .int, .int], returnType := some .int }, accessFlags := 9, code := some k10c3 }
/-- java/lang/StringUTF16 -/
def k10 : Class := { plain "java/lang/StringUTF16" (some 0) with
  accessFlags := 48
  interfaces := #[]
  cf := some (fileOf pool10 12 #[.nestMembers #[627, 629, 369]] #[{ accessFlags := 0, nameIndex := 9, descriptorIndex := 10, attributes := #[] }, { accessFlags := 8, nameIndex := 261, descriptorIndex := 262, attributes := #[] }, { accessFlags := 9, nameIndex := 117, descriptorIndex := 122, attributes := #[] }, { accessFlags := 9, nameIndex := 117, descriptorIndex := 118, attributes := #[] }] 48 6 #[] #[{ accessFlags := 26, nameIndex := 61, descriptorIndex := 62, attributes := #[] }, { accessFlags := 26, nameIndex := 65, descriptorIndex := 62, attributes := #[] }, { accessFlags := 24, nameIndex := 430, descriptorIndex := 62, attributes := #[] }, { accessFlags := 4120, nameIndex := 46, descriptorIndex := 47, attributes := #[] }])
  fields := #[{ name := "HI_BYTE_SHIFT", type := .int, accessFlags := 26, slot := 0, constantValue := 0 }, { name := "LO_BYTE_SHIFT", type := .int, accessFlags := 26, slot := 1, constantValue := 0 }, { name := "MAX_LENGTH", type := .int, accessFlags := 24, slot := 2, constantValue := 0 }, { name := "$assertionsDisabled", type := .boolean, accessFlags := 4120, slot := 3, constantValue := 0 }]
  methods := #[k10m0, k10m1, k10m2, k10m3]
  instanceTypes := #[]
  staticTypes := #[.int, .int, .int, .boolean]
  resolved := Array.replicate 635 none
  statics := none }

def pool11 : Array CpInfo := pool [(4, .class_ 6), (1, u "java/lang/Object"), (0, u "<init>"), (0, u "()V"), (5, .class_ 16), (1, u "java/lang/StringLatin1"), (104, u "$assertionsDisabled"), (0, u "Z"), (98, .class_ 223), (1, u "java/lang/StringLatin1$LinesSpliterator"), (57, u "equals"), (0, u "([B[B)Z"), (107, .class_ 391), (0, u "java/lang/StringLatin1$CharsSpliterator")] 3

def k11m0 : Method := { name := "<init>", desc := "()V", sig := { parameters := [], returnType := none }, accessFlags := 0, code := none }
def k11c1 : Code := { maxStack := 3, maxLocals := 3, code := jdk_43_method_13_code, exceptionTable := #[], attributes := #[] }
def k11m1 : Method := { name := "equals", desc := "([B[B)Z", sig := { parameters := [(.array .byte), (.array .byte)], returnType := some .boolean }, accessFlags := 9, code := some k11c1 }
/-- java/lang/StringLatin1 -/
def k11 : Class := { plain "java/lang/StringLatin1" (some 0) with
  accessFlags := 48
  interfaces := #[]
  cf := some (fileOf pool11 14 #[.nestMembers #[390, 221]] #[{ accessFlags := 0, nameIndex := 7, descriptorIndex := 8, attributes := #[] }, { accessFlags := 9, nameIndex := 281, descriptorIndex := 282, attributes := #[] }] 48 4 #[] #[{ accessFlags := 4120, nameIndex := 121, descriptorIndex := 122, attributes := #[] }])
  fields := #[{ name := "$assertionsDisabled", type := .boolean, accessFlags := 4120, slot := 0, constantValue := 0 }]
  methods := #[k11m0, k11m1]
  instanceTypes := #[]
  staticTypes := #[.boolean]
  resolved := Array.replicate 395 none
  statics := none }

def pool12 : Array CpInfo := pool [(2, .class_ 4), (1, u "java/lang/Object"), (0, u "<init>"), (0, u "()V"), (17, .class_ 26), (1, u "jdk/internal/util/Preconditions"), (28, .class_ 56), (0, u "jdk/internal/util/Preconditions$4"), (57, .class_ 115), (0, u "jdk/internal/util/Preconditions$1"), (7, u "SIOOBE_FORMATTER"), (0, u "Ljava/util/function/BiFunction;"), (0, .class_ 126), (0, u "jdk/internal/util/Preconditions$2"), (3, u "AIOOBE_FORMATTER"), (0, .class_ 132), (0, u "jdk/internal/util/Preconditions$3"), (3, u "IOOBE_FORMATTER")] 57

def k12m0 : Method := { name := "<init>", desc := "()V", sig := { parameters := [], returnType := none }, accessFlags := 1, code := none }
/-- jdk/internal/util/Preconditions -/
def k12 : Class := { plain "jdk/internal/util/Preconditions" (some 0) with
  accessFlags := 33
  interfaces := #[]
  cf := some (fileOf pool12 24 #[.nestMembers #[55, 131, 125, 114]] #[{ accessFlags := 1, nameIndex := 5, descriptorIndex := 6, attributes := #[] }] 33 2 #[] #[{ accessFlags := 25, nameIndex := 123, descriptorIndex := 124, attributes := #[] }, { accessFlags := 25, nameIndex := 130, descriptorIndex := 124, attributes := #[] }, { accessFlags := 25, nameIndex := 136, descriptorIndex := 124, attributes := #[] }])
  fields := #[{ name := "SIOOBE_FORMATTER", type := (.object "java/util/function/BiFunction"), accessFlags := 25, slot := 0, constantValue := 0 }, { name := "AIOOBE_FORMATTER", type := (.object "java/util/function/BiFunction"), accessFlags := 25, slot := 1, constantValue := 0 }, { name := "IOOBE_FORMATTER", type := (.object "java/util/function/BiFunction"), accessFlags := 25, slot := 2, constantValue := 0 }]
  methods := #[k12m0]
  instanceTypes := #[]
  staticTypes := #[(.object "java/util/function/BiFunction"), (.object "java/util/function/BiFunction"), (.object "java/util/function/BiFunction")]
  resolved := Array.replicate 194 none
  statics := some 2 }

def pool13 : Array CpInfo := pool [(9, u "<init>"), (6, .class_ 18), (1, u "java/lang/Object"), (0, u "()V"), (1, .class_ 23), (1, u "jdk/internal/util/ArraysSupport"), (0, u "LOG2_ARRAY_LONG_INDEX_SCALE"), (0, u "I"), (2, u "U"), (0, u "Ljdk/internal/misc/Unsafe;"), (8, u "BIG_ENDIAN"), (0, u "Z"), (8, u "LOG2_BYTE_BIT_SIZE"), (4, u "LOG2_ARRAY_INT_INDEX_SCALE"), (54, u "JLA"), (0, u "Ljdk/internal/access/JavaLangAccess;"), (11, u "LOG2_ARRAY_BOOLEAN_INDEX_SCALE"), (9, u "LOG2_ARRAY_BYTE_INDEX_SCALE"), (5, u "LOG2_ARRAY_CHAR_INDEX_SCALE"), (5, u "LOG2_ARRAY_SHORT_INDEX_SCALE"), (18, u "LOG2_ARRAY_FLOAT_INDEX_SCALE"), (24, u "LOG2_ARRAY_DOUBLE_INDEX_SCALE"), (89, u "T_BOOLEAN"), (2, u "T_CHAR"), (1, u "T_FLOAT"), (1, u "T_DOUBLE"), (1, u "T_BYTE"), (1, u "T_SHORT"), (1, u "T_INT"), (1, u "T_LONG"), (1, u "SOFT_MAX_ARRAY_LENGTH")] 83

def k13m0 : Method := { name := "<init>", desc := "()V", sig := { parameters := [], returnType := none }, accessFlags := 2, code := none }
/-- jdk/internal/util/ArraysSupport -/
def k13 : Class := { plain "jdk/internal/util/ArraysSupport" (some 0) with
  accessFlags := 33
  interfaces := #[]
  cf := some (fileOf pool13 21 #[] #[{ accessFlags := 2, nameIndex := 9, descriptorIndex := 19, attributes := #[] }] 33 16 #[] #[{ accessFlags := 24, nameIndex := 28, descriptorIndex := 29, attributes := #[] }, { accessFlags := 26, nameIndex := 38, descriptorIndex := 39, attributes := #[] }, { accessFlags := 25, nameIndex := 121, descriptorIndex := 25, attributes := #[] }, { accessFlags := 25, nameIndex := 131, descriptorIndex := 25, attributes := #[] }, { accessFlags := 25, nameIndex := 137, descriptorIndex := 25, attributes := #[] }, { accessFlags := 25, nameIndex := 143, descriptorIndex := 25, attributes := #[] }, { accessFlags := 25, nameIndex := 53, descriptorIndex := 25, attributes := #[] }, { accessFlags := 25, nameIndex := 24, descriptorIndex := 25, attributes := #[] }, { accessFlags := 25, nameIndex := 162, descriptorIndex := 25, attributes := #[] }, { accessFlags := 25, nameIndex := 187, descriptorIndex := 25, attributes := #[] }, { accessFlags := 26, nameIndex := 48, descriptorIndex := 25, attributes := #[] }, { accessFlags := 25, nameIndex := 277, descriptorIndex := 25, attributes := #[] }, { accessFlags := 25, nameIndex := 280, descriptorIndex := 25, attributes := #[] }, { accessFlags := 25, nameIndex := 282, descriptorIndex := 25, attributes := #[] }, { accessFlags := 25, nameIndex := 284, descriptorIndex := 25, attributes := #[] }, { accessFlags := 25, nameIndex := 286, descriptorIndex := 25, attributes := #[] }, { accessFlags := 25, nameIndex := 288, descriptorIndex := 25, attributes := #[] }, { accessFlags := 25, nameIndex := 290, descriptorIndex := 25, attributes := #[] }, { accessFlags := 25, nameIndex := 292, descriptorIndex := 25, attributes := #[] }, { accessFlags := 26, nameIndex := 108, descriptorIndex := 109, attributes := #[] }, { accessFlags := 25, nameIndex := 294, descriptorIndex := 25, attributes := #[] }])
  fields := #[{ name := "U", type := (.object "jdk/internal/misc/Unsafe"), accessFlags := 24, slot := 0, constantValue := 0 }, { name := "BIG_ENDIAN", type := .boolean, accessFlags := 26, slot := 1, constantValue := 0 }, { name := "LOG2_ARRAY_BOOLEAN_INDEX_SCALE", type := .int, accessFlags := 25, slot := 2, constantValue := 0 }, { name := "LOG2_ARRAY_BYTE_INDEX_SCALE", type := .int, accessFlags := 25, slot := 3, constantValue := 0 }, { name := "LOG2_ARRAY_CHAR_INDEX_SCALE", type := .int, accessFlags := 25, slot := 4, constantValue := 0 }, { name := "LOG2_ARRAY_SHORT_INDEX_SCALE", type := .int, accessFlags := 25, slot := 5, constantValue := 0 }, { name := "LOG2_ARRAY_INT_INDEX_SCALE", type := .int, accessFlags := 25, slot := 6, constantValue := 0 }, { name := "LOG2_ARRAY_LONG_INDEX_SCALE", type := .int, accessFlags := 25, slot := 7, constantValue := 0 }, { name := "LOG2_ARRAY_FLOAT_INDEX_SCALE", type := .int, accessFlags := 25, slot := 8, constantValue := 0 }, { name := "LOG2_ARRAY_DOUBLE_INDEX_SCALE", type := .int, accessFlags := 25, slot := 9, constantValue := 0 }, { name := "LOG2_BYTE_BIT_SIZE", type := .int, accessFlags := 26, slot := 10, constantValue := 0 }, { name := "T_BOOLEAN", type := .int, accessFlags := 25, slot := 11, constantValue := 0 }, { name := "T_CHAR", type := .int, accessFlags := 25, slot := 12, constantValue := 0 }, { name := "T_FLOAT", type := .int, accessFlags := 25, slot := 13, constantValue := 0 }, { name := "T_DOUBLE", type := .int, accessFlags := 25, slot := 14, constantValue := 0 }, { name := "T_BYTE", type := .int, accessFlags := 25, slot := 15, constantValue := 0 }, { name := "T_SHORT", type := .int, accessFlags := 25, slot := 16, constantValue := 0 }, { name := "T_INT", type := .int, accessFlags := 25, slot := 17, constantValue := 0 }, { name := "T_LONG", type := .int, accessFlags := 25, slot := 18, constantValue := 0 }, { name := "JLA", type := (.object "jdk/internal/access/JavaLangAccess"), accessFlags := 26, slot := 19, constantValue := 0 }, { name := "SOFT_MAX_ARRAY_LENGTH", type := .int, accessFlags := 25, slot := 20, constantValue := 0 }]
  methods := #[k13m0]
  instanceTypes := #[]
  staticTypes := #[(.object "jdk/internal/misc/Unsafe"), .boolean, .int, .int, .int, .int, .int, .int, .int, .int, .int, .int, .int, .int, .int, .int, .int, .int, .int, (.object "jdk/internal/access/JavaLangAccess"), .int]
  resolved := Array.replicate 378 none
  statics := none }

def pool14 : Array CpInfo := pool [(1, u "java/lang/Cloneable"), (0, .class_ 1), (0, u "java/lang/Object"), (0, .class_ 3)] 3

/-- java/lang/Cloneable -/
def k14 : Class := { plain "java/lang/Cloneable" (some 0) with
  accessFlags := 1537
  interfaces := #[]
  cf := some (fileOf pool14 2 #[] #[] 1537 4 #[] #[])
  fields := #[]
  methods := #[]
  instanceTypes := #[]
  staticTypes := #[]
  resolved := Array.replicate 8 none
  statics := none }

/-- the primitive byte -/
def k15 : Class := { plain "byte" none with kind := .primitive 'B', accessFlags := 0x411 }
/-- [B -/
def k16 : Class := { plain "[B" (some 0) with kind := .array 15 .byte, interfaces := #[14, 4], accessFlags := 1041 }

/-- the primitive char -/
def k17 : Class := { plain "char" none with kind := .primitive 'C', accessFlags := 0x411 }
/-- [C -/
def k18 : Class := { plain "[C" (some 0) with kind := .array 17 .char, interfaces := #[14, 4], accessFlags := 1041 }

/-- the primitive int -/
def k19 : Class := { plain "int" none with kind := .primitive 'I', accessFlags := 0x411 }
/-- [I -/
def k20 : Class := { plain "[I" (some 0) with kind := .array 19 .int, interfaces := #[14, 4], accessFlags := 1041 }

def heap : Heap := #[{ cls := 6, slots := #[.ref 3, .ref 4, .null], vm := .statics 6 },
  { cls := 9, slots := #[.long 0, .int 1, .null, .int 0, .null, .int 0, .int 0], vm := .statics 9 },
  { cls := 12, slots := #[.null, .null, .null], vm := .statics 12 },
  { cls := 6, slots := #[.null, .int 0, .int 0, .null, .int 0], vm := .none },
  { cls := 6, slots := #[.null, .int 0, .int 0, .null, .int 1], vm := .none }]
def classes : Array Class := #[k0, k1, k2, k3, k4, k5, k6, k7, k8, k9, k10, k11, k12, k13, k14, k15, k16, k17, k18, k19, k20]
def interned : List (Array UInt16 × Addr) := []
def slotsUsed : Nat := 23
def theMethod : MethodId := ⟨1, 1⟩
def args0 : Array Value := #[.int 5, .int 7, .int 8]
def aboutOver (below : List Frame) : State where
  vm := { classes := classes, interned := interned.toArray }
  heap := heap
  slotsUsed := slotsUsed
  threads := #[{ frames := .invoking theMethod args0 :: below }]
def below0 : List Frame := [.native { method := ⟨0, 0⟩, args := #[] }]
def about1 : State := aboutOver below0
def p0 : Program := .bare "" "" ""
def e0 : Env := launch0.env 0 0 0
theorem w_frames : about1.frames = Frame.invoking theMethod args0 :: below0 := rfl
set_option maxRecDepth 65536 in
theorem w_args : argsFit about1.vm theMethod args0 = true := by decide +kernel
set_option maxRecDepth 65536 in
theorem w_heap : heapFits about1 = true := by decide +kernel
set_option maxRecDepth 65536 in
theorem w_runnable : about1.curStatus? = some .runnable := by decide +kernel
set_option maxRecDepth 65536 in
theorem w_alone : about1.alone = true := by decide +kernel
set_option maxRecDepth 65536 in
theorem w_named : about1.methodNamed? x = some theMethod := by decide +kernel
set_option maxRecDepth 65536 in
theorem w_hears : about1.hears theMethod below0 = true := by decide +kernel
set_option maxRecDepth 65536 in
theorem w_ripe : about1.ripe theMethod args0 below0 = true := by decide +kernel
theorem w_running : about1.status = .running := rfl
set_option maxRecDepth 65536 in
theorem w_room : about1.hasRoom e0.platform room_1 = true :=
  launch0.hasRoom_least _ room_1 (by decide +kernel) (by decide +kernel) (by decide +kernel) (by decide +kernel) (by decide +kernel) (by decide +kernel)
theorem allAtoms_all (ts : List Jvm.Cond) (a : Array Jvm.Value) (st : Jvm.State) : (allAtoms ts).before a st = ts.all (fun c => c.before a st) := by
  induction ts with
  | nil => rfl
  | cons c t ih =>
    show (Jvm.Cond.and c (allAtoms t)).before a st = _
    rw [Jvm.Cond.before_and, ih, List.all_cons]
def words1 : List Jvm.Cond := Jvm.Cond.code x code maxLocals ret :: tables_1
/-- a 'code' word, met by the world's own term for the bytes: nothing is compared byte by byte -/
theorem code_word {y : MethodName} {bytes : ByteArray} {mx : Nat} {rt : Option FieldType} {a : Array Value} {s : State} {m : MethodId} {meth : Method} {c : Code} (h1 : s.methodNamed? y = some m) (h2 : s.vm.method? m = some meth) (h3 : meth.code = some c) (h4 : c.code = bytes)
    (h5 : (c.maxLocals == mx && c.exceptionTable.isEmpty && decide (c.maxStack ≤ mostOperands) && decide (meth.sig.returnType = rt) && !meth.locks && decide (parseMethodDescriptor y.desc = some meth.sig)) = true) : (Jvm.Cond.code y bytes mx rt).before a s = true := by
  simp only [Bool.and_eq_true, beq_iff_eq, Bool.not_eq_true', decide_eq_true_eq] at h5
  obtain ⟨⟨⟨⟨⟨g1, g2⟩, g3⟩, g4⟩, g5⟩, g6⟩ := h5
  simp [Cond.before, Cond.holds, Cond.value, h1, h2, h3, h4, g1, g2, g3, g4, g5, g6]
def isCode : Jvm.Cond → Bool
  | .code _ _ _ _ => true
  | _ => false
theorem all_split {L : List Jvm.Cond} {P : Jvm.Cond → Bool} (h1 : L.all (fun c => isCode c || P c) = true) (h2 : ∀ c ∈ L.filter isCode, P c = true) : L.all P = true := by
  refine List.all_eq_true.mpr fun c hc => ?_
  have h := List.all_eq_true.mp h1 c hc
  rcases Bool.eq_false_or_eq_true (isCode c) with hi | hi
  · exact h2 c (List.mem_filter.mpr ⟨hc, hi⟩)
  · simpa [hi] using h
set_option maxRecDepth 65536 in
theorem w_c0 : (Jvm.Cond.code x code maxLocals ret).before args0 about1 = true := code_word (m := ⟨1, 1⟩) (meth := k1m1) (c := k1c1) (by decide +kernel) rfl rfl rfl (by decide +kernel)
set_option maxRecDepth 65536 in
theorem w_c1 : (Jvm.Cond.code ({ cls := "java/lang/String", name := "<init>", desc := "([C)V" } : Jvm.MethodName) jdk_42_method_3_code (2 : Nat) (Option.none : Option Jvm.ClassFile.FieldType)).before args0 about1 = true := code_word (m := ⟨9, 1⟩) (meth := k9m1) (c := k9c1) (by decide +kernel) rfl rfl rfl (by decide +kernel)
set_option maxRecDepth 65536 in
theorem w_c2 : (Jvm.Cond.code ({ cls := "java/lang/String", name := "<init>", desc := "([CIILjava/lang/Void;)V" } : Jvm.MethodName) jdk_42_method_149_code (6 : Nat) (Option.none : Option Jvm.ClassFile.FieldType)).before args0 about1 = true := code_word (m := ⟨9, 3⟩) (meth := k9m3) (c := k9c3) (by decide +kernel) rfl rfl rfl (by decide +kernel)
set_option maxRecDepth 65536 in
theorem w_c3 : (Jvm.Cond.code ({ cls := "java/lang/Object", name := "<init>", desc := "()V" } : Jvm.MethodName) object_method_1_code (1 : Nat) (Option.none : Option Jvm.ClassFile.FieldType)).before args0 about1 = true := code_word (m := ⟨0, 0⟩) (meth := k0m0) (c := k0c0) (by decide +kernel) rfl rfl rfl (by decide +kernel)
set_option maxRecDepth 65536 in
theorem w_c4 : (Jvm.Cond.code ({ cls := "java/lang/StringUTF16", name := "compress", desc := "([CII)[B" } : Jvm.MethodName) jdk_52_method_16_code (6 : Nat) (Option.some (Jvm.ClassFile.FieldType.array Jvm.ClassFile.FieldType.byte))).before args0 about1 = true := code_word (m := ⟨10, 2⟩) (meth := k10m2) (c := k10c2) (by decide +kernel) rfl rfl rfl (by decide +kernel)
set_option maxRecDepth 65536 in
theorem w_c5 : (Jvm.Cond.code ({ cls := "java/lang/StringUTF16", name := "compress", desc := "([CI[BII)I" } : Jvm.MethodName) jdk_52_method_21_code (7 : Nat) (Option.some Jvm.ClassFile.FieldType.int)).before args0 about1 = true := code_word (m := ⟨10, 3⟩) (meth := k10m3) (c := k10c3) (by decide +kernel) rfl rfl rfl (by decide +kernel)
set_option maxRecDepth 65536 in
theorem w_c6 : (Jvm.Cond.code ({ cls := "java/lang/StringUTF16", name := "coderFromArrayLen", desc := "([BI)B" } : Jvm.MethodName) jdk_52_method_15_code (2 : Nat) (Option.some Jvm.ClassFile.FieldType.byte)).before args0 about1 = true := code_word (m := ⟨10, 1⟩) (meth := k10m1) (c := k10c1) (by decide +kernel) rfl rfl rfl (by decide +kernel)
set_option maxRecDepth 65536 in
theorem w_c7 : (Jvm.Cond.code ({ cls := "com/example/veild/veild/policy/Constraint$Relation", name := "holds", desc := "(Ljava/lang/String;Ljava/lang/String;)Z" } : Jvm.MethodName) prog_12_method_6_code (3 : Nat) (Option.some Jvm.ClassFile.FieldType.boolean)).before args0 about1 = true := code_word (m := ⟨6, 0⟩) (meth := k6m0) (c := k6c0) (by decide +kernel) rfl rfl rfl (by decide +kernel)
set_option maxRecDepth 65536 in
theorem w_c8 : (Jvm.Cond.code ({ cls := "java/lang/String", name := "equals", desc := "(Ljava/lang/Object;)Z" } : Jvm.MethodName) jdk_42_method_66_code (3 : Nat) (Option.some Jvm.ClassFile.FieldType.boolean)).before args0 about1 = true := code_word (m := ⟨9, 2⟩) (meth := k9m2) (c := k9c2) (by decide +kernel) rfl rfl rfl (by decide +kernel)
set_option maxRecDepth 65536 in
theorem w_c9 : (Jvm.Cond.code ({ cls := "java/lang/StringLatin1", name := "equals", desc := "([B[B)Z" } : Jvm.MethodName) jdk_43_method_13_code (3 : Nat) (Option.some Jvm.ClassFile.FieldType.boolean)).before args0 about1 = true := code_word (m := ⟨11, 1⟩) (meth := k11m1) (c := k11c1) (by decide +kernel) rfl rfl rfl (by decide +kernel)
def codes1 : List Jvm.Cond := [Jvm.Cond.code x code maxLocals ret, Jvm.Cond.code ({ cls := "java/lang/String", name := "<init>", desc := "([C)V" } : Jvm.MethodName) jdk_42_method_3_code (2 : Nat) (Option.none : Option Jvm.ClassFile.FieldType), Jvm.Cond.code ({ cls := "java/lang/String", name := "<init>", desc := "([CIILjava/lang/Void;)V" } : Jvm.MethodName) jdk_42_method_149_code (6 : Nat) (Option.none : Option Jvm.ClassFile.FieldType), Jvm.Cond.code ({ cls := "java/lang/Object", name := "<init>", desc := "()V" } : Jvm.MethodName) object_method_1_code (1 : Nat) (Option.none : Option Jvm.ClassFile.FieldType), Jvm.Cond.code ({ cls := "java/lang/StringUTF16", name := "compress", desc := "([CII)[B" } : Jvm.MethodName) jdk_52_method_16_code (6 : Nat) (Option.some (Jvm.ClassFile.FieldType.array Jvm.ClassFile.FieldType.byte)), Jvm.Cond.code ({ cls := "java/lang/StringUTF16", name := "compress", desc := "([CI[BII)I" } : Jvm.MethodName) jdk_52_method_21_code (7 : Nat) (Option.some Jvm.ClassFile.FieldType.int), Jvm.Cond.code ({ cls := "java/lang/StringUTF16", name := "coderFromArrayLen", desc := "([BI)B" } : Jvm.MethodName) jdk_52_method_15_code (2 : Nat) (Option.some Jvm.ClassFile.FieldType.byte), Jvm.Cond.code ({ cls := "com/example/veild/veild/policy/Constraint$Relation", name := "holds", desc := "(Ljava/lang/String;Ljava/lang/String;)Z" } : Jvm.MethodName) prog_12_method_6_code (3 : Nat) (Option.some Jvm.ClassFile.FieldType.boolean), Jvm.Cond.code ({ cls := "java/lang/String", name := "equals", desc := "(Ljava/lang/Object;)Z" } : Jvm.MethodName) jdk_42_method_66_code (3 : Nat) (Option.some Jvm.ClassFile.FieldType.boolean), Jvm.Cond.code ({ cls := "java/lang/StringLatin1", name := "equals", desc := "([B[B)Z" } : Jvm.MethodName) jdk_43_method_13_code (3 : Nat) (Option.some Jvm.ClassFile.FieldType.boolean)]
set_option maxRecDepth 65536 in
theorem codes_eq : words1.filter isCode = codes1 := rfl
theorem w_codes : ∀ c ∈ words1.filter isCode, c.before args0 about1 = true := by
  rw [codes_eq]
  intro c hc
  simp only [codes1, List.mem_cons, List.not_mem_nil, or_false] at hc
  rcases hc with rfl | rfl | rfl | rfl | rfl | rfl | rfl | rfl | rfl | rfl
  · exact w_c0
  · exact w_c1
  · exact w_c2
  · exact w_c3
  · exact w_c4
  · exact w_c5
  · exact w_c6
  · exact w_c7
  · exact w_c8
  · exact w_c9
set_option maxRecDepth 65536 in
theorem w_t1 : (words1.take 24).all (fun c => isCode c || c.before args0 about1) = true := by decide +kernel
set_option maxRecDepth 65536 in
theorem w_t2 : ((words1.drop 24).take 24).all (fun c => isCode c || c.before args0 about1) = true := by decide +kernel
set_option maxRecDepth 65536 in
theorem w_t3 : ((words1.drop 24).drop 24).all (fun c => isCode c || c.before args0 about1) = true := by decide +kernel
theorem w_tables : (allAtoms (Jvm.Cond.code x code maxLocals ret :: tables_1)).before args0 about1 = true := by
  rw [allAtoms_all]
  show words1.all (fun c => c.before args0 about1) = true
  refine all_split ?_ w_codes
  rw [← List.take_append_drop 24 words1, List.all_append, w_t1, ← List.take_append_drop 24 (words1.drop 24), List.all_append, w_t2, w_t3]
  rfl
set_option maxRecDepth 65536 in
theorem w_rest : rest_1_c.before args0 about1 = true := by decide +kernel
set_option maxRecDepth 65536 in
theorem w_case : (Jvm.Cond.and given_1 narrow_1).before args0 about1 = true := by decide +kernel
set_option maxRecDepth 65536 in
theorem w_consts : constsHeld consts_1 about1 := Jvm.Lit.constsHeldB_iff.mp (by decide +kernel)
theorem w_applies : (headSpec (Jvm.Cond.code x code maxLocals ret :: tables_1) room_1).applies x e0.platform about1 = true :=
  (Spec.applies_iff w_frames).mpr ⟨w_running, w_runnable, w_alone, w_named, w_hears, w_ripe, w_room, w_tables⟩
theorem atStart : AtStart classFile x code maxLocals ret World_1 tables_1 room_1 Calls_1 rest_1 Pre_1 launch0 p0 e0 about1 theMethod args0 below0 :=
  ⟨lists_1, trivial, launch0.admits_env _ _ _, launch0.least_env, fairChoices_fair.cas, fairChoices_fair.clock, w_frames, w_args, w_heap, w_applies, ⟨w_consts, trivial⟩, w_rest, w_case⟩
end start1
theorem witness_1 : WitnessClaimed_1 := ⟨start1.p0, start1.e0, start1.about1, start1.theMethod, start1.args0, start1.below0, start1.atStart⟩
end Jvm.Pilot.@@N@@
