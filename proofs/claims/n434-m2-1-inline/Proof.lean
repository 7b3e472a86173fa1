import JvmDerived
import JvmDerived.Pilot.@@N@@Statement
import JvmDerived.Pilot.@@N@@Code
set_option linter.unusedVariables false
set_option linter.unusedSimpArgs false
set_option maxRecDepth 65536
set_option maxHeartbeats 40000000
/- laws to paste: Road.backV, Road.lenW, Road.chN, Road.codOf (cut by pick.py; bodies as the Statement names them) -/
namespace Jvm.Pilot.@@N@@
namespace StrChars
open Jvm Sem ClassFile Op Lib Jvm.Stand Jvm.Free.XT Jvm.Free.ALB Jvm.Free.JM Jvm.Free
open Jvm.Lib.Cold (StaticIs)
/-- a char array whose places are chars -/
def Ch (a : Addr) (A : Cell) (U : State) : Prop := Arr .char a A U ∧ Typed .char A
theorem Ch.mv {a : Addr} {A : Cell} {U U' : State} (h : Ch a A U) (hal : U.vm.Alike U'.vm) (hh : U'.heap = U.heap) : Ch a A U' := ⟨h.1.mv hal hh, h.2⟩
theorem Ch.keep {a : Addr} {A : Cell} {U U' : State} (h : Ch a A U) (hal : U.vm.Alike U'.vm) (hk : U'.heap[a]? = some A) : Ch a A U' := ⟨h.1.keep hal hk, h.2⟩
/-- what place i of a char[]'s cell holds -/
def cv (A : Cell) (i : Nat) : Int32 := match A.slots[i]? with | some (.int x) => x | _ => 0
theorem Ch.get {a : Addr} {A : Cell} {U : State} (h : Ch a A U) {i : Nat} (hi : i < A.slots.size) : A.slots[i]? = some (.int (cv A i)) := by
  have e := Array.getElem?_eq_getElem hi
  have f := h.2 i _ e
  unfold cv; rw [e]
  generalize A.slots[i] = v at f
  cases v <;> simp [fits] at f ⊢
/-- the byte that i2b leaves of a char -/
def lo8 (x : Int32) : Int32 := x.toInt8.toInt32
theorem fits_lo8 (y : Int32) : fits .byte (.int (lo8 y)) = true := by
  have h1 := y.toInt8.le_toInt
  have h2 := y.toInt8.toInt_lt
  simp only [lo8, fits, Bool.and_eq_true, decide_eq_true_eq, Int32.le_iff_toInt_le, Int8.toInt_toInt32, show (-128 : Int32).toInt = -128 from by decide, show (127 : Int32).toInt = 127 from by decide]
  omega
/-- A' is A but that each place j of lo .. hi - 1 holds f j -/
def Laid (A A' : Cell) (lo hi : Nat) (f : Nat → Value) : Prop := A'.cls = A.cls ∧ A'.vm = A.vm ∧ A'.slots.size = A.slots.size ∧ ∀ i, A'.slots[i]? = if lo ≤ i ∧ i < hi then some (f i) else A.slots[i]?
theorem Laid.zero (A : Cell) (lo : Nat) (f : Nat → Value) : Laid A A lo (lo + 0) f := ⟨rfl, rfl, rfl, fun i => by rw [if_neg (by omega)]⟩
theorem Laid.step {A Ak : Cell} {lo k : Nat} {f : Nat → Value} {v : Value} (h : Laid A Ak lo k f) (hlo : lo ≤ k) (hk : k < Ak.slots.size) (hv : v = f k) : Laid A (Ak.setSlot k v) lo (k + 1) f := by
  refine ⟨h.1, h.2.1, by simpa [Cell.setSlot] using h.2.2.1, fun i => ?_⟩
  by_cases e : k = i
  · subst e; rw [Cell.slots_setSlot_self v hk, if_pos (by omega), hv]
  · rw [Cell.slots_setSlot_ne v e, h.2.2.2 i]
    by_cases q : lo ≤ i ∧ i < k
    · rw [if_pos q, if_pos (by omega)]
    · rw [if_neg q, if_neg (by omega)]
def U16 : String := "java/lang/StringUTF16"
namespace Cmp5
def yN : MethodName := ⟨"java/lang/StringUTF16", "compress", "([CI[BII)I"⟩
abbrev yB : ByteArray := jdk_52_method_21_code
theorem d0 : decode yB 0 = .ok (.iconst 0, 1) := by decide +kernel
theorem d1 : decode yB 1 = .ok (.istore 5, 2) := by decide +kernel
theorem d3 : decode yB 3 = .ok (.iload 5, 2) := by decide +kernel
theorem d5 : decode yB 5 = .ok (.iload 4, 2) := by decide +kernel
theorem d7 : decode yB 7 = .ok (.if_icmp (.ge) 37, 3) := by decide +kernel
theorem d10 : decode yB 10 = .ok (.aload_n 0, 1) := by decide +kernel
theorem d11 : decode yB 11 = .ok (.iload_n 1, 1) := by decide +kernel
theorem d12 : decode yB 12 = .ok (.caload, 1) := by decide +kernel
theorem d13 : decode yB 13 = .ok (.istore 6, 2) := by decide +kernel
theorem d15 : decode yB 15 = .ok (.iload 6, 2) := by decide +kernel
theorem d17 : decode yB 17 = .ok (.sipush 255, 3) := by decide +kernel
theorem d20 : decode yB 20 = .ok (.if_icmp (.le) 6, 3) := by decide +kernel
theorem d26 : decode yB 26 = .ok (.aload_n 2, 1) := by decide +kernel
theorem d27 : decode yB 27 = .ok (.iload_n 3, 1) := by decide +kernel
theorem d28 : decode yB 28 = .ok (.iload 6, 2) := by decide +kernel
theorem d30 : decode yB 30 = .ok (.i2b, 1) := by decide +kernel
theorem d31 : decode yB 31 = .ok (.bastore, 1) := by decide +kernel
theorem d32 : decode yB 32 = .ok (.iinc 1 1, 3) := by decide +kernel
theorem d35 : decode yB 35 = .ok (.iinc 3 1, 3) := by decide +kernel
theorem d38 : decode yB 38 = .ok (.iinc 5 1, 3) := by decide +kernel
theorem d41 : decode yB 41 = .ok (.goto (-38), 3) := by decide +kernel
theorem d44 : decode yB 44 = .ok (.iload 4, 2) := by decide +kernel
theorem d46 : decode yB 46 = .ok (.ireturn, 1) := by decide +kernel
def site : List Cond := []
def tab : Cond := tabOf yN yB 7 (some .int) site
def P (b : Addr) (A : Cell) (d : Addr) (B : Cell) (o q len : Nat) (args : Array Value) (s : State) : Prop := args = #[.ref b, .int (Int32.ofNat o), .ref d, .int (Int32.ofNat q), .int (Int32.ofNat len)] ∧ Ch b A s ∧ Arr .byte d B s ∧ b ≠ d ∧ o + len ≤ A.slots.size ∧ q + len ≤ B.slots.size ∧ ∀ i, i < len → ¬ 255 < cv A (o + i)
def E (b : Addr) (A : Cell) (d : Addr) (B : Cell) (o q len : Nat) (r : Option Value) (s u : State) : Prop := r = some (.int (Int32.ofNat len)) ∧ ∃ B', Put d B' s u ∧ Laid B B' q (q + len) (fun j => Value.int (lo8 (cv A (o + (j - q)))))
/-- no char of the range above 255: len; the places written hold each char's low byte -/
theorem law (l : Launch) (b : Addr) (A : Cell) (d : Addr) (B : Cell) (o q len : Nat) : Law l yN 5 5 0 0 yB 7 (some .int) site (P b A d B o q len) (E b A d B o q len) (copyLocs d q len) 0 0 := by
  refine Law.of_walk (plainFor_of_name (by decide +kernel)) (by decide +kernel) (by decide +kernel) (by decide) (fun _ _ h => by rw [h.1]; rfl) (fun _ U U' hal hh h => ⟨h.1, h.2.1.mv hal hh, h.2.2.1.mv hal hh, h.2.2.2⟩) (fun r U U' V V' h1 hal h2 h => ⟨h.1, h.2.elim fun B' q => ⟨B', q.1.mv h1 h2, q.2⟩⟩) ?_
  intro p e s m args below meth c s₁ X0 hexec hbytes hml hret hlk hnm hown hh0 W hP
  obtain ⟨rfl, hA, hB, hne, l1, l2, hp⟩ := hP
  have c1 : Steps p.tables e below (s₁.setTop (entryFrame m #[.ref b, .int (Int32.ofNat o), .ref d, .int (Int32.ofNat q), .int (Int32.ofNat len)] 7)) (s₁.setTop (mkF m 0 #[.val (.ref b), .val (.int (Int32.ofNat o)), .val (.ref d), .val (.int (Int32.ofNat q)), .val (.int (Int32.ofNat len)), .unset, .unset] [])) := entry rfl
  have hA0 := hA.1.mv X0.warmed.alike hh0
  have hB0 := hB.mv X0.warmed.alike hh0
  have a31 := hA.1.2.2.2
  have c2 : Steps p.tables e below (s₁.setTop (entryFrame m #[.ref b, .int (Int32.ofNat o), .ref d, .int (Int32.ofNat q), .int (Int32.ofNat len)] 7)) (s₁.setTop (mkF m 3 #[.val (.ref b), .val (.int (Int32.ofNat o)), .val (.ref d), .val (.int (Int32.ofNat q)), .val (.int (Int32.ofNat len)), .val (.int 0), .unset] [])) := c1.trans (by
    refine iconstV X0.here hexec rfl 0 (hb hbytes d0) (by decide) ?_
    refine XS.istore X0.here hexec rfl (hb hbytes d1) rfl rfl ?_
    exact Steps.refl _)
  have loop : ∀ (r i : Nat), i + r = len → ∀ (z : Slot), (z = .unset ∨ ∃ w, z = .val w ∧ w.category = 1) → ∀ (Tl : State) (Bk : Cell), Stand p l e { frames := 0, locals := 0, cells := 0, slots := 0 } s m #[.ref b, .int (Int32.ofNat o), .ref d, .int (Int32.ofNat q), .int (Int32.ofNat len)] below meth c Tl ([] ++ copyLocs d q i) 0 0 → Put d Bk s₁ Tl → Laid B Bk q (q + i) (fun j => Value.int (lo8 (cv A (o + (j - q))))) →
      Steps p.tables e below (s₁.setTop (entryFrame m #[.ref b, .int (Int32.ofNat o), .ref d, .int (Int32.ofNat q), .int (Int32.ofNat len)] 7)) (Tl.setTop (mkF m 3 #[.val (.ref b), .val (.int (Int32.ofNat (o + i))), .val (.ref d), .val (.int (Int32.ofNat (q + i))), .val (.int (Int32.ofNat len)), .val (.int (Int32.ofNat i)), z] [])) → ∃ (T' : State) (B' : Cell) (z' : Slot), Stand p l e { frames := 0, locals := 0, cells := 0, slots := 0 } s m #[.ref b, .int (Int32.ofNat o), .ref d, .int (Int32.ofNat q), .int (Int32.ofNat len)] below meth c T' ([] ++ copyLocs d q len) 0 0 ∧ Put d B' s₁ T' ∧ Laid B B' q (q + len) (fun j => Value.int (lo8 (cv A (o + (j - q))))) ∧
      Steps p.tables e below (s₁.setTop (entryFrame m #[.ref b, .int (Int32.ofNat o), .ref d, .int (Int32.ofNat q), .int (Int32.ofNat len)] 7)) (T'.setTop (mkF m 3 #[.val (.ref b), .val (.int (Int32.ofNat (o + len))), .val (.ref d), .val (.int (Int32.ofNat (q + len))), .val (.int (Int32.ofNat len)), .val (.int (Int32.ofNat len)), z'] [])) := by
    intro r
    induction r with
    | zero =>
      intro i hi z hz Tl Bk Xl pl fl cl
      have hil : i = len := by omega
      rw [hil] at Xl fl cl
      exact ⟨Tl, Bk, z, Xl, pl, fl, cl⟩
    | succ r ih =>
      intro i hi z hz Tl Bk Xl pl fl cl
      have all := X0.warmed.alike.symm.trans Xl.warmed.alike
      have hAl := hA0.keep all (pl.other hne hA0.1)
      have hBk := hB0.like all pl.1 fl.1 fl.2.1 fl.2.2.1
      have hlt : q + i < Bk.slots.size := by rw [fl.2.2.1]; omega
      have c3 : Steps p.tables e below (s₁.setTop (entryFrame m #[.ref b, .int (Int32.ofNat o), .ref d, .int (Int32.ofNat q), .int (Int32.ofNat len)] 7)) (Tl.setTop (mkF m 12 #[.val (.ref b), .val (.int (Int32.ofNat (o + i))), .val (.ref d), .val (.int (Int32.ofNat (q + i))), .val (.int (Int32.ofNat len)), .val (.int (Int32.ofNat i)), z] [.int (Int32.ofNat (o + i)), .ref b])) := cl.trans (by
        refine XS.iload Xl.here hexec rfl (hb hbytes d3) rfl ?_
        refine XS.iload Xl.here hexec rfl (hb hbytes d5) rfl ?_
        refine XS.icmpNo Xl.here hexec rfl (hb hbytes d7) rfl (ii_ge_f (lt32 (by omega) (by omega))) ?_
        refine XS.aloadN Xl.here hexec rfl (hb hbytes d10) rfl rfl ?_
        refine XS.iloadN Xl.here hexec rfl (hb hbytes d11) rfl ?_
        exact Steps.refl _)
      have c4 : Steps p.tables e below (s₁.setTop (entryFrame m #[.ref b, .int (Int32.ofNat o), .ref d, .int (Int32.ofNat q), .int (Int32.ofNat len)] 7)) (Tl.setTop (mkF m 13 #[.val (.ref b), .val (.int (Int32.ofNat (o + i))), .val (.ref d), .val (.int (Int32.ofNat (q + i))), .val (.int (Int32.ofNat len)), .val (.int (Int32.ofNat i)), z] [.int (cv A (o + i))])) := c3.trans (by
        refine Xl.aget hexec hAl rfl (hA.get (i := o + i) (by omega)) rfl rfl (hb hbytes d12) ?_
        exact Steps.refl _)
      have c5 : Steps p.tables e below (s₁.setTop (entryFrame m #[.ref b, .int (Int32.ofNat o), .ref d, .int (Int32.ofNat q), .int (Int32.ofNat len)] 7)) (Tl.setTop (mkF m 15 #[.val (.ref b), .val (.int (Int32.ofNat (o + i))), .val (.ref d), .val (.int (Int32.ofNat (q + i))), .val (.int (Int32.ofNat len)), .val (.int (Int32.ofNat i)), .val (.int (cv A (o + i)))] [])) := c4.trans (by
        refine XS.istoreS Xl.here hexec rfl (hb hbytes d13) rfl rfl hz ?_
        exact Steps.refl _)
      have c6 : Steps p.tables e below (s₁.setTop (entryFrame m #[.ref b, .int (Int32.ofNat o), .ref d, .int (Int32.ofNat q), .int (Int32.ofNat len)] 7)) (Tl.setTop (mkF m 31 #[.val (.ref b), .val (.int (Int32.ofNat (o + i))), .val (.ref d), .val (.int (Int32.ofNat (q + i))), .val (.int (Int32.ofNat len)), .val (.int (Int32.ofNat i)), .val (.int (cv A (o + i)))] [.int (lo8 (cv A (o + i))), .int (Int32.ofNat (q + i)), .ref d])) := c5.trans (by
        refine XS.iload Xl.here hexec rfl (hb hbytes d15) rfl ?_
        refine sipushV Xl.here hexec rfl 255 (hb hbytes d17) (by decide) ?_
        refine XS.icmpYes Xl.here hexec rfl (pc0 := 20) rfl (hb hbytes d20) rfl (ii_le_t (hp i (by omega))) (by decide) rfl ?_
        refine XS.aloadN Xl.here hexec rfl (hb hbytes d26) rfl rfl ?_
        refine XS.iloadN Xl.here hexec rfl (hb hbytes d27) rfl ?_
        refine XS.iload Xl.here hexec rfl (hb hbytes d28) rfl ?_
        refine i2b Xl.here hexec rfl (hb hbytes d30) rfl ?_
        exact Steps.refl _)
      obtain ⟨T7, X7, p7, st7⟩ := Xl.aput hexec hBk rfl hlt rfl (fits_lo8 (cv A (o + i))) (g := (mkF m 31 #[.val (.ref b), .val (.int (Int32.ofNat (o + i))), .val (.ref d), .val (.int (Int32.ofNat (q + i))), .val (.int (Int32.ofNat len)), .val (.int (Int32.ofNat i)), .val (.int (cv A (o + i)))] [.int (lo8 (cv A (o + i))), .int (Int32.ofNat (q + i)), .ref d])) rfl (rest := []) rfl (hb hbytes d31)
      have c8 : Steps p.tables e below (s₁.setTop (entryFrame m #[.ref b, .int (Int32.ofNat o), .ref d, .int (Int32.ofNat q), .int (Int32.ofNat len)] 7)) (T7.setTop (mkF m 32 #[.val (.ref b), .val (.int (Int32.ofNat (o + i))), .val (.ref d), .val (.int (Int32.ofNat (q + i))), .val (.int (Int32.ofNat len)), .val (.int (Int32.ofNat i)), .val (.int (cv A (o + i)))] [])) := c6.trans (st7 _ (Steps.refl _))
      have c9 : Steps p.tables e below (s₁.setTop (entryFrame m #[.ref b, .int (Int32.ofNat o), .ref d, .int (Int32.ofNat q), .int (Int32.ofNat len)] 7)) (T7.setTop (mkF m 3 #[.val (.ref b), .val (.int (Int32.ofNat (o + i) + 1)), .val (.ref d), .val (.int (Int32.ofNat (q + i) + 1)), .val (.int (Int32.ofNat len)), .val (.int (Int32.ofNat i + 1)), .val (.int (cv A (o + i)))] [])) := c8.trans (by
        refine iincV X7.here hexec rfl 1 (hb hbytes d32) (by decide) rfl rfl ?_
        refine iincV X7.here hexec rfl 1 (hb hbytes d35) (by decide) rfl rfl ?_
        refine iincV X7.here hexec rfl 1 (hb hbytes d38) (by decide) rfl rfl ?_
        refine XS.goto X7.here hexec rfl (pc0 := 41) rfl (hb hbytes d41) (by decide) rfl ?_
        exact Steps.refl _)
      have c10 : Steps p.tables e below (s₁.setTop (entryFrame m #[.ref b, .int (Int32.ofNat o), .ref d, .int (Int32.ofNat q), .int (Int32.ofNat len)] 7)) (T7.setTop (mkF m 3 #[.val (.ref b), .val (.int (Int32.ofNat (o + (i + 1)))), .val (.ref d), .val (.int (Int32.ofNat (q + (i + 1)))), .val (.int (Int32.ofNat len)), .val (.int (Int32.ofNat (i + 1))), .val (.int (cv A (o + i)))] [])) := by
        have := c9
        rw [succ32, succ32, succ32] at this
        exact this
      exact ih (i + 1) (by omega) _ (Or.inr ⟨_, rfl, rfl⟩) T7 _ (by rw [copyLocs_step, ← List.append_assoc]; exact X7) (pl.trans p7) (fl.step (by omega) hlt (by simp)) c10
  obtain ⟨T9, B9, z9, X9, p9, f9, g9⟩ := loop len 0 (by omega) .unset (Or.inl rfl) s₁ B (by simpa [copyLocs] using X0) ⟨hB0.1, fun _ _ => rfl, rfl⟩ (Laid.zero _ _ _) c2
  have c11 : Steps p.tables e below (s₁.setTop (entryFrame m #[.ref b, .int (Int32.ofNat o), .ref d, .int (Int32.ofNat q), .int (Int32.ofNat len)] 7)) (T9.setTop (mkF m 46 #[.val (.ref b), .val (.int (Int32.ofNat (o + len))), .val (.ref d), .val (.int (Int32.ofNat (q + len))), .val (.int (Int32.ofNat len)), .val (.int (Int32.ofNat len)), z9] [.int (Int32.ofNat len)])) := g9.trans (by
    refine XS.iload X9.here hexec rfl (hb hbytes d3) rfl ?_
    refine XS.iload X9.here hexec rfl (hb hbytes d5) rfl ?_
    refine XS.icmpYes X9.here hexec rfl (pc0 := 7) rfl (hb hbytes d7) rfl (ii_ge_t (nlt32 (by omega) (Nat.le_refl _))) (by decide) rfl ?_
    refine XS.iload X9.here hexec rfl (hb hbytes d44) rfl ?_
    exact Steps.refl _)
  exact ⟨T9, some (.int (Int32.ofNat len)), _, _, _, X9, by simp, rfl, rfl, (fun h => by cases h), ⟨rfl, B9, p9.from hh0, f9⟩, fun fs hl => c11.trans (X9.ireturnOut hexec hret rfl (Or.inl rfl) (hb hbytes d46) hl)⟩
end Cmp5
namespace Cmp3
def yN : MethodName := ⟨"java/lang/StringUTF16", "compress", "([CII)[B"⟩
abbrev yB : ByteArray := jdk_52_method_16_code
theorem d0 : decode yB 0 = .ok (.iload_n 2, 1) := by decide +kernel
theorem d1 : decode yB 1 = .ok (.newarray .byte, 2) := by decide +kernel
theorem d3 : decode yB 3 = .ok (.astore_n 3, 1) := by decide +kernel
theorem d4 : decode yB 4 = .ok (.aload_n 0, 1) := by decide +kernel
theorem d5 : decode yB 5 = .ok (.iload_n 1, 1) := by decide +kernel
theorem d6 : decode yB 6 = .ok (.aload_n 3, 1) := by decide +kernel
theorem d7 : decode yB 7 = .ok (.iconst 0, 1) := by decide +kernel
theorem d8 : decode yB 8 = .ok (.iload_n 2, 1) := by decide +kernel
theorem d9 : decode yB 9 = .ok (.invokestatic 115, 3) := by decide +kernel
theorem d12 : decode yB 12 = .ok (.istore 4, 2) := by decide +kernel
theorem d14 : decode yB 14 = .ok (.iload 4, 2) := by decide +kernel
theorem d16 : decode yB 16 = .ok (.iload_n 2, 1) := by decide +kernel
theorem d17 : decode yB 17 = .ok (.if_icmp (.eq) 40, 3) := by decide +kernel
theorem d57 : decode yB 57 = .ok (.aload_n 3, 1) := by decide +kernel
theorem d58 : decode yB 58 = .ok (.areturn, 1) := by decide +kernel
def site : List Cond := [.arrayClass .byte, Cmp5.tab] ++ staticW U16 115 Cmp5.yN
def tab : Cond := tabOf yN yB 6 (some (.array .byte)) site
def P (b : Addr) (A : Cell) (o len : Nat) (args : Array Value) (s : State) : Prop := args = #[.ref b, .int (Int32.ofNat o), .int (Int32.ofNat len)] ∧ Ch b A s ∧ o + len ≤ A.slots.size ∧ len ≤ 536870912 ∧ ∀ i, i < len → ¬ 255 < cv A (o + i)
def E (b : Addr) (A : Cell) (o len : Nat) (r : Option Value) (s u : State) : Prop := NewArr .byte "[B" len (fun j => .int (lo8 (cv A (o + j)))) r s u ∧ u.heap.size = s.heap.size + 1
/-- no char of the range above 255: a new byte[] of their low bytes -/
theorem law (l : Launch) (b : Addr) (A : Cell) (o len : Nat) : Law l yN 3 3 1 18 yB 6 (some (.array .byte)) site (P b A o len) (E b A o len) [] 1 len := by
  refine Law.of_walk (plainFor_of_name (by decide +kernel)) (by decide +kernel) (by decide +kernel) (by decide) (fun _ _ h => by rw [h.1]; rfl) (fun _ U U' hal hh h => ⟨h.1, h.2.1.mv hal hh, h.2.2⟩) (fun r U U' V V' h1 hal h2 h => ⟨NewArr.mv r U U' V V' h1 hal h2 h.1, by rw [h1, h2]; exact h.2⟩) ?_
  intro p e s m args below meth c s₁ X0 hexec hbytes hml hret hlk hnm hown hh0 W hP
  obtain ⟨rfl, hA, l1, l2, hp⟩ := hP
  have a31 := hA.1.2.2.2
  have c1 : Steps p.tables e below (s₁.setTop (entryFrame m #[.ref b, .int (Int32.ofNat o), .int (Int32.ofNat len)] 6)) (s₁.setTop (mkF m 0 #[.val (.ref b), .val (.int (Int32.ofNat o)), .val (.int (Int32.ofNat len)), .unset, .unset, .unset] [])) := entry rfl
  have c2 : Steps p.tables e below (s₁.setTop (entryFrame m #[.ref b, .int (Int32.ofNat o), .int (Int32.ofNat len)] 6)) (s₁.setTop (mkF m 1 #[.val (.ref b), .val (.int (Int32.ofNat o)), .val (.int (Int32.ofNat len)), .unset, .unset, .unset] [.int (Int32.ofNat len)])) := c1.trans (by
    refine XS.iloadN X0.here hexec rfl (hb hbytes d0) rfl ?_
    exact Steps.refl _)
  obtain ⟨T3, B3, X3, ba3, bs3, bv3, bh3, bf3, st3⟩ := X0.anew hexec (atype := .byte) (wk W (.arrayClass .byte)) rfl (by show len * 1 ≤ _; omega) (by omega) (g := (mkF m 1 #[.val (.ref b), .val (.int (Int32.ofNat o)), .val (.int (Int32.ofNat len)), .unset, .unset, .unset] [.int (Int32.ofNat len)])) rfl (hb hbytes d1) (rest := []) rfl (Nat.le_refl _) (by show 0 + len ≤ len; omega)
  rw [hh0] at ba3 st3
  have kp3 : XT.Kept s T3 := (XT.Kept.of_eq hh0).push bh3
  have hA3 := hA.keep X3.warmed.alike (kp3 _ _ hA.1.1)
  have hne : b ≠ s.heap.size := hA.1.ne
  have c4 : Steps p.tables e below (s₁.setTop (entryFrame m #[.ref b, .int (Int32.ofNat o), .int (Int32.ofNat len)] 6)) (T3.setTop (mkF m 3 #[.val (.ref b), .val (.int (Int32.ofNat o)), .val (.int (Int32.ofNat len)), .unset, .unset, .unset] [.ref s.heap.size])) := c2.trans (st3 _ (Steps.refl _))
  have c5 : Steps p.tables e below (s₁.setTop (entryFrame m #[.ref b, .int (Int32.ofNat o), .int (Int32.ofNat len)] 6)) (T3.setTop (mkF m 9 #[.val (.ref b), .val (.int (Int32.ofNat o)), .val (.int (Int32.ofNat len)), .val (.ref s.heap.size), .unset, .unset] [.int (Int32.ofNat len), .int 0, .ref s.heap.size, .int (Int32.ofNat o), .ref b])) := c4.trans (by
    refine XS.astoreN X3.here hexec rfl (hb hbytes d3) rfl rfl rfl ?_
    refine XS.aloadN X3.here hexec rfl (hb hbytes d4) rfl rfl ?_
    refine XS.iloadN X3.here hexec rfl (hb hbytes d5) rfl ?_
    refine XS.aloadN X3.here hexec rfl (hb hbytes d6) rfl rfl ?_
    refine iconstV X3.here hexec rfl 0 (hb hbytes d7) (by decide) ?_
    refine XS.iloadN X3.here hexec rfl (hb hbytes d8) rfl ?_
    exact Steps.refl _)
  obtain ⟨v6, T6, X6, E6, g6⟩ := X3.callS hexec (Cmp5.law l b A s.heap.size B3 o 0 len) hown (wks W (staticW U16 115 Cmp5.yN)) (wk W Cmp5.tab) (W := 0) (Nat.le_of_ble_eq_true rfl) (Nat.le_of_ble_eq_true rfl) (Nat.le_refl _) (by show 0 + len + 0 ≤ len; omega) (g := (mkF m 9 #[.val (.ref b), .val (.int (Int32.ofNat o)), .val (.int (Int32.ofNat len)), .val (.ref s.heap.size), .unset, .unset] [.int (Int32.ofNat len), .int (Int32.ofNat 0), .ref s.heap.size, .int (Int32.ofNat o), .ref b])) rfl (by rw [hml]; rfl) c5 (argsL := [.ref b, .int (Int32.ofNat o), .ref s.heap.size, .int (Int32.ofNat 0), .int (Int32.ofNat len)]) (rest := []) rfl rfl (by show 2 * 0 + 0 ≤ _; decide) (hb hbytes d9) (⟨rfl, hA3, ba3, hne, l1, by rw [bs3]; simp, hp⟩)
  obtain ⟨rfl, B6, p6, f6⟩ := E6
  have c7 : Steps p.tables e below (s₁.setTop (entryFrame m #[.ref b, .int (Int32.ofNat o), .int (Int32.ofNat len)] 6)) (T6.setTop (mkF m 12 #[.val (.ref b), .val (.int (Int32.ofNat o)), .val (.int (Int32.ofNat len)), .val (.ref s.heap.size), .unset, .unset] [.int (Int32.ofNat len)])) := g6
  have c8 : Steps p.tables e below (s₁.setTop (entryFrame m #[.ref b, .int (Int32.ofNat o), .int (Int32.ofNat len)] 6)) (T6.setTop (mkF m 58 #[.val (.ref b), .val (.int (Int32.ofNat o)), .val (.int (Int32.ofNat len)), .val (.ref s.heap.size), .val (.int (Int32.ofNat len)), .unset] [.ref s.heap.size])) := c7.trans (by
    refine XS.istore X6.here hexec rfl (hb hbytes d12) rfl rfl ?_
    refine XS.iload X6.here hexec rfl (hb hbytes d14) rfl ?_
    refine XS.iloadN X6.here hexec rfl (hb hbytes d16) rfl ?_
    refine XS.icmpYes X6.here hexec rfl (pc0 := 17) rfl (hb hbytes d17) rfl (ii_eq_t rfl) (by decide) rfl ?_
    refine XS.aloadN X6.here hexec rfl (hb hbytes d57) rfl rfl ?_
    exact Steps.refl _)
  have X8 := X6.wide (L' := []) (cells' := 1) (slots' := len) (fun x hx hlt => by
    simp only [List.nil_append, copyLocs, List.mem_map, List.mem_range] at hx
    obtain ⟨i, -, rfl⟩ := hx
    exact absurd hlt (Nat.lt_irrefl _)) (Nat.le_refl _) (by omega)
  exact ⟨T6, some (.ref s.heap.size), _, _, _, X8, rfl, rfl, rfl, (fun h => by cases h), ⟨⟨rfl, B6, ba3.like (X3.warmed.alike.symm.trans X6.warmed.alike) p6.1 f6.1 f6.2.1 f6.2.2.1, f6.2.1.trans bv3, by rw [X6.warmed.alike.findClass, f6.1]; exact bf3, by rw [f6.2.2.1, bs3]; simp, fun j hj => by rw [f6.2.2.2 j, if_pos (by omega)]; rfl, kp3.put p6 (Nat.le_refl _)⟩, by rw [p6.2.2, bh3, hh0]; simp⟩, fun fs hl => c8.trans (X8.areturnOut hexec rfl hret rfl (hb hbytes d58) hl)⟩
end Cmp3
namespace CodL
def yN : MethodName := ⟨"java/lang/StringUTF16", "coderFromArrayLen", "([BI)B"⟩
abbrev yB : ByteArray := jdk_52_method_15_code
theorem d0 : decode yB 0 = .ok (.iload_n 1, 1) := by decide +kernel
theorem d1 : decode yB 1 = .ok (.aload_n 0, 1) := by decide +kernel
theorem d2 : decode yB 2 = .ok (.arraylength, 1) := by decide +kernel
theorem d3 : decode yB 3 = .ok (.isub, 1) := by decide +kernel
theorem d4 : decode yB 4 = .ok (.bipush 31, 2) := by decide +kernel
theorem d6 : decode yB 6 = .ok (.iushr, 1) := by decide +kernel
theorem d7 : decode yB 7 = .ok (.i2b, 1) := by decide +kernel
theorem d8 : decode yB 8 = .ok (.ireturn, 1) := by decide +kernel
def site : List Cond := []
def tab : Cond := tabOf yN yB 2 (some .byte) site
def P (d : Addr) (B : Cell) (args : Array Value) (s : State) : Prop := args = #[.ref d, .int (Int32.ofNat B.slots.size)] ∧ Arr .byte d B s
def E (r : Option Value) (s u : State) : Prop := XT.PureE (some (.int 0)) r s u
/-- an array as long as the number of chars: LATIN1 -/
theorem law (l : Launch) (d : Addr) (B : Cell) : Law l yN 2 2 0 0 yB 2 (some .byte) site (P d B) E [] 0 0 := by
  refine Law.of_walk (plainFor_of_name (by decide +kernel)) (by decide +kernel) (by decide +kernel) (by decide) (fun _ _ h => by rw [h.1]; rfl) (fun _ U U' hal hh h => ⟨h.1, h.2.mv hal hh⟩) (fun r U U' V V' h1 hal h2 h => XT.PureE.mv r U U' V V' h1 hal h2 h) ?_
  intro p e s m args below meth c s₁ X0 hexec hbytes hml hret hlk hnm hown hh0 W hP
  obtain ⟨rfl, hB⟩ := hP
  have hB0 := hB.mv X0.warmed.alike hh0
  have c1 : Steps p.tables e below (s₁.setTop (entryFrame m #[.ref d, .int (Int32.ofNat B.slots.size)] 2)) (s₁.setTop (mkF m 0 #[.val (.ref d), .val (.int (Int32.ofNat B.slots.size))] [])) := entry rfl
  have c2 : Steps p.tables e below (s₁.setTop (entryFrame m #[.ref d, .int (Int32.ofNat B.slots.size)] 2)) (s₁.setTop (mkF m 2 #[.val (.ref d), .val (.int (Int32.ofNat B.slots.size))] [.ref d, .int (Int32.ofNat B.slots.size)])) := c1.trans (by
    refine XS.iloadN X0.here hexec rfl (hb hbytes d0) rfl ?_
    refine XS.aloadN X0.here hexec rfl (hb hbytes d1) rfl rfl ?_
    exact Steps.refl _)
  have c3 : Steps p.tables e below (s₁.setTop (entryFrame m #[.ref d, .int (Int32.ofNat B.slots.size)] 2)) (s₁.setTop (mkF m 8 #[.val (.ref d), .val (.int (Int32.ofNat B.slots.size))] [.int (lo8 (ushr (Int32.ofNat B.slots.size - Int32.ofNat B.slots.size) 31))])) := c2.trans (by
    refine X0.alen hexec hB0 rfl rfl (hb hbytes d2) ?_
    refine XS.isub X0.here hexec rfl (hb hbytes d3) rfl ?_
    refine bipushV X0.here hexec rfl 31 (hb hbytes d4) (by decide) ?_
    refine iushr X0.here hexec rfl (hb hbytes d6) rfl ?_
    refine i2b X0.here hexec rfl (hb hbytes d7) rfl ?_
    exact Steps.refl _)
  have e0 : lo8 (ushr (Int32.ofNat B.slots.size - Int32.ofNat B.slots.size) 31) = 0 := by rw [Int32.sub_self]; decide
  rw [e0] at c3
  exact ⟨s₁, some (.int 0), _, _, _, X0, rfl, rfl, rfl, (fun h => by cases h), ⟨rfl, hh0⟩, fun fs hl => c3.trans (X0.ireturnOut hexec hret rfl (Or.inr (Or.inr (Or.inl rfl))) (hb hbytes d8) hl)⟩
end CodL
/-- the String at a is Latin-1 over a new byte[] (the heap's one new cell): the low bytes of the len chars of A from o on; every cell but a is kept -/
def Got (a : Addr) (D : Cell) (fV fC : Field) (A : Cell) (o len : Nat) (r : Option Value) (s u : State) : Prop := r = none ∧ ∃ D' V : Cell, Blank "java/lang/String" a D' u ∧ Same D D' [fV.slot, fC.slot] ∧ D'.slots[fV.slot]? = some (.ref s.heap.size) ∧ D'.slots[fC.slot]? = some (.int 0) ∧ Arr .byte s.heap.size V u ∧ V.vm = .none ∧ u.vm.findClass "[B" = some V.cls ∧ V.slots.size = len ∧ (∀ j, j < len → V.slots[j]? = some (.int (lo8 (cv A (o + j))))) ∧ (∀ (y : Addr) (c : Cell), y ≠ a → s.heap[y]? = some c → u.heap[y]? = some c) ∧ u.heap.size = s.heap.size + 1
theorem Got.mv {a : Addr} {D A : Cell} {fV fC : Field} {o len : Nat} : ∀ r (U U' V V' : State), U'.heap = U.heap → V.vm.Alike V'.vm → V'.heap = V.heap → Got a D fV fC A o len r U V → Got a D fV fC A o len r U' V' :=
  fun r U U' V V' h1 hal h2 ⟨e0, D', X, a1, a2, a3, a4, a5, a6, a7, a8, a9, a10, a11⟩ => ⟨e0, D', X, a1.mv hal h2, a2, by rw [h1]; exact a3, a4, by rw [h1]; exact a5.mv hal h2, a6, by rw [hal.findClass]; exact a7, a8, a9, by rw [h1, h2]; exact a10, by rw [h1, h2]; exact a11⟩
namespace New4
def yN : MethodName := ⟨"java/lang/String", "<init>", "([CIILjava/lang/Void;)V"⟩
abbrev yB : ByteArray := jdk_42_method_149_code
theorem d0 : decode yB 0 = .ok (.aload_n 0, 1) := by decide +kernel
theorem d1 : decode yB 1 = .ok (.invokespecial 1, 3) := by decide +kernel
theorem d4 : decode yB 4 = .ok (.iload_n 3, 1) := by decide +kernel
theorem d5 : decode yB 5 = .ok (.ifCond (.ne) 22, 3) := by decide +kernel
theorem d27 : decode yB 27 = .ok (.getstatic 38, 3) := by decide +kernel
theorem d30 : decode yB 30 = .ok (.ifCond (.eq) 28, 3) := by decide +kernel
theorem d33 : decode yB 33 = .ok (.aload_n 1, 1) := by decide +kernel
theorem d34 : decode yB 34 = .ok (.iload_n 2, 1) := by decide +kernel
theorem d35 : decode yB 35 = .ok (.iload_n 3, 1) := by decide +kernel
theorem d36 : decode yB 36 = .ok (.invokestatic 177, 3) := by decide +kernel
theorem d39 : decode yB 39 = .ok (.astore 5, 2) := by decide +kernel
theorem d41 : decode yB 41 = .ok (.aload_n 0, 1) := by decide +kernel
theorem d42 : decode yB 42 = .ok (.aload 5, 2) := by decide +kernel
theorem d44 : decode yB 44 = .ok (.iload_n 3, 1) := by decide +kernel
theorem d45 : decode yB 45 = .ok (.invokestatic 47, 3) := by decide +kernel
theorem d48 : decode yB 48 = .ok (.putfield 15, 3) := by decide +kernel
theorem d51 : decode yB 51 = .ok (.aload_n 0, 1) := by decide +kernel
theorem d52 : decode yB 52 = .ok (.aload 5, 2) := by decide +kernel
theorem d54 : decode yB 54 = .ok (.putfield 9, 3) := by decide +kernel
theorem d57 : decode yB 57 = .ok (.return_, 1) := by decide +kernel
def site : List Cond := [.fieldLink "java/lang/String" 38 "java/lang/String" "COMPACT_STRINGS" "Z", Cmp3.tab, CodL.tab, .laysFinal "java/lang/String" "java/lang/String" "value" "[B", .fieldLink "java/lang/String" 9 "java/lang/String" "value" "[B", .laysFinal "java/lang/String" "java/lang/String" "coder" "B", .fieldLink "java/lang/String" 15 "java/lang/String" "coder" "B"] ++ objW "java/lang/String" 1 ++ staticW "java/lang/String" 177 Cmp3.yN ++ staticW "java/lang/String" 47 CodL.yN
def tab : Cond := tabOf yN yB 6 none site
def P (a : Addr) (D : Cell) (fV fC : Field) (b : Addr) (A : Cell) (z : Int32) (o len : Nat) (args : Array Value) (s : State) : Prop := args = #[.ref a, .ref b, .int (Int32.ofNat o), .int (Int32.ofNat len), .null] ∧ Blank "java/lang/String" a D s ∧ Found "java/lang/String" "value" "[B" fV s ∧ Found "java/lang/String" "coder" "B" fC s ∧ Ch b A s ∧ StaticIs s "java/lang/String" "COMPACT_STRINGS" "Z" (.int z) ∧ ¬ z = 0 ∧ 0 < len ∧ o + len ≤ A.slots.size ∧ len ≤ 536870912 ∧ ∀ i, i < len → ¬ 255 < cv A (o + i)
def E (a : Addr) (D : Cell) (fV fC : Field) (A : Cell) (o len : Nat) (r : Option Value) (s u : State) : Prop := Got a D fV fC A o len r s u
/-- len > 0, no char of the range above 255: a Latin-1 String of their low bytes -/
theorem law (l : Launch) (a : Addr) (D : Cell) (fV fC : Field) (b : Addr) (A : Cell) (z : Int32) (o len : Nat) : Law l yN 5 4 2 35 yB 6 none site (P a D fV fC b A z o len) (E a D fV fC A o len) [⟨a, fC.slot⟩, ⟨a, fV.slot⟩] 1 len := by
  refine Law.of_walk (plainFor_of_name (by decide +kernel)) (by decide +kernel) (by decide +kernel) (by decide) (fun _ _ h => by rw [h.1]; rfl) (fun _ U U' hal hh h => ⟨h.1, h.2.1.mv hal hh, h.2.2.1.al hal, h.2.2.2.1.al hal, h.2.2.2.2.1.mv hal hh, h.2.2.2.2.2.1.there hal hh, h.2.2.2.2.2.2⟩) (fun r U U' V V' h1 hal h2 h => Got.mv r U U' V V' h1 hal h2 h) ?_
  intro p e s m args below meth c s₁ X0 hexec hbytes hml hret hlk hnm hown hh0 W hP
  obtain ⟨rfl, hB, f1, f2, hA, s1, hz, l0, l1, l2, hp⟩ := hP
  have a31 := hA.1.2.2.2
  have c1 : Steps p.tables e below (s₁.setTop (entryFrame m #[.ref a, .ref b, .int (Int32.ofNat o), .int (Int32.ofNat len), .null] 6)) (s₁.setTop (mkF m 0 #[.val (.ref a), .val (.ref b), .val (.int (Int32.ofNat o)), .val (.int (Int32.ofNat len)), .val .null, .unset] [])) := entry rfl
  have c2 : Steps p.tables e below (s₁.setTop (entryFrame m #[.ref a, .ref b, .int (Int32.ofNat o), .int (Int32.ofNat len), .null] 6)) (s₁.setTop (mkF m 1 #[.val (.ref a), .val (.ref b), .val (.int (Int32.ofNat o)), .val (.int (Int32.ofNat len)), .val .null, .unset] [.ref a])) := c1.trans (by
    refine XS.aloadN X0.here hexec rfl (hb hbytes d0) rfl rfl ?_
    exact Steps.refl _)
  obtain ⟨T3, X3, q3, st3⟩ := X0.oinit hexec hown (wks W (objW "java/lang/String" 1)) (g := (mkF m 1 #[.val (.ref a), .val (.ref b), .val (.int (Int32.ofNat o)), .val (.int (Int32.ofNat len)), .val .null, .unset] [.ref a])) rfl (by rw [hml]; rfl) (rest := []) rfl (hb hbytes d1) (W := 0) (by show 2 * 0 + 0 ≤ _; decide) (Nat.le_of_ble_eq_true rfl) (Nat.le_of_ble_eq_true rfl)
  have hh3 := q3.trans hh0
  have c4 : Steps p.tables e below (s₁.setTop (entryFrame m #[.ref a, .ref b, .int (Int32.ofNat o), .int (Int32.ofNat len), .null] 6)) (T3.setTop (mkF m 27 #[.val (.ref a), .val (.ref b), .val (.int (Int32.ofNat o)), .val (.int (Int32.ofNat len)), .val .null, .unset] [])) := (c2.trans (st3 _ (Steps.refl _))).trans (by
    refine XS.iloadN X3.here hexec rfl (hb hbytes d4) rfl ?_
    refine XS.ifYes X3.here hexec rfl (pc0 := 5) rfl (hb hbytes d5) rfl (i0_ne_t (nz32 (by omega) l0)) (by decide) rfl ?_
    exact Steps.refl _)
  obtain ⟨T5, X5, q5, st5⟩ := X3.sget hexec hown (wk W (.fieldLink "java/lang/String" 38 "java/lang/String" "COMPACT_STRINGS" "Z")) s1 (fun _ _ h => by rw [hh3]; exact h) (g := (mkF m 27 #[.val (.ref a), .val (.ref b), .val (.int (Int32.ofNat o)), .val (.int (Int32.ofNat len)), .val .null, .unset] [])) rfl (hb hbytes d27)
  have hh5 := q5.trans hh3
  have c6 : Steps p.tables e below (s₁.setTop (entryFrame m #[.ref a, .ref b, .int (Int32.ofNat o), .int (Int32.ofNat len), .null] 6)) (T5.setTop (mkF m 30 #[.val (.ref a), .val (.ref b), .val (.int (Int32.ofNat o)), .val (.int (Int32.ofNat len)), .val .null, .unset] [.int z])) := c4.trans (st5 _ (Steps.refl _))
  have c7 : Steps p.tables e below (s₁.setTop (entryFrame m #[.ref a, .ref b, .int (Int32.ofNat o), .int (Int32.ofNat len), .null] 6)) (T5.setTop (mkF m 36 #[.val (.ref a), .val (.ref b), .val (.int (Int32.ofNat o)), .val (.int (Int32.ofNat len)), .val .null, .unset] [.int (Int32.ofNat len), .int (Int32.ofNat o), .ref b])) := c6.trans (by
    refine XS.ifNo X5.here hexec rfl (hb hbytes d30) rfl (i0_eq_f hz) ?_
    refine XS.aloadN X5.here hexec rfl (hb hbytes d33) rfl rfl ?_
    refine XS.iloadN X5.here hexec rfl (hb hbytes d34) rfl ?_
    refine XS.iloadN X5.here hexec rfl (hb hbytes d35) rfl ?_
    exact Steps.refl _)
  obtain ⟨v8, T8, X8, E8, g8⟩ := X5.callS hexec (Cmp3.law l b A o len) hown (wks W (staticW "java/lang/String" 177 Cmp3.yN)) (wk W Cmp3.tab) (W := 0) (Nat.le_of_ble_eq_true rfl) (Nat.le_of_ble_eq_true rfl) (Nat.le_refl _) (by show 0 + len ≤ len; omega) (g := (mkF m 36 #[.val (.ref a), .val (.ref b), .val (.int (Int32.ofNat o)), .val (.int (Int32.ofNat len)), .val .null, .unset] [.int (Int32.ofNat len), .int (Int32.ofNat o), .ref b])) rfl (by rw [hml]; rfl) c7 (argsL := [.ref b, .int (Int32.ofNat o), .int (Int32.ofNat len)]) (rest := []) rfl rfl (by show 2 * 0 + 0 ≤ _; decide) (hb hbytes d36) (⟨rfl, hA.mv X5.warmed.alike hh5, l1, l2, hp⟩)
  obtain ⟨e8, z8⟩ := E8
  obtain ⟨rfl, N, n1, n2, n3, n4, n5, n6⟩ := NewArr.mv _ T5 s _ _ hh5.symm (Vm.Alike.refl _) rfl e8
  rw [hh5] at z8
  have hB1 := hB.keep X8.warmed.alike (n6 _ _ hB.1)
  have hne : s.heap.size ≠ a := (Nat.ne_of_lt (Array.getElem?_eq_some_iff.mp hB.1).1).symm
  have c9 : Steps p.tables e below (s₁.setTop (entryFrame m #[.ref a, .ref b, .int (Int32.ofNat o), .int (Int32.ofNat len), .null] 6)) (T8.setTop (mkF m 39 #[.val (.ref a), .val (.ref b), .val (.int (Int32.ofNat o)), .val (.int (Int32.ofNat len)), .val .null, .unset] [.ref s.heap.size])) := g8
  have c10 : Steps p.tables e below (s₁.setTop (entryFrame m #[.ref a, .ref b, .int (Int32.ofNat o), .int (Int32.ofNat len), .null] 6)) (T8.setTop (mkF m 45 #[.val (.ref a), .val (.ref b), .val (.int (Int32.ofNat o)), .val (.int (Int32.ofNat len)), .val .null, .val (.ref s.heap.size)] [.int (Int32.ofNat N.slots.size), .ref s.heap.size, .ref a])) := by
    have hc : Steps p.tables e below (s₁.setTop (entryFrame m #[.ref a, .ref b, .int (Int32.ofNat o), .int (Int32.ofNat len), .null] 6)) (T8.setTop (mkF m 45 #[.val (.ref a), .val (.ref b), .val (.int (Int32.ofNat o)), .val (.int (Int32.ofNat len)), .val .null, .val (.ref s.heap.size)] [.int (Int32.ofNat len), .ref s.heap.size, .ref a])) := c9.trans (by
      refine XS.astore X8.here hexec rfl (hb hbytes d39) rfl rfl rfl ?_
      refine XS.aloadN X8.here hexec rfl (hb hbytes d41) rfl rfl ?_
      refine XS.aload X8.here hexec rfl (hb hbytes d42) rfl rfl ?_
      refine XS.iloadN X8.here hexec rfl (hb hbytes d44) rfl ?_
      exact Steps.refl _)
    rw [n4]; exact hc
  obtain ⟨v11, T11, X11, E11, g11⟩ := X8.callS hexec (CodL.law l s.heap.size N) hown (wks W (staticW "java/lang/String" 47 CodL.yN)) (wk W CodL.tab) (W := 1) (Nat.le_of_ble_eq_true rfl) (Nat.le_of_ble_eq_true rfl) (Nat.le_refl _) (by show 0 + len + 0 ≤ len; omega) (g := (mkF m 45 #[.val (.ref a), .val (.ref b), .val (.int (Int32.ofNat o)), .val (.int (Int32.ofNat len)), .val .null, .val (.ref s.heap.size)] [.int (Int32.ofNat N.slots.size), .ref s.heap.size, .ref a])) rfl (by rw [hml]; rfl) c10 (argsL := [.ref s.heap.size, .int (Int32.ofNat N.slots.size)]) (rest := [.ref a]) rfl rfl (by show 2 * 0 + (1 + 0) ≤ _; decide) (hb hbytes d45) (⟨rfl, n1⟩)
  obtain ⟨rfl, q11⟩ := E11
  have hB11 := hB1.mv (X8.warmed.alike.symm.trans X11.warmed.alike) q11
  have c12 : Steps p.tables e below (s₁.setTop (entryFrame m #[.ref a, .ref b, .int (Int32.ofNat o), .int (Int32.ofNat len), .null] 6)) (T11.setTop (mkF m 48 #[.val (.ref a), .val (.ref b), .val (.int (Int32.ofNat o)), .val (.int (Int32.ofNat len)), .val .null, .val (.ref s.heap.size)] [.int 0, .ref a])) := g11
  obtain ⟨T13, X13, p13, bl13, sl13, st13⟩ := X11.finit hexec hown (wk W (.fieldLink "java/lang/String" 15 "java/lang/String" "coder" "B")) (Or.inr ⟨_, (wk W (.laysFinal "java/lang/String" "java/lang/String" "coder" "B"))⟩) (Or.inl ⟨rfl, hnm⟩) f2 (Or.inl rfl) hB11 (t := .byte) (by decide +kernel) rfl (g := (mkF m 48 #[.val (.ref a), .val (.ref b), .val (.int (Int32.ofNat o)), .val (.int (Int32.ofNat len)), .val .null, .val (.ref s.heap.size)] [.int 0, .ref a])) rfl (rest := []) rfl (hb hbytes d48)
  have c14 : Steps p.tables e below (s₁.setTop (entryFrame m #[.ref a, .ref b, .int (Int32.ofNat o), .int (Int32.ofNat len), .null] 6)) (T13.setTop (mkF m 54 #[.val (.ref a), .val (.ref b), .val (.int (Int32.ofNat o)), .val (.int (Int32.ofNat len)), .val .null, .val (.ref s.heap.size)] [.ref s.heap.size, .ref a])) := (c12.trans (st13 _ (Steps.refl _))).trans (by
    refine XS.aloadN X13.here hexec rfl (hb hbytes d51) rfl rfl ?_
    refine XS.aload X13.here hexec rfl (hb hbytes d52) rfl rfl ?_
    exact Steps.refl _)
  obtain ⟨T15, X15, p15, bl15, sl15, st15⟩ := X13.finit hexec hown (wk W (.fieldLink "java/lang/String" 9 "java/lang/String" "value" "[B")) (Or.inr ⟨_, (wk W (.laysFinal "java/lang/String" "java/lang/String" "value" "[B"))⟩) (Or.inl ⟨rfl, hnm⟩) f1 (Or.inl rfl) bl13 (t := (.array .byte)) (by decide +kernel) rfl (g := (mkF m 54 #[.val (.ref a), .val (.ref b), .val (.int (Int32.ofNat o)), .val (.int (Int32.ofNat len)), .val .null, .val (.ref s.heap.size)] [.ref s.heap.size, .ref a])) rfl (rest := []) rfl (hb hbytes d54)
  have c16 : Steps p.tables e below (s₁.setTop (entryFrame m #[.ref a, .ref b, .int (Int32.ofNat o), .int (Int32.ofNat len), .null] 6)) (T15.setTop (mkF m 57 #[.val (.ref a), .val (.ref b), .val (.int (Int32.ofNat o)), .val (.int (Int32.ofNat len)), .val .null, .val (.ref s.heap.size)] [])) := c14.trans (st15 _ (Steps.refl _))
  have ap := apart (Or.inr ⟨_, (wk W (.laysFinal "java/lang/String" "java/lang/String" "value" "[B"))⟩) (Or.inr ⟨_, (wk W (.laysFinal "java/lang/String" "java/lang/String" "coder" "B"))⟩) f1 f2 (t₁ := .array .byte) (t₂ := .byte) (by decide +kernel) (by decide +kernel) (by decide)
  have al := X8.warmed.alike.symm.trans X15.warmed.alike
  have n7 : T11.heap[s.heap.size]? = some N := by rw [q11]; exact n1.1
  exact ⟨T15, none, _, _, _, X15, by simp, rfl, by omega, (fun _ => rfl), ⟨rfl, _, N, bl15, ((Same.refl D _).set _ (by simp)).set _ (by simp), sl15, (Cell.slots_setSlot_ne _ ap).trans sl13, n1.keep al (p15.other hne (p13.other hne n7)), n2, by rw [al.findClass]; exact n3, n4, n5, fun y c h1 h2 => p15.other h1 (p13.other h1 (by rw [q11]; exact n6 y c h2)), by rw [p15.2.2, p13.2.2, q11]; exact z8⟩, fun fs hl => c16.trans (X15.returnOut hexec hret (hb hbytes d57) hl)⟩
end New4
namespace New1
def yN : MethodName := ⟨"java/lang/String", "<init>", "([C)V"⟩
abbrev yB : ByteArray := jdk_42_method_3_code
theorem d0 : decode yB 0 = .ok (.aload_n 0, 1) := by decide +kernel
theorem d1 : decode yB 1 = .ok (.aload_n 1, 1) := by decide +kernel
theorem d2 : decode yB 2 = .ok (.iconst 0, 1) := by decide +kernel
theorem d3 : decode yB 3 = .ok (.aload_n 1, 1) := by decide +kernel
theorem d4 : decode yB 4 = .ok (.arraylength, 1) := by decide +kernel
theorem d5 : decode yB 5 = .ok (.aconst_null, 1) := by decide +kernel
theorem d6 : decode yB 6 = .ok (.invokespecial 27, 3) := by decide +kernel
theorem d9 : decode yB 9 = .ok (.return_, 1) := by decide +kernel
def site : List Cond := [New4.tab] ++ initW "java/lang/String" 27 New4.yN
def tab : Cond := tabOf yN yB 2 none site
def P (a : Addr) (D : Cell) (fV fC : Field) (b : Addr) (A : Cell) (z : Int32) (args : Array Value) (s : State) : Prop := args = #[.ref a, .ref b] ∧ Blank "java/lang/String" a D s ∧ Found "java/lang/String" "value" "[B" fV s ∧ Found "java/lang/String" "coder" "B" fC s ∧ Ch b A s ∧ StaticIs s "java/lang/String" "COMPACT_STRINGS" "Z" (.int z) ∧ ¬ z = 0 ∧ 0 < A.slots.size ∧ A.slots.size ≤ 536870912 ∧ ∀ i, i < A.slots.size → ¬ 255 < cv A i
def E (a : Addr) (D : Cell) (fV fC : Field) (A : Cell) (r : Option Value) (s u : State) : Prop := Got a D fV fC A 0 A.slots.size r s u
/-- new String(chars), not empty, no char above 255: a Latin-1 String of their low bytes -/
theorem law (l : Launch) (a : Addr) (D : Cell) (fV fC : Field) (b : Addr) (A : Cell) (z : Int32) : Law l yN 2 1 3 52 yB 2 none site (P a D fV fC b A z) (E a D fV fC A) [⟨a, fC.slot⟩, ⟨a, fV.slot⟩] 1 A.slots.size := by
  refine Law.of_walk (plainFor_of_name (by decide +kernel)) (by decide +kernel) (by decide +kernel) (by decide) (fun _ _ h => by rw [h.1]; rfl) (fun _ U U' hal hh h => ⟨h.1, h.2.1.mv hal hh, h.2.2.1.al hal, h.2.2.2.1.al hal, h.2.2.2.2.1.mv hal hh, h.2.2.2.2.2.1.there hal hh, h.2.2.2.2.2.2⟩) (fun r U U' V V' h1 hal h2 h => Got.mv r U U' V V' h1 hal h2 h) ?_
  intro p e s m args below meth c s₁ X0 hexec hbytes hml hret hlk hnm hown hh0 W hP
  obtain ⟨rfl, hB, f1, f2, hA, s1, hz, l0, l2, hp⟩ := hP
  have c1 : Steps p.tables e below (s₁.setTop (entryFrame m #[.ref a, .ref b] 2)) (s₁.setTop (mkF m 0 #[.val (.ref a), .val (.ref b)] [])) := entry rfl
  have c2 : Steps p.tables e below (s₁.setTop (entryFrame m #[.ref a, .ref b] 2)) (s₁.setTop (mkF m 6 #[.val (.ref a), .val (.ref b)] [.null, .int (Int32.ofNat A.slots.size), .int 0, .ref b, .ref a])) := c1.trans (by
    refine XS.aloadN X0.here hexec rfl (hb hbytes d0) rfl rfl ?_
    refine XS.aloadN X0.here hexec rfl (hb hbytes d1) rfl rfl ?_
    refine iconstV X0.here hexec rfl 0 (hb hbytes d2) (by decide) ?_
    refine XS.aloadN X0.here hexec rfl (hb hbytes d3) rfl rfl ?_
    refine X0.alen hexec (hA.1.mv X0.warmed.alike hh0) rfl rfl (hb hbytes d4) ?_
    refine XS.aconstNull X0.here hexec rfl (hb hbytes d5) ?_
    exact Steps.refl _)
  obtain ⟨v3, T3, X3, E3, g3⟩ := X0.callN hexec (New4.law l a D fV fC b A z 0 A.slots.size) rfl hown (wks W (initW "java/lang/String" 27 New4.yN)) (W New4.tab (by simp only [site, List.mem_cons, List.mem_append, true_or, or_true])) (W := 0) (Nat.le_of_ble_eq_true rfl) (Nat.le_of_ble_eq_true rfl) (Nat.le_refl _) (by show 0 + A.slots.size ≤ A.slots.size; omega) (g := (mkF m 6 #[.val (.ref a), .val (.ref b)] [.null, .int (Int32.ofNat A.slots.size), .int (Int32.ofNat 0), .ref b, .ref a])) rfl (by rw [hml]; rfl) c2 (argsL := [.ref b, .int (Int32.ofNat 0), .int (Int32.ofNat A.slots.size), .null]) (rest := []) rfl rfl (by show 2 * 0 + 0 ≤ _; decide) (hb hbytes d6) (⟨rfl, hB.mv X0.warmed.alike hh0, f1.al X0.warmed.alike, f2.al X0.warmed.alike, hA.mv X0.warmed.alike hh0, s1.there X0.warmed.alike hh0, hz, l0, by omega, l2, fun i hi => by rw [Nat.zero_add]; exact hp i hi⟩)
  have e0 := Got.mv _ s₁ s _ _ hh0.symm (Vm.Alike.refl _) rfl E3
  obtain rfl := e0.1
  have c4 : Steps p.tables e below (s₁.setTop (entryFrame m #[.ref a, .ref b] 2)) (T3.setTop (mkF m 9 #[.val (.ref a), .val (.ref b)] [])) := g3
  exact ⟨T3, none, _, _, _, X3, by simp, rfl, by omega, (fun _ => rfl), e0, fun fs hl => c4.trans (X3.returnOut hexec hret (hb hbytes d9) hl)⟩
theorem pays {l : Launch} {R : Room} {p : Program} {e : Env} {below : List Frame} {s : State} {sargs : Array Value} {len W : Nat} (a : Addr) (D : Cell) (fV fC : Field) (b : Addr) (A : Cell) (z : Int32) (htab : tab.before sargs s = true) (hfr : 4 ≤ R.frames) (hlo : W + 65 ≤ R.locals) :
    Back l R p e below s sargs yN len W (fun A₁ a₁ => A₁.cells + 1 ≤ R.cells ∧ A₁.slots + A.slots.size ≤ R.slots ∧ P a D fV fC b A z a₁ A₁.U) (fun A₁ _ v₁ B₁ => E a D fV fC A v₁ A₁.U B₁.U ∧ B₁.locs = A₁.locs ++ [⟨a, fC.slot⟩, ⟨a, fV.slot⟩] ∧ B₁.cells = A₁.cells + 1 ∧ B₁.slots = A₁.slots + A.slots.size) :=
  (law l a D fV fC b A z).pays htab hfr (by omega)
end New1
/-- the byte, read back as charAt reads it, is the char -/
theorem lo8_mask {x : Int32} (h0 : ¬ x < 0) (h1 : ¬ 255 < x) : lo8 x &&& 255 = x := by
  have t : ∀ k : Fin 256, lo8 (Int32.ofNat k.val) &&& 255 = Int32.ofNat k.val := by decide +kernel
  rw [Int32.lt_iff_toInt_lt] at h0 h1
  have e0 : (0 : Int32).toInt = 0 := rfl
  have e1 : (255 : Int32).toInt = 255 := rfl
  obtain ⟨k, hk⟩ : ∃ k : Nat, x.toInt = k := ⟨x.toInt.toNat, by omega⟩
  have hx : x = Int32.ofNat k := Int32.toInt_inj.mp (by rw [hk, Int32.toInt_ofNat_small (by omega)])
  rw [hx]
  exact t ⟨k, by omega⟩
end StrChars
namespace StrChars.Road
open Jvm Sem ClassFile Op Lib Jvm.Stand Jvm.Free Jvm.Free.XT
open Jvm.Lib.Cold (StaticIs)
abbrev ST : String := "java/lang/String"
/-- every table word that New1's law asks, flat -/
abbrev words : List Jvm.Cond := [.code New1.yN New1.yB 2 none, .initialized ST, .methodLink ST 27 New4.yN, .instanceMethod New4.yN,
  .code New4.yN New4.yB 6 none, .fieldLink ST 38 ST "COMPACT_STRINGS" "Z", .laysFinal ST ST "value" "[B", .fieldLink ST 9 ST "value" "[B", .laysFinal ST ST "coder" "B", .fieldLink ST 15 ST "coder" "B",
  .methodLink ST 1 Lib.objectInit, .instanceMethod Lib.objectInit, .code Lib.objectInit ⟨#[0xb1]⟩ 1 none, .methodLink ST 177 Cmp3.yN, .static Cmp3.yN, .methodLink ST 47 CodL.yN, .static CodL.yN,
  .code Cmp3.yN Cmp3.yB 6 (some (.array .byte)), .initialized U16, .arrayClass .byte, .methodLink U16 115 Cmp5.yN, .static Cmp5.yN, .code Cmp5.yN Cmp5.yB 7 (some .int), .code CodL.yN CodL.yB 2 (some .byte)]
theorem tab_of {a : Array Value} {s : State} (h : ∀ w ∈ words, w.before a s = true) : New1.tab.before a s = true := by
  have h5 : Cmp5.tab.before a s = true := unparts (wk h (.code Cmp5.yN Cmp5.yB 7 (some .int))) (wks h (.initialized Cmp5.yN.cls :: Cmp5.site))
  have hc : CodL.tab.before a s = true := unparts (wk h (.code CodL.yN CodL.yB 2 (some .byte))) (wks h (.initialized CodL.yN.cls :: CodL.site))
  have q5 : ∀ w ∈ Cmp5.tab :: words, w.before a s = true := fun w hw => (List.mem_cons.mp hw).elim (fun e => e ▸ h5) (h w)
  have h3 : Cmp3.tab.before a s = true := unparts (wk q5 (.code Cmp3.yN Cmp3.yB 6 (some (.array .byte)))) (wks q5 (.initialized Cmp3.yN.cls :: Cmp3.site))
  have q3 : ∀ w ∈ Cmp3.tab :: CodL.tab :: words, w.before a s = true := fun w hw => (List.mem_cons.mp hw).elim (fun e => e ▸ h3) fun hw => (List.mem_cons.mp hw).elim (fun e => e ▸ hc) (h w)
  have h4 : New4.tab.before a s = true := unparts (wk q3 (.code New4.yN New4.yB 6 none)) (wks q3 (.initialized New4.yN.cls :: New4.site))
  have q4 : ∀ w ∈ New4.tab :: words, w.before a s = true := fun w hw => (List.mem_cons.mp hw).elim (fun e => e ▸ h4) (h w)
  exact unparts (wk q4 (.code New1.yN New1.yB 2 none)) (wks q4 (.initialized New1.yN.cls :: New1.site))
/-- the words ride from the start Z to the walk's own state -/
theorem moved {Z s : State} {a0 args : Array Value} (hZ : Z.Warmed39 s.vm) (hw : ∀ d ∈ words, d.before a0 Z = true) : ∀ d ∈ words, d.before args s = true := fun d hd => by
  have q := hw d hd
  have t : ∀ d ∈ words, d = .arrayClass .byte ∨ (d.onTables && d.keepsFace) = true := by decide +kernel
  rcases t d hd with rfl | t
  · exact RoadKit.mvA hZ q
  · exact RoadKit.mv hZ q t
/-- WHAT COMES BACK, over the tables of the start Z: h the heap at the call, h' behind it -/
def Q (Z : State) (x : Addr) (A : Cell) (h : Heap) (v : Option Value) (h' : Heap) (L : List Loc) : Prop := v = none ∧ (∀ y ∈ L, y.base = x) ∧ RoadKit.Keep h h' [x] ∧ h'.size = h.size + 1 ∧ RoadKit.Exa Z h' x ST ∧ RoadKit.Fld Z h' x ST "value" "[B" (.ref h.size) ∧ RoadKit.Fld Z h' x ST "coder" "B" (.int 0) ∧
  (∃ V : Cell, RoadKit.Arr Z h' h.size V .byte ∧ V.vm = .none ∧ Z.vm.findClass "[B" = some V.cls ∧ V.slots.size = A.slots.size ∧ ∀ j, j < A.slots.size → V.slots[j]? = some (.int (lo8 (cv A j)))) ∧
  ∀ (O n d : String) (w : Value), RoadKit.Fld Z h x O n d w → RoadKit.slotOf Z O n d ≠ RoadKit.slotOf Z ST "value" "[B" → RoadKit.slotOf Z O n d ≠ RoadKit.slotOf Z ST "coder" "B" → RoadKit.Fld Z h' x O n d w
/-- **new String(chars) AT A CALL, IN THE ROAD'S FORM**: for specialBack behind newO: x the fresh String, b the char[] with the cell A -/
theorem back {p : Program} {l : Launch} {e : Env} {R : Room} {s : State} {args : Array Value} {below : List Frame} {len W : Nat} {Z : State} {a0 : Array Value} {h : Heap} (hZ : Z.Warmed39 s.vm) (hw : ∀ d ∈ words, d.before a0 Z = true) {kI : Nat} (wi : (Jvm.Cond.instantiable ST kI).before a0 Z = true)
    {x b : Addr} {A : Cell} {z : Int32} {v0 c0 : Value} (E : RoadKit.Exa Z h x ST) (V : RoadKit.Fld Z h x ST "value" "[B" v0) (C : RoadKit.Fld Z h x ST "coder" "B" c0) (K : RoadKit.Arr Z h b A .char) (hty : Typed .char A) (S : RoadKit.Sta Z h ST "COMPACT_STRINGS" "Z" (.int z)) (hz : ¬ z = 0)
    (l0 : 0 < A.slots.size) (l2 : A.slots.size ≤ 536870912) (hp : ∀ i, i < A.slots.size → ¬ 255 < cv A i) (hfr : 4 ≤ R.frames) (hlo : W + 65 ≤ R.locals) :
    Back l R p e below s args New1.yN len W (fun P a => a = #[.ref x, .ref b] ∧ P.U.heap = h ∧ P.cells + 1 ≤ R.cells ∧ P.slots + A.slots.size ≤ R.slots)
      (fun P _ v B => ∃ L, Q Z x A h v B.U.heap L ∧ B.locs = P.locs ++ L ∧ B.cells = P.cells + 1 ∧ B.slots = P.slots + A.slots.size) := by
  intro m meth c P g ig mk a X hg hsize hdg hW hn hp'
  obtain ⟨rfl, rfl, r1, r2⟩ := hp'
  have al : Z.vm.Alike P.U.vm := hZ.alike.trans X.warmed.alike
  obtain ⟨D, cfV, kV, iV, fV, hD, gV, stV, knV, obV, asV, slV⟩ := id V
  obtain ⟨D', cfC, kC, iC, fC, hD', gC, stC, -, -, asC, slC⟩ := id C
  cases hD.symm.trans hD'
  obtain ⟨D2, kD, e1, e2, e3, e4, e5⟩ := id E
  cases hD.symm.trans e1
  obtain ⟨c2, k2, i1, i2, i3, -⟩ := Cond.instantiable_spec wi
  cases e2.symm.trans i1
  cases e3.symm.trans i2
  obtain ⟨kU, u1, u2⟩ := al.2.2 _ _ e3
  have hB : Blank ST x D P.U := ⟨hD, ⟨knV, fun q hq => by rw [hq] at obV; cases obV⟩, by rw [al.findClass]; exact e2, kU, u1, by rw [u2]; exact i3, by rw [u2]; exact e5 i3⟩
  have F1 : Found ST "value" "[B" fV P.U := ⟨SBG.found_only al ⟨cfV, kV, iV, gV⟩, stV⟩
  have F2 : Found ST "coder" "B" fC P.U := ⟨SBG.found_only al ⟨cfC, kC, iC, gC⟩, stC⟩
  have hA : Ch b A P.U := ⟨⟨K.1, State.isArrayOf_alike al K.2.1, K.2.2, by omega⟩, hty⟩
  have hS : StaticIs P.U ST "COMPACT_STRINGS" "Z" (.int z) := by
    obtain ⟨cfS, iS, kS, fS, st, cS, t1, t2, t3, t4, t5, t6, t7⟩ := S
    exact StaticIs.there (s := { Z with heap := P.U.heap }) ⟨cfS, iS, kS, fS, st, cS, t1, t2, t3, t4, t5, (fun q => by rw [q] at t6; cases t6), t7⟩ al rfl
  obtain ⟨v, B, X', ⟨⟨hv, E', V', q1, q2, q3, q4, q5, q6, q7, q8, q9, q10, q11⟩, hl, hc, hs⟩, st⟩ := New1.pays x D fV fC b A z (tab_of (moved hZ hw)) hfr hlo m meth c P g ig mk _ X hg hsize hdg hW hn ⟨r1, r2, rfl, hB, F1, F2, hA, hS, hz, l0, l2, hp⟩
  have al' : Z.vm.Alike B.U.vm := hZ.alike.trans X'.warmed.alike
  have hsz : E'.slots.size = D.slots.size := by
    obtain ⟨-, -, -, kB, w1, w2, w3⟩ := q1
    obtain ⟨kB', y1, y2⟩ := al'.2.2 _ _ e3
    rw [q2.2.1] at w1
    cases w1.symm.trans y1
    rw [w3, e5 i3, y2]
  refine ⟨v, B, X', ⟨_, ⟨hv, ?_, ⟨by omega, fun y cy hy hn' => q10 y cy (by simpa using hn') hy, fun y cy hy => ?_⟩, q11, ⟨E', _, q1.1, by rw [q2.2.1]; exact e2, by rw [q2.2.1]; exact e3, by rw [q2.1]; exact obV, fun _ => by rw [hsz]; exact e5 i3⟩,
    ⟨E', cfV, kV, iV, fV, q1.1, gV, stV, by rw [q2.1]; exact knV, by rw [q2.1]; exact obV, by rw [q2.2.1]; exact asV, q3⟩, ⟨E', cfC, kC, iC, fC, q1.1, gC, stC, by rw [q2.1]; exact knV, by rw [q2.1]; exact obV, by rw [q2.2.1]; exact asC, q4⟩,
    ⟨V', ⟨q5.1, State.isArrayOf_alike al'.symm q5.2.1, q5.2.2.1⟩, q6, by rw [← al'.findClass]; exact q7, q8, fun j hj => by have := q9 j hj; rwa [Nat.zero_add] at this⟩, fun O n d w F n1 n2 => ?_⟩, hl, hc, hs⟩, st⟩
  · intro y hy
    simp only [List.mem_cons, List.not_mem_nil, or_false] at hy
    rcases hy with rfl | rfl <;> rfl
  · by_cases q : y = x
    · subst q
      cases hD.symm.trans hy
      exact ⟨E', q1.1, q2.2.1, q2.1, hsz⟩
    · exact ⟨cy, q10 y cy q hy, rfl, rfl, rfl⟩
  · obtain ⟨D3, cf, k, i, f, g1, g2, g3, g4, g5, g6, g7⟩ := F
    cases hD.symm.trans g1
    simp only [RoadKit.slotOf, g2, gV, gC, Option.map_some, Option.getD_some] at n1 n2
    exact ⟨E', cf, k, i, f, q1.1, g2, g3, by rw [q2.1]; exact g4, by rw [q2.1]; exact g5, by rw [q2.2.1]; exact g6, by rw [q2.2.2 f.slot (by simp [n1, n2])]; exact g7⟩
end StrChars.Road
namespace StrChars.Road
open Jvm Sem ClassFile Op Lib Jvm.Stand Jvm.Free Jvm.Free.XT
/-- WHAT COMES BACK, the byte[] as a list of values -/
def QA (Z : State) (x : Addr) (zn : Int32) (cs : List Int32) (h : Heap) (v : Option Value) (h' : Heap) (L : List Loc) : Prop := v = none ∧ (∀ y ∈ L, y.base = x) ∧ RoadKit.Keep h h' [x] ∧ h'.size = h.size + 1 ∧ RoadKit.Exa Z h' x ST ∧ RoadKit.Fld Z h' x ST "value" "[B" (.ref h.size) ∧ RoadKit.Fld Z h' x ST "coder" "B" (.int 0) ∧
  (∃ kb, Z.vm.findClass "[B" = some kb ∧ RoadKit.Arv Z h' h.size kb .byte zn (cs.map fun c => .int (lo8 c)) (.int 0)) ∧
  ∀ (O n d : String) (w : Value), RoadKit.Fld Z h x O n d w → RoadKit.slotOf Z O n d ≠ RoadKit.slotOf Z ST "value" "[B" → RoadKit.slotOf Z O n d ≠ RoadKit.slotOf Z ST "coder" "B" → RoadKit.Fld Z h' x O n d w
/-- **new String(chars) AT A CALL, THE ARRAYS AS LISTS**: the char[] at b holds cs, not empty, no char above 255 -/
theorem backArv {p : Program} {l : Launch} {e : Env} {R : Room} {s : State} {args : Array Value} {below : List Frame} {len W : Nat} {Z : State} {a0 : Array Value} {h : Heap} (hZ : Z.Warmed39 s.vm) (hw : ∀ d ∈ words, d.before a0 Z = true) {kI : Nat} (wi : (Jvm.Cond.instantiable ST kI).before a0 Z = true)
    {x b : Addr} {k : ClassId} {zn z : Int32} {cs : List Int32} {dv v0 c0 : Value} (E : RoadKit.Exa Z h x ST) (V : RoadKit.Fld Z h x ST "value" "[B" v0) (C : RoadKit.Fld Z h x ST "coder" "B" c0) (K : RoadKit.Arv Z h b k .char zn (cs.map Value.int) dv) (S : RoadKit.Sta Z h ST "COMPACT_STRINGS" "Z" (.int z)) (hz : ¬ z = 0)
    (hlen : zn.toNatClampNeg = cs.length) (h0 : 0 < cs.length) (hbig : cs.length ≤ 536870912) (hall : ∀ c ∈ cs, ¬ 255 < c) (hfr : 4 ≤ R.frames) (hlo : W + 65 ≤ R.locals) :
    Back l R p e below s args New1.yN len W (fun P a => a = #[.ref x, .ref b] ∧ P.U.heap = h ∧ P.cells + 1 ≤ R.cells ∧ P.slots + cs.length ≤ R.slots)
      (fun P _ v B => ∃ L, QA Z x zn cs h v B.U.heap L ∧ B.locs = P.locs ++ L ∧ B.cells = P.cells + 1 ∧ B.slots = P.slots + cs.length) := by
  obtain ⟨A, K1, K2, K3, K4, K5, K6⟩ := K
  have e : A.slots.size = cs.length := K3.trans hlen
  have hat : ∀ (i : Nat) (hi : i < cs.length), A.slots[i]? = some (.int cs[i]) := fun i hi => by rw [K5 i (by omega)]; simp [List.getD_eq_getElem?_getD, hi]
  have hcv : ∀ (i : Nat) (hi : i < cs.length), cv A i = cs[i] := fun i hi => by unfold cv; rw [hat i hi]
  have hty : Typed .char A := fun i v hv => by
    have hi : i < A.slots.size := (Array.getElem?_eq_some_iff.mp hv).1
    have q := K5 i hi
    rw [hv] at q
    rw [Option.some.inj q]
    exact K6 i hi
  refine Back.mono (back hZ hw wi E V C K1 hty S hz (by omega) (by omega) (fun i hi => by rw [hcv i (by omega)]; exact hall _ (List.getElem_mem _)) hfr hlo) (fun P a hp => ⟨hp.1, hp.2.1, hp.2.2.1, by rw [e]; exact hp.2.2.2⟩) (fun P a v B hp hq => ?_)
  obtain ⟨L, ⟨q1, q2, q3, q4, q5, q6, q7, ⟨V', v1, v2, v3, v4, v5⟩, q9⟩, hl, hc, hs⟩ := hq
  refine ⟨L, ⟨q1, q2, q3, q4, q5, q6, q7, ⟨V'.cls, v3, V', v1, rfl, by rw [v4, e, hlen], K4, fun i hi => ?_, fun i hi => ?_⟩, q9⟩, hl, hc, by rw [hs, e]⟩
  · have hi' : i < cs.length := by omega
    rw [v5 i (by omega), hcv i hi']; simp [List.getD_eq_getElem?_getD, hi']
  · have hi' : i < cs.length := by omega
    simp only [List.getD_eq_getElem?_getD, List.getElem?_map, List.getElem?_eq_getElem hi', Option.map_some, Option.getD_some]
    exact fits_lo8 _
end StrChars.Road
namespace StrChars.Road
open Jvm Sem ClassFile Op Lib Jvm.Stand Jvm.Free Jvm.Free.XT
/-- WHAT COMES BACK, in the writer's own shape -/
def QV (Z : State) (x : Addr) (N : Int32) (bs : List Int32) (h : Heap) (n0 : Nat) (v : Option Value) (h' : Heap) (L : List Loc) : Prop := v = none ∧ RoadKit.Fr n0 L ∧ RoadKit.Keep h h' [x] ∧ RoadKit.Exa Z h' x ST ∧ RoadKit.Fld Z h' x ST "coder" "B" (.int 0) ∧
  ∃ (t : Addr) (kb : ClassId), n0 ≤ t ∧ h.size ≤ t ∧ ¬ t = x ∧ RoadKit.Fld Z h' x ST "value" "[B" (.ref t) ∧ RoadKit.Arv Z h' t kb .byte N (bs.map Value.int) (.int 0)
/-- **new String(chars) AT A CALL, FOR THE WRITER**: a char[] of n known ints, each 0 to 255 -/
theorem backV {p : Program} {l : Launch} {e : Env} {R : Room} {s : State} {args : Array Value} {below : List Frame} {len W : Nat} {Z : State} {a0 : Array Value} {h : Heap} (hZ : Z.Warmed39 s.vm) (hw : ∀ d ∈ words, d.before a0 Z = true) {kI : Nat} (wi : (Jvm.Cond.instantiable ST kI).before a0 Z = true)
    {x b : Addr} {kC : ClassId} {cs bs : List Int32} {d v0 c0 : Value} {z N : Int32} {n n0 : Nat} (hx0 : n0 ≤ x) (hh0 : n0 ≤ h.size) (E : RoadKit.Exa Z h x ST) (V : RoadKit.Fld Z h x ST "value" "[B" v0) (C : RoadKit.Fld Z h x ST "coder" "B" c0) (K : RoadKit.Arv Z h b kC .char N (cs.map Value.int) d) (S : RoadKit.Sta Z h ST "COMPACT_STRINGS" "Z" (.int z)) (hz : ¬ z = 0)
    (hn : cs.length = n) (hN : N = Int32.ofNat n) (l0 : 0 < n) (l2 : n ≤ 4000) (hp : ∀ c ∈ cs, ¬ c < 0 ∧ ¬ (255 : Int32) < c) (hb : bs = cs.map (fun c => c.toInt8.toInt32)) (hfr : 4 ≤ R.frames) (hlo : W + 65 ≤ R.locals) :
    Back l R p e below s args (⟨"java/lang/String", "<init>", "([C)V"⟩ : MethodName) len W (fun P a => a = #[.ref x, .ref b] ∧ P.U.heap = h ∧ P.cells + 1 ≤ R.cells ∧ P.slots + n ≤ R.slots)
      (fun P _ v B => ∃ L, QV Z x N bs h n0 v B.U.heap L ∧ B.locs = P.locs ++ L ∧ B.cells = P.cells + 1 ∧ B.slots = P.slots + n) := by
  subst hn hN hb
  refine Back.mono (backArv hZ hw wi E V C K S hz (n32 (by omega)) l0 (by omega) (fun c hc => (hp c hc).2) hfr hlo) (fun P a hp => hp) (fun P a v B hp hq => ?_)
  obtain ⟨L, ⟨q1, q2, q3, q4, q5, q6, q7, ⟨kb, v1, v2⟩, q9⟩, hl, hc, hs⟩ := hq
  exact ⟨L, ⟨q1, fun y hy => by rw [q2 y hy]; exact hx0, q3, q5, q7, h.size, kb, hh0, Nat.le_refl _, Nat.ne_of_gt E.lt, q6, by rw [List.map_map]; exact v2⟩, hl, hc, hs⟩
end StrChars.Road
namespace StrChars
open Jvm Sem ClassFile Op Lib Jvm.Stand Jvm.Free.XT Jvm.Free.ALB Jvm.Free.JM Jvm.Free
open Jvm.Lib.Cold (StaticIs)
def hi8 (x : Int32) : Int32 := lo8 (x >>> ((8 : Int32) &&& 31))
/-- what StringUTF16.getChar makes of two bytes -/
def pairCh (u v : Int32) : Int32 := (((u &&& 255) <<< ((0 : Int32) &&& 31)) ||| ((v &&& 255) <<< ((8 : Int32) &&& 31))).toUInt32.toUInt16.toUInt32.toInt32
theorem shr0 (c : Int32) : c >>> ((0 : Int32) &&& 31) = c := by
  have e : ((0 : Int32) &&& 31) = 0 := by decide
  rw [e]
  apply Int32.toBitVec_inj.mp
  rw [Int32.toBitVec_shiftRight]
  have e1 : ((0 : Int32).toBitVec.smod 32) = 0#32 := by decide
  rw [e1, BitVec.sshiftRight_eq']
  exact BitVec.sshiftRight_zero
theorem lo8_and (x : Int32) : (lo8 x &&& 255).toBitVec.toNat = x.toBitVec.toNat % 256 := by
  have h : (lo8 x).toBitVec = (x.toBitVec.signExtend 8).signExtend 32 := by rw [lo8, Int8.toBitVec_toInt32, Int32.toBitVec_toInt8]
  rw [Int32.toBitVec_and, BitVec.toNat_and, h]
  have e : ((x.toBitVec.signExtend 8).signExtend 32).toNat % 256 = x.toBitVec.toNat % 256 := by
    rw [BitVec.toNat_signExtend]
    have hlt := x.toBitVec.isLt
    simp only [BitVec.toNat_setWidth, BitVec.toNat_signExtend]
    split <;> split <;> omega
  rw [← e]
  exact Nat.and_two_pow_sub_one_eq_mod _ 8
theorem pair_says {c : Int32} (h0 : ¬ c < 0) (h1 : ¬ 65535 < c) : pairCh (lo8 c) (hi8 c) = c := by
  rw [Int32.lt_iff_toInt_lt] at h0 h1
  have e0 : (0 : Int32).toInt = 0 := rfl
  have e1 : (65535 : Int32).toInt = 65535 := rfl
  have hc : c.toInt = c.toBitVec.toNat := by
    have := c.toBitVec.isLt
    have e : c.toInt = c.toBitVec.toInt := rfl
    rw [e] at h0 h1
    rw [e]
    rw [BitVec.toInt_eq_toNat_cond] at h0 h1 ⊢
    split at h0 <;> split <;> omega
  have hn : c.toBitVec.toNat < 65536 := by omega
  have a1 := lo8_and c
  have a2 : (hi8 c &&& 255).toBitVec.toNat = c.toBitVec.toNat / 256 := by
    rw [hi8, lo8_and]
    have e : ((8 : Int32) &&& 31) = 8 := by decide
    rw [e, Int32.toBitVec_shiftRight]
    have e2 : ((8 : Int32).toBitVec.smod 32) = 8#32 := by decide
    rw [e2, BitVec.sshiftRight_eq', BitVec.toNat_sshiftRight_of_msb_false (by rw [BitVec.msb_eq_false_iff_two_mul_lt]; omega)]
    show c.toBitVec.toNat >>> 8 % 256 = _
    rw [Nat.shiftRight_eq_div_pow]
    omega
  unfold pairCh
  apply Int32.toBitVec_inj.mp
  apply BitVec.eq_of_toNat_eq
  have f0 : ((0 : Int32) &&& 31) = 0 := by decide
  have f8 : ((8 : Int32) &&& 31) = 8 := by decide
  rw [f0, f8]
  have g : (((lo8 c &&& 255) <<< (0 : Int32)) ||| ((hi8 c &&& 255) <<< (8 : Int32))).toBitVec.toNat = c.toBitVec.toNat := by
    rw [Int32.toBitVec_or, Int32.toBitVec_shiftLeft, Int32.toBitVec_shiftLeft]
    have s0 : ((0 : Int32).toBitVec.smod 32) = 0#32 := by decide
    have s8 : ((8 : Int32).toBitVec.smod 32) = 8#32 := by decide
    rw [s0, s8, BitVec.toNat_or]
    simp only [BitVec.shiftLeft_eq', BitVec.toNat_shiftLeft, a1, a2]
    show (c.toBitVec.toNat % 256) <<< 0 % 2 ^ 32 ||| (c.toBitVec.toNat / 256) <<< 8 % 2 ^ 32 = _
    rw [Nat.shiftLeft_zero, Nat.mod_eq_of_lt (show c.toBitVec.toNat % 256 < 2 ^ 32 by omega), Nat.mod_eq_of_lt (show (c.toBitVec.toNat / 256) <<< 8 < 2 ^ 32 by rw [Nat.shiftLeft_eq]; omega), Nat.or_comm, ← Nat.shiftLeft_add_eq_or_of_lt (by omega), Nat.shiftLeft_eq]
    omega
  show BitVec.toNat (((((lo8 c &&& 255) <<< (0 : Int32)) ||| ((hi8 c &&& 255) <<< (8 : Int32))).toBitVec.setWidth 16).setWidth 32) = _
  rw [BitVec.toNat_setWidth, BitVec.toNat_setWidth, g]
  omega
end StrChars
namespace StrChars
open Jvm Sem ClassFile Op Lib Jvm.Stand Jvm.Free.XT Jvm.Free.ALB Jvm.Free.JM Jvm.Free
open Jvm.Lib.Cold (StaticIs)
theorem shr1 {n : Nat} (h : 2 * n < 2 ^ 31) : Int32.ofNat (2 * n) >>> ((1 : Int32) &&& 31) = Int32.ofNat n := by
  have e : ((1 : Int32) &&& 31) = 1 := by decide
  rw [e]
  apply Int32.toBitVec_inj.mp
  rw [Int32.toBitVec_shiftRight]
  have e1 : ((1 : Int32).toBitVec.smod 32) = 1#32 := by decide
  have hm : (BitVec.ofNat 32 (2 * n)).toNat = 2 * n := by rw [BitVec.toNat_ofNat, Nat.mod_eq_of_lt (by omega)]
  rw [e1, BitVec.sshiftRight_eq']
  apply BitVec.eq_of_toNat_eq
  show ((BitVec.ofNat 32 (2 * n)).sshiftRight 1).toNat = (BitVec.ofNat 32 n).toNat
  rw [BitVec.toNat_sshiftRight_of_msb_false (by rw [BitVec.msb_eq_false_iff_two_mul_lt, hm]; omega), hm, BitVec.toNat_ofNat, Nat.shiftRight_eq_div_pow]
  omega
/-- charAt's cast of a byte read back -/
def chr8 (u : Int32) : Int32 := (u &&& 255).toUInt32.toUInt16.toUInt32.toInt32
theorem chr8_lo8 {c : Int32} (h0 : ¬ c < 0) (h1 : ¬ 255 < c) : chr8 (lo8 c) = c := by
  have t : ∀ k : Fin 256, (Int32.ofNat k.val).toUInt32.toUInt16.toUInt32.toInt32 = Int32.ofNat k.val := by decide +kernel
  unfold chr8
  rw [lo8_mask h0 h1]
  rw [Int32.lt_iff_toInt_lt] at h0 h1
  have e0 : (0 : Int32).toInt = 0 := rfl
  have e1 : (255 : Int32).toInt = 255 := rfl
  obtain ⟨k, hk⟩ : ∃ k : Nat, c.toInt = k := ⟨c.toInt.toNat, by omega⟩
  have hx : c = Int32.ofNat k := Int32.toInt_inj.mp (by rw [hk, Int32.toInt_ofNat_small (by omega)])
  rw [hx]
  exact t ⟨k, by omega⟩
theorem narrow_ch {c : Int32} (h0 : ¬ c < 0) (h1 : ¬ 65535 < c) : narrow .char (.int c) = .int c := by
  have q : narrow .char (.int (pairCh (lo8 c) (hi8 c))) = .int (pairCh (lo8 c) (hi8 c)) := narrow_c _
  rwa [pair_says h0 h1] at q
/-- the array's cell V codes the n chars f 0 .. f (n - 1) by the coder cd, as the JDK does: coder 1 just where some char is above 255 -/
def Cod (cd : Int32) (n : Nat) (f : Nat → Int32) (V : Cell) : Prop := (cd = 0 ∧ V.slots.size = n ∧ ∀ j, j < n → V.slots[j]? = some (.int (lo8 (f j))) ∧ ¬ 255 < f j) ∨ (cd = 1 ∧ V.slots.size = 2 * n ∧ (∀ j, j < n → V.slots[2 * j]? = some (.int (lo8 (f j))) ∧ V.slots[2 * j + 1]? = some (.int (hi8 (f j)))) ∧ ∃ j, j < n ∧ 255 < f j)
theorem Cod.cd {cd : Int32} {n : Nat} {f : Nat → Int32} {V : Cell} (h : Cod cd n f V) : cd = 0 ∨ cd = 1 := h.imp (fun q => q.1) fun q => q.1
theorem Cod.len {cd : Int32} {n : Nat} {f : Nat → Int32} {V : Cell} (h : Cod cd n f V) (hs : V.slots.size < 2 ^ 31) : Int32.ofNat V.slots.size >>> (cd &&& 31) = Int32.ofNat n := by
  rcases h with ⟨rfl, h, -⟩ | ⟨rfl, h, -⟩
  · rw [shr0, h]
  · rw [h, shr1 (by omega)]
/-- **x is a String of the n chars f 0 .. f (n - 1)**, Latin-1 or UTF-16; its array at t has the cell V -/
def Txt (x t : Addr) (V : Cell) (cd : Int32) (n : Nat) (f : Nat → Int32) (U : State) : Prop := Exact "java/lang/String" x U ∧ Has x "java/lang/String" "value" "[B" (.ref t) U ∧ Has x "java/lang/String" "coder" "B" (.int cd) U ∧ XT.Arr .byte t V U ∧ Cod cd n f V ∧ ∀ j, j < n → ¬ f j < 0 ∧ ¬ 65535 < f j
theorem Txt.mv {x t : Addr} {V : Cell} {cd : Int32} {n : Nat} {f : Nat → Int32} {U U' : State} (h : Txt x t V cd n f U) (hal : U.vm.Alike U'.vm) (hh : U'.heap = U.heap) : Txt x t V cd n f U' := ⟨h.1.mv hal hh, h.2.1.mv hal hh, h.2.2.1.mv hal hh, h.2.2.2.1.mv hal hh, h.2.2.2.2⟩
namespace Cdr
def yN : MethodName := ⟨"java/lang/String", "coder", "()B"⟩
abbrev yB : ByteArray := jdk_42_method_152_code
theorem d0 : decode yB 0 = .ok (.getstatic 38, 3) := by decide +kernel
theorem d3 : decode yB 3 = .ok (.ifCond (.eq) 10, 3) := by decide +kernel
theorem d6 : decode yB 6 = .ok (.aload_n 0, 1) := by decide +kernel
theorem d7 : decode yB 7 = .ok (.getfield 15, 3) := by decide +kernel
theorem d10 : decode yB 10 = .ok (.goto 4, 3) := by decide +kernel
theorem d14 : decode yB 14 = .ok (.ireturn, 1) := by decide +kernel
def site : List Cond := [.fieldLink "java/lang/String" 38 "java/lang/String" "COMPACT_STRINGS" "Z", .fieldLink "java/lang/String" 15 "java/lang/String" "coder" "B"]
def tab : Cond := tabOf yN yB 1 (some .byte) site
def P (x : Addr) (cd z : Int32) (args : Array Value) (s : State) : Prop := args = #[.ref x] ∧ Has x "java/lang/String" "coder" "B" (.int cd) s ∧ (cd = 0 ∨ cd = 1) ∧ StaticIs s "java/lang/String" "COMPACT_STRINGS" "Z" (.int z) ∧ ¬ z = 0
def E (cd : Int32) (r : Option Value) (s u : State) : Prop := XT.PureE (some (.int cd)) r s u
theorem law (l : Launch) (x : Addr) (cd z : Int32) : Law l yN 1 0 0 0 yB 1 (some .byte) site (P x cd z) (E cd) [] 0 0 := by
  refine Law.of_walk (plainFor_of_name (by decide +kernel)) (by decide +kernel) (by decide +kernel) (by decide) (fun _ _ h => by rw [h.1]; rfl) (fun _ U U' hal hh h => ⟨h.1, h.2.1.mv hal hh, h.2.2.1, h.2.2.2.1.there hal hh, h.2.2.2.2⟩) (fun r U U' V V' h1 hal h2 h => XT.PureE.mv r U U' V V' h1 hal h2 h) ?_
  intro p e s m args below meth c s₁ X0 hexec hbytes hml hret hlk hnm hown hh0 W hP
  obtain ⟨rfl, hx, hc, s1, hz⟩ := hP
  have c1 : Steps p.tables e below (s₁.setTop (entryFrame m #[.ref x] 1)) (s₁.setTop (mkF m 0 #[.val (.ref x)] [])) := entry rfl
  obtain ⟨T2, X2, q2, st2⟩ := X0.sget hexec hown (wk W (.fieldLink "java/lang/String" 38 "java/lang/String" "COMPACT_STRINGS" "Z")) s1 (fun _ _ h => by rw [hh0]; exact h) (g := (mkF m 0 #[.val (.ref x)] [])) rfl (hb hbytes d0)
  have hh2 := q2.trans hh0
  have c3 : Steps p.tables e below (s₁.setTop (entryFrame m #[.ref x] 1)) (T2.setTop (mkF m 7 #[.val (.ref x)] [.ref x])) := (c1.trans (st2 _ (Steps.refl _))).trans (by
    refine XS.ifNo X2.here hexec rfl (hb hbytes d3) rfl (i0_eq_f hz) ?_
    refine XS.aloadN X2.here hexec rfl (hb hbytes d6) rfl rfl ?_
    exact Steps.refl _)
  obtain ⟨T4, X4, q4, st4⟩ := X2.hget hexec hown (wk W (.fieldLink "java/lang/String" 15 "java/lang/String" "coder" "B")) (hx.mv X2.warmed.alike hh2) (g := (mkF m 7 #[.val (.ref x)] [.ref x])) rfl (rest := []) rfl (hb hbytes d7)
  have c5 : Steps p.tables e below (s₁.setTop (entryFrame m #[.ref x] 1)) (T4.setTop (mkF m 14 #[.val (.ref x)] [.int cd])) := (c3.trans (st4 _ (Steps.refl _))).trans (by
    refine XS.goto X4.here hexec rfl (pc0 := 10) rfl (hb hbytes d10) (by decide) rfl ?_
    exact Steps.refl _)
  exact ⟨T4, some (.int cd), _, _, _, X4, rfl, rfl, rfl, (fun h => by cases h), ⟨rfl, q4.trans hh2⟩, fun fs hl => c5.trans (X4.ireturnOut hexec hret (by rcases hc with rfl | rfl <;> rfl) (Or.inr (Or.inr (Or.inl rfl))) (hb hbytes d14) hl)⟩
end Cdr
namespace Len
def yN : MethodName := ⟨"java/lang/String", "length", "()I"⟩
abbrev yB : ByteArray := jdk_42_method_54_code
theorem d0 : decode yB 0 = .ok (.aload_n 0, 1) := by decide +kernel
theorem d1 : decode yB 1 = .ok (.getfield 9, 3) := by decide +kernel
theorem d4 : decode yB 4 = .ok (.arraylength, 1) := by decide +kernel
theorem d5 : decode yB 5 = .ok (.aload_n 0, 1) := by decide +kernel
theorem d6 : decode yB 6 = .ok (.invokevirtual 335, 3) := by decide +kernel
theorem d9 : decode yB 9 = .ok (.ishr, 1) := by decide +kernel
theorem d10 : decode yB 10 = .ok (.ireturn, 1) := by decide +kernel
def site : List Cond := [.fieldLink "java/lang/String" 9 "java/lang/String" "value" "[B", Cdr.tab] ++ virtW "java/lang/String" 335 "java/lang/String" Cdr.yN Cdr.yN
def tab : Cond := tabOf yN yB 1 (some .int) site
def P (x t : Addr) (V : Cell) (cd : Int32) (n : Nat) (f : Nat → Int32) (z : Int32) (args : Array Value) (s : State) : Prop := args = #[.ref x] ∧ Txt x t V cd n f s ∧ StaticIs s "java/lang/String" "COMPACT_STRINGS" "Z" (.int z) ∧ ¬ z = 0
def E (n : Nat) (r : Option Value) (s u : State) : Prop := XT.PureE (some (.int (Int32.ofNat n))) r s u
/-- length() of a String of n chars, in either coding -/
theorem law (l : Launch) (x t : Addr) (V : Cell) (cd : Int32) (n : Nat) (f : Nat → Int32) (z : Int32) : Law l yN 1 0 1 13 yB 1 (some .int) site (P x t V cd n f z) (E n) [] 0 0 := by
  refine Law.of_walk (plainFor_of_name (by decide +kernel)) (by decide +kernel) (by decide +kernel) (by decide) (fun _ _ h => by rw [h.1]; rfl) (fun _ U U' hal hh h => ⟨h.1, h.2.1.mv hal hh, h.2.2.1.there hal hh, h.2.2.2⟩) (fun r U U' V V' h1 hal h2 h => XT.PureE.mv r U U' V V' h1 hal h2 h) ?_
  intro p e s m args below meth c s₁ X0 hexec hbytes hml hret hlk hnm hown hh0 W hP
  obtain ⟨rfl, hx, s1, hz⟩ := hP
  have v31 := hx.2.2.2.1.2.2.2
  have c1 : Steps p.tables e below (s₁.setTop (entryFrame m #[.ref x] 1)) (s₁.setTop (mkF m 1 #[.val (.ref x)] [.ref x])) := Steps.trans (entry rfl) (by
    show Steps p.tables e below (s₁.setTop (mkF m 0 #[.val (.ref x)] [])) _
    refine XS.aloadN X0.here hexec rfl (hb hbytes d0) rfl rfl ?_
    exact Steps.refl _)
  obtain ⟨T2, X2, q2, st2⟩ := X0.hget hexec hown (wk W (.fieldLink "java/lang/String" 9 "java/lang/String" "value" "[B")) (hx.mv X0.warmed.alike hh0).2.1 (g := (mkF m 1 #[.val (.ref x)] [.ref x])) rfl (rest := []) rfl (hb hbytes d1)
  have hh2 := q2.trans hh0
  have hx2 := hx.mv X2.warmed.alike hh2
  have c3 : Steps p.tables e below (s₁.setTop (entryFrame m #[.ref x] 1)) (T2.setTop (mkF m 6 #[.val (.ref x)] [.ref x, .int (Int32.ofNat V.slots.size)])) := (c1.trans (st2 _ (Steps.refl _))).trans (by
    refine X2.alen hexec hx2.2.2.2.1 rfl rfl (hb hbytes d4) ?_
    refine XS.aloadN X2.here hexec rfl (hb hbytes d5) rfl rfl ?_
    exact Steps.refl _)
  obtain ⟨v4, T4, X4, E4, g4⟩ := X2.callV hexec (Cdr.law l x cd z) hown (wks W (virtW "java/lang/String" 335 "java/lang/String" Cdr.yN Cdr.yN)) rfl (by decide) (wk W Cdr.tab) (W := 1) (Nat.le_of_ble_eq_true rfl) (Nat.le_of_ble_eq_true rfl) (Nat.le_refl _) (Nat.le_refl _) (hx2.1.fc X2.warmed.alike) hx2.1.is (g := (mkF m 6 #[.val (.ref x)] [.ref x, .int (Int32.ofNat V.slots.size)])) rfl (by rw [hml]; rfl) c3 (argsL := []) (rest := [.int (Int32.ofNat V.slots.size)]) rfl rfl (by show 2 * 0 + (1 + 0) ≤ _; decide) (hb hbytes d6) (⟨rfl, hx2.2.2.1, hx.2.2.2.2.1.cd, s1.there X2.warmed.alike hh2, hz⟩)
  obtain ⟨rfl, q4⟩ := E4
  have c5 : Steps p.tables e below (s₁.setTop (entryFrame m #[.ref x] 1)) (T4.setTop (mkF m 10 #[.val (.ref x)] [.int (Int32.ofNat V.slots.size >>> (cd &&& 31))])) := Steps.trans g4 (by
    refine ishr X4.here hexec rfl (hb hbytes d9) rfl ?_
    exact Steps.refl _)
  rw [hx.2.2.2.2.1.len v31] at c5
  exact ⟨T4, some (.int (Int32.ofNat n)), _, _, _, X4, rfl, rfl, rfl, (fun h => by cases h), ⟨rfl, q4.trans hh2⟩, fun fs hl => c5.trans (X4.ireturnOut hexec hret rfl (Or.inl rfl) (hb hbytes d10) hl)⟩
theorem pays {l : Launch} {R : Room} {p : Program} {e : Env} {below : List Frame} {s : State} {sargs : Array Value} {len W : Nat} (x t : Addr) (V : Cell) (cd : Int32) (n : Nat) (f : Nat → Int32) (z : Int32) (htab : tab.before sargs s = true) (hfr : 2 ≤ R.frames) (hlo : W + 25 ≤ R.locals) :
    Back l R p e below s sargs yN len W (fun A₁ a₁ => A₁.cells + 0 ≤ R.cells ∧ A₁.slots + 0 ≤ R.slots ∧ P x t V cd n f z a₁ A₁.U) (fun A₁ _ v₁ B₁ => E n v₁ A₁.U B₁.U ∧ B₁.locs = A₁.locs ++ [] ∧ B₁.cells = A₁.cells + 0 ∧ B₁.slots = A₁.slots + 0) :=
  (law l x t V cd n f z).pays htab hfr (by omega)
end Len
namespace IsL
def yN : MethodName := ⟨"java/lang/String", "isLatin1", "()Z"⟩
abbrev yB : ByteArray := jdk_42_method_154_code
theorem d0 : decode yB 0 = .ok (.getstatic 38, 3) := by decide +kernel
theorem d3 : decode yB 3 = .ok (.ifCond (.eq) 14, 3) := by decide +kernel
theorem d6 : decode yB 6 = .ok (.aload_n 0, 1) := by decide +kernel
theorem d7 : decode yB 7 = .ok (.getfield 15, 3) := by decide +kernel
theorem d10 : decode yB 10 = .ok (.ifCond (.ne) 7, 3) := by decide +kernel
theorem d13 : decode yB 13 = .ok (.iconst 1, 1) := by decide +kernel
theorem d14 : decode yB 14 = .ok (.goto 4, 3) := by decide +kernel
theorem d17 : decode yB 17 = .ok (.iconst 0, 1) := by decide +kernel
theorem d18 : decode yB 18 = .ok (.ireturn, 1) := by decide +kernel
def site : List Cond := [.fieldLink "java/lang/String" 38 "java/lang/String" "COMPACT_STRINGS" "Z", .fieldLink "java/lang/String" 15 "java/lang/String" "coder" "B"]
def tab : Cond := tabOf yN yB 1 (some .boolean) site
def P (x : Addr) (cd z : Int32) (args : Array Value) (s : State) : Prop := args = #[.ref x] ∧ Has x "java/lang/String" "coder" "B" (.int cd) s ∧ (cd = 0 ∨ cd = 1) ∧ StaticIs s "java/lang/String" "COMPACT_STRINGS" "Z" (.int z) ∧ ¬ z = 0
def E (cd : Int32) (r : Option Value) (s u : State) : Prop := XT.PureE (some (.int (1 - cd))) r s u
theorem law (l : Launch) (x : Addr) (cd z : Int32) : Law l yN 1 0 0 0 yB 1 (some .boolean) site (P x cd z) (E cd) [] 0 0 := by
  refine Law.of_walk (plainFor_of_name (by decide +kernel)) (by decide +kernel) (by decide +kernel) (by decide) (fun _ _ h => by rw [h.1]; rfl) (fun _ U U' hal hh h => ⟨h.1, h.2.1.mv hal hh, h.2.2.1, h.2.2.2.1.there hal hh, h.2.2.2.2⟩) (fun r U U' V V' h1 hal h2 h => XT.PureE.mv r U U' V V' h1 hal h2 h) ?_
  intro p e s m args below meth c s₁ X0 hexec hbytes hml hret hlk hnm hown hh0 W hP
  obtain ⟨rfl, hx, hc, s1, hz⟩ := hP
  have c1 : Steps p.tables e below (s₁.setTop (entryFrame m #[.ref x] 1)) (s₁.setTop (mkF m 0 #[.val (.ref x)] [])) := entry rfl
  obtain ⟨T2, X2, q2, st2⟩ := X0.sget hexec hown (wk W (.fieldLink "java/lang/String" 38 "java/lang/String" "COMPACT_STRINGS" "Z")) s1 (fun _ _ h => by rw [hh0]; exact h) (g := (mkF m 0 #[.val (.ref x)] [])) rfl (hb hbytes d0)
  have hh2 := q2.trans hh0
  have c3 : Steps p.tables e below (s₁.setTop (entryFrame m #[.ref x] 1)) (T2.setTop (mkF m 7 #[.val (.ref x)] [.ref x])) := (c1.trans (st2 _ (Steps.refl _))).trans (by
    refine XS.ifNo X2.here hexec rfl (hb hbytes d3) rfl (i0_eq_f hz) ?_
    refine XS.aloadN X2.here hexec rfl (hb hbytes d6) rfl rfl ?_
    exact Steps.refl _)
  obtain ⟨T4, X4, q4, st4⟩ := X2.hget hexec hown (wk W (.fieldLink "java/lang/String" 15 "java/lang/String" "coder" "B")) (hx.mv X2.warmed.alike hh2) (g := (mkF m 7 #[.val (.ref x)] [.ref x])) rfl (rest := []) rfl (hb hbytes d7)
  have c5 : Steps p.tables e below (s₁.setTop (entryFrame m #[.ref x] 1)) (T4.setTop (mkF m 10 #[.val (.ref x)] [.int cd])) := c3.trans (st4 _ (Steps.refl _))
  have c6 : Steps p.tables e below (s₁.setTop (entryFrame m #[.ref x] 1)) (T4.setTop (mkF m 18 #[.val (.ref x)] [.int (1 - cd)])) := by
    rcases hc with rfl | rfl
    · exact c5.trans (by
        refine XS.ifNo X4.here hexec rfl (hb hbytes d10) rfl (i0_ne_f rfl) ?_
        refine iconstV X4.here hexec rfl 1 (hb hbytes d13) (by decide) ?_
        refine XS.goto X4.here hexec rfl (pc0 := 14) rfl (hb hbytes d14) (by decide) rfl ?_
        exact Steps.refl _)
    · exact c5.trans (by
        refine XS.ifYes X4.here hexec rfl (pc0 := 10) rfl (hb hbytes d10) rfl (i0_ne_t (by decide)) (by decide) rfl ?_
        refine iconstV X4.here hexec rfl 0 (hb hbytes d17) (by decide) ?_
        exact Steps.refl _)
  exact ⟨T4, some (.int (1 - cd)), _, _, _, X4, rfl, rfl, rfl, (fun h => by cases h), ⟨rfl, q4.trans hh2⟩, fun fs hl => c6.trans (X4.ireturnOut hexec hret (by rcases hc with rfl | rfl <;> rfl) (Or.inr (Or.inl rfl)) (hb hbytes d18) hl)⟩
end IsL
namespace LChA
def yN : MethodName := ⟨"java/lang/StringLatin1", "charAt", "([BI)C"⟩
abbrev yB : ByteArray := jdk_43_method_2_code
theorem d0 : decode yB 0 = .ok (.iload_n 1, 1) := by decide +kernel
theorem d1 : decode yB 1 = .ok (.aload_n 0, 1) := by decide +kernel
theorem d2 : decode yB 2 = .ok (.arraylength, 1) := by decide +kernel
theorem d3 : decode yB 3 = .ok (.invokestatic 9, 3) := by decide +kernel
theorem d6 : decode yB 6 = .ok (.aload_n 0, 1) := by decide +kernel
theorem d7 : decode yB 7 = .ok (.iload_n 1, 1) := by decide +kernel
theorem d8 : decode yB 8 = .ok (.baload, 1) := by decide +kernel
theorem d9 : decode yB 9 = .ok (.sipush 255, 3) := by decide +kernel
theorem d12 : decode yB 12 = .ok (.iand, 1) := by decide +kernel
theorem d13 : decode yB 13 = .ok (.i2c, 1) := by decide +kernel
theorem d14 : decode yB 14 = .ok (.ireturn, 1) := by decide +kernel
def site : List Cond := [JO.Str_checkIndex.tab] ++ staticW "java/lang/StringLatin1" 9 JO.Str_checkIndex.yN
def tab : Cond := tabOf yN yB 2 (some .char) site
def P (t : Addr) (V : Cell) (i : Nat) (u : Int32) (fm : Value) (args : Array Value) (s : State) : Prop := args = #[.ref t, .int (Int32.ofNat i)] ∧ XT.Arr .byte t V s ∧ V.slots[i]? = some (.int u) ∧ (StaticIs s "jdk/internal/util/Preconditions" "SIOOBE_FORMATTER" "Ljava/util/function/BiFunction;" fm ∧ fm.isRef = true)
def E (u : Int32) (r : Option Value) (s w : State) : Prop := XT.PureE (some (.int (chr8 u))) r s w
theorem law (l : Launch) (t : Addr) (V : Cell) (i : Nat) (u : Int32) (fm : Value) : Law l yN 2 2 2 27 yB 2 (some .char) site (P t V i u fm) (E u) [] 0 0 := by
  refine Law.of_walk (plainFor_of_name (by decide +kernel)) (by decide +kernel) (by decide +kernel) (by decide) (fun _ _ h => by rw [h.1]; rfl) (fun _ U U' hal hh h => ⟨h.1, h.2.1.mv hal hh, h.2.2.1, h.2.2.2.1.there hal hh, h.2.2.2.2⟩) (fun r U U' V V' h1 hal h2 h => XT.PureE.mv r U U' V V' h1 hal h2 h) ?_
  intro p e s m args below meth c s₁ X0 hexec hbytes hml hret hlk hnm hown hh0 W hP
  obtain ⟨rfl, hV, hu, s1, rf⟩ := hP
  have v31 := hV.2.2.2
  have hi : i < V.slots.size := (Array.getElem?_eq_some_iff.mp hu).1
  have c1 : Steps p.tables e below (s₁.setTop (entryFrame m #[.ref t, .int (Int32.ofNat i)] 2)) (s₁.setTop (mkF m 0 #[.val (.ref t), .val (.int (Int32.ofNat i))] [])) := entry rfl
  have c2 : Steps p.tables e below (s₁.setTop (entryFrame m #[.ref t, .int (Int32.ofNat i)] 2)) (s₁.setTop (mkF m 3 #[.val (.ref t), .val (.int (Int32.ofNat i))] [.int (Int32.ofNat V.slots.size), .int (Int32.ofNat i)])) := c1.trans (by
    refine XS.iloadN X0.here hexec rfl (hb hbytes d0) rfl ?_
    refine XS.aloadN X0.here hexec rfl (hb hbytes d1) rfl rfl ?_
    refine X0.alen hexec (hV.mv X0.warmed.alike hh0) rfl rfl (hb hbytes d2) ?_
    exact Steps.refl _)
  obtain ⟨v3, T3, X3, E3, g3⟩ := X0.callS hexec (JO.Str_checkIndex.law l (Int32.ofNat i) (Int32.ofNat V.slots.size) fm) hown (wks W (staticW "java/lang/StringLatin1" 9 JO.Str_checkIndex.yN)) (wk W JO.Str_checkIndex.tab) (W := 0) (Nat.le_of_ble_eq_true rfl) (Nat.le_of_ble_eq_true rfl) (Nat.le_refl _) (Nat.le_refl _) (g := (mkF m 3 #[.val (.ref t), .val (.int (Int32.ofNat i))] [.int (Int32.ofNat V.slots.size), .int (Int32.ofNat i)])) rfl (by rw [hml]; rfl) c2 (argsL := [.int (Int32.ofNat i), .int (Int32.ofNat V.slots.size)]) (rest := []) rfl rfl (by show 2 * 0 + 0 ≤ _; decide) (hb hbytes d3) (⟨rfl, rf, s1.there X0.warmed.alike hh0, Int32.ofNat_not_neg (by omega), lt32 v31 hi⟩)
  obtain ⟨rfl, q3⟩ := E3
  have hh3 := q3.trans hh0
  have c4 : Steps p.tables e below (s₁.setTop (entryFrame m #[.ref t, .int (Int32.ofNat i)] 2)) (T3.setTop (mkF m 14 #[.val (.ref t), .val (.int (Int32.ofNat i))] [.int (chr8 u)])) := Steps.trans g3 (by
    refine XS.aloadN X3.here hexec rfl (hb hbytes d6) rfl rfl ?_
    refine XS.iloadN X3.here hexec rfl (hb hbytes d7) rfl ?_
    refine X3.aget hexec (hV.mv X3.warmed.alike hh3) rfl hu rfl rfl (hb hbytes d8) ?_
    refine sipushV X3.here hexec rfl 255 (hb hbytes d9) (by decide) ?_
    refine XS.iand X3.here hexec rfl (hb hbytes d12) rfl ?_
    refine i2c X3.here hexec rfl (hb hbytes d13) rfl ?_
    exact Steps.refl _)
  exact ⟨T3, some (.int (chr8 u)), _, _, _, X3, rfl, rfl, rfl, (fun h => by cases h), ⟨rfl, hh3⟩, fun fs hl => c4.trans (X3.ireturnOut hexec hret (narrow_c _) (Or.inr (Or.inr (Or.inr (Or.inl rfl)))) (hb hbytes d14) hl)⟩
end LChA
end StrChars
namespace StrChars.Road
open Jvm Sem ClassFile Op Lib Jvm.Stand Jvm.Free Jvm.Free.XT
open Jvm.Lib.Cold (StaticIs)
theorem consq {a : Array Value} {s : State} {c : Jvm.Cond} {L : List Jvm.Cond} (h0 : c.before a s = true) (h : ∀ w ∈ L, w.before a s = true) : ∀ w ∈ c :: L, w.before a s = true := fun w hw => (List.mem_cons.mp hw).elim (fun e => e ▸ h0) (h w)
/-- the words of String.length(), either coding -/
abbrev wordsLen : List Jvm.Cond := [.code Len.yN Len.yB 1 (some .int), .initialized ST, .fieldLink ST 9 ST "value" "[B", .fieldLink ST 38 ST "COMPACT_STRINGS" "Z", .fieldLink ST 15 ST "coder" "B", .code Cdr.yN Cdr.yB 1 (some .byte), .methodLink ST 335 Cdr.yN, .declares Cdr.yN, .selects ST Cdr.yN Cdr.yN, .instanceMethod Cdr.yN]
theorem tabLen_of {a : Array Value} {s : State} (h : ∀ w ∈ wordsLen, w.before a s = true) : Len.tab.before a s = true := by
  have hc : Cdr.tab.before a s = true := unparts (wk h (.code Cdr.yN Cdr.yB 1 (some .byte))) (wks h (.initialized Cdr.yN.cls :: Cdr.site))
  have q := consq hc h
  exact unparts (wk q (.code Len.yN Len.yB 1 (some .int))) (wks q (.initialized Len.yN.cls :: Len.site))
theorem movedLen {Z s : State} {a0 args : Array Value} (hZ : Z.Warmed39 s.vm) (hw : ∀ d ∈ wordsLen, d.before a0 Z = true) : ∀ d ∈ wordsLen, d.before args s = true := fun d hd => by
  have q := hw d hd
  have t : ∀ d ∈ wordsLen, d = .arrayClass .byte ∨ (d.onTables && d.keepsFace) = true := by decide +kernel
  rcases t d hd with rfl | t
  · exact RoadKit.mvA hZ q
  · exact RoadKit.mv hZ q t
/-- the bytes of the chars cs, low before high -/
def wideBytes : List Int32 → List Value
  | [] => []
  | c :: cs => .int (lo8 c) :: .int (hi8 c) :: wideBytes cs
theorem wide_lo (d : Value) : ∀ (cs : List Int32) (j : Nat), j < cs.length → (wideBytes cs).getD (2 * j) d = .int (lo8 (cs.getD j 0))
  | [], j, h => absurd h (Nat.not_lt_zero j)
  | c :: cs, 0, _ => rfl
  | c :: cs, j + 1, h => by
    have q := wide_lo d cs j (by simpa using h)
    rw [show 2 * (j + 1) = 2 * j + 1 + 1 from by omega]
    simpa [wideBytes] using q
theorem wide_hi (d : Value) : ∀ (cs : List Int32) (j : Nat), j < cs.length → (wideBytes cs).getD (2 * j + 1) d = .int (hi8 (cs.getD j 0))
  | [], j, h => absurd h (Nat.not_lt_zero j)
  | c :: cs, 0, _ => rfl
  | c :: cs, j + 1, h => by
    have q := wide_hi d cs j (by simpa using h)
    rw [show 2 * (j + 1) + 1 = 2 * j + 1 + 1 + 1 from by omega]
    simpa [wideBytes] using q
theorem low_at (d : Value) (cs : List Int32) (j : Nat) (h : j < cs.length) : (cs.map fun c => Value.int (lo8 c)).getD j d = .int (lo8 (cs.getD j 0)) := by
  simp [List.getD_eq_getElem?_getD, h]
/-- an array of N2 bytes vs codes the chars cs by the coder cd -/
def CodA (cs : List Int32) (cd N2 : Int32) (vs : List Value) : Prop := (cd = 0 ∧ N2 = Int32.ofNat cs.length ∧ vs = (cs.map fun c => Value.int (lo8 c)) ∧ ∀ c ∈ cs, ¬ 255 < c) ∨ (cd = 1 ∧ N2 = Int32.ofNat (2 * cs.length) ∧ vs = wideBytes cs ∧ ∃ c ∈ cs, 255 < c)
theorem CodA.cod {cs : List Int32} {cd N2 : Int32} {vs : List Value} {V : Cell} (h : CodA cs cd N2 vs) (hn : 2 * cs.length < 2 ^ 31) (hs : V.slots.size = N2.toNatClampNeg) (hv : RoadKit.Has V vs (.int 0)) : Cod cd cs.length (fun j => cs.getD j 0) V := by
  rcases h with ⟨rfl, rfl, rfl, h⟩ | ⟨rfl, rfl, rfl, c, hc, hw⟩
  · rw [n32 (by omega)] at hs
    exact Or.inl ⟨rfl, hs, fun j hj => ⟨by rw [hv j (by omega), low_at _ _ _ hj], by
      have e : cs.getD j 0 = cs[j] := by simp [List.getD_eq_getElem?_getD, hj]
      show ¬ 255 < cs.getD j 0
      rw [e]; exact h _ (List.getElem_mem _)⟩⟩
  · rw [n32 (by omega)] at hs
    obtain ⟨j, hj, rfl⟩ := List.getElem_of_mem hc
    exact Or.inr ⟨rfl, hs, fun j hj => ⟨by rw [hv _ (by omega), wide_lo _ _ _ hj], by rw [hv _ (by omega), wide_hi _ _ _ hj]⟩, j, hj, by
      have e : cs.getD j 0 = cs[j] := by simp [List.getD_eq_getElem?_getD, hj]
      show 255 < cs.getD j 0
      rw [e]; exact hw⟩
/-- an object of exactly java/lang/String, its two fields found: as the laws ask it -/
theorem strObj {Z U : State} {a0 : Array Value} {kI : Nat} (wi : (Jvm.Cond.instantiable ST kI).before a0 Z = true) (al : Z.vm.Alike U.vm) {x : Addr} {v0 c0 : Value} (E : RoadKit.Exa Z U.heap x ST) (V : RoadKit.Fld Z U.heap x ST "value" "[B" v0) (C : RoadKit.Fld Z U.heap x ST "coder" "B" c0) :
    ∃ (D : Cell) (fV fC : Field), Blank ST x D U ∧ Found ST "value" "[B" fV U ∧ Found ST "coder" "B" fC U ∧ D.slots[fV.slot]? = some v0 ∧ D.slots[fC.slot]? = some c0 ∧ RoadKit.slotOf Z ST "value" "[B" = fV.slot ∧ RoadKit.slotOf Z ST "coder" "B" = fC.slot := by
  obtain ⟨D, cfV, kV, iV, fV, hD, gV, stV, knV, obV, asV, slV⟩ := V
  obtain ⟨D', cfC, kC, iC, fC, hD', gC, stC, -, -, asC, slC⟩ := C
  cases hD.symm.trans hD'
  obtain ⟨D2, kD, e1, e2, e3, e4, e5⟩ := E
  cases hD.symm.trans e1
  obtain ⟨c2, k2, i1, i2, i3, -⟩ := Cond.instantiable_spec wi
  cases e2.symm.trans i1
  cases e3.symm.trans i2
  obtain ⟨kU, u1, u2⟩ := al.2.2 _ _ e3
  exact ⟨D, fV, fC, ⟨hD, ⟨knV, fun q hq => by rw [hq] at obV; cases obV⟩, by rw [al.findClass]; exact e2, kU, u1, by rw [u2]; exact i3, by rw [u2]; exact e5 i3⟩, ⟨SBG.found_only al ⟨cfV, kV, iV, gV⟩, stV⟩, ⟨SBG.found_only al ⟨cfC, kC, iC, gC⟩, stC⟩, slV, slC, by simp [RoadKit.slotOf, gV], by simp [RoadKit.slotOf, gC]⟩
theorem sta_is {Z U : State} (al : Z.vm.Alike U.vm) {C n d : String} {v : Value} (S : RoadKit.Sta Z U.heap C n d v) : StaticIs U C n d v := by
  obtain ⟨cfS, iS, kS, fS, st, cS, t1, t2, t3, t4, t5, t6, t7⟩ := S
  exact StaticIs.there (s := { Z with heap := U.heap }) ⟨cfS, iS, kS, fS, st, cS, t1, t2, t3, t4, t5, (fun q => by rw [q] at t6; cases t6), t7⟩ al rfl
/-- **length() OF SUCH A STRING** -/
theorem lenW {p : Program} {l : Launch} {e : Env} {R : Room} {s : State} {args : Array Value} {below : List Frame} {len W : Nat} {Z : State} {a0 : Array Value} {h : Heap} (hZ : Z.Warmed39 s.vm) (hw : ∀ d ∈ wordsLen, d.before a0 Z = true) {kI : Nat} (wi : (Jvm.Cond.instantiable ST kI).before a0 Z = true)
    {x t : Addr} {kb : ClassId} {cs : List Int32} {cd N2 z : Int32} {vs : List Value} (E : RoadKit.Exa Z h x ST) (V : RoadKit.Fld Z h x ST "value" "[B" (.ref t)) (C : RoadKit.Fld Z h x ST "coder" "B" (.int cd)) (K : RoadKit.Arv Z h t kb .byte N2 vs (.int 0)) (hc : CodA cs cd N2 vs) (hb : ∀ c ∈ cs, ¬ c < 0 ∧ ¬ (65535 : Int32) < c)
    (S : RoadKit.Sta Z h ST "COMPACT_STRINGS" "Z" (.int z)) (hz : ¬ z = 0) (l2 : cs.length ≤ 4000) (hfr : 2 ≤ R.frames) (hlo : W + 25 ≤ R.locals) :
    Back l R p e below s args (⟨"java/lang/String", "length", "()I"⟩ : MethodName) len W (fun P a => a = #[.ref x] ∧ P.U.heap = h ∧ P.cells + 0 ≤ R.cells ∧ P.slots + 0 ≤ R.slots)
      (fun P _ v B => ∃ L, (v = some (.int (Int32.ofNat cs.length)) ∧ L = [] ∧ B.U.heap = h) ∧ B.locs = P.locs ++ L ∧ B.cells = P.cells + 0 ∧ B.slots = P.slots + 0) := by
  obtain ⟨A, K1, K2, K3, K4, K5, K6⟩ := K
  have hcod := hc.cod (by omega) K3 K5
  intro m meth c P g ig mk a X hg hsize hdg hW hn hp'
  obtain ⟨rfl, rfl, r1, r2⟩ := hp'
  have al : Z.vm.Alike P.U.vm := hZ.alike.trans X.warmed.alike
  obtain ⟨D, fV, fC, hB, F1, F2, g1, g2, -, -⟩ := strObj wi al E V C
  have hx : Txt x t A cd cs.length (fun j => cs.getD j 0) P.U := ⟨⟨_, hB.2.2.1, D, hB.1, rfl, by cases q : D.vm <;> first | rfl | exact absurd q (hB.2.1.2 _)⟩, Has.of hB F1 g1, Has.of hB F2 g2, ⟨K1.1, State.isArrayOf_alike al K1.2.1, K1.2.2, by rcases hcod with ⟨-, q, -⟩ | ⟨-, q, -⟩ <;> omega⟩, hcod, fun j hj => by
    have e : cs.getD j 0 = cs[j] := by simp [List.getD_eq_getElem?_getD, hj]
    show ¬ cs.getD j 0 < 0 ∧ ¬ 65535 < cs.getD j 0
    rw [e]; exact hb _ (List.getElem_mem _)⟩
  obtain ⟨v, B, X', ⟨⟨hv, hh⟩, hl, hk, hs⟩, st⟩ := Len.pays x t A cd cs.length (fun j => cs.getD j 0) z (tabLen_of (movedLen hZ hw)) hfr hlo m meth c P g ig mk _ X hg hsize hdg hW hn ⟨r1, r2, rfl, hx, sta_is al S, hz⟩
  exact ⟨v, B, X', ⟨[], ⟨hv, rfl, hh⟩, hl, hk, hs⟩, st⟩
end StrChars.Road
namespace StrChars.Road
open Jvm Sem ClassFile Op Lib Jvm.Stand Jvm.Free Jvm.Free.XT
open Jvm.Lib.Cold (StaticIs)
/-- the road's facts of a String, as the laws ask it -/
theorem txt_of {Z U : State} {a0 : Array Value} {kI : Nat} (wi : (Jvm.Cond.instantiable ST kI).before a0 Z = true) (al : Z.vm.Alike U.vm) {x t : Addr} {kb : ClassId} {cs : List Int32} {cd N2 : Int32} {vs : List Value} (E : RoadKit.Exa Z U.heap x ST) (V : RoadKit.Fld Z U.heap x ST "value" "[B" (.ref t)) (C : RoadKit.Fld Z U.heap x ST "coder" "B" (.int cd)) (K : RoadKit.Arv Z U.heap t kb .byte N2 vs (.int 0)) (hc : CodA cs cd N2 vs) (hb : ∀ c ∈ cs, ¬ c < 0 ∧ ¬ (65535 : Int32) < c) (l2 : cs.length ≤ 4000) :
    ∃ A, Txt x t A cd cs.length (fun j => cs.getD j 0) U := by
  obtain ⟨A, K1, K2, K3, K4, K5, K6⟩ := K
  have hcod := hc.cod (by omega) K3 K5
  obtain ⟨D, fV, fC, hB, F1, F2, g1, g2, -, -⟩ := strObj wi al E V C
  exact ⟨A, ⟨_, hB.2.2.1, D, hB.1, rfl, by cases q : D.vm <;> first | rfl | exact absurd q (hB.2.1.2 _)⟩, Has.of hB F1 g1, Has.of hB F2 g2, ⟨K1.1, State.isArrayOf_alike al K1.2.1, K1.2.2, by rcases hcod with ⟨-, q, -⟩ | ⟨-, q, -⟩ <;> omega⟩, hcod, fun j hj => by
    have e : cs.getD j 0 = cs[j] := by simp [List.getD_eq_getElem?_getD, hj]
    show ¬ cs.getD j 0 < 0 ∧ ¬ 65535 < cs.getD j 0
    rw [e]; exact hb _ (List.getElem_mem _)⟩
end StrChars.Road
namespace StrChars
open Jvm Sem ClassFile Op Lib Jvm.Stand Jvm.Free.XT Jvm.Free.ALB Jvm.Free.JM Jvm.Free
open Jvm.Lib.Cold (StaticIs)
namespace ChN
def yN : MethodName := ⟨"java/lang/String", "charAt", "(I)C"⟩
abbrev yB : ByteArray := jdk_42_method_56_code
theorem d0 : decode yB 0 = .ok (.aload_n 0, 1) := by decide +kernel
theorem d1 : decode yB 1 = .ok (.invokevirtual 492, 3) := by decide +kernel
theorem d4 : decode yB 4 = .ok (.ifCond (.eq) 12, 3) := by decide +kernel
theorem d7 : decode yB 7 = .ok (.aload_n 0, 1) := by decide +kernel
theorem d8 : decode yB 8 = .ok (.getfield 9, 3) := by decide +kernel
theorem d11 : decode yB 11 = .ok (.iload_n 1, 1) := by decide +kernel
theorem d12 : decode yB 12 = .ok (.invokestatic 495, 3) := by decide +kernel
theorem d15 : decode yB 15 = .ok (.ireturn, 1) := by decide +kernel
def site : List Cond := [.fieldLink "java/lang/String" 9 "java/lang/String" "value" "[B", IsL.tab, LChA.tab] ++ virtW "java/lang/String" 492 "java/lang/String" IsL.yN IsL.yN ++ staticW "java/lang/String" 495 LChA.yN
def tab : Cond := tabOf yN yB 2 (some .char) site
def P (x t : Addr) (V : Cell) (n : Nat) (f : Nat → Int32) (z : Int32) (fm : Value) (i : Nat) (args : Array Value) (s : State) : Prop := args = #[.ref x, .int (Int32.ofNat i)] ∧ Txt x t V 0 n f s ∧ i < n ∧ StaticIs s "java/lang/String" "COMPACT_STRINGS" "Z" (.int z) ∧ ¬ z = 0 ∧ StaticIs s "jdk/internal/util/Preconditions" "SIOOBE_FORMATTER" "Ljava/util/function/BiFunction;" fm ∧ fm.isRef = true
def E (f : Nat → Int32) (i : Nat) (r : Option Value) (s u : State) : Prop := XT.PureE (some (.int (f i))) r s u
/-- charAt(i) of a Latin-1 String of n chars, i < n: f i -/
theorem law (l : Launch) (x t : Addr) (V : Cell) (n : Nat) (f : Nat → Int32) (z : Int32) (fm : Value) (i : Nat) : Law l yN 2 1 3 40 yB 2 (some .char) site (P x t V n f z fm i) (E f i) [] 0 0 := by
  refine Law.of_walk (plainFor_of_name (by decide +kernel)) (by decide +kernel) (by decide +kernel) (by decide) (fun _ _ h => by rw [h.1]; rfl) (fun _ U U' hal hh h => ⟨h.1, h.2.1.mv hal hh, h.2.2.1, h.2.2.2.1.there hal hh, h.2.2.2.2.1, h.2.2.2.2.2.1.there hal hh, h.2.2.2.2.2.2⟩) (fun r U U' V V' h1 hal h2 h => XT.PureE.mv r U U' V V' h1 hal h2 h) ?_
  intro p e s m args below meth c s₁ X0 hexec hbytes hml hret hlk hnm hown hh0 W hP
  obtain ⟨rfl, hx, hi, s1, hz, s3, rf⟩ := hP
  have v31 := hx.2.2.2.1.2.2.2
  have hr := hx.2.2.2.2.2 i hi
  have hx0 := hx.mv X0.warmed.alike hh0
  have c1 : Steps p.tables e below (s₁.setTop (entryFrame m #[.ref x, .int (Int32.ofNat i)] 2)) (s₁.setTop (mkF m 1 #[.val (.ref x), .val (.int (Int32.ofNat i))] [.ref x])) := Steps.trans (entry rfl) (by
    show Steps p.tables e below (s₁.setTop (mkF m 0 #[.val (.ref x), .val (.int (Int32.ofNat i))] [])) _
    refine XS.aloadN X0.here hexec rfl (hb hbytes d0) rfl rfl ?_
    exact Steps.refl _)
  obtain ⟨v2, T2, X2, E2, g2⟩ := X0.callV hexec (IsL.law l x 0 z) hown (wks W (virtW "java/lang/String" 492 "java/lang/String" IsL.yN IsL.yN)) rfl (by decide) (wk W IsL.tab) (W := 0) (Nat.le_of_ble_eq_true rfl) (Nat.le_of_ble_eq_true rfl) (Nat.le_refl _) (Nat.le_refl _) (hx0.1.fc X0.warmed.alike) hx0.1.is (g := (mkF m 1 #[.val (.ref x), .val (.int (Int32.ofNat i))] [.ref x])) rfl (by rw [hml]; rfl) c1 (argsL := []) (rest := []) rfl rfl (by show 2 * 0 + 0 ≤ _; decide) (hb hbytes d1) (⟨rfl, hx0.2.2.1, hx.2.2.2.2.1.cd, s1.there X0.warmed.alike hh0, hz⟩)
  obtain ⟨rfl, q2⟩ := E2
  have hh2 := q2.trans hh0
  have hx2 := hx.mv X2.warmed.alike hh2
  obtain ⟨-, k1, k2⟩ | ⟨k0, -⟩ := hx.2.2.2.2.1
  · have c3 : Steps p.tables e below (s₁.setTop (entryFrame m #[.ref x, .int (Int32.ofNat i)] 2)) (T2.setTop (mkF m 8 #[.val (.ref x), .val (.int (Int32.ofNat i))] [.ref x])) := Steps.trans g2 (by
      refine XS.ifNo X2.here hexec rfl (hb hbytes d4) rfl (i0_eq_f (by decide)) ?_
      refine XS.aloadN X2.here hexec rfl (hb hbytes d7) rfl rfl ?_
      exact Steps.refl _)
    obtain ⟨T4, X4, q4, st4⟩ := X2.hget hexec hown (wk W (.fieldLink "java/lang/String" 9 "java/lang/String" "value" "[B")) hx2.2.1 (g := (mkF m 8 #[.val (.ref x), .val (.int (Int32.ofNat i))] [.ref x])) rfl (rest := []) rfl (hb hbytes d8)
    have hh4 := q4.trans hh2
    have c5 : Steps p.tables e below (s₁.setTop (entryFrame m #[.ref x, .int (Int32.ofNat i)] 2)) (T4.setTop (mkF m 12 #[.val (.ref x), .val (.int (Int32.ofNat i))] [.int (Int32.ofNat i), .ref t])) := (c3.trans (st4 _ (Steps.refl _))).trans (by
      refine XS.iloadN X4.here hexec rfl (hb hbytes d11) rfl ?_
      exact Steps.refl _)
    obtain ⟨v6, T6, X6, E6, g6⟩ := X4.callS hexec (LChA.law l t V i (lo8 (f i)) fm) hown (wks W (staticW "java/lang/String" 495 LChA.yN)) (wk W LChA.tab) (W := 0) (Nat.le_of_ble_eq_true rfl) (Nat.le_of_ble_eq_true rfl) (Nat.le_refl _) (Nat.le_refl _) (g := (mkF m 12 #[.val (.ref x), .val (.int (Int32.ofNat i))] [.int (Int32.ofNat i), .ref t])) rfl (by rw [hml]; rfl) c5 (argsL := [.ref t, .int (Int32.ofNat i)]) (rest := []) rfl rfl (by show 2 * 0 + 0 ≤ _; decide) (hb hbytes d12) (⟨rfl, hx.2.2.2.1.mv X4.warmed.alike hh4, (k2 i hi).1, s3.there X4.warmed.alike hh4, rf⟩)
    obtain ⟨rfl, q6⟩ := E6
    rw [chr8_lo8 hr.1 (k2 i hi).2] at g6
    exact ⟨T6, some (.int (f i)), _, _, _, X6, rfl, rfl, rfl, (fun h => by cases h), ⟨rfl, q6.trans hh4⟩, fun fs hl => Steps.trans g6 (X6.ireturnOut hexec hret (narrow_ch hr.1 hr.2) (Or.inr (Or.inr (Or.inr (Or.inl rfl)))) (hb hbytes d15) hl)⟩
  · exact absurd k0 (by decide)
theorem pays {l : Launch} {R : Room} {p : Program} {e : Env} {below : List Frame} {s : State} {sargs : Array Value} {len W : Nat} (x t : Addr) (V : Cell) (n : Nat) (f : Nat → Int32) (z : Int32) (fm : Value) (i : Nat) (htab : tab.before sargs s = true) (hfr : 4 ≤ R.frames) (hlo : W + 53 ≤ R.locals) :
    Back l R p e below s sargs yN len W (fun A₁ a₁ => A₁.cells + 0 ≤ R.cells ∧ A₁.slots + 0 ≤ R.slots ∧ P x t V n f z fm i a₁ A₁.U) (fun A₁ _ v₁ B₁ => E f i v₁ A₁.U B₁.U ∧ B₁.locs = A₁.locs ++ [] ∧ B₁.cells = A₁.cells + 0 ∧ B₁.slots = A₁.slots + 0) :=
  (law l x t V n f z fm i).pays htab hfr (by omega)
end ChN
end StrChars
namespace StrChars.Road
open Jvm Sem ClassFile Op Lib Jvm.Stand Jvm.Free Jvm.Free.XT
open Jvm.Lib.Cold (StaticIs)
/-- the words of String.charAt(int), the Latin-1 road alone -/
abbrev wordsChN : List Jvm.Cond := [.code ChN.yN ChN.yB 2 (some .char), .initialized ST, .fieldLink ST 9 ST "value" "[B", .fieldLink ST 38 ST "COMPACT_STRINGS" "Z", .fieldLink ST 15 ST "coder" "B", .code IsL.yN IsL.yB 1 (some .boolean), .methodLink ST 492 IsL.yN, .declares IsL.yN, .selects ST IsL.yN IsL.yN, .instanceMethod IsL.yN,
  .methodLink ST 495 LChA.yN, .static LChA.yN, .code LChA.yN LChA.yB 2 (some .char), .initialized "java/lang/StringLatin1", .methodLink "java/lang/StringLatin1" 9 JO.Str_checkIndex.yN, .static JO.Str_checkIndex.yN, .code JO.Str_checkIndex.yN JO.Str_checkIndex.yB 2 none,
  .fieldLink ST 1053 "jdk/internal/util/Preconditions" "SIOOBE_FORMATTER" "Ljava/util/function/BiFunction;", .methodLink ST 1059 JC.PreCheck.yN, .static JC.PreCheck.yN, .code JC.PreCheck.yN JC.PreCheck.yB 3 (some .int), .initialized "jdk/internal/util/Preconditions"]
theorem tabChN_of {a : Array Value} {s : State} (h : ∀ w ∈ wordsChN, w.before a s = true) : ChN.tab.before a s = true := by
  have hp : JC.PreCheck.tab.before a s = true := unparts (wk h (.code JC.PreCheck.yN JC.PreCheck.yB 3 (some .int))) (wks h (.initialized JC.PreCheck.yN.cls :: JC.PreCheck.site))
  have qk := consq hp h
  have hk : JO.Str_checkIndex.tab.before a s = true := unparts (wk qk (.code JO.Str_checkIndex.yN JO.Str_checkIndex.yB 2 none)) (wks qk (.initialized JO.Str_checkIndex.yN.cls :: JO.Str_checkIndex.site))
  have ql := consq hk h
  have hl : LChA.tab.before a s = true := unparts (wk ql (.code LChA.yN LChA.yB 2 (some .char))) (wks ql (.initialized LChA.yN.cls :: LChA.site))
  have hi : IsL.tab.before a s = true := unparts (wk h (.code IsL.yN IsL.yB 1 (some .boolean))) (wks h (.initialized IsL.yN.cls :: IsL.site))
  have q := consq hi (consq hl h)
  exact unparts (wk q (.code ChN.yN ChN.yB 2 (some .char))) (wks q (.initialized ChN.yN.cls :: ChN.site))
theorem movedChN {Z s : State} {a0 args : Array Value} (hZ : Z.Warmed39 s.vm) (hw : ∀ d ∈ wordsChN, d.before a0 Z = true) : ∀ d ∈ wordsChN, d.before args s = true := fun d hd => by
  have t : ∀ d ∈ wordsChN, (d.onTables && d.keepsFace) = true := by decide +kernel
  exact RoadKit.mv hZ (hw d hd) (t d hd)
/-- **charAt(i) OF A LATIN-1 STRING**, i < n: the char -/
theorem chN {p : Program} {l : Launch} {e : Env} {R : Room} {s : State} {args : Array Value} {below : List Frame} {len W : Nat} {Z : State} {a0 : Array Value} {h : Heap} (hZ : Z.Warmed39 s.vm) (hw : ∀ d ∈ wordsChN, d.before a0 Z = true) {kI : Nat} (wi : (Jvm.Cond.instantiable ST kI).before a0 Z = true)
    {x t : Addr} {kb : ClassId} {cs : List Int32} {N2 z : Int32} {vs : List Value} {fm : Value} {i : Nat} {j : Int32} (E : RoadKit.Exa Z h x ST) (V : RoadKit.Fld Z h x ST "value" "[B" (.ref t)) (C : RoadKit.Fld Z h x ST "coder" "B" (.int 0)) (K : RoadKit.Arv Z h t kb .byte N2 vs (.int 0)) (hc : CodA cs 0 N2 vs) (hb : ∀ c ∈ cs, ¬ c < 0 ∧ ¬ (65535 : Int32) < c)
    (S : RoadKit.Sta Z h ST "COMPACT_STRINGS" "Z" (.int z)) (hz : ¬ z = 0) (F : RoadKit.Sta Z h "jdk/internal/util/Preconditions" "SIOOBE_FORMATTER" "Ljava/util/function/BiFunction;" fm) (rf : fm.isRef = true) (l2 : cs.length ≤ 4000) (hi : i < cs.length) (hj : j = Int32.ofNat i) (hfr : 4 ≤ R.frames) (hlo : W + 53 ≤ R.locals) :
    Back l R p e below s args (⟨"java/lang/String", "charAt", "(I)C"⟩ : MethodName) len W (fun P a => a = #[.ref x, .int j] ∧ P.U.heap = h ∧ P.cells + 0 ≤ R.cells ∧ P.slots + 0 ≤ R.slots)
      (fun P _ v B => ∃ L, (v = some (.int (cs.getD i 0)) ∧ L = [] ∧ B.U.heap = h) ∧ B.locs = P.locs ++ L ∧ B.cells = P.cells + 0 ∧ B.slots = P.slots + 0) := by
  subst hj
  intro m meth c P g ig mk a X hg hsize hdg hW hn hp'
  obtain ⟨rfl, rfl, r1, r2⟩ := hp'
  have al : Z.vm.Alike P.U.vm := hZ.alike.trans X.warmed.alike
  obtain ⟨A, hx⟩ := txt_of wi al E V C K hc hb l2
  obtain ⟨v, B, X', ⟨⟨hv, hh⟩, hl, hk, hs⟩, st⟩ := ChN.pays x t A cs.length (fun j => cs.getD j 0) z fm i (tabChN_of (movedChN hZ hw)) hfr hlo m meth c P g ig mk _ X hg hsize hdg hW hn ⟨r1, r2, rfl, hx, hi, sta_is al S, hz, sta_is al F, rf⟩
  exact ⟨v, B, X', ⟨[], ⟨hv, rfl, hh⟩, hl, hk, hs⟩, st⟩
/-- what backV says of its String, as the contracts of this text ask it: cs's low bytes, coder 0 -/
theorem codOf {cs : List Int32} {n : Nat} (hn : cs.length = n) (hb : ∀ c ∈ cs, ¬ 255 < c) : CodA cs 0 (Int32.ofNat n) ((cs.map lo8).map Value.int) := Or.inl ⟨rfl, by rw [hn], by simp [List.map_map, Function.comp_def], hb⟩
end StrChars.Road
end Jvm.Pilot.@@N@@

namespace Jvm.Pilot.@@N@@
open Jvm Jvm.ClassFile Sem Op Lib Jvm.Free Jvm.Stand Jvm.LawKit Jvm.RoadKit Bundle Jvm.Pilot.@@N@@.Jvm.D
abbrev hWt (a0 : Array Value) (Z : State) : Prop := ∀ d ∈ tables_1, d.before a0 Z = true
abbrev vR (x : Nat) : Slot := .val (.ref x)
abbrev vI (x : Int32) : Slot := .val (.int x)
/-- what is left to show at a state of the walk -/
def own_G (p : Program) (e : Env) (below : List Frame) (Q : Outcome → State → Prop) (S : State) : Prop := ∃ s₂ o, Steps p.tables e below S s₂ ∧ s₂.status = .running ∧ Ended s₂ below o ∧ Q o s₂
theorem own_st {p : Program} {e : Env} {below : List Frame} {Q : Outcome → State → Prop} {S S' : State} (h : ∀ t, Steps p.tables e below S' t → Steps p.tables e below S t) (g : own_G p e below Q S') : own_G p e below Q S := by
  obtain ⟨s₂, o, a, b⟩ := g
  exact ⟨s₂, o, h _ a, b⟩
theorem s_iloadN {p : Program} {l : Launch} {e : Env} {R : Room} {s : State} {m : MethodId} {args : Array Value} {below : List Frame} {meth : Method} {c : Code} {T : State} {locs : List Loc} {cells slots : Nat} {Q : Outcome → State → Prop} {pc : Nat} {Ls : Array Slot} {S : List Value} (X : Stand p l e R s m args below meth c T locs cells slots) (hx : p.tables.exec = Jvm.exec) {k : Fin 4} {v : Int32} (hd : decode c.code pc = .ok (.iload_n k, 1)) (hl : Ls[k.val]? = some (.val (.int v))) (k : own_G p e below Q (T.setTop (mkF m (pc + 1) Ls (.int v :: S)))) : own_G p e below Q (T.setTop (mkF m pc Ls S)) := own_st (fun tq kq => XS.iloadN X.here hx rfl hd hl kq) k
theorem s_iload {p : Program} {l : Launch} {e : Env} {R : Room} {s : State} {m : MethodId} {args : Array Value} {below : List Frame} {meth : Method} {c : Code} {T : State} {locs : List Loc} {cells slots : Nat} {Q : Outcome → State → Prop} {pc : Nat} {Ls : Array Slot} {S : List Value} (X : Stand p l e R s m args below meth c T locs cells slots) (hx : p.tables.exec = Jvm.exec) {k : Nat} {v : Int32} (hd : decode c.code pc = .ok (.iload k, 2)) (hl : Ls[k]? = some (.val (.int v))) (k : own_G p e below Q (T.setTop (mkF m (pc + 2) Ls (.int v :: S)))) : own_G p e below Q (T.setTop (mkF m pc Ls S)) := own_st (fun tq kq => XS.iload X.here hx rfl hd hl kq) k
theorem s_aloadN {p : Program} {l : Launch} {e : Env} {R : Room} {s : State} {m : MethodId} {args : Array Value} {below : List Frame} {meth : Method} {c : Code} {T : State} {locs : List Loc} {cells slots : Nat} {Q : Outcome → State → Prop} {pc : Nat} {Ls : Array Slot} {S : List Value} (X : Stand p l e R s m args below meth c T locs cells slots) (hx : p.tables.exec = Jvm.exec) {k : Fin 4} {v : Value} (hd : decode c.code pc = .ok (.aload_n k, 1)) (hl : Ls[k.val]? = some (.val v)) (hv : v.isRef = true) (k : own_G p e below Q (T.setTop (mkF m (pc + 1) Ls (v :: S)))) : own_G p e below Q (T.setTop (mkF m pc Ls S)) := own_st (fun tq kq => XS.aloadN X.here hx rfl hd hl hv kq) k
theorem s_aload {p : Program} {l : Launch} {e : Env} {R : Room} {s : State} {m : MethodId} {args : Array Value} {below : List Frame} {meth : Method} {c : Code} {T : State} {locs : List Loc} {cells slots : Nat} {Q : Outcome → State → Prop} {pc : Nat} {Ls : Array Slot} {S : List Value} (X : Stand p l e R s m args below meth c T locs cells slots) (hx : p.tables.exec = Jvm.exec) {k : Nat} {v : Value} (hd : decode c.code pc = .ok (.aload k, 2)) (hl : Ls[k]? = some (.val v)) (hv : v.isRef = true) (k : own_G p e below Q (T.setTop (mkF m (pc + 2) Ls (v :: S)))) : own_G p e below Q (T.setTop (mkF m pc Ls S)) := own_st (fun tq kq => XS.aload X.here hx rfl hd hl hv kq) k
theorem s_iconst {p : Program} {l : Launch} {e : Env} {R : Room} {s : State} {m : MethodId} {args : Array Value} {below : List Frame} {meth : Method} {c : Code} {T : State} {locs : List Loc} {cells slots : Nat} {Q : Outcome → State → Prop} {pc : Nat} {Ls : Array Slot} {S : List Value} (X : Stand p l e R s m args below meth c T locs cells slots) (hx : p.tables.exec = Jvm.exec) {i : Int} (hd : decode c.code pc = .ok (.iconst i, 1))  (k : own_G p e below Q (T.setTop (mkF m (pc + 1) Ls (.int (Int32.ofInt i) :: S)))) : own_G p e below Q (T.setTop (mkF m pc Ls S)) := own_st (fun tq kq => XS.iconst X.here hx rfl hd  kq) k
theorem s_bipush {p : Program} {l : Launch} {e : Env} {R : Room} {s : State} {m : MethodId} {args : Array Value} {below : List Frame} {meth : Method} {c : Code} {T : State} {locs : List Loc} {cells slots : Nat} {Q : Outcome → State → Prop} {pc : Nat} {Ls : Array Slot} {S : List Value} (X : Stand p l e R s m args below meth c T locs cells slots) (hx : p.tables.exec = Jvm.exec) {i : Int} (hd : decode c.code pc = .ok (.bipush i, 2))  (k : own_G p e below Q (T.setTop (mkF m (pc + 2) Ls (.int (Int8.ofInt i).toInt32 :: S)))) : own_G p e below Q (T.setTop (mkF m pc Ls S)) := own_st (fun tq kq => XS.bipush X.here hx rfl hd  kq) k
theorem s_sipush {p : Program} {l : Launch} {e : Env} {R : Room} {s : State} {m : MethodId} {args : Array Value} {below : List Frame} {meth : Method} {c : Code} {T : State} {locs : List Loc} {cells slots : Nat} {Q : Outcome → State → Prop} {pc : Nat} {Ls : Array Slot} {S : List Value} (X : Stand p l e R s m args below meth c T locs cells slots) (hx : p.tables.exec = Jvm.exec) {i : Int} (hd : decode c.code pc = .ok (.sipush i, 3))  (k : own_G p e below Q (T.setTop (mkF m (pc + 3) Ls (.int (Int16.ofInt i).toInt32 :: S)))) : own_G p e below Q (T.setTop (mkF m pc Ls S)) := own_st (fun tq kq => XS.sipush X.here hx rfl hd  kq) k
theorem own_lt {a b : Nat} (h : a < b) : a < b := h
theorem own_le {a b : Nat} (h : a ≤ b) : a ≤ b := h
theorem own_ne {a b : Nat} (h : a ≠ b) : a ≠ b := h
theorem own_since (s : State) : s.Since s.vm 0 := (State.WarmedH.refl s).since 0
/-- a contract's start: the arguments, the tables, the heap, the constants held, what may be written is no constant's -/
def own_P (Z : State) (EL : List (String × Nat)) (as : Array Value) (h : Heap) (ws : List Addr) : Array Value → State → Prop := fun a U => a = as ∧ Z.Warmed39 U.vm ∧ U.heap = h ∧ CHv Z EL U.vm h ∧ ∀ x ∈ ws, Safe Z EL U.vm h x
/-- a contract's end -/
def own_E (Z : State) (EL : List (String × Nat)) (Q : Option Value → Vm → Heap → List Loc → Prop) (rm : Room) : Array Value → State → Outcome → State → Prop := fun _ U o U' => ∃ v L, o = .returned v ∧ Q v U'.vm U'.heap L ∧ CHr Z EL U.vm U.heap U'.vm U'.heap ∧ ReturnedEndW U o U' L rm.cells rm.slots
theorem own_RW {U U' : State} {o : Outcome} {L : List Loc} {k n k' n' : Nat} (h : ReturnedEndW U o U' L k n) (h1 : k ≤ k') (h2 : n ≤ n') : ReturnedEndW U o U' L k' n' := ⟨h.1, h.2.1, h.2.2.1, h.2.2.2.mono h1 h2⟩
/-- a callee that may load constants, by its contract -/
theorem own_back {p : Program} {l : Launch} {e : Env} {R : Room} {s : State} {args : Array Value} {below : List Frame} {Z : State} {a0 : Array Value} {EL : List (String × Nat)} {h : Heap} {vm0 : Vm} {y : MethodName} {bytes : ByteArray} {maxL : Nat} {ret : Option FieldType} {rm : Room} {len W : Nat} {as' : Array Value} {ws : List Addr} {Q : Option Value → Vm → Heap → List Loc → Prop}
    (hM : MetFree l y (head1 [Cond.code y bytes maxL ret] rm) (own_P Z EL as' h ws) (fun _ _ _ _ _ => True) (own_E Z EL Q rm))
    (hZ : Z.Warmed39 vm0) (wc : (Cond.code y bytes maxL ret).before a0 Z = true) (wz : (Cond.initialized y.cls).before a0 Z = true) (hf : rm.frames + 1 ≤ R.frames) (hl : W + (maxL + 11) + rm.locals ≤ R.locals) (hEL : EW Z a0 EL) (H : CHv Z EL vm0 h) (hs : ∀ x ∈ ws, x < h.size ∧ Safe Z EL vm0 h x) :
    BackS l R p e below (s.setVm vm0) args y len W (fun A a => a = as' ∧ A.U.heap = h ∧ A.cells + rm.cells ≤ R.cells ∧ A.slots + rm.slots ≤ R.slots)
      (fun A _ v B => ∃ L, Q v B.U.vm B.U.heap L ∧ B.locs = A.locs ++ L ∧ B.cells = A.cells + rm.cells ∧ B.slots = A.slots + rm.slots ∧ CHr Z EL vm0 h B.U.vm B.U.heap) := by
  refine BackS.of_freeW (bytes := bytes) (maxL := maxL) (ret := ret) (E := fun _ first o t L k n => k = rm.cells ∧ n = rm.slots ∧ (∃ v, o = .returned v ∧ Q v t.vm t.heap L) ∧ CHr Z EL first.vm first.heap t.vm t.heap) hM hf hl ?_ ?_ (fun _ _ _ _ _ _ _ _ _ => trivial) ?_ ?_
  · intro m meth c A a Y hp
    have hU : Z.Warmed39 A.U.vm := wtrans (s := s.setVm vm0) hZ Y.warmed
    exact ⟨by show (Cond.and _ .tt).before a A.U = true; rw [Cond.before_and, mv hU wc]; rfl, mv hU wc, mv hU wz, hp.2.2.1, hp.2.2.2⟩
  · intro m meth c A a g mk Y hp
    have q := CHv.at Y hZ hEL H
    exact ⟨hp.1, wtrans (s := s.setVm vm0) hZ Y.warmed, hp.2.1, q.1, fun x hx => q.safe (hs x hx).1 (hs x hx).2⟩
  · rintro _ _ _ _ ⟨v, L, h1, h2, h3, h4⟩
    exact ⟨L, _, _, h4, rfl, rfl, ⟨v, h1, h2⟩, h3⟩
  · rintro m meth c A a g mk v t L k n Y hp _ _ ⟨e1, e2, ⟨v', e3, e4⟩, e5⟩
    cases e3; subst e1 e2
    refine ⟨L, e4, rfl, rfl, rfl, (CHv.at Y hZ hEL H).trans ?_⟩
    rw [← hp.2.1]; exact e5
/-- the end of a contract that loads no constant -/
def own_EN (Q : Option Value → Heap → List Loc → Prop) (rm : Room) : Array Value → State → Outcome → State → Prop := fun _ U o U' => ∃ v L, o = .returned v ∧ Q v U'.heap L ∧ FrameEnd U o U' L rm.cells rm.slots
theorem own_backN {p : Program} {l : Launch} {e : Env} {R : Room} {s : State} {args : Array Value} {below : List Frame} {Z : State} {a0 : Array Value} {h : Heap} {y : MethodName} {bytes : ByteArray} {maxL : Nat} {ret : Option FieldType} {rm : Room} {len W : Nat} {as' : Array Value} {Q : Option Value → Heap → List Loc → Prop}
    (hM : MetFree l y (head1 [Cond.code y bytes maxL ret] rm) (fun a U => a = as' ∧ Z.Warmed39 U.vm ∧ U.heap = h) (fun _ _ _ _ _ => True) (own_EN Q rm))
    (hZ : Z.Warmed39 s.vm) (wc : (Cond.code y bytes maxL ret).before a0 Z = true) (wz : (Cond.initialized y.cls).before a0 Z = true) (hf : rm.frames + 1 ≤ R.frames) (hl : W + (maxL + 11) + rm.locals ≤ R.locals) :
    Back l R p e below s args y len W (fun A a => a = as' ∧ A.U.heap = h ∧ A.cells + rm.cells ≤ R.cells ∧ A.slots + rm.slots ≤ R.slots)
      (fun A _ v B => ∃ L, Q v B.U.heap L ∧ B.locs = A.locs ++ L ∧ B.cells = A.cells + rm.cells ∧ B.slots = A.slots + rm.slots) := backOf (Q := Q) hM hZ wc wz hf hl
theorem own_wS {a0 : Array Value} {Z : State} (hw : ∀ d ∈ tables_1, d.before a0 Z = true) : ∀ a ∈ Bundle.stringAtoms, a.before a0 Z = true := fun d hd => hw d ((by decide +kernel : ∀ d ∈ Bundle.stringAtoms, d ∈ tables_1) d hd)
theorem own_and255 (x : Int32) : ¬ nar .char ((x &&& (255 : Int32)).toUInt32.toUInt16.toUInt32.toInt32) < 0 ∧ ¬ (255 : Int32) < nar .char ((x &&& (255 : Int32)).toUInt32.toUInt16.toUInt32.toInt32) := by
  have t : ∀ k : Fin 256, ¬ nar .char ((Int32.ofNat k.val).toUInt32.toUInt16.toUInt32.toInt32) < 0 ∧ ¬ (255 : Int32) < nar .char ((Int32.ofNat k.val).toUInt32.toUInt16.toUInt32.toInt32) := by decide +kernel
  have h : (x &&& 255).toBitVec.toNat < 256 := by
    simp only [Int32.toBitVec_and, BitVec.toNat_and]
    exact Nat.lt_succ_of_le Nat.and_le_right
  have e : (x &&& 255) = Int32.ofNat (x &&& 255).toBitVec.toNat := by
    apply Int32.toBitVec_inj.mp
    show _ = BitVec.ofNat 32 _
    rw [BitVec.ofNat_toNat]; simp
  rw [e]
  exact t ⟨_, h⟩
theorem own_and255b (x : Int32) : ¬ ((x &&& (255 : Int32)).toUInt32.toUInt16.toUInt32.toInt32) < 0 ∧ ¬ (255 : Int32) < ((x &&& (255 : Int32)).toUInt32.toUInt16.toUInt32.toInt32) := by
  have e : nar .char ((x &&& (255 : Int32)).toUInt32.toUInt16.toUInt32.toInt32) = ((x &&& (255 : Int32)).toUInt32.toUInt16.toUInt32.toInt32) := by simp only [nar, UInt32.toUInt32_toInt32, UInt16.toUInt16_toUInt32]
  have q := own_and255 x
  rw [e] at q
  exact q
/-- a word of the sheet -/
theorem own_wd {a0 : Array Value} {Z : State} (hw : hWt a0 Z) (i : Nat) {d : Cond} (h : tables_1[i]? = some d) : d.before a0 Z = true := hw _ (List.mem_of_getElem? h)
/-- a contract that loads no constant -/
abbrev own_MN (l : Launch) (y : MethodName) (bytes : ByteArray) (maxL : Nat) (ret : Option FieldType) (ws : List Cond) (rm : Room) (Z : State) (A : Array Value) (h0 : Heap) (Q : Option Value → Heap → List Loc → Prop) : Prop := MetFree l y (head1 (Cond.code y bytes maxL ret :: ws) rm) (fun av_ U => av_ = A ∧ Z.Warmed39 U.vm ∧ U.heap = h0) (fun _ _ _ _ _ => True) (own_EN Q rm)
/-- its body's walk -/
theorem own_bodyN {l : Launch} {y : MethodName} {bytes : ByteArray} {maxL : Nat} {ret : Option FieldType} {ws : List Cond} {rm : Room} {Z : State} {A : Array Value} {h0 : Heap} {Q : Option Value → Heap → List Loc → Prop} (hy : plainFor y = true)
    (k : ∀ p e s m below meth c s₁, BodyLoose p l y (head1 (Cond.code y bytes maxL ret :: ws) rm) bytes maxL ret e s m A below meth c s₁ → p.tables.exec = Jvm.exec → c.code = bytes → c.maxLocals = maxL → s.vm.findClass y.cls = some m.cls → Z.Warmed39 s.vm → Stand p l e rm s m A below meth c s₁ [] 0 0 → s₁.heap = h0 → own_G p e below (own_EN Q rm A s) (s₁.setTop (entryFrame m A maxL))) : own_MN l y bytes maxL ret ws rm Z A h0 Q := by
  refine MetFree.of_bodySF hy hisR ?_
  intro p e s m args below meth c s₁ Bd hml hP hK
  obtain ⟨rfl, hZ, hh⟩ := hP
  exact k p e s m below meth c s₁ Bd Bd.exec Bd.bytes hml (findClass_of_methodNamed Bd.named) hZ (Stand.of_body Bd) (by rw [← hh, Bd.state]; rfl)
/-- a law's end, the constants no more looked at -/
def own_E0 (Q : Option Value → Vm → Heap → List Loc → Prop) (rm : Room) : Array Value → State → Outcome → State → Prop := fun _ U o U' => ∃ v L, o = .returned v ∧ Q v U'.vm U'.heap L ∧ ReturnedEndW U o U' L rm.cells rm.slots
/-- leaving a contract that loads no constant -/
theorem own_retN {p : Program} {l : Launch} {e : Env} {R : Room} {s : State} {m : MethodId} {args : Array Value} {below : List Frame} {meth : Method} {c : Code} {T : State} {locs : List Loc} {cells slots : Nat} (X : Stand p l e R s m args below meth c T locs cells slots) {v : Option Value} (hv : meth.sig.returnType = none → v = none) (hlk : meth.locks = false) {g : JFrame} (hr : ∀ fs, (∀ (f : JFrame) (acts : List Action), f.method = m → f.locked = none → f.entered = [] → (doReturn e (T.setTop f) acts v).1 = T.setFrames fs) → Steps p.tables e below (T.setTop g) (T.setFrames fs)) {Q : Option Value → Heap → List Loc → Prop} {rm : Room} {A : Array Value} (hc : cells ≤ rm.cells) (hs : slots ≤ rm.slots) (hq : Q v T.heap locs) : own_G p e below (own_EN Q rm A s) (T.setTop g) := by
  obtain ⟨fs, h1, h2, h3, h4, h5⟩ := X.leave hv hlk
  exact ⟨_, _, hr fs h1, h2, h3, _, _, rfl, hq, ⟨_, rfl⟩, h4, h5.mono hc hs⟩
/-- a byte stored into an array of our own, the constants kept -/
theorem own_bst {p : Program} {l : Launch} {e : Env} {R : Room} {s : State} {m : MethodId} {args : Array Value} {below : List Frame} {meth : Method} {c : Code} {T : State} {locs : List Loc} {cells slots : Nat} {Z : State} {h h0 : Heap} {EL : List (String × Nat)} {vm0 vm : Vm} (X : Stand p l e R s m args below meth c T locs cells slots) (hx : p.tables.exec = Jvm.exec) (hZ : Z.Warmed39 s.vm) (eT : T.heap = h) {a : Nat} {k : ClassId} {z : Int32} {vs : List Value} {dv : Value} (V : Arv Z h a k .byte z vs dv) (K : Keep h0 h []) {n0 : Nat} (N : Fr n0 locs) (C : CHr Z EL vm0 h0 vm h) (Sf : Safe Z EL vm h a) (g0 : n0 ≤ a) (g1 : h0.size ≤ a) {j x : Int32} (hj : ¬ j < 0 ∧ j < z) (i : Nat) (hi : j.toNatClampNeg = i) (hl : i < vs.length) {g : JFrame} (hg : g.method = m) {rest : List Value} (hs : g.stack = .int x :: .int j :: .ref a :: rest) (hd : decode c.code g.pc = .ok (.bastore, 1)) :
    ∃ T' h' L', Stand p l e R s m args below meth c T' L' cells slots ∧ T'.heap = h' ∧ Arv Z h' a k .byte z (vs.set i (.int (nar .byte x))) dv ∧ Keep h0 h' [] ∧ Fr n0 L' ∧ CHr Z EL vm0 h0 vm h' ∧ Safe Z EL vm h' a ∧ Wr h h' a j.toNatClampNeg (.int (nar .byte x)) ∧ ∀ target, Steps p.tables e below (T'.setTop { g with pc := g.pc + 1, stack := rest }) target → Steps p.tables e below (T.setTop g) target := by
  obtain ⟨cl, Ar, q, S_, N_, H_, G_⟩ := id V
  obtain ⟨T', h', X', e', W, st⟩ := stB X hx hZ eT Ar (inb_of S_ hj) hg hs hd
  have cc := CHr.wr W Sf C.1
  exact ⟨T', h', _, X', e', Arv.set Ar q S_ N_ H_ G_ (fits_nar_byte _) W i hi hl, K.wr W (Or.inr g1), Fr.snoc X' N g0, C.trans cc, cc.safe V.lt Sf, W, st⟩

/-- a String of known chars below 256; a, and its byte[], lie below n -/
def own_Str (Z : State) (n : Nat) (h : Heap) (a : Nat) (cs : List Int32) : Prop := a < n ∧ Exa Z h a "java/lang/String" ∧ (∀ c ∈ cs, ¬ c < 0 ∧ ¬ (255 : Int32) < c) ∧ cs.length ≤ 4000 ∧ ∃ (t : Nat) (kb : ClassId), t < n ∧ Fld Z h a "java/lang/String" "value" "[B" (.ref t) ∧ Fld Z h a "java/lang/String" "coder" "B" (.int 0) ∧ Arv Z h t kb .byte (Int32.ofNat cs.length) ((cs.map fun c => c.toInt8.toInt32).map Value.int) (.int 0)
theorem own_Str.keep {Z : State} {n : Nat} {h h' : Heap} {a : Nat} {cs : List Int32} {ws : List Addr} (F : own_Str Z n h a cs) (K : Keep h h' ws) (q : ∀ x ∈ ws, n ≤ x) : own_Str Z n h' a cs := by
  obtain ⟨f1, f2, f3, f4, t, kb, f5, f6, f7, f8⟩ := F
  exact ⟨f1, f2.keep K, f3, f4, t, kb, f5, f6.keep K (fun m => absurd f1 (Nat.not_lt.mpr (q _ m))), f7.keep K (fun m => absurd f1 (Nat.not_lt.mpr (q _ m))), f8.keep K (fun m => absurd f5 (Nat.not_lt.mpr (q _ m)))⟩
theorem own_Str.keepX {Z : State} {a0 : Array Value} {n k : Nat} {h h' : Heap} {a x : Nat} {C : String} {cs : List Int32} (F : own_Str Z n h a cs) (K : Keep h h' [x]) (E : Exa Z h x C) (w : (Cond.instantiable C k).before a0 Z = true) (hC : C ≠ "java/lang/String") : own_Str Z n h' a cs := by
  obtain ⟨f1, f2, f3, f4, t, kb, f5, f6, f7, f8⟩ := F
  have n1 : a ≠ x := fun q => (E.ne f2 hC) q.symm
  have n2 : t ≠ x := fun q => (E.neArv f8 w) q.symm
  exact ⟨f1, f2.keep K, f3, f4, t, kb, f5, f6.keep K (ninS n1 nin0), f7.keep K (ninS n1 nin0), f8.keep K (ninS n2 nin0)⟩
theorem own_Str.ext {Z : State} {n : Nat} {h h' : Heap} {a : Nat} {cs : List Int32} (F : own_Str Z n h a cs) (E : Ext h h') : own_Str Z n h' a cs := by
  obtain ⟨f1, f2, f3, f4, t, kb, f5, f6, f7, f8⟩ := F
  exact ⟨f1, f2.ext E, f3, f4, t, kb, f5, f6.ext E, f7.ext E, f8.ext E⟩
theorem own_Str.wr {Z : State} {n : Nat} {h h' : Heap} {a b : Nat} {sl : Nat} {v : Value} {cs : List Int32} (F : own_Str Z n h a cs) (W : Wr h h' b sl v) (q : n ≤ b) : own_Str Z n h' a cs := F.keep (Keep.of_wr W) (allS q all0)
theorem own_Str.mono {Z : State} {n n' : Nat} {h : Heap} {a : Nat} {cs : List Int32} (F : own_Str Z n h a cs) (q : n ≤ n') : own_Str Z n' h a cs := by
  obtain ⟨f1, f2, f3, f4, t, kb, f5, f6⟩ := F
  exact ⟨Nat.lt_of_lt_of_le f1 q, f2, f3, f4, t, kb, Nat.lt_of_lt_of_le f5 q, f6⟩
abbrev rm_0_0_0_0 : Room := { frames := 0, cells := 0, slots := 0, locals := 0 }
abbrev rm_1_0_0_12 : Room := { frames := 1, cells := 0, slots := 0, locals := 12 }
abbrev rm_1_0_0_20 : Room := { frames := 1, cells := 0, slots := 0, locals := 20 }
abbrev rm_1_0_0_40 : Room := { frames := 1, cells := 0, slots := 0, locals := 40 }
abbrev rm_1_1_16_12 : Room := { frames := 1, cells := 1, slots := 16, locals := 12 }
abbrev rm_1_1_16_40 : Room := { frames := 1, cells := 1, slots := 16, locals := 40 }
abbrev rm_1_2_4_12 : Room := { frames := 1, cells := 2, slots := 4, locals := 12 }
abbrev rm_2_0_0_60 : Room := { frames := 2, cells := 0, slots := 0, locals := 60 }
abbrev rm_2_1_16_28 : Room := { frames := 2, cells := 1, slots := 16, locals := 28 }
abbrev rm_2_1_16_58 : Room := { frames := 2, cells := 1, slots := 16, locals := 58 }
abbrev rm_2_2_4_29 : Room := { frames := 2, cells := 2, slots := 4, locals := 29 }
abbrev rm_3_0_0_80 : Room := { frames := 3, cells := 0, slots := 0, locals := 80 }
abbrev rm_3_1_16_76 : Room := { frames := 3, cells := 1, slots := 16, locals := 76 }
abbrev rm_4_0_0_64 : Room := { frames := 4, cells := 0, slots := 0, locals := 64 }
abbrev rm_4_0_0_98 : Room := { frames := 4, cells := 0, slots := 0, locals := 98 }
abbrev rm_4_1_16_94 : Room := { frames := 4, cells := 1, slots := 16, locals := 94 }
abbrev rm_5_2_20_110 : Room := { frames := 5, cells := 2, slots := 20, locals := 110 }
abbrev rm_6_4_16_130 : Room := { frames := 6, cells := 4, slots := 16, locals := 130 }
abbrev rm_6_6_60_130 : Room := { frames := 6, cells := 6, slots := 60, locals := 130 }
abbrev mN0 : MethodName := ⟨"java/lang/String", "<init>", "([CIILjava/lang/Void;)V"⟩
abbrev mN1 : MethodName := ⟨"java/lang/String", "<init>", "([C)V"⟩
abbrev mN2 : MethodName := ⟨"java/lang/String", "coder", "()B"⟩
abbrev mN3 : MethodName := ⟨"java/lang/AbstractStringBuilder", "ensureCapacityInternal", "(I)V"⟩
abbrev mN4 : MethodName := ⟨"java/lang/AbstractStringBuilder", "inflateIfNeededFor", "(Ljava/lang/String;)V"⟩
abbrev mN5 : MethodName := ⟨"java/lang/String", "getBytes", "([BIB)V"⟩
abbrev mN6 : MethodName := ⟨"java/lang/AbstractStringBuilder", "putStringAt", "(ILjava/lang/String;)V"⟩
abbrev mN7 : MethodName := ⟨"java/lang/AbstractStringBuilder", "append", "(Ljava/lang/String;)Ljava/lang/AbstractStringBuilder;"⟩
abbrev mN8 : MethodName := ⟨"java/lang/String", "length", "()I"⟩
abbrev mN9 : MethodName := ⟨"java/lang/StringBuilder", "append", "(Ljava/lang/String;)Ljava/lang/StringBuilder;"⟩
abbrev mN10 : MethodName := ⟨"java/lang/AbstractStringBuilder", "<init>", "(I)V"⟩
abbrev mN11 : MethodName := ⟨"java/lang/StringBuilder", "<init>", "()V"⟩
abbrev mN12 : MethodName := ⟨"java/lang/AbstractStringBuilder", "getValue", "()[B"⟩
abbrev mN13 : MethodName := ⟨"java/lang/AbstractStringBuilder", "length", "()I"⟩
abbrev mN14 : MethodName := ⟨"java/lang/StringBuilder", "length", "()I"⟩
abbrev mN15 : MethodName := ⟨"java/lang/AbstractStringBuilder", "isLatin1", "()Z"⟩
abbrev mN16 : MethodName := ⟨"java/util/Arrays", "checkLength", "(II)V"⟩
abbrev mN17 : MethodName := ⟨"java/lang/Math", "min", "(II)I"⟩
abbrev mN18 : MethodName := ⟨"java/util/Arrays", "copyOfRangeByte", "([BII)[B"⟩
abbrev mN19 : MethodName := ⟨"java/util/Arrays", "copyOfRange", "([BII)[B"⟩
abbrev mN20 : MethodName := ⟨"java/lang/String", "<init>", "(Ljava/lang/AbstractStringBuilder;Ljava/lang/Void;)V"⟩
abbrev mN21 : MethodName := ⟨"java/lang/String", "<init>", "(Ljava/lang/StringBuilder;)V"⟩
abbrev mN22 : MethodName := ⟨"java/lang/StringBuilder", "toString", "()Ljava/lang/String;"⟩
abbrev mN23 : MethodName := ⟨"com/example/garm/garm/ClaimToStringPinLaw", "len", "(I)I"⟩
abbrev mN24 : MethodName := ⟨"com/example/garm/garm/ClaimToStringPinLaw", "c0", "(I)C"⟩
abbrev mN25 : MethodName := ⟨"com/example/garm/garm/ClaimToStringPinLaw", "c1", "(I)C"⟩
abbrev mN26 : MethodName := ⟨"com/example/garm/garm/ClaimToStringPinLaw", "c2", "(I)C"⟩
abbrev mN27 : MethodName := ⟨"com/example/garm/garm/ClaimToStringPinLaw", "str", "(I)Ljava/lang/String;"⟩
abbrev mN28 : MethodName := ⟨"com/example/garm/garm/ClaimToStringPinLaw", "part", "(Ljava/lang/String;II)Z"⟩
abbrev mN29 : MethodName := ⟨"java/lang/String", "charAt", "(I)C"⟩
abbrev mN30 : MethodName := ⟨"com/example/garm/garm/SecurityTarget$Claim", "<init>", "(Ljava/lang/String;Ljava/lang/String;Lcom/example/garm/garm/Conformance;)V"⟩
abbrev mN31 : MethodName := ⟨"com/example/garm/garm/SecurityTarget$Claim", "conformance", "()Lcom/example/garm/garm/Conformance;"⟩
abbrev mN32 : MethodName := ⟨"com/example/garm/garm/SecurityTarget$Claim", "toString", "()Ljava/lang/String;"⟩
section
variable {a0 : Array Value} {Z : State}
theorem wd18 (hw : hWt a0 Z) : (Cond.methodLink "java/lang/String" (1 : Nat) ({ cls := "java/lang/Object", name := "<init>", desc := "()V" } : MethodName)).before a0 Z = true := own_wd hw 18 rfl
theorem wd19 (hw : hWt a0 Z) : (Cond.instanceMethod ({ cls := "java/lang/Object", name := "<init>", desc := "()V" } : MethodName)).before a0 Z = true := own_wd hw 19 rfl
theorem wd20 (hw : hWt a0 Z) : (Cond.code ({ cls := "java/lang/Object", name := "<init>", desc := "()V" } : MethodName) object_method_1_code (1 : Nat) (Option.none : Option FieldType)).before a0 Z = true := own_wd hw 20 rfl
theorem wd21 (hw : hWt a0 Z) : (Cond.stringLink "java/lang/String" (7 : Nat) "").before a0 Z = true := own_wd hw 21 rfl
theorem wd27 (hw : hWt a0 Z) : (Cond.fieldLink "java/lang/String" (9 : Nat) "java/lang/String" "value" "[B").before a0 Z = true := own_wd hw 27 rfl
theorem wd23 (hw : hWt a0 Z) : (Cond.laysFinal "java/lang/String" "java/lang/String" "value" "[B").before a0 Z = true := own_wd hw 23 rfl
theorem wd8 (hw : hWt a0 Z) : (Cond.instantiable "java/lang/String" (4 : Nat)).before a0 Z = true := own_wd hw 8 rfl
theorem wd28 (hw : hWt a0 Z) : (Cond.fieldLink "java/lang/String" (15 : Nat) "java/lang/String" "coder" "B").before a0 Z = true := own_wd hw 28 rfl
theorem wd24 (hw : hWt a0 Z) : (Cond.laysFinal "java/lang/String" "java/lang/String" "coder" "B").before a0 Z = true := own_wd hw 24 rfl
theorem wd14 (hw : hWt a0 Z) : (Cond.methodLink "java/lang/String" (27 : Nat) ({ cls := "java/lang/String", name := "<init>", desc := "([CIILjava/lang/Void;)V" } : MethodName)).before a0 Z = true := own_wd hw 14 rfl
theorem wd17 (hw : hWt a0 Z) : (Cond.code ({ cls := "java/lang/String", name := "<init>", desc := "([CIILjava/lang/Void;)V" } : MethodName) jdk_42_method_149_code (6 : Nat) (Option.none : Option FieldType)).before a0 Z = true := own_wd hw 17 rfl
theorem wd9 (hw : hWt a0 Z) : (Cond.initialized "java/lang/String").before a0 Z = true := own_wd hw 9 rfl
theorem wd15 (hw : hWt a0 Z) : (Cond.instanceMethod ({ cls := "java/lang/String", name := "<init>", desc := "([CIILjava/lang/Void;)V" } : MethodName)).before a0 Z = true := own_wd hw 15 rfl
theorem wd13 (hw : hWt a0 Z) : (Cond.code ({ cls := "java/lang/String", name := "<init>", desc := "([C)V" } : MethodName) jdk_42_method_3_code (2 : Nat) (Option.none : Option FieldType)).before a0 Z = true := own_wd hw 13 rfl
theorem wd89 (hw : hWt a0 Z) : (Cond.fieldLink "java/lang/String" (38 : Nat) "java/lang/String" "COMPACT_STRINGS" "Z").before a0 Z = true := own_wd hw 89 rfl
theorem wd65 (hw : hWt a0 Z) : (Cond.fieldLink "java/lang/AbstractStringBuilder" (15 : Nat) "java/lang/AbstractStringBuilder" "value" "[B").before a0 Z = true := own_wd hw 65 rfl
theorem wd67 (hw : hWt a0 Z) : (Cond.fieldLink "java/lang/AbstractStringBuilder" (22 : Nat) "java/lang/AbstractStringBuilder" "coder" "B").before a0 Z = true := own_wd hw 67 rfl
theorem wd64 (hw : hWt a0 Z) : (Cond.fieldLink "java/lang/AbstractStringBuilder" (18 : Nat) "java/lang/String" "COMPACT_STRINGS" "Z").before a0 Z = true := own_wd hw 64 rfl
theorem wd107 (hw : hWt a0 Z) : (Cond.methodLink "java/lang/AbstractStringBuilder" (40 : Nat) ({ cls := "java/lang/String", name := "coder", desc := "()B" } : MethodName)).before a0 Z = true := own_wd hw 107 rfl
theorem wd88 (hw : hWt a0 Z) : (Cond.code ({ cls := "java/lang/String", name := "coder", desc := "()B" } : MethodName) jdk_42_method_152_code (1 : Nat) (Option.some FieldType.byte)).before a0 Z = true := own_wd hw 88 rfl
theorem wd87 (hw : hWt a0 Z) : (Cond.selects "java/lang/String" ({ cls := "java/lang/String", name := "coder", desc := "()B" } : MethodName) ({ cls := "java/lang/String", name := "coder", desc := "()B" } : MethodName)).before a0 Z = true := own_wd hw 87 rfl
theorem wd85 (hw : hWt a0 Z) : (Cond.declares ({ cls := "java/lang/String", name := "coder", desc := "()B" } : MethodName)).before a0 Z = true := own_wd hw 85 rfl
theorem wd86 (hw : hWt a0 Z) : (Cond.instanceMethod ({ cls := "java/lang/String", name := "coder", desc := "()B" } : MethodName)).before a0 Z = true := own_wd hw 86 rfl
theorem wd84 (hw : hWt a0 Z) : (Cond.methodLink "java/lang/String" (335 : Nat) ({ cls := "java/lang/String", name := "coder", desc := "()B" } : MethodName)).before a0 Z = true := own_wd hw 84 rfl
theorem wd113 (hw : hWt a0 Z) : (Cond.methodLink "java/lang/String" (212 : Nat) ({ cls := "java/lang/System", name := "arraycopy", desc := "(Ljava/lang/Object;ILjava/lang/Object;II)V" } : MethodName)).before a0 Z = true := own_wd hw 113 rfl
theorem wd116 (hw : hWt a0 Z) : (Cond.native ({ cls := "java/lang/System", name := "arraycopy", desc := "(Ljava/lang/Object;ILjava/lang/Object;II)V" } : MethodName)).before a0 Z = true := own_wd hw 116 rfl
theorem wd114 (hw : hWt a0 Z) : (Cond.static ({ cls := "java/lang/System", name := "arraycopy", desc := "(Ljava/lang/Object;ILjava/lang/Object;II)V" } : MethodName)).before a0 Z = true := own_wd hw 114 rfl
theorem wd115 (hw : hWt a0 Z) : (Cond.initialized "java/lang/System").before a0 Z = true := own_wd hw 115 rfl
theorem wd102 (hw : hWt a0 Z) : (Cond.methodLink "java/lang/AbstractStringBuilder" (397 : Nat) ({ cls := "java/lang/AbstractStringBuilder", name := "inflateIfNeededFor", desc := "(Ljava/lang/String;)V" } : MethodName)).before a0 Z = true := own_wd hw 102 rfl
theorem wd106 (hw : hWt a0 Z) : (Cond.code ({ cls := "java/lang/AbstractStringBuilder", name := "inflateIfNeededFor", desc := "(Ljava/lang/String;)V" } : MethodName) jdk_68_method_71_code (2 : Nat) (Option.none : Option FieldType)).before a0 Z = true := own_wd hw 106 rfl
theorem wd61 (hw : hWt a0 Z) : (Cond.initialized "java/lang/AbstractStringBuilder").before a0 Z = true := own_wd hw 61 rfl
theorem wd103 (hw : hWt a0 Z) : (Cond.instanceMethod ({ cls := "java/lang/AbstractStringBuilder", name := "inflateIfNeededFor", desc := "(Ljava/lang/String;)V" } : MethodName)).before a0 Z = true := own_wd hw 103 rfl
theorem wd104 (hw : hWt a0 Z) : (Cond.privateMethod ({ cls := "java/lang/AbstractStringBuilder", name := "inflateIfNeededFor", desc := "(Ljava/lang/String;)V" } : MethodName)).before a0 Z = true := own_wd hw 104 rfl
theorem wd105 (hw : hWt a0 Z) : (Cond.selects "java/lang/StringBuilder" ({ cls := "java/lang/AbstractStringBuilder", name := "inflateIfNeededFor", desc := "(Ljava/lang/String;)V" } : MethodName) ({ cls := "java/lang/AbstractStringBuilder", name := "inflateIfNeededFor", desc := "(Ljava/lang/String;)V" } : MethodName)).before a0 Z = true := own_wd hw 105 rfl
theorem wd108 (hw : hWt a0 Z) : (Cond.methodLink "java/lang/AbstractStringBuilder" (399 : Nat) ({ cls := "java/lang/String", name := "getBytes", desc := "([BIB)V" } : MethodName)).before a0 Z = true := own_wd hw 108 rfl
theorem wd112 (hw : hWt a0 Z) : (Cond.code ({ cls := "java/lang/String", name := "getBytes", desc := "([BIB)V" } : MethodName) jdk_42_method_147_code (4 : Nat) (Option.none : Option FieldType)).before a0 Z = true := own_wd hw 112 rfl
theorem wd111 (hw : hWt a0 Z) : (Cond.selects "java/lang/String" ({ cls := "java/lang/String", name := "getBytes", desc := "([BIB)V" } : MethodName) ({ cls := "java/lang/String", name := "getBytes", desc := "([BIB)V" } : MethodName)).before a0 Z = true := own_wd hw 111 rfl
theorem wd109 (hw : hWt a0 Z) : (Cond.declares ({ cls := "java/lang/String", name := "getBytes", desc := "([BIB)V" } : MethodName)).before a0 Z = true := own_wd hw 109 rfl
theorem wd110 (hw : hWt a0 Z) : (Cond.instanceMethod ({ cls := "java/lang/String", name := "getBytes", desc := "([BIB)V" } : MethodName)).before a0 Z = true := own_wd hw 110 rfl
theorem wd79 (hw : hWt a0 Z) : (Cond.methodLink "java/lang/AbstractStringBuilder" (32 : Nat) ({ cls := "java/lang/String", name := "length", desc := "()I" } : MethodName)).before a0 Z = true := own_wd hw 79 rfl
theorem wd82 (hw : hWt a0 Z) : (Cond.selects "java/lang/String" ({ cls := "java/lang/String", name := "length", desc := "()I" } : MethodName) ({ cls := "java/lang/String", name := "length", desc := "()I" } : MethodName)).before a0 Z = true := own_wd hw 82 rfl
theorem wd80 (hw : hWt a0 Z) : (Cond.declares ({ cls := "java/lang/String", name := "length", desc := "()I" } : MethodName)).before a0 Z = true := own_wd hw 80 rfl
theorem wd81 (hw : hWt a0 Z) : (Cond.instanceMethod ({ cls := "java/lang/String", name := "length", desc := "()I" } : MethodName)).before a0 Z = true := own_wd hw 81 rfl
theorem wd90 (hw : hWt a0 Z) : (Cond.fieldLink "java/lang/AbstractStringBuilder" (79 : Nat) "java/lang/AbstractStringBuilder" "count" "I").before a0 Z = true := own_wd hw 90 rfl
theorem wd92 (hw : hWt a0 Z) : (Cond.methodLink "java/lang/AbstractStringBuilder" (100 : Nat) ({ cls := "java/lang/AbstractStringBuilder", name := "ensureCapacityInternal", desc := "(I)V" } : MethodName)).before a0 Z = true := own_wd hw 92 rfl
theorem wd96 (hw : hWt a0 Z) : (Cond.code ({ cls := "java/lang/AbstractStringBuilder", name := "ensureCapacityInternal", desc := "(I)V" } : MethodName) jdk_68_method_9_code (3 : Nat) (Option.none : Option FieldType)).before a0 Z = true := own_wd hw 96 rfl
theorem wd93 (hw : hWt a0 Z) : (Cond.instanceMethod ({ cls := "java/lang/AbstractStringBuilder", name := "ensureCapacityInternal", desc := "(I)V" } : MethodName)).before a0 Z = true := own_wd hw 93 rfl
theorem wd94 (hw : hWt a0 Z) : (Cond.privateMethod ({ cls := "java/lang/AbstractStringBuilder", name := "ensureCapacityInternal", desc := "(I)V" } : MethodName)).before a0 Z = true := own_wd hw 94 rfl
theorem wd95 (hw : hWt a0 Z) : (Cond.selects "java/lang/StringBuilder" ({ cls := "java/lang/AbstractStringBuilder", name := "ensureCapacityInternal", desc := "(I)V" } : MethodName) ({ cls := "java/lang/AbstractStringBuilder", name := "ensureCapacityInternal", desc := "(I)V" } : MethodName)).before a0 Z = true := own_wd hw 95 rfl
theorem wd97 (hw : hWt a0 Z) : (Cond.methodLink "java/lang/AbstractStringBuilder" (208 : Nat) ({ cls := "java/lang/AbstractStringBuilder", name := "putStringAt", desc := "(ILjava/lang/String;)V" } : MethodName)).before a0 Z = true := own_wd hw 97 rfl
theorem wd101 (hw : hWt a0 Z) : (Cond.code ({ cls := "java/lang/AbstractStringBuilder", name := "putStringAt", desc := "(ILjava/lang/String;)V" } : MethodName) jdk_68_method_73_code (3 : Nat) (Option.none : Option FieldType)).before a0 Z = true := own_wd hw 101 rfl
theorem wd98 (hw : hWt a0 Z) : (Cond.instanceMethod ({ cls := "java/lang/AbstractStringBuilder", name := "putStringAt", desc := "(ILjava/lang/String;)V" } : MethodName)).before a0 Z = true := own_wd hw 98 rfl
theorem wd99 (hw : hWt a0 Z) : (Cond.privateMethod ({ cls := "java/lang/AbstractStringBuilder", name := "putStringAt", desc := "(ILjava/lang/String;)V" } : MethodName)).before a0 Z = true := own_wd hw 99 rfl
theorem wd100 (hw : hWt a0 Z) : (Cond.selects "java/lang/StringBuilder" ({ cls := "java/lang/AbstractStringBuilder", name := "putStringAt", desc := "(ILjava/lang/String;)V" } : MethodName) ({ cls := "java/lang/AbstractStringBuilder", name := "putStringAt", desc := "(ILjava/lang/String;)V" } : MethodName)).before a0 Z = true := own_wd hw 100 rfl
theorem wd91 (hw : hWt a0 Z) : (Cond.lays "java/lang/StringBuilder" "java/lang/AbstractStringBuilder" "count" "I").before a0 Z = true := own_wd hw 91 rfl
theorem wd52 (hw : hWt a0 Z) : (Cond.instantiable "java/lang/StringBuilder" (4 : Nat)).before a0 Z = true := own_wd hw 52 rfl
theorem wd66 (hw : hWt a0 Z) : (Cond.lays "java/lang/StringBuilder" "java/lang/AbstractStringBuilder" "value" "[B").before a0 Z = true := own_wd hw 66 rfl
theorem wd68 (hw : hWt a0 Z) : (Cond.lays "java/lang/StringBuilder" "java/lang/AbstractStringBuilder" "coder" "B").before a0 Z = true := own_wd hw 68 rfl
theorem wd74 (hw : hWt a0 Z) : (Cond.methodLink "java/lang/StringBuilder" (29 : Nat) ({ cls := "java/lang/AbstractStringBuilder", name := "append", desc := "(Ljava/lang/String;)Ljava/lang/AbstractStringBuilder;" } : MethodName)).before a0 Z = true := own_wd hw 74 rfl
theorem wd78 (hw : hWt a0 Z) : (Cond.code ({ cls := "java/lang/AbstractStringBuilder", name := "append", desc := "(Ljava/lang/String;)Ljava/lang/AbstractStringBuilder;" } : MethodName) jdk_68_method_22_code (3 : Nat) (Option.some (FieldType.object "java/lang/AbstractStringBuilder"))).before a0 Z = true := own_wd hw 78 rfl
theorem wd76 (hw : hWt a0 Z) : (Cond.superclass "java/lang/StringBuilder" "java/lang/AbstractStringBuilder").before a0 Z = true := own_wd hw 76 rfl
theorem wd75 (hw : hWt a0 Z) : (Cond.instanceMethod ({ cls := "java/lang/AbstractStringBuilder", name := "append", desc := "(Ljava/lang/String;)Ljava/lang/AbstractStringBuilder;" } : MethodName)).before a0 Z = true := own_wd hw 75 rfl
theorem wd63 (hw : hWt a0 Z) : (Cond.methodLink "java/lang/AbstractStringBuilder" (3 : Nat) ({ cls := "java/lang/Object", name := "<init>", desc := "()V" } : MethodName)).before a0 Z = true := own_wd hw 63 rfl
theorem wd57 (hw : hWt a0 Z) : (Cond.methodLink "java/lang/StringBuilder" (1 : Nat) ({ cls := "java/lang/AbstractStringBuilder", name := "<init>", desc := "(I)V" } : MethodName)).before a0 Z = true := own_wd hw 57 rfl
theorem wd62 (hw : hWt a0 Z) : (Cond.code ({ cls := "java/lang/AbstractStringBuilder", name := "<init>", desc := "(I)V" } : MethodName) jdk_68_method_2_code (2 : Nat) (Option.none : Option FieldType)).before a0 Z = true := own_wd hw 62 rfl
theorem wd58 (hw : hWt a0 Z) : (Cond.instanceMethod ({ cls := "java/lang/AbstractStringBuilder", name := "<init>", desc := "(I)V" } : MethodName)).before a0 Z = true := own_wd hw 58 rfl
theorem wd141 (hw : hWt a0 Z) : (Cond.methodLink "java/lang/StringBuilder" (343 : Nat) ({ cls := "java/lang/AbstractStringBuilder", name := "length", desc := "()I" } : MethodName)).before a0 Z = true := own_wd hw 141 rfl
theorem wd142 (hw : hWt a0 Z) : (Cond.code ({ cls := "java/lang/AbstractStringBuilder", name := "length", desc := "()I" } : MethodName) jdk_68_method_6_code (1 : Nat) (Option.some FieldType.int)).before a0 Z = true := own_wd hw 142 rfl
theorem wd137 (hw : hWt a0 Z) : (Cond.instanceMethod ({ cls := "java/lang/AbstractStringBuilder", name := "length", desc := "()I" } : MethodName)).before a0 Z = true := own_wd hw 137 rfl
theorem wd155 (hw : hWt a0 Z) : (Cond.methodLink "java/util/Arrays" (343 : Nat) ({ cls := "java/util/Arrays", name := "checkLength", desc := "(II)V" } : MethodName)).before a0 Z = true := own_wd hw 155 rfl
theorem wd157 (hw : hWt a0 Z) : (Cond.code ({ cls := "java/util/Arrays", name := "checkLength", desc := "(II)V" } : MethodName) jdk_65_method_131_code (2 : Nat) (Option.none : Option FieldType)).before a0 Z = true := own_wd hw 157 rfl
theorem wd150 (hw : hWt a0 Z) : (Cond.initialized "java/util/Arrays").before a0 Z = true := own_wd hw 150 rfl
theorem wd156 (hw : hWt a0 Z) : (Cond.static ({ cls := "java/util/Arrays", name := "checkLength", desc := "(II)V" } : MethodName)).before a0 Z = true := own_wd hw 156 rfl
theorem wd158 (hw : hWt a0 Z) : (Cond.methodLink "java/util/Arrays" (304 : Nat) ({ cls := "java/lang/Math", name := "min", desc := "(II)I" } : MethodName)).before a0 Z = true := own_wd hw 158 rfl
theorem wd161 (hw : hWt a0 Z) : (Cond.code ({ cls := "java/lang/Math", name := "min", desc := "(II)I" } : MethodName) jdk_29_method_69_code (2 : Nat) (Option.some FieldType.int)).before a0 Z = true := own_wd hw 161 rfl
theorem wd160 (hw : hWt a0 Z) : (Cond.initialized "java/lang/Math").before a0 Z = true := own_wd hw 160 rfl
theorem wd159 (hw : hWt a0 Z) : (Cond.static ({ cls := "java/lang/Math", name := "min", desc := "(II)I" } : MethodName)).before a0 Z = true := own_wd hw 159 rfl
theorem wd162 (hw : hWt a0 Z) : (Cond.methodLink "java/util/Arrays" (150 : Nat) ({ cls := "java/lang/System", name := "arraycopy", desc := "(Ljava/lang/Object;ILjava/lang/Object;II)V" } : MethodName)).before a0 Z = true := own_wd hw 162 rfl
theorem wd152 (hw : hWt a0 Z) : (Cond.methodLink "java/util/Arrays" (339 : Nat) ({ cls := "java/util/Arrays", name := "copyOfRangeByte", desc := "([BII)[B" } : MethodName)).before a0 Z = true := own_wd hw 152 rfl
theorem wd154 (hw : hWt a0 Z) : (Cond.code ({ cls := "java/util/Arrays", name := "copyOfRangeByte", desc := "([BII)[B" } : MethodName) jdk_65_method_133_code (5 : Nat) (Option.some (FieldType.array FieldType.byte))).before a0 Z = true := own_wd hw 154 rfl
theorem wd153 (hw : hWt a0 Z) : (Cond.static ({ cls := "java/util/Arrays", name := "copyOfRangeByte", desc := "([BII)[B" } : MethodName)).before a0 Z = true := own_wd hw 153 rfl
theorem wd130 (hw : hWt a0 Z) : (Cond.methodLink "java/lang/String" (552 : Nat) ({ cls := "java/lang/AbstractStringBuilder", name := "getValue", desc := "()[B" } : MethodName)).before a0 Z = true := own_wd hw 130 rfl
theorem wd134 (hw : hWt a0 Z) : (Cond.code ({ cls := "java/lang/AbstractStringBuilder", name := "getValue", desc := "()[B" } : MethodName) jdk_68_method_64_code (1 : Nat) (Option.some (FieldType.array FieldType.byte))).before a0 Z = true := own_wd hw 134 rfl
theorem wd133 (hw : hWt a0 Z) : (Cond.selects "java/lang/StringBuilder" ({ cls := "java/lang/AbstractStringBuilder", name := "getValue", desc := "()[B" } : MethodName) ({ cls := "java/lang/AbstractStringBuilder", name := "getValue", desc := "()[B" } : MethodName)).before a0 Z = true := own_wd hw 133 rfl
theorem wd131 (hw : hWt a0 Z) : (Cond.declares ({ cls := "java/lang/AbstractStringBuilder", name := "getValue", desc := "()[B" } : MethodName)).before a0 Z = true := own_wd hw 131 rfl
theorem wd132 (hw : hWt a0 Z) : (Cond.instanceMethod ({ cls := "java/lang/AbstractStringBuilder", name := "getValue", desc := "()[B" } : MethodName)).before a0 Z = true := own_wd hw 132 rfl
theorem wd135 (hw : hWt a0 Z) : (Cond.methodLink "java/lang/String" (549 : Nat) ({ cls := "java/lang/AbstractStringBuilder", name := "length", desc := "()I" } : MethodName)).before a0 Z = true := own_wd hw 135 rfl
theorem wd140 (hw : hWt a0 Z) : (Cond.code ({ cls := "java/lang/StringBuilder", name := "length", desc := "()I" } : MethodName) jdk_67_method_93_code (1 : Nat) (Option.some FieldType.int)).before a0 Z = true := own_wd hw 140 rfl
theorem wd53 (hw : hWt a0 Z) : (Cond.initialized "java/lang/StringBuilder").before a0 Z = true := own_wd hw 53 rfl
theorem wd138 (hw : hWt a0 Z) : (Cond.selects "java/lang/StringBuilder" ({ cls := "java/lang/AbstractStringBuilder", name := "length", desc := "()I" } : MethodName) ({ cls := "java/lang/StringBuilder", name := "length", desc := "()I" } : MethodName)).before a0 Z = true := own_wd hw 138 rfl
theorem wd136 (hw : hWt a0 Z) : (Cond.declares ({ cls := "java/lang/AbstractStringBuilder", name := "length", desc := "()I" } : MethodName)).before a0 Z = true := own_wd hw 136 rfl
theorem wd139 (hw : hWt a0 Z) : (Cond.instanceMethod ({ cls := "java/lang/StringBuilder", name := "length", desc := "()I" } : MethodName)).before a0 Z = true := own_wd hw 139 rfl
theorem wd143 (hw : hWt a0 Z) : (Cond.methodLink "java/lang/String" (1047 : Nat) ({ cls := "java/lang/AbstractStringBuilder", name := "isLatin1", desc := "()Z" } : MethodName)).before a0 Z = true := own_wd hw 143 rfl
theorem wd147 (hw : hWt a0 Z) : (Cond.code ({ cls := "java/lang/AbstractStringBuilder", name := "isLatin1", desc := "()Z" } : MethodName) jdk_68_method_68_code (1 : Nat) (Option.some FieldType.boolean)).before a0 Z = true := own_wd hw 147 rfl
theorem wd146 (hw : hWt a0 Z) : (Cond.selects "java/lang/StringBuilder" ({ cls := "java/lang/AbstractStringBuilder", name := "isLatin1", desc := "()Z" } : MethodName) ({ cls := "java/lang/AbstractStringBuilder", name := "isLatin1", desc := "()Z" } : MethodName)).before a0 Z = true := own_wd hw 146 rfl
theorem wd144 (hw : hWt a0 Z) : (Cond.declares ({ cls := "java/lang/AbstractStringBuilder", name := "isLatin1", desc := "()Z" } : MethodName)).before a0 Z = true := own_wd hw 144 rfl
theorem wd145 (hw : hWt a0 Z) : (Cond.instanceMethod ({ cls := "java/lang/AbstractStringBuilder", name := "isLatin1", desc := "()Z" } : MethodName)).before a0 Z = true := own_wd hw 145 rfl
theorem wd148 (hw : hWt a0 Z) : (Cond.methodLink "java/lang/String" (54 : Nat) ({ cls := "java/util/Arrays", name := "copyOfRange", desc := "([BII)[B" } : MethodName)).before a0 Z = true := own_wd hw 148 rfl
theorem wd151 (hw : hWt a0 Z) : (Cond.code ({ cls := "java/util/Arrays", name := "copyOfRange", desc := "([BII)[B" } : MethodName) jdk_65_method_132_code (3 : Nat) (Option.some (FieldType.array FieldType.byte))).before a0 Z = true := own_wd hw 151 rfl
theorem wd149 (hw : hWt a0 Z) : (Cond.static ({ cls := "java/util/Arrays", name := "copyOfRange", desc := "([BII)[B" } : MethodName)).before a0 Z = true := own_wd hw 149 rfl
theorem wd127 (hw : hWt a0 Z) : (Cond.methodLink "java/lang/String" (489 : Nat) ({ cls := "java/lang/String", name := "<init>", desc := "(Ljava/lang/AbstractStringBuilder;Ljava/lang/Void;)V" } : MethodName)).before a0 Z = true := own_wd hw 127 rfl
theorem wd129 (hw : hWt a0 Z) : (Cond.code ({ cls := "java/lang/String", name := "<init>", desc := "(Ljava/lang/AbstractStringBuilder;Ljava/lang/Void;)V" } : MethodName) jdk_42_method_150_code (5 : Nat) (Option.none : Option FieldType)).before a0 Z = true := own_wd hw 129 rfl
theorem wd128 (hw : hWt a0 Z) : (Cond.instanceMethod ({ cls := "java/lang/String", name := "<init>", desc := "(Ljava/lang/AbstractStringBuilder;Ljava/lang/Void;)V" } : MethodName)).before a0 Z = true := own_wd hw 128 rfl
theorem wd123 (hw : hWt a0 Z) : (Cond.classLink "java/lang/StringBuilder" (18 : Nat) "java/lang/String").before a0 Z = true := own_wd hw 123 rfl
theorem wd124 (hw : hWt a0 Z) : (Cond.methodLink "java/lang/StringBuilder" (137 : Nat) ({ cls := "java/lang/String", name := "<init>", desc := "(Ljava/lang/StringBuilder;)V" } : MethodName)).before a0 Z = true := own_wd hw 124 rfl
theorem wd126 (hw : hWt a0 Z) : (Cond.code ({ cls := "java/lang/String", name := "<init>", desc := "(Ljava/lang/StringBuilder;)V" } : MethodName) jdk_42_method_53_code (2 : Nat) (Option.none : Option FieldType)).before a0 Z = true := own_wd hw 126 rfl
theorem wd125 (hw : hWt a0 Z) : (Cond.instanceMethod ({ cls := "java/lang/String", name := "<init>", desc := "(Ljava/lang/StringBuilder;)V" } : MethodName)).before a0 Z = true := own_wd hw 125 rfl
theorem wd4 (hw : hWt a0 Z) : (Cond.methodLink "com/example/garm/garm/ClaimToStringPinLaw" (7 : Nat) ({ cls := "com/example/garm/garm/ClaimToStringPinLaw", name := "len", desc := "(I)I" } : MethodName)).before a0 Z = true := own_wd hw 4 rfl
theorem wd6 (hw : hWt a0 Z) : (Cond.code ({ cls := "com/example/garm/garm/ClaimToStringPinLaw", name := "len", desc := "(I)I" } : MethodName) method_2_code (1 : Nat) (Option.some FieldType.int)).before a0 Z = true := own_wd hw 6 rfl
theorem wd2 (hw : hWt a0 Z) : (Cond.initialized "com/example/garm/garm/ClaimToStringPinLaw").before a0 Z = true := own_wd hw 2 rfl
theorem wd5 (hw : hWt a0 Z) : (Cond.static ({ cls := "com/example/garm/garm/ClaimToStringPinLaw", name := "len", desc := "(I)I" } : MethodName)).before a0 Z = true := own_wd hw 5 rfl
theorem wd7 (hw : hWt a0 Z) : (Cond.classLink "com/example/garm/garm/ClaimToStringPinLaw" (13 : Nat) "java/lang/String").before a0 Z = true := own_wd hw 7 rfl
theorem wd11 (hw : hWt a0 Z) : (Cond.methodLink "com/example/garm/garm/ClaimToStringPinLaw" (15 : Nat) ({ cls := "java/lang/String", name := "<init>", desc := "([C)V" } : MethodName)).before a0 Z = true := own_wd hw 11 rfl
theorem wd12 (hw : hWt a0 Z) : (Cond.instanceMethod ({ cls := "java/lang/String", name := "<init>", desc := "([C)V" } : MethodName)).before a0 Z = true := own_wd hw 12 rfl
theorem wd198 (hw : hWt a0 Z) : (Cond.methodLink "com/example/garm/garm/ClaimToStringPinLaw" (18 : Nat) ({ cls := "com/example/garm/garm/ClaimToStringPinLaw", name := "c0", desc := "(I)C" } : MethodName)).before a0 Z = true := own_wd hw 198 rfl
theorem wd200 (hw : hWt a0 Z) : (Cond.code ({ cls := "com/example/garm/garm/ClaimToStringPinLaw", name := "c0", desc := "(I)C" } : MethodName) method_3_code (1 : Nat) (Option.some FieldType.char)).before a0 Z = true := own_wd hw 200 rfl
theorem wd199 (hw : hWt a0 Z) : (Cond.static ({ cls := "com/example/garm/garm/ClaimToStringPinLaw", name := "c0", desc := "(I)C" } : MethodName)).before a0 Z = true := own_wd hw 199 rfl
theorem wd201 (hw : hWt a0 Z) : (Cond.methodLink "com/example/garm/garm/ClaimToStringPinLaw" (22 : Nat) ({ cls := "com/example/garm/garm/ClaimToStringPinLaw", name := "c1", desc := "(I)C" } : MethodName)).before a0 Z = true := own_wd hw 201 rfl
theorem wd203 (hw : hWt a0 Z) : (Cond.code ({ cls := "com/example/garm/garm/ClaimToStringPinLaw", name := "c1", desc := "(I)C" } : MethodName) method_4_code (1 : Nat) (Option.some FieldType.char)).before a0 Z = true := own_wd hw 203 rfl
theorem wd202 (hw : hWt a0 Z) : (Cond.static ({ cls := "com/example/garm/garm/ClaimToStringPinLaw", name := "c1", desc := "(I)C" } : MethodName)).before a0 Z = true := own_wd hw 202 rfl
theorem wd214 (hw : hWt a0 Z) : (Cond.methodLink "com/example/garm/garm/ClaimToStringPinLaw" (25 : Nat) ({ cls := "com/example/garm/garm/ClaimToStringPinLaw", name := "c2", desc := "(I)C" } : MethodName)).before a0 Z = true := own_wd hw 214 rfl
theorem wd216 (hw : hWt a0 Z) : (Cond.code ({ cls := "com/example/garm/garm/ClaimToStringPinLaw", name := "c2", desc := "(I)C" } : MethodName) method_5_code (1 : Nat) (Option.some FieldType.char)).before a0 Z = true := own_wd hw 216 rfl
theorem wd215 (hw : hWt a0 Z) : (Cond.static ({ cls := "com/example/garm/garm/ClaimToStringPinLaw", name := "c2", desc := "(I)C" } : MethodName)).before a0 Z = true := own_wd hw 215 rfl
theorem wd167 (hw : hWt a0 Z) : (Cond.methodLink "com/example/garm/garm/ClaimToStringPinLaw" (28 : Nat) ({ cls := "java/lang/String", name := "charAt", desc := "(I)C" } : MethodName)).before a0 Z = true := own_wd hw 167 rfl
theorem wd170 (hw : hWt a0 Z) : (Cond.selects "java/lang/String" ({ cls := "java/lang/String", name := "charAt", desc := "(I)C" } : MethodName) ({ cls := "java/lang/String", name := "charAt", desc := "(I)C" } : MethodName)).before a0 Z = true := own_wd hw 170 rfl
theorem wd168 (hw : hWt a0 Z) : (Cond.declares ({ cls := "java/lang/String", name := "charAt", desc := "(I)C" } : MethodName)).before a0 Z = true := own_wd hw 168 rfl
theorem wd169 (hw : hWt a0 Z) : (Cond.instanceMethod ({ cls := "java/lang/String", name := "charAt", desc := "(I)C" } : MethodName)).before a0 Z = true := own_wd hw 169 rfl
theorem wd39 (hw : hWt a0 Z) : (Cond.methodLink "com/example/garm/garm/SecurityTarget$Claim" (1 : Nat) ({ cls := "java/lang/Object", name := "<init>", desc := "()V" } : MethodName)).before a0 Z = true := own_wd hw 39 rfl
theorem wd40 (hw : hWt a0 Z) : (Cond.fieldLink "com/example/garm/garm/SecurityTarget$Claim" (7 : Nat) "com/example/garm/garm/SecurityTarget$Claim" "profile" "Ljava/lang/String;").before a0 Z = true := own_wd hw 40 rfl
theorem wd41 (hw : hWt a0 Z) : (Cond.laysFinal "com/example/garm/garm/SecurityTarget$Claim" "com/example/garm/garm/SecurityTarget$Claim" "profile" "Ljava/lang/String;").before a0 Z = true := own_wd hw 41 rfl
theorem wd34 (hw : hWt a0 Z) : (Cond.instantiable "com/example/garm/garm/SecurityTarget$Claim" (3 : Nat)).before a0 Z = true := own_wd hw 34 rfl
theorem wd42 (hw : hWt a0 Z) : (Cond.fieldLink "com/example/garm/garm/SecurityTarget$Claim" (13 : Nat) "com/example/garm/garm/SecurityTarget$Claim" "version" "Ljava/lang/String;").before a0 Z = true := own_wd hw 42 rfl
theorem wd43 (hw : hWt a0 Z) : (Cond.laysFinal "com/example/garm/garm/SecurityTarget$Claim" "com/example/garm/garm/SecurityTarget$Claim" "version" "Ljava/lang/String;").before a0 Z = true := own_wd hw 43 rfl
theorem wd44 (hw : hWt a0 Z) : (Cond.fieldLink "com/example/garm/garm/SecurityTarget$Claim" (16 : Nat) "com/example/garm/garm/SecurityTarget$Claim" "conformance" "Lcom/example/garm/garm/Conformance;").before a0 Z = true := own_wd hw 44 rfl
theorem wd45 (hw : hWt a0 Z) : (Cond.laysFinal "com/example/garm/garm/SecurityTarget$Claim" "com/example/garm/garm/SecurityTarget$Claim" "conformance" "Lcom/example/garm/garm/Conformance;").before a0 Z = true := own_wd hw 45 rfl
theorem wd51 (hw : hWt a0 Z) : (Cond.classLink "com/example/garm/garm/SecurityTarget$Claim" (34 : Nat) "java/lang/StringBuilder").before a0 Z = true := own_wd hw 51 rfl
theorem wd54 (hw : hWt a0 Z) : (Cond.methodLink "com/example/garm/garm/SecurityTarget$Claim" (36 : Nat) ({ cls := "java/lang/StringBuilder", name := "<init>", desc := "()V" } : MethodName)).before a0 Z = true := own_wd hw 54 rfl
theorem wd56 (hw : hWt a0 Z) : (Cond.code ({ cls := "java/lang/StringBuilder", name := "<init>", desc := "()V" } : MethodName) jdk_67_method_1_code (1 : Nat) (Option.none : Option FieldType)).before a0 Z = true := own_wd hw 56 rfl
theorem wd55 (hw : hWt a0 Z) : (Cond.instanceMethod ({ cls := "java/lang/StringBuilder", name := "<init>", desc := "()V" } : MethodName)).before a0 Z = true := own_wd hw 55 rfl
theorem wd69 (hw : hWt a0 Z) : (Cond.methodLink "com/example/garm/garm/SecurityTarget$Claim" (37 : Nat) ({ cls := "java/lang/StringBuilder", name := "append", desc := "(Ljava/lang/String;)Ljava/lang/StringBuilder;" } : MethodName)).before a0 Z = true := own_wd hw 69 rfl
theorem wd73 (hw : hWt a0 Z) : (Cond.code ({ cls := "java/lang/StringBuilder", name := "append", desc := "(Ljava/lang/String;)Ljava/lang/StringBuilder;" } : MethodName) jdk_67_method_7_code (2 : Nat) (Option.some (FieldType.object "java/lang/StringBuilder"))).before a0 Z = true := own_wd hw 73 rfl
theorem wd72 (hw : hWt a0 Z) : (Cond.selects "java/lang/StringBuilder" ({ cls := "java/lang/StringBuilder", name := "append", desc := "(Ljava/lang/String;)Ljava/lang/StringBuilder;" } : MethodName) ({ cls := "java/lang/StringBuilder", name := "append", desc := "(Ljava/lang/String;)Ljava/lang/StringBuilder;" } : MethodName)).before a0 Z = true := own_wd hw 72 rfl
theorem wd70 (hw : hWt a0 Z) : (Cond.declares ({ cls := "java/lang/StringBuilder", name := "append", desc := "(Ljava/lang/String;)Ljava/lang/StringBuilder;" } : MethodName)).before a0 Z = true := own_wd hw 70 rfl
theorem wd71 (hw : hWt a0 Z) : (Cond.instanceMethod ({ cls := "java/lang/StringBuilder", name := "append", desc := "(Ljava/lang/String;)Ljava/lang/StringBuilder;" } : MethodName)).before a0 Z = true := own_wd hw 71 rfl
theorem wd117 (hw : hWt a0 Z) : (Cond.stringLink "com/example/garm/garm/SecurityTarget$Claim" (41 : Nat) " ").before a0 Z = true := own_wd hw 117 rfl
theorem wd118 (hw : hWt a0 Z) : (Cond.methodLink "com/example/garm/garm/SecurityTarget$Claim" (43 : Nat) ({ cls := "java/lang/StringBuilder", name := "toString", desc := "()Ljava/lang/String;" } : MethodName)).before a0 Z = true := own_wd hw 118 rfl
theorem wd122 (hw : hWt a0 Z) : (Cond.code ({ cls := "java/lang/StringBuilder", name := "toString", desc := "()Ljava/lang/String;" } : MethodName) jdk_67_method_42_code (1 : Nat) (Option.some (FieldType.object "java/lang/String"))).before a0 Z = true := own_wd hw 122 rfl
theorem wd121 (hw : hWt a0 Z) : (Cond.selects "java/lang/StringBuilder" ({ cls := "java/lang/StringBuilder", name := "toString", desc := "()Ljava/lang/String;" } : MethodName) ({ cls := "java/lang/StringBuilder", name := "toString", desc := "()Ljava/lang/String;" } : MethodName)).before a0 Z = true := own_wd hw 121 rfl
theorem wd119 (hw : hWt a0 Z) : (Cond.declares ({ cls := "java/lang/StringBuilder", name := "toString", desc := "()Ljava/lang/String;" } : MethodName)).before a0 Z = true := own_wd hw 119 rfl
theorem wd120 (hw : hWt a0 Z) : (Cond.instanceMethod ({ cls := "java/lang/StringBuilder", name := "toString", desc := "()Ljava/lang/String;" } : MethodName)).before a0 Z = true := own_wd hw 120 rfl
theorem wd0 (hw : hWt a0 Z) : (Cond.methodLink "com/example/garm/garm/ClaimToStringPinLaw" (31 : Nat) ({ cls := "com/example/garm/garm/ClaimToStringPinLaw", name := "str", desc := "(I)Ljava/lang/String;" } : MethodName)).before a0 Z = true := own_wd hw 0 rfl
theorem wd3 (hw : hWt a0 Z) : (Cond.code ({ cls := "com/example/garm/garm/ClaimToStringPinLaw", name := "str", desc := "(I)Ljava/lang/String;" } : MethodName) method_6_code (2 : Nat) (Option.some (FieldType.object "java/lang/String"))).before a0 Z = true := own_wd hw 3 rfl
theorem wd1 (hw : hWt a0 Z) : (Cond.static ({ cls := "com/example/garm/garm/ClaimToStringPinLaw", name := "str", desc := "(I)Ljava/lang/String;" } : MethodName)).before a0 Z = true := own_wd hw 1 rfl
theorem wd29 (hw : hWt a0 Z) : (Cond.constant "com/example/garm/garm/ClaimToStringPinLaw" (35 : Nat) (2147483647 : Int32)).before a0 Z = true := own_wd hw 29 rfl
theorem wd194 (hw : hWt a0 Z) : (Cond.fieldLink "com/example/garm/garm/ClaimToStringPinLaw" (36 : Nat) "com/example/garm/garm/Conformance" "EXACT" "Lcom/example/garm/garm/Conformance;").before a0 Z = true := own_wd hw 194 rfl
theorem wd33 (hw : hWt a0 Z) : (Cond.classLink "com/example/garm/garm/ClaimToStringPinLaw" (48 : Nat) "com/example/garm/garm/SecurityTarget$Claim").before a0 Z = true := own_wd hw 33 rfl
theorem wd35 (hw : hWt a0 Z) : (Cond.initialized "com/example/garm/garm/SecurityTarget$Claim").before a0 Z = true := own_wd hw 35 rfl
theorem wd36 (hw : hWt a0 Z) : (Cond.methodLink "com/example/garm/garm/ClaimToStringPinLaw" (50 : Nat) ({ cls := "com/example/garm/garm/SecurityTarget$Claim", name := "<init>", desc := "(Ljava/lang/String;Ljava/lang/String;Lcom/example/garm/garm/Conformance;)V" } : MethodName)).before a0 Z = true := own_wd hw 36 rfl
theorem wd38 (hw : hWt a0 Z) : (Cond.code ({ cls := "com/example/garm/garm/SecurityTarget$Claim", name := "<init>", desc := "(Ljava/lang/String;Ljava/lang/String;Lcom/example/garm/garm/Conformance;)V" } : MethodName) prog_41_method_1_code (4 : Nat) (Option.none : Option FieldType)).before a0 Z = true := own_wd hw 38 rfl
theorem wd37 (hw : hWt a0 Z) : (Cond.instanceMethod ({ cls := "com/example/garm/garm/SecurityTarget$Claim", name := "<init>", desc := "(Ljava/lang/String;Ljava/lang/String;Lcom/example/garm/garm/Conformance;)V" } : MethodName)).before a0 Z = true := own_wd hw 37 rfl
theorem wd46 (hw : hWt a0 Z) : (Cond.methodLink "com/example/garm/garm/ClaimToStringPinLaw" (53 : Nat) ({ cls := "com/example/garm/garm/SecurityTarget$Claim", name := "toString", desc := "()Ljava/lang/String;" } : MethodName)).before a0 Z = true := own_wd hw 46 rfl
theorem wd50 (hw : hWt a0 Z) : (Cond.code ({ cls := "com/example/garm/garm/SecurityTarget$Claim", name := "toString", desc := "()Ljava/lang/String;" } : MethodName) prog_41_method_4_code (1 : Nat) (Option.some (FieldType.object "java/lang/String"))).before a0 Z = true := own_wd hw 50 rfl
theorem wd49 (hw : hWt a0 Z) : (Cond.selects "com/example/garm/garm/SecurityTarget$Claim" ({ cls := "com/example/garm/garm/SecurityTarget$Claim", name := "toString", desc := "()Ljava/lang/String;" } : MethodName) ({ cls := "com/example/garm/garm/SecurityTarget$Claim", name := "toString", desc := "()Ljava/lang/String;" } : MethodName)).before a0 Z = true := own_wd hw 49 rfl
theorem wd47 (hw : hWt a0 Z) : (Cond.declares ({ cls := "com/example/garm/garm/SecurityTarget$Claim", name := "toString", desc := "()Ljava/lang/String;" } : MethodName)).before a0 Z = true := own_wd hw 47 rfl
theorem wd48 (hw : hWt a0 Z) : (Cond.instanceMethod ({ cls := "com/example/garm/garm/SecurityTarget$Claim", name := "toString", desc := "()Ljava/lang/String;" } : MethodName)).before a0 Z = true := own_wd hw 48 rfl
theorem wd163 (hw : hWt a0 Z) : (Cond.methodLink "com/example/garm/garm/ClaimToStringPinLaw" (57 : Nat) ({ cls := "java/lang/String", name := "length", desc := "()I" } : MethodName)).before a0 Z = true := own_wd hw 163 rfl
theorem wd164 (hw : hWt a0 Z) : (Cond.methodLink "com/example/garm/garm/ClaimToStringPinLaw" (61 : Nat) ({ cls := "com/example/garm/garm/ClaimToStringPinLaw", name := "part", desc := "(Ljava/lang/String;II)Z" } : MethodName)).before a0 Z = true := own_wd hw 164 rfl
theorem wd166 (hw : hWt a0 Z) : (Cond.code ({ cls := "com/example/garm/garm/ClaimToStringPinLaw", name := "part", desc := "(Ljava/lang/String;II)Z" } : MethodName) method_7_code (5 : Nat) (Option.some FieldType.boolean)).before a0 Z = true := own_wd hw 166 rfl
theorem wd165 (hw : hWt a0 Z) : (Cond.static ({ cls := "com/example/garm/garm/ClaimToStringPinLaw", name := "part", desc := "(Ljava/lang/String;II)Z" } : MethodName)).before a0 Z = true := own_wd hw 165 rfl
theorem wd189 (hw : hWt a0 Z) : (Cond.methodLink "com/example/garm/garm/ClaimToStringPinLaw" (65 : Nat) ({ cls := "com/example/garm/garm/SecurityTarget$Claim", name := "conformance", desc := "()Lcom/example/garm/garm/Conformance;" } : MethodName)).before a0 Z = true := own_wd hw 189 rfl
theorem wd193 (hw : hWt a0 Z) : (Cond.code ({ cls := "com/example/garm/garm/SecurityTarget$Claim", name := "conformance", desc := "()Lcom/example/garm/garm/Conformance;" } : MethodName) prog_41_method_3_code (1 : Nat) (Option.some (FieldType.object "com/example/garm/garm/Conformance"))).before a0 Z = true := own_wd hw 193 rfl
theorem wd192 (hw : hWt a0 Z) : (Cond.selects "com/example/garm/garm/SecurityTarget$Claim" ({ cls := "com/example/garm/garm/SecurityTarget$Claim", name := "conformance", desc := "()Lcom/example/garm/garm/Conformance;" } : MethodName) ({ cls := "com/example/garm/garm/SecurityTarget$Claim", name := "conformance", desc := "()Lcom/example/garm/garm/Conformance;" } : MethodName)).before a0 Z = true := own_wd hw 192 rfl
theorem wd190 (hw : hWt a0 Z) : (Cond.declares ({ cls := "com/example/garm/garm/SecurityTarget$Claim", name := "conformance", desc := "()Lcom/example/garm/garm/Conformance;" } : MethodName)).before a0 Z = true := own_wd hw 190 rfl
theorem wd191 (hw : hWt a0 Z) : (Cond.instanceMethod ({ cls := "com/example/garm/garm/SecurityTarget$Claim", name := "conformance", desc := "()Lcom/example/garm/garm/Conformance;" } : MethodName)).before a0 Z = true := own_wd hw 191 rfl
theorem wd196 (hw : hWt a0 Z) : (Cond.fieldLink "com/example/garm/garm/ClaimToStringPinLaw" (42 : Nat) "com/example/garm/garm/Conformance" "STRICT" "Lcom/example/garm/garm/Conformance;").before a0 Z = true := own_wd hw 196 rfl
theorem wd30 (hw : hWt a0 Z) : (Cond.fieldLink "com/example/garm/garm/ClaimToStringPinLaw" (45 : Nat) "com/example/garm/garm/Conformance" "DEMONSTRABLE" "Lcom/example/garm/garm/Conformance;").before a0 Z = true := own_wd hw 30 rfl
theorem wd195 (hw : hWt a0 Z) : (Cond.laysStatic "com/example/garm/garm/Conformance" "EXACT" "Lcom/example/garm/garm/Conformance;").before a0 Z = true := own_wd hw 195 rfl
theorem wd31 (hw : hWt a0 Z) : (Cond.initialized "com/example/garm/garm/Conformance").before a0 Z = true := own_wd hw 31 rfl
theorem wd197 (hw : hWt a0 Z) : (Cond.laysStatic "com/example/garm/garm/Conformance" "STRICT" "Lcom/example/garm/garm/Conformance;").before a0 Z = true := own_wd hw 197 rfl
theorem wd32 (hw : hWt a0 Z) : (Cond.laysStatic "com/example/garm/garm/Conformance" "DEMONSTRABLE" "Lcom/example/garm/garm/Conformance;").before a0 Z = true := own_wd hw 32 rfl
theorem wd22 (hw : hWt a0 Z) : (Cond.arrayClass FieldType.byte).before a0 Z = true := own_wd hw 22 rfl
end
theorem own_pn0 : plainName "java/lang/String" = true := by first | (simp [plainName, overriddenIn]; done) | decide +kernel
theorem dS4_0 : decode jdk_42_method_149_code 0 = .ok (.aload_n 0, 1) := by decide +kernel
theorem dS4_1 : decode jdk_42_method_149_code 1 = .ok (.invokespecial 1, 3) := by decide +kernel
theorem dS4_4 : decode jdk_42_method_149_code 4 = .ok (.iload_n 3, 1) := by decide +kernel
theorem dS4_5 : decode jdk_42_method_149_code 5 = .ok (.ifCond .ne 22, 3) := by decide +kernel
theorem dS4_8 : decode jdk_42_method_149_code 8 = .ok (.aload_n 0, 1) := by decide +kernel
theorem dS4_9 : decode jdk_42_method_149_code 9 = .ok (.ldc 7, 2) := by decide +kernel
theorem dS4_11 : decode jdk_42_method_149_code 11 = .ok (.getfield 9, 3) := by decide +kernel
theorem dS4_14 : decode jdk_42_method_149_code 14 = .ok (.putfield 9, 3) := by decide +kernel
theorem dS4_17 : decode jdk_42_method_149_code 17 = .ok (.aload_n 0, 1) := by decide +kernel
theorem dS4_18 : decode jdk_42_method_149_code 18 = .ok (.ldc 7, 2) := by decide +kernel
theorem dS4_20 : decode jdk_42_method_149_code 20 = .ok (.getfield 15, 3) := by decide +kernel
theorem dS4_23 : decode jdk_42_method_149_code 23 = .ok (.putfield 15, 3) := by decide +kernel
theorem dS4_26 : decode jdk_42_method_149_code 26 = .ok (.return_, 1) := by decide +kernel
theorem dS1_0 : decode jdk_42_method_3_code 0 = .ok (.aload_n 0, 1) := by decide +kernel
theorem dS1_1 : decode jdk_42_method_3_code 1 = .ok (.aload_n 1, 1) := by decide +kernel
theorem dS1_2 : decode jdk_42_method_3_code 2 = .ok (.iconst 0, 1) := by decide +kernel
theorem dS1_3 : decode jdk_42_method_3_code 3 = .ok (.aload_n 1, 1) := by decide +kernel
theorem dS1_4 : decode jdk_42_method_3_code 4 = .ok (.arraylength, 1) := by decide +kernel
theorem dS1_5 : decode jdk_42_method_3_code 5 = .ok (.aconst_null, 1) := by decide +kernel
theorem dS1_6 : decode jdk_42_method_3_code 6 = .ok (.invokespecial 27, 3) := by decide +kernel
theorem own_pd0 : parseMethodDescriptor "([CIILjava/lang/Void;)V" = some ⟨[(.array .char), .int, .int, (.object "java/lang/Void")], none⟩ := by decide +kernel
theorem dS1_9 : decode jdk_42_method_3_code 9 = .ok (.return_, 1) := by decide +kernel
theorem dCO_0 : decode jdk_42_method_152_code 0 = .ok (.getstatic 38, 3) := by decide +kernel
theorem dCO_3 : decode jdk_42_method_152_code 3 = .ok (.ifCond .eq 10, 3) := by decide +kernel
theorem dCO_6 : decode jdk_42_method_152_code 6 = .ok (.aload_n 0, 1) := by decide +kernel
theorem dCO_7 : decode jdk_42_method_152_code 7 = .ok (.getfield 15, 3) := by decide +kernel
theorem dCO_10 : decode jdk_42_method_152_code 10 = .ok (.goto 4, 3) := by decide +kernel
theorem dCO_14 : decode jdk_42_method_152_code 14 = .ok (.ireturn, 1) := by decide +kernel
theorem own_pn1 : plainName "java/lang/AbstractStringBuilder" = true := by first | (simp [plainName, overriddenIn]; done) | decide +kernel
theorem dEN_0 : decode jdk_68_method_9_code 0 = .ok (.aload_n 0, 1) := by decide +kernel
theorem dEN_1 : decode jdk_68_method_9_code 1 = .ok (.getfield 15, 3) := by decide +kernel
theorem dEN_4 : decode jdk_68_method_9_code 4 = .ok (.arraylength, 1) := by decide +kernel
theorem dEN_5 : decode jdk_68_method_9_code 5 = .ok (.aload_n 0, 1) := by decide +kernel
theorem dEN_6 : decode jdk_68_method_9_code 6 = .ok (.getfield 22, 3) := by decide +kernel
theorem dEN_9 : decode jdk_68_method_9_code 9 = .ok (.ishr, 1) := by decide +kernel
theorem dEN_10 : decode jdk_68_method_9_code 10 = .ok (.istore_n 2, 1) := by decide +kernel
theorem dEN_11 : decode jdk_68_method_9_code 11 = .ok (.iload_n 1, 1) := by decide +kernel
theorem dEN_12 : decode jdk_68_method_9_code 12 = .ok (.iload_n 2, 1) := by decide +kernel
theorem dEN_13 : decode jdk_68_method_9_code 13 = .ok (.isub, 1) := by decide +kernel
theorem dEN_14 : decode jdk_68_method_9_code 14 = .ok (.ifCond .le 24, 3) := by decide +kernel
theorem dEN_38 : decode jdk_68_method_9_code 38 = .ok (.return_, 1) := by decide +kernel
theorem dIN_0 : decode jdk_68_method_71_code 0 = .ok (.getstatic 18, 3) := by decide +kernel
theorem dIN_3 : decode jdk_68_method_71_code 3 = .ok (.ifCond .eq 18, 3) := by decide +kernel
theorem dIN_6 : decode jdk_68_method_71_code 6 = .ok (.aload_n 0, 1) := by decide +kernel
theorem dIN_7 : decode jdk_68_method_71_code 7 = .ok (.getfield 22, 3) := by decide +kernel
theorem dIN_10 : decode jdk_68_method_71_code 10 = .ok (.aload_n 1, 1) := by decide +kernel
theorem dIN_11 : decode jdk_68_method_71_code 11 = .ok (.invokevirtual 40, 3) := by decide +kernel
theorem own_pd1 : parseMethodDescriptor "()B" = some ⟨[], some .byte⟩ := by decide +kernel
theorem dIN_14 : decode jdk_68_method_71_code 14 = .ok (.if_icmp .eq 7, 3) := by decide +kernel
theorem dIN_21 : decode jdk_68_method_71_code 21 = .ok (.return_, 1) := by decide +kernel
theorem dGB_0 : decode jdk_42_method_147_code 0 = .ok (.aload_n 0, 1) := by decide +kernel
theorem dGB_1 : decode jdk_42_method_147_code 1 = .ok (.invokevirtual 335, 3) := by decide +kernel
theorem dGB_4 : decode jdk_42_method_147_code 4 = .ok (.iload_n 3, 1) := by decide +kernel
theorem dGB_5 : decode jdk_42_method_147_code 5 = .ok (.if_icmp .ne 23, 3) := by decide +kernel
theorem dGB_8 : decode jdk_42_method_147_code 8 = .ok (.aload_n 0, 1) := by decide +kernel
theorem dGB_9 : decode jdk_42_method_147_code 9 = .ok (.getfield 9, 3) := by decide +kernel
theorem dGB_12 : decode jdk_42_method_147_code 12 = .ok (.iconst 0, 1) := by decide +kernel
theorem dGB_13 : decode jdk_42_method_147_code 13 = .ok (.aload_n 1, 1) := by decide +kernel
theorem dGB_14 : decode jdk_42_method_147_code 14 = .ok (.iload_n 2, 1) := by decide +kernel
theorem dGB_15 : decode jdk_42_method_147_code 15 = .ok (.iload_n 3, 1) := by decide +kernel
theorem dGB_16 : decode jdk_42_method_147_code 16 = .ok (.ishl, 1) := by decide +kernel
theorem dGB_17 : decode jdk_42_method_147_code 17 = .ok (.aload_n 0, 1) := by decide +kernel
theorem dGB_18 : decode jdk_42_method_147_code 18 = .ok (.getfield 9, 3) := by decide +kernel
theorem dGB_21 : decode jdk_42_method_147_code 21 = .ok (.arraylength, 1) := by decide +kernel
theorem dGB_22 : decode jdk_42_method_147_code 22 = .ok (.invokestatic 212, 3) := by decide +kernel
theorem dGB_25 : decode jdk_42_method_147_code 25 = .ok (.goto 18, 3) := by decide +kernel
theorem dGB_43 : decode jdk_42_method_147_code 43 = .ok (.return_, 1) := by decide +kernel
theorem dPS_0 : decode jdk_68_method_73_code 0 = .ok (.aload_n 0, 1) := by decide +kernel
theorem dPS_1 : decode jdk_68_method_73_code 1 = .ok (.aload_n 2, 1) := by decide +kernel
theorem dPS_2 : decode jdk_68_method_73_code 2 = .ok (.invokevirtual 397, 3) := by decide +kernel
theorem own_pd2 : parseMethodDescriptor "(Ljava/lang/String;)V" = some ⟨[(.object "java/lang/String")], none⟩ := by decide +kernel
theorem dPS_5 : decode jdk_68_method_73_code 5 = .ok (.aload_n 2, 1) := by decide +kernel
theorem dPS_6 : decode jdk_68_method_73_code 6 = .ok (.aload_n 0, 1) := by decide +kernel
theorem dPS_7 : decode jdk_68_method_73_code 7 = .ok (.getfield 15, 3) := by decide +kernel
theorem dPS_10 : decode jdk_68_method_73_code 10 = .ok (.iload_n 1, 1) := by decide +kernel
theorem dPS_11 : decode jdk_68_method_73_code 11 = .ok (.aload_n 0, 1) := by decide +kernel
theorem dPS_12 : decode jdk_68_method_73_code 12 = .ok (.getfield 22, 3) := by decide +kernel
theorem dPS_15 : decode jdk_68_method_73_code 15 = .ok (.invokevirtual 399, 3) := by decide +kernel
theorem own_pd3 : parseMethodDescriptor "([BIB)V" = some ⟨[(.array .byte), .int, .byte], none⟩ := by decide +kernel
theorem dPS_18 : decode jdk_68_method_73_code 18 = .ok (.return_, 1) := by decide +kernel
theorem dAA_0 : decode jdk_68_method_22_code 0 = .ok (.aload_n 1, 1) := by decide +kernel
theorem dAA_1 : decode jdk_68_method_22_code 1 = .ok (.ifnonnull 8, 3) := by decide +kernel
theorem dAA_9 : decode jdk_68_method_22_code 9 = .ok (.aload_n 1, 1) := by decide +kernel
theorem dAA_10 : decode jdk_68_method_22_code 10 = .ok (.invokevirtual 32, 3) := by decide +kernel
theorem own_pd4 : parseMethodDescriptor "()I" = some ⟨[], some .int⟩ := by decide +kernel
theorem dAA_13 : decode jdk_68_method_22_code 13 = .ok (.istore_n 2, 1) := by decide +kernel
theorem dAA_14 : decode jdk_68_method_22_code 14 = .ok (.aload_n 0, 1) := by decide +kernel
theorem dAA_15 : decode jdk_68_method_22_code 15 = .ok (.aload_n 0, 1) := by decide +kernel
theorem dAA_16 : decode jdk_68_method_22_code 16 = .ok (.getfield 79, 3) := by decide +kernel
theorem dAA_19 : decode jdk_68_method_22_code 19 = .ok (.iload_n 2, 1) := by decide +kernel
theorem dAA_20 : decode jdk_68_method_22_code 20 = .ok (.iadd, 1) := by decide +kernel
theorem dAA_21 : decode jdk_68_method_22_code 21 = .ok (.invokevirtual 100, 3) := by decide +kernel
theorem own_pd5 : parseMethodDescriptor "(I)V" = some ⟨[.int], none⟩ := by decide +kernel
theorem dAA_24 : decode jdk_68_method_22_code 24 = .ok (.aload_n 0, 1) := by decide +kernel
theorem dAA_25 : decode jdk_68_method_22_code 25 = .ok (.aload_n 0, 1) := by decide +kernel
theorem dAA_26 : decode jdk_68_method_22_code 26 = .ok (.getfield 79, 3) := by decide +kernel
theorem dAA_29 : decode jdk_68_method_22_code 29 = .ok (.aload_n 1, 1) := by decide +kernel
theorem dAA_30 : decode jdk_68_method_22_code 30 = .ok (.invokevirtual 208, 3) := by decide +kernel
theorem own_pd6 : parseMethodDescriptor "(ILjava/lang/String;)V" = some ⟨[.int, (.object "java/lang/String")], none⟩ := by decide +kernel
theorem dAA_33 : decode jdk_68_method_22_code 33 = .ok (.aload_n 0, 1) := by decide +kernel
theorem dAA_34 : decode jdk_68_method_22_code 34 = .ok (.dup, 1) := by decide +kernel
theorem dAA_35 : decode jdk_68_method_22_code 35 = .ok (.getfield 79, 3) := by decide +kernel
theorem dAA_38 : decode jdk_68_method_22_code 38 = .ok (.iload_n 2, 1) := by decide +kernel
theorem dAA_39 : decode jdk_68_method_22_code 39 = .ok (.iadd, 1) := by decide +kernel
theorem dAA_40 : decode jdk_68_method_22_code 40 = .ok (.putfield 79, 3) := by decide +kernel
theorem dAA_43 : decode jdk_68_method_22_code 43 = .ok (.aload_n 0, 1) := by decide +kernel
theorem dAA_44 : decode jdk_68_method_22_code 44 = .ok (.areturn, 1) := by decide +kernel
theorem own_pn2 : plainName "java/lang/StringBuilder" = true := by first | (simp [plainName, overriddenIn]; done) | decide +kernel
theorem dSA_0 : decode jdk_67_method_7_code 0 = .ok (.aload_n 0, 1) := by decide +kernel
theorem dSA_1 : decode jdk_67_method_7_code 1 = .ok (.aload_n 1, 1) := by decide +kernel
theorem dSA_2 : decode jdk_67_method_7_code 2 = .ok (.invokespecial 29, 3) := by decide +kernel
theorem own_pd7 : parseMethodDescriptor "(Ljava/lang/String;)Ljava/lang/AbstractStringBuilder;" = some ⟨[(.object "java/lang/String")], some (.object "java/lang/AbstractStringBuilder")⟩ := by decide +kernel
theorem dSA_5 : decode jdk_67_method_7_code 5 = .ok (.pop, 1) := by decide +kernel
theorem dSA_6 : decode jdk_67_method_7_code 6 = .ok (.aload_n 0, 1) := by decide +kernel
theorem dSA_7 : decode jdk_67_method_7_code 7 = .ok (.areturn, 1) := by decide +kernel
theorem dAI_0 : decode jdk_68_method_2_code 0 = .ok (.aload_n 0, 1) := by decide +kernel
theorem dAI_1 : decode jdk_68_method_2_code 1 = .ok (.invokespecial 3, 3) := by decide +kernel
theorem dAI_4 : decode jdk_68_method_2_code 4 = .ok (.getstatic 18, 3) := by decide +kernel
theorem dAI_7 : decode jdk_68_method_2_code 7 = .ok (.ifCond .eq 18, 3) := by decide +kernel
theorem dAI_10 : decode jdk_68_method_2_code 10 = .ok (.aload_n 0, 1) := by decide +kernel
theorem dAI_11 : decode jdk_68_method_2_code 11 = .ok (.iload_n 1, 1) := by decide +kernel
theorem dAI_12 : decode jdk_68_method_2_code 12 = .ok (.newarray .byte, 2) := by decide +kernel
theorem dAI_14 : decode jdk_68_method_2_code 14 = .ok (.putfield 15, 3) := by decide +kernel
theorem dAI_17 : decode jdk_68_method_2_code 17 = .ok (.aload_n 0, 1) := by decide +kernel
theorem dAI_18 : decode jdk_68_method_2_code 18 = .ok (.iconst 0, 1) := by decide +kernel
theorem dAI_19 : decode jdk_68_method_2_code 19 = .ok (.putfield 22, 3) := by decide +kernel
theorem dAI_22 : decode jdk_68_method_2_code 22 = .ok (.goto 16, 3) := by decide +kernel
theorem dAI_38 : decode jdk_68_method_2_code 38 = .ok (.return_, 1) := by decide +kernel
theorem dSI_0 : decode jdk_67_method_1_code 0 = .ok (.aload_n 0, 1) := by decide +kernel
theorem dSI_1 : decode jdk_67_method_1_code 1 = .ok (.bipush 16, 2) := by decide +kernel
theorem dSI_3 : decode jdk_67_method_1_code 3 = .ok (.invokespecial 1, 3) := by decide +kernel
theorem dSI_6 : decode jdk_67_method_1_code 6 = .ok (.return_, 1) := by decide +kernel
theorem dGV_0 : decode jdk_68_method_64_code 0 = .ok (.aload_n 0, 1) := by decide +kernel
theorem dGV_1 : decode jdk_68_method_64_code 1 = .ok (.getfield 15, 3) := by decide +kernel
theorem dGV_4 : decode jdk_68_method_64_code 4 = .ok (.areturn, 1) := by decide +kernel
theorem dAL_0 : decode jdk_68_method_6_code 0 = .ok (.aload_n 0, 1) := by decide +kernel
theorem dAL_1 : decode jdk_68_method_6_code 1 = .ok (.getfield 79, 3) := by decide +kernel
theorem dAL_4 : decode jdk_68_method_6_code 4 = .ok (.ireturn, 1) := by decide +kernel
theorem dSL_0 : decode jdk_67_method_93_code 0 = .ok (.aload_n 0, 1) := by decide +kernel
theorem dSL_1 : decode jdk_67_method_93_code 1 = .ok (.invokespecial 343, 3) := by decide +kernel
theorem dSL_4 : decode jdk_67_method_93_code 4 = .ok (.ireturn, 1) := by decide +kernel
theorem dIL_0 : decode jdk_68_method_68_code 0 = .ok (.getstatic 18, 3) := by decide +kernel
theorem dIL_3 : decode jdk_68_method_68_code 3 = .ok (.ifCond .eq 14, 3) := by decide +kernel
theorem dIL_6 : decode jdk_68_method_68_code 6 = .ok (.aload_n 0, 1) := by decide +kernel
theorem dIL_7 : decode jdk_68_method_68_code 7 = .ok (.getfield 22, 3) := by decide +kernel
theorem dIL_10 : decode jdk_68_method_68_code 10 = .ok (.ifCond .ne 7, 3) := by decide +kernel
theorem dIL_13 : decode jdk_68_method_68_code 13 = .ok (.iconst 1, 1) := by decide +kernel
theorem dIL_14 : decode jdk_68_method_68_code 14 = .ok (.goto 4, 3) := by decide +kernel
theorem dIL_18 : decode jdk_68_method_68_code 18 = .ok (.ireturn, 1) := by decide +kernel
theorem own_pn3 : plainName "java/util/Arrays" = true := by first | (simp [plainName, overriddenIn]; done) | decide +kernel
theorem dCK_0 : decode jdk_65_method_131_code 0 = .ok (.iload_n 1, 1) := by decide +kernel
theorem dCK_1 : decode jdk_65_method_131_code 1 = .ok (.iload_n 0, 1) := by decide +kernel
theorem dCK_2 : decode jdk_65_method_131_code 2 = .ok (.if_icmp .ge 35, 3) := by decide +kernel
theorem dCK_37 : decode jdk_65_method_131_code 37 = .ok (.return_, 1) := by decide +kernel
theorem own_pn4 : plainFor mN17 = true := by decide +kernel
theorem dMI_0 : decode jdk_29_method_69_code 0 = .ok (.iload_n 0, 1) := by decide +kernel
theorem dMI_1 : decode jdk_29_method_69_code 1 = .ok (.iload_n 1, 1) := by decide +kernel
theorem dMI_2 : decode jdk_29_method_69_code 2 = .ok (.if_icmp .gt 7, 3) := by decide +kernel
theorem dMI_9 : decode jdk_29_method_69_code 9 = .ok (.iload_n 1, 1) := by decide +kernel
theorem dMI_10 : decode jdk_29_method_69_code 10 = .ok (.ireturn, 1) := by decide +kernel
theorem dCB_0 : decode jdk_65_method_133_code 0 = .ok (.iload_n 1, 1) := by decide +kernel
theorem dCB_1 : decode jdk_65_method_133_code 1 = .ok (.iload_n 2, 1) := by decide +kernel
theorem dCB_2 : decode jdk_65_method_133_code 2 = .ok (.invokestatic 343, 3) := by decide +kernel
theorem own_pd8 : parseMethodDescriptor "(II)V" = some ⟨[.int, .int], none⟩ := by decide +kernel
theorem dCB_5 : decode jdk_65_method_133_code 5 = .ok (.iload_n 2, 1) := by decide +kernel
theorem dCB_6 : decode jdk_65_method_133_code 6 = .ok (.iload_n 1, 1) := by decide +kernel
theorem dCB_7 : decode jdk_65_method_133_code 7 = .ok (.isub, 1) := by decide +kernel
theorem dCB_8 : decode jdk_65_method_133_code 8 = .ok (.istore_n 3, 1) := by decide +kernel
theorem dCB_9 : decode jdk_65_method_133_code 9 = .ok (.iload_n 3, 1) := by decide +kernel
theorem dCB_10 : decode jdk_65_method_133_code 10 = .ok (.newarray .byte, 2) := by decide +kernel
theorem dCB_12 : decode jdk_65_method_133_code 12 = .ok (.astore 4, 2) := by decide +kernel
theorem dCB_14 : decode jdk_65_method_133_code 14 = .ok (.aload_n 0, 1) := by decide +kernel
theorem dCB_15 : decode jdk_65_method_133_code 15 = .ok (.iload_n 1, 1) := by decide +kernel
theorem dCB_16 : decode jdk_65_method_133_code 16 = .ok (.aload 4, 2) := by decide +kernel
theorem dCB_18 : decode jdk_65_method_133_code 18 = .ok (.iconst 0, 1) := by decide +kernel
theorem dCB_19 : decode jdk_65_method_133_code 19 = .ok (.aload_n 0, 1) := by decide +kernel
theorem dCB_20 : decode jdk_65_method_133_code 20 = .ok (.arraylength, 1) := by decide +kernel
theorem dCB_21 : decode jdk_65_method_133_code 21 = .ok (.iload_n 1, 1) := by decide +kernel
theorem dCB_22 : decode jdk_65_method_133_code 22 = .ok (.isub, 1) := by decide +kernel
theorem dCB_23 : decode jdk_65_method_133_code 23 = .ok (.iload_n 3, 1) := by decide +kernel
theorem dCB_24 : decode jdk_65_method_133_code 24 = .ok (.invokestatic 304, 3) := by decide +kernel
theorem own_pd9 : parseMethodDescriptor "(II)I" = some ⟨[.int, .int], some .int⟩ := by decide +kernel
theorem dCB_27 : decode jdk_65_method_133_code 27 = .ok (.invokestatic 150, 3) := by decide +kernel
theorem dCB_30 : decode jdk_65_method_133_code 30 = .ok (.aload 4, 2) := by decide +kernel
theorem dCB_32 : decode jdk_65_method_133_code 32 = .ok (.areturn, 1) := by decide +kernel
theorem dCR_0 : decode jdk_65_method_132_code 0 = .ok (.iload_n 1, 1) := by decide +kernel
theorem dCR_1 : decode jdk_65_method_132_code 1 = .ok (.ifCond .ne 9, 3) := by decide +kernel
theorem dCR_4 : decode jdk_65_method_132_code 4 = .ok (.iload_n 2, 1) := by decide +kernel
theorem dCR_5 : decode jdk_65_method_132_code 5 = .ok (.aload_n 0, 1) := by decide +kernel
theorem dCR_6 : decode jdk_65_method_132_code 6 = .ok (.arraylength, 1) := by decide +kernel
theorem dCR_7 : decode jdk_65_method_132_code 7 = .ok (.if_icmp .eq 10, 3) := by decide +kernel
theorem dCR_10 : decode jdk_65_method_132_code 10 = .ok (.aload_n 0, 1) := by decide +kernel
theorem dCR_11 : decode jdk_65_method_132_code 11 = .ok (.iload_n 1, 1) := by decide +kernel
theorem dCR_12 : decode jdk_65_method_132_code 12 = .ok (.iload_n 2, 1) := by decide +kernel
theorem dCR_13 : decode jdk_65_method_132_code 13 = .ok (.invokestatic 339, 3) := by decide +kernel
theorem own_pd10 : parseMethodDescriptor "([BII)[B" = some ⟨[(.array .byte), .int, .int], some (.array .byte)⟩ := by decide +kernel
theorem dCR_16 : decode jdk_65_method_132_code 16 = .ok (.areturn, 1) := by decide +kernel
theorem dS2_0 : decode jdk_42_method_150_code 0 = .ok (.aload_n 0, 1) := by decide +kernel
theorem dS2_1 : decode jdk_42_method_150_code 1 = .ok (.invokespecial 1, 3) := by decide +kernel
theorem dS2_4 : decode jdk_42_method_150_code 4 = .ok (.aload_n 1, 1) := by decide +kernel
theorem dS2_5 : decode jdk_42_method_150_code 5 = .ok (.invokevirtual 552, 3) := by decide +kernel
theorem own_pd11 : parseMethodDescriptor "()[B" = some ⟨[], some (.array .byte)⟩ := by decide +kernel
theorem dS2_8 : decode jdk_42_method_150_code 8 = .ok (.astore_n 3, 1) := by decide +kernel
theorem dS2_9 : decode jdk_42_method_150_code 9 = .ok (.aload_n 1, 1) := by decide +kernel
theorem dS2_10 : decode jdk_42_method_150_code 10 = .ok (.invokevirtual 549, 3) := by decide +kernel
theorem dS2_13 : decode jdk_42_method_150_code 13 = .ok (.istore 4, 2) := by decide +kernel
theorem dS2_15 : decode jdk_42_method_150_code 15 = .ok (.aload_n 1, 1) := by decide +kernel
theorem dS2_16 : decode jdk_42_method_150_code 16 = .ok (.invokevirtual 1047, 3) := by decide +kernel
theorem own_pd12 : parseMethodDescriptor "()Z" = some ⟨[], some .boolean⟩ := by decide +kernel
theorem dS2_19 : decode jdk_42_method_150_code 19 = .ok (.ifCond .eq 22, 3) := by decide +kernel
theorem dS2_22 : decode jdk_42_method_150_code 22 = .ok (.aload_n 0, 1) := by decide +kernel
theorem dS2_23 : decode jdk_42_method_150_code 23 = .ok (.iconst 0, 1) := by decide +kernel
theorem dS2_24 : decode jdk_42_method_150_code 24 = .ok (.putfield 15, 3) := by decide +kernel
theorem dS2_27 : decode jdk_42_method_150_code 27 = .ok (.aload_n 0, 1) := by decide +kernel
theorem dS2_28 : decode jdk_42_method_150_code 28 = .ok (.aload_n 3, 1) := by decide +kernel
theorem dS2_29 : decode jdk_42_method_150_code 29 = .ok (.iconst 0, 1) := by decide +kernel
theorem dS2_30 : decode jdk_42_method_150_code 30 = .ok (.iload 4, 2) := by decide +kernel
theorem dS2_32 : decode jdk_42_method_150_code 32 = .ok (.invokestatic 54, 3) := by decide +kernel
theorem dS2_35 : decode jdk_42_method_150_code 35 = .ok (.putfield 9, 3) := by decide +kernel
theorem dS2_38 : decode jdk_42_method_150_code 38 = .ok (.goto 59, 3) := by decide +kernel
theorem dS2_97 : decode jdk_42_method_150_code 97 = .ok (.return_, 1) := by decide +kernel
theorem dS1b_0 : decode jdk_42_method_53_code 0 = .ok (.aload_n 0, 1) := by decide +kernel
theorem dS1b_1 : decode jdk_42_method_53_code 1 = .ok (.aload_n 1, 1) := by decide +kernel
theorem dS1b_2 : decode jdk_42_method_53_code 2 = .ok (.aconst_null, 1) := by decide +kernel
theorem dS1b_3 : decode jdk_42_method_53_code 3 = .ok (.invokespecial 489, 3) := by decide +kernel
theorem own_pd13 : parseMethodDescriptor "(Ljava/lang/AbstractStringBuilder;Ljava/lang/Void;)V" = some ⟨[(.object "java/lang/AbstractStringBuilder"), (.object "java/lang/Void")], none⟩ := by decide +kernel
theorem dS1b_6 : decode jdk_42_method_53_code 6 = .ok (.return_, 1) := by decide +kernel
theorem dTS_0 : decode jdk_67_method_42_code 0 = .ok (.new 18, 3) := by decide +kernel
theorem dTS_3 : decode jdk_67_method_42_code 3 = .ok (.dup, 1) := by decide +kernel
theorem dTS_4 : decode jdk_67_method_42_code 4 = .ok (.aload_n 0, 1) := by decide +kernel
theorem dTS_5 : decode jdk_67_method_42_code 5 = .ok (.invokespecial 137, 3) := by decide +kernel
theorem own_pd14 : parseMethodDescriptor "(Ljava/lang/StringBuilder;)V" = some ⟨[(.object "java/lang/StringBuilder")], none⟩ := by decide +kernel
theorem dTS_8 : decode jdk_67_method_42_code 8 = .ok (.areturn, 1) := by decide +kernel
theorem own_pn5 : plainName "com/example/garm/garm/ClaimToStringPinLaw" = true := by first | (simp [plainName, overriddenIn]; done) | decide +kernel
theorem dLE_0 : decode method_2_code 0 = .ok (.iload_n 0, 1) := by decide +kernel
theorem dLE_1 : decode method_2_code 1 = .ok (.bipush 16, 2) := by decide +kernel
theorem dLE_3 : decode method_2_code 3 = .ok (.iushr, 1) := by decide +kernel
theorem dLE_4 : decode method_2_code 4 = .ok (.iconst 3, 1) := by decide +kernel
theorem dLE_5 : decode method_2_code 5 = .ok (.iand, 1) := by decide +kernel
theorem dLE_6 : decode method_2_code 6 = .ok (.ireturn, 1) := by decide +kernel
theorem dC0_0 : decode method_3_code 0 = .ok (.iload_n 0, 1) := by decide +kernel
theorem dC0_1 : decode method_3_code 1 = .ok (.sipush 255, 3) := by decide +kernel
theorem dC0_4 : decode method_3_code 4 = .ok (.iand, 1) := by decide +kernel
theorem dC0_5 : decode method_3_code 5 = .ok (.i2c, 1) := by decide +kernel
theorem dC0_6 : decode method_3_code 6 = .ok (.ireturn, 1) := by decide +kernel
theorem dC1_0 : decode method_4_code 0 = .ok (.iload_n 0, 1) := by decide +kernel
theorem dC1_1 : decode method_4_code 1 = .ok (.bipush 8, 2) := by decide +kernel
theorem dC1_3 : decode method_4_code 3 = .ok (.iushr, 1) := by decide +kernel
theorem dC1_4 : decode method_4_code 4 = .ok (.sipush 255, 3) := by decide +kernel
theorem dC1_7 : decode method_4_code 7 = .ok (.iand, 1) := by decide +kernel
theorem dC1_8 : decode method_4_code 8 = .ok (.i2c, 1) := by decide +kernel
theorem dC1_9 : decode method_4_code 9 = .ok (.ireturn, 1) := by decide +kernel
theorem dC2_0 : decode method_5_code 0 = .ok (.iload_n 0, 1) := by decide +kernel
theorem dC2_1 : decode method_5_code 1 = .ok (.bipush 24, 2) := by decide +kernel
theorem dC2_3 : decode method_5_code 3 = .ok (.iushr, 1) := by decide +kernel
theorem dC2_4 : decode method_5_code 4 = .ok (.sipush 255, 3) := by decide +kernel
theorem dC2_7 : decode method_5_code 7 = .ok (.iand, 1) := by decide +kernel
theorem dC2_8 : decode method_5_code 8 = .ok (.i2c, 1) := by decide +kernel
theorem dC2_9 : decode method_5_code 9 = .ok (.ireturn, 1) := by decide +kernel
theorem dST_0 : decode method_6_code 0 = .ok (.iload_n 0, 1) := by decide +kernel
theorem dST_1 : decode method_6_code 1 = .ok (.invokestatic 7, 3) := by decide +kernel
theorem own_pd15 : parseMethodDescriptor "(I)I" = some ⟨[.int], some .int⟩ := by decide +kernel
theorem dST_4 : decode method_6_code 4 = .ok (.istore_n 1, 1) := by decide +kernel
theorem dST_5 : decode method_6_code 5 = .ok (.iload_n 1, 1) := by decide +kernel
theorem dST_6 : decode method_6_code 6 = .ok (.ifCond .ne 14, 3) := by decide +kernel
theorem dST_9 : decode method_6_code 9 = .ok (.new 13, 3) := by decide +kernel
theorem dST_12 : decode method_6_code 12 = .ok (.dup, 1) := by decide +kernel
theorem dST_13 : decode method_6_code 13 = .ok (.iconst 0, 1) := by decide +kernel
theorem dST_14 : decode method_6_code 14 = .ok (.newarray .char, 2) := by decide +kernel
theorem dST_16 : decode method_6_code 16 = .ok (.invokespecial 15, 3) := by decide +kernel
theorem own_pd16 : parseMethodDescriptor "([C)V" = some ⟨[(.array .char)], none⟩ := by decide +kernel
theorem dST_19 : decode method_6_code 19 = .ok (.areturn, 1) := by decide +kernel
theorem dST_20 : decode method_6_code 20 = .ok (.iload_n 1, 1) := by decide +kernel
theorem dST_21 : decode method_6_code 21 = .ok (.iconst 1, 1) := by decide +kernel
theorem dST_22 : decode method_6_code 22 = .ok (.if_icmp .ne 21, 3) := by decide +kernel
theorem dST_25 : decode method_6_code 25 = .ok (.new 13, 3) := by decide +kernel
theorem dST_28 : decode method_6_code 28 = .ok (.dup, 1) := by decide +kernel
theorem dST_29 : decode method_6_code 29 = .ok (.iconst 1, 1) := by decide +kernel
theorem dST_30 : decode method_6_code 30 = .ok (.newarray .char, 2) := by decide +kernel
theorem dST_32 : decode method_6_code 32 = .ok (.dup, 1) := by decide +kernel
theorem dST_33 : decode method_6_code 33 = .ok (.iconst 0, 1) := by decide +kernel
theorem dST_34 : decode method_6_code 34 = .ok (.iload_n 0, 1) := by decide +kernel
theorem dST_35 : decode method_6_code 35 = .ok (.invokestatic 18, 3) := by decide +kernel
theorem own_pd17 : parseMethodDescriptor "(I)C" = some ⟨[.int], some .char⟩ := by decide +kernel
theorem dST_38 : decode method_6_code 38 = .ok (.castore, 1) := by decide +kernel
theorem dST_39 : decode method_6_code 39 = .ok (.invokespecial 15, 3) := by decide +kernel
theorem dST_42 : decode method_6_code 42 = .ok (.areturn, 1) := by decide +kernel
theorem dST_43 : decode method_6_code 43 = .ok (.iload_n 1, 1) := by decide +kernel
theorem dST_44 : decode method_6_code 44 = .ok (.iconst 2, 1) := by decide +kernel
theorem dST_45 : decode method_6_code 45 = .ok (.if_icmp .ne 28, 3) := by decide +kernel
theorem dST_48 : decode method_6_code 48 = .ok (.new 13, 3) := by decide +kernel
theorem dST_51 : decode method_6_code 51 = .ok (.dup, 1) := by decide +kernel
theorem dST_52 : decode method_6_code 52 = .ok (.iconst 2, 1) := by decide +kernel
theorem dST_53 : decode method_6_code 53 = .ok (.newarray .char, 2) := by decide +kernel
theorem dST_55 : decode method_6_code 55 = .ok (.dup, 1) := by decide +kernel
theorem dST_56 : decode method_6_code 56 = .ok (.iconst 0, 1) := by decide +kernel
theorem dST_57 : decode method_6_code 57 = .ok (.iload_n 0, 1) := by decide +kernel
theorem dST_58 : decode method_6_code 58 = .ok (.invokestatic 18, 3) := by decide +kernel
theorem dST_61 : decode method_6_code 61 = .ok (.castore, 1) := by decide +kernel
theorem dST_62 : decode method_6_code 62 = .ok (.dup, 1) := by decide +kernel
theorem dST_63 : decode method_6_code 63 = .ok (.iconst 1, 1) := by decide +kernel
theorem dST_64 : decode method_6_code 64 = .ok (.iload_n 0, 1) := by decide +kernel
theorem dST_65 : decode method_6_code 65 = .ok (.invokestatic 22, 3) := by decide +kernel
theorem dST_68 : decode method_6_code 68 = .ok (.castore, 1) := by decide +kernel
theorem dST_69 : decode method_6_code 69 = .ok (.invokespecial 15, 3) := by decide +kernel
theorem dST_72 : decode method_6_code 72 = .ok (.areturn, 1) := by decide +kernel
theorem dST_73 : decode method_6_code 73 = .ok (.new 13, 3) := by decide +kernel
theorem dST_76 : decode method_6_code 76 = .ok (.dup, 1) := by decide +kernel
theorem dST_77 : decode method_6_code 77 = .ok (.iconst 3, 1) := by decide +kernel
theorem dST_78 : decode method_6_code 78 = .ok (.newarray .char, 2) := by decide +kernel
theorem dST_80 : decode method_6_code 80 = .ok (.dup, 1) := by decide +kernel
theorem dST_81 : decode method_6_code 81 = .ok (.iconst 0, 1) := by decide +kernel
theorem dST_82 : decode method_6_code 82 = .ok (.iload_n 0, 1) := by decide +kernel
theorem dST_83 : decode method_6_code 83 = .ok (.invokestatic 18, 3) := by decide +kernel
theorem dST_86 : decode method_6_code 86 = .ok (.castore, 1) := by decide +kernel
theorem dST_87 : decode method_6_code 87 = .ok (.dup, 1) := by decide +kernel
theorem dST_88 : decode method_6_code 88 = .ok (.iconst 1, 1) := by decide +kernel
theorem dST_89 : decode method_6_code 89 = .ok (.iload_n 0, 1) := by decide +kernel
theorem dST_90 : decode method_6_code 90 = .ok (.invokestatic 22, 3) := by decide +kernel
theorem dST_93 : decode method_6_code 93 = .ok (.castore, 1) := by decide +kernel
theorem dST_94 : decode method_6_code 94 = .ok (.dup, 1) := by decide +kernel
theorem dST_95 : decode method_6_code 95 = .ok (.iconst 2, 1) := by decide +kernel
theorem dST_96 : decode method_6_code 96 = .ok (.iload_n 0, 1) := by decide +kernel
theorem dST_97 : decode method_6_code 97 = .ok (.invokestatic 25, 3) := by decide +kernel
theorem dST_100 : decode method_6_code 100 = .ok (.castore, 1) := by decide +kernel
theorem dST_101 : decode method_6_code 101 = .ok (.invokespecial 15, 3) := by decide +kernel
theorem dST_104 : decode method_6_code 104 = .ok (.areturn, 1) := by decide +kernel
theorem dPT_0 : decode method_7_code 0 = .ok (.iload_n 2, 1) := by decide +kernel
theorem dPT_1 : decode method_7_code 1 = .ok (.invokestatic 7, 3) := by decide +kernel
theorem dPT_4 : decode method_7_code 4 = .ok (.istore_n 3, 1) := by decide +kernel
theorem dPT_5 : decode method_7_code 5 = .ok (.iconst 1, 1) := by decide +kernel
theorem dPT_6 : decode method_7_code 6 = .ok (.istore 4, 2) := by decide +kernel
theorem dPT_8 : decode method_7_code 8 = .ok (.iload_n 3, 1) := by decide +kernel
theorem dPT_9 : decode method_7_code 9 = .ok (.ifCond .le 27, 3) := by decide +kernel
theorem dPT_12 : decode method_7_code 12 = .ok (.iload 4, 2) := by decide +kernel
theorem dPT_14 : decode method_7_code 14 = .ok (.ifCond .eq 19, 3) := by decide +kernel
theorem dPT_17 : decode method_7_code 17 = .ok (.aload_n 0, 1) := by decide +kernel
theorem dPT_18 : decode method_7_code 18 = .ok (.iload_n 1, 1) := by decide +kernel
theorem dPT_19 : decode method_7_code 19 = .ok (.invokevirtual 28, 3) := by decide +kernel
theorem dPT_22 : decode method_7_code 22 = .ok (.iload_n 2, 1) := by decide +kernel
theorem dPT_23 : decode method_7_code 23 = .ok (.invokestatic 18, 3) := by decide +kernel
theorem dPT_26 : decode method_7_code 26 = .ok (.if_icmp .ne 7, 3) := by decide +kernel
theorem dPT_29 : decode method_7_code 29 = .ok (.iconst 1, 1) := by decide +kernel
theorem dPT_30 : decode method_7_code 30 = .ok (.goto 4, 3) := by decide +kernel
theorem dPT_34 : decode method_7_code 34 = .ok (.istore 4, 2) := by decide +kernel
theorem dPT_36 : decode method_7_code 36 = .ok (.iload_n 3, 1) := by decide +kernel
theorem dPT_37 : decode method_7_code 37 = .ok (.iconst 1, 1) := by decide +kernel
theorem dPT_38 : decode method_7_code 38 = .ok (.if_icmp .le 29, 3) := by decide +kernel
theorem dPT_41 : decode method_7_code 41 = .ok (.iload 4, 2) := by decide +kernel
theorem dPT_43 : decode method_7_code 43 = .ok (.ifCond .eq 21, 3) := by decide +kernel
theorem dPT_46 : decode method_7_code 46 = .ok (.aload_n 0, 1) := by decide +kernel
theorem dPT_47 : decode method_7_code 47 = .ok (.iload_n 1, 1) := by decide +kernel
theorem dPT_48 : decode method_7_code 48 = .ok (.iconst 1, 1) := by decide +kernel
theorem dPT_49 : decode method_7_code 49 = .ok (.iadd, 1) := by decide +kernel
theorem dPT_50 : decode method_7_code 50 = .ok (.invokevirtual 28, 3) := by decide +kernel
theorem dPT_53 : decode method_7_code 53 = .ok (.iload_n 2, 1) := by decide +kernel
theorem dPT_54 : decode method_7_code 54 = .ok (.invokestatic 22, 3) := by decide +kernel
theorem dPT_57 : decode method_7_code 57 = .ok (.if_icmp .ne 7, 3) := by decide +kernel
theorem dPT_60 : decode method_7_code 60 = .ok (.iconst 1, 1) := by decide +kernel
theorem dPT_61 : decode method_7_code 61 = .ok (.goto 4, 3) := by decide +kernel
theorem dPT_65 : decode method_7_code 65 = .ok (.istore 4, 2) := by decide +kernel
theorem dPT_67 : decode method_7_code 67 = .ok (.iload_n 3, 1) := by decide +kernel
theorem dPT_68 : decode method_7_code 68 = .ok (.iconst 2, 1) := by decide +kernel
theorem dPT_69 : decode method_7_code 69 = .ok (.if_icmp .le 29, 3) := by decide +kernel
theorem dPT_72 : decode method_7_code 72 = .ok (.iload 4, 2) := by decide +kernel
theorem dPT_74 : decode method_7_code 74 = .ok (.ifCond .eq 21, 3) := by decide +kernel
theorem dPT_77 : decode method_7_code 77 = .ok (.aload_n 0, 1) := by decide +kernel
theorem dPT_78 : decode method_7_code 78 = .ok (.iload_n 1, 1) := by decide +kernel
theorem dPT_79 : decode method_7_code 79 = .ok (.iconst 2, 1) := by decide +kernel
theorem dPT_80 : decode method_7_code 80 = .ok (.iadd, 1) := by decide +kernel
theorem dPT_81 : decode method_7_code 81 = .ok (.invokevirtual 28, 3) := by decide +kernel
theorem dPT_84 : decode method_7_code 84 = .ok (.iload_n 2, 1) := by decide +kernel
theorem dPT_85 : decode method_7_code 85 = .ok (.invokestatic 25, 3) := by decide +kernel
theorem dPT_88 : decode method_7_code 88 = .ok (.if_icmp .ne 7, 3) := by decide +kernel
theorem dPT_91 : decode method_7_code 91 = .ok (.iconst 1, 1) := by decide +kernel
theorem dPT_92 : decode method_7_code 92 = .ok (.goto 4, 3) := by decide +kernel
theorem dPT_96 : decode method_7_code 96 = .ok (.istore 4, 2) := by decide +kernel
theorem dPT_98 : decode method_7_code 98 = .ok (.iload 4, 2) := by decide +kernel
theorem dPT_100 : decode method_7_code 100 = .ok (.ireturn, 1) := by decide +kernel
theorem own_pn6 : plainName "com/example/garm/garm/SecurityTarget$Claim" = true := by first | (simp [plainName, overriddenIn]; done) | decide +kernel
theorem dCI_0 : decode prog_41_method_1_code 0 = .ok (.aload_n 0, 1) := by decide +kernel
theorem dCI_1 : decode prog_41_method_1_code 1 = .ok (.invokespecial 1, 3) := by decide +kernel
theorem dCI_4 : decode prog_41_method_1_code 4 = .ok (.aload_n 0, 1) := by decide +kernel
theorem dCI_5 : decode prog_41_method_1_code 5 = .ok (.aload_n 1, 1) := by decide +kernel
theorem dCI_6 : decode prog_41_method_1_code 6 = .ok (.putfield 7, 3) := by decide +kernel
theorem dCI_9 : decode prog_41_method_1_code 9 = .ok (.aload_n 0, 1) := by decide +kernel
theorem dCI_10 : decode prog_41_method_1_code 10 = .ok (.aload_n 2, 1) := by decide +kernel
theorem dCI_11 : decode prog_41_method_1_code 11 = .ok (.putfield 13, 3) := by decide +kernel
theorem dCI_14 : decode prog_41_method_1_code 14 = .ok (.aload_n 0, 1) := by decide +kernel
theorem dCI_15 : decode prog_41_method_1_code 15 = .ok (.aload_n 3, 1) := by decide +kernel
theorem dCI_16 : decode prog_41_method_1_code 16 = .ok (.putfield 16, 3) := by decide +kernel
theorem dCI_19 : decode prog_41_method_1_code 19 = .ok (.return_, 1) := by decide +kernel
theorem dCF_0 : decode prog_41_method_3_code 0 = .ok (.aload_n 0, 1) := by decide +kernel
theorem dCF_1 : decode prog_41_method_3_code 1 = .ok (.getfield 16, 3) := by decide +kernel
theorem dCF_4 : decode prog_41_method_3_code 4 = .ok (.areturn, 1) := by decide +kernel
theorem dCT_0 : decode prog_41_method_4_code 0 = .ok (.new 34, 3) := by decide +kernel
theorem dCT_3 : decode prog_41_method_4_code 3 = .ok (.dup, 1) := by decide +kernel
theorem dCT_4 : decode prog_41_method_4_code 4 = .ok (.invokespecial 36, 3) := by decide +kernel
theorem own_pd18 : parseMethodDescriptor "()V" = some ⟨[], none⟩ := by decide +kernel
theorem dCT_7 : decode prog_41_method_4_code 7 = .ok (.aload_n 0, 1) := by decide +kernel
theorem dCT_8 : decode prog_41_method_4_code 8 = .ok (.getfield 7, 3) := by decide +kernel
theorem dCT_11 : decode prog_41_method_4_code 11 = .ok (.invokevirtual 37, 3) := by decide +kernel
theorem own_pd19 : parseMethodDescriptor "(Ljava/lang/String;)Ljava/lang/StringBuilder;" = some ⟨[(.object "java/lang/String")], some (.object "java/lang/StringBuilder")⟩ := by decide +kernel
theorem dCT_14 : decode prog_41_method_4_code 14 = .ok (.ldc 41, 2) := by decide +kernel
theorem dCT_16 : decode prog_41_method_4_code 16 = .ok (.invokevirtual 37, 3) := by decide +kernel
theorem dCT_19 : decode prog_41_method_4_code 19 = .ok (.aload_n 0, 1) := by decide +kernel
theorem dCT_20 : decode prog_41_method_4_code 20 = .ok (.getfield 13, 3) := by decide +kernel
theorem dCT_23 : decode prog_41_method_4_code 23 = .ok (.invokevirtual 37, 3) := by decide +kernel
theorem dCT_26 : decode prog_41_method_4_code 26 = .ok (.invokevirtual 43, 3) := by decide +kernel
theorem own_pd20 : parseMethodDescriptor "()Ljava/lang/String;" = some ⟨[], some (.object "java/lang/String")⟩ := by decide +kernel
theorem dCT_29 : decode prog_41_method_4_code 29 = .ok (.areturn, 1) := by decide +kernel
theorem own_pd21 : parseMethodDescriptor "(I)Ljava/lang/String;" = some ⟨[.int], some (.object "java/lang/String")⟩ := by decide +kernel
theorem own_pd22 : parseMethodDescriptor "(Ljava/lang/String;Ljava/lang/String;Lcom/example/garm/garm/Conformance;)V" = some ⟨[(.object "java/lang/String"), (.object "java/lang/String"), (.object "com/example/garm/garm/Conformance")], none⟩ := by decide +kernel
theorem own_pd23 : parseMethodDescriptor "(Ljava/lang/String;II)Z" = some ⟨[(.object "java/lang/String"), .int, .int], some .boolean⟩ := by decide +kernel
theorem own_pd24 : parseMethodDescriptor "()Lcom/example/garm/garm/Conformance;" = some ⟨[], some (.object "com/example/garm/garm/Conformance")⟩ := by decide +kernel
def own_QE (Z : State) (x : Nat) (h0 : Heap) (n0 : Nat) (v : Option Value) (h : Heap) (L : List Loc) : Prop := v = none ∧ Fr n0 L ∧ Keep h0 h [x] ∧ ∃ (t : Nat) (kb : ClassId), t ≠ x ∧ Fld Z h x "java/lang/String" "value" "[B" (.ref t) ∧ Fld Z h x "java/lang/String" "coder" "B" (.int 0) ∧ Arv Z h t kb .byte (0 : Int32) [] (.int 0)
def Q_own_init4E (Z : State) (x b : Nat) (v0 c0 : Value) (h0 : Heap) (n0 : Nat) (v : Option Value) (_vm : Vm) (h : Heap) (L : List Loc) : Prop := own_QE Z x h0 n0 v h L
theorem ef_own_init4E (m : MethodId) (x0 : Nat) (x1 : Nat) : entryFrame m #[(.ref x0), (.ref x1), (.int 0), (.int 0), .null] 6 = mkF m 0 #[.val (.ref x0), .val (.ref x1), .val (.int 0), .val (.int 0), .val .null, .unset] [] := by first | (simp [entryFrame, mkF, argsToLocals, Value.category]; done) | rfl
theorem own_init4E (l : Launch) (Z : State) (a0 : Array Value) (hw : hWt a0 Z) (hEL : EW Z a0 consts_1) (ws : List Jvm.Cond) (x b : Nat) (v0 c0 : Value) (h0 : Heap) (n0 : Nat) (Z0 : n0 ≤ h0.size) (X00 : Old Z n0 h0) (Ex : Exa Z h0 x "java/lang/String") (Fv : Fld Z h0 x "java/lang/String" "value" "[B" v0) (Fc : Fld Z h0 x "java/lang/String" "coder" "B" c0) (gx : n0 ≤ x) (ltx : x < h0.size) :
    MetFree l mN0 (head1 (Jvm.Cond.code mN0 jdk_42_method_149_code 6 none :: ws) rm_1_2_4_12) (own_P Z consts_1 #[(.ref x), (.ref b), (.int 0), (.int 0), .null] h0 [x]) (fun _ _ _ _ _ => True) (own_E Z consts_1 (Q_own_init4E Z x b v0 c0 h0 n0) rm_1_2_4_12) := by
 refine MetFree.of_bodySF (plainFor_of_name own_pn0) hisR ?_
 intro p e s m args below meth c s₁ Bd hml0 hP hK
 obtain ⟨rfl, hZ, hh, hCH, hSafe⟩ := hP
 have hx := Bd.exec
 have hby := Bd.bytes
 have hml : c.maxLocals = 6 := hml0
 have hown : s.vm.findClass "java/lang/String" = some m.cls := findClass_of_methodNamed Bd.named
 have hnm := (name_of_methodNamed Bd.named Bd.method).1
 have X0 : Stand p l e rm_1_2_4_12 (s.setVm s.vm) m #[(.ref x), (.ref b), (.int 0), (.int 0), .null] below meth c s₁ [] 0 0 := Stand.of_body Bd
 have e0 : s₁.heap = h0 := by rw [← hh, Bd.state]; rfl
 have N0 := Fr.nil n0
 have K0 : Keep h0 h0 [x] := Keep.refl h0 [x]
 have S0 : s.Since s.vm 0 := own_since s
 have C0 : CHr Z consts_1 s.vm h0 s.vm h0 := CHr.refl hCH
 refine show own_G p e below (own_E Z consts_1 (Q_own_init4E Z x b v0 c0 h0 n0) rm_1_2_4_12 #[(.ref x), (.ref b), (.int 0), (.int 0), .null] s) _ from ?_
 refine own_st (fun tq kq => castTop (ef_own_init4E m (x) (b)) kq) ?_
 show own_G p e below _ (s₁.setTop (mkF m 0 #[vR x, vR b, vI 0, vI 0, .val .null, .unset] []))
 have hws0 : ∀ y ∈ [x], n0 ≤ y := allS gx all0
 refine s_aloadN X0 hx (hb hby dS4_0) rfl rfl ?_
 obtain ⟨T1, X1, e1, st1⟩ := initO X0 hx hZ hown (wd18 hw) (wd19 hw) (wd20 hw) e0 (g := (mkF m 1 #[vR x, vR b, vI 0, vI 0, .val .null, .unset] [(.ref x)])) rfl (by rw [hml]; rfl) rfl (hb hby dS4_1) (by decide) (W := 0) (Nat.le_of_eq rfl) (by decide)
 refine own_st st1 ?_
 refine s_iloadN X1 hx (hb hby dS4_4) rfl ?_
 show own_G p e below _ (T1.setTop (mkF m 5 #[vR x, vR b, vI 0, vI 0, .val .null, .unset] [(.int 0)]))
 refine own_st (fun tq kq => XS.ifNo X1.here hx rfl (hb hby dS4_5) rfl ((if0 _ _).trans (teq (by decide : ((0 : Int32) = (0 : Int32)))).2) kq) ?_
 refine s_aloadN X1 hx (hb hby dS4_8) rfl rfl ?_
 obtain ⟨a2, T2, h2, k2, b2, kb2, X2, e2, E2, S2, hk2, Z2, o2, Ex2, Fc2, Fv2, Av2, la2, lb2, c2, L2, ne2, st2⟩ := ldcCH (s := s) (vm0 := s.vm) X1 hx hZ hown (wd21 hw) (own_wS hw) e1 S0 (own_le (by omega)) hEL (by simp [consts_1]) C0.1 (vs := []) (z := (0 : Int32)) ⟨by decide, by decide⟩ (by decide) (by decide) (g := (mkF m 9 #[vR x, vR b, vI 0, vI 0, .val .null, .unset] [(.ref x)])) rfl (hb hby dS4_9) (n := 0) (by decide) (by decide) (by decide) (by decide)
 have la2 := own_lt la2
 have lb2 := own_lt lb2
 have sz2 : h0.size ≤ h2.size := E2.1
 have K2 : Keep h0 h2 [x] := K0.ext E2
 have C2 := C0.trans c2
 have Sf2_3 := c2.safe (own_lt (by omega)) (hSafe _ (List.mem_of_getElem? (i := 0) rfl))
 obtain ⟨nx4, ny4⟩ := ne2 _ Sf2_3
 have nx4 := own_ne nx4
 have ny4 := own_ne ny4
 refine own_st st2 ?_
 obtain ⟨T5, X5, e5, st5⟩ := getF X2 hx Z2 o2 (host := "") (Or.inl (wd27 hw)) Via.refl e2 Fv2 (g := (mkF m 11 #[vR x, vR b, vI 0, vI 0, .val .null, .unset] [(.ref a2), (.ref x)])) rfl rfl (hb hby dS4_11)
 refine own_st st5 ?_
 obtain ⟨T6, h6, X6, e6, W6, st6⟩ := putF X5 hx Z2 o2 (host := "") (Or.inl (wd27 hw)) Via.refl e5 (Fv.ext E2) (Ex.ext E2) (Or.inr ⟨(wd23 hw), rfl, hnm⟩) (wd8 hw) (ty := (.array .byte)) (by decide) rfl rfl (g := (mkF m 14 #[vR x, vR b, vI 0, vI 0, .val .null, .unset] [(.ref b2), (.ref x)])) rfl rfl (hb hby dS4_14)
 have Fw6 := (Fv.ext E2).same W6
 have sz6 : h2.size ≤ h6.size := (Keep.of_wr W6).1
 have K6 : Keep h0 h6 [x] := K2.wr W6 (Or.inl (by simp))
 have c6 : CHr Z consts_1 T2.vm h2 T2.vm h6 := CHr.wr W6 Sf2_3 C2.1
 have C6 := C2.trans c6
 have Sf6_7 := c6.safe (own_lt (by omega)) Sf2_3
 have N6 := Fr.snoc X6 N0 (own_le (by omega))
 refine own_st st6 ?_
 refine s_aloadN X6 hx (hb hby dS4_17) rfl rfl ?_
 refine own_st (fun tq kq => ldcAgain (s := s) (vm0 := T2.vm) X6 hx Z2 o2 (wd21 hw) L2 (g := (mkF m 18 #[vR x, vR b, vI 0, vI 0, .val .null, .unset] [(.ref x)])) rfl (hb hby dS4_18) _ kq) ?_
 obtain ⟨T8, X8, e8, st8⟩ := getF X6 hx Z2 o2 (host := "") (Or.inl (wd28 hw)) Via.refl e6 (Fc2.other W6 (Or.inl (own_ne (by omega)))) (g := (mkF m 20 #[vR x, vR b, vI 0, vI 0, .val .null, .unset] [(.ref a2), (.ref x)])) rfl rfl (hb hby dS4_20)
 refine own_st st8 ?_
 obtain ⟨T9, h9, X9, e9, W9, st9⟩ := putF X8 hx Z2 o2 (host := "") (Or.inl (wd28 hw)) Via.refl e8 ((Fc.ext E2).other W6 (Or.inr (slot_ne (Or.inr (wd24 hw)) (Or.inr (wd23 hw)) (by decide) (t := .byte) (t' := (.array .byte)) (by decide) (by decide)))) ((Ex.ext E2).wr W6) (Or.inr ⟨(wd24 hw), rfl, hnm⟩) (wd8 hw) (ty := .byte) (by decide) rfl rfl (g := (mkF m 23 #[vR x, vR b, vI 0, vI 0, .val .null, .unset] [(.int 0), (.ref x)])) rfl rfl (hb hby dS4_23)
 have Fw9 := ((Fc.ext E2).other W6 (Or.inr (slot_ne (Or.inr (wd24 hw)) (Or.inr (wd23 hw)) (by decide) (t := .byte) (t' := (.array .byte)) (by decide) (by decide)))).same W9
 have sz9 : h6.size ≤ h9.size := (Keep.of_wr W9).1
 have K9 : Keep h0 h9 [x] := K6.wr W9 (Or.inl (by simp))
 have c9 : CHr Z consts_1 T2.vm h6 T2.vm h9 := CHr.wr W9 Sf6_7 C6.1
 have C9 := C6.trans c9
 have Sf9_10 := c9.safe (own_lt (by omega)) Sf6_7
 have N9 := Fr.snoc X9 N6 (own_le (by omega))
 refine own_st st9 ?_
 obtain ⟨fs, hr, hrun, hended, hRW⟩ := X9.leaveW S2 (by rw [e9]; exact (own_le (by omega))) (v := none) (fun _ => rfl)
 have cE := C9.trans (CHv.at (s := s) (vm0 := T2.vm) X9 Z2 hEL C9.1)
 refine ⟨_, _, X9.returnOut hx Bd.returns (hb hby dS4_26) hr, hrun, hended, _, _, rfl, ?_, ?_, own_RW hRW (by decide) (by decide)⟩
 · change Q_own_init4E Z x b v0 c0 h0 n0 _ T9.vm T9.heap _; rw [e9]; exact ⟨rfl, N9, K9, b2, _, (by omega), (Fw6.other W9 (Or.inr (slot_ne (Or.inr (wd23 hw)) (Or.inr (wd24 hw)) (by decide) (t := (.array .byte)) (t' := .byte) (by decide) (by decide)))), Fw9, ((Av2.other W6 (own_ne (by omega))).other W9 (own_ne (by omega)))⟩
 · rw [hh]; change CHr Z consts_1 s.vm h0 T9.vm T9.heap; rw [e9]; exact cE

def Q_own_init1E (Z : State) (x b : Nat) (v0 c0 dv : Value) (kC : ClassId) (h0 : Heap) (n0 : Nat) (v : Option Value) (_vm : Vm) (h : Heap) (L : List Loc) : Prop := own_QE Z x h0 n0 v h L
theorem ef_own_init1E (m : MethodId) (x0 : Nat) (x1 : Nat) : entryFrame m #[(.ref x0), (.ref x1)] 2 = mkF m 0 #[.val (.ref x0), .val (.ref x1)] [] := by first | (simp [entryFrame, mkF, argsToLocals, Value.category]; done) | rfl
theorem own_init1E (l : Launch) (Z : State) (a0 : Array Value) (hw : hWt a0 Z) (hEL : EW Z a0 consts_1) (ws : List Jvm.Cond) (x b : Nat) (v0 c0 dv : Value) (kC : ClassId) (h0 : Heap) (n0 : Nat) (Z0 : n0 ≤ h0.size) (X00 : Old Z n0 h0) (Ex : Exa Z h0 x "java/lang/String") (Fv : Fld Z h0 x "java/lang/String" "value" "[B" v0) (Fc : Fld Z h0 x "java/lang/String" "coder" "B" c0) (gx : n0 ≤ x) (ltx : x < h0.size) (Vb : Arv Z h0 b kC .char (0 : Int32) [] dv) :
    MetFree l mN1 (head1 (Jvm.Cond.code mN1 jdk_42_method_3_code 2 none :: ws) rm_2_2_4_29) (own_P Z consts_1 #[(.ref x), (.ref b)] h0 [x]) (fun _ _ _ _ _ => True) (own_E Z consts_1 (Q_own_init1E Z x b v0 c0 dv kC h0 n0) rm_2_2_4_29) := by
 refine MetFree.of_bodySF (plainFor_of_name own_pn0) hisR ?_
 intro p e s m args below meth c s₁ Bd hml0 hP hK
 obtain ⟨rfl, hZ, hh, hCH, hSafe⟩ := hP
 have hx := Bd.exec
 have hby := Bd.bytes
 have hml : c.maxLocals = 2 := hml0
 have hown : s.vm.findClass "java/lang/String" = some m.cls := findClass_of_methodNamed Bd.named
 have hnm := (name_of_methodNamed Bd.named Bd.method).1
 have X0 : Stand p l e rm_2_2_4_29 (s.setVm s.vm) m #[(.ref x), (.ref b)] below meth c s₁ [] 0 0 := Stand.of_body Bd
 have e0 : s₁.heap = h0 := by rw [← hh, Bd.state]; rfl
 have N0 := Fr.nil n0
 have K0 : Keep h0 h0 [x] := Keep.refl h0 [x]
 have S0 : s.Since s.vm 0 := own_since s
 have C0 : CHr Z consts_1 s.vm h0 s.vm h0 := CHr.refl hCH
 refine show own_G p e below (own_E Z consts_1 (Q_own_init1E Z x b v0 c0 dv kC h0 n0) rm_2_2_4_29 #[(.ref x), (.ref b)] s) _ from ?_
 refine own_st (fun tq kq => castTop (ef_own_init1E m (x) (b)) kq) ?_
 show own_G p e below _ (s₁.setTop (mkF m 0 #[vR x, vR b] []))
 have hws0 : ∀ y ∈ [x], n0 ≤ y := allS gx all0
 refine s_aloadN X0 hx (hb hby dS1_0) rfl rfl ?_
 refine s_aloadN X0 hx (hb hby dS1_1) rfl rfl ?_
 refine s_iconst X0 hx (hb hby dS1_2) ?_
 refine s_aloadN X0 hx (hb hby dS1_3) rfl rfl ?_
 show own_G p e below _ (s₁.setTop (mkF m 4 #[vR x, vR b] [(.ref b), (.int 0), (.ref b), (.ref x)]))
 obtain ⟨cl1, Ar1, q1, S_1, N_1, H_1, G_1⟩ := id Vb
 refine own_st (fun tq kq => X0.arraylength hx (by rw [e0]; exact Ar1.1) (State.isArrayOf_alike hZ.alike Ar1.2.1) (g := (mkF m 4 #[vR x, vR b] [(.ref b), (.int 0), (.ref b), (.ref x)])) rfl rfl (hb hby dS1_4) _ kq) ?_
 rw [len_of S_1 N_1]
 show own_G p e below _ (s₁.setTop (mkF m 5 #[vR x, vR b] [(.int 0), (.int 0), (.ref b), (.ref x)]))
 refine own_st (fun tq kq => XS.aconstNull X0.here hx rfl (hb hby dS1_5) kq) ?_
 obtain ⟨_, _, ⟨T2, L2, k2, n2⟩, -, Y2, S2p, gr2, ⟨Lc2, hQ2, l2, y2, z2, c2⟩, st2⟩ := X0.specialBackS hx (y := mN0) rfl hown (mvT hZ (wd14 hw)) (mvT hZ (wd15 hw)) (mvT hZ (wd17 hw)) (by decide) (own_back (s := s) (vm0 := s.vm) (W := 0) (own_init4E l Z a0 hw hEL [] (x) (b) (v0) (c0) h0 n0 (by omega) (X00.keep K0 hws0) Ex Fv Fc gx ltx) hZ (wd17 hw) (wd9 hw) (by decide) (by decide) hEL C0.1 (allS ⟨own_lt (by omega), (hSafe _ (List.mem_of_getElem? (i := 0) rfl))⟩ all0)) (g := (mkF m 6 #[vR x, vR b] [.null, (.int 0), (.int 0), (.ref b), (.ref x)])) rfl (by rw [hml]; rfl) (Steps.refl _) (a := x) (argsL := [(.ref b), (.int 0), (.int 0), .null]) (rest := []) (lenOf own_pd0 rfl) rfl (Nat.le_of_eq rfl) (hb hby dS1_6) (fun _ _ => ⟨rfl, e0, (by decide : 0 + 2 ≤ _), (by decide : 0 + 4 ≤ _)⟩)
 dsimp only [Pt.U, Pt.locs, Pt.cells, Pt.slots] at Y2 S2p gr2 l2 y2 z2 st2 hQ2 c2
 subst l2 y2 z2
 obtain ⟨X2, S2, Z2, o2⟩ := rebS S0 (by rw [e0]; exact (own_le (by omega))) Y2 S2p gr2 hZ hown
 obtain ⟨rfl, Nq2, Kq2, R2⟩ := hQ2
 have KK2 : Keep h0 T2.heap [x] := Kq2
 have sz2 : h0.size ≤ T2.heap.size := KK2.1
 have K2 : Keep h0 T2.heap [x] := K0.trans KK2 (allS (Or.inl (by simp)) all0)
 have C2 := C0.trans c2
 have Sf2_3 := c2.safe (own_lt (by omega)) (hSafe _ (List.mem_of_getElem? (i := 0) rfl))
 have N2 := Fr.app N0 Nq2
 refine own_st (fun tq kq => st2.trans kq) ?_
 obtain ⟨fs, hr, hrun, hended, hRW⟩ := X2.leaveW S2 (own_le (by omega)) (v := none) (fun _ => rfl)
 have cE := C2.trans (CHv.at (s := s) (vm0 := T2.vm) X2 Z2 hEL C2.1)
 refine ⟨_, _, X2.returnOut hx Bd.returns (hb hby dS1_9) hr, hrun, hended, _, _, rfl, ?_, ?_, own_RW hRW (by decide) (by decide)⟩
 · change Q_own_init1E Z x b v0 c0 dv kC h0 n0 _ T2.vm T2.heap _; exact ⟨rfl, N2, K2, R2⟩
 · rw [hh]; change CHr Z consts_1 s.vm h0 T2.vm T2.heap; exact cE

/-- what new String(char[]) leaves, of any length -/
def own_QS (Z : State) (x : Nat) (cs : List Int32) (h0 : Heap) (n0 : Nat) (v : Option Value) (h : Heap) (L : List Loc) : Prop := v = none ∧ Fr n0 L ∧ Keep h0 h [x] ∧ own_Str Z h.size h x cs
set_option maxRecDepth 65536 in
set_option maxHeartbeats 40000000 in
/-- new String(char[]) at a call: no char, or up to 4,000 chars from 0 to 255 -/
theorem own_newStr {p : Program} {l : Launch} {e : Env} {R : Room} {s : State} {args : Array Value} {below : List Frame} {len W : Nat} {Z : State} {a0 : Array Value} {h : Heap} {vm0 : Vm} (hZ : Z.Warmed39 vm0) (hw : ∀ d ∈ tables_1, d.before a0 Z = true) (hEL : EW Z a0 consts_1) (H : CHv Z consts_1 vm0 h)
    {x b : Nat} {kC : ClassId} {cs : List Int32} {d v0 c0 : Value} {z N : Int32} {n n0 : Nat} (hs : Safe Z consts_1 vm0 h x) (hx0 : n0 ≤ x) (X00 : Old Z n0 h) (E : Exa Z h x "java/lang/String") (V : Fld Z h x "java/lang/String" "value" "[B" v0) (C : Fld Z h x "java/lang/String" "coder" "B" c0) (K : Arv Z h b kC .char N (cs.map Value.int) d) (S : Sta Z Z.heap "java/lang/String" "COMPACT_STRINGS" "Z" (.int z)) (hz : ¬ z = 0)
    (hn : cs.length = n) (hN : N = Int32.ofNat n) (l2 : n ≤ 4000) (hp : ∀ c ∈ cs, ¬ c < 0 ∧ ¬ (255 : Int32) < c) (hfr : 4 ≤ R.frames) (hlo : W + 65 ≤ R.locals) :
    BackS l R p e below (s.setVm vm0) args (⟨"java/lang/String", "<init>", "([C)V"⟩ : MethodName) len W (fun P a => a = #[.ref x, .ref b] ∧ P.U.heap = h ∧ P.cells + 2 ≤ R.cells ∧ P.slots + (n + 4) ≤ R.slots)
      (fun P _ v B => ∃ L, own_QS Z x cs h n0 v B.U.heap L ∧ B.locs = P.locs ++ L ∧ B.cells = P.cells + 2 ∧ B.slots = P.slots + (n + 4) ∧ CHr Z consts_1 vm0 h B.U.vm B.U.heap) := by
  have hh0 : n0 ≤ h.size := by have := X00.1; have := X00.2.1; omega
  rcases Nat.eq_zero_or_pos n with hn0 | hn0
  · subst hn0
    obtain rfl : cs = [] := List.length_eq_zero_iff.mp hn
    obtain rfl : N = (0 : Int32) := hN
    intro m meth c P g ig mk a X hg hsize hdg hW hnn hp'
    obtain ⟨v, B, Y, q1, q2, ⟨L, hQ, e1, e2, e3, hc⟩, st⟩ := own_back (rm := rm_2_2_4_29) (R := R) (W := W) (s := s) (vm0 := vm0) (own_init1E l Z a0 hw hEL [] x b v0 c0 d kC h n0 hh0 X00 E V C hx0 E.lt K) hZ (wd13 hw) (wd9 hw) (by show 2 + 1 ≤ _; omega) (by show W + (2 + 11) + 29 ≤ _; omega) hEL H (allS ⟨E.lt, hs⟩ all0) m meth c P g ig mk a X hg hsize hdg hW hnn ⟨hp'.1, hp'.2.1, hp'.2.2.1, hp'.2.2.2⟩
    obtain ⟨r1, r2, r3, t, kb, r4, r5, r6, r7⟩ := hQ
    exact ⟨v, B, Y, q1, q2, ⟨L, ⟨r1, r2, r3, r5.lt, E.keep r3, hp, by decide, t, kb, r7.lt, r5, r6, r7⟩, e1, e2, e3, hc⟩, st⟩
  · have hws : ∀ d ∈ StrChars.Road.words, d.before a0 Z = true := fun d hd => hw d ((by decide +kernel : ∀ d ∈ StrChars.Road.words, d ∈ tables_1) d hd)
    intro m meth c P g ig mk a X hg hsize hdg hW hnn hp'
    obtain ⟨v, B, Y, ⟨L, hQ, e1, e2, e3⟩, st⟩ := StrChars.Road.backV (R := R) (W := W) (s := s.setVm vm0) hZ hws (kI := 4) (wd8 hw) (cs := cs) (bs := cs.map (fun c => c.toInt8.toInt32)) (n := n) hx0 hh0 E V C K (S.ext X00.2) hz hn hN hn0 l2 hp rfl hfr hlo m meth c P g ig mk a X hg hsize hdg hW hnn ⟨hp'.1, hp'.2.1, Nat.le_trans (by omega) hp'.2.2.1, Nat.le_trans (by omega) hp'.2.2.2⟩
    obtain ⟨BU, BL, Bc, Bs⟩ := B
    dsimp only [Pt.U, Pt.locs, Pt.cells, Pt.slots] at Y hQ e1 e2 e3 st
    obtain ⟨r1, r2, r3, r4, r5, t, kb, u1, u2, u3, u4, u5⟩ := hQ
    have hCH : CHr Z consts_1 vm0 h vm0 BU.heap := CHr.keep r3 (allS hs all0) H
    have Y2 : Stand p l e R (s.setVm vm0) m args below meth c BU BL (P.cells + 2) (P.slots + (n + 4)) := Y.mono (by rw [e2]; exact Nat.add_le_add_left (by decide) _) (by rw [e3]; exact Nat.add_le_add_left (Nat.le_add_right _ _) _)
    refine ⟨v, ⟨BU, BL, P.cells + 2, P.slots + (n + 4)⟩, Y2.retabled Y2.warmed.wide, Y2.warmed.since _, ?_, ⟨L, ⟨r1, r2, r3, u4.lt, r4, hp, by omega, t, kb, u5.lt, u4, r5, ?_⟩, e1, rfl, rfl, hCH.trans (CHv.at (s := s) (vm0 := vm0) Y2 hZ hEL hCH.1)⟩, st⟩
    · show P.U.heap.size ≤ BU.heap.size
      rw [hp'.2.1]; exact r3.1
    · rw [hn, ← hN]; exact u5

theorem own_up {cs : List Int32} (h : ∀ c ∈ cs, ¬ c < 0 ∧ ¬ (255 : Int32) < c) : ∀ c ∈ cs, ¬ c < 0 ∧ ¬ (65535 : Int32) < c := fun c hc => ⟨(h c hc).1, fun q => (h c hc).2 (by rw [Int32.lt_iff_toInt_lt] at q ⊢; have e1 : (65535 : Int32).toInt = 65535 := rfl; have e2 : (255 : Int32).toInt = 255 := rfl; omega)⟩

theorem own_wLen {a0 : Array Value} {Z : State} (hw : ∀ d ∈ tables_1, d.before a0 Z = true) : ∀ d ∈ StrChars.Road.wordsLen, d.before a0 Z = true := fun d hd => hw d ((by decide +kernel : ∀ d ∈ StrChars.Road.wordsLen, d ∈ tables_1) d hd)

theorem own_wCh {a0 : Array Value} {Z : State} (hw : ∀ d ∈ tables_1, d.before a0 Z = true) : ∀ d ∈ StrChars.Road.wordsChN, d.before a0 Z = true := fun d hd => hw d ((by decide +kernel : ∀ d ∈ StrChars.Road.wordsChN, d ∈ tables_1) d hd)

/-- a private method is selected from its own class too -/
theorem own_selP {Z : State} {a0 : Array Value} {C : String} {y : MethodName} (ws : (Cond.selects C y y).before a0 Z = true) (wp : (Cond.privateMethod y).before a0 Z = true) (wi : (Cond.instanceMethod y).before a0 Z = true) (hy : y.cls ≠ "java/lang/invoke/MethodHandle" ∧ y.cls ≠ "java/lang/invoke/VarHandle") : (Cond.selects y.cls y y).before a0 Z = true := by
  obtain ⟨c, r, m, h1, h2, h3, h4, k, h5, h6⟩ := Cond.selects_spec ws
  obtain ⟨mk, methM, g1, g2, -, -⟩ := Cond.instanceMethod_spec wi
  cases h3.symm.trans g1
  have f := State.methodFound?_of_named h3 hy
  have c0 := findClass_of_methodNamed h3
  have sm : selectMethod {} Z.vm m.cls m = .method m := selectMethod_private g2 (Cond.privateMethod_at wp m methM h3 g2)
  simp [Cond.before, Cond.holds, Cond.value, c0, f, h3, sm, h5, h6]
/-- the lookup of a method in the class that declares it, a class -/
theorem own_same {Z : State} {a0 : Array Value} {C : String} {y y' : MethodName} (ws : (Cond.selects C y' y').before a0 Z = true) (hc : y'.cls = y.cls) (wi : (Cond.instanceMethod y).before a0 Z = true) (hy : y.cls ≠ "java/lang/invoke/MethodHandle" ∧ y.cls ≠ "java/lang/invoke/VarHandle") : (Cond.sameMethod y.cls y.cls y.name y.desc).before a0 Z = true := by
  obtain ⟨c, r, m, h1, h2, h3, h4, k, h5, h6⟩ := Cond.selects_spec ws
  obtain ⟨mk, methM, g1, g2, -, -⟩ := Cond.instanceMethod_spec wi
  have f := State.methodFound?_of_named g1 hy
  have c0 := findClass_of_methodNamed g1
  have c1 := findClass_of_methodNamed h3
  rw [hc, c0] at c1
  have e : mk.cls = m.cls := Option.some.inj c1
  rw [← e] at h5
  have g1' : Z.methodNamed? ⟨y.cls, y.name, y.desc⟩ = some mk := g1
  simp [Cond.before, Cond.holds, Cond.value, c0, f, g1', h5, h6]
/-- a class into which a selection leads is no interface -/
theorem own_nf {s : State} {args : Array Value} {C : String} {y y' : MethodName} (ws : (Cond.selects C y' y').before args s = true) (hc : y'.cls = y.cls) : NotFace s y := fun r0 h0 => by
  obtain ⟨c, r, m, h1, h2, h3, h4, k, h5, h6⟩ := Cond.selects_spec ws
  have c0 := findClass_of_methodNamed h0
  have c1 := findClass_of_methodNamed h3
  rw [hc, c0] at c1
  have e : r0.cls = m.cls := Option.some.inj c1
  rw [← e] at h5
  exact ⟨k, h5, h6⟩
abbrev own_bt (cs : List Int32) : List Value := (cs.map fun c => c.toInt8.toInt32).map Value.int
theorem own_n32 {n : Nat} (h : n ≤ 4000) : (Int32.ofNat n).toNatClampNeg = n := Int32.toNatClampNeg_ofNat_of_lt (by omega)
theorem own_n32i {n : Nat} (h : n ≤ 4000) : (Int32.ofNat n).toInt = n := Int32.toInt_ofNat_of_lt (by omega)
theorem own_n0 {n : Nat} (h : n ≤ 4000) : ¬ Int32.ofNat n < (0 : Int32) := by
  rw [Int32.lt_iff_toInt_lt, own_n32i h]; have : (0 : Int32).toInt = 0 := rfl; omega
theorem own_nlt {n : Nat} (h : n < 16) : Int32.ofNat n < (16 : Int32) := by
  rw [Int32.lt_iff_toInt_lt, own_n32i (by omega)]; have : (16 : Int32).toInt = 16 := rfl; omega
theorem own_nne {n : Nat} (h : n < 16) : ¬ Int32.ofNat n = (16 : Int32) := fun q => by
  have := own_n32i (n := n) (by omega); rw [q] at this; have e : (16 : Int32).toInt = 16 := rfl; omega
theorem own_cap {a b : Nat} (h : a + b ≤ 16) : ¬ (0 : Int32) < (Int32.ofNat a + Int32.ofNat b) - (16 : Int32) := by
  rw [← Int32.ofNat_add]
  have t : ∀ k : Fin 17, ¬ (0 : Int32) < Int32.ofNat k.val - (16 : Int32) := by decide
  exact t ⟨a + b, by omega⟩
theorem own_shl0 (x : Int32) : x <<< ((0 : Int32) &&& 31) = x := by
  have e : ((0 : Int32) &&& 31) = 0 := rfl
  rw [e]; exact Int32.shiftLeft_zero
theorem own_shr0 (x : Int32) : x >>> ((0 : Int32) &&& 31) = x := by
  have e : ((0 : Int32) &&& 31) = 0 := rfl
  rw [e]; exact Int32.shiftRight_zero
theorem own_sub0 (x : Int32) : x - (0 : Int32) = x := Int32.sub_zero x
theorem own_hus0 {us : List Value} {d : Value} {n : Nat} (hn : us.length = n) (h : n ≤ 4000) : us = (List.range (Int32.ofNat n).toNatClampNeg).map fun i => us.getD ((0 : Int32).toNatClampNeg + i) d := by
  rw [own_n32 h, show (0 : Int32).toNatClampNeg = 0 from rfl]
  apply List.ext_getElem
  · simp [hn]
  · intro i h1 h2; simp [List.getD_eq_getElem?_getD, h1]
theorem own_hus1 {us r : List Value} {d : Value} {n : Nat} (hn : us.length = n) (h : n ≤ 4000) : us = (List.range (Int32.ofNat n).toNatClampNeg).map fun i => (us ++ r).getD ((0 : Int32).toNatClampNeg + i) d := by
  rw [own_n32 h, show (0 : Int32).toNatClampNeg = 0 from rfl]
  apply List.ext_getElem
  · simp [hn]
  · intro i h1 h2; simp [List.getD_eq_getElem?_getD, List.getElem?_append_left h1, h1]
theorem own_put {cs ds : List Int32} (h : cs.length + ds.length ≤ 16) : (own_bt cs ++ List.replicate (16 - cs.length) (Value.int 0)).take (Int32.ofNat cs.length).toNatClampNeg ++ own_bt ds ++ (own_bt cs ++ List.replicate (16 - cs.length) (Value.int 0)).drop ((Int32.ofNat cs.length).toNatClampNeg + (Int32.ofNat ds.length).toNatClampNeg) = own_bt (cs ++ ds) ++ List.replicate (16 - (cs ++ ds).length) (Value.int 0) := by
  rw [own_n32 (by omega), own_n32 (by omega)]
  have l : (own_bt cs).length = cs.length := by simp
  rw [List.take_append_of_le_length (by omega), List.take_of_length_le (by omega), List.drop_append, List.drop_of_length_le (by omega), l, List.drop_replicate]
  simp only [own_bt, List.map_append, List.length_append, List.nil_append, List.append_assoc]
  rw [show 16 - cs.length - (cs.length + ds.length - cs.length) = 16 - (cs.length + ds.length) by omega]
theorem own_cut {cs : List Int32} (h : cs.length ≤ 16) : (List.replicate cs.length (Value.int 0)).take (0 : Int32).toNatClampNeg ++ own_bt cs ++ (List.replicate cs.length (Value.int 0)).drop ((0 : Int32).toNatClampNeg + (Int32.ofNat cs.length).toNatClampNeg) = own_bt cs := by
  rw [own_n32 (by omega), show (0 : Int32).toNatClampNeg = 0 from rfl]
  simp
/-- the builder x over the array t of 16 bytes holds cs -/
def own_SB (Z : State) (h : Heap) (x t : Nat) (k : ClassId) (cs : List Int32) : Prop := Exa Z h x "java/lang/StringBuilder" ∧ Fld Z h x "java/lang/AbstractStringBuilder" "value" "[B" (.ref t) ∧ Fld Z h x "java/lang/AbstractStringBuilder" "coder" "B" (.int 0) ∧ Fld Z h x "java/lang/AbstractStringBuilder" "count" "I" (.int (Int32.ofNat cs.length)) ∧ Arv Z h t k .byte (16 : Int32) (own_bt cs ++ List.replicate (16 - cs.length) (Value.int 0)) (.int 0)
theorem own_SB.ext {Z : State} {h h' : Heap} {x t : Nat} {k : ClassId} {cs : List Int32} (F : own_SB Z h x t k cs) (E : Ext h h') : own_SB Z h' x t k cs := ⟨F.1.ext E, F.2.1.ext E, F.2.2.1.ext E, F.2.2.2.1.ext E, F.2.2.2.2.ext E⟩
theorem own_SB.keep {Z : State} {h h' : Heap} {x t : Nat} {k : ClassId} {cs : List Int32} {ws : List Addr} (F : own_SB Z h x t k cs) (K : Keep h h' ws) (q1 : x ∉ ws) (q2 : t ∉ ws) : own_SB Z h' x t k cs := ⟨F.1.keep K, F.2.1.keep K q1, F.2.2.1.keep K q1, F.2.2.2.1.keep K q1, F.2.2.2.2.keep K q2⟩

def Q_own_coder0 (Z : State) (sx : Nat) (G1 : Int32) (h0 : Heap) (n0 : Nat) (v : Option Value) (h : Heap) (L : List Loc) : Prop := v = some (.int (0 : Int32)) ∧ Fr n0 L ∧ h = h0
theorem ef_own_coder0 (m : MethodId) (x0 : Nat) : entryFrame m #[(.ref x0)] 1 = mkF m 0 #[.val (.ref x0)] [] := by first | (simp [entryFrame, mkF, argsToLocals, Value.category]; done) | rfl
theorem own_coder0 (l : Launch) (Z : State) (a0 : Array Value) (hw : hWt a0 Z) (ws : List Jvm.Cond) (sx : Nat) (G1 : Int32) (h0 : Heap) (n0 : Nat) (Z0 : n0 ≤ h0.size) (X00 : Old Z n0 h0) (Cs : Fld Z h0 sx "java/lang/String" "coder" "B" (.int (0 : Int32))) (O2 : Sta Z Z.heap "java/lang/String" "COMPACT_STRINGS" "Z" (.int G1)) (P5 : ¬ (G1 = (0 : Int32))) :
 own_MN l mN2 jdk_42_method_152_code 1 (some .byte) ws rm_0_0_0_0 Z #[(.ref sx)] h0 (Q_own_coder0 Z sx G1 h0 n0) := by
 refine own_bodyN (plainFor_of_name own_pn0) fun p e s m below meth c s₁ Bd hx hby hml hown hZ X0 e0 => ?_
 have N0 := Fr.nil n0
 have K0 : Keep h0 h0 [] := Keep.refl h0 []
 refine own_st (fun tq kq => castTop (ef_own_coder0 m (sx)) kq) ?_
 show own_G p e below _ (s₁.setTop (mkF m 0 #[vR sx] []))
 obtain ⟨T1, X1, e1, st1⟩ := getS2 X0 hx hZ hown (host := "") (Or.inl (wd89 hw)) Via.refl e0 (O2.ext (X00.keep K0 all0).2) (g := (mkF m 0 #[vR sx] [])) rfl (hb hby dCO_0)
 refine own_st st1 ?_
 refine own_st (fun tq kq => XS.ifNo X1.here hx rfl (hb hby dCO_3) rfl ((if0 _ _).trans (feq P5).1) kq) ?_
 refine s_aloadN X1 hx (hb hby dCO_6) rfl rfl ?_
 obtain ⟨T2, X2, e2, st2⟩ := getF X1 hx hZ hown (host := "") (Or.inl (wd28 hw)) Via.refl e1 Cs (g := (mkF m 7 #[vR sx] [(.ref sx)])) rfl rfl (hb hby dCO_7)
 refine own_st st2 ?_
 refine own_st (fun tq kq => XS.goto X2.here hx rfl (pc0 := 10) (pc' := 14) rfl (hb hby dCO_10) (by decide) (by decide) kq) ?_
 show own_G p e below _ (T2.setTop (mkF m 14 #[vR sx] [(.int 0)]))
 obtain ⟨fs, hr, hrun, hended, hW, hsame⟩ := X2.leave (v := some (.int 0)) (fun h => by rw [Bd.returns] at h; cases h)
 refine ⟨_, _, retN X2 hx (t := .byte) Bd.returns (by simp) (hb hby dCO_14) hr, hrun, hended, _, _, rfl, ?_, ⟨_, rfl⟩, hW, hsame.mono (by decide) (by decide)⟩
 change Q_own_coder0 Z sx G1 h0 n0 _ T2.heap _; rw [e2]; exact ⟨rfl, N0, rfl⟩

def Q_own_ens (Z : State) (x t : Nat) (k : ClassId) (cs : List Int32) (mc : Int32) (h0 : Heap) (n0 : Nat) (v : Option Value) (h : Heap) (L : List Loc) : Prop := v = none ∧ Fr n0 L ∧ h = h0
theorem ef_own_ens (m : MethodId) (x0 : Nat) (x1 : Int32) : entryFrame m #[(.ref x0), (.int x1)] 3 = mkF m 0 #[.val (.ref x0), .val (.int x1), .unset] [] := by first | (simp [entryFrame, mkF, argsToLocals, Value.category]; done) | rfl
theorem own_ens (l : Launch) (Z : State) (a0 : Array Value) (hw : hWt a0 Z) (ws : List Jvm.Cond) (x t : Nat) (k : ClassId) (cs : List Int32) (mc : Int32) (h0 : Heap) (n0 : Nat) (Z0 : n0 ≤ h0.size) (X00 : Old Z n0 h0) (B : own_SB Z h0 x t k cs) (hcap : ¬ (0 : Int32) < mc - (16 : Int32)) :
 own_MN l mN3 jdk_68_method_9_code 3 none ws rm_0_0_0_0 Z #[(.ref x), (.int mc)] h0 (Q_own_ens Z x t k cs mc h0 n0) := by
 refine own_bodyN (plainFor_of_name own_pn1) fun p e s m below meth c s₁ Bd hx hby hml hown hZ X0 e0 => ?_
 have N0 := Fr.nil n0
 have K0 : Keep h0 h0 [] := Keep.refl h0 []
 refine own_st (fun tq kq => castTop (ef_own_ens m (x) (mc)) kq) ?_
 show own_G p e below _ (s₁.setTop (mkF m 0 #[vR x, vI mc, .unset] []))
 obtain ⟨Ex, Fv, Fd, Fn, Vt⟩ := id B
 refine s_aloadN X0 hx (hb hby dEN_0) rfl rfl ?_
 obtain ⟨T1, X1, e1, st1⟩ := getF X0 hx hZ hown (host := "") (Or.inl (wd65 hw)) Via.refl e0 Fv (g := (mkF m 1 #[vR x, vI mc, .unset] [(.ref x)])) rfl rfl (hb hby dEN_1)
 refine own_st st1 ?_
 obtain ⟨cl2, Ar2, q2, S_2, N_2, H_2, G_2⟩ := id Vt
 refine own_st (fun tq kq => X1.arraylength hx (by rw [e1]; exact Ar2.1) (State.isArrayOf_alike hZ.alike Ar2.2.1) (g := (mkF m 4 #[vR x, vI mc, .unset] [(.ref t)])) rfl rfl (hb hby dEN_4) _ kq) ?_
 rw [len_of S_2 N_2]
 show own_G p e below _ (T1.setTop (mkF m 5 #[vR x, vI mc, .unset] [(.int 16)]))
 refine s_aloadN X1 hx (hb hby dEN_5) rfl rfl ?_
 obtain ⟨T3, X3, e3, st3⟩ := getF X1 hx hZ hown (host := "") (Or.inl (wd67 hw)) Via.refl e1 Fd (g := (mkF m 6 #[vR x, vI mc, .unset] [(.ref x), (.int 16)])) rfl rfl (hb hby dEN_6)
 refine own_st st3 ?_
 refine own_st (fun tq kq => XS.ishr X3.here hx rfl (hb hby dEN_9) rfl kq) ?_
 refine own_st (fun tq kq => XS.istoreN X3.here hx rfl (hb hby dEN_10) rfl (l' := #[vR x, vI mc, vI 16]) rfl kq) ?_
 refine s_iloadN X3 hx (hb hby dEN_11) rfl ?_
 refine s_iloadN X3 hx (hb hby dEN_12) rfl ?_
 show own_G p e below _ (T3.setTop (mkF m 13 #[vR x, vI mc, vI 16] [(.int 16), (.int mc)]))
 refine own_st (fun tq kq => XS.isub X3.here hx rfl (hb hby dEN_13) rfl kq) ?_
 show own_G p e below _ (T3.setTop (mkF m 14 #[vR x, vI mc, vI 16] [(.int (mc - (16 : Int32)))]))
 refine own_st (fun tq kq => XS.ifYes X3.here hx rfl (pc0 := 14) (pc' := 38) rfl (hb hby dEN_14) rfl ((if0 _ _).trans (flt hcap).2.2.2) (by decide) (by decide) kq) ?_
 obtain ⟨fs, hr, hrun, hended, hW, hsame⟩ := X3.leave (v := none) (fun _ => rfl)
 refine ⟨_, _, X3.returnOut hx Bd.returns (hb hby dEN_38) hr, hrun, hended, _, _, rfl, ?_, ⟨_, rfl⟩, hW, hsame.mono (by decide) (by decide)⟩
 change Q_own_ens Z x t k cs mc h0 n0 _ T3.heap _; rw [e3]; exact ⟨rfl, N0, rfl⟩

def Q_own_inf (Z : State) (x t sx nb : Nat) (k : ClassId) (cs ds : List Int32) (G1 : Int32) (h0 : Heap) (n0 : Nat) (v : Option Value) (h : Heap) (L : List Loc) : Prop := v = none ∧ Fr n0 L ∧ h = h0
theorem own_inf (l : Launch) (Z : State) (a0 : Array Value) (hw : hWt a0 Z) (ws : List Jvm.Cond) (x t sx nb : Nat) (k : ClassId) (cs ds : List Int32) (G1 : Int32) (h0 : Heap) (n0 : Nat) (Z0 : n0 ≤ h0.size) (X00 : Old Z n0 h0) (S : own_Str Z nb h0 sx ds) (B : own_SB Z h0 x t k cs) (O2 : Sta Z Z.heap "java/lang/String" "COMPACT_STRINGS" "Z" (.int G1)) (P5 : ¬ (G1 = (0 : Int32))) :
 own_MN l mN4 jdk_68_method_71_code 2 none ws rm_1_0_0_20 Z #[(.ref x), (.ref sx)] h0 (Q_own_inf Z x t sx nb k cs ds G1 h0 n0) := by
 refine own_bodyN (plainFor_of_name own_pn1) fun p e s m below meth c s₁ Bd hx hby hml hown hZ X0 e0 => ?_
 have N0 := Fr.nil n0
 have K0 : Keep h0 h0 [] := Keep.refl h0 []
 refine own_st (fun tq kq => castTop (ef_own_init1E m (x) (sx)) kq) ?_
 show own_G p e below _ (s₁.setTop (mkF m 0 #[vR x, vR sx] []))
 obtain ⟨-, Es, hbs, lns, tb, kb, ltb, Vs, Cs, As⟩ := id S
 obtain ⟨Ex, Fv, Fd, Fn, Vt⟩ := id B
 obtain ⟨T1, X1, e1, st1⟩ := getS2 X0 hx hZ hown (host := "") (Or.inl (wd64 hw)) Via.refl e0 (O2.ext (X00.keep K0 all0).2) (g := (mkF m 0 #[vR x, vR sx] [])) rfl (hb hby dIN_0)
 refine own_st st1 ?_
 refine own_st (fun tq kq => XS.ifNo X1.here hx rfl (hb hby dIN_3) rfl ((if0 _ _).trans (feq P5).1) kq) ?_
 refine s_aloadN X1 hx (hb hby dIN_6) rfl rfl ?_
 obtain ⟨T2, X2, e2, st2⟩ := getF X1 hx hZ hown (host := "") (Or.inl (wd67 hw)) Via.refl e1 Fd (g := (mkF m 7 #[vR x, vR sx] [(.ref x)])) rfl rfl (hb hby dIN_7)
 refine own_st st2 ?_
 refine s_aloadN X2 hx (hb hby dIN_10) rfl rfl ?_
 obtain ⟨cq3, kq3, q3a, q3b, q3c⟩ := isOf hZ e2 Es
 obtain ⟨_, _, ⟨T3, L3, k3, n3⟩, -, X3, ⟨Lc3, hQ3, l3, y3, z3⟩, st3⟩ := X2.virtualBack hx (y := mN2) (z := mN2) hown (mvT hZ (wd107 hw)) (mvT hZ (wd85 hw)) (notFace_of_selects (args := #[]) (mvT hZ (wd87 hw))) (mvT hZ (wd87 hw)) (mvT hZ (wd86 hw)) (by decide) (own_backN (W := 1) (own_coder0 l Z a0 hw [] (sx) (G1) h0 n0 (by omega) (X00.keep K0 all0) Cs O2 P5) hZ (wd88 hw) (wd9 hw) (by decide) (by decide)) q3a q3c (g := (mkF m 11 #[vR x, vR sx] [(.ref sx), (.int 0)])) rfl (by rw [hml]; rfl) (Steps.refl _) (argsL := []) (rest := [(.int 0)]) (lenOf own_pd1 rfl) rfl (Nat.le_of_eq rfl) (hb hby dIN_11) (fun _ _ => ⟨rfl, e2, (by decide : 0 + 0 ≤ _), (by decide : 0 + 0 ≤ _)⟩)
 dsimp only [Pt.U, Pt.locs, Pt.cells, Pt.slots] at X3 l3 y3 z3 st3 hQ3
 subst l3 y3 z3
 obtain ⟨rfl, Nq3, sm3⟩ := hQ3
 have N3 := Fr.app N0 Nq3
 refine own_st (fun tq kq => st3.trans kq) ?_
 refine own_st (fun tq kq => XS.icmpYes X3.here hx rfl (pc0 := 14) (pc' := 21) rfl (hb hby dIN_14) rfl (teq (by decide : ((0 : Int32) = (0 : Int32)))).1 (by decide) (by decide) kq) ?_
 obtain ⟨fs, hr, hrun, hended, hW, hsame⟩ := X3.leave (v := none) (fun _ => rfl)
 refine ⟨_, _, X3.returnOut hx Bd.returns (hb hby dIN_21) hr, hrun, hended, _, _, rfl, ?_, ⟨_, rfl⟩, hW, hsame.mono (by decide) (by decide)⟩
 change Q_own_inf Z x t sx nb k cs ds G1 h0 n0 _ T3.heap _; rw [sm3]; exact ⟨rfl, N3, rfl⟩

def Q_own_gb (Z : State) (x t sx nb : Nat) (k : ClassId) (cs ds : List Int32) (G1 : Int32) (h0 : Heap) (n0 : Nat) (v : Option Value) (h : Heap) (L : List Loc) : Prop := v = none ∧ Fr n0 L ∧ Keep h0 h [t] ∧ Arv Z h t k .byte (16 : Int32) (own_bt (cs ++ ds) ++ List.replicate (16 - (cs ++ ds).length) (Value.int 0)) (.int 0)
theorem ef_own_gb (m : MethodId) (x0 : Nat) (x1 : Nat) (x2 : Int32) : entryFrame m #[(.ref x0), (.ref x1), (.int x2), (.int 0)] 4 = mkF m 0 #[.val (.ref x0), .val (.ref x1), .val (.int x2), .val (.int 0)] [] := by first | (simp [entryFrame, mkF, argsToLocals, Value.category]; done) | rfl
theorem own_gb (l : Launch) (Z : State) (a0 : Array Value) (hw : hWt a0 Z) (ws : List Jvm.Cond) (x t sx nb : Nat) (k : ClassId) (cs ds : List Int32) (G1 : Int32) (h0 : Heap) (n0 : Nat) (Z0 : n0 ≤ h0.size) (X00 : Old Z n0 h0) (S : own_Str Z nb h0 sx ds) (B : own_SB Z h0 x t k cs) (hl : cs.length + ds.length ≤ 16) (gx : n0 ≤ x) (gt : n0 ≤ t) (nxt : x ≠ t) (O2 : Sta Z Z.heap "java/lang/String" "COMPACT_STRINGS" "Z" (.int G1)) (P5 : ¬ (G1 = (0 : Int32))) :
 own_MN l mN5 jdk_42_method_147_code 4 none ws rm_1_0_0_40 Z #[(.ref sx), (.ref t), (.int (Int32.ofNat cs.length)), (.int 0)] h0 (Q_own_gb Z x t sx nb k cs ds G1 h0 n0) := by
 refine own_bodyN (plainFor_of_name own_pn0) fun p e s m below meth c s₁ Bd hx hby hml hown hZ X0 e0 => ?_
 have N0 := Fr.nil n0
 have K0 : Keep h0 h0 [t] := Keep.refl h0 [t]
 refine own_st (fun tq kq => castTop (ef_own_gb m (sx) (t) ((Int32.ofNat cs.length))) kq) ?_
 show own_G p e below _ (s₁.setTop (mkF m 0 #[vR sx, vR t, vI (Int32.ofNat cs.length), vI 0] []))
 have hws0 : ∀ y ∈ [t], n0 ≤ y := allS gt all0
 obtain ⟨-, Es, hbs, lns, tb, kb, ltb, Vs, Cs, As⟩ := id S
 obtain ⟨Ex, Fv, Fd, Fn, Vt⟩ := id B
 refine s_aloadN X0 hx (hb hby dGB_0) rfl rfl ?_
 obtain ⟨cq1, kq1, q1a, q1b, q1c⟩ := isOf hZ e0 Es
 obtain ⟨_, _, ⟨T1, L1, k1, n1⟩, -, X1, ⟨Lc1, hQ1, l1, y1, z1⟩, st1⟩ := X0.virtualBack hx (y := mN2) (z := mN2) hown (mvT hZ (wd84 hw)) (mvT hZ (wd85 hw)) (notFace_of_selects (args := #[]) (mvT hZ (wd87 hw))) (mvT hZ (wd87 hw)) (mvT hZ (wd86 hw)) (by decide) (own_backN (W := 0) (own_coder0 l Z a0 hw [] (sx) (G1) h0 n0 (by omega) (X00.keep K0 hws0) Cs O2 P5) hZ (wd88 hw) (wd9 hw) (by decide) (by decide)) q1a q1c (g := (mkF m 1 #[vR sx, vR t, vI (Int32.ofNat cs.length), vI 0] [(.ref sx)])) rfl (by rw [hml]; rfl) (Steps.refl _) (argsL := []) (rest := []) (lenOf own_pd1 rfl) rfl (Nat.le_of_eq rfl) (hb hby dGB_1) (fun _ _ => ⟨rfl, e0, (by decide : 0 + 0 ≤ _), (by decide : 0 + 0 ≤ _)⟩)
 dsimp only [Pt.U, Pt.locs, Pt.cells, Pt.slots] at X1 l1 y1 z1 st1 hQ1
 subst l1 y1 z1
 obtain ⟨rfl, Nq1, sm1⟩ := hQ1
 have N1 := Fr.app N0 Nq1
 refine own_st (fun tq kq => st1.trans kq) ?_
 refine s_iloadN X1 hx (hb hby dGB_4) rfl ?_
 show own_G p e below _ (T1.setTop (mkF m 5 #[vR sx, vR t, vI (Int32.ofNat cs.length), vI 0] [(.int 0), (.int 0)]))
 refine own_st (fun tq kq => XS.icmpNo X1.here hx rfl (hb hby dGB_5) rfl (teq (by decide : ((0 : Int32) = (0 : Int32)))).2 kq) ?_
 refine s_aloadN X1 hx (hb hby dGB_8) rfl rfl ?_
 obtain ⟨T2, X2, e2, st2⟩ := getF X1 hx hZ hown (host := "") (Or.inl (wd27 hw)) Via.refl sm1 Vs (g := (mkF m 9 #[vR sx, vR t, vI (Int32.ofNat cs.length), vI 0] [(.ref sx)])) rfl rfl (hb hby dGB_9)
 refine own_st st2 ?_
 refine s_iconst X2 hx (hb hby dGB_12) ?_
 refine s_aloadN X2 hx (hb hby dGB_13) rfl rfl ?_
 refine s_iloadN X2 hx (hb hby dGB_14) rfl ?_
 refine s_iloadN X2 hx (hb hby dGB_15) rfl ?_
 show own_G p e below _ (T2.setTop (mkF m 16 #[vR sx, vR t, vI (Int32.ofNat cs.length), vI 0] [(.int 0), (.int (Int32.ofNat cs.length)), (.ref t), (.int 0), (.ref tb)]))
 refine own_st (fun tq kq => XS.ishl X2.here hx rfl (hb hby dGB_16) rfl kq) ?_
 show own_G p e below _ (T2.setTop (mkF m 17 #[vR sx, vR t, vI (Int32.ofNat cs.length), vI 0] [(.int ((Int32.ofNat cs.length) <<< ((0 : Int32) &&& 31))), (.ref t), (.int 0), (.ref tb)]))
 rw [own_shl0]
 show own_G p e below _ (T2.setTop (mkF m 17 #[vR sx, vR t, vI (Int32.ofNat cs.length), vI 0] [(.int (Int32.ofNat cs.length)), (.ref t), (.int 0), (.ref tb)]))
 refine s_aloadN X2 hx (hb hby dGB_17) rfl rfl ?_
 obtain ⟨T3, X3, e3, st3⟩ := getF X2 hx hZ hown (host := "") (Or.inl (wd27 hw)) Via.refl e2 Vs (g := (mkF m 18 #[vR sx, vR t, vI (Int32.ofNat cs.length), vI 0] [(.ref sx), (.int (Int32.ofNat cs.length)), (.ref t), (.int 0), (.ref tb)])) rfl rfl (hb hby dGB_18)
 refine own_st st3 ?_
 obtain ⟨cl4, Ar4, q4, S_4, N_4, H_4, G_4⟩ := id As
 refine own_st (fun tq kq => X3.arraylength hx (by rw [e3]; exact Ar4.1) (State.isArrayOf_alike hZ.alike Ar4.2.1) (g := (mkF m 21 #[vR sx, vR t, vI (Int32.ofNat cs.length), vI 0] [(.ref tb), (.int (Int32.ofNat cs.length)), (.ref t), (.int 0), (.ref tb)])) rfl rfl (hb hby dGB_21) _ kq) ?_
 rw [len_of S_4 N_4]
 show own_G p e below _ (T3.setTop (mkF m 22 #[vR sx, vR t, vI (Int32.ofNat cs.length), vI 0] [(.int (Int32.ofNat ds.length)), (.int (Int32.ofNat cs.length)), (.ref t), (.int 0), (.ref tb)]))
 obtain ⟨T5, h5, L5, X5, e5, N5, KK5, V5, st5⟩ := cpA X3 hx hZ hown (wd113 hw) (wd116 hw) (wd114 hw) (wd115 hw) e3 As Vt (sp := (0 : Int32)) (dp := (Int32.ofNat cs.length)) (nn := (Int32.ofNat ds.length)) (us := (own_bt ds)) (Or.inl ⟨rfl, rfl⟩) (by decide) (own_n0 (by omega)) (own_n0 (by omega)) (by rw [own_n32 (by omega)]; show 0 + _ ≤ _; omega) (by rw [own_n32 (by omega), own_n32 (by omega)]; show _ ≤ 16; omega) (own_hus0 (by simp) (by omega)) (by rw [own_n32 (by omega), own_n32 (by omega)]; simp only [own_bt, List.length_append, List.length_map, List.length_replicate]; omega) N1 (own_le (by omega)) (g := (mkF m 22 #[vR sx, vR t, vI (Int32.ofNat cs.length), vI 0] [(.int (Int32.ofNat ds.length)), (.int (Int32.ofNat cs.length)), (.ref t), (.int 0), (.ref tb)])) rfl (by rw [hml]; rfl) (rest := []) rfl (hb hby dGB_22) (by decide) (W := 0) (Nat.le_of_eq rfl) (by decide)
 have sz5 : h0.size ≤ h5.size := KK5.1
 have K5 : Keep h0 h5 [t] := K0.trans KK5 (allS (Or.inl (by simp)) all0)
 rw [own_put hl] at V5
 refine own_st st5 ?_
 refine own_st (fun tq kq => XS.goto X5.here hx rfl (pc0 := 25) (pc' := 43) rfl (hb hby dGB_25) (by decide) (by decide) kq) ?_
 obtain ⟨fs, hr, hrun, hended, hW, hsame⟩ := X5.leave (v := none) (fun _ => rfl)
 refine ⟨_, _, X5.returnOut hx Bd.returns (hb hby dGB_43) hr, hrun, hended, _, _, rfl, ?_, ⟨_, rfl⟩, hW, hsame.mono (by decide) (by decide)⟩
 change Q_own_gb Z x t sx nb k cs ds G1 h0 n0 _ T5.heap _; rw [e5]; exact ⟨rfl, N5, K5, V5⟩

def Q_own_psa (Z : State) (x t sx nb : Nat) (k : ClassId) (cs ds : List Int32) (G1 : Int32) (h0 : Heap) (n0 : Nat) (v : Option Value) (h : Heap) (L : List Loc) : Prop := v = none ∧ Fr n0 L ∧ Keep h0 h [t] ∧ Arv Z h t k .byte (16 : Int32) (own_bt (cs ++ ds) ++ List.replicate (16 - (cs ++ ds).length) (Value.int 0)) (.int 0)
theorem ef_own_psa (m : MethodId) (x0 : Nat) (x1 : Int32) (x2 : Nat) : entryFrame m #[(.ref x0), (.int x1), (.ref x2)] 3 = mkF m 0 #[.val (.ref x0), .val (.int x1), .val (.ref x2)] [] := by first | (simp [entryFrame, mkF, argsToLocals, Value.category]; done) | rfl
theorem own_psa (l : Launch) (Z : State) (a0 : Array Value) (hw : hWt a0 Z) (ws : List Jvm.Cond) (x t sx nb : Nat) (k : ClassId) (cs ds : List Int32) (G1 : Int32) (h0 : Heap) (n0 : Nat) (Z0 : n0 ≤ h0.size) (X00 : Old Z n0 h0) (S : own_Str Z nb h0 sx ds) (B : own_SB Z h0 x t k cs) (hl : cs.length + ds.length ≤ 16) (gx : n0 ≤ x) (gt : n0 ≤ t) (nxt : x ≠ t) (O2 : Sta Z Z.heap "java/lang/String" "COMPACT_STRINGS" "Z" (.int G1)) (P5 : ¬ (G1 = (0 : Int32))) :
 own_MN l mN6 jdk_68_method_73_code 3 none ws rm_2_0_0_60 Z #[(.ref x), (.int (Int32.ofNat cs.length)), (.ref sx)] h0 (Q_own_psa Z x t sx nb k cs ds G1 h0 n0) := by
 refine own_bodyN (plainFor_of_name own_pn1) fun p e s m below meth c s₁ Bd hx hby hml hown hZ X0 e0 => ?_
 have N0 := Fr.nil n0
 have K0 : Keep h0 h0 [t] := Keep.refl h0 [t]
 refine own_st (fun tq kq => castTop (ef_own_psa m (x) ((Int32.ofNat cs.length)) (sx)) kq) ?_
 show own_G p e below _ (s₁.setTop (mkF m 0 #[vR x, vI (Int32.ofNat cs.length), vR sx] []))
 have hws0 : ∀ y ∈ [t], n0 ≤ y := allS gt all0
 obtain ⟨-, Es, hbs, lns, tb, kb, ltb, Vs, Cs, As⟩ := id S
 obtain ⟨Ex, Fv, Fd, Fn, Vt⟩ := id B
 refine s_aloadN X0 hx (hb hby dPS_0) rfl rfl ?_
 refine s_aloadN X0 hx (hb hby dPS_1) rfl rfl ?_
 obtain ⟨cq1, q1a, q1b⟩ := Exa.cell Ex
 obtain ⟨_, _, ⟨T1, L1, k1, n1⟩, -, X1, ⟨Lc1, hQ1, l1, y1, z1⟩, st1⟩ := X0.privateBack hx (y := mN4) hown (mvT hZ (wd102 hw)) (mvT hZ (wd103 hw)) (mvT hZ (own_selP (wd105 hw) (wd104 hw) (wd103 hw) (by decide))) (Cond.privateMethod_at (mvP hZ (wd104 hw) (args := #[]))) (mvT hZ (wd106 hw)) (by decide) (own_backN (W := 0) (own_inf l Z a0 hw [] (x) (t) (sx) (nb) (k) (cs) (ds) (G1) h0 n0 (by omega) (X00.keep K0 hws0) S ⟨Ex, Fv, Fd, Fn, Vt⟩ O2 P5) hZ (wd106 hw) (wd61 hw) (by decide) (by decide)) (g := (mkF m 2 #[vR x, vI (Int32.ofNat cs.length), vR sx] [(.ref sx), (.ref x)])) rfl (by rw [hml]; rfl) (Steps.refl _) (a := x) (by rw [e0]; exact q1a) q1b (argsL := [(.ref sx)]) (rest := []) (lenOf own_pd2 rfl) rfl (Nat.le_of_eq rfl) (hb hby dPS_2) (fun _ _ => ⟨rfl, e0, (by decide : 0 + 0 ≤ _), (by decide : 0 + 0 ≤ _)⟩)
 dsimp only [Pt.U, Pt.locs, Pt.cells, Pt.slots] at X1 l1 y1 z1 st1 hQ1
 subst l1 y1 z1
 obtain ⟨rfl, Nq1, sm1⟩ := hQ1
 have N1 := Fr.app N0 Nq1
 refine own_st (fun tq kq => st1.trans kq) ?_
 refine s_aloadN X1 hx (hb hby dPS_5) rfl rfl ?_
 refine s_aloadN X1 hx (hb hby dPS_6) rfl rfl ?_
 obtain ⟨T2, X2, e2, st2⟩ := getF X1 hx hZ hown (host := "") (Or.inl (wd65 hw)) Via.refl sm1 Fv (g := (mkF m 7 #[vR x, vI (Int32.ofNat cs.length), vR sx] [(.ref x), (.ref sx)])) rfl rfl (hb hby dPS_7)
 refine own_st st2 ?_
 refine s_iloadN X2 hx (hb hby dPS_10) rfl ?_
 refine s_aloadN X2 hx (hb hby dPS_11) rfl rfl ?_
 obtain ⟨T3, X3, e3, st3⟩ := getF X2 hx hZ hown (host := "") (Or.inl (wd67 hw)) Via.refl e2 Fd (g := (mkF m 12 #[vR x, vI (Int32.ofNat cs.length), vR sx] [(.ref x), (.int (Int32.ofNat cs.length)), (.ref t), (.ref sx)])) rfl rfl (hb hby dPS_12)
 refine own_st st3 ?_
 obtain ⟨cq4, kq4, q4a, q4b, q4c⟩ := isOf hZ e3 Es
 obtain ⟨_, _, ⟨T4, L4, k4, n4⟩, -, X4, ⟨Lc4, hQ4, l4, y4, z4⟩, st4⟩ := X3.virtualBack hx (y := mN5) (z := mN5) hown (mvT hZ (wd108 hw)) (mvT hZ (wd109 hw)) (notFace_of_selects (args := #[]) (mvT hZ (wd111 hw))) (mvT hZ (wd111 hw)) (mvT hZ (wd110 hw)) (by decide) (own_backN (W := 0) (own_gb l Z a0 hw [] (x) (t) (sx) (nb) (k) (cs) (ds) (G1) h0 n0 (by omega) (X00.keep K0 hws0) S ⟨Ex, Fv, Fd, Fn, Vt⟩ hl gx gt nxt O2 P5) hZ (wd112 hw) (wd9 hw) (by decide) (by decide)) q4a q4c (g := (mkF m 15 #[vR x, vI (Int32.ofNat cs.length), vR sx] [(.int 0), (.int (Int32.ofNat cs.length)), (.ref t), (.ref sx)])) rfl (by rw [hml]; rfl) (Steps.refl _) (argsL := [(.ref t), (.int (Int32.ofNat cs.length)), (.int 0)]) (rest := []) (lenOf own_pd3 rfl) rfl (Nat.le_of_eq rfl) (hb hby dPS_15) (fun _ _ => ⟨rfl, e3, (by decide : 0 + 0 ≤ _), (by decide : 0 + 0 ≤ _)⟩)
 dsimp only [Pt.U, Pt.locs, Pt.cells, Pt.slots] at X4 l4 y4 z4 st4 hQ4
 subst l4 y4 z4
 obtain ⟨rfl, Nq4, Kq4, Vt4⟩ := hQ4
 have KK4 : Keep h0 T4.heap [t] := Kq4
 have sz4 : h0.size ≤ T4.heap.size := KK4.1
 have K4 : Keep h0 T4.heap [t] := K0.trans KK4 (allS (Or.inl (by simp)) all0)
 have N4 := Fr.app N1 Nq4
 refine own_st (fun tq kq => st4.trans kq) ?_
 obtain ⟨fs, hr, hrun, hended, hW, hsame⟩ := X4.leave (v := none) (fun _ => rfl)
 refine ⟨_, _, X4.returnOut hx Bd.returns (hb hby dPS_18) hr, hrun, hended, _, _, rfl, ?_, ⟨_, rfl⟩, hW, hsame.mono (by decide) (by decide)⟩
 change Q_own_psa Z x t sx nb k cs ds G1 h0 n0 _ T4.heap _; exact ⟨rfl, N4, K4, Vt4⟩

def Q_own_asb (Z : State) (x t sx nb : Nat) (k : ClassId) (cs ds : List Int32) (G1 : Int32) (h0 : Heap) (n0 : Nat) (v : Option Value) (h : Heap) (L : List Loc) : Prop := v = some (.ref x) ∧ Fr n0 L ∧ Keep h0 h [x, t] ∧ own_SB Z h x t k (cs ++ ds)
theorem ef_own_asb (m : MethodId) (x0 : Nat) (x1 : Nat) : entryFrame m #[(.ref x0), (.ref x1)] 3 = mkF m 0 #[.val (.ref x0), .val (.ref x1), .unset] [] := by first | (simp [entryFrame, mkF, argsToLocals, Value.category]; done) | rfl
theorem own_asb (l : Launch) (Z : State) (a0 : Array Value) (hw : hWt a0 Z) (ws : List Jvm.Cond) (x t sx nb : Nat) (k : ClassId) (cs ds : List Int32) (G1 : Int32) (h0 : Heap) (n0 : Nat) (Z0 : n0 ≤ h0.size) (X00 : Old Z n0 h0) (S : own_Str Z nb h0 sx ds) (B : own_SB Z h0 x t k cs) (hl : cs.length + ds.length ≤ 16) (gx : n0 ≤ x) (gt : n0 ≤ t) (nxt : x ≠ t) (O2 : Sta Z Z.heap "java/lang/String" "COMPACT_STRINGS" "Z" (.int G1)) (P5 : ¬ (G1 = (0 : Int32))) :
 own_MN l mN7 jdk_68_method_22_code 3 (some (.object "java/lang/AbstractStringBuilder")) ws rm_3_0_0_80 Z #[(.ref x), (.ref sx)] h0 (Q_own_asb Z x t sx nb k cs ds G1 h0 n0) := by
 refine own_bodyN (plainFor_of_name own_pn1) fun p e s m below meth c s₁ Bd hx hby hml hown hZ X0 e0 => ?_
 have N0 := Fr.nil n0
 have K0 : Keep h0 h0 [x, t] := Keep.refl h0 [x, t]
 refine own_st (fun tq kq => castTop (ef_own_asb m (x) (sx)) kq) ?_
 show own_G p e below _ (s₁.setTop (mkF m 0 #[vR x, vR sx, .unset] []))
 have hws0 : ∀ y ∈ [x, t], n0 ≤ y := allS gx (allS gt all0)
 obtain ⟨-, Es, hbs, lns, tb, kb, ltb, Vs, Cs, As⟩ := id S
 obtain ⟨Ex, Fv, Fd, Fn, Vt⟩ := id B
 refine s_aloadN X0 hx (hb hby dAA_0) rfl rfl ?_
 show own_G p e below _ (s₁.setTop (mkF m 1 #[vR x, vR sx, .unset] [(.ref sx)]))
 refine own_st (fun tq kq => XS.ifnonnullYes X0.here hx rfl (pc0 := 1) (pc' := 9) rfl (hb hby dAA_1) rfl (by decide) (by decide) kq) ?_
 refine s_aloadN X0 hx (hb hby dAA_9) rfl rfl ?_
 obtain ⟨-, E1_1, hb1_1, ln1_1, t1_1, kb1_1, -, V1_1, C1_1, A1_1⟩ := id S
 obtain ⟨cq1, kq1, q1a, q1b, q1c⟩ := isOf hZ e0 Es
 obtain ⟨_, _, ⟨T1, L1, k1, n1⟩, -, X1, ⟨Lc1, hQ1, l1, y1, z1⟩, st1⟩ := X0.virtualBack hx (y := mN8) (z := mN8) hown (mvT hZ (wd79 hw)) (mvT hZ (wd80 hw)) (notFace_of_selects (args := #[]) (mvT hZ (wd82 hw))) (mvT hZ (wd82 hw)) (mvT hZ (wd81 hw)) (by decide) (StrChars.Road.lenW (W := 0) hZ (own_wLen hw) (kI := 4) (wd8 hw) E1_1 V1_1 C1_1 A1_1 (StrChars.Road.codOf rfl (fun c hc => (hb1_1 c hc).2)) (own_up hb1_1) (O2.ext (X00.keep K0 hws0).2) P5 ln1_1 (by decide) (by decide)) q1a q1c (g := (mkF m 10 #[vR x, vR sx, .unset] [(.ref sx)])) rfl (by rw [hml]; rfl) (Steps.refl _) (argsL := []) (rest := []) (lenOf own_pd4 rfl) rfl (Nat.le_of_eq rfl) (hb hby dAA_10) (fun _ _ => ⟨rfl, e0, (by decide : 0 + 0 ≤ _), (by decide : 0 + 0 ≤ _)⟩)
 dsimp only [Pt.U, Pt.locs, Pt.cells, Pt.slots] at X1 l1 y1 z1 st1 hQ1
 subst l1 y1 z1
 obtain ⟨rfl, rfl, sm1⟩ := hQ1
 have N1 := Fr.app N0 (Fr.nil n0)
 refine own_st (fun tq kq => st1.trans kq) ?_
 refine own_st (fun tq kq => XS.istoreN X1.here hx rfl (hb hby dAA_13) rfl (l' := #[vR x, vR sx, vI (Int32.ofNat ds.length)]) rfl kq) ?_
 refine s_aloadN X1 hx (hb hby dAA_14) rfl rfl ?_
 refine s_aloadN X1 hx (hb hby dAA_15) rfl rfl ?_
 obtain ⟨T2, X2, e2, st2⟩ := getF X1 hx hZ hown (host := "") (Or.inl (wd90 hw)) Via.refl sm1 Fn (g := (mkF m 16 #[vR x, vR sx, vI (Int32.ofNat ds.length)] [(.ref x), (.ref x)])) rfl rfl (hb hby dAA_16)
 refine own_st st2 ?_
 refine s_iloadN X2 hx (hb hby dAA_19) rfl ?_
 refine own_st (fun tq kq => XS.iadd X2.here hx rfl (hb hby dAA_20) rfl kq) ?_
 obtain ⟨cq3, q3a, q3b⟩ := Exa.cell Ex
 obtain ⟨_, _, ⟨T3, L3, k3, n3⟩, -, X3, ⟨Lc3, hQ3, l3, y3, z3⟩, st3⟩ := X2.privateBack hx (y := mN3) hown (mvT hZ (wd92 hw)) (mvT hZ (wd93 hw)) (mvT hZ (own_selP (wd95 hw) (wd94 hw) (wd93 hw) (by decide))) (Cond.privateMethod_at (mvP hZ (wd94 hw) (args := #[]))) (mvT hZ (wd96 hw)) (by decide) (own_backN (W := 0) (own_ens l Z a0 hw [] (x) (t) (k) (cs) (((Int32.ofNat cs.length) + (Int32.ofNat ds.length))) h0 n0 (by omega) (X00.keep K0 hws0) ⟨Ex, Fv, Fd, Fn, Vt⟩ (own_cap hl)) hZ (wd96 hw) (wd61 hw) (by decide) (by decide)) (g := (mkF m 21 #[vR x, vR sx, vI (Int32.ofNat ds.length)] [(.int ((Int32.ofNat cs.length) + (Int32.ofNat ds.length))), (.ref x)])) rfl (by rw [hml]; rfl) (Steps.refl _) (a := x) (by rw [e2]; exact q3a) q3b (argsL := [(.int ((Int32.ofNat cs.length) + (Int32.ofNat ds.length)))]) (rest := []) (lenOf own_pd5 rfl) rfl (Nat.le_of_eq rfl) (hb hby dAA_21) (fun _ _ => ⟨rfl, e2, (by decide : 0 + 0 ≤ _), (by decide : 0 + 0 ≤ _)⟩)
 dsimp only [Pt.U, Pt.locs, Pt.cells, Pt.slots] at X3 l3 y3 z3 st3 hQ3
 subst l3 y3 z3
 obtain ⟨rfl, Nq3, sm3⟩ := hQ3
 have N3 := Fr.app N1 Nq3
 refine own_st (fun tq kq => st3.trans kq) ?_
 refine s_aloadN X3 hx (hb hby dAA_24) rfl rfl ?_
 refine s_aloadN X3 hx (hb hby dAA_25) rfl rfl ?_
 obtain ⟨T4, X4, e4, st4⟩ := getF X3 hx hZ hown (host := "") (Or.inl (wd90 hw)) Via.refl sm3 Fn (g := (mkF m 26 #[vR x, vR sx, vI (Int32.ofNat ds.length)] [(.ref x), (.ref x)])) rfl rfl (hb hby dAA_26)
 refine own_st st4 ?_
 refine s_aloadN X4 hx (hb hby dAA_29) rfl rfl ?_
 obtain ⟨cq5, q5a, q5b⟩ := Exa.cell Ex
 obtain ⟨_, _, ⟨T5, L5, k5, n5⟩, -, X5, ⟨Lc5, hQ5, l5, y5, z5⟩, st5⟩ := X4.privateBack hx (y := mN6) hown (mvT hZ (wd97 hw)) (mvT hZ (wd98 hw)) (mvT hZ (own_selP (wd100 hw) (wd99 hw) (wd98 hw) (by decide))) (Cond.privateMethod_at (mvP hZ (wd99 hw) (args := #[]))) (mvT hZ (wd101 hw)) (by decide) (own_backN (W := 0) (own_psa l Z a0 hw [] (x) (t) (sx) (nb) (k) (cs) (ds) (G1) h0 n0 (by omega) (X00.keep K0 hws0) S ⟨Ex, Fv, Fd, Fn, Vt⟩ hl gx gt nxt O2 P5) hZ (wd101 hw) (wd61 hw) (by decide) (by decide)) (g := (mkF m 30 #[vR x, vR sx, vI (Int32.ofNat ds.length)] [(.ref sx), (.int (Int32.ofNat cs.length)), (.ref x)])) rfl (by rw [hml]; rfl) (Steps.refl _) (a := x) (by rw [e4]; exact q5a) q5b (argsL := [(.int (Int32.ofNat cs.length)), (.ref sx)]) (rest := []) (lenOf own_pd6 rfl) rfl (Nat.le_of_eq rfl) (hb hby dAA_30) (fun _ _ => ⟨rfl, e4, (by decide : 0 + 0 ≤ _), (by decide : 0 + 0 ≤ _)⟩)
 dsimp only [Pt.U, Pt.locs, Pt.cells, Pt.slots] at X5 l5 y5 z5 st5 hQ5
 subst l5 y5 z5
 obtain ⟨rfl, Nq5, Kq5, Vt5⟩ := hQ5
 have KK5 : Keep h0 T5.heap [t] := Kq5
 have sz5 : h0.size ≤ T5.heap.size := KK5.1
 have K5 : Keep h0 T5.heap [x, t] := K0.trans KK5 (allS (Or.inl (by simp)) all0)
 have N5 := Fr.app N3 Nq5
 refine own_st (fun tq kq => st5.trans kq) ?_
 refine s_aloadN X5 hx (hb hby dAA_33) rfl rfl ?_
 refine own_st (fun tq kq => XS.dup X5.here hx rfl (hb hby dAA_34) rfl rfl kq) ?_
 obtain ⟨T6, X6, e6, st6⟩ := getF X5 hx hZ hown (host := "") (Or.inl (wd90 hw)) Via.refl rfl (Fn.keep KK5 (ninS (own_ne (by omega)) nin0)) (g := (mkF m 35 #[vR x, vR sx, vI (Int32.ofNat ds.length)] [(.ref x), (.ref x)])) rfl rfl (hb hby dAA_35)
 refine own_st st6 ?_
 refine s_iloadN X6 hx (hb hby dAA_38) rfl ?_
 refine own_st (fun tq kq => XS.iadd X6.here hx rfl (hb hby dAA_39) rfl kq) ?_
 obtain ⟨T7, h7, X7, e7, W7, st7⟩ := putF X6 hx hZ hown (host := "") (Or.inl (wd90 hw)) Via.refl e6 (Fn.keep KK5 (ninS (own_ne (by omega)) nin0)) (Ex.keep KK5) (Or.inl (wd91 hw)) (wd52 hw) (ty := .int) (by decide) rfl rfl (g := (mkF m 40 #[vR x, vR sx, vI (Int32.ofNat ds.length)] [(.int ((Int32.ofNat cs.length) + (Int32.ofNat ds.length))), (.ref x)])) rfl rfl (hb hby dAA_40)
 have Fw7 := (Fn.keep KK5 (ninS (own_ne (by omega)) nin0)).same W7
 have sz7 : T5.heap.size ≤ h7.size := (Keep.of_wr W7).1
 have K7 : Keep h0 h7 [x, t] := K5.wr W7 (Or.inl (by simp))
 have N7 := Fr.snoc X7 N5 (own_le (by omega))
 refine own_st st7 ?_
 refine s_aloadN X7 hx (hb hby dAA_43) rfl rfl ?_
 show own_G p e below _ (T7.setTop (mkF m 44 #[vR x, vR sx, vI (Int32.ofNat ds.length)] [(.ref x)]))
 obtain ⟨fs, hr, hrun, hended, hW, hsame⟩ := X7.leave (v := some (.ref x)) (fun h => by rw [Bd.returns] at h; cases h)
 refine ⟨_, _, retOut X7 hx Bd.returns rfl (Or.inr (Or.inr (Or.inr (Or.inr ⟨rfl, rfl, rfl⟩)))) (hb hby dAA_44) hr, hrun, hended, _, _, rfl, ?_, ⟨_, rfl⟩, hW, hsame.mono (by decide) (by decide)⟩
 change Q_own_asb Z x t sx nb k cs ds G1 h0 n0 _ T7.heap _; rw [e7]; exact ⟨rfl, N7, K7, ((Ex.keep KK5).wr W7), ((Fv.keep KK5 (ninS (own_ne (by omega)) nin0)).other W7 (Or.inr (slot_ne (Or.inl (wd66 hw)) (Or.inl (wd91 hw)) (by decide) (t := (.array .byte)) (t' := .int) (by decide) (by decide)))), ((Fd.keep KK5 (ninS (own_ne (by omega)) nin0)).other W7 (Or.inr (slot_ne (Or.inl (wd68 hw)) (Or.inl (wd91 hw)) (by decide) (t := .byte) (t' := .int) (by decide) (by decide)))), (by have q := Fw7; rw [← Int32.ofNat_add, ← List.length_append] at q; exact q), (Vt5.other W7 (own_ne (by omega)))⟩

def Q_own_sba (Z : State) (x t sx nb : Nat) (k : ClassId) (cs ds : List Int32) (G1 : Int32) (h0 : Heap) (n0 : Nat) (v : Option Value) (h : Heap) (L : List Loc) : Prop := v = some (.ref x) ∧ Fr n0 L ∧ Keep h0 h [x, t] ∧ own_SB Z h x t k (cs ++ ds)
theorem own_sba (l : Launch) (Z : State) (a0 : Array Value) (hw : hWt a0 Z) (ws : List Jvm.Cond) (x t sx nb : Nat) (k : ClassId) (cs ds : List Int32) (G1 : Int32) (h0 : Heap) (n0 : Nat) (Z0 : n0 ≤ h0.size) (X00 : Old Z n0 h0) (S : own_Str Z nb h0 sx ds) (B : own_SB Z h0 x t k cs) (hl : cs.length + ds.length ≤ 16) (gx : n0 ≤ x) (gt : n0 ≤ t) (nxt : x ≠ t) (O2 : Sta Z Z.heap "java/lang/String" "COMPACT_STRINGS" "Z" (.int G1)) (P5 : ¬ (G1 = (0 : Int32))) :
 own_MN l mN9 jdk_67_method_7_code 2 (some (.object "java/lang/StringBuilder")) ws rm_4_0_0_98 Z #[(.ref x), (.ref sx)] h0 (Q_own_sba Z x t sx nb k cs ds G1 h0 n0) := by
 refine own_bodyN (plainFor_of_name own_pn2) fun p e s m below meth c s₁ Bd hx hby hml hown hZ X0 e0 => ?_
 have N0 := Fr.nil n0
 have K0 : Keep h0 h0 [x, t] := Keep.refl h0 [x, t]
 refine own_st (fun tq kq => castTop (ef_own_init1E m (x) (sx)) kq) ?_
 show own_G p e below _ (s₁.setTop (mkF m 0 #[vR x, vR sx] []))
 have hws0 : ∀ y ∈ [x, t], n0 ≤ y := allS gx (allS gt all0)
 obtain ⟨-, Es, hbs, lns, tb, kb, ltb, Vs, Cs, As⟩ := id S
 obtain ⟨Ex, Fv, Fd, Fn, Vt⟩ := id B
 refine s_aloadN X0 hx (hb hby dSA_0) rfl rfl ?_
 refine s_aloadN X0 hx (hb hby dSA_1) rfl rfl ?_
 obtain ⟨_, _, ⟨T1, L1, k1, n1⟩, -, X1, ⟨Lc1, hQ1, l1, y1, z1⟩, st1⟩ := superBack X0 hx hZ (y := mN7) hown (wd74 hw) (own_same (wd95 hw) rfl (wd75 hw) (by decide)) (wd75 hw) (wd76 hw) (by decide) (own_backN (W := 0) (own_asb l Z a0 hw [] (x) (t) (sx) (nb) (k) (cs) (ds) (G1) h0 n0 (by omega) (X00.keep K0 hws0) S ⟨Ex, Fv, Fd, Fn, Vt⟩ hl gx gt nxt O2 P5) hZ (wd78 hw) (wd61 hw) (by decide) (by decide)) e0 (Ins.self Ex) (g := (mkF m 2 #[vR x, vR sx] [(.ref sx), (.ref x)])) rfl (by rw [hml]; rfl) (wd78 hw) (argsL := [(.ref sx)]) (rest := []) (lenOf own_pd7 rfl) rfl (Nat.le_of_eq rfl) (hb hby dSA_2) (fun _ _ => ⟨rfl, e0, (by decide : 0 + 0 ≤ _), (by decide : 0 + 0 ≤ _)⟩)
 dsimp only [Pt.U, Pt.locs, Pt.cells, Pt.slots] at X1 l1 y1 z1 st1 hQ1
 subst l1 y1 z1
 obtain ⟨rfl, Nq1, Kq1, Bq1⟩ := hQ1
 have KK1 : Keep h0 T1.heap [x, t] := Kq1
 have sz1 : h0.size ≤ T1.heap.size := KK1.1
 have K1 : Keep h0 T1.heap [x, t] := K0.trans KK1 (allS (Or.inl (by simp)) (allS (Or.inl (by simp)) all0))
 have N1 := Fr.app N0 Nq1
 refine own_st (fun tq kq => st1.trans kq) ?_
 refine own_st (fun tq kq => XS.pop X1.here hx rfl (hb hby dSA_5) rfl rfl kq) ?_
 refine s_aloadN X1 hx (hb hby dSA_6) rfl rfl ?_
 show own_G p e below _ (T1.setTop (mkF m 7 #[vR x, vR sx] [(.ref x)]))
 obtain ⟨fs, hr, hrun, hended, hW, hsame⟩ := X1.leave (v := some (.ref x)) (fun h => by rw [Bd.returns] at h; cases h)
 refine ⟨_, _, retOut X1 hx Bd.returns rfl (Or.inr (Or.inr (Or.inr (Or.inr ⟨rfl, rfl, rfl⟩)))) (hb hby dSA_7) hr, hrun, hended, _, _, rfl, ?_, ⟨_, rfl⟩, hW, hsame.mono (by decide) (by decide)⟩
 change Q_own_sba Z x t sx nb k cs ds G1 h0 n0 _ T1.heap _; exact ⟨rfl, N1, K1, Bq1⟩

def Q_own_asi (Z : State) (x : Nat) (v0 c0 : Value) (G1 : Int32) (h0 : Heap) (n0 : Nat) (v : Option Value) (h : Heap) (L : List Loc) : Prop := v = none ∧ Fr n0 L ∧ Keep h0 h [x] ∧ ∃ (t : Nat) (k : ClassId), h0.size ≤ t ∧ t < h.size ∧ own_SB Z h x t k []
theorem ef_own_asi (m : MethodId) (x0 : Nat) : entryFrame m #[(.ref x0), (.int 16)] 2 = mkF m 0 #[.val (.ref x0), .val (.int 16)] [] := by first | (simp [entryFrame, mkF, argsToLocals, Value.category]; done) | rfl
theorem own_asi (l : Launch) (Z : State) (a0 : Array Value) (hw : hWt a0 Z) (ws : List Jvm.Cond) (x : Nat) (v0 c0 : Value) (G1 : Int32) (h0 : Heap) (n0 : Nat) (Z0 : n0 ≤ h0.size) (X00 : Old Z n0 h0) (Ex : Exa Z h0 x "java/lang/StringBuilder") (Fv : Fld Z h0 x "java/lang/AbstractStringBuilder" "value" "[B" v0) (Fd : Fld Z h0 x "java/lang/AbstractStringBuilder" "coder" "B" c0) (Fn : Fld Z h0 x "java/lang/AbstractStringBuilder" "count" "I" (.int 0)) (gx : n0 ≤ x) (ltx : x < h0.size) (O2 : Sta Z Z.heap "java/lang/String" "COMPACT_STRINGS" "Z" (.int G1)) (P5 : ¬ (G1 = (0 : Int32))) :
 own_MN l mN10 jdk_68_method_2_code 2 none ws rm_1_1_16_12 Z #[(.ref x), (.int 16)] h0 (Q_own_asi Z x v0 c0 G1 h0 n0) := by
 refine own_bodyN (plainFor_of_name own_pn1) fun p e s m below meth c s₁ Bd hx hby hml hown hZ X0 e0 => ?_
 have hnm := (name_of_methodNamed Bd.named Bd.method).1
 have N0 := Fr.nil n0
 have K0 : Keep h0 h0 [x] := Keep.refl h0 [x]
 refine own_st (fun tq kq => castTop (ef_own_asi m (x)) kq) ?_
 show own_G p e below _ (s₁.setTop (mkF m 0 #[vR x, vI 16] []))
 have hws0 : ∀ y ∈ [x], n0 ≤ y := allS gx all0
 refine s_aloadN X0 hx (hb hby dAI_0) rfl rfl ?_
 obtain ⟨T1, X1, e1, st1⟩ := initO X0 hx hZ hown (wd63 hw) (wd19 hw) (wd20 hw) e0 (g := (mkF m 1 #[vR x, vI 16] [(.ref x)])) rfl (by rw [hml]; rfl) rfl (hb hby dAI_1) (by decide) (W := 0) (Nat.le_of_eq rfl) (by decide)
 refine own_st st1 ?_
 obtain ⟨T2, X2, e2, st2⟩ := getS2 X1 hx hZ hown (host := "") (Or.inl (wd64 hw)) Via.refl e1 (O2.ext (X00.keep K0 hws0).2) (g := (mkF m 4 #[vR x, vI 16] [])) rfl (hb hby dAI_4)
 refine own_st st2 ?_
 refine own_st (fun tq kq => XS.ifNo X2.here hx rfl (hb hby dAI_7) rfl ((if0 _ _).trans (feq P5).1) kq) ?_
 refine s_aloadN X2 hx (hb hby dAI_10) rfl rfl ?_
 refine s_iloadN X2 hx (hb hby dAI_11) rfl ?_
 obtain ⟨T3, h3, k3, X3, e3, E3, A3, st3⟩ := newP X2 hx hZ (hw _ (List.mem_of_getElem? (i := 22) rfl)) e2 (g := (mkF m 12 #[vR x, vI 16] [(.int 16), (.ref x)])) rfl (hb hby dAI_12) rfl (by decide) (cap := 16) (by decide) (by decide) (by decide) (by decide)
 obtain ⟨b3, g3⟩ : ∃ z, z = h0.size := ⟨_, rfl⟩
 rw [← g3] at A3 st3
 have lt3 : b3 < h3.size := A3.lt
 have V3 : Arv Z h3 b3 k3 .byte (16 : Int32) [(.int (0 : Int32)), (.int (0 : Int32)), (.int (0 : Int32)), (.int (0 : Int32)), (.int (0 : Int32)), (.int (0 : Int32)), (.int (0 : Int32)), (.int (0 : Int32)), (.int (0 : Int32)), (.int (0 : Int32)), (.int (0 : Int32)), (.int (0 : Int32)), (.int (0 : Int32)), (.int (0 : Int32)), (.int (0 : Int32)), (.int (0 : Int32))] (.int (0 : Int32)) := (Arv.new A3 (by decide)).pad (pad_rep [] (.int (0 : Int32)) 16)
 have sz3 : h0.size ≤ h3.size := E3.1
 have K3 : Keep h0 h3 [x] := K0.ext E3
 refine own_st st3 ?_
 obtain ⟨T4, h4, X4, e4, W4, st4⟩ := putF X3 hx hZ hown (host := "") (Or.inl (wd65 hw)) Via.refl e3 (Fv.ext E3) (Ex.ext E3) (Or.inl (wd66 hw)) (wd52 hw) (ty := (.array .byte)) (by decide) rfl rfl (g := (mkF m 14 #[vR x, vI 16] [(.ref b3), (.ref x)])) rfl rfl (hb hby dAI_14)
 have Fw4 := (Fv.ext E3).same W4
 have sz4 : h3.size ≤ h4.size := (Keep.of_wr W4).1
 have K4 : Keep h0 h4 [x] := K3.wr W4 (Or.inl (by simp))
 have N4 := Fr.snoc X4 N0 (own_le (by omega))
 refine own_st st4 ?_
 refine s_aloadN X4 hx (hb hby dAI_17) rfl rfl ?_
 refine s_iconst X4 hx (hb hby dAI_18) ?_
 obtain ⟨T5, h5, X5, e5, W5, st5⟩ := putF X4 hx hZ hown (host := "") (Or.inl (wd67 hw)) Via.refl e4 ((Fd.ext E3).other W4 (Or.inr (slot_ne (Or.inl (wd68 hw)) (Or.inl (wd66 hw)) (by decide) (t := .byte) (t' := (.array .byte)) (by decide) (by decide)))) ((Ex.ext E3).wr W4) (Or.inl (wd68 hw)) (wd52 hw) (ty := .byte) (by decide) rfl rfl (g := (mkF m 19 #[vR x, vI 16] [(.int 0), (.ref x)])) rfl rfl (hb hby dAI_19)
 have Fw5 := ((Fd.ext E3).other W4 (Or.inr (slot_ne (Or.inl (wd68 hw)) (Or.inl (wd66 hw)) (by decide) (t := .byte) (t' := (.array .byte)) (by decide) (by decide)))).same W5
 have sz5 : h4.size ≤ h5.size := (Keep.of_wr W5).1
 have K5 : Keep h0 h5 [x] := K4.wr W5 (Or.inl (by simp))
 have N5 := Fr.snoc X5 N4 (own_le (by omega))
 refine own_st st5 ?_
 refine own_st (fun tq kq => XS.goto X5.here hx rfl (pc0 := 22) (pc' := 38) rfl (hb hby dAI_22) (by decide) (by decide) kq) ?_
 obtain ⟨fs, hr, hrun, hended, hW, hsame⟩ := X5.leave (v := none) (fun _ => rfl)
 refine ⟨_, _, X5.returnOut hx Bd.returns (hb hby dAI_38) hr, hrun, hended, _, _, rfl, ?_, ⟨_, rfl⟩, hW, hsame.mono (by decide) (by decide)⟩
 change Q_own_asi Z x v0 c0 G1 h0 n0 _ T5.heap _; rw [e5]; exact ⟨rfl, N5, K5, b3, _, (by omega), ((V3.other W4 (own_ne (by omega))).other W5 (own_ne (by omega))).lt, (((Ex.ext E3).wr W4).wr W5), (Fw4.other W5 (Or.inr (slot_ne (Or.inl (wd66 hw)) (Or.inl (wd68 hw)) (by decide) (t := (.array .byte)) (t' := .byte) (by decide) (by decide)))), Fw5, (((Fn.ext E3).other W4 (Or.inr (slot_ne (Or.inl (wd91 hw)) (Or.inl (wd66 hw)) (by decide) (t := .int) (t' := (.array .byte)) (by decide) (by decide)))).other W5 (Or.inr (slot_ne (Or.inl (wd91 hw)) (Or.inl (wd68 hw)) (by decide) (t := .int) (t' := .byte) (by decide) (by decide)))), ((V3.other W4 (own_ne (by omega))).other W5 (own_ne (by omega)))⟩

def Q_own_sbi (Z : State) (x : Nat) (v0 c0 : Value) (G1 : Int32) (h0 : Heap) (n0 : Nat) (v : Option Value) (h : Heap) (L : List Loc) : Prop := v = none ∧ Fr n0 L ∧ Keep h0 h [x] ∧ ∃ (t : Nat) (k : ClassId), h0.size ≤ t ∧ t < h.size ∧ own_SB Z h x t k []
theorem own_sbi (l : Launch) (Z : State) (a0 : Array Value) (hw : hWt a0 Z) (ws : List Jvm.Cond) (x : Nat) (v0 c0 : Value) (G1 : Int32) (h0 : Heap) (n0 : Nat) (Z0 : n0 ≤ h0.size) (X00 : Old Z n0 h0) (Ex : Exa Z h0 x "java/lang/StringBuilder") (Fv : Fld Z h0 x "java/lang/AbstractStringBuilder" "value" "[B" v0) (Fd : Fld Z h0 x "java/lang/AbstractStringBuilder" "coder" "B" c0) (Fn : Fld Z h0 x "java/lang/AbstractStringBuilder" "count" "I" (.int 0)) (gx : n0 ≤ x) (ltx : x < h0.size) (O2 : Sta Z Z.heap "java/lang/String" "COMPACT_STRINGS" "Z" (.int G1)) (P5 : ¬ (G1 = (0 : Int32))) :
 own_MN l mN11 jdk_67_method_1_code 1 none ws rm_2_1_16_28 Z #[(.ref x)] h0 (Q_own_sbi Z x v0 c0 G1 h0 n0) := by
 refine own_bodyN (plainFor_of_name own_pn2) fun p e s m below meth c s₁ Bd hx hby hml hown hZ X0 e0 => ?_
 have hnm := (name_of_methodNamed Bd.named Bd.method).1
 have N0 := Fr.nil n0
 have K0 : Keep h0 h0 [x] := Keep.refl h0 [x]
 refine own_st (fun tq kq => castTop (ef_own_coder0 m (x)) kq) ?_
 show own_G p e below _ (s₁.setTop (mkF m 0 #[vR x] []))
 have hws0 : ∀ y ∈ [x], n0 ≤ y := allS gx all0
 refine s_aloadN X0 hx (hb hby dSI_0) rfl rfl ?_
 refine s_bipush X0 hx (hb hby dSI_1) ?_
 obtain ⟨_, _, ⟨T1, L1, k1, n1⟩, -, X1, ⟨Lc1, hQ1, l1, y1, z1⟩, st1⟩ := X0.specialBack hx (y := mN10) rfl hown (mvT hZ (wd57 hw)) (mvT hZ (wd58 hw)) (mvT hZ (wd62 hw)) (by decide) (own_backN (W := 0) (own_asi l Z a0 hw [] (x) (v0) (c0) (G1) h0 n0 (by omega) (X00.keep K0 hws0) Ex Fv Fd Fn gx ltx O2 P5) hZ (wd62 hw) (wd61 hw) (by decide) (by decide)) (g := (mkF m 3 #[vR x] [(.int 16), (.ref x)])) rfl (by rw [hml]; rfl) (Steps.refl _) (a := x) (argsL := [(.int 16)]) (rest := []) (lenOf own_pd5 rfl) rfl (Nat.le_of_eq rfl) (hb hby dSI_3) (fun _ _ => ⟨rfl, e0, (by decide : 0 + 1 ≤ _), (by decide : 0 + 16 ≤ _)⟩)
 dsimp only [Pt.U, Pt.locs, Pt.cells, Pt.slots] at X1 l1 y1 z1 st1 hQ1
 subst l1 y1 z1
 obtain ⟨rfl, Nq1, Kq1, R1⟩ := hQ1
 have KK1 : Keep h0 T1.heap [x] := Kq1
 have sz1 : h0.size ≤ T1.heap.size := KK1.1
 have K1 : Keep h0 T1.heap [x] := K0.trans KK1 (allS (Or.inl (by simp)) all0)
 have N1 := Fr.app N0 Nq1
 refine own_st (fun tq kq => st1.trans kq) ?_
 obtain ⟨fs, hr, hrun, hended, hW, hsame⟩ := X1.leave (v := none) (fun _ => rfl)
 refine ⟨_, _, X1.returnOut hx Bd.returns (hb hby dSI_6) hr, hrun, hended, _, _, rfl, ?_, ⟨_, rfl⟩, hW, hsame.mono (by decide) (by decide)⟩
 change Q_own_sbi Z x v0 c0 G1 h0 n0 _ T1.heap _; exact ⟨rfl, N1, K1, R1⟩

def Q_own_gv (Z : State) (x t : Nat) (k : ClassId) (cs : List Int32) (h0 : Heap) (n0 : Nat) (v : Option Value) (h : Heap) (L : List Loc) : Prop := v = some (.ref t) ∧ Fr n0 L ∧ h = h0
theorem own_gv (l : Launch) (Z : State) (a0 : Array Value) (hw : hWt a0 Z) (ws : List Jvm.Cond) (x t : Nat) (k : ClassId) (cs : List Int32) (h0 : Heap) (n0 : Nat) (Z0 : n0 ≤ h0.size) (X00 : Old Z n0 h0) (B : own_SB Z h0 x t k cs) :
 own_MN l mN12 jdk_68_method_64_code 1 (some (.array .byte)) ws rm_0_0_0_0 Z #[(.ref x)] h0 (Q_own_gv Z x t k cs h0 n0) := by
 refine own_bodyN (plainFor_of_name own_pn1) fun p e s m below meth c s₁ Bd hx hby hml hown hZ X0 e0 => ?_
 have N0 := Fr.nil n0
 have K0 : Keep h0 h0 [] := Keep.refl h0 []
 refine own_st (fun tq kq => castTop (ef_own_coder0 m (x)) kq) ?_
 show own_G p e below _ (s₁.setTop (mkF m 0 #[vR x] []))
 obtain ⟨Ex, Fv, Fd, Fn, Vt⟩ := id B
 refine s_aloadN X0 hx (hb hby dGV_0) rfl rfl ?_
 obtain ⟨T1, X1, e1, st1⟩ := getF X0 hx hZ hown (host := "") (Or.inl (wd65 hw)) Via.refl e0 Fv (g := (mkF m 1 #[vR x] [(.ref x)])) rfl rfl (hb hby dGV_1)
 refine own_st st1 ?_
 obtain ⟨fs, hr, hrun, hended, hW, hsame⟩ := X1.leave (v := some (.ref t)) (fun h => by rw [Bd.returns] at h; cases h)
 refine ⟨_, _, retOut X1 hx Bd.returns rfl (Or.inr (Or.inr (Or.inr (Or.inr ⟨rfl, rfl, rfl⟩)))) (hb hby dGV_4) hr, hrun, hended, _, _, rfl, ?_, ⟨_, rfl⟩, hW, hsame.mono (by decide) (by decide)⟩
 change Q_own_gv Z x t k cs h0 n0 _ T1.heap _; rw [e1]; exact ⟨rfl, N0, rfl⟩

def Q_own_al (Z : State) (x t : Nat) (k : ClassId) (cs : List Int32) (h0 : Heap) (n0 : Nat) (v : Option Value) (h : Heap) (L : List Loc) : Prop := v = some (.int (Int32.ofNat cs.length)) ∧ Fr n0 L ∧ h = h0
theorem own_al (l : Launch) (Z : State) (a0 : Array Value) (hw : hWt a0 Z) (ws : List Jvm.Cond) (x t : Nat) (k : ClassId) (cs : List Int32) (h0 : Heap) (n0 : Nat) (Z0 : n0 ≤ h0.size) (X00 : Old Z n0 h0) (B : own_SB Z h0 x t k cs) :
 own_MN l mN13 jdk_68_method_6_code 1 (some .int) ws rm_0_0_0_0 Z #[(.ref x)] h0 (Q_own_al Z x t k cs h0 n0) := by
 refine own_bodyN (plainFor_of_name own_pn1) fun p e s m below meth c s₁ Bd hx hby hml hown hZ X0 e0 => ?_
 have N0 := Fr.nil n0
 have K0 : Keep h0 h0 [] := Keep.refl h0 []
 refine own_st (fun tq kq => castTop (ef_own_coder0 m (x)) kq) ?_
 show own_G p e below _ (s₁.setTop (mkF m 0 #[vR x] []))
 obtain ⟨Ex, Fv, Fd, Fn, Vt⟩ := id B
 refine s_aloadN X0 hx (hb hby dAL_0) rfl rfl ?_
 obtain ⟨T1, X1, e1, st1⟩ := getF X0 hx hZ hown (host := "") (Or.inl (wd90 hw)) Via.refl e0 Fn (g := (mkF m 1 #[vR x] [(.ref x)])) rfl rfl (hb hby dAL_1)
 refine own_st st1 ?_
 obtain ⟨fs, hr, hrun, hended, hW, hsame⟩ := X1.leave (v := some (.int (Int32.ofNat cs.length))) (fun h => by rw [Bd.returns] at h; cases h)
 refine ⟨_, _, retOut X1 hx Bd.returns rfl (Or.inl ⟨rfl, by simp, _, rfl⟩) (hb hby dAL_4) hr, hrun, hended, _, _, rfl, ?_, ⟨_, rfl⟩, hW, hsame.mono (by decide) (by decide)⟩
 change Q_own_al Z x t k cs h0 n0 _ T1.heap _; rw [e1]; exact ⟨rfl, N0, rfl⟩

def Q_own_sl (Z : State) (x t : Nat) (k : ClassId) (cs : List Int32) (h0 : Heap) (n0 : Nat) (v : Option Value) (h : Heap) (L : List Loc) : Prop := v = some (.int (Int32.ofNat cs.length)) ∧ Fr n0 L ∧ h = h0
theorem own_sl (l : Launch) (Z : State) (a0 : Array Value) (hw : hWt a0 Z) (ws : List Jvm.Cond) (x t : Nat) (k : ClassId) (cs : List Int32) (h0 : Heap) (n0 : Nat) (Z0 : n0 ≤ h0.size) (X00 : Old Z n0 h0) (B : own_SB Z h0 x t k cs) :
 own_MN l mN14 jdk_67_method_93_code 1 (some .int) ws rm_1_0_0_20 Z #[(.ref x)] h0 (Q_own_sl Z x t k cs h0 n0) := by
 refine own_bodyN (plainFor_of_name own_pn2) fun p e s m below meth c s₁ Bd hx hby hml hown hZ X0 e0 => ?_
 have N0 := Fr.nil n0
 have K0 : Keep h0 h0 [] := Keep.refl h0 []
 refine own_st (fun tq kq => castTop (ef_own_coder0 m (x)) kq) ?_
 show own_G p e below _ (s₁.setTop (mkF m 0 #[vR x] []))
 obtain ⟨Ex, Fv, Fd, Fn, Vt⟩ := id B
 refine s_aloadN X0 hx (hb hby dSL_0) rfl rfl ?_
 obtain ⟨_, _, ⟨T1, L1, k1, n1⟩, -, X1, ⟨Lc1, hQ1, l1, y1, z1⟩, st1⟩ := superBack X0 hx hZ (y := mN13) hown (wd141 hw) (own_same (wd95 hw) rfl (wd137 hw) (by decide)) (wd137 hw) (wd76 hw) (by decide) (own_backN (W := 0) (own_al l Z a0 hw [] (x) (t) (k) (cs) h0 n0 (by omega) (X00.keep K0 all0) ⟨Ex, Fv, Fd, Fn, Vt⟩) hZ (wd142 hw) (wd61 hw) (by decide) (by decide)) e0 (Ins.self Ex) (g := (mkF m 1 #[vR x] [(.ref x)])) rfl (by rw [hml]; rfl) (wd142 hw) (argsL := []) (rest := []) (lenOf own_pd4 rfl) rfl (Nat.le_of_eq rfl) (hb hby dSL_1) (fun _ _ => ⟨rfl, e0, (by decide : 0 + 0 ≤ _), (by decide : 0 + 0 ≤ _)⟩)
 dsimp only [Pt.U, Pt.locs, Pt.cells, Pt.slots] at X1 l1 y1 z1 st1 hQ1
 subst l1 y1 z1
 obtain ⟨rfl, Nq1, sm1⟩ := hQ1
 have N1 := Fr.app N0 Nq1
 refine own_st (fun tq kq => st1.trans kq) ?_
 obtain ⟨fs, hr, hrun, hended, hW, hsame⟩ := X1.leave (v := some (.int (Int32.ofNat cs.length))) (fun h => by rw [Bd.returns] at h; cases h)
 refine ⟨_, _, retOut X1 hx Bd.returns rfl (Or.inl ⟨rfl, by simp, _, rfl⟩) (hb hby dSL_4) hr, hrun, hended, _, _, rfl, ?_, ⟨_, rfl⟩, hW, hsame.mono (by decide) (by decide)⟩
 change Q_own_sl Z x t k cs h0 n0 _ T1.heap _; rw [sm1]; exact ⟨rfl, N1, rfl⟩

def Q_own_il (Z : State) (x t : Nat) (k : ClassId) (cs : List Int32) (G1 : Int32) (h0 : Heap) (n0 : Nat) (v : Option Value) (h : Heap) (L : List Loc) : Prop := v = some (.int (1 : Int32)) ∧ Fr n0 L ∧ h = h0
theorem own_il (l : Launch) (Z : State) (a0 : Array Value) (hw : hWt a0 Z) (ws : List Jvm.Cond) (x t : Nat) (k : ClassId) (cs : List Int32) (G1 : Int32) (h0 : Heap) (n0 : Nat) (Z0 : n0 ≤ h0.size) (X00 : Old Z n0 h0) (B : own_SB Z h0 x t k cs) (O2 : Sta Z Z.heap "java/lang/String" "COMPACT_STRINGS" "Z" (.int G1)) (P5 : ¬ (G1 = (0 : Int32))) :
 own_MN l mN15 jdk_68_method_68_code 1 (some .boolean) ws rm_0_0_0_0 Z #[(.ref x)] h0 (Q_own_il Z x t k cs G1 h0 n0) := by
 refine own_bodyN (plainFor_of_name own_pn1) fun p e s m below meth c s₁ Bd hx hby hml hown hZ X0 e0 => ?_
 have N0 := Fr.nil n0
 have K0 : Keep h0 h0 [] := Keep.refl h0 []
 refine own_st (fun tq kq => castTop (ef_own_coder0 m (x)) kq) ?_
 show own_G p e below _ (s₁.setTop (mkF m 0 #[vR x] []))
 obtain ⟨Ex, Fv, Fd, Fn, Vt⟩ := id B
 obtain ⟨T1, X1, e1, st1⟩ := getS2 X0 hx hZ hown (host := "") (Or.inl (wd64 hw)) Via.refl e0 (O2.ext (X00.keep K0 all0).2) (g := (mkF m 0 #[vR x] [])) rfl (hb hby dIL_0)
 refine own_st st1 ?_
 refine own_st (fun tq kq => XS.ifNo X1.here hx rfl (hb hby dIL_3) rfl ((if0 _ _).trans (feq P5).1) kq) ?_
 refine s_aloadN X1 hx (hb hby dIL_6) rfl rfl ?_
 obtain ⟨T2, X2, e2, st2⟩ := getF X1 hx hZ hown (host := "") (Or.inl (wd67 hw)) Via.refl e1 Fd (g := (mkF m 7 #[vR x] [(.ref x)])) rfl rfl (hb hby dIL_7)
 refine own_st st2 ?_
 refine own_st (fun tq kq => XS.ifNo X2.here hx rfl (hb hby dIL_10) rfl ((if0 _ _).trans (teq (by decide : ((0 : Int32) = (0 : Int32)))).2) kq) ?_
 refine s_iconst X2 hx (hb hby dIL_13) ?_
 refine own_st (fun tq kq => XS.goto X2.here hx rfl (pc0 := 14) (pc' := 18) rfl (hb hby dIL_14) (by decide) (by decide) kq) ?_
 show own_G p e below _ (T2.setTop (mkF m 18 #[vR x] [(.int 1)]))
 obtain ⟨fs, hr, hrun, hended, hW, hsame⟩ := X2.leave (v := some (.int 1)) (fun h => by rw [Bd.returns] at h; cases h)
 refine ⟨_, _, retN X2 hx (t := .boolean) Bd.returns (by simp) (hb hby dIL_18) hr, hrun, hended, _, _, rfl, ?_, ⟨_, rfl⟩, hW, hsame.mono (by decide) (by decide)⟩
 change Q_own_il Z x t k cs G1 h0 n0 _ T2.heap _; rw [e2]; exact ⟨rfl, N0, rfl⟩

def Q_own_ckl (Z : State) (b : Int32) (h0 : Heap) (n0 : Nat) (v : Option Value) (h : Heap) (L : List Loc) : Prop := v = none ∧ Fr n0 L ∧ h = h0
theorem ef_own_ckl (m : MethodId) (x1 : Int32) : entryFrame m #[(.int 0), (.int x1)] 2 = mkF m 0 #[.val (.int 0), .val (.int x1)] [] := by first | (simp [entryFrame, mkF, argsToLocals, Value.category]; done) | rfl
theorem own_ckl (l : Launch) (Z : State) (a0 : Array Value) (hw : hWt a0 Z) (ws : List Jvm.Cond) (b : Int32) (h0 : Heap) (n0 : Nat) (Z0 : n0 ≤ h0.size) (X00 : Old Z n0 h0) (hbb : ¬ b < (0 : Int32)) :
 own_MN l mN16 jdk_65_method_131_code 2 none ws rm_0_0_0_0 Z #[(.int 0), (.int b)] h0 (Q_own_ckl Z b h0 n0) := by
 refine own_bodyN (plainFor_of_name own_pn3) fun p e s m below meth c s₁ Bd hx hby hml hown hZ X0 e0 => ?_
 have N0 := Fr.nil n0
 have K0 : Keep h0 h0 [] := Keep.refl h0 []
 refine own_st (fun tq kq => castTop (ef_own_ckl m (b)) kq) ?_
 show own_G p e below _ (s₁.setTop (mkF m 0 #[vI 0, vI b] []))
 refine s_iloadN X0 hx (hb hby dCK_0) rfl ?_
 refine s_iloadN X0 hx (hb hby dCK_1) rfl ?_
 show own_G p e below _ (s₁.setTop (mkF m 2 #[vI 0, vI b] [(.int 0), (.int b)]))
 refine own_st (fun tq kq => XS.icmpYes X0.here hx rfl (pc0 := 2) (pc' := 37) rfl (hb hby dCK_2) rfl (flt hbb).2.1 (by decide) (by decide) kq) ?_
 obtain ⟨fs, hr, hrun, hended, hW, hsame⟩ := X0.leave (v := none) (fun _ => rfl)
 refine ⟨_, _, X0.returnOut hx Bd.returns (hb hby dCK_37) hr, hrun, hended, _, _, rfl, ?_, ⟨_, rfl⟩, hW, hsame.mono (by decide) (by decide)⟩
 change Q_own_ckl Z b h0 n0 _ s₁.heap _; rw [e0]; exact ⟨rfl, N0, rfl⟩

def Q_own_min16 (Z : State) (b : Int32) (h0 : Heap) (n0 : Nat) (v : Option Value) (h : Heap) (L : List Loc) : Prop := v = some (.int b) ∧ Fr n0 L ∧ h = h0
theorem ef_own_min16 (m : MethodId) (x1 : Int32) : entryFrame m #[(.int 16), (.int x1)] 2 = mkF m 0 #[.val (.int 16), .val (.int x1)] [] := by first | (simp [entryFrame, mkF, argsToLocals, Value.category]; done) | rfl
theorem own_min16 (l : Launch) (Z : State) (a0 : Array Value) (hw : hWt a0 Z) (ws : List Jvm.Cond) (b : Int32) (h0 : Heap) (n0 : Nat) (Z0 : n0 ≤ h0.size) (X00 : Old Z n0 h0) (hbb : b < (16 : Int32)) :
 own_MN l mN17 jdk_29_method_69_code 2 (some .int) ws rm_0_0_0_0 Z #[(.int 16), (.int b)] h0 (Q_own_min16 Z b h0 n0) := by
 refine own_bodyN own_pn4 fun p e s m below meth c s₁ Bd hx hby hml hown hZ X0 e0 => ?_
 have N0 := Fr.nil n0
 have K0 : Keep h0 h0 [] := Keep.refl h0 []
 refine own_st (fun tq kq => castTop (ef_own_min16 m (b)) kq) ?_
 show own_G p e below _ (s₁.setTop (mkF m 0 #[vI 16, vI b] []))
 refine s_iloadN X0 hx (hb hby dMI_0) rfl ?_
 refine s_iloadN X0 hx (hb hby dMI_1) rfl ?_
 show own_G p e below _ (s₁.setTop (mkF m 2 #[vI 16, vI b] [(.int b), (.int 16)]))
 refine own_st (fun tq kq => XS.icmpYes X0.here hx rfl (pc0 := 2) (pc' := 9) rfl (hb hby dMI_2) rfl (tlt hbb).2.2.1 (by decide) (by decide) kq) ?_
 refine s_iloadN X0 hx (hb hby dMI_9) rfl ?_
 show own_G p e below _ (s₁.setTop (mkF m 10 #[vI 16, vI b] [(.int b)]))
 obtain ⟨fs, hr, hrun, hended, hW, hsame⟩ := X0.leave (v := some (.int b)) (fun h => by rw [Bd.returns] at h; cases h)
 refine ⟨_, _, retOut X0 hx Bd.returns rfl (Or.inl ⟨rfl, by simp, _, rfl⟩) (hb hby dMI_10) hr, hrun, hended, _, _, rfl, ?_, ⟨_, rfl⟩, hW, hsame.mono (by decide) (by decide)⟩
 change Q_own_min16 Z b h0 n0 _ s₁.heap _; rw [e0]; exact ⟨rfl, N0, rfl⟩

def Q_own_cb (Z : State) (t : Nat) (k : ClassId) (cs : List Int32) (h0 : Heap) (n0 : Nat) (v : Option Value) (h : Heap) (L : List Loc) : Prop := ∃ (r : Nat) (kr : ClassId), v = some (.ref r) ∧ Fr n0 L ∧ Keep h0 h [] ∧ h0.size ≤ r ∧ r < h.size ∧ Arv Z h r kr .byte (Int32.ofNat cs.length) (own_bt cs) (.int 0)
theorem ef_own_cb (m : MethodId) (x0 : Nat) (x2 : Int32) : entryFrame m #[(.ref x0), (.int 0), (.int x2)] 5 = mkF m 0 #[.val (.ref x0), .val (.int 0), .val (.int x2), .unset, .unset] [] := by first | (simp [entryFrame, mkF, argsToLocals, Value.category]; done) | rfl
theorem own_cb (l : Launch) (Z : State) (a0 : Array Value) (hw : hWt a0 Z) (ws : List Jvm.Cond) (t : Nat) (k : ClassId) (cs : List Int32) (h0 : Heap) (n0 : Nat) (Z0 : n0 ≤ h0.size) (X00 : Old Z n0 h0) (Vt : Arv Z h0 t k .byte (16 : Int32) (own_bt cs ++ List.replicate (16 - cs.length) (Value.int 0)) (.int 0)) (hl : cs.length < 16) :
 own_MN l mN18 jdk_65_method_133_code 5 (some (.array .byte)) ws rm_1_1_16_40 Z #[(.ref t), (.int 0), (.int (Int32.ofNat cs.length))] h0 (Q_own_cb Z t k cs h0 n0) := by
 refine own_bodyN (plainFor_of_name own_pn3) fun p e s m below meth c s₁ Bd hx hby hml hown hZ X0 e0 => ?_
 have N0 := Fr.nil n0
 have K0 : Keep h0 h0 [] := Keep.refl h0 []
 refine own_st (fun tq kq => castTop (ef_own_cb m (t) ((Int32.ofNat cs.length))) kq) ?_
 show own_G p e below _ (s₁.setTop (mkF m 0 #[vR t, vI 0, vI (Int32.ofNat cs.length), .unset, .unset] []))
 have ltt : t < h0.size := Vt.lt
 refine s_iloadN X0 hx (hb hby dCB_0) rfl ?_
 refine s_iloadN X0 hx (hb hby dCB_1) rfl ?_
 obtain ⟨_, _, ⟨T1, L1, k1, n1⟩, -, X1, ⟨Lc1, hQ1, l1, y1, z1⟩, st1⟩ := Jvm.LawKit.callS X0 hx (y := mN16) hown (mvT hZ (wd155 hw)) (mvT hZ (wd156 hw)) (mvT hZ (wd150 hw)) (mvT hZ (wd157 hw)) (by decide) (own_backN (W := 0) (own_ckl l Z a0 hw [] ((Int32.ofNat cs.length)) h0 n0 (by omega) (X00.keep K0 all0) (own_n0 (by omega))) hZ (wd157 hw) (wd150 hw) (by decide) (by decide)) (g := (mkF m 2 #[vR t, vI 0, vI (Int32.ofNat cs.length), .unset, .unset] [(.int (Int32.ofNat cs.length)), (.int 0)])) rfl (by rw [hml]; rfl) (argsL := [(.int 0), (.int (Int32.ofNat cs.length))]) (rest := []) (lenOf own_pd8 rfl) rfl (Nat.le_of_eq rfl) (hb hby dCB_2) (fun _ _ => ⟨rfl, e0, (by decide : 0 + 0 ≤ _), (by decide : 0 + 0 ≤ _)⟩)
 dsimp only [Pt.U, Pt.locs, Pt.cells, Pt.slots] at X1 l1 y1 z1 st1 hQ1
 subst l1 y1 z1
 obtain ⟨rfl, Nq1, sm1⟩ := hQ1
 have N1 := Fr.app N0 Nq1
 refine own_st st1 ?_
 refine s_iloadN X1 hx (hb hby dCB_5) rfl ?_
 refine s_iloadN X1 hx (hb hby dCB_6) rfl ?_
 refine own_st (fun tq kq => XS.isub X1.here hx rfl (hb hby dCB_7) rfl kq) ?_
 show own_G p e below _ (T1.setTop (mkF m 8 #[vR t, vI 0, vI (Int32.ofNat cs.length), .unset, .unset] [(.int ((Int32.ofNat cs.length) - (0 : Int32)))]))
 rw [own_sub0]
 show own_G p e below _ (T1.setTop (mkF m 8 #[vR t, vI 0, vI (Int32.ofNat cs.length), .unset, .unset] [(.int (Int32.ofNat cs.length))]))
 refine own_st (fun tq kq => XS.istoreN X1.here hx rfl (hb hby dCB_8) rfl (l' := #[vR t, vI 0, vI (Int32.ofNat cs.length), vI (Int32.ofNat cs.length), .unset]) rfl kq) ?_
 refine s_iloadN X1 hx (hb hby dCB_9) rfl ?_
 obtain ⟨T2, h2, k2, X2, e2, E2, A2, st2⟩ := newP X1 hx hZ (hw _ (List.mem_of_getElem? (i := 22) rfl)) sm1 (g := (mkF m 10 #[vR t, vI 0, vI (Int32.ofNat cs.length), vI (Int32.ofNat cs.length), .unset] [(.int (Int32.ofNat cs.length))])) rfl (hb hby dCB_10) rfl (own_n0 (by omega)) (cap := 16) (by rw [own_n32 (by omega)]; omega) (by decide) (by decide) (by decide)
 obtain ⟨b2, g2⟩ : ∃ z, z = h0.size := ⟨_, rfl⟩
 rw [← g2] at A2 st2
 have lt2 : b2 < h2.size := A2.lt
 have V2 : Arv Z h2 b2 k2 .byte (Int32.ofNat cs.length) (List.replicate cs.length (.int (0 : Int32))) (.int (0 : Int32)) := (Arv.new A2 (own_n0 (by omega))).pad (pad_rep [] (.int (0 : Int32)) cs.length)
 have sz2 : h0.size ≤ h2.size := E2.1
 have K2 : Keep h0 h2 [] := K0.ext E2
 refine own_st st2 ?_
 refine own_st (fun tq kq => XS.astore X2.here hx rfl (hb hby dCB_12) rfl rfl (l' := #[vR t, vI 0, vI (Int32.ofNat cs.length), vI (Int32.ofNat cs.length), vR b2]) rfl kq) ?_
 refine s_aloadN X2 hx (hb hby dCB_14) rfl rfl ?_
 refine s_iloadN X2 hx (hb hby dCB_15) rfl ?_
 refine s_aload X2 hx (hb hby dCB_16) rfl rfl ?_
 show own_G p e below _ (T2.setTop (mkF m 18 #[vR t, vI 0, vI (Int32.ofNat cs.length), vI (Int32.ofNat cs.length), vR b2] [(.ref b2), (.int 0), (.ref t)]))
 refine s_iconst X2 hx (hb hby dCB_18) ?_
 refine s_aloadN X2 hx (hb hby dCB_19) rfl rfl ?_
 obtain ⟨cl3, Ar3, q3, S_3, N_3, H_3, G_3⟩ := id (Vt.ext E2)
 refine own_st (fun tq kq => X2.arraylength hx (by rw [e2]; exact Ar3.1) (State.isArrayOf_alike hZ.alike Ar3.2.1) (g := (mkF m 20 #[vR t, vI 0, vI (Int32.ofNat cs.length), vI (Int32.ofNat cs.length), vR b2] [(.ref t), (.int 0), (.ref b2), (.int 0), (.ref t)])) rfl rfl (hb hby dCB_20) _ kq) ?_
 rw [len_of S_3 N_3]
 show own_G p e below _ (T2.setTop (mkF m 21 #[vR t, vI 0, vI (Int32.ofNat cs.length), vI (Int32.ofNat cs.length), vR b2] [(.int 16), (.int 0), (.ref b2), (.int 0), (.ref t)]))
 refine s_iloadN X2 hx (hb hby dCB_21) rfl ?_
 refine own_st (fun tq kq => XS.isub X2.here hx rfl (hb hby dCB_22) rfl kq) ?_
 refine s_iloadN X2 hx (hb hby dCB_23) rfl ?_
 obtain ⟨_, _, ⟨T4, L4, k4, n4⟩, -, X4, ⟨Lc4, hQ4, l4, y4, z4⟩, st4⟩ := Jvm.LawKit.callS X2 hx (y := mN17) hown (mvT hZ (wd158 hw)) (mvT hZ (wd159 hw)) (mvT hZ (wd160 hw)) (mvT hZ (wd161 hw)) (by decide) (own_backN (W := 4) (own_min16 l Z a0 hw [] ((Int32.ofNat cs.length)) h2 n0 (by omega) (X00.keep K2 all0) (own_nlt hl)) hZ (wd161 hw) (wd160 hw) (by decide) (by decide)) (g := (mkF m 24 #[vR t, vI 0, vI (Int32.ofNat cs.length), vI (Int32.ofNat cs.length), vR b2] [(.int (Int32.ofNat cs.length)), (.int 16), (.int 0), (.ref b2), (.int 0), (.ref t)])) rfl (by rw [hml]; rfl) (argsL := [(.int 16), (.int (Int32.ofNat cs.length))]) (rest := [(.int 0), (.ref b2), (.int 0), (.ref t)]) (lenOf own_pd9 rfl) rfl (Nat.le_of_eq rfl) (hb hby dCB_24) (fun _ _ => ⟨rfl, e2, (by decide : 1 + 0 ≤ _), (by decide : 16 + 0 ≤ _)⟩)
 dsimp only [Pt.U, Pt.locs, Pt.cells, Pt.slots] at X4 l4 y4 z4 st4 hQ4
 subst l4 y4 z4
 obtain ⟨rfl, Nq4, sm4⟩ := hQ4
 have N4 := Fr.app N1 Nq4
 refine own_st st4 ?_
 obtain ⟨T5, h5, L5, X5, e5, N5, KK5, V5, st5⟩ := cpA X4 hx hZ hown (wd162 hw) (wd116 hw) (wd114 hw) (wd115 hw) sm4 (Vt.ext E2) V2 (sp := (0 : Int32)) (dp := (0 : Int32)) (nn := (Int32.ofNat cs.length)) (us := (own_bt cs)) (Or.inl ⟨rfl, rfl⟩) (by decide) (by decide) (own_n0 (by omega)) (by rw [own_n32 (by omega)]; show 0 + _ ≤ 16; omega) (by rw [own_n32 (by omega)]; show 0 + _ ≤ _; omega) (own_hus1 (by simp) (by omega)) (by rw [own_n32 (by omega)]; simp only [List.length_replicate]; show 0 + _ ≤ _; omega) N4 (own_le (by omega)) (g := (mkF m 27 #[vR t, vI 0, vI (Int32.ofNat cs.length), vI (Int32.ofNat cs.length), vR b2] [(.int (Int32.ofNat cs.length)), (.int 0), (.ref b2), (.int 0), (.ref t)])) rfl (by rw [hml]; rfl) (rest := []) rfl (hb hby dCB_27) (by decide) (W := 0) (Nat.le_of_eq rfl) (by decide)
 have sz5 : h2.size ≤ h5.size := KK5.1
 have K5 : Keep h0 h5 [] := K2.trans KK5 (allS (Or.inr (own_le (by omega))) all0)
 rw [own_cut (by omega)] at V5
 refine own_st st5 ?_
 refine s_aload X5 hx (hb hby dCB_30) rfl rfl ?_
 show own_G p e below _ (T5.setTop (mkF m 32 #[vR t, vI 0, vI (Int32.ofNat cs.length), vI (Int32.ofNat cs.length), vR b2] [(.ref b2)]))
 obtain ⟨fs, hr, hrun, hended, hW, hsame⟩ := X5.leave (v := some (.ref b2)) (fun h => by rw [Bd.returns] at h; cases h)
 refine ⟨_, _, retOut X5 hx Bd.returns rfl (Or.inr (Or.inr (Or.inr (Or.inr ⟨rfl, rfl, rfl⟩)))) (hb hby dCB_32) hr, hrun, hended, _, _, rfl, ?_, ⟨_, rfl⟩, hW, hsame.mono (by decide) (by decide)⟩
 change Q_own_cb Z t k cs h0 n0 _ T5.heap _; rw [e5]; exact ⟨b2, _, rfl, N5, K5, (by omega), V5.lt, V5⟩

def Q_own_cr (Z : State) (t : Nat) (k : ClassId) (cs : List Int32) (h0 : Heap) (n0 : Nat) (v : Option Value) (h : Heap) (L : List Loc) : Prop := ∃ (r : Nat) (kr : ClassId), v = some (.ref r) ∧ Fr n0 L ∧ Keep h0 h [] ∧ h0.size ≤ r ∧ r < h.size ∧ Arv Z h r kr .byte (Int32.ofNat cs.length) (own_bt cs) (.int 0)
theorem ef_own_cr (m : MethodId) (x0 : Nat) (x2 : Int32) : entryFrame m #[(.ref x0), (.int 0), (.int x2)] 3 = mkF m 0 #[.val (.ref x0), .val (.int 0), .val (.int x2)] [] := by first | (simp [entryFrame, mkF, argsToLocals, Value.category]; done) | rfl
theorem own_cr (l : Launch) (Z : State) (a0 : Array Value) (hw : hWt a0 Z) (ws : List Jvm.Cond) (t : Nat) (k : ClassId) (cs : List Int32) (h0 : Heap) (n0 : Nat) (Z0 : n0 ≤ h0.size) (X00 : Old Z n0 h0) (Vt : Arv Z h0 t k .byte (16 : Int32) (own_bt cs ++ List.replicate (16 - cs.length) (Value.int 0)) (.int 0)) (hl : cs.length < 16) :
 own_MN l mN19 jdk_65_method_132_code 3 (some (.array .byte)) ws rm_2_1_16_58 Z #[(.ref t), (.int 0), (.int (Int32.ofNat cs.length))] h0 (Q_own_cr Z t k cs h0 n0) := by
 refine own_bodyN (plainFor_of_name own_pn3) fun p e s m below meth c s₁ Bd hx hby hml hown hZ X0 e0 => ?_
 have N0 := Fr.nil n0
 have K0 : Keep h0 h0 [] := Keep.refl h0 []
 refine own_st (fun tq kq => castTop (ef_own_cr m (t) ((Int32.ofNat cs.length))) kq) ?_
 show own_G p e below _ (s₁.setTop (mkF m 0 #[vR t, vI 0, vI (Int32.ofNat cs.length)] []))
 have ltt : t < h0.size := Vt.lt
 refine s_iloadN X0 hx (hb hby dCR_0) rfl ?_
 show own_G p e below _ (s₁.setTop (mkF m 1 #[vR t, vI 0, vI (Int32.ofNat cs.length)] [(.int 0)]))
 refine own_st (fun tq kq => XS.ifNo X0.here hx rfl (hb hby dCR_1) rfl ((if0 _ _).trans (teq (by decide : ((0 : Int32) = (0 : Int32)))).2) kq) ?_
 refine s_iloadN X0 hx (hb hby dCR_4) rfl ?_
 refine s_aloadN X0 hx (hb hby dCR_5) rfl rfl ?_
 obtain ⟨cl1, Ar1, q1, S_1, N_1, H_1, G_1⟩ := id Vt
 refine own_st (fun tq kq => X0.arraylength hx (by rw [e0]; exact Ar1.1) (State.isArrayOf_alike hZ.alike Ar1.2.1) (g := (mkF m 6 #[vR t, vI 0, vI (Int32.ofNat cs.length)] [(.ref t), (.int (Int32.ofNat cs.length))])) rfl rfl (hb hby dCR_6) _ kq) ?_
 rw [len_of S_1 N_1]
 show own_G p e below _ (s₁.setTop (mkF m 7 #[vR t, vI 0, vI (Int32.ofNat cs.length)] [(.int 16), (.int (Int32.ofNat cs.length))]))
 refine own_st (fun tq kq => XS.icmpNo X0.here hx rfl (hb hby dCR_7) rfl (feq (own_nne hl)).1 kq) ?_
 refine s_aloadN X0 hx (hb hby dCR_10) rfl rfl ?_
 refine s_iloadN X0 hx (hb hby dCR_11) rfl ?_
 refine s_iloadN X0 hx (hb hby dCR_12) rfl ?_
 show own_G p e below _ (s₁.setTop (mkF m 13 #[vR t, vI 0, vI (Int32.ofNat cs.length)] [(.int (Int32.ofNat cs.length)), (.int 0), (.ref t)]))
 obtain ⟨_, _, ⟨T2, L2, k2, n2⟩, -, X2, ⟨Lc2, hQ2, l2, y2, z2⟩, st2⟩ := Jvm.LawKit.callS X0 hx (y := mN18) hown (mvT hZ (wd152 hw)) (mvT hZ (wd153 hw)) (mvT hZ (wd150 hw)) (mvT hZ (wd154 hw)) (by decide) (own_backN (W := 0) (own_cb l Z a0 hw [] (t) (k) (cs) h0 n0 (by omega) (X00.keep K0 all0) Vt hl) hZ (wd154 hw) (wd150 hw) (by decide) (by decide)) (g := (mkF m 13 #[vR t, vI 0, vI (Int32.ofNat cs.length)] [(.int (Int32.ofNat cs.length)), (.int 0), (.ref t)])) rfl (by rw [hml]; rfl) (argsL := [(.ref t), (.int 0), (.int (Int32.ofNat cs.length))]) (rest := []) (lenOf own_pd10 rfl) rfl (Nat.le_of_eq rfl) (hb hby dCR_13) (fun _ _ => ⟨rfl, e0, (by decide : 0 + 1 ≤ _), (by decide : 0 + 16 ≤ _)⟩)
 dsimp only [Pt.U, Pt.locs, Pt.cells, Pt.slots] at X2 l2 y2 z2 st2 hQ2
 subst l2 y2 z2
 obtain ⟨r2, kr2, rfl, Nq2, Kq2, gr2, lr2, Vr2⟩ := hQ2
 have KK2 : Keep h0 T2.heap [] := Kq2
 have sz2 : h0.size ≤ T2.heap.size := KK2.1
 have K2 : Keep h0 T2.heap [] := K0.trans KK2 all0
 have N2 := Fr.app N0 Nq2
 refine own_st st2 ?_
 obtain ⟨fs, hr, hrun, hended, hW, hsame⟩ := X2.leave (v := some (.ref r2)) (fun h => by rw [Bd.returns] at h; cases h)
 refine ⟨_, _, retOut X2 hx Bd.returns rfl (Or.inr (Or.inr (Or.inr (Or.inr ⟨rfl, rfl, rfl⟩)))) (hb hby dCR_16) hr, hrun, hended, _, _, rfl, ?_, ⟨_, rfl⟩, hW, hsame.mono (by decide) (by decide)⟩
 change Q_own_cr Z t k cs h0 n0 _ T2.heap _; exact ⟨r2, _, rfl, N2, K2, (by omega), Vr2.lt, Vr2⟩

def Q_own_s2 (Z : State) (x t y : Nat) (k : ClassId) (cs : List Int32) (v0 c0 : Value) (G1 : Int32) (h0 : Heap) (n0 : Nat) (v : Option Value) (h : Heap) (L : List Loc) : Prop := v = none ∧ Fr n0 L ∧ Keep h0 h [y] ∧ own_Str Z h.size h y cs
theorem ef_own_s2 (m : MethodId) (x0 : Nat) (x1 : Nat) : entryFrame m #[(.ref x0), (.ref x1), .null] 5 = mkF m 0 #[.val (.ref x0), .val (.ref x1), .val .null, .unset, .unset] [] := by first | (simp [entryFrame, mkF, argsToLocals, Value.category]; done) | rfl
theorem own_s2 (l : Launch) (Z : State) (a0 : Array Value) (hw : hWt a0 Z) (ws : List Jvm.Cond) (x t y : Nat) (k : ClassId) (cs : List Int32) (v0 c0 : Value) (G1 : Int32) (h0 : Heap) (n0 : Nat) (Z0 : n0 ≤ h0.size) (X00 : Old Z n0 h0) (Ey : Exa Z h0 y "java/lang/String") (Gv : Fld Z h0 y "java/lang/String" "value" "[B" v0) (Gc : Fld Z h0 y "java/lang/String" "coder" "B" c0) (B : own_SB Z h0 x t k cs) (hl : cs.length < 16) (hbb : ∀ c ∈ cs, ¬ c < 0 ∧ ¬ (255 : Int32) < c) (gy : n0 ≤ y) (nyx : y ≠ x) (nyt : y ≠ t) (O2 : Sta Z Z.heap "java/lang/String" "COMPACT_STRINGS" "Z" (.int G1)) (P5 : ¬ (G1 = (0 : Int32))) :
 own_MN l mN20 jdk_42_method_150_code 5 none ws rm_3_1_16_76 Z #[(.ref y), (.ref x), .null] h0 (Q_own_s2 Z x t y k cs v0 c0 G1 h0 n0) := by
 refine own_bodyN (plainFor_of_name own_pn0) fun p e s m below meth c s₁ Bd hx hby hml hown hZ X0 e0 => ?_
 have hnm := (name_of_methodNamed Bd.named Bd.method).1
 have N0 := Fr.nil n0
 have K0 : Keep h0 h0 [y] := Keep.refl h0 [y]
 refine own_st (fun tq kq => castTop (ef_own_s2 m (y) (x)) kq) ?_
 show own_G p e below _ (s₁.setTop (mkF m 0 #[vR y, vR x, .val .null, .unset, .unset] []))
 have hws0 : ∀ z ∈ [y], n0 ≤ z := allS gy all0
 obtain ⟨Ex, Fv, Fd, Fn, Vt⟩ := id B
 have ltx : x < h0.size := Fv.lt
 have lty : y < h0.size := Gv.lt
 have ltt : t < h0.size := Vt.lt
 refine s_aloadN X0 hx (hb hby dS2_0) rfl rfl ?_
 obtain ⟨T1, X1, e1, st1⟩ := initO X0 hx hZ hown (wd18 hw) (wd19 hw) (wd20 hw) e0 (g := (mkF m 1 #[vR y, vR x, .val .null, .unset, .unset] [(.ref y)])) rfl (by rw [hml]; rfl) rfl (hb hby dS2_1) (by decide) (W := 0) (Nat.le_of_eq rfl) (by decide)
 refine own_st st1 ?_
 refine s_aloadN X1 hx (hb hby dS2_4) rfl rfl ?_
 obtain ⟨cq2, kq2, q2a, q2b, q2c⟩ := isOf hZ e1 Ex
 obtain ⟨_, _, ⟨T2, L2, k2, n2⟩, -, X2, ⟨Lc2, hQ2, l2, y2, z2⟩, st2⟩ := X1.virtualBack hx (y := mN12) (z := mN12) hown (mvT hZ (wd130 hw)) (mvT hZ (wd131 hw)) (notFace_of_selects (args := #[]) (mvT hZ (wd133 hw))) (mvT hZ (wd133 hw)) (mvT hZ (wd132 hw)) (by decide) (own_backN (W := 0) (own_gv l Z a0 hw [] (x) (t) (k) (cs) h0 n0 (by omega) (X00.keep K0 hws0) ⟨Ex, Fv, Fd, Fn, Vt⟩) hZ (wd134 hw) (wd61 hw) (by decide) (by decide)) q2a q2c (g := (mkF m 5 #[vR y, vR x, .val .null, .unset, .unset] [(.ref x)])) rfl (by rw [hml]; rfl) (Steps.refl _) (argsL := []) (rest := []) (lenOf own_pd11 rfl) rfl (Nat.le_of_eq rfl) (hb hby dS2_5) (fun _ _ => ⟨rfl, e1, (by decide : 0 + 0 ≤ _), (by decide : 0 + 0 ≤ _)⟩)
 dsimp only [Pt.U, Pt.locs, Pt.cells, Pt.slots] at X2 l2 y2 z2 st2 hQ2
 subst l2 y2 z2
 obtain ⟨rfl, Nq2, sm2⟩ := hQ2
 have N2 := Fr.app N0 Nq2
 refine own_st (fun tq kq => st2.trans kq) ?_
 refine own_st (fun tq kq => XS.astoreN X2.here hx rfl (hb hby dS2_8) rfl rfl (l' := #[vR y, vR x, .val .null, vR t, .unset]) rfl kq) ?_
 refine s_aloadN X2 hx (hb hby dS2_9) rfl rfl ?_
 obtain ⟨cq3, kq3, q3a, q3b, q3c⟩ := isOf hZ sm2 Ex
 obtain ⟨_, _, ⟨T3, L3, k3, n3⟩, -, X3, ⟨Lc3, hQ3, l3, y3, z3⟩, st3⟩ := X2.virtualBack hx (y := mN13) (z := mN14) hown (mvT hZ (wd135 hw)) (mvT hZ (wd136 hw)) (own_nf (args := #[]) (mvT hZ (wd95 hw)) rfl) (mvT hZ (wd138 hw)) (mvT hZ (wd139 hw)) (by decide) (own_backN (W := 0) (own_sl l Z a0 hw [] (x) (t) (k) (cs) h0 n0 (by omega) (X00.keep K0 hws0) ⟨Ex, Fv, Fd, Fn, Vt⟩) hZ (wd140 hw) (wd53 hw) (by decide) (by decide)) q3a q3c (g := (mkF m 10 #[vR y, vR x, .val .null, vR t, .unset] [(.ref x)])) rfl (by rw [hml]; rfl) (Steps.refl _) (argsL := []) (rest := []) (lenOf own_pd4 rfl) rfl (Nat.le_of_eq rfl) (hb hby dS2_10) (fun _ _ => ⟨rfl, sm2, (by decide : 0 + 0 ≤ _), (by decide : 0 + 0 ≤ _)⟩)
 dsimp only [Pt.U, Pt.locs, Pt.cells, Pt.slots] at X3 l3 y3 z3 st3 hQ3
 subst l3 y3 z3
 obtain ⟨rfl, Nq3, sm3⟩ := hQ3
 have N3 := Fr.app N2 Nq3
 refine own_st (fun tq kq => st3.trans kq) ?_
 refine own_st (fun tq kq => XS.istore X3.here hx rfl (hb hby dS2_13) rfl (l' := #[vR y, vR x, .val .null, vR t, vI (Int32.ofNat cs.length)]) rfl kq) ?_
 refine s_aloadN X3 hx (hb hby dS2_15) rfl rfl ?_
 obtain ⟨cq4, kq4, q4a, q4b, q4c⟩ := isOf hZ sm3 Ex
 obtain ⟨_, _, ⟨T4, L4, k4, n4⟩, -, X4, ⟨Lc4, hQ4, l4, y4, z4⟩, st4⟩ := X3.virtualBack hx (y := mN15) (z := mN15) hown (mvT hZ (wd143 hw)) (mvT hZ (wd144 hw)) (notFace_of_selects (args := #[]) (mvT hZ (wd146 hw))) (mvT hZ (wd146 hw)) (mvT hZ (wd145 hw)) (by decide) (own_backN (W := 0) (own_il l Z a0 hw [] (x) (t) (k) (cs) (G1) h0 n0 (by omega) (X00.keep K0 hws0) ⟨Ex, Fv, Fd, Fn, Vt⟩ O2 P5) hZ (wd147 hw) (wd61 hw) (by decide) (by decide)) q4a q4c (g := (mkF m 16 #[vR y, vR x, .val .null, vR t, vI (Int32.ofNat cs.length)] [(.ref x)])) rfl (by rw [hml]; rfl) (Steps.refl _) (argsL := []) (rest := []) (lenOf own_pd12 rfl) rfl (Nat.le_of_eq rfl) (hb hby dS2_16) (fun _ _ => ⟨rfl, sm3, (by decide : 0 + 0 ≤ _), (by decide : 0 + 0 ≤ _)⟩)
 dsimp only [Pt.U, Pt.locs, Pt.cells, Pt.slots] at X4 l4 y4 z4 st4 hQ4
 subst l4 y4 z4
 obtain ⟨rfl, Nq4, sm4⟩ := hQ4
 have N4 := Fr.app N3 Nq4
 refine own_st (fun tq kq => st4.trans kq) ?_
 refine own_st (fun tq kq => XS.ifNo X4.here hx rfl (hb hby dS2_19) rfl ((if0 _ _).trans (feq (by decide : ¬ ((1 : Int32) = (0 : Int32)))).1) kq) ?_
 refine s_aloadN X4 hx (hb hby dS2_22) rfl rfl ?_
 refine s_iconst X4 hx (hb hby dS2_23) ?_
 obtain ⟨T5, h5, X5, e5, W5, st5⟩ := putF X4 hx hZ hown (host := "") (Or.inl (wd28 hw)) Via.refl sm4 Gc Ey (Or.inr ⟨(wd24 hw), rfl, hnm⟩) (wd8 hw) (ty := .byte) (by decide) rfl rfl (g := (mkF m 24 #[vR y, vR x, .val .null, vR t, vI (Int32.ofNat cs.length)] [(.int 0), (.ref y)])) rfl rfl (hb hby dS2_24)
 have Fw5 := Gc.same W5
 have sz5 : h0.size ≤ h5.size := (Keep.of_wr W5).1
 have K5 : Keep h0 h5 [y] := K0.wr W5 (Or.inl (by simp))
 have N5 := Fr.snoc X5 N4 (own_le (by omega))
 refine own_st st5 ?_
 refine s_aloadN X5 hx (hb hby dS2_27) rfl rfl ?_
 refine s_aloadN X5 hx (hb hby dS2_28) rfl rfl ?_
 refine s_iconst X5 hx (hb hby dS2_29) ?_
 refine s_iload X5 hx (hb hby dS2_30) rfl ?_
 show own_G p e below _ (T5.setTop (mkF m 32 #[vR y, vR x, .val .null, vR t, vI (Int32.ofNat cs.length)] [(.int (Int32.ofNat cs.length)), (.int 0), (.ref t), (.ref y)]))
 obtain ⟨_, _, ⟨T6, L6, k6, n6⟩, -, X6, ⟨Lc6, hQ6, l6, y6, z6⟩, st6⟩ := Jvm.LawKit.callS X5 hx (y := mN19) hown (mvT hZ (wd148 hw)) (mvT hZ (wd149 hw)) (mvT hZ (wd150 hw)) (mvT hZ (wd151 hw)) (by decide) (own_backN (W := 1) (own_cr l Z a0 hw [] (t) (k) (cs) h5 n0 (by omega) (X00.keep K5 hws0) (Vt.other W5 (own_ne (by omega))) hl) hZ (wd151 hw) (wd150 hw) (by decide) (by decide)) (g := (mkF m 32 #[vR y, vR x, .val .null, vR t, vI (Int32.ofNat cs.length)] [(.int (Int32.ofNat cs.length)), (.int 0), (.ref t), (.ref y)])) rfl (by rw [hml]; rfl) (argsL := [(.ref t), (.int 0), (.int (Int32.ofNat cs.length))]) (rest := [(.ref y)]) (lenOf own_pd10 rfl) rfl (Nat.le_of_eq rfl) (hb hby dS2_32) (fun _ _ => ⟨rfl, e5, (by decide : 0 + 1 ≤ _), (by decide : 0 + 16 ≤ _)⟩)
 dsimp only [Pt.U, Pt.locs, Pt.cells, Pt.slots] at X6 l6 y6 z6 st6 hQ6
 subst l6 y6 z6
 obtain ⟨r6, kr6, rfl, Nq6, Kq6, gr6, lr6, Vr6⟩ := hQ6
 have KK6 : Keep h5 T6.heap [] := Kq6
 have sz6 : h5.size ≤ T6.heap.size := KK6.1
 have K6 : Keep h0 T6.heap [y] := K5.trans KK6 all0
 have N6 := Fr.app N5 Nq6
 refine own_st st6 ?_
 obtain ⟨T7, h7, X7, e7, W7, st7⟩ := putF X6 hx hZ hown (host := "") (Or.inl (wd27 hw)) Via.refl rfl ((Gv.other W5 (Or.inr (slot_ne (Or.inr (wd23 hw)) (Or.inr (wd24 hw)) (by decide) (t := (.array .byte)) (t' := .byte) (by decide) (by decide)))).keep KK6 nin0) ((Ey.wr W5).keep KK6) (Or.inr ⟨(wd23 hw), rfl, hnm⟩) (wd8 hw) (ty := (.array .byte)) (by decide) rfl rfl (g := (mkF m 35 #[vR y, vR x, .val .null, vR t, vI (Int32.ofNat cs.length)] [(.ref r6), (.ref y)])) rfl rfl (hb hby dS2_35)
 have Fw7 := ((Gv.other W5 (Or.inr (slot_ne (Or.inr (wd23 hw)) (Or.inr (wd24 hw)) (by decide) (t := (.array .byte)) (t' := .byte) (by decide) (by decide)))).keep KK6 nin0).same W7
 have sz7 : T6.heap.size ≤ h7.size := (Keep.of_wr W7).1
 have K7 : Keep h0 h7 [y] := K6.wr W7 (Or.inl (by simp))
 have N7 := Fr.snoc X7 N6 (own_le (by omega))
 refine own_st st7 ?_
 refine own_st (fun tq kq => XS.goto X7.here hx rfl (pc0 := 38) (pc' := 97) rfl (hb hby dS2_38) (by decide) (by decide) kq) ?_
 obtain ⟨fs, hr, hrun, hended, hW, hsame⟩ := X7.leave (v := none) (fun _ => rfl)
 refine ⟨_, _, X7.returnOut hx Bd.returns (hb hby dS2_97) hr, hrun, hended, _, _, rfl, ?_, ⟨_, rfl⟩, hW, hsame.mono (by decide) (by decide)⟩
 change Q_own_s2 Z x t y k cs v0 c0 G1 h0 n0 _ T7.heap _; rw [e7]; exact ⟨rfl, N7, K7, Fw7.lt, (((Ey.wr W5).keep KK6).wr W7), hbb, (by omega), r6, _, (Vr6.other W7 (own_ne (by omega))).lt, Fw7, ((Fw5.keep KK6 nin0).other W7 (Or.inr (slot_ne (Or.inr (wd24 hw)) (Or.inr (wd23 hw)) (by decide) (t := .byte) (t' := (.array .byte)) (by decide) (by decide)))), (Vr6.other W7 (own_ne (by omega)))⟩

def Q_own_s1 (Z : State) (x t y : Nat) (k : ClassId) (cs : List Int32) (v0 c0 : Value) (G1 : Int32) (h0 : Heap) (n0 : Nat) (v : Option Value) (h : Heap) (L : List Loc) : Prop := v = none ∧ Fr n0 L ∧ Keep h0 h [y] ∧ own_Str Z h.size h y cs
theorem own_s1 (l : Launch) (Z : State) (a0 : Array Value) (hw : hWt a0 Z) (ws : List Jvm.Cond) (x t y : Nat) (k : ClassId) (cs : List Int32) (v0 c0 : Value) (G1 : Int32) (h0 : Heap) (n0 : Nat) (Z0 : n0 ≤ h0.size) (X00 : Old Z n0 h0) (Ey : Exa Z h0 y "java/lang/String") (Gv : Fld Z h0 y "java/lang/String" "value" "[B" v0) (Gc : Fld Z h0 y "java/lang/String" "coder" "B" c0) (B : own_SB Z h0 x t k cs) (hl : cs.length < 16) (hbb : ∀ c ∈ cs, ¬ c < 0 ∧ ¬ (255 : Int32) < c) (gy : n0 ≤ y) (nyx : y ≠ x) (nyt : y ≠ t) (O2 : Sta Z Z.heap "java/lang/String" "COMPACT_STRINGS" "Z" (.int G1)) (P5 : ¬ (G1 = (0 : Int32))) :
 own_MN l mN21 jdk_42_method_53_code 2 none ws rm_4_1_16_94 Z #[(.ref y), (.ref x)] h0 (Q_own_s1 Z x t y k cs v0 c0 G1 h0 n0) := by
 refine own_bodyN (plainFor_of_name own_pn0) fun p e s m below meth c s₁ Bd hx hby hml hown hZ X0 e0 => ?_
 have hnm := (name_of_methodNamed Bd.named Bd.method).1
 have N0 := Fr.nil n0
 have K0 : Keep h0 h0 [y] := Keep.refl h0 [y]
 refine own_st (fun tq kq => castTop (ef_own_init1E m (y) (x)) kq) ?_
 show own_G p e below _ (s₁.setTop (mkF m 0 #[vR y, vR x] []))
 have hws0 : ∀ z ∈ [y], n0 ≤ z := allS gy all0
 obtain ⟨Ex, Fv, Fd, Fn, Vt⟩ := id B
 have ltx : x < h0.size := Fv.lt
 have lty : y < h0.size := Gv.lt
 have ltt : t < h0.size := Vt.lt
 refine s_aloadN X0 hx (hb hby dS1b_0) rfl rfl ?_
 refine s_aloadN X0 hx (hb hby dS1b_1) rfl rfl ?_
 refine own_st (fun tq kq => XS.aconstNull X0.here hx rfl (hb hby dS1b_2) kq) ?_
 obtain ⟨_, _, ⟨T1, L1, k1, n1⟩, -, X1, ⟨Lc1, hQ1, l1, y1, z1⟩, st1⟩ := X0.specialBack hx (y := mN20) rfl hown (mvT hZ (wd127 hw)) (mvT hZ (wd128 hw)) (mvT hZ (wd129 hw)) (by decide) (own_backN (W := 0) (own_s2 l Z a0 hw [] (x) (t) (y) (k) (cs) (v0) (c0) (G1) h0 n0 (by omega) (X00.keep K0 hws0) Ey Gv Gc B hl hbb gy nyx nyt O2 P5) hZ (wd129 hw) (wd9 hw) (by decide) (by decide)) (g := (mkF m 3 #[vR y, vR x] [.null, (.ref x), (.ref y)])) rfl (by rw [hml]; rfl) (Steps.refl _) (a := y) (argsL := [(.ref x), .null]) (rest := []) (lenOf own_pd13 rfl) rfl (Nat.le_of_eq rfl) (hb hby dS1b_3) (fun _ _ => ⟨rfl, e0, (by decide : 0 + 1 ≤ _), (by decide : 0 + 16 ≤ _)⟩)
 dsimp only [Pt.U, Pt.locs, Pt.cells, Pt.slots] at X1 l1 y1 z1 st1 hQ1
 subst l1 y1 z1
 obtain ⟨rfl, Nq1, Kq1, R1⟩ := hQ1
 have KK1 : Keep h0 T1.heap [y] := Kq1
 have sz1 : h0.size ≤ T1.heap.size := KK1.1
 have K1 : Keep h0 T1.heap [y] := K0.trans KK1 (allS (Or.inl (by simp)) all0)
 have N1 := Fr.app N0 Nq1
 refine own_st (fun tq kq => st1.trans kq) ?_
 obtain ⟨fs, hr, hrun, hended, hW, hsame⟩ := X1.leave (v := none) (fun _ => rfl)
 refine ⟨_, _, X1.returnOut hx Bd.returns (hb hby dS1b_6) hr, hrun, hended, _, _, rfl, ?_, ⟨_, rfl⟩, hW, hsame.mono (by decide) (by decide)⟩
 change Q_own_s1 Z x t y k cs v0 c0 G1 h0 n0 _ T1.heap _; exact ⟨rfl, N1, K1, R1⟩

def Q_own_ts (Z : State) (x t : Nat) (k : ClassId) (cs : List Int32) (G1 : Int32) (h0 : Heap) (n0 : Nat) (v : Option Value) (h : Heap) (L : List Loc) : Prop := ∃ a : Nat, v = some (.ref a) ∧ Fr n0 L ∧ Keep h0 h [] ∧ h0.size ≤ a ∧ own_Str Z h.size h a cs
theorem own_ts (l : Launch) (Z : State) (a0 : Array Value) (hw : hWt a0 Z) (ws : List Jvm.Cond) (x t : Nat) (k : ClassId) (cs : List Int32) (G1 : Int32) (h0 : Heap) (n0 : Nat) (Z0 : n0 ≤ h0.size) (X00 : Old Z n0 h0) (B : own_SB Z h0 x t k cs) (hl : cs.length < 16) (hbb : ∀ c ∈ cs, ¬ c < 0 ∧ ¬ (255 : Int32) < c) (O2 : Sta Z Z.heap "java/lang/String" "COMPACT_STRINGS" "Z" (.int G1)) (P5 : ¬ (G1 = (0 : Int32))) :
 own_MN l mN22 jdk_67_method_42_code 1 (some (.object "java/lang/String")) ws rm_5_2_20_110 Z #[(.ref x)] h0 (Q_own_ts Z x t k cs G1 h0 n0) := by
 refine own_bodyN (plainFor_of_name own_pn2) fun p e s m below meth c s₁ Bd hx hby hml hown hZ X0 e0 => ?_
 have N0 := Fr.nil n0
 have K0 : Keep h0 h0 [] := Keep.refl h0 []
 refine own_st (fun tq kq => castTop (ef_own_coder0 m (x)) kq) ?_
 show own_G p e below _ (s₁.setTop (mkF m 0 #[vR x] []))
 obtain ⟨Ex, Fv, Fd, Fn, Vt⟩ := id B
 have ltx : x < h0.size := Fv.lt
 have ltt : t < h0.size := Vt.lt
 obtain ⟨T1, h1, X1, e1, E1, A1, D1, -, st1⟩ := newO X0 hx hZ hown (wd123 hw) (wd8 hw) (wd9 hw) e0 (g := (mkF m 0 #[vR x] [])) rfl (hb hby dTS_0) (by decide) (by decide)
 obtain ⟨b1, g1⟩ : ∃ z, z = h0.size := ⟨_, rfl⟩
 rw [← g1] at A1 D1 st1
 have lt1 : b1 < h1.size := A1.lt
 have sz1 : h0.size ≤ h1.size := E1.1
 have K1 : Keep h0 h1 [] := K0.ext E1
 have F1_value : Fld Z h1 b1 "java/lang/String" "value" "[B" .null := D1 (Or.inr (wd23 hw)) (ty := (.array .byte)) (by decide)
 have F1_coder : Fld Z h1 b1 "java/lang/String" "coder" "B" (.int 0) := D1 (Or.inr (wd24 hw)) (ty := .byte) (by decide)
 refine own_st st1 ?_
 refine own_st (fun tq kq => XS.dup X1.here hx rfl (hb hby dTS_3) rfl rfl kq) ?_
 refine s_aloadN X1 hx (hb hby dTS_4) rfl rfl ?_
 obtain ⟨_, _, ⟨T2, L2, k2, n2⟩, -, X2, ⟨Lc2, hQ2, l2, y2, z2⟩, st2⟩ := X1.specialBack hx (y := mN21) rfl hown (mvT hZ (wd124 hw)) (mvT hZ (wd125 hw)) (mvT hZ (wd126 hw)) (by decide) (own_backN (W := 1) (own_s1 l Z a0 hw [] (x) (t) (b1) (k) (cs) (.null) (.int 0) (G1) h1 n0 (by omega) (X00.keep K1 all0) A1 F1_value F1_coder ⟨(Ex.ext E1), (Fv.ext E1), (Fd.ext E1), (Fn.ext E1), (Vt.ext E1)⟩ hl hbb (by omega) (own_ne (by omega)) (own_ne (by omega)) O2 P5) hZ (wd126 hw) (wd9 hw) (by decide) (by decide)) (g := (mkF m 5 #[vR x] [(.ref x), (.ref b1), (.ref b1)])) rfl (by rw [hml]; rfl) (Steps.refl _) (a := b1) (argsL := [(.ref x)]) (rest := [(.ref b1)]) (lenOf own_pd14 rfl) rfl (Nat.le_of_eq rfl) (hb hby dTS_5) (fun _ _ => ⟨rfl, e1, (by decide : 1 + 1 ≤ _), (by decide : 4 + 16 ≤ _)⟩)
 dsimp only [Pt.U, Pt.locs, Pt.cells, Pt.slots] at X2 l2 y2 z2 st2 hQ2
 subst l2 y2 z2
 obtain ⟨rfl, Nq2, Kq2, R2⟩ := hQ2
 have KK2 : Keep h1 T2.heap [b1] := Kq2
 have sz2 : h1.size ≤ T2.heap.size := KK2.1
 have K2 : Keep h0 T2.heap [] := K1.trans KK2 (allS (Or.inr (own_le (by omega))) all0)
 have N2 := Fr.app N0 Nq2
 refine own_st (fun tq kq => st2.trans kq) ?_
 obtain ⟨fs, hr, hrun, hended, hW, hsame⟩ := X2.leave (v := some (.ref b1)) (fun h => by rw [Bd.returns] at h; cases h)
 refine ⟨_, _, retOut X2 hx Bd.returns rfl (Or.inr (Or.inr (Or.inr (Or.inr ⟨rfl, rfl, rfl⟩)))) (hb hby dTS_8) hr, hrun, hended, _, _, rfl, ?_, ⟨_, rfl⟩, hW, hsame.mono (by decide) (by decide)⟩
 change Q_own_ts Z x t k cs G1 h0 n0 _ T2.heap _; exact ⟨b1, rfl, N2, K2, (by omega), R2⟩

def own_len (p : Int32) : Int32 := ((p.toUInt32 >>> ((16 : Int32) &&& 31).toUInt32).toInt32) &&& (3 : Int32)
def own_c0 (p : Int32) : Int32 := nar .char ((p &&& (255 : Int32)).toUInt32.toUInt16.toUInt32.toInt32)
theorem own_c0_nar (p : Int32) : nar .char (own_c0 p) = own_c0 p := by simp only [own_c0, nar, UInt32.toUInt32_toInt32, UInt16.toUInt16_toUInt32]
theorem own_c0_ok' (p : Int32) : ¬ own_c0 p < 0 ∧ ¬ (255 : Int32) < own_c0 p := own_and255 p
theorem own_c0_ok (p : Int32) : ¬ nar .char (own_c0 p) < 0 ∧ ¬ (255 : Int32) < nar .char (own_c0 p) := by rw [own_c0_nar]; exact own_c0_ok' p
def own_c1 (p : Int32) : Int32 := nar .char ((((p.toUInt32 >>> ((8 : Int32) &&& 31).toUInt32).toInt32) &&& (255 : Int32)).toUInt32.toUInt16.toUInt32.toInt32)
theorem own_c1_nar (p : Int32) : nar .char (own_c1 p) = own_c1 p := by simp only [own_c1, nar, UInt32.toUInt32_toInt32, UInt16.toUInt16_toUInt32]
theorem own_c1_ok' (p : Int32) : ¬ own_c1 p < 0 ∧ ¬ (255 : Int32) < own_c1 p := own_and255 ((p.toUInt32 >>> ((8 : Int32) &&& 31).toUInt32).toInt32)
theorem own_c1_ok (p : Int32) : ¬ nar .char (own_c1 p) < 0 ∧ ¬ (255 : Int32) < nar .char (own_c1 p) := by rw [own_c1_nar]; exact own_c1_ok' p
def own_c2 (p : Int32) : Int32 := nar .char ((((p.toUInt32 >>> ((24 : Int32) &&& 31).toUInt32).toInt32) &&& (255 : Int32)).toUInt32.toUInt16.toUInt32.toInt32)
theorem own_c2_nar (p : Int32) : nar .char (own_c2 p) = own_c2 p := by simp only [own_c2, nar, UInt32.toUInt32_toInt32, UInt16.toUInt16_toUInt32]
theorem own_c2_ok' (p : Int32) : ¬ own_c2 p < 0 ∧ ¬ (255 : Int32) < own_c2 p := own_and255 ((p.toUInt32 >>> ((24 : Int32) &&& 31).toUInt32).toInt32)
theorem own_c2_ok (p : Int32) : ¬ nar .char (own_c2 p) < 0 ∧ ¬ (255 : Int32) < nar .char (own_c2 p) := by rw [own_c2_nar]; exact own_c2_ok' p
theorem own_len4 (p : Int32) : own_len p = 0 ∨ own_len p = 1 ∨ own_len p = 2 ∨ own_len p = 3 := by
  have h := c_and ((p.toUInt32 >>> ((16 : Int32) &&& 31).toUInt32).toInt32) (3 : Int32) (by decide)
  have e3 : (3 : Int32).toInt = 3 := rfl
  have e0 : (0 : Int32).toInt = 0 := rfl
  have e1 : (1 : Int32).toInt = 1 := rfl
  have e2 : (2 : Int32).toInt = 2 := rfl
  unfold own_len
  simp only [← Int32.toInt_inj, e0, e1, e2, e3]
  omega
def own_str (p : Int32) : List Int32 := if own_len p = 0 then [] else if own_len p = 1 then [own_c0 p] else if own_len p = 2 then [own_c0 p, own_c1 p] else [own_c0 p, own_c1 p, own_c2 p]
theorem own_str0 {p : Int32} (h : own_len p = 0) : own_str p = [] := by unfold own_str; rw [if_pos h]
theorem own_str1 {p : Int32} (h : own_len p = 1) : own_str p = [own_c0 p] := by unfold own_str; rw [if_neg (by rw [h]; decide), if_pos h]
theorem own_str2 {p : Int32} (h : own_len p = 2) : own_str p = [own_c0 p, own_c1 p] := by unfold own_str; rw [if_neg (by rw [h]; decide), if_neg (by rw [h]; decide), if_pos h]
theorem own_str3 {p : Int32} (h : own_len p = 3) : own_str p = [own_c0 p, own_c1 p, own_c2 p] := by unfold own_str; rw [if_neg (by rw [h]; decide), if_neg (by rw [h]; decide), if_neg (by rw [h]; decide)]
theorem own_strAll (p : Int32) : (own_len p = 0 ∧ own_str p = []) ∨ (own_len p = 1 ∧ own_str p = [own_c0 p]) ∨ (own_len p = 2 ∧ own_str p = [own_c0 p, own_c1 p]) ∨ (own_len p = 3 ∧ own_str p = [own_c0 p, own_c1 p, own_c2 p]) := by
  rcases own_len4 p with h | h | h | h
  · exact Or.inl ⟨h, own_str0 h⟩
  · exact Or.inr (Or.inl ⟨h, own_str1 h⟩)
  · exact Or.inr (Or.inr (Or.inl ⟨h, own_str2 h⟩))
  · exact Or.inr (Or.inr (Or.inr ⟨h, own_str3 h⟩))
theorem own_str_len (p : Int32) : Int32.ofNat (own_str p).length = own_len p := by
  rcases own_strAll p with ⟨h, e⟩ | ⟨h, e⟩ | ⟨h, e⟩ | ⟨h, e⟩ <;> rw [h, e] <;> rfl
theorem own_str_le (p : Int32) : (own_str p).length ≤ 3 := by
  rcases own_strAll p with ⟨h, e⟩ | ⟨h, e⟩ | ⟨h, e⟩ | ⟨h, e⟩ <;> rw [e] <;> simp
theorem own_k0 {p : Int32} (q : (0 : Int32) < own_len p) : 0 < (own_str p).length ∧ (own_str p).getD 0 0 = own_c0 p := by
  rcases own_strAll p with ⟨h, e⟩ | ⟨h, e⟩ | ⟨h, e⟩ | ⟨h, e⟩ <;> rw [e] <;> first | exact ⟨by simp, rfl⟩ | exact absurd (h ▸ q) (by decide)
theorem own_k1 {p : Int32} (q : (1 : Int32) < own_len p) : 1 < (own_str p).length ∧ (own_str p).getD 1 0 = own_c1 p := by
  rcases own_strAll p with ⟨h, e⟩ | ⟨h, e⟩ | ⟨h, e⟩ | ⟨h, e⟩ <;> rw [e] <;> first | exact ⟨by simp, rfl⟩ | exact absurd (h ▸ q) (by decide)
theorem own_k2 {p : Int32} (q : (2 : Int32) < own_len p) : 2 < (own_str p).length ∧ (own_str p).getD 2 0 = own_c2 p := by
  rcases own_strAll p with ⟨h, e⟩ | ⟨h, e⟩ | ⟨h, e⟩ | ⟨h, e⟩ <;> rw [e] <;> first | exact ⟨by simp, rfl⟩ | exact absurd (h ▸ q) (by decide)
abbrev own_cs (a b : Int32) : List Int32 := (own_str a ++ ([32] : List Int32)) ++ own_str b
theorem own_lenLaw (a b : Int32) : Int32.ofNat (own_cs a b).length = (own_len a + (1 : Int32)) + own_len b := by
  rw [← own_str_len a, ← own_str_len b]
  simp only [own_cs, List.length_append, List.length_cons, List.length_nil, Int32.ofNat_add]
  rfl
theorem own_at0 (a b : Int32) : ∀ i, i < (own_str a).length → (own_cs a b).getD (0 + i) 0 = (own_str a).getD i 0 := fun i hi => by
  simp only [own_cs, List.getD_eq_getElem?_getD, Nat.zero_add]
  rw [List.getElem?_append_left (by rw [List.length_append]; omega), List.getElem?_append_left hi]
theorem own_at1 (a b : Int32) : ∀ i, i < (own_str b).length → (own_cs a b).getD ((own_str a).length + 1 + i) 0 = (own_str b).getD i 0 := fun i hi => by
  simp only [own_cs, List.getD_eq_getElem?_getD]
  rw [List.getElem?_append_right (by rw [List.length_append]; simp), List.length_append]
  rw [show (own_str a).length + 1 + i - ((own_str a).length + ([32] : List Int32).length) = i by simp]
theorem own_atS (a b : Int32) : (own_cs a b).getD (own_str a).length 0 = (32 : Int32) := by
  simp only [own_cs, List.getD_eq_getElem?_getD]
  rw [List.getElem?_append_left (by rw [List.length_append]; simp), List.getElem?_append_right (Nat.le_refl _)]
  simp
theorem own_ho0 (a b : Int32) : 0 + (own_str a).length ≤ (own_cs a b).length := by simp only [own_cs, List.length_append]; omega
theorem own_ho1 (a b : Int32) : (own_str a).length + 1 + (own_str b).length ≤ (own_cs a b).length := by simp only [own_cs, List.length_append, List.length_cons, List.length_nil]; omega
theorem own_hiS (a b : Int32) : (own_str a).length < (own_cs a b).length := by have := own_ho1 a b; omega
theorem own_off1 (a : Int32) : own_len a + (1 : Int32) = Int32.ofNat ((own_str a).length + 1) := by rw [Int32.ofNat_add, own_str_len]; rfl
theorem own_okA {a b : List Int32} (ha : ∀ c ∈ a, ¬ c < 0 ∧ ¬ (255 : Int32) < c) (hb : ∀ c ∈ b, ¬ c < 0 ∧ ¬ (255 : Int32) < c) : ∀ c ∈ a ++ b, ¬ c < 0 ∧ ¬ (255 : Int32) < c := fun c hc => (List.mem_append.mp hc).elim (ha c) (hb c)
theorem own_okN : ∀ c ∈ ([] : List Int32), ¬ c < 0 ∧ ¬ (255 : Int32) < c := fun c hc => by cases hc

def Q_own_lenC (Z : State) (a : Int32) (h0 : Heap) (n0 : Nat) (v : Option Value) (h : Heap) (L : List Loc) : Prop := v = some (.int (own_len a)) ∧ Fr n0 L ∧ h = h0
theorem ef_own_lenC (m : MethodId) (x0 : Int32) : entryFrame m #[(.int x0)] 1 = mkF m 0 #[.val (.int x0)] [] := by first | (simp [entryFrame, mkF, argsToLocals, Value.category]; done) | rfl
theorem own_lenC (l : Launch) (Z : State) (a0 : Array Value) (hw : hWt a0 Z) (ws : List Jvm.Cond) (a : Int32) (h0 : Heap) (n0 : Nat) (Z0 : n0 ≤ h0.size) (X00 : Old Z n0 h0)  :
 own_MN l mN23 method_2_code 1 (some .int) ws rm_0_0_0_0 Z #[(.int a)] h0 (Q_own_lenC Z a h0 n0) := by
 refine own_bodyN (plainFor_of_name own_pn5) fun p e s m below meth c s₁ Bd hx hby hml hown hZ X0 e0 => ?_
 have N0 := Fr.nil n0
 have K0 : Keep h0 h0 [] := Keep.refl h0 []
 refine own_st (fun tq kq => castTop (ef_own_lenC m (a)) kq) ?_
 show own_G p e below _ (s₁.setTop (mkF m 0 #[vI a] []))
 refine s_iloadN X0 hx (hb hby dLE_0) rfl ?_
 refine s_bipush X0 hx (hb hby dLE_1) ?_
 refine own_st (fun tq kq => XS.iushr X0.here hx rfl (hb hby dLE_3) rfl kq) ?_
 refine s_iconst X0 hx (hb hby dLE_4) ?_
 show own_G p e below _ (s₁.setTop (mkF m 5 #[vI a] [(.int 3), (.int ((a.toUInt32 >>> ((16 : Int32) &&& 31).toUInt32).toInt32))]))
 refine own_st (fun tq kq => XS.iand X0.here hx rfl (hb hby dLE_5) rfl kq) ?_
 show own_G p e below _ (s₁.setTop (mkF m 6 #[vI a] [(.int (((a.toUInt32 >>> ((16 : Int32) &&& 31).toUInt32).toInt32) &&& (3 : Int32)))]))
 obtain ⟨fs, hr, hrun, hended, hW, hsame⟩ := X0.leave (v := some (.int (((a.toUInt32 >>> ((16 : Int32) &&& 31).toUInt32).toInt32) &&& (3 : Int32)))) (fun h => by rw [Bd.returns] at h; cases h)
 refine ⟨_, _, retOut X0 hx Bd.returns rfl (Or.inl ⟨rfl, by simp, _, rfl⟩) (hb hby dLE_6) hr, hrun, hended, _, _, rfl, ?_, ⟨_, rfl⟩, hW, hsame.mono (by decide) (by decide)⟩
 change Q_own_lenC Z a h0 n0 _ s₁.heap _; rw [e0]; exact ⟨rfl, N0, rfl⟩

def Q_own_c0C (Z : State) (a : Int32) (h0 : Heap) (n0 : Nat) (v : Option Value) (h : Heap) (L : List Loc) : Prop := v = some (.int (own_c0 a)) ∧ Fr n0 L ∧ h = h0
theorem own_c0C (l : Launch) (Z : State) (a0 : Array Value) (hw : hWt a0 Z) (ws : List Jvm.Cond) (a : Int32) (h0 : Heap) (n0 : Nat) (Z0 : n0 ≤ h0.size) (X00 : Old Z n0 h0)  :
 own_MN l mN24 method_3_code 1 (some .char) ws rm_0_0_0_0 Z #[(.int a)] h0 (Q_own_c0C Z a h0 n0) := by
 refine own_bodyN (plainFor_of_name own_pn5) fun p e s m below meth c s₁ Bd hx hby hml hown hZ X0 e0 => ?_
 have N0 := Fr.nil n0
 have K0 : Keep h0 h0 [] := Keep.refl h0 []
 refine own_st (fun tq kq => castTop (ef_own_lenC m (a)) kq) ?_
 show own_G p e below _ (s₁.setTop (mkF m 0 #[vI a] []))
 refine s_iloadN X0 hx (hb hby dC0_0) rfl ?_
 refine s_sipush X0 hx (hb hby dC0_1) ?_
 refine own_st (fun tq kq => XS.iand X0.here hx rfl (hb hby dC0_4) rfl kq) ?_
 refine own_st (fun tq kq => XS.i2c X0.here hx rfl (hb hby dC0_5) rfl kq) ?_
 show own_G p e below _ (s₁.setTop (mkF m 6 #[vI a] [(.int ((a &&& (255 : Int32)).toUInt32.toUInt16.toUInt32.toInt32))]))
 obtain ⟨fs, hr, hrun, hended, hW, hsame⟩ := X0.leave (v := some (.int (nar .char ((a &&& (255 : Int32)).toUInt32.toUInt16.toUInt32.toInt32)))) (fun h => by rw [Bd.returns] at h; cases h)
 refine ⟨_, _, retN X0 hx (t := .char) Bd.returns (by simp) (hb hby dC0_6) hr, hrun, hended, _, _, rfl, ?_, ⟨_, rfl⟩, hW, hsame.mono (by decide) (by decide)⟩
 change Q_own_c0C Z a h0 n0 _ s₁.heap _; rw [e0]; exact ⟨rfl, N0, rfl⟩

def Q_own_c1C (Z : State) (a : Int32) (h0 : Heap) (n0 : Nat) (v : Option Value) (h : Heap) (L : List Loc) : Prop := v = some (.int (own_c1 a)) ∧ Fr n0 L ∧ h = h0
theorem own_c1C (l : Launch) (Z : State) (a0 : Array Value) (hw : hWt a0 Z) (ws : List Jvm.Cond) (a : Int32) (h0 : Heap) (n0 : Nat) (Z0 : n0 ≤ h0.size) (X00 : Old Z n0 h0)  :
 own_MN l mN25 method_4_code 1 (some .char) ws rm_0_0_0_0 Z #[(.int a)] h0 (Q_own_c1C Z a h0 n0) := by
 refine own_bodyN (plainFor_of_name own_pn5) fun p e s m below meth c s₁ Bd hx hby hml hown hZ X0 e0 => ?_
 have N0 := Fr.nil n0
 have K0 : Keep h0 h0 [] := Keep.refl h0 []
 refine own_st (fun tq kq => castTop (ef_own_lenC m (a)) kq) ?_
 show own_G p e below _ (s₁.setTop (mkF m 0 #[vI a] []))
 refine s_iloadN X0 hx (hb hby dC1_0) rfl ?_
 refine s_bipush X0 hx (hb hby dC1_1) ?_
 refine own_st (fun tq kq => XS.iushr X0.here hx rfl (hb hby dC1_3) rfl kq) ?_
 refine s_sipush X0 hx (hb hby dC1_4) ?_
 show own_G p e below _ (s₁.setTop (mkF m 7 #[vI a] [(.int 255), (.int ((a.toUInt32 >>> ((8 : Int32) &&& 31).toUInt32).toInt32))]))
 refine own_st (fun tq kq => XS.iand X0.here hx rfl (hb hby dC1_7) rfl kq) ?_
 refine own_st (fun tq kq => XS.i2c X0.here hx rfl (hb hby dC1_8) rfl kq) ?_
 show own_G p e below _ (s₁.setTop (mkF m 9 #[vI a] [(.int ((((a.toUInt32 >>> ((8 : Int32) &&& 31).toUInt32).toInt32) &&& (255 : Int32)).toUInt32.toUInt16.toUInt32.toInt32))]))
 obtain ⟨fs, hr, hrun, hended, hW, hsame⟩ := X0.leave (v := some (.int (nar .char ((((a.toUInt32 >>> ((8 : Int32) &&& 31).toUInt32).toInt32) &&& (255 : Int32)).toUInt32.toUInt16.toUInt32.toInt32)))) (fun h => by rw [Bd.returns] at h; cases h)
 refine ⟨_, _, retN X0 hx (t := .char) Bd.returns (by simp) (hb hby dC1_9) hr, hrun, hended, _, _, rfl, ?_, ⟨_, rfl⟩, hW, hsame.mono (by decide) (by decide)⟩
 change Q_own_c1C Z a h0 n0 _ s₁.heap _; rw [e0]; exact ⟨rfl, N0, rfl⟩

def Q_own_c2C (Z : State) (a : Int32) (h0 : Heap) (n0 : Nat) (v : Option Value) (h : Heap) (L : List Loc) : Prop := v = some (.int (own_c2 a)) ∧ Fr n0 L ∧ h = h0
theorem own_c2C (l : Launch) (Z : State) (a0 : Array Value) (hw : hWt a0 Z) (ws : List Jvm.Cond) (a : Int32) (h0 : Heap) (n0 : Nat) (Z0 : n0 ≤ h0.size) (X00 : Old Z n0 h0)  :
 own_MN l mN26 method_5_code 1 (some .char) ws rm_0_0_0_0 Z #[(.int a)] h0 (Q_own_c2C Z a h0 n0) := by
 refine own_bodyN (plainFor_of_name own_pn5) fun p e s m below meth c s₁ Bd hx hby hml hown hZ X0 e0 => ?_
 have N0 := Fr.nil n0
 have K0 : Keep h0 h0 [] := Keep.refl h0 []
 refine own_st (fun tq kq => castTop (ef_own_lenC m (a)) kq) ?_
 show own_G p e below _ (s₁.setTop (mkF m 0 #[vI a] []))
 refine s_iloadN X0 hx (hb hby dC2_0) rfl ?_
 refine s_bipush X0 hx (hb hby dC2_1) ?_
 refine own_st (fun tq kq => XS.iushr X0.here hx rfl (hb hby dC2_3) rfl kq) ?_
 refine s_sipush X0 hx (hb hby dC2_4) ?_
 show own_G p e below _ (s₁.setTop (mkF m 7 #[vI a] [(.int 255), (.int ((a.toUInt32 >>> ((24 : Int32) &&& 31).toUInt32).toInt32))]))
 refine own_st (fun tq kq => XS.iand X0.here hx rfl (hb hby dC2_7) rfl kq) ?_
 refine own_st (fun tq kq => XS.i2c X0.here hx rfl (hb hby dC2_8) rfl kq) ?_
 show own_G p e below _ (s₁.setTop (mkF m 9 #[vI a] [(.int ((((a.toUInt32 >>> ((24 : Int32) &&& 31).toUInt32).toInt32) &&& (255 : Int32)).toUInt32.toUInt16.toUInt32.toInt32))]))
 obtain ⟨fs, hr, hrun, hended, hW, hsame⟩ := X0.leave (v := some (.int (nar .char ((((a.toUInt32 >>> ((24 : Int32) &&& 31).toUInt32).toInt32) &&& (255 : Int32)).toUInt32.toUInt16.toUInt32.toInt32)))) (fun h => by rw [Bd.returns] at h; cases h)
 refine ⟨_, _, retN X0 hx (t := .char) Bd.returns (by simp) (hb hby dC2_9) hr, hrun, hended, _, _, rfl, ?_, ⟨_, rfl⟩, hW, hsame.mono (by decide) (by decide)⟩
 change Q_own_c2C Z a h0 n0 _ s₁.heap _; rw [e0]; exact ⟨rfl, N0, rfl⟩

def Q_own_strC (Z : State) (p0 G1 : Int32) (h0 : Heap) (n0 : Nat) (v : Option Value) (_vm : Vm) (h : Heap) (L : List Loc) : Prop := ∃ a : Nat, v = some (.ref a) ∧ Fr n0 L ∧ Keep h0 h [] ∧ h0.size ≤ a ∧ own_Str Z h.size h a (own_str p0)
theorem ef_own_strC (m : MethodId) (x0 : Int32) : entryFrame m #[(.int x0)] 2 = mkF m 0 #[.val (.int x0), .unset] [] := by first | (simp [entryFrame, mkF, argsToLocals, Value.category]; done) | rfl
theorem own_strC (l : Launch) (Z : State) (a0 : Array Value) (hw : hWt a0 Z) (hEL : EW Z a0 consts_1) (ws : List Jvm.Cond) (p0 G1 : Int32) (h0 : Heap) (n0 : Nat) (Z0 : n0 ≤ h0.size) (X00 : Old Z n0 h0) (O2 : Sta Z Z.heap "java/lang/String" "COMPACT_STRINGS" "Z" (.int G1)) (P5 : ¬ (G1 = (0 : Int32))) :
    MetFree l mN27 (head1 (Jvm.Cond.code mN27 method_6_code 2 (some (.object "java/lang/String")) :: ws) rm_6_4_16_130) (own_P Z consts_1 #[(.int p0)] h0 []) (fun _ _ _ _ _ => True) (own_E Z consts_1 (Q_own_strC Z p0 G1 h0 n0) rm_6_4_16_130) := by
 refine MetFree.of_bodySF (plainFor_of_name own_pn5) hisR ?_
 intro p e s m args below meth c s₁ Bd hml0 hP hK
 obtain ⟨rfl, hZ, hh, hCH, hSafe⟩ := hP
 have hx := Bd.exec
 have hby := Bd.bytes
 have hml : c.maxLocals = 2 := hml0
 have hown : s.vm.findClass "com/example/garm/garm/ClaimToStringPinLaw" = some m.cls := findClass_of_methodNamed Bd.named
 have X0 : Stand p l e rm_6_4_16_130 (s.setVm s.vm) m #[(.int p0)] below meth c s₁ [] 0 0 := Stand.of_body Bd
 have e0 : s₁.heap = h0 := by rw [← hh, Bd.state]; rfl
 have N0 := Fr.nil n0
 have K0 : Keep h0 h0 [] := Keep.refl h0 []
 have S0 : s.Since s.vm 0 := own_since s
 have C0 : CHr Z consts_1 s.vm h0 s.vm h0 := CHr.refl hCH
 refine show own_G p e below (own_E Z consts_1 (Q_own_strC Z p0 G1 h0 n0) rm_6_4_16_130 #[(.int p0)] s) _ from ?_
 refine own_st (fun tq kq => castTop (ef_own_strC m (p0)) kq) ?_
 show own_G p e below _ (s₁.setTop (mkF m 0 #[vI p0, .unset] []))
 refine s_iloadN X0 hx (hb hby dST_0) rfl ?_
 obtain ⟨_, _, ⟨T1, L1, k1, n1⟩, -, X1, ⟨Lc1, hQ1, l1, y1, z1⟩, st1⟩ := Jvm.LawKit.callS X0 hx (y := mN23) hown (mvT hZ (wd4 hw)) (mvT hZ (wd5 hw)) (mvT hZ (wd2 hw)) (mvT hZ (wd6 hw)) (by decide) (own_backN (W := 0) (own_lenC l Z a0 hw [] (p0) h0 n0 (by omega) (X00.keep K0 all0) ) hZ (wd6 hw) (wd2 hw) (by decide) (by decide)) (g := (mkF m 1 #[vI p0, .unset] [(.int p0)])) rfl (by rw [hml]; rfl) (argsL := [(.int p0)]) (rest := []) (lenOf own_pd15 rfl) rfl (Nat.le_of_eq rfl) (hb hby dST_1) (fun _ _ => ⟨rfl, e0, (by decide : 0 + 0 ≤ _), (by decide : 0 + 0 ≤ _)⟩)
 dsimp only [Pt.U, Pt.locs, Pt.cells, Pt.slots] at X1 l1 y1 z1 st1 hQ1
 subst l1 y1 z1
 obtain ⟨rfl, Nq1, sm1⟩ := hQ1
 have N1 := Fr.app N0 Nq1
 refine own_st st1 ?_
 refine own_st (fun tq kq => XS.istoreN X1.here hx rfl (hb hby dST_4) rfl (l' := #[vI p0, vI (own_len p0)]) rfl kq) ?_
 refine s_iloadN X1 hx (hb hby dST_5) rfl ?_
 show own_G p e below _ (T1.setTop (mkF m 6 #[vI p0, vI (own_len p0)] [(.int (own_len p0))]))
 by_cases hc6_2 : ((own_len p0) = (0 : Int32))
 ·
  refine own_st (fun tq kq => XS.ifNo X1.here hx rfl (hb hby dST_6) rfl ((if0 _ _).trans (teq hc6_2).2) kq) ?_
  obtain ⟨T3, h3, X3, e3, E3, A3, D3, -, st3⟩ := newO X1 hx hZ hown (wd7 hw) (wd8 hw) (wd9 hw) sm1 (g := (mkF m 9 #[vI p0, vI (own_len p0)] [])) rfl (hb hby dST_9) (by decide) (by decide)
  obtain ⟨b3, g3⟩ : ∃ z, z = h0.size := ⟨_, rfl⟩
  rw [← g3] at A3 D3 st3
  have lt3 : b3 < h3.size := A3.lt
  have Sn3 : Safe Z consts_1 s.vm h0 b3 := Safe.new (own_le (by omega))
  have sz3 : h0.size ≤ h3.size := E3.1
  have K3 : Keep h0 h3 [] := K0.ext E3
  have c3 : CHr Z consts_1 s.vm h0 s.vm h3 := CHr.ext E3 C0.1
  have C3 := C0.trans c3
  have Sf3 : Safe Z consts_1 s.vm h3 b3 := Safe.ext E3 C0.1 Sn3
  have F3_value : Fld Z h3 b3 "java/lang/String" "value" "[B" .null := D3 (Or.inr (wd23 hw)) (ty := (.array .byte)) (by decide)
  have F3_coder : Fld Z h3 b3 "java/lang/String" "coder" "B" (.int 0) := D3 (Or.inr (wd24 hw)) (ty := .byte) (by decide)
  refine own_st st3 ?_
  refine own_st (fun tq kq => XS.dup X3.here hx rfl (hb hby dST_12) rfl rfl kq) ?_
  refine s_iconst X3 hx (hb hby dST_13) ?_
  obtain ⟨T4, h4, k4, X4, e4, E4, A4, st4⟩ := newP X3 hx hZ (hw _ (List.mem_of_getElem? (i := 10) rfl)) e3 (g := (mkF m 14 #[vI p0, vI (own_len p0)] [(.int 0), (.ref b3), (.ref b3)])) rfl (hb hby dST_14) rfl (by decide) (cap := 0) (by decide) (by decide) (by decide) (by decide)
  obtain ⟨b4, g4⟩ : ∃ z, z = h3.size := ⟨_, rfl⟩
  rw [← g4] at A4 st4
  have lt4 : b4 < h4.size := A4.lt
  have V4 : Arv Z h4 b4 k4 .char (0 : Int32) [] (.int (0 : Int32)) := Arv.new A4 (by decide)
  have sz4 : h3.size ≤ h4.size := E4.1
  have K4 : Keep h0 h4 [] := K3.ext E4
  have c4 : CHr Z consts_1 s.vm h3 s.vm h4 := CHr.ext E4 C3.1
  have C4 := C3.trans c4
  have Sf4_5 := c4.safe (own_lt (by omega)) Sf3
  refine own_st st4 ?_
  have hp6 : ∀ c ∈ ([] : List Int32), ¬ c < 0 ∧ ¬ (255 : Int32) < c := fun c hc => by cases hc
  obtain ⟨_, _, ⟨T6, L6, k6, n6⟩, -, Y6, S6p, gr6, ⟨Lc6, hQ6, l6, y6, z6, c6⟩, st6⟩ := X4.specialBackS hx (y := mN1) rfl hown (mvT hZ (wd11 hw)) (mvT hZ (wd12 hw)) (mvT hZ (wd13 hw)) (by decide) (own_newStr (s := s) (vm0 := s.vm) (W := 1) hZ hw hEL C4.1 (cs := ([] : List Int32)) (n := 0) (n0 := n0) Sf4_5 (by omega) (X00.keep K4 all0) (A3.ext E4) (F3_value.ext E4) (F3_coder.ext E4) V4 O2 P5 rfl rfl (by decide) hp6 (by decide) (by decide)) (g := (mkF m 16 #[vI p0, vI (own_len p0)] [(.ref b4), (.ref b3), (.ref b3)])) rfl (by rw [hml]; rfl) (Steps.refl _) (a := b3) (argsL := [(.ref b4)]) (rest := [(.ref b3)]) (lenOf own_pd16 rfl) rfl (Nat.le_of_eq rfl) (hb hby dST_16) (fun _ _ => ⟨rfl, e4, (by decide : 2 + 2 ≤ _), (by decide : 4 + 4 ≤ _)⟩)
  dsimp only [Pt.U, Pt.locs, Pt.cells, Pt.slots] at Y6 S6p gr6 l6 y6 z6 st6 hQ6 c6
  subst l6 y6 z6
  obtain ⟨X6, S6, Z6, o6⟩ := rebS S0 (by rw [e4]; exact (own_le (by omega))) Y6 S6p gr6 hZ hown
  obtain ⟨rfl, Nq6, Kq6, Str6⟩ := hQ6
  have KK6 : Keep h4 T6.heap [b3] := Kq6
  have sz6 : h4.size ≤ T6.heap.size := KK6.1
  have K6 : Keep h0 T6.heap [] := K4.trans KK6 (allS (Or.inr (own_le (by omega))) all0)
  have C6 := C4.trans c6
  have Sf6_7 := c6.safe (own_lt (by omega)) Sf4_5
  have N6 := Fr.app N1 Nq6
  refine own_st (fun tq kq => st6.trans kq) ?_
  obtain ⟨fs, hr, hrun, hended, hRW⟩ := X6.leaveW S6 (own_le (by omega)) (v := some (.ref b3)) (fun h => by rw [Bd.returns] at h; cases h)
  have cE := C6.trans (CHv.at (s := s) (vm0 := T6.vm) X6 Z6 hEL C6.1)
  refine ⟨_, _, retOut X6 hx Bd.returns rfl (Or.inr (Or.inr (Or.inr (Or.inr ⟨rfl, rfl, rfl⟩)))) (hb hby dST_19) hr, hrun, hended, _, _, rfl, ?_, ?_, own_RW hRW (by decide) (by decide)⟩
  · change Q_own_strC Z p0 G1 h0 n0 _ T6.vm T6.heap _; exact ⟨b3, rfl, N6, K6, (by omega), (by rw [own_str0 hc6_2]; have q := Str6; first | exact q | (simp only [own_c0_nar, own_c1_nar, own_c2_nar] at q; exact q))⟩
  · rw [hh]; change CHr Z consts_1 s.vm h0 T6.vm T6.heap; exact cE
 ·
  refine own_st (fun tq kq => XS.ifYes X1.here hx rfl (pc0 := 6) (pc' := 20) rfl (hb hby dST_6) rfl ((if0 _ _).trans (feq hc6_2).2) (by decide) (by decide) kq) ?_
  refine s_iloadN X1 hx (hb hby dST_20) rfl ?_
  refine s_iconst X1 hx (hb hby dST_21) ?_
  show own_G p e below _ (T1.setTop (mkF m 22 #[vI p0, vI (own_len p0)] [(.int 1), (.int (own_len p0))]))
  by_cases hc22_8 : ((own_len p0) = (1 : Int32))
  ·
   refine own_st (fun tq kq => XS.icmpNo X1.here hx rfl (hb hby dST_22) rfl (teq hc22_8).2 kq) ?_
   obtain ⟨T9, h9, X9, e9, E9, A9, D9, -, st9⟩ := newO X1 hx hZ hown (wd7 hw) (wd8 hw) (wd9 hw) sm1 (g := (mkF m 25 #[vI p0, vI (own_len p0)] [])) rfl (hb hby dST_25) (by decide) (by decide)
   obtain ⟨b9, g9⟩ : ∃ z, z = h0.size := ⟨_, rfl⟩
   rw [← g9] at A9 D9 st9
   have lt9 : b9 < h9.size := A9.lt
   have Sn9 : Safe Z consts_1 s.vm h0 b9 := Safe.new (own_le (by omega))
   have sz9 : h0.size ≤ h9.size := E9.1
   have K9 : Keep h0 h9 [] := K0.ext E9
   have c9 : CHr Z consts_1 s.vm h0 s.vm h9 := CHr.ext E9 C0.1
   have C9 := C0.trans c9
   have Sf9 : Safe Z consts_1 s.vm h9 b9 := Safe.ext E9 C0.1 Sn9
   have F9_value : Fld Z h9 b9 "java/lang/String" "value" "[B" .null := D9 (Or.inr (wd23 hw)) (ty := (.array .byte)) (by decide)
   have F9_coder : Fld Z h9 b9 "java/lang/String" "coder" "B" (.int 0) := D9 (Or.inr (wd24 hw)) (ty := .byte) (by decide)
   refine own_st st9 ?_
   refine own_st (fun tq kq => XS.dup X9.here hx rfl (hb hby dST_28) rfl rfl kq) ?_
   refine s_iconst X9 hx (hb hby dST_29) ?_
   obtain ⟨T10, h10, k10, X10, e10, E10, A10, st10⟩ := newP X9 hx hZ (hw _ (List.mem_of_getElem? (i := 10) rfl)) e9 (g := (mkF m 30 #[vI p0, vI (own_len p0)] [(.int 1), (.ref b9), (.ref b9)])) rfl (hb hby dST_30) rfl (by decide) (cap := 1) (by decide) (by decide) (by decide) (by decide)
   obtain ⟨b10, g10⟩ : ∃ z, z = h9.size := ⟨_, rfl⟩
   rw [← g10] at A10 st10
   have lt10 : b10 < h10.size := A10.lt
   have V10 : Arv Z h10 b10 k10 .char (1 : Int32) [(.int (0 : Int32))] (.int (0 : Int32)) := (Arv.new A10 (by decide)).pad (pad_rep [] (.int (0 : Int32)) 1)
   have sz10 : h9.size ≤ h10.size := E10.1
   have K10 : Keep h0 h10 [] := K9.ext E10
   have c10 : CHr Z consts_1 s.vm h9 s.vm h10 := CHr.ext E10 C9.1
   have C10 := C9.trans c10
   have Sf10_11 := c10.safe (own_lt (by omega)) Sf9
   refine own_st st10 ?_
   refine own_st (fun tq kq => XS.dup X10.here hx rfl (hb hby dST_32) rfl rfl kq) ?_
   refine s_iconst X10 hx (hb hby dST_33) ?_
   refine s_iloadN X10 hx (hb hby dST_34) rfl ?_
   obtain ⟨_, _, ⟨T12, L12, k12, n12⟩, -, X12, ⟨Lc12, hQ12, l12, y12, z12⟩, st12⟩ := Jvm.LawKit.callS X10 hx (y := mN24) hown (mvT hZ (wd198 hw)) (mvT hZ (wd199 hw)) (mvT hZ (wd2 hw)) (mvT hZ (wd200 hw)) (by decide) (own_backN (W := 5) (own_c0C l Z a0 hw [] (p0) h10 n0 (by omega) (X00.keep K10 all0) ) hZ (wd200 hw) (wd2 hw) (by decide) (by decide)) (g := (mkF m 35 #[vI p0, vI (own_len p0)] [(.int p0), (.int 0), (.ref b10), (.ref b10), (.ref b9), (.ref b9)])) rfl (by rw [hml]; rfl) (argsL := [(.int p0)]) (rest := [(.int 0), (.ref b10), (.ref b10), (.ref b9), (.ref b9)]) (lenOf own_pd17 rfl) rfl (Nat.le_of_eq rfl) (hb hby dST_35) (fun _ _ => ⟨rfl, e10, (by decide : 2 + 0 ≤ _), (by decide : 5 + 0 ≤ _)⟩)
   dsimp only [Pt.U, Pt.locs, Pt.cells, Pt.slots] at X12 l12 y12 z12 st12 hQ12
   subst l12 y12 z12
   obtain ⟨rfl, Nq12, sm12⟩ := hQ12
   have N12 := Fr.app N1 Nq12
   refine own_st st12 ?_
   obtain ⟨cl13, Ar13, q13, S_13, N_13, H_13, G_13⟩ := id V10
   have in13 : ¬ ((0 : Int32) < 0 ∨ cl13.slots.size ≤ ((0 : Int32)).toNatClampNeg) := inb_of S_13 ⟨by decide, by decide⟩
   obtain ⟨T13, h13, X13, e13, W13, st13⟩ := stC X12 hx hZ sm12 Ar13 (j := (0 : Int32)) in13 (g := (mkF m 38 #[vI p0, vI (own_len p0)] [(.int (own_c0 p0)), (.int 0), (.ref b10), (.ref b10), (.ref b9), (.ref b9)])) rfl rfl (hb hby dST_38)
   have V13 := Arv.set Ar13 q13 S_13 N_13 H_13 G_13 (fits_nar_char _) W13 0 rfl (Nat.le_of_ble_eq_true rfl)
   have sz13 : h10.size ≤ h13.size := (Keep.of_wr W13).1
   have K13 : Keep h0 h13 [] := K10.wr W13 (Or.inr (own_le (by omega)))
   have c13 : CHr Z consts_1 s.vm h10 s.vm h13 := CHr.wr W13 (Safe.arr hZ.alike Ar13 (by decide)) C10.1
   have C13 := C10.trans c13
   have Sf13_14 := c13.safe (own_lt (by omega)) Sf10_11
   have N13 := Fr.snoc X13 N12 (own_le (by omega))
   refine own_st st13 ?_
   have hp15 : ∀ c ∈ ([(nar .char (own_c0 p0))] : List Int32), ¬ c < 0 ∧ ¬ (255 : Int32) < c := by
     intro c hc
     simp only [List.mem_cons, List.not_mem_nil, or_false] at hc
     rcases hc with rfl
     · exact own_c0_ok _
   obtain ⟨_, _, ⟨T15, L15, k15, n15⟩, -, Y15, S15p, gr15, ⟨Lc15, hQ15, l15, y15, z15, c15⟩, st15⟩ := X13.specialBackS hx (y := mN1) rfl hown (mvT hZ (wd11 hw)) (mvT hZ (wd12 hw)) (mvT hZ (wd13 hw)) (by decide) (own_newStr (s := s) (vm0 := s.vm) (W := 1) hZ hw hEL C13.1 (cs := ([(nar .char (own_c0 p0))] : List Int32)) (n := 1) (n0 := n0) Sf13_14 (by omega) (X00.keep K13 all0) ((A9.ext E10).wr W13) ((F9_value.ext E10).other W13 (Or.inl (own_ne (by omega)))) ((F9_coder.ext E10).other W13 (Or.inl (own_ne (by omega)))) V13 O2 P5 rfl rfl (by decide) hp15 (by decide) (by decide)) (g := (mkF m 39 #[vI p0, vI (own_len p0)] [(.ref b10), (.ref b9), (.ref b9)])) rfl (by rw [hml]; rfl) (Steps.refl _) (a := b9) (argsL := [(.ref b10)]) (rest := [(.ref b9)]) (lenOf own_pd16 rfl) rfl (Nat.le_of_eq rfl) (hb hby dST_39) (fun _ _ => ⟨rfl, e13, (by decide : 2 + 2 ≤ _), (by decide : 5 + 5 ≤ _)⟩)
   dsimp only [Pt.U, Pt.locs, Pt.cells, Pt.slots] at Y15 S15p gr15 l15 y15 z15 st15 hQ15 c15
   subst l15 y15 z15
   obtain ⟨X15, S15, Z15, o15⟩ := rebS S0 (by rw [e13]; exact (own_le (by omega))) Y15 S15p gr15 hZ hown
   obtain ⟨rfl, Nq15, Kq15, Str15⟩ := hQ15
   have KK15 : Keep h13 T15.heap [b9] := Kq15
   have sz15 : h13.size ≤ T15.heap.size := KK15.1
   have K15 : Keep h0 T15.heap [] := K13.trans KK15 (allS (Or.inr (own_le (by omega))) all0)
   have C15 := C13.trans c15
   have Sf15_16 := c15.safe (own_lt (by omega)) Sf13_14
   have N15 := Fr.app N13 Nq15
   refine own_st (fun tq kq => st15.trans kq) ?_
   obtain ⟨fs, hr, hrun, hended, hRW⟩ := X15.leaveW S15 (own_le (by omega)) (v := some (.ref b9)) (fun h => by rw [Bd.returns] at h; cases h)
   have cE := C15.trans (CHv.at (s := s) (vm0 := T15.vm) X15 Z15 hEL C15.1)
   refine ⟨_, _, retOut X15 hx Bd.returns rfl (Or.inr (Or.inr (Or.inr (Or.inr ⟨rfl, rfl, rfl⟩)))) (hb hby dST_42) hr, hrun, hended, _, _, rfl, ?_, ?_, own_RW hRW (by decide) (by decide)⟩
   · change Q_own_strC Z p0 G1 h0 n0 _ T15.vm T15.heap _; exact ⟨b9, rfl, N15, K15, (by omega), (by rw [own_str1 hc22_8]; have q := Str15; first | exact q | (simp only [own_c0_nar, own_c1_nar, own_c2_nar] at q; exact q))⟩
   · rw [hh]; change CHr Z consts_1 s.vm h0 T15.vm T15.heap; exact cE
  ·
   refine own_st (fun tq kq => XS.icmpYes X1.here hx rfl (pc0 := 22) (pc' := 43) rfl (hb hby dST_22) rfl (feq hc22_8).2 (by decide) (by decide) kq) ?_
   refine s_iloadN X1 hx (hb hby dST_43) rfl ?_
   refine s_iconst X1 hx (hb hby dST_44) ?_
   show own_G p e below _ (T1.setTop (mkF m 45 #[vI p0, vI (own_len p0)] [(.int 2), (.int (own_len p0))]))
   by_cases hc45_17 : ((own_len p0) = (2 : Int32))
   ·
    refine own_st (fun tq kq => XS.icmpNo X1.here hx rfl (hb hby dST_45) rfl (teq hc45_17).2 kq) ?_
    obtain ⟨T18, h18, X18, e18, E18, A18, D18, -, st18⟩ := newO X1 hx hZ hown (wd7 hw) (wd8 hw) (wd9 hw) sm1 (g := (mkF m 48 #[vI p0, vI (own_len p0)] [])) rfl (hb hby dST_48) (by decide) (by decide)
    obtain ⟨b18, g18⟩ : ∃ z, z = h0.size := ⟨_, rfl⟩
    rw [← g18] at A18 D18 st18
    have lt18 : b18 < h18.size := A18.lt
    have Sn18 : Safe Z consts_1 s.vm h0 b18 := Safe.new (own_le (by omega))
    have sz18 : h0.size ≤ h18.size := E18.1
    have K18 : Keep h0 h18 [] := K0.ext E18
    have c18 : CHr Z consts_1 s.vm h0 s.vm h18 := CHr.ext E18 C0.1
    have C18 := C0.trans c18
    have Sf18 : Safe Z consts_1 s.vm h18 b18 := Safe.ext E18 C0.1 Sn18
    have F18_value : Fld Z h18 b18 "java/lang/String" "value" "[B" .null := D18 (Or.inr (wd23 hw)) (ty := (.array .byte)) (by decide)
    have F18_coder : Fld Z h18 b18 "java/lang/String" "coder" "B" (.int 0) := D18 (Or.inr (wd24 hw)) (ty := .byte) (by decide)
    refine own_st st18 ?_
    refine own_st (fun tq kq => XS.dup X18.here hx rfl (hb hby dST_51) rfl rfl kq) ?_
    refine s_iconst X18 hx (hb hby dST_52) ?_
    obtain ⟨T19, h19, k19, X19, e19, E19, A19, st19⟩ := newP X18 hx hZ (hw _ (List.mem_of_getElem? (i := 10) rfl)) e18 (g := (mkF m 53 #[vI p0, vI (own_len p0)] [(.int 2), (.ref b18), (.ref b18)])) rfl (hb hby dST_53) rfl (by decide) (cap := 2) (by decide) (by decide) (by decide) (by decide)
    obtain ⟨b19, g19⟩ : ∃ z, z = h18.size := ⟨_, rfl⟩
    rw [← g19] at A19 st19
    have lt19 : b19 < h19.size := A19.lt
    have V19 : Arv Z h19 b19 k19 .char (2 : Int32) [(.int (0 : Int32)), (.int (0 : Int32))] (.int (0 : Int32)) := (Arv.new A19 (by decide)).pad (pad_rep [] (.int (0 : Int32)) 2)
    have sz19 : h18.size ≤ h19.size := E19.1
    have K19 : Keep h0 h19 [] := K18.ext E19
    have c19 : CHr Z consts_1 s.vm h18 s.vm h19 := CHr.ext E19 C18.1
    have C19 := C18.trans c19
    have Sf19_20 := c19.safe (own_lt (by omega)) Sf18
    refine own_st st19 ?_
    refine own_st (fun tq kq => XS.dup X19.here hx rfl (hb hby dST_55) rfl rfl kq) ?_
    refine s_iconst X19 hx (hb hby dST_56) ?_
    refine s_iloadN X19 hx (hb hby dST_57) rfl ?_
    obtain ⟨_, _, ⟨T21, L21, k21, n21⟩, -, X21, ⟨Lc21, hQ21, l21, y21, z21⟩, st21⟩ := Jvm.LawKit.callS X19 hx (y := mN24) hown (mvT hZ (wd198 hw)) (mvT hZ (wd199 hw)) (mvT hZ (wd2 hw)) (mvT hZ (wd200 hw)) (by decide) (own_backN (W := 5) (own_c0C l Z a0 hw [] (p0) h19 n0 (by omega) (X00.keep K19 all0) ) hZ (wd200 hw) (wd2 hw) (by decide) (by decide)) (g := (mkF m 58 #[vI p0, vI (own_len p0)] [(.int p0), (.int 0), (.ref b19), (.ref b19), (.ref b18), (.ref b18)])) rfl (by rw [hml]; rfl) (argsL := [(.int p0)]) (rest := [(.int 0), (.ref b19), (.ref b19), (.ref b18), (.ref b18)]) (lenOf own_pd17 rfl) rfl (Nat.le_of_eq rfl) (hb hby dST_58) (fun _ _ => ⟨rfl, e19, (by decide : 2 + 0 ≤ _), (by decide : 6 + 0 ≤ _)⟩)
    dsimp only [Pt.U, Pt.locs, Pt.cells, Pt.slots] at X21 l21 y21 z21 st21 hQ21
    subst l21 y21 z21
    obtain ⟨rfl, Nq21, sm21⟩ := hQ21
    have N21 := Fr.app N1 Nq21
    refine own_st st21 ?_
    obtain ⟨cl22, Ar22, q22, S_22, N_22, H_22, G_22⟩ := id V19
    have in22 : ¬ ((0 : Int32) < 0 ∨ cl22.slots.size ≤ ((0 : Int32)).toNatClampNeg) := inb_of S_22 ⟨by decide, by decide⟩
    obtain ⟨T22, h22, X22, e22, W22, st22⟩ := stC X21 hx hZ sm21 Ar22 (j := (0 : Int32)) in22 (g := (mkF m 61 #[vI p0, vI (own_len p0)] [(.int (own_c0 p0)), (.int 0), (.ref b19), (.ref b19), (.ref b18), (.ref b18)])) rfl rfl (hb hby dST_61)
    have V22 := Arv.set Ar22 q22 S_22 N_22 H_22 G_22 (fits_nar_char _) W22 0 rfl (Nat.le_of_ble_eq_true rfl)
    have sz22 : h19.size ≤ h22.size := (Keep.of_wr W22).1
    have K22 : Keep h0 h22 [] := K19.wr W22 (Or.inr (own_le (by omega)))
    have c22 : CHr Z consts_1 s.vm h19 s.vm h22 := CHr.wr W22 (Safe.arr hZ.alike Ar22 (by decide)) C19.1
    have C22 := C19.trans c22
    have Sf22_23 := c22.safe (own_lt (by omega)) Sf19_20
    have N22 := Fr.snoc X22 N21 (own_le (by omega))
    refine own_st st22 ?_
    refine own_st (fun tq kq => XS.dup X22.here hx rfl (hb hby dST_62) rfl rfl kq) ?_
    refine s_iconst X22 hx (hb hby dST_63) ?_
    refine s_iloadN X22 hx (hb hby dST_64) rfl ?_
    obtain ⟨_, _, ⟨T24, L24, k24, n24⟩, -, X24, ⟨Lc24, hQ24, l24, y24, z24⟩, st24⟩ := Jvm.LawKit.callS X22 hx (y := mN25) hown (mvT hZ (wd201 hw)) (mvT hZ (wd202 hw)) (mvT hZ (wd2 hw)) (mvT hZ (wd203 hw)) (by decide) (own_backN (W := 5) (own_c1C l Z a0 hw [] (p0) h22 n0 (by omega) (X00.keep K22 all0) ) hZ (wd203 hw) (wd2 hw) (by decide) (by decide)) (g := (mkF m 65 #[vI p0, vI (own_len p0)] [(.int p0), (.int 1), (.ref b19), (.ref b19), (.ref b18), (.ref b18)])) rfl (by rw [hml]; rfl) (argsL := [(.int p0)]) (rest := [(.int 1), (.ref b19), (.ref b19), (.ref b18), (.ref b18)]) (lenOf own_pd17 rfl) rfl (Nat.le_of_eq rfl) (hb hby dST_65) (fun _ _ => ⟨rfl, e22, (by decide : 2 + 0 ≤ _), (by decide : 6 + 0 ≤ _)⟩)
    dsimp only [Pt.U, Pt.locs, Pt.cells, Pt.slots] at X24 l24 y24 z24 st24 hQ24
    subst l24 y24 z24
    obtain ⟨rfl, Nq24, sm24⟩ := hQ24
    have N24 := Fr.app N22 Nq24
    refine own_st st24 ?_
    obtain ⟨cl25, Ar25, q25, S_25, N_25, H_25, G_25⟩ := id V22
    have in25 : ¬ ((1 : Int32) < 0 ∨ cl25.slots.size ≤ ((1 : Int32)).toNatClampNeg) := inb_of S_25 ⟨by decide, by decide⟩
    obtain ⟨T25, h25, X25, e25, W25, st25⟩ := stC X24 hx hZ sm24 Ar25 (j := (1 : Int32)) in25 (g := (mkF m 68 #[vI p0, vI (own_len p0)] [(.int (own_c1 p0)), (.int 1), (.ref b19), (.ref b19), (.ref b18), (.ref b18)])) rfl rfl (hb hby dST_68)
    have V25 := Arv.set Ar25 q25 S_25 N_25 H_25 G_25 (fits_nar_char _) W25 1 rfl (Nat.le_of_ble_eq_true rfl)
    have sz25 : h22.size ≤ h25.size := (Keep.of_wr W25).1
    have K25 : Keep h0 h25 [] := K22.wr W25 (Or.inr (own_le (by omega)))
    have c25 : CHr Z consts_1 s.vm h22 s.vm h25 := CHr.wr W25 (Safe.arr hZ.alike Ar25 (by decide)) C22.1
    have C25 := C22.trans c25
    have Sf25_26 := c25.safe (own_lt (by omega)) Sf22_23
    have N25 := Fr.snoc X25 N24 (own_le (by omega))
    refine own_st st25 ?_
    have hp27 : ∀ c ∈ ([(nar .char (own_c0 p0)), (nar .char (own_c1 p0))] : List Int32), ¬ c < 0 ∧ ¬ (255 : Int32) < c := by
      intro c hc
      simp only [List.mem_cons, List.not_mem_nil, or_false] at hc
      rcases hc with rfl | rfl
      · exact own_c0_ok _
      · exact own_c1_ok _
    obtain ⟨_, _, ⟨T27, L27, k27, n27⟩, -, Y27, S27p, gr27, ⟨Lc27, hQ27, l27, y27, z27, c27⟩, st27⟩ := X25.specialBackS hx (y := mN1) rfl hown (mvT hZ (wd11 hw)) (mvT hZ (wd12 hw)) (mvT hZ (wd13 hw)) (by decide) (own_newStr (s := s) (vm0 := s.vm) (W := 1) hZ hw hEL C25.1 (cs := ([(nar .char (own_c0 p0)), (nar .char (own_c1 p0))] : List Int32)) (n := 2) (n0 := n0) Sf25_26 (by omega) (X00.keep K25 all0) (((A18.ext E19).wr W22).wr W25) (((F18_value.ext E19).other W22 (Or.inl (own_ne (by omega)))).other W25 (Or.inl (own_ne (by omega)))) (((F18_coder.ext E19).other W22 (Or.inl (own_ne (by omega)))).other W25 (Or.inl (own_ne (by omega)))) V25 O2 P5 rfl rfl (by decide) hp27 (by decide) (by decide)) (g := (mkF m 69 #[vI p0, vI (own_len p0)] [(.ref b19), (.ref b18), (.ref b18)])) rfl (by rw [hml]; rfl) (Steps.refl _) (a := b18) (argsL := [(.ref b19)]) (rest := [(.ref b18)]) (lenOf own_pd16 rfl) rfl (Nat.le_of_eq rfl) (hb hby dST_69) (fun _ _ => ⟨rfl, e25, (by decide : 2 + 2 ≤ _), (by decide : 6 + 6 ≤ _)⟩)
    dsimp only [Pt.U, Pt.locs, Pt.cells, Pt.slots] at Y27 S27p gr27 l27 y27 z27 st27 hQ27 c27
    subst l27 y27 z27
    obtain ⟨X27, S27, Z27, o27⟩ := rebS S0 (by rw [e25]; exact (own_le (by omega))) Y27 S27p gr27 hZ hown
    obtain ⟨rfl, Nq27, Kq27, Str27⟩ := hQ27
    have KK27 : Keep h25 T27.heap [b18] := Kq27
    have sz27 : h25.size ≤ T27.heap.size := KK27.1
    have K27 : Keep h0 T27.heap [] := K25.trans KK27 (allS (Or.inr (own_le (by omega))) all0)
    have C27 := C25.trans c27
    have Sf27_28 := c27.safe (own_lt (by omega)) Sf25_26
    have N27 := Fr.app N25 Nq27
    refine own_st (fun tq kq => st27.trans kq) ?_
    obtain ⟨fs, hr, hrun, hended, hRW⟩ := X27.leaveW S27 (own_le (by omega)) (v := some (.ref b18)) (fun h => by rw [Bd.returns] at h; cases h)
    have cE := C27.trans (CHv.at (s := s) (vm0 := T27.vm) X27 Z27 hEL C27.1)
    refine ⟨_, _, retOut X27 hx Bd.returns rfl (Or.inr (Or.inr (Or.inr (Or.inr ⟨rfl, rfl, rfl⟩)))) (hb hby dST_72) hr, hrun, hended, _, _, rfl, ?_, ?_, own_RW hRW (by decide) (by decide)⟩
    · change Q_own_strC Z p0 G1 h0 n0 _ T27.vm T27.heap _; exact ⟨b18, rfl, N27, K27, (by omega), (by rw [own_str2 hc45_17]; have q := Str27; first | exact q | (simp only [own_c0_nar, own_c1_nar, own_c2_nar] at q; exact q))⟩
    · rw [hh]; change CHr Z consts_1 s.vm h0 T27.vm T27.heap; exact cE
   ·
    refine own_st (fun tq kq => XS.icmpYes X1.here hx rfl (pc0 := 45) (pc' := 73) rfl (hb hby dST_45) rfl (feq hc45_17).2 (by decide) (by decide) kq) ?_
    obtain ⟨T29, h29, X29, e29, E29, A29, D29, -, st29⟩ := newO X1 hx hZ hown (wd7 hw) (wd8 hw) (wd9 hw) sm1 (g := (mkF m 73 #[vI p0, vI (own_len p0)] [])) rfl (hb hby dST_73) (by decide) (by decide)
    obtain ⟨b29, g29⟩ : ∃ z, z = h0.size := ⟨_, rfl⟩
    rw [← g29] at A29 D29 st29
    have lt29 : b29 < h29.size := A29.lt
    have Sn29 : Safe Z consts_1 s.vm h0 b29 := Safe.new (own_le (by omega))
    have sz29 : h0.size ≤ h29.size := E29.1
    have K29 : Keep h0 h29 [] := K0.ext E29
    have c29 : CHr Z consts_1 s.vm h0 s.vm h29 := CHr.ext E29 C0.1
    have C29 := C0.trans c29
    have Sf29 : Safe Z consts_1 s.vm h29 b29 := Safe.ext E29 C0.1 Sn29
    have F29_value : Fld Z h29 b29 "java/lang/String" "value" "[B" .null := D29 (Or.inr (wd23 hw)) (ty := (.array .byte)) (by decide)
    have F29_coder : Fld Z h29 b29 "java/lang/String" "coder" "B" (.int 0) := D29 (Or.inr (wd24 hw)) (ty := .byte) (by decide)
    refine own_st st29 ?_
    refine own_st (fun tq kq => XS.dup X29.here hx rfl (hb hby dST_76) rfl rfl kq) ?_
    refine s_iconst X29 hx (hb hby dST_77) ?_
    obtain ⟨T30, h30, k30, X30, e30, E30, A30, st30⟩ := newP X29 hx hZ (hw _ (List.mem_of_getElem? (i := 10) rfl)) e29 (g := (mkF m 78 #[vI p0, vI (own_len p0)] [(.int 3), (.ref b29), (.ref b29)])) rfl (hb hby dST_78) rfl (by decide) (cap := 3) (by decide) (by decide) (by decide) (by decide)
    obtain ⟨b30, g30⟩ : ∃ z, z = h29.size := ⟨_, rfl⟩
    rw [← g30] at A30 st30
    have lt30 : b30 < h30.size := A30.lt
    have V30 : Arv Z h30 b30 k30 .char (3 : Int32) [(.int (0 : Int32)), (.int (0 : Int32)), (.int (0 : Int32))] (.int (0 : Int32)) := (Arv.new A30 (by decide)).pad (pad_rep [] (.int (0 : Int32)) 3)
    have sz30 : h29.size ≤ h30.size := E30.1
    have K30 : Keep h0 h30 [] := K29.ext E30
    have c30 : CHr Z consts_1 s.vm h29 s.vm h30 := CHr.ext E30 C29.1
    have C30 := C29.trans c30
    have Sf30_31 := c30.safe (own_lt (by omega)) Sf29
    refine own_st st30 ?_
    refine own_st (fun tq kq => XS.dup X30.here hx rfl (hb hby dST_80) rfl rfl kq) ?_
    refine s_iconst X30 hx (hb hby dST_81) ?_
    refine s_iloadN X30 hx (hb hby dST_82) rfl ?_
    obtain ⟨_, _, ⟨T32, L32, k32, n32⟩, -, X32, ⟨Lc32, hQ32, l32, y32, z32⟩, st32⟩ := Jvm.LawKit.callS X30 hx (y := mN24) hown (mvT hZ (wd198 hw)) (mvT hZ (wd199 hw)) (mvT hZ (wd2 hw)) (mvT hZ (wd200 hw)) (by decide) (own_backN (W := 5) (own_c0C l Z a0 hw [] (p0) h30 n0 (by omega) (X00.keep K30 all0) ) hZ (wd200 hw) (wd2 hw) (by decide) (by decide)) (g := (mkF m 83 #[vI p0, vI (own_len p0)] [(.int p0), (.int 0), (.ref b30), (.ref b30), (.ref b29), (.ref b29)])) rfl (by rw [hml]; rfl) (argsL := [(.int p0)]) (rest := [(.int 0), (.ref b30), (.ref b30), (.ref b29), (.ref b29)]) (lenOf own_pd17 rfl) rfl (Nat.le_of_eq rfl) (hb hby dST_83) (fun _ _ => ⟨rfl, e30, (by decide : 2 + 0 ≤ _), (by decide : 7 + 0 ≤ _)⟩)
    dsimp only [Pt.U, Pt.locs, Pt.cells, Pt.slots] at X32 l32 y32 z32 st32 hQ32
    subst l32 y32 z32
    obtain ⟨rfl, Nq32, sm32⟩ := hQ32
    have N32 := Fr.app N1 Nq32
    refine own_st st32 ?_
    obtain ⟨cl33, Ar33, q33, S_33, N_33, H_33, G_33⟩ := id V30
    have in33 : ¬ ((0 : Int32) < 0 ∨ cl33.slots.size ≤ ((0 : Int32)).toNatClampNeg) := inb_of S_33 ⟨by decide, by decide⟩
    obtain ⟨T33, h33, X33, e33, W33, st33⟩ := stC X32 hx hZ sm32 Ar33 (j := (0 : Int32)) in33 (g := (mkF m 86 #[vI p0, vI (own_len p0)] [(.int (own_c0 p0)), (.int 0), (.ref b30), (.ref b30), (.ref b29), (.ref b29)])) rfl rfl (hb hby dST_86)
    have V33 := Arv.set Ar33 q33 S_33 N_33 H_33 G_33 (fits_nar_char _) W33 0 rfl (Nat.le_of_ble_eq_true rfl)
    have sz33 : h30.size ≤ h33.size := (Keep.of_wr W33).1
    have K33 : Keep h0 h33 [] := K30.wr W33 (Or.inr (own_le (by omega)))
    have c33 : CHr Z consts_1 s.vm h30 s.vm h33 := CHr.wr W33 (Safe.arr hZ.alike Ar33 (by decide)) C30.1
    have C33 := C30.trans c33
    have Sf33_34 := c33.safe (own_lt (by omega)) Sf30_31
    have N33 := Fr.snoc X33 N32 (own_le (by omega))
    refine own_st st33 ?_
    refine own_st (fun tq kq => XS.dup X33.here hx rfl (hb hby dST_87) rfl rfl kq) ?_
    refine s_iconst X33 hx (hb hby dST_88) ?_
    refine s_iloadN X33 hx (hb hby dST_89) rfl ?_
    obtain ⟨_, _, ⟨T35, L35, k35, n35⟩, -, X35, ⟨Lc35, hQ35, l35, y35, z35⟩, st35⟩ := Jvm.LawKit.callS X33 hx (y := mN25) hown (mvT hZ (wd201 hw)) (mvT hZ (wd202 hw)) (mvT hZ (wd2 hw)) (mvT hZ (wd203 hw)) (by decide) (own_backN (W := 5) (own_c1C l Z a0 hw [] (p0) h33 n0 (by omega) (X00.keep K33 all0) ) hZ (wd203 hw) (wd2 hw) (by decide) (by decide)) (g := (mkF m 90 #[vI p0, vI (own_len p0)] [(.int p0), (.int 1), (.ref b30), (.ref b30), (.ref b29), (.ref b29)])) rfl (by rw [hml]; rfl) (argsL := [(.int p0)]) (rest := [(.int 1), (.ref b30), (.ref b30), (.ref b29), (.ref b29)]) (lenOf own_pd17 rfl) rfl (Nat.le_of_eq rfl) (hb hby dST_90) (fun _ _ => ⟨rfl, e33, (by decide : 2 + 0 ≤ _), (by decide : 7 + 0 ≤ _)⟩)
    dsimp only [Pt.U, Pt.locs, Pt.cells, Pt.slots] at X35 l35 y35 z35 st35 hQ35
    subst l35 y35 z35
    obtain ⟨rfl, Nq35, sm35⟩ := hQ35
    have N35 := Fr.app N33 Nq35
    refine own_st st35 ?_
    obtain ⟨cl36, Ar36, q36, S_36, N_36, H_36, G_36⟩ := id V33
    have in36 : ¬ ((1 : Int32) < 0 ∨ cl36.slots.size ≤ ((1 : Int32)).toNatClampNeg) := inb_of S_36 ⟨by decide, by decide⟩
    obtain ⟨T36, h36, X36, e36, W36, st36⟩ := stC X35 hx hZ sm35 Ar36 (j := (1 : Int32)) in36 (g := (mkF m 93 #[vI p0, vI (own_len p0)] [(.int (own_c1 p0)), (.int 1), (.ref b30), (.ref b30), (.ref b29), (.ref b29)])) rfl rfl (hb hby dST_93)
    have V36 := Arv.set Ar36 q36 S_36 N_36 H_36 G_36 (fits_nar_char _) W36 1 rfl (Nat.le_of_ble_eq_true rfl)
    have sz36 : h33.size ≤ h36.size := (Keep.of_wr W36).1
    have K36 : Keep h0 h36 [] := K33.wr W36 (Or.inr (own_le (by omega)))
    have c36 : CHr Z consts_1 s.vm h33 s.vm h36 := CHr.wr W36 (Safe.arr hZ.alike Ar36 (by decide)) C33.1
    have C36 := C33.trans c36
    have Sf36_37 := c36.safe (own_lt (by omega)) Sf33_34
    have N36 := Fr.snoc X36 N35 (own_le (by omega))
    refine own_st st36 ?_
    refine own_st (fun tq kq => XS.dup X36.here hx rfl (hb hby dST_94) rfl rfl kq) ?_
    refine s_iconst X36 hx (hb hby dST_95) ?_
    refine s_iloadN X36 hx (hb hby dST_96) rfl ?_
    obtain ⟨_, _, ⟨T38, L38, k38, n38⟩, -, X38, ⟨Lc38, hQ38, l38, y38, z38⟩, st38⟩ := Jvm.LawKit.callS X36 hx (y := mN26) hown (mvT hZ (wd214 hw)) (mvT hZ (wd215 hw)) (mvT hZ (wd2 hw)) (mvT hZ (wd216 hw)) (by decide) (own_backN (W := 5) (own_c2C l Z a0 hw [] (p0) h36 n0 (by omega) (X00.keep K36 all0) ) hZ (wd216 hw) (wd2 hw) (by decide) (by decide)) (g := (mkF m 97 #[vI p0, vI (own_len p0)] [(.int p0), (.int 2), (.ref b30), (.ref b30), (.ref b29), (.ref b29)])) rfl (by rw [hml]; rfl) (argsL := [(.int p0)]) (rest := [(.int 2), (.ref b30), (.ref b30), (.ref b29), (.ref b29)]) (lenOf own_pd17 rfl) rfl (Nat.le_of_eq rfl) (hb hby dST_97) (fun _ _ => ⟨rfl, e36, (by decide : 2 + 0 ≤ _), (by decide : 7 + 0 ≤ _)⟩)
    dsimp only [Pt.U, Pt.locs, Pt.cells, Pt.slots] at X38 l38 y38 z38 st38 hQ38
    subst l38 y38 z38
    obtain ⟨rfl, Nq38, sm38⟩ := hQ38
    have N38 := Fr.app N36 Nq38
    refine own_st st38 ?_
    obtain ⟨cl39, Ar39, q39, S_39, N_39, H_39, G_39⟩ := id V36
    have in39 : ¬ ((2 : Int32) < 0 ∨ cl39.slots.size ≤ ((2 : Int32)).toNatClampNeg) := inb_of S_39 ⟨by decide, by decide⟩
    obtain ⟨T39, h39, X39, e39, W39, st39⟩ := stC X38 hx hZ sm38 Ar39 (j := (2 : Int32)) in39 (g := (mkF m 100 #[vI p0, vI (own_len p0)] [(.int (own_c2 p0)), (.int 2), (.ref b30), (.ref b30), (.ref b29), (.ref b29)])) rfl rfl (hb hby dST_100)
    have V39 := Arv.set Ar39 q39 S_39 N_39 H_39 G_39 (fits_nar_char _) W39 2 rfl (Nat.le_of_ble_eq_true rfl)
    have sz39 : h36.size ≤ h39.size := (Keep.of_wr W39).1
    have K39 : Keep h0 h39 [] := K36.wr W39 (Or.inr (own_le (by omega)))
    have c39 : CHr Z consts_1 s.vm h36 s.vm h39 := CHr.wr W39 (Safe.arr hZ.alike Ar39 (by decide)) C36.1
    have C39 := C36.trans c39
    have Sf39_40 := c39.safe (own_lt (by omega)) Sf36_37
    have N39 := Fr.snoc X39 N38 (own_le (by omega))
    refine own_st st39 ?_
    have hp41 : ∀ c ∈ ([(nar .char (own_c0 p0)), (nar .char (own_c1 p0)), (nar .char (own_c2 p0))] : List Int32), ¬ c < 0 ∧ ¬ (255 : Int32) < c := by
      intro c hc
      simp only [List.mem_cons, List.not_mem_nil, or_false] at hc
      rcases hc with rfl | rfl | rfl
      · exact own_c0_ok _
      · exact own_c1_ok _
      · exact own_c2_ok _
    obtain ⟨_, _, ⟨T41, L41, k41, n41⟩, -, Y41, S41p, gr41, ⟨Lc41, hQ41, l41, y41, z41, c41⟩, st41⟩ := X39.specialBackS hx (y := mN1) rfl hown (mvT hZ (wd11 hw)) (mvT hZ (wd12 hw)) (mvT hZ (wd13 hw)) (by decide) (own_newStr (s := s) (vm0 := s.vm) (W := 1) hZ hw hEL C39.1 (cs := ([(nar .char (own_c0 p0)), (nar .char (own_c1 p0)), (nar .char (own_c2 p0))] : List Int32)) (n := 3) (n0 := n0) Sf39_40 (by omega) (X00.keep K39 all0) ((((A29.ext E30).wr W33).wr W36).wr W39) ((((F29_value.ext E30).other W33 (Or.inl (own_ne (by omega)))).other W36 (Or.inl (own_ne (by omega)))).other W39 (Or.inl (own_ne (by omega)))) ((((F29_coder.ext E30).other W33 (Or.inl (own_ne (by omega)))).other W36 (Or.inl (own_ne (by omega)))).other W39 (Or.inl (own_ne (by omega)))) V39 O2 P5 rfl rfl (by decide) hp41 (by decide) (by decide)) (g := (mkF m 101 #[vI p0, vI (own_len p0)] [(.ref b30), (.ref b29), (.ref b29)])) rfl (by rw [hml]; rfl) (Steps.refl _) (a := b29) (argsL := [(.ref b30)]) (rest := [(.ref b29)]) (lenOf own_pd16 rfl) rfl (Nat.le_of_eq rfl) (hb hby dST_101) (fun _ _ => ⟨rfl, e39, (by decide : 2 + 2 ≤ _), (by decide : 7 + 7 ≤ _)⟩)
    dsimp only [Pt.U, Pt.locs, Pt.cells, Pt.slots] at Y41 S41p gr41 l41 y41 z41 st41 hQ41 c41
    subst l41 y41 z41
    obtain ⟨X41, S41, Z41, o41⟩ := rebS S0 (by rw [e39]; exact (own_le (by omega))) Y41 S41p gr41 hZ hown
    obtain ⟨rfl, Nq41, Kq41, Str41⟩ := hQ41
    have KK41 : Keep h39 T41.heap [b29] := Kq41
    have sz41 : h39.size ≤ T41.heap.size := KK41.1
    have K41 : Keep h0 T41.heap [] := K39.trans KK41 (allS (Or.inr (own_le (by omega))) all0)
    have C41 := C39.trans c41
    have Sf41_42 := c41.safe (own_lt (by omega)) Sf39_40
    have N41 := Fr.app N39 Nq41
    refine own_st (fun tq kq => st41.trans kq) ?_
    obtain ⟨fs, hr, hrun, hended, hRW⟩ := X41.leaveW S41 (own_le (by omega)) (v := some (.ref b29)) (fun h => by rw [Bd.returns] at h; cases h)
    have cE := C41.trans (CHv.at (s := s) (vm0 := T41.vm) X41 Z41 hEL C41.1)
    refine ⟨_, _, retOut X41 hx Bd.returns rfl (Or.inr (Or.inr (Or.inr (Or.inr ⟨rfl, rfl, rfl⟩)))) (hb hby dST_104) hr, hrun, hended, _, _, rfl, ?_, ?_, own_RW hRW (by decide) (by decide)⟩
    · change Q_own_strC Z p0 G1 h0 n0 _ T41.vm T41.heap _; exact ⟨b29, rfl, N41, K41, (by omega), (by rw [own_str3 ((((own_len4 p0).resolve_left hc6_2).resolve_left hc22_8).resolve_left hc45_17)]; have q := Str41; first | exact q | (simp only [own_c0_nar, own_c1_nar, own_c2_nar] at q; exact q))⟩
    · rw [hh]; change CHr Z consts_1 s.vm h0 T41.vm T41.heap; exact cE

def Q_own_partC (Z : State) (r nb o : Nat) (off pp G1 : Int32) (cs : List Int32) (fm : Value) (h0 : Heap) (n0 : Nat) (v : Option Value) (h : Heap) (L : List Loc) : Prop := v = some (.int (1 : Int32)) ∧ Fr n0 L ∧ h = h0
theorem ef_own_partC (m : MethodId) (x0 : Nat) (x1 : Int32) (x2 : Int32) : entryFrame m #[(.ref x0), (.int x1), (.int x2)] 5 = mkF m 0 #[.val (.ref x0), .val (.int x1), .val (.int x2), .unset, .unset] [] := by first | (simp [entryFrame, mkF, argsToLocals, Value.category]; done) | rfl
theorem own_partC (l : Launch) (Z : State) (a0 : Array Value) (hw : hWt a0 Z) (ws : List Jvm.Cond) (r nb o : Nat) (off pp G1 : Int32) (cs : List Int32) (fm : Value) (h0 : Heap) (n0 : Nat) (Z0 : n0 ≤ h0.size) (X00 : Old Z n0 h0) (S : own_Str Z nb h0 r cs) (hoff : off = Int32.ofNat o) (ho : o + (own_str pp).length ≤ cs.length) (hat : ∀ i, i < (own_str pp).length → cs.getD (o + i) 0 = (own_str pp).getD i 0) (O2 : Sta Z Z.heap "java/lang/String" "COMPACT_STRINGS" "Z" (.int G1)) (P5 : ¬ (G1 = (0 : Int32))) (O4 : Sta Z Z.heap "jdk/internal/util/Preconditions" "SIOOBE_FORMATTER" "Ljava/util/function/BiFunction;" fm) (rfm : fm.isRef = true) :
 own_MN l mN28 method_7_code 5 (some .boolean) ws rm_4_0_0_64 Z #[(.ref r), (.int off), (.int pp)] h0 (Q_own_partC Z r nb o off pp G1 cs fm h0 n0) := by
 refine own_bodyN (plainFor_of_name own_pn5) fun p e s m below meth c s₁ Bd hx hby hml hown hZ X0 e0 => ?_
 have N0 := Fr.nil n0
 have K0 : Keep h0 h0 [] := Keep.refl h0 []
 refine own_st (fun tq kq => castTop (ef_own_partC m (r) (off) (pp)) kq) ?_
 show own_G p e below _ (s₁.setTop (mkF m 0 #[vR r, vI off, vI pp, .unset, .unset] []))
 refine s_iloadN X0 hx (hb hby dPT_0) rfl ?_
 obtain ⟨_, _, ⟨T1, L1, k1, n1⟩, -, X1, ⟨Lc1, hQ1, l1, y1, z1⟩, st1⟩ := Jvm.LawKit.callS X0 hx (y := mN23) hown (mvT hZ (wd4 hw)) (mvT hZ (wd5 hw)) (mvT hZ (wd2 hw)) (mvT hZ (wd6 hw)) (by decide) (own_backN (W := 0) (own_lenC l Z a0 hw [] (pp) h0 n0 (by omega) (X00.keep K0 all0) ) hZ (wd6 hw) (wd2 hw) (by decide) (by decide)) (g := (mkF m 1 #[vR r, vI off, vI pp, .unset, .unset] [(.int pp)])) rfl (by rw [hml]; rfl) (argsL := [(.int pp)]) (rest := []) (lenOf own_pd15 rfl) rfl (Nat.le_of_eq rfl) (hb hby dPT_1) (fun _ _ => ⟨rfl, e0, (by decide : 0 + 0 ≤ _), (by decide : 0 + 0 ≤ _)⟩)
 dsimp only [Pt.U, Pt.locs, Pt.cells, Pt.slots] at X1 l1 y1 z1 st1 hQ1
 subst l1 y1 z1
 obtain ⟨rfl, Nq1, sm1⟩ := hQ1
 have N1 := Fr.app N0 Nq1
 refine own_st st1 ?_
 refine own_st (fun tq kq => XS.istoreN X1.here hx rfl (hb hby dPT_4) rfl (l' := #[vR r, vI off, vI pp, vI (own_len pp), .unset]) rfl kq) ?_
 refine s_iconst X1 hx (hb hby dPT_5) ?_
 refine own_st (fun tq kq => XS.istore X1.here hx rfl (hb hby dPT_6) rfl (l' := #[vR r, vI off, vI pp, vI (own_len pp), vI 1]) rfl kq) ?_
 refine s_iloadN X1 hx (hb hby dPT_8) rfl ?_
 show own_G p e below _ (T1.setTop (mkF m 9 #[vR r, vI off, vI pp, vI (own_len pp), vI 1] [(.int (own_len pp))]))
 by_cases hc9_2 : ((0 : Int32) < (own_len pp))
 ·
  refine own_st (fun tq kq => XS.ifNo X1.here hx rfl (hb hby dPT_9) rfl ((if0 _ _).trans (tlt hc9_2).2.2.2) kq) ?_
  refine s_iload X1 hx (hb hby dPT_12) rfl ?_
  show own_G p e below _ (T1.setTop (mkF m 14 #[vR r, vI off, vI pp, vI (own_len pp), vI 1] [(.int 1)]))
  refine own_st (fun tq kq => XS.ifNo X1.here hx rfl (hb hby dPT_14) rfl ((if0 _ _).trans (feq (by decide : ¬ ((1 : Int32) = (0 : Int32)))).1) kq) ?_
  refine s_aloadN X1 hx (hb hby dPT_17) rfl rfl ?_
  refine s_iloadN X1 hx (hb hby dPT_18) rfl ?_
  obtain ⟨-, E1_3, hb1_3, ln1_3, t1_3, kb1_3, -, V1_3, C1_3, A1_3⟩ := id S
  obtain ⟨cq3, kq3, q3a, q3b, q3c⟩ := isOf hZ sm1 S.2.1
  obtain ⟨_, _, ⟨T3, L3, k3, n3⟩, -, X3, ⟨Lc3, hQ3, l3, y3, z3⟩, st3⟩ := X1.virtualBack hx (y := mN29) (z := mN29) hown (mvT hZ (wd167 hw)) (mvT hZ (wd168 hw)) (notFace_of_selects (args := #[]) (mvT hZ (wd170 hw))) (mvT hZ (wd170 hw)) (mvT hZ (wd169 hw)) (by decide) (StrChars.Road.chN (W := 0) hZ (own_wCh hw) (kI := 4) (wd8 hw) (i := (o + 0)) E1_3 V1_3 C1_3 A1_3 (StrChars.Road.codOf rfl (fun c hc => (hb1_3 c hc).2)) (own_up hb1_3) (O2.ext (X00.keep K0 all0).2) P5 (O4.ext (X00.keep K0 all0).2) rfm ln1_3 (Nat.lt_of_lt_of_le (Nat.add_lt_add_left (own_k0 hc9_2).1 o) ho) hoff (by decide) (by decide)) q3a q3c (g := (mkF m 19 #[vR r, vI off, vI pp, vI (own_len pp), vI 1] [(.int off), (.ref r)])) rfl (by rw [hml]; rfl) (Steps.refl _) (argsL := [(.int off)]) (rest := []) (lenOf own_pd17 rfl) rfl (Nat.le_of_eq rfl) (hb hby dPT_19) (fun _ _ => ⟨rfl, sm1, (by decide : 0 + 0 ≤ _), (by decide : 0 + 0 ≤ _)⟩)
  dsimp only [Pt.U, Pt.locs, Pt.cells, Pt.slots] at X3 l3 y3 z3 st3 hQ3
  subst l3 y3 z3
  obtain ⟨rfl, rfl, sm3⟩ := hQ3
  have N3 := Fr.app N1 (Fr.nil n0)
  refine own_st (fun tq kq => st3.trans kq) ?_
  refine s_iloadN X3 hx (hb hby dPT_22) rfl ?_
  obtain ⟨_, _, ⟨T4, L4, k4, n4⟩, -, X4, ⟨Lc4, hQ4, l4, y4, z4⟩, st4⟩ := Jvm.LawKit.callS X3 hx (y := mN24) hown (mvT hZ (wd198 hw)) (mvT hZ (wd199 hw)) (mvT hZ (wd2 hw)) (mvT hZ (wd200 hw)) (by decide) (own_backN (W := 1) (own_c0C l Z a0 hw [] (pp) h0 n0 (by omega) (X00.keep K0 all0) ) hZ (wd200 hw) (wd2 hw) (by decide) (by decide)) (g := (mkF m 23 #[vR r, vI off, vI pp, vI (own_len pp), vI 1] [(.int pp), (.int (cs.getD (o + 0) 0))])) rfl (by rw [hml]; rfl) (argsL := [(.int pp)]) (rest := [(.int (cs.getD (o + 0) 0))]) (lenOf own_pd17 rfl) rfl (Nat.le_of_eq rfl) (hb hby dPT_23) (fun _ _ => ⟨rfl, sm3, (by decide : 0 + 0 ≤ _), (by decide : 0 + 0 ≤ _)⟩)
  dsimp only [Pt.U, Pt.locs, Pt.cells, Pt.slots] at X4 l4 y4 z4 st4 hQ4
  subst l4 y4 z4
  obtain ⟨rfl, Nq4, sm4⟩ := hQ4
  have N4 := Fr.app N3 Nq4
  refine own_st st4 ?_
  refine own_st (fun tq kq => XS.icmpNo X4.here hx rfl (hb hby dPT_26) rfl (teq ((hat 0 (own_k0 hc9_2).1).trans (own_k0 hc9_2).2)).2 kq) ?_
  refine s_iconst X4 hx (hb hby dPT_29) ?_
  refine own_st (fun tq kq => XS.goto X4.here hx rfl (pc0 := 30) (pc' := 34) rfl (hb hby dPT_30) (by decide) (by decide) kq) ?_
  refine own_st (fun tq kq => XS.istore X4.here hx rfl (hb hby dPT_34) rfl (l' := #[vR r, vI off, vI pp, vI (own_len pp), vI 1]) rfl kq) ?_
  show own_G p e below _ (T4.setTop (mkF m 36 #[vR r, vI off, vI pp, vI (own_len pp), vI 1] []))
  refine s_iloadN X4 hx (hb hby dPT_36) rfl ?_
  refine s_iconst X4 hx (hb hby dPT_37) ?_
  show own_G p e below _ (T4.setTop (mkF m 38 #[vR r, vI off, vI pp, vI (own_len pp), vI 1] [(.int 1), (.int (own_len pp))]))
  by_cases hc38_5 : ((1 : Int32) < (own_len pp))
  ·
   refine own_st (fun tq kq => XS.icmpNo X4.here hx rfl (hb hby dPT_38) rfl (tlt hc38_5).2.2.2 kq) ?_
   refine s_iload X4 hx (hb hby dPT_41) rfl ?_
   show own_G p e below _ (T4.setTop (mkF m 43 #[vR r, vI off, vI pp, vI (own_len pp), vI 1] [(.int 1)]))
   refine own_st (fun tq kq => XS.ifNo X4.here hx rfl (hb hby dPT_43) rfl ((if0 _ _).trans (feq (by decide : ¬ ((1 : Int32) = (0 : Int32)))).1) kq) ?_
   refine s_aloadN X4 hx (hb hby dPT_46) rfl rfl ?_
   refine s_iloadN X4 hx (hb hby dPT_47) rfl ?_
   refine s_iconst X4 hx (hb hby dPT_48) ?_
   show own_G p e below _ (T4.setTop (mkF m 49 #[vR r, vI off, vI pp, vI (own_len pp), vI 1] [(.int 1), (.int off), (.ref r)]))
   refine own_st (fun tq kq => XS.iadd X4.here hx rfl (hb hby dPT_49) rfl kq) ?_
   obtain ⟨-, E1_6, hb1_6, ln1_6, t1_6, kb1_6, -, V1_6, C1_6, A1_6⟩ := id S
   obtain ⟨cq6, kq6, q6a, q6b, q6c⟩ := isOf hZ sm4 S.2.1
   obtain ⟨_, _, ⟨T6, L6, k6, n6⟩, -, X6, ⟨Lc6, hQ6, l6, y6, z6⟩, st6⟩ := X4.virtualBack hx (y := mN29) (z := mN29) hown (mvT hZ (wd167 hw)) (mvT hZ (wd168 hw)) (notFace_of_selects (args := #[]) (mvT hZ (wd170 hw))) (mvT hZ (wd170 hw)) (mvT hZ (wd169 hw)) (by decide) (StrChars.Road.chN (W := 0) hZ (own_wCh hw) (kI := 4) (wd8 hw) (i := (o + 1)) E1_6 V1_6 C1_6 A1_6 (StrChars.Road.codOf rfl (fun c hc => (hb1_6 c hc).2)) (own_up hb1_6) (O2.ext (X00.keep K0 all0).2) P5 (O4.ext (X00.keep K0 all0).2) rfm ln1_6 (Nat.lt_of_lt_of_le (Nat.add_lt_add_left (own_k1 hc38_5).1 o) ho) (by rw [hoff]; exact (Int32.ofNat_add o 1).symm) (by decide) (by decide)) q6a q6c (g := (mkF m 50 #[vR r, vI off, vI pp, vI (own_len pp), vI 1] [(.int (off + (1 : Int32))), (.ref r)])) rfl (by rw [hml]; rfl) (Steps.refl _) (argsL := [(.int (off + (1 : Int32)))]) (rest := []) (lenOf own_pd17 rfl) rfl (Nat.le_of_eq rfl) (hb hby dPT_50) (fun _ _ => ⟨rfl, sm4, (by decide : 0 + 0 ≤ _), (by decide : 0 + 0 ≤ _)⟩)
   dsimp only [Pt.U, Pt.locs, Pt.cells, Pt.slots] at X6 l6 y6 z6 st6 hQ6
   subst l6 y6 z6
   obtain ⟨rfl, rfl, sm6⟩ := hQ6
   have N6 := Fr.app N4 (Fr.nil n0)
   refine own_st (fun tq kq => st6.trans kq) ?_
   refine s_iloadN X6 hx (hb hby dPT_53) rfl ?_
   obtain ⟨_, _, ⟨T7, L7, k7, n7⟩, -, X7, ⟨Lc7, hQ7, l7, y7, z7⟩, st7⟩ := Jvm.LawKit.callS X6 hx (y := mN25) hown (mvT hZ (wd201 hw)) (mvT hZ (wd202 hw)) (mvT hZ (wd2 hw)) (mvT hZ (wd203 hw)) (by decide) (own_backN (W := 1) (own_c1C l Z a0 hw [] (pp) h0 n0 (by omega) (X00.keep K0 all0) ) hZ (wd203 hw) (wd2 hw) (by decide) (by decide)) (g := (mkF m 54 #[vR r, vI off, vI pp, vI (own_len pp), vI 1] [(.int pp), (.int (cs.getD (o + 1) 0))])) rfl (by rw [hml]; rfl) (argsL := [(.int pp)]) (rest := [(.int (cs.getD (o + 1) 0))]) (lenOf own_pd17 rfl) rfl (Nat.le_of_eq rfl) (hb hby dPT_54) (fun _ _ => ⟨rfl, sm6, (by decide : 0 + 0 ≤ _), (by decide : 0 + 0 ≤ _)⟩)
   dsimp only [Pt.U, Pt.locs, Pt.cells, Pt.slots] at X7 l7 y7 z7 st7 hQ7
   subst l7 y7 z7
   obtain ⟨rfl, Nq7, sm7⟩ := hQ7
   have N7 := Fr.app N6 Nq7
   refine own_st st7 ?_
   refine own_st (fun tq kq => XS.icmpNo X7.here hx rfl (hb hby dPT_57) rfl (teq ((hat 1 (own_k1 hc38_5).1).trans (own_k1 hc38_5).2)).2 kq) ?_
   refine s_iconst X7 hx (hb hby dPT_60) ?_
   refine own_st (fun tq kq => XS.goto X7.here hx rfl (pc0 := 61) (pc' := 65) rfl (hb hby dPT_61) (by decide) (by decide) kq) ?_
   refine own_st (fun tq kq => XS.istore X7.here hx rfl (hb hby dPT_65) rfl (l' := #[vR r, vI off, vI pp, vI (own_len pp), vI 1]) rfl kq) ?_
   show own_G p e below _ (T7.setTop (mkF m 67 #[vR r, vI off, vI pp, vI (own_len pp), vI 1] []))
   refine s_iloadN X7 hx (hb hby dPT_67) rfl ?_
   refine s_iconst X7 hx (hb hby dPT_68) ?_
   show own_G p e below _ (T7.setTop (mkF m 69 #[vR r, vI off, vI pp, vI (own_len pp), vI 1] [(.int 2), (.int (own_len pp))]))
   by_cases hc69_8 : ((2 : Int32) < (own_len pp))
   ·
    refine own_st (fun tq kq => XS.icmpNo X7.here hx rfl (hb hby dPT_69) rfl (tlt hc69_8).2.2.2 kq) ?_
    refine s_iload X7 hx (hb hby dPT_72) rfl ?_
    show own_G p e below _ (T7.setTop (mkF m 74 #[vR r, vI off, vI pp, vI (own_len pp), vI 1] [(.int 1)]))
    refine own_st (fun tq kq => XS.ifNo X7.here hx rfl (hb hby dPT_74) rfl ((if0 _ _).trans (feq (by decide : ¬ ((1 : Int32) = (0 : Int32)))).1) kq) ?_
    refine s_aloadN X7 hx (hb hby dPT_77) rfl rfl ?_
    refine s_iloadN X7 hx (hb hby dPT_78) rfl ?_
    refine s_iconst X7 hx (hb hby dPT_79) ?_
    show own_G p e below _ (T7.setTop (mkF m 80 #[vR r, vI off, vI pp, vI (own_len pp), vI 1] [(.int 2), (.int off), (.ref r)]))
    refine own_st (fun tq kq => XS.iadd X7.here hx rfl (hb hby dPT_80) rfl kq) ?_
    obtain ⟨-, E1_9, hb1_9, ln1_9, t1_9, kb1_9, -, V1_9, C1_9, A1_9⟩ := id S
    obtain ⟨cq9, kq9, q9a, q9b, q9c⟩ := isOf hZ sm7 S.2.1
    obtain ⟨_, _, ⟨T9, L9, k9, n9⟩, -, X9, ⟨Lc9, hQ9, l9, y9, z9⟩, st9⟩ := X7.virtualBack hx (y := mN29) (z := mN29) hown (mvT hZ (wd167 hw)) (mvT hZ (wd168 hw)) (notFace_of_selects (args := #[]) (mvT hZ (wd170 hw))) (mvT hZ (wd170 hw)) (mvT hZ (wd169 hw)) (by decide) (StrChars.Road.chN (W := 0) hZ (own_wCh hw) (kI := 4) (wd8 hw) (i := (o + 2)) E1_9 V1_9 C1_9 A1_9 (StrChars.Road.codOf rfl (fun c hc => (hb1_9 c hc).2)) (own_up hb1_9) (O2.ext (X00.keep K0 all0).2) P5 (O4.ext (X00.keep K0 all0).2) rfm ln1_9 (Nat.lt_of_lt_of_le (Nat.add_lt_add_left (own_k2 hc69_8).1 o) ho) (by rw [hoff]; exact (Int32.ofNat_add o 2).symm) (by decide) (by decide)) q9a q9c (g := (mkF m 81 #[vR r, vI off, vI pp, vI (own_len pp), vI 1] [(.int (off + (2 : Int32))), (.ref r)])) rfl (by rw [hml]; rfl) (Steps.refl _) (argsL := [(.int (off + (2 : Int32)))]) (rest := []) (lenOf own_pd17 rfl) rfl (Nat.le_of_eq rfl) (hb hby dPT_81) (fun _ _ => ⟨rfl, sm7, (by decide : 0 + 0 ≤ _), (by decide : 0 + 0 ≤ _)⟩)
    dsimp only [Pt.U, Pt.locs, Pt.cells, Pt.slots] at X9 l9 y9 z9 st9 hQ9
    subst l9 y9 z9
    obtain ⟨rfl, rfl, sm9⟩ := hQ9
    have N9 := Fr.app N7 (Fr.nil n0)
    refine own_st (fun tq kq => st9.trans kq) ?_
    refine s_iloadN X9 hx (hb hby dPT_84) rfl ?_
    obtain ⟨_, _, ⟨T10, L10, k10, n10⟩, -, X10, ⟨Lc10, hQ10, l10, y10, z10⟩, st10⟩ := Jvm.LawKit.callS X9 hx (y := mN26) hown (mvT hZ (wd214 hw)) (mvT hZ (wd215 hw)) (mvT hZ (wd2 hw)) (mvT hZ (wd216 hw)) (by decide) (own_backN (W := 1) (own_c2C l Z a0 hw [] (pp) h0 n0 (by omega) (X00.keep K0 all0) ) hZ (wd216 hw) (wd2 hw) (by decide) (by decide)) (g := (mkF m 85 #[vR r, vI off, vI pp, vI (own_len pp), vI 1] [(.int pp), (.int (cs.getD (o + 2) 0))])) rfl (by rw [hml]; rfl) (argsL := [(.int pp)]) (rest := [(.int (cs.getD (o + 2) 0))]) (lenOf own_pd17 rfl) rfl (Nat.le_of_eq rfl) (hb hby dPT_85) (fun _ _ => ⟨rfl, sm9, (by decide : 0 + 0 ≤ _), (by decide : 0 + 0 ≤ _)⟩)
    dsimp only [Pt.U, Pt.locs, Pt.cells, Pt.slots] at X10 l10 y10 z10 st10 hQ10
    subst l10 y10 z10
    obtain ⟨rfl, Nq10, sm10⟩ := hQ10
    have N10 := Fr.app N9 Nq10
    refine own_st st10 ?_
    refine own_st (fun tq kq => XS.icmpNo X10.here hx rfl (hb hby dPT_88) rfl (teq ((hat 2 (own_k2 hc69_8).1).trans (own_k2 hc69_8).2)).2 kq) ?_
    refine s_iconst X10 hx (hb hby dPT_91) ?_
    refine own_st (fun tq kq => XS.goto X10.here hx rfl (pc0 := 92) (pc' := 96) rfl (hb hby dPT_92) (by decide) (by decide) kq) ?_
    refine own_st (fun tq kq => XS.istore X10.here hx rfl (hb hby dPT_96) rfl (l' := #[vR r, vI off, vI pp, vI (own_len pp), vI 1]) rfl kq) ?_
    show own_G p e below _ (T10.setTop (mkF m 98 #[vR r, vI off, vI pp, vI (own_len pp), vI 1] []))
    refine s_iload X10 hx (hb hby dPT_98) rfl ?_
    show own_G p e below _ (T10.setTop (mkF m 100 #[vR r, vI off, vI pp, vI (own_len pp), vI 1] [(.int 1)]))
    obtain ⟨fs, hr, hrun, hended, hW, hsame⟩ := X10.leave (v := some (.int 1)) (fun h => by rw [Bd.returns] at h; cases h)
    refine ⟨_, _, retN X10 hx (t := .boolean) Bd.returns (by simp) (hb hby dPT_100) hr, hrun, hended, _, _, rfl, ?_, ⟨_, rfl⟩, hW, hsame.mono (by decide) (by decide)⟩
    change Q_own_partC Z r nb o off pp G1 cs fm h0 n0 _ T10.heap _; rw [sm10]; exact ⟨rfl, N10, rfl⟩
   ·
    refine own_st (fun tq kq => XS.icmpYes X7.here hx rfl (pc0 := 69) (pc' := 98) rfl (hb hby dPT_69) rfl (flt hc69_8).2.2.2 (by decide) (by decide) kq) ?_
    refine s_iload X7 hx (hb hby dPT_98) rfl ?_
    show own_G p e below _ (T7.setTop (mkF m 100 #[vR r, vI off, vI pp, vI (own_len pp), vI 1] [(.int 1)]))
    obtain ⟨fs, hr, hrun, hended, hW, hsame⟩ := X7.leave (v := some (.int 1)) (fun h => by rw [Bd.returns] at h; cases h)
    refine ⟨_, _, retN X7 hx (t := .boolean) Bd.returns (by simp) (hb hby dPT_100) hr, hrun, hended, _, _, rfl, ?_, ⟨_, rfl⟩, hW, hsame.mono (by decide) (by decide)⟩
    change Q_own_partC Z r nb o off pp G1 cs fm h0 n0 _ T7.heap _; rw [sm7]; exact ⟨rfl, N7, rfl⟩
  ·
   refine own_st (fun tq kq => XS.icmpYes X4.here hx rfl (pc0 := 38) (pc' := 67) rfl (hb hby dPT_38) rfl (flt hc38_5).2.2.2 (by decide) (by decide) kq) ?_
   refine s_iloadN X4 hx (hb hby dPT_67) rfl ?_
   refine s_iconst X4 hx (hb hby dPT_68) ?_
   show own_G p e below _ (T4.setTop (mkF m 69 #[vR r, vI off, vI pp, vI (own_len pp), vI 1] [(.int 2), (.int (own_len pp))]))
   by_cases hc69_11 : ((2 : Int32) < (own_len pp))
   ·
    refine own_st (fun tq kq => XS.icmpNo X4.here hx rfl (hb hby dPT_69) rfl (tlt hc69_11).2.2.2 kq) ?_
    refine s_iload X4 hx (hb hby dPT_72) rfl ?_
    show own_G p e below _ (T4.setTop (mkF m 74 #[vR r, vI off, vI pp, vI (own_len pp), vI 1] [(.int 1)]))
    refine own_st (fun tq kq => XS.ifNo X4.here hx rfl (hb hby dPT_74) rfl ((if0 _ _).trans (feq (by decide : ¬ ((1 : Int32) = (0 : Int32)))).1) kq) ?_
    refine s_aloadN X4 hx (hb hby dPT_77) rfl rfl ?_
    refine s_iloadN X4 hx (hb hby dPT_78) rfl ?_
    refine s_iconst X4 hx (hb hby dPT_79) ?_
    show own_G p e below _ (T4.setTop (mkF m 80 #[vR r, vI off, vI pp, vI (own_len pp), vI 1] [(.int 2), (.int off), (.ref r)]))
    refine own_st (fun tq kq => XS.iadd X4.here hx rfl (hb hby dPT_80) rfl kq) ?_
    obtain ⟨-, E1_12, hb1_12, ln1_12, t1_12, kb1_12, -, V1_12, C1_12, A1_12⟩ := id S
    obtain ⟨cq12, kq12, q12a, q12b, q12c⟩ := isOf hZ sm4 S.2.1
    obtain ⟨_, _, ⟨T12, L12, k12, n12⟩, -, X12, ⟨Lc12, hQ12, l12, y12, z12⟩, st12⟩ := X4.virtualBack hx (y := mN29) (z := mN29) hown (mvT hZ (wd167 hw)) (mvT hZ (wd168 hw)) (notFace_of_selects (args := #[]) (mvT hZ (wd170 hw))) (mvT hZ (wd170 hw)) (mvT hZ (wd169 hw)) (by decide) (StrChars.Road.chN (W := 0) hZ (own_wCh hw) (kI := 4) (wd8 hw) (i := (o + 2)) E1_12 V1_12 C1_12 A1_12 (StrChars.Road.codOf rfl (fun c hc => (hb1_12 c hc).2)) (own_up hb1_12) (O2.ext (X00.keep K0 all0).2) P5 (O4.ext (X00.keep K0 all0).2) rfm ln1_12 (Nat.lt_of_lt_of_le (Nat.add_lt_add_left (own_k2 hc69_11).1 o) ho) (by rw [hoff]; exact (Int32.ofNat_add o 2).symm) (by decide) (by decide)) q12a q12c (g := (mkF m 81 #[vR r, vI off, vI pp, vI (own_len pp), vI 1] [(.int (off + (2 : Int32))), (.ref r)])) rfl (by rw [hml]; rfl) (Steps.refl _) (argsL := [(.int (off + (2 : Int32)))]) (rest := []) (lenOf own_pd17 rfl) rfl (Nat.le_of_eq rfl) (hb hby dPT_81) (fun _ _ => ⟨rfl, sm4, (by decide : 0 + 0 ≤ _), (by decide : 0 + 0 ≤ _)⟩)
    dsimp only [Pt.U, Pt.locs, Pt.cells, Pt.slots] at X12 l12 y12 z12 st12 hQ12
    subst l12 y12 z12
    obtain ⟨rfl, rfl, sm12⟩ := hQ12
    have N12 := Fr.app N4 (Fr.nil n0)
    refine own_st (fun tq kq => st12.trans kq) ?_
    refine s_iloadN X12 hx (hb hby dPT_84) rfl ?_
    obtain ⟨_, _, ⟨T13, L13, k13, n13⟩, -, X13, ⟨Lc13, hQ13, l13, y13, z13⟩, st13⟩ := Jvm.LawKit.callS X12 hx (y := mN26) hown (mvT hZ (wd214 hw)) (mvT hZ (wd215 hw)) (mvT hZ (wd2 hw)) (mvT hZ (wd216 hw)) (by decide) (own_backN (W := 1) (own_c2C l Z a0 hw [] (pp) h0 n0 (by omega) (X00.keep K0 all0) ) hZ (wd216 hw) (wd2 hw) (by decide) (by decide)) (g := (mkF m 85 #[vR r, vI off, vI pp, vI (own_len pp), vI 1] [(.int pp), (.int (cs.getD (o + 2) 0))])) rfl (by rw [hml]; rfl) (argsL := [(.int pp)]) (rest := [(.int (cs.getD (o + 2) 0))]) (lenOf own_pd17 rfl) rfl (Nat.le_of_eq rfl) (hb hby dPT_85) (fun _ _ => ⟨rfl, sm12, (by decide : 0 + 0 ≤ _), (by decide : 0 + 0 ≤ _)⟩)
    dsimp only [Pt.U, Pt.locs, Pt.cells, Pt.slots] at X13 l13 y13 z13 st13 hQ13
    subst l13 y13 z13
    obtain ⟨rfl, Nq13, sm13⟩ := hQ13
    have N13 := Fr.app N12 Nq13
    refine own_st st13 ?_
    refine own_st (fun tq kq => XS.icmpNo X13.here hx rfl (hb hby dPT_88) rfl (teq ((hat 2 (own_k2 hc69_11).1).trans (own_k2 hc69_11).2)).2 kq) ?_
    refine s_iconst X13 hx (hb hby dPT_91) ?_
    refine own_st (fun tq kq => XS.goto X13.here hx rfl (pc0 := 92) (pc' := 96) rfl (hb hby dPT_92) (by decide) (by decide) kq) ?_
    refine own_st (fun tq kq => XS.istore X13.here hx rfl (hb hby dPT_96) rfl (l' := #[vR r, vI off, vI pp, vI (own_len pp), vI 1]) rfl kq) ?_
    show own_G p e below _ (T13.setTop (mkF m 98 #[vR r, vI off, vI pp, vI (own_len pp), vI 1] []))
    refine s_iload X13 hx (hb hby dPT_98) rfl ?_
    show own_G p e below _ (T13.setTop (mkF m 100 #[vR r, vI off, vI pp, vI (own_len pp), vI 1] [(.int 1)]))
    obtain ⟨fs, hr, hrun, hended, hW, hsame⟩ := X13.leave (v := some (.int 1)) (fun h => by rw [Bd.returns] at h; cases h)
    refine ⟨_, _, retN X13 hx (t := .boolean) Bd.returns (by simp) (hb hby dPT_100) hr, hrun, hended, _, _, rfl, ?_, ⟨_, rfl⟩, hW, hsame.mono (by decide) (by decide)⟩
    change Q_own_partC Z r nb o off pp G1 cs fm h0 n0 _ T13.heap _; rw [sm13]; exact ⟨rfl, N13, rfl⟩
   ·
    refine own_st (fun tq kq => XS.icmpYes X4.here hx rfl (pc0 := 69) (pc' := 98) rfl (hb hby dPT_69) rfl (flt hc69_11).2.2.2 (by decide) (by decide) kq) ?_
    refine s_iload X4 hx (hb hby dPT_98) rfl ?_
    show own_G p e below _ (T4.setTop (mkF m 100 #[vR r, vI off, vI pp, vI (own_len pp), vI 1] [(.int 1)]))
    obtain ⟨fs, hr, hrun, hended, hW, hsame⟩ := X4.leave (v := some (.int 1)) (fun h => by rw [Bd.returns] at h; cases h)
    refine ⟨_, _, retN X4 hx (t := .boolean) Bd.returns (by simp) (hb hby dPT_100) hr, hrun, hended, _, _, rfl, ?_, ⟨_, rfl⟩, hW, hsame.mono (by decide) (by decide)⟩
    change Q_own_partC Z r nb o off pp G1 cs fm h0 n0 _ T4.heap _; rw [sm4]; exact ⟨rfl, N4, rfl⟩
 ·
  refine own_st (fun tq kq => XS.ifYes X1.here hx rfl (pc0 := 9) (pc' := 36) rfl (hb hby dPT_9) rfl ((if0 _ _).trans (flt hc9_2).2.2.2) (by decide) (by decide) kq) ?_
  refine s_iloadN X1 hx (hb hby dPT_36) rfl ?_
  refine s_iconst X1 hx (hb hby dPT_37) ?_
  show own_G p e below _ (T1.setTop (mkF m 38 #[vR r, vI off, vI pp, vI (own_len pp), vI 1] [(.int 1), (.int (own_len pp))]))
  by_cases hc38_14 : ((1 : Int32) < (own_len pp))
  ·
   refine own_st (fun tq kq => XS.icmpNo X1.here hx rfl (hb hby dPT_38) rfl (tlt hc38_14).2.2.2 kq) ?_
   refine s_iload X1 hx (hb hby dPT_41) rfl ?_
   show own_G p e below _ (T1.setTop (mkF m 43 #[vR r, vI off, vI pp, vI (own_len pp), vI 1] [(.int 1)]))
   refine own_st (fun tq kq => XS.ifNo X1.here hx rfl (hb hby dPT_43) rfl ((if0 _ _).trans (feq (by decide : ¬ ((1 : Int32) = (0 : Int32)))).1) kq) ?_
   refine s_aloadN X1 hx (hb hby dPT_46) rfl rfl ?_
   refine s_iloadN X1 hx (hb hby dPT_47) rfl ?_
   refine s_iconst X1 hx (hb hby dPT_48) ?_
   show own_G p e below _ (T1.setTop (mkF m 49 #[vR r, vI off, vI pp, vI (own_len pp), vI 1] [(.int 1), (.int off), (.ref r)]))
   refine own_st (fun tq kq => XS.iadd X1.here hx rfl (hb hby dPT_49) rfl kq) ?_
   obtain ⟨-, E1_15, hb1_15, ln1_15, t1_15, kb1_15, -, V1_15, C1_15, A1_15⟩ := id S
   obtain ⟨cq15, kq15, q15a, q15b, q15c⟩ := isOf hZ sm1 S.2.1
   obtain ⟨_, _, ⟨T15, L15, k15, n15⟩, -, X15, ⟨Lc15, hQ15, l15, y15, z15⟩, st15⟩ := X1.virtualBack hx (y := mN29) (z := mN29) hown (mvT hZ (wd167 hw)) (mvT hZ (wd168 hw)) (notFace_of_selects (args := #[]) (mvT hZ (wd170 hw))) (mvT hZ (wd170 hw)) (mvT hZ (wd169 hw)) (by decide) (StrChars.Road.chN (W := 0) hZ (own_wCh hw) (kI := 4) (wd8 hw) (i := (o + 1)) E1_15 V1_15 C1_15 A1_15 (StrChars.Road.codOf rfl (fun c hc => (hb1_15 c hc).2)) (own_up hb1_15) (O2.ext (X00.keep K0 all0).2) P5 (O4.ext (X00.keep K0 all0).2) rfm ln1_15 (Nat.lt_of_lt_of_le (Nat.add_lt_add_left (own_k1 hc38_14).1 o) ho) (by rw [hoff]; exact (Int32.ofNat_add o 1).symm) (by decide) (by decide)) q15a q15c (g := (mkF m 50 #[vR r, vI off, vI pp, vI (own_len pp), vI 1] [(.int (off + (1 : Int32))), (.ref r)])) rfl (by rw [hml]; rfl) (Steps.refl _) (argsL := [(.int (off + (1 : Int32)))]) (rest := []) (lenOf own_pd17 rfl) rfl (Nat.le_of_eq rfl) (hb hby dPT_50) (fun _ _ => ⟨rfl, sm1, (by decide : 0 + 0 ≤ _), (by decide : 0 + 0 ≤ _)⟩)
   dsimp only [Pt.U, Pt.locs, Pt.cells, Pt.slots] at X15 l15 y15 z15 st15 hQ15
   subst l15 y15 z15
   obtain ⟨rfl, rfl, sm15⟩ := hQ15
   have N15 := Fr.app N1 (Fr.nil n0)
   refine own_st (fun tq kq => st15.trans kq) ?_
   refine s_iloadN X15 hx (hb hby dPT_53) rfl ?_
   obtain ⟨_, _, ⟨T16, L16, k16, n16⟩, -, X16, ⟨Lc16, hQ16, l16, y16, z16⟩, st16⟩ := Jvm.LawKit.callS X15 hx (y := mN25) hown (mvT hZ (wd201 hw)) (mvT hZ (wd202 hw)) (mvT hZ (wd2 hw)) (mvT hZ (wd203 hw)) (by decide) (own_backN (W := 1) (own_c1C l Z a0 hw [] (pp) h0 n0 (by omega) (X00.keep K0 all0) ) hZ (wd203 hw) (wd2 hw) (by decide) (by decide)) (g := (mkF m 54 #[vR r, vI off, vI pp, vI (own_len pp), vI 1] [(.int pp), (.int (cs.getD (o + 1) 0))])) rfl (by rw [hml]; rfl) (argsL := [(.int pp)]) (rest := [(.int (cs.getD (o + 1) 0))]) (lenOf own_pd17 rfl) rfl (Nat.le_of_eq rfl) (hb hby dPT_54) (fun _ _ => ⟨rfl, sm15, (by decide : 0 + 0 ≤ _), (by decide : 0 + 0 ≤ _)⟩)
   dsimp only [Pt.U, Pt.locs, Pt.cells, Pt.slots] at X16 l16 y16 z16 st16 hQ16
   subst l16 y16 z16
   obtain ⟨rfl, Nq16, sm16⟩ := hQ16
   have N16 := Fr.app N15 Nq16
   refine own_st st16 ?_
   refine own_st (fun tq kq => XS.icmpNo X16.here hx rfl (hb hby dPT_57) rfl (teq ((hat 1 (own_k1 hc38_14).1).trans (own_k1 hc38_14).2)).2 kq) ?_
   refine s_iconst X16 hx (hb hby dPT_60) ?_
   refine own_st (fun tq kq => XS.goto X16.here hx rfl (pc0 := 61) (pc' := 65) rfl (hb hby dPT_61) (by decide) (by decide) kq) ?_
   refine own_st (fun tq kq => XS.istore X16.here hx rfl (hb hby dPT_65) rfl (l' := #[vR r, vI off, vI pp, vI (own_len pp), vI 1]) rfl kq) ?_
   show own_G p e below _ (T16.setTop (mkF m 67 #[vR r, vI off, vI pp, vI (own_len pp), vI 1] []))
   refine s_iloadN X16 hx (hb hby dPT_67) rfl ?_
   refine s_iconst X16 hx (hb hby dPT_68) ?_
   show own_G p e below _ (T16.setTop (mkF m 69 #[vR r, vI off, vI pp, vI (own_len pp), vI 1] [(.int 2), (.int (own_len pp))]))
   by_cases hc69_17 : ((2 : Int32) < (own_len pp))
   ·
    refine own_st (fun tq kq => XS.icmpNo X16.here hx rfl (hb hby dPT_69) rfl (tlt hc69_17).2.2.2 kq) ?_
    refine s_iload X16 hx (hb hby dPT_72) rfl ?_
    show own_G p e below _ (T16.setTop (mkF m 74 #[vR r, vI off, vI pp, vI (own_len pp), vI 1] [(.int 1)]))
    refine own_st (fun tq kq => XS.ifNo X16.here hx rfl (hb hby dPT_74) rfl ((if0 _ _).trans (feq (by decide : ¬ ((1 : Int32) = (0 : Int32)))).1) kq) ?_
    refine s_aloadN X16 hx (hb hby dPT_77) rfl rfl ?_
    refine s_iloadN X16 hx (hb hby dPT_78) rfl ?_
    refine s_iconst X16 hx (hb hby dPT_79) ?_
    show own_G p e below _ (T16.setTop (mkF m 80 #[vR r, vI off, vI pp, vI (own_len pp), vI 1] [(.int 2), (.int off), (.ref r)]))
    refine own_st (fun tq kq => XS.iadd X16.here hx rfl (hb hby dPT_80) rfl kq) ?_
    obtain ⟨-, E1_18, hb1_18, ln1_18, t1_18, kb1_18, -, V1_18, C1_18, A1_18⟩ := id S
    obtain ⟨cq18, kq18, q18a, q18b, q18c⟩ := isOf hZ sm16 S.2.1
    obtain ⟨_, _, ⟨T18, L18, k18, n18⟩, -, X18, ⟨Lc18, hQ18, l18, y18, z18⟩, st18⟩ := X16.virtualBack hx (y := mN29) (z := mN29) hown (mvT hZ (wd167 hw)) (mvT hZ (wd168 hw)) (notFace_of_selects (args := #[]) (mvT hZ (wd170 hw))) (mvT hZ (wd170 hw)) (mvT hZ (wd169 hw)) (by decide) (StrChars.Road.chN (W := 0) hZ (own_wCh hw) (kI := 4) (wd8 hw) (i := (o + 2)) E1_18 V1_18 C1_18 A1_18 (StrChars.Road.codOf rfl (fun c hc => (hb1_18 c hc).2)) (own_up hb1_18) (O2.ext (X00.keep K0 all0).2) P5 (O4.ext (X00.keep K0 all0).2) rfm ln1_18 (Nat.lt_of_lt_of_le (Nat.add_lt_add_left (own_k2 hc69_17).1 o) ho) (by rw [hoff]; exact (Int32.ofNat_add o 2).symm) (by decide) (by decide)) q18a q18c (g := (mkF m 81 #[vR r, vI off, vI pp, vI (own_len pp), vI 1] [(.int (off + (2 : Int32))), (.ref r)])) rfl (by rw [hml]; rfl) (Steps.refl _) (argsL := [(.int (off + (2 : Int32)))]) (rest := []) (lenOf own_pd17 rfl) rfl (Nat.le_of_eq rfl) (hb hby dPT_81) (fun _ _ => ⟨rfl, sm16, (by decide : 0 + 0 ≤ _), (by decide : 0 + 0 ≤ _)⟩)
    dsimp only [Pt.U, Pt.locs, Pt.cells, Pt.slots] at X18 l18 y18 z18 st18 hQ18
    subst l18 y18 z18
    obtain ⟨rfl, rfl, sm18⟩ := hQ18
    have N18 := Fr.app N16 (Fr.nil n0)
    refine own_st (fun tq kq => st18.trans kq) ?_
    refine s_iloadN X18 hx (hb hby dPT_84) rfl ?_
    obtain ⟨_, _, ⟨T19, L19, k19, n19⟩, -, X19, ⟨Lc19, hQ19, l19, y19, z19⟩, st19⟩ := Jvm.LawKit.callS X18 hx (y := mN26) hown (mvT hZ (wd214 hw)) (mvT hZ (wd215 hw)) (mvT hZ (wd2 hw)) (mvT hZ (wd216 hw)) (by decide) (own_backN (W := 1) (own_c2C l Z a0 hw [] (pp) h0 n0 (by omega) (X00.keep K0 all0) ) hZ (wd216 hw) (wd2 hw) (by decide) (by decide)) (g := (mkF m 85 #[vR r, vI off, vI pp, vI (own_len pp), vI 1] [(.int pp), (.int (cs.getD (o + 2) 0))])) rfl (by rw [hml]; rfl) (argsL := [(.int pp)]) (rest := [(.int (cs.getD (o + 2) 0))]) (lenOf own_pd17 rfl) rfl (Nat.le_of_eq rfl) (hb hby dPT_85) (fun _ _ => ⟨rfl, sm18, (by decide : 0 + 0 ≤ _), (by decide : 0 + 0 ≤ _)⟩)
    dsimp only [Pt.U, Pt.locs, Pt.cells, Pt.slots] at X19 l19 y19 z19 st19 hQ19
    subst l19 y19 z19
    obtain ⟨rfl, Nq19, sm19⟩ := hQ19
    have N19 := Fr.app N18 Nq19
    refine own_st st19 ?_
    refine own_st (fun tq kq => XS.icmpNo X19.here hx rfl (hb hby dPT_88) rfl (teq ((hat 2 (own_k2 hc69_17).1).trans (own_k2 hc69_17).2)).2 kq) ?_
    refine s_iconst X19 hx (hb hby dPT_91) ?_
    refine own_st (fun tq kq => XS.goto X19.here hx rfl (pc0 := 92) (pc' := 96) rfl (hb hby dPT_92) (by decide) (by decide) kq) ?_
    refine own_st (fun tq kq => XS.istore X19.here hx rfl (hb hby dPT_96) rfl (l' := #[vR r, vI off, vI pp, vI (own_len pp), vI 1]) rfl kq) ?_
    show own_G p e below _ (T19.setTop (mkF m 98 #[vR r, vI off, vI pp, vI (own_len pp), vI 1] []))
    refine s_iload X19 hx (hb hby dPT_98) rfl ?_
    show own_G p e below _ (T19.setTop (mkF m 100 #[vR r, vI off, vI pp, vI (own_len pp), vI 1] [(.int 1)]))
    obtain ⟨fs, hr, hrun, hended, hW, hsame⟩ := X19.leave (v := some (.int 1)) (fun h => by rw [Bd.returns] at h; cases h)
    refine ⟨_, _, retN X19 hx (t := .boolean) Bd.returns (by simp) (hb hby dPT_100) hr, hrun, hended, _, _, rfl, ?_, ⟨_, rfl⟩, hW, hsame.mono (by decide) (by decide)⟩
    change Q_own_partC Z r nb o off pp G1 cs fm h0 n0 _ T19.heap _; rw [sm19]; exact ⟨rfl, N19, rfl⟩
   ·
    refine own_st (fun tq kq => XS.icmpYes X16.here hx rfl (pc0 := 69) (pc' := 98) rfl (hb hby dPT_69) rfl (flt hc69_17).2.2.2 (by decide) (by decide) kq) ?_
    refine s_iload X16 hx (hb hby dPT_98) rfl ?_
    show own_G p e below _ (T16.setTop (mkF m 100 #[vR r, vI off, vI pp, vI (own_len pp), vI 1] [(.int 1)]))
    obtain ⟨fs, hr, hrun, hended, hW, hsame⟩ := X16.leave (v := some (.int 1)) (fun h => by rw [Bd.returns] at h; cases h)
    refine ⟨_, _, retN X16 hx (t := .boolean) Bd.returns (by simp) (hb hby dPT_100) hr, hrun, hended, _, _, rfl, ?_, ⟨_, rfl⟩, hW, hsame.mono (by decide) (by decide)⟩
    change Q_own_partC Z r nb o off pp G1 cs fm h0 n0 _ T16.heap _; rw [sm16]; exact ⟨rfl, N16, rfl⟩
  ·
   refine own_st (fun tq kq => XS.icmpYes X1.here hx rfl (pc0 := 38) (pc' := 67) rfl (hb hby dPT_38) rfl (flt hc38_14).2.2.2 (by decide) (by decide) kq) ?_
   refine s_iloadN X1 hx (hb hby dPT_67) rfl ?_
   refine s_iconst X1 hx (hb hby dPT_68) ?_
   show own_G p e below _ (T1.setTop (mkF m 69 #[vR r, vI off, vI pp, vI (own_len pp), vI 1] [(.int 2), (.int (own_len pp))]))
   by_cases hc69_20 : ((2 : Int32) < (own_len pp))
   ·
    refine own_st (fun tq kq => XS.icmpNo X1.here hx rfl (hb hby dPT_69) rfl (tlt hc69_20).2.2.2 kq) ?_
    refine s_iload X1 hx (hb hby dPT_72) rfl ?_
    show own_G p e below _ (T1.setTop (mkF m 74 #[vR r, vI off, vI pp, vI (own_len pp), vI 1] [(.int 1)]))
    refine own_st (fun tq kq => XS.ifNo X1.here hx rfl (hb hby dPT_74) rfl ((if0 _ _).trans (feq (by decide : ¬ ((1 : Int32) = (0 : Int32)))).1) kq) ?_
    refine s_aloadN X1 hx (hb hby dPT_77) rfl rfl ?_
    refine s_iloadN X1 hx (hb hby dPT_78) rfl ?_
    refine s_iconst X1 hx (hb hby dPT_79) ?_
    show own_G p e below _ (T1.setTop (mkF m 80 #[vR r, vI off, vI pp, vI (own_len pp), vI 1] [(.int 2), (.int off), (.ref r)]))
    refine own_st (fun tq kq => XS.iadd X1.here hx rfl (hb hby dPT_80) rfl kq) ?_
    obtain ⟨-, E1_21, hb1_21, ln1_21, t1_21, kb1_21, -, V1_21, C1_21, A1_21⟩ := id S
    obtain ⟨cq21, kq21, q21a, q21b, q21c⟩ := isOf hZ sm1 S.2.1
    obtain ⟨_, _, ⟨T21, L21, k21, n21⟩, -, X21, ⟨Lc21, hQ21, l21, y21, z21⟩, st21⟩ := X1.virtualBack hx (y := mN29) (z := mN29) hown (mvT hZ (wd167 hw)) (mvT hZ (wd168 hw)) (notFace_of_selects (args := #[]) (mvT hZ (wd170 hw))) (mvT hZ (wd170 hw)) (mvT hZ (wd169 hw)) (by decide) (StrChars.Road.chN (W := 0) hZ (own_wCh hw) (kI := 4) (wd8 hw) (i := (o + 2)) E1_21 V1_21 C1_21 A1_21 (StrChars.Road.codOf rfl (fun c hc => (hb1_21 c hc).2)) (own_up hb1_21) (O2.ext (X00.keep K0 all0).2) P5 (O4.ext (X00.keep K0 all0).2) rfm ln1_21 (Nat.lt_of_lt_of_le (Nat.add_lt_add_left (own_k2 hc69_20).1 o) ho) (by rw [hoff]; exact (Int32.ofNat_add o 2).symm) (by decide) (by decide)) q21a q21c (g := (mkF m 81 #[vR r, vI off, vI pp, vI (own_len pp), vI 1] [(.int (off + (2 : Int32))), (.ref r)])) rfl (by rw [hml]; rfl) (Steps.refl _) (argsL := [(.int (off + (2 : Int32)))]) (rest := []) (lenOf own_pd17 rfl) rfl (Nat.le_of_eq rfl) (hb hby dPT_81) (fun _ _ => ⟨rfl, sm1, (by decide : 0 + 0 ≤ _), (by decide : 0 + 0 ≤ _)⟩)
    dsimp only [Pt.U, Pt.locs, Pt.cells, Pt.slots] at X21 l21 y21 z21 st21 hQ21
    subst l21 y21 z21
    obtain ⟨rfl, rfl, sm21⟩ := hQ21
    have N21 := Fr.app N1 (Fr.nil n0)
    refine own_st (fun tq kq => st21.trans kq) ?_
    refine s_iloadN X21 hx (hb hby dPT_84) rfl ?_
    obtain ⟨_, _, ⟨T22, L22, k22, n22⟩, -, X22, ⟨Lc22, hQ22, l22, y22, z22⟩, st22⟩ := Jvm.LawKit.callS X21 hx (y := mN26) hown (mvT hZ (wd214 hw)) (mvT hZ (wd215 hw)) (mvT hZ (wd2 hw)) (mvT hZ (wd216 hw)) (by decide) (own_backN (W := 1) (own_c2C l Z a0 hw [] (pp) h0 n0 (by omega) (X00.keep K0 all0) ) hZ (wd216 hw) (wd2 hw) (by decide) (by decide)) (g := (mkF m 85 #[vR r, vI off, vI pp, vI (own_len pp), vI 1] [(.int pp), (.int (cs.getD (o + 2) 0))])) rfl (by rw [hml]; rfl) (argsL := [(.int pp)]) (rest := [(.int (cs.getD (o + 2) 0))]) (lenOf own_pd17 rfl) rfl (Nat.le_of_eq rfl) (hb hby dPT_85) (fun _ _ => ⟨rfl, sm21, (by decide : 0 + 0 ≤ _), (by decide : 0 + 0 ≤ _)⟩)
    dsimp only [Pt.U, Pt.locs, Pt.cells, Pt.slots] at X22 l22 y22 z22 st22 hQ22
    subst l22 y22 z22
    obtain ⟨rfl, Nq22, sm22⟩ := hQ22
    have N22 := Fr.app N21 Nq22
    refine own_st st22 ?_
    refine own_st (fun tq kq => XS.icmpNo X22.here hx rfl (hb hby dPT_88) rfl (teq ((hat 2 (own_k2 hc69_20).1).trans (own_k2 hc69_20).2)).2 kq) ?_
    refine s_iconst X22 hx (hb hby dPT_91) ?_
    refine own_st (fun tq kq => XS.goto X22.here hx rfl (pc0 := 92) (pc' := 96) rfl (hb hby dPT_92) (by decide) (by decide) kq) ?_
    refine own_st (fun tq kq => XS.istore X22.here hx rfl (hb hby dPT_96) rfl (l' := #[vR r, vI off, vI pp, vI (own_len pp), vI 1]) rfl kq) ?_
    show own_G p e below _ (T22.setTop (mkF m 98 #[vR r, vI off, vI pp, vI (own_len pp), vI 1] []))
    refine s_iload X22 hx (hb hby dPT_98) rfl ?_
    show own_G p e below _ (T22.setTop (mkF m 100 #[vR r, vI off, vI pp, vI (own_len pp), vI 1] [(.int 1)]))
    obtain ⟨fs, hr, hrun, hended, hW, hsame⟩ := X22.leave (v := some (.int 1)) (fun h => by rw [Bd.returns] at h; cases h)
    refine ⟨_, _, retN X22 hx (t := .boolean) Bd.returns (by simp) (hb hby dPT_100) hr, hrun, hended, _, _, rfl, ?_, ⟨_, rfl⟩, hW, hsame.mono (by decide) (by decide)⟩
    change Q_own_partC Z r nb o off pp G1 cs fm h0 n0 _ T22.heap _; rw [sm22]; exact ⟨rfl, N22, rfl⟩
   ·
    refine own_st (fun tq kq => XS.icmpYes X1.here hx rfl (pc0 := 69) (pc' := 98) rfl (hb hby dPT_69) rfl (flt hc69_20).2.2.2 (by decide) (by decide) kq) ?_
    refine s_iload X1 hx (hb hby dPT_98) rfl ?_
    show own_G p e below _ (T1.setTop (mkF m 100 #[vR r, vI off, vI pp, vI (own_len pp), vI 1] [(.int 1)]))
    obtain ⟨fs, hr, hrun, hended, hW, hsame⟩ := X1.leave (v := some (.int 1)) (fun h => by rw [Bd.returns] at h; cases h)
    refine ⟨_, _, retN X1 hx (t := .boolean) Bd.returns (by simp) (hb hby dPT_100) hr, hrun, hended, _, _, rfl, ?_, ⟨_, rfl⟩, hW, hsame.mono (by decide) (by decide)⟩
    change Q_own_partC Z r nb o off pp G1 cs fm h0 n0 _ T1.heap _; rw [sm1]; exact ⟨rfl, N1, rfl⟩

def Q_own_ctor (Z : State) (x s0 s1 s2 : Nat) (u0 u1 u2 : Value) (h0 : Heap) (n0 : Nat) (v : Option Value) (h : Heap) (L : List Loc) : Prop := v = none ∧ Fr n0 L ∧ Keep h0 h [x] ∧ Fld Z h x "com/example/garm/garm/SecurityTarget$Claim" "profile" "Ljava/lang/String;" (.ref s0) ∧ Fld Z h x "com/example/garm/garm/SecurityTarget$Claim" "version" "Ljava/lang/String;" (.ref s1) ∧ Fld Z h x "com/example/garm/garm/SecurityTarget$Claim" "conformance" "Lcom/example/garm/garm/Conformance;" (.ref s2)
theorem ef_own_ctor (m : MethodId) (x0 : Nat) (x1 : Nat) (x2 : Nat) (x3 : Nat) : entryFrame m #[(.ref x0), (.ref x1), (.ref x2), (.ref x3)] 4 = mkF m 0 #[.val (.ref x0), .val (.ref x1), .val (.ref x2), .val (.ref x3)] [] := by first | (simp [entryFrame, mkF, argsToLocals, Value.category]; done) | rfl
theorem own_ctor (l : Launch) (Z : State) (a0 : Array Value) (hw : hWt a0 Z) (ws : List Jvm.Cond) (x s0 s1 s2 : Nat) (u0 u1 u2 : Value) (h0 : Heap) (n0 : Nat) (Z0 : n0 ≤ h0.size) (X00 : Old Z n0 h0) (Ex : Exa Z h0 x "com/example/garm/garm/SecurityTarget$Claim") (F0 : Fld Z h0 x "com/example/garm/garm/SecurityTarget$Claim" "profile" "Ljava/lang/String;" u0) (F1 : Fld Z h0 x "com/example/garm/garm/SecurityTarget$Claim" "version" "Ljava/lang/String;" u1) (F2 : Fld Z h0 x "com/example/garm/garm/SecurityTarget$Claim" "conformance" "Lcom/example/garm/garm/Conformance;" u2) (gx : n0 ≤ x) (ltx : x < h0.size) :
 own_MN l mN30 prog_41_method_1_code 4 none ws rm_1_0_0_12 Z #[(.ref x), (.ref s0), (.ref s1), (.ref s2)] h0 (Q_own_ctor Z x s0 s1 s2 u0 u1 u2 h0 n0) := by
 refine own_bodyN (plainFor_of_name own_pn6) fun p e s m below meth c s₁ Bd hx hby hml hown hZ X0 e0 => ?_
 have hnm := (name_of_methodNamed Bd.named Bd.method).1
 have N0 := Fr.nil n0
 have K0 : Keep h0 h0 [x] := Keep.refl h0 [x]
 refine own_st (fun tq kq => castTop (ef_own_ctor m (x) (s0) (s1) (s2)) kq) ?_
 show own_G p e below _ (s₁.setTop (mkF m 0 #[vR x, vR s0, vR s1, vR s2] []))
 have hws0 : ∀ y ∈ [x], n0 ≤ y := allS gx all0
 refine s_aloadN X0 hx (hb hby dCI_0) rfl rfl ?_
 obtain ⟨T1, X1, e1, st1⟩ := initO X0 hx hZ hown (wd39 hw) (wd19 hw) (wd20 hw) e0 (g := (mkF m 1 #[vR x, vR s0, vR s1, vR s2] [(.ref x)])) rfl (by rw [hml]; rfl) rfl (hb hby dCI_1) (by decide) (W := 0) (Nat.le_of_eq rfl) (by decide)
 refine own_st st1 ?_
 refine s_aloadN X1 hx (hb hby dCI_4) rfl rfl ?_
 refine s_aloadN X1 hx (hb hby dCI_5) rfl rfl ?_
 obtain ⟨T2, h2, X2, e2, W2, st2⟩ := putF X1 hx hZ hown (host := "") (Or.inl (wd40 hw)) Via.refl e1 F0 Ex (Or.inr ⟨(wd41 hw), rfl, hnm⟩) (wd34 hw) (ty := (.object "java/lang/String")) (by decide) rfl rfl (g := (mkF m 6 #[vR x, vR s0, vR s1, vR s2] [(.ref s0), (.ref x)])) rfl rfl (hb hby dCI_6)
 have Fw2 := F0.same W2
 have sz2 : h0.size ≤ h2.size := (Keep.of_wr W2).1
 have K2 : Keep h0 h2 [x] := K0.wr W2 (Or.inl (by simp))
 have N2 := Fr.snoc X2 N0 (own_le (by omega))
 refine own_st st2 ?_
 refine s_aloadN X2 hx (hb hby dCI_9) rfl rfl ?_
 refine s_aloadN X2 hx (hb hby dCI_10) rfl rfl ?_
 obtain ⟨T3, h3, X3, e3, W3, st3⟩ := putF X2 hx hZ hown (host := "") (Or.inl (wd42 hw)) Via.refl e2 (F1.other W2 (Or.inr (slot_ne (Or.inr (wd43 hw)) (Or.inr (wd41 hw)) (by decide) (t := (.object "java/lang/String")) (t' := (.object "java/lang/String")) (by decide) (by decide)))) (Ex.wr W2) (Or.inr ⟨(wd43 hw), rfl, hnm⟩) (wd34 hw) (ty := (.object "java/lang/String")) (by decide) rfl rfl (g := (mkF m 11 #[vR x, vR s0, vR s1, vR s2] [(.ref s1), (.ref x)])) rfl rfl (hb hby dCI_11)
 have Fw3 := (F1.other W2 (Or.inr (slot_ne (Or.inr (wd43 hw)) (Or.inr (wd41 hw)) (by decide) (t := (.object "java/lang/String")) (t' := (.object "java/lang/String")) (by decide) (by decide)))).same W3
 have sz3 : h2.size ≤ h3.size := (Keep.of_wr W3).1
 have K3 : Keep h0 h3 [x] := K2.wr W3 (Or.inl (by simp))
 have N3 := Fr.snoc X3 N2 (own_le (by omega))
 refine own_st st3 ?_
 refine s_aloadN X3 hx (hb hby dCI_14) rfl rfl ?_
 refine s_aloadN X3 hx (hb hby dCI_15) rfl rfl ?_
 obtain ⟨T4, h4, X4, e4, W4, st4⟩ := putF X3 hx hZ hown (host := "") (Or.inl (wd44 hw)) Via.refl e3 ((F2.other W2 (Or.inr (slot_ne (Or.inr (wd45 hw)) (Or.inr (wd41 hw)) (by decide) (t := (.object "com/example/garm/garm/Conformance")) (t' := (.object "java/lang/String")) (by decide) (by decide)))).other W3 (Or.inr (slot_ne (Or.inr (wd45 hw)) (Or.inr (wd43 hw)) (by decide) (t := (.object "com/example/garm/garm/Conformance")) (t' := (.object "java/lang/String")) (by decide) (by decide)))) ((Ex.wr W2).wr W3) (Or.inr ⟨(wd45 hw), rfl, hnm⟩) (wd34 hw) (ty := (.object "com/example/garm/garm/Conformance")) (by decide) rfl rfl (g := (mkF m 16 #[vR x, vR s0, vR s1, vR s2] [(.ref s2), (.ref x)])) rfl rfl (hb hby dCI_16)
 have Fw4 := ((F2.other W2 (Or.inr (slot_ne (Or.inr (wd45 hw)) (Or.inr (wd41 hw)) (by decide) (t := (.object "com/example/garm/garm/Conformance")) (t' := (.object "java/lang/String")) (by decide) (by decide)))).other W3 (Or.inr (slot_ne (Or.inr (wd45 hw)) (Or.inr (wd43 hw)) (by decide) (t := (.object "com/example/garm/garm/Conformance")) (t' := (.object "java/lang/String")) (by decide) (by decide)))).same W4
 have sz4 : h3.size ≤ h4.size := (Keep.of_wr W4).1
 have K4 : Keep h0 h4 [x] := K3.wr W4 (Or.inl (by simp))
 have N4 := Fr.snoc X4 N3 (own_le (by omega))
 refine own_st st4 ?_
 obtain ⟨fs, hr, hrun, hended, hW, hsame⟩ := X4.leave (v := none) (fun _ => rfl)
 refine ⟨_, _, X4.returnOut hx Bd.returns (hb hby dCI_19) hr, hrun, hended, _, _, rfl, ?_, ⟨_, rfl⟩, hW, hsame.mono (by decide) (by decide)⟩
 change Q_own_ctor Z x s0 s1 s2 u0 u1 u2 h0 n0 _ T4.heap _; rw [e4]; exact ⟨rfl, N4, K4, ((Fw2.other W3 (Or.inr (slot_ne (Or.inr (wd41 hw)) (Or.inr (wd43 hw)) (by decide) (t := (.object "java/lang/String")) (t' := (.object "java/lang/String")) (by decide) (by decide)))).other W4 (Or.inr (slot_ne (Or.inr (wd41 hw)) (Or.inr (wd45 hw)) (by decide) (t := (.object "java/lang/String")) (t' := (.object "com/example/garm/garm/Conformance")) (by decide) (by decide)))), (Fw3.other W4 (Or.inr (slot_ne (Or.inr (wd43 hw)) (Or.inr (wd45 hw)) (by decide) (t := (.object "java/lang/String")) (t' := (.object "com/example/garm/garm/Conformance")) (by decide) (by decide)))), Fw4⟩

def Q_own_cfC (Z : State) (x s2 : Nat) (h0 : Heap) (n0 : Nat) (v : Option Value) (h : Heap) (L : List Loc) : Prop := v = some (.ref s2) ∧ Fr n0 L ∧ h = h0
theorem own_cfC (l : Launch) (Z : State) (a0 : Array Value) (hw : hWt a0 Z) (ws : List Jvm.Cond) (x s2 : Nat) (h0 : Heap) (n0 : Nat) (Z0 : n0 ≤ h0.size) (X00 : Old Z n0 h0) (F2 : Fld Z h0 x "com/example/garm/garm/SecurityTarget$Claim" "conformance" "Lcom/example/garm/garm/Conformance;" (.ref s2)) :
 own_MN l mN31 prog_41_method_3_code 1 (some (.object "com/example/garm/garm/Conformance")) ws rm_0_0_0_0 Z #[(.ref x)] h0 (Q_own_cfC Z x s2 h0 n0) := by
 refine own_bodyN (plainFor_of_name own_pn6) fun p e s m below meth c s₁ Bd hx hby hml hown hZ X0 e0 => ?_
 have N0 := Fr.nil n0
 have K0 : Keep h0 h0 [] := Keep.refl h0 []
 refine own_st (fun tq kq => castTop (ef_own_coder0 m (x)) kq) ?_
 show own_G p e below _ (s₁.setTop (mkF m 0 #[vR x] []))
 refine s_aloadN X0 hx (hb hby dCF_0) rfl rfl ?_
 obtain ⟨T1, X1, e1, st1⟩ := getF X0 hx hZ hown (host := "") (Or.inl (wd44 hw)) Via.refl e0 F2 (g := (mkF m 1 #[vR x] [(.ref x)])) rfl rfl (hb hby dCF_1)
 refine own_st st1 ?_
 obtain ⟨fs, hr, hrun, hended, hW, hsame⟩ := X1.leave (v := some (.ref s2)) (fun h => by rw [Bd.returns] at h; cases h)
 refine ⟨_, _, retOut X1 hx Bd.returns rfl (Or.inr (Or.inr (Or.inr (Or.inr ⟨rfl, rfl, rfl⟩)))) (hb hby dCF_4) hr, hrun, hended, _, _, rfl, ?_, ⟨_, rfl⟩, hW, hsame.mono (by decide) (by decide)⟩
 change Q_own_cfC Z x s2 h0 n0 _ T1.heap _; rw [e1]; exact ⟨rfl, N0, rfl⟩

def Q_own_cts (Z : State) (x s0 s1 nb : Nat) (d0 d1 : List Int32) (G1 : Int32) (h0 : Heap) (n0 : Nat) (v : Option Value) (_vm : Vm) (h : Heap) (L : List Loc) : Prop := ∃ a : Nat, v = some (.ref a) ∧ Fr n0 L ∧ Keep h0 h [] ∧ h0.size ≤ a ∧ own_Str Z h.size h a ((d0 ++ ([32] : List Int32)) ++ d1)
theorem own_cts (l : Launch) (Z : State) (a0 : Array Value) (hw : hWt a0 Z) (hEL : EW Z a0 consts_1) (ws : List Jvm.Cond) (x s0 s1 nb : Nat) (d0 d1 : List Int32) (G1 : Int32) (h0 : Heap) (n0 : Nat) (Z0 : n0 ≤ h0.size) (X00 : Old Z n0 h0) (F0 : Fld Z h0 x "com/example/garm/garm/SecurityTarget$Claim" "profile" "Ljava/lang/String;" (.ref s0)) (F1 : Fld Z h0 x "com/example/garm/garm/SecurityTarget$Claim" "version" "Ljava/lang/String;" (.ref s1)) (Sp0 : own_Str Z nb h0 s0 d0) (Sp1 : own_Str Z nb h0 s1 d1) (hnb : nb ≤ h0.size) (h30 : d0.length ≤ 3) (h31 : d1.length ≤ 3) (O2 : Sta Z Z.heap "java/lang/String" "COMPACT_STRINGS" "Z" (.int G1)) (P5 : ¬ (G1 = (0 : Int32))) :
    MetFree l mN32 (head1 (Jvm.Cond.code mN32 prog_41_method_4_code 1 (some (.object "java/lang/String")) :: ws) rm_6_6_60_130) (own_P Z consts_1 #[(.ref x)] h0 []) (fun _ _ _ _ _ => True) (own_E Z consts_1 (Q_own_cts Z x s0 s1 nb d0 d1 G1 h0 n0) rm_6_6_60_130) := by
 refine MetFree.of_bodySF (plainFor_of_name own_pn6) hisR ?_
 intro p e s m args below meth c s₁ Bd hml0 hP hK
 obtain ⟨rfl, hZ, hh, hCH, hSafe⟩ := hP
 have hx := Bd.exec
 have hby := Bd.bytes
 have hml : c.maxLocals = 1 := hml0
 have hown : s.vm.findClass "com/example/garm/garm/SecurityTarget$Claim" = some m.cls := findClass_of_methodNamed Bd.named
 have X0 : Stand p l e rm_6_6_60_130 (s.setVm s.vm) m #[(.ref x)] below meth c s₁ [] 0 0 := Stand.of_body Bd
 have e0 : s₁.heap = h0 := by rw [← hh, Bd.state]; rfl
 have N0 := Fr.nil n0
 have K0 : Keep h0 h0 [] := Keep.refl h0 []
 have S0 : s.Since s.vm 0 := own_since s
 have C0 : CHr Z consts_1 s.vm h0 s.vm h0 := CHr.refl hCH
 refine show own_G p e below (own_E Z consts_1 (Q_own_cts Z x s0 s1 nb d0 d1 G1 h0 n0) rm_6_6_60_130 #[(.ref x)] s) _ from ?_
 refine own_st (fun tq kq => castTop (ef_own_coder0 m (x)) kq) ?_
 show own_G p e below _ (s₁.setTop (mkF m 0 #[vR x] []))
 have ltx : x < h0.size := F0.lt
 obtain ⟨T1, h1, X1, e1, E1, A1, D1, -, st1⟩ := newO X0 hx hZ hown (wd51 hw) (wd52 hw) (wd53 hw) e0 (g := (mkF m 0 #[vR x] [])) rfl (hb hby dCT_0) (by decide) (by decide)
 obtain ⟨b1, g1⟩ : ∃ z, z = h0.size := ⟨_, rfl⟩
 rw [← g1] at A1 D1 st1
 have lt1 : b1 < h1.size := A1.lt
 have sz1 : h0.size ≤ h1.size := E1.1
 have K1 : Keep h0 h1 [] := K0.ext E1
 have c1 : CHr Z consts_1 s.vm h0 s.vm h1 := CHr.ext E1 C0.1
 have C1 := C0.trans c1
 have F1_value : Fld Z h1 b1 "java/lang/AbstractStringBuilder" "value" "[B" .null := D1 (Or.inl (wd66 hw)) (ty := (.array .byte)) (by decide)
 have F1_coder : Fld Z h1 b1 "java/lang/AbstractStringBuilder" "coder" "B" (.int 0) := D1 (Or.inl (wd68 hw)) (ty := .byte) (by decide)
 have F1_count : Fld Z h1 b1 "java/lang/AbstractStringBuilder" "count" "I" (.int 0) := D1 (Or.inl (wd91 hw)) (ty := .int) (by decide)
 refine own_st st1 ?_
 refine own_st (fun tq kq => XS.dup X1.here hx rfl (hb hby dCT_3) rfl rfl kq) ?_
 obtain ⟨_, _, ⟨T2, L2, k2, n2⟩, -, X2, ⟨Lc2, hQ2, l2, y2, z2⟩, st2⟩ := X1.specialBack hx (y := mN11) rfl hown (mvT hZ (wd54 hw)) (mvT hZ (wd55 hw)) (mvT hZ (wd56 hw)) (by decide) (own_backN (W := 1) (own_sbi l Z a0 hw [] (b1) (.null) (.int 0) (G1) h1 n0 (by omega) (X00.keep K1 all0) A1 F1_value F1_coder F1_count (by omega) (by omega) O2 P5) hZ (wd56 hw) (wd53 hw) (by decide) (by decide)) (g := (mkF m 4 #[vR x] [(.ref b1), (.ref b1)])) rfl (by rw [hml]; rfl) (Steps.refl _) (a := b1) (argsL := []) (rest := [(.ref b1)]) (lenOf own_pd18 rfl) rfl (Nat.le_of_eq rfl) (hb hby dCT_4) (fun _ _ => ⟨rfl, e1, (by decide : 1 + 1 ≤ _), (by decide : 4 + 16 ≤ _)⟩)
 dsimp only [Pt.U, Pt.locs, Pt.cells, Pt.slots] at X2 l2 y2 z2 st2 hQ2
 subst l2 y2 z2
 obtain ⟨rfl, Nq2, Kq2, t2, kb2, gt2, lt2, Bq2⟩ := hQ2
 have KK2 : Keep h1 T2.heap [b1] := Kq2
 have sz2 : h1.size ≤ T2.heap.size := KK2.1
 have K2 : Keep h0 T2.heap [] := K1.trans KK2 (allS (Or.inr (own_le (by omega))) all0)
 have c2 : CHr Z consts_1 s.vm h1 s.vm T2.heap := CHr.keep KK2 (allS (Safe.exa hZ.alike A1 (by decide) (by decide)) all0) C1.1
 have C2 := C1.trans c2
 have N2 := Fr.app N0 Nq2
 obtain ⟨Eb2, Fvb2, Fdb2, Fnb2, Vb2⟩ := id Bq2
 have Sft2 : Safe Z consts_1 s.vm T2.heap t2 := Safe.keep KK2 (allS (Safe.exa hZ.alike A1 (by decide) (by decide)) all0) C1.1 (Safe.new (own_le (by omega)))
 refine own_st (fun tq kq => st2.trans kq) ?_
 refine s_aloadN X2 hx (hb hby dCT_7) rfl rfl ?_
 obtain ⟨T3, X3, e3, st3⟩ := getF X2 hx hZ hown (host := "") (Or.inl (wd40 hw)) Via.refl rfl ((F0.ext E1).keep KK2 (ninS (own_ne (by omega)) nin0)) (g := (mkF m 8 #[vR x] [(.ref x), (.ref b1)])) rfl rfl (hb hby dCT_8)
 refine own_st st3 ?_
 obtain ⟨cq4, kq4, q4a, q4b, q4c⟩ := isOf hZ e3 Eb2
 obtain ⟨_, _, ⟨T4, L4, k4, n4⟩, -, X4, ⟨Lc4, hQ4, l4, y4, z4⟩, st4⟩ := X3.virtualBack hx (y := mN9) (z := mN9) hown (mvT hZ (wd69 hw)) (mvT hZ (wd70 hw)) (notFace_of_selects (args := #[]) (mvT hZ (wd72 hw))) (mvT hZ (wd72 hw)) (mvT hZ (wd71 hw)) (by decide) (own_backN (W := 0) (own_sba l Z a0 hw [] (b1) (t2) (s0) (nb) (kb2) (([] : List Int32)) (d0) (G1) T2.heap n0 (by omega) (X00.keep K2 all0) ((Sp0.ext E1).keepX KK2 A1 (wd52 hw) (by decide)) ⟨Eb2, Fvb2, Fdb2, Fnb2, Vb2⟩ (by simp only [List.length_append, List.length_cons, List.length_nil]; omega) (by omega) (by omega) (own_ne (by omega)) O2 P5) hZ (wd73 hw) (wd53 hw) (by decide) (by decide)) q4a q4c (g := (mkF m 11 #[vR x] [(.ref s0), (.ref b1)])) rfl (by rw [hml]; rfl) (Steps.refl _) (argsL := [(.ref s0)]) (rest := []) (lenOf own_pd19 rfl) rfl (Nat.le_of_eq rfl) (hb hby dCT_11) (fun _ _ => ⟨rfl, e3, (by decide : 2 + 0 ≤ _), (by decide : 20 + 0 ≤ _)⟩)
 dsimp only [Pt.U, Pt.locs, Pt.cells, Pt.slots] at X4 l4 y4 z4 st4 hQ4
 subst l4 y4 z4
 obtain ⟨rfl, Nq4, Kq4, Bq4⟩ := hQ4
 have KK4 : Keep T2.heap T4.heap [b1, t2] := Kq4
 have sz4 : T2.heap.size ≤ T4.heap.size := KK4.1
 have K4 : Keep h0 T4.heap [] := K2.trans KK4 (allS (Or.inr (own_le (by omega))) (allS (Or.inr (own_le (by omega))) all0))
 have c4 : CHr Z consts_1 s.vm T2.heap s.vm T4.heap := CHr.keep KK4 (allS (Safe.exa hZ.alike Eb2 (by decide) (by decide)) (allS Sft2 all0)) C2.1
 have C4 := C2.trans c4
 have Sf4_5 := c4.safe (own_lt (by omega)) Sft2
 have N4 := Fr.app N2 Nq4
 obtain ⟨Eb4, Fvb4, Fdb4, Fnb4, Vb4⟩ := id Bq4
 refine own_st (fun tq kq => st4.trans kq) ?_
 obtain ⟨a6, T6, h6, k6, b6, kb6, X6, e6, E6, S6, hk6, Z6, o6, Ex6, Fc6, Fv6, Av6, la6, lb6, c6, L6, ne6, st6⟩ := ldcCH (s := s) (vm0 := s.vm) X4 hx hZ hown (wd117 hw) (own_wS hw) rfl S0 (own_le (by omega)) hEL (by simp [consts_1]) C4.1 (vs := [(.int (32 : Int32))]) (z := (1 : Int32)) ⟨by decide, by decide⟩ (by decide) (by decide) (g := (mkF m 14 #[vR x] [(.ref b1)])) rfl (hb hby dCT_14) (n := 4) (by decide) (by decide) (by decide) (by decide)
 have la6 := own_lt la6
 have lb6 := own_lt lb6
 have sz6 : T4.heap.size ≤ h6.size := E6.1
 have K6 : Keep h0 h6 [] := K4.ext E6
 have C6 := C4.trans c6
 have Sf6_7 := c6.safe (own_lt (by omega)) Sf4_5
 obtain ⟨nx8, ny8⟩ := ne6 _ Sf6_7
 have nx8 := own_ne nx8
 have ny8 := own_ne ny8
 refine own_st st6 ?_
 have Sl10 : own_Str Z h6.size h6 a6 ([32] : List Int32) := ⟨own_lt (by omega), Ex6, (by decide), (by decide), b6, _, own_lt (by omega), Fv6, Fc6, (by exact Av6)⟩
 obtain ⟨cq9, kq9, q9a, q9b, q9c⟩ := isOf Z6 e6 (Eb4.ext E6)
 obtain ⟨_, _, ⟨T9, L9, k9, n9⟩, -, X9, ⟨Lc9, hQ9, l9, y9, z9⟩, st9⟩ := X6.virtualBack hx (y := mN9) (z := mN9) o6 (mvT Z6 (wd69 hw)) (mvT Z6 (wd70 hw)) (notFace_of_selects (args := #[]) (mvT Z6 (wd72 hw))) (mvT Z6 (wd72 hw)) (mvT Z6 (wd71 hw)) (by decide) (own_backN (W := 0) (own_sba l Z a0 hw [] (b1) (t2) (a6) (h6.size) (kb2) ((([] : List Int32) ++ d0)) (([32] : List Int32)) (G1) h6 n0 (by omega) (X00.keep K6 all0) Sl10 ⟨(Eb4.ext E6), (Fvb4.ext E6), (Fdb4.ext E6), (Fnb4.ext E6), (Vb4.ext E6)⟩ (by simp only [List.length_append, List.length_cons, List.length_nil]; omega) (by omega) (by omega) (own_ne (by omega)) O2 P5) Z6 (wd73 hw) (wd53 hw) (by decide) (by decide)) q9a q9c (g := (mkF m 16 #[vR x] [(.ref a6), (.ref b1)])) rfl (by rw [hml]; rfl) (Steps.refl _) (argsL := [(.ref a6)]) (rest := []) (lenOf own_pd19 rfl) rfl (Nat.le_of_eq rfl) (hb hby dCT_16) (fun _ _ => ⟨rfl, e6, (by decide : 4 + 0 ≤ _), (by decide : 28 + 0 ≤ _)⟩)
 dsimp only [Pt.U, Pt.locs, Pt.cells, Pt.slots] at X9 l9 y9 z9 st9 hQ9
 subst l9 y9 z9
 obtain ⟨rfl, Nq9, Kq9, Bq9⟩ := hQ9
 have KK9 : Keep h6 T9.heap [b1, t2] := Kq9
 have sz9 : h6.size ≤ T9.heap.size := KK9.1
 have K9 : Keep h0 T9.heap [] := K6.trans KK9 (allS (Or.inr (own_le (by omega))) (allS (Or.inr (own_le (by omega))) all0))
 have c9 : CHr Z consts_1 T6.vm h6 T6.vm T9.heap := CHr.keep KK9 (allS (Safe.exa Z6.alike (Eb4.ext E6) (by decide) (by decide)) (allS Sf6_7 all0)) C6.1
 have C9 := C6.trans c9
 have Sf9_11 := c9.safe (own_lt (by omega)) Sf6_7
 have N9 := Fr.app N4 Nq9
 obtain ⟨Eb9, Fvb9, Fdb9, Fnb9, Vb9⟩ := id Bq9
 refine own_st (fun tq kq => st9.trans kq) ?_
 refine s_aloadN X9 hx (hb hby dCT_19) rfl rfl ?_
 obtain ⟨T12, X12, e12, st12⟩ := getF X9 hx Z6 o6 (host := "") (Or.inl (wd42 hw)) Via.refl rfl (((((F1.ext E1).keep KK2 (ninS (own_ne (by omega)) nin0)).keep KK4 (ninS (own_ne (by omega)) (ninS (own_ne (by omega)) nin0))).ext E6).keep KK9 (ninS (own_ne (by omega)) (ninS (own_ne (by omega)) nin0))) (g := (mkF m 20 #[vR x] [(.ref x), (.ref b1)])) rfl rfl (hb hby dCT_20)
 refine own_st st12 ?_
 obtain ⟨cq13, kq13, q13a, q13b, q13c⟩ := isOf Z6 e12 Eb9
 obtain ⟨_, _, ⟨T13, L13, k13, n13⟩, -, X13, ⟨Lc13, hQ13, l13, y13, z13⟩, st13⟩ := X12.virtualBack hx (y := mN9) (z := mN9) o6 (mvT Z6 (wd69 hw)) (mvT Z6 (wd70 hw)) (notFace_of_selects (args := #[]) (mvT Z6 (wd72 hw))) (mvT Z6 (wd72 hw)) (mvT Z6 (wd71 hw)) (by decide) (own_backN (W := 0) (own_sba l Z a0 hw [] (b1) (t2) (s1) (nb) (kb2) (((([] : List Int32) ++ d0) ++ ([32] : List Int32))) (d1) (G1) T9.heap n0 (by omega) (X00.keep K9 all0) (((((Sp1.ext E1).keepX KK2 A1 (wd52 hw) (by decide)).keep KK4 (allS (own_le (by omega)) (allS (own_le (by omega)) all0))).ext E6).keep KK9 (allS (own_le (by omega)) (allS (own_le (by omega)) all0))) ⟨Eb9, Fvb9, Fdb9, Fnb9, Vb9⟩ (by simp only [List.length_append, List.length_cons, List.length_nil]; omega) (by omega) (by omega) (own_ne (by omega)) O2 P5) Z6 (wd73 hw) (wd53 hw) (by decide) (by decide)) q13a q13c (g := (mkF m 23 #[vR x] [(.ref s1), (.ref b1)])) rfl (by rw [hml]; rfl) (Steps.refl _) (argsL := [(.ref s1)]) (rest := []) (lenOf own_pd19 rfl) rfl (Nat.le_of_eq rfl) (hb hby dCT_23) (fun _ _ => ⟨rfl, e12, (by decide : 4 + 0 ≤ _), (by decide : 28 + 0 ≤ _)⟩)
 dsimp only [Pt.U, Pt.locs, Pt.cells, Pt.slots] at X13 l13 y13 z13 st13 hQ13
 subst l13 y13 z13
 obtain ⟨rfl, Nq13, Kq13, Bq13⟩ := hQ13
 have KK13 : Keep T9.heap T13.heap [b1, t2] := Kq13
 have sz13 : T9.heap.size ≤ T13.heap.size := KK13.1
 have K13 : Keep h0 T13.heap [] := K9.trans KK13 (allS (Or.inr (own_le (by omega))) (allS (Or.inr (own_le (by omega))) all0))
 have c13 : CHr Z consts_1 T6.vm T9.heap T6.vm T13.heap := CHr.keep KK13 (allS (Safe.exa Z6.alike Eb9 (by decide) (by decide)) (allS Sf9_11 all0)) C9.1
 have C13 := C9.trans c13
 have Sf13_14 := c13.safe (own_lt (by omega)) Sf9_11
 have N13 := Fr.app N9 Nq13
 obtain ⟨Eb13, Fvb13, Fdb13, Fnb13, Vb13⟩ := id Bq13
 refine own_st (fun tq kq => st13.trans kq) ?_
 obtain ⟨cq15, kq15, q15a, q15b, q15c⟩ := isOf Z6 rfl Eb13
 obtain ⟨_, _, ⟨T15, L15, k15, n15⟩, -, X15, ⟨Lc15, hQ15, l15, y15, z15⟩, st15⟩ := X13.virtualBack hx (y := mN22) (z := mN22) o6 (mvT Z6 (wd118 hw)) (mvT Z6 (wd119 hw)) (notFace_of_selects (args := #[]) (mvT Z6 (wd121 hw))) (mvT Z6 (wd121 hw)) (mvT Z6 (wd120 hw)) (by decide) (own_backN (W := 0) (own_ts l Z a0 hw [] (b1) (t2) (kb2) ((((([] : List Int32) ++ d0) ++ ([32] : List Int32)) ++ d1)) (G1) T13.heap n0 (by omega) (X00.keep K13 all0) ⟨Eb13, Fvb13, Fdb13, Fnb13, Vb13⟩ (by simp only [List.length_append, List.length_cons, List.length_nil]; omega) (own_okA (own_okA (own_okA own_okN Sp0.2.2.1) (by decide)) Sp1.2.2.1) O2 P5) Z6 (wd122 hw) (wd53 hw) (by decide) (by decide)) q15a q15c (g := (mkF m 26 #[vR x] [(.ref b1)])) rfl (by rw [hml]; rfl) (Steps.refl _) (argsL := []) (rest := []) (lenOf own_pd20 rfl) rfl (Nat.le_of_eq rfl) (hb hby dCT_26) (fun _ _ => ⟨rfl, rfl, (by decide : 4 + 2 ≤ _), (by decide : 28 + 20 ≤ _)⟩)
 dsimp only [Pt.U, Pt.locs, Pt.cells, Pt.slots] at X15 l15 y15 z15 st15 hQ15
 subst l15 y15 z15
 obtain ⟨a15, rfl, Nq15, Kq15, ga15, Str15⟩ := hQ15
 have KK15 : Keep T13.heap T15.heap [] := Kq15
 have sz15 : T13.heap.size ≤ T15.heap.size := KK15.1
 have K15 : Keep h0 T15.heap [] := K13.trans KK15 all0
 have c15 : CHr Z consts_1 T6.vm T13.heap T6.vm T15.heap := CHr.keep KK15 all0 C13.1
 have C15 := C13.trans c15
 have Sf15_16 := c15.safe (own_lt (by omega)) Sf13_14
 have N15 := Fr.app N13 Nq15
 refine own_st (fun tq kq => st15.trans kq) ?_
 obtain ⟨fs, hr, hrun, hended, hRW⟩ := X15.leaveW S6 (own_le (by omega)) (v := some (.ref a15)) (fun h => by rw [Bd.returns] at h; cases h)
 have cE := C15.trans (CHv.at (s := s) (vm0 := T6.vm) X15 Z6 hEL C15.1)
 refine ⟨_, _, retOut X15 hx Bd.returns rfl (Or.inr (Or.inr (Or.inr (Or.inr ⟨rfl, rfl, rfl⟩)))) (hb hby dCT_29) hr, hrun, hended, _, _, rfl, ?_, ?_, own_RW hRW (by decide) (by decide)⟩
 · change Q_own_cts Z x s0 s1 nb d0 d1 G1 h0 n0 _ T15.vm T15.heap _; exact ⟨a15, rfl, N15, K15, (by omega), Str15⟩
 · rw [hh]; change CHr Z consts_1 s.vm h0 T15.vm T15.heap; exact cE

def Q_rm0 (Z : State) (p0 p1 p2 G1 : Int32) (wE wS wD : Nat) (fm : Value) (h0 : Heap) (n0 : Nat) (v : Option Value) (_vm : Vm) (h : Heap) (L : List Loc) : Prop := v = some (.int (1 : Int32)) ∧ Fr n0 L
theorem ef_rm0 (m : MethodId) (x0 : Int32) (x1 : Int32) (x2 : Int32) : entryFrame m #[(.int x0), (.int x1), (.int x2)] maxLocals = mkF m 0 #[.val (.int x0), .val (.int x1), .val (.int x2), .unset, .unset, .unset, .unset, .unset, .unset, .unset, .unset] [] := by first | (simp [entryFrame, mkF, argsToLocals, Value.category, maxLocals]; done) | rfl
theorem rm0 (l : Launch) (Z : State) (a0 : Array Value) (hw : hWt a0 Z) (hEL : EW Z a0 consts_1) (ws : List Jvm.Cond) (p0 p1 p2 G1 : Int32) (wE wS wD : Nat) (fm : Value) (h0 : Heap) (n0 : Nat) (Z0 : n0 ≤ h0.size) (X00 : Old Z n0 h0) (O2 : Sta Z Z.heap "java/lang/String" "COMPACT_STRINGS" "Z" (.int G1)) (P5 : ¬ (G1 = (0 : Int32))) (OE : Sta Z Z.heap "com/example/garm/garm/Conformance" "EXACT" "Lcom/example/garm/garm/Conformance;" (.ref wE)) (OS : Sta Z Z.heap "com/example/garm/garm/Conformance" "STRICT" "Lcom/example/garm/garm/Conformance;" (.ref wS)) (OD : Sta Z Z.heap "com/example/garm/garm/Conformance" "DEMONSTRABLE" "Lcom/example/garm/garm/Conformance;" (.ref wD)) (O4 : Sta Z Z.heap "jdk/internal/util/Preconditions" "SIOOBE_FORMATTER" "Ljava/util/function/BiFunction;" fm) (rfm : fm.isRef = true) :
    MetFree l x (head1 (Jvm.Cond.code x code maxLocals ret :: ws) room_1) (own_P Z consts_1 #[(.int p0), (.int p1), (.int p2)] h0 []) (fun _ _ _ _ _ => True) (own_E Z consts_1 (Q_rm0 Z p0 p1 p2 G1 wE wS wD fm h0 n0) room_1) := by
 refine MetFree.of_bodySF (plainFor_of_name own_pn5) hisR ?_
 intro p e s m args below meth c s₁ Bd hml0 hP hK
 obtain ⟨rfl, hZ, hh, hCH, hSafe⟩ := hP
 have hx := Bd.exec
 have hby := Bd.bytes
 have hml : c.maxLocals = 11 := hml0
 have hown : s.vm.findClass "com/example/garm/garm/ClaimToStringPinLaw" = some m.cls := findClass_of_methodNamed Bd.named
 have X0 : Stand p l e room_1 (s.setVm s.vm) m #[(.int p0), (.int p1), (.int p2)] below meth c s₁ [] 0 0 := Stand.of_body Bd
 have e0 : s₁.heap = h0 := by rw [← hh, Bd.state]; rfl
 have N0 := Fr.nil n0
 have K0 : Keep h0 h0 [] := Keep.refl h0 []
 have S0 : s.Since s.vm 0 := own_since s
 have C0 : CHr Z consts_1 s.vm h0 s.vm h0 := CHr.refl hCH
 refine show own_G p e below (own_E Z consts_1 (Q_rm0 Z p0 p1 p2 G1 wE wS wD fm h0 n0) room_1 #[(.int p0), (.int p1), (.int p2)] s) _ from ?_
 refine own_st (fun tq kq => castTop (ef_rm0 m (p0) (p1) (p2)) kq) ?_
 show own_G p e below _ (s₁.setTop (mkF m 0 #[vI p0, vI p1, vI p2, .unset, .unset, .unset, .unset, .unset, .unset, .unset, .unset] []))
 refine s_iloadN X0 hx (hb hby at_0) rfl ?_
 obtain ⟨_, _, ⟨T1, L1, k1, n1⟩, -, Y1, S1p, gr1, ⟨Lc1, hQ1, l1, y1, z1, c1⟩, st1⟩ := callSS X0 hx (y := mN27) hown (mvT hZ (wd0 hw)) (mvT hZ (wd1 hw)) (mvT hZ (wd2 hw)) (mvT hZ (wd3 hw)) (by decide) (own_back (s := s) (vm0 := s.vm) (W := 0) (own_strC l Z a0 hw hEL [] (p0) (G1) h0 n0 (by omega) (X00.keep K0 all0) O2 P5) hZ (wd3 hw) (wd2 hw) (by decide) (by decide) hEL C0.1 all0) (g := (mkF m 1 #[vI p0, vI p1, vI p2, .unset, .unset, .unset, .unset, .unset, .unset, .unset, .unset] [(.int p0)])) rfl (by rw [hml]; rfl) (argsL := [(.int p0)]) (rest := []) (lenOf own_pd21 rfl) rfl (Nat.le_of_eq rfl) (hb hby at_1) (fun _ _ => ⟨rfl, e0, (by decide : 0 + 4 ≤ _), (by decide : 0 + 16 ≤ _)⟩)
 dsimp only [Pt.U, Pt.locs, Pt.cells, Pt.slots] at Y1 S1p gr1 l1 y1 z1 st1 hQ1 c1
 subst l1 y1 z1
 obtain ⟨X1, S1, Z1, o1⟩ := rebS S0 (by rw [e0]; exact (own_le (by omega))) Y1 S1p gr1 hZ hown
 obtain ⟨a1, rfl, Nq1, Kq1, ga1, Str1⟩ := hQ1
 have KK1 : Keep h0 T1.heap [] := Kq1
 have sz1 : h0.size ≤ T1.heap.size := KK1.1
 have K1 : Keep h0 T1.heap [] := K0.trans KK1 all0
 have C1 := C0.trans c1
 have N1 := Fr.app N0 Nq1
 refine own_st (fun tq kq => st1.trans kq) ?_
 refine own_st (fun tq kq => XS.astoreN X1.here hx rfl (hb hby at_4) rfl rfl (l' := #[vI p0, vI p1, vI p2, vR a1, .unset, .unset, .unset, .unset, .unset, .unset, .unset]) rfl kq) ?_
 refine s_iloadN X1 hx (hb hby at_5) rfl ?_
 obtain ⟨_, _, ⟨T2, L2, k2, n2⟩, -, Y2, S2p, gr2, ⟨Lc2, hQ2, l2, y2, z2, c2⟩, st2⟩ := callSS X1 hx (y := mN27) o1 (mvT Z1 (wd0 hw)) (mvT Z1 (wd1 hw)) (mvT Z1 (wd2 hw)) (mvT Z1 (wd3 hw)) (by decide) (own_back (s := s) (vm0 := T1.vm) (W := 0) (own_strC l Z a0 hw hEL [] (p1) (G1) T1.heap n0 (by omega) (X00.keep K1 all0) O2 P5) Z1 (wd3 hw) (wd2 hw) (by decide) (by decide) hEL C1.1 all0) (g := (mkF m 6 #[vI p0, vI p1, vI p2, vR a1, .unset, .unset, .unset, .unset, .unset, .unset, .unset] [(.int p1)])) rfl (by rw [hml]; rfl) (argsL := [(.int p1)]) (rest := []) (lenOf own_pd21 rfl) rfl (Nat.le_of_eq rfl) (hb hby at_6) (fun _ _ => ⟨rfl, rfl, (by decide : 4 + 4 ≤ _), (by decide : 16 + 16 ≤ _)⟩)
 dsimp only [Pt.U, Pt.locs, Pt.cells, Pt.slots] at Y2 S2p gr2 l2 y2 z2 st2 hQ2 c2
 subst l2 y2 z2
 obtain ⟨X2, S2, Z2, o2⟩ := rebS S1 (own_le (by omega)) Y2 S2p gr2 Z1 o1
 obtain ⟨a2, rfl, Nq2, Kq2, ga2, Str2⟩ := hQ2
 have KK2 : Keep T1.heap T2.heap [] := Kq2
 have sz2 : T1.heap.size ≤ T2.heap.size := KK2.1
 have K2 : Keep h0 T2.heap [] := K1.trans KK2 all0
 have C2 := C1.trans c2
 have N2 := Fr.app N1 Nq2
 refine own_st (fun tq kq => st2.trans kq) ?_
 refine own_st (fun tq kq => XS.astore X2.here hx rfl (hb hby at_9) rfl rfl (l' := #[vI p0, vI p1, vI p2, vR a1, vR a2, .unset, .unset, .unset, .unset, .unset, .unset]) rfl kq) ?_
 refine s_iloadN X2 hx (hb hby at_11) rfl ?_
 refine own_st (fun tq kq => X2.ldcInt hx o2 (mvT Z2 (wd29 hw)) (g := (mkF m 12 #[vI p0, vI p1, vI p2, vR a1, vR a2, .unset, .unset, .unset, .unset, .unset, .unset] [(.int p2)])) rfl (hb hby at_12) _ kq) ?_
 refine own_st (fun tq kq => XS.iand X2.here hx rfl (hb hby at_14) rfl kq) ?_
 show own_G p e below _ (T2.setTop (mkF m 15 #[vI p0, vI p1, vI p2, vR a1, vR a2, .unset, .unset, .unset, .unset, .unset, .unset] [(.int (p2 &&& (2147483647 : Int32)))]))
 refine s_iconst X2 hx (hb hby at_15) ?_
 refine own_st (fun tq kq => Jvm.RoadKit.iremM (g := (mkF m 16 #[vI p0, vI p1, vI p2, vR a1, vR a2, .unset, .unset, .unset, .unset, .unset, .unset] [(.int 3), (.int (p2 &&& (2147483647 : Int32)))])) X2 hx rfl (hb hby at_16) rfl (by decide) kq) ?_
 refine own_st (fun tq kq => XS.istore X2.here hx rfl (hb hby at_17) rfl (l' := #[vI p0, vI p1, vI p2, vR a1, vR a2, vI ((p2 &&& (2147483647 : Int32)) % (3 : Int32)), .unset, .unset, .unset, .unset, .unset]) rfl kq) ?_
 refine s_iload X2 hx (hb hby at_19) rfl ?_
 show own_G p e below _ (T2.setTop (mkF m 21 #[vI p0, vI p1, vI p2, vR a1, vR a2, vI ((p2 &&& (2147483647 : Int32)) % (3 : Int32)), .unset, .unset, .unset, .unset, .unset] [(.int ((p2 &&& (2147483647 : Int32)) % (3 : Int32)))]))
 by_cases hc21_3 : (((p2 &&& (2147483647 : Int32)) % (3 : Int32)) = (0 : Int32))
 ·
  refine own_st (fun tq kq => XS.ifNo X2.here hx rfl (hb hby at_21) rfl ((if0 _ _).trans (teq hc21_3).2) kq) ?_
  obtain ⟨T4, X4, e4, st4⟩ := getS2 X2 hx Z2 o2 (host := "") (Or.inl (wd194 hw)) Via.refl rfl (OE.ext (X00.keep K2 all0).2) (g := (mkF m 24 #[vI p0, vI p1, vI p2, vR a1, vR a2, vI ((p2 &&& (2147483647 : Int32)) % (3 : Int32)), .unset, .unset, .unset, .unset, .unset] [])) rfl (hb hby at_24)
  refine own_st st4 ?_
  refine own_st (fun tq kq => XS.goto X4.here hx rfl (pc0 := 27) (pc' := 45) rfl (hb hby at_27) (by decide) (by decide) kq) ?_
  refine own_st (fun tq kq => XS.astore X4.here hx rfl (hb hby at_45) rfl rfl (l' := #[vI p0, vI p1, vI p2, vR a1, vR a2, vI ((p2 &&& (2147483647 : Int32)) % (3 : Int32)), vR wE, .unset, .unset, .unset, .unset]) rfl kq) ?_
  obtain ⟨T5, h5, X5, e5, E5, A5, D5, -, st5⟩ := newO X4 hx Z2 o2 (wd33 hw) (wd34 hw) (wd35 hw) e4 (g := (mkF m 47 #[vI p0, vI p1, vI p2, vR a1, vR a2, vI ((p2 &&& (2147483647 : Int32)) % (3 : Int32)), vR wE, .unset, .unset, .unset, .unset] [])) rfl (hb hby at_47) (by decide) (by decide)
  obtain ⟨b5, g5⟩ : ∃ z, z = T2.heap.size := ⟨_, rfl⟩
  rw [← g5] at A5 D5 st5
  have lt5 : b5 < h5.size := A5.lt
  have sz5 : T2.heap.size ≤ h5.size := E5.1
  have K5 : Keep h0 h5 [] := K2.ext E5
  have c5 : CHr Z consts_1 T2.vm T2.heap T2.vm h5 := CHr.ext E5 C2.1
  have C5 := C2.trans c5
  have F5_profile : Fld Z h5 b5 "com/example/garm/garm/SecurityTarget$Claim" "profile" "Ljava/lang/String;" .null := D5 (Or.inr (wd41 hw)) (ty := (.object "java/lang/String")) (by decide)
  have F5_version : Fld Z h5 b5 "com/example/garm/garm/SecurityTarget$Claim" "version" "Ljava/lang/String;" .null := D5 (Or.inr (wd43 hw)) (ty := (.object "java/lang/String")) (by decide)
  have F5_conformance : Fld Z h5 b5 "com/example/garm/garm/SecurityTarget$Claim" "conformance" "Lcom/example/garm/garm/Conformance;" .null := D5 (Or.inr (wd45 hw)) (ty := (.object "com/example/garm/garm/Conformance")) (by decide)
  refine own_st st5 ?_
  refine own_st (fun tq kq => XS.dup X5.here hx rfl (hb hby at_50) rfl rfl kq) ?_
  refine s_aloadN X5 hx (hb hby at_51) rfl rfl ?_
  refine s_aload X5 hx (hb hby at_52) rfl rfl ?_
  refine s_aload X5 hx (hb hby at_54) rfl rfl ?_
  show own_G p e below _ (T5.setTop (mkF m 56 #[vI p0, vI p1, vI p2, vR a1, vR a2, vI ((p2 &&& (2147483647 : Int32)) % (3 : Int32)), vR wE, .unset, .unset, .unset, .unset] [(.ref wE), (.ref a2), (.ref a1), (.ref b5), (.ref b5)]))
  obtain ⟨_, _, ⟨T6, L6, k6, n6⟩, -, X6, ⟨Lc6, hQ6, l6, y6, z6⟩, st6⟩ := X5.specialBack hx (y := mN30) rfl o2 (mvT Z2 (wd36 hw)) (mvT Z2 (wd37 hw)) (mvT Z2 (wd38 hw)) (by decide) (own_backN (W := 1) (own_ctor l Z a0 hw [] (b5) (a1) (a2) (wE) (.null) (.null) (.null) h5 n0 (by omega) (X00.keep K5 all0) A5 F5_profile F5_version F5_conformance (by omega) (by omega)) Z2 (wd38 hw) (wd35 hw) (by decide) (by decide)) (g := (mkF m 56 #[vI p0, vI p1, vI p2, vR a1, vR a2, vI ((p2 &&& (2147483647 : Int32)) % (3 : Int32)), vR wE, .unset, .unset, .unset, .unset] [(.ref wE), (.ref a2), (.ref a1), (.ref b5), (.ref b5)])) rfl (by rw [hml]; rfl) (Steps.refl _) (a := b5) (argsL := [(.ref a1), (.ref a2), (.ref wE)]) (rest := [(.ref b5)]) (lenOf own_pd22 rfl) rfl (Nat.le_of_eq rfl) (hb hby at_56) (fun _ _ => ⟨rfl, e5, (by decide : 9 + 0 ≤ _), (by decide : 35 + 0 ≤ _)⟩)
  dsimp only [Pt.U, Pt.locs, Pt.cells, Pt.slots] at X6 l6 y6 z6 st6 hQ6
  subst l6 y6 z6
  obtain ⟨rfl, Nq6, Kq6, Ff0_6, Ff1_6, Ff2_6⟩ := hQ6
  have KK6 : Keep h5 T6.heap [b5] := Kq6
  have sz6 : h5.size ≤ T6.heap.size := KK6.1
  have K6 : Keep h0 T6.heap [] := K5.trans KK6 (allS (Or.inr (own_le (by omega))) all0)
  have c6 : CHr Z consts_1 T2.vm h5 T2.vm T6.heap := CHr.keep KK6 (allS (Safe.exa Z2.alike A5 (by decide) (by decide)) all0) C5.1
  have C6 := C5.trans c6
  have N6 := Fr.app N2 Nq6
  refine own_st (fun tq kq => st6.trans kq) ?_
  refine own_st (fun tq kq => XS.astore X6.here hx rfl (hb hby at_59) rfl rfl (l' := #[vI p0, vI p1, vI p2, vR a1, vR a2, vI ((p2 &&& (2147483647 : Int32)) % (3 : Int32)), vR wE, vR b5, .unset, .unset, .unset]) rfl kq) ?_
  refine s_aload X6 hx (hb hby at_61) rfl rfl ?_
  obtain ⟨cq7, kq7, q7a, q7b, q7c⟩ := isOf Z2 rfl (A5.keep KK6)
  obtain ⟨_, _, ⟨T7, L7, k7, n7⟩, -, Y7, S7p, gr7, ⟨Lc7, hQ7, l7, y7, z7, c7⟩, st7⟩ := X6.virtualBackS hx (y := mN32) (z := mN32) o2 (mvT Z2 (wd46 hw)) (mvT Z2 (wd47 hw)) (notFace_of_selects (args := #[]) (mvT Z2 (wd49 hw))) (mvT Z2 (wd49 hw)) (mvT Z2 (wd48 hw)) (by decide) (own_back (s := s) (vm0 := T2.vm) (W := 0) (own_cts l Z a0 hw hEL [] (b5) (a1) (a2) (T6.heap.size) ((own_str p0)) ((own_str p1)) (G1) T6.heap n0 (by omega) (X00.keep K6 all0) Ff0_6 Ff1_6 (own_Str.mono (((Str1.keep KK2 all0).ext E5).keepX KK6 A5 (wd34 hw) (by decide)) (by omega)) (own_Str.mono ((Str2.ext E5).keepX KK6 A5 (wd34 hw) (by decide)) (by omega)) (Nat.le_refl _) (own_str_le p0) (own_str_le p1) O2 P5) Z2 (wd50 hw) (wd35 hw) (by decide) (by decide) hEL C6.1 all0) q7a q7c (g := (mkF m 63 #[vI p0, vI p1, vI p2, vR a1, vR a2, vI ((p2 &&& (2147483647 : Int32)) % (3 : Int32)), vR wE, vR b5, .unset, .unset, .unset] [(.ref b5)])) rfl (by rw [hml]; rfl) (Steps.refl _) (argsL := []) (rest := []) (lenOf own_pd20 rfl) rfl (Nat.le_of_eq rfl) (hb hby at_63) (fun _ _ => ⟨rfl, rfl, (by decide : 9 + 6 ≤ _), (by decide : 35 + 60 ≤ _)⟩)
  dsimp only [Pt.U, Pt.locs, Pt.cells, Pt.slots] at Y7 S7p gr7 l7 y7 z7 st7 hQ7 c7
  subst l7 y7 z7
  obtain ⟨X7, S7, Z7, o7⟩ := rebS S2 (own_le (by omega)) Y7 S7p gr7 Z2 o2
  obtain ⟨a7, rfl, Nq7, Kq7, ga7, Str7⟩ := hQ7
  have KK7 : Keep T6.heap T7.heap [] := Kq7
  have sz7 : T6.heap.size ≤ T7.heap.size := KK7.1
  have K7 : Keep h0 T7.heap [] := K6.trans KK7 all0
  have C7 := C6.trans c7
  have N7 := Fr.app N6 Nq7
  refine own_st (fun tq kq => st7.trans kq) ?_
  refine own_st (fun tq kq => XS.astore X7.here hx rfl (hb hby at_66) rfl rfl (l' := #[vI p0, vI p1, vI p2, vR a1, vR a2, vI ((p2 &&& (2147483647 : Int32)) % (3 : Int32)), vR wE, vR b5, vR a7, .unset, .unset]) rfl kq) ?_
  refine s_iloadN X7 hx (hb hby at_68) rfl ?_
  obtain ⟨_, _, ⟨T8, L8, k8, n8⟩, -, X8, ⟨Lc8, hQ8, l8, y8, z8⟩, st8⟩ := Jvm.LawKit.callS X7 hx (y := mN23) o7 (mvT Z7 (wd4 hw)) (mvT Z7 (wd5 hw)) (mvT Z7 (wd2 hw)) (mvT Z7 (wd6 hw)) (by decide) (own_backN (W := 0) (own_lenC l Z a0 hw [] (p0) T7.heap n0 (by omega) (X00.keep K7 all0) ) Z7 (wd6 hw) (wd2 hw) (by decide) (by decide)) (g := (mkF m 69 #[vI p0, vI p1, vI p2, vR a1, vR a2, vI ((p2 &&& (2147483647 : Int32)) % (3 : Int32)), vR wE, vR b5, vR a7, .unset, .unset] [(.int p0)])) rfl (by rw [hml]; rfl) (argsL := [(.int p0)]) (rest := []) (lenOf own_pd15 rfl) rfl (Nat.le_of_eq rfl) (hb hby at_69) (fun _ _ => ⟨rfl, rfl, (by decide : 15 + 0 ≤ _), (by decide : 95 + 0 ≤ _)⟩)
  dsimp only [Pt.U, Pt.locs, Pt.cells, Pt.slots] at X8 l8 y8 z8 st8 hQ8
  subst l8 y8 z8
  obtain ⟨rfl, Nq8, sm8⟩ := hQ8
  have N8 := Fr.app N7 Nq8
  refine own_st st8 ?_
  refine own_st (fun tq kq => XS.istore X8.here hx rfl (hb hby at_72) rfl (l' := #[vI p0, vI p1, vI p2, vR a1, vR a2, vI ((p2 &&& (2147483647 : Int32)) % (3 : Int32)), vR wE, vR b5, vR a7, vI (own_len p0), .unset]) rfl kq) ?_
  refine s_iloadN X8 hx (hb hby at_74) rfl ?_
  obtain ⟨_, _, ⟨T9, L9, k9, n9⟩, -, X9, ⟨Lc9, hQ9, l9, y9, z9⟩, st9⟩ := Jvm.LawKit.callS X8 hx (y := mN23) o7 (mvT Z7 (wd4 hw)) (mvT Z7 (wd5 hw)) (mvT Z7 (wd2 hw)) (mvT Z7 (wd6 hw)) (by decide) (own_backN (W := 0) (own_lenC l Z a0 hw [] (p1) T7.heap n0 (by omega) (X00.keep K7 all0) ) Z7 (wd6 hw) (wd2 hw) (by decide) (by decide)) (g := (mkF m 75 #[vI p0, vI p1, vI p2, vR a1, vR a2, vI ((p2 &&& (2147483647 : Int32)) % (3 : Int32)), vR wE, vR b5, vR a7, vI (own_len p0), .unset] [(.int p1)])) rfl (by rw [hml]; rfl) (argsL := [(.int p1)]) (rest := []) (lenOf own_pd15 rfl) rfl (Nat.le_of_eq rfl) (hb hby at_75) (fun _ _ => ⟨rfl, sm8, (by decide : 15 + 0 ≤ _), (by decide : 95 + 0 ≤ _)⟩)
  dsimp only [Pt.U, Pt.locs, Pt.cells, Pt.slots] at X9 l9 y9 z9 st9 hQ9
  subst l9 y9 z9
  obtain ⟨rfl, Nq9, sm9⟩ := hQ9
  have N9 := Fr.app N8 Nq9
  refine own_st st9 ?_
  refine own_st (fun tq kq => XS.istore X9.here hx rfl (hb hby at_78) rfl (l' := #[vI p0, vI p1, vI p2, vR a1, vR a2, vI ((p2 &&& (2147483647 : Int32)) % (3 : Int32)), vR wE, vR b5, vR a7, vI (own_len p0), vI (own_len p1)]) rfl kq) ?_
  refine s_aload X9 hx (hb hby at_80) rfl rfl ?_
  show own_G p e below _ (T9.setTop (mkF m 82 #[vI p0, vI p1, vI p2, vR a1, vR a2, vI ((p2 &&& (2147483647 : Int32)) % (3 : Int32)), vR wE, vR b5, vR a7, vI (own_len p0), vI (own_len p1)] [(.ref a7)]))
  refine own_st (fun tq kq => XS.ifnullNo X9.here hx rfl (hb hby at_82) rfl kq) ?_
  refine s_aload X9 hx (hb hby at_85) rfl rfl ?_
  obtain ⟨-, E1_10, hb1_10, ln1_10, t1_10, kb1_10, -, V1_10, C1_10, A1_10⟩ := id Str7
  obtain ⟨cq10, kq10, q10a, q10b, q10c⟩ := isOf Z7 sm9 Str7.2.1
  obtain ⟨_, _, ⟨T10, L10, k10, n10⟩, -, X10, ⟨Lc10, hQ10, l10, y10, z10⟩, st10⟩ := X9.virtualBack hx (y := mN8) (z := mN8) o7 (mvT Z7 (wd163 hw)) (mvT Z7 (wd80 hw)) (notFace_of_selects (args := #[]) (mvT Z7 (wd82 hw))) (mvT Z7 (wd82 hw)) (mvT Z7 (wd81 hw)) (by decide) (StrChars.Road.lenW (W := 0) Z7 (own_wLen hw) (kI := 4) (wd8 hw) E1_10 V1_10 C1_10 A1_10 (StrChars.Road.codOf rfl (fun c hc => (hb1_10 c hc).2)) (own_up hb1_10) (O2.ext (X00.keep K7 all0).2) P5 ln1_10 (by decide) (by decide)) q10a q10c (g := (mkF m 87 #[vI p0, vI p1, vI p2, vR a1, vR a2, vI ((p2 &&& (2147483647 : Int32)) % (3 : Int32)), vR wE, vR b5, vR a7, vI (own_len p0), vI (own_len p1)] [(.ref a7)])) rfl (by rw [hml]; rfl) (Steps.refl _) (argsL := []) (rest := []) (lenOf own_pd4 rfl) rfl (Nat.le_of_eq rfl) (hb hby at_87) (fun _ _ => ⟨rfl, sm9, (by decide : 15 + 0 ≤ _), (by decide : 95 + 0 ≤ _)⟩)
  dsimp only [Pt.U, Pt.locs, Pt.cells, Pt.slots] at X10 l10 y10 z10 st10 hQ10
  subst l10 y10 z10
  obtain ⟨rfl, rfl, sm10⟩ := hQ10
  have N10 := Fr.app N9 (Fr.nil n0)
  refine own_st (fun tq kq => st10.trans kq) ?_
  refine s_iload X10 hx (hb hby at_90) rfl ?_
  refine s_iconst X10 hx (hb hby at_92) ?_
  refine own_st (fun tq kq => XS.iadd X10.here hx rfl (hb hby at_93) rfl kq) ?_
  refine s_iload X10 hx (hb hby at_94) rfl ?_
  show own_G p e below _ (T10.setTop (mkF m 96 #[vI p0, vI p1, vI p2, vR a1, vR a2, vI ((p2 &&& (2147483647 : Int32)) % (3 : Int32)), vR wE, vR b5, vR a7, vI (own_len p0), vI (own_len p1)] [(.int (own_len p1)), (.int ((own_len p0) + (1 : Int32))), (.int (Int32.ofNat (own_cs p0 p1).length))]))
  refine own_st (fun tq kq => XS.iadd X10.here hx rfl (hb hby at_96) rfl kq) ?_
  show own_G p e below _ (T10.setTop (mkF m 97 #[vI p0, vI p1, vI p2, vR a1, vR a2, vI ((p2 &&& (2147483647 : Int32)) % (3 : Int32)), vR wE, vR b5, vR a7, vI (own_len p0), vI (own_len p1)] [(.int (((own_len p0) + (1 : Int32)) + (own_len p1))), (.int (Int32.ofNat (own_cs p0 p1).length))]))
  refine own_st (fun tq kq => XS.icmpYes X10.here hx rfl (pc0 := 97) (pc' := 102) rfl (hb hby at_97) rfl (teq (own_lenLaw p0 p1)).1 (by decide) (by decide) kq) ?_
  refine s_aload X10 hx (hb hby at_102) rfl rfl ?_
  refine s_iconst X10 hx (hb hby at_104) ?_
  refine s_iloadN X10 hx (hb hby at_105) rfl ?_
  show own_G p e below _ (T10.setTop (mkF m 106 #[vI p0, vI p1, vI p2, vR a1, vR a2, vI ((p2 &&& (2147483647 : Int32)) % (3 : Int32)), vR wE, vR b5, vR a7, vI (own_len p0), vI (own_len p1)] [(.int p0), (.int 0), (.ref a7)]))
  obtain ⟨_, _, ⟨T11, L11, k11, n11⟩, -, X11, ⟨Lc11, hQ11, l11, y11, z11⟩, st11⟩ := Jvm.LawKit.callS X10 hx (y := mN28) o7 (mvT Z7 (wd164 hw)) (mvT Z7 (wd165 hw)) (mvT Z7 (wd2 hw)) (mvT Z7 (wd166 hw)) (by decide) (own_backN (W := 0) (own_partC l Z a0 hw [] (a7) (T7.heap.size) (0) ((0 : Int32)) (p0) (G1) ((own_cs p0 p1)) (fm) T7.heap n0 (by omega) (X00.keep K7 all0) Str7 rfl (own_ho0 p0 p1) (own_at0 p0 p1) O2 P5 O4 rfm) Z7 (wd166 hw) (wd2 hw) (by decide) (by decide)) (g := (mkF m 106 #[vI p0, vI p1, vI p2, vR a1, vR a2, vI ((p2 &&& (2147483647 : Int32)) % (3 : Int32)), vR wE, vR b5, vR a7, vI (own_len p0), vI (own_len p1)] [(.int p0), (.int 0), (.ref a7)])) rfl (by rw [hml]; rfl) (argsL := [(.ref a7), (.int 0), (.int p0)]) (rest := []) (lenOf own_pd23 rfl) rfl (Nat.le_of_eq rfl) (hb hby at_106) (fun _ _ => ⟨rfl, sm10, (by decide : 15 + 0 ≤ _), (by decide : 95 + 0 ≤ _)⟩)
  dsimp only [Pt.U, Pt.locs, Pt.cells, Pt.slots] at X11 l11 y11 z11 st11 hQ11
  subst l11 y11 z11
  obtain ⟨rfl, Nq11, sm11⟩ := hQ11
  have N11 := Fr.app N10 Nq11
  refine own_st st11 ?_
  refine own_st (fun tq kq => XS.ifNo X11.here hx rfl (hb hby at_109) rfl ((if0 _ _).trans (feq (by decide : ¬ ((1 : Int32) = (0 : Int32)))).1) kq) ?_
  refine s_aload X11 hx (hb hby at_112) rfl rfl ?_
  refine s_iload X11 hx (hb hby at_114) rfl ?_
  obtain ⟨-, E1_12, hb1_12, ln1_12, t1_12, kb1_12, -, V1_12, C1_12, A1_12⟩ := id Str7
  obtain ⟨cq12, kq12, q12a, q12b, q12c⟩ := isOf Z7 sm11 Str7.2.1
  obtain ⟨_, _, ⟨T12, L12, k12, n12⟩, -, X12, ⟨Lc12, hQ12, l12, y12, z12⟩, st12⟩ := X11.virtualBack hx (y := mN29) (z := mN29) o7 (mvT Z7 (wd167 hw)) (mvT Z7 (wd168 hw)) (notFace_of_selects (args := #[]) (mvT Z7 (wd170 hw))) (mvT Z7 (wd170 hw)) (mvT Z7 (wd169 hw)) (by decide) (StrChars.Road.chN (W := 0) Z7 (own_wCh hw) (kI := 4) (wd8 hw) (i := (own_str p0).length) E1_12 V1_12 C1_12 A1_12 (StrChars.Road.codOf rfl (fun c hc => (hb1_12 c hc).2)) (own_up hb1_12) (O2.ext (X00.keep K7 all0).2) P5 (O4.ext (X00.keep K7 all0).2) rfm ln1_12 (own_hiS p0 p1) (own_str_len p0).symm (by decide) (by decide)) q12a q12c (g := (mkF m 116 #[vI p0, vI p1, vI p2, vR a1, vR a2, vI ((p2 &&& (2147483647 : Int32)) % (3 : Int32)), vR wE, vR b5, vR a7, vI (own_len p0), vI (own_len p1)] [(.int (own_len p0)), (.ref a7)])) rfl (by rw [hml]; rfl) (Steps.refl _) (argsL := [(.int (own_len p0))]) (rest := []) (lenOf own_pd17 rfl) rfl (Nat.le_of_eq rfl) (hb hby at_116) (fun _ _ => ⟨rfl, sm11, (by decide : 15 + 0 ≤ _), (by decide : 95 + 0 ≤ _)⟩)
  dsimp only [Pt.U, Pt.locs, Pt.cells, Pt.slots] at X12 l12 y12 z12 st12 hQ12
  subst l12 y12 z12
  obtain ⟨rfl, rfl, sm12⟩ := hQ12
  have N12 := Fr.app N11 (Fr.nil n0)
  refine own_st (fun tq kq => st12.trans kq) ?_
  refine s_bipush X12 hx (hb hby at_119) ?_
  show own_G p e below _ (T12.setTop (mkF m 121 #[vI p0, vI p1, vI p2, vR a1, vR a2, vI ((p2 &&& (2147483647 : Int32)) % (3 : Int32)), vR wE, vR b5, vR a7, vI (own_len p0), vI (own_len p1)] [(.int 32), (.int ((own_cs p0 p1).getD (own_str p0).length 0))]))
  refine own_st (fun tq kq => XS.icmpNo X12.here hx rfl (hb hby at_121) rfl (teq (own_atS p0 p1)).2 kq) ?_
  refine s_aload X12 hx (hb hby at_124) rfl rfl ?_
  refine s_iload X12 hx (hb hby at_126) rfl ?_
  refine s_iconst X12 hx (hb hby at_128) ?_
  show own_G p e below _ (T12.setTop (mkF m 129 #[vI p0, vI p1, vI p2, vR a1, vR a2, vI ((p2 &&& (2147483647 : Int32)) % (3 : Int32)), vR wE, vR b5, vR a7, vI (own_len p0), vI (own_len p1)] [(.int 1), (.int (own_len p0)), (.ref a7)]))
  refine own_st (fun tq kq => XS.iadd X12.here hx rfl (hb hby at_129) rfl kq) ?_
  refine s_iloadN X12 hx (hb hby at_130) rfl ?_
  obtain ⟨_, _, ⟨T13, L13, k13, n13⟩, -, X13, ⟨Lc13, hQ13, l13, y13, z13⟩, st13⟩ := Jvm.LawKit.callS X12 hx (y := mN28) o7 (mvT Z7 (wd164 hw)) (mvT Z7 (wd165 hw)) (mvT Z7 (wd2 hw)) (mvT Z7 (wd166 hw)) (by decide) (own_backN (W := 0) (own_partC l Z a0 hw [] (a7) (T7.heap.size) (((own_str p0).length + 1)) (((own_len p0) + (1 : Int32))) (p1) (G1) ((own_cs p0 p1)) (fm) T7.heap n0 (by omega) (X00.keep K7 all0) Str7 (own_off1 p0) (own_ho1 p0 p1) (own_at1 p0 p1) O2 P5 O4 rfm) Z7 (wd166 hw) (wd2 hw) (by decide) (by decide)) (g := (mkF m 131 #[vI p0, vI p1, vI p2, vR a1, vR a2, vI ((p2 &&& (2147483647 : Int32)) % (3 : Int32)), vR wE, vR b5, vR a7, vI (own_len p0), vI (own_len p1)] [(.int p1), (.int ((own_len p0) + (1 : Int32))), (.ref a7)])) rfl (by rw [hml]; rfl) (argsL := [(.ref a7), (.int ((own_len p0) + (1 : Int32))), (.int p1)]) (rest := []) (lenOf own_pd23 rfl) rfl (Nat.le_of_eq rfl) (hb hby at_131) (fun _ _ => ⟨rfl, sm12, (by decide : 15 + 0 ≤ _), (by decide : 95 + 0 ≤ _)⟩)
  dsimp only [Pt.U, Pt.locs, Pt.cells, Pt.slots] at X13 l13 y13 z13 st13 hQ13
  subst l13 y13 z13
  obtain ⟨rfl, Nq13, sm13⟩ := hQ13
  have N13 := Fr.app N12 Nq13
  refine own_st st13 ?_
  refine own_st (fun tq kq => XS.ifNo X13.here hx rfl (hb hby at_134) rfl ((if0 _ _).trans (feq (by decide : ¬ ((1 : Int32) = (0 : Int32)))).1) kq) ?_
  refine s_aload X13 hx (hb hby at_137) rfl rfl ?_
  obtain ⟨cq14, kq14, q14a, q14b, q14c⟩ := isOf Z7 sm13 ((A5.keep KK6).keep KK7)
  obtain ⟨_, _, ⟨T14, L14, k14, n14⟩, -, X14, ⟨Lc14, hQ14, l14, y14, z14⟩, st14⟩ := X13.virtualBack hx (y := mN31) (z := mN31) o7 (mvT Z7 (wd189 hw)) (mvT Z7 (wd190 hw)) (notFace_of_selects (args := #[]) (mvT Z7 (wd192 hw))) (mvT Z7 (wd192 hw)) (mvT Z7 (wd191 hw)) (by decide) (own_backN (W := 0) (own_cfC l Z a0 hw [] (b5) (wE) T7.heap n0 (by omega) (X00.keep K7 all0) (Ff2_6.keep KK7 nin0)) Z7 (wd193 hw) (wd35 hw) (by decide) (by decide)) q14a q14c (g := (mkF m 139 #[vI p0, vI p1, vI p2, vR a1, vR a2, vI ((p2 &&& (2147483647 : Int32)) % (3 : Int32)), vR wE, vR b5, vR a7, vI (own_len p0), vI (own_len p1)] [(.ref b5)])) rfl (by rw [hml]; rfl) (Steps.refl _) (argsL := []) (rest := []) (lenOf own_pd24 rfl) rfl (Nat.le_of_eq rfl) (hb hby at_139) (fun _ _ => ⟨rfl, sm13, (by decide : 15 + 0 ≤ _), (by decide : 95 + 0 ≤ _)⟩)
  dsimp only [Pt.U, Pt.locs, Pt.cells, Pt.slots] at X14 l14 y14 z14 st14 hQ14
  subst l14 y14 z14
  obtain ⟨rfl, Nq14, sm14⟩ := hQ14
  have N14 := Fr.app N13 Nq14
  refine own_st (fun tq kq => st14.trans kq) ?_
  refine s_aload X14 hx (hb hby at_142) rfl rfl ?_
  show own_G p e below _ (T14.setTop (mkF m 144 #[vI p0, vI p1, vI p2, vR a1, vR a2, vI ((p2 &&& (2147483647 : Int32)) % (3 : Int32)), vR wE, vR b5, vR a7, vI (own_len p0), vI (own_len p1)] [(.ref wE), (.ref wE)]))
  refine own_st (fun tq kq => Jvm.RoadKit.acmp (g := (mkF m 144 #[vI p0, vI p1, vI p2, vR a1, vR a2, vI ((p2 &&& (2147483647 : Int32)) % (3 : Int32)), vR wE, vR b5, vR a7, vI (own_len p0), vI (own_len p1)] [(.ref wE), (.ref wE)])) X14 hx rfl rfl rfl (pc0 := 144) (pc' := 147) (same := true) rfl (hb hby at_144) rfl (decide_eq_true rfl) (by decide) (by decide) kq) ?_
  refine s_iconst X14 hx (hb hby at_147) ?_
  refine own_st (fun tq kq => XS.goto X14.here hx rfl (pc0 := 148) (pc' := 152) rfl (hb hby at_148) (by decide) (by decide) kq) ?_
  show own_G p e below _ (T14.setTop (mkF m 152 #[vI p0, vI p1, vI p2, vR a1, vR a2, vI ((p2 &&& (2147483647 : Int32)) % (3 : Int32)), vR wE, vR b5, vR a7, vI (own_len p0), vI (own_len p1)] [(.int 1)]))
  obtain ⟨fs, hr, hrun, hended, hRW⟩ := X14.leaveW S7 (by rw [sm14]; exact (own_le (by omega))) (v := some (.int 1)) (fun h => by rw [Bd.returns] at h; cases h)
  have cE := C7.trans (CHv.at (s := s) (vm0 := T7.vm) X14 Z7 hEL C7.1)
  refine ⟨_, _, retN X14 hx (t := .boolean) Bd.returns (by simp) (hb hby at_152) hr, hrun, hended, _, _, rfl, ?_, ?_, own_RW hRW (by decide) (by decide)⟩
  · change Q_rm0 Z p0 p1 p2 G1 wE wS wD fm h0 n0 _ T14.vm T14.heap _; rw [sm14]; exact ⟨rfl, N14⟩
  · rw [hh]; change CHr Z consts_1 s.vm h0 T14.vm T14.heap; rw [sm14]; exact cE
 ·
  refine own_st (fun tq kq => XS.ifYes X2.here hx rfl (pc0 := 21) (pc' := 30) rfl (hb hby at_21) rfl ((if0 _ _).trans (feq hc21_3).2) (by decide) (by decide) kq) ?_
  refine s_iload X2 hx (hb hby at_30) rfl ?_
  refine s_iconst X2 hx (hb hby at_32) ?_
  show own_G p e below _ (T2.setTop (mkF m 33 #[vI p0, vI p1, vI p2, vR a1, vR a2, vI ((p2 &&& (2147483647 : Int32)) % (3 : Int32)), .unset, .unset, .unset, .unset, .unset] [(.int 1), (.int ((p2 &&& (2147483647 : Int32)) % (3 : Int32)))]))
  by_cases hc33_15 : (((p2 &&& (2147483647 : Int32)) % (3 : Int32)) = (1 : Int32))
  ·
   refine own_st (fun tq kq => XS.icmpNo X2.here hx rfl (hb hby at_33) rfl (teq hc33_15).2 kq) ?_
   obtain ⟨T16, X16, e16, st16⟩ := getS2 X2 hx Z2 o2 (host := "") (Or.inl (wd196 hw)) Via.refl rfl (OS.ext (X00.keep K2 all0).2) (g := (mkF m 36 #[vI p0, vI p1, vI p2, vR a1, vR a2, vI ((p2 &&& (2147483647 : Int32)) % (3 : Int32)), .unset, .unset, .unset, .unset, .unset] [])) rfl (hb hby at_36)
   refine own_st st16 ?_
   refine own_st (fun tq kq => XS.goto X16.here hx rfl (pc0 := 39) (pc' := 45) rfl (hb hby at_39) (by decide) (by decide) kq) ?_
   refine own_st (fun tq kq => XS.astore X16.here hx rfl (hb hby at_45) rfl rfl (l' := #[vI p0, vI p1, vI p2, vR a1, vR a2, vI ((p2 &&& (2147483647 : Int32)) % (3 : Int32)), vR wS, .unset, .unset, .unset, .unset]) rfl kq) ?_
   obtain ⟨T17, h17, X17, e17, E17, A17, D17, -, st17⟩ := newO X16 hx Z2 o2 (wd33 hw) (wd34 hw) (wd35 hw) e16 (g := (mkF m 47 #[vI p0, vI p1, vI p2, vR a1, vR a2, vI ((p2 &&& (2147483647 : Int32)) % (3 : Int32)), vR wS, .unset, .unset, .unset, .unset] [])) rfl (hb hby at_47) (by decide) (by decide)
   obtain ⟨b17, g17⟩ : ∃ z, z = T2.heap.size := ⟨_, rfl⟩
   rw [← g17] at A17 D17 st17
   have lt17 : b17 < h17.size := A17.lt
   have sz17 : T2.heap.size ≤ h17.size := E17.1
   have K17 : Keep h0 h17 [] := K2.ext E17
   have c17 : CHr Z consts_1 T2.vm T2.heap T2.vm h17 := CHr.ext E17 C2.1
   have C17 := C2.trans c17
   have F17_profile : Fld Z h17 b17 "com/example/garm/garm/SecurityTarget$Claim" "profile" "Ljava/lang/String;" .null := D17 (Or.inr (wd41 hw)) (ty := (.object "java/lang/String")) (by decide)
   have F17_version : Fld Z h17 b17 "com/example/garm/garm/SecurityTarget$Claim" "version" "Ljava/lang/String;" .null := D17 (Or.inr (wd43 hw)) (ty := (.object "java/lang/String")) (by decide)
   have F17_conformance : Fld Z h17 b17 "com/example/garm/garm/SecurityTarget$Claim" "conformance" "Lcom/example/garm/garm/Conformance;" .null := D17 (Or.inr (wd45 hw)) (ty := (.object "com/example/garm/garm/Conformance")) (by decide)
   refine own_st st17 ?_
   refine own_st (fun tq kq => XS.dup X17.here hx rfl (hb hby at_50) rfl rfl kq) ?_
   refine s_aloadN X17 hx (hb hby at_51) rfl rfl ?_
   refine s_aload X17 hx (hb hby at_52) rfl rfl ?_
   refine s_aload X17 hx (hb hby at_54) rfl rfl ?_
   show own_G p e below _ (T17.setTop (mkF m 56 #[vI p0, vI p1, vI p2, vR a1, vR a2, vI ((p2 &&& (2147483647 : Int32)) % (3 : Int32)), vR wS, .unset, .unset, .unset, .unset] [(.ref wS), (.ref a2), (.ref a1), (.ref b17), (.ref b17)]))
   obtain ⟨_, _, ⟨T18, L18, k18, n18⟩, -, X18, ⟨Lc18, hQ18, l18, y18, z18⟩, st18⟩ := X17.specialBack hx (y := mN30) rfl o2 (mvT Z2 (wd36 hw)) (mvT Z2 (wd37 hw)) (mvT Z2 (wd38 hw)) (by decide) (own_backN (W := 1) (own_ctor l Z a0 hw [] (b17) (a1) (a2) (wS) (.null) (.null) (.null) h17 n0 (by omega) (X00.keep K17 all0) A17 F17_profile F17_version F17_conformance (by omega) (by omega)) Z2 (wd38 hw) (wd35 hw) (by decide) (by decide)) (g := (mkF m 56 #[vI p0, vI p1, vI p2, vR a1, vR a2, vI ((p2 &&& (2147483647 : Int32)) % (3 : Int32)), vR wS, .unset, .unset, .unset, .unset] [(.ref wS), (.ref a2), (.ref a1), (.ref b17), (.ref b17)])) rfl (by rw [hml]; rfl) (Steps.refl _) (a := b17) (argsL := [(.ref a1), (.ref a2), (.ref wS)]) (rest := [(.ref b17)]) (lenOf own_pd22 rfl) rfl (Nat.le_of_eq rfl) (hb hby at_56) (fun _ _ => ⟨rfl, e17, (by decide : 9 + 0 ≤ _), (by decide : 35 + 0 ≤ _)⟩)
   dsimp only [Pt.U, Pt.locs, Pt.cells, Pt.slots] at X18 l18 y18 z18 st18 hQ18
   subst l18 y18 z18
   obtain ⟨rfl, Nq18, Kq18, Ff0_18, Ff1_18, Ff2_18⟩ := hQ18
   have KK18 : Keep h17 T18.heap [b17] := Kq18
   have sz18 : h17.size ≤ T18.heap.size := KK18.1
   have K18 : Keep h0 T18.heap [] := K17.trans KK18 (allS (Or.inr (own_le (by omega))) all0)
   have c18 : CHr Z consts_1 T2.vm h17 T2.vm T18.heap := CHr.keep KK18 (allS (Safe.exa Z2.alike A17 (by decide) (by decide)) all0) C17.1
   have C18 := C17.trans c18
   have N18 := Fr.app N2 Nq18
   refine own_st (fun tq kq => st18.trans kq) ?_
   refine own_st (fun tq kq => XS.astore X18.here hx rfl (hb hby at_59) rfl rfl (l' := #[vI p0, vI p1, vI p2, vR a1, vR a2, vI ((p2 &&& (2147483647 : Int32)) % (3 : Int32)), vR wS, vR b17, .unset, .unset, .unset]) rfl kq) ?_
   refine s_aload X18 hx (hb hby at_61) rfl rfl ?_
   obtain ⟨cq19, kq19, q19a, q19b, q19c⟩ := isOf Z2 rfl (A17.keep KK18)
   obtain ⟨_, _, ⟨T19, L19, k19, n19⟩, -, Y19, S19p, gr19, ⟨Lc19, hQ19, l19, y19, z19, c19⟩, st19⟩ := X18.virtualBackS hx (y := mN32) (z := mN32) o2 (mvT Z2 (wd46 hw)) (mvT Z2 (wd47 hw)) (notFace_of_selects (args := #[]) (mvT Z2 (wd49 hw))) (mvT Z2 (wd49 hw)) (mvT Z2 (wd48 hw)) (by decide) (own_back (s := s) (vm0 := T2.vm) (W := 0) (own_cts l Z a0 hw hEL [] (b17) (a1) (a2) (T18.heap.size) ((own_str p0)) ((own_str p1)) (G1) T18.heap n0 (by omega) (X00.keep K18 all0) Ff0_18 Ff1_18 (own_Str.mono (((Str1.keep KK2 all0).ext E17).keepX KK18 A17 (wd34 hw) (by decide)) (by omega)) (own_Str.mono ((Str2.ext E17).keepX KK18 A17 (wd34 hw) (by decide)) (by omega)) (Nat.le_refl _) (own_str_le p0) (own_str_le p1) O2 P5) Z2 (wd50 hw) (wd35 hw) (by decide) (by decide) hEL C18.1 all0) q19a q19c (g := (mkF m 63 #[vI p0, vI p1, vI p2, vR a1, vR a2, vI ((p2 &&& (2147483647 : Int32)) % (3 : Int32)), vR wS, vR b17, .unset, .unset, .unset] [(.ref b17)])) rfl (by rw [hml]; rfl) (Steps.refl _) (argsL := []) (rest := []) (lenOf own_pd20 rfl) rfl (Nat.le_of_eq rfl) (hb hby at_63) (fun _ _ => ⟨rfl, rfl, (by decide : 9 + 6 ≤ _), (by decide : 35 + 60 ≤ _)⟩)
   dsimp only [Pt.U, Pt.locs, Pt.cells, Pt.slots] at Y19 S19p gr19 l19 y19 z19 st19 hQ19 c19
   subst l19 y19 z19
   obtain ⟨X19, S19, Z19, o19⟩ := rebS S2 (own_le (by omega)) Y19 S19p gr19 Z2 o2
   obtain ⟨a19, rfl, Nq19, Kq19, ga19, Str19⟩ := hQ19
   have KK19 : Keep T18.heap T19.heap [] := Kq19
   have sz19 : T18.heap.size ≤ T19.heap.size := KK19.1
   have K19 : Keep h0 T19.heap [] := K18.trans KK19 all0
   have C19 := C18.trans c19
   have N19 := Fr.app N18 Nq19
   refine own_st (fun tq kq => st19.trans kq) ?_
   refine own_st (fun tq kq => XS.astore X19.here hx rfl (hb hby at_66) rfl rfl (l' := #[vI p0, vI p1, vI p2, vR a1, vR a2, vI ((p2 &&& (2147483647 : Int32)) % (3 : Int32)), vR wS, vR b17, vR a19, .unset, .unset]) rfl kq) ?_
   refine s_iloadN X19 hx (hb hby at_68) rfl ?_
   obtain ⟨_, _, ⟨T20, L20, k20, n20⟩, -, X20, ⟨Lc20, hQ20, l20, y20, z20⟩, st20⟩ := Jvm.LawKit.callS X19 hx (y := mN23) o19 (mvT Z19 (wd4 hw)) (mvT Z19 (wd5 hw)) (mvT Z19 (wd2 hw)) (mvT Z19 (wd6 hw)) (by decide) (own_backN (W := 0) (own_lenC l Z a0 hw [] (p0) T19.heap n0 (by omega) (X00.keep K19 all0) ) Z19 (wd6 hw) (wd2 hw) (by decide) (by decide)) (g := (mkF m 69 #[vI p0, vI p1, vI p2, vR a1, vR a2, vI ((p2 &&& (2147483647 : Int32)) % (3 : Int32)), vR wS, vR b17, vR a19, .unset, .unset] [(.int p0)])) rfl (by rw [hml]; rfl) (argsL := [(.int p0)]) (rest := []) (lenOf own_pd15 rfl) rfl (Nat.le_of_eq rfl) (hb hby at_69) (fun _ _ => ⟨rfl, rfl, (by decide : 15 + 0 ≤ _), (by decide : 95 + 0 ≤ _)⟩)
   dsimp only [Pt.U, Pt.locs, Pt.cells, Pt.slots] at X20 l20 y20 z20 st20 hQ20
   subst l20 y20 z20
   obtain ⟨rfl, Nq20, sm20⟩ := hQ20
   have N20 := Fr.app N19 Nq20
   refine own_st st20 ?_
   refine own_st (fun tq kq => XS.istore X20.here hx rfl (hb hby at_72) rfl (l' := #[vI p0, vI p1, vI p2, vR a1, vR a2, vI ((p2 &&& (2147483647 : Int32)) % (3 : Int32)), vR wS, vR b17, vR a19, vI (own_len p0), .unset]) rfl kq) ?_
   refine s_iloadN X20 hx (hb hby at_74) rfl ?_
   obtain ⟨_, _, ⟨T21, L21, k21, n21⟩, -, X21, ⟨Lc21, hQ21, l21, y21, z21⟩, st21⟩ := Jvm.LawKit.callS X20 hx (y := mN23) o19 (mvT Z19 (wd4 hw)) (mvT Z19 (wd5 hw)) (mvT Z19 (wd2 hw)) (mvT Z19 (wd6 hw)) (by decide) (own_backN (W := 0) (own_lenC l Z a0 hw [] (p1) T19.heap n0 (by omega) (X00.keep K19 all0) ) Z19 (wd6 hw) (wd2 hw) (by decide) (by decide)) (g := (mkF m 75 #[vI p0, vI p1, vI p2, vR a1, vR a2, vI ((p2 &&& (2147483647 : Int32)) % (3 : Int32)), vR wS, vR b17, vR a19, vI (own_len p0), .unset] [(.int p1)])) rfl (by rw [hml]; rfl) (argsL := [(.int p1)]) (rest := []) (lenOf own_pd15 rfl) rfl (Nat.le_of_eq rfl) (hb hby at_75) (fun _ _ => ⟨rfl, sm20, (by decide : 15 + 0 ≤ _), (by decide : 95 + 0 ≤ _)⟩)
   dsimp only [Pt.U, Pt.locs, Pt.cells, Pt.slots] at X21 l21 y21 z21 st21 hQ21
   subst l21 y21 z21
   obtain ⟨rfl, Nq21, sm21⟩ := hQ21
   have N21 := Fr.app N20 Nq21
   refine own_st st21 ?_
   refine own_st (fun tq kq => XS.istore X21.here hx rfl (hb hby at_78) rfl (l' := #[vI p0, vI p1, vI p2, vR a1, vR a2, vI ((p2 &&& (2147483647 : Int32)) % (3 : Int32)), vR wS, vR b17, vR a19, vI (own_len p0), vI (own_len p1)]) rfl kq) ?_
   refine s_aload X21 hx (hb hby at_80) rfl rfl ?_
   show own_G p e below _ (T21.setTop (mkF m 82 #[vI p0, vI p1, vI p2, vR a1, vR a2, vI ((p2 &&& (2147483647 : Int32)) % (3 : Int32)), vR wS, vR b17, vR a19, vI (own_len p0), vI (own_len p1)] [(.ref a19)]))
   refine own_st (fun tq kq => XS.ifnullNo X21.here hx rfl (hb hby at_82) rfl kq) ?_
   refine s_aload X21 hx (hb hby at_85) rfl rfl ?_
   obtain ⟨-, E1_22, hb1_22, ln1_22, t1_22, kb1_22, -, V1_22, C1_22, A1_22⟩ := id Str19
   obtain ⟨cq22, kq22, q22a, q22b, q22c⟩ := isOf Z19 sm21 Str19.2.1
   obtain ⟨_, _, ⟨T22, L22, k22, n22⟩, -, X22, ⟨Lc22, hQ22, l22, y22, z22⟩, st22⟩ := X21.virtualBack hx (y := mN8) (z := mN8) o19 (mvT Z19 (wd163 hw)) (mvT Z19 (wd80 hw)) (notFace_of_selects (args := #[]) (mvT Z19 (wd82 hw))) (mvT Z19 (wd82 hw)) (mvT Z19 (wd81 hw)) (by decide) (StrChars.Road.lenW (W := 0) Z19 (own_wLen hw) (kI := 4) (wd8 hw) E1_22 V1_22 C1_22 A1_22 (StrChars.Road.codOf rfl (fun c hc => (hb1_22 c hc).2)) (own_up hb1_22) (O2.ext (X00.keep K19 all0).2) P5 ln1_22 (by decide) (by decide)) q22a q22c (g := (mkF m 87 #[vI p0, vI p1, vI p2, vR a1, vR a2, vI ((p2 &&& (2147483647 : Int32)) % (3 : Int32)), vR wS, vR b17, vR a19, vI (own_len p0), vI (own_len p1)] [(.ref a19)])) rfl (by rw [hml]; rfl) (Steps.refl _) (argsL := []) (rest := []) (lenOf own_pd4 rfl) rfl (Nat.le_of_eq rfl) (hb hby at_87) (fun _ _ => ⟨rfl, sm21, (by decide : 15 + 0 ≤ _), (by decide : 95 + 0 ≤ _)⟩)
   dsimp only [Pt.U, Pt.locs, Pt.cells, Pt.slots] at X22 l22 y22 z22 st22 hQ22
   subst l22 y22 z22
   obtain ⟨rfl, rfl, sm22⟩ := hQ22
   have N22 := Fr.app N21 (Fr.nil n0)
   refine own_st (fun tq kq => st22.trans kq) ?_
   refine s_iload X22 hx (hb hby at_90) rfl ?_
   refine s_iconst X22 hx (hb hby at_92) ?_
   refine own_st (fun tq kq => XS.iadd X22.here hx rfl (hb hby at_93) rfl kq) ?_
   refine s_iload X22 hx (hb hby at_94) rfl ?_
   show own_G p e below _ (T22.setTop (mkF m 96 #[vI p0, vI p1, vI p2, vR a1, vR a2, vI ((p2 &&& (2147483647 : Int32)) % (3 : Int32)), vR wS, vR b17, vR a19, vI (own_len p0), vI (own_len p1)] [(.int (own_len p1)), (.int ((own_len p0) + (1 : Int32))), (.int (Int32.ofNat (own_cs p0 p1).length))]))
   refine own_st (fun tq kq => XS.iadd X22.here hx rfl (hb hby at_96) rfl kq) ?_
   show own_G p e below _ (T22.setTop (mkF m 97 #[vI p0, vI p1, vI p2, vR a1, vR a2, vI ((p2 &&& (2147483647 : Int32)) % (3 : Int32)), vR wS, vR b17, vR a19, vI (own_len p0), vI (own_len p1)] [(.int (((own_len p0) + (1 : Int32)) + (own_len p1))), (.int (Int32.ofNat (own_cs p0 p1).length))]))
   refine own_st (fun tq kq => XS.icmpYes X22.here hx rfl (pc0 := 97) (pc' := 102) rfl (hb hby at_97) rfl (teq (own_lenLaw p0 p1)).1 (by decide) (by decide) kq) ?_
   refine s_aload X22 hx (hb hby at_102) rfl rfl ?_
   refine s_iconst X22 hx (hb hby at_104) ?_
   refine s_iloadN X22 hx (hb hby at_105) rfl ?_
   show own_G p e below _ (T22.setTop (mkF m 106 #[vI p0, vI p1, vI p2, vR a1, vR a2, vI ((p2 &&& (2147483647 : Int32)) % (3 : Int32)), vR wS, vR b17, vR a19, vI (own_len p0), vI (own_len p1)] [(.int p0), (.int 0), (.ref a19)]))
   obtain ⟨_, _, ⟨T23, L23, k23, n23⟩, -, X23, ⟨Lc23, hQ23, l23, y23, z23⟩, st23⟩ := Jvm.LawKit.callS X22 hx (y := mN28) o19 (mvT Z19 (wd164 hw)) (mvT Z19 (wd165 hw)) (mvT Z19 (wd2 hw)) (mvT Z19 (wd166 hw)) (by decide) (own_backN (W := 0) (own_partC l Z a0 hw [] (a19) (T19.heap.size) (0) ((0 : Int32)) (p0) (G1) ((own_cs p0 p1)) (fm) T19.heap n0 (by omega) (X00.keep K19 all0) Str19 rfl (own_ho0 p0 p1) (own_at0 p0 p1) O2 P5 O4 rfm) Z19 (wd166 hw) (wd2 hw) (by decide) (by decide)) (g := (mkF m 106 #[vI p0, vI p1, vI p2, vR a1, vR a2, vI ((p2 &&& (2147483647 : Int32)) % (3 : Int32)), vR wS, vR b17, vR a19, vI (own_len p0), vI (own_len p1)] [(.int p0), (.int 0), (.ref a19)])) rfl (by rw [hml]; rfl) (argsL := [(.ref a19), (.int 0), (.int p0)]) (rest := []) (lenOf own_pd23 rfl) rfl (Nat.le_of_eq rfl) (hb hby at_106) (fun _ _ => ⟨rfl, sm22, (by decide : 15 + 0 ≤ _), (by decide : 95 + 0 ≤ _)⟩)
   dsimp only [Pt.U, Pt.locs, Pt.cells, Pt.slots] at X23 l23 y23 z23 st23 hQ23
   subst l23 y23 z23
   obtain ⟨rfl, Nq23, sm23⟩ := hQ23
   have N23 := Fr.app N22 Nq23
   refine own_st st23 ?_
   refine own_st (fun tq kq => XS.ifNo X23.here hx rfl (hb hby at_109) rfl ((if0 _ _).trans (feq (by decide : ¬ ((1 : Int32) = (0 : Int32)))).1) kq) ?_
   refine s_aload X23 hx (hb hby at_112) rfl rfl ?_
   refine s_iload X23 hx (hb hby at_114) rfl ?_
   obtain ⟨-, E1_24, hb1_24, ln1_24, t1_24, kb1_24, -, V1_24, C1_24, A1_24⟩ := id Str19
   obtain ⟨cq24, kq24, q24a, q24b, q24c⟩ := isOf Z19 sm23 Str19.2.1
   obtain ⟨_, _, ⟨T24, L24, k24, n24⟩, -, X24, ⟨Lc24, hQ24, l24, y24, z24⟩, st24⟩ := X23.virtualBack hx (y := mN29) (z := mN29) o19 (mvT Z19 (wd167 hw)) (mvT Z19 (wd168 hw)) (notFace_of_selects (args := #[]) (mvT Z19 (wd170 hw))) (mvT Z19 (wd170 hw)) (mvT Z19 (wd169 hw)) (by decide) (StrChars.Road.chN (W := 0) Z19 (own_wCh hw) (kI := 4) (wd8 hw) (i := (own_str p0).length) E1_24 V1_24 C1_24 A1_24 (StrChars.Road.codOf rfl (fun c hc => (hb1_24 c hc).2)) (own_up hb1_24) (O2.ext (X00.keep K19 all0).2) P5 (O4.ext (X00.keep K19 all0).2) rfm ln1_24 (own_hiS p0 p1) (own_str_len p0).symm (by decide) (by decide)) q24a q24c (g := (mkF m 116 #[vI p0, vI p1, vI p2, vR a1, vR a2, vI ((p2 &&& (2147483647 : Int32)) % (3 : Int32)), vR wS, vR b17, vR a19, vI (own_len p0), vI (own_len p1)] [(.int (own_len p0)), (.ref a19)])) rfl (by rw [hml]; rfl) (Steps.refl _) (argsL := [(.int (own_len p0))]) (rest := []) (lenOf own_pd17 rfl) rfl (Nat.le_of_eq rfl) (hb hby at_116) (fun _ _ => ⟨rfl, sm23, (by decide : 15 + 0 ≤ _), (by decide : 95 + 0 ≤ _)⟩)
   dsimp only [Pt.U, Pt.locs, Pt.cells, Pt.slots] at X24 l24 y24 z24 st24 hQ24
   subst l24 y24 z24
   obtain ⟨rfl, rfl, sm24⟩ := hQ24
   have N24 := Fr.app N23 (Fr.nil n0)
   refine own_st (fun tq kq => st24.trans kq) ?_
   refine s_bipush X24 hx (hb hby at_119) ?_
   show own_G p e below _ (T24.setTop (mkF m 121 #[vI p0, vI p1, vI p2, vR a1, vR a2, vI ((p2 &&& (2147483647 : Int32)) % (3 : Int32)), vR wS, vR b17, vR a19, vI (own_len p0), vI (own_len p1)] [(.int 32), (.int ((own_cs p0 p1).getD (own_str p0).length 0))]))
   refine own_st (fun tq kq => XS.icmpNo X24.here hx rfl (hb hby at_121) rfl (teq (own_atS p0 p1)).2 kq) ?_
   refine s_aload X24 hx (hb hby at_124) rfl rfl ?_
   refine s_iload X24 hx (hb hby at_126) rfl ?_
   refine s_iconst X24 hx (hb hby at_128) ?_
   show own_G p e below _ (T24.setTop (mkF m 129 #[vI p0, vI p1, vI p2, vR a1, vR a2, vI ((p2 &&& (2147483647 : Int32)) % (3 : Int32)), vR wS, vR b17, vR a19, vI (own_len p0), vI (own_len p1)] [(.int 1), (.int (own_len p0)), (.ref a19)]))
   refine own_st (fun tq kq => XS.iadd X24.here hx rfl (hb hby at_129) rfl kq) ?_
   refine s_iloadN X24 hx (hb hby at_130) rfl ?_
   obtain ⟨_, _, ⟨T25, L25, k25, n25⟩, -, X25, ⟨Lc25, hQ25, l25, y25, z25⟩, st25⟩ := Jvm.LawKit.callS X24 hx (y := mN28) o19 (mvT Z19 (wd164 hw)) (mvT Z19 (wd165 hw)) (mvT Z19 (wd2 hw)) (mvT Z19 (wd166 hw)) (by decide) (own_backN (W := 0) (own_partC l Z a0 hw [] (a19) (T19.heap.size) (((own_str p0).length + 1)) (((own_len p0) + (1 : Int32))) (p1) (G1) ((own_cs p0 p1)) (fm) T19.heap n0 (by omega) (X00.keep K19 all0) Str19 (own_off1 p0) (own_ho1 p0 p1) (own_at1 p0 p1) O2 P5 O4 rfm) Z19 (wd166 hw) (wd2 hw) (by decide) (by decide)) (g := (mkF m 131 #[vI p0, vI p1, vI p2, vR a1, vR a2, vI ((p2 &&& (2147483647 : Int32)) % (3 : Int32)), vR wS, vR b17, vR a19, vI (own_len p0), vI (own_len p1)] [(.int p1), (.int ((own_len p0) + (1 : Int32))), (.ref a19)])) rfl (by rw [hml]; rfl) (argsL := [(.ref a19), (.int ((own_len p0) + (1 : Int32))), (.int p1)]) (rest := []) (lenOf own_pd23 rfl) rfl (Nat.le_of_eq rfl) (hb hby at_131) (fun _ _ => ⟨rfl, sm24, (by decide : 15 + 0 ≤ _), (by decide : 95 + 0 ≤ _)⟩)
   dsimp only [Pt.U, Pt.locs, Pt.cells, Pt.slots] at X25 l25 y25 z25 st25 hQ25
   subst l25 y25 z25
   obtain ⟨rfl, Nq25, sm25⟩ := hQ25
   have N25 := Fr.app N24 Nq25
   refine own_st st25 ?_
   refine own_st (fun tq kq => XS.ifNo X25.here hx rfl (hb hby at_134) rfl ((if0 _ _).trans (feq (by decide : ¬ ((1 : Int32) = (0 : Int32)))).1) kq) ?_
   refine s_aload X25 hx (hb hby at_137) rfl rfl ?_
   obtain ⟨cq26, kq26, q26a, q26b, q26c⟩ := isOf Z19 sm25 ((A17.keep KK18).keep KK19)
   obtain ⟨_, _, ⟨T26, L26, k26, n26⟩, -, X26, ⟨Lc26, hQ26, l26, y26, z26⟩, st26⟩ := X25.virtualBack hx (y := mN31) (z := mN31) o19 (mvT Z19 (wd189 hw)) (mvT Z19 (wd190 hw)) (notFace_of_selects (args := #[]) (mvT Z19 (wd192 hw))) (mvT Z19 (wd192 hw)) (mvT Z19 (wd191 hw)) (by decide) (own_backN (W := 0) (own_cfC l Z a0 hw [] (b17) (wS) T19.heap n0 (by omega) (X00.keep K19 all0) (Ff2_18.keep KK19 nin0)) Z19 (wd193 hw) (wd35 hw) (by decide) (by decide)) q26a q26c (g := (mkF m 139 #[vI p0, vI p1, vI p2, vR a1, vR a2, vI ((p2 &&& (2147483647 : Int32)) % (3 : Int32)), vR wS, vR b17, vR a19, vI (own_len p0), vI (own_len p1)] [(.ref b17)])) rfl (by rw [hml]; rfl) (Steps.refl _) (argsL := []) (rest := []) (lenOf own_pd24 rfl) rfl (Nat.le_of_eq rfl) (hb hby at_139) (fun _ _ => ⟨rfl, sm25, (by decide : 15 + 0 ≤ _), (by decide : 95 + 0 ≤ _)⟩)
   dsimp only [Pt.U, Pt.locs, Pt.cells, Pt.slots] at X26 l26 y26 z26 st26 hQ26
   subst l26 y26 z26
   obtain ⟨rfl, Nq26, sm26⟩ := hQ26
   have N26 := Fr.app N25 Nq26
   refine own_st (fun tq kq => st26.trans kq) ?_
   refine s_aload X26 hx (hb hby at_142) rfl rfl ?_
   show own_G p e below _ (T26.setTop (mkF m 144 #[vI p0, vI p1, vI p2, vR a1, vR a2, vI ((p2 &&& (2147483647 : Int32)) % (3 : Int32)), vR wS, vR b17, vR a19, vI (own_len p0), vI (own_len p1)] [(.ref wS), (.ref wS)]))
   refine own_st (fun tq kq => Jvm.RoadKit.acmp (g := (mkF m 144 #[vI p0, vI p1, vI p2, vR a1, vR a2, vI ((p2 &&& (2147483647 : Int32)) % (3 : Int32)), vR wS, vR b17, vR a19, vI (own_len p0), vI (own_len p1)] [(.ref wS), (.ref wS)])) X26 hx rfl rfl rfl (pc0 := 144) (pc' := 147) (same := true) rfl (hb hby at_144) rfl (decide_eq_true rfl) (by decide) (by decide) kq) ?_
   refine s_iconst X26 hx (hb hby at_147) ?_
   refine own_st (fun tq kq => XS.goto X26.here hx rfl (pc0 := 148) (pc' := 152) rfl (hb hby at_148) (by decide) (by decide) kq) ?_
   show own_G p e below _ (T26.setTop (mkF m 152 #[vI p0, vI p1, vI p2, vR a1, vR a2, vI ((p2 &&& (2147483647 : Int32)) % (3 : Int32)), vR wS, vR b17, vR a19, vI (own_len p0), vI (own_len p1)] [(.int 1)]))
   obtain ⟨fs, hr, hrun, hended, hRW⟩ := X26.leaveW S19 (by rw [sm26]; exact (own_le (by omega))) (v := some (.int 1)) (fun h => by rw [Bd.returns] at h; cases h)
   have cE := C19.trans (CHv.at (s := s) (vm0 := T19.vm) X26 Z19 hEL C19.1)
   refine ⟨_, _, retN X26 hx (t := .boolean) Bd.returns (by simp) (hb hby at_152) hr, hrun, hended, _, _, rfl, ?_, ?_, own_RW hRW (by decide) (by decide)⟩
   · change Q_rm0 Z p0 p1 p2 G1 wE wS wD fm h0 n0 _ T26.vm T26.heap _; rw [sm26]; exact ⟨rfl, N26⟩
   · rw [hh]; change CHr Z consts_1 s.vm h0 T26.vm T26.heap; rw [sm26]; exact cE
  ·
   refine own_st (fun tq kq => XS.icmpYes X2.here hx rfl (pc0 := 33) (pc' := 42) rfl (hb hby at_33) rfl (feq hc33_15).2 (by decide) (by decide) kq) ?_
   obtain ⟨T27, X27, e27, st27⟩ := getS2 X2 hx Z2 o2 (host := "") (Or.inl (wd30 hw)) Via.refl rfl (OD.ext (X00.keep K2 all0).2) (g := (mkF m 42 #[vI p0, vI p1, vI p2, vR a1, vR a2, vI ((p2 &&& (2147483647 : Int32)) % (3 : Int32)), .unset, .unset, .unset, .unset, .unset] [])) rfl (hb hby at_42)
   refine own_st st27 ?_
   refine own_st (fun tq kq => XS.astore X27.here hx rfl (hb hby at_45) rfl rfl (l' := #[vI p0, vI p1, vI p2, vR a1, vR a2, vI ((p2 &&& (2147483647 : Int32)) % (3 : Int32)), vR wD, .unset, .unset, .unset, .unset]) rfl kq) ?_
   obtain ⟨T28, h28, X28, e28, E28, A28, D28, -, st28⟩ := newO X27 hx Z2 o2 (wd33 hw) (wd34 hw) (wd35 hw) e27 (g := (mkF m 47 #[vI p0, vI p1, vI p2, vR a1, vR a2, vI ((p2 &&& (2147483647 : Int32)) % (3 : Int32)), vR wD, .unset, .unset, .unset, .unset] [])) rfl (hb hby at_47) (by decide) (by decide)
   obtain ⟨b28, g28⟩ : ∃ z, z = T2.heap.size := ⟨_, rfl⟩
   rw [← g28] at A28 D28 st28
   have lt28 : b28 < h28.size := A28.lt
   have sz28 : T2.heap.size ≤ h28.size := E28.1
   have K28 : Keep h0 h28 [] := K2.ext E28
   have c28 : CHr Z consts_1 T2.vm T2.heap T2.vm h28 := CHr.ext E28 C2.1
   have C28 := C2.trans c28
   have F28_profile : Fld Z h28 b28 "com/example/garm/garm/SecurityTarget$Claim" "profile" "Ljava/lang/String;" .null := D28 (Or.inr (wd41 hw)) (ty := (.object "java/lang/String")) (by decide)
   have F28_version : Fld Z h28 b28 "com/example/garm/garm/SecurityTarget$Claim" "version" "Ljava/lang/String;" .null := D28 (Or.inr (wd43 hw)) (ty := (.object "java/lang/String")) (by decide)
   have F28_conformance : Fld Z h28 b28 "com/example/garm/garm/SecurityTarget$Claim" "conformance" "Lcom/example/garm/garm/Conformance;" .null := D28 (Or.inr (wd45 hw)) (ty := (.object "com/example/garm/garm/Conformance")) (by decide)
   refine own_st st28 ?_
   refine own_st (fun tq kq => XS.dup X28.here hx rfl (hb hby at_50) rfl rfl kq) ?_
   refine s_aloadN X28 hx (hb hby at_51) rfl rfl ?_
   refine s_aload X28 hx (hb hby at_52) rfl rfl ?_
   refine s_aload X28 hx (hb hby at_54) rfl rfl ?_
   show own_G p e below _ (T28.setTop (mkF m 56 #[vI p0, vI p1, vI p2, vR a1, vR a2, vI ((p2 &&& (2147483647 : Int32)) % (3 : Int32)), vR wD, .unset, .unset, .unset, .unset] [(.ref wD), (.ref a2), (.ref a1), (.ref b28), (.ref b28)]))
   obtain ⟨_, _, ⟨T29, L29, k29, n29⟩, -, X29, ⟨Lc29, hQ29, l29, y29, z29⟩, st29⟩ := X28.specialBack hx (y := mN30) rfl o2 (mvT Z2 (wd36 hw)) (mvT Z2 (wd37 hw)) (mvT Z2 (wd38 hw)) (by decide) (own_backN (W := 1) (own_ctor l Z a0 hw [] (b28) (a1) (a2) (wD) (.null) (.null) (.null) h28 n0 (by omega) (X00.keep K28 all0) A28 F28_profile F28_version F28_conformance (by omega) (by omega)) Z2 (wd38 hw) (wd35 hw) (by decide) (by decide)) (g := (mkF m 56 #[vI p0, vI p1, vI p2, vR a1, vR a2, vI ((p2 &&& (2147483647 : Int32)) % (3 : Int32)), vR wD, .unset, .unset, .unset, .unset] [(.ref wD), (.ref a2), (.ref a1), (.ref b28), (.ref b28)])) rfl (by rw [hml]; rfl) (Steps.refl _) (a := b28) (argsL := [(.ref a1), (.ref a2), (.ref wD)]) (rest := [(.ref b28)]) (lenOf own_pd22 rfl) rfl (Nat.le_of_eq rfl) (hb hby at_56) (fun _ _ => ⟨rfl, e28, (by decide : 9 + 0 ≤ _), (by decide : 35 + 0 ≤ _)⟩)
   dsimp only [Pt.U, Pt.locs, Pt.cells, Pt.slots] at X29 l29 y29 z29 st29 hQ29
   subst l29 y29 z29
   obtain ⟨rfl, Nq29, Kq29, Ff0_29, Ff1_29, Ff2_29⟩ := hQ29
   have KK29 : Keep h28 T29.heap [b28] := Kq29
   have sz29 : h28.size ≤ T29.heap.size := KK29.1
   have K29 : Keep h0 T29.heap [] := K28.trans KK29 (allS (Or.inr (own_le (by omega))) all0)
   have c29 : CHr Z consts_1 T2.vm h28 T2.vm T29.heap := CHr.keep KK29 (allS (Safe.exa Z2.alike A28 (by decide) (by decide)) all0) C28.1
   have C29 := C28.trans c29
   have N29 := Fr.app N2 Nq29
   refine own_st (fun tq kq => st29.trans kq) ?_
   refine own_st (fun tq kq => XS.astore X29.here hx rfl (hb hby at_59) rfl rfl (l' := #[vI p0, vI p1, vI p2, vR a1, vR a2, vI ((p2 &&& (2147483647 : Int32)) % (3 : Int32)), vR wD, vR b28, .unset, .unset, .unset]) rfl kq) ?_
   refine s_aload X29 hx (hb hby at_61) rfl rfl ?_
   obtain ⟨cq30, kq30, q30a, q30b, q30c⟩ := isOf Z2 rfl (A28.keep KK29)
   obtain ⟨_, _, ⟨T30, L30, k30, n30⟩, -, Y30, S30p, gr30, ⟨Lc30, hQ30, l30, y30, z30, c30⟩, st30⟩ := X29.virtualBackS hx (y := mN32) (z := mN32) o2 (mvT Z2 (wd46 hw)) (mvT Z2 (wd47 hw)) (notFace_of_selects (args := #[]) (mvT Z2 (wd49 hw))) (mvT Z2 (wd49 hw)) (mvT Z2 (wd48 hw)) (by decide) (own_back (s := s) (vm0 := T2.vm) (W := 0) (own_cts l Z a0 hw hEL [] (b28) (a1) (a2) (T29.heap.size) ((own_str p0)) ((own_str p1)) (G1) T29.heap n0 (by omega) (X00.keep K29 all0) Ff0_29 Ff1_29 (own_Str.mono (((Str1.keep KK2 all0).ext E28).keepX KK29 A28 (wd34 hw) (by decide)) (by omega)) (own_Str.mono ((Str2.ext E28).keepX KK29 A28 (wd34 hw) (by decide)) (by omega)) (Nat.le_refl _) (own_str_le p0) (own_str_le p1) O2 P5) Z2 (wd50 hw) (wd35 hw) (by decide) (by decide) hEL C29.1 all0) q30a q30c (g := (mkF m 63 #[vI p0, vI p1, vI p2, vR a1, vR a2, vI ((p2 &&& (2147483647 : Int32)) % (3 : Int32)), vR wD, vR b28, .unset, .unset, .unset] [(.ref b28)])) rfl (by rw [hml]; rfl) (Steps.refl _) (argsL := []) (rest := []) (lenOf own_pd20 rfl) rfl (Nat.le_of_eq rfl) (hb hby at_63) (fun _ _ => ⟨rfl, rfl, (by decide : 9 + 6 ≤ _), (by decide : 35 + 60 ≤ _)⟩)
   dsimp only [Pt.U, Pt.locs, Pt.cells, Pt.slots] at Y30 S30p gr30 l30 y30 z30 st30 hQ30 c30
   subst l30 y30 z30
   obtain ⟨X30, S30, Z30, o30⟩ := rebS S2 (own_le (by omega)) Y30 S30p gr30 Z2 o2
   obtain ⟨a30, rfl, Nq30, Kq30, ga30, Str30⟩ := hQ30
   have KK30 : Keep T29.heap T30.heap [] := Kq30
   have sz30 : T29.heap.size ≤ T30.heap.size := KK30.1
   have K30 : Keep h0 T30.heap [] := K29.trans KK30 all0
   have C30 := C29.trans c30
   have N30 := Fr.app N29 Nq30
   refine own_st (fun tq kq => st30.trans kq) ?_
   refine own_st (fun tq kq => XS.astore X30.here hx rfl (hb hby at_66) rfl rfl (l' := #[vI p0, vI p1, vI p2, vR a1, vR a2, vI ((p2 &&& (2147483647 : Int32)) % (3 : Int32)), vR wD, vR b28, vR a30, .unset, .unset]) rfl kq) ?_
   refine s_iloadN X30 hx (hb hby at_68) rfl ?_
   obtain ⟨_, _, ⟨T31, L31, k31, n31⟩, -, X31, ⟨Lc31, hQ31, l31, y31, z31⟩, st31⟩ := Jvm.LawKit.callS X30 hx (y := mN23) o30 (mvT Z30 (wd4 hw)) (mvT Z30 (wd5 hw)) (mvT Z30 (wd2 hw)) (mvT Z30 (wd6 hw)) (by decide) (own_backN (W := 0) (own_lenC l Z a0 hw [] (p0) T30.heap n0 (by omega) (X00.keep K30 all0) ) Z30 (wd6 hw) (wd2 hw) (by decide) (by decide)) (g := (mkF m 69 #[vI p0, vI p1, vI p2, vR a1, vR a2, vI ((p2 &&& (2147483647 : Int32)) % (3 : Int32)), vR wD, vR b28, vR a30, .unset, .unset] [(.int p0)])) rfl (by rw [hml]; rfl) (argsL := [(.int p0)]) (rest := []) (lenOf own_pd15 rfl) rfl (Nat.le_of_eq rfl) (hb hby at_69) (fun _ _ => ⟨rfl, rfl, (by decide : 15 + 0 ≤ _), (by decide : 95 + 0 ≤ _)⟩)
   dsimp only [Pt.U, Pt.locs, Pt.cells, Pt.slots] at X31 l31 y31 z31 st31 hQ31
   subst l31 y31 z31
   obtain ⟨rfl, Nq31, sm31⟩ := hQ31
   have N31 := Fr.app N30 Nq31
   refine own_st st31 ?_
   refine own_st (fun tq kq => XS.istore X31.here hx rfl (hb hby at_72) rfl (l' := #[vI p0, vI p1, vI p2, vR a1, vR a2, vI ((p2 &&& (2147483647 : Int32)) % (3 : Int32)), vR wD, vR b28, vR a30, vI (own_len p0), .unset]) rfl kq) ?_
   refine s_iloadN X31 hx (hb hby at_74) rfl ?_
   obtain ⟨_, _, ⟨T32, L32, k32, n32⟩, -, X32, ⟨Lc32, hQ32, l32, y32, z32⟩, st32⟩ := Jvm.LawKit.callS X31 hx (y := mN23) o30 (mvT Z30 (wd4 hw)) (mvT Z30 (wd5 hw)) (mvT Z30 (wd2 hw)) (mvT Z30 (wd6 hw)) (by decide) (own_backN (W := 0) (own_lenC l Z a0 hw [] (p1) T30.heap n0 (by omega) (X00.keep K30 all0) ) Z30 (wd6 hw) (wd2 hw) (by decide) (by decide)) (g := (mkF m 75 #[vI p0, vI p1, vI p2, vR a1, vR a2, vI ((p2 &&& (2147483647 : Int32)) % (3 : Int32)), vR wD, vR b28, vR a30, vI (own_len p0), .unset] [(.int p1)])) rfl (by rw [hml]; rfl) (argsL := [(.int p1)]) (rest := []) (lenOf own_pd15 rfl) rfl (Nat.le_of_eq rfl) (hb hby at_75) (fun _ _ => ⟨rfl, sm31, (by decide : 15 + 0 ≤ _), (by decide : 95 + 0 ≤ _)⟩)
   dsimp only [Pt.U, Pt.locs, Pt.cells, Pt.slots] at X32 l32 y32 z32 st32 hQ32
   subst l32 y32 z32
   obtain ⟨rfl, Nq32, sm32⟩ := hQ32
   have N32 := Fr.app N31 Nq32
   refine own_st st32 ?_
   refine own_st (fun tq kq => XS.istore X32.here hx rfl (hb hby at_78) rfl (l' := #[vI p0, vI p1, vI p2, vR a1, vR a2, vI ((p2 &&& (2147483647 : Int32)) % (3 : Int32)), vR wD, vR b28, vR a30, vI (own_len p0), vI (own_len p1)]) rfl kq) ?_
   refine s_aload X32 hx (hb hby at_80) rfl rfl ?_
   show own_G p e below _ (T32.setTop (mkF m 82 #[vI p0, vI p1, vI p2, vR a1, vR a2, vI ((p2 &&& (2147483647 : Int32)) % (3 : Int32)), vR wD, vR b28, vR a30, vI (own_len p0), vI (own_len p1)] [(.ref a30)]))
   refine own_st (fun tq kq => XS.ifnullNo X32.here hx rfl (hb hby at_82) rfl kq) ?_
   refine s_aload X32 hx (hb hby at_85) rfl rfl ?_
   obtain ⟨-, E1_33, hb1_33, ln1_33, t1_33, kb1_33, -, V1_33, C1_33, A1_33⟩ := id Str30
   obtain ⟨cq33, kq33, q33a, q33b, q33c⟩ := isOf Z30 sm32 Str30.2.1
   obtain ⟨_, _, ⟨T33, L33, k33, n33⟩, -, X33, ⟨Lc33, hQ33, l33, y33, z33⟩, st33⟩ := X32.virtualBack hx (y := mN8) (z := mN8) o30 (mvT Z30 (wd163 hw)) (mvT Z30 (wd80 hw)) (notFace_of_selects (args := #[]) (mvT Z30 (wd82 hw))) (mvT Z30 (wd82 hw)) (mvT Z30 (wd81 hw)) (by decide) (StrChars.Road.lenW (W := 0) Z30 (own_wLen hw) (kI := 4) (wd8 hw) E1_33 V1_33 C1_33 A1_33 (StrChars.Road.codOf rfl (fun c hc => (hb1_33 c hc).2)) (own_up hb1_33) (O2.ext (X00.keep K30 all0).2) P5 ln1_33 (by decide) (by decide)) q33a q33c (g := (mkF m 87 #[vI p0, vI p1, vI p2, vR a1, vR a2, vI ((p2 &&& (2147483647 : Int32)) % (3 : Int32)), vR wD, vR b28, vR a30, vI (own_len p0), vI (own_len p1)] [(.ref a30)])) rfl (by rw [hml]; rfl) (Steps.refl _) (argsL := []) (rest := []) (lenOf own_pd4 rfl) rfl (Nat.le_of_eq rfl) (hb hby at_87) (fun _ _ => ⟨rfl, sm32, (by decide : 15 + 0 ≤ _), (by decide : 95 + 0 ≤ _)⟩)
   dsimp only [Pt.U, Pt.locs, Pt.cells, Pt.slots] at X33 l33 y33 z33 st33 hQ33
   subst l33 y33 z33
   obtain ⟨rfl, rfl, sm33⟩ := hQ33
   have N33 := Fr.app N32 (Fr.nil n0)
   refine own_st (fun tq kq => st33.trans kq) ?_
   refine s_iload X33 hx (hb hby at_90) rfl ?_
   refine s_iconst X33 hx (hb hby at_92) ?_
   refine own_st (fun tq kq => XS.iadd X33.here hx rfl (hb hby at_93) rfl kq) ?_
   refine s_iload X33 hx (hb hby at_94) rfl ?_
   show own_G p e below _ (T33.setTop (mkF m 96 #[vI p0, vI p1, vI p2, vR a1, vR a2, vI ((p2 &&& (2147483647 : Int32)) % (3 : Int32)), vR wD, vR b28, vR a30, vI (own_len p0), vI (own_len p1)] [(.int (own_len p1)), (.int ((own_len p0) + (1 : Int32))), (.int (Int32.ofNat (own_cs p0 p1).length))]))
   refine own_st (fun tq kq => XS.iadd X33.here hx rfl (hb hby at_96) rfl kq) ?_
   show own_G p e below _ (T33.setTop (mkF m 97 #[vI p0, vI p1, vI p2, vR a1, vR a2, vI ((p2 &&& (2147483647 : Int32)) % (3 : Int32)), vR wD, vR b28, vR a30, vI (own_len p0), vI (own_len p1)] [(.int (((own_len p0) + (1 : Int32)) + (own_len p1))), (.int (Int32.ofNat (own_cs p0 p1).length))]))
   refine own_st (fun tq kq => XS.icmpYes X33.here hx rfl (pc0 := 97) (pc' := 102) rfl (hb hby at_97) rfl (teq (own_lenLaw p0 p1)).1 (by decide) (by decide) kq) ?_
   refine s_aload X33 hx (hb hby at_102) rfl rfl ?_
   refine s_iconst X33 hx (hb hby at_104) ?_
   refine s_iloadN X33 hx (hb hby at_105) rfl ?_
   show own_G p e below _ (T33.setTop (mkF m 106 #[vI p0, vI p1, vI p2, vR a1, vR a2, vI ((p2 &&& (2147483647 : Int32)) % (3 : Int32)), vR wD, vR b28, vR a30, vI (own_len p0), vI (own_len p1)] [(.int p0), (.int 0), (.ref a30)]))
   obtain ⟨_, _, ⟨T34, L34, k34, n34⟩, -, X34, ⟨Lc34, hQ34, l34, y34, z34⟩, st34⟩ := Jvm.LawKit.callS X33 hx (y := mN28) o30 (mvT Z30 (wd164 hw)) (mvT Z30 (wd165 hw)) (mvT Z30 (wd2 hw)) (mvT Z30 (wd166 hw)) (by decide) (own_backN (W := 0) (own_partC l Z a0 hw [] (a30) (T30.heap.size) (0) ((0 : Int32)) (p0) (G1) ((own_cs p0 p1)) (fm) T30.heap n0 (by omega) (X00.keep K30 all0) Str30 rfl (own_ho0 p0 p1) (own_at0 p0 p1) O2 P5 O4 rfm) Z30 (wd166 hw) (wd2 hw) (by decide) (by decide)) (g := (mkF m 106 #[vI p0, vI p1, vI p2, vR a1, vR a2, vI ((p2 &&& (2147483647 : Int32)) % (3 : Int32)), vR wD, vR b28, vR a30, vI (own_len p0), vI (own_len p1)] [(.int p0), (.int 0), (.ref a30)])) rfl (by rw [hml]; rfl) (argsL := [(.ref a30), (.int 0), (.int p0)]) (rest := []) (lenOf own_pd23 rfl) rfl (Nat.le_of_eq rfl) (hb hby at_106) (fun _ _ => ⟨rfl, sm33, (by decide : 15 + 0 ≤ _), (by decide : 95 + 0 ≤ _)⟩)
   dsimp only [Pt.U, Pt.locs, Pt.cells, Pt.slots] at X34 l34 y34 z34 st34 hQ34
   subst l34 y34 z34
   obtain ⟨rfl, Nq34, sm34⟩ := hQ34
   have N34 := Fr.app N33 Nq34
   refine own_st st34 ?_
   refine own_st (fun tq kq => XS.ifNo X34.here hx rfl (hb hby at_109) rfl ((if0 _ _).trans (feq (by decide : ¬ ((1 : Int32) = (0 : Int32)))).1) kq) ?_
   refine s_aload X34 hx (hb hby at_112) rfl rfl ?_
   refine s_iload X34 hx (hb hby at_114) rfl ?_
   obtain ⟨-, E1_35, hb1_35, ln1_35, t1_35, kb1_35, -, V1_35, C1_35, A1_35⟩ := id Str30
   obtain ⟨cq35, kq35, q35a, q35b, q35c⟩ := isOf Z30 sm34 Str30.2.1
   obtain ⟨_, _, ⟨T35, L35, k35, n35⟩, -, X35, ⟨Lc35, hQ35, l35, y35, z35⟩, st35⟩ := X34.virtualBack hx (y := mN29) (z := mN29) o30 (mvT Z30 (wd167 hw)) (mvT Z30 (wd168 hw)) (notFace_of_selects (args := #[]) (mvT Z30 (wd170 hw))) (mvT Z30 (wd170 hw)) (mvT Z30 (wd169 hw)) (by decide) (StrChars.Road.chN (W := 0) Z30 (own_wCh hw) (kI := 4) (wd8 hw) (i := (own_str p0).length) E1_35 V1_35 C1_35 A1_35 (StrChars.Road.codOf rfl (fun c hc => (hb1_35 c hc).2)) (own_up hb1_35) (O2.ext (X00.keep K30 all0).2) P5 (O4.ext (X00.keep K30 all0).2) rfm ln1_35 (own_hiS p0 p1) (own_str_len p0).symm (by decide) (by decide)) q35a q35c (g := (mkF m 116 #[vI p0, vI p1, vI p2, vR a1, vR a2, vI ((p2 &&& (2147483647 : Int32)) % (3 : Int32)), vR wD, vR b28, vR a30, vI (own_len p0), vI (own_len p1)] [(.int (own_len p0)), (.ref a30)])) rfl (by rw [hml]; rfl) (Steps.refl _) (argsL := [(.int (own_len p0))]) (rest := []) (lenOf own_pd17 rfl) rfl (Nat.le_of_eq rfl) (hb hby at_116) (fun _ _ => ⟨rfl, sm34, (by decide : 15 + 0 ≤ _), (by decide : 95 + 0 ≤ _)⟩)
   dsimp only [Pt.U, Pt.locs, Pt.cells, Pt.slots] at X35 l35 y35 z35 st35 hQ35
   subst l35 y35 z35
   obtain ⟨rfl, rfl, sm35⟩ := hQ35
   have N35 := Fr.app N34 (Fr.nil n0)
   refine own_st (fun tq kq => st35.trans kq) ?_
   refine s_bipush X35 hx (hb hby at_119) ?_
   show own_G p e below _ (T35.setTop (mkF m 121 #[vI p0, vI p1, vI p2, vR a1, vR a2, vI ((p2 &&& (2147483647 : Int32)) % (3 : Int32)), vR wD, vR b28, vR a30, vI (own_len p0), vI (own_len p1)] [(.int 32), (.int ((own_cs p0 p1).getD (own_str p0).length 0))]))
   refine own_st (fun tq kq => XS.icmpNo X35.here hx rfl (hb hby at_121) rfl (teq (own_atS p0 p1)).2 kq) ?_
   refine s_aload X35 hx (hb hby at_124) rfl rfl ?_
   refine s_iload X35 hx (hb hby at_126) rfl ?_
   refine s_iconst X35 hx (hb hby at_128) ?_
   show own_G p e below _ (T35.setTop (mkF m 129 #[vI p0, vI p1, vI p2, vR a1, vR a2, vI ((p2 &&& (2147483647 : Int32)) % (3 : Int32)), vR wD, vR b28, vR a30, vI (own_len p0), vI (own_len p1)] [(.int 1), (.int (own_len p0)), (.ref a30)]))
   refine own_st (fun tq kq => XS.iadd X35.here hx rfl (hb hby at_129) rfl kq) ?_
   refine s_iloadN X35 hx (hb hby at_130) rfl ?_
   obtain ⟨_, _, ⟨T36, L36, k36, n36⟩, -, X36, ⟨Lc36, hQ36, l36, y36, z36⟩, st36⟩ := Jvm.LawKit.callS X35 hx (y := mN28) o30 (mvT Z30 (wd164 hw)) (mvT Z30 (wd165 hw)) (mvT Z30 (wd2 hw)) (mvT Z30 (wd166 hw)) (by decide) (own_backN (W := 0) (own_partC l Z a0 hw [] (a30) (T30.heap.size) (((own_str p0).length + 1)) (((own_len p0) + (1 : Int32))) (p1) (G1) ((own_cs p0 p1)) (fm) T30.heap n0 (by omega) (X00.keep K30 all0) Str30 (own_off1 p0) (own_ho1 p0 p1) (own_at1 p0 p1) O2 P5 O4 rfm) Z30 (wd166 hw) (wd2 hw) (by decide) (by decide)) (g := (mkF m 131 #[vI p0, vI p1, vI p2, vR a1, vR a2, vI ((p2 &&& (2147483647 : Int32)) % (3 : Int32)), vR wD, vR b28, vR a30, vI (own_len p0), vI (own_len p1)] [(.int p1), (.int ((own_len p0) + (1 : Int32))), (.ref a30)])) rfl (by rw [hml]; rfl) (argsL := [(.ref a30), (.int ((own_len p0) + (1 : Int32))), (.int p1)]) (rest := []) (lenOf own_pd23 rfl) rfl (Nat.le_of_eq rfl) (hb hby at_131) (fun _ _ => ⟨rfl, sm35, (by decide : 15 + 0 ≤ _), (by decide : 95 + 0 ≤ _)⟩)
   dsimp only [Pt.U, Pt.locs, Pt.cells, Pt.slots] at X36 l36 y36 z36 st36 hQ36
   subst l36 y36 z36
   obtain ⟨rfl, Nq36, sm36⟩ := hQ36
   have N36 := Fr.app N35 Nq36
   refine own_st st36 ?_
   refine own_st (fun tq kq => XS.ifNo X36.here hx rfl (hb hby at_134) rfl ((if0 _ _).trans (feq (by decide : ¬ ((1 : Int32) = (0 : Int32)))).1) kq) ?_
   refine s_aload X36 hx (hb hby at_137) rfl rfl ?_
   obtain ⟨cq37, kq37, q37a, q37b, q37c⟩ := isOf Z30 sm36 ((A28.keep KK29).keep KK30)
   obtain ⟨_, _, ⟨T37, L37, k37, n37⟩, -, X37, ⟨Lc37, hQ37, l37, y37, z37⟩, st37⟩ := X36.virtualBack hx (y := mN31) (z := mN31) o30 (mvT Z30 (wd189 hw)) (mvT Z30 (wd190 hw)) (notFace_of_selects (args := #[]) (mvT Z30 (wd192 hw))) (mvT Z30 (wd192 hw)) (mvT Z30 (wd191 hw)) (by decide) (own_backN (W := 0) (own_cfC l Z a0 hw [] (b28) (wD) T30.heap n0 (by omega) (X00.keep K30 all0) (Ff2_29.keep KK30 nin0)) Z30 (wd193 hw) (wd35 hw) (by decide) (by decide)) q37a q37c (g := (mkF m 139 #[vI p0, vI p1, vI p2, vR a1, vR a2, vI ((p2 &&& (2147483647 : Int32)) % (3 : Int32)), vR wD, vR b28, vR a30, vI (own_len p0), vI (own_len p1)] [(.ref b28)])) rfl (by rw [hml]; rfl) (Steps.refl _) (argsL := []) (rest := []) (lenOf own_pd24 rfl) rfl (Nat.le_of_eq rfl) (hb hby at_139) (fun _ _ => ⟨rfl, sm36, (by decide : 15 + 0 ≤ _), (by decide : 95 + 0 ≤ _)⟩)
   dsimp only [Pt.U, Pt.locs, Pt.cells, Pt.slots] at X37 l37 y37 z37 st37 hQ37
   subst l37 y37 z37
   obtain ⟨rfl, Nq37, sm37⟩ := hQ37
   have N37 := Fr.app N36 Nq37
   refine own_st (fun tq kq => st37.trans kq) ?_
   refine s_aload X37 hx (hb hby at_142) rfl rfl ?_
   show own_G p e below _ (T37.setTop (mkF m 144 #[vI p0, vI p1, vI p2, vR a1, vR a2, vI ((p2 &&& (2147483647 : Int32)) % (3 : Int32)), vR wD, vR b28, vR a30, vI (own_len p0), vI (own_len p1)] [(.ref wD), (.ref wD)]))
   refine own_st (fun tq kq => Jvm.RoadKit.acmp (g := (mkF m 144 #[vI p0, vI p1, vI p2, vR a1, vR a2, vI ((p2 &&& (2147483647 : Int32)) % (3 : Int32)), vR wD, vR b28, vR a30, vI (own_len p0), vI (own_len p1)] [(.ref wD), (.ref wD)])) X37 hx rfl rfl rfl (pc0 := 144) (pc' := 147) (same := true) rfl (hb hby at_144) rfl (decide_eq_true rfl) (by decide) (by decide) kq) ?_
   refine s_iconst X37 hx (hb hby at_147) ?_
   refine own_st (fun tq kq => XS.goto X37.here hx rfl (pc0 := 148) (pc' := 152) rfl (hb hby at_148) (by decide) (by decide) kq) ?_
   show own_G p e below _ (T37.setTop (mkF m 152 #[vI p0, vI p1, vI p2, vR a1, vR a2, vI ((p2 &&& (2147483647 : Int32)) % (3 : Int32)), vR wD, vR b28, vR a30, vI (own_len p0), vI (own_len p1)] [(.int 1)]))
   obtain ⟨fs, hr, hrun, hended, hRW⟩ := X37.leaveW S30 (by rw [sm37]; exact (own_le (by omega))) (v := some (.int 1)) (fun h => by rw [Bd.returns] at h; cases h)
   have cE := C30.trans (CHv.at (s := s) (vm0 := T30.vm) X37 Z30 hEL C30.1)
   refine ⟨_, _, retN X37 hx (t := .boolean) Bd.returns (by simp) (hb hby at_152) hr, hrun, hended, _, _, rfl, ?_, ?_, own_RW hRW (by decide) (by decide)⟩
   · change Q_rm0 Z p0 p1 p2 G1 wE wS wD fm h0 n0 _ T37.vm T37.heap _; rw [sm37]; exact ⟨rfl, N37⟩
   · rw [hh]; change CHr Z consts_1 s.vm h0 T37.vm T37.heap; rw [sm37]; exact cE

set_option maxRecDepth 65536 in
set_option maxHeartbeats 40000000 in
theorem comes_1 {Post : Tables → Env → Array Value → State → Outcome → State → Prop} (hpost : ∀ tb e args s v u, (limb_1_1.after args s (.returned v) u = true ∧ limb_1_2.after args s (.returned v) u = true ∧ True) → ReturnedEndW s (.returned v) u (Jvm.fieldLocs frame_1_writes args s ++ Jvm.arrayLocs frame_1_arrays args s ++ Jvm.staticLocs frame_1_statics s) 40 2240 → Post tb e args s (.returned v) u) :
    ArmFor flags0 classFile x code maxLocals ret World_1 tables_1 room_1 Calls_1 rest_1 Pre_1 Post := by
  intro l hfl _ _ p e ha hc hk s m args below hf hA hF happ hP
  obtain ⟨hcalls, hrest, hpre⟩ := hP
  obtain ⟨-, -, -, hnamed, -, -, -, hat⟩ := (Spec.applies_iff hf).mp happ
  obtain ⟨hg, hn⟩ := and_e (Cond.before_iff.mp (show (Jvm.Cond.and given_1 narrow_1).before args s = true from hpre))
  obtain ⟨ga0, gb0⟩ := and_e hg
  obtain ⟨ga1, gb1⟩ := and_e gb0
  obtain ⟨ga2, gb2⟩ := and_e gb1
  obtain ⟨w0, w1, w2, rfl⟩ : ∃ w0 w1 w2 : Value, args = #[w0, w1, w2] := by
    have hs : args.size = 3 := by simpa [Cond.value, given_1] using ga0
    obtain ⟨L⟩ := args
    match L, hs with
    | [w0, w1, w2], _ => exact ⟨w0, w1, w2, rfl⟩
  have hw := fun d (hd : d ∈ tables_1) => atoms_spec (ws := Jvm.Cond.code x code maxLocals ret :: tables_1) hat d (List.mem_cons_of_mem _ hd)
  have hfit : Fit s := fun {y c} hc i hi => by
    obtain ⟨ha, rfl⟩ := Array.getElem?_eq_some_iff.mp hc
    have q := List.all_eq_true.mp ((Array.all_eq_true_iff_forall_mem.mp hF) _ (Array.getElem_mem ha)) i (List.mem_range.mpr hi)
    simpa [Array.getElem?_eq_getElem hi] using q
  obtain ⟨hsets, hown0⟩ := atoms_of _ (rest_1_c_eq ▸ (show rest_1_c.before _ s = true from hrest))
  have hr0 := Cond.before_iff.mp hown0
  obtain ⟨i0, ei0⟩ := is_v ga1
  obtain rfl : w0 = (.int i0) := Option.some.inj ei0
  obtain ⟨i1, ei1⟩ := is_v ga2
  obtain rfl : w1 = (.int i1) := Option.some.inj ei1
  obtain ⟨i2, ei2⟩ := is_v gb2
  obtain rfl : w2 = (.int i2) := Option.some.inj ei2
  have n5 := not_v (Cond.before_iff.mp (hsets _ (List.mem_of_getElem? (i := 2) rfl)))
  obtain ⟨iG, eG⟩ := is_v (Cond.before_iff.mp (hsets _ (List.mem_of_getElem? (i := 1) rfl)))
  have SG : Sta s s.heap "java/lang/String" "COMPACT_STRINGS" "Z" (.int iG) := Sta.start eG (Or.inl (hsets _ (List.mem_of_getElem? (i := 0) rfl)))
  have cG : ¬ (iG = (0 : Int32)) := gotF (Cond.eq_ints eG (Term.int_eval (0))) n5
  obtain ⟨nw0, hn0⟩ := and_e hn
  obtain ⟨nw1, hn1⟩ := and_e hn0
  have nw2 := hn1
  obtain ⟨oE, ev_oE⟩ := exa_v nw1
  have Ex_oE : Exa s s.heap oE "com/example/garm/garm/Conformance" := Exa.start ev_oE nw1
  have St_oE : Sta s s.heap "com/example/garm/garm/Conformance" "EXACT" "Lcom/example/garm/garm/Conformance;" (.ref oE) := Sta.start ev_oE (Or.inr ⟨(wd31 hw), (wd195 hw)⟩)
  obtain ⟨oS, ev_oS⟩ := exa_v nw2
  have Ex_oS : Exa s s.heap oS "com/example/garm/garm/Conformance" := Exa.start ev_oS nw2
  have St_oS : Sta s s.heap "com/example/garm/garm/Conformance" "STRICT" "Lcom/example/garm/garm/Conformance;" (.ref oS) := Sta.start ev_oS (Or.inr ⟨(wd31 hw), (wd197 hw)⟩)
  obtain ⟨oD, ev_oD⟩ := exa_v nw0
  have Ex_oD : Exa s s.heap oD "com/example/garm/garm/Conformance" := Exa.start ev_oD nw0
  have St_oD : Sta s s.heap "com/example/garm/garm/Conformance" "DEMONSTRABLE" "Lcom/example/garm/garm/Conformance;" (.ref oD) := Sta.start ev_oD (Or.inr ⟨(wd31 hw), (wd32 hw)⟩)
  obtain ⟨fm, efm, rfm⟩ := isR_v (Cond.before_iff.mp (hsets _ (List.mem_of_getElem? (i := 8) rfl)))
  have O4 : Sta s s.heap "jdk/internal/util/Preconditions" "SIOOBE_FORMATTER" "Ljava/util/function/BiFunction;" fm := Sta.start efm (Or.inl (hsets _ (List.mem_of_getElem? (i := 7) rfl)))
  have hEL : EW s _ consts_1 := (EW.cons (wd117 hw) (by decide) (EW.cons (wd21 hw) (by decide) EW.nil))
  have hheld : ∀ p ∈ consts_1, Jvm.Lit.constHeld s p.1 p.2 := hcalls.1
  have hcw : Jvm.Lit.compactW.before _ s = true := hsets _ (List.mem_of_getElem? (i := 2) rfl)
  have hCH : CHv s consts_1 s.vm s.heap := CHv.start hEL hheld hcw (wd22 hw) (wd8 hw)
  obtain ⟨n, o, h1, h2, h3, _, L, rfl, ⟨rfl, N⟩, -, hq⟩ := rm0 l s _ hw hEL tables_1 i0 i1 i2 iG oE oS oD fm s.heap s.heap.size (Nat.le_refl _) (Old.start s) SG cG St_oE St_oS St_oD O4 rfm p e ha hc hk s m _ below hf ((Spec.applies_iff_loose hf).mp happ).1 ⟨rfl, State.Warmed39.refl s, rfl, hCH, all0⟩ trivial
  refine ⟨n, _, h1, h2, h3, hpost _ _ _ _ _ _ ⟨Cond.after_iff.mpr rfl, Cond.after_iff.mpr (eq_i res_at (Term.int_eval (1)) rfl), trivial⟩ ⟨hq.1, hq.2.1, hq.2.2.1, (hq.2.2.2.sift fun y hy => Or.inr (N y hy)).mono (by decide) (by decide)⟩⟩
theorem main_1_1 : Claimed_1_1 := comes_1 fun _ _ _ _ _ _ h hF => ⟨h.1, hF⟩
theorem main_1_2 : Claimed_1_2 := comes_1 fun _ _ _ _ _ _ h hF => ⟨h.2.1, hF⟩
end Jvm.Pilot.@@N@@
namespace Jvm.Pilot.@@N@@
open Jvm Jvm.ClassFile Sem Op Lib Jvm.Free Jvm.Stand Jvm.Pilot.@@N@@.Jvm.D
/-! MADE BY PROGRAM (witnessworld.py) out of the Statement's table words and the real class files: 28 classes; the members and pool entries that the words name. The judged class is class 1, her method 7. -/
namespace start1
open Jvm.ClassFile
def u (s : String) : CpInfo := .utf8 (stringToUtf16 s)
/-- a pool by its gaps: so many unusable entries, then the entry; so many at the end -/
def gap : Nat → List CpInfo → List CpInfo
  | 0, r => r
  | n + 1, r => .unusable :: gap n r
def poolList (es : List (Nat × CpInfo)) (last : Nat) : List CpInfo := es.foldr (fun e r => gap e.1 (e.2 :: r)) (gap last [])
def pool (es : List (Nat × CpInfo)) (last : Nat) : Array CpInfo := ⟨poolList es last⟩
def fileOf (pool : Array CpInfo) (this : Nat) (attrs : Array Attribute := #[]) (ms : Array MethodInfo := #[]) (fl : Nat := 33) (sup : Nat := 0) (ifs : Array Nat := #[]) (fds : Array FieldInfo := #[]) : ClassFile where
  minorVersion := 0
  majorVersion := 65
  constantPool := pool
  accessFlags := fl
  thisClass := this
  superClass := sup
  interfaces := ifs
  fields := fds
  methods := ms
  attributes := attrs
def plain (name : String) (sup : Option ClassId) : Class where
  name := name
  kind := .ordinary
  loader := none
  accessFlags := 33
  super := sup
  interfaces := #[]
  cf := none
  fields := #[]
  methods := #[]
  instanceTypes := #[]
  staticTypes := #[]
  resolved := #[]
  callSites := []
  init := .initialized
  statics := none
  mirror := none

def pool0 : Array CpInfo := pool [(5, u "<init>"), (0, u "()V"), (1, .class_ 10), (1, u "java/lang/Object")] 113

def k0c0 : Code := { maxStack := 0, maxLocals := 1, code := object_method_1_code, exceptionTable := #[], attributes := #[] }
def k0m0 : Method := { name := "<init>", desc := "()V", sig := { parameters := [], returnType := none }, accessFlags := 1, code := some k0c0 }
/-- java/lang/Object -/
def k0 : Class := { plain "java/lang/Object" none with
  accessFlags := 33
  interfaces := #[]
  cf := some (fileOf pool0 8 #[] #[{ accessFlags := 1, nameIndex := 5, descriptorIndex := 6, attributes := #[] }] 33 0 #[] #[])
  fields := #[]
  methods := #[k0m0]
  instanceTypes := #[]
  staticTypes := #[]
  resolved := Array.replicate 124 none
  statics := none }

def pool1 : Array CpInfo := pool [(2, .class_ 4), (1, u "java/lang/Object"), (0, u "<init>"), (0, u "()V"), (0, .methodref 8 9), (0, .class_ 10), (0, .nameAndType 11 12), (0, u "com/example/garm/garm/ClaimToStringPinLaw"), (0, u "len"), (0, u "(I)I"), (0, .class_ 14), (0, u "java/lang/String"), (0, .methodref 13 16), (0, .nameAndType 5 17), (0, u "([C)V"), (0, .methodref 8 19), (0, .nameAndType 20 21), (0, u "c0"), (0, u "(I)C"), (0, .methodref 8 23), (0, .nameAndType 24 21), (0, u "c1"), (0, .methodref 8 26), (0, .nameAndType 27 21), (0, u "c2"), (0, .methodref 13 29), (0, .nameAndType 30 21), (0, u "charAt"), (0, .methodref 8 32), (0, .nameAndType 33 34), (0, u "str"), (0, u "(I)Ljava/lang/String;"), (0, .integer 2147483647), (0, .fieldref 37 38), (0, .class_ 39), (0, .nameAndType 40 41), (0, u "com/example/garm/garm/Conformance"), (0, u "EXACT"), (0, u "Lcom/example/garm/garm/Conformance;"), (0, .fieldref 37 43), (0, .nameAndType 44 41), (0, u "STRICT"), (0, .fieldref 37 46), (0, .nameAndType 47 41), (0, u "DEMONSTRABLE"), (0, .class_ 49), (0, u "com/example/garm/garm/SecurityTarget$Claim"), (0, .methodref 48 51), (0, .nameAndType 5 52), (0, u "(Ljava/lang/String;Ljava/lang/String;Lcom/example/garm/garm/Conformance;)V"), (0, .methodref 48 54), (0, .nameAndType 55 56), (0, u "toString"), (0, u "()Ljava/lang/String;"), (0, .methodref 13 58), (0, .nameAndType 59 60), (0, u "length"), (0, u "()I"), (0, .methodref 8 62), (0, .nameAndType 63 64), (0, u "part"), (0, u "(Ljava/lang/String;II)Z"), (0, .methodref 48 66), (0, .nameAndType 67 68), (0, u "conformance"), (0, u "()Lcom/example/garm/garm/Conformance;"), (3, u "law"), (0, u "(III)Z")] 6

def k1m0 : Method := { name := "<init>", desc := "()V", sig := { parameters := [], returnType := none }, accessFlags := 2, code := none }
def k1c1 : Code := { maxStack := 2, maxLocals := 1, code := method_2_code, exceptionTable := #[], attributes := #[] }
def k1m1 : Method := { name := "len", desc := "(I)I", sig := { parameters := [.int], returnType := some .int }, accessFlags := 10, code := some k1c1 }
def k1c2 : Code := { maxStack := 2, maxLocals := 1, code := method_3_code, exceptionTable := #[], attributes := #[] }
def k1m2 : Method := { name := "c0", desc := "(I)C", sig := { parameters := [.int], returnType := some .char }, accessFlags := 10, code := some k1c2 }
def k1c3 : Code := { maxStack := 2, maxLocals := 1, code := method_4_code, exceptionTable := #[], attributes := #[] }
def k1m3 : Method := { name := "c1", desc := "(I)C", sig := { parameters := [.int], returnType := some .char }, accessFlags := 10, code := some k1c3 }
def k1c4 : Code := { maxStack := 2, maxLocals := 1, code := method_5_code, exceptionTable := #[], attributes := #[] }
def k1m4 : Method := { name := "c2", desc := "(I)C", sig := { parameters := [.int], returnType := some .char }, accessFlags := 10, code := some k1c4 }
def k1c5 : Code := { maxStack := 6, maxLocals := 2, code := method_6_code, exceptionTable := #[], attributes := #[] }
def k1m5 : Method := { name := "str", desc := "(I)Ljava/lang/String;", sig := { parameters := [.int], returnType := some (.object "java/lang/String") }, accessFlags := 10, code := some k1c5 }
def k1c6 : Code := { maxStack := 3, maxLocals := 5, code := method_7_code, exceptionTable := #[], attributes := #[] }
def k1m6 : Method := { name := "part", desc := "(Ljava/lang/String;II)Z", sig := { parameters := [(.object "java/lang/String"), .int, .int], returnType := some .boolean }, accessFlags := 10, code := some k1c6 }
def k1c7 : Code := { maxStack := 5, maxLocals := 11, code := code, exceptionTable := #[], attributes := #[] }
def k1m7 : Method := { name := "law", desc := "(III)Z", sig := { parameters := [.int, .int, .int], returnType := some .boolean }, accessFlags := 9, code := some k1c7 }
/-- com/example/garm/garm/ClaimToStringPinLaw -/
def k1 : Class := { plain "com/example/garm/garm/ClaimToStringPinLaw" (some 0) with
  accessFlags := 49
  interfaces := #[]
  cf := some (fileOf pool1 8 #[] #[{ accessFlags := 2, nameIndex := 5, descriptorIndex := 6, attributes := #[] }, { accessFlags := 10, nameIndex := 11, descriptorIndex := 12, attributes := #[] }, { accessFlags := 10, nameIndex := 20, descriptorIndex := 21, attributes := #[] }, { accessFlags := 10, nameIndex := 24, descriptorIndex := 21, attributes := #[] }, { accessFlags := 10, nameIndex := 27, descriptorIndex := 21, attributes := #[] }, { accessFlags := 10, nameIndex := 33, descriptorIndex := 34, attributes := #[] }, { accessFlags := 10, nameIndex := 63, descriptorIndex := 64, attributes := #[] }, { accessFlags := 9, nameIndex := 72, descriptorIndex := 73, attributes := #[] }] 49 2 #[] #[])
  fields := #[]
  methods := #[k1m0, k1m1, k1m2, k1m3, k1m4, k1m5, k1m6, k1m7]
  instanceTypes := #[]
  staticTypes := #[]
  resolved := Array.replicate 80 none
  statics := none }

def pool2 : Array CpInfo := pool [(1, .class_ 2), (0, u "java/io/Serializable"), (0, .class_ 4), (0, u "java/lang/Object")] 2

/-- java/io/Serializable -/
def k2 : Class := { plain "java/io/Serializable" (some 0) with
  accessFlags := 1537
  interfaces := #[]
  cf := some (fileOf pool2 1 #[] #[] 1537 3 #[] #[])
  fields := #[]
  methods := #[]
  instanceTypes := #[]
  staticTypes := #[]
  resolved := Array.replicate 7 none
  statics := none }

def pool3 : Array CpInfo := pool [(1, .class_ 2), (0, u "java/lang/Comparable"), (0, .class_ 4), (0, u "java/lang/Object")] 7

/-- java/lang/Comparable -/
def k3 : Class := { plain "java/lang/Comparable" (some 0) with
  accessFlags := 1537
  interfaces := #[]
  cf := some (fileOf pool3 1 #[] #[] 1537 3 #[] #[])
  fields := #[]
  methods := #[]
  instanceTypes := #[]
  staticTypes := #[]
  resolved := Array.replicate 12 none
  statics := none }

def pool4 : Array CpInfo := pool [(2, .class_ 4), (1, u "java/lang/CharSequence"), (42, .class_ 48), (0, u "java/lang/CharSequence$1CodePointIterator"), (10, .class_ 60), (0, u "java/lang/CharSequence$1CharIterator"), (5, .class_ 67), (0, u "java/lang/Object")] 63

/-- java/lang/CharSequence -/
def k4 : Class := { plain "java/lang/CharSequence" (some 0) with
  accessFlags := 1537
  interfaces := #[]
  cf := some (fileOf pool4 2 #[.nestMembers #[47, 59]] #[] 1537 66 #[] #[])
  fields := #[]
  methods := #[]
  instanceTypes := #[]
  staticTypes := #[]
  resolved := Array.replicate 131 none
  statics := none }

def pool5 : Array CpInfo := pool [(1, .class_ 2), (0, u "java/lang/constant/Constable"), (0, .class_ 4), (0, u "java/lang/Object")] 6

/-- java/lang/constant/Constable -/
def k5 : Class := { plain "java/lang/constant/Constable" (some 0) with
  accessFlags := 1537
  interfaces := #[]
  cf := some (fileOf pool5 1 #[] #[] 1537 3 #[] #[])
  fields := #[]
  methods := #[]
  instanceTypes := #[]
  staticTypes := #[]
  resolved := Array.replicate 11 none
  statics := none }

def pool6 : Array CpInfo := pool [(1, .class_ 2), (0, u "java/lang/constant/ConstantDesc"), (0, .class_ 4), (0, u "java/lang/Object")] 32

/-- java/lang/constant/ConstantDesc -/
def k6 : Class := { plain "java/lang/constant/ConstantDesc" (some 0) with
  accessFlags := 1537
  interfaces := #[]
  cf := some (fileOf pool6 1 #[] #[] 1537 3 #[] #[])
  fields := #[]
  methods := #[]
  instanceTypes := #[]
  staticTypes := #[]
  resolved := Array.replicate 37 none
  statics := none }

def pool7 : Array CpInfo := pool [(1, .methodref 2 3), (0, .class_ 4), (0, .nameAndType 5 6), (0, u "java/lang/Object"), (0, u "<init>"), (0, u "()V"), (0, .string 8), (0, u ""), (0, .fieldref 10 11), (0, .class_ 12), (0, .nameAndType 13 14), (0, u "java/lang/String"), (0, u "value"), (0, u "[B"), (0, .fieldref 10 16), (0, .nameAndType 17 18), (0, u "coder"), (0, u "B"), (2, u "hash"), (0, u "I"), (2, u "hashIsZero"), (0, u "Z"), (0, .methodref 10 28), (0, .nameAndType 5 29), (0, u "([CIILjava/lang/Void;)V"), (8, .fieldref 10 39), (0, .nameAndType 40 26), (0, u "COMPACT_STRINGS"), (1, .class_ 44), (1, u "java/lang/StringUTF16"), (0, u "compress"), (1, .methodref 42 48), (0, .nameAndType 49 50), (0, u "coderFromArrayLen"), (0, u "([BI)B"), (3, .methodref 55 56), (0, .class_ 57), (0, .nameAndType 58 59), (0, u "java/util/Arrays"), (0, u "copyOfRange"), (0, u "([BII)[B"), (47, .class_ 109), (1, u "java/lang/StringLatin1"), (32, u "()Z"), (34, .methodref 42 178), (0, .nameAndType 45 179), (0, u "([CII)[B"), (13, .class_ 195), (1, u "java/lang/System"), (16, .methodref 193 213), (0, .nameAndType 214 215), (0, u "arraycopy"), (0, u "(Ljava/lang/Object;ILjava/lang/Object;II)V"), (118, u "()I"), (0, .methodref 10 336), (0, .nameAndType 17 337), (0, u "()B"), (2, u "()[B"), (22, u "([BI)C"), (27, u "(II)V"), (35, u "(I)C"), (61, .methodref 10 490), (0, .nameAndType 5 491), (0, u "(Ljava/lang/AbstractStringBuilder;Ljava/lang/Void;)V"), (0, .methodref 10 493), (0, .nameAndType 494 142), (0, u "isLatin1"), (0, .methodref 107 496), (0, .nameAndType 497 363), (0, u "charAt"), (3, u "checkIndex"), (4, .nameAndType 507 334), (0, u "length"), (24, u "getBytes"), (16, .methodref 550 506), (0, .class_ 551), (0, u "java/lang/AbstractStringBuilder"), (0, .methodref 550 553), (0, .nameAndType 554 340), (0, u "getValue"), (20, .class_ 576), (0, u "java/lang/CharSequence"), (22, u "CASE_INSENSITIVE_ORDER"), (0, u "Ljava/util/Comparator;"), (220, u "([BIB)V"), (188, u "([C)V"), (36, .methodref 550 493), (5, .fieldref 1054 1055), (0, .class_ 1056), (0, .nameAndType 1057 1058), (0, u "jdk/internal/util/Preconditions"), (0, u "SIOOBE_FORMATTER"), (0, u "Ljava/util/function/BiFunction;"), (0, .methodref 1054 1060), (0, .nameAndType 501 1061), (0, u "(IILjava/util/function/BiFunction;)I"), (39, u "serialPersistentFields"), (0, u "[Ljava/io/ObjectStreamField;"), (0, .class_ 1104), (0, u "java/lang/String$CaseInsensitiveComparator"), (1, .class_ 1107), (0, u "java/io/Serializable"), (0, .class_ 1109), (0, u "java/lang/Comparable"), (0, .class_ 1111), (0, u "java/lang/constant/Constable"), (0, .class_ 1113), (0, u "java/lang/constant/ConstantDesc"), (2, u "serialVersionUID"), (0, u "J"), (3, u "REPL"), (0, u "C"), (2, u "LATIN1"), (1, u "UTF16"), (105, u "(Ljava/lang/StringBuilder;)V")] 217

def k7m0 : Method := { name := "<init>", desc := "()V", sig := { parameters := [], returnType := none }, accessFlags := 1, code := none }
def k7c1 : Code := { maxStack := 5, maxLocals := 2, code := jdk_42_method_3_code, exceptionTable := #[], attributes := #[] }
def k7m1 : Method := { name := "<init>", desc := "([C)V", sig := { parameters := [(.array .char)], returnType := none }, accessFlags := 1, code := some k7c1 }
def k7c2 : Code := { maxStack := 3, maxLocals := 2, code := jdk_42_method_53_code, exceptionTable := #[], attributes := #[] }
def k7m2 : Method := { name := "<init>", desc := "(Ljava/lang/StringBuilder;)V", sig := { parameters := [(.object "java/lang/StringBuilder")], returnType := none }, accessFlags := 1, code := some k7c2 }
def k7c3 : Code := { maxStack := 2, maxLocals := 1, code := jdk_42_method_54_code, exceptionTable := #[], attributes := #[] }
def k7m3 : Method := { name := "length", desc := "()I", sig := { parameters := [], returnType := some .int }, accessFlags := 1, code := some k7c3 }
def k7c4 : Code := { maxStack := 2, maxLocals := 2, code := jdk_42_method_56_code, exceptionTable := #[], attributes := #[] }
def k7m4 : Method := { name := "charAt", desc := "(I)C", sig := { parameters := [.int], returnType := some .char }, accessFlags := 1, code := some k7c4 }
def k7c5 : Code := { maxStack := 5, maxLocals := 4, code := jdk_42_method_147_code, exceptionTable := #[], attributes := #[] }
def k7m5 : Method := { name := "getBytes", desc := "([BIB)V", sig := { parameters := [(.array .byte), .int, .byte], returnType := none }, accessFlags := 0, code := some k7c5 }
def k7c6 : Code := { maxStack := 4, maxLocals := 6, code := jdk_42_method_149_code, exceptionTable := #[], attributes := #[] }
def k7m6 : Method := { name := "<init>", desc := "([CIILjava/lang/Void;)V", sig := { parameters := [(.array .char), .int, .int, (.object "java/lang/Void")], returnType := none }, accessFlags := 2, code := some k7c6 }
def k7c7 : Code := { maxStack := 5, maxLocals := 5, code := jdk_42_method_150_code, exceptionTable := #[], attributes := #[] }
def k7m7 : Method := { name := "<init>", desc := "(Ljava/lang/AbstractStringBuilder;Ljava/lang/Void;)V", sig := { parameters := [(.object "java/lang/AbstractStringBuilder"), (.object "java/lang/Void")], returnType := none }, accessFlags := 0, code := some k7c7 }
def k7c8 : Code := { maxStack := 1, maxLocals := 1, code := jdk_42_method_152_code, exceptionTable := #[], attributes := #[] }
def k7m8 : Method := { name := "coder", desc := "()B", sig := { parameters := [], returnType := some .byte }, accessFlags := 0, code := some k7c8 }
def k7c9 : Code := { maxStack := 1, maxLocals := 1, code := jdk_42_method_154_code, exceptionTable := #[], attributes := #[] }
def k7m9 : Method := { name := "isLatin1", desc := "()Z", sig := { parameters := [], returnType := some .boolean }, accessFlags := 0, code := some k7c9 }
def k7c10 : Code := { maxStack := 3, maxLocals := 2, code := jdk_42_method_155_code, exceptionTable := #[], attributes := #[] }
def k7m10 : Method := { name := "checkIndex", desc := "(II)V", sig := { parameters := [.int, .int], returnType := none }, accessFlags := 8, code := some k7c10 }
/-- java/lang/String -/
def k7 : Class := { plain "java/lang/String" (some 0) with
  accessFlags := 49
  interfaces := #[2, 3, 4, 5, 6]
  cf := some (fileOf pool7 10 #[.nestMembers #[1103]] #[{ accessFlags := 1, nameIndex := 5, descriptorIndex := 6, attributes := #[] }, { accessFlags := 1, nameIndex := 5, descriptorIndex := 1010, attributes := #[] }, { accessFlags := 1, nameIndex := 5, descriptorIndex := 1233, attributes := #[] }, { accessFlags := 1, nameIndex := 507, descriptorIndex := 334, attributes := #[] }, { accessFlags := 1, nameIndex := 497, descriptorIndex := 427, attributes := #[] }, { accessFlags := 0, nameIndex := 532, descriptorIndex := 821, attributes := #[] }, { accessFlags := 2, nameIndex := 5, descriptorIndex := 29, attributes := #[] }, { accessFlags := 0, nameIndex := 5, descriptorIndex := 491, attributes := #[] }, { accessFlags := 0, nameIndex := 17, descriptorIndex := 337, attributes := #[] }, { accessFlags := 0, nameIndex := 494, descriptorIndex := 142, attributes := #[] }, { accessFlags := 8, nameIndex := 501, descriptorIndex := 391, attributes := #[] }] 49 2 #[1106, 1108, 575, 1110, 1112] #[{ accessFlags := 18, nameIndex := 13, descriptorIndex := 14, attributes := #[] }, { accessFlags := 18, nameIndex := 17, descriptorIndex := 18, attributes := #[] }, { accessFlags := 2, nameIndex := 21, descriptorIndex := 22, attributes := #[] }, { accessFlags := 2, nameIndex := 25, descriptorIndex := 26, attributes := #[] }, { accessFlags := 26, nameIndex := 1116, descriptorIndex := 1117, attributes := #[] }, { accessFlags := 24, nameIndex := 40, descriptorIndex := 26, attributes := #[] }, { accessFlags := 26, nameIndex := 1101, descriptorIndex := 1102, attributes := #[] }, { accessFlags := 26, nameIndex := 1121, descriptorIndex := 1122, attributes := #[] }, { accessFlags := 25, nameIndex := 599, descriptorIndex := 600, attributes := #[] }, { accessFlags := 24, nameIndex := 1125, descriptorIndex := 18, attributes := #[] }, { accessFlags := 24, nameIndex := 1127, descriptorIndex := 18, attributes := #[] }])
  fields := #[{ name := "value", type := (.array .byte), accessFlags := 18, slot := 0, constantValue := 0 }, { name := "coder", type := .byte, accessFlags := 18, slot := 1, constantValue := 0 }, { name := "hash", type := .int, accessFlags := 2, slot := 2, constantValue := 0 }, { name := "hashIsZero", type := .boolean, accessFlags := 2, slot := 3, constantValue := 0 }, { name := "serialVersionUID", type := .long, accessFlags := 26, slot := 0, constantValue := 0 }, { name := "COMPACT_STRINGS", type := .boolean, accessFlags := 24, slot := 1, constantValue := 0 }, { name := "serialPersistentFields", type := (.array (.object "java/io/ObjectStreamField")), accessFlags := 26, slot := 2, constantValue := 0 }, { name := "REPL", type := .char, accessFlags := 26, slot := 3, constantValue := 0 }, { name := "CASE_INSENSITIVE_ORDER", type := (.object "java/util/Comparator"), accessFlags := 25, slot := 4, constantValue := 0 }, { name := "LATIN1", type := .byte, accessFlags := 24, slot := 5, constantValue := 0 }, { name := "UTF16", type := .byte, accessFlags := 24, slot := 6, constantValue := 0 }]
  methods := #[k7m0, k7m1, k7m2, k7m3, k7m4, k7m5, k7m6, k7m7, k7m8, k7m9, k7m10]
  instanceTypes := #[(.array .byte), .byte, .int, .boolean]
  staticTypes := #[.long, .boolean, (.array (.object "java/io/ObjectStreamField")), .char, (.object "java/util/Comparator"), .byte, .byte]
  resolved := Array.replicate 1451 none
  statics := some 0 }

def pool8 : Array CpInfo := pool [(2, .class_ 4), (1, u "java/lang/Enum"), (0, u "name"), (0, u "Ljava/lang/String;"), (2, u "ordinal"), (0, u "I"), (1, .class_ 14), (1, u "java/lang/Object"), (4, u "hash"), (86, .class_ 108), (1, u "java/lang/Enum$EnumDesc"), (2, .class_ 112), (0, u "java/lang/constant/Constable"), (0, .class_ 114), (0, u "java/lang/Comparable"), (0, .class_ 116), (0, u "java/io/Serializable")] 87

/-- java/lang/Enum -/
def k8 : Class := { plain "java/lang/Enum" (some 0) with
  accessFlags := 1057
  interfaces := #[5, 3, 2]
  cf := some (fileOf pool8 2 #[.nestMembers #[106]] #[] 1057 12 #[111, 113, 115] #[{ accessFlags := 18, nameIndex := 5, descriptorIndex := 6, attributes := #[] }, { accessFlags := 18, nameIndex := 9, descriptorIndex := 10, attributes := #[] }, { accessFlags := 2, nameIndex := 19, descriptorIndex := 10, attributes := #[] }])
  fields := #[{ name := "name", type := (.object "java/lang/String"), accessFlags := 18, slot := 0, constantValue := 0 }, { name := "ordinal", type := .int, accessFlags := 18, slot := 1, constantValue := 0 }, { name := "hash", type := .int, accessFlags := 2, slot := 2, constantValue := 0 }]
  methods := #[]
  instanceTypes := #[(.object "java/lang/String"), .int, .int]
  staticTypes := #[]
  resolved := Array.replicate 204 none
  statics := none }

def pool9 : Array CpInfo := pool [(1, .class_ 2), (0, u "com/example/garm/garm/Conformance"), (2, u "EXACT"), (0, u "Lcom/example/garm/garm/Conformance;"), (2, u "STRICT"), (2, u "DEMONSTRABLE"), (2, u "$VALUES"), (0, u "[Lcom/example/garm/garm/Conformance;"), (6, .class_ 25), (1, u "java/lang/Enum")] 25

/-- com/example/garm/garm/Conformance -/
def k9 : Class := { plain "com/example/garm/garm/Conformance" (some 8) with
  accessFlags := 16432
  interfaces := #[]
  cf := some (fileOf pool9 1 #[] #[] 16432 23 #[] #[{ accessFlags := 16409, nameIndex := 5, descriptorIndex := 6, attributes := #[] }, { accessFlags := 16409, nameIndex := 9, descriptorIndex := 6, attributes := #[] }, { accessFlags := 16409, nameIndex := 12, descriptorIndex := 6, attributes := #[] }, { accessFlags := 4122, nameIndex := 15, descriptorIndex := 16, attributes := #[] }])
  fields := #[{ name := "EXACT", type := (.object "com/example/garm/garm/Conformance"), accessFlags := 16409, slot := 0, constantValue := 0 }, { name := "STRICT", type := (.object "com/example/garm/garm/Conformance"), accessFlags := 16409, slot := 1, constantValue := 0 }, { name := "DEMONSTRABLE", type := (.object "com/example/garm/garm/Conformance"), accessFlags := 16409, slot := 2, constantValue := 0 }, { name := "$VALUES", type := (.array (.object "com/example/garm/garm/Conformance")), accessFlags := 4122, slot := 3, constantValue := 0 }]
  methods := #[]
  instanceTypes := #[(.object "java/lang/String"), .int, .int]
  staticTypes := #[(.object "com/example/garm/garm/Conformance"), (.object "com/example/garm/garm/Conformance"), (.object "com/example/garm/garm/Conformance"), (.array (.object "com/example/garm/garm/Conformance"))]
  resolved := Array.replicate 51 none
  statics := some 1 }

def pool10 : Array CpInfo := pool [(1, .methodref 2 3), (0, .class_ 4), (0, .nameAndType 5 6), (0, u "java/lang/Object"), (0, u "<init>"), (0, u "()V"), (0, .fieldref 8 9), (0, .class_ 10), (0, .nameAndType 11 12), (0, u "com/example/garm/garm/SecurityTarget$Claim"), (0, u "profile"), (0, u "Ljava/lang/String;"), (0, .fieldref 8 14), (0, .nameAndType 15 12), (0, u "version"), (0, .fieldref 8 17), (0, .nameAndType 18 19), (0, u "conformance"), (0, u "Lcom/example/garm/garm/Conformance;"), (5, u "()Ljava/lang/String;"), (8, .class_ 35), (0, u "java/lang/StringBuilder"), (0, .methodref 34 3), (0, .methodref 34 38), (0, .nameAndType 39 40), (0, u "append"), (0, u "(Ljava/lang/String;)Ljava/lang/StringBuilder;"), (0, .string 42), (0, u " "), (0, .methodref 34 44), (0, .nameAndType 45 25), (0, u "toString"), (0, u "(Ljava/lang/String;Ljava/lang/String;Lcom/example/garm/garm/Conformance;)V"), (5, u "()Lcom/example/garm/garm/Conformance;"), (3, .class_ 57), (0, u "com/example/garm/garm/SecurityTarget")] 2

def k10c0 : Code := { maxStack := 2, maxLocals := 4, code := prog_41_method_1_code, exceptionTable := #[], attributes := #[] }
def k10m0 : Method := { name := "<init>", desc := "(Ljava/lang/String;Ljava/lang/String;Lcom/example/garm/garm/Conformance;)V", sig := { parameters := [(.object "java/lang/String"), (.object "java/lang/String"), (.object "com/example/garm/garm/Conformance")], returnType := none }, accessFlags := 0, code := some k10c0 }
def k10c1 : Code := { maxStack := 1, maxLocals := 1, code := prog_41_method_3_code, exceptionTable := #[], attributes := #[] }
def k10m1 : Method := { name := "conformance", desc := "()Lcom/example/garm/garm/Conformance;", sig := { parameters := [], returnType := some (.object "com/example/garm/garm/Conformance") }, accessFlags := 0, code := some k10c1 }
def k10c2 : Code := { maxStack := 2, maxLocals := 1, code := prog_41_method_4_code, exceptionTable := #[], attributes := #[] }
def k10m2 : Method := { name := "toString", desc := "()Ljava/lang/String;", sig := { parameters := [], returnType := some (.object "java/lang/String") }, accessFlags := 1, code := some k10c2 }
/-- com/example/garm/garm/SecurityTarget$Claim -/
def k10 : Class := { plain "com/example/garm/garm/SecurityTarget$Claim" (some 0) with
  accessFlags := 48
  interfaces := #[]
  cf := some (fileOf pool10 8 #[.nestHost 56] #[{ accessFlags := 0, nameIndex := 5, descriptorIndex := 46, attributes := #[] }, { accessFlags := 0, nameIndex := 18, descriptorIndex := 52, attributes := #[] }, { accessFlags := 1, nameIndex := 45, descriptorIndex := 25, attributes := #[] }] 48 2 #[] #[{ accessFlags := 18, nameIndex := 11, descriptorIndex := 12, attributes := #[] }, { accessFlags := 18, nameIndex := 15, descriptorIndex := 12, attributes := #[] }, { accessFlags := 18, nameIndex := 18, descriptorIndex := 19, attributes := #[] }])
  fields := #[{ name := "profile", type := (.object "java/lang/String"), accessFlags := 18, slot := 0, constantValue := 0 }, { name := "version", type := (.object "java/lang/String"), accessFlags := 18, slot := 1, constantValue := 0 }, { name := "conformance", type := (.object "com/example/garm/garm/Conformance"), accessFlags := 18, slot := 2, constantValue := 0 }]
  methods := #[k10m0, k10m1, k10m2]
  instanceTypes := #[(.object "java/lang/String"), (.object "java/lang/String"), (.object "com/example/garm/garm/Conformance")]
  staticTypes := #[]
  resolved := Array.replicate 60 none
  statics := none }

def pool11 : Array CpInfo := pool [(1, .class_ 2), (0, u "java/lang/Appendable"), (0, .class_ 4), (0, u "java/lang/Object")] 9

/-- java/lang/Appendable -/
def k11 : Class := { plain "java/lang/Appendable" (some 0) with
  accessFlags := 1537
  interfaces := #[]
  cf := some (fileOf pool11 1 #[] #[] 1537 3 #[] #[])
  fields := #[]
  methods := #[]
  instanceTypes := #[]
  staticTypes := #[]
  resolved := Array.replicate 14 none
  statics := none }

def pool12 : Array CpInfo := pool [(1, .class_ 2), (0, u "java/lang/String"), (0, .methodref 4 5), (0, .class_ 6), (0, .nameAndType 7 8), (0, u "java/lang/Object"), (0, u "<init>"), (0, u "()V"), (1, .class_ 12), (1, u "java/lang/AbstractStringBuilder"), (0, u "EMPTYVALUE"), (0, u "[B"), (0, .fieldref 10 16), (0, .nameAndType 17 14), (0, u "value"), (0, .fieldref 1 19), (0, .nameAndType 20 21), (0, u "COMPACT_STRINGS"), (0, u "Z"), (0, .fieldref 10 23), (0, .nameAndType 24 25), (0, u "coder"), (0, u "B"), (6, .methodref 1 33), (0, .nameAndType 34 35), (0, u "length"), (0, u "()I"), (4, .methodref 1 41), (0, .nameAndType 24 42), (0, u "()B"), (2, u "append"), (0, u "(Ljava/lang/String;)Ljava/lang/AbstractStringBuilder;"), (1, .class_ 49), (0, u "java/lang/CharSequence"), (19, u "(Ljava/lang/String;)V"), (5, u "maybeLatin1"), (3, .fieldref 10 80), (0, .nameAndType 81 82), (0, u "count"), (0, u "I"), (2, u "isLatin1"), (0, u "()Z"), (13, .methodref 10 101), (0, .nameAndType 102 103), (0, u "ensureCapacityInternal"), (0, u "(I)V"), (104, .methodref 10 209), (0, .nameAndType 210 211), (0, u "putStringAt"), (0, u "(ILjava/lang/String;)V"), (5, u "inflateIfNeededFor"), (2, .nameAndType 221 222), (0, u "getBytes"), (0, u "([BIB)V"), (174, .methodref 10 398), (0, .nameAndType 217 69), (0, .methodref 1 220), (3, u "()[B"), (40, .class_ 445), (0, u "java/lang/Appendable"), (106, u "getValue")] 56

def k12m0 : Method := { name := "<init>", desc := "()V", sig := { parameters := [], returnType := none }, accessFlags := 0, code := none }
def k12c1 : Code := { maxStack := 2, maxLocals := 2, code := jdk_68_method_2_code, exceptionTable := #[], attributes := #[] }
def k12m1 : Method := { name := "<init>", desc := "(I)V", sig := { parameters := [.int], returnType := none }, accessFlags := 0, code := some k12c1 }
def k12c2 : Code := { maxStack := 1, maxLocals := 1, code := jdk_68_method_6_code, exceptionTable := #[], attributes := #[] }
def k12m2 : Method := { name := "length", desc := "()I", sig := { parameters := [], returnType := some .int }, accessFlags := 1, code := some k12c2 }
def k12c3 : Code := { maxStack := 4, maxLocals := 3, code := jdk_68_method_9_code, exceptionTable := #[], attributes := #[] }
def k12m3 : Method := { name := "ensureCapacityInternal", desc := "(I)V", sig := { parameters := [.int], returnType := none }, accessFlags := 2, code := some k12c3 }
def k12c4 : Code := { maxStack := 3, maxLocals := 3, code := jdk_68_method_22_code, exceptionTable := #[], attributes := #[] }
def k12m4 : Method := { name := "append", desc := "(Ljava/lang/String;)Ljava/lang/AbstractStringBuilder;", sig := { parameters := [(.object "java/lang/String")], returnType := some (.object "java/lang/AbstractStringBuilder") }, accessFlags := 1, code := some k12c4 }
def k12c5 : Code := { maxStack := 1, maxLocals := 1, code := jdk_68_method_64_code, exceptionTable := #[], attributes := #[] }
def k12m5 : Method := { name := "getValue", desc := "()[B", sig := { parameters := [], returnType := some (.array .byte) }, accessFlags := 16, code := some k12c5 }
def k12c6 : Code := { maxStack := 1, maxLocals := 1, code := jdk_68_method_68_code, exceptionTable := #[], attributes := #[] }
def k12m6 : Method := { name := "isLatin1", desc := "()Z", sig := { parameters := [], returnType := some .boolean }, accessFlags := 16, code := some k12c6 }
def k12c7 : Code := { maxStack := 2, maxLocals := 2, code := jdk_68_method_71_code, exceptionTable := #[], attributes := #[] }
def k12m7 : Method := { name := "inflateIfNeededFor", desc := "(Ljava/lang/String;)V", sig := { parameters := [(.object "java/lang/String")], returnType := none }, accessFlags := 2, code := some k12c7 }
def k12c8 : Code := { maxStack := 4, maxLocals := 3, code := jdk_68_method_73_code, exceptionTable := #[], attributes := #[] }
def k12m8 : Method := { name := "putStringAt", desc := "(ILjava/lang/String;)V", sig := { parameters := [.int, (.object "java/lang/String")], returnType := none }, accessFlags := 2, code := some k12c8 }
/-- java/lang/AbstractStringBuilder -/
def k12 : Class := { plain "java/lang/AbstractStringBuilder" (some 0) with
  accessFlags := 1056
  interfaces := #[11, 4]
  cf := some (fileOf pool12 10 #[] #[{ accessFlags := 0, nameIndex := 7, descriptorIndex := 8, attributes := #[] }, { accessFlags := 0, nameIndex := 7, descriptorIndex := 103, attributes := #[] }, { accessFlags := 1, nameIndex := 34, descriptorIndex := 35, attributes := #[] }, { accessFlags := 2, nameIndex := 102, descriptorIndex := 103, attributes := #[] }, { accessFlags := 1, nameIndex := 45, descriptorIndex := 46, attributes := #[] }, { accessFlags := 16, nameIndex := 552, descriptorIndex := 403, attributes := #[] }, { accessFlags := 16, nameIndex := 85, descriptorIndex := 86, attributes := #[] }, { accessFlags := 2, nameIndex := 217, descriptorIndex := 69, attributes := #[] }, { accessFlags := 2, nameIndex := 210, descriptorIndex := 211, attributes := #[] }] 1056 4 #[444, 48] #[{ accessFlags := 0, nameIndex := 17, descriptorIndex := 14, attributes := #[] }, { accessFlags := 0, nameIndex := 24, descriptorIndex := 25, attributes := #[] }, { accessFlags := 0, nameIndex := 75, descriptorIndex := 21, attributes := #[] }, { accessFlags := 0, nameIndex := 81, descriptorIndex := 82, attributes := #[] }, { accessFlags := 26, nameIndex := 13, descriptorIndex := 14, attributes := #[] }])
  fields := #[{ name := "value", type := (.array .byte), accessFlags := 0, slot := 0, constantValue := 0 }, { name := "coder", type := .byte, accessFlags := 0, slot := 1, constantValue := 0 }, { name := "maybeLatin1", type := .boolean, accessFlags := 0, slot := 2, constantValue := 0 }, { name := "count", type := .int, accessFlags := 0, slot := 3, constantValue := 0 }, { name := "EMPTYVALUE", type := (.array .byte), accessFlags := 26, slot := 0, constantValue := 0 }]
  methods := #[k12m0, k12m1, k12m2, k12m3, k12m4, k12m5, k12m6, k12m7, k12m8]
  instanceTypes := #[(.array .byte), .byte, .boolean, .int]
  staticTypes := #[(.array .byte)]
  resolved := Array.replicate 609 none
  statics := none }

def pool13 : Array CpInfo := pool [(1, .methodref 2 3), (0, .class_ 4), (0, .nameAndType 5 6), (0, u "java/lang/AbstractStringBuilder"), (0, u "<init>"), (0, u "(I)V"), (11, .class_ 20), (1, u "java/lang/String"), (3, .class_ 26), (1, u "java/lang/StringBuilder"), (0, u "append"), (0, u "(Ljava/lang/String;)Ljava/lang/StringBuilder;"), (0, .methodref 2 30), (0, .nameAndType 27 31), (0, u "(Ljava/lang/String;)Ljava/lang/AbstractStringBuilder;"), (105, .methodref 18 138), (0, .nameAndType 5 139), (0, u "(Ljava/lang/StringBuilder;)V"), (5, u "()V"), (10, u "()I"), (186, .methodref 2 344), (0, .nameAndType 345 156), (0, u "length"), (3, .class_ 350), (0, u "java/lang/Appendable"), (0, .class_ 352), (0, u "java/io/Serializable"), (0, .class_ 354), (0, u "java/lang/Comparable"), (0, .class_ 356), (0, u "java/lang/CharSequence"), (0, u "serialVersionUID"), (0, u "J"), (40, u "toString"), (0, u "()Ljava/lang/String;")] 21

def k13c0 : Code := { maxStack := 2, maxLocals := 1, code := jdk_67_method_1_code, exceptionTable := #[], attributes := #[] }
def k13m0 : Method := { name := "<init>", desc := "()V", sig := { parameters := [], returnType := none }, accessFlags := 1, code := some k13c0 }
def k13c1 : Code := { maxStack := 2, maxLocals := 2, code := jdk_67_method_7_code, exceptionTable := #[], attributes := #[] }
def k13m1 : Method := { name := "append", desc := "(Ljava/lang/String;)Ljava/lang/StringBuilder;", sig := { parameters := [(.object "java/lang/String")], returnType := some (.object "java/lang/StringBuilder") }, accessFlags := 1, code := some k13c1 }
def k13c2 : Code := { maxStack := 3, maxLocals := 1, code := jdk_67_method_42_code, exceptionTable := #[], attributes := #[] }
def k13m2 : Method := { name := "toString", desc := "()Ljava/lang/String;", sig := { parameters := [], returnType := some (.object "java/lang/String") }, accessFlags := 1, code := some k13c2 }
def k13c3 : Code := { maxStack := 1, maxLocals := 1, code := jdk_67_method_93_code, exceptionTable := #[], attributes := #[] }
def k13m3 : Method := { name := "length", desc := "()I", sig := { parameters := [], returnType := some .int }, accessFlags := 4161, code := some k13c3 }
/-- java/lang/StringBuilder -/
def k13 : Class := { plain "java/lang/StringBuilder" (some 12) with
  accessFlags := 49
  interfaces := #[11, 2, 3, 4]
  cf := some (fileOf pool13 24 #[] #[{ accessFlags := 1, nameIndex := 5, descriptorIndex := 145, attributes := #[] }, { accessFlags := 1, nameIndex := 27, descriptorIndex := 28, attributes := #[] }, { accessFlags := 1, nameIndex := 399, descriptorIndex := 400, attributes := #[] }, { accessFlags := 4161, nameIndex := 345, descriptorIndex := 156, attributes := #[] }] 49 2 #[349, 351, 353, 355] #[{ accessFlags := 24, nameIndex := 357, descriptorIndex := 358, attributes := #[] }])
  fields := #[{ name := "serialVersionUID", type := .long, accessFlags := 24, slot := 0, constantValue := 0 }]
  methods := #[k13m0, k13m1, k13m2, k13m3]
  instanceTypes := #[(.array .byte), .byte, .boolean, .int]
  staticTypes := #[.long]
  resolved := Array.replicate 422 none
  statics := none }

def pool14 : Array CpInfo := pool [(2, .class_ 4), (1, u "java/lang/Object"), (0, u "<init>"), (0, u "()V"), (1, .class_ 10), (1, u "java/lang/System"), (0, u "allowSecurityManager"), (0, u "I"), (16, u "cons"), (0, u "Ljava/io/Console;"), (77, .class_ 110), (1, u "java/lang/System$CallersHolder"), (43, u "initialErrStream"), (0, u "Ljava/io/PrintStream;"), (19, u "security"), (0, u "Ljava/lang/SecurityManager;"), (31, .class_ 209), (0, u "java/lang/System$1"), (7, u "props"), (0, u "Ljava/util/Properties;"), (2, u "lineSeparator"), (0, u "Ljava/lang/String;"), (96, .class_ 321), (1, u "java/lang/System$LoggerFinder"), (5, .class_ 328), (0, u "java/lang/System$Logger"), (67, u "err"), (2, u "out"), (91, u "notSupportedJnuEncoding"), (15, u "in"), (17, u "initialIn"), (0, u "Ljava/io/InputStream;"), (35, u "bootLayer"), (0, u "Ljava/lang/ModuleLayer;"), (99, .class_ 664), (0, u "java/lang/System$2"), (9, u "NEVER"), (2, u "MAYBE"), (49, u "arraycopy"), (0, u "(Ljava/lang/Object;ILjava/lang/Object;II)V"), (72, .class_ 802), (0, u "java/lang/System$Logger$Level")] 31

def k14m0 : Method := { name := "<init>", desc := "()V", sig := { parameters := [], returnType := none }, accessFlags := 2, code := none }
def k14m1 : Method := { name := "arraycopy", desc := "(Ljava/lang/Object;ILjava/lang/Object;II)V", sig := { parameters := [(.object "java/lang/Object"), .int, (.object "java/lang/Object"), .int, .int], returnType := none }, accessFlags := 265, code := none }
/-- java/lang/System -/
def k14 : Class := { plain "java/lang/System" (some 0) with
  accessFlags := 49
  interfaces := #[]
  cf := some (fileOf pool14 8 #[.nestMembers #[319, 327, 801, 108, 663, 208]] #[{ accessFlags := 2, nameIndex := 5, descriptorIndex := 6, attributes := #[] }, { accessFlags := 265, nameIndex := 727, descriptorIndex := 728, attributes := #[] }] 49 2 #[] #[{ accessFlags := 25, nameIndex := 507, descriptorIndex := 526, attributes := #[] }, { accessFlags := 25, nameIndex := 399, descriptorIndex := 155, attributes := #[] }, { accessFlags := 25, nameIndex := 396, descriptorIndex := 155, attributes := #[] }, { accessFlags := 10, nameIndex := 525, descriptorIndex := 526, attributes := #[] }, { accessFlags := 26, nameIndex := 674, descriptorIndex := 12, attributes := #[] }, { accessFlags := 26, nameIndex := 677, descriptorIndex := 12, attributes := #[] }, { accessFlags := 10, nameIndex := 11, descriptorIndex := 12, attributes := #[] }, { accessFlags := 74, nameIndex := 175, descriptorIndex := 176, attributes := #[] }, { accessFlags := 10, nameIndex := 491, descriptorIndex := 222, attributes := #[] }, { accessFlags := 74, nameIndex := 29, descriptorIndex := 30, attributes := #[] }, { accessFlags := 74, nameIndex := 154, descriptorIndex := 155, attributes := #[] }, { accessFlags := 10, nameIndex := 217, descriptorIndex := 218, attributes := #[] }, { accessFlags := 10, nameIndex := 221, descriptorIndex := 222, attributes := #[] }, { accessFlags := 8, nameIndex := 562, descriptorIndex := 563, attributes := #[] }])
  fields := #[{ name := "in", type := (.object "java/io/InputStream"), accessFlags := 25, slot := 0, constantValue := 0 }, { name := "out", type := (.object "java/io/PrintStream"), accessFlags := 25, slot := 1, constantValue := 0 }, { name := "err", type := (.object "java/io/PrintStream"), accessFlags := 25, slot := 2, constantValue := 0 }, { name := "initialIn", type := (.object "java/io/InputStream"), accessFlags := 10, slot := 3, constantValue := 0 }, { name := "NEVER", type := .int, accessFlags := 26, slot := 4, constantValue := 0 }, { name := "MAYBE", type := .int, accessFlags := 26, slot := 5, constantValue := 0 }, { name := "allowSecurityManager", type := .int, accessFlags := 10, slot := 6, constantValue := 0 }, { name := "security", type := (.object "java/lang/SecurityManager"), accessFlags := 74, slot := 7, constantValue := 0 }, { name := "notSupportedJnuEncoding", type := (.object "java/lang/String"), accessFlags := 10, slot := 8, constantValue := 0 }, { name := "cons", type := (.object "java/io/Console"), accessFlags := 74, slot := 9, constantValue := 0 }, { name := "initialErrStream", type := (.object "java/io/PrintStream"), accessFlags := 74, slot := 10, constantValue := 0 }, { name := "props", type := (.object "java/util/Properties"), accessFlags := 10, slot := 11, constantValue := 0 }, { name := "lineSeparator", type := (.object "java/lang/String"), accessFlags := 10, slot := 12, constantValue := 0 }, { name := "bootLayer", type := (.object "java/lang/ModuleLayer"), accessFlags := 8, slot := 13, constantValue := 0 }]
  methods := #[k14m0, k14m1]
  instanceTypes := #[]
  staticTypes := #[(.object "java/io/InputStream"), (.object "java/io/PrintStream"), (.object "java/io/PrintStream"), (.object "java/io/InputStream"), .int, .int, .int, (.object "java/lang/SecurityManager"), (.object "java/lang/String"), (.object "java/io/Console"), (.object "java/io/PrintStream"), (.object "java/util/Properties"), (.object "java/lang/String"), (.object "java/lang/ModuleLayer")]
  resolved := Array.replicate 834 none
  statics := none }

def pool15 : Array CpInfo := pool [(2, .class_ 4), (1, u "java/lang/Object"), (0, u "<init>"), (0, u "()V"), (7, .class_ 16), (1, u "java/util/Arrays"), (57, .class_ 76), (1, u "java/util/Arrays$NaturalOrder"), (36, .class_ 115), (1, u "java/util/Arrays$LegacyMergeSort"), (1, u "Z"), (21, u "copyOfRange"), (10, .methodref 151 152), (0, .class_ 153), (0, .nameAndType 154 155), (0, u "java/lang/System"), (0, u "arraycopy"), (0, u "(Ljava/lang/Object;ILjava/lang/Object;II)V"), (148, .methodref 305 306), (0, .class_ 307), (0, .nameAndType 308 309), (0, u "java/lang/Math"), (0, u "min"), (0, u "(II)I"), (29, .methodref 14 340), (0, .nameAndType 341 342), (0, u "copyOfRangeByte"), (0, u "([BII)[B"), (0, .methodref 14 344), (0, .nameAndType 345 346), (0, u "checkLength"), (0, u "(II)V"), (28, .class_ 376), (0, u "java/util/Arrays$ArrayList"), (68, u "$assertionsDisabled"), (269, u "MIN_ARRAY_SORT_GRAN"), (0, u "I"), (2, u "INSERTIONSORT_THRESHOLD"), (255, .class_ 976), (0, u "java/util/Arrays$ArrayItr")] 52

def k15m0 : Method := { name := "<init>", desc := "()V", sig := { parameters := [], returnType := none }, accessFlags := 2, code := none }
def k15c1 : Code := { maxStack := 4, maxLocals := 2, code := jdk_65_method_131_code, exceptionTable := #[], attributes := #[] }
def k15m1 : Method := { name := "checkLength", desc := "(II)V", sig := { parameters := [.int, .int], returnType := none }, accessFlags := 10, code := some k15c1 }
def k15c2 : Code := { maxStack := 3, maxLocals := 3, code := jdk_65_method_132_code, exceptionTable := #[], attributes := #[] }
def k15m2 : Method := { name := "copyOfRange", desc := "([BII)[B", sig := { parameters := [(.array .byte), .int, .int], returnType := some (.array .byte) }, accessFlags := 9, code := some k15c2 }
def k15c3 : Code := { maxStack := 6, maxLocals := 5, code := jdk_65_method_133_code, exceptionTable := #[], attributes := #[] }
def k15m3 : Method := { name := "copyOfRangeByte", desc := "([BII)[B", sig := { parameters := [(.array .byte), .int, .int], returnType := some (.array .byte) }, accessFlags := 10, code := some k15c3 }
/-- java/util/Arrays -/
def k15 : Class := { plain "java/util/Arrays" (some 0) with
  accessFlags := 49
  interfaces := #[]
  cf := some (fileOf pool15 14 #[.nestMembers #[975, 375, 113, 74]] #[{ accessFlags := 2, nameIndex := 5, descriptorIndex := 6, attributes := #[] }, { accessFlags := 10, nameIndex := 345, descriptorIndex := 346, attributes := #[] }, { accessFlags := 9, nameIndex := 139, descriptorIndex := 342, attributes := #[] }, { accessFlags := 10, nameIndex := 341, descriptorIndex := 342, attributes := #[] }] 49 2 #[] #[{ accessFlags := 26, nameIndex := 715, descriptorIndex := 716, attributes := #[] }, { accessFlags := 26, nameIndex := 719, descriptorIndex := 716, attributes := #[] }, { accessFlags := 4120, nameIndex := 445, descriptorIndex := 117, attributes := #[] }])
  fields := #[{ name := "MIN_ARRAY_SORT_GRAN", type := .int, accessFlags := 26, slot := 0, constantValue := 0 }, { name := "INSERTIONSORT_THRESHOLD", type := .int, accessFlags := 26, slot := 1, constantValue := 0 }, { name := "$assertionsDisabled", type := .boolean, accessFlags := 4120, slot := 2, constantValue := 0 }]
  methods := #[k15m0, k15m1, k15m2, k15m3]
  instanceTypes := #[]
  staticTypes := #[.int, .int, .boolean]
  resolved := Array.replicate 1029 none
  statics := none }

def pool16 : Array CpInfo := pool [(1, .class_ 2), (0, u "java/lang/Math"), (1, .class_ 6), (1, u "java/lang/Object"), (0, u "<init>"), (0, u "()V"), (89, .class_ 100), (1, u "java/lang/Math$RandomNumberGeneratorHolder"), (71, u "negativeZeroFloatBits"), (0, u "J"), (2, u "negativeZeroDoubleBits"), (24, u "min"), (43, u "$assertionsDisabled"), (0, u "Z"), (88, u "(II)I"), (2, u "twoToTheDoubleScaleDown"), (0, u "D"), (4, u "twoToTheDoubleScaleUp"), (9, u "E"), (3, u "PI"), (2, u "TAU"), (2, u "DEGREES_TO_RADIANS"), (0, u "RADIANS_TO_DEGREES")] 94

def k16m0 : Method := { name := "<init>", desc := "()V", sig := { parameters := [], returnType := none }, accessFlags := 2, code := none }
def k16c1 : Code := { maxStack := 2, maxLocals := 2, code := jdk_29_method_69_code, exceptionTable := #[], attributes := #[] }
def k16m1 : Method := { name := "min", desc := "(II)I", sig := { parameters := [.int, .int], returnType := some .int }, accessFlags := 9, code := some k16c1 }
/-- java/lang/Math -/
def k16 : Class := { plain "java/lang/Math" (some 0) with
  accessFlags := 49
  interfaces := #[]
  cf := some (fileOf pool16 1 #[.nestMembers #[98]] #[{ accessFlags := 2, nameIndex := 7, descriptorIndex := 8, attributes := #[] }, { accessFlags := 9, nameIndex := 201, descriptorIndex := 335, attributes := #[] }] 49 4 #[] #[{ accessFlags := 25, nameIndex := 354, descriptorIndex := 339, attributes := #[] }, { accessFlags := 25, nameIndex := 358, descriptorIndex := 339, attributes := #[] }, { accessFlags := 25, nameIndex := 361, descriptorIndex := 339, attributes := #[] }, { accessFlags := 26, nameIndex := 364, descriptorIndex := 339, attributes := #[] }, { accessFlags := 26, nameIndex := 365, descriptorIndex := 339, attributes := #[] }, { accessFlags := 26, nameIndex := 172, descriptorIndex := 173, attributes := #[] }, { accessFlags := 26, nameIndex := 176, descriptorIndex := 173, attributes := #[] }, { accessFlags := 8, nameIndex := 344, descriptorIndex := 339, attributes := #[] }, { accessFlags := 8, nameIndex := 338, descriptorIndex := 339, attributes := #[] }, { accessFlags := 4120, nameIndex := 245, descriptorIndex := 246, attributes := #[] }])
  fields := #[{ name := "E", type := .double, accessFlags := 25, slot := 0, constantValue := 0 }, { name := "PI", type := .double, accessFlags := 25, slot := 1, constantValue := 0 }, { name := "TAU", type := .double, accessFlags := 25, slot := 2, constantValue := 0 }, { name := "DEGREES_TO_RADIANS", type := .double, accessFlags := 26, slot := 3, constantValue := 0 }, { name := "RADIANS_TO_DEGREES", type := .double, accessFlags := 26, slot := 4, constantValue := 0 }, { name := "negativeZeroFloatBits", type := .long, accessFlags := 26, slot := 5, constantValue := 0 }, { name := "negativeZeroDoubleBits", type := .long, accessFlags := 26, slot := 6, constantValue := 0 }, { name := "twoToTheDoubleScaleUp", type := .double, accessFlags := 8, slot := 7, constantValue := 0 }, { name := "twoToTheDoubleScaleDown", type := .double, accessFlags := 8, slot := 8, constantValue := 0 }, { name := "$assertionsDisabled", type := .boolean, accessFlags := 4120, slot := 9, constantValue := 0 }]
  methods := #[k16m0, k16m1]
  instanceTypes := #[]
  staticTypes := #[.double, .double, .double, .double, .double, .long, .long, .double, .double, .boolean]
  resolved := Array.replicate 460 none
  statics := none }

def pool17 : Array CpInfo := pool [(1, .class_ 2), (0, u "java/lang/String"), (1, .class_ 6), (1, u "java/lang/Object"), (0, u "<init>"), (0, u "()V"), (0, .methodref 1 10), (0, .nameAndType 11 12), (0, u "checkIndex"), (0, u "(II)V"), (1, .class_ 16), (1, u "java/lang/StringLatin1"), (36, u "([BI)C"), (67, u "$assertionsDisabled"), (0, u "Z"), (98, .class_ 223), (1, u "java/lang/StringLatin1$LinesSpliterator"), (28, u "charAt"), (137, .class_ 391), (0, u "java/lang/StringLatin1$CharsSpliterator")] 3

def k17m0 : Method := { name := "<init>", desc := "()V", sig := { parameters := [], returnType := none }, accessFlags := 0, code := none }
def k17c1 : Code := { maxStack := 2, maxLocals := 2, code := jdk_43_method_2_code, exceptionTable := #[], attributes := #[] }
def k17m1 : Method := { name := "charAt", desc := "([BI)C", sig := { parameters := [(.array .byte), .int], returnType := some .char }, accessFlags := 9, code := some k17c1 }
/-- java/lang/StringLatin1 -/
def k17 : Class := { plain "java/lang/StringLatin1" (some 0) with
  accessFlags := 48
  interfaces := #[]
  cf := some (fileOf pool17 14 #[.nestMembers #[390, 221]] #[{ accessFlags := 0, nameIndex := 7, descriptorIndex := 8, attributes := #[] }, { accessFlags := 9, nameIndex := 252, descriptorIndex := 53, attributes := #[] }] 48 4 #[] #[{ accessFlags := 4120, nameIndex := 121, descriptorIndex := 122, attributes := #[] }])
  fields := #[{ name := "$assertionsDisabled", type := .boolean, accessFlags := 4120, slot := 0, constantValue := 0 }]
  methods := #[k17m0, k17m1]
  instanceTypes := #[]
  staticTypes := #[.boolean]
  resolved := Array.replicate 395 none
  statics := none }

def pool18 : Array CpInfo := pool [(2, .class_ 4), (1, u "java/lang/Object"), (0, u "<init>"), (0, u "()V"), (17, .class_ 26), (1, u "jdk/internal/util/Preconditions"), (6, u "checkIndex"), (21, .class_ 56), (0, u "jdk/internal/util/Preconditions$4"), (57, .class_ 115), (0, u "jdk/internal/util/Preconditions$1"), (7, u "SIOOBE_FORMATTER"), (0, u "Ljava/util/function/BiFunction;"), (0, .class_ 126), (0, u "jdk/internal/util/Preconditions$2"), (3, u "AIOOBE_FORMATTER"), (0, .class_ 132), (0, u "jdk/internal/util/Preconditions$3"), (3, u "IOOBE_FORMATTER"), (41, u "(IILjava/util/function/BiFunction;)I")] 15

def k18m0 : Method := { name := "<init>", desc := "()V", sig := { parameters := [], returnType := none }, accessFlags := 1, code := none }
def k18c1 : Code := { maxStack := 3, maxLocals := 3, code := jdk_41_method_11_code, exceptionTable := #[], attributes := #[] }
def k18m1 : Method := { name := "checkIndex", desc := "(IILjava/util/function/BiFunction;)I", sig := { parameters := [.int, .int, (.object "java/util/function/BiFunction")], returnType := some .int }, accessFlags := 9, code := some k18c1 }
/-- jdk/internal/util/Preconditions -/
def k18 : Class := { plain "jdk/internal/util/Preconditions" (some 0) with
  accessFlags := 33
  interfaces := #[]
  cf := some (fileOf pool18 24 #[.nestMembers #[55, 131, 125, 114]] #[{ accessFlags := 1, nameIndex := 5, descriptorIndex := 6, attributes := #[] }, { accessFlags := 9, nameIndex := 33, descriptorIndex := 178, attributes := #[] }] 33 2 #[] #[{ accessFlags := 25, nameIndex := 123, descriptorIndex := 124, attributes := #[] }, { accessFlags := 25, nameIndex := 130, descriptorIndex := 124, attributes := #[] }, { accessFlags := 25, nameIndex := 136, descriptorIndex := 124, attributes := #[] }])
  fields := #[{ name := "SIOOBE_FORMATTER", type := (.object "java/util/function/BiFunction"), accessFlags := 25, slot := 0, constantValue := 0 }, { name := "AIOOBE_FORMATTER", type := (.object "java/util/function/BiFunction"), accessFlags := 25, slot := 1, constantValue := 0 }, { name := "IOOBE_FORMATTER", type := (.object "java/util/function/BiFunction"), accessFlags := 25, slot := 2, constantValue := 0 }]
  methods := #[k18m0, k18m1]
  instanceTypes := #[]
  staticTypes := #[(.object "java/util/function/BiFunction"), (.object "java/util/function/BiFunction"), (.object "java/util/function/BiFunction")]
  resolved := Array.replicate 194 none
  statics := some 2 }

def pool19 : Array CpInfo := pool [(6, .class_ 8), (1, u "java/lang/Object"), (0, u "<init>"), (0, u "()V"), (1, .class_ 14), (1, u "java/lang/StringUTF16"), (31, u "$assertionsDisabled"), (0, u "Z"), (13, u "HI_BYTE_SHIFT"), (0, u "I"), (2, u "LO_BYTE_SHIFT"), (49, .methodref 12 116), (0, .nameAndType 117 118), (0, u "compress"), (0, u "([CI[BII)I"), (3, u "([CII)[B"), (138, u "coderFromArrayLen"), (0, u "([BI)B"), (106, .class_ 371), (1, u "java/lang/StringUTF16$LinesSpliterator"), (58, u "MAX_LENGTH"), (196, .class_ 628), (0, u "java/lang/StringUTF16$CodePointsSpliterator"), (0, .class_ 630), (0, u "java/lang/StringUTF16$CharsSpliterator")] 4

def k19m0 : Method := { name := "<init>", desc := "()V", sig := { parameters := [], returnType := none }, accessFlags := 0, code := none }
def k19c1 : Code := { maxStack := 2, maxLocals := 2, code := jdk_52_method_15_code, exceptionTable := #[], attributes := #[] }
def k19m1 : Method := { name := "coderFromArrayLen", desc := "([BI)B", sig := { parameters := [(.array .byte), .int], returnType := some .byte }, accessFlags := 8, code := some k19c1 }
def k19c2 : Code := { maxStack := 5, maxLocals := 6, code := jdk_52_method_16_code, exceptionTable := #[], attributes := #[] }
def k19m2 : Method := { name := "compress", desc := "([CII)[B", sig := { parameters := [(.array .char), .int, .int], returnType := some (.array .byte) }, accessFlags := 9, code := some k19c2 }
def k19c3 : Code := { maxStack := 3, maxLocals := 7, code := jdk_52_method_21_code, exceptionTable := #[], attributes := #[] }
def k19m3 : Method := { name := "compress", desc := "([CI[BII)I", sig := { parameters := [(.array .char), .int, (.array .byte), .int, .int], returnType := some .int }, accessFlags := 9, code := some k19c3 }
/-- java/lang/StringUTF16 -/
def k19 : Class := { plain "java/lang/StringUTF16" (some 0) with
  accessFlags := 48
  interfaces := #[]
  cf := some (fileOf pool19 12 #[.nestMembers #[627, 629, 369]] #[{ accessFlags := 0, nameIndex := 9, descriptorIndex := 10, attributes := #[] }, { accessFlags := 8, nameIndex := 261, descriptorIndex := 262, attributes := #[] }, { accessFlags := 9, nameIndex := 117, descriptorIndex := 122, attributes := #[] }, { accessFlags := 9, nameIndex := 117, descriptorIndex := 118, attributes := #[] }] 48 6 #[] #[{ accessFlags := 26, nameIndex := 61, descriptorIndex := 62, attributes := #[] }, { accessFlags := 26, nameIndex := 65, descriptorIndex := 62, attributes := #[] }, { accessFlags := 24, nameIndex := 430, descriptorIndex := 62, attributes := #[] }, { accessFlags := 4120, nameIndex := 46, descriptorIndex := 47, attributes := #[] }])
  fields := #[{ name := "HI_BYTE_SHIFT", type := .int, accessFlags := 26, slot := 0, constantValue := 0 }, { name := "LO_BYTE_SHIFT", type := .int, accessFlags := 26, slot := 1, constantValue := 0 }, { name := "MAX_LENGTH", type := .int, accessFlags := 24, slot := 2, constantValue := 0 }, { name := "$assertionsDisabled", type := .boolean, accessFlags := 4120, slot := 3, constantValue := 0 }]
  methods := #[k19m0, k19m1, k19m2, k19m3]
  instanceTypes := #[]
  staticTypes := #[.int, .int, .int, .boolean]
  resolved := Array.replicate 635 none
  statics := none }

def pool20 : Array CpInfo := pool [(9, u "<init>"), (6, .class_ 18), (1, u "java/lang/Object"), (0, u "()V"), (1, .class_ 23), (1, u "jdk/internal/util/ArraysSupport"), (0, u "LOG2_ARRAY_LONG_INDEX_SCALE"), (0, u "I"), (2, u "U"), (0, u "Ljdk/internal/misc/Unsafe;"), (8, u "BIG_ENDIAN"), (0, u "Z"), (8, u "LOG2_BYTE_BIT_SIZE"), (4, u "LOG2_ARRAY_INT_INDEX_SCALE"), (54, u "JLA"), (0, u "Ljdk/internal/access/JavaLangAccess;"), (11, u "LOG2_ARRAY_BOOLEAN_INDEX_SCALE"), (9, u "LOG2_ARRAY_BYTE_INDEX_SCALE"), (5, u "LOG2_ARRAY_CHAR_INDEX_SCALE"), (5, u "LOG2_ARRAY_SHORT_INDEX_SCALE"), (18, u "LOG2_ARRAY_FLOAT_INDEX_SCALE"), (24, u "LOG2_ARRAY_DOUBLE_INDEX_SCALE"), (89, u "T_BOOLEAN"), (2, u "T_CHAR"), (1, u "T_FLOAT"), (1, u "T_DOUBLE"), (1, u "T_BYTE"), (1, u "T_SHORT"), (1, u "T_INT"), (1, u "T_LONG"), (1, u "SOFT_MAX_ARRAY_LENGTH")] 83

def k20m0 : Method := { name := "<init>", desc := "()V", sig := { parameters := [], returnType := none }, accessFlags := 2, code := none }
/-- jdk/internal/util/ArraysSupport -/
def k20 : Class := { plain "jdk/internal/util/ArraysSupport" (some 0) with
  accessFlags := 33
  interfaces := #[]
  cf := some (fileOf pool20 21 #[] #[{ accessFlags := 2, nameIndex := 9, descriptorIndex := 19, attributes := #[] }] 33 16 #[] #[{ accessFlags := 24, nameIndex := 28, descriptorIndex := 29, attributes := #[] }, { accessFlags := 26, nameIndex := 38, descriptorIndex := 39, attributes := #[] }, { accessFlags := 25, nameIndex := 121, descriptorIndex := 25, attributes := #[] }, { accessFlags := 25, nameIndex := 131, descriptorIndex := 25, attributes := #[] }, { accessFlags := 25, nameIndex := 137, descriptorIndex := 25, attributes := #[] }, { accessFlags := 25, nameIndex := 143, descriptorIndex := 25, attributes := #[] }, { accessFlags := 25, nameIndex := 53, descriptorIndex := 25, attributes := #[] }, { accessFlags := 25, nameIndex := 24, descriptorIndex := 25, attributes := #[] }, { accessFlags := 25, nameIndex := 162, descriptorIndex := 25, attributes := #[] }, { accessFlags := 25, nameIndex := 187, descriptorIndex := 25, attributes := #[] }, { accessFlags := 26, nameIndex := 48, descriptorIndex := 25, attributes := #[] }, { accessFlags := 25, nameIndex := 277, descriptorIndex := 25, attributes := #[] }, { accessFlags := 25, nameIndex := 280, descriptorIndex := 25, attributes := #[] }, { accessFlags := 25, nameIndex := 282, descriptorIndex := 25, attributes := #[] }, { accessFlags := 25, nameIndex := 284, descriptorIndex := 25, attributes := #[] }, { accessFlags := 25, nameIndex := 286, descriptorIndex := 25, attributes := #[] }, { accessFlags := 25, nameIndex := 288, descriptorIndex := 25, attributes := #[] }, { accessFlags := 25, nameIndex := 290, descriptorIndex := 25, attributes := #[] }, { accessFlags := 25, nameIndex := 292, descriptorIndex := 25, attributes := #[] }, { accessFlags := 26, nameIndex := 108, descriptorIndex := 109, attributes := #[] }, { accessFlags := 25, nameIndex := 294, descriptorIndex := 25, attributes := #[] }])
  fields := #[{ name := "U", type := (.object "jdk/internal/misc/Unsafe"), accessFlags := 24, slot := 0, constantValue := 0 }, { name := "BIG_ENDIAN", type := .boolean, accessFlags := 26, slot := 1, constantValue := 0 }, { name := "LOG2_ARRAY_BOOLEAN_INDEX_SCALE", type := .int, accessFlags := 25, slot := 2, constantValue := 0 }, { name := "LOG2_ARRAY_BYTE_INDEX_SCALE", type := .int, accessFlags := 25, slot := 3, constantValue := 0 }, { name := "LOG2_ARRAY_CHAR_INDEX_SCALE", type := .int, accessFlags := 25, slot := 4, constantValue := 0 }, { name := "LOG2_ARRAY_SHORT_INDEX_SCALE", type := .int, accessFlags := 25, slot := 5, constantValue := 0 }, { name := "LOG2_ARRAY_INT_INDEX_SCALE", type := .int, accessFlags := 25, slot := 6, constantValue := 0 }, { name := "LOG2_ARRAY_LONG_INDEX_SCALE", type := .int, accessFlags := 25, slot := 7, constantValue := 0 }, { name := "LOG2_ARRAY_FLOAT_INDEX_SCALE", type := .int, accessFlags := 25, slot := 8, constantValue := 0 }, { name := "LOG2_ARRAY_DOUBLE_INDEX_SCALE", type := .int, accessFlags := 25, slot := 9, constantValue := 0 }, { name := "LOG2_BYTE_BIT_SIZE", type := .int, accessFlags := 26, slot := 10, constantValue := 0 }, { name := "T_BOOLEAN", type := .int, accessFlags := 25, slot := 11, constantValue := 0 }, { name := "T_CHAR", type := .int, accessFlags := 25, slot := 12, constantValue := 0 }, { name := "T_FLOAT", type := .int, accessFlags := 25, slot := 13, constantValue := 0 }, { name := "T_DOUBLE", type := .int, accessFlags := 25, slot := 14, constantValue := 0 }, { name := "T_BYTE", type := .int, accessFlags := 25, slot := 15, constantValue := 0 }, { name := "T_SHORT", type := .int, accessFlags := 25, slot := 16, constantValue := 0 }, { name := "T_INT", type := .int, accessFlags := 25, slot := 17, constantValue := 0 }, { name := "T_LONG", type := .int, accessFlags := 25, slot := 18, constantValue := 0 }, { name := "JLA", type := (.object "jdk/internal/access/JavaLangAccess"), accessFlags := 26, slot := 19, constantValue := 0 }, { name := "SOFT_MAX_ARRAY_LENGTH", type := .int, accessFlags := 25, slot := 20, constantValue := 0 }]
  methods := #[k20m0]
  instanceTypes := #[]
  staticTypes := #[(.object "jdk/internal/misc/Unsafe"), .boolean, .int, .int, .int, .int, .int, .int, .int, .int, .int, .int, .int, .int, .int, .int, .int, .int, .int, (.object "jdk/internal/access/JavaLangAccess"), .int]
  resolved := Array.replicate 378 none
  statics := none }

def pool21 : Array CpInfo := pool [(1, u "java/lang/Cloneable"), (0, .class_ 1), (0, u "java/lang/Object"), (0, .class_ 3)] 3

/-- java/lang/Cloneable -/
def k21 : Class := { plain "java/lang/Cloneable" (some 0) with
  accessFlags := 1537
  interfaces := #[]
  cf := some (fileOf pool21 2 #[] #[] 1537 4 #[] #[])
  fields := #[]
  methods := #[]
  instanceTypes := #[]
  staticTypes := #[]
  resolved := Array.replicate 8 none
  statics := none }

/-- the primitive byte -/
def k22 : Class := { plain "byte" none with kind := .primitive 'B', accessFlags := 0x411 }
/-- [B -/
def k23 : Class := { plain "[B" (some 0) with kind := .array 22 .byte, interfaces := #[21, 2], accessFlags := 1041 }

/-- the primitive char -/
def k24 : Class := { plain "char" none with kind := .primitive 'C', accessFlags := 0x411 }
/-- [C -/
def k25 : Class := { plain "[C" (some 0) with kind := .array 24 .char, interfaces := #[21, 2], accessFlags := 1041 }

/-- the primitive int -/
def k26 : Class := { plain "int" none with kind := .primitive 'I', accessFlags := 0x411 }
/-- [I -/
def k27 : Class := { plain "[I" (some 0) with kind := .array 26 .int, interfaces := #[21, 2], accessFlags := 1041 }

def heap : Heap := #[{ cls := 7, slots := #[.long 0, .int 1, .null, .int 0, .null, .int 0, .int 0], vm := .statics 7 },
  { cls := 9, slots := #[.ref 3, .ref 4, .ref 5, .null], vm := .statics 9 },
  { cls := 18, slots := #[.null, .null, .null], vm := .statics 18 },
  { cls := 9, slots := #[.null, .int 0, .int 0], vm := .none },
  { cls := 9, slots := #[.null, .int 0, .int 0], vm := .none },
  { cls := 9, slots := #[.null, .int 0, .int 0], vm := .none }]
def classes : Array Class := #[k0, k1, k2, k3, k4, k5, k6, k7, k8, k9, k10, k11, k12, k13, k14, k15, k16, k17, k18, k19, k20, k21, k22, k23, k24, k25, k26, k27]
def interned : List (Array UInt16 × Addr) := []
def slotsUsed : Nat := 23
def theMethod : MethodId := ⟨1, 7⟩
def args0 : Array Value := #[.int 131333, .int 65543, .int 8]
def aboutOver (below : List Frame) : State where
  vm := { classes := classes, interned := interned.toArray }
  heap := heap
  slotsUsed := slotsUsed
  threads := #[{ frames := .invoking theMethod args0 :: below }]
def below0 : List Frame := [.native { method := ⟨0, 0⟩, args := #[] }]
def about1 : State := aboutOver below0
def p0 : Program := .bare "" "" ""
def e0 : Env := launch0.env 0 0 0
theorem w_frames : about1.frames = Frame.invoking theMethod args0 :: below0 := rfl
set_option maxRecDepth 65536 in
theorem w_args : argsFit about1.vm theMethod args0 = true := by decide +kernel
set_option maxRecDepth 65536 in
theorem w_heap : heapFits about1 = true := by decide +kernel
set_option maxRecDepth 65536 in
theorem w_runnable : about1.curStatus? = some .runnable := by decide +kernel
set_option maxRecDepth 65536 in
theorem w_alone : about1.alone = true := by decide +kernel
set_option maxRecDepth 65536 in
theorem w_named : about1.methodNamed? x = some theMethod := by decide +kernel
set_option maxRecDepth 65536 in
theorem w_hears : about1.hears theMethod below0 = true := by decide +kernel
set_option maxRecDepth 65536 in
theorem w_ripe : about1.ripe theMethod args0 below0 = true := by decide +kernel
theorem w_running : about1.status = .running := rfl
set_option maxRecDepth 65536 in
theorem w_room : about1.hasRoom e0.platform room_1 = true :=
  launch0.hasRoom_least _ room_1 (by decide +kernel) (by decide +kernel) (by decide +kernel) (by decide +kernel) (by decide +kernel) (by decide +kernel)
theorem allAtoms_all (ts : List Jvm.Cond) (a : Array Jvm.Value) (st : Jvm.State) : (allAtoms ts).before a st = ts.all (fun c => c.before a st) := by
  induction ts with
  | nil => rfl
  | cons c t ih =>
    show (Jvm.Cond.and c (allAtoms t)).before a st = _
    rw [Jvm.Cond.before_and, ih, List.all_cons]
def words1 : List Jvm.Cond := Jvm.Cond.code x code maxLocals ret :: tables_1
/-- a 'code' word, met by the world's own term for the bytes: nothing is compared byte by byte -/
theorem code_word {y : MethodName} {bytes : ByteArray} {mx : Nat} {rt : Option FieldType} {a : Array Value} {s : State} {m : MethodId} {meth : Method} {c : Code} (h1 : s.methodNamed? y = some m) (h2 : s.vm.method? m = some meth) (h3 : meth.code = some c) (h4 : c.code = bytes)
    (h5 : (c.maxLocals == mx && c.exceptionTable.isEmpty && decide (c.maxStack ≤ mostOperands) && decide (meth.sig.returnType = rt) && !meth.locks && decide (parseMethodDescriptor y.desc = some meth.sig)) = true) : (Jvm.Cond.code y bytes mx rt).before a s = true := by
  simp only [Bool.and_eq_true, beq_iff_eq, Bool.not_eq_true', decide_eq_true_eq] at h5
  obtain ⟨⟨⟨⟨⟨g1, g2⟩, g3⟩, g4⟩, g5⟩, g6⟩ := h5
  simp [Cond.before, Cond.holds, Cond.value, h1, h2, h3, h4, g1, g2, g3, g4, g5, g6]
def isCode : Jvm.Cond → Bool
  | .code _ _ _ _ => true
  | _ => false
theorem all_split {L : List Jvm.Cond} {P : Jvm.Cond → Bool} (h1 : L.all (fun c => isCode c || P c) = true) (h2 : ∀ c ∈ L.filter isCode, P c = true) : L.all P = true := by
  refine List.all_eq_true.mpr fun c hc => ?_
  have h := List.all_eq_true.mp h1 c hc
  rcases Bool.eq_false_or_eq_true (isCode c) with hi | hi
  · exact h2 c (List.mem_filter.mpr ⟨hc, hi⟩)
  · simpa [hi] using h
set_option maxRecDepth 65536 in
theorem w_c0 : (Jvm.Cond.code x code maxLocals ret).before args0 about1 = true := code_word (m := ⟨1, 7⟩) (meth := k1m7) (c := k1c7) (by decide +kernel) rfl rfl rfl (by decide +kernel)
set_option maxRecDepth 65536 in
theorem w_c1 : (Jvm.Cond.code ({ cls := "com/example/garm/garm/ClaimToStringPinLaw", name := "str", desc := "(I)Ljava/lang/String;" } : Jvm.MethodName) method_6_code (2 : Nat) (Option.some (Jvm.ClassFile.FieldType.object "java/lang/String"))).before args0 about1 = true := code_word (m := ⟨1, 5⟩) (meth := k1m5) (c := k1c5) (by decide +kernel) rfl rfl rfl (by decide +kernel)
set_option maxRecDepth 65536 in
theorem w_c2 : (Jvm.Cond.code ({ cls := "com/example/garm/garm/ClaimToStringPinLaw", name := "len", desc := "(I)I" } : Jvm.MethodName) method_2_code (1 : Nat) (Option.some Jvm.ClassFile.FieldType.int)).before args0 about1 = true := code_word (m := ⟨1, 1⟩) (meth := k1m1) (c := k1c1) (by decide +kernel) rfl rfl rfl (by decide +kernel)
set_option maxRecDepth 65536 in
theorem w_c3 : (Jvm.Cond.code ({ cls := "java/lang/String", name := "<init>", desc := "([C)V" } : Jvm.MethodName) jdk_42_method_3_code (2 : Nat) (Option.none : Option Jvm.ClassFile.FieldType)).before args0 about1 = true := code_word (m := ⟨7, 1⟩) (meth := k7m1) (c := k7c1) (by decide +kernel) rfl rfl rfl (by decide +kernel)
set_option maxRecDepth 65536 in
theorem w_c4 : (Jvm.Cond.code ({ cls := "java/lang/String", name := "<init>", desc := "([CIILjava/lang/Void;)V" } : Jvm.MethodName) jdk_42_method_149_code (6 : Nat) (Option.none : Option Jvm.ClassFile.FieldType)).before args0 about1 = true := code_word (m := ⟨7, 6⟩) (meth := k7m6) (c := k7c6) (by decide +kernel) rfl rfl rfl (by decide +kernel)
set_option maxRecDepth 65536 in
theorem w_c5 : (Jvm.Cond.code ({ cls := "java/lang/Object", name := "<init>", desc := "()V" } : Jvm.MethodName) object_method_1_code (1 : Nat) (Option.none : Option Jvm.ClassFile.FieldType)).before args0 about1 = true := code_word (m := ⟨0, 0⟩) (meth := k0m0) (c := k0c0) (by decide +kernel) rfl rfl rfl (by decide +kernel)
set_option maxRecDepth 65536 in
theorem w_c6 : (Jvm.Cond.code ({ cls := "com/example/garm/garm/SecurityTarget$Claim", name := "<init>", desc := "(Ljava/lang/String;Ljava/lang/String;Lcom/example/garm/garm/Conformance;)V" } : Jvm.MethodName) prog_41_method_1_code (4 : Nat) (Option.none : Option Jvm.ClassFile.FieldType)).before args0 about1 = true := code_word (m := ⟨10, 0⟩) (meth := k10m0) (c := k10c0) (by decide +kernel) rfl rfl rfl (by decide +kernel)
set_option maxRecDepth 65536 in
theorem w_c7 : (Jvm.Cond.code ({ cls := "com/example/garm/garm/SecurityTarget$Claim", name := "toString", desc := "()Ljava/lang/String;" } : Jvm.MethodName) prog_41_method_4_code (1 : Nat) (Option.some (Jvm.ClassFile.FieldType.object "java/lang/String"))).before args0 about1 = true := code_word (m := ⟨10, 2⟩) (meth := k10m2) (c := k10c2) (by decide +kernel) rfl rfl rfl (by decide +kernel)
set_option maxRecDepth 65536 in
theorem w_c8 : (Jvm.Cond.code ({ cls := "java/lang/StringBuilder", name := "<init>", desc := "()V" } : Jvm.MethodName) jdk_67_method_1_code (1 : Nat) (Option.none : Option Jvm.ClassFile.FieldType)).before args0 about1 = true := code_word (m := ⟨13, 0⟩) (meth := k13m0) (c := k13c0) (by decide +kernel) rfl rfl rfl (by decide +kernel)
set_option maxRecDepth 65536 in
theorem w_c9 : (Jvm.Cond.code ({ cls := "java/lang/AbstractStringBuilder", name := "<init>", desc := "(I)V" } : Jvm.MethodName) jdk_68_method_2_code (2 : Nat) (Option.none : Option Jvm.ClassFile.FieldType)).before args0 about1 = true := code_word (m := ⟨12, 1⟩) (meth := k12m1) (c := k12c1) (by decide +kernel) rfl rfl rfl (by decide +kernel)
set_option maxRecDepth 65536 in
theorem w_c10 : (Jvm.Cond.code ({ cls := "java/lang/StringBuilder", name := "append", desc := "(Ljava/lang/String;)Ljava/lang/StringBuilder;" } : Jvm.MethodName) jdk_67_method_7_code (2 : Nat) (Option.some (Jvm.ClassFile.FieldType.object "java/lang/StringBuilder"))).before args0 about1 = true := code_word (m := ⟨13, 1⟩) (meth := k13m1) (c := k13c1) (by decide +kernel) rfl rfl rfl (by decide +kernel)
set_option maxRecDepth 65536 in
theorem w_c11 : (Jvm.Cond.code ({ cls := "java/lang/AbstractStringBuilder", name := "append", desc := "(Ljava/lang/String;)Ljava/lang/AbstractStringBuilder;" } : Jvm.MethodName) jdk_68_method_22_code (3 : Nat) (Option.some (Jvm.ClassFile.FieldType.object "java/lang/AbstractStringBuilder"))).before args0 about1 = true := code_word (m := ⟨12, 4⟩) (meth := k12m4) (c := k12c4) (by decide +kernel) rfl rfl rfl (by decide +kernel)
set_option maxRecDepth 65536 in
theorem w_c12 : (Jvm.Cond.code ({ cls := "java/lang/String", name := "length", desc := "()I" } : Jvm.MethodName) jdk_42_method_54_code (1 : Nat) (Option.some Jvm.ClassFile.FieldType.int)).before args0 about1 = true := code_word (m := ⟨7, 3⟩) (meth := k7m3) (c := k7c3) (by decide +kernel) rfl rfl rfl (by decide +kernel)
set_option maxRecDepth 65536 in
theorem w_c13 : (Jvm.Cond.code ({ cls := "java/lang/String", name := "coder", desc := "()B" } : Jvm.MethodName) jdk_42_method_152_code (1 : Nat) (Option.some Jvm.ClassFile.FieldType.byte)).before args0 about1 = true := code_word (m := ⟨7, 8⟩) (meth := k7m8) (c := k7c8) (by decide +kernel) rfl rfl rfl (by decide +kernel)
set_option maxRecDepth 65536 in
theorem w_c14 : (Jvm.Cond.code ({ cls := "java/lang/AbstractStringBuilder", name := "ensureCapacityInternal", desc := "(I)V" } : Jvm.MethodName) jdk_68_method_9_code (3 : Nat) (Option.none : Option Jvm.ClassFile.FieldType)).before args0 about1 = true := code_word (m := ⟨12, 3⟩) (meth := k12m3) (c := k12c3) (by decide +kernel) rfl rfl rfl (by decide +kernel)
set_option maxRecDepth 65536 in
theorem w_c15 : (Jvm.Cond.code ({ cls := "java/lang/AbstractStringBuilder", name := "putStringAt", desc := "(ILjava/lang/String;)V" } : Jvm.MethodName) jdk_68_method_73_code (3 : Nat) (Option.none : Option Jvm.ClassFile.FieldType)).before args0 about1 = true := code_word (m := ⟨12, 8⟩) (meth := k12m8) (c := k12c8) (by decide +kernel) rfl rfl rfl (by decide +kernel)
set_option maxRecDepth 65536 in
theorem w_c16 : (Jvm.Cond.code ({ cls := "java/lang/AbstractStringBuilder", name := "inflateIfNeededFor", desc := "(Ljava/lang/String;)V" } : Jvm.MethodName) jdk_68_method_71_code (2 : Nat) (Option.none : Option Jvm.ClassFile.FieldType)).before args0 about1 = true := code_word (m := ⟨12, 7⟩) (meth := k12m7) (c := k12c7) (by decide +kernel) rfl rfl rfl (by decide +kernel)
set_option maxRecDepth 65536 in
theorem w_c17 : (Jvm.Cond.code ({ cls := "java/lang/String", name := "getBytes", desc := "([BIB)V" } : Jvm.MethodName) jdk_42_method_147_code (4 : Nat) (Option.none : Option Jvm.ClassFile.FieldType)).before args0 about1 = true := code_word (m := ⟨7, 5⟩) (meth := k7m5) (c := k7c5) (by decide +kernel) rfl rfl rfl (by decide +kernel)
set_option maxRecDepth 65536 in
theorem w_c18 : (Jvm.Cond.code ({ cls := "java/lang/StringBuilder", name := "toString", desc := "()Ljava/lang/String;" } : Jvm.MethodName) jdk_67_method_42_code (1 : Nat) (Option.some (Jvm.ClassFile.FieldType.object "java/lang/String"))).before args0 about1 = true := code_word (m := ⟨13, 2⟩) (meth := k13m2) (c := k13c2) (by decide +kernel) rfl rfl rfl (by decide +kernel)
set_option maxRecDepth 65536 in
theorem w_c19 : (Jvm.Cond.code ({ cls := "java/lang/String", name := "<init>", desc := "(Ljava/lang/StringBuilder;)V" } : Jvm.MethodName) jdk_42_method_53_code (2 : Nat) (Option.none : Option Jvm.ClassFile.FieldType)).before args0 about1 = true := code_word (m := ⟨7, 2⟩) (meth := k7m2) (c := k7c2) (by decide +kernel) rfl rfl rfl (by decide +kernel)
set_option maxRecDepth 65536 in
theorem w_c20 : (Jvm.Cond.code ({ cls := "java/lang/String", name := "<init>", desc := "(Ljava/lang/AbstractStringBuilder;Ljava/lang/Void;)V" } : Jvm.MethodName) jdk_42_method_150_code (5 : Nat) (Option.none : Option Jvm.ClassFile.FieldType)).before args0 about1 = true := code_word (m := ⟨7, 7⟩) (meth := k7m7) (c := k7c7) (by decide +kernel) rfl rfl rfl (by decide +kernel)
set_option maxRecDepth 65536 in
theorem w_c21 : (Jvm.Cond.code ({ cls := "java/lang/AbstractStringBuilder", name := "getValue", desc := "()[B" } : Jvm.MethodName) jdk_68_method_64_code (1 : Nat) (Option.some (Jvm.ClassFile.FieldType.array Jvm.ClassFile.FieldType.byte))).before args0 about1 = true := code_word (m := ⟨12, 5⟩) (meth := k12m5) (c := k12c5) (by decide +kernel) rfl rfl rfl (by decide +kernel)
set_option maxRecDepth 65536 in
theorem w_c22 : (Jvm.Cond.code ({ cls := "java/lang/StringBuilder", name := "length", desc := "()I" } : Jvm.MethodName) jdk_67_method_93_code (1 : Nat) (Option.some Jvm.ClassFile.FieldType.int)).before args0 about1 = true := code_word (m := ⟨13, 3⟩) (meth := k13m3) (c := k13c3) (by decide +kernel) rfl rfl rfl (by decide +kernel)
set_option maxRecDepth 65536 in
theorem w_c23 : (Jvm.Cond.code ({ cls := "java/lang/AbstractStringBuilder", name := "length", desc := "()I" } : Jvm.MethodName) jdk_68_method_6_code (1 : Nat) (Option.some Jvm.ClassFile.FieldType.int)).before args0 about1 = true := code_word (m := ⟨12, 2⟩) (meth := k12m2) (c := k12c2) (by decide +kernel) rfl rfl rfl (by decide +kernel)
set_option maxRecDepth 65536 in
theorem w_c24 : (Jvm.Cond.code ({ cls := "java/lang/AbstractStringBuilder", name := "isLatin1", desc := "()Z" } : Jvm.MethodName) jdk_68_method_68_code (1 : Nat) (Option.some Jvm.ClassFile.FieldType.boolean)).before args0 about1 = true := code_word (m := ⟨12, 6⟩) (meth := k12m6) (c := k12c6) (by decide +kernel) rfl rfl rfl (by decide +kernel)
set_option maxRecDepth 65536 in
theorem w_c25 : (Jvm.Cond.code ({ cls := "java/util/Arrays", name := "copyOfRange", desc := "([BII)[B" } : Jvm.MethodName) jdk_65_method_132_code (3 : Nat) (Option.some (Jvm.ClassFile.FieldType.array Jvm.ClassFile.FieldType.byte))).before args0 about1 = true := code_word (m := ⟨15, 2⟩) (meth := k15m2) (c := k15c2) (by decide +kernel) rfl rfl rfl (by decide +kernel)
set_option maxRecDepth 65536 in
theorem w_c26 : (Jvm.Cond.code ({ cls := "java/util/Arrays", name := "copyOfRangeByte", desc := "([BII)[B" } : Jvm.MethodName) jdk_65_method_133_code (5 : Nat) (Option.some (Jvm.ClassFile.FieldType.array Jvm.ClassFile.FieldType.byte))).before args0 about1 = true := code_word (m := ⟨15, 3⟩) (meth := k15m3) (c := k15c3) (by decide +kernel) rfl rfl rfl (by decide +kernel)
set_option maxRecDepth 65536 in
theorem w_c27 : (Jvm.Cond.code ({ cls := "java/util/Arrays", name := "checkLength", desc := "(II)V" } : Jvm.MethodName) jdk_65_method_131_code (2 : Nat) (Option.none : Option Jvm.ClassFile.FieldType)).before args0 about1 = true := code_word (m := ⟨15, 1⟩) (meth := k15m1) (c := k15c1) (by decide +kernel) rfl rfl rfl (by decide +kernel)
set_option maxRecDepth 65536 in
theorem w_c28 : (Jvm.Cond.code ({ cls := "java/lang/Math", name := "min", desc := "(II)I" } : Jvm.MethodName) jdk_29_method_69_code (2 : Nat) (Option.some Jvm.ClassFile.FieldType.int)).before args0 about1 = true := code_word (m := ⟨16, 1⟩) (meth := k16m1) (c := k16c1) (by decide +kernel) rfl rfl rfl (by decide +kernel)
set_option maxRecDepth 65536 in
theorem w_c29 : (Jvm.Cond.code ({ cls := "com/example/garm/garm/ClaimToStringPinLaw", name := "part", desc := "(Ljava/lang/String;II)Z" } : Jvm.MethodName) method_7_code (5 : Nat) (Option.some Jvm.ClassFile.FieldType.boolean)).before args0 about1 = true := code_word (m := ⟨1, 6⟩) (meth := k1m6) (c := k1c6) (by decide +kernel) rfl rfl rfl (by decide +kernel)
set_option maxRecDepth 65536 in
theorem w_c30 : (Jvm.Cond.code ({ cls := "java/lang/String", name := "charAt", desc := "(I)C" } : Jvm.MethodName) jdk_42_method_56_code (2 : Nat) (Option.some Jvm.ClassFile.FieldType.char)).before args0 about1 = true := code_word (m := ⟨7, 4⟩) (meth := k7m4) (c := k7c4) (by decide +kernel) rfl rfl rfl (by decide +kernel)
set_option maxRecDepth 65536 in
theorem w_c31 : (Jvm.Cond.code ({ cls := "java/lang/String", name := "isLatin1", desc := "()Z" } : Jvm.MethodName) jdk_42_method_154_code (1 : Nat) (Option.some Jvm.ClassFile.FieldType.boolean)).before args0 about1 = true := code_word (m := ⟨7, 9⟩) (meth := k7m9) (c := k7c9) (by decide +kernel) rfl rfl rfl (by decide +kernel)
set_option maxRecDepth 65536 in
theorem w_c32 : (Jvm.Cond.code ({ cls := "java/lang/StringLatin1", name := "charAt", desc := "([BI)C" } : Jvm.MethodName) jdk_43_method_2_code (2 : Nat) (Option.some Jvm.ClassFile.FieldType.char)).before args0 about1 = true := code_word (m := ⟨17, 1⟩) (meth := k17m1) (c := k17c1) (by decide +kernel) rfl rfl rfl (by decide +kernel)
set_option maxRecDepth 65536 in
theorem w_c33 : (Jvm.Cond.code ({ cls := "java/lang/String", name := "checkIndex", desc := "(II)V" } : Jvm.MethodName) jdk_42_method_155_code (2 : Nat) (Option.none : Option Jvm.ClassFile.FieldType)).before args0 about1 = true := code_word (m := ⟨7, 10⟩) (meth := k7m10) (c := k7c10) (by decide +kernel) rfl rfl rfl (by decide +kernel)
set_option maxRecDepth 65536 in
theorem w_c34 : (Jvm.Cond.code ({ cls := "jdk/internal/util/Preconditions", name := "checkIndex", desc := "(IILjava/util/function/BiFunction;)I" } : Jvm.MethodName) jdk_41_method_11_code (3 : Nat) (Option.some Jvm.ClassFile.FieldType.int)).before args0 about1 = true := code_word (m := ⟨18, 1⟩) (meth := k18m1) (c := k18c1) (by decide +kernel) rfl rfl rfl (by decide +kernel)
set_option maxRecDepth 65536 in
theorem w_c35 : (Jvm.Cond.code ({ cls := "com/example/garm/garm/SecurityTarget$Claim", name := "conformance", desc := "()Lcom/example/garm/garm/Conformance;" } : Jvm.MethodName) prog_41_method_3_code (1 : Nat) (Option.some (Jvm.ClassFile.FieldType.object "com/example/garm/garm/Conformance"))).before args0 about1 = true := code_word (m := ⟨10, 1⟩) (meth := k10m1) (c := k10c1) (by decide +kernel) rfl rfl rfl (by decide +kernel)
set_option maxRecDepth 65536 in
theorem w_c36 : (Jvm.Cond.code ({ cls := "com/example/garm/garm/ClaimToStringPinLaw", name := "c0", desc := "(I)C" } : Jvm.MethodName) method_3_code (1 : Nat) (Option.some Jvm.ClassFile.FieldType.char)).before args0 about1 = true := code_word (m := ⟨1, 2⟩) (meth := k1m2) (c := k1c2) (by decide +kernel) rfl rfl rfl (by decide +kernel)
set_option maxRecDepth 65536 in
theorem w_c37 : (Jvm.Cond.code ({ cls := "com/example/garm/garm/ClaimToStringPinLaw", name := "c1", desc := "(I)C" } : Jvm.MethodName) method_4_code (1 : Nat) (Option.some Jvm.ClassFile.FieldType.char)).before args0 about1 = true := code_word (m := ⟨1, 3⟩) (meth := k1m3) (c := k1c3) (by decide +kernel) rfl rfl rfl (by decide +kernel)
set_option maxRecDepth 65536 in
theorem w_c38 : (Jvm.Cond.code ({ cls := "java/lang/StringUTF16", name := "compress", desc := "([CII)[B" } : Jvm.MethodName) jdk_52_method_16_code (6 : Nat) (Option.some (Jvm.ClassFile.FieldType.array Jvm.ClassFile.FieldType.byte))).before args0 about1 = true := code_word (m := ⟨19, 2⟩) (meth := k19m2) (c := k19c2) (by decide +kernel) rfl rfl rfl (by decide +kernel)
set_option maxRecDepth 65536 in
theorem w_c39 : (Jvm.Cond.code ({ cls := "java/lang/StringUTF16", name := "compress", desc := "([CI[BII)I" } : Jvm.MethodName) jdk_52_method_21_code (7 : Nat) (Option.some Jvm.ClassFile.FieldType.int)).before args0 about1 = true := code_word (m := ⟨19, 3⟩) (meth := k19m3) (c := k19c3) (by decide +kernel) rfl rfl rfl (by decide +kernel)
set_option maxRecDepth 65536 in
theorem w_c40 : (Jvm.Cond.code ({ cls := "java/lang/StringUTF16", name := "coderFromArrayLen", desc := "([BI)B" } : Jvm.MethodName) jdk_52_method_15_code (2 : Nat) (Option.some Jvm.ClassFile.FieldType.byte)).before args0 about1 = true := code_word (m := ⟨19, 1⟩) (meth := k19m1) (c := k19c1) (by decide +kernel) rfl rfl rfl (by decide +kernel)
set_option maxRecDepth 65536 in
theorem w_c41 : (Jvm.Cond.code ({ cls := "com/example/garm/garm/ClaimToStringPinLaw", name := "c2", desc := "(I)C" } : Jvm.MethodName) method_5_code (1 : Nat) (Option.some Jvm.ClassFile.FieldType.char)).before args0 about1 = true := code_word (m := ⟨1, 4⟩) (meth := k1m4) (c := k1c4) (by decide +kernel) rfl rfl rfl (by decide +kernel)
def codes1 : List Jvm.Cond := [Jvm.Cond.code x code maxLocals ret, Jvm.Cond.code ({ cls := "com/example/garm/garm/ClaimToStringPinLaw", name := "str", desc := "(I)Ljava/lang/String;" } : Jvm.MethodName) method_6_code (2 : Nat) (Option.some (Jvm.ClassFile.FieldType.object "java/lang/String")), Jvm.Cond.code ({ cls := "com/example/garm/garm/ClaimToStringPinLaw", name := "len", desc := "(I)I" } : Jvm.MethodName) method_2_code (1 : Nat) (Option.some Jvm.ClassFile.FieldType.int), Jvm.Cond.code ({ cls := "java/lang/String", name := "<init>", desc := "([C)V" } : Jvm.MethodName) jdk_42_method_3_code (2 : Nat) (Option.none : Option Jvm.ClassFile.FieldType), Jvm.Cond.code ({ cls := "java/lang/String", name := "<init>", desc := "([CIILjava/lang/Void;)V" } : Jvm.MethodName) jdk_42_method_149_code (6 : Nat) (Option.none : Option Jvm.ClassFile.FieldType), Jvm.Cond.code ({ cls := "java/lang/Object", name := "<init>", desc := "()V" } : Jvm.MethodName) object_method_1_code (1 : Nat) (Option.none : Option Jvm.ClassFile.FieldType), Jvm.Cond.code ({ cls := "com/example/garm/garm/SecurityTarget$Claim", name := "<init>", desc := "(Ljava/lang/String;Ljava/lang/String;Lcom/example/garm/garm/Conformance;)V" } : Jvm.MethodName) prog_41_method_1_code (4 : Nat) (Option.none : Option Jvm.ClassFile.FieldType), Jvm.Cond.code ({ cls := "com/example/garm/garm/SecurityTarget$Claim", name := "toString", desc := "()Ljava/lang/String;" } : Jvm.MethodName) prog_41_method_4_code (1 : Nat) (Option.some (Jvm.ClassFile.FieldType.object "java/lang/String")), Jvm.Cond.code ({ cls := "java/lang/StringBuilder", name := "<init>", desc := "()V" } : Jvm.MethodName) jdk_67_method_1_code (1 : Nat) (Option.none : Option Jvm.ClassFile.FieldType), Jvm.Cond.code ({ cls := "java/lang/AbstractStringBuilder", name := "<init>", desc := "(I)V" } : Jvm.MethodName) jdk_68_method_2_code (2 : Nat) (Option.none : Option Jvm.ClassFile.FieldType), Jvm.Cond.code ({ cls := "java/lang/StringBuilder", name := "append", desc := "(Ljava/lang/String;)Ljava/lang/StringBuilder;" } : Jvm.MethodName) jdk_67_method_7_code (2 : Nat) (Option.some (Jvm.ClassFile.FieldType.object "java/lang/StringBuilder")), Jvm.Cond.code ({ cls := "java/lang/AbstractStringBuilder", name := "append", desc := "(Ljava/lang/String;)Ljava/lang/AbstractStringBuilder;" } : Jvm.MethodName) jdk_68_method_22_code (3 : Nat) (Option.some (Jvm.ClassFile.FieldType.object "java/lang/AbstractStringBuilder")), Jvm.Cond.code ({ cls := "java/lang/String", name := "length", desc := "()I" } : Jvm.MethodName) jdk_42_method_54_code (1 : Nat) (Option.some Jvm.ClassFile.FieldType.int), Jvm.Cond.code ({ cls := "java/lang/String", name := "coder", desc := "()B" } : Jvm.MethodName) jdk_42_method_152_code (1 : Nat) (Option.some Jvm.ClassFile.FieldType.byte), Jvm.Cond.code ({ cls := "java/lang/AbstractStringBuilder", name := "ensureCapacityInternal", desc := "(I)V" } : Jvm.MethodName) jdk_68_method_9_code (3 : Nat) (Option.none : Option Jvm.ClassFile.FieldType), Jvm.Cond.code ({ cls := "java/lang/AbstractStringBuilder", name := "putStringAt", desc := "(ILjava/lang/String;)V" } : Jvm.MethodName) jdk_68_method_73_code (3 : Nat) (Option.none : Option Jvm.ClassFile.FieldType), Jvm.Cond.code ({ cls := "java/lang/AbstractStringBuilder", name := "inflateIfNeededFor", desc := "(Ljava/lang/String;)V" } : Jvm.MethodName) jdk_68_method_71_code (2 : Nat) (Option.none : Option Jvm.ClassFile.FieldType), Jvm.Cond.code ({ cls := "java/lang/String", name := "getBytes", desc := "([BIB)V" } : Jvm.MethodName) jdk_42_method_147_code (4 : Nat) (Option.none : Option Jvm.ClassFile.FieldType), Jvm.Cond.code ({ cls := "java/lang/StringBuilder", name := "toString", desc := "()Ljava/lang/String;" } : Jvm.MethodName) jdk_67_method_42_code (1 : Nat) (Option.some (Jvm.ClassFile.FieldType.object "java/lang/String")), Jvm.Cond.code ({ cls := "java/lang/String", name := "<init>", desc := "(Ljava/lang/StringBuilder;)V" } : Jvm.MethodName) jdk_42_method_53_code (2 : Nat) (Option.none : Option Jvm.ClassFile.FieldType), Jvm.Cond.code ({ cls := "java/lang/String", name := "<init>", desc := "(Ljava/lang/AbstractStringBuilder;Ljava/lang/Void;)V" } : Jvm.MethodName) jdk_42_method_150_code (5 : Nat) (Option.none : Option Jvm.ClassFile.FieldType), Jvm.Cond.code ({ cls := "java/lang/AbstractStringBuilder", name := "getValue", desc := "()[B" } : Jvm.MethodName) jdk_68_method_64_code (1 : Nat) (Option.some (Jvm.ClassFile.FieldType.array Jvm.ClassFile.FieldType.byte)), Jvm.Cond.code ({ cls := "java/lang/StringBuilder", name := "length", desc := "()I" } : Jvm.MethodName) jdk_67_method_93_code (1 : Nat) (Option.some Jvm.ClassFile.FieldType.int), Jvm.Cond.code ({ cls := "java/lang/AbstractStringBuilder", name := "length", desc := "()I" } : Jvm.MethodName) jdk_68_method_6_code (1 : Nat) (Option.some Jvm.ClassFile.FieldType.int), Jvm.Cond.code ({ cls := "java/lang/AbstractStringBuilder", name := "isLatin1", desc := "()Z" } : Jvm.MethodName) jdk_68_method_68_code (1 : Nat) (Option.some Jvm.ClassFile.FieldType.boolean), Jvm.Cond.code ({ cls := "java/util/Arrays", name := "copyOfRange", desc := "([BII)[B" } : Jvm.MethodName) jdk_65_method_132_code (3 : Nat) (Option.some (Jvm.ClassFile.FieldType.array Jvm.ClassFile.FieldType.byte)), Jvm.Cond.code ({ cls := "java/util/Arrays", name := "copyOfRangeByte", desc := "([BII)[B" } : Jvm.MethodName) jdk_65_method_133_code (5 : Nat) (Option.some (Jvm.ClassFile.FieldType.array Jvm.ClassFile.FieldType.byte)), Jvm.Cond.code ({ cls := "java/util/Arrays", name := "checkLength", desc := "(II)V" } : Jvm.MethodName) jdk_65_method_131_code (2 : Nat) (Option.none : Option Jvm.ClassFile.FieldType), Jvm.Cond.code ({ cls := "java/lang/Math", name := "min", desc := "(II)I" } : Jvm.MethodName) jdk_29_method_69_code (2 : Nat) (Option.some Jvm.ClassFile.FieldType.int), Jvm.Cond.code ({ cls := "com/example/garm/garm/ClaimToStringPinLaw", name := "part", desc := "(Ljava/lang/String;II)Z" } : Jvm.MethodName) method_7_code (5 : Nat) (Option.some Jvm.ClassFile.FieldType.boolean), Jvm.Cond.code ({ cls := "java/lang/String", name := "charAt", desc := "(I)C" } : Jvm.MethodName) jdk_42_method_56_code (2 : Nat) (Option.some Jvm.ClassFile.FieldType.char), Jvm.Cond.code ({ cls := "java/lang/String", name := "isLatin1", desc := "()Z" } : Jvm.MethodName) jdk_42_method_154_code (1 : Nat) (Option.some Jvm.ClassFile.FieldType.boolean), Jvm.Cond.code ({ cls := "java/lang/StringLatin1", name := "charAt", desc := "([BI)C" } : Jvm.MethodName) jdk_43_method_2_code (2 : Nat) (Option.some Jvm.ClassFile.FieldType.char), Jvm.Cond.code ({ cls := "java/lang/String", name := "checkIndex", desc := "(II)V" } : Jvm.MethodName) jdk_42_method_155_code (2 : Nat) (Option.none : Option Jvm.ClassFile.FieldType), Jvm.Cond.code ({ cls := "jdk/internal/util/Preconditions", name := "checkIndex", desc := "(IILjava/util/function/BiFunction;)I" } : Jvm.MethodName) jdk_41_method_11_code (3 : Nat) (Option.some Jvm.ClassFile.FieldType.int), Jvm.Cond.code ({ cls := "com/example/garm/garm/SecurityTarget$Claim", name := "conformance", desc := "()Lcom/example/garm/garm/Conformance;" } : Jvm.MethodName) prog_41_method_3_code (1 : Nat) (Option.some (Jvm.ClassFile.FieldType.object "com/example/garm/garm/Conformance")), Jvm.Cond.code ({ cls := "com/example/garm/garm/ClaimToStringPinLaw", name := "c0", desc := "(I)C" } : Jvm.MethodName) method_3_code (1 : Nat) (Option.some Jvm.ClassFile.FieldType.char), Jvm.Cond.code ({ cls := "com/example/garm/garm/ClaimToStringPinLaw", name := "c1", desc := "(I)C" } : Jvm.MethodName) method_4_code (1 : Nat) (Option.some Jvm.ClassFile.FieldType.char), Jvm.Cond.code ({ cls := "java/lang/StringUTF16", name := "compress", desc := "([CII)[B" } : Jvm.MethodName) jdk_52_method_16_code (6 : Nat) (Option.some (Jvm.ClassFile.FieldType.array Jvm.ClassFile.FieldType.byte)), Jvm.Cond.code ({ cls := "java/lang/StringUTF16", name := "compress", desc := "([CI[BII)I" } : Jvm.MethodName) jdk_52_method_21_code (7 : Nat) (Option.some Jvm.ClassFile.FieldType.int), Jvm.Cond.code ({ cls := "java/lang/StringUTF16", name := "coderFromArrayLen", desc := "([BI)B" } : Jvm.MethodName) jdk_52_method_15_code (2 : Nat) (Option.some Jvm.ClassFile.FieldType.byte), Jvm.Cond.code ({ cls := "com/example/garm/garm/ClaimToStringPinLaw", name := "c2", desc := "(I)C" } : Jvm.MethodName) method_5_code (1 : Nat) (Option.some Jvm.ClassFile.FieldType.char)]
set_option maxRecDepth 65536 in
theorem codes_eq : words1.filter isCode = codes1 := rfl
theorem w_codes : ∀ c ∈ words1.filter isCode, c.before args0 about1 = true := by
  rw [codes_eq]
  intro c hc
  simp only [codes1, List.mem_cons, List.not_mem_nil, or_false] at hc
  rcases hc with rfl | rfl | rfl | rfl | rfl | rfl | rfl | rfl | rfl | rfl | rfl | rfl | rfl | rfl | rfl | rfl | rfl | rfl | rfl | rfl | rfl | rfl | rfl | rfl | rfl | rfl | rfl | rfl | rfl | rfl | rfl | rfl | rfl | rfl | rfl | rfl | rfl | rfl | rfl | rfl | rfl | rfl
  · exact w_c0
  · exact w_c1
  · exact w_c2
  · exact w_c3
  · exact w_c4
  · exact w_c5
  · exact w_c6
  · exact w_c7
  · exact w_c8
  · exact w_c9
  · exact w_c10
  · exact w_c11
  · exact w_c12
  · exact w_c13
  · exact w_c14
  · exact w_c15
  · exact w_c16
  · exact w_c17
  · exact w_c18
  · exact w_c19
  · exact w_c20
  · exact w_c21
  · exact w_c22
  · exact w_c23
  · exact w_c24
  · exact w_c25
  · exact w_c26
  · exact w_c27
  · exact w_c28
  · exact w_c29
  · exact w_c30
  · exact w_c31
  · exact w_c32
  · exact w_c33
  · exact w_c34
  · exact w_c35
  · exact w_c36
  · exact w_c37
  · exact w_c38
  · exact w_c39
  · exact w_c40
  · exact w_c41
set_option maxRecDepth 65536 in
theorem w_t1 : (words1.take 24).all (fun c => isCode c || c.before args0 about1) = true := by decide +kernel
set_option maxRecDepth 65536 in
theorem w_t2 : ((words1.drop 24).take 24).all (fun c => isCode c || c.before args0 about1) = true := by decide +kernel
set_option maxRecDepth 65536 in
theorem w_t3 : (((words1.drop 24).drop 24).take 24).all (fun c => isCode c || c.before args0 about1) = true := by decide +kernel
set_option maxRecDepth 65536 in
theorem w_t4 : ((((words1.drop 24).drop 24).drop 24).take 24).all (fun c => isCode c || c.before args0 about1) = true := by decide +kernel
set_option maxRecDepth 65536 in
theorem w_t5 : (((((words1.drop 24).drop 24).drop 24).drop 24).take 24).all (fun c => isCode c || c.before args0 about1) = true := by decide +kernel
set_option maxRecDepth 65536 in
theorem w_t6 : ((((((words1.drop 24).drop 24).drop 24).drop 24).drop 24).take 24).all (fun c => isCode c || c.before args0 about1) = true := by decide +kernel
set_option maxRecDepth 65536 in
theorem w_t7 : (((((((words1.drop 24).drop 24).drop 24).drop 24).drop 24).drop 24).take 24).all (fun c => isCode c || c.before args0 about1) = true := by decide +kernel
set_option maxRecDepth 65536 in
theorem w_t8 : ((((((((words1.drop 24).drop 24).drop 24).drop 24).drop 24).drop 24).drop 24).take 24).all (fun c => isCode c || c.before args0 about1) = true := by decide +kernel
set_option maxRecDepth 65536 in
theorem w_t9 : (((((((((words1.drop 24).drop 24).drop 24).drop 24).drop 24).drop 24).drop 24).drop 24).take 24).all (fun c => isCode c || c.before args0 about1) = true := by decide +kernel
set_option maxRecDepth 65536 in
theorem w_t10 : (((((((((words1.drop 24).drop 24).drop 24).drop 24).drop 24).drop 24).drop 24).drop 24).drop 24).all (fun c => isCode c || c.before args0 about1) = true := by decide +kernel
theorem w_tables : (allAtoms (Jvm.Cond.code x code maxLocals ret :: tables_1)).before args0 about1 = true := by
  rw [allAtoms_all]
  show words1.all (fun c => c.before args0 about1) = true
  refine all_split ?_ w_codes
  rw [← List.take_append_drop 24 words1, List.all_append, w_t1, ← List.take_append_drop 24 (words1.drop 24), List.all_append, w_t2, ← List.take_append_drop 24 ((words1.drop 24).drop 24), List.all_append, w_t3, ← List.take_append_drop 24 (((words1.drop 24).drop 24).drop 24), List.all_append, w_t4, ← List.take_append_drop 24 ((((words1.drop 24).drop 24).drop 24).drop 24), List.all_append, w_t5, ← List.take_append_drop 24 (((((words1.drop 24).drop 24).drop 24).drop 24).drop 24), List.all_append, w_t6, ← List.take_append_drop 24 ((((((words1.drop 24).drop 24).drop 24).drop 24).drop 24).drop 24), List.all_append, w_t7, ← List.take_append_drop 24 (((((((words1.drop 24).drop 24).drop 24).drop 24).drop 24).drop 24).drop 24), List.all_append, w_t8, ← List.take_append_drop 24 ((((((((words1.drop 24).drop 24).drop 24).drop 24).drop 24).drop 24).drop 24).drop 24), List.all_append, w_t9, w_t10]
  rfl
set_option maxRecDepth 65536 in
theorem w_rest : rest_1_c.before args0 about1 = true := by decide +kernel
set_option maxRecDepth 65536 in
theorem w_case : (Jvm.Cond.and given_1 narrow_1).before args0 about1 = true := by decide +kernel
set_option maxRecDepth 65536 in
theorem w_consts : constsHeld consts_1 about1 := Jvm.Lit.constsHeldB_iff.mp (by decide +kernel)
theorem w_applies : (headSpec (Jvm.Cond.code x code maxLocals ret :: tables_1) room_1).applies x e0.platform about1 = true :=
  (Spec.applies_iff w_frames).mpr ⟨w_running, w_runnable, w_alone, w_named, w_hears, w_ripe, w_room, w_tables⟩
theorem atStart : AtStart classFile x code maxLocals ret World_1 tables_1 room_1 Calls_1 rest_1 Pre_1 launch0 p0 e0 about1 theMethod args0 below0 :=
  ⟨lists_1, trivial, launch0.admits_env _ _ _, launch0.least_env, fairChoices_fair.cas, fairChoices_fair.clock, w_frames, w_args, w_heap, w_applies, ⟨w_consts, trivial⟩, w_rest, w_case⟩
end start1
theorem witness_1 : WitnessClaimed_1 := ⟨start1.p0, start1.e0, start1.about1, start1.theMethod, start1.args0, start1.below0, start1.atStart⟩
end Jvm.Pilot.@@N@@
