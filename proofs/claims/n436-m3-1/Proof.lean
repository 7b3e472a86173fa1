import JvmDerived
import JvmDerived.Pilot.@@N@@Statement
import JvmDerived.Pilot.@@N@@Code
set_option linter.unusedVariables false
set_option linter.unusedSimpArgs false
set_option maxRecDepth 65536
set_option maxHeartbeats 40000000
/- laws to paste: Road.backV, Road.lenW, Road.chN, Road.codOf, pair_says, shr0, Road.wideBytes, narrow_ch, Road.empW (cut by pick.py; bodies as the Statement names them) -/
namespace Jvm.Pilot.@@N@@
namespace StrChars
open Jvm Sem ClassFile Op Lib Jvm.Stand Jvm.Free.XT Jvm.Free.ALB Jvm.Free.JM Jvm.Free
open Jvm.Lib.Cold (StaticIs)
/-- a char array whose places are chars -/
def Ch (a : Addr) (A : Cell) (U : State) : Prop := Arr .char a A U ∧ Typed .char A
theorem Ch.mv {a : Addr} {A : Cell} {U U' : State} (h : Ch a A U) (hal : U.vm.Alike U'.vm) (hh : U'.heap = U.heap) : Ch a A U' := ⟨h.1.mv hal hh, h.2⟩
theorem Ch.keep {a : Addr} {A : Cell} {U U' : State} (h : Ch a A U) (hal : U.vm.Alike U'.vm) (hk : U'.heap[a]? = some A) : Ch a A U' := ⟨h.1.keep hal hk, h.2⟩
/-- what place i of a char[]'s cell holds -/
def cv (A : Cell) (i : Nat) : Int32 := match A.slots[i]? with | some (.int x) => x | _ => 0
theorem Ch.get {a : Addr} {A : Cell} {U : State} (h : Ch a A U) {i : Nat} (hi : i < A.slots.size) : A.slots[i]? = some (.int (cv A i)) := by
  have e := Array.getElem?_eq_getElem hi
  have f := h.2 i _ e
  unfold cv; rw [e]
  generalize A.slots[i] = v at f
  cases v <;> simp [fits] at f ⊢
/-- the byte that i2b leaves of a char -/
def lo8 (x : Int32) : Int32 := x.toInt8.toInt32
theorem fits_lo8 (y : Int32) : fits .byte (.int (lo8 y)) = true := by
  have h1 := y.toInt8.le_toInt
  have h2 := y.toInt8.toInt_lt
  simp only [lo8, fits, Bool.and_eq_true, decide_eq_true_eq, Int32.le_iff_toInt_le, Int8.toInt_toInt32, show (-128 : Int32).toInt = -128 from by decide, show (127 : Int32).toInt = 127 from by decide]
  omega
/-- A' is A but that each place j of lo .. hi - 1 holds f j -/
def Laid (A A' : Cell) (lo hi : Nat) (f : Nat → Value) : Prop := A'.cls = A.cls ∧ A'.vm = A.vm ∧ A'.slots.size = A.slots.size ∧ ∀ i, A'.slots[i]? = if lo ≤ i ∧ i < hi then some (f i) else A.slots[i]?
theorem Laid.zero (A : Cell) (lo : Nat) (f : Nat → Value) : Laid A A lo (lo + 0) f := ⟨rfl, rfl, rfl, fun i => by rw [if_neg (by omega)]⟩
theorem Laid.step {A Ak : Cell} {lo k : Nat} {f : Nat → Value} {v : Value} (h : Laid A Ak lo k f) (hlo : lo ≤ k) (hk : k < Ak.slots.size) (hv : v = f k) : Laid A (Ak.setSlot k v) lo (k + 1) f := by
  refine ⟨h.1, h.2.1, by simpa [Cell.setSlot] using h.2.2.1, fun i => ?_⟩
  by_cases e : k = i
  · subst e; rw [Cell.slots_setSlot_self v hk, if_pos (by omega), hv]
  · rw [Cell.slots_setSlot_ne v e, h.2.2.2 i]
    by_cases q : lo ≤ i ∧ i < k
    · rw [if_pos q, if_pos (by omega)]
    · rw [if_neg q, if_neg (by omega)]
def U16 : String := "java/lang/StringUTF16"
namespace Cmp5
def yN : MethodName := ⟨"java/lang/StringUTF16", "compress", "([CI[BII)I"⟩
abbrev yB : ByteArray := jdk_52_method_21_code
theorem d0 : decode yB 0 = .ok (.iconst 0, 1) := by decide +kernel
theorem d1 : decode yB 1 = .ok (.istore 5, 2) := by decide +kernel
theorem d3 : decode yB 3 = .ok (.iload 5, 2) := by decide +kernel
theorem d5 : decode yB 5 = .ok (.iload 4, 2) := by decide +kernel
theorem d7 : decode yB 7 = .ok (.if_icmp (.ge) 37, 3) := by decide +kernel
theorem d10 : decode yB 10 = .ok (.aload_n 0, 1) := by decide +kernel
theorem d11 : decode yB 11 = .ok (.iload_n 1, 1) := by decide +kernel
theorem d12 : decode yB 12 = .ok (.caload, 1) := by decide +kernel
theorem d13 : decode yB 13 = .ok (.istore 6, 2) := by decide +kernel
theorem d15 : decode yB 15 = .ok (.iload 6, 2) := by decide +kernel
theorem d17 : decode yB 17 = .ok (.sipush 255, 3) := by decide +kernel
theorem d20 : decode yB 20 = .ok (.if_icmp (.le) 6, 3) := by decide +kernel
theorem d26 : decode yB 26 = .ok (.aload_n 2, 1) := by decide +kernel
theorem d27 : decode yB 27 = .ok (.iload_n 3, 1) := by decide +kernel
theorem d28 : decode yB 28 = .ok (.iload 6, 2) := by decide +kernel
theorem d30 : decode yB 30 = .ok (.i2b, 1) := by decide +kernel
theorem d31 : decode yB 31 = .ok (.bastore, 1) := by decide +kernel
theorem d32 : decode yB 32 = .ok (.iinc 1 1, 3) := by decide +kernel
theorem d35 : decode yB 35 = .ok (.iinc 3 1, 3) := by decide +kernel
theorem d38 : decode yB 38 = .ok (.iinc 5 1, 3) := by decide +kernel
theorem d41 : decode yB 41 = .ok (.goto (-38), 3) := by decide +kernel
theorem d44 : decode yB 44 = .ok (.iload 4, 2) := by decide +kernel
theorem d46 : decode yB 46 = .ok (.ireturn, 1) := by decide +kernel
def site : List Cond := []
def tab : Cond := tabOf yN yB 7 (some .int) site
def P (b : Addr) (A : Cell) (d : Addr) (B : Cell) (o q len : Nat) (args : Array Value) (s : State) : Prop := args = #[.ref b, .int (Int32.ofNat o), .ref d, .int (Int32.ofNat q), .int (Int32.ofNat len)] ∧ Ch b A s ∧ Arr .byte d B s ∧ b ≠ d ∧ o + len ≤ A.slots.size ∧ q + len ≤ B.slots.size ∧ ∀ i, i < len → ¬ 255 < cv A (o + i)
def E (b : Addr) (A : Cell) (d : Addr) (B : Cell) (o q len : Nat) (r : Option Value) (s u : State) : Prop := r = some (.int (Int32.ofNat len)) ∧ ∃ B', Put d B' s u ∧ Laid B B' q (q + len) (fun j => Value.int (lo8 (cv A (o + (j - q)))))
/-- no char of the range above 255: len; the places written hold each char's low byte -/
theorem law (l : Launch) (b : Addr) (A : Cell) (d : Addr) (B : Cell) (o q len : Nat) : Law l yN 5 5 0 0 yB 7 (some .int) site (P b A d B o q len) (E b A d B o q len) (copyLocs d q len) 0 0 := by
  refine Law.of_walk (plainFor_of_name (by decide +kernel)) (by decide +kernel) (by decide +kernel) (by decide) (fun _ _ h => by rw [h.1]; rfl) (fun _ U U' hal hh h => ⟨h.1, h.2.1.mv hal hh, h.2.2.1.mv hal hh, h.2.2.2⟩) (fun r U U' V V' h1 hal h2 h => ⟨h.1, h.2.elim fun B' q => ⟨B', q.1.mv h1 h2, q.2⟩⟩) ?_
  intro p e s m args below meth c s₁ X0 hexec hbytes hml hret hlk hnm hown hh0 W hP
  obtain ⟨rfl, hA, hB, hne, l1, l2, hp⟩ := hP
  have c1 : Steps p.tables e below (s₁.setTop (entryFrame m #[.ref b, .int (Int32.ofNat o), .ref d, .int (Int32.ofNat q), .int (Int32.ofNat len)] 7)) (s₁.setTop (mkF m 0 #[.val (.ref b), .val (.int (Int32.ofNat o)), .val (.ref d), .val (.int (Int32.ofNat q)), .val (.int (Int32.ofNat len)), .unset, .unset] [])) := entry rfl
  have hA0 := hA.1.mv X0.warmed.alike hh0
  have hB0 := hB.mv X0.warmed.alike hh0
  have a31 := hA.1.2.2.2
  have c2 : Steps p.tables e below (s₁.setTop (entryFrame m #[.ref b, .int (Int32.ofNat o), .ref d, .int (Int32.ofNat q), .int (Int32.ofNat len)] 7)) (s₁.setTop (mkF m 3 #[.val (.ref b), .val (.int (Int32.ofNat o)), .val (.ref d), .val (.int (Int32.ofNat q)), .val (.int (Int32.ofNat len)), .val (.int 0), .unset] [])) := c1.trans (by
    refine iconstV X0.here hexec rfl 0 (hb hbytes d0) (by decide) ?_
    refine XS.istore X0.here hexec rfl (hb hbytes d1) rfl rfl ?_
    exact Steps.refl _)
  have loop : ∀ (r i : Nat), i + r = len → ∀ (z : Slot), (z = .unset ∨ ∃ w, z = .val w ∧ w.category = 1) → ∀ (Tl : State) (Bk : Cell), Stand p l e { frames := 0, locals := 0, cells := 0, slots := 0 } s m #[.ref b, .int (Int32.ofNat o), .ref d, .int (Int32.ofNat q), .int (Int32.ofNat len)] below meth c Tl ([] ++ copyLocs d q i) 0 0 → Put d Bk s₁ Tl → Laid B Bk q (q + i) (fun j => Value.int (lo8 (cv A (o + (j - q))))) →
      Steps p.tables e below (s₁.setTop (entryFrame m #[.ref b, .int (Int32.ofNat o), .ref d, .int (Int32.ofNat q), .int (Int32.ofNat len)] 7)) (Tl.setTop (mkF m 3 #[.val (.ref b), .val (.int (Int32.ofNat (o + i))), .val (.ref d), .val (.int (Int32.ofNat (q + i))), .val (.int (Int32.ofNat len)), .val (.int (Int32.ofNat i)), z] [])) → ∃ (T' : State) (B' : Cell) (z' : Slot), Stand p l e { frames := 0, locals := 0, cells := 0, slots := 0 } s m #[.ref b, .int (Int32.ofNat o), .ref d, .int (Int32.ofNat q), .int (Int32.ofNat len)] below meth c T' ([] ++ copyLocs d q len) 0 0 ∧ Put d B' s₁ T' ∧ Laid B B' q (q + len) (fun j => Value.int (lo8 (cv A (o + (j - q))))) ∧
      Steps p.tables e below (s₁.setTop (entryFrame m #[.ref b, .int (Int32.ofNat o), .ref d, .int (Int32.ofNat q), .int (Int32.ofNat len)] 7)) (T'.setTop (mkF m 3 #[.val (.ref b), .val (.int (Int32.ofNat (o + len))), .val (.ref d), .val (.int (Int32.ofNat (q + len))), .val (.int (Int32.ofNat len)), .val (.int (Int32.ofNat len)), z'] [])) := by
    intro r
    induction r with
    | zero =>
      intro i hi z hz Tl Bk Xl pl fl cl
      have hil : i = len := by omega
      rw [hil] at Xl fl cl
      exact ⟨Tl, Bk, z, Xl, pl, fl, cl⟩
    | succ r ih =>
      intro i hi z hz Tl Bk Xl pl fl cl
      have all := X0.warmed.alike.symm.trans Xl.warmed.alike
      have hAl := hA0.keep all (pl.other hne hA0.1)
      have hBk := hB0.like all pl.1 fl.1 fl.2.1 fl.2.2.1
      have hlt : q + i < Bk.slots.size := by rw [fl.2.2.1]; omega
      have c3 : Steps p.tables e below (s₁.setTop (entryFrame m #[.ref b, .int (Int32.ofNat o), .ref d, .int (Int32.ofNat q), .int (Int32.ofNat len)] 7)) (Tl.setTop (mkF m 12 #[.val (.ref b), .val (.int (Int32.ofNat (o + i))), .val (.ref d), .val (.int (Int32.ofNat (q + i))), .val (.int (Int32.ofNat len)), .val (.int (Int32.ofNat i)), z] [.int (Int32.ofNat (o + i)), .ref b])) := cl.trans (by
        refine XS.iload Xl.here hexec rfl (hb hbytes d3) rfl ?_
        refine XS.iload Xl.here hexec rfl (hb hbytes d5) rfl ?_
        refine XS.icmpNo Xl.here hexec rfl (hb hbytes d7) rfl (ii_ge_f (lt32 (by omega) (by omega))) ?_
        refine XS.aloadN Xl.here hexec rfl (hb hbytes d10) rfl rfl ?_
        refine XS.iloadN Xl.here hexec rfl (hb hbytes d11) rfl ?_
        exact Steps.refl _)
      have c4 : Steps p.tables e below (s₁.setTop (entryFrame m #[.ref b, .int (Int32.ofNat o), .ref d, .int (Int32.ofNat q), .int (Int32.ofNat len)] 7)) (Tl.setTop (mkF m 13 #[.val (.ref b), .val (.int (Int32.ofNat (o + i))), .val (.ref d), .val (.int (Int32.ofNat (q + i))), .val (.int (Int32.ofNat len)), .val (.int (Int32.ofNat i)), z] [.int (cv A (o + i))])) := c3.trans (by
        refine Xl.aget hexec hAl rfl (hA.get (i := o + i) (by omega)) rfl rfl (hb hbytes d12) ?_
        exact Steps.refl _)
      have c5 : Steps p.tables e below (s₁.setTop (entryFrame m #[.ref b, .int (Int32.ofNat o), .ref d, .int (Int32.ofNat q), .int (Int32.ofNat len)] 7)) (Tl.setTop (mkF m 15 #[.val (.ref b), .val (.int (Int32.ofNat (o + i))), .val (.ref d), .val (.int (Int32.ofNat (q + i))), .val (.int (Int32.ofNat len)), .val (.int (Int32.ofNat i)), .val (.int (cv A (o + i)))] [])) := c4.trans (by
        refine XS.istoreS Xl.here hexec rfl (hb hbytes d13) rfl rfl hz ?_
        exact Steps.refl _)
      have c6 : Steps p.tables e below (s₁.setTop (entryFrame m #[.ref b, .int (Int32.ofNat o), .ref d, .int (Int32.ofNat q), .int (Int32.ofNat len)] 7)) (Tl.setTop (mkF m 31 #[.val (.ref b), .val (.int (Int32.ofNat (o + i))), .val (.ref d), .val (.int (Int32.ofNat (q + i))), .val (.int (Int32.ofNat len)), .val (.int (Int32.ofNat i)), .val (.int (cv A (o + i)))] [.int (lo8 (cv A (o + i))), .int (Int32.ofNat (q + i)), .ref d])) := c5.trans (by
        refine XS.iload Xl.here hexec rfl (hb hbytes d15) rfl ?_
        refine sipushV Xl.here hexec rfl 255 (hb hbytes d17) (by decide) ?_
        refine XS.icmpYes Xl.here hexec rfl (pc0 := 20) rfl (hb hbytes d20) rfl (ii_le_t (hp i (by omega))) (by decide) rfl ?_
        refine XS.aloadN Xl.here hexec rfl (hb hbytes d26) rfl rfl ?_
        refine XS.iloadN Xl.here hexec rfl (hb hbytes d27) rfl ?_
        refine XS.iload Xl.here hexec rfl (hb hbytes d28) rfl ?_
        refine i2b Xl.here hexec rfl (hb hbytes d30) rfl ?_
        exact Steps.refl _)
      obtain ⟨T7, X7, p7, st7⟩ := Xl.aput hexec hBk rfl hlt rfl (fits_lo8 (cv A (o + i))) (g := (mkF m 31 #[.val (.ref b), .val (.int (Int32.ofNat (o + i))), .val (.ref d), .val (.int (Int32.ofNat (q + i))), .val (.int (Int32.ofNat len)), .val (.int (Int32.ofNat i)), .val (.int (cv A (o + i)))] [.int (lo8 (cv A (o + i))), .int (Int32.ofNat (q + i)), .ref d])) rfl (rest := []) rfl (hb hbytes d31)
      have c8 : Steps p.tables e below (s₁.setTop (entryFrame m #[.ref b, .int (Int32.ofNat o), .ref d, .int (Int32.ofNat q), .int (Int32.ofNat len)] 7)) (T7.setTop (mkF m 32 #[.val (.ref b), .val (.int (Int32.ofNat (o + i))), .val (.ref d), .val (.int (Int32.ofNat (q + i))), .val (.int (Int32.ofNat len)), .val (.int (Int32.ofNat i)), .val (.int (cv A (o + i)))] [])) := c6.trans (st7 _ (Steps.refl _))
      have c9 : Steps p.tables e below (s₁.setTop (entryFrame m #[.ref b, .int (Int32.ofNat o), .ref d, .int (Int32.ofNat q), .int (Int32.ofNat len)] 7)) (T7.setTop (mkF m 3 #[.val (.ref b), .val (.int (Int32.ofNat (o + i) + 1)), .val (.ref d), .val (.int (Int32.ofNat (q + i) + 1)), .val (.int (Int32.ofNat len)), .val (.int (Int32.ofNat i + 1)), .val (.int (cv A (o + i)))] [])) := c8.trans (by
        refine iincV X7.here hexec rfl 1 (hb hbytes d32) (by decide) rfl rfl ?_
        refine iincV X7.here hexec rfl 1 (hb hbytes d35) (by decide) rfl rfl ?_
        refine iincV X7.here hexec rfl 1 (hb hbytes d38) (by decide) rfl rfl ?_
        refine XS.goto X7.here hexec rfl (pc0 := 41) rfl (hb hbytes d41) (by decide) rfl ?_
        exact Steps.refl _)
      have c10 : Steps p.tables e below (s₁.setTop (entryFrame m #[.ref b, .int (Int32.ofNat o), .ref d, .int (Int32.ofNat q), .int (Int32.ofNat len)] 7)) (T7.setTop (mkF m 3 #[.val (.ref b), .val (.int (Int32.ofNat (o + (i + 1)))), .val (.ref d), .val (.int (Int32.ofNat (q + (i + 1)))), .val (.int (Int32.ofNat len)), .val (.int (Int32.ofNat (i + 1))), .val (.int (cv A (o + i)))] [])) := by
        have := c9
        rw [succ32, succ32, succ32] at this
        exact this
      exact ih (i + 1) (by omega) _ (Or.inr ⟨_, rfl, rfl⟩) T7 _ (by rw [copyLocs_step, ← List.append_assoc]; exact X7) (pl.trans p7) (fl.step (by omega) hlt (by simp)) c10
  obtain ⟨T9, B9, z9, X9, p9, f9, g9⟩ := loop len 0 (by omega) .unset (Or.inl rfl) s₁ B (by simpa [copyLocs] using X0) ⟨hB0.1, fun _ _ => rfl, rfl⟩ (Laid.zero _ _ _) c2
  have c11 : Steps p.tables e below (s₁.setTop (entryFrame m #[.ref b, .int (Int32.ofNat o), .ref d, .int (Int32.ofNat q), .int (Int32.ofNat len)] 7)) (T9.setTop (mkF m 46 #[.val (.ref b), .val (.int (Int32.ofNat (o + len))), .val (.ref d), .val (.int (Int32.ofNat (q + len))), .val (.int (Int32.ofNat len)), .val (.int (Int32.ofNat len)), z9] [.int (Int32.ofNat len)])) := g9.trans (by
    refine XS.iload X9.here hexec rfl (hb hbytes d3) rfl ?_
    refine XS.iload X9.here hexec rfl (hb hbytes d5) rfl ?_
    refine XS.icmpYes X9.here hexec rfl (pc0 := 7) rfl (hb hbytes d7) rfl (ii_ge_t (nlt32 (by omega) (Nat.le_refl _))) (by decide) rfl ?_
    refine XS.iload X9.here hexec rfl (hb hbytes d44) rfl ?_
    exact Steps.refl _)
  exact ⟨T9, some (.int (Int32.ofNat len)), _, _, _, X9, by simp, rfl, rfl, (fun h => by cases h), ⟨rfl, B9, p9.from hh0, f9⟩, fun fs hl => c11.trans (X9.ireturnOut hexec hret rfl (Or.inl rfl) (hb hbytes d46) hl)⟩
end Cmp5
namespace Cmp3
def yN : MethodName := ⟨"java/lang/StringUTF16", "compress", "([CII)[B"⟩
abbrev yB : ByteArray := jdk_52_method_16_code
theorem d0 : decode yB 0 = .ok (.iload_n 2, 1) := by decide +kernel
theorem d1 : decode yB 1 = .ok (.newarray .byte, 2) := by decide +kernel
theorem d3 : decode yB 3 = .ok (.astore_n 3, 1) := by decide +kernel
theorem d4 : decode yB 4 = .ok (.aload_n 0, 1) := by decide +kernel
theorem d5 : decode yB 5 = .ok (.iload_n 1, 1) := by decide +kernel
theorem d6 : decode yB 6 = .ok (.aload_n 3, 1) := by decide +kernel
theorem d7 : decode yB 7 = .ok (.iconst 0, 1) := by decide +kernel
theorem d8 : decode yB 8 = .ok (.iload_n 2, 1) := by decide +kernel
theorem d9 : decode yB 9 = .ok (.invokestatic 115, 3) := by decide +kernel
theorem d12 : decode yB 12 = .ok (.istore 4, 2) := by decide +kernel
theorem d14 : decode yB 14 = .ok (.iload 4, 2) := by decide +kernel
theorem d16 : decode yB 16 = .ok (.iload_n 2, 1) := by decide +kernel
theorem d17 : decode yB 17 = .ok (.if_icmp (.eq) 40, 3) := by decide +kernel
theorem d57 : decode yB 57 = .ok (.aload_n 3, 1) := by decide +kernel
theorem d58 : decode yB 58 = .ok (.areturn, 1) := by decide +kernel
def site : List Cond := [.arrayClass .byte, Cmp5.tab] ++ staticW U16 115 Cmp5.yN
def tab : Cond := tabOf yN yB 6 (some (.array .byte)) site
def P (b : Addr) (A : Cell) (o len : Nat) (args : Array Value) (s : State) : Prop := args = #[.ref b, .int (Int32.ofNat o), .int (Int32.ofNat len)] ∧ Ch b A s ∧ o + len ≤ A.slots.size ∧ len ≤ 536870912 ∧ ∀ i, i < len → ¬ 255 < cv A (o + i)
def E (b : Addr) (A : Cell) (o len : Nat) (r : Option Value) (s u : State) : Prop := NewArr .byte "[B" len (fun j => .int (lo8 (cv A (o + j)))) r s u ∧ u.heap.size = s.heap.size + 1
/-- no char of the range above 255: a new byte[] of their low bytes -/
theorem law (l : Launch) (b : Addr) (A : Cell) (o len : Nat) : Law l yN 3 3 1 18 yB 6 (some (.array .byte)) site (P b A o len) (E b A o len) [] 1 len := by
  refine Law.of_walk (plainFor_of_name (by decide +kernel)) (by decide +kernel) (by decide +kernel) (by decide) (fun _ _ h => by rw [h.1]; rfl) (fun _ U U' hal hh h => ⟨h.1, h.2.1.mv hal hh, h.2.2⟩) (fun r U U' V V' h1 hal h2 h => ⟨NewArr.mv r U U' V V' h1 hal h2 h.1, by rw [h1, h2]; exact h.2⟩) ?_
  intro p e s m args below meth c s₁ X0 hexec hbytes hml hret hlk hnm hown hh0 W hP
  obtain ⟨rfl, hA, l1, l2, hp⟩ := hP
  have a31 := hA.1.2.2.2
  have c1 : Steps p.tables e below (s₁.setTop (entryFrame m #[.ref b, .int (Int32.ofNat o), .int (Int32.ofNat len)] 6)) (s₁.setTop (mkF m 0 #[.val (.ref b), .val (.int (Int32.ofNat o)), .val (.int (Int32.ofNat len)), .unset, .unset, .unset] [])) := entry rfl
  have c2 : Steps p.tables e below (s₁.setTop (entryFrame m #[.ref b, .int (Int32.ofNat o), .int (Int32.ofNat len)] 6)) (s₁.setTop (mkF m 1 #[.val (.ref b), .val (.int (Int32.ofNat o)), .val (.int (Int32.ofNat len)), .unset, .unset, .unset] [.int (Int32.ofNat len)])) := c1.trans (by
    refine XS.iloadN X0.here hexec rfl (hb hbytes d0) rfl ?_
    exact Steps.refl _)
  obtain ⟨T3, B3, X3, ba3, bs3, bv3, bh3, bf3, st3⟩ := X0.anew hexec (atype := .byte) (wk W (.arrayClass .byte)) rfl (by show len * 1 ≤ _; omega) (by omega) (g := (mkF m 1 #[.val (.ref b), .val (.int (Int32.ofNat o)), .val (.int (Int32.ofNat len)), .unset, .unset, .unset] [.int (Int32.ofNat len)])) rfl (hb hbytes d1) (rest := []) rfl (Nat.le_refl _) (by show 0 + len ≤ len; omega)
  rw [hh0] at ba3 st3
  have kp3 : XT.Kept s T3 := (XT.Kept.of_eq hh0).push bh3
  have hA3 := hA.keep X3.warmed.alike (kp3 _ _ hA.1.1)
  have hne : b ≠ s.heap.size := hA.1.ne
  have c4 : Steps p.tables e below (s₁.setTop (entryFrame m #[.ref b, .int (Int32.ofNat o), .int (Int32.ofNat len)] 6)) (T3.setTop (mkF m 3 #[.val (.ref b), .val (.int (Int32.ofNat o)), .val (.int (Int32.ofNat len)), .unset, .unset, .unset] [.ref s.heap.size])) := c2.trans (st3 _ (Steps.refl _))
  have c5 : Steps p.tables e below (s₁.setTop (entryFrame m #[.ref b, .int (Int32.ofNat o), .int (Int32.ofNat len)] 6)) (T3.setTop (mkF m 9 #[.val (.ref b), .val (.int (Int32.ofNat o)), .val (.int (Int32.ofNat len)), .val (.ref s.heap.size), .unset, .unset] [.int (Int32.ofNat len), .int 0, .ref s.heap.size, .int (Int32.ofNat o), .ref b])) := c4.trans (by
    refine XS.astoreN X3.here hexec rfl (hb hbytes d3) rfl rfl rfl ?_
    refine XS.aloadN X3.here hexec rfl (hb hbytes d4) rfl rfl ?_
    refine XS.iloadN X3.here hexec rfl (hb hbytes d5) rfl ?_
    refine XS.aloadN X3.here hexec rfl (hb hbytes d6) rfl rfl ?_
    refine iconstV X3.here hexec rfl 0 (hb hbytes d7) (by decide) ?_
    refine XS.iloadN X3.here hexec rfl (hb hbytes d8) rfl ?_
    exact Steps.refl _)
  obtain ⟨v6, T6, X6, E6, g6⟩ := X3.callS hexec (Cmp5.law l b A s.heap.size B3 o 0 len) hown (wks W (staticW U16 115 Cmp5.yN)) (wk W Cmp5.tab) (W := 0) (Nat.le_of_ble_eq_true rfl) (Nat.le_of_ble_eq_true rfl) (Nat.le_refl _) (by show 0 + len + 0 ≤ len; omega) (g := (mkF m 9 #[.val (.ref b), .val (.int (Int32.ofNat o)), .val (.int (Int32.ofNat len)), .val (.ref s.heap.size), .unset, .unset] [.int (Int32.ofNat len), .int (Int32.ofNat 0), .ref s.heap.size, .int (Int32.ofNat o), .ref b])) rfl (by rw [hml]; rfl) c5 (argsL := [.ref b, .int (Int32.ofNat o), .ref s.heap.size, .int (Int32.ofNat 0), .int (Int32.ofNat len)]) (rest := []) rfl rfl (by show 2 * 0 + 0 ≤ _; decide) (hb hbytes d9) (⟨rfl, hA3, ba3, hne, l1, by rw [bs3]; simp, hp⟩)
  obtain ⟨rfl, B6, p6, f6⟩ := E6
  have c7 : Steps p.tables e below (s₁.setTop (entryFrame m #[.ref b, .int (Int32.ofNat o), .int (Int32.ofNat len)] 6)) (T6.setTop (mkF m 12 #[.val (.ref b), .val (.int (Int32.ofNat o)), .val (.int (Int32.ofNat len)), .val (.ref s.heap.size), .unset, .unset] [.int (Int32.ofNat len)])) := g6
  have c8 : Steps p.tables e below (s₁.setTop (entryFrame m #[.ref b, .int (Int32.ofNat o), .int (Int32.ofNat len)] 6)) (T6.setTop (mkF m 58 #[.val (.ref b), .val (.int (Int32.ofNat o)), .val (.int (Int32.ofNat len)), .val (.ref s.heap.size), .val (.int (Int32.ofNat len)), .unset] [.ref s.heap.size])) := c7.trans (by
    refine XS.istore X6.here hexec rfl (hb hbytes d12) rfl rfl ?_
    refine XS.iload X6.here hexec rfl (hb hbytes d14) rfl ?_
    refine XS.iloadN X6.here hexec rfl (hb hbytes d16) rfl ?_
    refine XS.icmpYes X6.here hexec rfl (pc0 := 17) rfl (hb hbytes d17) rfl (ii_eq_t rfl) (by decide) rfl ?_
    refine XS.aloadN X6.here hexec rfl (hb hbytes d57) rfl rfl ?_
    exact Steps.refl _)
  have X8 := X6.wide (L' := []) (cells' := 1) (slots' := len) (fun x hx hlt => by
    simp only [List.nil_append, copyLocs, List.mem_map, List.mem_range] at hx
    obtain ⟨i, -, rfl⟩ := hx
    exact absurd hlt (Nat.lt_irrefl _)) (Nat.le_refl _) (by omega)
  exact ⟨T6, some (.ref s.heap.size), _, _, _, X8, rfl, rfl, rfl, (fun h => by cases h), ⟨⟨rfl, B6, ba3.like (X3.warmed.alike.symm.trans X6.warmed.alike) p6.1 f6.1 f6.2.1 f6.2.2.1, f6.2.1.trans bv3, by rw [X6.warmed.alike.findClass, f6.1]; exact bf3, by rw [f6.2.2.1, bs3]; simp, fun j hj => by rw [f6.2.2.2 j, if_pos (by omega)]; rfl, kp3.put p6 (Nat.le_refl _)⟩, by rw [p6.2.2, bh3, hh0]; simp⟩, fun fs hl => c8.trans (X8.areturnOut hexec rfl hret rfl (hb hbytes d58) hl)⟩
end Cmp3
namespace CodL
def yN : MethodName := ⟨"java/lang/StringUTF16", "coderFromArrayLen", "([BI)B"⟩
abbrev yB : ByteArray := jdk_52_method_15_code
theorem d0 : decode yB 0 = .ok (.iload_n 1, 1) := by decide +kernel
theorem d1 : decode yB 1 = .ok (.aload_n 0, 1) := by decide +kernel
theorem d2 : decode yB 2 = .ok (.arraylength, 1) := by decide +kernel
theorem d3 : decode yB 3 = .ok (.isub, 1) := by decide +kernel
theorem d4 : decode yB 4 = .ok (.bipush 31, 2) := by decide +kernel
theorem d6 : decode yB 6 = .ok (.iushr, 1) := by decide +kernel
theorem d7 : decode yB 7 = .ok (.i2b, 1) := by decide +kernel
theorem d8 : decode yB 8 = .ok (.ireturn, 1) := by decide +kernel
def site : List Cond := []
def tab : Cond := tabOf yN yB 2 (some .byte) site
def P (d : Addr) (B : Cell) (args : Array Value) (s : State) : Prop := args = #[.ref d, .int (Int32.ofNat B.slots.size)] ∧ Arr .byte d B s
def E (r : Option Value) (s u : State) : Prop := XT.PureE (some (.int 0)) r s u
/-- an array as long as the number of chars: LATIN1 -/
theorem law (l : Launch) (d : Addr) (B : Cell) : Law l yN 2 2 0 0 yB 2 (some .byte) site (P d B) E [] 0 0 := by
  refine Law.of_walk (plainFor_of_name (by decide +kernel)) (by decide +kernel) (by decide +kernel) (by decide) (fun _ _ h => by rw [h.1]; rfl) (fun _ U U' hal hh h => ⟨h.1, h.2.mv hal hh⟩) (fun r U U' V V' h1 hal h2 h => XT.PureE.mv r U U' V V' h1 hal h2 h) ?_
  intro p e s m args below meth c s₁ X0 hexec hbytes hml hret hlk hnm hown hh0 W hP
  obtain ⟨rfl, hB⟩ := hP
  have hB0 := hB.mv X0.warmed.alike hh0
  have c1 : Steps p.tables e below (s₁.setTop (entryFrame m #[.ref d, .int (Int32.ofNat B.slots.size)] 2)) (s₁.setTop (mkF m 0 #[.val (.ref d), .val (.int (Int32.ofNat B.slots.size))] [])) := entry rfl
  have c2 : Steps p.tables e below (s₁.setTop (entryFrame m #[.ref d, .int (Int32.ofNat B.slots.size)] 2)) (s₁.setTop (mkF m 2 #[.val (.ref d), .val (.int (Int32.ofNat B.slots.size))] [.ref d, .int (Int32.ofNat B.slots.size)])) := c1.trans (by
    refine XS.iloadN X0.here hexec rfl (hb hbytes d0) rfl ?_
    refine XS.aloadN X0.here hexec rfl (hb hbytes d1) rfl rfl ?_
    exact Steps.refl _)
  have c3 : Steps p.tables e below (s₁.setTop (entryFrame m #[.ref d, .int (Int32.ofNat B.slots.size)] 2)) (s₁.setTop (mkF m 8 #[.val (.ref d), .val (.int (Int32.ofNat B.slots.size))] [.int (lo8 (ushr (Int32.ofNat B.slots.size - Int32.ofNat B.slots.size) 31))])) := c2.trans (by
    refine X0.alen hexec hB0 rfl rfl (hb hbytes d2) ?_
    refine XS.isub X0.here hexec rfl (hb hbytes d3) rfl ?_
    refine bipushV X0.here hexec rfl 31 (hb hbytes d4) (by decide) ?_
    refine iushr X0.here hexec rfl (hb hbytes d6) rfl ?_
    refine i2b X0.here hexec rfl (hb hbytes d7) rfl ?_
    exact Steps.refl _)
  have e0 : lo8 (ushr (Int32.ofNat B.slots.size - Int32.ofNat B.slots.size) 31) = 0 := by rw [Int32.sub_self]; decide
  rw [e0] at c3
  exact ⟨s₁, some (.int 0), _, _, _, X0, rfl, rfl, rfl, (fun h => by cases h), ⟨rfl, hh0⟩, fun fs hl => c3.trans (X0.ireturnOut hexec hret rfl (Or.inr (Or.inr (Or.inl rfl))) (hb hbytes d8) hl)⟩
end CodL
/-- the String at a is Latin-1 over a new byte[] (the heap's one new cell): the low bytes of the len chars of A from o on; every cell but a is kept -/
def Got (a : Addr) (D : Cell) (fV fC : Field) (A : Cell) (o len : Nat) (r : Option Value) (s u : State) : Prop := r = none ∧ ∃ D' V : Cell, Blank "java/lang/String" a D' u ∧ Same D D' [fV.slot, fC.slot] ∧ D'.slots[fV.slot]? = some (.ref s.heap.size) ∧ D'.slots[fC.slot]? = some (.int 0) ∧ Arr .byte s.heap.size V u ∧ V.vm = .none ∧ u.vm.findClass "[B" = some V.cls ∧ V.slots.size = len ∧ (∀ j, j < len → V.slots[j]? = some (.int (lo8 (cv A (o + j))))) ∧ (∀ (y : Addr) (c : Cell), y ≠ a → s.heap[y]? = some c → u.heap[y]? = some c) ∧ u.heap.size = s.heap.size + 1
theorem Got.mv {a : Addr} {D A : Cell} {fV fC : Field} {o len : Nat} : ∀ r (U U' V V' : State), U'.heap = U.heap → V.vm.Alike V'.vm → V'.heap = V.heap → Got a D fV fC A o len r U V → Got a D fV fC A o len r U' V' :=
  fun r U U' V V' h1 hal h2 ⟨e0, D', X, a1, a2, a3, a4, a5, a6, a7, a8, a9, a10, a11⟩ => ⟨e0, D', X, a1.mv hal h2, a2, by rw [h1]; exact a3, a4, by rw [h1]; exact a5.mv hal h2, a6, by rw [hal.findClass]; exact a7, a8, a9, by rw [h1, h2]; exact a10, by rw [h1, h2]; exact a11⟩
namespace New4
def yN : MethodName := ⟨"java/lang/String", "<init>", "([CIILjava/lang/Void;)V"⟩
abbrev yB : ByteArray := jdk_42_method_149_code
theorem d0 : decode yB 0 = .ok (.aload_n 0, 1) := by decide +kernel
theorem d1 : decode yB 1 = .ok (.invokespecial 1, 3) := by decide +kernel
theorem d4 : decode yB 4 = .ok (.iload_n 3, 1) := by decide +kernel
theorem d5 : decode yB 5 = .ok (.ifCond (.ne) 22, 3) := by decide +kernel
theorem d27 : decode yB 27 = .ok (.getstatic 38, 3) := by decide +kernel
theorem d30 : decode yB 30 = .ok (.ifCond (.eq) 28, 3) := by decide +kernel
theorem d33 : decode yB 33 = .ok (.aload_n 1, 1) := by decide +kernel
theorem d34 : decode yB 34 = .ok (.iload_n 2, 1) := by decide +kernel
theorem d35 : decode yB 35 = .ok (.iload_n 3, 1) := by decide +kernel
theorem d36 : decode yB 36 = .ok (.invokestatic 177, 3) := by decide +kernel
theorem d39 : decode yB 39 = .ok (.astore 5, 2) := by decide +kernel
theorem d41 : decode yB 41 = .ok (.aload_n 0, 1) := by decide +kernel
theorem d42 : decode yB 42 = .ok (.aload 5, 2) := by decide +kernel
theorem d44 : decode yB 44 = .ok (.iload_n 3, 1) := by decide +kernel
theorem d45 : decode yB 45 = .ok (.invokestatic 47, 3) := by decide +kernel
theorem d48 : decode yB 48 = .ok (.putfield 15, 3) := by decide +kernel
theorem d51 : decode yB 51 = .ok (.aload_n 0, 1) := by decide +kernel
theorem d52 : decode yB 52 = .ok (.aload 5, 2) := by decide +kernel
theorem d54 : decode yB 54 = .ok (.putfield 9, 3) := by decide +kernel
theorem d57 : decode yB 57 = .ok (.return_, 1) := by decide +kernel
def site : List Cond := [.fieldLink "java/lang/String" 38 "java/lang/String" "COMPACT_STRINGS" "Z", Cmp3.tab, CodL.tab, .laysFinal "java/lang/String" "java/lang/String" "value" "[B", .fieldLink "java/lang/String" 9 "java/lang/String" "value" "[B", .laysFinal "java/lang/String" "java/lang/String" "coder" "B", .fieldLink "java/lang/String" 15 "java/lang/String" "coder" "B"] ++ objW "java/lang/String" 1 ++ staticW "java/lang/String" 177 Cmp3.yN ++ staticW "java/lang/String" 47 CodL.yN
def tab : Cond := tabOf yN yB 6 none site
def P (a : Addr) (D : Cell) (fV fC : Field) (b : Addr) (A : Cell) (z : Int32) (o len : Nat) (args : Array Value) (s : State) : Prop := args = #[.ref a, .ref b, .int (Int32.ofNat o), .int (Int32.ofNat len), .null] ∧ Blank "java/lang/String" a D s ∧ Found "java/lang/String" "value" "[B" fV s ∧ Found "java/lang/String" "coder" "B" fC s ∧ Ch b A s ∧ StaticIs s "java/lang/String" "COMPACT_STRINGS" "Z" (.int z) ∧ ¬ z = 0 ∧ 0 < len ∧ o + len ≤ A.slots.size ∧ len ≤ 536870912 ∧ ∀ i, i < len → ¬ 255 < cv A (o + i)
def E (a : Addr) (D : Cell) (fV fC : Field) (A : Cell) (o len : Nat) (r : Option Value) (s u : State) : Prop := Got a D fV fC A o len r s u
/-- len > 0, no char of the range above 255: a Latin-1 String of their low bytes -/
theorem law (l : Launch) (a : Addr) (D : Cell) (fV fC : Field) (b : Addr) (A : Cell) (z : Int32) (o len : Nat) : Law l yN 5 4 2 35 yB 6 none site (P a D fV fC b A z o len) (E a D fV fC A o len) [⟨a, fC.slot⟩, ⟨a, fV.slot⟩] 1 len := by
  refine Law.of_walk (plainFor_of_name (by decide +kernel)) (by decide +kernel) (by decide +kernel) (by decide) (fun _ _ h => by rw [h.1]; rfl) (fun _ U U' hal hh h => ⟨h.1, h.2.1.mv hal hh, h.2.2.1.al hal, h.2.2.2.1.al hal, h.2.2.2.2.1.mv hal hh, h.2.2.2.2.2.1.there hal hh, h.2.2.2.2.2.2⟩) (fun r U U' V V' h1 hal h2 h => Got.mv r U U' V V' h1 hal h2 h) ?_
  intro p e s m args below meth c s₁ X0 hexec hbytes hml hret hlk hnm hown hh0 W hP
  obtain ⟨rfl, hB, f1, f2, hA, s1, hz, l0, l1, l2, hp⟩ := hP
  have a31 := hA.1.2.2.2
  have c1 : Steps p.tables e below (s₁.setTop (entryFrame m #[.ref a, .ref b, .int (Int32.ofNat o), .int (Int32.ofNat len), .null] 6)) (s₁.setTop (mkF m 0 #[.val (.ref a), .val (.ref b), .val (.int (Int32.ofNat o)), .val (.int (Int32.ofNat len)), .val .null, .unset] [])) := entry rfl
  have c2 : Steps p.tables e below (s₁.setTop (entryFrame m #[.ref a, .ref b, .int (Int32.ofNat o), .int (Int32.ofNat len), .null] 6)) (s₁.setTop (mkF m 1 #[.val (.ref a), .val (.ref b), .val (.int (Int32.ofNat o)), .val (.int (Int32.ofNat len)), .val .null, .unset] [.ref a])) := c1.trans (by
    refine XS.aloadN X0.here hexec rfl (hb hbytes d0) rfl rfl ?_
    exact Steps.refl _)
  obtain ⟨T3, X3, q3, st3⟩ := X0.oinit hexec hown (wks W (objW "java/lang/String" 1)) (g := (mkF m 1 #[.val (.ref a), .val (.ref b), .val (.int (Int32.ofNat o)), .val (.int (Int32.ofNat len)), .val .null, .unset] [.ref a])) rfl (by rw [hml]; rfl) (rest := []) rfl (hb hbytes d1) (W := 0) (by show 2 * 0 + 0 ≤ _; decide) (Nat.le_of_ble_eq_true rfl) (Nat.le_of_ble_eq_true rfl)
  have hh3 := q3.trans hh0
  have c4 : Steps p.tables e below (s₁.setTop (entryFrame m #[.ref a, .ref b, .int (Int32.ofNat o), .int (Int32.ofNat len), .null] 6)) (T3.setTop (mkF m 27 #[.val (.ref a), .val (.ref b), .val (.int (Int32.ofNat o)), .val (.int (Int32.ofNat len)), .val .null, .unset] [])) := (c2.trans (st3 _ (Steps.refl _))).trans (by
    refine XS.iloadN X3.here hexec rfl (hb hbytes d4) rfl ?_
    refine XS.ifYes X3.here hexec rfl (pc0 := 5) rfl (hb hbytes d5) rfl (i0_ne_t (nz32 (by omega) l0)) (by decide) rfl ?_
    exact Steps.refl _)
  obtain ⟨T5, X5, q5, st5⟩ := X3.sget hexec hown (wk W (.fieldLink "java/lang/String" 38 "java/lang/String" "COMPACT_STRINGS" "Z")) s1 (fun _ _ h => by rw [hh3]; exact h) (g := (mkF m 27 #[.val (.ref a), .val (.ref b), .val (.int (Int32.ofNat o)), .val (.int (Int32.ofNat len)), .val .null, .unset] [])) rfl (hb hbytes d27)
  have hh5 := q5.trans hh3
  have c6 : Steps p.tables e below (s₁.setTop (entryFrame m #[.ref a, .ref b, .int (Int32.ofNat o), .int (Int32.ofNat len), .null] 6)) (T5.setTop (mkF m 30 #[.val (.ref a), .val (.ref b), .val (.int (Int32.ofNat o)), .val (.int (Int32.ofNat len)), .val .null, .unset] [.int z])) := c4.trans (st5 _ (Steps.refl _))
  have c7 : Steps p.tables e below (s₁.setTop (entryFrame m #[.ref a, .ref b, .int (Int32.ofNat o), .int (Int32.ofNat len), .null] 6)) (T5.setTop (mkF m 36 #[.val (.ref a), .val (.ref b), .val (.int (Int32.ofNat o)), .val (.int (Int32.ofNat len)), .val .null, .unset] [.int (Int32.ofNat len), .int (Int32.ofNat o), .ref b])) := c6.trans (by
    refine XS.ifNo X5.here hexec rfl (hb hbytes d30) rfl (i0_eq_f hz) ?_
    refine XS.aloadN X5.here hexec rfl (hb hbytes d33) rfl rfl ?_
    refine XS.iloadN X5.here hexec rfl (hb hbytes d34) rfl ?_
    refine XS.iloadN X5.here hexec rfl (hb hbytes d35) rfl ?_
    exact Steps.refl _)
  obtain ⟨v8, T8, X8, E8, g8⟩ := X5.callS hexec (Cmp3.law l b A o len) hown (wks W (staticW "java/lang/String" 177 Cmp3.yN)) (wk W Cmp3.tab) (W := 0) (Nat.le_of_ble_eq_true rfl) (Nat.le_of_ble_eq_true rfl) (Nat.le_refl _) (by show 0 + len ≤ len; omega) (g := (mkF m 36 #[.val (.ref a), .val (.ref b), .val (.int (Int32.ofNat o)), .val (.int (Int32.ofNat len)), .val .null, .unset] [.int (Int32.ofNat len), .int (Int32.ofNat o), .ref b])) rfl (by rw [hml]; rfl) c7 (argsL := [.ref b, .int (Int32.ofNat o), .int (Int32.ofNat len)]) (rest := []) rfl rfl (by show 2 * 0 + 0 ≤ _; decide) (hb hbytes d36) (⟨rfl, hA.mv X5.warmed.alike hh5, l1, l2, hp⟩)
  obtain ⟨e8, z8⟩ := E8
  obtain ⟨rfl, N, n1, n2, n3, n4, n5, n6⟩ := NewArr.mv _ T5 s _ _ hh5.symm (Vm.Alike.refl _) rfl e8
  rw [hh5] at z8
  have hB1 := hB.keep X8.warmed.alike (n6 _ _ hB.1)
  have hne : s.heap.size ≠ a := (Nat.ne_of_lt (Array.getElem?_eq_some_iff.mp hB.1).1).symm
  have c9 : Steps p.tables e below (s₁.setTop (entryFrame m #[.ref a, .ref b, .int (Int32.ofNat o), .int (Int32.ofNat len), .null] 6)) (T8.setTop (mkF m 39 #[.val (.ref a), .val (.ref b), .val (.int (Int32.ofNat o)), .val (.int (Int32.ofNat len)), .val .null, .unset] [.ref s.heap.size])) := g8
  have c10 : Steps p.tables e below (s₁.setTop (entryFrame m #[.ref a, .ref b, .int (Int32.ofNat o), .int (Int32.ofNat len), .null] 6)) (T8.setTop (mkF m 45 #[.val (.ref a), .val (.ref b), .val (.int (Int32.ofNat o)), .val (.int (Int32.ofNat len)), .val .null, .val (.ref s.heap.size)] [.int (Int32.ofNat N.slots.size), .ref s.heap.size, .ref a])) := by
    have hc : Steps p.tables e below (s₁.setTop (entryFrame m #[.ref a, .ref b, .int (Int32.ofNat o), .int (Int32.ofNat len), .null] 6)) (T8.setTop (mkF m 45 #[.val (.ref a), .val (.ref b), .val (.int (Int32.ofNat o)), .val (.int (Int32.ofNat len)), .val .null, .val (.ref s.heap.size)] [.int (Int32.ofNat len), .ref s.heap.size, .ref a])) := c9.trans (by
      refine XS.astore X8.here hexec rfl (hb hbytes d39) rfl rfl rfl ?_
      refine XS.aloadN X8.here hexec rfl (hb hbytes d41) rfl rfl ?_
      refine XS.aload X8.here hexec rfl (hb hbytes d42) rfl rfl ?_
      refine XS.iloadN X8.here hexec rfl (hb hbytes d44) rfl ?_
      exact Steps.refl _)
    rw [n4]; exact hc
  obtain ⟨v11, T11, X11, E11, g11⟩ := X8.callS hexec (CodL.law l s.heap.size N) hown (wks W (staticW "java/lang/String" 47 CodL.yN)) (wk W CodL.tab) (W := 1) (Nat.le_of_ble_eq_true rfl) (Nat.le_of_ble_eq_true rfl) (Nat.le_refl _) (by show 0 + len + 0 ≤ len; omega) (g := (mkF m 45 #[.val (.ref a), .val (.ref b), .val (.int (Int32.ofNat o)), .val (.int (Int32.ofNat len)), .val .null, .val (.ref s.heap.size)] [.int (Int32.ofNat N.slots.size), .ref s.heap.size, .ref a])) rfl (by rw [hml]; rfl) c10 (argsL := [.ref s.heap.size, .int (Int32.ofNat N.slots.size)]) (rest := [.ref a]) rfl rfl (by show 2 * 0 + (1 + 0) ≤ _; decide) (hb hbytes d45) (⟨rfl, n1⟩)
  obtain ⟨rfl, q11⟩ := E11
  have hB11 := hB1.mv (X8.warmed.alike.symm.trans X11.warmed.alike) q11
  have c12 : Steps p.tables e below (s₁.setTop (entryFrame m #[.ref a, .ref b, .int (Int32.ofNat o), .int (Int32.ofNat len), .null] 6)) (T11.setTop (mkF m 48 #[.val (.ref a), .val (.ref b), .val (.int (Int32.ofNat o)), .val (.int (Int32.ofNat len)), .val .null, .val (.ref s.heap.size)] [.int 0, .ref a])) := g11
  obtain ⟨T13, X13, p13, bl13, sl13, st13⟩ := X11.finit hexec hown (wk W (.fieldLink "java/lang/String" 15 "java/lang/String" "coder" "B")) (Or.inr ⟨_, (wk W (.laysFinal "java/lang/String" "java/lang/String" "coder" "B"))⟩) (Or.inl ⟨rfl, hnm⟩) f2 (Or.inl rfl) hB11 (t := .byte) (by decide +kernel) rfl (g := (mkF m 48 #[.val (.ref a), .val (.ref b), .val (.int (Int32.ofNat o)), .val (.int (Int32.ofNat len)), .val .null, .val (.ref s.heap.size)] [.int 0, .ref a])) rfl (rest := []) rfl (hb hbytes d48)
  have c14 : Steps p.tables e below (s₁.setTop (entryFrame m #[.ref a, .ref b, .int (Int32.ofNat o), .int (Int32.ofNat len), .null] 6)) (T13.setTop (mkF m 54 #[.val (.ref a), .val (.ref b), .val (.int (Int32.ofNat o)), .val (.int (Int32.ofNat len)), .val .null, .val (.ref s.heap.size)] [.ref s.heap.size, .ref a])) := (c12.trans (st13 _ (Steps.refl _))).trans (by
    refine XS.aloadN X13.here hexec rfl (hb hbytes d51) rfl rfl ?_
    refine XS.aload X13.here hexec rfl (hb hbytes d52) rfl rfl ?_
    exact Steps.refl _)
  obtain ⟨T15, X15, p15, bl15, sl15, st15⟩ := X13.finit hexec hown (wk W (.fieldLink "java/lang/String" 9 "java/lang/String" "value" "[B")) (Or.inr ⟨_, (wk W (.laysFinal "java/lang/String" "java/lang/String" "value" "[B"))⟩) (Or.inl ⟨rfl, hnm⟩) f1 (Or.inl rfl) bl13 (t := (.array .byte)) (by decide +kernel) rfl (g := (mkF m 54 #[.val (.ref a), .val (.ref b), .val (.int (Int32.ofNat o)), .val (.int (Int32.ofNat len)), .val .null, .val (.ref s.heap.size)] [.ref s.heap.size, .ref a])) rfl (rest := []) rfl (hb hbytes d54)
  have c16 : Steps p.tables e below (s₁.setTop (entryFrame m #[.ref a, .ref b, .int (Int32.ofNat o), .int (Int32.ofNat len), .null] 6)) (T15.setTop (mkF m 57 #[.val (.ref a), .val (.ref b), .val (.int (Int32.ofNat o)), .val (.int (Int32.ofNat len)), .val .null, .val (.ref s.heap.size)] [])) := c14.trans (st15 _ (Steps.refl _))
  have ap := apart (Or.inr ⟨_, (wk W (.laysFinal "java/lang/String" "java/lang/String" "value" "[B"))⟩) (Or.inr ⟨_, (wk W (.laysFinal "java/lang/String" "java/lang/String" "coder" "B"))⟩) f1 f2 (t₁ := .array .byte) (t₂ := .byte) (by decide +kernel) (by decide +kernel) (by decide)
  have al := X8.warmed.alike.symm.trans X15.warmed.alike
  have n7 : T11.heap[s.heap.size]? = some N := by rw [q11]; exact n1.1
  exact ⟨T15, none, _, _, _, X15, by simp, rfl, by omega, (fun _ => rfl), ⟨rfl, _, N, bl15, ((Same.refl D _).set _ (by simp)).set _ (by simp), sl15, (Cell.slots_setSlot_ne _ ap).trans sl13, n1.keep al (p15.other hne (p13.other hne n7)), n2, by rw [al.findClass]; exact n3, n4, n5, fun y c h1 h2 => p15.other h1 (p13.other h1 (by rw [q11]; exact n6 y c h2)), by rw [p15.2.2, p13.2.2, q11]; exact z8⟩, fun fs hl => c16.trans (X15.returnOut hexec hret (hb hbytes d57) hl)⟩
end New4
namespace New1
def yN : MethodName := ⟨"java/lang/String", "<init>", "([C)V"⟩
abbrev yB : ByteArray := jdk_42_method_3_code
theorem d0 : decode yB 0 = .ok (.aload_n 0, 1) := by decide +kernel
theorem d1 : decode yB 1 = .ok (.aload_n 1, 1) := by decide +kernel
theorem d2 : decode yB 2 = .ok (.iconst 0, 1) := by decide +kernel
theorem d3 : decode yB 3 = .ok (.aload_n 1, 1) := by decide +kernel
theorem d4 : decode yB 4 = .ok (.arraylength, 1) := by decide +kernel
theorem d5 : decode yB 5 = .ok (.aconst_null, 1) := by decide +kernel
theorem d6 : decode yB 6 = .ok (.invokespecial 27, 3) := by decide +kernel
theorem d9 : decode yB 9 = .ok (.return_, 1) := by decide +kernel
def site : List Cond := [New4.tab] ++ initW "java/lang/String" 27 New4.yN
def tab : Cond := tabOf yN yB 2 none site
def P (a : Addr) (D : Cell) (fV fC : Field) (b : Addr) (A : Cell) (z : Int32) (args : Array Value) (s : State) : Prop := args = #[.ref a, .ref b] ∧ Blank "java/lang/String" a D s ∧ Found "java/lang/String" "value" "[B" fV s ∧ Found "java/lang/String" "coder" "B" fC s ∧ Ch b A s ∧ StaticIs s "java/lang/String" "COMPACT_STRINGS" "Z" (.int z) ∧ ¬ z = 0 ∧ 0 < A.slots.size ∧ A.slots.size ≤ 536870912 ∧ ∀ i, i < A.slots.size → ¬ 255 < cv A i
def E (a : Addr) (D : Cell) (fV fC : Field) (A : Cell) (r : Option Value) (s u : State) : Prop := Got a D fV fC A 0 A.slots.size r s u
/-- new String(chars), not empty, no char above 255: a Latin-1 String of their low bytes -/
theorem law (l : Launch) (a : Addr) (D : Cell) (fV fC : Field) (b : Addr) (A : Cell) (z : Int32) : Law l yN 2 1 3 52 yB 2 none site (P a D fV fC b A z) (E a D fV fC A) [⟨a, fC.slot⟩, ⟨a, fV.slot⟩] 1 A.slots.size := by
  refine Law.of_walk (plainFor_of_name (by decide +kernel)) (by decide +kernel) (by decide +kernel) (by decide) (fun _ _ h => by rw [h.1]; rfl) (fun _ U U' hal hh h => ⟨h.1, h.2.1.mv hal hh, h.2.2.1.al hal, h.2.2.2.1.al hal, h.2.2.2.2.1.mv hal hh, h.2.2.2.2.2.1.there hal hh, h.2.2.2.2.2.2⟩) (fun r U U' V V' h1 hal h2 h => Got.mv r U U' V V' h1 hal h2 h) ?_
  intro p e s m args below meth c s₁ X0 hexec hbytes hml hret hlk hnm hown hh0 W hP
  obtain ⟨rfl, hB, f1, f2, hA, s1, hz, l0, l2, hp⟩ := hP
  have c1 : Steps p.tables e below (s₁.setTop (entryFrame m #[.ref a, .ref b] 2)) (s₁.setTop (mkF m 0 #[.val (.ref a), .val (.ref b)] [])) := entry rfl
  have c2 : Steps p.tables e below (s₁.setTop (entryFrame m #[.ref a, .ref b] 2)) (s₁.setTop (mkF m 6 #[.val (.ref a), .val (.ref b)] [.null, .int (Int32.ofNat A.slots.size), .int 0, .ref b, .ref a])) := c1.trans (by
    refine XS.aloadN X0.here hexec rfl (hb hbytes d0) rfl rfl ?_
    refine XS.aloadN X0.here hexec rfl (hb hbytes d1) rfl rfl ?_
    refine iconstV X0.here hexec rfl 0 (hb hbytes d2) (by decide) ?_
    refine XS.aloadN X0.here hexec rfl (hb hbytes d3) rfl rfl ?_
    refine X0.alen hexec (hA.1.mv X0.warmed.alike hh0) rfl rfl (hb hbytes d4) ?_
    refine XS.aconstNull X0.here hexec rfl (hb hbytes d5) ?_
    exact Steps.refl _)
  obtain ⟨v3, T3, X3, E3, g3⟩ := X0.callN hexec (New4.law l a D fV fC b A z 0 A.slots.size) rfl hown (wks W (initW "java/lang/String" 27 New4.yN)) (W New4.tab (by simp only [site, List.mem_cons, List.mem_append, true_or, or_true])) (W := 0) (Nat.le_of_ble_eq_true rfl) (Nat.le_of_ble_eq_true rfl) (Nat.le_refl _) (by show 0 + A.slots.size ≤ A.slots.size; omega) (g := (mkF m 6 #[.val (.ref a), .val (.ref b)] [.null, .int (Int32.ofNat A.slots.size), .int (Int32.ofNat 0), .ref b, .ref a])) rfl (by rw [hml]; rfl) c2 (argsL := [.ref b, .int (Int32.ofNat 0), .int (Int32.ofNat A.slots.size), .null]) (rest := []) rfl rfl (by show 2 * 0 + 0 ≤ _; decide) (hb hbytes d6) (⟨rfl, hB.mv X0.warmed.alike hh0, f1.al X0.warmed.alike, f2.al X0.warmed.alike, hA.mv X0.warmed.alike hh0, s1.there X0.warmed.alike hh0, hz, l0, by omega, l2, fun i hi => by rw [Nat.zero_add]; exact hp i hi⟩)
  have e0 := Got.mv _ s₁ s _ _ hh0.symm (Vm.Alike.refl _) rfl E3
  obtain rfl := e0.1
  have c4 : Steps p.tables e below (s₁.setTop (entryFrame m #[.ref a, .ref b] 2)) (T3.setTop (mkF m 9 #[.val (.ref a), .val (.ref b)] [])) := g3
  exact ⟨T3, none, _, _, _, X3, by simp, rfl, by omega, (fun _ => rfl), e0, fun fs hl => c4.trans (X3.returnOut hexec hret (hb hbytes d9) hl)⟩
theorem pays {l : Launch} {R : Room} {p : Program} {e : Env} {below : List Frame} {s : State} {sargs : Array Value} {len W : Nat} (a : Addr) (D : Cell) (fV fC : Field) (b : Addr) (A : Cell) (z : Int32) (htab : tab.before sargs s = true) (hfr : 4 ≤ R.frames) (hlo : W + 65 ≤ R.locals) :
    Back l R p e below s sargs yN len W (fun A₁ a₁ => A₁.cells + 1 ≤ R.cells ∧ A₁.slots + A.slots.size ≤ R.slots ∧ P a D fV fC b A z a₁ A₁.U) (fun A₁ _ v₁ B₁ => E a D fV fC A v₁ A₁.U B₁.U ∧ B₁.locs = A₁.locs ++ [⟨a, fC.slot⟩, ⟨a, fV.slot⟩] ∧ B₁.cells = A₁.cells + 1 ∧ B₁.slots = A₁.slots + A.slots.size) :=
  (law l a D fV fC b A z).pays htab hfr (by omega)
end New1
/-- the byte, read back as charAt reads it, is the char -/
theorem lo8_mask {x : Int32} (h0 : ¬ x < 0) (h1 : ¬ 255 < x) : lo8 x &&& 255 = x := by
  have t : ∀ k : Fin 256, lo8 (Int32.ofNat k.val) &&& 255 = Int32.ofNat k.val := by decide +kernel
  rw [Int32.lt_iff_toInt_lt] at h0 h1
  have e0 : (0 : Int32).toInt = 0 := rfl
  have e1 : (255 : Int32).toInt = 255 := rfl
  obtain ⟨k, hk⟩ : ∃ k : Nat, x.toInt = k := ⟨x.toInt.toNat, by omega⟩
  have hx : x = Int32.ofNat k := Int32.toInt_inj.mp (by rw [hk, Int32.toInt_ofNat_small (by omega)])
  rw [hx]
  exact t ⟨k, by omega⟩
end StrChars
namespace StrChars.Road
open Jvm Sem ClassFile Op Lib Jvm.Stand Jvm.Free Jvm.Free.XT
open Jvm.Lib.Cold (StaticIs)
abbrev ST : String := "java/lang/String"
/-- every table word that New1's law asks, flat -/
abbrev words : List Jvm.Cond := [.code New1.yN New1.yB 2 none, .initialized ST, .methodLink ST 27 New4.yN, .instanceMethod New4.yN,
  .code New4.yN New4.yB 6 none, .fieldLink ST 38 ST "COMPACT_STRINGS" "Z", .laysFinal ST ST "value" "[B", .fieldLink ST 9 ST "value" "[B", .laysFinal ST ST "coder" "B", .fieldLink ST 15 ST "coder" "B",
  .methodLink ST 1 Lib.objectInit, .instanceMethod Lib.objectInit, .code Lib.objectInit ⟨#[0xb1]⟩ 1 none, .methodLink ST 177 Cmp3.yN, .static Cmp3.yN, .methodLink ST 47 CodL.yN, .static CodL.yN,
  .code Cmp3.yN Cmp3.yB 6 (some (.array .byte)), .initialized U16, .arrayClass .byte, .methodLink U16 115 Cmp5.yN, .static Cmp5.yN, .code Cmp5.yN Cmp5.yB 7 (some .int), .code CodL.yN CodL.yB 2 (some .byte)]
theorem tab_of {a : Array Value} {s : State} (h : ∀ w ∈ words, w.before a s = true) : New1.tab.before a s = true := by
  have h5 : Cmp5.tab.before a s = true := unparts (wk h (.code Cmp5.yN Cmp5.yB 7 (some .int))) (wks h (.initialized Cmp5.yN.cls :: Cmp5.site))
  have hc : CodL.tab.before a s = true := unparts (wk h (.code CodL.yN CodL.yB 2 (some .byte))) (wks h (.initialized CodL.yN.cls :: CodL.site))
  have q5 : ∀ w ∈ Cmp5.tab :: words, w.before a s = true := fun w hw => (List.mem_cons.mp hw).elim (fun e => e ▸ h5) (h w)
  have h3 : Cmp3.tab.before a s = true := unparts (wk q5 (.code Cmp3.yN Cmp3.yB 6 (some (.array .byte)))) (wks q5 (.initialized Cmp3.yN.cls :: Cmp3.site))
  have q3 : ∀ w ∈ Cmp3.tab :: CodL.tab :: words, w.before a s = true := fun w hw => (List.mem_cons.mp hw).elim (fun e => e ▸ h3) fun hw => (List.mem_cons.mp hw).elim (fun e => e ▸ hc) (h w)
  have h4 : New4.tab.before a s = true := unparts (wk q3 (.code New4.yN New4.yB 6 none)) (wks q3 (.initialized New4.yN.cls :: New4.site))
  have q4 : ∀ w ∈ New4.tab :: words, w.before a s = true := fun w hw => (List.mem_cons.mp hw).elim (fun e => e ▸ h4) (h w)
  exact unparts (wk q4 (.code New1.yN New1.yB 2 none)) (wks q4 (.initialized New1.yN.cls :: New1.site))
/-- the words ride from the start Z to the walk's own state -/
theorem moved {Z s : State} {a0 args : Array Value} (hZ : Z.Warmed39 s.vm) (hw : ∀ d ∈ words, d.before a0 Z = true) : ∀ d ∈ words, d.before args s = true := fun d hd => by
  have q := hw d hd
  have t : ∀ d ∈ words, d = .arrayClass .byte ∨ (d.onTables && d.keepsFace) = true := by decide +kernel
  rcases t d hd with rfl | t
  · exact RoadKit.mvA hZ q
  · exact RoadKit.mv hZ q t
/-- WHAT COMES BACK, over the tables of the start Z: h the heap at the call, h' behind it -/
def Q (Z : State) (x : Addr) (A : Cell) (h : Heap) (v : Option Value) (h' : Heap) (L : List Loc) : Prop := v = none ∧ (∀ y ∈ L, y.base = x) ∧ RoadKit.Keep h h' [x] ∧ h'.size = h.size + 1 ∧ RoadKit.Exa Z h' x ST ∧ RoadKit.Fld Z h' x ST "value" "[B" (.ref h.size) ∧ RoadKit.Fld Z h' x ST "coder" "B" (.int 0) ∧
  (∃ V : Cell, RoadKit.Arr Z h' h.size V .byte ∧ V.vm = .none ∧ Z.vm.findClass "[B" = some V.cls ∧ V.slots.size = A.slots.size ∧ ∀ j, j < A.slots.size → V.slots[j]? = some (.int (lo8 (cv A j)))) ∧
  ∀ (O n d : String) (w : Value), RoadKit.Fld Z h x O n d w → RoadKit.slotOf Z O n d ≠ RoadKit.slotOf Z ST "value" "[B" → RoadKit.slotOf Z O n d ≠ RoadKit.slotOf Z ST "coder" "B" → RoadKit.Fld Z h' x O n d w
/-- **new String(chars) AT A CALL, IN THE ROAD'S FORM**: for specialBack behind newO: x the fresh String, b the char[] with the cell A -/
theorem back {p : Program} {l : Launch} {e : Env} {R : Room} {s : State} {args : Array Value} {below : List Frame} {len W : Nat} {Z : State} {a0 : Array Value} {h : Heap} (hZ : Z.Warmed39 s.vm) (hw : ∀ d ∈ words, d.before a0 Z = true) {kI : Nat} (wi : (Jvm.Cond.instantiable ST kI).before a0 Z = true)
    {x b : Addr} {A : Cell} {z : Int32} {v0 c0 : Value} (E : RoadKit.Exa Z h x ST) (V : RoadKit.Fld Z h x ST "value" "[B" v0) (C : RoadKit.Fld Z h x ST "coder" "B" c0) (K : RoadKit.Arr Z h b A .char) (hty : Typed .char A) (S : RoadKit.Sta Z h ST "COMPACT_STRINGS" "Z" (.int z)) (hz : ¬ z = 0)
    (l0 : 0 < A.slots.size) (l2 : A.slots.size ≤ 536870912) (hp : ∀ i, i < A.slots.size → ¬ 255 < cv A i) (hfr : 4 ≤ R.frames) (hlo : W + 65 ≤ R.locals) :
    Back l R p e below s args New1.yN len W (fun P a => a = #[.ref x, .ref b] ∧ P.U.heap = h ∧ P.cells + 1 ≤ R.cells ∧ P.slots + A.slots.size ≤ R.slots)
      (fun P _ v B => ∃ L, Q Z x A h v B.U.heap L ∧ B.locs = P.locs ++ L ∧ B.cells = P.cells + 1 ∧ B.slots = P.slots + A.slots.size) := by
  intro m meth c P g ig mk a X hg hsize hdg hW hn hp'
  obtain ⟨rfl, rfl, r1, r2⟩ := hp'
  have al : Z.vm.Alike P.U.vm := hZ.alike.trans X.warmed.alike
  obtain ⟨D, cfV, kV, iV, fV, hD, gV, stV, knV, obV, asV, slV⟩ := id V
  obtain ⟨D', cfC, kC, iC, fC, hD', gC, stC, -, -, asC, slC⟩ := id C
  cases hD.symm.trans hD'
  obtain ⟨D2, kD, e1, e2, e3, e4, e5⟩ := id E
  cases hD.symm.trans e1
  obtain ⟨c2, k2, i1, i2, i3, -⟩ := Cond.instantiable_spec wi
  cases e2.symm.trans i1
  cases e3.symm.trans i2
  obtain ⟨kU, u1, u2⟩ := al.2.2 _ _ e3
  have hB : Blank ST x D P.U := ⟨hD, ⟨knV, fun q hq => by rw [hq] at obV; cases obV⟩, by rw [al.findClass]; exact e2, kU, u1, by rw [u2]; exact i3, by rw [u2]; exact e5 i3⟩
  have F1 : Found ST "value" "[B" fV P.U := ⟨SBG.found_only al ⟨cfV, kV, iV, gV⟩, stV⟩
  have F2 : Found ST "coder" "B" fC P.U := ⟨SBG.found_only al ⟨cfC, kC, iC, gC⟩, stC⟩
  have hA : Ch b A P.U := ⟨⟨K.1, State.isArrayOf_alike al K.2.1, K.2.2, by omega⟩, hty⟩
  have hS : StaticIs P.U ST "COMPACT_STRINGS" "Z" (.int z) := by
    obtain ⟨cfS, iS, kS, fS, st, cS, t1, t2, t3, t4, t5, t6, t7⟩ := S
    exact StaticIs.there (s := { Z with heap := P.U.heap }) ⟨cfS, iS, kS, fS, st, cS, t1, t2, t3, t4, t5, (fun q => by rw [q] at t6; cases t6), t7⟩ al rfl
  obtain ⟨v, B, X', ⟨⟨hv, E', V', q1, q2, q3, q4, q5, q6, q7, q8, q9, q10, q11⟩, hl, hc, hs⟩, st⟩ := New1.pays x D fV fC b A z (tab_of (moved hZ hw)) hfr hlo m meth c P g ig mk _ X hg hsize hdg hW hn ⟨r1, r2, rfl, hB, F1, F2, hA, hS, hz, l0, l2, hp⟩
  have al' : Z.vm.Alike B.U.vm := hZ.alike.trans X'.warmed.alike
  have hsz : E'.slots.size = D.slots.size := by
    obtain ⟨-, -, -, kB, w1, w2, w3⟩ := q1
    obtain ⟨kB', y1, y2⟩ := al'.2.2 _ _ e3
    rw [q2.2.1] at w1
    cases w1.symm.trans y1
    rw [w3, e5 i3, y2]
  refine ⟨v, B, X', ⟨_, ⟨hv, ?_, ⟨by omega, fun y cy hy hn' => q10 y cy (by simpa using hn') hy, fun y cy hy => ?_⟩, q11, ⟨E', _, q1.1, by rw [q2.2.1]; exact e2, by rw [q2.2.1]; exact e3, by rw [q2.1]; exact obV, fun _ => by rw [hsz]; exact e5 i3⟩,
    ⟨E', cfV, kV, iV, fV, q1.1, gV, stV, by rw [q2.1]; exact knV, by rw [q2.1]; exact obV, by rw [q2.2.1]; exact asV, q3⟩, ⟨E', cfC, kC, iC, fC, q1.1, gC, stC, by rw [q2.1]; exact knV, by rw [q2.1]; exact obV, by rw [q2.2.1]; exact asC, q4⟩,
    ⟨V', ⟨q5.1, State.isArrayOf_alike al'.symm q5.2.1, q5.2.2.1⟩, q6, by rw [← al'.findClass]; exact q7, q8, fun j hj => by have := q9 j hj; rwa [Nat.zero_add] at this⟩, fun O n d w F n1 n2 => ?_⟩, hl, hc, hs⟩, st⟩
  · intro y hy
    simp only [List.mem_cons, List.not_mem_nil, or_false] at hy
    rcases hy with rfl | rfl <;> rfl
  · by_cases q : y = x
    · subst q
      cases hD.symm.trans hy
      exact ⟨E', q1.1, q2.2.1, q2.1, hsz⟩
    · exact ⟨cy, q10 y cy q hy, rfl, rfl, rfl⟩
  · obtain ⟨D3, cf, k, i, f, g1, g2, g3, g4, g5, g6, g7⟩ := F
    cases hD.symm.trans g1
    simp only [RoadKit.slotOf, g2, gV, gC, Option.map_some, Option.getD_some] at n1 n2
    exact ⟨E', cf, k, i, f, q1.1, g2, g3, by rw [q2.1]; exact g4, by rw [q2.1]; exact g5, by rw [q2.2.1]; exact g6, by rw [q2.2.2 f.slot (by simp [n1, n2])]; exact g7⟩
end StrChars.Road
namespace StrChars.Road
open Jvm Sem ClassFile Op Lib Jvm.Stand Jvm.Free Jvm.Free.XT
/-- WHAT COMES BACK, the byte[] as a list of values -/
def QA (Z : State) (x : Addr) (zn : Int32) (cs : List Int32) (h : Heap) (v : Option Value) (h' : Heap) (L : List Loc) : Prop := v = none ∧ (∀ y ∈ L, y.base = x) ∧ RoadKit.Keep h h' [x] ∧ h'.size = h.size + 1 ∧ RoadKit.Exa Z h' x ST ∧ RoadKit.Fld Z h' x ST "value" "[B" (.ref h.size) ∧ RoadKit.Fld Z h' x ST "coder" "B" (.int 0) ∧
  (∃ kb, Z.vm.findClass "[B" = some kb ∧ RoadKit.Arv Z h' h.size kb .byte zn (cs.map fun c => .int (lo8 c)) (.int 0)) ∧
  ∀ (O n d : String) (w : Value), RoadKit.Fld Z h x O n d w → RoadKit.slotOf Z O n d ≠ RoadKit.slotOf Z ST "value" "[B" → RoadKit.slotOf Z O n d ≠ RoadKit.slotOf Z ST "coder" "B" → RoadKit.Fld Z h' x O n d w
/-- **new String(chars) AT A CALL, THE ARRAYS AS LISTS**: the char[] at b holds cs, not empty, no char above 255 -/
theorem backArv {p : Program} {l : Launch} {e : Env} {R : Room} {s : State} {args : Array Value} {below : List Frame} {len W : Nat} {Z : State} {a0 : Array Value} {h : Heap} (hZ : Z.Warmed39 s.vm) (hw : ∀ d ∈ words, d.before a0 Z = true) {kI : Nat} (wi : (Jvm.Cond.instantiable ST kI).before a0 Z = true)
    {x b : Addr} {k : ClassId} {zn z : Int32} {cs : List Int32} {dv v0 c0 : Value} (E : RoadKit.Exa Z h x ST) (V : RoadKit.Fld Z h x ST "value" "[B" v0) (C : RoadKit.Fld Z h x ST "coder" "B" c0) (K : RoadKit.Arv Z h b k .char zn (cs.map Value.int) dv) (S : RoadKit.Sta Z h ST "COMPACT_STRINGS" "Z" (.int z)) (hz : ¬ z = 0)
    (hlen : zn.toNatClampNeg = cs.length) (h0 : 0 < cs.length) (hbig : cs.length ≤ 536870912) (hall : ∀ c ∈ cs, ¬ 255 < c) (hfr : 4 ≤ R.frames) (hlo : W + 65 ≤ R.locals) :
    Back l R p e below s args New1.yN len W (fun P a => a = #[.ref x, .ref b] ∧ P.U.heap = h ∧ P.cells + 1 ≤ R.cells ∧ P.slots + cs.length ≤ R.slots)
      (fun P _ v B => ∃ L, QA Z x zn cs h v B.U.heap L ∧ B.locs = P.locs ++ L ∧ B.cells = P.cells + 1 ∧ B.slots = P.slots + cs.length) := by
  obtain ⟨A, K1, K2, K3, K4, K5, K6⟩ := K
  have e : A.slots.size = cs.length := K3.trans hlen
  have hat : ∀ (i : Nat) (hi : i < cs.length), A.slots[i]? = some (.int cs[i]) := fun i hi => by rw [K5 i (by omega)]; simp [List.getD_eq_getElem?_getD, hi]
  have hcv : ∀ (i : Nat) (hi : i < cs.length), cv A i = cs[i] := fun i hi => by unfold cv; rw [hat i hi]
  have hty : Typed .char A := fun i v hv => by
    have hi : i < A.slots.size := (Array.getElem?_eq_some_iff.mp hv).1
    have q := K5 i hi
    rw [hv] at q
    rw [Option.some.inj q]
    exact K6 i hi
  refine Back.mono (back hZ hw wi E V C K1 hty S hz (by omega) (by omega) (fun i hi => by rw [hcv i (by omega)]; exact hall _ (List.getElem_mem _)) hfr hlo) (fun P a hp => ⟨hp.1, hp.2.1, hp.2.2.1, by rw [e]; exact hp.2.2.2⟩) (fun P a v B hp hq => ?_)
  obtain ⟨L, ⟨q1, q2, q3, q4, q5, q6, q7, ⟨V', v1, v2, v3, v4, v5⟩, q9⟩, hl, hc, hs⟩ := hq
  refine ⟨L, ⟨q1, q2, q3, q4, q5, q6, q7, ⟨V'.cls, v3, V', v1, rfl, by rw [v4, e, hlen], K4, fun i hi => ?_, fun i hi => ?_⟩, q9⟩, hl, hc, by rw [hs, e]⟩
  · have hi' : i < cs.length := by omega
    rw [v5 i (by omega), hcv i hi']; simp [List.getD_eq_getElem?_getD, hi']
  · have hi' : i < cs.length := by omega
    simp only [List.getD_eq_getElem?_getD, List.getElem?_map, List.getElem?_eq_getElem hi', Option.map_some, Option.getD_some]
    exact fits_lo8 _
end StrChars.Road
namespace StrChars.Road
open Jvm Sem ClassFile Op Lib Jvm.Stand Jvm.Free Jvm.Free.XT
/-- WHAT COMES BACK, in the writer's own shape -/
def QV (Z : State) (x : Addr) (N : Int32) (bs : List Int32) (h : Heap) (n0 : Nat) (v : Option Value) (h' : Heap) (L : List Loc) : Prop := v = none ∧ RoadKit.Fr n0 L ∧ RoadKit.Keep h h' [x] ∧ RoadKit.Exa Z h' x ST ∧ RoadKit.Fld Z h' x ST "coder" "B" (.int 0) ∧
  ∃ (t : Addr) (kb : ClassId), n0 ≤ t ∧ h.size ≤ t ∧ ¬ t = x ∧ RoadKit.Fld Z h' x ST "value" "[B" (.ref t) ∧ RoadKit.Arv Z h' t kb .byte N (bs.map Value.int) (.int 0)
/-- **new String(chars) AT A CALL, FOR THE WRITER**: a char[] of n known ints, each 0 to 255 -/
theorem backV {p : Program} {l : Launch} {e : Env} {R : Room} {s : State} {args : Array Value} {below : List Frame} {len W : Nat} {Z : State} {a0 : Array Value} {h : Heap} (hZ : Z.Warmed39 s.vm) (hw : ∀ d ∈ words, d.before a0 Z = true) {kI : Nat} (wi : (Jvm.Cond.instantiable ST kI).before a0 Z = true)
    {x b : Addr} {kC : ClassId} {cs bs : List Int32} {d v0 c0 : Value} {z N : Int32} {n n0 : Nat} (hx0 : n0 ≤ x) (hh0 : n0 ≤ h.size) (E : RoadKit.Exa Z h x ST) (V : RoadKit.Fld Z h x ST "value" "[B" v0) (C : RoadKit.Fld Z h x ST "coder" "B" c0) (K : RoadKit.Arv Z h b kC .char N (cs.map Value.int) d) (S : RoadKit.Sta Z h ST "COMPACT_STRINGS" "Z" (.int z)) (hz : ¬ z = 0)
    (hn : cs.length = n) (hN : N = Int32.ofNat n) (l0 : 0 < n) (l2 : n ≤ 4000) (hp : ∀ c ∈ cs, ¬ c < 0 ∧ ¬ (255 : Int32) < c) (hb : bs = cs.map (fun c => c.toInt8.toInt32)) (hfr : 4 ≤ R.frames) (hlo : W + 65 ≤ R.locals) :
    Back l R p e below s args (⟨"java/lang/String", "<init>", "([C)V"⟩ : MethodName) len W (fun P a => a = #[.ref x, .ref b] ∧ P.U.heap = h ∧ P.cells + 1 ≤ R.cells ∧ P.slots + n ≤ R.slots)
      (fun P _ v B => ∃ L, QV Z x N bs h n0 v B.U.heap L ∧ B.locs = P.locs ++ L ∧ B.cells = P.cells + 1 ∧ B.slots = P.slots + n) := by
  subst hn hN hb
  refine Back.mono (backArv hZ hw wi E V C K S hz (n32 (by omega)) l0 (by omega) (fun c hc => (hp c hc).2) hfr hlo) (fun P a hp => hp) (fun P a v B hp hq => ?_)
  obtain ⟨L, ⟨q1, q2, q3, q4, q5, q6, q7, ⟨kb, v1, v2⟩, q9⟩, hl, hc, hs⟩ := hq
  exact ⟨L, ⟨q1, fun y hy => by rw [q2 y hy]; exact hx0, q3, q5, q7, h.size, kb, hh0, Nat.le_refl _, Nat.ne_of_gt E.lt, q6, by rw [List.map_map]; exact v2⟩, hl, hc, hs⟩
end StrChars.Road
namespace StrChars
open Jvm Sem ClassFile Op Lib Jvm.Stand Jvm.Free.XT Jvm.Free.ALB Jvm.Free.JM Jvm.Free
open Jvm.Lib.Cold (StaticIs)
def hi8 (x : Int32) : Int32 := lo8 (x >>> ((8 : Int32) &&& 31))
/-- what StringUTF16.getChar makes of two bytes -/
def pairCh (u v : Int32) : Int32 := (((u &&& 255) <<< ((0 : Int32) &&& 31)) ||| ((v &&& 255) <<< ((8 : Int32) &&& 31))).toUInt32.toUInt16.toUInt32.toInt32
theorem shr0 (c : Int32) : c >>> ((0 : Int32) &&& 31) = c := by
  have e : ((0 : Int32) &&& 31) = 0 := by decide
  rw [e]
  apply Int32.toBitVec_inj.mp
  rw [Int32.toBitVec_shiftRight]
  have e1 : ((0 : Int32).toBitVec.smod 32) = 0#32 := by decide
  rw [e1, BitVec.sshiftRight_eq']
  exact BitVec.sshiftRight_zero
theorem lo8_and (x : Int32) : (lo8 x &&& 255).toBitVec.toNat = x.toBitVec.toNat % 256 := by
  have h : (lo8 x).toBitVec = (x.toBitVec.signExtend 8).signExtend 32 := by rw [lo8, Int8.toBitVec_toInt32, Int32.toBitVec_toInt8]
  rw [Int32.toBitVec_and, BitVec.toNat_and, h]
  have e : ((x.toBitVec.signExtend 8).signExtend 32).toNat % 256 = x.toBitVec.toNat % 256 := by
    rw [BitVec.toNat_signExtend]
    have hlt := x.toBitVec.isLt
    simp only [BitVec.toNat_setWidth, BitVec.toNat_signExtend]
    split <;> split <;> omega
  rw [← e]
  exact Nat.and_two_pow_sub_one_eq_mod _ 8
theorem pair_says {c : Int32} (h0 : ¬ c < 0) (h1 : ¬ 65535 < c) : pairCh (lo8 c) (hi8 c) = c := by
  rw [Int32.lt_iff_toInt_lt] at h0 h1
  have e0 : (0 : Int32).toInt = 0 := rfl
  have e1 : (65535 : Int32).toInt = 65535 := rfl
  have hc : c.toInt = c.toBitVec.toNat := by
    have := c.toBitVec.isLt
    have e : c.toInt = c.toBitVec.toInt := rfl
    rw [e] at h0 h1
    rw [e]
    rw [BitVec.toInt_eq_toNat_cond] at h0 h1 ⊢
    split at h0 <;> split <;> omega
  have hn : c.toBitVec.toNat < 65536 := by omega
  have a1 := lo8_and c
  have a2 : (hi8 c &&& 255).toBitVec.toNat = c.toBitVec.toNat / 256 := by
    rw [hi8, lo8_and]
    have e : ((8 : Int32) &&& 31) = 8 := by decide
    rw [e, Int32.toBitVec_shiftRight]
    have e2 : ((8 : Int32).toBitVec.smod 32) = 8#32 := by decide
    rw [e2, BitVec.sshiftRight_eq', BitVec.toNat_sshiftRight_of_msb_false (by rw [BitVec.msb_eq_false_iff_two_mul_lt]; omega)]
    show c.toBitVec.toNat >>> 8 % 256 = _
    rw [Nat.shiftRight_eq_div_pow]
    omega
  unfold pairCh
  apply Int32.toBitVec_inj.mp
  apply BitVec.eq_of_toNat_eq
  have f0 : ((0 : Int32) &&& 31) = 0 := by decide
  have f8 : ((8 : Int32) &&& 31) = 8 := by decide
  rw [f0, f8]
  have g : (((lo8 c &&& 255) <<< (0 : Int32)) ||| ((hi8 c &&& 255) <<< (8 : Int32))).toBitVec.toNat = c.toBitVec.toNat := by
    rw [Int32.toBitVec_or, Int32.toBitVec_shiftLeft, Int32.toBitVec_shiftLeft]
    have s0 : ((0 : Int32).toBitVec.smod 32) = 0#32 := by decide
    have s8 : ((8 : Int32).toBitVec.smod 32) = 8#32 := by decide
    rw [s0, s8, BitVec.toNat_or]
    simp only [BitVec.shiftLeft_eq', BitVec.toNat_shiftLeft, a1, a2]
    show (c.toBitVec.toNat % 256) <<< 0 % 2 ^ 32 ||| (c.toBitVec.toNat / 256) <<< 8 % 2 ^ 32 = _
    rw [Nat.shiftLeft_zero, Nat.mod_eq_of_lt (show c.toBitVec.toNat % 256 < 2 ^ 32 by omega), Nat.mod_eq_of_lt (show (c.toBitVec.toNat / 256) <<< 8 < 2 ^ 32 by rw [Nat.shiftLeft_eq]; omega), Nat.or_comm, ← Nat.shiftLeft_add_eq_or_of_lt (by omega), Nat.shiftLeft_eq]
    omega
  show BitVec.toNat (((((lo8 c &&& 255) <<< (0 : Int32)) ||| ((hi8 c &&& 255) <<< (8 : Int32))).toBitVec.setWidth 16).setWidth 32) = _
  rw [BitVec.toNat_setWidth, BitVec.toNat_setWidth, g]
  omega
end StrChars
namespace StrChars
open Jvm Sem ClassFile Op Lib Jvm.Stand Jvm.Free.XT Jvm.Free.ALB Jvm.Free.JM Jvm.Free
open Jvm.Lib.Cold (StaticIs)
theorem shr1 {n : Nat} (h : 2 * n < 2 ^ 31) : Int32.ofNat (2 * n) >>> ((1 : Int32) &&& 31) = Int32.ofNat n := by
  have e : ((1 : Int32) &&& 31) = 1 := by decide
  rw [e]
  apply Int32.toBitVec_inj.mp
  rw [Int32.toBitVec_shiftRight]
  have e1 : ((1 : Int32).toBitVec.smod 32) = 1#32 := by decide
  have hm : (BitVec.ofNat 32 (2 * n)).toNat = 2 * n := by rw [BitVec.toNat_ofNat, Nat.mod_eq_of_lt (by omega)]
  rw [e1, BitVec.sshiftRight_eq']
  apply BitVec.eq_of_toNat_eq
  show ((BitVec.ofNat 32 (2 * n)).sshiftRight 1).toNat = (BitVec.ofNat 32 n).toNat
  rw [BitVec.toNat_sshiftRight_of_msb_false (by rw [BitVec.msb_eq_false_iff_two_mul_lt, hm]; omega), hm, BitVec.toNat_ofNat, Nat.shiftRight_eq_div_pow]
  omega
/-- charAt's cast of a byte read back -/
def chr8 (u : Int32) : Int32 := (u &&& 255).toUInt32.toUInt16.toUInt32.toInt32
theorem chr8_lo8 {c : Int32} (h0 : ¬ c < 0) (h1 : ¬ 255 < c) : chr8 (lo8 c) = c := by
  have t : ∀ k : Fin 256, (Int32.ofNat k.val).toUInt32.toUInt16.toUInt32.toInt32 = Int32.ofNat k.val := by decide +kernel
  unfold chr8
  rw [lo8_mask h0 h1]
  rw [Int32.lt_iff_toInt_lt] at h0 h1
  have e0 : (0 : Int32).toInt = 0 := rfl
  have e1 : (255 : Int32).toInt = 255 := rfl
  obtain ⟨k, hk⟩ : ∃ k : Nat, c.toInt = k := ⟨c.toInt.toNat, by omega⟩
  have hx : c = Int32.ofNat k := Int32.toInt_inj.mp (by rw [hk, Int32.toInt_ofNat_small (by omega)])
  rw [hx]
  exact t ⟨k, by omega⟩
theorem narrow_ch {c : Int32} (h0 : ¬ c < 0) (h1 : ¬ 65535 < c) : narrow .char (.int c) = .int c := by
  have q : narrow .char (.int (pairCh (lo8 c) (hi8 c))) = .int (pairCh (lo8 c) (hi8 c)) := narrow_c _
  rwa [pair_says h0 h1] at q
/-- the array's cell V codes the n chars f 0 .. f (n - 1) by the coder cd, as the JDK does: coder 1 just where some char is above 255 -/
def Cod (cd : Int32) (n : Nat) (f : Nat → Int32) (V : Cell) : Prop := (cd = 0 ∧ V.slots.size = n ∧ ∀ j, j < n → V.slots[j]? = some (.int (lo8 (f j))) ∧ ¬ 255 < f j) ∨ (cd = 1 ∧ V.slots.size = 2 * n ∧ (∀ j, j < n → V.slots[2 * j]? = some (.int (lo8 (f j))) ∧ V.slots[2 * j + 1]? = some (.int (hi8 (f j)))) ∧ ∃ j, j < n ∧ 255 < f j)
theorem Cod.cd {cd : Int32} {n : Nat} {f : Nat → Int32} {V : Cell} (h : Cod cd n f V) : cd = 0 ∨ cd = 1 := h.imp (fun q => q.1) fun q => q.1
theorem Cod.len {cd : Int32} {n : Nat} {f : Nat → Int32} {V : Cell} (h : Cod cd n f V) (hs : V.slots.size < 2 ^ 31) : Int32.ofNat V.slots.size >>> (cd &&& 31) = Int32.ofNat n := by
  rcases h with ⟨rfl, h, -⟩ | ⟨rfl, h, -⟩
  · rw [shr0, h]
  · rw [h, shr1 (by omega)]
/-- **x is a String of the n chars f 0 .. f (n - 1)**, Latin-1 or UTF-16; its array at t has the cell V -/
def Txt (x t : Addr) (V : Cell) (cd : Int32) (n : Nat) (f : Nat → Int32) (U : State) : Prop := Exact "java/lang/String" x U ∧ Has x "java/lang/String" "value" "[B" (.ref t) U ∧ Has x "java/lang/String" "coder" "B" (.int cd) U ∧ XT.Arr .byte t V U ∧ Cod cd n f V ∧ ∀ j, j < n → ¬ f j < 0 ∧ ¬ 65535 < f j
theorem Txt.mv {x t : Addr} {V : Cell} {cd : Int32} {n : Nat} {f : Nat → Int32} {U U' : State} (h : Txt x t V cd n f U) (hal : U.vm.Alike U'.vm) (hh : U'.heap = U.heap) : Txt x t V cd n f U' := ⟨h.1.mv hal hh, h.2.1.mv hal hh, h.2.2.1.mv hal hh, h.2.2.2.1.mv hal hh, h.2.2.2.2⟩
namespace Cdr
def yN : MethodName := ⟨"java/lang/String", "coder", "()B"⟩
abbrev yB : ByteArray := jdk_42_method_152_code
theorem d0 : decode yB 0 = .ok (.getstatic 38, 3) := by decide +kernel
theorem d3 : decode yB 3 = .ok (.ifCond (.eq) 10, 3) := by decide +kernel
theorem d6 : decode yB 6 = .ok (.aload_n 0, 1) := by decide +kernel
theorem d7 : decode yB 7 = .ok (.getfield 15, 3) := by decide +kernel
theorem d10 : decode yB 10 = .ok (.goto 4, 3) := by decide +kernel
theorem d14 : decode yB 14 = .ok (.ireturn, 1) := by decide +kernel
def site : List Cond := [.fieldLink "java/lang/String" 38 "java/lang/String" "COMPACT_STRINGS" "Z", .fieldLink "java/lang/String" 15 "java/lang/String" "coder" "B"]
def tab : Cond := tabOf yN yB 1 (some .byte) site
def P (x : Addr) (cd z : Int32) (args : Array Value) (s : State) : Prop := args = #[.ref x] ∧ Has x "java/lang/String" "coder" "B" (.int cd) s ∧ (cd = 0 ∨ cd = 1) ∧ StaticIs s "java/lang/String" "COMPACT_STRINGS" "Z" (.int z) ∧ ¬ z = 0
def E (cd : Int32) (r : Option Value) (s u : State) : Prop := XT.PureE (some (.int cd)) r s u
theorem law (l : Launch) (x : Addr) (cd z : Int32) : Law l yN 1 0 0 0 yB 1 (some .byte) site (P x cd z) (E cd) [] 0 0 := by
  refine Law.of_walk (plainFor_of_name (by decide +kernel)) (by decide +kernel) (by decide +kernel) (by decide) (fun _ _ h => by rw [h.1]; rfl) (fun _ U U' hal hh h => ⟨h.1, h.2.1.mv hal hh, h.2.2.1, h.2.2.2.1.there hal hh, h.2.2.2.2⟩) (fun r U U' V V' h1 hal h2 h => XT.PureE.mv r U U' V V' h1 hal h2 h) ?_
  intro p e s m args below meth c s₁ X0 hexec hbytes hml hret hlk hnm hown hh0 W hP
  obtain ⟨rfl, hx, hc, s1, hz⟩ := hP
  have c1 : Steps p.tables e below (s₁.setTop (entryFrame m #[.ref x] 1)) (s₁.setTop (mkF m 0 #[.val (.ref x)] [])) := entry rfl
  obtain ⟨T2, X2, q2, st2⟩ := X0.sget hexec hown (wk W (.fieldLink "java/lang/String" 38 "java/lang/String" "COMPACT_STRINGS" "Z")) s1 (fun _ _ h => by rw [hh0]; exact h) (g := (mkF m 0 #[.val (.ref x)] [])) rfl (hb hbytes d0)
  have hh2 := q2.trans hh0
  have c3 : Steps p.tables e below (s₁.setTop (entryFrame m #[.ref x] 1)) (T2.setTop (mkF m 7 #[.val (.ref x)] [.ref x])) := (c1.trans (st2 _ (Steps.refl _))).trans (by
    refine XS.ifNo X2.here hexec rfl (hb hbytes d3) rfl (i0_eq_f hz) ?_
    refine XS.aloadN X2.here hexec rfl (hb hbytes d6) rfl rfl ?_
    exact Steps.refl _)
  obtain ⟨T4, X4, q4, st4⟩ := X2.hget hexec hown (wk W (.fieldLink "java/lang/String" 15 "java/lang/String" "coder" "B")) (hx.mv X2.warmed.alike hh2) (g := (mkF m 7 #[.val (.ref x)] [.ref x])) rfl (rest := []) rfl (hb hbytes d7)
  have c5 : Steps p.tables e below (s₁.setTop (entryFrame m #[.ref x] 1)) (T4.setTop (mkF m 14 #[.val (.ref x)] [.int cd])) := (c3.trans (st4 _ (Steps.refl _))).trans (by
    refine XS.goto X4.here hexec rfl (pc0 := 10) rfl (hb hbytes d10) (by decide) rfl ?_
    exact Steps.refl _)
  exact ⟨T4, some (.int cd), _, _, _, X4, rfl, rfl, rfl, (fun h => by cases h), ⟨rfl, q4.trans hh2⟩, fun fs hl => c5.trans (X4.ireturnOut hexec hret (by rcases hc with rfl | rfl <;> rfl) (Or.inr (Or.inr (Or.inl rfl))) (hb hbytes d14) hl)⟩
end Cdr
namespace Len
def yN : MethodName := ⟨"java/lang/String", "length", "()I"⟩
abbrev yB : ByteArray := jdk_42_method_54_code
theorem d0 : decode yB 0 = .ok (.aload_n 0, 1) := by decide +kernel
theorem d1 : decode yB 1 = .ok (.getfield 9, 3) := by decide +kernel
theorem d4 : decode yB 4 = .ok (.arraylength, 1) := by decide +kernel
theorem d5 : decode yB 5 = .ok (.aload_n 0, 1) := by decide +kernel
theorem d6 : decode yB 6 = .ok (.invokevirtual 335, 3) := by decide +kernel
theorem d9 : decode yB 9 = .ok (.ishr, 1) := by decide +kernel
theorem d10 : decode yB 10 = .ok (.ireturn, 1) := by decide +kernel
def site : List Cond := [.fieldLink "java/lang/String" 9 "java/lang/String" "value" "[B", Cdr.tab] ++ virtW "java/lang/String" 335 "java/lang/String" Cdr.yN Cdr.yN
def tab : Cond := tabOf yN yB 1 (some .int) site
def P (x t : Addr) (V : Cell) (cd : Int32) (n : Nat) (f : Nat → Int32) (z : Int32) (args : Array Value) (s : State) : Prop := args = #[.ref x] ∧ Txt x t V cd n f s ∧ StaticIs s "java/lang/String" "COMPACT_STRINGS" "Z" (.int z) ∧ ¬ z = 0
def E (n : Nat) (r : Option Value) (s u : State) : Prop := XT.PureE (some (.int (Int32.ofNat n))) r s u
/-- length() of a String of n chars, in either coding -/
theorem law (l : Launch) (x t : Addr) (V : Cell) (cd : Int32) (n : Nat) (f : Nat → Int32) (z : Int32) : Law l yN 1 0 1 13 yB 1 (some .int) site (P x t V cd n f z) (E n) [] 0 0 := by
  refine Law.of_walk (plainFor_of_name (by decide +kernel)) (by decide +kernel) (by decide +kernel) (by decide) (fun _ _ h => by rw [h.1]; rfl) (fun _ U U' hal hh h => ⟨h.1, h.2.1.mv hal hh, h.2.2.1.there hal hh, h.2.2.2⟩) (fun r U U' V V' h1 hal h2 h => XT.PureE.mv r U U' V V' h1 hal h2 h) ?_
  intro p e s m args below meth c s₁ X0 hexec hbytes hml hret hlk hnm hown hh0 W hP
  obtain ⟨rfl, hx, s1, hz⟩ := hP
  have v31 := hx.2.2.2.1.2.2.2
  have c1 : Steps p.tables e below (s₁.setTop (entryFrame m #[.ref x] 1)) (s₁.setTop (mkF m 1 #[.val (.ref x)] [.ref x])) := Steps.trans (entry rfl) (by
    show Steps p.tables e below (s₁.setTop (mkF m 0 #[.val (.ref x)] [])) _
    refine XS.aloadN X0.here hexec rfl (hb hbytes d0) rfl rfl ?_
    exact Steps.refl _)
  obtain ⟨T2, X2, q2, st2⟩ := X0.hget hexec hown (wk W (.fieldLink "java/lang/String" 9 "java/lang/String" "value" "[B")) (hx.mv X0.warmed.alike hh0).2.1 (g := (mkF m 1 #[.val (.ref x)] [.ref x])) rfl (rest := []) rfl (hb hbytes d1)
  have hh2 := q2.trans hh0
  have hx2 := hx.mv X2.warmed.alike hh2
  have c3 : Steps p.tables e below (s₁.setTop (entryFrame m #[.ref x] 1)) (T2.setTop (mkF m 6 #[.val (.ref x)] [.ref x, .int (Int32.ofNat V.slots.size)])) := (c1.trans (st2 _ (Steps.refl _))).trans (by
    refine X2.alen hexec hx2.2.2.2.1 rfl rfl (hb hbytes d4) ?_
    refine XS.aloadN X2.here hexec rfl (hb hbytes d5) rfl rfl ?_
    exact Steps.refl _)
  obtain ⟨v4, T4, X4, E4, g4⟩ := X2.callV hexec (Cdr.law l x cd z) hown (wks W (virtW "java/lang/String" 335 "java/lang/String" Cdr.yN Cdr.yN)) rfl (by decide) (wk W Cdr.tab) (W := 1) (Nat.le_of_ble_eq_true rfl) (Nat.le_of_ble_eq_true rfl) (Nat.le_refl _) (Nat.le_refl _) (hx2.1.fc X2.warmed.alike) hx2.1.is (g := (mkF m 6 #[.val (.ref x)] [.ref x, .int (Int32.ofNat V.slots.size)])) rfl (by rw [hml]; rfl) c3 (argsL := []) (rest := [.int (Int32.ofNat V.slots.size)]) rfl rfl (by show 2 * 0 + (1 + 0) ≤ _; decide) (hb hbytes d6) (⟨rfl, hx2.2.2.1, hx.2.2.2.2.1.cd, s1.there X2.warmed.alike hh2, hz⟩)
  obtain ⟨rfl, q4⟩ := E4
  have c5 : Steps p.tables e below (s₁.setTop (entryFrame m #[.ref x] 1)) (T4.setTop (mkF m 10 #[.val (.ref x)] [.int (Int32.ofNat V.slots.size >>> (cd &&& 31))])) := Steps.trans g4 (by
    refine ishr X4.here hexec rfl (hb hbytes d9) rfl ?_
    exact Steps.refl _)
  rw [hx.2.2.2.2.1.len v31] at c5
  exact ⟨T4, some (.int (Int32.ofNat n)), _, _, _, X4, rfl, rfl, rfl, (fun h => by cases h), ⟨rfl, q4.trans hh2⟩, fun fs hl => c5.trans (X4.ireturnOut hexec hret rfl (Or.inl rfl) (hb hbytes d10) hl)⟩
theorem pays {l : Launch} {R : Room} {p : Program} {e : Env} {below : List Frame} {s : State} {sargs : Array Value} {len W : Nat} (x t : Addr) (V : Cell) (cd : Int32) (n : Nat) (f : Nat → Int32) (z : Int32) (htab : tab.before sargs s = true) (hfr : 2 ≤ R.frames) (hlo : W + 25 ≤ R.locals) :
    Back l R p e below s sargs yN len W (fun A₁ a₁ => A₁.cells + 0 ≤ R.cells ∧ A₁.slots + 0 ≤ R.slots ∧ P x t V cd n f z a₁ A₁.U) (fun A₁ _ v₁ B₁ => E n v₁ A₁.U B₁.U ∧ B₁.locs = A₁.locs ++ [] ∧ B₁.cells = A₁.cells + 0 ∧ B₁.slots = A₁.slots + 0) :=
  (law l x t V cd n f z).pays htab hfr (by omega)
end Len
namespace IsL
def yN : MethodName := ⟨"java/lang/String", "isLatin1", "()Z"⟩
abbrev yB : ByteArray := jdk_42_method_154_code
theorem d0 : decode yB 0 = .ok (.getstatic 38, 3) := by decide +kernel
theorem d3 : decode yB 3 = .ok (.ifCond (.eq) 14, 3) := by decide +kernel
theorem d6 : decode yB 6 = .ok (.aload_n 0, 1) := by decide +kernel
theorem d7 : decode yB 7 = .ok (.getfield 15, 3) := by decide +kernel
theorem d10 : decode yB 10 = .ok (.ifCond (.ne) 7, 3) := by decide +kernel
theorem d13 : decode yB 13 = .ok (.iconst 1, 1) := by decide +kernel
theorem d14 : decode yB 14 = .ok (.goto 4, 3) := by decide +kernel
theorem d17 : decode yB 17 = .ok (.iconst 0, 1) := by decide +kernel
theorem d18 : decode yB 18 = .ok (.ireturn, 1) := by decide +kernel
def site : List Cond := [.fieldLink "java/lang/String" 38 "java/lang/String" "COMPACT_STRINGS" "Z", .fieldLink "java/lang/String" 15 "java/lang/String" "coder" "B"]
def tab : Cond := tabOf yN yB 1 (some .boolean) site
def P (x : Addr) (cd z : Int32) (args : Array Value) (s : State) : Prop := args = #[.ref x] ∧ Has x "java/lang/String" "coder" "B" (.int cd) s ∧ (cd = 0 ∨ cd = 1) ∧ StaticIs s "java/lang/String" "COMPACT_STRINGS" "Z" (.int z) ∧ ¬ z = 0
def E (cd : Int32) (r : Option Value) (s u : State) : Prop := XT.PureE (some (.int (1 - cd))) r s u
theorem law (l : Launch) (x : Addr) (cd z : Int32) : Law l yN 1 0 0 0 yB 1 (some .boolean) site (P x cd z) (E cd) [] 0 0 := by
  refine Law.of_walk (plainFor_of_name (by decide +kernel)) (by decide +kernel) (by decide +kernel) (by decide) (fun _ _ h => by rw [h.1]; rfl) (fun _ U U' hal hh h => ⟨h.1, h.2.1.mv hal hh, h.2.2.1, h.2.2.2.1.there hal hh, h.2.2.2.2⟩) (fun r U U' V V' h1 hal h2 h => XT.PureE.mv r U U' V V' h1 hal h2 h) ?_
  intro p e s m args below meth c s₁ X0 hexec hbytes hml hret hlk hnm hown hh0 W hP
  obtain ⟨rfl, hx, hc, s1, hz⟩ := hP
  have c1 : Steps p.tables e below (s₁.setTop (entryFrame m #[.ref x] 1)) (s₁.setTop (mkF m 0 #[.val (.ref x)] [])) := entry rfl
  obtain ⟨T2, X2, q2, st2⟩ := X0.sget hexec hown (wk W (.fieldLink "java/lang/String" 38 "java/lang/String" "COMPACT_STRINGS" "Z")) s1 (fun _ _ h => by rw [hh0]; exact h) (g := (mkF m 0 #[.val (.ref x)] [])) rfl (hb hbytes d0)
  have hh2 := q2.trans hh0
  have c3 : Steps p.tables e below (s₁.setTop (entryFrame m #[.ref x] 1)) (T2.setTop (mkF m 7 #[.val (.ref x)] [.ref x])) := (c1.trans (st2 _ (Steps.refl _))).trans (by
    refine XS.ifNo X2.here hexec rfl (hb hbytes d3) rfl (i0_eq_f hz) ?_
    refine XS.aloadN X2.here hexec rfl (hb hbytes d6) rfl rfl ?_
    exact Steps.refl _)
  obtain ⟨T4, X4, q4, st4⟩ := X2.hget hexec hown (wk W (.fieldLink "java/lang/String" 15 "java/lang/String" "coder" "B")) (hx.mv X2.warmed.alike hh2) (g := (mkF m 7 #[.val (.ref x)] [.ref x])) rfl (rest := []) rfl (hb hbytes d7)
  have c5 : Steps p.tables e below (s₁.setTop (entryFrame m #[.ref x] 1)) (T4.setTop (mkF m 10 #[.val (.ref x)] [.int cd])) := c3.trans (st4 _ (Steps.refl _))
  have c6 : Steps p.tables e below (s₁.setTop (entryFrame m #[.ref x] 1)) (T4.setTop (mkF m 18 #[.val (.ref x)] [.int (1 - cd)])) := by
    rcases hc with rfl | rfl
    · exact c5.trans (by
        refine XS.ifNo X4.here hexec rfl (hb hbytes d10) rfl (i0_ne_f rfl) ?_
        refine iconstV X4.here hexec rfl 1 (hb hbytes d13) (by decide) ?_
        refine XS.goto X4.here hexec rfl (pc0 := 14) rfl (hb hbytes d14) (by decide) rfl ?_
        exact Steps.refl _)
    · exact c5.trans (by
        refine XS.ifYes X4.here hexec rfl (pc0 := 10) rfl (hb hbytes d10) rfl (i0_ne_t (by decide)) (by decide) rfl ?_
        refine iconstV X4.here hexec rfl 0 (hb hbytes d17) (by decide) ?_
        exact Steps.refl _)
  exact ⟨T4, some (.int (1 - cd)), _, _, _, X4, rfl, rfl, rfl, (fun h => by cases h), ⟨rfl, q4.trans hh2⟩, fun fs hl => c6.trans (X4.ireturnOut hexec hret (by rcases hc with rfl | rfl <;> rfl) (Or.inr (Or.inl rfl)) (hb hbytes d18) hl)⟩
end IsL
namespace LChA
def yN : MethodName := ⟨"java/lang/StringLatin1", "charAt", "([BI)C"⟩
abbrev yB : ByteArray := jdk_43_method_2_code
theorem d0 : decode yB 0 = .ok (.iload_n 1, 1) := by decide +kernel
theorem d1 : decode yB 1 = .ok (.aload_n 0, 1) := by decide +kernel
theorem d2 : decode yB 2 = .ok (.arraylength, 1) := by decide +kernel
theorem d3 : decode yB 3 = .ok (.invokestatic 9, 3) := by decide +kernel
theorem d6 : decode yB 6 = .ok (.aload_n 0, 1) := by decide +kernel
theorem d7 : decode yB 7 = .ok (.iload_n 1, 1) := by decide +kernel
theorem d8 : decode yB 8 = .ok (.baload, 1) := by decide +kernel
theorem d9 : decode yB 9 = .ok (.sipush 255, 3) := by decide +kernel
theorem d12 : decode yB 12 = .ok (.iand, 1) := by decide +kernel
theorem d13 : decode yB 13 = .ok (.i2c, 1) := by decide +kernel
theorem d14 : decode yB 14 = .ok (.ireturn, 1) := by decide +kernel
def site : List Cond := [JO.Str_checkIndex.tab] ++ staticW "java/lang/StringLatin1" 9 JO.Str_checkIndex.yN
def tab : Cond := tabOf yN yB 2 (some .char) site
def P (t : Addr) (V : Cell) (i : Nat) (u : Int32) (fm : Value) (args : Array Value) (s : State) : Prop := args = #[.ref t, .int (Int32.ofNat i)] ∧ XT.Arr .byte t V s ∧ V.slots[i]? = some (.int u) ∧ (StaticIs s "jdk/internal/util/Preconditions" "SIOOBE_FORMATTER" "Ljava/util/function/BiFunction;" fm ∧ fm.isRef = true)
def E (u : Int32) (r : Option Value) (s w : State) : Prop := XT.PureE (some (.int (chr8 u))) r s w
theorem law (l : Launch) (t : Addr) (V : Cell) (i : Nat) (u : Int32) (fm : Value) : Law l yN 2 2 2 27 yB 2 (some .char) site (P t V i u fm) (E u) [] 0 0 := by
  refine Law.of_walk (plainFor_of_name (by decide +kernel)) (by decide +kernel) (by decide +kernel) (by decide) (fun _ _ h => by rw [h.1]; rfl) (fun _ U U' hal hh h => ⟨h.1, h.2.1.mv hal hh, h.2.2.1, h.2.2.2.1.there hal hh, h.2.2.2.2⟩) (fun r U U' V V' h1 hal h2 h => XT.PureE.mv r U U' V V' h1 hal h2 h) ?_
  intro p e s m args below meth c s₁ X0 hexec hbytes hml hret hlk hnm hown hh0 W hP
  obtain ⟨rfl, hV, hu, s1, rf⟩ := hP
  have v31 := hV.2.2.2
  have hi : i < V.slots.size := (Array.getElem?_eq_some_iff.mp hu).1
  have c1 : Steps p.tables e below (s₁.setTop (entryFrame m #[.ref t, .int (Int32.ofNat i)] 2)) (s₁.setTop (mkF m 0 #[.val (.ref t), .val (.int (Int32.ofNat i))] [])) := entry rfl
  have c2 : Steps p.tables e below (s₁.setTop (entryFrame m #[.ref t, .int (Int32.ofNat i)] 2)) (s₁.setTop (mkF m 3 #[.val (.ref t), .val (.int (Int32.ofNat i))] [.int (Int32.ofNat V.slots.size), .int (Int32.ofNat i)])) := c1.trans (by
    refine XS.iloadN X0.here hexec rfl (hb hbytes d0) rfl ?_
    refine XS.aloadN X0.here hexec rfl (hb hbytes d1) rfl rfl ?_
    refine X0.alen hexec (hV.mv X0.warmed.alike hh0) rfl rfl (hb hbytes d2) ?_
    exact Steps.refl _)
  obtain ⟨v3, T3, X3, E3, g3⟩ := X0.callS hexec (JO.Str_checkIndex.law l (Int32.ofNat i) (Int32.ofNat V.slots.size) fm) hown (wks W (staticW "java/lang/StringLatin1" 9 JO.Str_checkIndex.yN)) (wk W JO.Str_checkIndex.tab) (W := 0) (Nat.le_of_ble_eq_true rfl) (Nat.le_of_ble_eq_true rfl) (Nat.le_refl _) (Nat.le_refl _) (g := (mkF m 3 #[.val (.ref t), .val (.int (Int32.ofNat i))] [.int (Int32.ofNat V.slots.size), .int (Int32.ofNat i)])) rfl (by rw [hml]; rfl) c2 (argsL := [.int (Int32.ofNat i), .int (Int32.ofNat V.slots.size)]) (rest := []) rfl rfl (by show 2 * 0 + 0 ≤ _; decide) (hb hbytes d3) (⟨rfl, rf, s1.there X0.warmed.alike hh0, Int32.ofNat_not_neg (by omega), lt32 v31 hi⟩)
  obtain ⟨rfl, q3⟩ := E3
  have hh3 := q3.trans hh0
  have c4 : Steps p.tables e below (s₁.setTop (entryFrame m #[.ref t, .int (Int32.ofNat i)] 2)) (T3.setTop (mkF m 14 #[.val (.ref t), .val (.int (Int32.ofNat i))] [.int (chr8 u)])) := Steps.trans g3 (by
    refine XS.aloadN X3.here hexec rfl (hb hbytes d6) rfl rfl ?_
    refine XS.iloadN X3.here hexec rfl (hb hbytes d7) rfl ?_
    refine X3.aget hexec (hV.mv X3.warmed.alike hh3) rfl hu rfl rfl (hb hbytes d8) ?_
    refine sipushV X3.here hexec rfl 255 (hb hbytes d9) (by decide) ?_
    refine XS.iand X3.here hexec rfl (hb hbytes d12) rfl ?_
    refine i2c X3.here hexec rfl (hb hbytes d13) rfl ?_
    exact Steps.refl _)
  exact ⟨T3, some (.int (chr8 u)), _, _, _, X3, rfl, rfl, rfl, (fun h => by cases h), ⟨rfl, hh3⟩, fun fs hl => c4.trans (X3.ireturnOut hexec hret (narrow_c _) (Or.inr (Or.inr (Or.inr (Or.inl rfl)))) (hb hbytes d14) hl)⟩
end LChA
end StrChars
namespace StrChars.Road
open Jvm Sem ClassFile Op Lib Jvm.Stand Jvm.Free Jvm.Free.XT
open Jvm.Lib.Cold (StaticIs)
theorem consq {a : Array Value} {s : State} {c : Jvm.Cond} {L : List Jvm.Cond} (h0 : c.before a s = true) (h : ∀ w ∈ L, w.before a s = true) : ∀ w ∈ c :: L, w.before a s = true := fun w hw => (List.mem_cons.mp hw).elim (fun e => e ▸ h0) (h w)
/-- the words of String.length(), either coding -/
abbrev wordsLen : List Jvm.Cond := [.code Len.yN Len.yB 1 (some .int), .initialized ST, .fieldLink ST 9 ST "value" "[B", .fieldLink ST 38 ST "COMPACT_STRINGS" "Z", .fieldLink ST 15 ST "coder" "B", .code Cdr.yN Cdr.yB 1 (some .byte), .methodLink ST 335 Cdr.yN, .declares Cdr.yN, .selects ST Cdr.yN Cdr.yN, .instanceMethod Cdr.yN]
theorem tabLen_of {a : Array Value} {s : State} (h : ∀ w ∈ wordsLen, w.before a s = true) : Len.tab.before a s = true := by
  have hc : Cdr.tab.before a s = true := unparts (wk h (.code Cdr.yN Cdr.yB 1 (some .byte))) (wks h (.initialized Cdr.yN.cls :: Cdr.site))
  have q := consq hc h
  exact unparts (wk q (.code Len.yN Len.yB 1 (some .int))) (wks q (.initialized Len.yN.cls :: Len.site))
theorem movedLen {Z s : State} {a0 args : Array Value} (hZ : Z.Warmed39 s.vm) (hw : ∀ d ∈ wordsLen, d.before a0 Z = true) : ∀ d ∈ wordsLen, d.before args s = true := fun d hd => by
  have q := hw d hd
  have t : ∀ d ∈ wordsLen, d = .arrayClass .byte ∨ (d.onTables && d.keepsFace) = true := by decide +kernel
  rcases t d hd with rfl | t
  · exact RoadKit.mvA hZ q
  · exact RoadKit.mv hZ q t
/-- the bytes of the chars cs, low before high -/
def wideBytes : List Int32 → List Value
  | [] => []
  | c :: cs => .int (lo8 c) :: .int (hi8 c) :: wideBytes cs
theorem wide_lo (d : Value) : ∀ (cs : List Int32) (j : Nat), j < cs.length → (wideBytes cs).getD (2 * j) d = .int (lo8 (cs.getD j 0))
  | [], j, h => absurd h (Nat.not_lt_zero j)
  | c :: cs, 0, _ => rfl
  | c :: cs, j + 1, h => by
    have q := wide_lo d cs j (by simpa using h)
    rw [show 2 * (j + 1) = 2 * j + 1 + 1 from by omega]
    simpa [wideBytes] using q
theorem wide_hi (d : Value) : ∀ (cs : List Int32) (j : Nat), j < cs.length → (wideBytes cs).getD (2 * j + 1) d = .int (hi8 (cs.getD j 0))
  | [], j, h => absurd h (Nat.not_lt_zero j)
  | c :: cs, 0, _ => rfl
  | c :: cs, j + 1, h => by
    have q := wide_hi d cs j (by simpa using h)
    rw [show 2 * (j + 1) + 1 = 2 * j + 1 + 1 + 1 from by omega]
    simpa [wideBytes] using q
theorem low_at (d : Value) (cs : List Int32) (j : Nat) (h : j < cs.length) : (cs.map fun c => Value.int (lo8 c)).getD j d = .int (lo8 (cs.getD j 0)) := by
  simp [List.getD_eq_getElem?_getD, h]
/-- an array of N2 bytes vs codes the chars cs by the coder cd -/
def CodA (cs : List Int32) (cd N2 : Int32) (vs : List Value) : Prop := (cd = 0 ∧ N2 = Int32.ofNat cs.length ∧ vs = (cs.map fun c => Value.int (lo8 c)) ∧ ∀ c ∈ cs, ¬ 255 < c) ∨ (cd = 1 ∧ N2 = Int32.ofNat (2 * cs.length) ∧ vs = wideBytes cs ∧ ∃ c ∈ cs, 255 < c)
theorem CodA.cod {cs : List Int32} {cd N2 : Int32} {vs : List Value} {V : Cell} (h : CodA cs cd N2 vs) (hn : 2 * cs.length < 2 ^ 31) (hs : V.slots.size = N2.toNatClampNeg) (hv : RoadKit.Has V vs (.int 0)) : Cod cd cs.length (fun j => cs.getD j 0) V := by
  rcases h with ⟨rfl, rfl, rfl, h⟩ | ⟨rfl, rfl, rfl, c, hc, hw⟩
  · rw [n32 (by omega)] at hs
    exact Or.inl ⟨rfl, hs, fun j hj => ⟨by rw [hv j (by omega), low_at _ _ _ hj], by
      have e : cs.getD j 0 = cs[j] := by simp [List.getD_eq_getElem?_getD, hj]
      show ¬ 255 < cs.getD j 0
      rw [e]; exact h _ (List.getElem_mem _)⟩⟩
  · rw [n32 (by omega)] at hs
    obtain ⟨j, hj, rfl⟩ := List.getElem_of_mem hc
    exact Or.inr ⟨rfl, hs, fun j hj => ⟨by rw [hv _ (by omega), wide_lo _ _ _ hj], by rw [hv _ (by omega), wide_hi _ _ _ hj]⟩, j, hj, by
      have e : cs.getD j 0 = cs[j] := by simp [List.getD_eq_getElem?_getD, hj]
      show 255 < cs.getD j 0
      rw [e]; exact hw⟩
/-- an object of exactly java/lang/String, its two fields found: as the laws ask it -/
theorem strObj {Z U : State} {a0 : Array Value} {kI : Nat} (wi : (Jvm.Cond.instantiable ST kI).before a0 Z = true) (al : Z.vm.Alike U.vm) {x : Addr} {v0 c0 : Value} (E : RoadKit.Exa Z U.heap x ST) (V : RoadKit.Fld Z U.heap x ST "value" "[B" v0) (C : RoadKit.Fld Z U.heap x ST "coder" "B" c0) :
    ∃ (D : Cell) (fV fC : Field), Blank ST x D U ∧ Found ST "value" "[B" fV U ∧ Found ST "coder" "B" fC U ∧ D.slots[fV.slot]? = some v0 ∧ D.slots[fC.slot]? = some c0 ∧ RoadKit.slotOf Z ST "value" "[B" = fV.slot ∧ RoadKit.slotOf Z ST "coder" "B" = fC.slot := by
  obtain ⟨D, cfV, kV, iV, fV, hD, gV, stV, knV, obV, asV, slV⟩ := V
  obtain ⟨D', cfC, kC, iC, fC, hD', gC, stC, -, -, asC, slC⟩ := C
  cases hD.symm.trans hD'
  obtain ⟨D2, kD, e1, e2, e3, e4, e5⟩ := E
  cases hD.symm.trans e1
  obtain ⟨c2, k2, i1, i2, i3, -⟩ := Cond.instantiable_spec wi
  cases e2.symm.trans i1
  cases e3.symm.trans i2
  obtain ⟨kU, u1, u2⟩ := al.2.2 _ _ e3
  exact ⟨D, fV, fC, ⟨hD, ⟨knV, fun q hq => by rw [hq] at obV; cases obV⟩, by rw [al.findClass]; exact e2, kU, u1, by rw [u2]; exact i3, by rw [u2]; exact e5 i3⟩, ⟨SBG.found_only al ⟨cfV, kV, iV, gV⟩, stV⟩, ⟨SBG.found_only al ⟨cfC, kC, iC, gC⟩, stC⟩, slV, slC, by simp [RoadKit.slotOf, gV], by simp [RoadKit.slotOf, gC]⟩
theorem sta_is {Z U : State} (al : Z.vm.Alike U.vm) {C n d : String} {v : Value} (S : RoadKit.Sta Z U.heap C n d v) : StaticIs U C n d v := by
  obtain ⟨cfS, iS, kS, fS, st, cS, t1, t2, t3, t4, t5, t6, t7⟩ := S
  exact StaticIs.there (s := { Z with heap := U.heap }) ⟨cfS, iS, kS, fS, st, cS, t1, t2, t3, t4, t5, (fun q => by rw [q] at t6; cases t6), t7⟩ al rfl
/-- **length() OF SUCH A STRING** -/
theorem lenW {p : Program} {l : Launch} {e : Env} {R : Room} {s : State} {args : Array Value} {below : List Frame} {len W : Nat} {Z : State} {a0 : Array Value} {h : Heap} (hZ : Z.Warmed39 s.vm) (hw : ∀ d ∈ wordsLen, d.before a0 Z = true) {kI : Nat} (wi : (Jvm.Cond.instantiable ST kI).before a0 Z = true)
    {x t : Addr} {kb : ClassId} {cs : List Int32} {cd N2 z : Int32} {vs : List Value} (E : RoadKit.Exa Z h x ST) (V : RoadKit.Fld Z h x ST "value" "[B" (.ref t)) (C : RoadKit.Fld Z h x ST "coder" "B" (.int cd)) (K : RoadKit.Arv Z h t kb .byte N2 vs (.int 0)) (hc : CodA cs cd N2 vs) (hb : ∀ c ∈ cs, ¬ c < 0 ∧ ¬ (65535 : Int32) < c)
    (S : RoadKit.Sta Z h ST "COMPACT_STRINGS" "Z" (.int z)) (hz : ¬ z = 0) (l2 : cs.length ≤ 4000) (hfr : 2 ≤ R.frames) (hlo : W + 25 ≤ R.locals) :
    Back l R p e below s args (⟨"java/lang/String", "length", "()I"⟩ : MethodName) len W (fun P a => a = #[.ref x] ∧ P.U.heap = h ∧ P.cells + 0 ≤ R.cells ∧ P.slots + 0 ≤ R.slots)
      (fun P _ v B => ∃ L, (v = some (.int (Int32.ofNat cs.length)) ∧ L = [] ∧ B.U.heap = h) ∧ B.locs = P.locs ++ L ∧ B.cells = P.cells + 0 ∧ B.slots = P.slots + 0) := by
  obtain ⟨A, K1, K2, K3, K4, K5, K6⟩ := K
  have hcod := hc.cod (by omega) K3 K5
  intro m meth c P g ig mk a X hg hsize hdg hW hn hp'
  obtain ⟨rfl, rfl, r1, r2⟩ := hp'
  have al : Z.vm.Alike P.U.vm := hZ.alike.trans X.warmed.alike
  obtain ⟨D, fV, fC, hB, F1, F2, g1, g2, -, -⟩ := strObj wi al E V C
  have hx : Txt x t A cd cs.length (fun j => cs.getD j 0) P.U := ⟨⟨_, hB.2.2.1, D, hB.1, rfl, by cases q : D.vm <;> first | rfl | exact absurd q (hB.2.1.2 _)⟩, Has.of hB F1 g1, Has.of hB F2 g2, ⟨K1.1, State.isArrayOf_alike al K1.2.1, K1.2.2, by rcases hcod with ⟨-, q, -⟩ | ⟨-, q, -⟩ <;> omega⟩, hcod, fun j hj => by
    have e : cs.getD j 0 = cs[j] := by simp [List.getD_eq_getElem?_getD, hj]
    show ¬ cs.getD j 0 < 0 ∧ ¬ 65535 < cs.getD j 0
    rw [e]; exact hb _ (List.getElem_mem _)⟩
  obtain ⟨v, B, X', ⟨⟨hv, hh⟩, hl, hk, hs⟩, st⟩ := Len.pays x t A cd cs.length (fun j => cs.getD j 0) z (tabLen_of (movedLen hZ hw)) hfr hlo m meth c P g ig mk _ X hg hsize hdg hW hn ⟨r1, r2, rfl, hx, sta_is al S, hz⟩
  exact ⟨v, B, X', ⟨[], ⟨hv, rfl, hh⟩, hl, hk, hs⟩, st⟩
end StrChars.Road
namespace StrChars
open Jvm Sem ClassFile Op Lib Jvm.Stand Jvm.Free.XT Jvm.Free.ALB Jvm.Free.JM Jvm.Free
open Jvm.Lib.Cold (StaticIs)
namespace Emp
def yN : MethodName := ⟨"java/lang/String", "isEmpty", "()Z"⟩
abbrev yB : ByteArray := jdk_42_method_55_code
theorem d0 : decode yB 0 = .ok (.aload_n 0, 1) := by decide +kernel
theorem d1 : decode yB 1 = .ok (.getfield 9, 3) := by decide +kernel
theorem d4 : decode yB 4 = .ok (.arraylength, 1) := by decide +kernel
theorem d5 : decode yB 5 = .ok (.ifCond (.ne) 7, 3) := by decide +kernel
theorem d8 : decode yB 8 = .ok (.iconst 1, 1) := by decide +kernel
theorem d9 : decode yB 9 = .ok (.goto 4, 3) := by decide +kernel
theorem d12 : decode yB 12 = .ok (.iconst 0, 1) := by decide +kernel
theorem d13 : decode yB 13 = .ok (.ireturn, 1) := by decide +kernel
def site : List Cond := [.fieldLink "java/lang/String" 9 "java/lang/String" "value" "[B"]
def tab : Cond := tabOf yN yB 1 (some .boolean) site
def P (x t : Addr) (V : Cell) (cd : Int32) (n : Nat) (f : Nat → Int32) (args : Array Value) (s : State) : Prop := args = #[.ref x] ∧ Txt x t V cd n f s
def E (n : Nat) (r : Option Value) (s u : State) : Prop := XT.PureE (some (.int (if n = 0 then 1 else 0))) r s u
/-- isEmpty() of a String of n chars -/
theorem law (l : Launch) (x t : Addr) (V : Cell) (cd : Int32) (n : Nat) (f : Nat → Int32) : Law l yN 1 0 0 0 yB 1 (some .boolean) site (P x t V cd n f) (E n) [] 0 0 := by
  refine Law.of_walk (plainFor_of_name (by decide +kernel)) (by decide +kernel) (by decide +kernel) (by decide) (fun _ _ h => by rw [h.1]; rfl) (fun _ U U' hal hh h => ⟨h.1, h.2.mv hal hh⟩) (fun r U U' V V' h1 hal h2 h => XT.PureE.mv r U U' V V' h1 hal h2 h) ?_
  intro p e s m args below meth c s₁ X0 hexec hbytes hml hret hlk hnm hown hh0 W hP
  obtain ⟨rfl, hx⟩ := hP
  have v31 := hx.2.2.2.1.2.2.2
  have c1 : Steps p.tables e below (s₁.setTop (entryFrame m #[.ref x] 1)) (s₁.setTop (mkF m 1 #[.val (.ref x)] [.ref x])) := Steps.trans (entry rfl) (by
    show Steps p.tables e below (s₁.setTop (mkF m 0 #[.val (.ref x)] [])) _
    refine XS.aloadN X0.here hexec rfl (hb hbytes d0) rfl rfl ?_
    exact Steps.refl _)
  obtain ⟨T2, X2, q2, st2⟩ := X0.hget hexec hown (wk W (.fieldLink "java/lang/String" 9 "java/lang/String" "value" "[B")) (hx.mv X0.warmed.alike hh0).2.1 (g := (mkF m 1 #[.val (.ref x)] [.ref x])) rfl (rest := []) rfl (hb hbytes d1)
  have hh2 := q2.trans hh0
  have hx2 := hx.mv X2.warmed.alike hh2
  have c3 : Steps p.tables e below (s₁.setTop (entryFrame m #[.ref x] 1)) (T2.setTop (mkF m 5 #[.val (.ref x)] [.int (Int32.ofNat V.slots.size)])) := (c1.trans (st2 _ (Steps.refl _))).trans (by
    refine X2.alen hexec hx2.2.2.2.1 rfl rfl (hb hbytes d4) ?_
    exact Steps.refl _)
  have hz : V.slots.size = 0 ↔ n = 0 := by
    rcases hx.2.2.2.2.1 with ⟨-, q, -⟩ | ⟨-, q, -⟩ <;> omega
  by_cases h0 : n = 0
  · have c4 : Steps p.tables e below (s₁.setTop (entryFrame m #[.ref x] 1)) (T2.setTop (mkF m 13 #[.val (.ref x)] [.int 1])) := c3.trans (by
      refine XS.ifNo X2.here hexec rfl (hb hbytes d5) rfl (i0_ne_f (by rw [hz.mpr h0]; rfl)) ?_
      refine iconstV X2.here hexec rfl 1 (hb hbytes d8) (by decide) ?_
      refine XS.goto X2.here hexec rfl (pc0 := 9) rfl (hb hbytes d9) (by decide) rfl ?_
      exact Steps.refl _)
    exact ⟨T2, some (.int 1), _, _, _, X2, rfl, rfl, rfl, (fun h => by cases h), ⟨by rw [if_pos h0], hh2⟩, fun fs hl => c4.trans (X2.ireturnOut hexec hret rfl (Or.inr (Or.inl rfl)) (hb hbytes d13) hl)⟩
  · have c4 : Steps p.tables e below (s₁.setTop (entryFrame m #[.ref x] 1)) (T2.setTop (mkF m 13 #[.val (.ref x)] [.int 0])) := c3.trans (by
      refine XS.ifYes X2.here hexec rfl (pc0 := 5) rfl (hb hbytes d5) rfl (i0_ne_t (nz32 v31 (by omega))) (by decide) rfl ?_
      refine iconstV X2.here hexec rfl 0 (hb hbytes d12) (by decide) ?_
      exact Steps.refl _)
    exact ⟨T2, some (.int 0), _, _, _, X2, rfl, rfl, rfl, (fun h => by cases h), ⟨by rw [if_neg h0], hh2⟩, fun fs hl => c4.trans (X2.ireturnOut hexec hret rfl (Or.inr (Or.inl rfl)) (hb hbytes d13) hl)⟩
theorem pays {l : Launch} {R : Room} {p : Program} {e : Env} {below : List Frame} {s : State} {sargs : Array Value} {len W : Nat} (x t : Addr) (V : Cell) (cd : Int32) (n : Nat) (f : Nat → Int32) (htab : tab.before sargs s = true) (hfr : 1 ≤ R.frames) (hlo : W + 12 ≤ R.locals) :
    Back l R p e below s sargs yN len W (fun A₁ a₁ => A₁.cells + 0 ≤ R.cells ∧ A₁.slots + 0 ≤ R.slots ∧ P x t V cd n f a₁ A₁.U) (fun A₁ _ v₁ B₁ => E n v₁ A₁.U B₁.U ∧ B₁.locs = A₁.locs ++ [] ∧ B₁.cells = A₁.cells + 0 ∧ B₁.slots = A₁.slots + 0) :=
  (law l x t V cd n f).pays htab hfr (by omega)
end Emp
end StrChars
namespace StrChars.Road
open Jvm Sem ClassFile Op Lib Jvm.Stand Jvm.Free Jvm.Free.XT
open Jvm.Lib.Cold (StaticIs)
/-- the words of String.isEmpty() -/
abbrev wordsEmp : List Jvm.Cond := [.code Emp.yN Emp.yB 1 (some .boolean), .initialized ST, .fieldLink ST 9 ST "value" "[B"]
theorem tabEmp_of {a : Array Value} {s : State} (h : ∀ w ∈ wordsEmp, w.before a s = true) : Emp.tab.before a s = true := unparts (wk h (.code Emp.yN Emp.yB 1 (some .boolean))) (wks h (.initialized Emp.yN.cls :: Emp.site))
theorem movedEmp {Z s : State} {a0 args : Array Value} (hZ : Z.Warmed39 s.vm) (hw : ∀ d ∈ wordsEmp, d.before a0 Z = true) : ∀ d ∈ wordsEmp, d.before args s = true := fun d hd => by
  have t : ∀ d ∈ wordsEmp, (d.onTables && d.keepsFace) = true := by decide +kernel
  exact RoadKit.mv hZ (hw d hd) (t d hd)
/-- the road's facts of a String, as the laws ask it -/
theorem txt_of {Z U : State} {a0 : Array Value} {kI : Nat} (wi : (Jvm.Cond.instantiable ST kI).before a0 Z = true) (al : Z.vm.Alike U.vm) {x t : Addr} {kb : ClassId} {cs : List Int32} {cd N2 : Int32} {vs : List Value} (E : RoadKit.Exa Z U.heap x ST) (V : RoadKit.Fld Z U.heap x ST "value" "[B" (.ref t)) (C : RoadKit.Fld Z U.heap x ST "coder" "B" (.int cd)) (K : RoadKit.Arv Z U.heap t kb .byte N2 vs (.int 0)) (hc : CodA cs cd N2 vs) (hb : ∀ c ∈ cs, ¬ c < 0 ∧ ¬ (65535 : Int32) < c) (l2 : cs.length ≤ 4000) :
    ∃ A, Txt x t A cd cs.length (fun j => cs.getD j 0) U := by
  obtain ⟨A, K1, K2, K3, K4, K5, K6⟩ := K
  have hcod := hc.cod (by omega) K3 K5
  obtain ⟨D, fV, fC, hB, F1, F2, g1, g2, -, -⟩ := strObj wi al E V C
  exact ⟨A, ⟨_, hB.2.2.1, D, hB.1, rfl, by cases q : D.vm <;> first | rfl | exact absurd q (hB.2.1.2 _)⟩, Has.of hB F1 g1, Has.of hB F2 g2, ⟨K1.1, State.isArrayOf_alike al K1.2.1, K1.2.2, by rcases hcod with ⟨-, q, -⟩ | ⟨-, q, -⟩ <;> omega⟩, hcod, fun j hj => by
    have e : cs.getD j 0 = cs[j] := by simp [List.getD_eq_getElem?_getD, hj]
    show ¬ cs.getD j 0 < 0 ∧ ¬ 65535 < cs.getD j 0
    rw [e]; exact hb _ (List.getElem_mem _)⟩
/-- **isEmpty() OF SUCH A STRING** -/
theorem empW {p : Program} {l : Launch} {e : Env} {R : Room} {s : State} {args : Array Value} {below : List Frame} {len W : Nat} {Z : State} {a0 : Array Value} {h : Heap} (hZ : Z.Warmed39 s.vm) (hw : ∀ d ∈ wordsEmp, d.before a0 Z = true) {kI : Nat} (wi : (Jvm.Cond.instantiable ST kI).before a0 Z = true)
    {x t : Addr} {kb : ClassId} {cs : List Int32} {cd N2 : Int32} {vs : List Value} (E : RoadKit.Exa Z h x ST) (V : RoadKit.Fld Z h x ST "value" "[B" (.ref t)) (C : RoadKit.Fld Z h x ST "coder" "B" (.int cd)) (K : RoadKit.Arv Z h t kb .byte N2 vs (.int 0)) (hc : CodA cs cd N2 vs) (hb : ∀ c ∈ cs, ¬ c < 0 ∧ ¬ (65535 : Int32) < c) (l2 : cs.length ≤ 4000) (hfr : 1 ≤ R.frames) (hlo : W + 12 ≤ R.locals) :
    Back l R p e below s args (⟨"java/lang/String", "isEmpty", "()Z"⟩ : MethodName) len W (fun P a => a = #[.ref x] ∧ P.U.heap = h ∧ P.cells + 0 ≤ R.cells ∧ P.slots + 0 ≤ R.slots)
      (fun P _ v B => ∃ L, (v = some (.int (if cs.length = 0 then 1 else 0)) ∧ L = [] ∧ B.U.heap = h) ∧ B.locs = P.locs ++ L ∧ B.cells = P.cells + 0 ∧ B.slots = P.slots + 0) := by
  intro m meth c P g ig mk a X hg hsize hdg hW hn hp'
  obtain ⟨rfl, rfl, r1, r2⟩ := hp'
  have al : Z.vm.Alike P.U.vm := hZ.alike.trans X.warmed.alike
  obtain ⟨A, hx⟩ := txt_of wi al E V C K hc hb l2
  obtain ⟨v, B, X', ⟨⟨hv, hh⟩, hl, hk, hs⟩, st⟩ := Emp.pays x t A cd cs.length (fun j => cs.getD j 0) (tabEmp_of (movedEmp hZ hw)) hfr hlo m meth c P g ig mk _ X hg hsize hdg hW hn ⟨r1, r2, rfl, hx⟩
  exact ⟨v, B, X', ⟨[], ⟨hv, rfl, hh⟩, hl, hk, hs⟩, st⟩
end StrChars.Road
namespace StrChars
open Jvm Sem ClassFile Op Lib Jvm.Stand Jvm.Free.XT Jvm.Free.ALB Jvm.Free.JM Jvm.Free
open Jvm.Lib.Cold (StaticIs)
namespace ChN
def yN : MethodName := ⟨"java/lang/String", "charAt", "(I)C"⟩
abbrev yB : ByteArray := jdk_42_method_56_code
theorem d0 : decode yB 0 = .ok (.aload_n 0, 1) := by decide +kernel
theorem d1 : decode yB 1 = .ok (.invokevirtual 492, 3) := by decide +kernel
theorem d4 : decode yB 4 = .ok (.ifCond (.eq) 12, 3) := by decide +kernel
theorem d7 : decode yB 7 = .ok (.aload_n 0, 1) := by decide +kernel
theorem d8 : decode yB 8 = .ok (.getfield 9, 3) := by decide +kernel
theorem d11 : decode yB 11 = .ok (.iload_n 1, 1) := by decide +kernel
theorem d12 : decode yB 12 = .ok (.invokestatic 495, 3) := by decide +kernel
theorem d15 : decode yB 15 = .ok (.ireturn, 1) := by decide +kernel
def site : List Cond := [.fieldLink "java/lang/String" 9 "java/lang/String" "value" "[B", IsL.tab, LChA.tab] ++ virtW "java/lang/String" 492 "java/lang/String" IsL.yN IsL.yN ++ staticW "java/lang/String" 495 LChA.yN
def tab : Cond := tabOf yN yB 2 (some .char) site
def P (x t : Addr) (V : Cell) (n : Nat) (f : Nat → Int32) (z : Int32) (fm : Value) (i : Nat) (args : Array Value) (s : State) : Prop := args = #[.ref x, .int (Int32.ofNat i)] ∧ Txt x t V 0 n f s ∧ i < n ∧ StaticIs s "java/lang/String" "COMPACT_STRINGS" "Z" (.int z) ∧ ¬ z = 0 ∧ StaticIs s "jdk/internal/util/Preconditions" "SIOOBE_FORMATTER" "Ljava/util/function/BiFunction;" fm ∧ fm.isRef = true
def E (f : Nat → Int32) (i : Nat) (r : Option Value) (s u : State) : Prop := XT.PureE (some (.int (f i))) r s u
/-- charAt(i) of a Latin-1 String of n chars, i < n: f i -/
theorem law (l : Launch) (x t : Addr) (V : Cell) (n : Nat) (f : Nat → Int32) (z : Int32) (fm : Value) (i : Nat) : Law l yN 2 1 3 40 yB 2 (some .char) site (P x t V n f z fm i) (E f i) [] 0 0 := by
  refine Law.of_walk (plainFor_of_name (by decide +kernel)) (by decide +kernel) (by decide +kernel) (by decide) (fun _ _ h => by rw [h.1]; rfl) (fun _ U U' hal hh h => ⟨h.1, h.2.1.mv hal hh, h.2.2.1, h.2.2.2.1.there hal hh, h.2.2.2.2.1, h.2.2.2.2.2.1.there hal hh, h.2.2.2.2.2.2⟩) (fun r U U' V V' h1 hal h2 h => XT.PureE.mv r U U' V V' h1 hal h2 h) ?_
  intro p e s m args below meth c s₁ X0 hexec hbytes hml hret hlk hnm hown hh0 W hP
  obtain ⟨rfl, hx, hi, s1, hz, s3, rf⟩ := hP
  have v31 := hx.2.2.2.1.2.2.2
  have hr := hx.2.2.2.2.2 i hi
  have hx0 := hx.mv X0.warmed.alike hh0
  have c1 : Steps p.tables e below (s₁.setTop (entryFrame m #[.ref x, .int (Int32.ofNat i)] 2)) (s₁.setTop (mkF m 1 #[.val (.ref x), .val (.int (Int32.ofNat i))] [.ref x])) := Steps.trans (entry rfl) (by
    show Steps p.tables e below (s₁.setTop (mkF m 0 #[.val (.ref x), .val (.int (Int32.ofNat i))] [])) _
    refine XS.aloadN X0.here hexec rfl (hb hbytes d0) rfl rfl ?_
    exact Steps.refl _)
  obtain ⟨v2, T2, X2, E2, g2⟩ := X0.callV hexec (IsL.law l x 0 z) hown (wks W (virtW "java/lang/String" 492 "java/lang/String" IsL.yN IsL.yN)) rfl (by decide) (wk W IsL.tab) (W := 0) (Nat.le_of_ble_eq_true rfl) (Nat.le_of_ble_eq_true rfl) (Nat.le_refl _) (Nat.le_refl _) (hx0.1.fc X0.warmed.alike) hx0.1.is (g := (mkF m 1 #[.val (.ref x), .val (.int (Int32.ofNat i))] [.ref x])) rfl (by rw [hml]; rfl) c1 (argsL := []) (rest := []) rfl rfl (by show 2 * 0 + 0 ≤ _; decide) (hb hbytes d1) (⟨rfl, hx0.2.2.1, hx.2.2.2.2.1.cd, s1.there X0.warmed.alike hh0, hz⟩)
  obtain ⟨rfl, q2⟩ := E2
  have hh2 := q2.trans hh0
  have hx2 := hx.mv X2.warmed.alike hh2
  obtain ⟨-, k1, k2⟩ | ⟨k0, -⟩ := hx.2.2.2.2.1
  · have c3 : Steps p.tables e below (s₁.setTop (entryFrame m #[.ref x, .int (Int32.ofNat i)] 2)) (T2.setTop (mkF m 8 #[.val (.ref x), .val (.int (Int32.ofNat i))] [.ref x])) := Steps.trans g2 (by
      refine XS.ifNo X2.here hexec rfl (hb hbytes d4) rfl (i0_eq_f (by decide)) ?_
      refine XS.aloadN X2.here hexec rfl (hb hbytes d7) rfl rfl ?_
      exact Steps.refl _)
    obtain ⟨T4, X4, q4, st4⟩ := X2.hget hexec hown (wk W (.fieldLink "java/lang/String" 9 "java/lang/String" "value" "[B")) hx2.2.1 (g := (mkF m 8 #[.val (.ref x), .val (.int (Int32.ofNat i))] [.ref x])) rfl (rest := []) rfl (hb hbytes d8)
    have hh4 := q4.trans hh2
    have c5 : Steps p.tables e below (s₁.setTop (entryFrame m #[.ref x, .int (Int32.ofNat i)] 2)) (T4.setTop (mkF m 12 #[.val (.ref x), .val (.int (Int32.ofNat i))] [.int (Int32.ofNat i), .ref t])) := (c3.trans (st4 _ (Steps.refl _))).trans (by
      refine XS.iloadN X4.here hexec rfl (hb hbytes d11) rfl ?_
      exact Steps.refl _)
    obtain ⟨v6, T6, X6, E6, g6⟩ := X4.callS hexec (LChA.law l t V i (lo8 (f i)) fm) hown (wks W (staticW "java/lang/String" 495 LChA.yN)) (wk W LChA.tab) (W := 0) (Nat.le_of_ble_eq_true rfl) (Nat.le_of_ble_eq_true rfl) (Nat.le_refl _) (Nat.le_refl _) (g := (mkF m 12 #[.val (.ref x), .val (.int (Int32.ofNat i))] [.int (Int32.ofNat i), .ref t])) rfl (by rw [hml]; rfl) c5 (argsL := [.ref t, .int (Int32.ofNat i)]) (rest := []) rfl rfl (by show 2 * 0 + 0 ≤ _; decide) (hb hbytes d12) (⟨rfl, hx.2.2.2.1.mv X4.warmed.alike hh4, (k2 i hi).1, s3.there X4.warmed.alike hh4, rf⟩)
    obtain ⟨rfl, q6⟩ := E6
    rw [chr8_lo8 hr.1 (k2 i hi).2] at g6
    exact ⟨T6, some (.int (f i)), _, _, _, X6, rfl, rfl, rfl, (fun h => by cases h), ⟨rfl, q6.trans hh4⟩, fun fs hl => Steps.trans g6 (X6.ireturnOut hexec hret (narrow_ch hr.1 hr.2) (Or.inr (Or.inr (Or.inr (Or.inl rfl)))) (hb hbytes d15) hl)⟩
  · exact absurd k0 (by decide)
theorem pays {l : Launch} {R : Room} {p : Program} {e : Env} {below : List Frame} {s : State} {sargs : Array Value} {len W : Nat} (x t : Addr) (V : Cell) (n : Nat) (f : Nat → Int32) (z : Int32) (fm : Value) (i : Nat) (htab : tab.before sargs s = true) (hfr : 4 ≤ R.frames) (hlo : W + 53 ≤ R.locals) :
    Back l R p e below s sargs yN len W (fun A₁ a₁ => A₁.cells + 0 ≤ R.cells ∧ A₁.slots + 0 ≤ R.slots ∧ P x t V n f z fm i a₁ A₁.U) (fun A₁ _ v₁ B₁ => E f i v₁ A₁.U B₁.U ∧ B₁.locs = A₁.locs ++ [] ∧ B₁.cells = A₁.cells + 0 ∧ B₁.slots = A₁.slots + 0) :=
  (law l x t V n f z fm i).pays htab hfr (by omega)
end ChN
end StrChars
namespace StrChars.Road
open Jvm Sem ClassFile Op Lib Jvm.Stand Jvm.Free Jvm.Free.XT
open Jvm.Lib.Cold (StaticIs)
/-- the words of String.charAt(int), the Latin-1 road alone -/
abbrev wordsChN : List Jvm.Cond := [.code ChN.yN ChN.yB 2 (some .char), .initialized ST, .fieldLink ST 9 ST "value" "[B", .fieldLink ST 38 ST "COMPACT_STRINGS" "Z", .fieldLink ST 15 ST "coder" "B", .code IsL.yN IsL.yB 1 (some .boolean), .methodLink ST 492 IsL.yN, .declares IsL.yN, .selects ST IsL.yN IsL.yN, .instanceMethod IsL.yN,
  .methodLink ST 495 LChA.yN, .static LChA.yN, .code LChA.yN LChA.yB 2 (some .char), .initialized "java/lang/StringLatin1", .methodLink "java/lang/StringLatin1" 9 JO.Str_checkIndex.yN, .static JO.Str_checkIndex.yN, .code JO.Str_checkIndex.yN JO.Str_checkIndex.yB 2 none,
  .fieldLink ST 1053 "jdk/internal/util/Preconditions" "SIOOBE_FORMATTER" "Ljava/util/function/BiFunction;", .methodLink ST 1059 JC.PreCheck.yN, .static JC.PreCheck.yN, .code JC.PreCheck.yN JC.PreCheck.yB 3 (some .int), .initialized "jdk/internal/util/Preconditions"]
theorem tabChN_of {a : Array Value} {s : State} (h : ∀ w ∈ wordsChN, w.before a s = true) : ChN.tab.before a s = true := by
  have hp : JC.PreCheck.tab.before a s = true := unparts (wk h (.code JC.PreCheck.yN JC.PreCheck.yB 3 (some .int))) (wks h (.initialized JC.PreCheck.yN.cls :: JC.PreCheck.site))
  have qk := consq hp h
  have hk : JO.Str_checkIndex.tab.before a s = true := unparts (wk qk (.code JO.Str_checkIndex.yN JO.Str_checkIndex.yB 2 none)) (wks qk (.initialized JO.Str_checkIndex.yN.cls :: JO.Str_checkIndex.site))
  have ql := consq hk h
  have hl : LChA.tab.before a s = true := unparts (wk ql (.code LChA.yN LChA.yB 2 (some .char))) (wks ql (.initialized LChA.yN.cls :: LChA.site))
  have hi : IsL.tab.before a s = true := unparts (wk h (.code IsL.yN IsL.yB 1 (some .boolean))) (wks h (.initialized IsL.yN.cls :: IsL.site))
  have q := consq hi (consq hl h)
  exact unparts (wk q (.code ChN.yN ChN.yB 2 (some .char))) (wks q (.initialized ChN.yN.cls :: ChN.site))
theorem movedChN {Z s : State} {a0 args : Array Value} (hZ : Z.Warmed39 s.vm) (hw : ∀ d ∈ wordsChN, d.before a0 Z = true) : ∀ d ∈ wordsChN, d.before args s = true := fun d hd => by
  have t : ∀ d ∈ wordsChN, (d.onTables && d.keepsFace) = true := by decide +kernel
  exact RoadKit.mv hZ (hw d hd) (t d hd)
/-- **charAt(i) OF A LATIN-1 STRING**, i < n: the char -/
theorem chN {p : Program} {l : Launch} {e : Env} {R : Room} {s : State} {args : Array Value} {below : List Frame} {len W : Nat} {Z : State} {a0 : Array Value} {h : Heap} (hZ : Z.Warmed39 s.vm) (hw : ∀ d ∈ wordsChN, d.before a0 Z = true) {kI : Nat} (wi : (Jvm.Cond.instantiable ST kI).before a0 Z = true)
    {x t : Addr} {kb : ClassId} {cs : List Int32} {N2 z : Int32} {vs : List Value} {fm : Value} {i : Nat} {j : Int32} (E : RoadKit.Exa Z h x ST) (V : RoadKit.Fld Z h x ST "value" "[B" (.ref t)) (C : RoadKit.Fld Z h x ST "coder" "B" (.int 0)) (K : RoadKit.Arv Z h t kb .byte N2 vs (.int 0)) (hc : CodA cs 0 N2 vs) (hb : ∀ c ∈ cs, ¬ c < 0 ∧ ¬ (65535 : Int32) < c)
    (S : RoadKit.Sta Z h ST "COMPACT_STRINGS" "Z" (.int z)) (hz : ¬ z = 0) (F : RoadKit.Sta Z h "jdk/internal/util/Preconditions" "SIOOBE_FORMATTER" "Ljava/util/function/BiFunction;" fm) (rf : fm.isRef = true) (l2 : cs.length ≤ 4000) (hi : i < cs.length) (hj : j = Int32.ofNat i) (hfr : 4 ≤ R.frames) (hlo : W + 53 ≤ R.locals) :
    Back l R p e below s args (⟨"java/lang/String", "charAt", "(I)C"⟩ : MethodName) len W (fun P a => a = #[.ref x, .int j] ∧ P.U.heap = h ∧ P.cells + 0 ≤ R.cells ∧ P.slots + 0 ≤ R.slots)
      (fun P _ v B => ∃ L, (v = some (.int (cs.getD i 0)) ∧ L = [] ∧ B.U.heap = h) ∧ B.locs = P.locs ++ L ∧ B.cells = P.cells + 0 ∧ B.slots = P.slots + 0) := by
  subst hj
  intro m meth c P g ig mk a X hg hsize hdg hW hn hp'
  obtain ⟨rfl, rfl, r1, r2⟩ := hp'
  have al : Z.vm.Alike P.U.vm := hZ.alike.trans X.warmed.alike
  obtain ⟨A, hx⟩ := txt_of wi al E V C K hc hb l2
  obtain ⟨v, B, X', ⟨⟨hv, hh⟩, hl, hk, hs⟩, st⟩ := ChN.pays x t A cs.length (fun j => cs.getD j 0) z fm i (tabChN_of (movedChN hZ hw)) hfr hlo m meth c P g ig mk _ X hg hsize hdg hW hn ⟨r1, r2, rfl, hx, hi, sta_is al S, hz, sta_is al F, rf⟩
  exact ⟨v, B, X', ⟨[], ⟨hv, rfl, hh⟩, hl, hk, hs⟩, st⟩
/-- what backV says of its String, as the contracts of this text ask it: cs's low bytes, coder 0 -/
theorem codOf {cs : List Int32} {n : Nat} (hn : cs.length = n) (hb : ∀ c ∈ cs, ¬ 255 < c) : CodA cs 0 (Int32.ofNat n) ((cs.map lo8).map Value.int) := Or.inl ⟨rfl, by rw [hn], by simp [List.map_map, Function.comp_def], hb⟩
end StrChars.Road
end Jvm.Pilot.@@N@@

namespace Jvm.Pilot.@@N@@
open Jvm Jvm.ClassFile Sem Op Lib Jvm.Free Jvm.Stand Jvm.LawKit Jvm.RoadKit Bundle Jvm.Pilot.@@N@@.Jvm.D
abbrev hWt (a0 : Array Value) (Z : State) : Prop := ∀ d ∈ tables_1, d.before a0 Z = true
abbrev vR (x : Nat) : Slot := .val (.ref x)
abbrev vI (x : Int32) : Slot := .val (.int x)
/-- what is left to show at a state of the walk -/
def own_G (p : Program) (e : Env) (below : List Frame) (Q : Outcome → State → Prop) (S : State) : Prop := ∃ s₂ o, Steps p.tables e below S s₂ ∧ s₂.status = .running ∧ Ended s₂ below o ∧ Q o s₂
theorem own_st {p : Program} {e : Env} {below : List Frame} {Q : Outcome → State → Prop} {S S' : State} (h : ∀ t, Steps p.tables e below S' t → Steps p.tables e below S t) (g : own_G p e below Q S') : own_G p e below Q S := by
  obtain ⟨s₂, o, a, b⟩ := g
  exact ⟨s₂, o, h _ a, b⟩
theorem s_iloadN {p : Program} {l : Launch} {e : Env} {R : Room} {s : State} {m : MethodId} {args : Array Value} {below : List Frame} {meth : Method} {c : Code} {T : State} {locs : List Loc} {cells slots : Nat} {Q : Outcome → State → Prop} {pc : Nat} {Ls : Array Slot} {S : List Value} (X : Stand p l e R s m args below meth c T locs cells slots) (hx : p.tables.exec = Jvm.exec) {k : Fin 4} {v : Int32} (hd : decode c.code pc = .ok (.iload_n k, 1)) (hl : Ls[k.val]? = some (.val (.int v))) (k : own_G p e below Q (T.setTop (mkF m (pc + 1) Ls (.int v :: S)))) : own_G p e below Q (T.setTop (mkF m pc Ls S)) := own_st (fun tq kq => XS.iloadN X.here hx rfl hd hl kq) k
theorem s_iload {p : Program} {l : Launch} {e : Env} {R : Room} {s : State} {m : MethodId} {args : Array Value} {below : List Frame} {meth : Method} {c : Code} {T : State} {locs : List Loc} {cells slots : Nat} {Q : Outcome → State → Prop} {pc : Nat} {Ls : Array Slot} {S : List Value} (X : Stand p l e R s m args below meth c T locs cells slots) (hx : p.tables.exec = Jvm.exec) {k : Nat} {v : Int32} (hd : decode c.code pc = .ok (.iload k, 2)) (hl : Ls[k]? = some (.val (.int v))) (k : own_G p e below Q (T.setTop (mkF m (pc + 2) Ls (.int v :: S)))) : own_G p e below Q (T.setTop (mkF m pc Ls S)) := own_st (fun tq kq => XS.iload X.here hx rfl hd hl kq) k
theorem s_aloadN {p : Program} {l : Launch} {e : Env} {R : Room} {s : State} {m : MethodId} {args : Array Value} {below : List Frame} {meth : Method} {c : Code} {T : State} {locs : List Loc} {cells slots : Nat} {Q : Outcome → State → Prop} {pc : Nat} {Ls : Array Slot} {S : List Value} (X : Stand p l e R s m args below meth c T locs cells slots) (hx : p.tables.exec = Jvm.exec) {k : Fin 4} {v : Value} (hd : decode c.code pc = .ok (.aload_n k, 1)) (hl : Ls[k.val]? = some (.val v)) (hv : v.isRef = true) (k : own_G p e below Q (T.setTop (mkF m (pc + 1) Ls (v :: S)))) : own_G p e below Q (T.setTop (mkF m pc Ls S)) := own_st (fun tq kq => XS.aloadN X.here hx rfl hd hl hv kq) k
theorem s_aload {p : Program} {l : Launch} {e : Env} {R : Room} {s : State} {m : MethodId} {args : Array Value} {below : List Frame} {meth : Method} {c : Code} {T : State} {locs : List Loc} {cells slots : Nat} {Q : Outcome → State → Prop} {pc : Nat} {Ls : Array Slot} {S : List Value} (X : Stand p l e R s m args below meth c T locs cells slots) (hx : p.tables.exec = Jvm.exec) {k : Nat} {v : Value} (hd : decode c.code pc = .ok (.aload k, 2)) (hl : Ls[k]? = some (.val v)) (hv : v.isRef = true) (k : own_G p e below Q (T.setTop (mkF m (pc + 2) Ls (v :: S)))) : own_G p e below Q (T.setTop (mkF m pc Ls S)) := own_st (fun tq kq => XS.aload X.here hx rfl hd hl hv kq) k
theorem s_iconst {p : Program} {l : Launch} {e : Env} {R : Room} {s : State} {m : MethodId} {args : Array Value} {below : List Frame} {meth : Method} {c : Code} {T : State} {locs : List Loc} {cells slots : Nat} {Q : Outcome → State → Prop} {pc : Nat} {Ls : Array Slot} {S : List Value} (X : Stand p l e R s m args below meth c T locs cells slots) (hx : p.tables.exec = Jvm.exec) {i : Int} (hd : decode c.code pc = .ok (.iconst i, 1))  (k : own_G p e below Q (T.setTop (mkF m (pc + 1) Ls (.int (Int32.ofInt i) :: S)))) : own_G p e below Q (T.setTop (mkF m pc Ls S)) := own_st (fun tq kq => XS.iconst X.here hx rfl hd  kq) k
theorem s_bipush {p : Program} {l : Launch} {e : Env} {R : Room} {s : State} {m : MethodId} {args : Array Value} {below : List Frame} {meth : Method} {c : Code} {T : State} {locs : List Loc} {cells slots : Nat} {Q : Outcome → State → Prop} {pc : Nat} {Ls : Array Slot} {S : List Value} (X : Stand p l e R s m args below meth c T locs cells slots) (hx : p.tables.exec = Jvm.exec) {i : Int} (hd : decode c.code pc = .ok (.bipush i, 2))  (k : own_G p e below Q (T.setTop (mkF m (pc + 2) Ls (.int (Int8.ofInt i).toInt32 :: S)))) : own_G p e below Q (T.setTop (mkF m pc Ls S)) := own_st (fun tq kq => XS.bipush X.here hx rfl hd  kq) k
theorem s_sipush {p : Program} {l : Launch} {e : Env} {R : Room} {s : State} {m : MethodId} {args : Array Value} {below : List Frame} {meth : Method} {c : Code} {T : State} {locs : List Loc} {cells slots : Nat} {Q : Outcome → State → Prop} {pc : Nat} {Ls : Array Slot} {S : List Value} (X : Stand p l e R s m args below meth c T locs cells slots) (hx : p.tables.exec = Jvm.exec) {i : Int} (hd : decode c.code pc = .ok (.sipush i, 3))  (k : own_G p e below Q (T.setTop (mkF m (pc + 3) Ls (.int (Int16.ofInt i).toInt32 :: S)))) : own_G p e below Q (T.setTop (mkF m pc Ls S)) := own_st (fun tq kq => XS.sipush X.here hx rfl hd  kq) k
theorem own_lt {a b : Nat} (h : a < b) : a < b := h
theorem own_le {a b : Nat} (h : a ≤ b) : a ≤ b := h
theorem own_ne {a b : Nat} (h : a ≠ b) : a ≠ b := h
theorem own_since (s : State) : s.Since s.vm 0 := (State.WarmedH.refl s).since 0
/-- a contract's start: the arguments, the tables, the heap, the constants held, what may be written is no constant's -/
def own_P (Z : State) (EL : List (String × Nat)) (as : Array Value) (h : Heap) (ws : List Addr) : Array Value → State → Prop := fun a U => a = as ∧ Z.Warmed39 U.vm ∧ U.heap = h ∧ CHv Z EL U.vm h ∧ ∀ x ∈ ws, Safe Z EL U.vm h x
/-- a contract's end -/
def own_E (Z : State) (EL : List (String × Nat)) (Q : Option Value → Vm → Heap → List Loc → Prop) (rm : Room) : Array Value → State → Outcome → State → Prop := fun _ U o U' => ∃ v L, o = .returned v ∧ Q v U'.vm U'.heap L ∧ CHr Z EL U.vm U.heap U'.vm U'.heap ∧ ReturnedEndW U o U' L rm.cells rm.slots
theorem own_RW {U U' : State} {o : Outcome} {L : List Loc} {k n k' n' : Nat} (h : ReturnedEndW U o U' L k n) (h1 : k ≤ k') (h2 : n ≤ n') : ReturnedEndW U o U' L k' n' := ⟨h.1, h.2.1, h.2.2.1, h.2.2.2.mono h1 h2⟩
/-- a callee that may load constants, by its contract -/
theorem own_back {p : Program} {l : Launch} {e : Env} {R : Room} {s : State} {args : Array Value} {below : List Frame} {Z : State} {a0 : Array Value} {EL : List (String × Nat)} {h : Heap} {vm0 : Vm} {y : MethodName} {bytes : ByteArray} {maxL : Nat} {ret : Option FieldType} {rm : Room} {len W : Nat} {as' : Array Value} {ws : List Addr} {Q : Option Value → Vm → Heap → List Loc → Prop}
    (hM : MetFree l y (head1 [Cond.code y bytes maxL ret] rm) (own_P Z EL as' h ws) (fun _ _ _ _ _ => True) (own_E Z EL Q rm))
    (hZ : Z.Warmed39 vm0) (wc : (Cond.code y bytes maxL ret).before a0 Z = true) (wz : (Cond.initialized y.cls).before a0 Z = true) (hf : rm.frames + 1 ≤ R.frames) (hl : W + (maxL + 11) + rm.locals ≤ R.locals) (hEL : EW Z a0 EL) (H : CHv Z EL vm0 h) (hs : ∀ x ∈ ws, x < h.size ∧ Safe Z EL vm0 h x) :
    BackS l R p e below (s.setVm vm0) args y len W (fun A a => a = as' ∧ A.U.heap = h ∧ A.cells + rm.cells ≤ R.cells ∧ A.slots + rm.slots ≤ R.slots)
      (fun A _ v B => ∃ L, Q v B.U.vm B.U.heap L ∧ B.locs = A.locs ++ L ∧ B.cells = A.cells + rm.cells ∧ B.slots = A.slots + rm.slots ∧ CHr Z EL vm0 h B.U.vm B.U.heap) := by
  refine BackS.of_freeW (bytes := bytes) (maxL := maxL) (ret := ret) (E := fun _ first o t L k n => k = rm.cells ∧ n = rm.slots ∧ (∃ v, o = .returned v ∧ Q v t.vm t.heap L) ∧ CHr Z EL first.vm first.heap t.vm t.heap) hM hf hl ?_ ?_ (fun _ _ _ _ _ _ _ _ _ => trivial) ?_ ?_
  · intro m meth c A a Y hp
    have hU : Z.Warmed39 A.U.vm := wtrans (s := s.setVm vm0) hZ Y.warmed
    exact ⟨by show (Cond.and _ .tt).before a A.U = true; rw [Cond.before_and, mv hU wc]; rfl, mv hU wc, mv hU wz, hp.2.2.1, hp.2.2.2⟩
  · intro m meth c A a g mk Y hp
    have q := CHv.at Y hZ hEL H
    exact ⟨hp.1, wtrans (s := s.setVm vm0) hZ Y.warmed, hp.2.1, q.1, fun x hx => q.safe (hs x hx).1 (hs x hx).2⟩
  · rintro _ _ _ _ ⟨v, L, h1, h2, h3, h4⟩
    exact ⟨L, _, _, h4, rfl, rfl, ⟨v, h1, h2⟩, h3⟩
  · rintro m meth c A a g mk v t L k n Y hp _ _ ⟨e1, e2, ⟨v', e3, e4⟩, e5⟩
    cases e3; subst e1 e2
    refine ⟨L, e4, rfl, rfl, rfl, (CHv.at Y hZ hEL H).trans ?_⟩
    rw [← hp.2.1]; exact e5
/-- the end of a contract that loads no constant -/
def own_EN (Q : Option Value → Heap → List Loc → Prop) (rm : Room) : Array Value → State → Outcome → State → Prop := fun _ U o U' => ∃ v L, o = .returned v ∧ Q v U'.heap L ∧ FrameEnd U o U' L rm.cells rm.slots
theorem own_backN {p : Program} {l : Launch} {e : Env} {R : Room} {s : State} {args : Array Value} {below : List Frame} {Z : State} {a0 : Array Value} {h : Heap} {y : MethodName} {bytes : ByteArray} {maxL : Nat} {ret : Option FieldType} {rm : Room} {len W : Nat} {as' : Array Value} {Q : Option Value → Heap → List Loc → Prop}
    (hM : MetFree l y (head1 [Cond.code y bytes maxL ret] rm) (fun a U => a = as' ∧ Z.Warmed39 U.vm ∧ U.heap = h) (fun _ _ _ _ _ => True) (own_EN Q rm))
    (hZ : Z.Warmed39 s.vm) (wc : (Cond.code y bytes maxL ret).before a0 Z = true) (wz : (Cond.initialized y.cls).before a0 Z = true) (hf : rm.frames + 1 ≤ R.frames) (hl : W + (maxL + 11) + rm.locals ≤ R.locals) :
    Back l R p e below s args y len W (fun A a => a = as' ∧ A.U.heap = h ∧ A.cells + rm.cells ≤ R.cells ∧ A.slots + rm.slots ≤ R.slots)
      (fun A _ v B => ∃ L, Q v B.U.heap L ∧ B.locs = A.locs ++ L ∧ B.cells = A.cells + rm.cells ∧ B.slots = A.slots + rm.slots) := backOf (Q := Q) hM hZ wc wz hf hl
theorem own_wS {a0 : Array Value} {Z : State} (hw : ∀ d ∈ tables_1, d.before a0 Z = true) : ∀ a ∈ Bundle.stringAtoms, a.before a0 Z = true := fun d hd => hw d ((by decide +kernel : ∀ d ∈ Bundle.stringAtoms, d ∈ tables_1) d hd)
theorem own_and255 (x : Int32) : ¬ nar .char ((x &&& (255 : Int32)).toUInt32.toUInt16.toUInt32.toInt32) < 0 ∧ ¬ (255 : Int32) < nar .char ((x &&& (255 : Int32)).toUInt32.toUInt16.toUInt32.toInt32) := by
  have t : ∀ k : Fin 256, ¬ nar .char ((Int32.ofNat k.val).toUInt32.toUInt16.toUInt32.toInt32) < 0 ∧ ¬ (255 : Int32) < nar .char ((Int32.ofNat k.val).toUInt32.toUInt16.toUInt32.toInt32) := by decide +kernel
  have h : (x &&& 255).toBitVec.toNat < 256 := by
    simp only [Int32.toBitVec_and, BitVec.toNat_and]
    exact Nat.lt_succ_of_le Nat.and_le_right
  have e : (x &&& 255) = Int32.ofNat (x &&& 255).toBitVec.toNat := by
    apply Int32.toBitVec_inj.mp
    show _ = BitVec.ofNat 32 _
    rw [BitVec.ofNat_toNat]; simp
  rw [e]
  exact t ⟨_, h⟩
theorem own_and255b (x : Int32) : ¬ ((x &&& (255 : Int32)).toUInt32.toUInt16.toUInt32.toInt32) < 0 ∧ ¬ (255 : Int32) < ((x &&& (255 : Int32)).toUInt32.toUInt16.toUInt32.toInt32) := by
  have e : nar .char ((x &&& (255 : Int32)).toUInt32.toUInt16.toUInt32.toInt32) = ((x &&& (255 : Int32)).toUInt32.toUInt16.toUInt32.toInt32) := by simp only [nar, UInt32.toUInt32_toInt32, UInt16.toUInt16_toUInt32]
  have q := own_and255 x
  rw [e] at q
  exact q
/-- a word of the sheet -/
theorem own_wd {a0 : Array Value} {Z : State} (hw : hWt a0 Z) (i : Nat) {d : Cond} (h : tables_1[i]? = some d) : d.before a0 Z = true := hw _ (List.mem_of_getElem? h)
/-- a contract that loads no constant -/
abbrev own_MN (l : Launch) (y : MethodName) (bytes : ByteArray) (maxL : Nat) (ret : Option FieldType) (ws : List Cond) (rm : Room) (Z : State) (A : Array Value) (h0 : Heap) (Q : Option Value → Heap → List Loc → Prop) : Prop := MetFree l y (head1 (Cond.code y bytes maxL ret :: ws) rm) (fun av_ U => av_ = A ∧ Z.Warmed39 U.vm ∧ U.heap = h0) (fun _ _ _ _ _ => True) (own_EN Q rm)
/-- its body's walk -/
theorem own_bodyN {l : Launch} {y : MethodName} {bytes : ByteArray} {maxL : Nat} {ret : Option FieldType} {ws : List Cond} {rm : Room} {Z : State} {A : Array Value} {h0 : Heap} {Q : Option Value → Heap → List Loc → Prop} (hy : plainFor y = true)
    (k : ∀ p e s m below meth c s₁, BodyLoose p l y (head1 (Cond.code y bytes maxL ret :: ws) rm) bytes maxL ret e s m A below meth c s₁ → p.tables.exec = Jvm.exec → c.code = bytes → c.maxLocals = maxL → s.vm.findClass y.cls = some m.cls → Z.Warmed39 s.vm → Stand p l e rm s m A below meth c s₁ [] 0 0 → s₁.heap = h0 → own_G p e below (own_EN Q rm A s) (s₁.setTop (entryFrame m A maxL))) : own_MN l y bytes maxL ret ws rm Z A h0 Q := by
  refine MetFree.of_bodySF hy hisR ?_
  intro p e s m args below meth c s₁ Bd hml hP hK
  obtain ⟨rfl, hZ, hh⟩ := hP
  exact k p e s m below meth c s₁ Bd Bd.exec Bd.bytes hml (findClass_of_methodNamed Bd.named) hZ (Stand.of_body Bd) (by rw [← hh, Bd.state]; rfl)

/-- a String of known chars below 256; a, and its byte[], lie below n -/
def own_Str (Z : State) (n : Nat) (h : Heap) (a : Nat) (cs : List Int32) : Prop := a < n ∧ Exa Z h a "java/lang/String" ∧ (∀ c ∈ cs, ¬ c < 0 ∧ ¬ (255 : Int32) < c) ∧ cs.length ≤ 4000 ∧ ∃ (t : Nat) (kb : ClassId), t < n ∧ Fld Z h a "java/lang/String" "value" "[B" (.ref t) ∧ Fld Z h a "java/lang/String" "coder" "B" (.int 0) ∧ Arv Z h t kb .byte (Int32.ofNat cs.length) ((cs.map fun c => c.toInt8.toInt32).map Value.int) (.int 0)
theorem own_Str.keep {Z : State} {n : Nat} {h h' : Heap} {a : Nat} {cs : List Int32} {ws : List Addr} (F : own_Str Z n h a cs) (K : Keep h h' ws) (q : ∀ x ∈ ws, n ≤ x) : own_Str Z n h' a cs := by
  obtain ⟨f1, f2, f3, f4, t, kb, f5, f6, f7, f8⟩ := F
  exact ⟨f1, f2.keep K, f3, f4, t, kb, f5, f6.keep K (fun m => absurd f1 (Nat.not_lt.mpr (q _ m))), f7.keep K (fun m => absurd f1 (Nat.not_lt.mpr (q _ m))), f8.keep K (fun m => absurd f5 (Nat.not_lt.mpr (q _ m)))⟩
theorem own_Str.keepX {Z : State} {a0 : Array Value} {n k : Nat} {h h' : Heap} {a x : Nat} {C : String} {cs : List Int32} (F : own_Str Z n h a cs) (K : Keep h h' [x]) (E : Exa Z h x C) (w : (Cond.instantiable C k).before a0 Z = true) (hC : C ≠ "java/lang/String") : own_Str Z n h' a cs := by
  obtain ⟨f1, f2, f3, f4, t, kb, f5, f6, f7, f8⟩ := F
  have n1 : a ≠ x := fun q => (E.ne f2 hC) q.symm
  have n2 : t ≠ x := fun q => (E.neArv f8 w) q.symm
  exact ⟨f1, f2.keep K, f3, f4, t, kb, f5, f6.keep K (ninS n1 nin0), f7.keep K (ninS n1 nin0), f8.keep K (ninS n2 nin0)⟩
theorem own_Str.ext {Z : State} {n : Nat} {h h' : Heap} {a : Nat} {cs : List Int32} (F : own_Str Z n h a cs) (E : Ext h h') : own_Str Z n h' a cs := by
  obtain ⟨f1, f2, f3, f4, t, kb, f5, f6, f7, f8⟩ := F
  exact ⟨f1, f2.ext E, f3, f4, t, kb, f5, f6.ext E, f7.ext E, f8.ext E⟩
theorem own_Str.wr {Z : State} {n : Nat} {h h' : Heap} {a b : Nat} {sl : Nat} {v : Value} {cs : List Int32} (F : own_Str Z n h a cs) (W : Wr h h' b sl v) (q : n ≤ b) : own_Str Z n h' a cs := F.keep (Keep.of_wr W) (allS q all0)
theorem own_Str.mono {Z : State} {n n' : Nat} {h : Heap} {a : Nat} {cs : List Int32} (F : own_Str Z n h a cs) (q : n ≤ n') : own_Str Z n' h a cs := by
  obtain ⟨f1, f2, f3, f4, t, kb, f5, f6⟩ := F
  exact ⟨Nat.lt_of_lt_of_le f1 q, f2, f3, f4, t, kb, Nat.lt_of_lt_of_le f5 q, f6⟩
abbrev rm_0_0_0_0 : Room := { frames := 0, cells := 0, slots := 0, locals := 0 }
abbrev rm_1_0_0_20 : Room := { frames := 1, cells := 0, slots := 0, locals := 20 }
abbrev rm_1_1_2_14 : Room := { frames := 1, cells := 1, slots := 2, locals := 14 }
abbrev rm_1_1_4_14 : Room := { frames := 1, cells := 1, slots := 4, locals := 14 }
abbrev rm_1_1_6_14 : Room := { frames := 1, cells := 1, slots := 6, locals := 14 }
abbrev rm_1_2_4_12 : Room := { frames := 1, cells := 2, slots := 4, locals := 12 }
abbrev rm_2_0_0_40 : Room := { frames := 2, cells := 0, slots := 0, locals := 40 }
abbrev rm_2_1_2_40 : Room := { frames := 2, cells := 1, slots := 2, locals := 40 }
abbrev rm_2_1_4_40 : Room := { frames := 2, cells := 1, slots := 4, locals := 40 }
abbrev rm_2_1_6_40 : Room := { frames := 2, cells := 1, slots := 6, locals := 40 }
abbrev rm_2_2_4_29 : Room := { frames := 2, cells := 2, slots := 4, locals := 29 }
abbrev rm_3_0_0_60 : Room := { frames := 3, cells := 0, slots := 0, locals := 60 }
abbrev rm_3_2_3_70 : Room := { frames := 3, cells := 2, slots := 3, locals := 70 }
abbrev rm_3_2_6_70 : Room := { frames := 3, cells := 2, slots := 6, locals := 70 }
abbrev rm_3_2_9_70 : Room := { frames := 3, cells := 2, slots := 9, locals := 70 }
abbrev rm_4_0_0_80 : Room := { frames := 4, cells := 0, slots := 0, locals := 80 }
abbrev rm_4_2_3_95 : Room := { frames := 4, cells := 2, slots := 3, locals := 95 }
abbrev rm_4_2_6_95 : Room := { frames := 4, cells := 2, slots := 6, locals := 95 }
abbrev rm_4_2_9_95 : Room := { frames := 4, cells := 2, slots := 9, locals := 95 }
abbrev rm_5_0_0_96 : Room := { frames := 5, cells := 0, slots := 0, locals := 96 }
abbrev rm_5_0_0_100 : Room := { frames := 5, cells := 0, slots := 0, locals := 100 }
abbrev rm_5_2_3_115 : Room := { frames := 5, cells := 2, slots := 3, locals := 115 }
abbrev rm_5_2_6_115 : Room := { frames := 5, cells := 2, slots := 6, locals := 115 }
abbrev rm_5_2_9_115 : Room := { frames := 5, cells := 2, slots := 9, locals := 115 }
abbrev rm_6_0_0_120 : Room := { frames := 6, cells := 0, slots := 0, locals := 120 }
abbrev rm_7_0_0_140 : Room := { frames := 7, cells := 0, slots := 0, locals := 140 }
abbrev mN0 : MethodName := ⟨"java/lang/String", "<init>", "([CIILjava/lang/Void;)V"⟩
abbrev mN1 : MethodName := ⟨"java/lang/String", "<init>", "([C)V"⟩
abbrev mN2 : MethodName := ⟨"java/lang/StringUTF16", "getChar", "([BI)C"⟩
abbrev mN3 : MethodName := ⟨"java/lang/StringUTF16", "length", "([B)I"⟩
abbrev mN4 : MethodName := ⟨"java/lang/StringUTF16", "newBytesLength", "(I)I"⟩
abbrev mN5 : MethodName := ⟨"java/lang/StringUTF16", "newBytesFor", "(I)[B"⟩
abbrev mN6 : MethodName := ⟨"java/lang/StringUTF16", "putChar", "([BII)V"⟩
abbrev mN7 : MethodName := ⟨"java/lang/StringUTF16", "toBytes", "([CII)[B"⟩
abbrev mN8 : MethodName := ⟨"java/lang/StringUTF16", "coderFromArrayLen", "([BI)B"⟩
abbrev mN9 : MethodName := ⟨"java/lang/StringUTF16", "compress", "([CI[BII)I"⟩
abbrev mN10 : MethodName := ⟨"java/lang/StringUTF16", "compress", "([CII)[B"⟩
abbrev mN11 : MethodName := ⟨"jdk/internal/util/Preconditions", "checkIndex", "(IILjava/util/function/BiFunction;)I"⟩
abbrev mN12 : MethodName := ⟨"java/lang/String", "checkIndex", "(II)V"⟩
abbrev mN13 : MethodName := ⟨"java/lang/String", "isLatin1", "()Z"⟩
abbrev mN14 : MethodName := ⟨"java/lang/StringUTF16", "checkIndex", "(I[B)V"⟩
abbrev mN15 : MethodName := ⟨"java/lang/StringUTF16", "charAt", "([BI)C"⟩
abbrev mN16 : MethodName := ⟨"java/lang/String", "charAt", "(I)C"⟩
abbrev mN17 : MethodName := ⟨"com/example/ward/ward/BasicCredentials", "holdsControl", "(Ljava/lang/String;)Z"⟩
abbrev mN18 : MethodName := ⟨"java/lang/String", "length", "()I"⟩
abbrev mN19 : MethodName := ⟨"java/lang/Math", "max", "(II)I"⟩
abbrev mN20 : MethodName := ⟨"java/lang/StringLatin1", "canEncode", "(I)Z"⟩
abbrev mN21 : MethodName := ⟨"java/lang/Math", "min", "(II)I"⟩
abbrev mN22 : MethodName := ⟨"java/lang/StringLatin1", "indexOfChar", "([BIII)I"⟩
abbrev mN23 : MethodName := ⟨"java/lang/StringLatin1", "indexOf", "([BIII)I"⟩
abbrev mN24 : MethodName := ⟨"jdk/internal/util/Preconditions", "checkFromToIndex", "(IIILjava/util/function/BiFunction;)I"⟩
abbrev mN25 : MethodName := ⟨"java/lang/String", "checkBoundsBeginEnd", "(III)V"⟩
abbrev mN26 : MethodName := ⟨"java/lang/StringUTF16", "checkBoundsBeginEnd", "(II[B)V"⟩
abbrev mN27 : MethodName := ⟨"java/lang/StringUTF16", "indexOfCharUnsafe", "([BIII)I"⟩
abbrev mN28 : MethodName := ⟨"java/lang/StringUTF16", "indexOfChar", "([BIII)I"⟩
abbrev mN29 : MethodName := ⟨"java/lang/StringUTF16", "indexOf", "([BIII)I"⟩
abbrev mN30 : MethodName := ⟨"java/lang/String", "indexOf", "(II)I"⟩
abbrev mN31 : MethodName := ⟨"java/lang/String", "indexOf", "(I)I"⟩
abbrev mN32 : MethodName := ⟨"com/example/ward/ward/User", "isName", "(Ljava/lang/String;)Z"⟩
abbrev mN33 : MethodName := ⟨"java/lang/String", "isEmpty", "()Z"⟩
abbrev mN34 : MethodName := ⟨"com/example/ward/ward/UserIsNamePinLaw", "ok", "(C)Z"⟩
section
variable {a0 : Array Value} {Z : State}
theorem wd12 (hw : hWt a0 Z) : (Cond.methodLink "java/lang/String" (1 : Nat) ({ cls := "java/lang/Object", name := "<init>", desc := "()V" } : MethodName)).before a0 Z = true := own_wd hw 12 rfl
theorem wd13 (hw : hWt a0 Z) : (Cond.instanceMethod ({ cls := "java/lang/Object", name := "<init>", desc := "()V" } : MethodName)).before a0 Z = true := own_wd hw 13 rfl
theorem wd14 (hw : hWt a0 Z) : (Cond.code ({ cls := "java/lang/Object", name := "<init>", desc := "()V" } : MethodName) object_method_1_code (1 : Nat) (Option.none : Option FieldType)).before a0 Z = true := own_wd hw 14 rfl
theorem wd15 (hw : hWt a0 Z) : (Cond.stringLink "java/lang/String" (7 : Nat) "").before a0 Z = true := own_wd hw 15 rfl
theorem wd21 (hw : hWt a0 Z) : (Cond.fieldLink "java/lang/String" (9 : Nat) "java/lang/String" "value" "[B").before a0 Z = true := own_wd hw 21 rfl
theorem wd17 (hw : hWt a0 Z) : (Cond.laysFinal "java/lang/String" "java/lang/String" "value" "[B").before a0 Z = true := own_wd hw 17 rfl
theorem wd2 (hw : hWt a0 Z) : (Cond.instantiable "java/lang/String" (4 : Nat)).before a0 Z = true := own_wd hw 2 rfl
theorem wd22 (hw : hWt a0 Z) : (Cond.fieldLink "java/lang/String" (15 : Nat) "java/lang/String" "coder" "B").before a0 Z = true := own_wd hw 22 rfl
theorem wd18 (hw : hWt a0 Z) : (Cond.laysFinal "java/lang/String" "java/lang/String" "coder" "B").before a0 Z = true := own_wd hw 18 rfl
theorem wd8 (hw : hWt a0 Z) : (Cond.methodLink "java/lang/String" (27 : Nat) ({ cls := "java/lang/String", name := "<init>", desc := "([CIILjava/lang/Void;)V" } : MethodName)).before a0 Z = true := own_wd hw 8 rfl
theorem wd11 (hw : hWt a0 Z) : (Cond.code ({ cls := "java/lang/String", name := "<init>", desc := "([CIILjava/lang/Void;)V" } : MethodName) jdk_42_method_149_code (6 : Nat) (Option.none : Option FieldType)).before a0 Z = true := own_wd hw 11 rfl
theorem wd3 (hw : hWt a0 Z) : (Cond.initialized "java/lang/String").before a0 Z = true := own_wd hw 3 rfl
theorem wd9 (hw : hWt a0 Z) : (Cond.instanceMethod ({ cls := "java/lang/String", name := "<init>", desc := "([CIILjava/lang/Void;)V" } : MethodName)).before a0 Z = true := own_wd hw 9 rfl
theorem wd7 (hw : hWt a0 Z) : (Cond.code ({ cls := "java/lang/String", name := "<init>", desc := "([C)V" } : MethodName) jdk_42_method_3_code (2 : Nat) (Option.none : Option FieldType)).before a0 Z = true := own_wd hw 7 rfl
theorem wd123 (hw : hWt a0 Z) : (Cond.fieldLink "java/lang/StringUTF16" (44 : Nat) "java/lang/StringUTF16" "$assertionsDisabled" "Z").before a0 Z = true := own_wd hw 123 rfl
theorem wd124 (hw : hWt a0 Z) : (Cond.fieldLink "java/lang/StringUTF16" (59 : Nat) "java/lang/StringUTF16" "HI_BYTE_SHIFT" "I").before a0 Z = true := own_wd hw 124 rfl
theorem wd125 (hw : hWt a0 Z) : (Cond.fieldLink "java/lang/StringUTF16" (63 : Nat) "java/lang/StringUTF16" "LO_BYTE_SHIFT" "I").before a0 Z = true := own_wd hw 125 rfl
theorem wd119 (hw : hWt a0 Z) : (Cond.constant "java/lang/StringUTF16" (20 : Nat) (1073741823 : Int32)).before a0 Z = true := own_wd hw 119 rfl
theorem wd116 (hw : hWt a0 Z) : (Cond.methodLink "java/lang/StringUTF16" (11 : Nat) ({ cls := "java/lang/StringUTF16", name := "newBytesLength", desc := "(I)I" } : MethodName)).before a0 Z = true := own_wd hw 116 rfl
theorem wd118 (hw : hWt a0 Z) : (Cond.code ({ cls := "java/lang/StringUTF16", name := "newBytesLength", desc := "(I)I" } : MethodName) jdk_52_method_3_code (1 : Nat) (Option.some FieldType.int)).before a0 Z = true := own_wd hw 118 rfl
theorem wd35 (hw : hWt a0 Z) : (Cond.initialized "java/lang/StringUTF16").before a0 Z = true := own_wd hw 35 rfl
theorem wd117 (hw : hWt a0 Z) : (Cond.static ({ cls := "java/lang/StringUTF16", name := "newBytesLength", desc := "(I)I" } : MethodName)).before a0 Z = true := own_wd hw 117 rfl
theorem wd113 (hw : hWt a0 Z) : (Cond.methodLink "java/lang/StringUTF16" (107 : Nat) ({ cls := "java/lang/StringUTF16", name := "newBytesFor", desc := "(I)[B" } : MethodName)).before a0 Z = true := own_wd hw 113 rfl
theorem wd115 (hw : hWt a0 Z) : (Cond.code ({ cls := "java/lang/StringUTF16", name := "newBytesFor", desc := "(I)[B" } : MethodName) jdk_52_method_2_code (1 : Nat) (Option.some (FieldType.array FieldType.byte))).before a0 Z = true := own_wd hw 115 rfl
theorem wd114 (hw : hWt a0 Z) : (Cond.static ({ cls := "java/lang/StringUTF16", name := "newBytesFor", desc := "(I)[B" } : MethodName)).before a0 Z = true := own_wd hw 114 rfl
theorem wd120 (hw : hWt a0 Z) : (Cond.methodLink "java/lang/StringUTF16" (111 : Nat) ({ cls := "java/lang/StringUTF16", name := "putChar", desc := "([BII)V" } : MethodName)).before a0 Z = true := own_wd hw 120 rfl
theorem wd122 (hw : hWt a0 Z) : (Cond.code ({ cls := "java/lang/StringUTF16", name := "putChar", desc := "([BII)V" } : MethodName) jdk_52_method_4_code (3 : Nat) (Option.none : Option FieldType)).before a0 Z = true := own_wd hw 122 rfl
theorem wd121 (hw : hWt a0 Z) : (Cond.static ({ cls := "java/lang/StringUTF16", name := "putChar", desc := "([BII)V" } : MethodName)).before a0 Z = true := own_wd hw 121 rfl
theorem wd37 (hw : hWt a0 Z) : (Cond.methodLink "java/lang/StringUTF16" (115 : Nat) ({ cls := "java/lang/StringUTF16", name := "compress", desc := "([CI[BII)I" } : MethodName)).before a0 Z = true := own_wd hw 37 rfl
theorem wd39 (hw : hWt a0 Z) : (Cond.code ({ cls := "java/lang/StringUTF16", name := "compress", desc := "([CI[BII)I" } : MethodName) jdk_52_method_21_code (7 : Nat) (Option.some FieldType.int)).before a0 Z = true := own_wd hw 39 rfl
theorem wd38 (hw : hWt a0 Z) : (Cond.static ({ cls := "java/lang/StringUTF16", name := "compress", desc := "([CI[BII)I" } : MethodName)).before a0 Z = true := own_wd hw 38 rfl
theorem wd110 (hw : hWt a0 Z) : (Cond.methodLink "java/lang/StringUTF16" (119 : Nat) ({ cls := "java/lang/StringUTF16", name := "toBytes", desc := "([CII)[B" } : MethodName)).before a0 Z = true := own_wd hw 110 rfl
theorem wd112 (hw : hWt a0 Z) : (Cond.code ({ cls := "java/lang/StringUTF16", name := "toBytes", desc := "([CII)[B" } : MethodName) jdk_52_method_14_code (5 : Nat) (Option.some (FieldType.array FieldType.byte))).before a0 Z = true := own_wd hw 112 rfl
theorem wd111 (hw : hWt a0 Z) : (Cond.static ({ cls := "java/lang/StringUTF16", name := "toBytes", desc := "([CII)[B" } : MethodName)).before a0 Z = true := own_wd hw 111 rfl
theorem wd126 (hw : hWt a0 Z) : (Cond.methodLink "java/lang/StringUTF16" (71 : Nat) ({ cls := "java/lang/StringUTF16", name := "getChar", desc := "([BI)C" } : MethodName)).before a0 Z = true := own_wd hw 126 rfl
theorem wd128 (hw : hWt a0 Z) : (Cond.code ({ cls := "java/lang/StringUTF16", name := "getChar", desc := "([BI)C" } : MethodName) jdk_52_method_5_code (2 : Nat) (Option.some FieldType.char)).before a0 Z = true := own_wd hw 128 rfl
theorem wd127 (hw : hWt a0 Z) : (Cond.static ({ cls := "java/lang/StringUTF16", name := "getChar", desc := "([BI)C" } : MethodName)).before a0 Z = true := own_wd hw 127 rfl
theorem wd32 (hw : hWt a0 Z) : (Cond.fieldLink "java/lang/String" (38 : Nat) "java/lang/String" "COMPACT_STRINGS" "Z").before a0 Z = true := own_wd hw 32 rfl
theorem wd33 (hw : hWt a0 Z) : (Cond.methodLink "java/lang/String" (177 : Nat) ({ cls := "java/lang/StringUTF16", name := "compress", desc := "([CII)[B" } : MethodName)).before a0 Z = true := own_wd hw 33 rfl
theorem wd36 (hw : hWt a0 Z) : (Cond.code ({ cls := "java/lang/StringUTF16", name := "compress", desc := "([CII)[B" } : MethodName) jdk_52_method_16_code (6 : Nat) (Option.some (FieldType.array FieldType.byte))).before a0 Z = true := own_wd hw 36 rfl
theorem wd34 (hw : hWt a0 Z) : (Cond.static ({ cls := "java/lang/StringUTF16", name := "compress", desc := "([CII)[B" } : MethodName)).before a0 Z = true := own_wd hw 34 rfl
theorem wd40 (hw : hWt a0 Z) : (Cond.methodLink "java/lang/String" (47 : Nat) ({ cls := "java/lang/StringUTF16", name := "coderFromArrayLen", desc := "([BI)B" } : MethodName)).before a0 Z = true := own_wd hw 40 rfl
theorem wd42 (hw : hWt a0 Z) : (Cond.code ({ cls := "java/lang/StringUTF16", name := "coderFromArrayLen", desc := "([BI)B" } : MethodName) jdk_52_method_15_code (2 : Nat) (Option.some FieldType.byte)).before a0 Z = true := own_wd hw 42 rfl
theorem wd41 (hw : hWt a0 Z) : (Cond.static ({ cls := "java/lang/StringUTF16", name := "coderFromArrayLen", desc := "([BI)B" } : MethodName)).before a0 Z = true := own_wd hw 41 rfl
theorem wd105 (hw : hWt a0 Z) : (Cond.fieldLink "java/lang/String" (1053 : Nat) "jdk/internal/util/Preconditions" "SIOOBE_FORMATTER" "Ljava/util/function/BiFunction;").before a0 Z = true := own_wd hw 105 rfl
theorem wd107 (hw : hWt a0 Z) : (Cond.methodLink "java/lang/String" (1059 : Nat) ({ cls := "jdk/internal/util/Preconditions", name := "checkIndex", desc := "(IILjava/util/function/BiFunction;)I" } : MethodName)).before a0 Z = true := own_wd hw 107 rfl
theorem wd109 (hw : hWt a0 Z) : (Cond.code ({ cls := "jdk/internal/util/Preconditions", name := "checkIndex", desc := "(IILjava/util/function/BiFunction;)I" } : MethodName) jdk_41_method_11_code (3 : Nat) (Option.some FieldType.int)).before a0 Z = true := own_wd hw 109 rfl
theorem wd106 (hw : hWt a0 Z) : (Cond.initialized "jdk/internal/util/Preconditions").before a0 Z = true := own_wd hw 106 rfl
theorem wd108 (hw : hWt a0 Z) : (Cond.static ({ cls := "jdk/internal/util/Preconditions", name := "checkIndex", desc := "(IILjava/util/function/BiFunction;)I" } : MethodName)).before a0 Z = true := own_wd hw 108 rfl
theorem wd141 (hw : hWt a0 Z) : (Cond.methodLink "java/lang/StringUTF16" (48 : Nat) ({ cls := "java/lang/StringUTF16", name := "length", desc := "([B)I" } : MethodName)).before a0 Z = true := own_wd hw 141 rfl
theorem wd143 (hw : hWt a0 Z) : (Cond.code ({ cls := "java/lang/StringUTF16", name := "length", desc := "([B)I" } : MethodName) jdk_52_method_6_code (1 : Nat) (Option.some FieldType.int)).before a0 Z = true := own_wd hw 143 rfl
theorem wd142 (hw : hWt a0 Z) : (Cond.static ({ cls := "java/lang/StringUTF16", name := "length", desc := "([B)I" } : MethodName)).before a0 Z = true := own_wd hw 142 rfl
theorem wd159 (hw : hWt a0 Z) : (Cond.methodLink "java/lang/StringUTF16" (414 : Nat) ({ cls := "java/lang/String", name := "checkIndex", desc := "(II)V" } : MethodName)).before a0 Z = true := own_wd hw 159 rfl
theorem wd104 (hw : hWt a0 Z) : (Cond.code ({ cls := "java/lang/String", name := "checkIndex", desc := "(II)V" } : MethodName) jdk_42_method_155_code (2 : Nat) (Option.none : Option FieldType)).before a0 Z = true := own_wd hw 104 rfl
theorem wd103 (hw : hWt a0 Z) : (Cond.static ({ cls := "java/lang/String", name := "checkIndex", desc := "(II)V" } : MethodName)).before a0 Z = true := own_wd hw 103 rfl
theorem wd156 (hw : hWt a0 Z) : (Cond.methodLink "java/lang/StringUTF16" (67 : Nat) ({ cls := "java/lang/StringUTF16", name := "checkIndex", desc := "(I[B)V" } : MethodName)).before a0 Z = true := own_wd hw 156 rfl
theorem wd158 (hw : hWt a0 Z) : (Cond.code ({ cls := "java/lang/StringUTF16", name := "checkIndex", desc := "(I[B)V" } : MethodName) jdk_52_method_91_code (2 : Nat) (Option.none : Option FieldType)).before a0 Z = true := own_wd hw 158 rfl
theorem wd157 (hw : hWt a0 Z) : (Cond.static ({ cls := "java/lang/StringUTF16", name := "checkIndex", desc := "(I[B)V" } : MethodName)).before a0 Z = true := own_wd hw 157 rfl
theorem wd57 (hw : hWt a0 Z) : (Cond.methodLink "java/lang/String" (492 : Nat) ({ cls := "java/lang/String", name := "isLatin1", desc := "()Z" } : MethodName)).before a0 Z = true := own_wd hw 57 rfl
theorem wd61 (hw : hWt a0 Z) : (Cond.code ({ cls := "java/lang/String", name := "isLatin1", desc := "()Z" } : MethodName) jdk_42_method_154_code (1 : Nat) (Option.some FieldType.boolean)).before a0 Z = true := own_wd hw 61 rfl
theorem wd60 (hw : hWt a0 Z) : (Cond.selects "java/lang/String" ({ cls := "java/lang/String", name := "isLatin1", desc := "()Z" } : MethodName) ({ cls := "java/lang/String", name := "isLatin1", desc := "()Z" } : MethodName)).before a0 Z = true := own_wd hw 60 rfl
theorem wd58 (hw : hWt a0 Z) : (Cond.declares ({ cls := "java/lang/String", name := "isLatin1", desc := "()Z" } : MethodName)).before a0 Z = true := own_wd hw 58 rfl
theorem wd59 (hw : hWt a0 Z) : (Cond.instanceMethod ({ cls := "java/lang/String", name := "isLatin1", desc := "()Z" } : MethodName)).before a0 Z = true := own_wd hw 59 rfl
theorem wd153 (hw : hWt a0 Z) : (Cond.methodLink "java/lang/String" (498 : Nat) ({ cls := "java/lang/StringUTF16", name := "charAt", desc := "([BI)C" } : MethodName)).before a0 Z = true := own_wd hw 153 rfl
theorem wd155 (hw : hWt a0 Z) : (Cond.code ({ cls := "java/lang/StringUTF16", name := "charAt", desc := "([BI)C" } : MethodName) jdk_52_method_83_code (2 : Nat) (Option.some FieldType.char)).before a0 Z = true := own_wd hw 155 rfl
theorem wd154 (hw : hWt a0 Z) : (Cond.static ({ cls := "java/lang/StringUTF16", name := "charAt", desc := "([BI)C" } : MethodName)).before a0 Z = true := own_wd hw 154 rfl
theorem wd98 (hw : hWt a0 Z) : (Cond.code ({ cls := "java/lang/String", name := "charAt", desc := "(I)C" } : MethodName) jdk_42_method_56_code (2 : Nat) (Option.some FieldType.char)).before a0 Z = true := own_wd hw 98 rfl
theorem wd93 (hw : hWt a0 Z) : (Cond.methodLink "com/example/ward/ward/BasicCredentials" (28 : Nat) ({ cls := "java/lang/String", name := "length", desc := "()I" } : MethodName)).before a0 Z = true := own_wd hw 93 rfl
theorem wd65 (hw : hWt a0 Z) : (Cond.selects "java/lang/String" ({ cls := "java/lang/String", name := "length", desc := "()I" } : MethodName) ({ cls := "java/lang/String", name := "length", desc := "()I" } : MethodName)).before a0 Z = true := own_wd hw 65 rfl
theorem wd63 (hw : hWt a0 Z) : (Cond.declares ({ cls := "java/lang/String", name := "length", desc := "()I" } : MethodName)).before a0 Z = true := own_wd hw 63 rfl
theorem wd64 (hw : hWt a0 Z) : (Cond.instanceMethod ({ cls := "java/lang/String", name := "length", desc := "()I" } : MethodName)).before a0 Z = true := own_wd hw 64 rfl
theorem wd94 (hw : hWt a0 Z) : (Cond.methodLink "com/example/ward/ward/BasicCredentials" (42 : Nat) ({ cls := "java/lang/String", name := "charAt", desc := "(I)C" } : MethodName)).before a0 Z = true := own_wd hw 94 rfl
theorem wd97 (hw : hWt a0 Z) : (Cond.selects "java/lang/String" ({ cls := "java/lang/String", name := "charAt", desc := "(I)C" } : MethodName) ({ cls := "java/lang/String", name := "charAt", desc := "(I)C" } : MethodName)).before a0 Z = true := own_wd hw 97 rfl
theorem wd95 (hw : hWt a0 Z) : (Cond.declares ({ cls := "java/lang/String", name := "charAt", desc := "(I)C" } : MethodName)).before a0 Z = true := own_wd hw 95 rfl
theorem wd96 (hw : hWt a0 Z) : (Cond.instanceMethod ({ cls := "java/lang/String", name := "charAt", desc := "(I)C" } : MethodName)).before a0 Z = true := own_wd hw 96 rfl
theorem wd76 (hw : hWt a0 Z) : (Cond.methodLink "java/lang/StringLatin1" (88 : Nat) ({ cls := "java/lang/StringLatin1", name := "canEncode", desc := "(I)Z" } : MethodName)).before a0 Z = true := own_wd hw 76 rfl
theorem wd78 (hw : hWt a0 Z) : (Cond.code ({ cls := "java/lang/StringLatin1", name := "canEncode", desc := "(I)Z" } : MethodName) jdk_43_method_4_code (1 : Nat) (Option.some FieldType.boolean)).before a0 Z = true := own_wd hw 78 rfl
theorem wd74 (hw : hWt a0 Z) : (Cond.initialized "java/lang/StringLatin1").before a0 Z = true := own_wd hw 74 rfl
theorem wd77 (hw : hWt a0 Z) : (Cond.static ({ cls := "java/lang/StringLatin1", name := "canEncode", desc := "(I)Z" } : MethodName)).before a0 Z = true := own_wd hw 77 rfl
theorem wd79 (hw : hWt a0 Z) : (Cond.methodLink "java/lang/StringLatin1" (92 : Nat) ({ cls := "java/lang/Math", name := "max", desc := "(II)I" } : MethodName)).before a0 Z = true := own_wd hw 79 rfl
theorem wd82 (hw : hWt a0 Z) : (Cond.code ({ cls := "java/lang/Math", name := "max", desc := "(II)I" } : MethodName) jdk_29_method_65_code (2 : Nat) (Option.some FieldType.int)).before a0 Z = true := own_wd hw 82 rfl
theorem wd81 (hw : hWt a0 Z) : (Cond.initialized "java/lang/Math").before a0 Z = true := own_wd hw 81 rfl
theorem wd80 (hw : hWt a0 Z) : (Cond.static ({ cls := "java/lang/Math", name := "max", desc := "(II)I" } : MethodName)).before a0 Z = true := own_wd hw 80 rfl
theorem wd83 (hw : hWt a0 Z) : (Cond.methodLink "java/lang/StringLatin1" (38 : Nat) ({ cls := "java/lang/Math", name := "min", desc := "(II)I" } : MethodName)).before a0 Z = true := own_wd hw 83 rfl
theorem wd85 (hw : hWt a0 Z) : (Cond.code ({ cls := "java/lang/Math", name := "min", desc := "(II)I" } : MethodName) jdk_29_method_69_code (2 : Nat) (Option.some FieldType.int)).before a0 Z = true := own_wd hw 85 rfl
theorem wd84 (hw : hWt a0 Z) : (Cond.static ({ cls := "java/lang/Math", name := "min", desc := "(II)I" } : MethodName)).before a0 Z = true := own_wd hw 84 rfl
theorem wd86 (hw : hWt a0 Z) : (Cond.methodLink "java/lang/StringLatin1" (95 : Nat) ({ cls := "java/lang/StringLatin1", name := "indexOfChar", desc := "([BIII)I" } : MethodName)).before a0 Z = true := own_wd hw 86 rfl
theorem wd88 (hw : hWt a0 Z) : (Cond.code ({ cls := "java/lang/StringLatin1", name := "indexOfChar", desc := "([BIII)I" } : MethodName) jdk_43_method_23_code (6 : Nat) (Option.some FieldType.int)).before a0 Z = true := own_wd hw 88 rfl
theorem wd87 (hw : hWt a0 Z) : (Cond.static ({ cls := "java/lang/StringLatin1", name := "indexOfChar", desc := "([BIII)I" } : MethodName)).before a0 Z = true := own_wd hw 87 rfl
theorem wd147 (hw : hWt a0 Z) : (Cond.methodLink "java/lang/String" (1062 : Nat) ({ cls := "jdk/internal/util/Preconditions", name := "checkFromToIndex", desc := "(IIILjava/util/function/BiFunction;)I" } : MethodName)).before a0 Z = true := own_wd hw 147 rfl
theorem wd149 (hw : hWt a0 Z) : (Cond.code ({ cls := "jdk/internal/util/Preconditions", name := "checkFromToIndex", desc := "(IIILjava/util/function/BiFunction;)I" } : MethodName) jdk_41_method_12_code (4 : Nat) (Option.some FieldType.int)).before a0 Z = true := own_wd hw 149 rfl
theorem wd148 (hw : hWt a0 Z) : (Cond.static ({ cls := "jdk/internal/util/Preconditions", name := "checkFromToIndex", desc := "(IIILjava/util/function/BiFunction;)I" } : MethodName)).before a0 Z = true := own_wd hw 148 rfl
theorem wd144 (hw : hWt a0 Z) : (Cond.methodLink "java/lang/StringUTF16" (241 : Nat) ({ cls := "java/lang/String", name := "checkBoundsBeginEnd", desc := "(III)V" } : MethodName)).before a0 Z = true := own_wd hw 144 rfl
theorem wd146 (hw : hWt a0 Z) : (Cond.code ({ cls := "java/lang/String", name := "checkBoundsBeginEnd", desc := "(III)V" } : MethodName) jdk_42_method_158_code (3 : Nat) (Option.none : Option FieldType)).before a0 Z = true := own_wd hw 146 rfl
theorem wd145 (hw : hWt a0 Z) : (Cond.static ({ cls := "java/lang/String", name := "checkBoundsBeginEnd", desc := "(III)V" } : MethodName)).before a0 Z = true := own_wd hw 145 rfl
theorem wd138 (hw : hWt a0 Z) : (Cond.methodLink "java/lang/StringUTF16" (96 : Nat) ({ cls := "java/lang/StringUTF16", name := "checkBoundsBeginEnd", desc := "(II[B)V" } : MethodName)).before a0 Z = true := own_wd hw 138 rfl
theorem wd140 (hw : hWt a0 Z) : (Cond.code ({ cls := "java/lang/StringUTF16", name := "checkBoundsBeginEnd", desc := "(II[B)V" } : MethodName) jdk_52_method_93_code (3 : Nat) (Option.none : Option FieldType)).before a0 Z = true := own_wd hw 140 rfl
theorem wd139 (hw : hWt a0 Z) : (Cond.static ({ cls := "java/lang/StringUTF16", name := "checkBoundsBeginEnd", desc := "(II[B)V" } : MethodName)).before a0 Z = true := own_wd hw 139 rfl
theorem wd150 (hw : hWt a0 Z) : (Cond.methodLink "java/lang/StringUTF16" (244 : Nat) ({ cls := "java/lang/StringUTF16", name := "indexOfCharUnsafe", desc := "([BIII)I" } : MethodName)).before a0 Z = true := own_wd hw 150 rfl
theorem wd152 (hw : hWt a0 Z) : (Cond.code ({ cls := "java/lang/StringUTF16", name := "indexOfCharUnsafe", desc := "([BIII)I" } : MethodName) jdk_52_method_48_code (5 : Nat) (Option.some FieldType.int)).before a0 Z = true := own_wd hw 152 rfl
theorem wd151 (hw : hWt a0 Z) : (Cond.static ({ cls := "java/lang/StringUTF16", name := "indexOfCharUnsafe", desc := "([BIII)I" } : MethodName)).before a0 Z = true := own_wd hw 151 rfl
theorem wd132 (hw : hWt a0 Z) : (Cond.methodLink "java/lang/StringUTF16" (224 : Nat) ({ cls := "java/lang/Math", name := "max", desc := "(II)I" } : MethodName)).before a0 Z = true := own_wd hw 132 rfl
theorem wd133 (hw : hWt a0 Z) : (Cond.methodLink "java/lang/StringUTF16" (183 : Nat) ({ cls := "java/lang/Math", name := "min", desc := "(II)I" } : MethodName)).before a0 Z = true := own_wd hw 133 rfl
theorem wd134 (hw : hWt a0 Z) : (Cond.constant "java/lang/StringUTF16" (227 : Nat) (65536 : Int32)).before a0 Z = true := own_wd hw 134 rfl
theorem wd135 (hw : hWt a0 Z) : (Cond.methodLink "java/lang/StringUTF16" (228 : Nat) ({ cls := "java/lang/StringUTF16", name := "indexOfChar", desc := "([BIII)I" } : MethodName)).before a0 Z = true := own_wd hw 135 rfl
theorem wd137 (hw : hWt a0 Z) : (Cond.code ({ cls := "java/lang/StringUTF16", name := "indexOfChar", desc := "([BIII)I" } : MethodName) jdk_52_method_47_code (4 : Nat) (Option.some FieldType.int)).before a0 Z = true := own_wd hw 137 rfl
theorem wd136 (hw : hWt a0 Z) : (Cond.static ({ cls := "java/lang/StringUTF16", name := "indexOfChar", desc := "([BIII)I" } : MethodName)).before a0 Z = true := own_wd hw 136 rfl
theorem wd62 (hw : hWt a0 Z) : (Cond.methodLink "java/lang/String" (505 : Nat) ({ cls := "java/lang/String", name := "length", desc := "()I" } : MethodName)).before a0 Z = true := own_wd hw 62 rfl
theorem wd72 (hw : hWt a0 Z) : (Cond.methodLink "java/lang/String" (637 : Nat) ({ cls := "java/lang/StringLatin1", name := "indexOf", desc := "([BIII)I" } : MethodName)).before a0 Z = true := own_wd hw 72 rfl
theorem wd75 (hw : hWt a0 Z) : (Cond.code ({ cls := "java/lang/StringLatin1", name := "indexOf", desc := "([BIII)I" } : MethodName) jdk_43_method_22_code (4 : Nat) (Option.some FieldType.int)).before a0 Z = true := own_wd hw 75 rfl
theorem wd73 (hw : hWt a0 Z) : (Cond.static ({ cls := "java/lang/StringLatin1", name := "indexOf", desc := "([BIII)I" } : MethodName)).before a0 Z = true := own_wd hw 73 rfl
theorem wd52 (hw : hWt a0 Z) : (Cond.methodLink "java/lang/String" (633 : Nat) ({ cls := "java/lang/String", name := "indexOf", desc := "(II)I" } : MethodName)).before a0 Z = true := own_wd hw 52 rfl
theorem wd56 (hw : hWt a0 Z) : (Cond.code ({ cls := "java/lang/String", name := "indexOf", desc := "(II)I" } : MethodName) jdk_42_method_80_code (3 : Nat) (Option.some FieldType.int)).before a0 Z = true := own_wd hw 56 rfl
theorem wd55 (hw : hWt a0 Z) : (Cond.selects "java/lang/String" ({ cls := "java/lang/String", name := "indexOf", desc := "(II)I" } : MethodName) ({ cls := "java/lang/String", name := "indexOf", desc := "(II)I" } : MethodName)).before a0 Z = true := own_wd hw 55 rfl
theorem wd53 (hw : hWt a0 Z) : (Cond.declares ({ cls := "java/lang/String", name := "indexOf", desc := "(II)I" } : MethodName)).before a0 Z = true := own_wd hw 53 rfl
theorem wd54 (hw : hWt a0 Z) : (Cond.instanceMethod ({ cls := "java/lang/String", name := "indexOf", desc := "(II)I" } : MethodName)).before a0 Z = true := own_wd hw 54 rfl
theorem wd129 (hw : hWt a0 Z) : (Cond.methodLink "java/lang/String" (640 : Nat) ({ cls := "java/lang/StringUTF16", name := "indexOf", desc := "([BIII)I" } : MethodName)).before a0 Z = true := own_wd hw 129 rfl
theorem wd131 (hw : hWt a0 Z) : (Cond.code ({ cls := "java/lang/StringUTF16", name := "indexOf", desc := "([BIII)I" } : MethodName) jdk_52_method_40_code (4 : Nat) (Option.some FieldType.int)).before a0 Z = true := own_wd hw 131 rfl
theorem wd130 (hw : hWt a0 Z) : (Cond.static ({ cls := "java/lang/StringUTF16", name := "indexOf", desc := "([BIII)I" } : MethodName)).before a0 Z = true := own_wd hw 130 rfl
theorem wd51 (hw : hWt a0 Z) : (Cond.code ({ cls := "java/lang/String", name := "indexOf", desc := "(I)I" } : MethodName) jdk_42_method_79_code (2 : Nat) (Option.some FieldType.int)).before a0 Z = true := own_wd hw 51 rfl
theorem wd27 (hw : hWt a0 Z) : (Cond.methodLink "com/example/ward/ward/User" (26 : Nat) ({ cls := "java/lang/String", name := "isEmpty", desc := "()Z" } : MethodName)).before a0 Z = true := own_wd hw 27 rfl
theorem wd30 (hw : hWt a0 Z) : (Cond.selects "java/lang/String" ({ cls := "java/lang/String", name := "isEmpty", desc := "()Z" } : MethodName) ({ cls := "java/lang/String", name := "isEmpty", desc := "()Z" } : MethodName)).before a0 Z = true := own_wd hw 30 rfl
theorem wd28 (hw : hWt a0 Z) : (Cond.declares ({ cls := "java/lang/String", name := "isEmpty", desc := "()Z" } : MethodName)).before a0 Z = true := own_wd hw 28 rfl
theorem wd29 (hw : hWt a0 Z) : (Cond.instanceMethod ({ cls := "java/lang/String", name := "isEmpty", desc := "()Z" } : MethodName)).before a0 Z = true := own_wd hw 29 rfl
theorem wd47 (hw : hWt a0 Z) : (Cond.methodLink "com/example/ward/ward/User" (32 : Nat) ({ cls := "java/lang/String", name := "indexOf", desc := "(I)I" } : MethodName)).before a0 Z = true := own_wd hw 47 rfl
theorem wd50 (hw : hWt a0 Z) : (Cond.selects "java/lang/String" ({ cls := "java/lang/String", name := "indexOf", desc := "(I)I" } : MethodName) ({ cls := "java/lang/String", name := "indexOf", desc := "(I)I" } : MethodName)).before a0 Z = true := own_wd hw 50 rfl
theorem wd48 (hw : hWt a0 Z) : (Cond.declares ({ cls := "java/lang/String", name := "indexOf", desc := "(I)I" } : MethodName)).before a0 Z = true := own_wd hw 48 rfl
theorem wd49 (hw : hWt a0 Z) : (Cond.instanceMethod ({ cls := "java/lang/String", name := "indexOf", desc := "(I)I" } : MethodName)).before a0 Z = true := own_wd hw 49 rfl
theorem wd89 (hw : hWt a0 Z) : (Cond.methodLink "com/example/ward/ward/User" (36 : Nat) ({ cls := "com/example/ward/ward/BasicCredentials", name := "holdsControl", desc := "(Ljava/lang/String;)Z" } : MethodName)).before a0 Z = true := own_wd hw 89 rfl
theorem wd92 (hw : hWt a0 Z) : (Cond.code ({ cls := "com/example/ward/ward/BasicCredentials", name := "holdsControl", desc := "(Ljava/lang/String;)Z" } : MethodName) prog_4_method_3_code (3 : Nat) (Option.some FieldType.boolean)).before a0 Z = true := own_wd hw 92 rfl
theorem wd91 (hw : hWt a0 Z) : (Cond.initialized "com/example/ward/ward/BasicCredentials").before a0 Z = true := own_wd hw 91 rfl
theorem wd90 (hw : hWt a0 Z) : (Cond.static ({ cls := "com/example/ward/ward/BasicCredentials", name := "holdsControl", desc := "(Ljava/lang/String;)Z" } : MethodName)).before a0 Z = true := own_wd hw 90 rfl
theorem wd1 (hw : hWt a0 Z) : (Cond.classLink "com/example/ward/ward/UserIsNamePinLaw" (8 : Nat) "java/lang/String").before a0 Z = true := own_wd hw 1 rfl
theorem wd5 (hw : hWt a0 Z) : (Cond.methodLink "com/example/ward/ward/UserIsNamePinLaw" (10 : Nat) ({ cls := "java/lang/String", name := "<init>", desc := "([C)V" } : MethodName)).before a0 Z = true := own_wd hw 5 rfl
theorem wd6 (hw : hWt a0 Z) : (Cond.instanceMethod ({ cls := "java/lang/String", name := "<init>", desc := "([C)V" } : MethodName)).before a0 Z = true := own_wd hw 6 rfl
theorem wd23 (hw : hWt a0 Z) : (Cond.methodLink "com/example/ward/ward/UserIsNamePinLaw" (19 : Nat) ({ cls := "com/example/ward/ward/User", name := "isName", desc := "(Ljava/lang/String;)Z" } : MethodName)).before a0 Z = true := own_wd hw 23 rfl
theorem wd26 (hw : hWt a0 Z) : (Cond.code ({ cls := "com/example/ward/ward/User", name := "isName", desc := "(Ljava/lang/String;)Z" } : MethodName) prog_18_method_2_code (1 : Nat) (Option.some FieldType.boolean)).before a0 Z = true := own_wd hw 26 rfl
theorem wd25 (hw : hWt a0 Z) : (Cond.initialized "com/example/ward/ward/User").before a0 Z = true := own_wd hw 25 rfl
theorem wd24 (hw : hWt a0 Z) : (Cond.static ({ cls := "com/example/ward/ward/User", name := "isName", desc := "(Ljava/lang/String;)Z" } : MethodName)).before a0 Z = true := own_wd hw 24 rfl
theorem wd43 (hw : hWt a0 Z) : (Cond.methodLink "com/example/ward/ward/UserIsNamePinLaw" (13 : Nat) ({ cls := "com/example/ward/ward/UserIsNamePinLaw", name := "ok", desc := "(C)Z" } : MethodName)).before a0 Z = true := own_wd hw 43 rfl
theorem wd46 (hw : hWt a0 Z) : (Cond.code ({ cls := "com/example/ward/ward/UserIsNamePinLaw", name := "ok", desc := "(C)Z" } : MethodName) method_2_code (1 : Nat) (Option.some FieldType.boolean)).before a0 Z = true := own_wd hw 46 rfl
theorem wd45 (hw : hWt a0 Z) : (Cond.initialized "com/example/ward/ward/UserIsNamePinLaw").before a0 Z = true := own_wd hw 45 rfl
theorem wd44 (hw : hWt a0 Z) : (Cond.static ({ cls := "com/example/ward/ward/UserIsNamePinLaw", name := "ok", desc := "(C)Z" } : MethodName)).before a0 Z = true := own_wd hw 44 rfl
theorem wd0 (hw : hWt a0 Z) : (Cond.constant "com/example/ward/ward/UserIsNamePinLaw" (7 : Nat) (65535 : Int32)).before a0 Z = true := own_wd hw 0 rfl
theorem wd16 (hw : hWt a0 Z) : (Cond.arrayClass FieldType.byte).before a0 Z = true := own_wd hw 16 rfl
end
theorem own_pn0 : plainName "java/lang/String" = true := by first | (simp [plainName, overriddenIn]; done) | decide +kernel
theorem dS4_0 : Jvm.ClassFile.decode jdk_42_method_149_code 0 = .ok (.aload_n 0, 1) := by decide +kernel
theorem dS4_1 : Jvm.ClassFile.decode jdk_42_method_149_code 1 = .ok (.invokespecial 1, 3) := by decide +kernel
theorem dS4_4 : Jvm.ClassFile.decode jdk_42_method_149_code 4 = .ok (.iload_n 3, 1) := by decide +kernel
theorem dS4_5 : Jvm.ClassFile.decode jdk_42_method_149_code 5 = .ok (.ifCond .ne 22, 3) := by decide +kernel
theorem dS4_8 : Jvm.ClassFile.decode jdk_42_method_149_code 8 = .ok (.aload_n 0, 1) := by decide +kernel
theorem dS4_9 : Jvm.ClassFile.decode jdk_42_method_149_code 9 = .ok (.ldc 7, 2) := by decide +kernel
theorem dS4_11 : Jvm.ClassFile.decode jdk_42_method_149_code 11 = .ok (.getfield 9, 3) := by decide +kernel
theorem dS4_14 : Jvm.ClassFile.decode jdk_42_method_149_code 14 = .ok (.putfield 9, 3) := by decide +kernel
theorem dS4_17 : Jvm.ClassFile.decode jdk_42_method_149_code 17 = .ok (.aload_n 0, 1) := by decide +kernel
theorem dS4_18 : Jvm.ClassFile.decode jdk_42_method_149_code 18 = .ok (.ldc 7, 2) := by decide +kernel
theorem dS4_20 : Jvm.ClassFile.decode jdk_42_method_149_code 20 = .ok (.getfield 15, 3) := by decide +kernel
theorem dS4_23 : Jvm.ClassFile.decode jdk_42_method_149_code 23 = .ok (.putfield 15, 3) := by decide +kernel
theorem dS4_26 : Jvm.ClassFile.decode jdk_42_method_149_code 26 = .ok (.return_, 1) := by decide +kernel
theorem dS1_0 : Jvm.ClassFile.decode jdk_42_method_3_code 0 = .ok (.aload_n 0, 1) := by decide +kernel
theorem dS1_1 : Jvm.ClassFile.decode jdk_42_method_3_code 1 = .ok (.aload_n 1, 1) := by decide +kernel
theorem dS1_2 : Jvm.ClassFile.decode jdk_42_method_3_code 2 = .ok (.iconst 0, 1) := by decide +kernel
theorem dS1_3 : Jvm.ClassFile.decode jdk_42_method_3_code 3 = .ok (.aload_n 1, 1) := by decide +kernel
theorem dS1_4 : Jvm.ClassFile.decode jdk_42_method_3_code 4 = .ok (.arraylength, 1) := by decide +kernel
theorem dS1_5 : Jvm.ClassFile.decode jdk_42_method_3_code 5 = .ok (.aconst_null, 1) := by decide +kernel
theorem dS1_6 : Jvm.ClassFile.decode jdk_42_method_3_code 6 = .ok (.invokespecial 27, 3) := by decide +kernel
theorem own_pd0 : parseMethodDescriptor "([CIILjava/lang/Void;)V" = some ⟨[(.array .char), .int, .int, (.object "java/lang/Void")], none⟩ := by decide +kernel
theorem dS1_9 : Jvm.ClassFile.decode jdk_42_method_3_code 9 = .ok (.return_, 1) := by decide +kernel
theorem own_pn1 : plainName "java/lang/StringUTF16" = true := by first | (simp [plainName, overriddenIn]; done) | decide +kernel
theorem dGC_0 : Jvm.ClassFile.decode jdk_52_method_5_code 0 = .ok (.getstatic 44, 3) := by decide +kernel
theorem dGC_3 : Jvm.ClassFile.decode jdk_52_method_5_code 3 = .ok (.ifCond .ne 25, 3) := by decide +kernel
theorem dGC_28 : Jvm.ClassFile.decode jdk_52_method_5_code 28 = .ok (.iload_n 1, 1) := by decide +kernel
theorem dGC_29 : Jvm.ClassFile.decode jdk_52_method_5_code 29 = .ok (.iconst 1, 1) := by decide +kernel
theorem dGC_30 : Jvm.ClassFile.decode jdk_52_method_5_code 30 = .ok (.ishl, 1) := by decide +kernel
theorem dGC_31 : Jvm.ClassFile.decode jdk_52_method_5_code 31 = .ok (.istore_n 1, 1) := by decide +kernel
theorem dGC_32 : Jvm.ClassFile.decode jdk_52_method_5_code 32 = .ok (.aload_n 0, 1) := by decide +kernel
theorem dGC_33 : Jvm.ClassFile.decode jdk_52_method_5_code 33 = .ok (.iload_n 1, 1) := by decide +kernel
theorem dGC_34 : Jvm.ClassFile.decode jdk_52_method_5_code 34 = .ok (.iinc 1 1, 3) := by decide +kernel
theorem dGC_37 : Jvm.ClassFile.decode jdk_52_method_5_code 37 = .ok (.baload, 1) := by decide +kernel
theorem dGC_38 : Jvm.ClassFile.decode jdk_52_method_5_code 38 = .ok (.sipush 255, 3) := by decide +kernel
theorem dGC_41 : Jvm.ClassFile.decode jdk_52_method_5_code 41 = .ok (.iand, 1) := by decide +kernel
theorem dGC_42 : Jvm.ClassFile.decode jdk_52_method_5_code 42 = .ok (.getstatic 59, 3) := by decide +kernel
theorem dGC_45 : Jvm.ClassFile.decode jdk_52_method_5_code 45 = .ok (.ishl, 1) := by decide +kernel
theorem dGC_46 : Jvm.ClassFile.decode jdk_52_method_5_code 46 = .ok (.aload_n 0, 1) := by decide +kernel
theorem dGC_47 : Jvm.ClassFile.decode jdk_52_method_5_code 47 = .ok (.iload_n 1, 1) := by decide +kernel
theorem dGC_48 : Jvm.ClassFile.decode jdk_52_method_5_code 48 = .ok (.baload, 1) := by decide +kernel
theorem dGC_49 : Jvm.ClassFile.decode jdk_52_method_5_code 49 = .ok (.sipush 255, 3) := by decide +kernel
theorem dGC_52 : Jvm.ClassFile.decode jdk_52_method_5_code 52 = .ok (.iand, 1) := by decide +kernel
theorem dGC_53 : Jvm.ClassFile.decode jdk_52_method_5_code 53 = .ok (.getstatic 63, 3) := by decide +kernel
theorem dGC_56 : Jvm.ClassFile.decode jdk_52_method_5_code 56 = .ok (.ishl, 1) := by decide +kernel
theorem dGC_57 : Jvm.ClassFile.decode jdk_52_method_5_code 57 = .ok (.ior, 1) := by decide +kernel
theorem dGC_58 : Jvm.ClassFile.decode jdk_52_method_5_code 58 = .ok (.i2c, 1) := by decide +kernel
theorem dGC_59 : Jvm.ClassFile.decode jdk_52_method_5_code 59 = .ok (.ireturn, 1) := by decide +kernel
theorem dUL_0 : Jvm.ClassFile.decode jdk_52_method_6_code 0 = .ok (.aload_n 0, 1) := by decide +kernel
theorem dUL_1 : Jvm.ClassFile.decode jdk_52_method_6_code 1 = .ok (.arraylength, 1) := by decide +kernel
theorem dUL_2 : Jvm.ClassFile.decode jdk_52_method_6_code 2 = .ok (.iconst 1, 1) := by decide +kernel
theorem dUL_3 : Jvm.ClassFile.decode jdk_52_method_6_code 3 = .ok (.ishr, 1) := by decide +kernel
theorem dUL_4 : Jvm.ClassFile.decode jdk_52_method_6_code 4 = .ok (.ireturn, 1) := by decide +kernel
theorem dNL_0 : Jvm.ClassFile.decode jdk_52_method_3_code 0 = .ok (.iload_n 0, 1) := by decide +kernel
theorem dNL_1 : Jvm.ClassFile.decode jdk_52_method_3_code 1 = .ok (.ifCond .ge 11, 3) := by decide +kernel
theorem dNL_12 : Jvm.ClassFile.decode jdk_52_method_3_code 12 = .ok (.iload_n 0, 1) := by decide +kernel
theorem dNL_13 : Jvm.ClassFile.decode jdk_52_method_3_code 13 = .ok (.ldc 20, 2) := by decide +kernel
theorem dNL_15 : Jvm.ClassFile.decode jdk_52_method_3_code 15 = .ok (.if_icmp .lt 40, 3) := by decide +kernel
theorem dNL_55 : Jvm.ClassFile.decode jdk_52_method_3_code 55 = .ok (.iload_n 0, 1) := by decide +kernel
theorem dNL_56 : Jvm.ClassFile.decode jdk_52_method_3_code 56 = .ok (.iconst 1, 1) := by decide +kernel
theorem dNL_57 : Jvm.ClassFile.decode jdk_52_method_3_code 57 = .ok (.ishl, 1) := by decide +kernel
theorem dNL_58 : Jvm.ClassFile.decode jdk_52_method_3_code 58 = .ok (.ireturn, 1) := by decide +kernel
theorem dNF_0 : Jvm.ClassFile.decode jdk_52_method_2_code 0 = .ok (.iload_n 0, 1) := by decide +kernel
theorem dNF_1 : Jvm.ClassFile.decode jdk_52_method_2_code 1 = .ok (.invokestatic 11, 3) := by decide +kernel
theorem own_pd1 : parseMethodDescriptor "(I)I" = some ⟨[.int], some .int⟩ := by decide +kernel
theorem dNF_4 : Jvm.ClassFile.decode jdk_52_method_2_code 4 = .ok (.newarray .byte, 2) := by decide +kernel
theorem dNF_6 : Jvm.ClassFile.decode jdk_52_method_2_code 6 = .ok (.areturn, 1) := by decide +kernel
theorem dPU_0 : Jvm.ClassFile.decode jdk_52_method_4_code 0 = .ok (.getstatic 44, 3) := by decide +kernel
theorem dPU_3 : Jvm.ClassFile.decode jdk_52_method_4_code 3 = .ok (.ifCond .ne 25, 3) := by decide +kernel
theorem dPU_28 : Jvm.ClassFile.decode jdk_52_method_4_code 28 = .ok (.iload_n 1, 1) := by decide +kernel
theorem dPU_29 : Jvm.ClassFile.decode jdk_52_method_4_code 29 = .ok (.iconst 1, 1) := by decide +kernel
theorem dPU_30 : Jvm.ClassFile.decode jdk_52_method_4_code 30 = .ok (.ishl, 1) := by decide +kernel
theorem dPU_31 : Jvm.ClassFile.decode jdk_52_method_4_code 31 = .ok (.istore_n 1, 1) := by decide +kernel
theorem dPU_32 : Jvm.ClassFile.decode jdk_52_method_4_code 32 = .ok (.aload_n 0, 1) := by decide +kernel
theorem dPU_33 : Jvm.ClassFile.decode jdk_52_method_4_code 33 = .ok (.iload_n 1, 1) := by decide +kernel
theorem dPU_34 : Jvm.ClassFile.decode jdk_52_method_4_code 34 = .ok (.iinc 1 1, 3) := by decide +kernel
theorem dPU_37 : Jvm.ClassFile.decode jdk_52_method_4_code 37 = .ok (.iload_n 2, 1) := by decide +kernel
theorem dPU_38 : Jvm.ClassFile.decode jdk_52_method_4_code 38 = .ok (.getstatic 59, 3) := by decide +kernel
theorem dPU_41 : Jvm.ClassFile.decode jdk_52_method_4_code 41 = .ok (.ishr, 1) := by decide +kernel
theorem dPU_42 : Jvm.ClassFile.decode jdk_52_method_4_code 42 = .ok (.i2b, 1) := by decide +kernel
theorem dPU_43 : Jvm.ClassFile.decode jdk_52_method_4_code 43 = .ok (.bastore, 1) := by decide +kernel
theorem dPU_44 : Jvm.ClassFile.decode jdk_52_method_4_code 44 = .ok (.aload_n 0, 1) := by decide +kernel
theorem dPU_45 : Jvm.ClassFile.decode jdk_52_method_4_code 45 = .ok (.iload_n 1, 1) := by decide +kernel
theorem dPU_46 : Jvm.ClassFile.decode jdk_52_method_4_code 46 = .ok (.iload_n 2, 1) := by decide +kernel
theorem dPU_47 : Jvm.ClassFile.decode jdk_52_method_4_code 47 = .ok (.getstatic 63, 3) := by decide +kernel
theorem dPU_50 : Jvm.ClassFile.decode jdk_52_method_4_code 50 = .ok (.ishr, 1) := by decide +kernel
theorem dPU_51 : Jvm.ClassFile.decode jdk_52_method_4_code 51 = .ok (.i2b, 1) := by decide +kernel
theorem dPU_52 : Jvm.ClassFile.decode jdk_52_method_4_code 52 = .ok (.bastore, 1) := by decide +kernel
theorem dPU_53 : Jvm.ClassFile.decode jdk_52_method_4_code 53 = .ok (.return_, 1) := by decide +kernel
theorem dTO_0 : Jvm.ClassFile.decode jdk_52_method_14_code 0 = .ok (.iload_n 2, 1) := by decide +kernel
theorem dTO_1 : Jvm.ClassFile.decode jdk_52_method_14_code 1 = .ok (.invokestatic 107, 3) := by decide +kernel
theorem own_pd2 : parseMethodDescriptor "(I)[B" = some ⟨[.int], some (.array .byte)⟩ := by decide +kernel
theorem dTO_4 : Jvm.ClassFile.decode jdk_52_method_14_code 4 = .ok (.astore_n 3, 1) := by decide +kernel
theorem dTO_5 : Jvm.ClassFile.decode jdk_52_method_14_code 5 = .ok (.iconst 0, 1) := by decide +kernel
theorem dTO_6 : Jvm.ClassFile.decode jdk_52_method_14_code 6 = .ok (.istore 4, 2) := by decide +kernel
theorem dTO_8 : Jvm.ClassFile.decode jdk_52_method_14_code 8 = .ok (.iload 4, 2) := by decide +kernel
theorem dTO_10 : Jvm.ClassFile.decode jdk_52_method_14_code 10 = .ok (.iload_n 2, 1) := by decide +kernel
theorem dTO_11 : Jvm.ClassFile.decode jdk_52_method_14_code 11 = .ok (.if_icmp .ge 21, 3) := by decide +kernel
theorem dTO_14 : Jvm.ClassFile.decode jdk_52_method_14_code 14 = .ok (.aload_n 3, 1) := by decide +kernel
theorem dTO_15 : Jvm.ClassFile.decode jdk_52_method_14_code 15 = .ok (.iload 4, 2) := by decide +kernel
theorem dTO_17 : Jvm.ClassFile.decode jdk_52_method_14_code 17 = .ok (.aload_n 0, 1) := by decide +kernel
theorem dTO_18 : Jvm.ClassFile.decode jdk_52_method_14_code 18 = .ok (.iload_n 1, 1) := by decide +kernel
theorem dTO_19 : Jvm.ClassFile.decode jdk_52_method_14_code 19 = .ok (.caload, 1) := by decide +kernel
theorem dTO_20 : Jvm.ClassFile.decode jdk_52_method_14_code 20 = .ok (.invokestatic 111, 3) := by decide +kernel
theorem own_pd3 : parseMethodDescriptor "([BII)V" = some ⟨[(.array .byte), .int, .int], none⟩ := by decide +kernel
theorem dTO_23 : Jvm.ClassFile.decode jdk_52_method_14_code 23 = .ok (.iinc 1 1, 3) := by decide +kernel
theorem dTO_26 : Jvm.ClassFile.decode jdk_52_method_14_code 26 = .ok (.iinc 4 1, 3) := by decide +kernel
theorem dTO_29 : Jvm.ClassFile.decode jdk_52_method_14_code 29 = .ok (.goto (-21), 3) := by decide +kernel
theorem dTO_32 : Jvm.ClassFile.decode jdk_52_method_14_code 32 = .ok (.aload_n 3, 1) := by decide +kernel
theorem dTO_33 : Jvm.ClassFile.decode jdk_52_method_14_code 33 = .ok (.areturn, 1) := by decide +kernel
theorem dCL_0 : Jvm.ClassFile.decode jdk_52_method_15_code 0 = .ok (.iload_n 1, 1) := by decide +kernel
theorem dCL_1 : Jvm.ClassFile.decode jdk_52_method_15_code 1 = .ok (.aload_n 0, 1) := by decide +kernel
theorem dCL_2 : Jvm.ClassFile.decode jdk_52_method_15_code 2 = .ok (.arraylength, 1) := by decide +kernel
theorem dCL_3 : Jvm.ClassFile.decode jdk_52_method_15_code 3 = .ok (.isub, 1) := by decide +kernel
theorem dCL_4 : Jvm.ClassFile.decode jdk_52_method_15_code 4 = .ok (.bipush 31, 2) := by decide +kernel
theorem dCL_6 : Jvm.ClassFile.decode jdk_52_method_15_code 6 = .ok (.iushr, 1) := by decide +kernel
theorem dCL_7 : Jvm.ClassFile.decode jdk_52_method_15_code 7 = .ok (.i2b, 1) := by decide +kernel
theorem dCL_8 : Jvm.ClassFile.decode jdk_52_method_15_code 8 = .ok (.ireturn, 1) := by decide +kernel
theorem dC5_0 : Jvm.ClassFile.decode jdk_52_method_21_code 0 = .ok (.iconst 0, 1) := by decide +kernel
theorem dC5_1 : Jvm.ClassFile.decode jdk_52_method_21_code 1 = .ok (.istore 5, 2) := by decide +kernel
theorem dC5_3 : Jvm.ClassFile.decode jdk_52_method_21_code 3 = .ok (.iload 5, 2) := by decide +kernel
theorem dC5_5 : Jvm.ClassFile.decode jdk_52_method_21_code 5 = .ok (.iload 4, 2) := by decide +kernel
theorem dC5_7 : Jvm.ClassFile.decode jdk_52_method_21_code 7 = .ok (.if_icmp .ge 37, 3) := by decide +kernel
theorem dC5_10 : Jvm.ClassFile.decode jdk_52_method_21_code 10 = .ok (.aload_n 0, 1) := by decide +kernel
theorem dC5_11 : Jvm.ClassFile.decode jdk_52_method_21_code 11 = .ok (.iload_n 1, 1) := by decide +kernel
theorem dC5_12 : Jvm.ClassFile.decode jdk_52_method_21_code 12 = .ok (.caload, 1) := by decide +kernel
theorem dC5_13 : Jvm.ClassFile.decode jdk_52_method_21_code 13 = .ok (.istore 6, 2) := by decide +kernel
theorem dC5_15 : Jvm.ClassFile.decode jdk_52_method_21_code 15 = .ok (.iload 6, 2) := by decide +kernel
theorem dC5_17 : Jvm.ClassFile.decode jdk_52_method_21_code 17 = .ok (.sipush 255, 3) := by decide +kernel
theorem dC5_20 : Jvm.ClassFile.decode jdk_52_method_21_code 20 = .ok (.if_icmp .le 6, 3) := by decide +kernel
theorem dC5_23 : Jvm.ClassFile.decode jdk_52_method_21_code 23 = .ok (.iload 5, 2) := by decide +kernel
theorem dC5_25 : Jvm.ClassFile.decode jdk_52_method_21_code 25 = .ok (.ireturn, 1) := by decide +kernel
theorem dC3_0 : Jvm.ClassFile.decode jdk_52_method_16_code 0 = .ok (.iload_n 2, 1) := by decide +kernel
theorem dC3_1 : Jvm.ClassFile.decode jdk_52_method_16_code 1 = .ok (.newarray .byte, 2) := by decide +kernel
theorem dC3_3 : Jvm.ClassFile.decode jdk_52_method_16_code 3 = .ok (.astore_n 3, 1) := by decide +kernel
theorem dC3_4 : Jvm.ClassFile.decode jdk_52_method_16_code 4 = .ok (.aload_n 0, 1) := by decide +kernel
theorem dC3_5 : Jvm.ClassFile.decode jdk_52_method_16_code 5 = .ok (.iload_n 1, 1) := by decide +kernel
theorem dC3_6 : Jvm.ClassFile.decode jdk_52_method_16_code 6 = .ok (.aload_n 3, 1) := by decide +kernel
theorem dC3_7 : Jvm.ClassFile.decode jdk_52_method_16_code 7 = .ok (.iconst 0, 1) := by decide +kernel
theorem dC3_8 : Jvm.ClassFile.decode jdk_52_method_16_code 8 = .ok (.iload_n 2, 1) := by decide +kernel
theorem dC3_9 : Jvm.ClassFile.decode jdk_52_method_16_code 9 = .ok (.invokestatic 115, 3) := by decide +kernel
theorem own_pd4 : parseMethodDescriptor "([CI[BII)I" = some ⟨[(.array .char), .int, (.array .byte), .int, .int], some .int⟩ := by decide +kernel
theorem dC3_12 : Jvm.ClassFile.decode jdk_52_method_16_code 12 = .ok (.istore 4, 2) := by decide +kernel
theorem dC3_14 : Jvm.ClassFile.decode jdk_52_method_16_code 14 = .ok (.iload 4, 2) := by decide +kernel
theorem dC3_16 : Jvm.ClassFile.decode jdk_52_method_16_code 16 = .ok (.iload_n 2, 1) := by decide +kernel
theorem dC3_17 : Jvm.ClassFile.decode jdk_52_method_16_code 17 = .ok (.if_icmp .eq 40, 3) := by decide +kernel
theorem dC3_20 : Jvm.ClassFile.decode jdk_52_method_16_code 20 = .ok (.aload_n 0, 1) := by decide +kernel
theorem dC3_21 : Jvm.ClassFile.decode jdk_52_method_16_code 21 = .ok (.iload_n 1, 1) := by decide +kernel
theorem dC3_22 : Jvm.ClassFile.decode jdk_52_method_16_code 22 = .ok (.iload_n 2, 1) := by decide +kernel
theorem dC3_23 : Jvm.ClassFile.decode jdk_52_method_16_code 23 = .ok (.invokestatic 119, 3) := by decide +kernel
theorem own_pd5 : parseMethodDescriptor "([CII)[B" = some ⟨[(.array .char), .int, .int], some (.array .byte)⟩ := by decide +kernel
theorem dC3_26 : Jvm.ClassFile.decode jdk_52_method_16_code 26 = .ok (.astore 5, 2) := by decide +kernel
theorem dC3_28 : Jvm.ClassFile.decode jdk_52_method_16_code 28 = .ok (.aload 5, 2) := by decide +kernel
theorem dC3_30 : Jvm.ClassFile.decode jdk_52_method_16_code 30 = .ok (.iload 4, 2) := by decide +kernel
theorem dC3_32 : Jvm.ClassFile.decode jdk_52_method_16_code 32 = .ok (.invokestatic 71, 3) := by decide +kernel
theorem own_pd6 : parseMethodDescriptor "([BI)C" = some ⟨[(.array .byte), .int], some .char⟩ := by decide +kernel
theorem dC3_35 : Jvm.ClassFile.decode jdk_52_method_16_code 35 = .ok (.sipush 255, 3) := by decide +kernel
theorem dC3_38 : Jvm.ClassFile.decode jdk_52_method_16_code 38 = .ok (.if_icmp .gt 16, 3) := by decide +kernel
theorem dC3_54 : Jvm.ClassFile.decode jdk_52_method_16_code 54 = .ok (.aload 5, 2) := by decide +kernel
theorem dC3_56 : Jvm.ClassFile.decode jdk_52_method_16_code 56 = .ok (.areturn, 1) := by decide +kernel
theorem dN4_0 : Jvm.ClassFile.decode jdk_42_method_149_code 0 = .ok (.aload_n 0, 1) := by decide +kernel
theorem dN4_1 : Jvm.ClassFile.decode jdk_42_method_149_code 1 = .ok (.invokespecial 1, 3) := by decide +kernel
theorem dN4_4 : Jvm.ClassFile.decode jdk_42_method_149_code 4 = .ok (.iload_n 3, 1) := by decide +kernel
theorem dN4_5 : Jvm.ClassFile.decode jdk_42_method_149_code 5 = .ok (.ifCond .ne 22, 3) := by decide +kernel
theorem dN4_27 : Jvm.ClassFile.decode jdk_42_method_149_code 27 = .ok (.getstatic 38, 3) := by decide +kernel
theorem dN4_30 : Jvm.ClassFile.decode jdk_42_method_149_code 30 = .ok (.ifCond .eq 28, 3) := by decide +kernel
theorem dN4_33 : Jvm.ClassFile.decode jdk_42_method_149_code 33 = .ok (.aload_n 1, 1) := by decide +kernel
theorem dN4_34 : Jvm.ClassFile.decode jdk_42_method_149_code 34 = .ok (.iload_n 2, 1) := by decide +kernel
theorem dN4_35 : Jvm.ClassFile.decode jdk_42_method_149_code 35 = .ok (.iload_n 3, 1) := by decide +kernel
theorem dN4_36 : Jvm.ClassFile.decode jdk_42_method_149_code 36 = .ok (.invokestatic 177, 3) := by decide +kernel
theorem dN4_39 : Jvm.ClassFile.decode jdk_42_method_149_code 39 = .ok (.astore 5, 2) := by decide +kernel
theorem dN4_41 : Jvm.ClassFile.decode jdk_42_method_149_code 41 = .ok (.aload_n 0, 1) := by decide +kernel
theorem dN4_42 : Jvm.ClassFile.decode jdk_42_method_149_code 42 = .ok (.aload 5, 2) := by decide +kernel
theorem dN4_44 : Jvm.ClassFile.decode jdk_42_method_149_code 44 = .ok (.iload_n 3, 1) := by decide +kernel
theorem dN4_45 : Jvm.ClassFile.decode jdk_42_method_149_code 45 = .ok (.invokestatic 47, 3) := by decide +kernel
theorem own_pd7 : parseMethodDescriptor "([BI)B" = some ⟨[(.array .byte), .int], some .byte⟩ := by decide +kernel
theorem dN4_48 : Jvm.ClassFile.decode jdk_42_method_149_code 48 = .ok (.putfield 15, 3) := by decide +kernel
theorem dN4_51 : Jvm.ClassFile.decode jdk_42_method_149_code 51 = .ok (.aload_n 0, 1) := by decide +kernel
theorem dN4_52 : Jvm.ClassFile.decode jdk_42_method_149_code 52 = .ok (.aload 5, 2) := by decide +kernel
theorem dN4_54 : Jvm.ClassFile.decode jdk_42_method_149_code 54 = .ok (.putfield 9, 3) := by decide +kernel
theorem dN4_57 : Jvm.ClassFile.decode jdk_42_method_149_code 57 = .ok (.return_, 1) := by decide +kernel
theorem dN1_0 : Jvm.ClassFile.decode jdk_42_method_3_code 0 = .ok (.aload_n 0, 1) := by decide +kernel
theorem dN1_1 : Jvm.ClassFile.decode jdk_42_method_3_code 1 = .ok (.aload_n 1, 1) := by decide +kernel
theorem dN1_2 : Jvm.ClassFile.decode jdk_42_method_3_code 2 = .ok (.iconst 0, 1) := by decide +kernel
theorem dN1_3 : Jvm.ClassFile.decode jdk_42_method_3_code 3 = .ok (.aload_n 1, 1) := by decide +kernel
theorem dN1_4 : Jvm.ClassFile.decode jdk_42_method_3_code 4 = .ok (.arraylength, 1) := by decide +kernel
theorem dN1_5 : Jvm.ClassFile.decode jdk_42_method_3_code 5 = .ok (.aconst_null, 1) := by decide +kernel
theorem dN1_6 : Jvm.ClassFile.decode jdk_42_method_3_code 6 = .ok (.invokespecial 27, 3) := by decide +kernel
theorem dN1_9 : Jvm.ClassFile.decode jdk_42_method_3_code 9 = .ok (.return_, 1) := by decide +kernel
theorem dC5_26 : Jvm.ClassFile.decode jdk_52_method_21_code 26 = .ok (.aload_n 2, 1) := by decide +kernel
theorem dC5_27 : Jvm.ClassFile.decode jdk_52_method_21_code 27 = .ok (.iload_n 3, 1) := by decide +kernel
theorem dC5_28 : Jvm.ClassFile.decode jdk_52_method_21_code 28 = .ok (.iload 6, 2) := by decide +kernel
theorem dC5_30 : Jvm.ClassFile.decode jdk_52_method_21_code 30 = .ok (.i2b, 1) := by decide +kernel
theorem dC5_31 : Jvm.ClassFile.decode jdk_52_method_21_code 31 = .ok (.bastore, 1) := by decide +kernel
theorem dC5_32 : Jvm.ClassFile.decode jdk_52_method_21_code 32 = .ok (.iinc 1 1, 3) := by decide +kernel
theorem dC5_35 : Jvm.ClassFile.decode jdk_52_method_21_code 35 = .ok (.iinc 3 1, 3) := by decide +kernel
theorem dC5_38 : Jvm.ClassFile.decode jdk_52_method_21_code 38 = .ok (.iinc 5 1, 3) := by decide +kernel
theorem dC5_41 : Jvm.ClassFile.decode jdk_52_method_21_code 41 = .ok (.goto (-38), 3) := by decide +kernel
theorem own_pn2 : plainName "jdk/internal/util/Preconditions" = true := by first | (simp [plainName, overriddenIn]; done) | decide +kernel
theorem dPI_0 : Jvm.ClassFile.decode jdk_41_method_11_code 0 = .ok (.iload_n 0, 1) := by decide +kernel
theorem dPI_1 : Jvm.ClassFile.decode jdk_41_method_11_code 1 = .ok (.ifCond .lt 8, 3) := by decide +kernel
theorem dPI_4 : Jvm.ClassFile.decode jdk_41_method_11_code 4 = .ok (.iload_n 0, 1) := by decide +kernel
theorem dPI_5 : Jvm.ClassFile.decode jdk_41_method_11_code 5 = .ok (.iload_n 1, 1) := by decide +kernel
theorem dPI_6 : Jvm.ClassFile.decode jdk_41_method_11_code 6 = .ok (.if_icmp .lt 10, 3) := by decide +kernel
theorem dPI_16 : Jvm.ClassFile.decode jdk_41_method_11_code 16 = .ok (.iload_n 0, 1) := by decide +kernel
theorem dPI_17 : Jvm.ClassFile.decode jdk_41_method_11_code 17 = .ok (.ireturn, 1) := by decide +kernel
theorem dCI_0 : Jvm.ClassFile.decode jdk_42_method_155_code 0 = .ok (.iload_n 0, 1) := by decide +kernel
theorem dCI_1 : Jvm.ClassFile.decode jdk_42_method_155_code 1 = .ok (.iload_n 1, 1) := by decide +kernel
theorem dCI_2 : Jvm.ClassFile.decode jdk_42_method_155_code 2 = .ok (.getstatic 1053, 3) := by decide +kernel
theorem dCI_5 : Jvm.ClassFile.decode jdk_42_method_155_code 5 = .ok (.invokestatic 1059, 3) := by decide +kernel
theorem own_pd8 : parseMethodDescriptor "(IILjava/util/function/BiFunction;)I" = some ⟨[.int, .int, (.object "java/util/function/BiFunction")], some .int⟩ := by decide +kernel
theorem dCI_8 : Jvm.ClassFile.decode jdk_42_method_155_code 8 = .ok (.pop, 1) := by decide +kernel
theorem dCI_9 : Jvm.ClassFile.decode jdk_42_method_155_code 9 = .ok (.return_, 1) := by decide +kernel
theorem dIL_0 : Jvm.ClassFile.decode jdk_42_method_154_code 0 = .ok (.getstatic 38, 3) := by decide +kernel
theorem dIL_3 : Jvm.ClassFile.decode jdk_42_method_154_code 3 = .ok (.ifCond .eq 14, 3) := by decide +kernel
theorem dIL_6 : Jvm.ClassFile.decode jdk_42_method_154_code 6 = .ok (.aload_n 0, 1) := by decide +kernel
theorem dIL_7 : Jvm.ClassFile.decode jdk_42_method_154_code 7 = .ok (.getfield 15, 3) := by decide +kernel
theorem dIL_10 : Jvm.ClassFile.decode jdk_42_method_154_code 10 = .ok (.ifCond .ne 7, 3) := by decide +kernel
theorem dIL_17 : Jvm.ClassFile.decode jdk_42_method_154_code 17 = .ok (.iconst 0, 1) := by decide +kernel
theorem dIL_18 : Jvm.ClassFile.decode jdk_42_method_154_code 18 = .ok (.ireturn, 1) := by decide +kernel
theorem dUI_0 : Jvm.ClassFile.decode jdk_52_method_91_code 0 = .ok (.iload_n 0, 1) := by decide +kernel
theorem dUI_1 : Jvm.ClassFile.decode jdk_52_method_91_code 1 = .ok (.aload_n 1, 1) := by decide +kernel
theorem dUI_2 : Jvm.ClassFile.decode jdk_52_method_91_code 2 = .ok (.invokestatic 48, 3) := by decide +kernel
theorem own_pd9 : parseMethodDescriptor "([B)I" = some ⟨[(.array .byte)], some .int⟩ := by decide +kernel
theorem dUI_5 : Jvm.ClassFile.decode jdk_52_method_91_code 5 = .ok (.invokestatic 414, 3) := by decide +kernel
theorem own_pd10 : parseMethodDescriptor "(II)V" = some ⟨[.int, .int], none⟩ := by decide +kernel
theorem dUI_8 : Jvm.ClassFile.decode jdk_52_method_91_code 8 = .ok (.return_, 1) := by decide +kernel
theorem dUC_0 : Jvm.ClassFile.decode jdk_52_method_83_code 0 = .ok (.iload_n 1, 1) := by decide +kernel
theorem dUC_1 : Jvm.ClassFile.decode jdk_52_method_83_code 1 = .ok (.aload_n 0, 1) := by decide +kernel
theorem dUC_2 : Jvm.ClassFile.decode jdk_52_method_83_code 2 = .ok (.invokestatic 67, 3) := by decide +kernel
theorem own_pd11 : parseMethodDescriptor "(I[B)V" = some ⟨[.int, (.array .byte)], none⟩ := by decide +kernel
theorem dUC_5 : Jvm.ClassFile.decode jdk_52_method_83_code 5 = .ok (.aload_n 0, 1) := by decide +kernel
theorem dUC_6 : Jvm.ClassFile.decode jdk_52_method_83_code 6 = .ok (.iload_n 1, 1) := by decide +kernel
theorem dUC_7 : Jvm.ClassFile.decode jdk_52_method_83_code 7 = .ok (.invokestatic 71, 3) := by decide +kernel
theorem dUC_10 : Jvm.ClassFile.decode jdk_52_method_83_code 10 = .ok (.ireturn, 1) := by decide +kernel
theorem dCA_0 : Jvm.ClassFile.decode jdk_42_method_56_code 0 = .ok (.aload_n 0, 1) := by decide +kernel
theorem dCA_1 : Jvm.ClassFile.decode jdk_42_method_56_code 1 = .ok (.invokevirtual 492, 3) := by decide +kernel
theorem own_pd12 : parseMethodDescriptor "()Z" = some ⟨[], some .boolean⟩ := by decide +kernel
theorem dCA_4 : Jvm.ClassFile.decode jdk_42_method_56_code 4 = .ok (.ifCond .eq 12, 3) := by decide +kernel
theorem dCA_16 : Jvm.ClassFile.decode jdk_42_method_56_code 16 = .ok (.aload_n 0, 1) := by decide +kernel
theorem dCA_17 : Jvm.ClassFile.decode jdk_42_method_56_code 17 = .ok (.getfield 9, 3) := by decide +kernel
theorem dCA_20 : Jvm.ClassFile.decode jdk_42_method_56_code 20 = .ok (.iload_n 1, 1) := by decide +kernel
theorem dCA_21 : Jvm.ClassFile.decode jdk_42_method_56_code 21 = .ok (.invokestatic 498, 3) := by decide +kernel
theorem dCA_24 : Jvm.ClassFile.decode jdk_42_method_56_code 24 = .ok (.ireturn, 1) := by decide +kernel
theorem own_pn3 : plainName "com/example/ward/ward/BasicCredentials" = true := by first | (simp [plainName, overriddenIn]; done) | decide +kernel
theorem dHC_0 : Jvm.ClassFile.decode prog_4_method_3_code 0 = .ok (.iconst 0, 1) := by decide +kernel
theorem dHC_1 : Jvm.ClassFile.decode prog_4_method_3_code 1 = .ok (.istore_n 1, 1) := by decide +kernel
theorem dHC_2 : Jvm.ClassFile.decode prog_4_method_3_code 2 = .ok (.iload_n 1, 1) := by decide +kernel
theorem dHC_3 : Jvm.ClassFile.decode prog_4_method_3_code 3 = .ok (.aload_n 0, 1) := by decide +kernel
theorem dHC_4 : Jvm.ClassFile.decode prog_4_method_3_code 4 = .ok (.invokevirtual 28, 3) := by decide +kernel
theorem own_pd13 : parseMethodDescriptor "()I" = some ⟨[], some .int⟩ := by decide +kernel
theorem dHC_7 : Jvm.ClassFile.decode prog_4_method_3_code 7 = .ok (.if_icmp .ge 29, 3) := by decide +kernel
theorem dHC_36 : Jvm.ClassFile.decode prog_4_method_3_code 36 = .ok (.iconst 0, 1) := by decide +kernel
theorem dHC_37 : Jvm.ClassFile.decode prog_4_method_3_code 37 = .ok (.ireturn, 1) := by decide +kernel
theorem dHC_10 : Jvm.ClassFile.decode prog_4_method_3_code 10 = .ok (.aload_n 0, 1) := by decide +kernel
theorem dHC_11 : Jvm.ClassFile.decode prog_4_method_3_code 11 = .ok (.iload_n 1, 1) := by decide +kernel
theorem dHC_12 : Jvm.ClassFile.decode prog_4_method_3_code 12 = .ok (.invokevirtual 42, 3) := by decide +kernel
theorem own_pd14 : parseMethodDescriptor "(I)C" = some ⟨[.int], some .char⟩ := by decide +kernel
theorem dHC_15 : Jvm.ClassFile.decode prog_4_method_3_code 15 = .ok (.istore_n 2, 1) := by decide +kernel
theorem dHC_16 : Jvm.ClassFile.decode prog_4_method_3_code 16 = .ok (.iload_n 2, 1) := by decide +kernel
theorem dHC_17 : Jvm.ClassFile.decode prog_4_method_3_code 17 = .ok (.bipush 32, 2) := by decide +kernel
theorem dHC_19 : Jvm.ClassFile.decode prog_4_method_3_code 19 = .ok (.if_icmp .lt 9, 3) := by decide +kernel
theorem dHC_28 : Jvm.ClassFile.decode prog_4_method_3_code 28 = .ok (.iconst 1, 1) := by decide +kernel
theorem dHC_29 : Jvm.ClassFile.decode prog_4_method_3_code 29 = .ok (.ireturn, 1) := by decide +kernel
theorem dHC_22 : Jvm.ClassFile.decode prog_4_method_3_code 22 = .ok (.iload_n 2, 1) := by decide +kernel
theorem dHC_23 : Jvm.ClassFile.decode prog_4_method_3_code 23 = .ok (.bipush 127, 2) := by decide +kernel
theorem dHC_25 : Jvm.ClassFile.decode prog_4_method_3_code 25 = .ok (.if_icmp .ne 5, 3) := by decide +kernel
theorem dHC_30 : Jvm.ClassFile.decode prog_4_method_3_code 30 = .ok (.iinc 1 1, 3) := by decide +kernel
theorem dHC_33 : Jvm.ClassFile.decode prog_4_method_3_code 33 = .ok (.goto (-31), 3) := by decide +kernel
theorem own_pn4 : plainFor mN19 = true := by decide +kernel
theorem dMX_0 : Jvm.ClassFile.decode jdk_29_method_65_code 0 = .ok (.iload_n 0, 1) := by decide +kernel
theorem dMX_1 : Jvm.ClassFile.decode jdk_29_method_65_code 1 = .ok (.iload_n 1, 1) := by decide +kernel
theorem dMX_2 : Jvm.ClassFile.decode jdk_29_method_65_code 2 = .ok (.if_icmp .lt 7, 3) := by decide +kernel
theorem dMX_5 : Jvm.ClassFile.decode jdk_29_method_65_code 5 = .ok (.iload_n 0, 1) := by decide +kernel
theorem dMX_6 : Jvm.ClassFile.decode jdk_29_method_65_code 6 = .ok (.goto 4, 3) := by decide +kernel
theorem dMX_10 : Jvm.ClassFile.decode jdk_29_method_65_code 10 = .ok (.ireturn, 1) := by decide +kernel
theorem own_pn5 : plainName "java/lang/StringLatin1" = true := by first | (simp [plainName, overriddenIn]; done) | decide +kernel
theorem dCE_0 : Jvm.ClassFile.decode jdk_43_method_4_code 0 = .ok (.iload_n 0, 1) := by decide +kernel
theorem dCE_1 : Jvm.ClassFile.decode jdk_43_method_4_code 1 = .ok (.ifCond .lt 14, 3) := by decide +kernel
theorem dCE_4 : Jvm.ClassFile.decode jdk_43_method_4_code 4 = .ok (.iload_n 0, 1) := by decide +kernel
theorem dCE_5 : Jvm.ClassFile.decode jdk_43_method_4_code 5 = .ok (.sipush 255, 3) := by decide +kernel
theorem dCE_8 : Jvm.ClassFile.decode jdk_43_method_4_code 8 = .ok (.if_icmp .gt 7, 3) := by decide +kernel
theorem dCE_11 : Jvm.ClassFile.decode jdk_43_method_4_code 11 = .ok (.iconst 1, 1) := by decide +kernel
theorem dCE_12 : Jvm.ClassFile.decode jdk_43_method_4_code 12 = .ok (.goto 4, 3) := by decide +kernel
theorem dCE_16 : Jvm.ClassFile.decode jdk_43_method_4_code 16 = .ok (.ireturn, 1) := by decide +kernel
theorem dI0_0 : Jvm.ClassFile.decode jdk_42_method_154_code 0 = .ok (.getstatic 38, 3) := by decide +kernel
theorem dI0_3 : Jvm.ClassFile.decode jdk_42_method_154_code 3 = .ok (.ifCond .eq 14, 3) := by decide +kernel
theorem dI0_6 : Jvm.ClassFile.decode jdk_42_method_154_code 6 = .ok (.aload_n 0, 1) := by decide +kernel
theorem dI0_7 : Jvm.ClassFile.decode jdk_42_method_154_code 7 = .ok (.getfield 15, 3) := by decide +kernel
theorem dI0_10 : Jvm.ClassFile.decode jdk_42_method_154_code 10 = .ok (.ifCond .ne 7, 3) := by decide +kernel
theorem dI0_13 : Jvm.ClassFile.decode jdk_42_method_154_code 13 = .ok (.iconst 1, 1) := by decide +kernel
theorem dI0_14 : Jvm.ClassFile.decode jdk_42_method_154_code 14 = .ok (.goto 4, 3) := by decide +kernel
theorem dI0_18 : Jvm.ClassFile.decode jdk_42_method_154_code 18 = .ok (.ireturn, 1) := by decide +kernel
theorem own_pn6 : plainFor mN21 = true := by decide +kernel
theorem dMM_0 : Jvm.ClassFile.decode jdk_29_method_69_code 0 = .ok (.iload_n 0, 1) := by decide +kernel
theorem dMM_1 : Jvm.ClassFile.decode jdk_29_method_69_code 1 = .ok (.iload_n 1, 1) := by decide +kernel
theorem dMM_2 : Jvm.ClassFile.decode jdk_29_method_69_code 2 = .ok (.if_icmp .gt 7, 3) := by decide +kernel
theorem dMM_5 : Jvm.ClassFile.decode jdk_29_method_69_code 5 = .ok (.iload_n 0, 1) := by decide +kernel
theorem dMM_6 : Jvm.ClassFile.decode jdk_29_method_69_code 6 = .ok (.goto 4, 3) := by decide +kernel
theorem dMM_10 : Jvm.ClassFile.decode jdk_29_method_69_code 10 = .ok (.ireturn, 1) := by decide +kernel
theorem dLX_0 : Jvm.ClassFile.decode jdk_43_method_23_code 0 = .ok (.iload_n 1, 1) := by decide +kernel
theorem dLX_1 : Jvm.ClassFile.decode jdk_43_method_23_code 1 = .ok (.i2b, 1) := by decide +kernel
theorem dLX_2 : Jvm.ClassFile.decode jdk_43_method_23_code 2 = .ok (.istore 4, 2) := by decide +kernel
theorem dLX_4 : Jvm.ClassFile.decode jdk_43_method_23_code 4 = .ok (.iload_n 2, 1) := by decide +kernel
theorem dLX_5 : Jvm.ClassFile.decode jdk_43_method_23_code 5 = .ok (.istore 5, 2) := by decide +kernel
theorem dLX_7 : Jvm.ClassFile.decode jdk_43_method_23_code 7 = .ok (.iload 5, 2) := by decide +kernel
theorem dLX_9 : Jvm.ClassFile.decode jdk_43_method_23_code 9 = .ok (.iload_n 3, 1) := by decide +kernel
theorem dLX_10 : Jvm.ClassFile.decode jdk_43_method_23_code 10 = .ok (.if_icmp .ge 21, 3) := by decide +kernel
theorem dLX_13 : Jvm.ClassFile.decode jdk_43_method_23_code 13 = .ok (.aload_n 0, 1) := by decide +kernel
theorem dLX_14 : Jvm.ClassFile.decode jdk_43_method_23_code 14 = .ok (.iload 5, 2) := by decide +kernel
theorem dLX_16 : Jvm.ClassFile.decode jdk_43_method_23_code 16 = .ok (.baload, 1) := by decide +kernel
theorem dLX_17 : Jvm.ClassFile.decode jdk_43_method_23_code 17 = .ok (.iload 4, 2) := by decide +kernel
theorem dLX_19 : Jvm.ClassFile.decode jdk_43_method_23_code 19 = .ok (.if_icmp .ne 6, 3) := by decide +kernel
theorem dLX_22 : Jvm.ClassFile.decode jdk_43_method_23_code 22 = .ok (.iload 5, 2) := by decide +kernel
theorem dLX_24 : Jvm.ClassFile.decode jdk_43_method_23_code 24 = .ok (.ireturn, 1) := by decide +kernel
theorem dLX_25 : Jvm.ClassFile.decode jdk_43_method_23_code 25 = .ok (.iinc 5 1, 3) := by decide +kernel
theorem dLX_28 : Jvm.ClassFile.decode jdk_43_method_23_code 28 = .ok (.goto (-21), 3) := by decide +kernel
theorem dLX_31 : Jvm.ClassFile.decode jdk_43_method_23_code 31 = .ok (.iconst (-1), 1) := by decide +kernel
theorem dLX_32 : Jvm.ClassFile.decode jdk_43_method_23_code 32 = .ok (.ireturn, 1) := by decide +kernel
theorem dLI_0 : Jvm.ClassFile.decode jdk_43_method_22_code 0 = .ok (.iload_n 1, 1) := by decide +kernel
theorem dLI_1 : Jvm.ClassFile.decode jdk_43_method_22_code 1 = .ok (.invokestatic 88, 3) := by decide +kernel
theorem own_pd15 : parseMethodDescriptor "(I)Z" = some ⟨[.int], some .boolean⟩ := by decide +kernel
theorem dLI_4 : Jvm.ClassFile.decode jdk_43_method_22_code 4 = .ok (.ifCond .ne 5, 3) := by decide +kernel
theorem dLI_9 : Jvm.ClassFile.decode jdk_43_method_22_code 9 = .ok (.iload_n 2, 1) := by decide +kernel
theorem dLI_10 : Jvm.ClassFile.decode jdk_43_method_22_code 10 = .ok (.iconst 0, 1) := by decide +kernel
theorem dLI_11 : Jvm.ClassFile.decode jdk_43_method_22_code 11 = .ok (.invokestatic 92, 3) := by decide +kernel
theorem own_pd16 : parseMethodDescriptor "(II)I" = some ⟨[.int, .int], some .int⟩ := by decide +kernel
theorem dLI_14 : Jvm.ClassFile.decode jdk_43_method_22_code 14 = .ok (.istore_n 2, 1) := by decide +kernel
theorem dLI_15 : Jvm.ClassFile.decode jdk_43_method_22_code 15 = .ok (.iload_n 3, 1) := by decide +kernel
theorem dLI_16 : Jvm.ClassFile.decode jdk_43_method_22_code 16 = .ok (.aload_n 0, 1) := by decide +kernel
theorem dLI_17 : Jvm.ClassFile.decode jdk_43_method_22_code 17 = .ok (.arraylength, 1) := by decide +kernel
theorem dLI_18 : Jvm.ClassFile.decode jdk_43_method_22_code 18 = .ok (.invokestatic 38, 3) := by decide +kernel
theorem dLI_21 : Jvm.ClassFile.decode jdk_43_method_22_code 21 = .ok (.istore_n 3, 1) := by decide +kernel
theorem dLI_22 : Jvm.ClassFile.decode jdk_43_method_22_code 22 = .ok (.iload_n 2, 1) := by decide +kernel
theorem dLI_23 : Jvm.ClassFile.decode jdk_43_method_22_code 23 = .ok (.iload_n 3, 1) := by decide +kernel
theorem dLI_24 : Jvm.ClassFile.decode jdk_43_method_22_code 24 = .ok (.if_icmp .lt 5, 3) := by decide +kernel
theorem dLI_29 : Jvm.ClassFile.decode jdk_43_method_22_code 29 = .ok (.aload_n 0, 1) := by decide +kernel
theorem dLI_30 : Jvm.ClassFile.decode jdk_43_method_22_code 30 = .ok (.iload_n 1, 1) := by decide +kernel
theorem dLI_31 : Jvm.ClassFile.decode jdk_43_method_22_code 31 = .ok (.iload_n 2, 1) := by decide +kernel
theorem dLI_32 : Jvm.ClassFile.decode jdk_43_method_22_code 32 = .ok (.iload_n 3, 1) := by decide +kernel
theorem dLI_33 : Jvm.ClassFile.decode jdk_43_method_22_code 33 = .ok (.invokestatic 95, 3) := by decide +kernel
theorem own_pd17 : parseMethodDescriptor "([BIII)I" = some ⟨[(.array .byte), .int, .int, .int], some .int⟩ := by decide +kernel
theorem dLI_36 : Jvm.ClassFile.decode jdk_43_method_22_code 36 = .ok (.ireturn, 1) := by decide +kernel
theorem dFT_0 : Jvm.ClassFile.decode jdk_41_method_12_code 0 = .ok (.iload_n 0, 1) := by decide +kernel
theorem dFT_1 : Jvm.ClassFile.decode jdk_41_method_12_code 1 = .ok (.ifCond .lt 13, 3) := by decide +kernel
theorem dFT_4 : Jvm.ClassFile.decode jdk_41_method_12_code 4 = .ok (.iload_n 0, 1) := by decide +kernel
theorem dFT_5 : Jvm.ClassFile.decode jdk_41_method_12_code 5 = .ok (.iload_n 1, 1) := by decide +kernel
theorem dFT_6 : Jvm.ClassFile.decode jdk_41_method_12_code 6 = .ok (.if_icmp .gt 8, 3) := by decide +kernel
theorem dFT_9 : Jvm.ClassFile.decode jdk_41_method_12_code 9 = .ok (.iload_n 1, 1) := by decide +kernel
theorem dFT_10 : Jvm.ClassFile.decode jdk_41_method_12_code 10 = .ok (.iload_n 2, 1) := by decide +kernel
theorem dFT_11 : Jvm.ClassFile.decode jdk_41_method_12_code 11 = .ok (.if_icmp .le 11, 3) := by decide +kernel
theorem dFT_22 : Jvm.ClassFile.decode jdk_41_method_12_code 22 = .ok (.iload_n 0, 1) := by decide +kernel
theorem dFT_23 : Jvm.ClassFile.decode jdk_41_method_12_code 23 = .ok (.ireturn, 1) := by decide +kernel
theorem dSB_0 : Jvm.ClassFile.decode jdk_42_method_158_code 0 = .ok (.iload_n 0, 1) := by decide +kernel
theorem dSB_1 : Jvm.ClassFile.decode jdk_42_method_158_code 1 = .ok (.iload_n 1, 1) := by decide +kernel
theorem dSB_2 : Jvm.ClassFile.decode jdk_42_method_158_code 2 = .ok (.iload_n 2, 1) := by decide +kernel
theorem dSB_3 : Jvm.ClassFile.decode jdk_42_method_158_code 3 = .ok (.getstatic 1053, 3) := by decide +kernel
theorem dSB_6 : Jvm.ClassFile.decode jdk_42_method_158_code 6 = .ok (.invokestatic 1062, 3) := by decide +kernel
theorem own_pd18 : parseMethodDescriptor "(IIILjava/util/function/BiFunction;)I" = some ⟨[.int, .int, .int, (.object "java/util/function/BiFunction")], some .int⟩ := by decide +kernel
theorem dSB_9 : Jvm.ClassFile.decode jdk_42_method_158_code 9 = .ok (.pop, 1) := by decide +kernel
theorem dSB_10 : Jvm.ClassFile.decode jdk_42_method_158_code 10 = .ok (.return_, 1) := by decide +kernel
theorem dUB_0 : Jvm.ClassFile.decode jdk_52_method_93_code 0 = .ok (.iload_n 0, 1) := by decide +kernel
theorem dUB_1 : Jvm.ClassFile.decode jdk_52_method_93_code 1 = .ok (.iload_n 1, 1) := by decide +kernel
theorem dUB_2 : Jvm.ClassFile.decode jdk_52_method_93_code 2 = .ok (.aload_n 2, 1) := by decide +kernel
theorem dUB_3 : Jvm.ClassFile.decode jdk_52_method_93_code 3 = .ok (.invokestatic 48, 3) := by decide +kernel
theorem dUB_6 : Jvm.ClassFile.decode jdk_52_method_93_code 6 = .ok (.invokestatic 241, 3) := by decide +kernel
theorem own_pd19 : parseMethodDescriptor "(III)V" = some ⟨[.int, .int, .int], none⟩ := by decide +kernel
theorem dUB_9 : Jvm.ClassFile.decode jdk_52_method_93_code 9 = .ok (.return_, 1) := by decide +kernel
theorem dUX_0 : Jvm.ClassFile.decode jdk_52_method_48_code 0 = .ok (.iload_n 2, 1) := by decide +kernel
theorem dUX_1 : Jvm.ClassFile.decode jdk_52_method_48_code 1 = .ok (.istore 4, 2) := by decide +kernel
theorem dUX_3 : Jvm.ClassFile.decode jdk_52_method_48_code 3 = .ok (.iload 4, 2) := by decide +kernel
theorem dUX_5 : Jvm.ClassFile.decode jdk_52_method_48_code 5 = .ok (.iload_n 3, 1) := by decide +kernel
theorem dUX_6 : Jvm.ClassFile.decode jdk_52_method_48_code 6 = .ok (.if_icmp .ge 22, 3) := by decide +kernel
theorem dUX_9 : Jvm.ClassFile.decode jdk_52_method_48_code 9 = .ok (.aload_n 0, 1) := by decide +kernel
theorem dUX_10 : Jvm.ClassFile.decode jdk_52_method_48_code 10 = .ok (.iload 4, 2) := by decide +kernel
theorem dUX_12 : Jvm.ClassFile.decode jdk_52_method_48_code 12 = .ok (.invokestatic 71, 3) := by decide +kernel
theorem dUX_15 : Jvm.ClassFile.decode jdk_52_method_48_code 15 = .ok (.iload_n 1, 1) := by decide +kernel
theorem dUX_16 : Jvm.ClassFile.decode jdk_52_method_48_code 16 = .ok (.if_icmp .ne 6, 3) := by decide +kernel
theorem dUX_19 : Jvm.ClassFile.decode jdk_52_method_48_code 19 = .ok (.iload 4, 2) := by decide +kernel
theorem dUX_21 : Jvm.ClassFile.decode jdk_52_method_48_code 21 = .ok (.ireturn, 1) := by decide +kernel
theorem dUX_22 : Jvm.ClassFile.decode jdk_52_method_48_code 22 = .ok (.iinc 4 1, 3) := by decide +kernel
theorem dUX_25 : Jvm.ClassFile.decode jdk_52_method_48_code 25 = .ok (.goto (-22), 3) := by decide +kernel
theorem dUX_28 : Jvm.ClassFile.decode jdk_52_method_48_code 28 = .ok (.iconst (-1), 1) := by decide +kernel
theorem dUX_29 : Jvm.ClassFile.decode jdk_52_method_48_code 29 = .ok (.ireturn, 1) := by decide +kernel
theorem dUO_0 : Jvm.ClassFile.decode jdk_52_method_47_code 0 = .ok (.iload_n 2, 1) := by decide +kernel
theorem dUO_1 : Jvm.ClassFile.decode jdk_52_method_47_code 1 = .ok (.iload_n 3, 1) := by decide +kernel
theorem dUO_2 : Jvm.ClassFile.decode jdk_52_method_47_code 2 = .ok (.aload_n 0, 1) := by decide +kernel
theorem dUO_3 : Jvm.ClassFile.decode jdk_52_method_47_code 3 = .ok (.invokestatic 96, 3) := by decide +kernel
theorem own_pd20 : parseMethodDescriptor "(II[B)V" = some ⟨[.int, .int, (.array .byte)], none⟩ := by decide +kernel
theorem dUO_6 : Jvm.ClassFile.decode jdk_52_method_47_code 6 = .ok (.aload_n 0, 1) := by decide +kernel
theorem dUO_7 : Jvm.ClassFile.decode jdk_52_method_47_code 7 = .ok (.iload_n 1, 1) := by decide +kernel
theorem dUO_8 : Jvm.ClassFile.decode jdk_52_method_47_code 8 = .ok (.iload_n 2, 1) := by decide +kernel
theorem dUO_9 : Jvm.ClassFile.decode jdk_52_method_47_code 9 = .ok (.iload_n 3, 1) := by decide +kernel
theorem dUO_10 : Jvm.ClassFile.decode jdk_52_method_47_code 10 = .ok (.invokestatic 244, 3) := by decide +kernel
theorem dUO_13 : Jvm.ClassFile.decode jdk_52_method_47_code 13 = .ok (.ireturn, 1) := by decide +kernel
theorem dUN_0 : Jvm.ClassFile.decode jdk_52_method_40_code 0 = .ok (.iload_n 2, 1) := by decide +kernel
theorem dUN_1 : Jvm.ClassFile.decode jdk_52_method_40_code 1 = .ok (.iconst 0, 1) := by decide +kernel
theorem dUN_2 : Jvm.ClassFile.decode jdk_52_method_40_code 2 = .ok (.invokestatic 224, 3) := by decide +kernel
theorem dUN_5 : Jvm.ClassFile.decode jdk_52_method_40_code 5 = .ok (.istore_n 2, 1) := by decide +kernel
theorem dUN_6 : Jvm.ClassFile.decode jdk_52_method_40_code 6 = .ok (.iload_n 3, 1) := by decide +kernel
theorem dUN_7 : Jvm.ClassFile.decode jdk_52_method_40_code 7 = .ok (.aload_n 0, 1) := by decide +kernel
theorem dUN_8 : Jvm.ClassFile.decode jdk_52_method_40_code 8 = .ok (.arraylength, 1) := by decide +kernel
theorem dUN_9 : Jvm.ClassFile.decode jdk_52_method_40_code 9 = .ok (.iconst 1, 1) := by decide +kernel
theorem dUN_10 : Jvm.ClassFile.decode jdk_52_method_40_code 10 = .ok (.ishr, 1) := by decide +kernel
theorem dUN_11 : Jvm.ClassFile.decode jdk_52_method_40_code 11 = .ok (.invokestatic 183, 3) := by decide +kernel
theorem dUN_14 : Jvm.ClassFile.decode jdk_52_method_40_code 14 = .ok (.istore_n 3, 1) := by decide +kernel
theorem dUN_15 : Jvm.ClassFile.decode jdk_52_method_40_code 15 = .ok (.iload_n 2, 1) := by decide +kernel
theorem dUN_16 : Jvm.ClassFile.decode jdk_52_method_40_code 16 = .ok (.iload_n 3, 1) := by decide +kernel
theorem dUN_17 : Jvm.ClassFile.decode jdk_52_method_40_code 17 = .ok (.if_icmp .lt 5, 3) := by decide +kernel
theorem dUN_22 : Jvm.ClassFile.decode jdk_52_method_40_code 22 = .ok (.iload_n 1, 1) := by decide +kernel
theorem dUN_23 : Jvm.ClassFile.decode jdk_52_method_40_code 23 = .ok (.ldc 227, 2) := by decide +kernel
theorem dUN_25 : Jvm.ClassFile.decode jdk_52_method_40_code 25 = .ok (.if_icmp .ge 11, 3) := by decide +kernel
theorem dUN_28 : Jvm.ClassFile.decode jdk_52_method_40_code 28 = .ok (.aload_n 0, 1) := by decide +kernel
theorem dUN_29 : Jvm.ClassFile.decode jdk_52_method_40_code 29 = .ok (.iload_n 1, 1) := by decide +kernel
theorem dUN_30 : Jvm.ClassFile.decode jdk_52_method_40_code 30 = .ok (.iload_n 2, 1) := by decide +kernel
theorem dUN_31 : Jvm.ClassFile.decode jdk_52_method_40_code 31 = .ok (.iload_n 3, 1) := by decide +kernel
theorem dUN_32 : Jvm.ClassFile.decode jdk_52_method_40_code 32 = .ok (.invokestatic 228, 3) := by decide +kernel
theorem dUN_35 : Jvm.ClassFile.decode jdk_52_method_40_code 35 = .ok (.ireturn, 1) := by decide +kernel
theorem dJ2_0 : Jvm.ClassFile.decode jdk_42_method_80_code 0 = .ok (.aload_n 0, 1) := by decide +kernel
theorem dJ2_1 : Jvm.ClassFile.decode jdk_42_method_80_code 1 = .ok (.invokevirtual 492, 3) := by decide +kernel
theorem dJ2_4 : Jvm.ClassFile.decode jdk_42_method_80_code 4 = .ok (.ifCond .eq 19, 3) := by decide +kernel
theorem dJ2_7 : Jvm.ClassFile.decode jdk_42_method_80_code 7 = .ok (.aload_n 0, 1) := by decide +kernel
theorem dJ2_8 : Jvm.ClassFile.decode jdk_42_method_80_code 8 = .ok (.getfield 9, 3) := by decide +kernel
theorem dJ2_11 : Jvm.ClassFile.decode jdk_42_method_80_code 11 = .ok (.iload_n 1, 1) := by decide +kernel
theorem dJ2_12 : Jvm.ClassFile.decode jdk_42_method_80_code 12 = .ok (.iload_n 2, 1) := by decide +kernel
theorem dJ2_13 : Jvm.ClassFile.decode jdk_42_method_80_code 13 = .ok (.aload_n 0, 1) := by decide +kernel
theorem dJ2_14 : Jvm.ClassFile.decode jdk_42_method_80_code 14 = .ok (.invokevirtual 505, 3) := by decide +kernel
theorem dJ2_17 : Jvm.ClassFile.decode jdk_42_method_80_code 17 = .ok (.invokestatic 637, 3) := by decide +kernel
theorem dJ2_20 : Jvm.ClassFile.decode jdk_42_method_80_code 20 = .ok (.goto 16, 3) := by decide +kernel
theorem dJ2_36 : Jvm.ClassFile.decode jdk_42_method_80_code 36 = .ok (.ireturn, 1) := by decide +kernel
theorem dJ1_0 : Jvm.ClassFile.decode jdk_42_method_79_code 0 = .ok (.aload_n 0, 1) := by decide +kernel
theorem dJ1_1 : Jvm.ClassFile.decode jdk_42_method_79_code 1 = .ok (.iload_n 1, 1) := by decide +kernel
theorem dJ1_2 : Jvm.ClassFile.decode jdk_42_method_79_code 2 = .ok (.iconst 0, 1) := by decide +kernel
theorem dJ1_3 : Jvm.ClassFile.decode jdk_42_method_79_code 3 = .ok (.invokevirtual 633, 3) := by decide +kernel
theorem dJ1_6 : Jvm.ClassFile.decode jdk_42_method_79_code 6 = .ok (.ireturn, 1) := by decide +kernel
theorem dJ2_23 : Jvm.ClassFile.decode jdk_42_method_80_code 23 = .ok (.aload_n 0, 1) := by decide +kernel
theorem dJ2_24 : Jvm.ClassFile.decode jdk_42_method_80_code 24 = .ok (.getfield 9, 3) := by decide +kernel
theorem dJ2_27 : Jvm.ClassFile.decode jdk_42_method_80_code 27 = .ok (.iload_n 1, 1) := by decide +kernel
theorem dJ2_28 : Jvm.ClassFile.decode jdk_42_method_80_code 28 = .ok (.iload_n 2, 1) := by decide +kernel
theorem dJ2_29 : Jvm.ClassFile.decode jdk_42_method_80_code 29 = .ok (.aload_n 0, 1) := by decide +kernel
theorem dJ2_30 : Jvm.ClassFile.decode jdk_42_method_80_code 30 = .ok (.invokevirtual 505, 3) := by decide +kernel
theorem dJ2_33 : Jvm.ClassFile.decode jdk_42_method_80_code 33 = .ok (.invokestatic 640, 3) := by decide +kernel
theorem own_pn7 : plainName "com/example/ward/ward/User" = true := by first | (simp [plainName, overriddenIn]; done) | decide +kernel
theorem dNM_0 : Jvm.ClassFile.decode prog_18_method_2_code 0 = .ok (.aload_n 0, 1) := by decide +kernel
theorem dNM_1 : Jvm.ClassFile.decode prog_18_method_2_code 1 = .ok (.invokevirtual 26, 3) := by decide +kernel
theorem dNM_4 : Jvm.ClassFile.decode prog_18_method_2_code 4 = .ok (.ifCond .ne 23, 3) := by decide +kernel
theorem dNM_27 : Jvm.ClassFile.decode prog_18_method_2_code 27 = .ok (.iconst 0, 1) := by decide +kernel
theorem dNM_28 : Jvm.ClassFile.decode prog_18_method_2_code 28 = .ok (.ireturn, 1) := by decide +kernel
theorem dNM_7 : Jvm.ClassFile.decode prog_18_method_2_code 7 = .ok (.aload_n 0, 1) := by decide +kernel
theorem dNM_8 : Jvm.ClassFile.decode prog_18_method_2_code 8 = .ok (.bipush 58, 2) := by decide +kernel
theorem dNM_10 : Jvm.ClassFile.decode prog_18_method_2_code 10 = .ok (.invokevirtual 32, 3) := by decide +kernel
theorem dNM_13 : Jvm.ClassFile.decode prog_18_method_2_code 13 = .ok (.ifCond .ge 14, 3) := by decide +kernel
theorem dNM_16 : Jvm.ClassFile.decode prog_18_method_2_code 16 = .ok (.aload_n 0, 1) := by decide +kernel
theorem dNM_17 : Jvm.ClassFile.decode prog_18_method_2_code 17 = .ok (.invokestatic 36, 3) := by decide +kernel
theorem own_pd21 : parseMethodDescriptor "(Ljava/lang/String;)Z" = some ⟨[(.object "java/lang/String")], some .boolean⟩ := by decide +kernel
theorem dNM_20 : Jvm.ClassFile.decode prog_18_method_2_code 20 = .ok (.ifCond .ne 7, 3) := by decide +kernel
theorem dNM_23 : Jvm.ClassFile.decode prog_18_method_2_code 23 = .ok (.iconst 1, 1) := by decide +kernel
theorem dNM_24 : Jvm.ClassFile.decode prog_18_method_2_code 24 = .ok (.goto 4, 3) := by decide +kernel
theorem own_pn8 : plainName "com/example/ward/ward/UserIsNamePinLaw" = true := by first | (simp [plainName, overriddenIn]; done) | decide +kernel
theorem dOK_0 : Jvm.ClassFile.decode method_2_code 0 = .ok (.iload_n 0, 1) := by decide +kernel
theorem dOK_1 : Jvm.ClassFile.decode method_2_code 1 = .ok (.bipush 58, 2) := by decide +kernel
theorem dOK_3 : Jvm.ClassFile.decode method_2_code 3 = .ok (.if_icmp .ne 5, 3) := by decide +kernel
theorem dOK_6 : Jvm.ClassFile.decode method_2_code 6 = .ok (.iconst 0, 1) := by decide +kernel
theorem dOK_7 : Jvm.ClassFile.decode method_2_code 7 = .ok (.ireturn, 1) := by decide +kernel
theorem dOK_8 : Jvm.ClassFile.decode method_2_code 8 = .ok (.iload_n 0, 1) := by decide +kernel
theorem dOK_9 : Jvm.ClassFile.decode method_2_code 9 = .ok (.bipush 32, 2) := by decide +kernel
theorem dOK_11 : Jvm.ClassFile.decode method_2_code 11 = .ok (.if_icmp .ge 5, 3) := by decide +kernel
theorem dOK_14 : Jvm.ClassFile.decode method_2_code 14 = .ok (.iconst 0, 1) := by decide +kernel
theorem dOK_15 : Jvm.ClassFile.decode method_2_code 15 = .ok (.ireturn, 1) := by decide +kernel
theorem dOK_16 : Jvm.ClassFile.decode method_2_code 16 = .ok (.iload_n 0, 1) := by decide +kernel
theorem dOK_17 : Jvm.ClassFile.decode method_2_code 17 = .ok (.bipush 127, 2) := by decide +kernel
theorem dOK_19 : Jvm.ClassFile.decode method_2_code 19 = .ok (.if_icmp .ne 5, 3) := by decide +kernel
theorem dOK_22 : Jvm.ClassFile.decode method_2_code 22 = .ok (.iconst 0, 1) := by decide +kernel
theorem dOK_23 : Jvm.ClassFile.decode method_2_code 23 = .ok (.ireturn, 1) := by decide +kernel
theorem dOK_24 : Jvm.ClassFile.decode method_2_code 24 = .ok (.iconst 1, 1) := by decide +kernel
theorem dOK_25 : Jvm.ClassFile.decode method_2_code 25 = .ok (.ireturn, 1) := by decide +kernel
theorem own_pd22 : parseMethodDescriptor "([C)V" = some ⟨[(.array .char)], none⟩ := by decide +kernel
theorem own_pd23 : parseMethodDescriptor "(C)Z" = some ⟨[.char], some .boolean⟩ := by decide +kernel
def own_QE (Z : State) (x : Nat) (h0 : Heap) (n0 : Nat) (v : Option Value) (h : Heap) (L : List Loc) : Prop := v = none ∧ Fr n0 L ∧ Keep h0 h [x] ∧ ∃ (t : Nat) (kb : ClassId), t ≠ x ∧ Fld Z h x "java/lang/String" "value" "[B" (.ref t) ∧ Fld Z h x "java/lang/String" "coder" "B" (.int 0) ∧ Arv Z h t kb .byte (0 : Int32) [] (.int 0)
def Q_own_init4E (Z : State) (x b : Nat) (v0 c0 : Value) (h0 : Heap) (n0 : Nat) (v : Option Value) (_vm : Vm) (h : Heap) (L : List Loc) : Prop := own_QE Z x h0 n0 v h L
theorem ef_own_init4E (m : MethodId) (x0 : Nat) (x1 : Nat) : entryFrame m #[(.ref x0), (.ref x1), (.int 0), (.int 0), .null] 6 = mkF m 0 #[.val (.ref x0), .val (.ref x1), .val (.int 0), .val (.int 0), .val .null, .unset] [] := by first | (simp [entryFrame, mkF, argsToLocals, Value.category]; done) | rfl
theorem own_init4E (l : Launch) (Z : State) (a0 : Array Value) (hw : hWt a0 Z) (hEL : EW Z a0 consts_1) (ws : List Jvm.Cond) (x b : Nat) (v0 c0 : Value) (h0 : Heap) (n0 : Nat) (Z0 : n0 ≤ h0.size) (X00 : Old Z n0 h0) (Ex : Exa Z h0 x "java/lang/String") (Fv : Fld Z h0 x "java/lang/String" "value" "[B" v0) (Fc : Fld Z h0 x "java/lang/String" "coder" "B" c0) (gx : n0 ≤ x) (ltx : x < h0.size) :
    MetFree l mN0 (head1 (Jvm.Cond.code mN0 jdk_42_method_149_code 6 none :: ws) rm_1_2_4_12) (own_P Z consts_1 #[(.ref x), (.ref b), (.int 0), (.int 0), .null] h0 [x]) (fun _ _ _ _ _ => True) (own_E Z consts_1 (Q_own_init4E Z x b v0 c0 h0 n0) rm_1_2_4_12) := by
 refine MetFree.of_bodySF (plainFor_of_name own_pn0) hisR ?_
 intro p e s m args below meth c s₁ Bd hml0 hP hK
 obtain ⟨rfl, hZ, hh, hCH, hSafe⟩ := hP
 have hx := Bd.exec
 have hby := Bd.bytes
 have hml : c.maxLocals = 6 := hml0
 have hown : s.vm.findClass "java/lang/String" = some m.cls := findClass_of_methodNamed Bd.named
 have hnm := (name_of_methodNamed Bd.named Bd.method).1
 have X0 : Stand p l e rm_1_2_4_12 (s.setVm s.vm) m #[(.ref x), (.ref b), (.int 0), (.int 0), .null] below meth c s₁ [] 0 0 := Stand.of_body Bd
 have e0 : s₁.heap = h0 := by rw [← hh, Bd.state]; rfl
 have N0 := Fr.nil n0
 have K0 : Keep h0 h0 [x] := Keep.refl h0 [x]
 have S0 : s.Since s.vm 0 := own_since s
 have C0 : CHr Z consts_1 s.vm h0 s.vm h0 := CHr.refl hCH
 refine show own_G p e below (own_E Z consts_1 (Q_own_init4E Z x b v0 c0 h0 n0) rm_1_2_4_12 #[(.ref x), (.ref b), (.int 0), (.int 0), .null] s) _ from ?_
 refine own_st (fun tq kq => castTop (ef_own_init4E m (x) (b)) kq) ?_
 show own_G p e below _ (s₁.setTop (mkF m 0 #[vR x, vR b, vI 0, vI 0, .val .null, .unset] []))
 have hws0 : ∀ y ∈ [x], n0 ≤ y := allS gx all0
 refine s_aloadN X0 hx (hb hby dS4_0) rfl rfl ?_
 obtain ⟨T1, X1, e1, st1⟩ := initO X0 hx hZ hown (wd12 hw) (wd13 hw) (wd14 hw) e0 (g := (mkF m 1 #[vR x, vR b, vI 0, vI 0, .val .null, .unset] [(.ref x)])) rfl (by rw [hml]; rfl) rfl (hb hby dS4_1) (by decide) (W := 0) (Nat.le_of_eq rfl) (by decide)
 refine own_st st1 ?_
 refine s_iloadN X1 hx (hb hby dS4_4) rfl ?_
 show own_G p e below _ (T1.setTop (mkF m 5 #[vR x, vR b, vI 0, vI 0, .val .null, .unset] [(.int 0)]))
 refine own_st (fun tq kq => XS.ifNo X1.here hx rfl (hb hby dS4_5) rfl ((if0 _ _).trans (teq (by decide : ((0 : Int32) = (0 : Int32)))).2) kq) ?_
 refine s_aloadN X1 hx (hb hby dS4_8) rfl rfl ?_
 obtain ⟨a2, T2, h2, k2, b2, kb2, X2, e2, E2, S2, hk2, Z2, o2, Ex2, Fc2, Fv2, Av2, la2, lb2, c2, L2, ne2, st2⟩ := ldcCH (s := s) (vm0 := s.vm) X1 hx hZ hown (wd15 hw) (own_wS hw) e1 S0 (own_le (by omega)) hEL (by simp [consts_1]) C0.1 (vs := []) (z := (0 : Int32)) ⟨by decide, by decide⟩ (by decide) (by decide) (g := (mkF m 9 #[vR x, vR b, vI 0, vI 0, .val .null, .unset] [(.ref x)])) rfl (hb hby dS4_9) (n := 0) (by decide) (by decide) (by decide) (by decide)
 have la2 := own_lt la2
 have lb2 := own_lt lb2
 have sz2 : h0.size ≤ h2.size := E2.1
 have K2 : Keep h0 h2 [x] := K0.ext E2
 have C2 := C0.trans c2
 have Sf2_3 := c2.safe (own_lt (by omega)) (hSafe _ (List.mem_of_getElem? (i := 0) rfl))
 obtain ⟨nx4, ny4⟩ := ne2 _ Sf2_3
 have nx4 := own_ne nx4
 have ny4 := own_ne ny4
 refine own_st st2 ?_
 obtain ⟨T5, X5, e5, st5⟩ := getF X2 hx Z2 o2 (host := "") (Or.inl (wd21 hw)) Via.refl e2 Fv2 (g := (mkF m 11 #[vR x, vR b, vI 0, vI 0, .val .null, .unset] [(.ref a2), (.ref x)])) rfl rfl (hb hby dS4_11)
 refine own_st st5 ?_
 obtain ⟨T6, h6, X6, e6, W6, st6⟩ := putF X5 hx Z2 o2 (host := "") (Or.inl (wd21 hw)) Via.refl e5 (Fv.ext E2) (Ex.ext E2) (Or.inr ⟨(wd17 hw), rfl, hnm⟩) (wd2 hw) (ty := (.array .byte)) (by decide) rfl rfl (g := (mkF m 14 #[vR x, vR b, vI 0, vI 0, .val .null, .unset] [(.ref b2), (.ref x)])) rfl rfl (hb hby dS4_14)
 have Fw6 := (Fv.ext E2).same W6
 have sz6 : h2.size ≤ h6.size := (Keep.of_wr W6).1
 have K6 : Keep h0 h6 [x] := K2.wr W6 (Or.inl (by simp))
 have c6 : CHr Z consts_1 T2.vm h2 T2.vm h6 := CHr.wr W6 Sf2_3 C2.1
 have C6 := C2.trans c6
 have Sf6_7 := c6.safe (own_lt (by omega)) Sf2_3
 have N6 := Fr.snoc X6 N0 (own_le (by omega))
 refine own_st st6 ?_
 refine s_aloadN X6 hx (hb hby dS4_17) rfl rfl ?_
 refine own_st (fun tq kq => ldcAgain (s := s) (vm0 := T2.vm) X6 hx Z2 o2 (wd15 hw) L2 (g := (mkF m 18 #[vR x, vR b, vI 0, vI 0, .val .null, .unset] [(.ref x)])) rfl (hb hby dS4_18) _ kq) ?_
 obtain ⟨T8, X8, e8, st8⟩ := getF X6 hx Z2 o2 (host := "") (Or.inl (wd22 hw)) Via.refl e6 (Fc2.other W6 (Or.inl (own_ne (by omega)))) (g := (mkF m 20 #[vR x, vR b, vI 0, vI 0, .val .null, .unset] [(.ref a2), (.ref x)])) rfl rfl (hb hby dS4_20)
 refine own_st st8 ?_
 obtain ⟨T9, h9, X9, e9, W9, st9⟩ := putF X8 hx Z2 o2 (host := "") (Or.inl (wd22 hw)) Via.refl e8 ((Fc.ext E2).other W6 (Or.inr (slot_ne (Or.inr (wd18 hw)) (Or.inr (wd17 hw)) (by decide) (t := .byte) (t' := (.array .byte)) (by decide) (by decide)))) ((Ex.ext E2).wr W6) (Or.inr ⟨(wd18 hw), rfl, hnm⟩) (wd2 hw) (ty := .byte) (by decide) rfl rfl (g := (mkF m 23 #[vR x, vR b, vI 0, vI 0, .val .null, .unset] [(.int 0), (.ref x)])) rfl rfl (hb hby dS4_23)
 have Fw9 := ((Fc.ext E2).other W6 (Or.inr (slot_ne (Or.inr (wd18 hw)) (Or.inr (wd17 hw)) (by decide) (t := .byte) (t' := (.array .byte)) (by decide) (by decide)))).same W9
 have sz9 : h6.size ≤ h9.size := (Keep.of_wr W9).1
 have K9 : Keep h0 h9 [x] := K6.wr W9 (Or.inl (by simp))
 have c9 : CHr Z consts_1 T2.vm h6 T2.vm h9 := CHr.wr W9 Sf6_7 C6.1
 have C9 := C6.trans c9
 have Sf9_10 := c9.safe (own_lt (by omega)) Sf6_7
 have N9 := Fr.snoc X9 N6 (own_le (by omega))
 refine own_st st9 ?_
 obtain ⟨fs, hr, hrun, hended, hRW⟩ := X9.leaveW S2 (by rw [e9]; exact (own_le (by omega))) (v := none) (fun _ => rfl)
 have cE := C9.trans (CHv.at (s := s) (vm0 := T2.vm) X9 Z2 hEL C9.1)
 refine ⟨_, _, X9.returnOut hx Bd.returns (hb hby dS4_26) hr, hrun, hended, _, _, rfl, ?_, ?_, own_RW hRW (by decide) (by decide)⟩
 · change Q_own_init4E Z x b v0 c0 h0 n0 _ T9.vm T9.heap _; rw [e9]; exact ⟨rfl, N9, K9, b2, _, (by omega), (Fw6.other W9 (Or.inr (slot_ne (Or.inr (wd17 hw)) (Or.inr (wd18 hw)) (by decide) (t := (.array .byte)) (t' := .byte) (by decide) (by decide)))), Fw9, ((Av2.other W6 (own_ne (by omega))).other W9 (own_ne (by omega)))⟩
 · rw [hh]; change CHr Z consts_1 s.vm h0 T9.vm T9.heap; rw [e9]; exact cE

def Q_own_init1E (Z : State) (x b : Nat) (v0 c0 dv : Value) (kC : ClassId) (h0 : Heap) (n0 : Nat) (v : Option Value) (_vm : Vm) (h : Heap) (L : List Loc) : Prop := own_QE Z x h0 n0 v h L
theorem ef_own_init1E (m : MethodId) (x0 : Nat) (x1 : Nat) : entryFrame m #[(.ref x0), (.ref x1)] 2 = mkF m 0 #[.val (.ref x0), .val (.ref x1)] [] := by first | (simp [entryFrame, mkF, argsToLocals, Value.category]; done) | rfl
theorem own_init1E (l : Launch) (Z : State) (a0 : Array Value) (hw : hWt a0 Z) (hEL : EW Z a0 consts_1) (ws : List Jvm.Cond) (x b : Nat) (v0 c0 dv : Value) (kC : ClassId) (h0 : Heap) (n0 : Nat) (Z0 : n0 ≤ h0.size) (X00 : Old Z n0 h0) (Ex : Exa Z h0 x "java/lang/String") (Fv : Fld Z h0 x "java/lang/String" "value" "[B" v0) (Fc : Fld Z h0 x "java/lang/String" "coder" "B" c0) (gx : n0 ≤ x) (ltx : x < h0.size) (Vb : Arv Z h0 b kC .char (0 : Int32) [] dv) :
    MetFree l mN1 (head1 (Jvm.Cond.code mN1 jdk_42_method_3_code 2 none :: ws) rm_2_2_4_29) (own_P Z consts_1 #[(.ref x), (.ref b)] h0 [x]) (fun _ _ _ _ _ => True) (own_E Z consts_1 (Q_own_init1E Z x b v0 c0 dv kC h0 n0) rm_2_2_4_29) := by
 refine MetFree.of_bodySF (plainFor_of_name own_pn0) hisR ?_
 intro p e s m args below meth c s₁ Bd hml0 hP hK
 obtain ⟨rfl, hZ, hh, hCH, hSafe⟩ := hP
 have hx := Bd.exec
 have hby := Bd.bytes
 have hml : c.maxLocals = 2 := hml0
 have hown : s.vm.findClass "java/lang/String" = some m.cls := findClass_of_methodNamed Bd.named
 have hnm := (name_of_methodNamed Bd.named Bd.method).1
 have X0 : Stand p l e rm_2_2_4_29 (s.setVm s.vm) m #[(.ref x), (.ref b)] below meth c s₁ [] 0 0 := Stand.of_body Bd
 have e0 : s₁.heap = h0 := by rw [← hh, Bd.state]; rfl
 have N0 := Fr.nil n0
 have K0 : Keep h0 h0 [x] := Keep.refl h0 [x]
 have S0 : s.Since s.vm 0 := own_since s
 have C0 : CHr Z consts_1 s.vm h0 s.vm h0 := CHr.refl hCH
 refine show own_G p e below (own_E Z consts_1 (Q_own_init1E Z x b v0 c0 dv kC h0 n0) rm_2_2_4_29 #[(.ref x), (.ref b)] s) _ from ?_
 refine own_st (fun tq kq => castTop (ef_own_init1E m (x) (b)) kq) ?_
 show own_G p e below _ (s₁.setTop (mkF m 0 #[vR x, vR b] []))
 have hws0 : ∀ y ∈ [x], n0 ≤ y := allS gx all0
 refine s_aloadN X0 hx (hb hby dS1_0) rfl rfl ?_
 refine s_aloadN X0 hx (hb hby dS1_1) rfl rfl ?_
 refine s_iconst X0 hx (hb hby dS1_2) ?_
 refine s_aloadN X0 hx (hb hby dS1_3) rfl rfl ?_
 show own_G p e below _ (s₁.setTop (mkF m 4 #[vR x, vR b] [(.ref b), (.int 0), (.ref b), (.ref x)]))
 obtain ⟨cl1, Ar1, q1, S_1, N_1, H_1, G_1⟩ := id Vb
 refine own_st (fun tq kq => X0.arraylength hx (by rw [e0]; exact Ar1.1) (State.isArrayOf_alike hZ.alike Ar1.2.1) (g := (mkF m 4 #[vR x, vR b] [(.ref b), (.int 0), (.ref b), (.ref x)])) rfl rfl (hb hby dS1_4) _ kq) ?_
 rw [len_of S_1 N_1]
 show own_G p e below _ (s₁.setTop (mkF m 5 #[vR x, vR b] [(.int 0), (.int 0), (.ref b), (.ref x)]))
 refine own_st (fun tq kq => XS.aconstNull X0.here hx rfl (hb hby dS1_5) kq) ?_
 obtain ⟨_, _, ⟨T2, L2, k2, n2⟩, -, Y2, S2p, gr2, ⟨Lc2, hQ2, l2, y2, z2, c2⟩, st2⟩ := X0.specialBackS hx (y := mN0) rfl hown (mvT hZ (wd8 hw)) (mvT hZ (wd9 hw)) (mvT hZ (wd11 hw)) (by decide) (own_back (s := s) (vm0 := s.vm) (W := 0) (own_init4E l Z a0 hw hEL [] (x) (b) (v0) (c0) h0 n0 (by omega) (X00.keep K0 hws0) Ex Fv Fc gx ltx) hZ (wd11 hw) (wd3 hw) (by decide) (by decide) hEL C0.1 (allS ⟨own_lt (by omega), (hSafe _ (List.mem_of_getElem? (i := 0) rfl))⟩ all0)) (g := (mkF m 6 #[vR x, vR b] [.null, (.int 0), (.int 0), (.ref b), (.ref x)])) rfl (by rw [hml]; rfl) (Steps.refl _) (a := x) (argsL := [(.ref b), (.int 0), (.int 0), .null]) (rest := []) (lenOf own_pd0 rfl) rfl (Nat.le_of_eq rfl) (hb hby dS1_6) (fun _ _ => ⟨rfl, e0, (by decide : 0 + 2 ≤ _), (by decide : 0 + 4 ≤ _)⟩)
 dsimp only [Pt.U, Pt.locs, Pt.cells, Pt.slots] at Y2 S2p gr2 l2 y2 z2 st2 hQ2 c2
 subst l2 y2 z2
 obtain ⟨X2, S2, Z2, o2⟩ := rebS S0 (by rw [e0]; exact (own_le (by omega))) Y2 S2p gr2 hZ hown
 obtain ⟨rfl, Nq2, Kq2, R2⟩ := hQ2
 have KK2 : Keep h0 T2.heap [x] := Kq2
 have sz2 : h0.size ≤ T2.heap.size := KK2.1
 have K2 : Keep h0 T2.heap [x] := K0.trans KK2 (allS (Or.inl (by simp)) all0)
 have C2 := C0.trans c2
 have Sf2_3 := c2.safe (own_lt (by omega)) (hSafe _ (List.mem_of_getElem? (i := 0) rfl))
 have N2 := Fr.app N0 Nq2
 refine own_st (fun tq kq => st2.trans kq) ?_
 obtain ⟨fs, hr, hrun, hended, hRW⟩ := X2.leaveW S2 (own_le (by omega)) (v := none) (fun _ => rfl)
 have cE := C2.trans (CHv.at (s := s) (vm0 := T2.vm) X2 Z2 hEL C2.1)
 refine ⟨_, _, X2.returnOut hx Bd.returns (hb hby dS1_9) hr, hrun, hended, _, _, rfl, ?_, ?_, own_RW hRW (by decide) (by decide)⟩
 · change Q_own_init1E Z x b v0 c0 dv kC h0 n0 _ T2.vm T2.heap _; exact ⟨rfl, N2, K2, R2⟩
 · rw [hh]; change CHr Z consts_1 s.vm h0 T2.vm T2.heap; exact cE

/-- what new String(char[]) leaves, of any length -/
def own_QS (Z : State) (x : Nat) (cs : List Int32) (h0 : Heap) (n0 : Nat) (v : Option Value) (h : Heap) (L : List Loc) : Prop := v = none ∧ Fr n0 L ∧ Keep h0 h [x] ∧ own_Str Z h.size h x cs
set_option maxRecDepth 65536 in
set_option maxHeartbeats 40000000 in
/-- new String(char[]) at a call: no char, or up to 4,000 chars from 0 to 255 -/
theorem own_newStr {p : Program} {l : Launch} {e : Env} {R : Room} {s : State} {args : Array Value} {below : List Frame} {len W : Nat} {Z : State} {a0 : Array Value} {h : Heap} {vm0 : Vm} (hZ : Z.Warmed39 vm0) (hw : ∀ d ∈ tables_1, d.before a0 Z = true) (hEL : EW Z a0 consts_1) (H : CHv Z consts_1 vm0 h)
    {x b : Nat} {kC : ClassId} {cs : List Int32} {d v0 c0 : Value} {z N : Int32} {n n0 : Nat} (hs : Safe Z consts_1 vm0 h x) (hx0 : n0 ≤ x) (X00 : Old Z n0 h) (E : Exa Z h x "java/lang/String") (V : Fld Z h x "java/lang/String" "value" "[B" v0) (C : Fld Z h x "java/lang/String" "coder" "B" c0) (K : Arv Z h b kC .char N (cs.map Value.int) d) (S : Sta Z Z.heap "java/lang/String" "COMPACT_STRINGS" "Z" (.int z)) (hz : ¬ z = 0)
    (hn : cs.length = n) (hN : N = Int32.ofNat n) (l2 : n ≤ 4000) (hp : ∀ c ∈ cs, ¬ c < 0 ∧ ¬ (255 : Int32) < c) (hfr : 4 ≤ R.frames) (hlo : W + 65 ≤ R.locals) :
    BackS l R p e below (s.setVm vm0) args (⟨"java/lang/String", "<init>", "([C)V"⟩ : MethodName) len W (fun P a => a = #[.ref x, .ref b] ∧ P.U.heap = h ∧ P.cells + 2 ≤ R.cells ∧ P.slots + (n + 4) ≤ R.slots)
      (fun P _ v B => ∃ L, own_QS Z x cs h n0 v B.U.heap L ∧ B.locs = P.locs ++ L ∧ B.cells = P.cells + 2 ∧ B.slots = P.slots + (n + 4) ∧ CHr Z consts_1 vm0 h B.U.vm B.U.heap) := by
  have hh0 : n0 ≤ h.size := by have := X00.1; have := X00.2.1; omega
  rcases Nat.eq_zero_or_pos n with hn0 | hn0
  · subst hn0
    obtain rfl : cs = [] := List.length_eq_zero_iff.mp hn
    obtain rfl : N = (0 : Int32) := hN
    intro m meth c P g ig mk a X hg hsize hdg hW hnn hp'
    obtain ⟨v, B, Y, q1, q2, ⟨L, hQ, e1, e2, e3, hc⟩, st⟩ := own_back (rm := rm_2_2_4_29) (R := R) (W := W) (s := s) (vm0 := vm0) (own_init1E l Z a0 hw hEL [] x b v0 c0 d kC h n0 hh0 X00 E V C hx0 E.lt K) hZ (wd7 hw) (wd3 hw) (by show 2 + 1 ≤ _; omega) (by show W + (2 + 11) + 29 ≤ _; omega) hEL H (allS ⟨E.lt, hs⟩ all0) m meth c P g ig mk a X hg hsize hdg hW hnn ⟨hp'.1, hp'.2.1, hp'.2.2.1, hp'.2.2.2⟩
    obtain ⟨r1, r2, r3, t, kb, r4, r5, r6, r7⟩ := hQ
    exact ⟨v, B, Y, q1, q2, ⟨L, ⟨r1, r2, r3, r5.lt, E.keep r3, hp, by decide, t, kb, r7.lt, r5, r6, r7⟩, e1, e2, e3, hc⟩, st⟩
  · have hws : ∀ d ∈ StrChars.Road.words, d.before a0 Z = true := fun d hd => hw d ((by decide +kernel : ∀ d ∈ StrChars.Road.words, d ∈ tables_1) d hd)
    intro m meth c P g ig mk a X hg hsize hdg hW hnn hp'
    obtain ⟨v, B, Y, ⟨L, hQ, e1, e2, e3⟩, st⟩ := StrChars.Road.backV (R := R) (W := W) (s := s.setVm vm0) hZ hws (kI := 4) (wd2 hw) (cs := cs) (bs := cs.map (fun c => c.toInt8.toInt32)) (n := n) hx0 hh0 E V C K (S.ext X00.2) hz hn hN hn0 l2 hp rfl hfr hlo m meth c P g ig mk a X hg hsize hdg hW hnn ⟨hp'.1, hp'.2.1, Nat.le_trans (by omega) hp'.2.2.1, Nat.le_trans (by omega) hp'.2.2.2⟩
    obtain ⟨BU, BL, Bc, Bs⟩ := B
    dsimp only [Pt.U, Pt.locs, Pt.cells, Pt.slots] at Y hQ e1 e2 e3 st
    obtain ⟨r1, r2, r3, r4, r5, t, kb, u1, u2, u3, u4, u5⟩ := hQ
    have hCH : CHr Z consts_1 vm0 h vm0 BU.heap := CHr.keep r3 (allS hs all0) H
    have Y2 : Stand p l e R (s.setVm vm0) m args below meth c BU BL (P.cells + 2) (P.slots + (n + 4)) := Y.mono (by rw [e2]; exact Nat.add_le_add_left (by decide) _) (by rw [e3]; exact Nat.add_le_add_left (Nat.le_add_right _ _) _)
    refine ⟨v, ⟨BU, BL, P.cells + 2, P.slots + (n + 4)⟩, Y2.retabled Y2.warmed.wide, Y2.warmed.since _, ?_, ⟨L, ⟨r1, r2, r3, u4.lt, r4, hp, by omega, t, kb, u5.lt, u4, r5, ?_⟩, e1, rfl, rfl, hCH.trans (CHv.at (s := s) (vm0 := vm0) Y2 hZ hEL hCH.1)⟩, st⟩
    · show P.U.heap.size ≤ BU.heap.size
      rw [hp'.2.1]; exact r3.1
    · rw [hn, ← hN]; exact u5

theorem own_narc {c : Int32} (h : ¬ c < 0 ∧ ¬ (65535 : Int32) < c) : nar .char c = c := by
  have q := StrChars.narrow_ch h.1 h.2
  injection q
theorem own_wCh {a0 : Array Value} {Z : State} (hw : ∀ d ∈ tables_1, d.before a0 Z = true) : ∀ d ∈ StrChars.Road.wordsChN, d.before a0 Z = true := fun d hd => hw d ((by decide +kernel : ∀ d ∈ StrChars.Road.wordsChN, d ∈ tables_1) d hd)
theorem own_wLen {a0 : Array Value} {Z : State} (hw : ∀ d ∈ tables_1, d.before a0 Z = true) : ∀ d ∈ StrChars.Road.wordsLen, d.before a0 Z = true := fun d hd => hw d ((by decide +kernel : ∀ d ∈ StrChars.Road.wordsLen, d ∈ tables_1) d hd)


abbrev L8 (c : Int32) : Int32 := StrChars.lo8 c
abbrev H8 (c : Int32) : Int32 := StrChars.hi8 c
abbrev oA (Z : State) : Prop := Sta Z Z.heap "java/lang/StringUTF16" "$assertionsDisabled" "Z" (.int (1 : Int32))
abbrev oH (Z : State) : Prop := Sta Z Z.heap "java/lang/StringUTF16" "HI_BYTE_SHIFT" "I" (.int (0 : Int32))
abbrev oL (Z : State) : Prop := Sta Z Z.heap "java/lang/StringUTF16" "LO_BYTE_SHIFT" "I" (.int (8 : Int32))
abbrev o4 (Z : State) (fm : Value) : Prop := Sta Z Z.heap "jdk/internal/util/Preconditions" "SIOOBE_FORMATTER" "Ljava/util/function/BiFunction;" fm
theorem own_i2cn (x : Int32) : nar .char (x.toUInt32.toUInt16.toUInt32.toInt32) = x.toUInt32.toUInt16.toUInt32.toInt32 := by simp only [nar, UInt32.toUInt32_toInt32, UInt16.toUInt16_toUInt32]
theorem own_pairN (u v : Int32) : nar .char (StrChars.pairCh u v) = StrChars.pairCh u v := own_i2cn _
theorem own_pb0 (c : Int32) : nar .byte ((c >>> ((0 : Int32) &&& 31)).toInt8.toInt32) = StrChars.lo8 c := by
  rw [StrChars.shr0]; unfold StrChars.lo8; simp [nar]
theorem own_pb8 (c : Int32) : nar .byte ((c >>> ((8 : Int32) &&& 31)).toInt8.toInt32) = StrChars.hi8 c := by
  unfold StrChars.hi8 StrChars.lo8; simp [nar]
/-- a String of known chars of any kind; a, and its byte[], lie below n -/
def own_StrU (Z : State) (n : Nat) (h : Heap) (a : Nat) (cs : List Int32) : Prop := a < n ∧ Exa Z h a "java/lang/String" ∧ (∀ c ∈ cs, ¬ c < 0 ∧ ¬ (65535 : Int32) < c) ∧ cs.length ≤ 4000 ∧ ∃ (t : Nat) (kb : ClassId) (cd N2 : Int32) (vs : List Value), t < n ∧ Fld Z h a "java/lang/String" "value" "[B" (.ref t) ∧ Fld Z h a "java/lang/String" "coder" "B" (.int cd) ∧ Arv Z h t kb .byte N2 vs (.int 0) ∧ StrChars.Road.CodA cs cd N2 vs
theorem own_StrU.keep {Z : State} {n : Nat} {h h' : Heap} {a : Nat} {cs : List Int32} {ws : List Addr} (F : own_StrU Z n h a cs) (K : Keep h h' ws) (q : ∀ x ∈ ws, n ≤ x) : own_StrU Z n h' a cs := by
  obtain ⟨f1, f2, f3, f4, t, kb, cd, N2, vs, f5, f6, f7, f8, f9⟩ := F
  exact ⟨f1, f2.keep K, f3, f4, t, kb, cd, N2, vs, f5, f6.keep K (fun m => absurd f1 (Nat.not_lt.mpr (q _ m))), f7.keep K (fun m => absurd f1 (Nat.not_lt.mpr (q _ m))), f8.keep K (fun m => absurd f5 (Nat.not_lt.mpr (q _ m))), f9⟩
theorem own_StrU.mono {Z : State} {n n' : Nat} {h : Heap} {a : Nat} {cs : List Int32} (F : own_StrU Z n h a cs) (q : n ≤ n') : own_StrU Z n' h a cs := by
  obtain ⟨f1, f2, f3, f4, t, kb, cd, N2, vs, f5, f6⟩ := F
  exact ⟨Nat.lt_of_lt_of_le f1 q, f2, f3, f4, t, kb, cd, N2, vs, Nat.lt_of_lt_of_le f5 q, f6⟩
theorem own_up {cs : List Int32} (h : ∀ c ∈ cs, ¬ c < 0 ∧ ¬ (255 : Int32) < c) : ∀ c ∈ cs, ¬ c < 0 ∧ ¬ (65535 : Int32) < c := fun c hc => ⟨(h c hc).1, fun q => (h c hc).2 (by rw [Int32.lt_iff_toInt_lt] at q ⊢; have e1 : (65535 : Int32).toInt = 65535 := rfl; have e2 : (255 : Int32).toInt = 255 := rfl; omega)⟩
theorem own_Str.toU {Z : State} {n : Nat} {h : Heap} {a : Nat} {cs : List Int32} (F : own_Str Z n h a cs) : own_StrU Z n h a cs := by
  obtain ⟨f1, f2, f3, f4, t, kb, f5, f6, f7, f8⟩ := F
  exact ⟨f1, f2, own_up f3, f4, t, kb, 0, _, _, f5, f6, f7, f8, StrChars.Road.codOf rfl (fun c hc => (f3 c hc).2)⟩
def own_QU (Z : State) (x : Nat) (cs : List Int32) (h0 : Heap) (n0 : Nat) (v : Option Value) (h : Heap) (L : List Loc) : Prop := v = none ∧ Fr n0 L ∧ Keep h0 h [x] ∧ own_StrU Z h.size h x cs

def Q_own_get_0 (Z : State) (t : Nat) (kb : ClassId) (zz : Int32) (vs : List Value) (b0 b1 : Int32) (h0 : Heap) (n0 : Nat) (v : Option Value) (h : Heap) (L : List Loc) : Prop := v = some (.int (StrChars.pairCh b0 b1)) ∧ Fr n0 L ∧ h = h0
theorem ef_own_get_0 (m : MethodId) (x0 : Nat) : entryFrame m #[(.ref x0), (.int 0)] 2 = mkF m 0 #[.val (.ref x0), .val (.int 0)] [] := by first | (simp [entryFrame, mkF, argsToLocals, Value.category]; done) | rfl
theorem own_get_0 (l : Launch) (Z : State) (a0 : Array Value) (hw : hWt a0 Z) (ws : List Jvm.Cond) (t : Nat) (kb : ClassId) (zz : Int32) (vs : List Value) (b0 b1 : Int32) (h0 : Heap) (n0 : Nat) (Z0 : n0 ≤ h0.size) (X00 : Old Z n0 h0) (OA : oA Z) (OH : oH Z) (OL : oL Z) (Vt : Arv Z h0 t kb .byte zz vs (.int 0)) (i0 : (0 : Int32) < zz) (i1 : (1 : Int32) < zz) (g0 : vs.getD 0 (.int 0) = .int b0) (g1 : vs.getD 1 (.int 0) = .int b1) :
 own_MN l mN2 jdk_52_method_5_code 2 (some .char) ws rm_0_0_0_0 Z #[(.ref t), (.int 0)] h0 (Q_own_get_0 Z t kb zz vs b0 b1 h0 n0) := by
 refine own_bodyN (plainFor_of_name own_pn1) fun p e s m below meth c s₁ Bd hx hby hml hown hZ X0 e0 => ?_
 have N0 := Fr.nil n0
 have K0 : Keep h0 h0 [] := Keep.refl h0 []
 refine own_st (fun tq kq => castTop (ef_own_get_0 m (t)) kq) ?_
 show own_G p e below _ (s₁.setTop (mkF m 0 #[vR t, vI 0] []))
 obtain ⟨T1, X1, e1, st1⟩ := getS2 X0 hx hZ hown (host := "") (Or.inl (wd123 hw)) Via.refl e0 (OA.ext (X00.keep K0 all0).2) (g := (mkF m 0 #[vR t, vI 0] [])) rfl (hb hby dGC_0)
 refine own_st st1 ?_
 refine own_st (fun tq kq => XS.ifYes X1.here hx rfl (pc0 := 3) (pc' := 28) rfl (hb hby dGC_3) rfl ((if0 _ _).trans (feq (by decide : ¬ ((1 : Int32) = (0 : Int32)))).2) (by decide) (by decide) kq) ?_
 refine s_iloadN X1 hx (hb hby dGC_28) rfl ?_
 refine s_iconst X1 hx (hb hby dGC_29) ?_
 refine own_st (fun tq kq => XS.ishl X1.here hx rfl (hb hby dGC_30) rfl kq) ?_
 show own_G p e below _ (T1.setTop (mkF m 31 #[vR t, vI 0] [(.int 0)]))
 refine own_st (fun tq kq => XS.istoreN X1.here hx rfl (hb hby dGC_31) rfl (l' := #[vR t, vI 0]) rfl kq) ?_
 refine s_aloadN X1 hx (hb hby dGC_32) rfl rfl ?_
 refine s_iloadN X1 hx (hb hby dGC_33) rfl ?_
 refine own_st (fun tq kq => XS.iinc X1.here hx rfl (hb hby dGC_34) rfl (l' := #[vR t, vI 1]) rfl kq) ?_
 show own_G p e below _ (T1.setTop (mkF m 37 #[vR t, vI 1] [(.int 0), (.ref t)]))
 obtain ⟨cl2, Ar2, q2, S_2, N_2, H_2, G_2⟩ := id Vt
 have in2 : ¬ ((0 : Int32) < 0 ∨ cl2.slots.size ≤ ((0 : Int32)).toNatClampNeg) := inb_of S_2 ⟨by decide, i0⟩
 have at2 : cl2.slots[((0 : Int32)).toNatClampNeg]? = some (.int b0) := H_2.at in2 g0
 refine own_st (fun tq kq => X1.baloadBytes hx (j := (0 : Int32)) (v := (.int b0)) (by rw [e1]; exact Ar2.1) (State.isArrayOf_alike hZ.alike Ar2.2.1) Ar2.2.2 in2 at2 (g := (mkF m 37 #[vR t, vI 1] [(.int 0), (.ref t)])) rfl rfl (hb hby dGC_37) _ kq) ?_
 refine s_sipush X1 hx (hb hby dGC_38) ?_
 refine own_st (fun tq kq => XS.iand X1.here hx rfl (hb hby dGC_41) rfl kq) ?_
 obtain ⟨T3, X3, e3, st3⟩ := getS2 X1 hx hZ hown (host := "") (Or.inl (wd124 hw)) Via.refl e1 (OH.ext (X00.keep K0 all0).2) (g := (mkF m 42 #[vR t, vI 1] [(.int (b0 &&& (255 : Int32)))])) rfl (hb hby dGC_42)
 refine own_st st3 ?_
 refine own_st (fun tq kq => XS.ishl X3.here hx rfl (hb hby dGC_45) rfl kq) ?_
 refine s_aloadN X3 hx (hb hby dGC_46) rfl rfl ?_
 refine s_iloadN X3 hx (hb hby dGC_47) rfl ?_
 obtain ⟨cl4, Ar4, q4, S_4, N_4, H_4, G_4⟩ := id Vt
 have in4 : ¬ ((1 : Int32) < 0 ∨ cl4.slots.size ≤ ((1 : Int32)).toNatClampNeg) := inb_of S_4 ⟨by decide, i1⟩
 have at4 : cl4.slots[((1 : Int32)).toNatClampNeg]? = some (.int b1) := H_4.at in4 g1
 refine own_st (fun tq kq => X3.baloadBytes hx (j := (1 : Int32)) (v := (.int b1)) (by rw [e3]; exact Ar4.1) (State.isArrayOf_alike hZ.alike Ar4.2.1) Ar4.2.2 in4 at4 (g := (mkF m 48 #[vR t, vI 1] [(.int 1), (.ref t), (.int ((b0 &&& (255 : Int32)) <<< ((0 : Int32) &&& 31)))])) rfl rfl (hb hby dGC_48) _ kq) ?_
 show own_G p e below _ (T3.setTop (mkF m 49 #[vR t, vI 1] [(.int b1), (.int ((b0 &&& (255 : Int32)) <<< ((0 : Int32) &&& 31)))]))
 refine s_sipush X3 hx (hb hby dGC_49) ?_
 refine own_st (fun tq kq => XS.iand X3.here hx rfl (hb hby dGC_52) rfl kq) ?_
 obtain ⟨T5, X5, e5, st5⟩ := getS2 X3 hx hZ hown (host := "") (Or.inl (wd125 hw)) Via.refl e3 (OL.ext (X00.keep K0 all0).2) (g := (mkF m 53 #[vR t, vI 1] [(.int (b1 &&& (255 : Int32))), (.int ((b0 &&& (255 : Int32)) <<< ((0 : Int32) &&& 31)))])) rfl (hb hby dGC_53)
 refine own_st st5 ?_
 refine own_st (fun tq kq => XS.ishl X5.here hx rfl (hb hby dGC_56) rfl kq) ?_
 refine own_st (fun tq kq => XS.ior X5.here hx rfl (hb hby dGC_57) rfl kq) ?_
 refine own_st (fun tq kq => XS.i2c X5.here hx rfl (hb hby dGC_58) rfl kq) ?_
 show own_G p e below _ (T5.setTop (mkF m 59 #[vR t, vI 1] [(.int ((((b0 &&& (255 : Int32)) <<< ((0 : Int32) &&& 31)) ||| ((b1 &&& (255 : Int32)) <<< ((8 : Int32) &&& 31))).toUInt32.toUInt16.toUInt32.toInt32))]))
 obtain ⟨fs, hr, hrun, hended, hW, hsame⟩ := X5.leave (v := some (.int (nar .char ((((b0 &&& (255 : Int32)) <<< ((0 : Int32) &&& 31)) ||| ((b1 &&& (255 : Int32)) <<< ((8 : Int32) &&& 31))).toUInt32.toUInt16.toUInt32.toInt32)))) (fun h => by rw [Bd.returns] at h; cases h)
 refine ⟨_, _, retN X5 hx (t := .char) Bd.returns (by simp) (hb hby dGC_59) hr, hrun, hended, _, _, rfl, ?_, ⟨_, rfl⟩, hW, hsame.mono (by decide) (by decide)⟩
 change Q_own_get_0 Z t kb zz vs b0 b1 h0 n0 _ T5.heap _; rw [e5]; exact ⟨congrArg (fun z => some (Value.int z)) (own_pairN b0 b1), N0, rfl⟩

def Q_own_get_1 (Z : State) (t : Nat) (kb : ClassId) (zz : Int32) (vs : List Value) (b0 b1 : Int32) (h0 : Heap) (n0 : Nat) (v : Option Value) (h : Heap) (L : List Loc) : Prop := v = some (.int (StrChars.pairCh b0 b1)) ∧ Fr n0 L ∧ h = h0
theorem ef_own_get_1 (m : MethodId) (x0 : Nat) : entryFrame m #[(.ref x0), (.int 1)] 2 = mkF m 0 #[.val (.ref x0), .val (.int 1)] [] := by first | (simp [entryFrame, mkF, argsToLocals, Value.category]; done) | rfl
theorem own_get_1 (l : Launch) (Z : State) (a0 : Array Value) (hw : hWt a0 Z) (ws : List Jvm.Cond) (t : Nat) (kb : ClassId) (zz : Int32) (vs : List Value) (b0 b1 : Int32) (h0 : Heap) (n0 : Nat) (Z0 : n0 ≤ h0.size) (X00 : Old Z n0 h0) (OA : oA Z) (OH : oH Z) (OL : oL Z) (Vt : Arv Z h0 t kb .byte zz vs (.int 0)) (i0 : (2 : Int32) < zz) (i1 : (3 : Int32) < zz) (g0 : vs.getD 2 (.int 0) = .int b0) (g1 : vs.getD 3 (.int 0) = .int b1) :
 own_MN l mN2 jdk_52_method_5_code 2 (some .char) ws rm_0_0_0_0 Z #[(.ref t), (.int 1)] h0 (Q_own_get_1 Z t kb zz vs b0 b1 h0 n0) := by
 refine own_bodyN (plainFor_of_name own_pn1) fun p e s m below meth c s₁ Bd hx hby hml hown hZ X0 e0 => ?_
 have N0 := Fr.nil n0
 have K0 : Keep h0 h0 [] := Keep.refl h0 []
 refine own_st (fun tq kq => castTop (ef_own_get_1 m (t)) kq) ?_
 show own_G p e below _ (s₁.setTop (mkF m 0 #[vR t, vI 1] []))
 obtain ⟨T1, X1, e1, st1⟩ := getS2 X0 hx hZ hown (host := "") (Or.inl (wd123 hw)) Via.refl e0 (OA.ext (X00.keep K0 all0).2) (g := (mkF m 0 #[vR t, vI 1] [])) rfl (hb hby dGC_0)
 refine own_st st1 ?_
 refine own_st (fun tq kq => XS.ifYes X1.here hx rfl (pc0 := 3) (pc' := 28) rfl (hb hby dGC_3) rfl ((if0 _ _).trans (feq (by decide : ¬ ((1 : Int32) = (0 : Int32)))).2) (by decide) (by decide) kq) ?_
 refine s_iloadN X1 hx (hb hby dGC_28) rfl ?_
 refine s_iconst X1 hx (hb hby dGC_29) ?_
 refine own_st (fun tq kq => XS.ishl X1.here hx rfl (hb hby dGC_30) rfl kq) ?_
 show own_G p e below _ (T1.setTop (mkF m 31 #[vR t, vI 1] [(.int 2)]))
 refine own_st (fun tq kq => XS.istoreN X1.here hx rfl (hb hby dGC_31) rfl (l' := #[vR t, vI 2]) rfl kq) ?_
 refine s_aloadN X1 hx (hb hby dGC_32) rfl rfl ?_
 refine s_iloadN X1 hx (hb hby dGC_33) rfl ?_
 refine own_st (fun tq kq => XS.iinc X1.here hx rfl (hb hby dGC_34) rfl (l' := #[vR t, vI 3]) rfl kq) ?_
 show own_G p e below _ (T1.setTop (mkF m 37 #[vR t, vI 3] [(.int 2), (.ref t)]))
 obtain ⟨cl2, Ar2, q2, S_2, N_2, H_2, G_2⟩ := id Vt
 have in2 : ¬ ((2 : Int32) < 0 ∨ cl2.slots.size ≤ ((2 : Int32)).toNatClampNeg) := inb_of S_2 ⟨by decide, i0⟩
 have at2 : cl2.slots[((2 : Int32)).toNatClampNeg]? = some (.int b0) := H_2.at in2 g0
 refine own_st (fun tq kq => X1.baloadBytes hx (j := (2 : Int32)) (v := (.int b0)) (by rw [e1]; exact Ar2.1) (State.isArrayOf_alike hZ.alike Ar2.2.1) Ar2.2.2 in2 at2 (g := (mkF m 37 #[vR t, vI 3] [(.int 2), (.ref t)])) rfl rfl (hb hby dGC_37) _ kq) ?_
 refine s_sipush X1 hx (hb hby dGC_38) ?_
 refine own_st (fun tq kq => XS.iand X1.here hx rfl (hb hby dGC_41) rfl kq) ?_
 obtain ⟨T3, X3, e3, st3⟩ := getS2 X1 hx hZ hown (host := "") (Or.inl (wd124 hw)) Via.refl e1 (OH.ext (X00.keep K0 all0).2) (g := (mkF m 42 #[vR t, vI 3] [(.int (b0 &&& (255 : Int32)))])) rfl (hb hby dGC_42)
 refine own_st st3 ?_
 refine own_st (fun tq kq => XS.ishl X3.here hx rfl (hb hby dGC_45) rfl kq) ?_
 refine s_aloadN X3 hx (hb hby dGC_46) rfl rfl ?_
 refine s_iloadN X3 hx (hb hby dGC_47) rfl ?_
 obtain ⟨cl4, Ar4, q4, S_4, N_4, H_4, G_4⟩ := id Vt
 have in4 : ¬ ((3 : Int32) < 0 ∨ cl4.slots.size ≤ ((3 : Int32)).toNatClampNeg) := inb_of S_4 ⟨by decide, i1⟩
 have at4 : cl4.slots[((3 : Int32)).toNatClampNeg]? = some (.int b1) := H_4.at in4 g1
 refine own_st (fun tq kq => X3.baloadBytes hx (j := (3 : Int32)) (v := (.int b1)) (by rw [e3]; exact Ar4.1) (State.isArrayOf_alike hZ.alike Ar4.2.1) Ar4.2.2 in4 at4 (g := (mkF m 48 #[vR t, vI 3] [(.int 3), (.ref t), (.int ((b0 &&& (255 : Int32)) <<< ((0 : Int32) &&& 31)))])) rfl rfl (hb hby dGC_48) _ kq) ?_
 show own_G p e below _ (T3.setTop (mkF m 49 #[vR t, vI 3] [(.int b1), (.int ((b0 &&& (255 : Int32)) <<< ((0 : Int32) &&& 31)))]))
 refine s_sipush X3 hx (hb hby dGC_49) ?_
 refine own_st (fun tq kq => XS.iand X3.here hx rfl (hb hby dGC_52) rfl kq) ?_
 obtain ⟨T5, X5, e5, st5⟩ := getS2 X3 hx hZ hown (host := "") (Or.inl (wd125 hw)) Via.refl e3 (OL.ext (X00.keep K0 all0).2) (g := (mkF m 53 #[vR t, vI 3] [(.int (b1 &&& (255 : Int32))), (.int ((b0 &&& (255 : Int32)) <<< ((0 : Int32) &&& 31)))])) rfl (hb hby dGC_53)
 refine own_st st5 ?_
 refine own_st (fun tq kq => XS.ishl X5.here hx rfl (hb hby dGC_56) rfl kq) ?_
 refine own_st (fun tq kq => XS.ior X5.here hx rfl (hb hby dGC_57) rfl kq) ?_
 refine own_st (fun tq kq => XS.i2c X5.here hx rfl (hb hby dGC_58) rfl kq) ?_
 show own_G p e below _ (T5.setTop (mkF m 59 #[vR t, vI 3] [(.int ((((b0 &&& (255 : Int32)) <<< ((0 : Int32) &&& 31)) ||| ((b1 &&& (255 : Int32)) <<< ((8 : Int32) &&& 31))).toUInt32.toUInt16.toUInt32.toInt32))]))
 obtain ⟨fs, hr, hrun, hended, hW, hsame⟩ := X5.leave (v := some (.int (nar .char ((((b0 &&& (255 : Int32)) <<< ((0 : Int32) &&& 31)) ||| ((b1 &&& (255 : Int32)) <<< ((8 : Int32) &&& 31))).toUInt32.toUInt16.toUInt32.toInt32)))) (fun h => by rw [Bd.returns] at h; cases h)
 refine ⟨_, _, retN X5 hx (t := .char) Bd.returns (by simp) (hb hby dGC_59) hr, hrun, hended, _, _, rfl, ?_, ⟨_, rfl⟩, hW, hsame.mono (by decide) (by decide)⟩
 change Q_own_get_1 Z t kb zz vs b0 b1 h0 n0 _ T5.heap _; rw [e5]; exact ⟨congrArg (fun z => some (Value.int z)) (own_pairN b0 b1), N0, rfl⟩

def Q_own_get_2 (Z : State) (t : Nat) (kb : ClassId) (zz : Int32) (vs : List Value) (b0 b1 : Int32) (h0 : Heap) (n0 : Nat) (v : Option Value) (h : Heap) (L : List Loc) : Prop := v = some (.int (StrChars.pairCh b0 b1)) ∧ Fr n0 L ∧ h = h0
theorem ef_own_get_2 (m : MethodId) (x0 : Nat) : entryFrame m #[(.ref x0), (.int 2)] 2 = mkF m 0 #[.val (.ref x0), .val (.int 2)] [] := by first | (simp [entryFrame, mkF, argsToLocals, Value.category]; done) | rfl
theorem own_get_2 (l : Launch) (Z : State) (a0 : Array Value) (hw : hWt a0 Z) (ws : List Jvm.Cond) (t : Nat) (kb : ClassId) (zz : Int32) (vs : List Value) (b0 b1 : Int32) (h0 : Heap) (n0 : Nat) (Z0 : n0 ≤ h0.size) (X00 : Old Z n0 h0) (OA : oA Z) (OH : oH Z) (OL : oL Z) (Vt : Arv Z h0 t kb .byte zz vs (.int 0)) (i0 : (4 : Int32) < zz) (i1 : (5 : Int32) < zz) (g0 : vs.getD 4 (.int 0) = .int b0) (g1 : vs.getD 5 (.int 0) = .int b1) :
 own_MN l mN2 jdk_52_method_5_code 2 (some .char) ws rm_0_0_0_0 Z #[(.ref t), (.int 2)] h0 (Q_own_get_2 Z t kb zz vs b0 b1 h0 n0) := by
 refine own_bodyN (plainFor_of_name own_pn1) fun p e s m below meth c s₁ Bd hx hby hml hown hZ X0 e0 => ?_
 have N0 := Fr.nil n0
 have K0 : Keep h0 h0 [] := Keep.refl h0 []
 refine own_st (fun tq kq => castTop (ef_own_get_2 m (t)) kq) ?_
 show own_G p e below _ (s₁.setTop (mkF m 0 #[vR t, vI 2] []))
 obtain ⟨T1, X1, e1, st1⟩ := getS2 X0 hx hZ hown (host := "") (Or.inl (wd123 hw)) Via.refl e0 (OA.ext (X00.keep K0 all0).2) (g := (mkF m 0 #[vR t, vI 2] [])) rfl (hb hby dGC_0)
 refine own_st st1 ?_
 refine own_st (fun tq kq => XS.ifYes X1.here hx rfl (pc0 := 3) (pc' := 28) rfl (hb hby dGC_3) rfl ((if0 _ _).trans (feq (by decide : ¬ ((1 : Int32) = (0 : Int32)))).2) (by decide) (by decide) kq) ?_
 refine s_iloadN X1 hx (hb hby dGC_28) rfl ?_
 refine s_iconst X1 hx (hb hby dGC_29) ?_
 refine own_st (fun tq kq => XS.ishl X1.here hx rfl (hb hby dGC_30) rfl kq) ?_
 show own_G p e below _ (T1.setTop (mkF m 31 #[vR t, vI 2] [(.int 4)]))
 refine own_st (fun tq kq => XS.istoreN X1.here hx rfl (hb hby dGC_31) rfl (l' := #[vR t, vI 4]) rfl kq) ?_
 refine s_aloadN X1 hx (hb hby dGC_32) rfl rfl ?_
 refine s_iloadN X1 hx (hb hby dGC_33) rfl ?_
 refine own_st (fun tq kq => XS.iinc X1.here hx rfl (hb hby dGC_34) rfl (l' := #[vR t, vI 5]) rfl kq) ?_
 show own_G p e below _ (T1.setTop (mkF m 37 #[vR t, vI 5] [(.int 4), (.ref t)]))
 obtain ⟨cl2, Ar2, q2, S_2, N_2, H_2, G_2⟩ := id Vt
 have in2 : ¬ ((4 : Int32) < 0 ∨ cl2.slots.size ≤ ((4 : Int32)).toNatClampNeg) := inb_of S_2 ⟨by decide, i0⟩
 have at2 : cl2.slots[((4 : Int32)).toNatClampNeg]? = some (.int b0) := H_2.at in2 g0
 refine own_st (fun tq kq => X1.baloadBytes hx (j := (4 : Int32)) (v := (.int b0)) (by rw [e1]; exact Ar2.1) (State.isArrayOf_alike hZ.alike Ar2.2.1) Ar2.2.2 in2 at2 (g := (mkF m 37 #[vR t, vI 5] [(.int 4), (.ref t)])) rfl rfl (hb hby dGC_37) _ kq) ?_
 refine s_sipush X1 hx (hb hby dGC_38) ?_
 refine own_st (fun tq kq => XS.iand X1.here hx rfl (hb hby dGC_41) rfl kq) ?_
 obtain ⟨T3, X3, e3, st3⟩ := getS2 X1 hx hZ hown (host := "") (Or.inl (wd124 hw)) Via.refl e1 (OH.ext (X00.keep K0 all0).2) (g := (mkF m 42 #[vR t, vI 5] [(.int (b0 &&& (255 : Int32)))])) rfl (hb hby dGC_42)
 refine own_st st3 ?_
 refine own_st (fun tq kq => XS.ishl X3.here hx rfl (hb hby dGC_45) rfl kq) ?_
 refine s_aloadN X3 hx (hb hby dGC_46) rfl rfl ?_
 refine s_iloadN X3 hx (hb hby dGC_47) rfl ?_
 obtain ⟨cl4, Ar4, q4, S_4, N_4, H_4, G_4⟩ := id Vt
 have in4 : ¬ ((5 : Int32) < 0 ∨ cl4.slots.size ≤ ((5 : Int32)).toNatClampNeg) := inb_of S_4 ⟨by decide, i1⟩
 have at4 : cl4.slots[((5 : Int32)).toNatClampNeg]? = some (.int b1) := H_4.at in4 g1
 refine own_st (fun tq kq => X3.baloadBytes hx (j := (5 : Int32)) (v := (.int b1)) (by rw [e3]; exact Ar4.1) (State.isArrayOf_alike hZ.alike Ar4.2.1) Ar4.2.2 in4 at4 (g := (mkF m 48 #[vR t, vI 5] [(.int 5), (.ref t), (.int ((b0 &&& (255 : Int32)) <<< ((0 : Int32) &&& 31)))])) rfl rfl (hb hby dGC_48) _ kq) ?_
 show own_G p e below _ (T3.setTop (mkF m 49 #[vR t, vI 5] [(.int b1), (.int ((b0 &&& (255 : Int32)) <<< ((0 : Int32) &&& 31)))]))
 refine s_sipush X3 hx (hb hby dGC_49) ?_
 refine own_st (fun tq kq => XS.iand X3.here hx rfl (hb hby dGC_52) rfl kq) ?_
 obtain ⟨T5, X5, e5, st5⟩ := getS2 X3 hx hZ hown (host := "") (Or.inl (wd125 hw)) Via.refl e3 (OL.ext (X00.keep K0 all0).2) (g := (mkF m 53 #[vR t, vI 5] [(.int (b1 &&& (255 : Int32))), (.int ((b0 &&& (255 : Int32)) <<< ((0 : Int32) &&& 31)))])) rfl (hb hby dGC_53)
 refine own_st st5 ?_
 refine own_st (fun tq kq => XS.ishl X5.here hx rfl (hb hby dGC_56) rfl kq) ?_
 refine own_st (fun tq kq => XS.ior X5.here hx rfl (hb hby dGC_57) rfl kq) ?_
 refine own_st (fun tq kq => XS.i2c X5.here hx rfl (hb hby dGC_58) rfl kq) ?_
 show own_G p e below _ (T5.setTop (mkF m 59 #[vR t, vI 5] [(.int ((((b0 &&& (255 : Int32)) <<< ((0 : Int32) &&& 31)) ||| ((b1 &&& (255 : Int32)) <<< ((8 : Int32) &&& 31))).toUInt32.toUInt16.toUInt32.toInt32))]))
 obtain ⟨fs, hr, hrun, hended, hW, hsame⟩ := X5.leave (v := some (.int (nar .char ((((b0 &&& (255 : Int32)) <<< ((0 : Int32) &&& 31)) ||| ((b1 &&& (255 : Int32)) <<< ((8 : Int32) &&& 31))).toUInt32.toUInt16.toUInt32.toInt32)))) (fun h => by rw [Bd.returns] at h; cases h)
 refine ⟨_, _, retN X5 hx (t := .char) Bd.returns (by simp) (hb hby dGC_59) hr, hrun, hended, _, _, rfl, ?_, ⟨_, rfl⟩, hW, hsame.mono (by decide) (by decide)⟩
 change Q_own_get_2 Z t kb zz vs b0 b1 h0 n0 _ T5.heap _; rw [e5]; exact ⟨congrArg (fun z => some (Value.int z)) (own_pairN b0 b1), N0, rfl⟩

def Q_own_ulen1 (Z : State) (t : Nat) (kb : ClassId) (vs : List Value) (h0 : Heap) (n0 : Nat) (v : Option Value) (h : Heap) (L : List Loc) : Prop := v = some (.int (1 : Int32)) ∧ Fr n0 L ∧ h = h0
theorem ef_own_ulen1 (m : MethodId) (x0 : Nat) : entryFrame m #[(.ref x0)] 1 = mkF m 0 #[.val (.ref x0)] [] := by first | (simp [entryFrame, mkF, argsToLocals, Value.category]; done) | rfl
theorem own_ulen1 (l : Launch) (Z : State) (a0 : Array Value) (hw : hWt a0 Z) (ws : List Jvm.Cond) (t : Nat) (kb : ClassId) (vs : List Value) (h0 : Heap) (n0 : Nat) (Z0 : n0 ≤ h0.size) (X00 : Old Z n0 h0) (Vt : Arv Z h0 t kb .byte (2 : Int32) vs (.int 0)) :
 own_MN l mN3 jdk_52_method_6_code 1 (some .int) ws rm_0_0_0_0 Z #[(.ref t)] h0 (Q_own_ulen1 Z t kb vs h0 n0) := by
 refine own_bodyN (plainFor_of_name own_pn1) fun p e s m below meth c s₁ Bd hx hby hml hown hZ X0 e0 => ?_
 have N0 := Fr.nil n0
 have K0 : Keep h0 h0 [] := Keep.refl h0 []
 refine own_st (fun tq kq => castTop (ef_own_ulen1 m (t)) kq) ?_
 show own_G p e below _ (s₁.setTop (mkF m 0 #[vR t] []))
 refine s_aloadN X0 hx (hb hby dUL_0) rfl rfl ?_
 obtain ⟨cl1, Ar1, q1, S_1, N_1, H_1, G_1⟩ := id Vt
 refine own_st (fun tq kq => X0.arraylength hx (by rw [e0]; exact Ar1.1) (State.isArrayOf_alike hZ.alike Ar1.2.1) (g := (mkF m 1 #[vR t] [(.ref t)])) rfl rfl (hb hby dUL_1) _ kq) ?_
 rw [len_of S_1 N_1]
 show own_G p e below _ (s₁.setTop (mkF m 2 #[vR t] [(.int 2)]))
 refine s_iconst X0 hx (hb hby dUL_2) ?_
 refine own_st (fun tq kq => XS.ishr X0.here hx rfl (hb hby dUL_3) rfl kq) ?_
 show own_G p e below _ (s₁.setTop (mkF m 4 #[vR t] [(.int 1)]))
 obtain ⟨fs, hr, hrun, hended, hW, hsame⟩ := X0.leave (v := some (.int 1)) (fun h => by rw [Bd.returns] at h; cases h)
 refine ⟨_, _, retOut X0 hx Bd.returns rfl (Or.inl ⟨rfl, by simp, _, rfl⟩) (hb hby dUL_4) hr, hrun, hended, _, _, rfl, ?_, ⟨_, rfl⟩, hW, hsame.mono (by decide) (by decide)⟩
 change Q_own_ulen1 Z t kb vs h0 n0 _ s₁.heap _; rw [e0]; exact ⟨rfl, N0, rfl⟩

def Q_own_nlen1 (Z : State)  (h0 : Heap) (n0 : Nat) (v : Option Value) (h : Heap) (L : List Loc) : Prop := v = some (.int (2 : Int32)) ∧ Fr n0 L ∧ h = h0
theorem ef_own_nlen1 (m : MethodId)  : entryFrame m #[(.int 1)] 1 = mkF m 0 #[.val (.int 1)] [] := by first | (simp [entryFrame, mkF, argsToLocals, Value.category]; done) | rfl
theorem own_nlen1 (l : Launch) (Z : State) (a0 : Array Value) (hw : hWt a0 Z) (ws : List Jvm.Cond)  (h0 : Heap) (n0 : Nat) (Z0 : n0 ≤ h0.size) (X00 : Old Z n0 h0)  :
 own_MN l mN4 jdk_52_method_3_code 1 (some .int) ws rm_0_0_0_0 Z #[(.int 1)] h0 (Q_own_nlen1 Z  h0 n0) := by
 refine own_bodyN (plainFor_of_name own_pn1) fun p e s m below meth c s₁ Bd hx hby hml hown hZ X0 e0 => ?_
 have N0 := Fr.nil n0
 have K0 : Keep h0 h0 [] := Keep.refl h0 []
 refine own_st (fun tq kq => castTop (ef_own_nlen1 m ) kq) ?_
 show own_G p e below _ (s₁.setTop (mkF m 0 #[vI 1] []))
 refine s_iloadN X0 hx (hb hby dNL_0) rfl ?_
 show own_G p e below _ (s₁.setTop (mkF m 1 #[vI 1] [(.int 1)]))
 refine own_st (fun tq kq => XS.ifYes X0.here hx rfl (pc0 := 1) (pc' := 12) rfl (hb hby dNL_1) rfl ((if0 _ _).trans (flt (by decide : ¬ ((1 : Int32) < (0 : Int32)))).2.1) (by decide) (by decide) kq) ?_
 refine s_iloadN X0 hx (hb hby dNL_12) rfl ?_
 refine own_st (fun tq kq => X0.ldcInt hx hown (mvT hZ (wd119 hw)) (g := (mkF m 13 #[vI 1] [(.int 1)])) rfl (hb hby dNL_13) _ kq) ?_
 show own_G p e below _ (s₁.setTop (mkF m 15 #[vI 1] [(.int 1073741823), (.int 1)]))
 refine own_st (fun tq kq => XS.icmpYes X0.here hx rfl (pc0 := 15) (pc' := 55) rfl (hb hby dNL_15) rfl (tlt (by decide : ((1 : Int32) < (1073741823 : Int32)))).1 (by decide) (by decide) kq) ?_
 refine s_iloadN X0 hx (hb hby dNL_55) rfl ?_
 refine s_iconst X0 hx (hb hby dNL_56) ?_
 refine own_st (fun tq kq => XS.ishl X0.here hx rfl (hb hby dNL_57) rfl kq) ?_
 show own_G p e below _ (s₁.setTop (mkF m 58 #[vI 1] [(.int 2)]))
 obtain ⟨fs, hr, hrun, hended, hW, hsame⟩ := X0.leave (v := some (.int 2)) (fun h => by rw [Bd.returns] at h; cases h)
 refine ⟨_, _, retOut X0 hx Bd.returns rfl (Or.inl ⟨rfl, by simp, _, rfl⟩) (hb hby dNL_58) hr, hrun, hended, _, _, rfl, ?_, ⟨_, rfl⟩, hW, hsame.mono (by decide) (by decide)⟩
 change Q_own_nlen1 Z  h0 n0 _ s₁.heap _; rw [e0]; exact ⟨rfl, N0, rfl⟩

def Q_own_nfor1 (Z : State)  (h0 : Heap) (n0 : Nat) (v : Option Value) (h : Heap) (L : List Loc) : Prop := ∃ (t : Nat) (kb : ClassId), v = some (.ref t) ∧ Fr n0 L ∧ Keep h0 h [] ∧ h0.size ≤ t ∧ t < h.size ∧ Arv Z h t kb .byte (2 : Int32) [.int (0 : Int32), .int (0 : Int32)] (.int 0)
theorem ef_own_nfor1 (m : MethodId)  : entryFrame m #[(.int 1)] 1 = mkF m 0 #[.val (.int 1)] [] := by first | (simp [entryFrame, mkF, argsToLocals, Value.category]; done) | rfl
theorem own_nfor1 (l : Launch) (Z : State) (a0 : Array Value) (hw : hWt a0 Z) (ws : List Jvm.Cond)  (h0 : Heap) (n0 : Nat) (Z0 : n0 ≤ h0.size) (X00 : Old Z n0 h0)  :
 own_MN l mN5 jdk_52_method_2_code 1 (some (.array .byte)) ws rm_1_1_2_14 Z #[(.int 1)] h0 (Q_own_nfor1 Z  h0 n0) := by
 refine own_bodyN (plainFor_of_name own_pn1) fun p e s m below meth c s₁ Bd hx hby hml hown hZ X0 e0 => ?_
 have N0 := Fr.nil n0
 have K0 : Keep h0 h0 [] := Keep.refl h0 []
 refine own_st (fun tq kq => castTop (ef_own_nfor1 m ) kq) ?_
 show own_G p e below _ (s₁.setTop (mkF m 0 #[vI 1] []))
 refine s_iloadN X0 hx (hb hby dNF_0) rfl ?_
 obtain ⟨_, _, ⟨T1, L1, k1, n1⟩, -, X1, ⟨Lc1, hQ1, l1, y1, z1⟩, st1⟩ := Jvm.LawKit.callS X0 hx (y := mN4) hown (mvT hZ (wd116 hw)) (mvT hZ (wd117 hw)) (mvT hZ (wd35 hw)) (mvT hZ (wd118 hw)) (by decide) (own_backN (W := 0) (own_nlen1 l Z a0 hw []  h0 n0 (by omega) (X00.keep K0 all0) ) hZ (wd118 hw) (wd35 hw) (by decide) (by decide)) (g := (mkF m 1 #[vI 1] [(.int 1)])) rfl (by rw [hml]; rfl) (argsL := [(.int 1)]) (rest := []) (lenOf own_pd1 rfl) rfl (Nat.le_of_eq rfl) (hb hby dNF_1) (fun _ _ => ⟨rfl, e0, (by decide : 0 + 0 ≤ _), (by decide : 0 + 0 ≤ _)⟩)
 dsimp only [Pt.U, Pt.locs, Pt.cells, Pt.slots] at X1 l1 y1 z1 st1 hQ1
 subst l1 y1 z1
 obtain ⟨rfl, Nq1, sm1⟩ := hQ1
 have N1 := Fr.app N0 Nq1
 refine own_st st1 ?_
 obtain ⟨T2, h2, k2, X2, e2, E2, A2, st2⟩ := newP X1 hx hZ (hw _ (List.mem_of_getElem? (i := 16) rfl)) sm1 (g := (mkF m 4 #[vI 1] [(.int 2)])) rfl (hb hby dNF_4) rfl (by decide) (cap := 2) (by decide) (by decide) (by decide) (by decide)
 obtain ⟨b2, g2⟩ : ∃ z, z = h0.size := ⟨_, rfl⟩
 rw [← g2] at A2 st2
 have lt2 : b2 < h2.size := A2.lt
 have V2 : Arv Z h2 b2 k2 .byte (2 : Int32) [(.int (0 : Int32)), (.int (0 : Int32))] (.int (0 : Int32)) := (Arv.new A2 (by decide)).pad (pad_rep [] (.int (0 : Int32)) 2)
 have sz2 : h0.size ≤ h2.size := E2.1
 have K2 : Keep h0 h2 [] := K0.ext E2
 refine own_st st2 ?_
 obtain ⟨fs, hr, hrun, hended, hW, hsame⟩ := X2.leave (v := some (.ref b2)) (fun h => by rw [Bd.returns] at h; cases h)
 refine ⟨_, _, retOut X2 hx Bd.returns rfl (Or.inr (Or.inr (Or.inr (Or.inr ⟨rfl, rfl, rfl⟩)))) (hb hby dNF_6) hr, hrun, hended, _, _, rfl, ?_, ⟨_, rfl⟩, hW, hsame.mono (by decide) (by decide)⟩
 change Q_own_nfor1 Z  h0 n0 _ T2.heap _; rw [e2]; exact ⟨b2, _, rfl, N1, K2, (by omega), (by omega), V2⟩

def Q_own_put1_0 (Z : State) (t : Nat) (kb : ClassId) (ch : Int32) (bt0 bt1 : Int32) (h0 : Heap) (n0 : Nat) (v : Option Value) (h : Heap) (L : List Loc) : Prop := v = none ∧ Fr n0 L ∧ Keep h0 h [t] ∧ Arv Z h t kb .byte (2 : Int32) [.int (L8 ch), .int (H8 ch)] (.int 0)
theorem ef_own_put1_0 (m : MethodId) (x0 : Nat) (x2 : Int32) : entryFrame m #[(.ref x0), (.int 0), (.int x2)] 3 = mkF m 0 #[.val (.ref x0), .val (.int 0), .val (.int x2)] [] := by first | (simp [entryFrame, mkF, argsToLocals, Value.category]; done) | rfl
theorem own_put1_0 (l : Launch) (Z : State) (a0 : Array Value) (hw : hWt a0 Z) (ws : List Jvm.Cond) (t : Nat) (kb : ClassId) (ch : Int32) (bt0 bt1 : Int32) (h0 : Heap) (n0 : Nat) (Z0 : n0 ≤ h0.size) (X00 : Old Z n0 h0) (OA : oA Z) (OH : oH Z) (OL : oL Z) (Vt : Arv Z h0 t kb .byte (2 : Int32) [.int bt0, .int bt1] (.int 0)) (gt : n0 ≤ t) :
 own_MN l mN6 jdk_52_method_4_code 3 none ws rm_0_0_0_0 Z #[(.ref t), (.int 0), (.int ch)] h0 (Q_own_put1_0 Z t kb ch bt0 bt1 h0 n0) := by
 refine own_bodyN (plainFor_of_name own_pn1) fun p e s m below meth c s₁ Bd hx hby hml hown hZ X0 e0 => ?_
 have N0 := Fr.nil n0
 have K0 : Keep h0 h0 [t] := Keep.refl h0 [t]
 refine own_st (fun tq kq => castTop (ef_own_put1_0 m (t) (ch)) kq) ?_
 show own_G p e below _ (s₁.setTop (mkF m 0 #[vR t, vI 0, vI ch] []))
 have hws0 : ∀ y ∈ [t], n0 ≤ y := allS gt all0
 obtain ⟨T1, X1, e1, st1⟩ := getS2 X0 hx hZ hown (host := "") (Or.inl (wd123 hw)) Via.refl e0 (OA.ext (X00.keep K0 hws0).2) (g := (mkF m 0 #[vR t, vI 0, vI ch] [])) rfl (hb hby dPU_0)
 refine own_st st1 ?_
 refine own_st (fun tq kq => XS.ifYes X1.here hx rfl (pc0 := 3) (pc' := 28) rfl (hb hby dPU_3) rfl ((if0 _ _).trans (feq (by decide : ¬ ((1 : Int32) = (0 : Int32)))).2) (by decide) (by decide) kq) ?_
 refine s_iloadN X1 hx (hb hby dPU_28) rfl ?_
 refine s_iconst X1 hx (hb hby dPU_29) ?_
 refine own_st (fun tq kq => XS.ishl X1.here hx rfl (hb hby dPU_30) rfl kq) ?_
 show own_G p e below _ (T1.setTop (mkF m 31 #[vR t, vI 0, vI ch] [(.int 0)]))
 refine own_st (fun tq kq => XS.istoreN X1.here hx rfl (hb hby dPU_31) rfl (l' := #[vR t, vI 0, vI ch]) rfl kq) ?_
 refine s_aloadN X1 hx (hb hby dPU_32) rfl rfl ?_
 refine s_iloadN X1 hx (hb hby dPU_33) rfl ?_
 refine own_st (fun tq kq => XS.iinc X1.here hx rfl (hb hby dPU_34) rfl (l' := #[vR t, vI 1, vI ch]) rfl kq) ?_
 show own_G p e below _ (T1.setTop (mkF m 37 #[vR t, vI 1, vI ch] [(.int 0), (.ref t)]))
 refine s_iloadN X1 hx (hb hby dPU_37) rfl ?_
 obtain ⟨T2, X2, e2, st2⟩ := getS2 X1 hx hZ hown (host := "") (Or.inl (wd124 hw)) Via.refl e1 (OH.ext (X00.keep K0 hws0).2) (g := (mkF m 38 #[vR t, vI 1, vI ch] [(.int ch), (.int 0), (.ref t)])) rfl (hb hby dPU_38)
 refine own_st st2 ?_
 refine own_st (fun tq kq => XS.ishr X2.here hx rfl (hb hby dPU_41) rfl kq) ?_
 refine own_st (fun tq kq => XS.i2b X2.here hx rfl (hb hby dPU_42) rfl kq) ?_
 obtain ⟨cl3, Ar3, q3, S_3, N_3, H_3, G_3⟩ := id Vt
 have in3 : ¬ ((0 : Int32) < 0 ∨ cl3.slots.size ≤ ((0 : Int32)).toNatClampNeg) := inb_of S_3 ⟨by decide, by decide⟩
 obtain ⟨T3, h3, X3, e3, W3, st3⟩ := stB X2 hx hZ e2 Ar3 (j := (0 : Int32)) in3 (g := (mkF m 43 #[vR t, vI 1, vI ch] [(.int ((ch >>> ((0 : Int32) &&& 31)).toInt8.toInt32)), (.int 0), (.ref t)])) rfl rfl (hb hby dPU_43)
 have V3 := Arv.set Ar3 q3 S_3 N_3 H_3 G_3 (fits_nar_byte _) W3 0 rfl (Nat.le_of_ble_eq_true rfl)
 have sz3 : h0.size ≤ h3.size := (Keep.of_wr W3).1
 have K3 : Keep h0 h3 [t] := K0.wr W3 (Or.inl (by simp))
 have N3 := Fr.snoc X3 N0 (own_le (by omega))
 refine own_st st3 ?_
 refine s_aloadN X3 hx (hb hby dPU_44) rfl rfl ?_
 refine s_iloadN X3 hx (hb hby dPU_45) rfl ?_
 refine s_iloadN X3 hx (hb hby dPU_46) rfl ?_
 obtain ⟨T4, X4, e4, st4⟩ := getS2 X3 hx hZ hown (host := "") (Or.inl (wd125 hw)) Via.refl e3 (OL.ext (X00.keep K3 hws0).2) (g := (mkF m 47 #[vR t, vI 1, vI ch] [(.int ch), (.int 1), (.ref t)])) rfl (hb hby dPU_47)
 refine own_st st4 ?_
 refine own_st (fun tq kq => XS.ishr X4.here hx rfl (hb hby dPU_50) rfl kq) ?_
 refine own_st (fun tq kq => XS.i2b X4.here hx rfl (hb hby dPU_51) rfl kq) ?_
 obtain ⟨cl5, Ar5, q5, S_5, N_5, H_5, G_5⟩ := id V3
 have in5 : ¬ ((1 : Int32) < 0 ∨ cl5.slots.size ≤ ((1 : Int32)).toNatClampNeg) := inb_of S_5 ⟨by decide, by decide⟩
 obtain ⟨T5, h5, X5, e5, W5, st5⟩ := stB X4 hx hZ e4 Ar5 (j := (1 : Int32)) in5 (g := (mkF m 52 #[vR t, vI 1, vI ch] [(.int ((ch >>> ((8 : Int32) &&& 31)).toInt8.toInt32)), (.int 1), (.ref t)])) rfl rfl (hb hby dPU_52)
 have V5 := Arv.set Ar5 q5 S_5 N_5 H_5 G_5 (fits_nar_byte _) W5 1 rfl (Nat.le_of_ble_eq_true rfl)
 have sz5 : h3.size ≤ h5.size := (Keep.of_wr W5).1
 have K5 : Keep h0 h5 [t] := K3.wr W5 (Or.inl (by simp))
 have N5 := Fr.snoc X5 N3 (own_le (by omega))
 refine own_st st5 ?_
 obtain ⟨fs, hr, hrun, hended, hW, hsame⟩ := X5.leave (v := none) (fun _ => rfl)
 refine ⟨_, _, X5.returnOut hx Bd.returns (hb hby dPU_53) hr, hrun, hended, _, _, rfl, ?_, ⟨_, rfl⟩, hW, hsame.mono (by decide) (by decide)⟩
 change Q_own_put1_0 Z t kb ch bt0 bt1 h0 n0 _ T5.heap _; rw [e5]; exact ⟨rfl, N5, K5, (by have q : Arv Z _ t kb .byte (2 : Int32) [.int (nar .byte ((ch >>> ((0 : Int32) &&& 31)).toInt8.toInt32)), .int (nar .byte ((ch >>> ((8 : Int32) &&& 31)).toInt8.toInt32))] (.int 0) := V5; rwa [own_pb0, own_pb8] at q)⟩

def Q_own_toB1 (Z : State) (b : Nat) (kC : ClassId) (dv : Value) (c0 : Int32) (h0 : Heap) (n0 : Nat) (v : Option Value) (h : Heap) (L : List Loc) : Prop := ∃ (t : Nat) (kb : ClassId), v = some (.ref t) ∧ Fr n0 L ∧ Keep h0 h [] ∧ h0.size ≤ t ∧ t < h.size ∧ Arv Z h t kb .byte (2 : Int32) [.int (L8 c0), .int (H8 c0)] (.int 0)
theorem ef_own_toB1 (m : MethodId) (x0 : Nat) : entryFrame m #[(.ref x0), (.int 0), (.int 1)] 5 = mkF m 0 #[.val (.ref x0), .val (.int 0), .val (.int 1), .unset, .unset] [] := by first | (simp [entryFrame, mkF, argsToLocals, Value.category]; done) | rfl
theorem own_toB1 (l : Launch) (Z : State) (a0 : Array Value) (hw : hWt a0 Z) (ws : List Jvm.Cond) (b : Nat) (kC : ClassId) (dv : Value) (c0 : Int32) (h0 : Heap) (n0 : Nat) (Z0 : n0 ≤ h0.size) (X00 : Old Z n0 h0) (OA : oA Z) (OH : oH Z) (OL : oL Z) (Vb : Arv Z h0 b kC .char (1 : Int32) [.int c0] dv) :
 own_MN l mN7 jdk_52_method_14_code 5 (some (.array .byte)) ws rm_2_1_2_40 Z #[(.ref b), (.int 0), (.int 1)] h0 (Q_own_toB1 Z b kC dv c0 h0 n0) := by
 refine own_bodyN (plainFor_of_name own_pn1) fun p e s m below meth c s₁ Bd hx hby hml hown hZ X0 e0 => ?_
 have N0 := Fr.nil n0
 have K0 : Keep h0 h0 [] := Keep.refl h0 []
 refine own_st (fun tq kq => castTop (ef_own_toB1 m (b)) kq) ?_
 show own_G p e below _ (s₁.setTop (mkF m 0 #[vR b, vI 0, vI 1, .unset, .unset] []))
 have ltb : b < h0.size := Vb.lt
 refine s_iloadN X0 hx (hb hby dTO_0) rfl ?_
 obtain ⟨_, _, ⟨T1, L1, k1, n1⟩, -, X1, ⟨Lc1, hQ1, l1, y1, z1⟩, st1⟩ := Jvm.LawKit.callS X0 hx (y := mN5) hown (mvT hZ (wd113 hw)) (mvT hZ (wd114 hw)) (mvT hZ (wd35 hw)) (mvT hZ (wd115 hw)) (by decide) (own_backN (W := 0) (own_nfor1 l Z a0 hw []  h0 n0 (by omega) (X00.keep K0 all0) ) hZ (wd115 hw) (wd35 hw) (by decide) (by decide)) (g := (mkF m 1 #[vR b, vI 0, vI 1, .unset, .unset] [(.int 1)])) rfl (by rw [hml]; rfl) (argsL := [(.int 1)]) (rest := []) (lenOf own_pd2 rfl) rfl (Nat.le_of_eq rfl) (hb hby dTO_1) (fun _ _ => ⟨rfl, e0, (by decide : 0 + 1 ≤ _), (by decide : 0 + 2 ≤ _)⟩)
 dsimp only [Pt.U, Pt.locs, Pt.cells, Pt.slots] at X1 l1 y1 z1 st1 hQ1
 subst l1 y1 z1
 obtain ⟨t1, kb1, rfl, Nq1, Kq1, gt1, lt1, Vt1⟩ := hQ1
 have KK1 : Keep h0 T1.heap [] := Kq1
 have sz1 : h0.size ≤ T1.heap.size := KK1.1
 have K1 : Keep h0 T1.heap [] := K0.trans KK1 all0
 have N1 := Fr.app N0 Nq1
 refine own_st st1 ?_
 refine own_st (fun tq kq => XS.astoreN X1.here hx rfl (hb hby dTO_4) rfl rfl (l' := #[vR b, vI 0, vI 1, vR t1, .unset]) rfl kq) ?_
 refine s_iconst X1 hx (hb hby dTO_5) ?_
 refine own_st (fun tq kq => XS.istore X1.here hx rfl (hb hby dTO_6) rfl (l' := #[vR b, vI 0, vI 1, vR t1, vI 0]) rfl kq) ?_
 refine s_iload X1 hx (hb hby dTO_8) rfl ?_
 show own_G p e below _ (T1.setTop (mkF m 10 #[vR b, vI 0, vI 1, vR t1, vI 0] [(.int 0)]))
 refine s_iloadN X1 hx (hb hby dTO_10) rfl ?_
 show own_G p e below _ (T1.setTop (mkF m 11 #[vR b, vI 0, vI 1, vR t1, vI 0] [(.int 1), (.int 0)]))
 refine own_st (fun tq kq => XS.icmpNo X1.here hx rfl (hb hby dTO_11) rfl (tlt (by decide : ((0 : Int32) < (1 : Int32)))).2.1 kq) ?_
 refine s_aloadN X1 hx (hb hby dTO_14) rfl rfl ?_
 refine s_iload X1 hx (hb hby dTO_15) rfl ?_
 refine s_aloadN X1 hx (hb hby dTO_17) rfl rfl ?_
 show own_G p e below _ (T1.setTop (mkF m 18 #[vR b, vI 0, vI 1, vR t1, vI 0] [(.ref b), (.int 0), (.ref t1)]))
 refine s_iloadN X1 hx (hb hby dTO_18) rfl ?_
 obtain ⟨cl2, Ar2, q2, S_2, N_2, H_2, G_2⟩ := id (Vb.keep KK1 nin0)
 have in2 : ¬ ((0 : Int32) < 0 ∨ cl2.slots.size ≤ ((0 : Int32)).toNatClampNeg) := inb_of S_2 ⟨by decide, by decide⟩
 have at2 : cl2.slots[((0 : Int32)).toNatClampNeg]? = some (.int c0) := H_2.at in2 rfl
 refine own_st (fun tq kq => X1.caload hx (j := (0 : Int32)) (v := (.int c0)) Ar2.1 (State.isArrayOf_alike hZ.alike Ar2.2.1) Ar2.2.2 in2 at2 (g := (mkF m 19 #[vR b, vI 0, vI 1, vR t1, vI 0] [(.int 0), (.ref b), (.int 0), (.ref t1)])) rfl rfl (hb hby dTO_19) _ kq) ?_
 obtain ⟨_, _, ⟨T3, L3, k3, n3⟩, -, X3, ⟨Lc3, hQ3, l3, y3, z3⟩, st3⟩ := Jvm.LawKit.callS X1 hx (y := mN6) hown (mvT hZ (wd120 hw)) (mvT hZ (wd121 hw)) (mvT hZ (wd35 hw)) (mvT hZ (wd122 hw)) (by decide) (own_backN (W := 0) (own_put1_0 l Z a0 hw [] (t1) (_) (c0) (_) (_) T1.heap n0 (by omega) (X00.keep K1 all0) OA OH OL Vt1 (by omega)) hZ (wd122 hw) (wd35 hw) (by decide) (by decide)) (g := (mkF m 20 #[vR b, vI 0, vI 1, vR t1, vI 0] [(.int c0), (.int 0), (.ref t1)])) rfl (by rw [hml]; rfl) (argsL := [(.ref t1), (.int 0), (.int c0)]) (rest := []) (lenOf own_pd3 rfl) rfl (Nat.le_of_eq rfl) (hb hby dTO_20) (fun _ _ => ⟨rfl, rfl, (by decide : 1 + 0 ≤ _), (by decide : 2 + 0 ≤ _)⟩)
 dsimp only [Pt.U, Pt.locs, Pt.cells, Pt.slots] at X3 l3 y3 z3 st3 hQ3
 subst l3 y3 z3
 obtain ⟨rfl, Nq3, Kq3, Vt3⟩ := hQ3
 have KK3 : Keep T1.heap T3.heap [t1] := Kq3
 have sz3 : T1.heap.size ≤ T3.heap.size := KK3.1
 have K3 : Keep h0 T3.heap [] := K1.trans KK3 (allS (Or.inr (own_le (by omega))) all0)
 have N3 := Fr.app N1 Nq3
 refine own_st st3 ?_
 refine own_st (fun tq kq => XS.iinc X3.here hx rfl (hb hby dTO_23) rfl (l' := #[vR b, vI 1, vI 1, vR t1, vI 0]) rfl kq) ?_
 refine own_st (fun tq kq => XS.iinc X3.here hx rfl (hb hby dTO_26) rfl (l' := #[vR b, vI 1, vI 1, vR t1, vI 1]) rfl kq) ?_
 refine own_st (fun tq kq => XS.goto X3.here hx rfl (pc0 := 29) (pc' := 8) rfl (hb hby dTO_29) (by decide) (by decide) kq) ?_
 refine s_iload X3 hx (hb hby dTO_8) rfl ?_
 show own_G p e below _ (T3.setTop (mkF m 10 #[vR b, vI 1, vI 1, vR t1, vI 1] [(.int 1)]))
 refine s_iloadN X3 hx (hb hby dTO_10) rfl ?_
 show own_G p e below _ (T3.setTop (mkF m 11 #[vR b, vI 1, vI 1, vR t1, vI 1] [(.int 1), (.int 1)]))
 refine own_st (fun tq kq => XS.icmpYes X3.here hx rfl (pc0 := 11) (pc' := 32) rfl (hb hby dTO_11) rfl (flt (by decide : ¬ ((1 : Int32) < (1 : Int32)))).2.1 (by decide) (by decide) kq) ?_
 refine s_aloadN X3 hx (hb hby dTO_32) rfl rfl ?_
 show own_G p e below _ (T3.setTop (mkF m 33 #[vR b, vI 1, vI 1, vR t1, vI 1] [(.ref t1)]))
 obtain ⟨fs, hr, hrun, hended, hW, hsame⟩ := X3.leave (v := some (.ref t1)) (fun h => by rw [Bd.returns] at h; cases h)
 refine ⟨_, _, retOut X3 hx Bd.returns rfl (Or.inr (Or.inr (Or.inr (Or.inr ⟨rfl, rfl, rfl⟩)))) (hb hby dTO_33) hr, hrun, hended, _, _, rfl, ?_, ⟨_, rfl⟩, hW, hsame.mono (by decide) (by decide)⟩
 change Q_own_toB1 Z b kC dv c0 h0 n0 _ T3.heap _; exact ⟨t1, _, rfl, N3, K3, (by omega), Vt3.lt, Vt3⟩

def Q_own_cfl1 (Z : State) (t : Nat) (kb : ClassId) (vs : List Value) (h0 : Heap) (n0 : Nat) (v : Option Value) (h : Heap) (L : List Loc) : Prop := v = some (.int (1 : Int32)) ∧ Fr n0 L ∧ h = h0
theorem ef_own_cfl1 (m : MethodId) (x0 : Nat) : entryFrame m #[(.ref x0), (.int 1)] 2 = mkF m 0 #[.val (.ref x0), .val (.int 1)] [] := by first | (simp [entryFrame, mkF, argsToLocals, Value.category]; done) | rfl
theorem own_cfl1 (l : Launch) (Z : State) (a0 : Array Value) (hw : hWt a0 Z) (ws : List Jvm.Cond) (t : Nat) (kb : ClassId) (vs : List Value) (h0 : Heap) (n0 : Nat) (Z0 : n0 ≤ h0.size) (X00 : Old Z n0 h0) (Vt : Arv Z h0 t kb .byte (2 : Int32) vs (.int 0)) :
 own_MN l mN8 jdk_52_method_15_code 2 (some .byte) ws rm_0_0_0_0 Z #[(.ref t), (.int 1)] h0 (Q_own_cfl1 Z t kb vs h0 n0) := by
 refine own_bodyN (plainFor_of_name own_pn1) fun p e s m below meth c s₁ Bd hx hby hml hown hZ X0 e0 => ?_
 have N0 := Fr.nil n0
 have K0 : Keep h0 h0 [] := Keep.refl h0 []
 refine own_st (fun tq kq => castTop (ef_own_cfl1 m (t)) kq) ?_
 show own_G p e below _ (s₁.setTop (mkF m 0 #[vR t, vI 1] []))
 refine s_iloadN X0 hx (hb hby dCL_0) rfl ?_
 refine s_aloadN X0 hx (hb hby dCL_1) rfl rfl ?_
 obtain ⟨cl1, Ar1, q1, S_1, N_1, H_1, G_1⟩ := id Vt
 refine own_st (fun tq kq => X0.arraylength hx (by rw [e0]; exact Ar1.1) (State.isArrayOf_alike hZ.alike Ar1.2.1) (g := (mkF m 2 #[vR t, vI 1] [(.ref t), (.int 1)])) rfl rfl (hb hby dCL_2) _ kq) ?_
 rw [len_of S_1 N_1]
 show own_G p e below _ (s₁.setTop (mkF m 3 #[vR t, vI 1] [(.int 2), (.int 1)]))
 refine own_st (fun tq kq => XS.isub X0.here hx rfl (hb hby dCL_3) rfl kq) ?_
 refine s_bipush X0 hx (hb hby dCL_4) ?_
 refine own_st (fun tq kq => XS.iushr X0.here hx rfl (hb hby dCL_6) rfl kq) ?_
 refine own_st (fun tq kq => XS.i2b X0.here hx rfl (hb hby dCL_7) rfl kq) ?_
 show own_G p e below _ (s₁.setTop (mkF m 8 #[vR t, vI 1] [(.int 1)]))
 obtain ⟨fs, hr, hrun, hended, hW, hsame⟩ := X0.leave (v := some (.int 1)) (fun h => by rw [Bd.returns] at h; cases h)
 refine ⟨_, _, retN X0 hx (t := .byte) Bd.returns (by simp) (hb hby dCL_8) hr, hrun, hended, _, _, rfl, ?_, ⟨_, rfl⟩, hW, hsame.mono (by decide) (by decide)⟩
 change Q_own_cfl1 Z t kb vs h0 n0 _ s₁.heap _; rw [e0]; exact ⟨rfl, N0, rfl⟩

def Q_own_cm5_1_0 (Z : State) (b d : Nat) (kC kD : ClassId) (dv : Value) (c0 : Int32) (h0 : Heap) (n0 : Nat) (v : Option Value) (h : Heap) (L : List Loc) : Prop := v = some (.int (0 : Int32)) ∧ Fr n0 L ∧ Keep h0 h [d]
theorem ef_own_cm5_1_0 (m : MethodId) (x0 : Nat) (x2 : Nat) : entryFrame m #[(.ref x0), (.int 0), (.ref x2), (.int 0), (.int 1)] 7 = mkF m 0 #[.val (.ref x0), .val (.int 0), .val (.ref x2), .val (.int 0), .val (.int 1), .unset, .unset] [] := by first | (simp [entryFrame, mkF, argsToLocals, Value.category]; done) | rfl
theorem own_cm5_1_0 (l : Launch) (Z : State) (a0 : Array Value) (hw : hWt a0 Z) (ws : List Jvm.Cond) (b d : Nat) (kC kD : ClassId) (dv : Value) (c0 : Int32) (h0 : Heap) (n0 : Nat) (Z0 : n0 ≤ h0.size) (X00 : Old Z n0 h0) (Vb : Arv Z h0 b kC .char (1 : Int32) [.int c0] dv) (Vd : Arv Z h0 d kD .byte (1 : Int32) [.int (0 : Int32)] (.int 0)) (gd : n0 ≤ d) (nbd : b ≠ d) (hg : (255 : Int32) < c0) :
 own_MN l mN9 jdk_52_method_21_code 7 (some .int) ws rm_0_0_0_0 Z #[(.ref b), (.int 0), (.ref d), (.int 0), (.int 1)] h0 (Q_own_cm5_1_0 Z b d kC kD dv c0 h0 n0) := by
 refine own_bodyN (plainFor_of_name own_pn1) fun p e s m below meth c s₁ Bd hx hby hml hown hZ X0 e0 => ?_
 have N0 := Fr.nil n0
 have K0 : Keep h0 h0 [d] := Keep.refl h0 [d]
 refine own_st (fun tq kq => castTop (ef_own_cm5_1_0 m (b) (d)) kq) ?_
 show own_G p e below _ (s₁.setTop (mkF m 0 #[vR b, vI 0, vR d, vI 0, vI 1, .unset, .unset] []))
 have hws0 : ∀ y ∈ [d], n0 ≤ y := allS gd all0
 refine s_iconst X0 hx (hb hby dC5_0) ?_
 refine own_st (fun tq kq => XS.istore X0.here hx rfl (hb hby dC5_1) rfl (l' := #[vR b, vI 0, vR d, vI 0, vI 1, vI 0, .unset]) rfl kq) ?_
 refine s_iload X0 hx (hb hby dC5_3) rfl ?_
 refine s_iload X0 hx (hb hby dC5_5) rfl ?_
 show own_G p e below _ (s₁.setTop (mkF m 7 #[vR b, vI 0, vR d, vI 0, vI 1, vI 0, .unset] [(.int 1), (.int 0)]))
 refine own_st (fun tq kq => XS.icmpNo X0.here hx rfl (hb hby dC5_7) rfl (tlt (by decide : ((0 : Int32) < (1 : Int32)))).2.1 kq) ?_
 refine s_aloadN X0 hx (hb hby dC5_10) rfl rfl ?_
 refine s_iloadN X0 hx (hb hby dC5_11) rfl ?_
 obtain ⟨cl1, Ar1, q1, S_1, N_1, H_1, G_1⟩ := id Vb
 have in1 : ¬ ((0 : Int32) < 0 ∨ cl1.slots.size ≤ ((0 : Int32)).toNatClampNeg) := inb_of S_1 ⟨by decide, by decide⟩
 have at1 : cl1.slots[((0 : Int32)).toNatClampNeg]? = some (.int c0) := H_1.at in1 rfl
 refine own_st (fun tq kq => X0.caload hx (j := (0 : Int32)) (v := (.int c0)) (by rw [e0]; exact Ar1.1) (State.isArrayOf_alike hZ.alike Ar1.2.1) Ar1.2.2 in1 at1 (g := (mkF m 12 #[vR b, vI 0, vR d, vI 0, vI 1, vI 0, .unset] [(.int 0), (.ref b)])) rfl rfl (hb hby dC5_12) _ kq) ?_
 show own_G p e below _ (s₁.setTop (mkF m 13 #[vR b, vI 0, vR d, vI 0, vI 1, vI 0, .unset] [(.int c0)]))
 refine own_st (fun tq kq => XS.istore X0.here hx rfl (hb hby dC5_13) rfl (l' := #[vR b, vI 0, vR d, vI 0, vI 1, vI 0, vI c0]) rfl kq) ?_
 refine s_iload X0 hx (hb hby dC5_15) rfl ?_
 refine s_sipush X0 hx (hb hby dC5_17) ?_
 show own_G p e below _ (s₁.setTop (mkF m 20 #[vR b, vI 0, vR d, vI 0, vI 1, vI 0, vI c0] [(.int 255), (.int c0)]))
 refine own_st (fun tq kq => XS.icmpNo X0.here hx rfl (hb hby dC5_20) rfl (tlt hg).2.2.2 kq) ?_
 refine s_iload X0 hx (hb hby dC5_23) rfl ?_
 show own_G p e below _ (s₁.setTop (mkF m 25 #[vR b, vI 0, vR d, vI 0, vI 1, vI 0, vI c0] [(.int 0)]))
 obtain ⟨fs, hr, hrun, hended, hW, hsame⟩ := X0.leave (v := some (.int 0)) (fun h => by rw [Bd.returns] at h; cases h)
 refine ⟨_, _, retOut X0 hx Bd.returns rfl (Or.inl ⟨rfl, by simp, _, rfl⟩) (hb hby dC5_25) hr, hrun, hended, _, _, rfl, ?_, ⟨_, rfl⟩, hW, hsame.mono (by decide) (by decide)⟩
 change Q_own_cm5_1_0 Z b d kC kD dv c0 h0 n0 _ s₁.heap _; rw [e0]; exact ⟨rfl, N0, K0⟩

def Q_own_cm3_1 (Z : State) (b : Nat) (kC : ClassId) (dv : Value) (c0 : Int32) (h0 : Heap) (n0 : Nat) (v : Option Value) (h : Heap) (L : List Loc) : Prop := ∃ (t : Nat) (kb : ClassId), v = some (.ref t) ∧ Fr n0 L ∧ Keep h0 h [] ∧ h0.size ≤ t ∧ t < h.size ∧ Arv Z h t kb .byte (2 : Int32) [.int (L8 c0), .int (H8 c0)] (.int 0)
theorem ef_own_cm3_1 (m : MethodId) (x0 : Nat) : entryFrame m #[(.ref x0), (.int 0), (.int 1)] 6 = mkF m 0 #[.val (.ref x0), .val (.int 0), .val (.int 1), .unset, .unset, .unset] [] := by first | (simp [entryFrame, mkF, argsToLocals, Value.category]; done) | rfl
theorem own_cm3_1 (l : Launch) (Z : State) (a0 : Array Value) (hw : hWt a0 Z) (ws : List Jvm.Cond) (b : Nat) (kC : ClassId) (dv : Value) (c0 : Int32) (h0 : Heap) (n0 : Nat) (Z0 : n0 ≤ h0.size) (X00 : Old Z n0 h0) (OA : oA Z) (OH : oH Z) (OL : oL Z) (Vb : Arv Z h0 b kC .char (1 : Int32) [.int c0] dv) (hb0 : ¬ c0 < 0 ∧ ¬ (65535 : Int32) < c0) (hD : ((255 : Int32) < c0)) :
 own_MN l mN10 jdk_52_method_16_code 6 (some (.array .byte)) ws rm_3_2_3_70 Z #[(.ref b), (.int 0), (.int 1)] h0 (Q_own_cm3_1 Z b kC dv c0 h0 n0) := by
 refine own_bodyN (plainFor_of_name own_pn1) fun p e s m below meth c s₁ Bd hx hby hml hown hZ X0 e0 => ?_
 have N0 := Fr.nil n0
 have K0 : Keep h0 h0 [] := Keep.refl h0 []
 refine own_st (fun tq kq => castTop (ef_own_cm3_1 m (b)) kq) ?_
 show own_G p e below _ (s₁.setTop (mkF m 0 #[vR b, vI 0, vI 1, .unset, .unset, .unset] []))
 have ltb : b < h0.size := Vb.lt
 have hg := hD
 refine s_iloadN X0 hx (hb hby dC3_0) rfl ?_
 obtain ⟨T1, h1, k1, X1, e1, E1, A1, st1⟩ := newP X0 hx hZ (hw _ (List.mem_of_getElem? (i := 16) rfl)) e0 (g := (mkF m 1 #[vR b, vI 0, vI 1, .unset, .unset, .unset] [(.int 1)])) rfl (hb hby dC3_1) rfl (by decide) (cap := 1) (by decide) (by decide) (by decide) (by decide)
 obtain ⟨b1, g1⟩ : ∃ z, z = h0.size := ⟨_, rfl⟩
 rw [← g1] at A1 st1
 have lt1 : b1 < h1.size := A1.lt
 have V1 : Arv Z h1 b1 k1 .byte (1 : Int32) [(.int (0 : Int32))] (.int (0 : Int32)) := (Arv.new A1 (by decide)).pad (pad_rep [] (.int (0 : Int32)) 1)
 have sz1 : h0.size ≤ h1.size := E1.1
 have K1 : Keep h0 h1 [] := K0.ext E1
 refine own_st st1 ?_
 refine own_st (fun tq kq => XS.astoreN X1.here hx rfl (hb hby dC3_3) rfl rfl (l' := #[vR b, vI 0, vI 1, vR b1, .unset, .unset]) rfl kq) ?_
 refine s_aloadN X1 hx (hb hby dC3_4) rfl rfl ?_
 refine s_iloadN X1 hx (hb hby dC3_5) rfl ?_
 refine s_aloadN X1 hx (hb hby dC3_6) rfl rfl ?_
 show own_G p e below _ (T1.setTop (mkF m 7 #[vR b, vI 0, vI 1, vR b1, .unset, .unset] [(.ref b1), (.int 0), (.ref b)]))
 refine s_iconst X1 hx (hb hby dC3_7) ?_
 refine s_iloadN X1 hx (hb hby dC3_8) rfl ?_
 obtain ⟨_, _, ⟨T2, L2, k2, n2⟩, -, X2, ⟨Lc2, hQ2, l2, y2, z2⟩, st2⟩ := Jvm.LawKit.callS X1 hx (y := mN9) hown (mvT hZ (wd37 hw)) (mvT hZ (wd38 hw)) (mvT hZ (wd35 hw)) (mvT hZ (wd39 hw)) (by decide) (own_backN (W := 0) (own_cm5_1_0 l Z a0 hw [] (b) (b1) (kC) (k1) (dv) (c0) h1 n0 (by omega) (X00.keep K1 all0) (Vb.ext E1) V1 (by omega) (own_ne (by omega)) hg) hZ (wd39 hw) (wd35 hw) (by decide) (by decide)) (g := (mkF m 9 #[vR b, vI 0, vI 1, vR b1, .unset, .unset] [(.int 1), (.int 0), (.ref b1), (.int 0), (.ref b)])) rfl (by rw [hml]; rfl) (argsL := [(.ref b), (.int 0), (.ref b1), (.int 0), (.int 1)]) (rest := []) (lenOf own_pd4 rfl) rfl (Nat.le_of_eq rfl) (hb hby dC3_9) (fun _ _ => ⟨rfl, e1, (by decide : 1 + 0 ≤ _), (by decide : 1 + 0 ≤ _)⟩)
 dsimp only [Pt.U, Pt.locs, Pt.cells, Pt.slots] at X2 l2 y2 z2 st2 hQ2
 subst l2 y2 z2
 obtain ⟨rfl, Nq2, Kq2⟩ := hQ2
 have KK2 : Keep h1 T2.heap [b1] := Kq2
 have sz2 : h1.size ≤ T2.heap.size := KK2.1
 have K2 : Keep h0 T2.heap [] := K1.trans KK2 (allS (Or.inr (own_le (by omega))) all0)
 have N2 := Fr.app N0 Nq2
 refine own_st st2 ?_
 refine own_st (fun tq kq => XS.istore X2.here hx rfl (hb hby dC3_12) rfl (l' := #[vR b, vI 0, vI 1, vR b1, vI 0, .unset]) rfl kq) ?_
 refine s_iload X2 hx (hb hby dC3_14) rfl ?_
 refine s_iloadN X2 hx (hb hby dC3_16) rfl ?_
 show own_G p e below _ (T2.setTop (mkF m 17 #[vR b, vI 0, vI 1, vR b1, vI 0, .unset] [(.int 1), (.int 0)]))
 refine own_st (fun tq kq => XS.icmpNo X2.here hx rfl (hb hby dC3_17) rfl (feq (by decide : ¬ ((0 : Int32) = (1 : Int32)))).1 kq) ?_
 refine s_aloadN X2 hx (hb hby dC3_20) rfl rfl ?_
 refine s_iloadN X2 hx (hb hby dC3_21) rfl ?_
 refine s_iloadN X2 hx (hb hby dC3_22) rfl ?_
 show own_G p e below _ (T2.setTop (mkF m 23 #[vR b, vI 0, vI 1, vR b1, vI 0, .unset] [(.int 1), (.int 0), (.ref b)]))
 obtain ⟨_, _, ⟨T3, L3, k3, n3⟩, -, X3, ⟨Lc3, hQ3, l3, y3, z3⟩, st3⟩ := Jvm.LawKit.callS X2 hx (y := mN7) hown (mvT hZ (wd110 hw)) (mvT hZ (wd111 hw)) (mvT hZ (wd35 hw)) (mvT hZ (wd112 hw)) (by decide) (own_backN (W := 0) (own_toB1 l Z a0 hw [] (b) (kC) (dv) (c0) T2.heap n0 (by omega) (X00.keep K2 all0) OA OH OL ((Vb.ext E1).keep KK2 (ninS (own_ne (by omega)) nin0))) hZ (wd112 hw) (wd35 hw) (by decide) (by decide)) (g := (mkF m 23 #[vR b, vI 0, vI 1, vR b1, vI 0, .unset] [(.int 1), (.int 0), (.ref b)])) rfl (by rw [hml]; rfl) (argsL := [(.ref b), (.int 0), (.int 1)]) (rest := []) (lenOf own_pd5 rfl) rfl (Nat.le_of_eq rfl) (hb hby dC3_23) (fun _ _ => ⟨rfl, rfl, (by decide : 1 + 1 ≤ _), (by decide : 1 + 2 ≤ _)⟩)
 dsimp only [Pt.U, Pt.locs, Pt.cells, Pt.slots] at X3 l3 y3 z3 st3 hQ3
 subst l3 y3 z3
 obtain ⟨t3, kb3, rfl, Nq3, Kq3, gt3, lt3, Vt3⟩ := hQ3
 have KK3 : Keep T2.heap T3.heap [] := Kq3
 have sz3 : T2.heap.size ≤ T3.heap.size := KK3.1
 have K3 : Keep h0 T3.heap [] := K2.trans KK3 all0
 have N3 := Fr.app N2 Nq3
 refine own_st st3 ?_
 refine own_st (fun tq kq => XS.astore X3.here hx rfl (hb hby dC3_26) rfl rfl (l' := #[vR b, vI 0, vI 1, vR b1, vI 0, vR t3]) rfl kq) ?_
 refine s_aload X3 hx (hb hby dC3_28) rfl rfl ?_
 refine s_iload X3 hx (hb hby dC3_30) rfl ?_
 obtain ⟨_, _, ⟨T4, L4, k4, n4⟩, -, X4, ⟨Lc4, hQ4, l4, y4, z4⟩, st4⟩ := Jvm.LawKit.callS X3 hx (y := mN2) hown (mvT hZ (wd126 hw)) (mvT hZ (wd127 hw)) (mvT hZ (wd35 hw)) (mvT hZ (wd128 hw)) (by decide) (own_backN (W := 0) (own_get_0 l Z a0 hw [] (t3) (_) (_) (_) (_) (_) T3.heap n0 (by omega) (X00.keep K3 all0) OA OH OL Vt3 (by decide) (by decide) rfl rfl) hZ (wd128 hw) (wd35 hw) (by decide) (by decide)) (g := (mkF m 32 #[vR b, vI 0, vI 1, vR b1, vI 0, vR t3] [(.int 0), (.ref t3)])) rfl (by rw [hml]; rfl) (argsL := [(.ref t3), (.int 0)]) (rest := []) (lenOf own_pd6 rfl) rfl (Nat.le_of_eq rfl) (hb hby dC3_32) (fun _ _ => ⟨rfl, rfl, (by decide : 2 + 0 ≤ _), (by decide : 3 + 0 ≤ _)⟩)
 dsimp only [Pt.U, Pt.locs, Pt.cells, Pt.slots] at X4 l4 y4 z4 st4 hQ4
 subst l4 y4 z4
 obtain ⟨rfl, Nq4, sm4⟩ := hQ4
 have N4 := Fr.app N3 Nq4
 refine own_st st4 ?_
 refine s_sipush X4 hx (hb hby dC3_35) ?_
 show own_G p e below _ (T4.setTop (mkF m 38 #[vR b, vI 0, vI 1, vR b1, vI 0, vR t3] [(.int 255), (.int (StrChars.pairCh (L8 c0) (H8 c0)))]))
 refine own_st (fun tq kq => XS.icmpYes X4.here hx rfl (pc0 := 38) (pc' := 54) rfl (hb hby dC3_38) rfl (tlt (by rw [StrChars.pair_says hb0.1 hb0.2]; exact hg)).2.2.1 (by decide) (by decide) kq) ?_
 refine s_aload X4 hx (hb hby dC3_54) rfl rfl ?_
 show own_G p e below _ (T4.setTop (mkF m 56 #[vR b, vI 0, vI 1, vR b1, vI 0, vR t3] [(.ref t3)]))
 obtain ⟨fs, hr, hrun, hended, hW, hsame⟩ := X4.leave (v := some (.ref t3)) (fun h => by rw [Bd.returns] at h; cases h)
 refine ⟨_, _, retOut X4 hx Bd.returns rfl (Or.inr (Or.inr (Or.inr (Or.inr ⟨rfl, rfl, rfl⟩)))) (hb hby dC3_56) hr, hrun, hended, _, _, rfl, ?_, ⟨_, rfl⟩, hW, hsame.mono (by decide) (by decide)⟩
 change Q_own_cm3_1 Z b kC dv c0 h0 n0 _ T4.heap _; rw [sm4]; exact ⟨t3, _, rfl, N4, K3, (by omega), Vt3.lt, Vt3⟩

def Q_own_n4_1 (Z : State) (x b : Nat) (v0 c_0 dv : Value) (kC : ClassId) (G1 : Int32) (c0 : Int32) (h0 : Heap) (n0 : Nat) (v : Option Value) (h : Heap) (L : List Loc) : Prop := v = none ∧ Fr n0 L ∧ Keep h0 h [x] ∧ ∃ (t : Nat) (kb : ClassId), Fld Z h x "java/lang/String" "value" "[B" (.ref t) ∧ Fld Z h x "java/lang/String" "coder" "B" (.int (1 : Int32)) ∧ Arv Z h t kb .byte (2 : Int32) [.int (L8 c0), .int (H8 c0)] (.int 0)
theorem ef_own_n4_1 (m : MethodId) (x0 : Nat) (x1 : Nat) : entryFrame m #[(.ref x0), (.ref x1), (.int 0), (.int 1), .null] 6 = mkF m 0 #[.val (.ref x0), .val (.ref x1), .val (.int 0), .val (.int 1), .val .null, .unset] [] := by first | (simp [entryFrame, mkF, argsToLocals, Value.category]; done) | rfl
theorem own_n4_1 (l : Launch) (Z : State) (a0 : Array Value) (hw : hWt a0 Z) (ws : List Jvm.Cond) (x b : Nat) (v0 c_0 dv : Value) (kC : ClassId) (G1 : Int32) (c0 : Int32) (h0 : Heap) (n0 : Nat) (Z0 : n0 ≤ h0.size) (X00 : Old Z n0 h0) (Ex : Exa Z h0 x "java/lang/String") (Fv : Fld Z h0 x "java/lang/String" "value" "[B" v0) (Fc : Fld Z h0 x "java/lang/String" "coder" "B" c_0) (gx : n0 ≤ x) (ltx : x < h0.size) (Vb : Arv Z h0 b kC .char (1 : Int32) [.int c0] dv) (O2 : Sta Z Z.heap "java/lang/String" "COMPACT_STRINGS" "Z" (.int G1)) (P5 : ¬ (G1 = (0 : Int32))) (OA : oA Z) (OH : oH Z) (OL : oL Z) (hb0 : ¬ c0 < 0 ∧ ¬ (65535 : Int32) < c0) (hD : ((255 : Int32) < c0)) :
 own_MN l mN0 jdk_42_method_149_code 6 none ws rm_4_2_3_95 Z #[(.ref x), (.ref b), (.int 0), (.int 1), .null] h0 (Q_own_n4_1 Z x b v0 c_0 dv kC G1 c0 h0 n0) := by
 refine own_bodyN (plainFor_of_name own_pn0) fun p e s m below meth c s₁ Bd hx hby hml hown hZ X0 e0 => ?_
 have hnm := (name_of_methodNamed Bd.named Bd.method).1
 have N0 := Fr.nil n0
 have K0 : Keep h0 h0 [x] := Keep.refl h0 [x]
 refine own_st (fun tq kq => castTop (ef_own_n4_1 m (x) (b)) kq) ?_
 show own_G p e below _ (s₁.setTop (mkF m 0 #[vR x, vR b, vI 0, vI 1, .val .null, .unset] []))
 have hws0 : ∀ y ∈ [x], n0 ≤ y := allS gx all0
 refine s_aloadN X0 hx (hb hby dN4_0) rfl rfl ?_
 obtain ⟨T1, X1, e1, st1⟩ := initO X0 hx hZ hown (wd12 hw) (wd13 hw) (wd14 hw) e0 (g := (mkF m 1 #[vR x, vR b, vI 0, vI 1, .val .null, .unset] [(.ref x)])) rfl (by rw [hml]; rfl) rfl (hb hby dN4_1) (by decide) (W := 0) (Nat.le_of_eq rfl) (by decide)
 refine own_st st1 ?_
 refine s_iloadN X1 hx (hb hby dN4_4) rfl ?_
 show own_G p e below _ (T1.setTop (mkF m 5 #[vR x, vR b, vI 0, vI 1, .val .null, .unset] [(.int 1)]))
 refine own_st (fun tq kq => XS.ifYes X1.here hx rfl (pc0 := 5) (pc' := 27) rfl (hb hby dN4_5) rfl ((if0 _ _).trans (feq (by decide : ¬ ((1 : Int32) = (0 : Int32)))).2) (by decide) (by decide) kq) ?_
 obtain ⟨T2, X2, e2, st2⟩ := getS2 X1 hx hZ hown (host := "") (Or.inl (wd32 hw)) Via.refl e1 (O2.ext (X00.keep K0 hws0).2) (g := (mkF m 27 #[vR x, vR b, vI 0, vI 1, .val .null, .unset] [])) rfl (hb hby dN4_27)
 refine own_st st2 ?_
 refine own_st (fun tq kq => XS.ifNo X2.here hx rfl (hb hby dN4_30) rfl ((if0 _ _).trans (feq P5).1) kq) ?_
 refine s_aloadN X2 hx (hb hby dN4_33) rfl rfl ?_
 refine s_iloadN X2 hx (hb hby dN4_34) rfl ?_
 refine s_iloadN X2 hx (hb hby dN4_35) rfl ?_
 show own_G p e below _ (T2.setTop (mkF m 36 #[vR x, vR b, vI 0, vI 1, .val .null, .unset] [(.int 1), (.int 0), (.ref b)]))
 obtain ⟨_, _, ⟨T3, L3, k3, n3⟩, -, X3, ⟨Lc3, hQ3, l3, y3, z3⟩, st3⟩ := Jvm.LawKit.callS X2 hx (y := mN10) hown (mvT hZ (wd33 hw)) (mvT hZ (wd34 hw)) (mvT hZ (wd35 hw)) (mvT hZ (wd36 hw)) (by decide) (own_backN (W := 0) (own_cm3_1 l Z a0 hw [] (b) (kC) (dv) (c0) h0 n0 (by omega) (X00.keep K0 hws0) OA OH OL Vb hb0 hD) hZ (wd36 hw) (wd35 hw) (by decide) (by decide)) (g := (mkF m 36 #[vR x, vR b, vI 0, vI 1, .val .null, .unset] [(.int 1), (.int 0), (.ref b)])) rfl (by rw [hml]; rfl) (argsL := [(.ref b), (.int 0), (.int 1)]) (rest := []) (lenOf own_pd5 rfl) rfl (Nat.le_of_eq rfl) (hb hby dN4_36) (fun _ _ => ⟨rfl, e2, (by decide : 0 + 2 ≤ _), (by decide : 0 + 3 ≤ _)⟩)
 dsimp only [Pt.U, Pt.locs, Pt.cells, Pt.slots] at X3 l3 y3 z3 st3 hQ3
 subst l3 y3 z3
 obtain ⟨t3, kb3, rfl, Nq3, Kq3, gt3, lt3, Vt3⟩ := hQ3
 have KK3 : Keep h0 T3.heap [] := Kq3
 have sz3 : h0.size ≤ T3.heap.size := KK3.1
 have K3 : Keep h0 T3.heap [x] := K0.trans KK3 all0
 have N3 := Fr.app N0 Nq3
 refine own_st st3 ?_
 refine own_st (fun tq kq => XS.astore X3.here hx rfl (hb hby dN4_39) rfl rfl (l' := #[vR x, vR b, vI 0, vI 1, .val .null, vR t3]) rfl kq) ?_
 refine s_aloadN X3 hx (hb hby dN4_41) rfl rfl ?_
 refine s_aload X3 hx (hb hby dN4_42) rfl rfl ?_
 refine s_iloadN X3 hx (hb hby dN4_44) rfl ?_
 show own_G p e below _ (T3.setTop (mkF m 45 #[vR x, vR b, vI 0, vI 1, .val .null, vR t3] [(.int 1), (.ref t3), (.ref x)]))
 obtain ⟨_, _, ⟨T4, L4, k4, n4⟩, -, X4, ⟨Lc4, hQ4, l4, y4, z4⟩, st4⟩ := Jvm.LawKit.callS X3 hx (y := mN8) hown (mvT hZ (wd40 hw)) (mvT hZ (wd41 hw)) (mvT hZ (wd35 hw)) (mvT hZ (wd42 hw)) (by decide) (own_backN (W := 1) (own_cfl1 l Z a0 hw [] (t3) (_) (_) T3.heap n0 (by omega) (X00.keep K3 hws0) Vt3) hZ (wd42 hw) (wd35 hw) (by decide) (by decide)) (g := (mkF m 45 #[vR x, vR b, vI 0, vI 1, .val .null, vR t3] [(.int 1), (.ref t3), (.ref x)])) rfl (by rw [hml]; rfl) (argsL := [(.ref t3), (.int 1)]) (rest := [(.ref x)]) (lenOf own_pd7 rfl) rfl (Nat.le_of_eq rfl) (hb hby dN4_45) (fun _ _ => ⟨rfl, rfl, (by decide : 2 + 0 ≤ _), (by decide : 3 + 0 ≤ _)⟩)
 dsimp only [Pt.U, Pt.locs, Pt.cells, Pt.slots] at X4 l4 y4 z4 st4 hQ4
 subst l4 y4 z4
 obtain ⟨rfl, Nq4, sm4⟩ := hQ4
 have N4 := Fr.app N3 Nq4
 refine own_st st4 ?_
 obtain ⟨T5, h5, X5, e5, W5, st5⟩ := putF X4 hx hZ hown (host := "") (Or.inl (wd22 hw)) Via.refl sm4 (Fc.keep KK3 nin0) (Ex.keep KK3) (Or.inr ⟨(wd18 hw), rfl, hnm⟩) (wd2 hw) (ty := .byte) (by decide) rfl rfl (g := (mkF m 48 #[vR x, vR b, vI 0, vI 1, .val .null, vR t3] [(.int 1), (.ref x)])) rfl rfl (hb hby dN4_48)
 have Fw5 := (Fc.keep KK3 nin0).same W5
 have sz5 : T3.heap.size ≤ h5.size := (Keep.of_wr W5).1
 have K5 : Keep h0 h5 [x] := K3.wr W5 (Or.inl (by simp))
 have N5 := Fr.snoc X5 N4 (own_le (by omega))
 refine own_st st5 ?_
 refine s_aloadN X5 hx (hb hby dN4_51) rfl rfl ?_
 refine s_aload X5 hx (hb hby dN4_52) rfl rfl ?_
 obtain ⟨T6, h6, X6, e6, W6, st6⟩ := putF X5 hx hZ hown (host := "") (Or.inl (wd21 hw)) Via.refl e5 ((Fv.keep KK3 nin0).other W5 (Or.inr (slot_ne (Or.inr (wd17 hw)) (Or.inr (wd18 hw)) (by decide) (t := (.array .byte)) (t' := .byte) (by decide) (by decide)))) ((Ex.keep KK3).wr W5) (Or.inr ⟨(wd17 hw), rfl, hnm⟩) (wd2 hw) (ty := (.array .byte)) (by decide) rfl rfl (g := (mkF m 54 #[vR x, vR b, vI 0, vI 1, .val .null, vR t3] [(.ref t3), (.ref x)])) rfl rfl (hb hby dN4_54)
 have Fw6 := ((Fv.keep KK3 nin0).other W5 (Or.inr (slot_ne (Or.inr (wd17 hw)) (Or.inr (wd18 hw)) (by decide) (t := (.array .byte)) (t' := .byte) (by decide) (by decide)))).same W6
 have sz6 : h5.size ≤ h6.size := (Keep.of_wr W6).1
 have K6 : Keep h0 h6 [x] := K5.wr W6 (Or.inl (by simp))
 have N6 := Fr.snoc X6 N5 (own_le (by omega))
 refine own_st st6 ?_
 obtain ⟨fs, hr, hrun, hended, hW, hsame⟩ := X6.leave (v := none) (fun _ => rfl)
 refine ⟨_, _, X6.returnOut hx Bd.returns (hb hby dN4_57) hr, hrun, hended, _, _, rfl, ?_, ⟨_, rfl⟩, hW, hsame.mono (by decide) (by decide)⟩
 change Q_own_n4_1 Z x b v0 c_0 dv kC G1 c0 h0 n0 _ T6.heap _; rw [e6]; exact ⟨rfl, N6, K6, t3, _, Fw6, (Fw5.other W6 (Or.inr (slot_ne (Or.inr (wd18 hw)) (Or.inr (wd17 hw)) (by decide) (t := .byte) (t' := (.array .byte)) (by decide) (by decide)))), ((Vt3.other W5 (own_ne (by omega))).other W6 (own_ne (by omega)))⟩

def Q_own_n1_1 (Z : State) (x b : Nat) (v0 c_0 dv : Value) (kC : ClassId) (G1 : Int32) (c0 : Int32) (h0 : Heap) (n0 : Nat) (v : Option Value) (h : Heap) (L : List Loc) : Prop := v = none ∧ Fr n0 L ∧ Keep h0 h [x] ∧ ∃ (t : Nat) (kb : ClassId), Fld Z h x "java/lang/String" "value" "[B" (.ref t) ∧ Fld Z h x "java/lang/String" "coder" "B" (.int (1 : Int32)) ∧ Arv Z h t kb .byte (2 : Int32) [.int (L8 c0), .int (H8 c0)] (.int 0)
theorem ef_own_n1_1 (m : MethodId) (x0 : Nat) (x1 : Nat) : entryFrame m #[(.ref x0), (.ref x1)] 2 = mkF m 0 #[.val (.ref x0), .val (.ref x1)] [] := by first | (simp [entryFrame, mkF, argsToLocals, Value.category]; done) | rfl
theorem own_n1_1 (l : Launch) (Z : State) (a0 : Array Value) (hw : hWt a0 Z) (ws : List Jvm.Cond) (x b : Nat) (v0 c_0 dv : Value) (kC : ClassId) (G1 : Int32) (c0 : Int32) (h0 : Heap) (n0 : Nat) (Z0 : n0 ≤ h0.size) (X00 : Old Z n0 h0) (Ex : Exa Z h0 x "java/lang/String") (Fv : Fld Z h0 x "java/lang/String" "value" "[B" v0) (Fc : Fld Z h0 x "java/lang/String" "coder" "B" c_0) (gx : n0 ≤ x) (ltx : x < h0.size) (Vb : Arv Z h0 b kC .char (1 : Int32) [.int c0] dv) (O2 : Sta Z Z.heap "java/lang/String" "COMPACT_STRINGS" "Z" (.int G1)) (P5 : ¬ (G1 = (0 : Int32))) (OA : oA Z) (OH : oH Z) (OL : oL Z) (hb0 : ¬ c0 < 0 ∧ ¬ (65535 : Int32) < c0) (hD : ((255 : Int32) < c0)) :
 own_MN l mN1 jdk_42_method_3_code 2 none ws rm_5_2_3_115 Z #[(.ref x), (.ref b)] h0 (Q_own_n1_1 Z x b v0 c_0 dv kC G1 c0 h0 n0) := by
 refine own_bodyN (plainFor_of_name own_pn0) fun p e s m below meth c s₁ Bd hx hby hml hown hZ X0 e0 => ?_
 have hnm := (name_of_methodNamed Bd.named Bd.method).1
 have N0 := Fr.nil n0
 have K0 : Keep h0 h0 [x] := Keep.refl h0 [x]
 refine own_st (fun tq kq => castTop (ef_own_n1_1 m (x) (b)) kq) ?_
 show own_G p e below _ (s₁.setTop (mkF m 0 #[vR x, vR b] []))
 have hws0 : ∀ y ∈ [x], n0 ≤ y := allS gx all0
 refine s_aloadN X0 hx (hb hby dN1_0) rfl rfl ?_
 refine s_aloadN X0 hx (hb hby dN1_1) rfl rfl ?_
 refine s_iconst X0 hx (hb hby dN1_2) ?_
 refine s_aloadN X0 hx (hb hby dN1_3) rfl rfl ?_
 show own_G p e below _ (s₁.setTop (mkF m 4 #[vR x, vR b] [(.ref b), (.int 0), (.ref b), (.ref x)]))
 obtain ⟨cl1, Ar1, q1, S_1, N_1, H_1, G_1⟩ := id Vb
 refine own_st (fun tq kq => X0.arraylength hx (by rw [e0]; exact Ar1.1) (State.isArrayOf_alike hZ.alike Ar1.2.1) (g := (mkF m 4 #[vR x, vR b] [(.ref b), (.int 0), (.ref b), (.ref x)])) rfl rfl (hb hby dN1_4) _ kq) ?_
 rw [len_of S_1 N_1]
 show own_G p e below _ (s₁.setTop (mkF m 5 #[vR x, vR b] [(.int 1), (.int 0), (.ref b), (.ref x)]))
 refine own_st (fun tq kq => XS.aconstNull X0.here hx rfl (hb hby dN1_5) kq) ?_
 obtain ⟨_, _, ⟨T2, L2, k2, n2⟩, -, X2, ⟨Lc2, hQ2, l2, y2, z2⟩, st2⟩ := X0.specialBack hx (y := mN0) rfl hown (mvT hZ (wd8 hw)) (mvT hZ (wd9 hw)) (mvT hZ (wd11 hw)) (by decide) (own_backN (W := 0) (own_n4_1 l Z a0 hw [] (x) (b) (v0) (c_0) (dv) (kC) (G1) (c0) h0 n0 (by omega) (X00.keep K0 hws0) Ex Fv Fc gx ltx Vb O2 P5 OA OH OL hb0 hD) hZ (wd11 hw) (wd3 hw) (by decide) (by decide)) (g := (mkF m 6 #[vR x, vR b] [.null, (.int 1), (.int 0), (.ref b), (.ref x)])) rfl (by rw [hml]; rfl) (Steps.refl _) (a := x) (argsL := [(.ref b), (.int 0), (.int 1), .null]) (rest := []) (lenOf own_pd0 rfl) rfl (Nat.le_of_eq rfl) (hb hby dN1_6) (fun _ _ => ⟨rfl, e0, (by decide : 0 + 2 ≤ _), (by decide : 0 + 3 ≤ _)⟩)
 dsimp only [Pt.U, Pt.locs, Pt.cells, Pt.slots] at X2 l2 y2 z2 st2 hQ2
 subst l2 y2 z2
 obtain ⟨rfl, Nq2, Kq2, R2⟩ := hQ2
 have KK2 : Keep h0 T2.heap [x] := Kq2
 have sz2 : h0.size ≤ T2.heap.size := KK2.1
 have K2 : Keep h0 T2.heap [x] := K0.trans KK2 (allS (Or.inl (by simp)) all0)
 have N2 := Fr.app N0 Nq2
 refine own_st (fun tq kq => st2.trans kq) ?_
 obtain ⟨fs, hr, hrun, hended, hW, hsame⟩ := X2.leave (v := none) (fun _ => rfl)
 refine ⟨_, _, X2.returnOut hx Bd.returns (hb hby dN1_9) hr, hrun, hended, _, _, rfl, ?_, ⟨_, rfl⟩, hW, hsame.mono (by decide) (by decide)⟩
 change Q_own_n1_1 Z x b v0 c_0 dv kC G1 c0 h0 n0 _ T2.heap _; exact ⟨rfl, N2, K2, R2⟩

set_option maxRecDepth 65536 in
set_option maxHeartbeats 40000000 in
theorem own_newU1 {p : Program} {l : Launch} {e : Env} {R : Room} {s : State} {args : Array Value} {below : List Frame} {len W : Nat} {Z : State} {a0 : Array Value} {h : Heap} {vm0 : Vm} (hZ : Z.Warmed39 vm0) (hw : ∀ d ∈ tables_1, d.before a0 Z = true) (hEL : EW Z a0 consts_1) (H : CHv Z consts_1 vm0 h)
    {x b : Nat} {kC : ClassId} {c0 : Int32} {d v0 c_0 : Value} {z : Int32} {n0 : Nat} (hs : Safe Z consts_1 vm0 h x) (hx0 : n0 ≤ x) (X00 : Old Z n0 h) (E : Exa Z h x "java/lang/String") (V : Fld Z h x "java/lang/String" "value" "[B" v0) (F : Fld Z h x "java/lang/String" "coder" "B" c_0) (K : Arv Z h b kC .char (1 : Int32) [.int c0] d) (S : Sta Z Z.heap "java/lang/String" "COMPACT_STRINGS" "Z" (.int z)) (hz : ¬ z = 0) (OA : oA Z) (OH : oH Z) (OL : oL Z)
    (hp : ∀ c ∈ ([c0] : List Int32), ¬ c < 0 ∧ ¬ (65535 : Int32) < c) (hfr : 6 ≤ R.frames) (hlo : W + 128 ≤ R.locals) :
    BackS l R p e below (s.setVm vm0) args (⟨"java/lang/String", "<init>", "([C)V"⟩ : MethodName) len W (fun P a => a = #[.ref x, .ref b] ∧ P.U.heap = h ∧ P.cells + 2 ≤ R.cells ∧ P.slots + 7 ≤ R.slots)
      (fun P _ v B => ∃ L, own_QU Z x ([c0] : List Int32) h n0 v B.U.heap L ∧ B.locs = P.locs ++ L ∧ B.cells = P.cells + 2 ∧ B.slots = P.slots + 7 ∧ CHr Z consts_1 vm0 h B.U.vm B.U.heap) := by
  have hh0 : n0 ≤ h.size := by have := X00.1; have := X00.2.1; omega
  have key : (((255 : Int32) < c0)) ∨ (¬ (255 : Int32) < c0) := by
    by_cases hl0 : (255 : Int32) < c0
    · exact Or.inl (hl0)
    exact Or.inr hl0
  rcases key with hD | hL
  · have hex : ∃ c ∈ ([c0] : List Int32), 255 < c := ⟨c0, by simp, hD⟩
    intro m meth c P g ig mk a X hg hsize hdg hW hnn hp'
    obtain ⟨v, B, Y, ⟨L, hQ, e1, e2, e3⟩, st⟩ := own_backN (rm := rm_5_2_3_115) (R := R) (W := W) (s := s.setVm vm0) (own_n1_1 l Z a0 hw [] x b v0 c_0 d kC z c0 h n0 hh0 X00 E V F hx0 E.lt K S hz OA OH OL (hp _ (by simp)) hD) hZ (wd7 hw) (wd3 hw) (by show 5 + 1 ≤ _; omega) (by show W + (2 + 11) + 115 ≤ _; omega) m meth c P g ig mk a X hg hsize hdg hW hnn ⟨hp'.1, hp'.2.1, Nat.le_trans (by show _ + 2 ≤ _ + 2; exact Nat.le_refl _) hp'.2.2.1, Nat.le_trans (by show _ + 3 ≤ _ + 7; exact Nat.add_le_add_left (by decide) _) hp'.2.2.2⟩
    obtain ⟨BU, BL, Bc, Bs⟩ := B
    dsimp only [Pt.U, Pt.locs, Pt.cells, Pt.slots] at Y hQ e1 e2 e3 st
    obtain ⟨r1, r2, r3, t, kb, r5, r6, r7⟩ := hQ
    have hCH : CHr Z consts_1 vm0 h vm0 BU.heap := CHr.keep r3 (allS hs all0) H
    have Y2 : Stand p l e R (s.setVm vm0) m args below meth c BU BL (P.cells + 2) (P.slots + 7) := Y.mono (by rw [e2]; exact Nat.le_refl _) (by rw [e3]; exact Nat.add_le_add_left (by decide) _)
    refine ⟨v, ⟨BU, BL, P.cells + 2, P.slots + 7⟩, Y2.retabled Y2.warmed.wide, Y2.warmed.since _, ?_, ⟨L, ⟨r1, r2, r3, r5.lt, E.keep r3, hp, by simp, t, kb, 1, _, _, r7.lt, r5, r6, r7, Or.inr ⟨rfl, rfl, rfl, hex⟩⟩, e1, rfl, rfl, hCH.trans (CHv.at (s := s) (vm0 := vm0) Y2 hZ hEL hCH.1)⟩, st⟩
    show P.U.heap.size ≤ BU.heap.size
    rw [hp'.2.1]; exact r3.1
  have hl0 := hL
  have hp2 : ∀ c ∈ ([c0] : List Int32), ¬ c < 0 ∧ ¬ (255 : Int32) < c := by
    intro c hc
    simp only [List.mem_cons, List.not_mem_nil, or_false] at hc
    rcases hc with rfl
    · exact ⟨(hp _ (by simp)).1, hl0⟩
  intro m meth c P g ig mk a X hg hsize hdg hW hnn hp'
  obtain ⟨v, B, Y, q1, q2, ⟨L, hQ, e1, e2, e3, hc⟩, st⟩ := own_newStr (R := R) (W := W) (s := s) (vm0 := vm0) hZ hw hEL H (cs := ([c0] : List Int32)) (n := 1) (n0 := n0) hs hx0 X00 E V F K S hz rfl rfl (by decide) hp2 (by omega) (by omega) m meth c P g ig mk a X hg hsize hdg hW hnn ⟨hp'.1, hp'.2.1, hp'.2.2.1, Nat.le_trans (Nat.add_le_add_left (by decide) _) hp'.2.2.2⟩
  obtain ⟨BU, BL, Bc, Bs⟩ := B
  dsimp only [Pt.U, Pt.locs, Pt.cells, Pt.slots] at Y q1 q2 hQ e1 e2 e3 st hc
  have Y2 : Stand p l e R ((s.setVm vm0).setVm BU.vm) m args below meth c BU BL (P.cells + 2) (P.slots + 7) := Y.mono (by rw [e2]; exact Nat.le_refl _) (by rw [e3]; exact Nat.add_le_add_left (by decide) _)
  exact ⟨v, ⟨BU, BL, P.cells + 2, P.slots + 7⟩, Y2, q1, q2, ⟨L, ⟨hQ.1, hQ.2.1, hQ.2.2.1, hQ.2.2.2.toU⟩, e1, rfl, rfl, hc⟩, st⟩

def Q_own_ulen2 (Z : State) (t : Nat) (kb : ClassId) (vs : List Value) (h0 : Heap) (n0 : Nat) (v : Option Value) (h : Heap) (L : List Loc) : Prop := v = some (.int (2 : Int32)) ∧ Fr n0 L ∧ h = h0
theorem ef_own_ulen2 (m : MethodId) (x0 : Nat) : entryFrame m #[(.ref x0)] 1 = mkF m 0 #[.val (.ref x0)] [] := by first | (simp [entryFrame, mkF, argsToLocals, Value.category]; done) | rfl
theorem own_ulen2 (l : Launch) (Z : State) (a0 : Array Value) (hw : hWt a0 Z) (ws : List Jvm.Cond) (t : Nat) (kb : ClassId) (vs : List Value) (h0 : Heap) (n0 : Nat) (Z0 : n0 ≤ h0.size) (X00 : Old Z n0 h0) (Vt : Arv Z h0 t kb .byte (4 : Int32) vs (.int 0)) :
 own_MN l mN3 jdk_52_method_6_code 1 (some .int) ws rm_0_0_0_0 Z #[(.ref t)] h0 (Q_own_ulen2 Z t kb vs h0 n0) := by
 refine own_bodyN (plainFor_of_name own_pn1) fun p e s m below meth c s₁ Bd hx hby hml hown hZ X0 e0 => ?_
 have N0 := Fr.nil n0
 have K0 : Keep h0 h0 [] := Keep.refl h0 []
 refine own_st (fun tq kq => castTop (ef_own_ulen2 m (t)) kq) ?_
 show own_G p e below _ (s₁.setTop (mkF m 0 #[vR t] []))
 refine s_aloadN X0 hx (hb hby dUL_0) rfl rfl ?_
 obtain ⟨cl1, Ar1, q1, S_1, N_1, H_1, G_1⟩ := id Vt
 refine own_st (fun tq kq => X0.arraylength hx (by rw [e0]; exact Ar1.1) (State.isArrayOf_alike hZ.alike Ar1.2.1) (g := (mkF m 1 #[vR t] [(.ref t)])) rfl rfl (hb hby dUL_1) _ kq) ?_
 rw [len_of S_1 N_1]
 show own_G p e below _ (s₁.setTop (mkF m 2 #[vR t] [(.int 4)]))
 refine s_iconst X0 hx (hb hby dUL_2) ?_
 refine own_st (fun tq kq => XS.ishr X0.here hx rfl (hb hby dUL_3) rfl kq) ?_
 show own_G p e below _ (s₁.setTop (mkF m 4 #[vR t] [(.int 2)]))
 obtain ⟨fs, hr, hrun, hended, hW, hsame⟩ := X0.leave (v := some (.int 2)) (fun h => by rw [Bd.returns] at h; cases h)
 refine ⟨_, _, retOut X0 hx Bd.returns rfl (Or.inl ⟨rfl, by simp, _, rfl⟩) (hb hby dUL_4) hr, hrun, hended, _, _, rfl, ?_, ⟨_, rfl⟩, hW, hsame.mono (by decide) (by decide)⟩
 change Q_own_ulen2 Z t kb vs h0 n0 _ s₁.heap _; rw [e0]; exact ⟨rfl, N0, rfl⟩

def Q_own_nlen2 (Z : State)  (h0 : Heap) (n0 : Nat) (v : Option Value) (h : Heap) (L : List Loc) : Prop := v = some (.int (4 : Int32)) ∧ Fr n0 L ∧ h = h0
theorem ef_own_nlen2 (m : MethodId)  : entryFrame m #[(.int 2)] 1 = mkF m 0 #[.val (.int 2)] [] := by first | (simp [entryFrame, mkF, argsToLocals, Value.category]; done) | rfl
theorem own_nlen2 (l : Launch) (Z : State) (a0 : Array Value) (hw : hWt a0 Z) (ws : List Jvm.Cond)  (h0 : Heap) (n0 : Nat) (Z0 : n0 ≤ h0.size) (X00 : Old Z n0 h0)  :
 own_MN l mN4 jdk_52_method_3_code 1 (some .int) ws rm_0_0_0_0 Z #[(.int 2)] h0 (Q_own_nlen2 Z  h0 n0) := by
 refine own_bodyN (plainFor_of_name own_pn1) fun p e s m below meth c s₁ Bd hx hby hml hown hZ X0 e0 => ?_
 have N0 := Fr.nil n0
 have K0 : Keep h0 h0 [] := Keep.refl h0 []
 refine own_st (fun tq kq => castTop (ef_own_nlen2 m ) kq) ?_
 show own_G p e below _ (s₁.setTop (mkF m 0 #[vI 2] []))
 refine s_iloadN X0 hx (hb hby dNL_0) rfl ?_
 show own_G p e below _ (s₁.setTop (mkF m 1 #[vI 2] [(.int 2)]))
 refine own_st (fun tq kq => XS.ifYes X0.here hx rfl (pc0 := 1) (pc' := 12) rfl (hb hby dNL_1) rfl ((if0 _ _).trans (flt (by decide : ¬ ((2 : Int32) < (0 : Int32)))).2.1) (by decide) (by decide) kq) ?_
 refine s_iloadN X0 hx (hb hby dNL_12) rfl ?_
 refine own_st (fun tq kq => X0.ldcInt hx hown (mvT hZ (wd119 hw)) (g := (mkF m 13 #[vI 2] [(.int 2)])) rfl (hb hby dNL_13) _ kq) ?_
 show own_G p e below _ (s₁.setTop (mkF m 15 #[vI 2] [(.int 1073741823), (.int 2)]))
 refine own_st (fun tq kq => XS.icmpYes X0.here hx rfl (pc0 := 15) (pc' := 55) rfl (hb hby dNL_15) rfl (tlt (by decide : ((2 : Int32) < (1073741823 : Int32)))).1 (by decide) (by decide) kq) ?_
 refine s_iloadN X0 hx (hb hby dNL_55) rfl ?_
 refine s_iconst X0 hx (hb hby dNL_56) ?_
 refine own_st (fun tq kq => XS.ishl X0.here hx rfl (hb hby dNL_57) rfl kq) ?_
 show own_G p e below _ (s₁.setTop (mkF m 58 #[vI 2] [(.int 4)]))
 obtain ⟨fs, hr, hrun, hended, hW, hsame⟩ := X0.leave (v := some (.int 4)) (fun h => by rw [Bd.returns] at h; cases h)
 refine ⟨_, _, retOut X0 hx Bd.returns rfl (Or.inl ⟨rfl, by simp, _, rfl⟩) (hb hby dNL_58) hr, hrun, hended, _, _, rfl, ?_, ⟨_, rfl⟩, hW, hsame.mono (by decide) (by decide)⟩
 change Q_own_nlen2 Z  h0 n0 _ s₁.heap _; rw [e0]; exact ⟨rfl, N0, rfl⟩

def Q_own_nfor2 (Z : State)  (h0 : Heap) (n0 : Nat) (v : Option Value) (h : Heap) (L : List Loc) : Prop := ∃ (t : Nat) (kb : ClassId), v = some (.ref t) ∧ Fr n0 L ∧ Keep h0 h [] ∧ h0.size ≤ t ∧ t < h.size ∧ Arv Z h t kb .byte (4 : Int32) [.int (0 : Int32), .int (0 : Int32), .int (0 : Int32), .int (0 : Int32)] (.int 0)
theorem ef_own_nfor2 (m : MethodId)  : entryFrame m #[(.int 2)] 1 = mkF m 0 #[.val (.int 2)] [] := by first | (simp [entryFrame, mkF, argsToLocals, Value.category]; done) | rfl
theorem own_nfor2 (l : Launch) (Z : State) (a0 : Array Value) (hw : hWt a0 Z) (ws : List Jvm.Cond)  (h0 : Heap) (n0 : Nat) (Z0 : n0 ≤ h0.size) (X00 : Old Z n0 h0)  :
 own_MN l mN5 jdk_52_method_2_code 1 (some (.array .byte)) ws rm_1_1_4_14 Z #[(.int 2)] h0 (Q_own_nfor2 Z  h0 n0) := by
 refine own_bodyN (plainFor_of_name own_pn1) fun p e s m below meth c s₁ Bd hx hby hml hown hZ X0 e0 => ?_
 have N0 := Fr.nil n0
 have K0 : Keep h0 h0 [] := Keep.refl h0 []
 refine own_st (fun tq kq => castTop (ef_own_nfor2 m ) kq) ?_
 show own_G p e below _ (s₁.setTop (mkF m 0 #[vI 2] []))
 refine s_iloadN X0 hx (hb hby dNF_0) rfl ?_
 obtain ⟨_, _, ⟨T1, L1, k1, n1⟩, -, X1, ⟨Lc1, hQ1, l1, y1, z1⟩, st1⟩ := Jvm.LawKit.callS X0 hx (y := mN4) hown (mvT hZ (wd116 hw)) (mvT hZ (wd117 hw)) (mvT hZ (wd35 hw)) (mvT hZ (wd118 hw)) (by decide) (own_backN (W := 0) (own_nlen2 l Z a0 hw []  h0 n0 (by omega) (X00.keep K0 all0) ) hZ (wd118 hw) (wd35 hw) (by decide) (by decide)) (g := (mkF m 1 #[vI 2] [(.int 2)])) rfl (by rw [hml]; rfl) (argsL := [(.int 2)]) (rest := []) (lenOf own_pd1 rfl) rfl (Nat.le_of_eq rfl) (hb hby dNF_1) (fun _ _ => ⟨rfl, e0, (by decide : 0 + 0 ≤ _), (by decide : 0 + 0 ≤ _)⟩)
 dsimp only [Pt.U, Pt.locs, Pt.cells, Pt.slots] at X1 l1 y1 z1 st1 hQ1
 subst l1 y1 z1
 obtain ⟨rfl, Nq1, sm1⟩ := hQ1
 have N1 := Fr.app N0 Nq1
 refine own_st st1 ?_
 obtain ⟨T2, h2, k2, X2, e2, E2, A2, st2⟩ := newP X1 hx hZ (hw _ (List.mem_of_getElem? (i := 16) rfl)) sm1 (g := (mkF m 4 #[vI 2] [(.int 4)])) rfl (hb hby dNF_4) rfl (by decide) (cap := 4) (by decide) (by decide) (by decide) (by decide)
 obtain ⟨b2, g2⟩ : ∃ z, z = h0.size := ⟨_, rfl⟩
 rw [← g2] at A2 st2
 have lt2 : b2 < h2.size := A2.lt
 have V2 : Arv Z h2 b2 k2 .byte (4 : Int32) [(.int (0 : Int32)), (.int (0 : Int32)), (.int (0 : Int32)), (.int (0 : Int32))] (.int (0 : Int32)) := (Arv.new A2 (by decide)).pad (pad_rep [] (.int (0 : Int32)) 4)
 have sz2 : h0.size ≤ h2.size := E2.1
 have K2 : Keep h0 h2 [] := K0.ext E2
 refine own_st st2 ?_
 obtain ⟨fs, hr, hrun, hended, hW, hsame⟩ := X2.leave (v := some (.ref b2)) (fun h => by rw [Bd.returns] at h; cases h)
 refine ⟨_, _, retOut X2 hx Bd.returns rfl (Or.inr (Or.inr (Or.inr (Or.inr ⟨rfl, rfl, rfl⟩)))) (hb hby dNF_6) hr, hrun, hended, _, _, rfl, ?_, ⟨_, rfl⟩, hW, hsame.mono (by decide) (by decide)⟩
 change Q_own_nfor2 Z  h0 n0 _ T2.heap _; rw [e2]; exact ⟨b2, _, rfl, N1, K2, (by omega), (by omega), V2⟩

def Q_own_put2_0 (Z : State) (t : Nat) (kb : ClassId) (ch : Int32) (bt0 bt1 bt2 bt3 : Int32) (h0 : Heap) (n0 : Nat) (v : Option Value) (h : Heap) (L : List Loc) : Prop := v = none ∧ Fr n0 L ∧ Keep h0 h [t] ∧ Arv Z h t kb .byte (4 : Int32) [.int (L8 ch), .int (H8 ch), .int bt2, .int bt3] (.int 0)
theorem ef_own_put2_0 (m : MethodId) (x0 : Nat) (x2 : Int32) : entryFrame m #[(.ref x0), (.int 0), (.int x2)] 3 = mkF m 0 #[.val (.ref x0), .val (.int 0), .val (.int x2)] [] := by first | (simp [entryFrame, mkF, argsToLocals, Value.category]; done) | rfl
theorem own_put2_0 (l : Launch) (Z : State) (a0 : Array Value) (hw : hWt a0 Z) (ws : List Jvm.Cond) (t : Nat) (kb : ClassId) (ch : Int32) (bt0 bt1 bt2 bt3 : Int32) (h0 : Heap) (n0 : Nat) (Z0 : n0 ≤ h0.size) (X00 : Old Z n0 h0) (OA : oA Z) (OH : oH Z) (OL : oL Z) (Vt : Arv Z h0 t kb .byte (4 : Int32) [.int bt0, .int bt1, .int bt2, .int bt3] (.int 0)) (gt : n0 ≤ t) :
 own_MN l mN6 jdk_52_method_4_code 3 none ws rm_0_0_0_0 Z #[(.ref t), (.int 0), (.int ch)] h0 (Q_own_put2_0 Z t kb ch bt0 bt1 bt2 bt3 h0 n0) := by
 refine own_bodyN (plainFor_of_name own_pn1) fun p e s m below meth c s₁ Bd hx hby hml hown hZ X0 e0 => ?_
 have N0 := Fr.nil n0
 have K0 : Keep h0 h0 [t] := Keep.refl h0 [t]
 refine own_st (fun tq kq => castTop (ef_own_put2_0 m (t) (ch)) kq) ?_
 show own_G p e below _ (s₁.setTop (mkF m 0 #[vR t, vI 0, vI ch] []))
 have hws0 : ∀ y ∈ [t], n0 ≤ y := allS gt all0
 obtain ⟨T1, X1, e1, st1⟩ := getS2 X0 hx hZ hown (host := "") (Or.inl (wd123 hw)) Via.refl e0 (OA.ext (X00.keep K0 hws0).2) (g := (mkF m 0 #[vR t, vI 0, vI ch] [])) rfl (hb hby dPU_0)
 refine own_st st1 ?_
 refine own_st (fun tq kq => XS.ifYes X1.here hx rfl (pc0 := 3) (pc' := 28) rfl (hb hby dPU_3) rfl ((if0 _ _).trans (feq (by decide : ¬ ((1 : Int32) = (0 : Int32)))).2) (by decide) (by decide) kq) ?_
 refine s_iloadN X1 hx (hb hby dPU_28) rfl ?_
 refine s_iconst X1 hx (hb hby dPU_29) ?_
 refine own_st (fun tq kq => XS.ishl X1.here hx rfl (hb hby dPU_30) rfl kq) ?_
 show own_G p e below _ (T1.setTop (mkF m 31 #[vR t, vI 0, vI ch] [(.int 0)]))
 refine own_st (fun tq kq => XS.istoreN X1.here hx rfl (hb hby dPU_31) rfl (l' := #[vR t, vI 0, vI ch]) rfl kq) ?_
 refine s_aloadN X1 hx (hb hby dPU_32) rfl rfl ?_
 refine s_iloadN X1 hx (hb hby dPU_33) rfl ?_
 refine own_st (fun tq kq => XS.iinc X1.here hx rfl (hb hby dPU_34) rfl (l' := #[vR t, vI 1, vI ch]) rfl kq) ?_
 show own_G p e below _ (T1.setTop (mkF m 37 #[vR t, vI 1, vI ch] [(.int 0), (.ref t)]))
 refine s_iloadN X1 hx (hb hby dPU_37) rfl ?_
 obtain ⟨T2, X2, e2, st2⟩ := getS2 X1 hx hZ hown (host := "") (Or.inl (wd124 hw)) Via.refl e1 (OH.ext (X00.keep K0 hws0).2) (g := (mkF m 38 #[vR t, vI 1, vI ch] [(.int ch), (.int 0), (.ref t)])) rfl (hb hby dPU_38)
 refine own_st st2 ?_
 refine own_st (fun tq kq => XS.ishr X2.here hx rfl (hb hby dPU_41) rfl kq) ?_
 refine own_st (fun tq kq => XS.i2b X2.here hx rfl (hb hby dPU_42) rfl kq) ?_
 obtain ⟨cl3, Ar3, q3, S_3, N_3, H_3, G_3⟩ := id Vt
 have in3 : ¬ ((0 : Int32) < 0 ∨ cl3.slots.size ≤ ((0 : Int32)).toNatClampNeg) := inb_of S_3 ⟨by decide, by decide⟩
 obtain ⟨T3, h3, X3, e3, W3, st3⟩ := stB X2 hx hZ e2 Ar3 (j := (0 : Int32)) in3 (g := (mkF m 43 #[vR t, vI 1, vI ch] [(.int ((ch >>> ((0 : Int32) &&& 31)).toInt8.toInt32)), (.int 0), (.ref t)])) rfl rfl (hb hby dPU_43)
 have V3 := Arv.set Ar3 q3 S_3 N_3 H_3 G_3 (fits_nar_byte _) W3 0 rfl (Nat.le_of_ble_eq_true rfl)
 have sz3 : h0.size ≤ h3.size := (Keep.of_wr W3).1
 have K3 : Keep h0 h3 [t] := K0.wr W3 (Or.inl (by simp))
 have N3 := Fr.snoc X3 N0 (own_le (by omega))
 refine own_st st3 ?_
 refine s_aloadN X3 hx (hb hby dPU_44) rfl rfl ?_
 refine s_iloadN X3 hx (hb hby dPU_45) rfl ?_
 refine s_iloadN X3 hx (hb hby dPU_46) rfl ?_
 obtain ⟨T4, X4, e4, st4⟩ := getS2 X3 hx hZ hown (host := "") (Or.inl (wd125 hw)) Via.refl e3 (OL.ext (X00.keep K3 hws0).2) (g := (mkF m 47 #[vR t, vI 1, vI ch] [(.int ch), (.int 1), (.ref t)])) rfl (hb hby dPU_47)
 refine own_st st4 ?_
 refine own_st (fun tq kq => XS.ishr X4.here hx rfl (hb hby dPU_50) rfl kq) ?_
 refine own_st (fun tq kq => XS.i2b X4.here hx rfl (hb hby dPU_51) rfl kq) ?_
 obtain ⟨cl5, Ar5, q5, S_5, N_5, H_5, G_5⟩ := id V3
 have in5 : ¬ ((1 : Int32) < 0 ∨ cl5.slots.size ≤ ((1 : Int32)).toNatClampNeg) := inb_of S_5 ⟨by decide, by decide⟩
 obtain ⟨T5, h5, X5, e5, W5, st5⟩ := stB X4 hx hZ e4 Ar5 (j := (1 : Int32)) in5 (g := (mkF m 52 #[vR t, vI 1, vI ch] [(.int ((ch >>> ((8 : Int32) &&& 31)).toInt8.toInt32)), (.int 1), (.ref t)])) rfl rfl (hb hby dPU_52)
 have V5 := Arv.set Ar5 q5 S_5 N_5 H_5 G_5 (fits_nar_byte _) W5 1 rfl (Nat.le_of_ble_eq_true rfl)
 have sz5 : h3.size ≤ h5.size := (Keep.of_wr W5).1
 have K5 : Keep h0 h5 [t] := K3.wr W5 (Or.inl (by simp))
 have N5 := Fr.snoc X5 N3 (own_le (by omega))
 refine own_st st5 ?_
 obtain ⟨fs, hr, hrun, hended, hW, hsame⟩ := X5.leave (v := none) (fun _ => rfl)
 refine ⟨_, _, X5.returnOut hx Bd.returns (hb hby dPU_53) hr, hrun, hended, _, _, rfl, ?_, ⟨_, rfl⟩, hW, hsame.mono (by decide) (by decide)⟩
 change Q_own_put2_0 Z t kb ch bt0 bt1 bt2 bt3 h0 n0 _ T5.heap _; rw [e5]; exact ⟨rfl, N5, K5, (by have q : Arv Z _ t kb .byte (4 : Int32) [.int (nar .byte ((ch >>> ((0 : Int32) &&& 31)).toInt8.toInt32)), .int (nar .byte ((ch >>> ((8 : Int32) &&& 31)).toInt8.toInt32)), .int bt2, .int bt3] (.int 0) := V5; rwa [own_pb0, own_pb8] at q)⟩

def Q_own_put2_1 (Z : State) (t : Nat) (kb : ClassId) (ch : Int32) (bt0 bt1 bt2 bt3 : Int32) (h0 : Heap) (n0 : Nat) (v : Option Value) (h : Heap) (L : List Loc) : Prop := v = none ∧ Fr n0 L ∧ Keep h0 h [t] ∧ Arv Z h t kb .byte (4 : Int32) [.int bt0, .int bt1, .int (L8 ch), .int (H8 ch)] (.int 0)
theorem ef_own_put2_1 (m : MethodId) (x0 : Nat) (x2 : Int32) : entryFrame m #[(.ref x0), (.int 1), (.int x2)] 3 = mkF m 0 #[.val (.ref x0), .val (.int 1), .val (.int x2)] [] := by first | (simp [entryFrame, mkF, argsToLocals, Value.category]; done) | rfl
theorem own_put2_1 (l : Launch) (Z : State) (a0 : Array Value) (hw : hWt a0 Z) (ws : List Jvm.Cond) (t : Nat) (kb : ClassId) (ch : Int32) (bt0 bt1 bt2 bt3 : Int32) (h0 : Heap) (n0 : Nat) (Z0 : n0 ≤ h0.size) (X00 : Old Z n0 h0) (OA : oA Z) (OH : oH Z) (OL : oL Z) (Vt : Arv Z h0 t kb .byte (4 : Int32) [.int bt0, .int bt1, .int bt2, .int bt3] (.int 0)) (gt : n0 ≤ t) :
 own_MN l mN6 jdk_52_method_4_code 3 none ws rm_0_0_0_0 Z #[(.ref t), (.int 1), (.int ch)] h0 (Q_own_put2_1 Z t kb ch bt0 bt1 bt2 bt3 h0 n0) := by
 refine own_bodyN (plainFor_of_name own_pn1) fun p e s m below meth c s₁ Bd hx hby hml hown hZ X0 e0 => ?_
 have N0 := Fr.nil n0
 have K0 : Keep h0 h0 [t] := Keep.refl h0 [t]
 refine own_st (fun tq kq => castTop (ef_own_put2_1 m (t) (ch)) kq) ?_
 show own_G p e below _ (s₁.setTop (mkF m 0 #[vR t, vI 1, vI ch] []))
 have hws0 : ∀ y ∈ [t], n0 ≤ y := allS gt all0
 obtain ⟨T1, X1, e1, st1⟩ := getS2 X0 hx hZ hown (host := "") (Or.inl (wd123 hw)) Via.refl e0 (OA.ext (X00.keep K0 hws0).2) (g := (mkF m 0 #[vR t, vI 1, vI ch] [])) rfl (hb hby dPU_0)
 refine own_st st1 ?_
 refine own_st (fun tq kq => XS.ifYes X1.here hx rfl (pc0 := 3) (pc' := 28) rfl (hb hby dPU_3) rfl ((if0 _ _).trans (feq (by decide : ¬ ((1 : Int32) = (0 : Int32)))).2) (by decide) (by decide) kq) ?_
 refine s_iloadN X1 hx (hb hby dPU_28) rfl ?_
 refine s_iconst X1 hx (hb hby dPU_29) ?_
 refine own_st (fun tq kq => XS.ishl X1.here hx rfl (hb hby dPU_30) rfl kq) ?_
 show own_G p e below _ (T1.setTop (mkF m 31 #[vR t, vI 1, vI ch] [(.int 2)]))
 refine own_st (fun tq kq => XS.istoreN X1.here hx rfl (hb hby dPU_31) rfl (l' := #[vR t, vI 2, vI ch]) rfl kq) ?_
 refine s_aloadN X1 hx (hb hby dPU_32) rfl rfl ?_
 refine s_iloadN X1 hx (hb hby dPU_33) rfl ?_
 refine own_st (fun tq kq => XS.iinc X1.here hx rfl (hb hby dPU_34) rfl (l' := #[vR t, vI 3, vI ch]) rfl kq) ?_
 show own_G p e below _ (T1.setTop (mkF m 37 #[vR t, vI 3, vI ch] [(.int 2), (.ref t)]))
 refine s_iloadN X1 hx (hb hby dPU_37) rfl ?_
 obtain ⟨T2, X2, e2, st2⟩ := getS2 X1 hx hZ hown (host := "") (Or.inl (wd124 hw)) Via.refl e1 (OH.ext (X00.keep K0 hws0).2) (g := (mkF m 38 #[vR t, vI 3, vI ch] [(.int ch), (.int 2), (.ref t)])) rfl (hb hby dPU_38)
 refine own_st st2 ?_
 refine own_st (fun tq kq => XS.ishr X2.here hx rfl (hb hby dPU_41) rfl kq) ?_
 refine own_st (fun tq kq => XS.i2b X2.here hx rfl (hb hby dPU_42) rfl kq) ?_
 obtain ⟨cl3, Ar3, q3, S_3, N_3, H_3, G_3⟩ := id Vt
 have in3 : ¬ ((2 : Int32) < 0 ∨ cl3.slots.size ≤ ((2 : Int32)).toNatClampNeg) := inb_of S_3 ⟨by decide, by decide⟩
 obtain ⟨T3, h3, X3, e3, W3, st3⟩ := stB X2 hx hZ e2 Ar3 (j := (2 : Int32)) in3 (g := (mkF m 43 #[vR t, vI 3, vI ch] [(.int ((ch >>> ((0 : Int32) &&& 31)).toInt8.toInt32)), (.int 2), (.ref t)])) rfl rfl (hb hby dPU_43)
 have V3 := Arv.set Ar3 q3 S_3 N_3 H_3 G_3 (fits_nar_byte _) W3 2 rfl (Nat.le_of_ble_eq_true rfl)
 have sz3 : h0.size ≤ h3.size := (Keep.of_wr W3).1
 have K3 : Keep h0 h3 [t] := K0.wr W3 (Or.inl (by simp))
 have N3 := Fr.snoc X3 N0 (own_le (by omega))
 refine own_st st3 ?_
 refine s_aloadN X3 hx (hb hby dPU_44) rfl rfl ?_
 refine s_iloadN X3 hx (hb hby dPU_45) rfl ?_
 refine s_iloadN X3 hx (hb hby dPU_46) rfl ?_
 obtain ⟨T4, X4, e4, st4⟩ := getS2 X3 hx hZ hown (host := "") (Or.inl (wd125 hw)) Via.refl e3 (OL.ext (X00.keep K3 hws0).2) (g := (mkF m 47 #[vR t, vI 3, vI ch] [(.int ch), (.int 3), (.ref t)])) rfl (hb hby dPU_47)
 refine own_st st4 ?_
 refine own_st (fun tq kq => XS.ishr X4.here hx rfl (hb hby dPU_50) rfl kq) ?_
 refine own_st (fun tq kq => XS.i2b X4.here hx rfl (hb hby dPU_51) rfl kq) ?_
 obtain ⟨cl5, Ar5, q5, S_5, N_5, H_5, G_5⟩ := id V3
 have in5 : ¬ ((3 : Int32) < 0 ∨ cl5.slots.size ≤ ((3 : Int32)).toNatClampNeg) := inb_of S_5 ⟨by decide, by decide⟩
 obtain ⟨T5, h5, X5, e5, W5, st5⟩ := stB X4 hx hZ e4 Ar5 (j := (3 : Int32)) in5 (g := (mkF m 52 #[vR t, vI 3, vI ch] [(.int ((ch >>> ((8 : Int32) &&& 31)).toInt8.toInt32)), (.int 3), (.ref t)])) rfl rfl (hb hby dPU_52)
 have V5 := Arv.set Ar5 q5 S_5 N_5 H_5 G_5 (fits_nar_byte _) W5 3 rfl (Nat.le_of_ble_eq_true rfl)
 have sz5 : h3.size ≤ h5.size := (Keep.of_wr W5).1
 have K5 : Keep h0 h5 [t] := K3.wr W5 (Or.inl (by simp))
 have N5 := Fr.snoc X5 N3 (own_le (by omega))
 refine own_st st5 ?_
 obtain ⟨fs, hr, hrun, hended, hW, hsame⟩ := X5.leave (v := none) (fun _ => rfl)
 refine ⟨_, _, X5.returnOut hx Bd.returns (hb hby dPU_53) hr, hrun, hended, _, _, rfl, ?_, ⟨_, rfl⟩, hW, hsame.mono (by decide) (by decide)⟩
 change Q_own_put2_1 Z t kb ch bt0 bt1 bt2 bt3 h0 n0 _ T5.heap _; rw [e5]; exact ⟨rfl, N5, K5, (by have q : Arv Z _ t kb .byte (4 : Int32) [.int bt0, .int bt1, .int (nar .byte ((ch >>> ((0 : Int32) &&& 31)).toInt8.toInt32)), .int (nar .byte ((ch >>> ((8 : Int32) &&& 31)).toInt8.toInt32))] (.int 0) := V5; rwa [own_pb0, own_pb8] at q)⟩

def Q_own_toB2 (Z : State) (b : Nat) (kC : ClassId) (dv : Value) (c0 c1 : Int32) (h0 : Heap) (n0 : Nat) (v : Option Value) (h : Heap) (L : List Loc) : Prop := ∃ (t : Nat) (kb : ClassId), v = some (.ref t) ∧ Fr n0 L ∧ Keep h0 h [] ∧ h0.size ≤ t ∧ t < h.size ∧ Arv Z h t kb .byte (4 : Int32) [.int (L8 c0), .int (H8 c0), .int (L8 c1), .int (H8 c1)] (.int 0)
theorem ef_own_toB2 (m : MethodId) (x0 : Nat) : entryFrame m #[(.ref x0), (.int 0), (.int 2)] 5 = mkF m 0 #[.val (.ref x0), .val (.int 0), .val (.int 2), .unset, .unset] [] := by first | (simp [entryFrame, mkF, argsToLocals, Value.category]; done) | rfl
theorem own_toB2 (l : Launch) (Z : State) (a0 : Array Value) (hw : hWt a0 Z) (ws : List Jvm.Cond) (b : Nat) (kC : ClassId) (dv : Value) (c0 c1 : Int32) (h0 : Heap) (n0 : Nat) (Z0 : n0 ≤ h0.size) (X00 : Old Z n0 h0) (OA : oA Z) (OH : oH Z) (OL : oL Z) (Vb : Arv Z h0 b kC .char (2 : Int32) [.int c0, .int c1] dv) :
 own_MN l mN7 jdk_52_method_14_code 5 (some (.array .byte)) ws rm_2_1_4_40 Z #[(.ref b), (.int 0), (.int 2)] h0 (Q_own_toB2 Z b kC dv c0 c1 h0 n0) := by
 refine own_bodyN (plainFor_of_name own_pn1) fun p e s m below meth c s₁ Bd hx hby hml hown hZ X0 e0 => ?_
 have N0 := Fr.nil n0
 have K0 : Keep h0 h0 [] := Keep.refl h0 []
 refine own_st (fun tq kq => castTop (ef_own_toB2 m (b)) kq) ?_
 show own_G p e below _ (s₁.setTop (mkF m 0 #[vR b, vI 0, vI 2, .unset, .unset] []))
 have ltb : b < h0.size := Vb.lt
 refine s_iloadN X0 hx (hb hby dTO_0) rfl ?_
 obtain ⟨_, _, ⟨T1, L1, k1, n1⟩, -, X1, ⟨Lc1, hQ1, l1, y1, z1⟩, st1⟩ := Jvm.LawKit.callS X0 hx (y := mN5) hown (mvT hZ (wd113 hw)) (mvT hZ (wd114 hw)) (mvT hZ (wd35 hw)) (mvT hZ (wd115 hw)) (by decide) (own_backN (W := 0) (own_nfor2 l Z a0 hw []  h0 n0 (by omega) (X00.keep K0 all0) ) hZ (wd115 hw) (wd35 hw) (by decide) (by decide)) (g := (mkF m 1 #[vR b, vI 0, vI 2, .unset, .unset] [(.int 2)])) rfl (by rw [hml]; rfl) (argsL := [(.int 2)]) (rest := []) (lenOf own_pd2 rfl) rfl (Nat.le_of_eq rfl) (hb hby dTO_1) (fun _ _ => ⟨rfl, e0, (by decide : 0 + 1 ≤ _), (by decide : 0 + 4 ≤ _)⟩)
 dsimp only [Pt.U, Pt.locs, Pt.cells, Pt.slots] at X1 l1 y1 z1 st1 hQ1
 subst l1 y1 z1
 obtain ⟨t1, kb1, rfl, Nq1, Kq1, gt1, lt1, Vt1⟩ := hQ1
 have KK1 : Keep h0 T1.heap [] := Kq1
 have sz1 : h0.size ≤ T1.heap.size := KK1.1
 have K1 : Keep h0 T1.heap [] := K0.trans KK1 all0
 have N1 := Fr.app N0 Nq1
 refine own_st st1 ?_
 refine own_st (fun tq kq => XS.astoreN X1.here hx rfl (hb hby dTO_4) rfl rfl (l' := #[vR b, vI 0, vI 2, vR t1, .unset]) rfl kq) ?_
 refine s_iconst X1 hx (hb hby dTO_5) ?_
 refine own_st (fun tq kq => XS.istore X1.here hx rfl (hb hby dTO_6) rfl (l' := #[vR b, vI 0, vI 2, vR t1, vI 0]) rfl kq) ?_
 refine s_iload X1 hx (hb hby dTO_8) rfl ?_
 show own_G p e below _ (T1.setTop (mkF m 10 #[vR b, vI 0, vI 2, vR t1, vI 0] [(.int 0)]))
 refine s_iloadN X1 hx (hb hby dTO_10) rfl ?_
 show own_G p e below _ (T1.setTop (mkF m 11 #[vR b, vI 0, vI 2, vR t1, vI 0] [(.int 2), (.int 0)]))
 refine own_st (fun tq kq => XS.icmpNo X1.here hx rfl (hb hby dTO_11) rfl (tlt (by decide : ((0 : Int32) < (2 : Int32)))).2.1 kq) ?_
 refine s_aloadN X1 hx (hb hby dTO_14) rfl rfl ?_
 refine s_iload X1 hx (hb hby dTO_15) rfl ?_
 refine s_aloadN X1 hx (hb hby dTO_17) rfl rfl ?_
 show own_G p e below _ (T1.setTop (mkF m 18 #[vR b, vI 0, vI 2, vR t1, vI 0] [(.ref b), (.int 0), (.ref t1)]))
 refine s_iloadN X1 hx (hb hby dTO_18) rfl ?_
 obtain ⟨cl2, Ar2, q2, S_2, N_2, H_2, G_2⟩ := id (Vb.keep KK1 nin0)
 have in2 : ¬ ((0 : Int32) < 0 ∨ cl2.slots.size ≤ ((0 : Int32)).toNatClampNeg) := inb_of S_2 ⟨by decide, by decide⟩
 have at2 : cl2.slots[((0 : Int32)).toNatClampNeg]? = some (.int c0) := H_2.at in2 rfl
 refine own_st (fun tq kq => X1.caload hx (j := (0 : Int32)) (v := (.int c0)) Ar2.1 (State.isArrayOf_alike hZ.alike Ar2.2.1) Ar2.2.2 in2 at2 (g := (mkF m 19 #[vR b, vI 0, vI 2, vR t1, vI 0] [(.int 0), (.ref b), (.int 0), (.ref t1)])) rfl rfl (hb hby dTO_19) _ kq) ?_
 obtain ⟨_, _, ⟨T3, L3, k3, n3⟩, -, X3, ⟨Lc3, hQ3, l3, y3, z3⟩, st3⟩ := Jvm.LawKit.callS X1 hx (y := mN6) hown (mvT hZ (wd120 hw)) (mvT hZ (wd121 hw)) (mvT hZ (wd35 hw)) (mvT hZ (wd122 hw)) (by decide) (own_backN (W := 0) (own_put2_0 l Z a0 hw [] (t1) (_) (c0) (_) (_) (_) (_) T1.heap n0 (by omega) (X00.keep K1 all0) OA OH OL Vt1 (by omega)) hZ (wd122 hw) (wd35 hw) (by decide) (by decide)) (g := (mkF m 20 #[vR b, vI 0, vI 2, vR t1, vI 0] [(.int c0), (.int 0), (.ref t1)])) rfl (by rw [hml]; rfl) (argsL := [(.ref t1), (.int 0), (.int c0)]) (rest := []) (lenOf own_pd3 rfl) rfl (Nat.le_of_eq rfl) (hb hby dTO_20) (fun _ _ => ⟨rfl, rfl, (by decide : 1 + 0 ≤ _), (by decide : 4 + 0 ≤ _)⟩)
 dsimp only [Pt.U, Pt.locs, Pt.cells, Pt.slots] at X3 l3 y3 z3 st3 hQ3
 subst l3 y3 z3
 obtain ⟨rfl, Nq3, Kq3, Vt3⟩ := hQ3
 have KK3 : Keep T1.heap T3.heap [t1] := Kq3
 have sz3 : T1.heap.size ≤ T3.heap.size := KK3.1
 have K3 : Keep h0 T3.heap [] := K1.trans KK3 (allS (Or.inr (own_le (by omega))) all0)
 have N3 := Fr.app N1 Nq3
 refine own_st st3 ?_
 refine own_st (fun tq kq => XS.iinc X3.here hx rfl (hb hby dTO_23) rfl (l' := #[vR b, vI 1, vI 2, vR t1, vI 0]) rfl kq) ?_
 refine own_st (fun tq kq => XS.iinc X3.here hx rfl (hb hby dTO_26) rfl (l' := #[vR b, vI 1, vI 2, vR t1, vI 1]) rfl kq) ?_
 refine own_st (fun tq kq => XS.goto X3.here hx rfl (pc0 := 29) (pc' := 8) rfl (hb hby dTO_29) (by decide) (by decide) kq) ?_
 refine s_iload X3 hx (hb hby dTO_8) rfl ?_
 show own_G p e below _ (T3.setTop (mkF m 10 #[vR b, vI 1, vI 2, vR t1, vI 1] [(.int 1)]))
 refine s_iloadN X3 hx (hb hby dTO_10) rfl ?_
 show own_G p e below _ (T3.setTop (mkF m 11 #[vR b, vI 1, vI 2, vR t1, vI 1] [(.int 2), (.int 1)]))
 refine own_st (fun tq kq => XS.icmpNo X3.here hx rfl (hb hby dTO_11) rfl (tlt (by decide : ((1 : Int32) < (2 : Int32)))).2.1 kq) ?_
 refine s_aloadN X3 hx (hb hby dTO_14) rfl rfl ?_
 refine s_iload X3 hx (hb hby dTO_15) rfl ?_
 refine s_aloadN X3 hx (hb hby dTO_17) rfl rfl ?_
 show own_G p e below _ (T3.setTop (mkF m 18 #[vR b, vI 1, vI 2, vR t1, vI 1] [(.ref b), (.int 1), (.ref t1)]))
 refine s_iloadN X3 hx (hb hby dTO_18) rfl ?_
 obtain ⟨cl4, Ar4, q4, S_4, N_4, H_4, G_4⟩ := id ((Vb.keep KK1 nin0).keep KK3 (ninS (own_ne (by omega)) nin0))
 have in4 : ¬ ((1 : Int32) < 0 ∨ cl4.slots.size ≤ ((1 : Int32)).toNatClampNeg) := inb_of S_4 ⟨by decide, by decide⟩
 have at4 : cl4.slots[((1 : Int32)).toNatClampNeg]? = some (.int c1) := H_4.at in4 rfl
 refine own_st (fun tq kq => X3.caload hx (j := (1 : Int32)) (v := (.int c1)) Ar4.1 (State.isArrayOf_alike hZ.alike Ar4.2.1) Ar4.2.2 in4 at4 (g := (mkF m 19 #[vR b, vI 1, vI 2, vR t1, vI 1] [(.int 1), (.ref b), (.int 1), (.ref t1)])) rfl rfl (hb hby dTO_19) _ kq) ?_
 obtain ⟨_, _, ⟨T5, L5, k5, n5⟩, -, X5, ⟨Lc5, hQ5, l5, y5, z5⟩, st5⟩ := Jvm.LawKit.callS X3 hx (y := mN6) hown (mvT hZ (wd120 hw)) (mvT hZ (wd121 hw)) (mvT hZ (wd35 hw)) (mvT hZ (wd122 hw)) (by decide) (own_backN (W := 0) (own_put2_1 l Z a0 hw [] (t1) (_) (c1) (_) (_) (_) (_) T3.heap n0 (by omega) (X00.keep K3 all0) OA OH OL Vt3 (by omega)) hZ (wd122 hw) (wd35 hw) (by decide) (by decide)) (g := (mkF m 20 #[vR b, vI 1, vI 2, vR t1, vI 1] [(.int c1), (.int 1), (.ref t1)])) rfl (by rw [hml]; rfl) (argsL := [(.ref t1), (.int 1), (.int c1)]) (rest := []) (lenOf own_pd3 rfl) rfl (Nat.le_of_eq rfl) (hb hby dTO_20) (fun _ _ => ⟨rfl, rfl, (by decide : 1 + 0 ≤ _), (by decide : 4 + 0 ≤ _)⟩)
 dsimp only [Pt.U, Pt.locs, Pt.cells, Pt.slots] at X5 l5 y5 z5 st5 hQ5
 subst l5 y5 z5
 obtain ⟨rfl, Nq5, Kq5, Vt5⟩ := hQ5
 have KK5 : Keep T3.heap T5.heap [t1] := Kq5
 have sz5 : T3.heap.size ≤ T5.heap.size := KK5.1
 have K5 : Keep h0 T5.heap [] := K3.trans KK5 (allS (Or.inr (own_le (by omega))) all0)
 have N5 := Fr.app N3 Nq5
 refine own_st st5 ?_
 refine own_st (fun tq kq => XS.iinc X5.here hx rfl (hb hby dTO_23) rfl (l' := #[vR b, vI 2, vI 2, vR t1, vI 1]) rfl kq) ?_
 refine own_st (fun tq kq => XS.iinc X5.here hx rfl (hb hby dTO_26) rfl (l' := #[vR b, vI 2, vI 2, vR t1, vI 2]) rfl kq) ?_
 refine own_st (fun tq kq => XS.goto X5.here hx rfl (pc0 := 29) (pc' := 8) rfl (hb hby dTO_29) (by decide) (by decide) kq) ?_
 refine s_iload X5 hx (hb hby dTO_8) rfl ?_
 show own_G p e below _ (T5.setTop (mkF m 10 #[vR b, vI 2, vI 2, vR t1, vI 2] [(.int 2)]))
 refine s_iloadN X5 hx (hb hby dTO_10) rfl ?_
 show own_G p e below _ (T5.setTop (mkF m 11 #[vR b, vI 2, vI 2, vR t1, vI 2] [(.int 2), (.int 2)]))
 refine own_st (fun tq kq => XS.icmpYes X5.here hx rfl (pc0 := 11) (pc' := 32) rfl (hb hby dTO_11) rfl (flt (by decide : ¬ ((2 : Int32) < (2 : Int32)))).2.1 (by decide) (by decide) kq) ?_
 refine s_aloadN X5 hx (hb hby dTO_32) rfl rfl ?_
 show own_G p e below _ (T5.setTop (mkF m 33 #[vR b, vI 2, vI 2, vR t1, vI 2] [(.ref t1)]))
 obtain ⟨fs, hr, hrun, hended, hW, hsame⟩ := X5.leave (v := some (.ref t1)) (fun h => by rw [Bd.returns] at h; cases h)
 refine ⟨_, _, retOut X5 hx Bd.returns rfl (Or.inr (Or.inr (Or.inr (Or.inr ⟨rfl, rfl, rfl⟩)))) (hb hby dTO_33) hr, hrun, hended, _, _, rfl, ?_, ⟨_, rfl⟩, hW, hsame.mono (by decide) (by decide)⟩
 change Q_own_toB2 Z b kC dv c0 c1 h0 n0 _ T5.heap _; exact ⟨t1, _, rfl, N5, K5, (by omega), Vt5.lt, Vt5⟩

def Q_own_cfl2 (Z : State) (t : Nat) (kb : ClassId) (vs : List Value) (h0 : Heap) (n0 : Nat) (v : Option Value) (h : Heap) (L : List Loc) : Prop := v = some (.int (1 : Int32)) ∧ Fr n0 L ∧ h = h0
theorem ef_own_cfl2 (m : MethodId) (x0 : Nat) : entryFrame m #[(.ref x0), (.int 2)] 2 = mkF m 0 #[.val (.ref x0), .val (.int 2)] [] := by first | (simp [entryFrame, mkF, argsToLocals, Value.category]; done) | rfl
theorem own_cfl2 (l : Launch) (Z : State) (a0 : Array Value) (hw : hWt a0 Z) (ws : List Jvm.Cond) (t : Nat) (kb : ClassId) (vs : List Value) (h0 : Heap) (n0 : Nat) (Z0 : n0 ≤ h0.size) (X00 : Old Z n0 h0) (Vt : Arv Z h0 t kb .byte (4 : Int32) vs (.int 0)) :
 own_MN l mN8 jdk_52_method_15_code 2 (some .byte) ws rm_0_0_0_0 Z #[(.ref t), (.int 2)] h0 (Q_own_cfl2 Z t kb vs h0 n0) := by
 refine own_bodyN (plainFor_of_name own_pn1) fun p e s m below meth c s₁ Bd hx hby hml hown hZ X0 e0 => ?_
 have N0 := Fr.nil n0
 have K0 : Keep h0 h0 [] := Keep.refl h0 []
 refine own_st (fun tq kq => castTop (ef_own_cfl2 m (t)) kq) ?_
 show own_G p e below _ (s₁.setTop (mkF m 0 #[vR t, vI 2] []))
 refine s_iloadN X0 hx (hb hby dCL_0) rfl ?_
 refine s_aloadN X0 hx (hb hby dCL_1) rfl rfl ?_
 obtain ⟨cl1, Ar1, q1, S_1, N_1, H_1, G_1⟩ := id Vt
 refine own_st (fun tq kq => X0.arraylength hx (by rw [e0]; exact Ar1.1) (State.isArrayOf_alike hZ.alike Ar1.2.1) (g := (mkF m 2 #[vR t, vI 2] [(.ref t), (.int 2)])) rfl rfl (hb hby dCL_2) _ kq) ?_
 rw [len_of S_1 N_1]
 show own_G p e below _ (s₁.setTop (mkF m 3 #[vR t, vI 2] [(.int 4), (.int 2)]))
 refine own_st (fun tq kq => XS.isub X0.here hx rfl (hb hby dCL_3) rfl kq) ?_
 refine s_bipush X0 hx (hb hby dCL_4) ?_
 refine own_st (fun tq kq => XS.iushr X0.here hx rfl (hb hby dCL_6) rfl kq) ?_
 refine own_st (fun tq kq => XS.i2b X0.here hx rfl (hb hby dCL_7) rfl kq) ?_
 show own_G p e below _ (s₁.setTop (mkF m 8 #[vR t, vI 2] [(.int 1)]))
 obtain ⟨fs, hr, hrun, hended, hW, hsame⟩ := X0.leave (v := some (.int 1)) (fun h => by rw [Bd.returns] at h; cases h)
 refine ⟨_, _, retN X0 hx (t := .byte) Bd.returns (by simp) (hb hby dCL_8) hr, hrun, hended, _, _, rfl, ?_, ⟨_, rfl⟩, hW, hsame.mono (by decide) (by decide)⟩
 change Q_own_cfl2 Z t kb vs h0 n0 _ s₁.heap _; rw [e0]; exact ⟨rfl, N0, rfl⟩

def Q_own_cm5_2_0 (Z : State) (b d : Nat) (kC kD : ClassId) (dv : Value) (c0 c1 : Int32) (h0 : Heap) (n0 : Nat) (v : Option Value) (h : Heap) (L : List Loc) : Prop := v = some (.int (0 : Int32)) ∧ Fr n0 L ∧ Keep h0 h [d]
theorem ef_own_cm5_2_0 (m : MethodId) (x0 : Nat) (x2 : Nat) : entryFrame m #[(.ref x0), (.int 0), (.ref x2), (.int 0), (.int 2)] 7 = mkF m 0 #[.val (.ref x0), .val (.int 0), .val (.ref x2), .val (.int 0), .val (.int 2), .unset, .unset] [] := by first | (simp [entryFrame, mkF, argsToLocals, Value.category]; done) | rfl
theorem own_cm5_2_0 (l : Launch) (Z : State) (a0 : Array Value) (hw : hWt a0 Z) (ws : List Jvm.Cond) (b d : Nat) (kC kD : ClassId) (dv : Value) (c0 c1 : Int32) (h0 : Heap) (n0 : Nat) (Z0 : n0 ≤ h0.size) (X00 : Old Z n0 h0) (Vb : Arv Z h0 b kC .char (2 : Int32) [.int c0, .int c1] dv) (Vd : Arv Z h0 d kD .byte (2 : Int32) [.int (0 : Int32), .int (0 : Int32)] (.int 0)) (gd : n0 ≤ d) (nbd : b ≠ d) (hg : (255 : Int32) < c0) :
 own_MN l mN9 jdk_52_method_21_code 7 (some .int) ws rm_0_0_0_0 Z #[(.ref b), (.int 0), (.ref d), (.int 0), (.int 2)] h0 (Q_own_cm5_2_0 Z b d kC kD dv c0 c1 h0 n0) := by
 refine own_bodyN (plainFor_of_name own_pn1) fun p e s m below meth c s₁ Bd hx hby hml hown hZ X0 e0 => ?_
 have N0 := Fr.nil n0
 have K0 : Keep h0 h0 [d] := Keep.refl h0 [d]
 refine own_st (fun tq kq => castTop (ef_own_cm5_2_0 m (b) (d)) kq) ?_
 show own_G p e below _ (s₁.setTop (mkF m 0 #[vR b, vI 0, vR d, vI 0, vI 2, .unset, .unset] []))
 have hws0 : ∀ y ∈ [d], n0 ≤ y := allS gd all0
 refine s_iconst X0 hx (hb hby dC5_0) ?_
 refine own_st (fun tq kq => XS.istore X0.here hx rfl (hb hby dC5_1) rfl (l' := #[vR b, vI 0, vR d, vI 0, vI 2, vI 0, .unset]) rfl kq) ?_
 refine s_iload X0 hx (hb hby dC5_3) rfl ?_
 refine s_iload X0 hx (hb hby dC5_5) rfl ?_
 show own_G p e below _ (s₁.setTop (mkF m 7 #[vR b, vI 0, vR d, vI 0, vI 2, vI 0, .unset] [(.int 2), (.int 0)]))
 refine own_st (fun tq kq => XS.icmpNo X0.here hx rfl (hb hby dC5_7) rfl (tlt (by decide : ((0 : Int32) < (2 : Int32)))).2.1 kq) ?_
 refine s_aloadN X0 hx (hb hby dC5_10) rfl rfl ?_
 refine s_iloadN X0 hx (hb hby dC5_11) rfl ?_
 obtain ⟨cl1, Ar1, q1, S_1, N_1, H_1, G_1⟩ := id Vb
 have in1 : ¬ ((0 : Int32) < 0 ∨ cl1.slots.size ≤ ((0 : Int32)).toNatClampNeg) := inb_of S_1 ⟨by decide, by decide⟩
 have at1 : cl1.slots[((0 : Int32)).toNatClampNeg]? = some (.int c0) := H_1.at in1 rfl
 refine own_st (fun tq kq => X0.caload hx (j := (0 : Int32)) (v := (.int c0)) (by rw [e0]; exact Ar1.1) (State.isArrayOf_alike hZ.alike Ar1.2.1) Ar1.2.2 in1 at1 (g := (mkF m 12 #[vR b, vI 0, vR d, vI 0, vI 2, vI 0, .unset] [(.int 0), (.ref b)])) rfl rfl (hb hby dC5_12) _ kq) ?_
 show own_G p e below _ (s₁.setTop (mkF m 13 #[vR b, vI 0, vR d, vI 0, vI 2, vI 0, .unset] [(.int c0)]))
 refine own_st (fun tq kq => XS.istore X0.here hx rfl (hb hby dC5_13) rfl (l' := #[vR b, vI 0, vR d, vI 0, vI 2, vI 0, vI c0]) rfl kq) ?_
 refine s_iload X0 hx (hb hby dC5_15) rfl ?_
 refine s_sipush X0 hx (hb hby dC5_17) ?_
 show own_G p e below _ (s₁.setTop (mkF m 20 #[vR b, vI 0, vR d, vI 0, vI 2, vI 0, vI c0] [(.int 255), (.int c0)]))
 refine own_st (fun tq kq => XS.icmpNo X0.here hx rfl (hb hby dC5_20) rfl (tlt hg).2.2.2 kq) ?_
 refine s_iload X0 hx (hb hby dC5_23) rfl ?_
 show own_G p e below _ (s₁.setTop (mkF m 25 #[vR b, vI 0, vR d, vI 0, vI 2, vI 0, vI c0] [(.int 0)]))
 obtain ⟨fs, hr, hrun, hended, hW, hsame⟩ := X0.leave (v := some (.int 0)) (fun h => by rw [Bd.returns] at h; cases h)
 refine ⟨_, _, retOut X0 hx Bd.returns rfl (Or.inl ⟨rfl, by simp, _, rfl⟩) (hb hby dC5_25) hr, hrun, hended, _, _, rfl, ?_, ⟨_, rfl⟩, hW, hsame.mono (by decide) (by decide)⟩
 change Q_own_cm5_2_0 Z b d kC kD dv c0 c1 h0 n0 _ s₁.heap _; rw [e0]; exact ⟨rfl, N0, K0⟩

def Q_own_cm5_2_1 (Z : State) (b d : Nat) (kC kD : ClassId) (dv : Value) (c0 c1 : Int32) (h0 : Heap) (n0 : Nat) (v : Option Value) (h : Heap) (L : List Loc) : Prop := v = some (.int (1 : Int32)) ∧ Fr n0 L ∧ Keep h0 h [d]
theorem ef_own_cm5_2_1 (m : MethodId) (x0 : Nat) (x2 : Nat) : entryFrame m #[(.ref x0), (.int 0), (.ref x2), (.int 0), (.int 2)] 7 = mkF m 0 #[.val (.ref x0), .val (.int 0), .val (.ref x2), .val (.int 0), .val (.int 2), .unset, .unset] [] := by first | (simp [entryFrame, mkF, argsToLocals, Value.category]; done) | rfl
theorem own_cm5_2_1 (l : Launch) (Z : State) (a0 : Array Value) (hw : hWt a0 Z) (ws : List Jvm.Cond) (b d : Nat) (kC kD : ClassId) (dv : Value) (c0 c1 : Int32) (h0 : Heap) (n0 : Nat) (Z0 : n0 ≤ h0.size) (X00 : Old Z n0 h0) (Vb : Arv Z h0 b kC .char (2 : Int32) [.int c0, .int c1] dv) (Vd : Arv Z h0 d kD .byte (2 : Int32) [.int (0 : Int32), .int (0 : Int32)] (.int 0)) (gd : n0 ≤ d) (nbd : b ≠ d) (hl0 : ¬ (255 : Int32) < c0) (hg : (255 : Int32) < c1) :
 own_MN l mN9 jdk_52_method_21_code 7 (some .int) ws rm_0_0_0_0 Z #[(.ref b), (.int 0), (.ref d), (.int 0), (.int 2)] h0 (Q_own_cm5_2_1 Z b d kC kD dv c0 c1 h0 n0) := by
 refine own_bodyN (plainFor_of_name own_pn1) fun p e s m below meth c s₁ Bd hx hby hml hown hZ X0 e0 => ?_
 have N0 := Fr.nil n0
 have K0 : Keep h0 h0 [d] := Keep.refl h0 [d]
 refine own_st (fun tq kq => castTop (ef_own_cm5_2_1 m (b) (d)) kq) ?_
 show own_G p e below _ (s₁.setTop (mkF m 0 #[vR b, vI 0, vR d, vI 0, vI 2, .unset, .unset] []))
 have hws0 : ∀ y ∈ [d], n0 ≤ y := allS gd all0
 refine s_iconst X0 hx (hb hby dC5_0) ?_
 refine own_st (fun tq kq => XS.istore X0.here hx rfl (hb hby dC5_1) rfl (l' := #[vR b, vI 0, vR d, vI 0, vI 2, vI 0, .unset]) rfl kq) ?_
 refine s_iload X0 hx (hb hby dC5_3) rfl ?_
 refine s_iload X0 hx (hb hby dC5_5) rfl ?_
 show own_G p e below _ (s₁.setTop (mkF m 7 #[vR b, vI 0, vR d, vI 0, vI 2, vI 0, .unset] [(.int 2), (.int 0)]))
 refine own_st (fun tq kq => XS.icmpNo X0.here hx rfl (hb hby dC5_7) rfl (tlt (by decide : ((0 : Int32) < (2 : Int32)))).2.1 kq) ?_
 refine s_aloadN X0 hx (hb hby dC5_10) rfl rfl ?_
 refine s_iloadN X0 hx (hb hby dC5_11) rfl ?_
 obtain ⟨cl1, Ar1, q1, S_1, N_1, H_1, G_1⟩ := id Vb
 have in1 : ¬ ((0 : Int32) < 0 ∨ cl1.slots.size ≤ ((0 : Int32)).toNatClampNeg) := inb_of S_1 ⟨by decide, by decide⟩
 have at1 : cl1.slots[((0 : Int32)).toNatClampNeg]? = some (.int c0) := H_1.at in1 rfl
 refine own_st (fun tq kq => X0.caload hx (j := (0 : Int32)) (v := (.int c0)) (by rw [e0]; exact Ar1.1) (State.isArrayOf_alike hZ.alike Ar1.2.1) Ar1.2.2 in1 at1 (g := (mkF m 12 #[vR b, vI 0, vR d, vI 0, vI 2, vI 0, .unset] [(.int 0), (.ref b)])) rfl rfl (hb hby dC5_12) _ kq) ?_
 show own_G p e below _ (s₁.setTop (mkF m 13 #[vR b, vI 0, vR d, vI 0, vI 2, vI 0, .unset] [(.int c0)]))
 refine own_st (fun tq kq => XS.istore X0.here hx rfl (hb hby dC5_13) rfl (l' := #[vR b, vI 0, vR d, vI 0, vI 2, vI 0, vI c0]) rfl kq) ?_
 refine s_iload X0 hx (hb hby dC5_15) rfl ?_
 refine s_sipush X0 hx (hb hby dC5_17) ?_
 show own_G p e below _ (s₁.setTop (mkF m 20 #[vR b, vI 0, vR d, vI 0, vI 2, vI 0, vI c0] [(.int 255), (.int c0)]))
 refine own_st (fun tq kq => XS.icmpYes X0.here hx rfl (pc0 := 20) (pc' := 26) rfl (hb hby dC5_20) rfl (flt hl0).2.2.2 (by decide) (by decide) kq) ?_
 refine s_aloadN X0 hx (hb hby dC5_26) rfl rfl ?_
 refine s_iloadN X0 hx (hb hby dC5_27) rfl ?_
 refine s_iload X0 hx (hb hby dC5_28) rfl ?_
 show own_G p e below _ (s₁.setTop (mkF m 30 #[vR b, vI 0, vR d, vI 0, vI 2, vI 0, vI c0] [(.int c0), (.int 0), (.ref d)]))
 refine own_st (fun tq kq => XS.i2b X0.here hx rfl (hb hby dC5_30) rfl kq) ?_
 obtain ⟨cl2, Ar2, q2, S_2, N_2, H_2, G_2⟩ := id Vd
 have in2 : ¬ ((0 : Int32) < 0 ∨ cl2.slots.size ≤ ((0 : Int32)).toNatClampNeg) := inb_of S_2 ⟨by decide, by decide⟩
 obtain ⟨T2, h2, X2, e2, W2, st2⟩ := stB X0 hx hZ e0 Ar2 (j := (0 : Int32)) in2 (g := (mkF m 31 #[vR b, vI 0, vR d, vI 0, vI 2, vI 0, vI c0] [(.int (c0.toInt8.toInt32)), (.int 0), (.ref d)])) rfl rfl (hb hby dC5_31)
 have V2 := Arv.set Ar2 q2 S_2 N_2 H_2 G_2 (fits_nar_byte _) W2 0 rfl (Nat.le_of_ble_eq_true rfl)
 have sz2 : h0.size ≤ h2.size := (Keep.of_wr W2).1
 have K2 : Keep h0 h2 [d] := K0.wr W2 (Or.inl (by simp))
 have N2 := Fr.snoc X2 N0 (own_le (by omega))
 refine own_st st2 ?_
 refine own_st (fun tq kq => XS.iinc X2.here hx rfl (hb hby dC5_32) rfl (l' := #[vR b, vI 1, vR d, vI 0, vI 2, vI 0, vI c0]) rfl kq) ?_
 refine own_st (fun tq kq => XS.iinc X2.here hx rfl (hb hby dC5_35) rfl (l' := #[vR b, vI 1, vR d, vI 1, vI 2, vI 0, vI c0]) rfl kq) ?_
 refine own_st (fun tq kq => XS.iinc X2.here hx rfl (hb hby dC5_38) rfl (l' := #[vR b, vI 1, vR d, vI 1, vI 2, vI 1, vI c0]) rfl kq) ?_
 refine own_st (fun tq kq => XS.goto X2.here hx rfl (pc0 := 41) (pc' := 3) rfl (hb hby dC5_41) (by decide) (by decide) kq) ?_
 show own_G p e below _ (T2.setTop (mkF m 3 #[vR b, vI 1, vR d, vI 1, vI 2, vI 1, vI c0] []))
 refine s_iload X2 hx (hb hby dC5_3) rfl ?_
 refine s_iload X2 hx (hb hby dC5_5) rfl ?_
 show own_G p e below _ (T2.setTop (mkF m 7 #[vR b, vI 1, vR d, vI 1, vI 2, vI 1, vI c0] [(.int 2), (.int 1)]))
 refine own_st (fun tq kq => XS.icmpNo X2.here hx rfl (hb hby dC5_7) rfl (tlt (by decide : ((1 : Int32) < (2 : Int32)))).2.1 kq) ?_
 refine s_aloadN X2 hx (hb hby dC5_10) rfl rfl ?_
 refine s_iloadN X2 hx (hb hby dC5_11) rfl ?_
 obtain ⟨cl3, Ar3, q3, S_3, N_3, H_3, G_3⟩ := id (Vb.other W2 (own_ne (by omega)))
 have in3 : ¬ ((1 : Int32) < 0 ∨ cl3.slots.size ≤ ((1 : Int32)).toNatClampNeg) := inb_of S_3 ⟨by decide, by decide⟩
 have at3 : cl3.slots[((1 : Int32)).toNatClampNeg]? = some (.int c1) := H_3.at in3 rfl
 refine own_st (fun tq kq => X2.caload hx (j := (1 : Int32)) (v := (.int c1)) (by rw [e2]; exact Ar3.1) (State.isArrayOf_alike hZ.alike Ar3.2.1) Ar3.2.2 in3 at3 (g := (mkF m 12 #[vR b, vI 1, vR d, vI 1, vI 2, vI 1, vI c0] [(.int 1), (.ref b)])) rfl rfl (hb hby dC5_12) _ kq) ?_
 show own_G p e below _ (T2.setTop (mkF m 13 #[vR b, vI 1, vR d, vI 1, vI 2, vI 1, vI c0] [(.int c1)]))
 refine own_st (fun tq kq => XS.istore X2.here hx rfl (hb hby dC5_13) rfl (l' := #[vR b, vI 1, vR d, vI 1, vI 2, vI 1, vI c1]) rfl kq) ?_
 refine s_iload X2 hx (hb hby dC5_15) rfl ?_
 refine s_sipush X2 hx (hb hby dC5_17) ?_
 show own_G p e below _ (T2.setTop (mkF m 20 #[vR b, vI 1, vR d, vI 1, vI 2, vI 1, vI c1] [(.int 255), (.int c1)]))
 refine own_st (fun tq kq => XS.icmpNo X2.here hx rfl (hb hby dC5_20) rfl (tlt hg).2.2.2 kq) ?_
 refine s_iload X2 hx (hb hby dC5_23) rfl ?_
 show own_G p e below _ (T2.setTop (mkF m 25 #[vR b, vI 1, vR d, vI 1, vI 2, vI 1, vI c1] [(.int 1)]))
 obtain ⟨fs, hr, hrun, hended, hW, hsame⟩ := X2.leave (v := some (.int 1)) (fun h => by rw [Bd.returns] at h; cases h)
 refine ⟨_, _, retOut X2 hx Bd.returns rfl (Or.inl ⟨rfl, by simp, _, rfl⟩) (hb hby dC5_25) hr, hrun, hended, _, _, rfl, ?_, ⟨_, rfl⟩, hW, hsame.mono (by decide) (by decide)⟩
 change Q_own_cm5_2_1 Z b d kC kD dv c0 c1 h0 n0 _ T2.heap _; rw [e2]; exact ⟨rfl, N2, K2⟩

def Q_own_cm3_2 (Z : State) (b : Nat) (kC : ClassId) (dv : Value) (c0 c1 : Int32) (h0 : Heap) (n0 : Nat) (v : Option Value) (h : Heap) (L : List Loc) : Prop := ∃ (t : Nat) (kb : ClassId), v = some (.ref t) ∧ Fr n0 L ∧ Keep h0 h [] ∧ h0.size ≤ t ∧ t < h.size ∧ Arv Z h t kb .byte (4 : Int32) [.int (L8 c0), .int (H8 c0), .int (L8 c1), .int (H8 c1)] (.int 0)
theorem ef_own_cm3_2 (m : MethodId) (x0 : Nat) : entryFrame m #[(.ref x0), (.int 0), (.int 2)] 6 = mkF m 0 #[.val (.ref x0), .val (.int 0), .val (.int 2), .unset, .unset, .unset] [] := by first | (simp [entryFrame, mkF, argsToLocals, Value.category]; done) | rfl
theorem own_cm3_2 (l : Launch) (Z : State) (a0 : Array Value) (hw : hWt a0 Z) (ws : List Jvm.Cond) (b : Nat) (kC : ClassId) (dv : Value) (c0 c1 : Int32) (h0 : Heap) (n0 : Nat) (Z0 : n0 ≤ h0.size) (X00 : Old Z n0 h0) (OA : oA Z) (OH : oH Z) (OL : oL Z) (Vb : Arv Z h0 b kC .char (2 : Int32) [.int c0, .int c1] dv) (hb0 : ¬ c0 < 0 ∧ ¬ (65535 : Int32) < c0) (hb1 : ¬ c1 < 0 ∧ ¬ (65535 : Int32) < c1) (hD : ((255 : Int32) < c0) ∨ (¬ (255 : Int32) < c0 ∧ (255 : Int32) < c1)) :
 own_MN l mN10 jdk_52_method_16_code 6 (some (.array .byte)) ws rm_3_2_6_70 Z #[(.ref b), (.int 0), (.int 2)] h0 (Q_own_cm3_2 Z b kC dv c0 c1 h0 n0) := by
 refine own_bodyN (plainFor_of_name own_pn1) fun p e s m below meth c s₁ Bd hx hby hml hown hZ X0 e0 => ?_
 have N0 := Fr.nil n0
 have K0 : Keep h0 h0 [] := Keep.refl h0 []
 refine own_st (fun tq kq => castTop (ef_own_cm3_2 m (b)) kq) ?_
 show own_G p e below _ (s₁.setTop (mkF m 0 #[vR b, vI 0, vI 2, .unset, .unset, .unset] []))
 have ltb : b < h0.size := Vb.lt
 rcases hD with hg | ⟨hl0, hg⟩
 ·
  refine s_iloadN X0 hx (hb hby dC3_0) rfl ?_
  obtain ⟨T1, h1, k1, X1, e1, E1, A1, st1⟩ := newP X0 hx hZ (hw _ (List.mem_of_getElem? (i := 16) rfl)) e0 (g := (mkF m 1 #[vR b, vI 0, vI 2, .unset, .unset, .unset] [(.int 2)])) rfl (hb hby dC3_1) rfl (by decide) (cap := 2) (by decide) (by decide) (by decide) (by decide)
  obtain ⟨b1, g1⟩ : ∃ z, z = h0.size := ⟨_, rfl⟩
  rw [← g1] at A1 st1
  have lt1 : b1 < h1.size := A1.lt
  have V1 : Arv Z h1 b1 k1 .byte (2 : Int32) [(.int (0 : Int32)), (.int (0 : Int32))] (.int (0 : Int32)) := (Arv.new A1 (by decide)).pad (pad_rep [] (.int (0 : Int32)) 2)
  have sz1 : h0.size ≤ h1.size := E1.1
  have K1 : Keep h0 h1 [] := K0.ext E1
  refine own_st st1 ?_
  refine own_st (fun tq kq => XS.astoreN X1.here hx rfl (hb hby dC3_3) rfl rfl (l' := #[vR b, vI 0, vI 2, vR b1, .unset, .unset]) rfl kq) ?_
  refine s_aloadN X1 hx (hb hby dC3_4) rfl rfl ?_
  refine s_iloadN X1 hx (hb hby dC3_5) rfl ?_
  refine s_aloadN X1 hx (hb hby dC3_6) rfl rfl ?_
  show own_G p e below _ (T1.setTop (mkF m 7 #[vR b, vI 0, vI 2, vR b1, .unset, .unset] [(.ref b1), (.int 0), (.ref b)]))
  refine s_iconst X1 hx (hb hby dC3_7) ?_
  refine s_iloadN X1 hx (hb hby dC3_8) rfl ?_
  obtain ⟨_, _, ⟨T2, L2, k2, n2⟩, -, X2, ⟨Lc2, hQ2, l2, y2, z2⟩, st2⟩ := Jvm.LawKit.callS X1 hx (y := mN9) hown (mvT hZ (wd37 hw)) (mvT hZ (wd38 hw)) (mvT hZ (wd35 hw)) (mvT hZ (wd39 hw)) (by decide) (own_backN (W := 0) (own_cm5_2_0 l Z a0 hw [] (b) (b1) (kC) (k1) (dv) (c0) (c1) h1 n0 (by omega) (X00.keep K1 all0) (Vb.ext E1) V1 (by omega) (own_ne (by omega)) hg) hZ (wd39 hw) (wd35 hw) (by decide) (by decide)) (g := (mkF m 9 #[vR b, vI 0, vI 2, vR b1, .unset, .unset] [(.int 2), (.int 0), (.ref b1), (.int 0), (.ref b)])) rfl (by rw [hml]; rfl) (argsL := [(.ref b), (.int 0), (.ref b1), (.int 0), (.int 2)]) (rest := []) (lenOf own_pd4 rfl) rfl (Nat.le_of_eq rfl) (hb hby dC3_9) (fun _ _ => ⟨rfl, e1, (by decide : 1 + 0 ≤ _), (by decide : 2 + 0 ≤ _)⟩)
  dsimp only [Pt.U, Pt.locs, Pt.cells, Pt.slots] at X2 l2 y2 z2 st2 hQ2
  subst l2 y2 z2
  obtain ⟨rfl, Nq2, Kq2⟩ := hQ2
  have KK2 : Keep h1 T2.heap [b1] := Kq2
  have sz2 : h1.size ≤ T2.heap.size := KK2.1
  have K2 : Keep h0 T2.heap [] := K1.trans KK2 (allS (Or.inr (own_le (by omega))) all0)
  have N2 := Fr.app N0 Nq2
  refine own_st st2 ?_
  refine own_st (fun tq kq => XS.istore X2.here hx rfl (hb hby dC3_12) rfl (l' := #[vR b, vI 0, vI 2, vR b1, vI 0, .unset]) rfl kq) ?_
  refine s_iload X2 hx (hb hby dC3_14) rfl ?_
  refine s_iloadN X2 hx (hb hby dC3_16) rfl ?_
  show own_G p e below _ (T2.setTop (mkF m 17 #[vR b, vI 0, vI 2, vR b1, vI 0, .unset] [(.int 2), (.int 0)]))
  refine own_st (fun tq kq => XS.icmpNo X2.here hx rfl (hb hby dC3_17) rfl (feq (by decide : ¬ ((0 : Int32) = (2 : Int32)))).1 kq) ?_
  refine s_aloadN X2 hx (hb hby dC3_20) rfl rfl ?_
  refine s_iloadN X2 hx (hb hby dC3_21) rfl ?_
  refine s_iloadN X2 hx (hb hby dC3_22) rfl ?_
  show own_G p e below _ (T2.setTop (mkF m 23 #[vR b, vI 0, vI 2, vR b1, vI 0, .unset] [(.int 2), (.int 0), (.ref b)]))
  obtain ⟨_, _, ⟨T3, L3, k3, n3⟩, -, X3, ⟨Lc3, hQ3, l3, y3, z3⟩, st3⟩ := Jvm.LawKit.callS X2 hx (y := mN7) hown (mvT hZ (wd110 hw)) (mvT hZ (wd111 hw)) (mvT hZ (wd35 hw)) (mvT hZ (wd112 hw)) (by decide) (own_backN (W := 0) (own_toB2 l Z a0 hw [] (b) (kC) (dv) (c0) (c1) T2.heap n0 (by omega) (X00.keep K2 all0) OA OH OL ((Vb.ext E1).keep KK2 (ninS (own_ne (by omega)) nin0))) hZ (wd112 hw) (wd35 hw) (by decide) (by decide)) (g := (mkF m 23 #[vR b, vI 0, vI 2, vR b1, vI 0, .unset] [(.int 2), (.int 0), (.ref b)])) rfl (by rw [hml]; rfl) (argsL := [(.ref b), (.int 0), (.int 2)]) (rest := []) (lenOf own_pd5 rfl) rfl (Nat.le_of_eq rfl) (hb hby dC3_23) (fun _ _ => ⟨rfl, rfl, (by decide : 1 + 1 ≤ _), (by decide : 2 + 4 ≤ _)⟩)
  dsimp only [Pt.U, Pt.locs, Pt.cells, Pt.slots] at X3 l3 y3 z3 st3 hQ3
  subst l3 y3 z3
  obtain ⟨t3, kb3, rfl, Nq3, Kq3, gt3, lt3, Vt3⟩ := hQ3
  have KK3 : Keep T2.heap T3.heap [] := Kq3
  have sz3 : T2.heap.size ≤ T3.heap.size := KK3.1
  have K3 : Keep h0 T3.heap [] := K2.trans KK3 all0
  have N3 := Fr.app N2 Nq3
  refine own_st st3 ?_
  refine own_st (fun tq kq => XS.astore X3.here hx rfl (hb hby dC3_26) rfl rfl (l' := #[vR b, vI 0, vI 2, vR b1, vI 0, vR t3]) rfl kq) ?_
  refine s_aload X3 hx (hb hby dC3_28) rfl rfl ?_
  refine s_iload X3 hx (hb hby dC3_30) rfl ?_
  obtain ⟨_, _, ⟨T4, L4, k4, n4⟩, -, X4, ⟨Lc4, hQ4, l4, y4, z4⟩, st4⟩ := Jvm.LawKit.callS X3 hx (y := mN2) hown (mvT hZ (wd126 hw)) (mvT hZ (wd127 hw)) (mvT hZ (wd35 hw)) (mvT hZ (wd128 hw)) (by decide) (own_backN (W := 0) (own_get_0 l Z a0 hw [] (t3) (_) (_) (_) (_) (_) T3.heap n0 (by omega) (X00.keep K3 all0) OA OH OL Vt3 (by decide) (by decide) rfl rfl) hZ (wd128 hw) (wd35 hw) (by decide) (by decide)) (g := (mkF m 32 #[vR b, vI 0, vI 2, vR b1, vI 0, vR t3] [(.int 0), (.ref t3)])) rfl (by rw [hml]; rfl) (argsL := [(.ref t3), (.int 0)]) (rest := []) (lenOf own_pd6 rfl) rfl (Nat.le_of_eq rfl) (hb hby dC3_32) (fun _ _ => ⟨rfl, rfl, (by decide : 2 + 0 ≤ _), (by decide : 6 + 0 ≤ _)⟩)
  dsimp only [Pt.U, Pt.locs, Pt.cells, Pt.slots] at X4 l4 y4 z4 st4 hQ4
  subst l4 y4 z4
  obtain ⟨rfl, Nq4, sm4⟩ := hQ4
  have N4 := Fr.app N3 Nq4
  refine own_st st4 ?_
  refine s_sipush X4 hx (hb hby dC3_35) ?_
  show own_G p e below _ (T4.setTop (mkF m 38 #[vR b, vI 0, vI 2, vR b1, vI 0, vR t3] [(.int 255), (.int (StrChars.pairCh (L8 c0) (H8 c0)))]))
  refine own_st (fun tq kq => XS.icmpYes X4.here hx rfl (pc0 := 38) (pc' := 54) rfl (hb hby dC3_38) rfl (tlt (by rw [StrChars.pair_says hb0.1 hb0.2]; exact hg)).2.2.1 (by decide) (by decide) kq) ?_
  refine s_aload X4 hx (hb hby dC3_54) rfl rfl ?_
  show own_G p e below _ (T4.setTop (mkF m 56 #[vR b, vI 0, vI 2, vR b1, vI 0, vR t3] [(.ref t3)]))
  obtain ⟨fs, hr, hrun, hended, hW, hsame⟩ := X4.leave (v := some (.ref t3)) (fun h => by rw [Bd.returns] at h; cases h)
  refine ⟨_, _, retOut X4 hx Bd.returns rfl (Or.inr (Or.inr (Or.inr (Or.inr ⟨rfl, rfl, rfl⟩)))) (hb hby dC3_56) hr, hrun, hended, _, _, rfl, ?_, ⟨_, rfl⟩, hW, hsame.mono (by decide) (by decide)⟩
  change Q_own_cm3_2 Z b kC dv c0 c1 h0 n0 _ T4.heap _; rw [sm4]; exact ⟨t3, _, rfl, N4, K3, (by omega), Vt3.lt, Vt3⟩
 ·
  refine s_iloadN X0 hx (hb hby dC3_0) rfl ?_
  obtain ⟨T5, h5, k5, X5, e5, E5, A5, st5⟩ := newP X0 hx hZ (hw _ (List.mem_of_getElem? (i := 16) rfl)) e0 (g := (mkF m 1 #[vR b, vI 0, vI 2, .unset, .unset, .unset] [(.int 2)])) rfl (hb hby dC3_1) rfl (by decide) (cap := 2) (by decide) (by decide) (by decide) (by decide)
  obtain ⟨b5, g5⟩ : ∃ z, z = h0.size := ⟨_, rfl⟩
  rw [← g5] at A5 st5
  have lt5 : b5 < h5.size := A5.lt
  have V5 : Arv Z h5 b5 k5 .byte (2 : Int32) [(.int (0 : Int32)), (.int (0 : Int32))] (.int (0 : Int32)) := (Arv.new A5 (by decide)).pad (pad_rep [] (.int (0 : Int32)) 2)
  have sz5 : h0.size ≤ h5.size := E5.1
  have K5 : Keep h0 h5 [] := K0.ext E5
  refine own_st st5 ?_
  refine own_st (fun tq kq => XS.astoreN X5.here hx rfl (hb hby dC3_3) rfl rfl (l' := #[vR b, vI 0, vI 2, vR b5, .unset, .unset]) rfl kq) ?_
  refine s_aloadN X5 hx (hb hby dC3_4) rfl rfl ?_
  refine s_iloadN X5 hx (hb hby dC3_5) rfl ?_
  refine s_aloadN X5 hx (hb hby dC3_6) rfl rfl ?_
  show own_G p e below _ (T5.setTop (mkF m 7 #[vR b, vI 0, vI 2, vR b5, .unset, .unset] [(.ref b5), (.int 0), (.ref b)]))
  refine s_iconst X5 hx (hb hby dC3_7) ?_
  refine s_iloadN X5 hx (hb hby dC3_8) rfl ?_
  obtain ⟨_, _, ⟨T6, L6, k6, n6⟩, -, X6, ⟨Lc6, hQ6, l6, y6, z6⟩, st6⟩ := Jvm.LawKit.callS X5 hx (y := mN9) hown (mvT hZ (wd37 hw)) (mvT hZ (wd38 hw)) (mvT hZ (wd35 hw)) (mvT hZ (wd39 hw)) (by decide) (own_backN (W := 0) (own_cm5_2_1 l Z a0 hw [] (b) (b5) (kC) (k5) (dv) (c0) (c1) h5 n0 (by omega) (X00.keep K5 all0) (Vb.ext E5) V5 (by omega) (own_ne (by omega)) hl0 hg) hZ (wd39 hw) (wd35 hw) (by decide) (by decide)) (g := (mkF m 9 #[vR b, vI 0, vI 2, vR b5, .unset, .unset] [(.int 2), (.int 0), (.ref b5), (.int 0), (.ref b)])) rfl (by rw [hml]; rfl) (argsL := [(.ref b), (.int 0), (.ref b5), (.int 0), (.int 2)]) (rest := []) (lenOf own_pd4 rfl) rfl (Nat.le_of_eq rfl) (hb hby dC3_9) (fun _ _ => ⟨rfl, e5, (by decide : 1 + 0 ≤ _), (by decide : 2 + 0 ≤ _)⟩)
  dsimp only [Pt.U, Pt.locs, Pt.cells, Pt.slots] at X6 l6 y6 z6 st6 hQ6
  subst l6 y6 z6
  obtain ⟨rfl, Nq6, Kq6⟩ := hQ6
  have KK6 : Keep h5 T6.heap [b5] := Kq6
  have sz6 : h5.size ≤ T6.heap.size := KK6.1
  have K6 : Keep h0 T6.heap [] := K5.trans KK6 (allS (Or.inr (own_le (by omega))) all0)
  have N6 := Fr.app N0 Nq6
  refine own_st st6 ?_
  refine own_st (fun tq kq => XS.istore X6.here hx rfl (hb hby dC3_12) rfl (l' := #[vR b, vI 0, vI 2, vR b5, vI 1, .unset]) rfl kq) ?_
  refine s_iload X6 hx (hb hby dC3_14) rfl ?_
  refine s_iloadN X6 hx (hb hby dC3_16) rfl ?_
  show own_G p e below _ (T6.setTop (mkF m 17 #[vR b, vI 0, vI 2, vR b5, vI 1, .unset] [(.int 2), (.int 1)]))
  refine own_st (fun tq kq => XS.icmpNo X6.here hx rfl (hb hby dC3_17) rfl (feq (by decide : ¬ ((1 : Int32) = (2 : Int32)))).1 kq) ?_
  refine s_aloadN X6 hx (hb hby dC3_20) rfl rfl ?_
  refine s_iloadN X6 hx (hb hby dC3_21) rfl ?_
  refine s_iloadN X6 hx (hb hby dC3_22) rfl ?_
  show own_G p e below _ (T6.setTop (mkF m 23 #[vR b, vI 0, vI 2, vR b5, vI 1, .unset] [(.int 2), (.int 0), (.ref b)]))
  obtain ⟨_, _, ⟨T7, L7, k7, n7⟩, -, X7, ⟨Lc7, hQ7, l7, y7, z7⟩, st7⟩ := Jvm.LawKit.callS X6 hx (y := mN7) hown (mvT hZ (wd110 hw)) (mvT hZ (wd111 hw)) (mvT hZ (wd35 hw)) (mvT hZ (wd112 hw)) (by decide) (own_backN (W := 0) (own_toB2 l Z a0 hw [] (b) (kC) (dv) (c0) (c1) T6.heap n0 (by omega) (X00.keep K6 all0) OA OH OL ((Vb.ext E5).keep KK6 (ninS (own_ne (by omega)) nin0))) hZ (wd112 hw) (wd35 hw) (by decide) (by decide)) (g := (mkF m 23 #[vR b, vI 0, vI 2, vR b5, vI 1, .unset] [(.int 2), (.int 0), (.ref b)])) rfl (by rw [hml]; rfl) (argsL := [(.ref b), (.int 0), (.int 2)]) (rest := []) (lenOf own_pd5 rfl) rfl (Nat.le_of_eq rfl) (hb hby dC3_23) (fun _ _ => ⟨rfl, rfl, (by decide : 1 + 1 ≤ _), (by decide : 2 + 4 ≤ _)⟩)
  dsimp only [Pt.U, Pt.locs, Pt.cells, Pt.slots] at X7 l7 y7 z7 st7 hQ7
  subst l7 y7 z7
  obtain ⟨t7, kb7, rfl, Nq7, Kq7, gt7, lt7, Vt7⟩ := hQ7
  have KK7 : Keep T6.heap T7.heap [] := Kq7
  have sz7 : T6.heap.size ≤ T7.heap.size := KK7.1
  have K7 : Keep h0 T7.heap [] := K6.trans KK7 all0
  have N7 := Fr.app N6 Nq7
  refine own_st st7 ?_
  refine own_st (fun tq kq => XS.astore X7.here hx rfl (hb hby dC3_26) rfl rfl (l' := #[vR b, vI 0, vI 2, vR b5, vI 1, vR t7]) rfl kq) ?_
  refine s_aload X7 hx (hb hby dC3_28) rfl rfl ?_
  refine s_iload X7 hx (hb hby dC3_30) rfl ?_
  obtain ⟨_, _, ⟨T8, L8, k8, n8⟩, -, X8, ⟨Lc8, hQ8, l8, y8, z8⟩, st8⟩ := Jvm.LawKit.callS X7 hx (y := mN2) hown (mvT hZ (wd126 hw)) (mvT hZ (wd127 hw)) (mvT hZ (wd35 hw)) (mvT hZ (wd128 hw)) (by decide) (own_backN (W := 0) (own_get_1 l Z a0 hw [] (t7) (_) (_) (_) (_) (_) T7.heap n0 (by omega) (X00.keep K7 all0) OA OH OL Vt7 (by decide) (by decide) rfl rfl) hZ (wd128 hw) (wd35 hw) (by decide) (by decide)) (g := (mkF m 32 #[vR b, vI 0, vI 2, vR b5, vI 1, vR t7] [(.int 1), (.ref t7)])) rfl (by rw [hml]; rfl) (argsL := [(.ref t7), (.int 1)]) (rest := []) (lenOf own_pd6 rfl) rfl (Nat.le_of_eq rfl) (hb hby dC3_32) (fun _ _ => ⟨rfl, rfl, (by decide : 2 + 0 ≤ _), (by decide : 6 + 0 ≤ _)⟩)
  dsimp only [Pt.U, Pt.locs, Pt.cells, Pt.slots] at X8 l8 y8 z8 st8 hQ8
  subst l8 y8 z8
  obtain ⟨rfl, Nq8, sm8⟩ := hQ8
  have N8 := Fr.app N7 Nq8
  refine own_st st8 ?_
  refine s_sipush X8 hx (hb hby dC3_35) ?_
  show own_G p e below _ (T8.setTop (mkF m 38 #[vR b, vI 0, vI 2, vR b5, vI 1, vR t7] [(.int 255), (.int (StrChars.pairCh (L8 c1) (H8 c1)))]))
  refine own_st (fun tq kq => XS.icmpYes X8.here hx rfl (pc0 := 38) (pc' := 54) rfl (hb hby dC3_38) rfl (tlt (by rw [StrChars.pair_says hb1.1 hb1.2]; exact hg)).2.2.1 (by decide) (by decide) kq) ?_
  refine s_aload X8 hx (hb hby dC3_54) rfl rfl ?_
  show own_G p e below _ (T8.setTop (mkF m 56 #[vR b, vI 0, vI 2, vR b5, vI 1, vR t7] [(.ref t7)]))
  obtain ⟨fs, hr, hrun, hended, hW, hsame⟩ := X8.leave (v := some (.ref t7)) (fun h => by rw [Bd.returns] at h; cases h)
  refine ⟨_, _, retOut X8 hx Bd.returns rfl (Or.inr (Or.inr (Or.inr (Or.inr ⟨rfl, rfl, rfl⟩)))) (hb hby dC3_56) hr, hrun, hended, _, _, rfl, ?_, ⟨_, rfl⟩, hW, hsame.mono (by decide) (by decide)⟩
  change Q_own_cm3_2 Z b kC dv c0 c1 h0 n0 _ T8.heap _; rw [sm8]; exact ⟨t7, _, rfl, N8, K7, (by omega), Vt7.lt, Vt7⟩

def Q_own_n4_2 (Z : State) (x b : Nat) (v0 c_0 dv : Value) (kC : ClassId) (G1 : Int32) (c0 c1 : Int32) (h0 : Heap) (n0 : Nat) (v : Option Value) (h : Heap) (L : List Loc) : Prop := v = none ∧ Fr n0 L ∧ Keep h0 h [x] ∧ ∃ (t : Nat) (kb : ClassId), Fld Z h x "java/lang/String" "value" "[B" (.ref t) ∧ Fld Z h x "java/lang/String" "coder" "B" (.int (1 : Int32)) ∧ Arv Z h t kb .byte (4 : Int32) [.int (L8 c0), .int (H8 c0), .int (L8 c1), .int (H8 c1)] (.int 0)
theorem ef_own_n4_2 (m : MethodId) (x0 : Nat) (x1 : Nat) : entryFrame m #[(.ref x0), (.ref x1), (.int 0), (.int 2), .null] 6 = mkF m 0 #[.val (.ref x0), .val (.ref x1), .val (.int 0), .val (.int 2), .val .null, .unset] [] := by first | (simp [entryFrame, mkF, argsToLocals, Value.category]; done) | rfl
theorem own_n4_2 (l : Launch) (Z : State) (a0 : Array Value) (hw : hWt a0 Z) (ws : List Jvm.Cond) (x b : Nat) (v0 c_0 dv : Value) (kC : ClassId) (G1 : Int32) (c0 c1 : Int32) (h0 : Heap) (n0 : Nat) (Z0 : n0 ≤ h0.size) (X00 : Old Z n0 h0) (Ex : Exa Z h0 x "java/lang/String") (Fv : Fld Z h0 x "java/lang/String" "value" "[B" v0) (Fc : Fld Z h0 x "java/lang/String" "coder" "B" c_0) (gx : n0 ≤ x) (ltx : x < h0.size) (Vb : Arv Z h0 b kC .char (2 : Int32) [.int c0, .int c1] dv) (O2 : Sta Z Z.heap "java/lang/String" "COMPACT_STRINGS" "Z" (.int G1)) (P5 : ¬ (G1 = (0 : Int32))) (OA : oA Z) (OH : oH Z) (OL : oL Z) (hb0 : ¬ c0 < 0 ∧ ¬ (65535 : Int32) < c0) (hb1 : ¬ c1 < 0 ∧ ¬ (65535 : Int32) < c1) (hD : ((255 : Int32) < c0) ∨ (¬ (255 : Int32) < c0 ∧ (255 : Int32) < c1)) :
 own_MN l mN0 jdk_42_method_149_code 6 none ws rm_4_2_6_95 Z #[(.ref x), (.ref b), (.int 0), (.int 2), .null] h0 (Q_own_n4_2 Z x b v0 c_0 dv kC G1 c0 c1 h0 n0) := by
 refine own_bodyN (plainFor_of_name own_pn0) fun p e s m below meth c s₁ Bd hx hby hml hown hZ X0 e0 => ?_
 have hnm := (name_of_methodNamed Bd.named Bd.method).1
 have N0 := Fr.nil n0
 have K0 : Keep h0 h0 [x] := Keep.refl h0 [x]
 refine own_st (fun tq kq => castTop (ef_own_n4_2 m (x) (b)) kq) ?_
 show own_G p e below _ (s₁.setTop (mkF m 0 #[vR x, vR b, vI 0, vI 2, .val .null, .unset] []))
 have hws0 : ∀ y ∈ [x], n0 ≤ y := allS gx all0
 refine s_aloadN X0 hx (hb hby dN4_0) rfl rfl ?_
 obtain ⟨T1, X1, e1, st1⟩ := initO X0 hx hZ hown (wd12 hw) (wd13 hw) (wd14 hw) e0 (g := (mkF m 1 #[vR x, vR b, vI 0, vI 2, .val .null, .unset] [(.ref x)])) rfl (by rw [hml]; rfl) rfl (hb hby dN4_1) (by decide) (W := 0) (Nat.le_of_eq rfl) (by decide)
 refine own_st st1 ?_
 refine s_iloadN X1 hx (hb hby dN4_4) rfl ?_
 show own_G p e below _ (T1.setTop (mkF m 5 #[vR x, vR b, vI 0, vI 2, .val .null, .unset] [(.int 2)]))
 refine own_st (fun tq kq => XS.ifYes X1.here hx rfl (pc0 := 5) (pc' := 27) rfl (hb hby dN4_5) rfl ((if0 _ _).trans (feq (by decide : ¬ ((2 : Int32) = (0 : Int32)))).2) (by decide) (by decide) kq) ?_
 obtain ⟨T2, X2, e2, st2⟩ := getS2 X1 hx hZ hown (host := "") (Or.inl (wd32 hw)) Via.refl e1 (O2.ext (X00.keep K0 hws0).2) (g := (mkF m 27 #[vR x, vR b, vI 0, vI 2, .val .null, .unset] [])) rfl (hb hby dN4_27)
 refine own_st st2 ?_
 refine own_st (fun tq kq => XS.ifNo X2.here hx rfl (hb hby dN4_30) rfl ((if0 _ _).trans (feq P5).1) kq) ?_
 refine s_aloadN X2 hx (hb hby dN4_33) rfl rfl ?_
 refine s_iloadN X2 hx (hb hby dN4_34) rfl ?_
 refine s_iloadN X2 hx (hb hby dN4_35) rfl ?_
 show own_G p e below _ (T2.setTop (mkF m 36 #[vR x, vR b, vI 0, vI 2, .val .null, .unset] [(.int 2), (.int 0), (.ref b)]))
 obtain ⟨_, _, ⟨T3, L3, k3, n3⟩, -, X3, ⟨Lc3, hQ3, l3, y3, z3⟩, st3⟩ := Jvm.LawKit.callS X2 hx (y := mN10) hown (mvT hZ (wd33 hw)) (mvT hZ (wd34 hw)) (mvT hZ (wd35 hw)) (mvT hZ (wd36 hw)) (by decide) (own_backN (W := 0) (own_cm3_2 l Z a0 hw [] (b) (kC) (dv) (c0) (c1) h0 n0 (by omega) (X00.keep K0 hws0) OA OH OL Vb hb0 hb1 hD) hZ (wd36 hw) (wd35 hw) (by decide) (by decide)) (g := (mkF m 36 #[vR x, vR b, vI 0, vI 2, .val .null, .unset] [(.int 2), (.int 0), (.ref b)])) rfl (by rw [hml]; rfl) (argsL := [(.ref b), (.int 0), (.int 2)]) (rest := []) (lenOf own_pd5 rfl) rfl (Nat.le_of_eq rfl) (hb hby dN4_36) (fun _ _ => ⟨rfl, e2, (by decide : 0 + 2 ≤ _), (by decide : 0 + 6 ≤ _)⟩)
 dsimp only [Pt.U, Pt.locs, Pt.cells, Pt.slots] at X3 l3 y3 z3 st3 hQ3
 subst l3 y3 z3
 obtain ⟨t3, kb3, rfl, Nq3, Kq3, gt3, lt3, Vt3⟩ := hQ3
 have KK3 : Keep h0 T3.heap [] := Kq3
 have sz3 : h0.size ≤ T3.heap.size := KK3.1
 have K3 : Keep h0 T3.heap [x] := K0.trans KK3 all0
 have N3 := Fr.app N0 Nq3
 refine own_st st3 ?_
 refine own_st (fun tq kq => XS.astore X3.here hx rfl (hb hby dN4_39) rfl rfl (l' := #[vR x, vR b, vI 0, vI 2, .val .null, vR t3]) rfl kq) ?_
 refine s_aloadN X3 hx (hb hby dN4_41) rfl rfl ?_
 refine s_aload X3 hx (hb hby dN4_42) rfl rfl ?_
 refine s_iloadN X3 hx (hb hby dN4_44) rfl ?_
 show own_G p e below _ (T3.setTop (mkF m 45 #[vR x, vR b, vI 0, vI 2, .val .null, vR t3] [(.int 2), (.ref t3), (.ref x)]))
 obtain ⟨_, _, ⟨T4, L4, k4, n4⟩, -, X4, ⟨Lc4, hQ4, l4, y4, z4⟩, st4⟩ := Jvm.LawKit.callS X3 hx (y := mN8) hown (mvT hZ (wd40 hw)) (mvT hZ (wd41 hw)) (mvT hZ (wd35 hw)) (mvT hZ (wd42 hw)) (by decide) (own_backN (W := 1) (own_cfl2 l Z a0 hw [] (t3) (_) (_) T3.heap n0 (by omega) (X00.keep K3 hws0) Vt3) hZ (wd42 hw) (wd35 hw) (by decide) (by decide)) (g := (mkF m 45 #[vR x, vR b, vI 0, vI 2, .val .null, vR t3] [(.int 2), (.ref t3), (.ref x)])) rfl (by rw [hml]; rfl) (argsL := [(.ref t3), (.int 2)]) (rest := [(.ref x)]) (lenOf own_pd7 rfl) rfl (Nat.le_of_eq rfl) (hb hby dN4_45) (fun _ _ => ⟨rfl, rfl, (by decide : 2 + 0 ≤ _), (by decide : 6 + 0 ≤ _)⟩)
 dsimp only [Pt.U, Pt.locs, Pt.cells, Pt.slots] at X4 l4 y4 z4 st4 hQ4
 subst l4 y4 z4
 obtain ⟨rfl, Nq4, sm4⟩ := hQ4
 have N4 := Fr.app N3 Nq4
 refine own_st st4 ?_
 obtain ⟨T5, h5, X5, e5, W5, st5⟩ := putF X4 hx hZ hown (host := "") (Or.inl (wd22 hw)) Via.refl sm4 (Fc.keep KK3 nin0) (Ex.keep KK3) (Or.inr ⟨(wd18 hw), rfl, hnm⟩) (wd2 hw) (ty := .byte) (by decide) rfl rfl (g := (mkF m 48 #[vR x, vR b, vI 0, vI 2, .val .null, vR t3] [(.int 1), (.ref x)])) rfl rfl (hb hby dN4_48)
 have Fw5 := (Fc.keep KK3 nin0).same W5
 have sz5 : T3.heap.size ≤ h5.size := (Keep.of_wr W5).1
 have K5 : Keep h0 h5 [x] := K3.wr W5 (Or.inl (by simp))
 have N5 := Fr.snoc X5 N4 (own_le (by omega))
 refine own_st st5 ?_
 refine s_aloadN X5 hx (hb hby dN4_51) rfl rfl ?_
 refine s_aload X5 hx (hb hby dN4_52) rfl rfl ?_
 obtain ⟨T6, h6, X6, e6, W6, st6⟩ := putF X5 hx hZ hown (host := "") (Or.inl (wd21 hw)) Via.refl e5 ((Fv.keep KK3 nin0).other W5 (Or.inr (slot_ne (Or.inr (wd17 hw)) (Or.inr (wd18 hw)) (by decide) (t := (.array .byte)) (t' := .byte) (by decide) (by decide)))) ((Ex.keep KK3).wr W5) (Or.inr ⟨(wd17 hw), rfl, hnm⟩) (wd2 hw) (ty := (.array .byte)) (by decide) rfl rfl (g := (mkF m 54 #[vR x, vR b, vI 0, vI 2, .val .null, vR t3] [(.ref t3), (.ref x)])) rfl rfl (hb hby dN4_54)
 have Fw6 := ((Fv.keep KK3 nin0).other W5 (Or.inr (slot_ne (Or.inr (wd17 hw)) (Or.inr (wd18 hw)) (by decide) (t := (.array .byte)) (t' := .byte) (by decide) (by decide)))).same W6
 have sz6 : h5.size ≤ h6.size := (Keep.of_wr W6).1
 have K6 : Keep h0 h6 [x] := K5.wr W6 (Or.inl (by simp))
 have N6 := Fr.snoc X6 N5 (own_le (by omega))
 refine own_st st6 ?_
 obtain ⟨fs, hr, hrun, hended, hW, hsame⟩ := X6.leave (v := none) (fun _ => rfl)
 refine ⟨_, _, X6.returnOut hx Bd.returns (hb hby dN4_57) hr, hrun, hended, _, _, rfl, ?_, ⟨_, rfl⟩, hW, hsame.mono (by decide) (by decide)⟩
 change Q_own_n4_2 Z x b v0 c_0 dv kC G1 c0 c1 h0 n0 _ T6.heap _; rw [e6]; exact ⟨rfl, N6, K6, t3, _, Fw6, (Fw5.other W6 (Or.inr (slot_ne (Or.inr (wd18 hw)) (Or.inr (wd17 hw)) (by decide) (t := .byte) (t' := (.array .byte)) (by decide) (by decide)))), ((Vt3.other W5 (own_ne (by omega))).other W6 (own_ne (by omega)))⟩

def Q_own_n1_2 (Z : State) (x b : Nat) (v0 c_0 dv : Value) (kC : ClassId) (G1 : Int32) (c0 c1 : Int32) (h0 : Heap) (n0 : Nat) (v : Option Value) (h : Heap) (L : List Loc) : Prop := v = none ∧ Fr n0 L ∧ Keep h0 h [x] ∧ ∃ (t : Nat) (kb : ClassId), Fld Z h x "java/lang/String" "value" "[B" (.ref t) ∧ Fld Z h x "java/lang/String" "coder" "B" (.int (1 : Int32)) ∧ Arv Z h t kb .byte (4 : Int32) [.int (L8 c0), .int (H8 c0), .int (L8 c1), .int (H8 c1)] (.int 0)
theorem ef_own_n1_2 (m : MethodId) (x0 : Nat) (x1 : Nat) : entryFrame m #[(.ref x0), (.ref x1)] 2 = mkF m 0 #[.val (.ref x0), .val (.ref x1)] [] := by first | (simp [entryFrame, mkF, argsToLocals, Value.category]; done) | rfl
theorem own_n1_2 (l : Launch) (Z : State) (a0 : Array Value) (hw : hWt a0 Z) (ws : List Jvm.Cond) (x b : Nat) (v0 c_0 dv : Value) (kC : ClassId) (G1 : Int32) (c0 c1 : Int32) (h0 : Heap) (n0 : Nat) (Z0 : n0 ≤ h0.size) (X00 : Old Z n0 h0) (Ex : Exa Z h0 x "java/lang/String") (Fv : Fld Z h0 x "java/lang/String" "value" "[B" v0) (Fc : Fld Z h0 x "java/lang/String" "coder" "B" c_0) (gx : n0 ≤ x) (ltx : x < h0.size) (Vb : Arv Z h0 b kC .char (2 : Int32) [.int c0, .int c1] dv) (O2 : Sta Z Z.heap "java/lang/String" "COMPACT_STRINGS" "Z" (.int G1)) (P5 : ¬ (G1 = (0 : Int32))) (OA : oA Z) (OH : oH Z) (OL : oL Z) (hb0 : ¬ c0 < 0 ∧ ¬ (65535 : Int32) < c0) (hb1 : ¬ c1 < 0 ∧ ¬ (65535 : Int32) < c1) (hD : ((255 : Int32) < c0) ∨ (¬ (255 : Int32) < c0 ∧ (255 : Int32) < c1)) :
 own_MN l mN1 jdk_42_method_3_code 2 none ws rm_5_2_6_115 Z #[(.ref x), (.ref b)] h0 (Q_own_n1_2 Z x b v0 c_0 dv kC G1 c0 c1 h0 n0) := by
 refine own_bodyN (plainFor_of_name own_pn0) fun p e s m below meth c s₁ Bd hx hby hml hown hZ X0 e0 => ?_
 have hnm := (name_of_methodNamed Bd.named Bd.method).1
 have N0 := Fr.nil n0
 have K0 : Keep h0 h0 [x] := Keep.refl h0 [x]
 refine own_st (fun tq kq => castTop (ef_own_n1_2 m (x) (b)) kq) ?_
 show own_G p e below _ (s₁.setTop (mkF m 0 #[vR x, vR b] []))
 have hws0 : ∀ y ∈ [x], n0 ≤ y := allS gx all0
 refine s_aloadN X0 hx (hb hby dN1_0) rfl rfl ?_
 refine s_aloadN X0 hx (hb hby dN1_1) rfl rfl ?_
 refine s_iconst X0 hx (hb hby dN1_2) ?_
 refine s_aloadN X0 hx (hb hby dN1_3) rfl rfl ?_
 show own_G p e below _ (s₁.setTop (mkF m 4 #[vR x, vR b] [(.ref b), (.int 0), (.ref b), (.ref x)]))
 obtain ⟨cl1, Ar1, q1, S_1, N_1, H_1, G_1⟩ := id Vb
 refine own_st (fun tq kq => X0.arraylength hx (by rw [e0]; exact Ar1.1) (State.isArrayOf_alike hZ.alike Ar1.2.1) (g := (mkF m 4 #[vR x, vR b] [(.ref b), (.int 0), (.ref b), (.ref x)])) rfl rfl (hb hby dN1_4) _ kq) ?_
 rw [len_of S_1 N_1]
 show own_G p e below _ (s₁.setTop (mkF m 5 #[vR x, vR b] [(.int 2), (.int 0), (.ref b), (.ref x)]))
 refine own_st (fun tq kq => XS.aconstNull X0.here hx rfl (hb hby dN1_5) kq) ?_
 obtain ⟨_, _, ⟨T2, L2, k2, n2⟩, -, X2, ⟨Lc2, hQ2, l2, y2, z2⟩, st2⟩ := X0.specialBack hx (y := mN0) rfl hown (mvT hZ (wd8 hw)) (mvT hZ (wd9 hw)) (mvT hZ (wd11 hw)) (by decide) (own_backN (W := 0) (own_n4_2 l Z a0 hw [] (x) (b) (v0) (c_0) (dv) (kC) (G1) (c0) (c1) h0 n0 (by omega) (X00.keep K0 hws0) Ex Fv Fc gx ltx Vb O2 P5 OA OH OL hb0 hb1 hD) hZ (wd11 hw) (wd3 hw) (by decide) (by decide)) (g := (mkF m 6 #[vR x, vR b] [.null, (.int 2), (.int 0), (.ref b), (.ref x)])) rfl (by rw [hml]; rfl) (Steps.refl _) (a := x) (argsL := [(.ref b), (.int 0), (.int 2), .null]) (rest := []) (lenOf own_pd0 rfl) rfl (Nat.le_of_eq rfl) (hb hby dN1_6) (fun _ _ => ⟨rfl, e0, (by decide : 0 + 2 ≤ _), (by decide : 0 + 6 ≤ _)⟩)
 dsimp only [Pt.U, Pt.locs, Pt.cells, Pt.slots] at X2 l2 y2 z2 st2 hQ2
 subst l2 y2 z2
 obtain ⟨rfl, Nq2, Kq2, R2⟩ := hQ2
 have KK2 : Keep h0 T2.heap [x] := Kq2
 have sz2 : h0.size ≤ T2.heap.size := KK2.1
 have K2 : Keep h0 T2.heap [x] := K0.trans KK2 (allS (Or.inl (by simp)) all0)
 have N2 := Fr.app N0 Nq2
 refine own_st (fun tq kq => st2.trans kq) ?_
 obtain ⟨fs, hr, hrun, hended, hW, hsame⟩ := X2.leave (v := none) (fun _ => rfl)
 refine ⟨_, _, X2.returnOut hx Bd.returns (hb hby dN1_9) hr, hrun, hended, _, _, rfl, ?_, ⟨_, rfl⟩, hW, hsame.mono (by decide) (by decide)⟩
 change Q_own_n1_2 Z x b v0 c_0 dv kC G1 c0 c1 h0 n0 _ T2.heap _; exact ⟨rfl, N2, K2, R2⟩

set_option maxRecDepth 65536 in
set_option maxHeartbeats 40000000 in
theorem own_newU2 {p : Program} {l : Launch} {e : Env} {R : Room} {s : State} {args : Array Value} {below : List Frame} {len W : Nat} {Z : State} {a0 : Array Value} {h : Heap} {vm0 : Vm} (hZ : Z.Warmed39 vm0) (hw : ∀ d ∈ tables_1, d.before a0 Z = true) (hEL : EW Z a0 consts_1) (H : CHv Z consts_1 vm0 h)
    {x b : Nat} {kC : ClassId} {c0 c1 : Int32} {d v0 c_0 : Value} {z : Int32} {n0 : Nat} (hs : Safe Z consts_1 vm0 h x) (hx0 : n0 ≤ x) (X00 : Old Z n0 h) (E : Exa Z h x "java/lang/String") (V : Fld Z h x "java/lang/String" "value" "[B" v0) (F : Fld Z h x "java/lang/String" "coder" "B" c_0) (K : Arv Z h b kC .char (2 : Int32) [.int c0, .int c1] d) (S : Sta Z Z.heap "java/lang/String" "COMPACT_STRINGS" "Z" (.int z)) (hz : ¬ z = 0) (OA : oA Z) (OH : oH Z) (OL : oL Z)
    (hp : ∀ c ∈ ([c0, c1] : List Int32), ¬ c < 0 ∧ ¬ (65535 : Int32) < c) (hfr : 6 ≤ R.frames) (hlo : W + 128 ≤ R.locals) :
    BackS l R p e below (s.setVm vm0) args (⟨"java/lang/String", "<init>", "([C)V"⟩ : MethodName) len W (fun P a => a = #[.ref x, .ref b] ∧ P.U.heap = h ∧ P.cells + 2 ≤ R.cells ∧ P.slots + 10 ≤ R.slots)
      (fun P _ v B => ∃ L, own_QU Z x ([c0, c1] : List Int32) h n0 v B.U.heap L ∧ B.locs = P.locs ++ L ∧ B.cells = P.cells + 2 ∧ B.slots = P.slots + 10 ∧ CHr Z consts_1 vm0 h B.U.vm B.U.heap) := by
  have hh0 : n0 ≤ h.size := by have := X00.1; have := X00.2.1; omega
  have key : (((255 : Int32) < c0) ∨ (¬ (255 : Int32) < c0 ∧ (255 : Int32) < c1)) ∨ (¬ (255 : Int32) < c0 ∧ ¬ (255 : Int32) < c1) := by
    by_cases hl0 : (255 : Int32) < c0
    · exact Or.inl (Or.inl hl0)
    by_cases hl1 : (255 : Int32) < c1
    · exact Or.inl (Or.inr (⟨hl0, hl1⟩))
    exact Or.inr ⟨hl0, hl1⟩
  rcases key with hD | hL
  · have hex : ∃ c ∈ ([c0, c1] : List Int32), 255 < c := by
     rcases hD with hg | ⟨-, hg⟩
     · exact ⟨c0, by simp, hg⟩
     · exact ⟨c1, by simp, hg⟩
    intro m meth c P g ig mk a X hg hsize hdg hW hnn hp'
    obtain ⟨v, B, Y, ⟨L, hQ, e1, e2, e3⟩, st⟩ := own_backN (rm := rm_5_2_6_115) (R := R) (W := W) (s := s.setVm vm0) (own_n1_2 l Z a0 hw [] x b v0 c_0 d kC z c0 c1 h n0 hh0 X00 E V F hx0 E.lt K S hz OA OH OL (hp _ (by simp)) (hp _ (by simp)) hD) hZ (wd7 hw) (wd3 hw) (by show 5 + 1 ≤ _; omega) (by show W + (2 + 11) + 115 ≤ _; omega) m meth c P g ig mk a X hg hsize hdg hW hnn ⟨hp'.1, hp'.2.1, Nat.le_trans (by show _ + 2 ≤ _ + 2; exact Nat.le_refl _) hp'.2.2.1, Nat.le_trans (by show _ + 6 ≤ _ + 10; exact Nat.add_le_add_left (by decide) _) hp'.2.2.2⟩
    obtain ⟨BU, BL, Bc, Bs⟩ := B
    dsimp only [Pt.U, Pt.locs, Pt.cells, Pt.slots] at Y hQ e1 e2 e3 st
    obtain ⟨r1, r2, r3, t, kb, r5, r6, r7⟩ := hQ
    have hCH : CHr Z consts_1 vm0 h vm0 BU.heap := CHr.keep r3 (allS hs all0) H
    have Y2 : Stand p l e R (s.setVm vm0) m args below meth c BU BL (P.cells + 2) (P.slots + 10) := Y.mono (by rw [e2]; exact Nat.le_refl _) (by rw [e3]; exact Nat.add_le_add_left (by decide) _)
    refine ⟨v, ⟨BU, BL, P.cells + 2, P.slots + 10⟩, Y2.retabled Y2.warmed.wide, Y2.warmed.since _, ?_, ⟨L, ⟨r1, r2, r3, r5.lt, E.keep r3, hp, by simp, t, kb, 1, _, _, r7.lt, r5, r6, r7, Or.inr ⟨rfl, rfl, rfl, hex⟩⟩, e1, rfl, rfl, hCH.trans (CHv.at (s := s) (vm0 := vm0) Y2 hZ hEL hCH.1)⟩, st⟩
    show P.U.heap.size ≤ BU.heap.size
    rw [hp'.2.1]; exact r3.1
  obtain ⟨hl0, hl1⟩ := hL
  have hp2 : ∀ c ∈ ([c0, c1] : List Int32), ¬ c < 0 ∧ ¬ (255 : Int32) < c := by
    intro c hc
    simp only [List.mem_cons, List.not_mem_nil, or_false] at hc
    rcases hc with rfl | rfl
    · exact ⟨(hp _ (by simp)).1, hl0⟩
    · exact ⟨(hp _ (by simp)).1, hl1⟩
  intro m meth c P g ig mk a X hg hsize hdg hW hnn hp'
  obtain ⟨v, B, Y, q1, q2, ⟨L, hQ, e1, e2, e3, hc⟩, st⟩ := own_newStr (R := R) (W := W) (s := s) (vm0 := vm0) hZ hw hEL H (cs := ([c0, c1] : List Int32)) (n := 2) (n0 := n0) hs hx0 X00 E V F K S hz rfl rfl (by decide) hp2 (by omega) (by omega) m meth c P g ig mk a X hg hsize hdg hW hnn ⟨hp'.1, hp'.2.1, hp'.2.2.1, Nat.le_trans (Nat.add_le_add_left (by decide) _) hp'.2.2.2⟩
  obtain ⟨BU, BL, Bc, Bs⟩ := B
  dsimp only [Pt.U, Pt.locs, Pt.cells, Pt.slots] at Y q1 q2 hQ e1 e2 e3 st hc
  have Y2 : Stand p l e R ((s.setVm vm0).setVm BU.vm) m args below meth c BU BL (P.cells + 2) (P.slots + 10) := Y.mono (by rw [e2]; exact Nat.le_refl _) (by rw [e3]; exact Nat.add_le_add_left (by decide) _)
  exact ⟨v, ⟨BU, BL, P.cells + 2, P.slots + 10⟩, Y2, q1, q2, ⟨L, ⟨hQ.1, hQ.2.1, hQ.2.2.1, hQ.2.2.2.toU⟩, e1, rfl, rfl, hc⟩, st⟩

def Q_own_ulen3 (Z : State) (t : Nat) (kb : ClassId) (vs : List Value) (h0 : Heap) (n0 : Nat) (v : Option Value) (h : Heap) (L : List Loc) : Prop := v = some (.int (3 : Int32)) ∧ Fr n0 L ∧ h = h0
theorem ef_own_ulen3 (m : MethodId) (x0 : Nat) : entryFrame m #[(.ref x0)] 1 = mkF m 0 #[.val (.ref x0)] [] := by first | (simp [entryFrame, mkF, argsToLocals, Value.category]; done) | rfl
theorem own_ulen3 (l : Launch) (Z : State) (a0 : Array Value) (hw : hWt a0 Z) (ws : List Jvm.Cond) (t : Nat) (kb : ClassId) (vs : List Value) (h0 : Heap) (n0 : Nat) (Z0 : n0 ≤ h0.size) (X00 : Old Z n0 h0) (Vt : Arv Z h0 t kb .byte (6 : Int32) vs (.int 0)) :
 own_MN l mN3 jdk_52_method_6_code 1 (some .int) ws rm_0_0_0_0 Z #[(.ref t)] h0 (Q_own_ulen3 Z t kb vs h0 n0) := by
 refine own_bodyN (plainFor_of_name own_pn1) fun p e s m below meth c s₁ Bd hx hby hml hown hZ X0 e0 => ?_
 have N0 := Fr.nil n0
 have K0 : Keep h0 h0 [] := Keep.refl h0 []
 refine own_st (fun tq kq => castTop (ef_own_ulen3 m (t)) kq) ?_
 show own_G p e below _ (s₁.setTop (mkF m 0 #[vR t] []))
 refine s_aloadN X0 hx (hb hby dUL_0) rfl rfl ?_
 obtain ⟨cl1, Ar1, q1, S_1, N_1, H_1, G_1⟩ := id Vt
 refine own_st (fun tq kq => X0.arraylength hx (by rw [e0]; exact Ar1.1) (State.isArrayOf_alike hZ.alike Ar1.2.1) (g := (mkF m 1 #[vR t] [(.ref t)])) rfl rfl (hb hby dUL_1) _ kq) ?_
 rw [len_of S_1 N_1]
 show own_G p e below _ (s₁.setTop (mkF m 2 #[vR t] [(.int 6)]))
 refine s_iconst X0 hx (hb hby dUL_2) ?_
 refine own_st (fun tq kq => XS.ishr X0.here hx rfl (hb hby dUL_3) rfl kq) ?_
 show own_G p e below _ (s₁.setTop (mkF m 4 #[vR t] [(.int 3)]))
 obtain ⟨fs, hr, hrun, hended, hW, hsame⟩ := X0.leave (v := some (.int 3)) (fun h => by rw [Bd.returns] at h; cases h)
 refine ⟨_, _, retOut X0 hx Bd.returns rfl (Or.inl ⟨rfl, by simp, _, rfl⟩) (hb hby dUL_4) hr, hrun, hended, _, _, rfl, ?_, ⟨_, rfl⟩, hW, hsame.mono (by decide) (by decide)⟩
 change Q_own_ulen3 Z t kb vs h0 n0 _ s₁.heap _; rw [e0]; exact ⟨rfl, N0, rfl⟩

def Q_own_nlen3 (Z : State)  (h0 : Heap) (n0 : Nat) (v : Option Value) (h : Heap) (L : List Loc) : Prop := v = some (.int (6 : Int32)) ∧ Fr n0 L ∧ h = h0
theorem ef_own_nlen3 (m : MethodId)  : entryFrame m #[(.int 3)] 1 = mkF m 0 #[.val (.int 3)] [] := by first | (simp [entryFrame, mkF, argsToLocals, Value.category]; done) | rfl
theorem own_nlen3 (l : Launch) (Z : State) (a0 : Array Value) (hw : hWt a0 Z) (ws : List Jvm.Cond)  (h0 : Heap) (n0 : Nat) (Z0 : n0 ≤ h0.size) (X00 : Old Z n0 h0)  :
 own_MN l mN4 jdk_52_method_3_code 1 (some .int) ws rm_0_0_0_0 Z #[(.int 3)] h0 (Q_own_nlen3 Z  h0 n0) := by
 refine own_bodyN (plainFor_of_name own_pn1) fun p e s m below meth c s₁ Bd hx hby hml hown hZ X0 e0 => ?_
 have N0 := Fr.nil n0
 have K0 : Keep h0 h0 [] := Keep.refl h0 []
 refine own_st (fun tq kq => castTop (ef_own_nlen3 m ) kq) ?_
 show own_G p e below _ (s₁.setTop (mkF m 0 #[vI 3] []))
 refine s_iloadN X0 hx (hb hby dNL_0) rfl ?_
 show own_G p e below _ (s₁.setTop (mkF m 1 #[vI 3] [(.int 3)]))
 refine own_st (fun tq kq => XS.ifYes X0.here hx rfl (pc0 := 1) (pc' := 12) rfl (hb hby dNL_1) rfl ((if0 _ _).trans (flt (by decide : ¬ ((3 : Int32) < (0 : Int32)))).2.1) (by decide) (by decide) kq) ?_
 refine s_iloadN X0 hx (hb hby dNL_12) rfl ?_
 refine own_st (fun tq kq => X0.ldcInt hx hown (mvT hZ (wd119 hw)) (g := (mkF m 13 #[vI 3] [(.int 3)])) rfl (hb hby dNL_13) _ kq) ?_
 show own_G p e below _ (s₁.setTop (mkF m 15 #[vI 3] [(.int 1073741823), (.int 3)]))
 refine own_st (fun tq kq => XS.icmpYes X0.here hx rfl (pc0 := 15) (pc' := 55) rfl (hb hby dNL_15) rfl (tlt (by decide : ((3 : Int32) < (1073741823 : Int32)))).1 (by decide) (by decide) kq) ?_
 refine s_iloadN X0 hx (hb hby dNL_55) rfl ?_
 refine s_iconst X0 hx (hb hby dNL_56) ?_
 refine own_st (fun tq kq => XS.ishl X0.here hx rfl (hb hby dNL_57) rfl kq) ?_
 show own_G p e below _ (s₁.setTop (mkF m 58 #[vI 3] [(.int 6)]))
 obtain ⟨fs, hr, hrun, hended, hW, hsame⟩ := X0.leave (v := some (.int 6)) (fun h => by rw [Bd.returns] at h; cases h)
 refine ⟨_, _, retOut X0 hx Bd.returns rfl (Or.inl ⟨rfl, by simp, _, rfl⟩) (hb hby dNL_58) hr, hrun, hended, _, _, rfl, ?_, ⟨_, rfl⟩, hW, hsame.mono (by decide) (by decide)⟩
 change Q_own_nlen3 Z  h0 n0 _ s₁.heap _; rw [e0]; exact ⟨rfl, N0, rfl⟩

def Q_own_nfor3 (Z : State)  (h0 : Heap) (n0 : Nat) (v : Option Value) (h : Heap) (L : List Loc) : Prop := ∃ (t : Nat) (kb : ClassId), v = some (.ref t) ∧ Fr n0 L ∧ Keep h0 h [] ∧ h0.size ≤ t ∧ t < h.size ∧ Arv Z h t kb .byte (6 : Int32) [.int (0 : Int32), .int (0 : Int32), .int (0 : Int32), .int (0 : Int32), .int (0 : Int32), .int (0 : Int32)] (.int 0)
theorem ef_own_nfor3 (m : MethodId)  : entryFrame m #[(.int 3)] 1 = mkF m 0 #[.val (.int 3)] [] := by first | (simp [entryFrame, mkF, argsToLocals, Value.category]; done) | rfl
theorem own_nfor3 (l : Launch) (Z : State) (a0 : Array Value) (hw : hWt a0 Z) (ws : List Jvm.Cond)  (h0 : Heap) (n0 : Nat) (Z0 : n0 ≤ h0.size) (X00 : Old Z n0 h0)  :
 own_MN l mN5 jdk_52_method_2_code 1 (some (.array .byte)) ws rm_1_1_6_14 Z #[(.int 3)] h0 (Q_own_nfor3 Z  h0 n0) := by
 refine own_bodyN (plainFor_of_name own_pn1) fun p e s m below meth c s₁ Bd hx hby hml hown hZ X0 e0 => ?_
 have N0 := Fr.nil n0
 have K0 : Keep h0 h0 [] := Keep.refl h0 []
 refine own_st (fun tq kq => castTop (ef_own_nfor3 m ) kq) ?_
 show own_G p e below _ (s₁.setTop (mkF m 0 #[vI 3] []))
 refine s_iloadN X0 hx (hb hby dNF_0) rfl ?_
 obtain ⟨_, _, ⟨T1, L1, k1, n1⟩, -, X1, ⟨Lc1, hQ1, l1, y1, z1⟩, st1⟩ := Jvm.LawKit.callS X0 hx (y := mN4) hown (mvT hZ (wd116 hw)) (mvT hZ (wd117 hw)) (mvT hZ (wd35 hw)) (mvT hZ (wd118 hw)) (by decide) (own_backN (W := 0) (own_nlen3 l Z a0 hw []  h0 n0 (by omega) (X00.keep K0 all0) ) hZ (wd118 hw) (wd35 hw) (by decide) (by decide)) (g := (mkF m 1 #[vI 3] [(.int 3)])) rfl (by rw [hml]; rfl) (argsL := [(.int 3)]) (rest := []) (lenOf own_pd1 rfl) rfl (Nat.le_of_eq rfl) (hb hby dNF_1) (fun _ _ => ⟨rfl, e0, (by decide : 0 + 0 ≤ _), (by decide : 0 + 0 ≤ _)⟩)
 dsimp only [Pt.U, Pt.locs, Pt.cells, Pt.slots] at X1 l1 y1 z1 st1 hQ1
 subst l1 y1 z1
 obtain ⟨rfl, Nq1, sm1⟩ := hQ1
 have N1 := Fr.app N0 Nq1
 refine own_st st1 ?_
 obtain ⟨T2, h2, k2, X2, e2, E2, A2, st2⟩ := newP X1 hx hZ (hw _ (List.mem_of_getElem? (i := 16) rfl)) sm1 (g := (mkF m 4 #[vI 3] [(.int 6)])) rfl (hb hby dNF_4) rfl (by decide) (cap := 6) (by decide) (by decide) (by decide) (by decide)
 obtain ⟨b2, g2⟩ : ∃ z, z = h0.size := ⟨_, rfl⟩
 rw [← g2] at A2 st2
 have lt2 : b2 < h2.size := A2.lt
 have V2 : Arv Z h2 b2 k2 .byte (6 : Int32) [(.int (0 : Int32)), (.int (0 : Int32)), (.int (0 : Int32)), (.int (0 : Int32)), (.int (0 : Int32)), (.int (0 : Int32))] (.int (0 : Int32)) := (Arv.new A2 (by decide)).pad (pad_rep [] (.int (0 : Int32)) 6)
 have sz2 : h0.size ≤ h2.size := E2.1
 have K2 : Keep h0 h2 [] := K0.ext E2
 refine own_st st2 ?_
 obtain ⟨fs, hr, hrun, hended, hW, hsame⟩ := X2.leave (v := some (.ref b2)) (fun h => by rw [Bd.returns] at h; cases h)
 refine ⟨_, _, retOut X2 hx Bd.returns rfl (Or.inr (Or.inr (Or.inr (Or.inr ⟨rfl, rfl, rfl⟩)))) (hb hby dNF_6) hr, hrun, hended, _, _, rfl, ?_, ⟨_, rfl⟩, hW, hsame.mono (by decide) (by decide)⟩
 change Q_own_nfor3 Z  h0 n0 _ T2.heap _; rw [e2]; exact ⟨b2, _, rfl, N1, K2, (by omega), (by omega), V2⟩

def Q_own_put3_0 (Z : State) (t : Nat) (kb : ClassId) (ch : Int32) (bt0 bt1 bt2 bt3 bt4 bt5 : Int32) (h0 : Heap) (n0 : Nat) (v : Option Value) (h : Heap) (L : List Loc) : Prop := v = none ∧ Fr n0 L ∧ Keep h0 h [t] ∧ Arv Z h t kb .byte (6 : Int32) [.int (L8 ch), .int (H8 ch), .int bt2, .int bt3, .int bt4, .int bt5] (.int 0)
theorem ef_own_put3_0 (m : MethodId) (x0 : Nat) (x2 : Int32) : entryFrame m #[(.ref x0), (.int 0), (.int x2)] 3 = mkF m 0 #[.val (.ref x0), .val (.int 0), .val (.int x2)] [] := by first | (simp [entryFrame, mkF, argsToLocals, Value.category]; done) | rfl
theorem own_put3_0 (l : Launch) (Z : State) (a0 : Array Value) (hw : hWt a0 Z) (ws : List Jvm.Cond) (t : Nat) (kb : ClassId) (ch : Int32) (bt0 bt1 bt2 bt3 bt4 bt5 : Int32) (h0 : Heap) (n0 : Nat) (Z0 : n0 ≤ h0.size) (X00 : Old Z n0 h0) (OA : oA Z) (OH : oH Z) (OL : oL Z) (Vt : Arv Z h0 t kb .byte (6 : Int32) [.int bt0, .int bt1, .int bt2, .int bt3, .int bt4, .int bt5] (.int 0)) (gt : n0 ≤ t) :
 own_MN l mN6 jdk_52_method_4_code 3 none ws rm_0_0_0_0 Z #[(.ref t), (.int 0), (.int ch)] h0 (Q_own_put3_0 Z t kb ch bt0 bt1 bt2 bt3 bt4 bt5 h0 n0) := by
 refine own_bodyN (plainFor_of_name own_pn1) fun p e s m below meth c s₁ Bd hx hby hml hown hZ X0 e0 => ?_
 have N0 := Fr.nil n0
 have K0 : Keep h0 h0 [t] := Keep.refl h0 [t]
 refine own_st (fun tq kq => castTop (ef_own_put3_0 m (t) (ch)) kq) ?_
 show own_G p e below _ (s₁.setTop (mkF m 0 #[vR t, vI 0, vI ch] []))
 have hws0 : ∀ y ∈ [t], n0 ≤ y := allS gt all0
 obtain ⟨T1, X1, e1, st1⟩ := getS2 X0 hx hZ hown (host := "") (Or.inl (wd123 hw)) Via.refl e0 (OA.ext (X00.keep K0 hws0).2) (g := (mkF m 0 #[vR t, vI 0, vI ch] [])) rfl (hb hby dPU_0)
 refine own_st st1 ?_
 refine own_st (fun tq kq => XS.ifYes X1.here hx rfl (pc0 := 3) (pc' := 28) rfl (hb hby dPU_3) rfl ((if0 _ _).trans (feq (by decide : ¬ ((1 : Int32) = (0 : Int32)))).2) (by decide) (by decide) kq) ?_
 refine s_iloadN X1 hx (hb hby dPU_28) rfl ?_
 refine s_iconst X1 hx (hb hby dPU_29) ?_
 refine own_st (fun tq kq => XS.ishl X1.here hx rfl (hb hby dPU_30) rfl kq) ?_
 show own_G p e below _ (T1.setTop (mkF m 31 #[vR t, vI 0, vI ch] [(.int 0)]))
 refine own_st (fun tq kq => XS.istoreN X1.here hx rfl (hb hby dPU_31) rfl (l' := #[vR t, vI 0, vI ch]) rfl kq) ?_
 refine s_aloadN X1 hx (hb hby dPU_32) rfl rfl ?_
 refine s_iloadN X1 hx (hb hby dPU_33) rfl ?_
 refine own_st (fun tq kq => XS.iinc X1.here hx rfl (hb hby dPU_34) rfl (l' := #[vR t, vI 1, vI ch]) rfl kq) ?_
 show own_G p e below _ (T1.setTop (mkF m 37 #[vR t, vI 1, vI ch] [(.int 0), (.ref t)]))
 refine s_iloadN X1 hx (hb hby dPU_37) rfl ?_
 obtain ⟨T2, X2, e2, st2⟩ := getS2 X1 hx hZ hown (host := "") (Or.inl (wd124 hw)) Via.refl e1 (OH.ext (X00.keep K0 hws0).2) (g := (mkF m 38 #[vR t, vI 1, vI ch] [(.int ch), (.int 0), (.ref t)])) rfl (hb hby dPU_38)
 refine own_st st2 ?_
 refine own_st (fun tq kq => XS.ishr X2.here hx rfl (hb hby dPU_41) rfl kq) ?_
 refine own_st (fun tq kq => XS.i2b X2.here hx rfl (hb hby dPU_42) rfl kq) ?_
 obtain ⟨cl3, Ar3, q3, S_3, N_3, H_3, G_3⟩ := id Vt
 have in3 : ¬ ((0 : Int32) < 0 ∨ cl3.slots.size ≤ ((0 : Int32)).toNatClampNeg) := inb_of S_3 ⟨by decide, by decide⟩
 obtain ⟨T3, h3, X3, e3, W3, st3⟩ := stB X2 hx hZ e2 Ar3 (j := (0 : Int32)) in3 (g := (mkF m 43 #[vR t, vI 1, vI ch] [(.int ((ch >>> ((0 : Int32) &&& 31)).toInt8.toInt32)), (.int 0), (.ref t)])) rfl rfl (hb hby dPU_43)
 have V3 := Arv.set Ar3 q3 S_3 N_3 H_3 G_3 (fits_nar_byte _) W3 0 rfl (Nat.le_of_ble_eq_true rfl)
 have sz3 : h0.size ≤ h3.size := (Keep.of_wr W3).1
 have K3 : Keep h0 h3 [t] := K0.wr W3 (Or.inl (by simp))
 have N3 := Fr.snoc X3 N0 (own_le (by omega))
 refine own_st st3 ?_
 refine s_aloadN X3 hx (hb hby dPU_44) rfl rfl ?_
 refine s_iloadN X3 hx (hb hby dPU_45) rfl ?_
 refine s_iloadN X3 hx (hb hby dPU_46) rfl ?_
 obtain ⟨T4, X4, e4, st4⟩ := getS2 X3 hx hZ hown (host := "") (Or.inl (wd125 hw)) Via.refl e3 (OL.ext (X00.keep K3 hws0).2) (g := (mkF m 47 #[vR t, vI 1, vI ch] [(.int ch), (.int 1), (.ref t)])) rfl (hb hby dPU_47)
 refine own_st st4 ?_
 refine own_st (fun tq kq => XS.ishr X4.here hx rfl (hb hby dPU_50) rfl kq) ?_
 refine own_st (fun tq kq => XS.i2b X4.here hx rfl (hb hby dPU_51) rfl kq) ?_
 obtain ⟨cl5, Ar5, q5, S_5, N_5, H_5, G_5⟩ := id V3
 have in5 : ¬ ((1 : Int32) < 0 ∨ cl5.slots.size ≤ ((1 : Int32)).toNatClampNeg) := inb_of S_5 ⟨by decide, by decide⟩
 obtain ⟨T5, h5, X5, e5, W5, st5⟩ := stB X4 hx hZ e4 Ar5 (j := (1 : Int32)) in5 (g := (mkF m 52 #[vR t, vI 1, vI ch] [(.int ((ch >>> ((8 : Int32) &&& 31)).toInt8.toInt32)), (.int 1), (.ref t)])) rfl rfl (hb hby dPU_52)
 have V5 := Arv.set Ar5 q5 S_5 N_5 H_5 G_5 (fits_nar_byte _) W5 1 rfl (Nat.le_of_ble_eq_true rfl)
 have sz5 : h3.size ≤ h5.size := (Keep.of_wr W5).1
 have K5 : Keep h0 h5 [t] := K3.wr W5 (Or.inl (by simp))
 have N5 := Fr.snoc X5 N3 (own_le (by omega))
 refine own_st st5 ?_
 obtain ⟨fs, hr, hrun, hended, hW, hsame⟩ := X5.leave (v := none) (fun _ => rfl)
 refine ⟨_, _, X5.returnOut hx Bd.returns (hb hby dPU_53) hr, hrun, hended, _, _, rfl, ?_, ⟨_, rfl⟩, hW, hsame.mono (by decide) (by decide)⟩
 change Q_own_put3_0 Z t kb ch bt0 bt1 bt2 bt3 bt4 bt5 h0 n0 _ T5.heap _; rw [e5]; exact ⟨rfl, N5, K5, (by have q : Arv Z _ t kb .byte (6 : Int32) [.int (nar .byte ((ch >>> ((0 : Int32) &&& 31)).toInt8.toInt32)), .int (nar .byte ((ch >>> ((8 : Int32) &&& 31)).toInt8.toInt32)), .int bt2, .int bt3, .int bt4, .int bt5] (.int 0) := V5; rwa [own_pb0, own_pb8] at q)⟩

def Q_own_put3_1 (Z : State) (t : Nat) (kb : ClassId) (ch : Int32) (bt0 bt1 bt2 bt3 bt4 bt5 : Int32) (h0 : Heap) (n0 : Nat) (v : Option Value) (h : Heap) (L : List Loc) : Prop := v = none ∧ Fr n0 L ∧ Keep h0 h [t] ∧ Arv Z h t kb .byte (6 : Int32) [.int bt0, .int bt1, .int (L8 ch), .int (H8 ch), .int bt4, .int bt5] (.int 0)
theorem ef_own_put3_1 (m : MethodId) (x0 : Nat) (x2 : Int32) : entryFrame m #[(.ref x0), (.int 1), (.int x2)] 3 = mkF m 0 #[.val (.ref x0), .val (.int 1), .val (.int x2)] [] := by first | (simp [entryFrame, mkF, argsToLocals, Value.category]; done) | rfl
theorem own_put3_1 (l : Launch) (Z : State) (a0 : Array Value) (hw : hWt a0 Z) (ws : List Jvm.Cond) (t : Nat) (kb : ClassId) (ch : Int32) (bt0 bt1 bt2 bt3 bt4 bt5 : Int32) (h0 : Heap) (n0 : Nat) (Z0 : n0 ≤ h0.size) (X00 : Old Z n0 h0) (OA : oA Z) (OH : oH Z) (OL : oL Z) (Vt : Arv Z h0 t kb .byte (6 : Int32) [.int bt0, .int bt1, .int bt2, .int bt3, .int bt4, .int bt5] (.int 0)) (gt : n0 ≤ t) :
 own_MN l mN6 jdk_52_method_4_code 3 none ws rm_0_0_0_0 Z #[(.ref t), (.int 1), (.int ch)] h0 (Q_own_put3_1 Z t kb ch bt0 bt1 bt2 bt3 bt4 bt5 h0 n0) := by
 refine own_bodyN (plainFor_of_name own_pn1) fun p e s m below meth c s₁ Bd hx hby hml hown hZ X0 e0 => ?_
 have N0 := Fr.nil n0
 have K0 : Keep h0 h0 [t] := Keep.refl h0 [t]
 refine own_st (fun tq kq => castTop (ef_own_put3_1 m (t) (ch)) kq) ?_
 show own_G p e below _ (s₁.setTop (mkF m 0 #[vR t, vI 1, vI ch] []))
 have hws0 : ∀ y ∈ [t], n0 ≤ y := allS gt all0
 obtain ⟨T1, X1, e1, st1⟩ := getS2 X0 hx hZ hown (host := "") (Or.inl (wd123 hw)) Via.refl e0 (OA.ext (X00.keep K0 hws0).2) (g := (mkF m 0 #[vR t, vI 1, vI ch] [])) rfl (hb hby dPU_0)
 refine own_st st1 ?_
 refine own_st (fun tq kq => XS.ifYes X1.here hx rfl (pc0 := 3) (pc' := 28) rfl (hb hby dPU_3) rfl ((if0 _ _).trans (feq (by decide : ¬ ((1 : Int32) = (0 : Int32)))).2) (by decide) (by decide) kq) ?_
 refine s_iloadN X1 hx (hb hby dPU_28) rfl ?_
 refine s_iconst X1 hx (hb hby dPU_29) ?_
 refine own_st (fun tq kq => XS.ishl X1.here hx rfl (hb hby dPU_30) rfl kq) ?_
 show own_G p e below _ (T1.setTop (mkF m 31 #[vR t, vI 1, vI ch] [(.int 2)]))
 refine own_st (fun tq kq => XS.istoreN X1.here hx rfl (hb hby dPU_31) rfl (l' := #[vR t, vI 2, vI ch]) rfl kq) ?_
 refine s_aloadN X1 hx (hb hby dPU_32) rfl rfl ?_
 refine s_iloadN X1 hx (hb hby dPU_33) rfl ?_
 refine own_st (fun tq kq => XS.iinc X1.here hx rfl (hb hby dPU_34) rfl (l' := #[vR t, vI 3, vI ch]) rfl kq) ?_
 show own_G p e below _ (T1.setTop (mkF m 37 #[vR t, vI 3, vI ch] [(.int 2), (.ref t)]))
 refine s_iloadN X1 hx (hb hby dPU_37) rfl ?_
 obtain ⟨T2, X2, e2, st2⟩ := getS2 X1 hx hZ hown (host := "") (Or.inl (wd124 hw)) Via.refl e1 (OH.ext (X00.keep K0 hws0).2) (g := (mkF m 38 #[vR t, vI 3, vI ch] [(.int ch), (.int 2), (.ref t)])) rfl (hb hby dPU_38)
 refine own_st st2 ?_
 refine own_st (fun tq kq => XS.ishr X2.here hx rfl (hb hby dPU_41) rfl kq) ?_
 refine own_st (fun tq kq => XS.i2b X2.here hx rfl (hb hby dPU_42) rfl kq) ?_
 obtain ⟨cl3, Ar3, q3, S_3, N_3, H_3, G_3⟩ := id Vt
 have in3 : ¬ ((2 : Int32) < 0 ∨ cl3.slots.size ≤ ((2 : Int32)).toNatClampNeg) := inb_of S_3 ⟨by decide, by decide⟩
 obtain ⟨T3, h3, X3, e3, W3, st3⟩ := stB X2 hx hZ e2 Ar3 (j := (2 : Int32)) in3 (g := (mkF m 43 #[vR t, vI 3, vI ch] [(.int ((ch >>> ((0 : Int32) &&& 31)).toInt8.toInt32)), (.int 2), (.ref t)])) rfl rfl (hb hby dPU_43)
 have V3 := Arv.set Ar3 q3 S_3 N_3 H_3 G_3 (fits_nar_byte _) W3 2 rfl (Nat.le_of_ble_eq_true rfl)
 have sz3 : h0.size ≤ h3.size := (Keep.of_wr W3).1
 have K3 : Keep h0 h3 [t] := K0.wr W3 (Or.inl (by simp))
 have N3 := Fr.snoc X3 N0 (own_le (by omega))
 refine own_st st3 ?_
 refine s_aloadN X3 hx (hb hby dPU_44) rfl rfl ?_
 refine s_iloadN X3 hx (hb hby dPU_45) rfl ?_
 refine s_iloadN X3 hx (hb hby dPU_46) rfl ?_
 obtain ⟨T4, X4, e4, st4⟩ := getS2 X3 hx hZ hown (host := "") (Or.inl (wd125 hw)) Via.refl e3 (OL.ext (X00.keep K3 hws0).2) (g := (mkF m 47 #[vR t, vI 3, vI ch] [(.int ch), (.int 3), (.ref t)])) rfl (hb hby dPU_47)
 refine own_st st4 ?_
 refine own_st (fun tq kq => XS.ishr X4.here hx rfl (hb hby dPU_50) rfl kq) ?_
 refine own_st (fun tq kq => XS.i2b X4.here hx rfl (hb hby dPU_51) rfl kq) ?_
 obtain ⟨cl5, Ar5, q5, S_5, N_5, H_5, G_5⟩ := id V3
 have in5 : ¬ ((3 : Int32) < 0 ∨ cl5.slots.size ≤ ((3 : Int32)).toNatClampNeg) := inb_of S_5 ⟨by decide, by decide⟩
 obtain ⟨T5, h5, X5, e5, W5, st5⟩ := stB X4 hx hZ e4 Ar5 (j := (3 : Int32)) in5 (g := (mkF m 52 #[vR t, vI 3, vI ch] [(.int ((ch >>> ((8 : Int32) &&& 31)).toInt8.toInt32)), (.int 3), (.ref t)])) rfl rfl (hb hby dPU_52)
 have V5 := Arv.set Ar5 q5 S_5 N_5 H_5 G_5 (fits_nar_byte _) W5 3 rfl (Nat.le_of_ble_eq_true rfl)
 have sz5 : h3.size ≤ h5.size := (Keep.of_wr W5).1
 have K5 : Keep h0 h5 [t] := K3.wr W5 (Or.inl (by simp))
 have N5 := Fr.snoc X5 N3 (own_le (by omega))
 refine own_st st5 ?_
 obtain ⟨fs, hr, hrun, hended, hW, hsame⟩ := X5.leave (v := none) (fun _ => rfl)
 refine ⟨_, _, X5.returnOut hx Bd.returns (hb hby dPU_53) hr, hrun, hended, _, _, rfl, ?_, ⟨_, rfl⟩, hW, hsame.mono (by decide) (by decide)⟩
 change Q_own_put3_1 Z t kb ch bt0 bt1 bt2 bt3 bt4 bt5 h0 n0 _ T5.heap _; rw [e5]; exact ⟨rfl, N5, K5, (by have q : Arv Z _ t kb .byte (6 : Int32) [.int bt0, .int bt1, .int (nar .byte ((ch >>> ((0 : Int32) &&& 31)).toInt8.toInt32)), .int (nar .byte ((ch >>> ((8 : Int32) &&& 31)).toInt8.toInt32)), .int bt4, .int bt5] (.int 0) := V5; rwa [own_pb0, own_pb8] at q)⟩

def Q_own_put3_2 (Z : State) (t : Nat) (kb : ClassId) (ch : Int32) (bt0 bt1 bt2 bt3 bt4 bt5 : Int32) (h0 : Heap) (n0 : Nat) (v : Option Value) (h : Heap) (L : List Loc) : Prop := v = none ∧ Fr n0 L ∧ Keep h0 h [t] ∧ Arv Z h t kb .byte (6 : Int32) [.int bt0, .int bt1, .int bt2, .int bt3, .int (L8 ch), .int (H8 ch)] (.int 0)
theorem ef_own_put3_2 (m : MethodId) (x0 : Nat) (x2 : Int32) : entryFrame m #[(.ref x0), (.int 2), (.int x2)] 3 = mkF m 0 #[.val (.ref x0), .val (.int 2), .val (.int x2)] [] := by first | (simp [entryFrame, mkF, argsToLocals, Value.category]; done) | rfl
theorem own_put3_2 (l : Launch) (Z : State) (a0 : Array Value) (hw : hWt a0 Z) (ws : List Jvm.Cond) (t : Nat) (kb : ClassId) (ch : Int32) (bt0 bt1 bt2 bt3 bt4 bt5 : Int32) (h0 : Heap) (n0 : Nat) (Z0 : n0 ≤ h0.size) (X00 : Old Z n0 h0) (OA : oA Z) (OH : oH Z) (OL : oL Z) (Vt : Arv Z h0 t kb .byte (6 : Int32) [.int bt0, .int bt1, .int bt2, .int bt3, .int bt4, .int bt5] (.int 0)) (gt : n0 ≤ t) :
 own_MN l mN6 jdk_52_method_4_code 3 none ws rm_0_0_0_0 Z #[(.ref t), (.int 2), (.int ch)] h0 (Q_own_put3_2 Z t kb ch bt0 bt1 bt2 bt3 bt4 bt5 h0 n0) := by
 refine own_bodyN (plainFor_of_name own_pn1) fun p e s m below meth c s₁ Bd hx hby hml hown hZ X0 e0 => ?_
 have N0 := Fr.nil n0
 have K0 : Keep h0 h0 [t] := Keep.refl h0 [t]
 refine own_st (fun tq kq => castTop (ef_own_put3_2 m (t) (ch)) kq) ?_
 show own_G p e below _ (s₁.setTop (mkF m 0 #[vR t, vI 2, vI ch] []))
 have hws0 : ∀ y ∈ [t], n0 ≤ y := allS gt all0
 obtain ⟨T1, X1, e1, st1⟩ := getS2 X0 hx hZ hown (host := "") (Or.inl (wd123 hw)) Via.refl e0 (OA.ext (X00.keep K0 hws0).2) (g := (mkF m 0 #[vR t, vI 2, vI ch] [])) rfl (hb hby dPU_0)
 refine own_st st1 ?_
 refine own_st (fun tq kq => XS.ifYes X1.here hx rfl (pc0 := 3) (pc' := 28) rfl (hb hby dPU_3) rfl ((if0 _ _).trans (feq (by decide : ¬ ((1 : Int32) = (0 : Int32)))).2) (by decide) (by decide) kq) ?_
 refine s_iloadN X1 hx (hb hby dPU_28) rfl ?_
 refine s_iconst X1 hx (hb hby dPU_29) ?_
 refine own_st (fun tq kq => XS.ishl X1.here hx rfl (hb hby dPU_30) rfl kq) ?_
 show own_G p e below _ (T1.setTop (mkF m 31 #[vR t, vI 2, vI ch] [(.int 4)]))
 refine own_st (fun tq kq => XS.istoreN X1.here hx rfl (hb hby dPU_31) rfl (l' := #[vR t, vI 4, vI ch]) rfl kq) ?_
 refine s_aloadN X1 hx (hb hby dPU_32) rfl rfl ?_
 refine s_iloadN X1 hx (hb hby dPU_33) rfl ?_
 refine own_st (fun tq kq => XS.iinc X1.here hx rfl (hb hby dPU_34) rfl (l' := #[vR t, vI 5, vI ch]) rfl kq) ?_
 show own_G p e below _ (T1.setTop (mkF m 37 #[vR t, vI 5, vI ch] [(.int 4), (.ref t)]))
 refine s_iloadN X1 hx (hb hby dPU_37) rfl ?_
 obtain ⟨T2, X2, e2, st2⟩ := getS2 X1 hx hZ hown (host := "") (Or.inl (wd124 hw)) Via.refl e1 (OH.ext (X00.keep K0 hws0).2) (g := (mkF m 38 #[vR t, vI 5, vI ch] [(.int ch), (.int 4), (.ref t)])) rfl (hb hby dPU_38)
 refine own_st st2 ?_
 refine own_st (fun tq kq => XS.ishr X2.here hx rfl (hb hby dPU_41) rfl kq) ?_
 refine own_st (fun tq kq => XS.i2b X2.here hx rfl (hb hby dPU_42) rfl kq) ?_
 obtain ⟨cl3, Ar3, q3, S_3, N_3, H_3, G_3⟩ := id Vt
 have in3 : ¬ ((4 : Int32) < 0 ∨ cl3.slots.size ≤ ((4 : Int32)).toNatClampNeg) := inb_of S_3 ⟨by decide, by decide⟩
 obtain ⟨T3, h3, X3, e3, W3, st3⟩ := stB X2 hx hZ e2 Ar3 (j := (4 : Int32)) in3 (g := (mkF m 43 #[vR t, vI 5, vI ch] [(.int ((ch >>> ((0 : Int32) &&& 31)).toInt8.toInt32)), (.int 4), (.ref t)])) rfl rfl (hb hby dPU_43)
 have V3 := Arv.set Ar3 q3 S_3 N_3 H_3 G_3 (fits_nar_byte _) W3 4 rfl (Nat.le_of_ble_eq_true rfl)
 have sz3 : h0.size ≤ h3.size := (Keep.of_wr W3).1
 have K3 : Keep h0 h3 [t] := K0.wr W3 (Or.inl (by simp))
 have N3 := Fr.snoc X3 N0 (own_le (by omega))
 refine own_st st3 ?_
 refine s_aloadN X3 hx (hb hby dPU_44) rfl rfl ?_
 refine s_iloadN X3 hx (hb hby dPU_45) rfl ?_
 refine s_iloadN X3 hx (hb hby dPU_46) rfl ?_
 obtain ⟨T4, X4, e4, st4⟩ := getS2 X3 hx hZ hown (host := "") (Or.inl (wd125 hw)) Via.refl e3 (OL.ext (X00.keep K3 hws0).2) (g := (mkF m 47 #[vR t, vI 5, vI ch] [(.int ch), (.int 5), (.ref t)])) rfl (hb hby dPU_47)
 refine own_st st4 ?_
 refine own_st (fun tq kq => XS.ishr X4.here hx rfl (hb hby dPU_50) rfl kq) ?_
 refine own_st (fun tq kq => XS.i2b X4.here hx rfl (hb hby dPU_51) rfl kq) ?_
 obtain ⟨cl5, Ar5, q5, S_5, N_5, H_5, G_5⟩ := id V3
 have in5 : ¬ ((5 : Int32) < 0 ∨ cl5.slots.size ≤ ((5 : Int32)).toNatClampNeg) := inb_of S_5 ⟨by decide, by decide⟩
 obtain ⟨T5, h5, X5, e5, W5, st5⟩ := stB X4 hx hZ e4 Ar5 (j := (5 : Int32)) in5 (g := (mkF m 52 #[vR t, vI 5, vI ch] [(.int ((ch >>> ((8 : Int32) &&& 31)).toInt8.toInt32)), (.int 5), (.ref t)])) rfl rfl (hb hby dPU_52)
 have V5 := Arv.set Ar5 q5 S_5 N_5 H_5 G_5 (fits_nar_byte _) W5 5 rfl (Nat.le_of_ble_eq_true rfl)
 have sz5 : h3.size ≤ h5.size := (Keep.of_wr W5).1
 have K5 : Keep h0 h5 [t] := K3.wr W5 (Or.inl (by simp))
 have N5 := Fr.snoc X5 N3 (own_le (by omega))
 refine own_st st5 ?_
 obtain ⟨fs, hr, hrun, hended, hW, hsame⟩ := X5.leave (v := none) (fun _ => rfl)
 refine ⟨_, _, X5.returnOut hx Bd.returns (hb hby dPU_53) hr, hrun, hended, _, _, rfl, ?_, ⟨_, rfl⟩, hW, hsame.mono (by decide) (by decide)⟩
 change Q_own_put3_2 Z t kb ch bt0 bt1 bt2 bt3 bt4 bt5 h0 n0 _ T5.heap _; rw [e5]; exact ⟨rfl, N5, K5, (by have q : Arv Z _ t kb .byte (6 : Int32) [.int bt0, .int bt1, .int bt2, .int bt3, .int (nar .byte ((ch >>> ((0 : Int32) &&& 31)).toInt8.toInt32)), .int (nar .byte ((ch >>> ((8 : Int32) &&& 31)).toInt8.toInt32))] (.int 0) := V5; rwa [own_pb0, own_pb8] at q)⟩

def Q_own_toB3 (Z : State) (b : Nat) (kC : ClassId) (dv : Value) (c0 c1 c2 : Int32) (h0 : Heap) (n0 : Nat) (v : Option Value) (h : Heap) (L : List Loc) : Prop := ∃ (t : Nat) (kb : ClassId), v = some (.ref t) ∧ Fr n0 L ∧ Keep h0 h [] ∧ h0.size ≤ t ∧ t < h.size ∧ Arv Z h t kb .byte (6 : Int32) [.int (L8 c0), .int (H8 c0), .int (L8 c1), .int (H8 c1), .int (L8 c2), .int (H8 c2)] (.int 0)
theorem ef_own_toB3 (m : MethodId) (x0 : Nat) : entryFrame m #[(.ref x0), (.int 0), (.int 3)] 5 = mkF m 0 #[.val (.ref x0), .val (.int 0), .val (.int 3), .unset, .unset] [] := by first | (simp [entryFrame, mkF, argsToLocals, Value.category]; done) | rfl
theorem own_toB3 (l : Launch) (Z : State) (a0 : Array Value) (hw : hWt a0 Z) (ws : List Jvm.Cond) (b : Nat) (kC : ClassId) (dv : Value) (c0 c1 c2 : Int32) (h0 : Heap) (n0 : Nat) (Z0 : n0 ≤ h0.size) (X00 : Old Z n0 h0) (OA : oA Z) (OH : oH Z) (OL : oL Z) (Vb : Arv Z h0 b kC .char (3 : Int32) [.int c0, .int c1, .int c2] dv) :
 own_MN l mN7 jdk_52_method_14_code 5 (some (.array .byte)) ws rm_2_1_6_40 Z #[(.ref b), (.int 0), (.int 3)] h0 (Q_own_toB3 Z b kC dv c0 c1 c2 h0 n0) := by
 refine own_bodyN (plainFor_of_name own_pn1) fun p e s m below meth c s₁ Bd hx hby hml hown hZ X0 e0 => ?_
 have N0 := Fr.nil n0
 have K0 : Keep h0 h0 [] := Keep.refl h0 []
 refine own_st (fun tq kq => castTop (ef_own_toB3 m (b)) kq) ?_
 show own_G p e below _ (s₁.setTop (mkF m 0 #[vR b, vI 0, vI 3, .unset, .unset] []))
 have ltb : b < h0.size := Vb.lt
 refine s_iloadN X0 hx (hb hby dTO_0) rfl ?_
 obtain ⟨_, _, ⟨T1, L1, k1, n1⟩, -, X1, ⟨Lc1, hQ1, l1, y1, z1⟩, st1⟩ := Jvm.LawKit.callS X0 hx (y := mN5) hown (mvT hZ (wd113 hw)) (mvT hZ (wd114 hw)) (mvT hZ (wd35 hw)) (mvT hZ (wd115 hw)) (by decide) (own_backN (W := 0) (own_nfor3 l Z a0 hw []  h0 n0 (by omega) (X00.keep K0 all0) ) hZ (wd115 hw) (wd35 hw) (by decide) (by decide)) (g := (mkF m 1 #[vR b, vI 0, vI 3, .unset, .unset] [(.int 3)])) rfl (by rw [hml]; rfl) (argsL := [(.int 3)]) (rest := []) (lenOf own_pd2 rfl) rfl (Nat.le_of_eq rfl) (hb hby dTO_1) (fun _ _ => ⟨rfl, e0, (by decide : 0 + 1 ≤ _), (by decide : 0 + 6 ≤ _)⟩)
 dsimp only [Pt.U, Pt.locs, Pt.cells, Pt.slots] at X1 l1 y1 z1 st1 hQ1
 subst l1 y1 z1
 obtain ⟨t1, kb1, rfl, Nq1, Kq1, gt1, lt1, Vt1⟩ := hQ1
 have KK1 : Keep h0 T1.heap [] := Kq1
 have sz1 : h0.size ≤ T1.heap.size := KK1.1
 have K1 : Keep h0 T1.heap [] := K0.trans KK1 all0
 have N1 := Fr.app N0 Nq1
 refine own_st st1 ?_
 refine own_st (fun tq kq => XS.astoreN X1.here hx rfl (hb hby dTO_4) rfl rfl (l' := #[vR b, vI 0, vI 3, vR t1, .unset]) rfl kq) ?_
 refine s_iconst X1 hx (hb hby dTO_5) ?_
 refine own_st (fun tq kq => XS.istore X1.here hx rfl (hb hby dTO_6) rfl (l' := #[vR b, vI 0, vI 3, vR t1, vI 0]) rfl kq) ?_
 refine s_iload X1 hx (hb hby dTO_8) rfl ?_
 show own_G p e below _ (T1.setTop (mkF m 10 #[vR b, vI 0, vI 3, vR t1, vI 0] [(.int 0)]))
 refine s_iloadN X1 hx (hb hby dTO_10) rfl ?_
 show own_G p e below _ (T1.setTop (mkF m 11 #[vR b, vI 0, vI 3, vR t1, vI 0] [(.int 3), (.int 0)]))
 refine own_st (fun tq kq => XS.icmpNo X1.here hx rfl (hb hby dTO_11) rfl (tlt (by decide : ((0 : Int32) < (3 : Int32)))).2.1 kq) ?_
 refine s_aloadN X1 hx (hb hby dTO_14) rfl rfl ?_
 refine s_iload X1 hx (hb hby dTO_15) rfl ?_
 refine s_aloadN X1 hx (hb hby dTO_17) rfl rfl ?_
 show own_G p e below _ (T1.setTop (mkF m 18 #[vR b, vI 0, vI 3, vR t1, vI 0] [(.ref b), (.int 0), (.ref t1)]))
 refine s_iloadN X1 hx (hb hby dTO_18) rfl ?_
 obtain ⟨cl2, Ar2, q2, S_2, N_2, H_2, G_2⟩ := id (Vb.keep KK1 nin0)
 have in2 : ¬ ((0 : Int32) < 0 ∨ cl2.slots.size ≤ ((0 : Int32)).toNatClampNeg) := inb_of S_2 ⟨by decide, by decide⟩
 have at2 : cl2.slots[((0 : Int32)).toNatClampNeg]? = some (.int c0) := H_2.at in2 rfl
 refine own_st (fun tq kq => X1.caload hx (j := (0 : Int32)) (v := (.int c0)) Ar2.1 (State.isArrayOf_alike hZ.alike Ar2.2.1) Ar2.2.2 in2 at2 (g := (mkF m 19 #[vR b, vI 0, vI 3, vR t1, vI 0] [(.int 0), (.ref b), (.int 0), (.ref t1)])) rfl rfl (hb hby dTO_19) _ kq) ?_
 obtain ⟨_, _, ⟨T3, L3, k3, n3⟩, -, X3, ⟨Lc3, hQ3, l3, y3, z3⟩, st3⟩ := Jvm.LawKit.callS X1 hx (y := mN6) hown (mvT hZ (wd120 hw)) (mvT hZ (wd121 hw)) (mvT hZ (wd35 hw)) (mvT hZ (wd122 hw)) (by decide) (own_backN (W := 0) (own_put3_0 l Z a0 hw [] (t1) (_) (c0) (_) (_) (_) (_) (_) (_) T1.heap n0 (by omega) (X00.keep K1 all0) OA OH OL Vt1 (by omega)) hZ (wd122 hw) (wd35 hw) (by decide) (by decide)) (g := (mkF m 20 #[vR b, vI 0, vI 3, vR t1, vI 0] [(.int c0), (.int 0), (.ref t1)])) rfl (by rw [hml]; rfl) (argsL := [(.ref t1), (.int 0), (.int c0)]) (rest := []) (lenOf own_pd3 rfl) rfl (Nat.le_of_eq rfl) (hb hby dTO_20) (fun _ _ => ⟨rfl, rfl, (by decide : 1 + 0 ≤ _), (by decide : 6 + 0 ≤ _)⟩)
 dsimp only [Pt.U, Pt.locs, Pt.cells, Pt.slots] at X3 l3 y3 z3 st3 hQ3
 subst l3 y3 z3
 obtain ⟨rfl, Nq3, Kq3, Vt3⟩ := hQ3
 have KK3 : Keep T1.heap T3.heap [t1] := Kq3
 have sz3 : T1.heap.size ≤ T3.heap.size := KK3.1
 have K3 : Keep h0 T3.heap [] := K1.trans KK3 (allS (Or.inr (own_le (by omega))) all0)
 have N3 := Fr.app N1 Nq3
 refine own_st st3 ?_
 refine own_st (fun tq kq => XS.iinc X3.here hx rfl (hb hby dTO_23) rfl (l' := #[vR b, vI 1, vI 3, vR t1, vI 0]) rfl kq) ?_
 refine own_st (fun tq kq => XS.iinc X3.here hx rfl (hb hby dTO_26) rfl (l' := #[vR b, vI 1, vI 3, vR t1, vI 1]) rfl kq) ?_
 refine own_st (fun tq kq => XS.goto X3.here hx rfl (pc0 := 29) (pc' := 8) rfl (hb hby dTO_29) (by decide) (by decide) kq) ?_
 refine s_iload X3 hx (hb hby dTO_8) rfl ?_
 show own_G p e below _ (T3.setTop (mkF m 10 #[vR b, vI 1, vI 3, vR t1, vI 1] [(.int 1)]))
 refine s_iloadN X3 hx (hb hby dTO_10) rfl ?_
 show own_G p e below _ (T3.setTop (mkF m 11 #[vR b, vI 1, vI 3, vR t1, vI 1] [(.int 3), (.int 1)]))
 refine own_st (fun tq kq => XS.icmpNo X3.here hx rfl (hb hby dTO_11) rfl (tlt (by decide : ((1 : Int32) < (3 : Int32)))).2.1 kq) ?_
 refine s_aloadN X3 hx (hb hby dTO_14) rfl rfl ?_
 refine s_iload X3 hx (hb hby dTO_15) rfl ?_
 refine s_aloadN X3 hx (hb hby dTO_17) rfl rfl ?_
 show own_G p e below _ (T3.setTop (mkF m 18 #[vR b, vI 1, vI 3, vR t1, vI 1] [(.ref b), (.int 1), (.ref t1)]))
 refine s_iloadN X3 hx (hb hby dTO_18) rfl ?_
 obtain ⟨cl4, Ar4, q4, S_4, N_4, H_4, G_4⟩ := id ((Vb.keep KK1 nin0).keep KK3 (ninS (own_ne (by omega)) nin0))
 have in4 : ¬ ((1 : Int32) < 0 ∨ cl4.slots.size ≤ ((1 : Int32)).toNatClampNeg) := inb_of S_4 ⟨by decide, by decide⟩
 have at4 : cl4.slots[((1 : Int32)).toNatClampNeg]? = some (.int c1) := H_4.at in4 rfl
 refine own_st (fun tq kq => X3.caload hx (j := (1 : Int32)) (v := (.int c1)) Ar4.1 (State.isArrayOf_alike hZ.alike Ar4.2.1) Ar4.2.2 in4 at4 (g := (mkF m 19 #[vR b, vI 1, vI 3, vR t1, vI 1] [(.int 1), (.ref b), (.int 1), (.ref t1)])) rfl rfl (hb hby dTO_19) _ kq) ?_
 obtain ⟨_, _, ⟨T5, L5, k5, n5⟩, -, X5, ⟨Lc5, hQ5, l5, y5, z5⟩, st5⟩ := Jvm.LawKit.callS X3 hx (y := mN6) hown (mvT hZ (wd120 hw)) (mvT hZ (wd121 hw)) (mvT hZ (wd35 hw)) (mvT hZ (wd122 hw)) (by decide) (own_backN (W := 0) (own_put3_1 l Z a0 hw [] (t1) (_) (c1) (_) (_) (_) (_) (_) (_) T3.heap n0 (by omega) (X00.keep K3 all0) OA OH OL Vt3 (by omega)) hZ (wd122 hw) (wd35 hw) (by decide) (by decide)) (g := (mkF m 20 #[vR b, vI 1, vI 3, vR t1, vI 1] [(.int c1), (.int 1), (.ref t1)])) rfl (by rw [hml]; rfl) (argsL := [(.ref t1), (.int 1), (.int c1)]) (rest := []) (lenOf own_pd3 rfl) rfl (Nat.le_of_eq rfl) (hb hby dTO_20) (fun _ _ => ⟨rfl, rfl, (by decide : 1 + 0 ≤ _), (by decide : 6 + 0 ≤ _)⟩)
 dsimp only [Pt.U, Pt.locs, Pt.cells, Pt.slots] at X5 l5 y5 z5 st5 hQ5
 subst l5 y5 z5
 obtain ⟨rfl, Nq5, Kq5, Vt5⟩ := hQ5
 have KK5 : Keep T3.heap T5.heap [t1] := Kq5
 have sz5 : T3.heap.size ≤ T5.heap.size := KK5.1
 have K5 : Keep h0 T5.heap [] := K3.trans KK5 (allS (Or.inr (own_le (by omega))) all0)
 have N5 := Fr.app N3 Nq5
 refine own_st st5 ?_
 refine own_st (fun tq kq => XS.iinc X5.here hx rfl (hb hby dTO_23) rfl (l' := #[vR b, vI 2, vI 3, vR t1, vI 1]) rfl kq) ?_
 refine own_st (fun tq kq => XS.iinc X5.here hx rfl (hb hby dTO_26) rfl (l' := #[vR b, vI 2, vI 3, vR t1, vI 2]) rfl kq) ?_
 refine own_st (fun tq kq => XS.goto X5.here hx rfl (pc0 := 29) (pc' := 8) rfl (hb hby dTO_29) (by decide) (by decide) kq) ?_
 refine s_iload X5 hx (hb hby dTO_8) rfl ?_
 show own_G p e below _ (T5.setTop (mkF m 10 #[vR b, vI 2, vI 3, vR t1, vI 2] [(.int 2)]))
 refine s_iloadN X5 hx (hb hby dTO_10) rfl ?_
 show own_G p e below _ (T5.setTop (mkF m 11 #[vR b, vI 2, vI 3, vR t1, vI 2] [(.int 3), (.int 2)]))
 refine own_st (fun tq kq => XS.icmpNo X5.here hx rfl (hb hby dTO_11) rfl (tlt (by decide : ((2 : Int32) < (3 : Int32)))).2.1 kq) ?_
 refine s_aloadN X5 hx (hb hby dTO_14) rfl rfl ?_
 refine s_iload X5 hx (hb hby dTO_15) rfl ?_
 refine s_aloadN X5 hx (hb hby dTO_17) rfl rfl ?_
 show own_G p e below _ (T5.setTop (mkF m 18 #[vR b, vI 2, vI 3, vR t1, vI 2] [(.ref b), (.int 2), (.ref t1)]))
 refine s_iloadN X5 hx (hb hby dTO_18) rfl ?_
 obtain ⟨cl6, Ar6, q6, S_6, N_6, H_6, G_6⟩ := id (((Vb.keep KK1 nin0).keep KK3 (ninS (own_ne (by omega)) nin0)).keep KK5 (ninS (own_ne (by omega)) nin0))
 have in6 : ¬ ((2 : Int32) < 0 ∨ cl6.slots.size ≤ ((2 : Int32)).toNatClampNeg) := inb_of S_6 ⟨by decide, by decide⟩
 have at6 : cl6.slots[((2 : Int32)).toNatClampNeg]? = some (.int c2) := H_6.at in6 rfl
 refine own_st (fun tq kq => X5.caload hx (j := (2 : Int32)) (v := (.int c2)) Ar6.1 (State.isArrayOf_alike hZ.alike Ar6.2.1) Ar6.2.2 in6 at6 (g := (mkF m 19 #[vR b, vI 2, vI 3, vR t1, vI 2] [(.int 2), (.ref b), (.int 2), (.ref t1)])) rfl rfl (hb hby dTO_19) _ kq) ?_
 obtain ⟨_, _, ⟨T7, L7, k7, n7⟩, -, X7, ⟨Lc7, hQ7, l7, y7, z7⟩, st7⟩ := Jvm.LawKit.callS X5 hx (y := mN6) hown (mvT hZ (wd120 hw)) (mvT hZ (wd121 hw)) (mvT hZ (wd35 hw)) (mvT hZ (wd122 hw)) (by decide) (own_backN (W := 0) (own_put3_2 l Z a0 hw [] (t1) (_) (c2) (_) (_) (_) (_) (_) (_) T5.heap n0 (by omega) (X00.keep K5 all0) OA OH OL Vt5 (by omega)) hZ (wd122 hw) (wd35 hw) (by decide) (by decide)) (g := (mkF m 20 #[vR b, vI 2, vI 3, vR t1, vI 2] [(.int c2), (.int 2), (.ref t1)])) rfl (by rw [hml]; rfl) (argsL := [(.ref t1), (.int 2), (.int c2)]) (rest := []) (lenOf own_pd3 rfl) rfl (Nat.le_of_eq rfl) (hb hby dTO_20) (fun _ _ => ⟨rfl, rfl, (by decide : 1 + 0 ≤ _), (by decide : 6 + 0 ≤ _)⟩)
 dsimp only [Pt.U, Pt.locs, Pt.cells, Pt.slots] at X7 l7 y7 z7 st7 hQ7
 subst l7 y7 z7
 obtain ⟨rfl, Nq7, Kq7, Vt7⟩ := hQ7
 have KK7 : Keep T5.heap T7.heap [t1] := Kq7
 have sz7 : T5.heap.size ≤ T7.heap.size := KK7.1
 have K7 : Keep h0 T7.heap [] := K5.trans KK7 (allS (Or.inr (own_le (by omega))) all0)
 have N7 := Fr.app N5 Nq7
 refine own_st st7 ?_
 refine own_st (fun tq kq => XS.iinc X7.here hx rfl (hb hby dTO_23) rfl (l' := #[vR b, vI 3, vI 3, vR t1, vI 2]) rfl kq) ?_
 refine own_st (fun tq kq => XS.iinc X7.here hx rfl (hb hby dTO_26) rfl (l' := #[vR b, vI 3, vI 3, vR t1, vI 3]) rfl kq) ?_
 refine own_st (fun tq kq => XS.goto X7.here hx rfl (pc0 := 29) (pc' := 8) rfl (hb hby dTO_29) (by decide) (by decide) kq) ?_
 refine s_iload X7 hx (hb hby dTO_8) rfl ?_
 show own_G p e below _ (T7.setTop (mkF m 10 #[vR b, vI 3, vI 3, vR t1, vI 3] [(.int 3)]))
 refine s_iloadN X7 hx (hb hby dTO_10) rfl ?_
 show own_G p e below _ (T7.setTop (mkF m 11 #[vR b, vI 3, vI 3, vR t1, vI 3] [(.int 3), (.int 3)]))
 refine own_st (fun tq kq => XS.icmpYes X7.here hx rfl (pc0 := 11) (pc' := 32) rfl (hb hby dTO_11) rfl (flt (by decide : ¬ ((3 : Int32) < (3 : Int32)))).2.1 (by decide) (by decide) kq) ?_
 refine s_aloadN X7 hx (hb hby dTO_32) rfl rfl ?_
 show own_G p e below _ (T7.setTop (mkF m 33 #[vR b, vI 3, vI 3, vR t1, vI 3] [(.ref t1)]))
 obtain ⟨fs, hr, hrun, hended, hW, hsame⟩ := X7.leave (v := some (.ref t1)) (fun h => by rw [Bd.returns] at h; cases h)
 refine ⟨_, _, retOut X7 hx Bd.returns rfl (Or.inr (Or.inr (Or.inr (Or.inr ⟨rfl, rfl, rfl⟩)))) (hb hby dTO_33) hr, hrun, hended, _, _, rfl, ?_, ⟨_, rfl⟩, hW, hsame.mono (by decide) (by decide)⟩
 change Q_own_toB3 Z b kC dv c0 c1 c2 h0 n0 _ T7.heap _; exact ⟨t1, _, rfl, N7, K7, (by omega), Vt7.lt, Vt7⟩

def Q_own_cfl3 (Z : State) (t : Nat) (kb : ClassId) (vs : List Value) (h0 : Heap) (n0 : Nat) (v : Option Value) (h : Heap) (L : List Loc) : Prop := v = some (.int (1 : Int32)) ∧ Fr n0 L ∧ h = h0
theorem ef_own_cfl3 (m : MethodId) (x0 : Nat) : entryFrame m #[(.ref x0), (.int 3)] 2 = mkF m 0 #[.val (.ref x0), .val (.int 3)] [] := by first | (simp [entryFrame, mkF, argsToLocals, Value.category]; done) | rfl
theorem own_cfl3 (l : Launch) (Z : State) (a0 : Array Value) (hw : hWt a0 Z) (ws : List Jvm.Cond) (t : Nat) (kb : ClassId) (vs : List Value) (h0 : Heap) (n0 : Nat) (Z0 : n0 ≤ h0.size) (X00 : Old Z n0 h0) (Vt : Arv Z h0 t kb .byte (6 : Int32) vs (.int 0)) :
 own_MN l mN8 jdk_52_method_15_code 2 (some .byte) ws rm_0_0_0_0 Z #[(.ref t), (.int 3)] h0 (Q_own_cfl3 Z t kb vs h0 n0) := by
 refine own_bodyN (plainFor_of_name own_pn1) fun p e s m below meth c s₁ Bd hx hby hml hown hZ X0 e0 => ?_
 have N0 := Fr.nil n0
 have K0 : Keep h0 h0 [] := Keep.refl h0 []
 refine own_st (fun tq kq => castTop (ef_own_cfl3 m (t)) kq) ?_
 show own_G p e below _ (s₁.setTop (mkF m 0 #[vR t, vI 3] []))
 refine s_iloadN X0 hx (hb hby dCL_0) rfl ?_
 refine s_aloadN X0 hx (hb hby dCL_1) rfl rfl ?_
 obtain ⟨cl1, Ar1, q1, S_1, N_1, H_1, G_1⟩ := id Vt
 refine own_st (fun tq kq => X0.arraylength hx (by rw [e0]; exact Ar1.1) (State.isArrayOf_alike hZ.alike Ar1.2.1) (g := (mkF m 2 #[vR t, vI 3] [(.ref t), (.int 3)])) rfl rfl (hb hby dCL_2) _ kq) ?_
 rw [len_of S_1 N_1]
 show own_G p e below _ (s₁.setTop (mkF m 3 #[vR t, vI 3] [(.int 6), (.int 3)]))
 refine own_st (fun tq kq => XS.isub X0.here hx rfl (hb hby dCL_3) rfl kq) ?_
 refine s_bipush X0 hx (hb hby dCL_4) ?_
 refine own_st (fun tq kq => XS.iushr X0.here hx rfl (hb hby dCL_6) rfl kq) ?_
 refine own_st (fun tq kq => XS.i2b X0.here hx rfl (hb hby dCL_7) rfl kq) ?_
 show own_G p e below _ (s₁.setTop (mkF m 8 #[vR t, vI 3] [(.int 1)]))
 obtain ⟨fs, hr, hrun, hended, hW, hsame⟩ := X0.leave (v := some (.int 1)) (fun h => by rw [Bd.returns] at h; cases h)
 refine ⟨_, _, retN X0 hx (t := .byte) Bd.returns (by simp) (hb hby dCL_8) hr, hrun, hended, _, _, rfl, ?_, ⟨_, rfl⟩, hW, hsame.mono (by decide) (by decide)⟩
 change Q_own_cfl3 Z t kb vs h0 n0 _ s₁.heap _; rw [e0]; exact ⟨rfl, N0, rfl⟩

def Q_own_cm5_3_0 (Z : State) (b d : Nat) (kC kD : ClassId) (dv : Value) (c0 c1 c2 : Int32) (h0 : Heap) (n0 : Nat) (v : Option Value) (h : Heap) (L : List Loc) : Prop := v = some (.int (0 : Int32)) ∧ Fr n0 L ∧ Keep h0 h [d]
theorem ef_own_cm5_3_0 (m : MethodId) (x0 : Nat) (x2 : Nat) : entryFrame m #[(.ref x0), (.int 0), (.ref x2), (.int 0), (.int 3)] 7 = mkF m 0 #[.val (.ref x0), .val (.int 0), .val (.ref x2), .val (.int 0), .val (.int 3), .unset, .unset] [] := by first | (simp [entryFrame, mkF, argsToLocals, Value.category]; done) | rfl
theorem own_cm5_3_0 (l : Launch) (Z : State) (a0 : Array Value) (hw : hWt a0 Z) (ws : List Jvm.Cond) (b d : Nat) (kC kD : ClassId) (dv : Value) (c0 c1 c2 : Int32) (h0 : Heap) (n0 : Nat) (Z0 : n0 ≤ h0.size) (X00 : Old Z n0 h0) (Vb : Arv Z h0 b kC .char (3 : Int32) [.int c0, .int c1, .int c2] dv) (Vd : Arv Z h0 d kD .byte (3 : Int32) [.int (0 : Int32), .int (0 : Int32), .int (0 : Int32)] (.int 0)) (gd : n0 ≤ d) (nbd : b ≠ d) (hg : (255 : Int32) < c0) :
 own_MN l mN9 jdk_52_method_21_code 7 (some .int) ws rm_0_0_0_0 Z #[(.ref b), (.int 0), (.ref d), (.int 0), (.int 3)] h0 (Q_own_cm5_3_0 Z b d kC kD dv c0 c1 c2 h0 n0) := by
 refine own_bodyN (plainFor_of_name own_pn1) fun p e s m below meth c s₁ Bd hx hby hml hown hZ X0 e0 => ?_
 have N0 := Fr.nil n0
 have K0 : Keep h0 h0 [d] := Keep.refl h0 [d]
 refine own_st (fun tq kq => castTop (ef_own_cm5_3_0 m (b) (d)) kq) ?_
 show own_G p e below _ (s₁.setTop (mkF m 0 #[vR b, vI 0, vR d, vI 0, vI 3, .unset, .unset] []))
 have hws0 : ∀ y ∈ [d], n0 ≤ y := allS gd all0
 refine s_iconst X0 hx (hb hby dC5_0) ?_
 refine own_st (fun tq kq => XS.istore X0.here hx rfl (hb hby dC5_1) rfl (l' := #[vR b, vI 0, vR d, vI 0, vI 3, vI 0, .unset]) rfl kq) ?_
 refine s_iload X0 hx (hb hby dC5_3) rfl ?_
 refine s_iload X0 hx (hb hby dC5_5) rfl ?_
 show own_G p e below _ (s₁.setTop (mkF m 7 #[vR b, vI 0, vR d, vI 0, vI 3, vI 0, .unset] [(.int 3), (.int 0)]))
 refine own_st (fun tq kq => XS.icmpNo X0.here hx rfl (hb hby dC5_7) rfl (tlt (by decide : ((0 : Int32) < (3 : Int32)))).2.1 kq) ?_
 refine s_aloadN X0 hx (hb hby dC5_10) rfl rfl ?_
 refine s_iloadN X0 hx (hb hby dC5_11) rfl ?_
 obtain ⟨cl1, Ar1, q1, S_1, N_1, H_1, G_1⟩ := id Vb
 have in1 : ¬ ((0 : Int32) < 0 ∨ cl1.slots.size ≤ ((0 : Int32)).toNatClampNeg) := inb_of S_1 ⟨by decide, by decide⟩
 have at1 : cl1.slots[((0 : Int32)).toNatClampNeg]? = some (.int c0) := H_1.at in1 rfl
 refine own_st (fun tq kq => X0.caload hx (j := (0 : Int32)) (v := (.int c0)) (by rw [e0]; exact Ar1.1) (State.isArrayOf_alike hZ.alike Ar1.2.1) Ar1.2.2 in1 at1 (g := (mkF m 12 #[vR b, vI 0, vR d, vI 0, vI 3, vI 0, .unset] [(.int 0), (.ref b)])) rfl rfl (hb hby dC5_12) _ kq) ?_
 show own_G p e below _ (s₁.setTop (mkF m 13 #[vR b, vI 0, vR d, vI 0, vI 3, vI 0, .unset] [(.int c0)]))
 refine own_st (fun tq kq => XS.istore X0.here hx rfl (hb hby dC5_13) rfl (l' := #[vR b, vI 0, vR d, vI 0, vI 3, vI 0, vI c0]) rfl kq) ?_
 refine s_iload X0 hx (hb hby dC5_15) rfl ?_
 refine s_sipush X0 hx (hb hby dC5_17) ?_
 show own_G p e below _ (s₁.setTop (mkF m 20 #[vR b, vI 0, vR d, vI 0, vI 3, vI 0, vI c0] [(.int 255), (.int c0)]))
 refine own_st (fun tq kq => XS.icmpNo X0.here hx rfl (hb hby dC5_20) rfl (tlt hg).2.2.2 kq) ?_
 refine s_iload X0 hx (hb hby dC5_23) rfl ?_
 show own_G p e below _ (s₁.setTop (mkF m 25 #[vR b, vI 0, vR d, vI 0, vI 3, vI 0, vI c0] [(.int 0)]))
 obtain ⟨fs, hr, hrun, hended, hW, hsame⟩ := X0.leave (v := some (.int 0)) (fun h => by rw [Bd.returns] at h; cases h)
 refine ⟨_, _, retOut X0 hx Bd.returns rfl (Or.inl ⟨rfl, by simp, _, rfl⟩) (hb hby dC5_25) hr, hrun, hended, _, _, rfl, ?_, ⟨_, rfl⟩, hW, hsame.mono (by decide) (by decide)⟩
 change Q_own_cm5_3_0 Z b d kC kD dv c0 c1 c2 h0 n0 _ s₁.heap _; rw [e0]; exact ⟨rfl, N0, K0⟩

def Q_own_cm5_3_1 (Z : State) (b d : Nat) (kC kD : ClassId) (dv : Value) (c0 c1 c2 : Int32) (h0 : Heap) (n0 : Nat) (v : Option Value) (h : Heap) (L : List Loc) : Prop := v = some (.int (1 : Int32)) ∧ Fr n0 L ∧ Keep h0 h [d]
theorem ef_own_cm5_3_1 (m : MethodId) (x0 : Nat) (x2 : Nat) : entryFrame m #[(.ref x0), (.int 0), (.ref x2), (.int 0), (.int 3)] 7 = mkF m 0 #[.val (.ref x0), .val (.int 0), .val (.ref x2), .val (.int 0), .val (.int 3), .unset, .unset] [] := by first | (simp [entryFrame, mkF, argsToLocals, Value.category]; done) | rfl
theorem own_cm5_3_1 (l : Launch) (Z : State) (a0 : Array Value) (hw : hWt a0 Z) (ws : List Jvm.Cond) (b d : Nat) (kC kD : ClassId) (dv : Value) (c0 c1 c2 : Int32) (h0 : Heap) (n0 : Nat) (Z0 : n0 ≤ h0.size) (X00 : Old Z n0 h0) (Vb : Arv Z h0 b kC .char (3 : Int32) [.int c0, .int c1, .int c2] dv) (Vd : Arv Z h0 d kD .byte (3 : Int32) [.int (0 : Int32), .int (0 : Int32), .int (0 : Int32)] (.int 0)) (gd : n0 ≤ d) (nbd : b ≠ d) (hl0 : ¬ (255 : Int32) < c0) (hg : (255 : Int32) < c1) :
 own_MN l mN9 jdk_52_method_21_code 7 (some .int) ws rm_0_0_0_0 Z #[(.ref b), (.int 0), (.ref d), (.int 0), (.int 3)] h0 (Q_own_cm5_3_1 Z b d kC kD dv c0 c1 c2 h0 n0) := by
 refine own_bodyN (plainFor_of_name own_pn1) fun p e s m below meth c s₁ Bd hx hby hml hown hZ X0 e0 => ?_
 have N0 := Fr.nil n0
 have K0 : Keep h0 h0 [d] := Keep.refl h0 [d]
 refine own_st (fun tq kq => castTop (ef_own_cm5_3_1 m (b) (d)) kq) ?_
 show own_G p e below _ (s₁.setTop (mkF m 0 #[vR b, vI 0, vR d, vI 0, vI 3, .unset, .unset] []))
 have hws0 : ∀ y ∈ [d], n0 ≤ y := allS gd all0
 refine s_iconst X0 hx (hb hby dC5_0) ?_
 refine own_st (fun tq kq => XS.istore X0.here hx rfl (hb hby dC5_1) rfl (l' := #[vR b, vI 0, vR d, vI 0, vI 3, vI 0, .unset]) rfl kq) ?_
 refine s_iload X0 hx (hb hby dC5_3) rfl ?_
 refine s_iload X0 hx (hb hby dC5_5) rfl ?_
 show own_G p e below _ (s₁.setTop (mkF m 7 #[vR b, vI 0, vR d, vI 0, vI 3, vI 0, .unset] [(.int 3), (.int 0)]))
 refine own_st (fun tq kq => XS.icmpNo X0.here hx rfl (hb hby dC5_7) rfl (tlt (by decide : ((0 : Int32) < (3 : Int32)))).2.1 kq) ?_
 refine s_aloadN X0 hx (hb hby dC5_10) rfl rfl ?_
 refine s_iloadN X0 hx (hb hby dC5_11) rfl ?_
 obtain ⟨cl1, Ar1, q1, S_1, N_1, H_1, G_1⟩ := id Vb
 have in1 : ¬ ((0 : Int32) < 0 ∨ cl1.slots.size ≤ ((0 : Int32)).toNatClampNeg) := inb_of S_1 ⟨by decide, by decide⟩
 have at1 : cl1.slots[((0 : Int32)).toNatClampNeg]? = some (.int c0) := H_1.at in1 rfl
 refine own_st (fun tq kq => X0.caload hx (j := (0 : Int32)) (v := (.int c0)) (by rw [e0]; exact Ar1.1) (State.isArrayOf_alike hZ.alike Ar1.2.1) Ar1.2.2 in1 at1 (g := (mkF m 12 #[vR b, vI 0, vR d, vI 0, vI 3, vI 0, .unset] [(.int 0), (.ref b)])) rfl rfl (hb hby dC5_12) _ kq) ?_
 show own_G p e below _ (s₁.setTop (mkF m 13 #[vR b, vI 0, vR d, vI 0, vI 3, vI 0, .unset] [(.int c0)]))
 refine own_st (fun tq kq => XS.istore X0.here hx rfl (hb hby dC5_13) rfl (l' := #[vR b, vI 0, vR d, vI 0, vI 3, vI 0, vI c0]) rfl kq) ?_
 refine s_iload X0 hx (hb hby dC5_15) rfl ?_
 refine s_sipush X0 hx (hb hby dC5_17) ?_
 show own_G p e below _ (s₁.setTop (mkF m 20 #[vR b, vI 0, vR d, vI 0, vI 3, vI 0, vI c0] [(.int 255), (.int c0)]))
 refine own_st (fun tq kq => XS.icmpYes X0.here hx rfl (pc0 := 20) (pc' := 26) rfl (hb hby dC5_20) rfl (flt hl0).2.2.2 (by decide) (by decide) kq) ?_
 refine s_aloadN X0 hx (hb hby dC5_26) rfl rfl ?_
 refine s_iloadN X0 hx (hb hby dC5_27) rfl ?_
 refine s_iload X0 hx (hb hby dC5_28) rfl ?_
 show own_G p e below _ (s₁.setTop (mkF m 30 #[vR b, vI 0, vR d, vI 0, vI 3, vI 0, vI c0] [(.int c0), (.int 0), (.ref d)]))
 refine own_st (fun tq kq => XS.i2b X0.here hx rfl (hb hby dC5_30) rfl kq) ?_
 obtain ⟨cl2, Ar2, q2, S_2, N_2, H_2, G_2⟩ := id Vd
 have in2 : ¬ ((0 : Int32) < 0 ∨ cl2.slots.size ≤ ((0 : Int32)).toNatClampNeg) := inb_of S_2 ⟨by decide, by decide⟩
 obtain ⟨T2, h2, X2, e2, W2, st2⟩ := stB X0 hx hZ e0 Ar2 (j := (0 : Int32)) in2 (g := (mkF m 31 #[vR b, vI 0, vR d, vI 0, vI 3, vI 0, vI c0] [(.int (c0.toInt8.toInt32)), (.int 0), (.ref d)])) rfl rfl (hb hby dC5_31)
 have V2 := Arv.set Ar2 q2 S_2 N_2 H_2 G_2 (fits_nar_byte _) W2 0 rfl (Nat.le_of_ble_eq_true rfl)
 have sz2 : h0.size ≤ h2.size := (Keep.of_wr W2).1
 have K2 : Keep h0 h2 [d] := K0.wr W2 (Or.inl (by simp))
 have N2 := Fr.snoc X2 N0 (own_le (by omega))
 refine own_st st2 ?_
 refine own_st (fun tq kq => XS.iinc X2.here hx rfl (hb hby dC5_32) rfl (l' := #[vR b, vI 1, vR d, vI 0, vI 3, vI 0, vI c0]) rfl kq) ?_
 refine own_st (fun tq kq => XS.iinc X2.here hx rfl (hb hby dC5_35) rfl (l' := #[vR b, vI 1, vR d, vI 1, vI 3, vI 0, vI c0]) rfl kq) ?_
 refine own_st (fun tq kq => XS.iinc X2.here hx rfl (hb hby dC5_38) rfl (l' := #[vR b, vI 1, vR d, vI 1, vI 3, vI 1, vI c0]) rfl kq) ?_
 refine own_st (fun tq kq => XS.goto X2.here hx rfl (pc0 := 41) (pc' := 3) rfl (hb hby dC5_41) (by decide) (by decide) kq) ?_
 show own_G p e below _ (T2.setTop (mkF m 3 #[vR b, vI 1, vR d, vI 1, vI 3, vI 1, vI c0] []))
 refine s_iload X2 hx (hb hby dC5_3) rfl ?_
 refine s_iload X2 hx (hb hby dC5_5) rfl ?_
 show own_G p e below _ (T2.setTop (mkF m 7 #[vR b, vI 1, vR d, vI 1, vI 3, vI 1, vI c0] [(.int 3), (.int 1)]))
 refine own_st (fun tq kq => XS.icmpNo X2.here hx rfl (hb hby dC5_7) rfl (tlt (by decide : ((1 : Int32) < (3 : Int32)))).2.1 kq) ?_
 refine s_aloadN X2 hx (hb hby dC5_10) rfl rfl ?_
 refine s_iloadN X2 hx (hb hby dC5_11) rfl ?_
 obtain ⟨cl3, Ar3, q3, S_3, N_3, H_3, G_3⟩ := id (Vb.other W2 (own_ne (by omega)))
 have in3 : ¬ ((1 : Int32) < 0 ∨ cl3.slots.size ≤ ((1 : Int32)).toNatClampNeg) := inb_of S_3 ⟨by decide, by decide⟩
 have at3 : cl3.slots[((1 : Int32)).toNatClampNeg]? = some (.int c1) := H_3.at in3 rfl
 refine own_st (fun tq kq => X2.caload hx (j := (1 : Int32)) (v := (.int c1)) (by rw [e2]; exact Ar3.1) (State.isArrayOf_alike hZ.alike Ar3.2.1) Ar3.2.2 in3 at3 (g := (mkF m 12 #[vR b, vI 1, vR d, vI 1, vI 3, vI 1, vI c0] [(.int 1), (.ref b)])) rfl rfl (hb hby dC5_12) _ kq) ?_
 show own_G p e below _ (T2.setTop (mkF m 13 #[vR b, vI 1, vR d, vI 1, vI 3, vI 1, vI c0] [(.int c1)]))
 refine own_st (fun tq kq => XS.istore X2.here hx rfl (hb hby dC5_13) rfl (l' := #[vR b, vI 1, vR d, vI 1, vI 3, vI 1, vI c1]) rfl kq) ?_
 refine s_iload X2 hx (hb hby dC5_15) rfl ?_
 refine s_sipush X2 hx (hb hby dC5_17) ?_
 show own_G p e below _ (T2.setTop (mkF m 20 #[vR b, vI 1, vR d, vI 1, vI 3, vI 1, vI c1] [(.int 255), (.int c1)]))
 refine own_st (fun tq kq => XS.icmpNo X2.here hx rfl (hb hby dC5_20) rfl (tlt hg).2.2.2 kq) ?_
 refine s_iload X2 hx (hb hby dC5_23) rfl ?_
 show own_G p e below _ (T2.setTop (mkF m 25 #[vR b, vI 1, vR d, vI 1, vI 3, vI 1, vI c1] [(.int 1)]))
 obtain ⟨fs, hr, hrun, hended, hW, hsame⟩ := X2.leave (v := some (.int 1)) (fun h => by rw [Bd.returns] at h; cases h)
 refine ⟨_, _, retOut X2 hx Bd.returns rfl (Or.inl ⟨rfl, by simp, _, rfl⟩) (hb hby dC5_25) hr, hrun, hended, _, _, rfl, ?_, ⟨_, rfl⟩, hW, hsame.mono (by decide) (by decide)⟩
 change Q_own_cm5_3_1 Z b d kC kD dv c0 c1 c2 h0 n0 _ T2.heap _; rw [e2]; exact ⟨rfl, N2, K2⟩

def Q_own_cm5_3_2 (Z : State) (b d : Nat) (kC kD : ClassId) (dv : Value) (c0 c1 c2 : Int32) (h0 : Heap) (n0 : Nat) (v : Option Value) (h : Heap) (L : List Loc) : Prop := v = some (.int (2 : Int32)) ∧ Fr n0 L ∧ Keep h0 h [d]
theorem ef_own_cm5_3_2 (m : MethodId) (x0 : Nat) (x2 : Nat) : entryFrame m #[(.ref x0), (.int 0), (.ref x2), (.int 0), (.int 3)] 7 = mkF m 0 #[.val (.ref x0), .val (.int 0), .val (.ref x2), .val (.int 0), .val (.int 3), .unset, .unset] [] := by first | (simp [entryFrame, mkF, argsToLocals, Value.category]; done) | rfl
theorem own_cm5_3_2 (l : Launch) (Z : State) (a0 : Array Value) (hw : hWt a0 Z) (ws : List Jvm.Cond) (b d : Nat) (kC kD : ClassId) (dv : Value) (c0 c1 c2 : Int32) (h0 : Heap) (n0 : Nat) (Z0 : n0 ≤ h0.size) (X00 : Old Z n0 h0) (Vb : Arv Z h0 b kC .char (3 : Int32) [.int c0, .int c1, .int c2] dv) (Vd : Arv Z h0 d kD .byte (3 : Int32) [.int (0 : Int32), .int (0 : Int32), .int (0 : Int32)] (.int 0)) (gd : n0 ≤ d) (nbd : b ≠ d) (hl0 : ¬ (255 : Int32) < c0) (hl1 : ¬ (255 : Int32) < c1) (hg : (255 : Int32) < c2) :
 own_MN l mN9 jdk_52_method_21_code 7 (some .int) ws rm_0_0_0_0 Z #[(.ref b), (.int 0), (.ref d), (.int 0), (.int 3)] h0 (Q_own_cm5_3_2 Z b d kC kD dv c0 c1 c2 h0 n0) := by
 refine own_bodyN (plainFor_of_name own_pn1) fun p e s m below meth c s₁ Bd hx hby hml hown hZ X0 e0 => ?_
 have N0 := Fr.nil n0
 have K0 : Keep h0 h0 [d] := Keep.refl h0 [d]
 refine own_st (fun tq kq => castTop (ef_own_cm5_3_2 m (b) (d)) kq) ?_
 show own_G p e below _ (s₁.setTop (mkF m 0 #[vR b, vI 0, vR d, vI 0, vI 3, .unset, .unset] []))
 have hws0 : ∀ y ∈ [d], n0 ≤ y := allS gd all0
 refine s_iconst X0 hx (hb hby dC5_0) ?_
 refine own_st (fun tq kq => XS.istore X0.here hx rfl (hb hby dC5_1) rfl (l' := #[vR b, vI 0, vR d, vI 0, vI 3, vI 0, .unset]) rfl kq) ?_
 refine s_iload X0 hx (hb hby dC5_3) rfl ?_
 refine s_iload X0 hx (hb hby dC5_5) rfl ?_
 show own_G p e below _ (s₁.setTop (mkF m 7 #[vR b, vI 0, vR d, vI 0, vI 3, vI 0, .unset] [(.int 3), (.int 0)]))
 refine own_st (fun tq kq => XS.icmpNo X0.here hx rfl (hb hby dC5_7) rfl (tlt (by decide : ((0 : Int32) < (3 : Int32)))).2.1 kq) ?_
 refine s_aloadN X0 hx (hb hby dC5_10) rfl rfl ?_
 refine s_iloadN X0 hx (hb hby dC5_11) rfl ?_
 obtain ⟨cl1, Ar1, q1, S_1, N_1, H_1, G_1⟩ := id Vb
 have in1 : ¬ ((0 : Int32) < 0 ∨ cl1.slots.size ≤ ((0 : Int32)).toNatClampNeg) := inb_of S_1 ⟨by decide, by decide⟩
 have at1 : cl1.slots[((0 : Int32)).toNatClampNeg]? = some (.int c0) := H_1.at in1 rfl
 refine own_st (fun tq kq => X0.caload hx (j := (0 : Int32)) (v := (.int c0)) (by rw [e0]; exact Ar1.1) (State.isArrayOf_alike hZ.alike Ar1.2.1) Ar1.2.2 in1 at1 (g := (mkF m 12 #[vR b, vI 0, vR d, vI 0, vI 3, vI 0, .unset] [(.int 0), (.ref b)])) rfl rfl (hb hby dC5_12) _ kq) ?_
 show own_G p e below _ (s₁.setTop (mkF m 13 #[vR b, vI 0, vR d, vI 0, vI 3, vI 0, .unset] [(.int c0)]))
 refine own_st (fun tq kq => XS.istore X0.here hx rfl (hb hby dC5_13) rfl (l' := #[vR b, vI 0, vR d, vI 0, vI 3, vI 0, vI c0]) rfl kq) ?_
 refine s_iload X0 hx (hb hby dC5_15) rfl ?_
 refine s_sipush X0 hx (hb hby dC5_17) ?_
 show own_G p e below _ (s₁.setTop (mkF m 20 #[vR b, vI 0, vR d, vI 0, vI 3, vI 0, vI c0] [(.int 255), (.int c0)]))
 refine own_st (fun tq kq => XS.icmpYes X0.here hx rfl (pc0 := 20) (pc' := 26) rfl (hb hby dC5_20) rfl (flt hl0).2.2.2 (by decide) (by decide) kq) ?_
 refine s_aloadN X0 hx (hb hby dC5_26) rfl rfl ?_
 refine s_iloadN X0 hx (hb hby dC5_27) rfl ?_
 refine s_iload X0 hx (hb hby dC5_28) rfl ?_
 show own_G p e below _ (s₁.setTop (mkF m 30 #[vR b, vI 0, vR d, vI 0, vI 3, vI 0, vI c0] [(.int c0), (.int 0), (.ref d)]))
 refine own_st (fun tq kq => XS.i2b X0.here hx rfl (hb hby dC5_30) rfl kq) ?_
 obtain ⟨cl2, Ar2, q2, S_2, N_2, H_2, G_2⟩ := id Vd
 have in2 : ¬ ((0 : Int32) < 0 ∨ cl2.slots.size ≤ ((0 : Int32)).toNatClampNeg) := inb_of S_2 ⟨by decide, by decide⟩
 obtain ⟨T2, h2, X2, e2, W2, st2⟩ := stB X0 hx hZ e0 Ar2 (j := (0 : Int32)) in2 (g := (mkF m 31 #[vR b, vI 0, vR d, vI 0, vI 3, vI 0, vI c0] [(.int (c0.toInt8.toInt32)), (.int 0), (.ref d)])) rfl rfl (hb hby dC5_31)
 have V2 := Arv.set Ar2 q2 S_2 N_2 H_2 G_2 (fits_nar_byte _) W2 0 rfl (Nat.le_of_ble_eq_true rfl)
 have sz2 : h0.size ≤ h2.size := (Keep.of_wr W2).1
 have K2 : Keep h0 h2 [d] := K0.wr W2 (Or.inl (by simp))
 have N2 := Fr.snoc X2 N0 (own_le (by omega))
 refine own_st st2 ?_
 refine own_st (fun tq kq => XS.iinc X2.here hx rfl (hb hby dC5_32) rfl (l' := #[vR b, vI 1, vR d, vI 0, vI 3, vI 0, vI c0]) rfl kq) ?_
 refine own_st (fun tq kq => XS.iinc X2.here hx rfl (hb hby dC5_35) rfl (l' := #[vR b, vI 1, vR d, vI 1, vI 3, vI 0, vI c0]) rfl kq) ?_
 refine own_st (fun tq kq => XS.iinc X2.here hx rfl (hb hby dC5_38) rfl (l' := #[vR b, vI 1, vR d, vI 1, vI 3, vI 1, vI c0]) rfl kq) ?_
 refine own_st (fun tq kq => XS.goto X2.here hx rfl (pc0 := 41) (pc' := 3) rfl (hb hby dC5_41) (by decide) (by decide) kq) ?_
 show own_G p e below _ (T2.setTop (mkF m 3 #[vR b, vI 1, vR d, vI 1, vI 3, vI 1, vI c0] []))
 refine s_iload X2 hx (hb hby dC5_3) rfl ?_
 refine s_iload X2 hx (hb hby dC5_5) rfl ?_
 show own_G p e below _ (T2.setTop (mkF m 7 #[vR b, vI 1, vR d, vI 1, vI 3, vI 1, vI c0] [(.int 3), (.int 1)]))
 refine own_st (fun tq kq => XS.icmpNo X2.here hx rfl (hb hby dC5_7) rfl (tlt (by decide : ((1 : Int32) < (3 : Int32)))).2.1 kq) ?_
 refine s_aloadN X2 hx (hb hby dC5_10) rfl rfl ?_
 refine s_iloadN X2 hx (hb hby dC5_11) rfl ?_
 obtain ⟨cl3, Ar3, q3, S_3, N_3, H_3, G_3⟩ := id (Vb.other W2 (own_ne (by omega)))
 have in3 : ¬ ((1 : Int32) < 0 ∨ cl3.slots.size ≤ ((1 : Int32)).toNatClampNeg) := inb_of S_3 ⟨by decide, by decide⟩
 have at3 : cl3.slots[((1 : Int32)).toNatClampNeg]? = some (.int c1) := H_3.at in3 rfl
 refine own_st (fun tq kq => X2.caload hx (j := (1 : Int32)) (v := (.int c1)) (by rw [e2]; exact Ar3.1) (State.isArrayOf_alike hZ.alike Ar3.2.1) Ar3.2.2 in3 at3 (g := (mkF m 12 #[vR b, vI 1, vR d, vI 1, vI 3, vI 1, vI c0] [(.int 1), (.ref b)])) rfl rfl (hb hby dC5_12) _ kq) ?_
 show own_G p e below _ (T2.setTop (mkF m 13 #[vR b, vI 1, vR d, vI 1, vI 3, vI 1, vI c0] [(.int c1)]))
 refine own_st (fun tq kq => XS.istore X2.here hx rfl (hb hby dC5_13) rfl (l' := #[vR b, vI 1, vR d, vI 1, vI 3, vI 1, vI c1]) rfl kq) ?_
 refine s_iload X2 hx (hb hby dC5_15) rfl ?_
 refine s_sipush X2 hx (hb hby dC5_17) ?_
 show own_G p e below _ (T2.setTop (mkF m 20 #[vR b, vI 1, vR d, vI 1, vI 3, vI 1, vI c1] [(.int 255), (.int c1)]))
 refine own_st (fun tq kq => XS.icmpYes X2.here hx rfl (pc0 := 20) (pc' := 26) rfl (hb hby dC5_20) rfl (flt hl1).2.2.2 (by decide) (by decide) kq) ?_
 refine s_aloadN X2 hx (hb hby dC5_26) rfl rfl ?_
 refine s_iloadN X2 hx (hb hby dC5_27) rfl ?_
 refine s_iload X2 hx (hb hby dC5_28) rfl ?_
 show own_G p e below _ (T2.setTop (mkF m 30 #[vR b, vI 1, vR d, vI 1, vI 3, vI 1, vI c1] [(.int c1), (.int 1), (.ref d)]))
 refine own_st (fun tq kq => XS.i2b X2.here hx rfl (hb hby dC5_30) rfl kq) ?_
 obtain ⟨cl4, Ar4, q4, S_4, N_4, H_4, G_4⟩ := id V2
 have in4 : ¬ ((1 : Int32) < 0 ∨ cl4.slots.size ≤ ((1 : Int32)).toNatClampNeg) := inb_of S_4 ⟨by decide, by decide⟩
 obtain ⟨T4, h4, X4, e4, W4, st4⟩ := stB X2 hx hZ e2 Ar4 (j := (1 : Int32)) in4 (g := (mkF m 31 #[vR b, vI 1, vR d, vI 1, vI 3, vI 1, vI c1] [(.int (c1.toInt8.toInt32)), (.int 1), (.ref d)])) rfl rfl (hb hby dC5_31)
 have V4 := Arv.set Ar4 q4 S_4 N_4 H_4 G_4 (fits_nar_byte _) W4 1 rfl (Nat.le_of_ble_eq_true rfl)
 have sz4 : h2.size ≤ h4.size := (Keep.of_wr W4).1
 have K4 : Keep h0 h4 [d] := K2.wr W4 (Or.inl (by simp))
 have N4 := Fr.snoc X4 N2 (own_le (by omega))
 refine own_st st4 ?_
 refine own_st (fun tq kq => XS.iinc X4.here hx rfl (hb hby dC5_32) rfl (l' := #[vR b, vI 2, vR d, vI 1, vI 3, vI 1, vI c1]) rfl kq) ?_
 refine own_st (fun tq kq => XS.iinc X4.here hx rfl (hb hby dC5_35) rfl (l' := #[vR b, vI 2, vR d, vI 2, vI 3, vI 1, vI c1]) rfl kq) ?_
 refine own_st (fun tq kq => XS.iinc X4.here hx rfl (hb hby dC5_38) rfl (l' := #[vR b, vI 2, vR d, vI 2, vI 3, vI 2, vI c1]) rfl kq) ?_
 refine own_st (fun tq kq => XS.goto X4.here hx rfl (pc0 := 41) (pc' := 3) rfl (hb hby dC5_41) (by decide) (by decide) kq) ?_
 show own_G p e below _ (T4.setTop (mkF m 3 #[vR b, vI 2, vR d, vI 2, vI 3, vI 2, vI c1] []))
 refine s_iload X4 hx (hb hby dC5_3) rfl ?_
 refine s_iload X4 hx (hb hby dC5_5) rfl ?_
 show own_G p e below _ (T4.setTop (mkF m 7 #[vR b, vI 2, vR d, vI 2, vI 3, vI 2, vI c1] [(.int 3), (.int 2)]))
 refine own_st (fun tq kq => XS.icmpNo X4.here hx rfl (hb hby dC5_7) rfl (tlt (by decide : ((2 : Int32) < (3 : Int32)))).2.1 kq) ?_
 refine s_aloadN X4 hx (hb hby dC5_10) rfl rfl ?_
 refine s_iloadN X4 hx (hb hby dC5_11) rfl ?_
 obtain ⟨cl5, Ar5, q5, S_5, N_5, H_5, G_5⟩ := id ((Vb.other W2 (own_ne (by omega))).other W4 (own_ne (by omega)))
 have in5 : ¬ ((2 : Int32) < 0 ∨ cl5.slots.size ≤ ((2 : Int32)).toNatClampNeg) := inb_of S_5 ⟨by decide, by decide⟩
 have at5 : cl5.slots[((2 : Int32)).toNatClampNeg]? = some (.int c2) := H_5.at in5 rfl
 refine own_st (fun tq kq => X4.caload hx (j := (2 : Int32)) (v := (.int c2)) (by rw [e4]; exact Ar5.1) (State.isArrayOf_alike hZ.alike Ar5.2.1) Ar5.2.2 in5 at5 (g := (mkF m 12 #[vR b, vI 2, vR d, vI 2, vI 3, vI 2, vI c1] [(.int 2), (.ref b)])) rfl rfl (hb hby dC5_12) _ kq) ?_
 show own_G p e below _ (T4.setTop (mkF m 13 #[vR b, vI 2, vR d, vI 2, vI 3, vI 2, vI c1] [(.int c2)]))
 refine own_st (fun tq kq => XS.istore X4.here hx rfl (hb hby dC5_13) rfl (l' := #[vR b, vI 2, vR d, vI 2, vI 3, vI 2, vI c2]) rfl kq) ?_
 refine s_iload X4 hx (hb hby dC5_15) rfl ?_
 refine s_sipush X4 hx (hb hby dC5_17) ?_
 show own_G p e below _ (T4.setTop (mkF m 20 #[vR b, vI 2, vR d, vI 2, vI 3, vI 2, vI c2] [(.int 255), (.int c2)]))
 refine own_st (fun tq kq => XS.icmpNo X4.here hx rfl (hb hby dC5_20) rfl (tlt hg).2.2.2 kq) ?_
 refine s_iload X4 hx (hb hby dC5_23) rfl ?_
 show own_G p e below _ (T4.setTop (mkF m 25 #[vR b, vI 2, vR d, vI 2, vI 3, vI 2, vI c2] [(.int 2)]))
 obtain ⟨fs, hr, hrun, hended, hW, hsame⟩ := X4.leave (v := some (.int 2)) (fun h => by rw [Bd.returns] at h; cases h)
 refine ⟨_, _, retOut X4 hx Bd.returns rfl (Or.inl ⟨rfl, by simp, _, rfl⟩) (hb hby dC5_25) hr, hrun, hended, _, _, rfl, ?_, ⟨_, rfl⟩, hW, hsame.mono (by decide) (by decide)⟩
 change Q_own_cm5_3_2 Z b d kC kD dv c0 c1 c2 h0 n0 _ T4.heap _; rw [e4]; exact ⟨rfl, N4, K4⟩

def Q_own_cm3_3 (Z : State) (b : Nat) (kC : ClassId) (dv : Value) (c0 c1 c2 : Int32) (h0 : Heap) (n0 : Nat) (v : Option Value) (h : Heap) (L : List Loc) : Prop := ∃ (t : Nat) (kb : ClassId), v = some (.ref t) ∧ Fr n0 L ∧ Keep h0 h [] ∧ h0.size ≤ t ∧ t < h.size ∧ Arv Z h t kb .byte (6 : Int32) [.int (L8 c0), .int (H8 c0), .int (L8 c1), .int (H8 c1), .int (L8 c2), .int (H8 c2)] (.int 0)
theorem ef_own_cm3_3 (m : MethodId) (x0 : Nat) : entryFrame m #[(.ref x0), (.int 0), (.int 3)] 6 = mkF m 0 #[.val (.ref x0), .val (.int 0), .val (.int 3), .unset, .unset, .unset] [] := by first | (simp [entryFrame, mkF, argsToLocals, Value.category]; done) | rfl
theorem own_cm3_3 (l : Launch) (Z : State) (a0 : Array Value) (hw : hWt a0 Z) (ws : List Jvm.Cond) (b : Nat) (kC : ClassId) (dv : Value) (c0 c1 c2 : Int32) (h0 : Heap) (n0 : Nat) (Z0 : n0 ≤ h0.size) (X00 : Old Z n0 h0) (OA : oA Z) (OH : oH Z) (OL : oL Z) (Vb : Arv Z h0 b kC .char (3 : Int32) [.int c0, .int c1, .int c2] dv) (hb0 : ¬ c0 < 0 ∧ ¬ (65535 : Int32) < c0) (hb1 : ¬ c1 < 0 ∧ ¬ (65535 : Int32) < c1) (hb2 : ¬ c2 < 0 ∧ ¬ (65535 : Int32) < c2) (hD : ((255 : Int32) < c0) ∨ (¬ (255 : Int32) < c0 ∧ (255 : Int32) < c1) ∨ (¬ (255 : Int32) < c0 ∧ ¬ (255 : Int32) < c1 ∧ (255 : Int32) < c2)) :
 own_MN l mN10 jdk_52_method_16_code 6 (some (.array .byte)) ws rm_3_2_9_70 Z #[(.ref b), (.int 0), (.int 3)] h0 (Q_own_cm3_3 Z b kC dv c0 c1 c2 h0 n0) := by
 refine own_bodyN (plainFor_of_name own_pn1) fun p e s m below meth c s₁ Bd hx hby hml hown hZ X0 e0 => ?_
 have N0 := Fr.nil n0
 have K0 : Keep h0 h0 [] := Keep.refl h0 []
 refine own_st (fun tq kq => castTop (ef_own_cm3_3 m (b)) kq) ?_
 show own_G p e below _ (s₁.setTop (mkF m 0 #[vR b, vI 0, vI 3, .unset, .unset, .unset] []))
 have ltb : b < h0.size := Vb.lt
 rcases hD with hg | ⟨hl0, hg⟩ | ⟨hl0, hl1, hg⟩
 ·
  refine s_iloadN X0 hx (hb hby dC3_0) rfl ?_
  obtain ⟨T1, h1, k1, X1, e1, E1, A1, st1⟩ := newP X0 hx hZ (hw _ (List.mem_of_getElem? (i := 16) rfl)) e0 (g := (mkF m 1 #[vR b, vI 0, vI 3, .unset, .unset, .unset] [(.int 3)])) rfl (hb hby dC3_1) rfl (by decide) (cap := 3) (by decide) (by decide) (by decide) (by decide)
  obtain ⟨b1, g1⟩ : ∃ z, z = h0.size := ⟨_, rfl⟩
  rw [← g1] at A1 st1
  have lt1 : b1 < h1.size := A1.lt
  have V1 : Arv Z h1 b1 k1 .byte (3 : Int32) [(.int (0 : Int32)), (.int (0 : Int32)), (.int (0 : Int32))] (.int (0 : Int32)) := (Arv.new A1 (by decide)).pad (pad_rep [] (.int (0 : Int32)) 3)
  have sz1 : h0.size ≤ h1.size := E1.1
  have K1 : Keep h0 h1 [] := K0.ext E1
  refine own_st st1 ?_
  refine own_st (fun tq kq => XS.astoreN X1.here hx rfl (hb hby dC3_3) rfl rfl (l' := #[vR b, vI 0, vI 3, vR b1, .unset, .unset]) rfl kq) ?_
  refine s_aloadN X1 hx (hb hby dC3_4) rfl rfl ?_
  refine s_iloadN X1 hx (hb hby dC3_5) rfl ?_
  refine s_aloadN X1 hx (hb hby dC3_6) rfl rfl ?_
  show own_G p e below _ (T1.setTop (mkF m 7 #[vR b, vI 0, vI 3, vR b1, .unset, .unset] [(.ref b1), (.int 0), (.ref b)]))
  refine s_iconst X1 hx (hb hby dC3_7) ?_
  refine s_iloadN X1 hx (hb hby dC3_8) rfl ?_
  obtain ⟨_, _, ⟨T2, L2, k2, n2⟩, -, X2, ⟨Lc2, hQ2, l2, y2, z2⟩, st2⟩ := Jvm.LawKit.callS X1 hx (y := mN9) hown (mvT hZ (wd37 hw)) (mvT hZ (wd38 hw)) (mvT hZ (wd35 hw)) (mvT hZ (wd39 hw)) (by decide) (own_backN (W := 0) (own_cm5_3_0 l Z a0 hw [] (b) (b1) (kC) (k1) (dv) (c0) (c1) (c2) h1 n0 (by omega) (X00.keep K1 all0) (Vb.ext E1) V1 (by omega) (own_ne (by omega)) hg) hZ (wd39 hw) (wd35 hw) (by decide) (by decide)) (g := (mkF m 9 #[vR b, vI 0, vI 3, vR b1, .unset, .unset] [(.int 3), (.int 0), (.ref b1), (.int 0), (.ref b)])) rfl (by rw [hml]; rfl) (argsL := [(.ref b), (.int 0), (.ref b1), (.int 0), (.int 3)]) (rest := []) (lenOf own_pd4 rfl) rfl (Nat.le_of_eq rfl) (hb hby dC3_9) (fun _ _ => ⟨rfl, e1, (by decide : 1 + 0 ≤ _), (by decide : 3 + 0 ≤ _)⟩)
  dsimp only [Pt.U, Pt.locs, Pt.cells, Pt.slots] at X2 l2 y2 z2 st2 hQ2
  subst l2 y2 z2
  obtain ⟨rfl, Nq2, Kq2⟩ := hQ2
  have KK2 : Keep h1 T2.heap [b1] := Kq2
  have sz2 : h1.size ≤ T2.heap.size := KK2.1
  have K2 : Keep h0 T2.heap [] := K1.trans KK2 (allS (Or.inr (own_le (by omega))) all0)
  have N2 := Fr.app N0 Nq2
  refine own_st st2 ?_
  refine own_st (fun tq kq => XS.istore X2.here hx rfl (hb hby dC3_12) rfl (l' := #[vR b, vI 0, vI 3, vR b1, vI 0, .unset]) rfl kq) ?_
  refine s_iload X2 hx (hb hby dC3_14) rfl ?_
  refine s_iloadN X2 hx (hb hby dC3_16) rfl ?_
  show own_G p e below _ (T2.setTop (mkF m 17 #[vR b, vI 0, vI 3, vR b1, vI 0, .unset] [(.int 3), (.int 0)]))
  refine own_st (fun tq kq => XS.icmpNo X2.here hx rfl (hb hby dC3_17) rfl (feq (by decide : ¬ ((0 : Int32) = (3 : Int32)))).1 kq) ?_
  refine s_aloadN X2 hx (hb hby dC3_20) rfl rfl ?_
  refine s_iloadN X2 hx (hb hby dC3_21) rfl ?_
  refine s_iloadN X2 hx (hb hby dC3_22) rfl ?_
  show own_G p e below _ (T2.setTop (mkF m 23 #[vR b, vI 0, vI 3, vR b1, vI 0, .unset] [(.int 3), (.int 0), (.ref b)]))
  obtain ⟨_, _, ⟨T3, L3, k3, n3⟩, -, X3, ⟨Lc3, hQ3, l3, y3, z3⟩, st3⟩ := Jvm.LawKit.callS X2 hx (y := mN7) hown (mvT hZ (wd110 hw)) (mvT hZ (wd111 hw)) (mvT hZ (wd35 hw)) (mvT hZ (wd112 hw)) (by decide) (own_backN (W := 0) (own_toB3 l Z a0 hw [] (b) (kC) (dv) (c0) (c1) (c2) T2.heap n0 (by omega) (X00.keep K2 all0) OA OH OL ((Vb.ext E1).keep KK2 (ninS (own_ne (by omega)) nin0))) hZ (wd112 hw) (wd35 hw) (by decide) (by decide)) (g := (mkF m 23 #[vR b, vI 0, vI 3, vR b1, vI 0, .unset] [(.int 3), (.int 0), (.ref b)])) rfl (by rw [hml]; rfl) (argsL := [(.ref b), (.int 0), (.int 3)]) (rest := []) (lenOf own_pd5 rfl) rfl (Nat.le_of_eq rfl) (hb hby dC3_23) (fun _ _ => ⟨rfl, rfl, (by decide : 1 + 1 ≤ _), (by decide : 3 + 6 ≤ _)⟩)
  dsimp only [Pt.U, Pt.locs, Pt.cells, Pt.slots] at X3 l3 y3 z3 st3 hQ3
  subst l3 y3 z3
  obtain ⟨t3, kb3, rfl, Nq3, Kq3, gt3, lt3, Vt3⟩ := hQ3
  have KK3 : Keep T2.heap T3.heap [] := Kq3
  have sz3 : T2.heap.size ≤ T3.heap.size := KK3.1
  have K3 : Keep h0 T3.heap [] := K2.trans KK3 all0
  have N3 := Fr.app N2 Nq3
  refine own_st st3 ?_
  refine own_st (fun tq kq => XS.astore X3.here hx rfl (hb hby dC3_26) rfl rfl (l' := #[vR b, vI 0, vI 3, vR b1, vI 0, vR t3]) rfl kq) ?_
  refine s_aload X3 hx (hb hby dC3_28) rfl rfl ?_
  refine s_iload X3 hx (hb hby dC3_30) rfl ?_
  obtain ⟨_, _, ⟨T4, L4, k4, n4⟩, -, X4, ⟨Lc4, hQ4, l4, y4, z4⟩, st4⟩ := Jvm.LawKit.callS X3 hx (y := mN2) hown (mvT hZ (wd126 hw)) (mvT hZ (wd127 hw)) (mvT hZ (wd35 hw)) (mvT hZ (wd128 hw)) (by decide) (own_backN (W := 0) (own_get_0 l Z a0 hw [] (t3) (_) (_) (_) (_) (_) T3.heap n0 (by omega) (X00.keep K3 all0) OA OH OL Vt3 (by decide) (by decide) rfl rfl) hZ (wd128 hw) (wd35 hw) (by decide) (by decide)) (g := (mkF m 32 #[vR b, vI 0, vI 3, vR b1, vI 0, vR t3] [(.int 0), (.ref t3)])) rfl (by rw [hml]; rfl) (argsL := [(.ref t3), (.int 0)]) (rest := []) (lenOf own_pd6 rfl) rfl (Nat.le_of_eq rfl) (hb hby dC3_32) (fun _ _ => ⟨rfl, rfl, (by decide : 2 + 0 ≤ _), (by decide : 9 + 0 ≤ _)⟩)
  dsimp only [Pt.U, Pt.locs, Pt.cells, Pt.slots] at X4 l4 y4 z4 st4 hQ4
  subst l4 y4 z4
  obtain ⟨rfl, Nq4, sm4⟩ := hQ4
  have N4 := Fr.app N3 Nq4
  refine own_st st4 ?_
  refine s_sipush X4 hx (hb hby dC3_35) ?_
  show own_G p e below _ (T4.setTop (mkF m 38 #[vR b, vI 0, vI 3, vR b1, vI 0, vR t3] [(.int 255), (.int (StrChars.pairCh (L8 c0) (H8 c0)))]))
  refine own_st (fun tq kq => XS.icmpYes X4.here hx rfl (pc0 := 38) (pc' := 54) rfl (hb hby dC3_38) rfl (tlt (by rw [StrChars.pair_says hb0.1 hb0.2]; exact hg)).2.2.1 (by decide) (by decide) kq) ?_
  refine s_aload X4 hx (hb hby dC3_54) rfl rfl ?_
  show own_G p e below _ (T4.setTop (mkF m 56 #[vR b, vI 0, vI 3, vR b1, vI 0, vR t3] [(.ref t3)]))
  obtain ⟨fs, hr, hrun, hended, hW, hsame⟩ := X4.leave (v := some (.ref t3)) (fun h => by rw [Bd.returns] at h; cases h)
  refine ⟨_, _, retOut X4 hx Bd.returns rfl (Or.inr (Or.inr (Or.inr (Or.inr ⟨rfl, rfl, rfl⟩)))) (hb hby dC3_56) hr, hrun, hended, _, _, rfl, ?_, ⟨_, rfl⟩, hW, hsame.mono (by decide) (by decide)⟩
  change Q_own_cm3_3 Z b kC dv c0 c1 c2 h0 n0 _ T4.heap _; rw [sm4]; exact ⟨t3, _, rfl, N4, K3, (by omega), Vt3.lt, Vt3⟩
 ·
  refine s_iloadN X0 hx (hb hby dC3_0) rfl ?_
  obtain ⟨T5, h5, k5, X5, e5, E5, A5, st5⟩ := newP X0 hx hZ (hw _ (List.mem_of_getElem? (i := 16) rfl)) e0 (g := (mkF m 1 #[vR b, vI 0, vI 3, .unset, .unset, .unset] [(.int 3)])) rfl (hb hby dC3_1) rfl (by decide) (cap := 3) (by decide) (by decide) (by decide) (by decide)
  obtain ⟨b5, g5⟩ : ∃ z, z = h0.size := ⟨_, rfl⟩
  rw [← g5] at A5 st5
  have lt5 : b5 < h5.size := A5.lt
  have V5 : Arv Z h5 b5 k5 .byte (3 : Int32) [(.int (0 : Int32)), (.int (0 : Int32)), (.int (0 : Int32))] (.int (0 : Int32)) := (Arv.new A5 (by decide)).pad (pad_rep [] (.int (0 : Int32)) 3)
  have sz5 : h0.size ≤ h5.size := E5.1
  have K5 : Keep h0 h5 [] := K0.ext E5
  refine own_st st5 ?_
  refine own_st (fun tq kq => XS.astoreN X5.here hx rfl (hb hby dC3_3) rfl rfl (l' := #[vR b, vI 0, vI 3, vR b5, .unset, .unset]) rfl kq) ?_
  refine s_aloadN X5 hx (hb hby dC3_4) rfl rfl ?_
  refine s_iloadN X5 hx (hb hby dC3_5) rfl ?_
  refine s_aloadN X5 hx (hb hby dC3_6) rfl rfl ?_
  show own_G p e below _ (T5.setTop (mkF m 7 #[vR b, vI 0, vI 3, vR b5, .unset, .unset] [(.ref b5), (.int 0), (.ref b)]))
  refine s_iconst X5 hx (hb hby dC3_7) ?_
  refine s_iloadN X5 hx (hb hby dC3_8) rfl ?_
  obtain ⟨_, _, ⟨T6, L6, k6, n6⟩, -, X6, ⟨Lc6, hQ6, l6, y6, z6⟩, st6⟩ := Jvm.LawKit.callS X5 hx (y := mN9) hown (mvT hZ (wd37 hw)) (mvT hZ (wd38 hw)) (mvT hZ (wd35 hw)) (mvT hZ (wd39 hw)) (by decide) (own_backN (W := 0) (own_cm5_3_1 l Z a0 hw [] (b) (b5) (kC) (k5) (dv) (c0) (c1) (c2) h5 n0 (by omega) (X00.keep K5 all0) (Vb.ext E5) V5 (by omega) (own_ne (by omega)) hl0 hg) hZ (wd39 hw) (wd35 hw) (by decide) (by decide)) (g := (mkF m 9 #[vR b, vI 0, vI 3, vR b5, .unset, .unset] [(.int 3), (.int 0), (.ref b5), (.int 0), (.ref b)])) rfl (by rw [hml]; rfl) (argsL := [(.ref b), (.int 0), (.ref b5), (.int 0), (.int 3)]) (rest := []) (lenOf own_pd4 rfl) rfl (Nat.le_of_eq rfl) (hb hby dC3_9) (fun _ _ => ⟨rfl, e5, (by decide : 1 + 0 ≤ _), (by decide : 3 + 0 ≤ _)⟩)
  dsimp only [Pt.U, Pt.locs, Pt.cells, Pt.slots] at X6 l6 y6 z6 st6 hQ6
  subst l6 y6 z6
  obtain ⟨rfl, Nq6, Kq6⟩ := hQ6
  have KK6 : Keep h5 T6.heap [b5] := Kq6
  have sz6 : h5.size ≤ T6.heap.size := KK6.1
  have K6 : Keep h0 T6.heap [] := K5.trans KK6 (allS (Or.inr (own_le (by omega))) all0)
  have N6 := Fr.app N0 Nq6
  refine own_st st6 ?_
  refine own_st (fun tq kq => XS.istore X6.here hx rfl (hb hby dC3_12) rfl (l' := #[vR b, vI 0, vI 3, vR b5, vI 1, .unset]) rfl kq) ?_
  refine s_iload X6 hx (hb hby dC3_14) rfl ?_
  refine s_iloadN X6 hx (hb hby dC3_16) rfl ?_
  show own_G p e below _ (T6.setTop (mkF m 17 #[vR b, vI 0, vI 3, vR b5, vI 1, .unset] [(.int 3), (.int 1)]))
  refine own_st (fun tq kq => XS.icmpNo X6.here hx rfl (hb hby dC3_17) rfl (feq (by decide : ¬ ((1 : Int32) = (3 : Int32)))).1 kq) ?_
  refine s_aloadN X6 hx (hb hby dC3_20) rfl rfl ?_
  refine s_iloadN X6 hx (hb hby dC3_21) rfl ?_
  refine s_iloadN X6 hx (hb hby dC3_22) rfl ?_
  show own_G p e below _ (T6.setTop (mkF m 23 #[vR b, vI 0, vI 3, vR b5, vI 1, .unset] [(.int 3), (.int 0), (.ref b)]))
  obtain ⟨_, _, ⟨T7, L7, k7, n7⟩, -, X7, ⟨Lc7, hQ7, l7, y7, z7⟩, st7⟩ := Jvm.LawKit.callS X6 hx (y := mN7) hown (mvT hZ (wd110 hw)) (mvT hZ (wd111 hw)) (mvT hZ (wd35 hw)) (mvT hZ (wd112 hw)) (by decide) (own_backN (W := 0) (own_toB3 l Z a0 hw [] (b) (kC) (dv) (c0) (c1) (c2) T6.heap n0 (by omega) (X00.keep K6 all0) OA OH OL ((Vb.ext E5).keep KK6 (ninS (own_ne (by omega)) nin0))) hZ (wd112 hw) (wd35 hw) (by decide) (by decide)) (g := (mkF m 23 #[vR b, vI 0, vI 3, vR b5, vI 1, .unset] [(.int 3), (.int 0), (.ref b)])) rfl (by rw [hml]; rfl) (argsL := [(.ref b), (.int 0), (.int 3)]) (rest := []) (lenOf own_pd5 rfl) rfl (Nat.le_of_eq rfl) (hb hby dC3_23) (fun _ _ => ⟨rfl, rfl, (by decide : 1 + 1 ≤ _), (by decide : 3 + 6 ≤ _)⟩)
  dsimp only [Pt.U, Pt.locs, Pt.cells, Pt.slots] at X7 l7 y7 z7 st7 hQ7
  subst l7 y7 z7
  obtain ⟨t7, kb7, rfl, Nq7, Kq7, gt7, lt7, Vt7⟩ := hQ7
  have KK7 : Keep T6.heap T7.heap [] := Kq7
  have sz7 : T6.heap.size ≤ T7.heap.size := KK7.1
  have K7 : Keep h0 T7.heap [] := K6.trans KK7 all0
  have N7 := Fr.app N6 Nq7
  refine own_st st7 ?_
  refine own_st (fun tq kq => XS.astore X7.here hx rfl (hb hby dC3_26) rfl rfl (l' := #[vR b, vI 0, vI 3, vR b5, vI 1, vR t7]) rfl kq) ?_
  refine s_aload X7 hx (hb hby dC3_28) rfl rfl ?_
  refine s_iload X7 hx (hb hby dC3_30) rfl ?_
  obtain ⟨_, _, ⟨T8, L8, k8, n8⟩, -, X8, ⟨Lc8, hQ8, l8, y8, z8⟩, st8⟩ := Jvm.LawKit.callS X7 hx (y := mN2) hown (mvT hZ (wd126 hw)) (mvT hZ (wd127 hw)) (mvT hZ (wd35 hw)) (mvT hZ (wd128 hw)) (by decide) (own_backN (W := 0) (own_get_1 l Z a0 hw [] (t7) (_) (_) (_) (_) (_) T7.heap n0 (by omega) (X00.keep K7 all0) OA OH OL Vt7 (by decide) (by decide) rfl rfl) hZ (wd128 hw) (wd35 hw) (by decide) (by decide)) (g := (mkF m 32 #[vR b, vI 0, vI 3, vR b5, vI 1, vR t7] [(.int 1), (.ref t7)])) rfl (by rw [hml]; rfl) (argsL := [(.ref t7), (.int 1)]) (rest := []) (lenOf own_pd6 rfl) rfl (Nat.le_of_eq rfl) (hb hby dC3_32) (fun _ _ => ⟨rfl, rfl, (by decide : 2 + 0 ≤ _), (by decide : 9 + 0 ≤ _)⟩)
  dsimp only [Pt.U, Pt.locs, Pt.cells, Pt.slots] at X8 l8 y8 z8 st8 hQ8
  subst l8 y8 z8
  obtain ⟨rfl, Nq8, sm8⟩ := hQ8
  have N8 := Fr.app N7 Nq8
  refine own_st st8 ?_
  refine s_sipush X8 hx (hb hby dC3_35) ?_
  show own_G p e below _ (T8.setTop (mkF m 38 #[vR b, vI 0, vI 3, vR b5, vI 1, vR t7] [(.int 255), (.int (StrChars.pairCh (L8 c1) (H8 c1)))]))
  refine own_st (fun tq kq => XS.icmpYes X8.here hx rfl (pc0 := 38) (pc' := 54) rfl (hb hby dC3_38) rfl (tlt (by rw [StrChars.pair_says hb1.1 hb1.2]; exact hg)).2.2.1 (by decide) (by decide) kq) ?_
  refine s_aload X8 hx (hb hby dC3_54) rfl rfl ?_
  show own_G p e below _ (T8.setTop (mkF m 56 #[vR b, vI 0, vI 3, vR b5, vI 1, vR t7] [(.ref t7)]))
  obtain ⟨fs, hr, hrun, hended, hW, hsame⟩ := X8.leave (v := some (.ref t7)) (fun h => by rw [Bd.returns] at h; cases h)
  refine ⟨_, _, retOut X8 hx Bd.returns rfl (Or.inr (Or.inr (Or.inr (Or.inr ⟨rfl, rfl, rfl⟩)))) (hb hby dC3_56) hr, hrun, hended, _, _, rfl, ?_, ⟨_, rfl⟩, hW, hsame.mono (by decide) (by decide)⟩
  change Q_own_cm3_3 Z b kC dv c0 c1 c2 h0 n0 _ T8.heap _; rw [sm8]; exact ⟨t7, _, rfl, N8, K7, (by omega), Vt7.lt, Vt7⟩
 ·
  refine s_iloadN X0 hx (hb hby dC3_0) rfl ?_
  obtain ⟨T9, h9, k9, X9, e9, E9, A9, st9⟩ := newP X0 hx hZ (hw _ (List.mem_of_getElem? (i := 16) rfl)) e0 (g := (mkF m 1 #[vR b, vI 0, vI 3, .unset, .unset, .unset] [(.int 3)])) rfl (hb hby dC3_1) rfl (by decide) (cap := 3) (by decide) (by decide) (by decide) (by decide)
  obtain ⟨b9, g9⟩ : ∃ z, z = h0.size := ⟨_, rfl⟩
  rw [← g9] at A9 st9
  have lt9 : b9 < h9.size := A9.lt
  have V9 : Arv Z h9 b9 k9 .byte (3 : Int32) [(.int (0 : Int32)), (.int (0 : Int32)), (.int (0 : Int32))] (.int (0 : Int32)) := (Arv.new A9 (by decide)).pad (pad_rep [] (.int (0 : Int32)) 3)
  have sz9 : h0.size ≤ h9.size := E9.1
  have K9 : Keep h0 h9 [] := K0.ext E9
  refine own_st st9 ?_
  refine own_st (fun tq kq => XS.astoreN X9.here hx rfl (hb hby dC3_3) rfl rfl (l' := #[vR b, vI 0, vI 3, vR b9, .unset, .unset]) rfl kq) ?_
  refine s_aloadN X9 hx (hb hby dC3_4) rfl rfl ?_
  refine s_iloadN X9 hx (hb hby dC3_5) rfl ?_
  refine s_aloadN X9 hx (hb hby dC3_6) rfl rfl ?_
  show own_G p e below _ (T9.setTop (mkF m 7 #[vR b, vI 0, vI 3, vR b9, .unset, .unset] [(.ref b9), (.int 0), (.ref b)]))
  refine s_iconst X9 hx (hb hby dC3_7) ?_
  refine s_iloadN X9 hx (hb hby dC3_8) rfl ?_
  obtain ⟨_, _, ⟨T10, L10, k10, n10⟩, -, X10, ⟨Lc10, hQ10, l10, y10, z10⟩, st10⟩ := Jvm.LawKit.callS X9 hx (y := mN9) hown (mvT hZ (wd37 hw)) (mvT hZ (wd38 hw)) (mvT hZ (wd35 hw)) (mvT hZ (wd39 hw)) (by decide) (own_backN (W := 0) (own_cm5_3_2 l Z a0 hw [] (b) (b9) (kC) (k9) (dv) (c0) (c1) (c2) h9 n0 (by omega) (X00.keep K9 all0) (Vb.ext E9) V9 (by omega) (own_ne (by omega)) hl0 hl1 hg) hZ (wd39 hw) (wd35 hw) (by decide) (by decide)) (g := (mkF m 9 #[vR b, vI 0, vI 3, vR b9, .unset, .unset] [(.int 3), (.int 0), (.ref b9), (.int 0), (.ref b)])) rfl (by rw [hml]; rfl) (argsL := [(.ref b), (.int 0), (.ref b9), (.int 0), (.int 3)]) (rest := []) (lenOf own_pd4 rfl) rfl (Nat.le_of_eq rfl) (hb hby dC3_9) (fun _ _ => ⟨rfl, e9, (by decide : 1 + 0 ≤ _), (by decide : 3 + 0 ≤ _)⟩)
  dsimp only [Pt.U, Pt.locs, Pt.cells, Pt.slots] at X10 l10 y10 z10 st10 hQ10
  subst l10 y10 z10
  obtain ⟨rfl, Nq10, Kq10⟩ := hQ10
  have KK10 : Keep h9 T10.heap [b9] := Kq10
  have sz10 : h9.size ≤ T10.heap.size := KK10.1
  have K10 : Keep h0 T10.heap [] := K9.trans KK10 (allS (Or.inr (own_le (by omega))) all0)
  have N10 := Fr.app N0 Nq10
  refine own_st st10 ?_
  refine own_st (fun tq kq => XS.istore X10.here hx rfl (hb hby dC3_12) rfl (l' := #[vR b, vI 0, vI 3, vR b9, vI 2, .unset]) rfl kq) ?_
  refine s_iload X10 hx (hb hby dC3_14) rfl ?_
  refine s_iloadN X10 hx (hb hby dC3_16) rfl ?_
  show own_G p e below _ (T10.setTop (mkF m 17 #[vR b, vI 0, vI 3, vR b9, vI 2, .unset] [(.int 3), (.int 2)]))
  refine own_st (fun tq kq => XS.icmpNo X10.here hx rfl (hb hby dC3_17) rfl (feq (by decide : ¬ ((2 : Int32) = (3 : Int32)))).1 kq) ?_
  refine s_aloadN X10 hx (hb hby dC3_20) rfl rfl ?_
  refine s_iloadN X10 hx (hb hby dC3_21) rfl ?_
  refine s_iloadN X10 hx (hb hby dC3_22) rfl ?_
  show own_G p e below _ (T10.setTop (mkF m 23 #[vR b, vI 0, vI 3, vR b9, vI 2, .unset] [(.int 3), (.int 0), (.ref b)]))
  obtain ⟨_, _, ⟨T11, L11, k11, n11⟩, -, X11, ⟨Lc11, hQ11, l11, y11, z11⟩, st11⟩ := Jvm.LawKit.callS X10 hx (y := mN7) hown (mvT hZ (wd110 hw)) (mvT hZ (wd111 hw)) (mvT hZ (wd35 hw)) (mvT hZ (wd112 hw)) (by decide) (own_backN (W := 0) (own_toB3 l Z a0 hw [] (b) (kC) (dv) (c0) (c1) (c2) T10.heap n0 (by omega) (X00.keep K10 all0) OA OH OL ((Vb.ext E9).keep KK10 (ninS (own_ne (by omega)) nin0))) hZ (wd112 hw) (wd35 hw) (by decide) (by decide)) (g := (mkF m 23 #[vR b, vI 0, vI 3, vR b9, vI 2, .unset] [(.int 3), (.int 0), (.ref b)])) rfl (by rw [hml]; rfl) (argsL := [(.ref b), (.int 0), (.int 3)]) (rest := []) (lenOf own_pd5 rfl) rfl (Nat.le_of_eq rfl) (hb hby dC3_23) (fun _ _ => ⟨rfl, rfl, (by decide : 1 + 1 ≤ _), (by decide : 3 + 6 ≤ _)⟩)
  dsimp only [Pt.U, Pt.locs, Pt.cells, Pt.slots] at X11 l11 y11 z11 st11 hQ11
  subst l11 y11 z11
  obtain ⟨t11, kb11, rfl, Nq11, Kq11, gt11, lt11, Vt11⟩ := hQ11
  have KK11 : Keep T10.heap T11.heap [] := Kq11
  have sz11 : T10.heap.size ≤ T11.heap.size := KK11.1
  have K11 : Keep h0 T11.heap [] := K10.trans KK11 all0
  have N11 := Fr.app N10 Nq11
  refine own_st st11 ?_
  refine own_st (fun tq kq => XS.astore X11.here hx rfl (hb hby dC3_26) rfl rfl (l' := #[vR b, vI 0, vI 3, vR b9, vI 2, vR t11]) rfl kq) ?_
  refine s_aload X11 hx (hb hby dC3_28) rfl rfl ?_
  refine s_iload X11 hx (hb hby dC3_30) rfl ?_
  obtain ⟨_, _, ⟨T12, L12, k12, n12⟩, -, X12, ⟨Lc12, hQ12, l12, y12, z12⟩, st12⟩ := Jvm.LawKit.callS X11 hx (y := mN2) hown (mvT hZ (wd126 hw)) (mvT hZ (wd127 hw)) (mvT hZ (wd35 hw)) (mvT hZ (wd128 hw)) (by decide) (own_backN (W := 0) (own_get_2 l Z a0 hw [] (t11) (_) (_) (_) (_) (_) T11.heap n0 (by omega) (X00.keep K11 all0) OA OH OL Vt11 (by decide) (by decide) rfl rfl) hZ (wd128 hw) (wd35 hw) (by decide) (by decide)) (g := (mkF m 32 #[vR b, vI 0, vI 3, vR b9, vI 2, vR t11] [(.int 2), (.ref t11)])) rfl (by rw [hml]; rfl) (argsL := [(.ref t11), (.int 2)]) (rest := []) (lenOf own_pd6 rfl) rfl (Nat.le_of_eq rfl) (hb hby dC3_32) (fun _ _ => ⟨rfl, rfl, (by decide : 2 + 0 ≤ _), (by decide : 9 + 0 ≤ _)⟩)
  dsimp only [Pt.U, Pt.locs, Pt.cells, Pt.slots] at X12 l12 y12 z12 st12 hQ12
  subst l12 y12 z12
  obtain ⟨rfl, Nq12, sm12⟩ := hQ12
  have N12 := Fr.app N11 Nq12
  refine own_st st12 ?_
  refine s_sipush X12 hx (hb hby dC3_35) ?_
  show own_G p e below _ (T12.setTop (mkF m 38 #[vR b, vI 0, vI 3, vR b9, vI 2, vR t11] [(.int 255), (.int (StrChars.pairCh (L8 c2) (H8 c2)))]))
  refine own_st (fun tq kq => XS.icmpYes X12.here hx rfl (pc0 := 38) (pc' := 54) rfl (hb hby dC3_38) rfl (tlt (by rw [StrChars.pair_says hb2.1 hb2.2]; exact hg)).2.2.1 (by decide) (by decide) kq) ?_
  refine s_aload X12 hx (hb hby dC3_54) rfl rfl ?_
  show own_G p e below _ (T12.setTop (mkF m 56 #[vR b, vI 0, vI 3, vR b9, vI 2, vR t11] [(.ref t11)]))
  obtain ⟨fs, hr, hrun, hended, hW, hsame⟩ := X12.leave (v := some (.ref t11)) (fun h => by rw [Bd.returns] at h; cases h)
  refine ⟨_, _, retOut X12 hx Bd.returns rfl (Or.inr (Or.inr (Or.inr (Or.inr ⟨rfl, rfl, rfl⟩)))) (hb hby dC3_56) hr, hrun, hended, _, _, rfl, ?_, ⟨_, rfl⟩, hW, hsame.mono (by decide) (by decide)⟩
  change Q_own_cm3_3 Z b kC dv c0 c1 c2 h0 n0 _ T12.heap _; rw [sm12]; exact ⟨t11, _, rfl, N12, K11, (by omega), Vt11.lt, Vt11⟩

def Q_own_n4_3 (Z : State) (x b : Nat) (v0 c_0 dv : Value) (kC : ClassId) (G1 : Int32) (c0 c1 c2 : Int32) (h0 : Heap) (n0 : Nat) (v : Option Value) (h : Heap) (L : List Loc) : Prop := v = none ∧ Fr n0 L ∧ Keep h0 h [x] ∧ ∃ (t : Nat) (kb : ClassId), Fld Z h x "java/lang/String" "value" "[B" (.ref t) ∧ Fld Z h x "java/lang/String" "coder" "B" (.int (1 : Int32)) ∧ Arv Z h t kb .byte (6 : Int32) [.int (L8 c0), .int (H8 c0), .int (L8 c1), .int (H8 c1), .int (L8 c2), .int (H8 c2)] (.int 0)
theorem ef_own_n4_3 (m : MethodId) (x0 : Nat) (x1 : Nat) : entryFrame m #[(.ref x0), (.ref x1), (.int 0), (.int 3), .null] 6 = mkF m 0 #[.val (.ref x0), .val (.ref x1), .val (.int 0), .val (.int 3), .val .null, .unset] [] := by first | (simp [entryFrame, mkF, argsToLocals, Value.category]; done) | rfl
theorem own_n4_3 (l : Launch) (Z : State) (a0 : Array Value) (hw : hWt a0 Z) (ws : List Jvm.Cond) (x b : Nat) (v0 c_0 dv : Value) (kC : ClassId) (G1 : Int32) (c0 c1 c2 : Int32) (h0 : Heap) (n0 : Nat) (Z0 : n0 ≤ h0.size) (X00 : Old Z n0 h0) (Ex : Exa Z h0 x "java/lang/String") (Fv : Fld Z h0 x "java/lang/String" "value" "[B" v0) (Fc : Fld Z h0 x "java/lang/String" "coder" "B" c_0) (gx : n0 ≤ x) (ltx : x < h0.size) (Vb : Arv Z h0 b kC .char (3 : Int32) [.int c0, .int c1, .int c2] dv) (O2 : Sta Z Z.heap "java/lang/String" "COMPACT_STRINGS" "Z" (.int G1)) (P5 : ¬ (G1 = (0 : Int32))) (OA : oA Z) (OH : oH Z) (OL : oL Z) (hb0 : ¬ c0 < 0 ∧ ¬ (65535 : Int32) < c0) (hb1 : ¬ c1 < 0 ∧ ¬ (65535 : Int32) < c1) (hb2 : ¬ c2 < 0 ∧ ¬ (65535 : Int32) < c2) (hD : ((255 : Int32) < c0) ∨ (¬ (255 : Int32) < c0 ∧ (255 : Int32) < c1) ∨ (¬ (255 : Int32) < c0 ∧ ¬ (255 : Int32) < c1 ∧ (255 : Int32) < c2)) :
 own_MN l mN0 jdk_42_method_149_code 6 none ws rm_4_2_9_95 Z #[(.ref x), (.ref b), (.int 0), (.int 3), .null] h0 (Q_own_n4_3 Z x b v0 c_0 dv kC G1 c0 c1 c2 h0 n0) := by
 refine own_bodyN (plainFor_of_name own_pn0) fun p e s m below meth c s₁ Bd hx hby hml hown hZ X0 e0 => ?_
 have hnm := (name_of_methodNamed Bd.named Bd.method).1
 have N0 := Fr.nil n0
 have K0 : Keep h0 h0 [x] := Keep.refl h0 [x]
 refine own_st (fun tq kq => castTop (ef_own_n4_3 m (x) (b)) kq) ?_
 show own_G p e below _ (s₁.setTop (mkF m 0 #[vR x, vR b, vI 0, vI 3, .val .null, .unset] []))
 have hws0 : ∀ y ∈ [x], n0 ≤ y := allS gx all0
 refine s_aloadN X0 hx (hb hby dN4_0) rfl rfl ?_
 obtain ⟨T1, X1, e1, st1⟩ := initO X0 hx hZ hown (wd12 hw) (wd13 hw) (wd14 hw) e0 (g := (mkF m 1 #[vR x, vR b, vI 0, vI 3, .val .null, .unset] [(.ref x)])) rfl (by rw [hml]; rfl) rfl (hb hby dN4_1) (by decide) (W := 0) (Nat.le_of_eq rfl) (by decide)
 refine own_st st1 ?_
 refine s_iloadN X1 hx (hb hby dN4_4) rfl ?_
 show own_G p e below _ (T1.setTop (mkF m 5 #[vR x, vR b, vI 0, vI 3, .val .null, .unset] [(.int 3)]))
 refine own_st (fun tq kq => XS.ifYes X1.here hx rfl (pc0 := 5) (pc' := 27) rfl (hb hby dN4_5) rfl ((if0 _ _).trans (feq (by decide : ¬ ((3 : Int32) = (0 : Int32)))).2) (by decide) (by decide) kq) ?_
 obtain ⟨T2, X2, e2, st2⟩ := getS2 X1 hx hZ hown (host := "") (Or.inl (wd32 hw)) Via.refl e1 (O2.ext (X00.keep K0 hws0).2) (g := (mkF m 27 #[vR x, vR b, vI 0, vI 3, .val .null, .unset] [])) rfl (hb hby dN4_27)
 refine own_st st2 ?_
 refine own_st (fun tq kq => XS.ifNo X2.here hx rfl (hb hby dN4_30) rfl ((if0 _ _).trans (feq P5).1) kq) ?_
 refine s_aloadN X2 hx (hb hby dN4_33) rfl rfl ?_
 refine s_iloadN X2 hx (hb hby dN4_34) rfl ?_
 refine s_iloadN X2 hx (hb hby dN4_35) rfl ?_
 show own_G p e below _ (T2.setTop (mkF m 36 #[vR x, vR b, vI 0, vI 3, .val .null, .unset] [(.int 3), (.int 0), (.ref b)]))
 obtain ⟨_, _, ⟨T3, L3, k3, n3⟩, -, X3, ⟨Lc3, hQ3, l3, y3, z3⟩, st3⟩ := Jvm.LawKit.callS X2 hx (y := mN10) hown (mvT hZ (wd33 hw)) (mvT hZ (wd34 hw)) (mvT hZ (wd35 hw)) (mvT hZ (wd36 hw)) (by decide) (own_backN (W := 0) (own_cm3_3 l Z a0 hw [] (b) (kC) (dv) (c0) (c1) (c2) h0 n0 (by omega) (X00.keep K0 hws0) OA OH OL Vb hb0 hb1 hb2 hD) hZ (wd36 hw) (wd35 hw) (by decide) (by decide)) (g := (mkF m 36 #[vR x, vR b, vI 0, vI 3, .val .null, .unset] [(.int 3), (.int 0), (.ref b)])) rfl (by rw [hml]; rfl) (argsL := [(.ref b), (.int 0), (.int 3)]) (rest := []) (lenOf own_pd5 rfl) rfl (Nat.le_of_eq rfl) (hb hby dN4_36) (fun _ _ => ⟨rfl, e2, (by decide : 0 + 2 ≤ _), (by decide : 0 + 9 ≤ _)⟩)
 dsimp only [Pt.U, Pt.locs, Pt.cells, Pt.slots] at X3 l3 y3 z3 st3 hQ3
 subst l3 y3 z3
 obtain ⟨t3, kb3, rfl, Nq3, Kq3, gt3, lt3, Vt3⟩ := hQ3
 have KK3 : Keep h0 T3.heap [] := Kq3
 have sz3 : h0.size ≤ T3.heap.size := KK3.1
 have K3 : Keep h0 T3.heap [x] := K0.trans KK3 all0
 have N3 := Fr.app N0 Nq3
 refine own_st st3 ?_
 refine own_st (fun tq kq => XS.astore X3.here hx rfl (hb hby dN4_39) rfl rfl (l' := #[vR x, vR b, vI 0, vI 3, .val .null, vR t3]) rfl kq) ?_
 refine s_aloadN X3 hx (hb hby dN4_41) rfl rfl ?_
 refine s_aload X3 hx (hb hby dN4_42) rfl rfl ?_
 refine s_iloadN X3 hx (hb hby dN4_44) rfl ?_
 show own_G p e below _ (T3.setTop (mkF m 45 #[vR x, vR b, vI 0, vI 3, .val .null, vR t3] [(.int 3), (.ref t3), (.ref x)]))
 obtain ⟨_, _, ⟨T4, L4, k4, n4⟩, -, X4, ⟨Lc4, hQ4, l4, y4, z4⟩, st4⟩ := Jvm.LawKit.callS X3 hx (y := mN8) hown (mvT hZ (wd40 hw)) (mvT hZ (wd41 hw)) (mvT hZ (wd35 hw)) (mvT hZ (wd42 hw)) (by decide) (own_backN (W := 1) (own_cfl3 l Z a0 hw [] (t3) (_) (_) T3.heap n0 (by omega) (X00.keep K3 hws0) Vt3) hZ (wd42 hw) (wd35 hw) (by decide) (by decide)) (g := (mkF m 45 #[vR x, vR b, vI 0, vI 3, .val .null, vR t3] [(.int 3), (.ref t3), (.ref x)])) rfl (by rw [hml]; rfl) (argsL := [(.ref t3), (.int 3)]) (rest := [(.ref x)]) (lenOf own_pd7 rfl) rfl (Nat.le_of_eq rfl) (hb hby dN4_45) (fun _ _ => ⟨rfl, rfl, (by decide : 2 + 0 ≤ _), (by decide : 9 + 0 ≤ _)⟩)
 dsimp only [Pt.U, Pt.locs, Pt.cells, Pt.slots] at X4 l4 y4 z4 st4 hQ4
 subst l4 y4 z4
 obtain ⟨rfl, Nq4, sm4⟩ := hQ4
 have N4 := Fr.app N3 Nq4
 refine own_st st4 ?_
 obtain ⟨T5, h5, X5, e5, W5, st5⟩ := putF X4 hx hZ hown (host := "") (Or.inl (wd22 hw)) Via.refl sm4 (Fc.keep KK3 nin0) (Ex.keep KK3) (Or.inr ⟨(wd18 hw), rfl, hnm⟩) (wd2 hw) (ty := .byte) (by decide) rfl rfl (g := (mkF m 48 #[vR x, vR b, vI 0, vI 3, .val .null, vR t3] [(.int 1), (.ref x)])) rfl rfl (hb hby dN4_48)
 have Fw5 := (Fc.keep KK3 nin0).same W5
 have sz5 : T3.heap.size ≤ h5.size := (Keep.of_wr W5).1
 have K5 : Keep h0 h5 [x] := K3.wr W5 (Or.inl (by simp))
 have N5 := Fr.snoc X5 N4 (own_le (by omega))
 refine own_st st5 ?_
 refine s_aloadN X5 hx (hb hby dN4_51) rfl rfl ?_
 refine s_aload X5 hx (hb hby dN4_52) rfl rfl ?_
 obtain ⟨T6, h6, X6, e6, W6, st6⟩ := putF X5 hx hZ hown (host := "") (Or.inl (wd21 hw)) Via.refl e5 ((Fv.keep KK3 nin0).other W5 (Or.inr (slot_ne (Or.inr (wd17 hw)) (Or.inr (wd18 hw)) (by decide) (t := (.array .byte)) (t' := .byte) (by decide) (by decide)))) ((Ex.keep KK3).wr W5) (Or.inr ⟨(wd17 hw), rfl, hnm⟩) (wd2 hw) (ty := (.array .byte)) (by decide) rfl rfl (g := (mkF m 54 #[vR x, vR b, vI 0, vI 3, .val .null, vR t3] [(.ref t3), (.ref x)])) rfl rfl (hb hby dN4_54)
 have Fw6 := ((Fv.keep KK3 nin0).other W5 (Or.inr (slot_ne (Or.inr (wd17 hw)) (Or.inr (wd18 hw)) (by decide) (t := (.array .byte)) (t' := .byte) (by decide) (by decide)))).same W6
 have sz6 : h5.size ≤ h6.size := (Keep.of_wr W6).1
 have K6 : Keep h0 h6 [x] := K5.wr W6 (Or.inl (by simp))
 have N6 := Fr.snoc X6 N5 (own_le (by omega))
 refine own_st st6 ?_
 obtain ⟨fs, hr, hrun, hended, hW, hsame⟩ := X6.leave (v := none) (fun _ => rfl)
 refine ⟨_, _, X6.returnOut hx Bd.returns (hb hby dN4_57) hr, hrun, hended, _, _, rfl, ?_, ⟨_, rfl⟩, hW, hsame.mono (by decide) (by decide)⟩
 change Q_own_n4_3 Z x b v0 c_0 dv kC G1 c0 c1 c2 h0 n0 _ T6.heap _; rw [e6]; exact ⟨rfl, N6, K6, t3, _, Fw6, (Fw5.other W6 (Or.inr (slot_ne (Or.inr (wd18 hw)) (Or.inr (wd17 hw)) (by decide) (t := .byte) (t' := (.array .byte)) (by decide) (by decide)))), ((Vt3.other W5 (own_ne (by omega))).other W6 (own_ne (by omega)))⟩

def Q_own_n1_3 (Z : State) (x b : Nat) (v0 c_0 dv : Value) (kC : ClassId) (G1 : Int32) (c0 c1 c2 : Int32) (h0 : Heap) (n0 : Nat) (v : Option Value) (h : Heap) (L : List Loc) : Prop := v = none ∧ Fr n0 L ∧ Keep h0 h [x] ∧ ∃ (t : Nat) (kb : ClassId), Fld Z h x "java/lang/String" "value" "[B" (.ref t) ∧ Fld Z h x "java/lang/String" "coder" "B" (.int (1 : Int32)) ∧ Arv Z h t kb .byte (6 : Int32) [.int (L8 c0), .int (H8 c0), .int (L8 c1), .int (H8 c1), .int (L8 c2), .int (H8 c2)] (.int 0)
theorem ef_own_n1_3 (m : MethodId) (x0 : Nat) (x1 : Nat) : entryFrame m #[(.ref x0), (.ref x1)] 2 = mkF m 0 #[.val (.ref x0), .val (.ref x1)] [] := by first | (simp [entryFrame, mkF, argsToLocals, Value.category]; done) | rfl
theorem own_n1_3 (l : Launch) (Z : State) (a0 : Array Value) (hw : hWt a0 Z) (ws : List Jvm.Cond) (x b : Nat) (v0 c_0 dv : Value) (kC : ClassId) (G1 : Int32) (c0 c1 c2 : Int32) (h0 : Heap) (n0 : Nat) (Z0 : n0 ≤ h0.size) (X00 : Old Z n0 h0) (Ex : Exa Z h0 x "java/lang/String") (Fv : Fld Z h0 x "java/lang/String" "value" "[B" v0) (Fc : Fld Z h0 x "java/lang/String" "coder" "B" c_0) (gx : n0 ≤ x) (ltx : x < h0.size) (Vb : Arv Z h0 b kC .char (3 : Int32) [.int c0, .int c1, .int c2] dv) (O2 : Sta Z Z.heap "java/lang/String" "COMPACT_STRINGS" "Z" (.int G1)) (P5 : ¬ (G1 = (0 : Int32))) (OA : oA Z) (OH : oH Z) (OL : oL Z) (hb0 : ¬ c0 < 0 ∧ ¬ (65535 : Int32) < c0) (hb1 : ¬ c1 < 0 ∧ ¬ (65535 : Int32) < c1) (hb2 : ¬ c2 < 0 ∧ ¬ (65535 : Int32) < c2) (hD : ((255 : Int32) < c0) ∨ (¬ (255 : Int32) < c0 ∧ (255 : Int32) < c1) ∨ (¬ (255 : Int32) < c0 ∧ ¬ (255 : Int32) < c1 ∧ (255 : Int32) < c2)) :
 own_MN l mN1 jdk_42_method_3_code 2 none ws rm_5_2_9_115 Z #[(.ref x), (.ref b)] h0 (Q_own_n1_3 Z x b v0 c_0 dv kC G1 c0 c1 c2 h0 n0) := by
 refine own_bodyN (plainFor_of_name own_pn0) fun p e s m below meth c s₁ Bd hx hby hml hown hZ X0 e0 => ?_
 have hnm := (name_of_methodNamed Bd.named Bd.method).1
 have N0 := Fr.nil n0
 have K0 : Keep h0 h0 [x] := Keep.refl h0 [x]
 refine own_st (fun tq kq => castTop (ef_own_n1_3 m (x) (b)) kq) ?_
 show own_G p e below _ (s₁.setTop (mkF m 0 #[vR x, vR b] []))
 have hws0 : ∀ y ∈ [x], n0 ≤ y := allS gx all0
 refine s_aloadN X0 hx (hb hby dN1_0) rfl rfl ?_
 refine s_aloadN X0 hx (hb hby dN1_1) rfl rfl ?_
 refine s_iconst X0 hx (hb hby dN1_2) ?_
 refine s_aloadN X0 hx (hb hby dN1_3) rfl rfl ?_
 show own_G p e below _ (s₁.setTop (mkF m 4 #[vR x, vR b] [(.ref b), (.int 0), (.ref b), (.ref x)]))
 obtain ⟨cl1, Ar1, q1, S_1, N_1, H_1, G_1⟩ := id Vb
 refine own_st (fun tq kq => X0.arraylength hx (by rw [e0]; exact Ar1.1) (State.isArrayOf_alike hZ.alike Ar1.2.1) (g := (mkF m 4 #[vR x, vR b] [(.ref b), (.int 0), (.ref b), (.ref x)])) rfl rfl (hb hby dN1_4) _ kq) ?_
 rw [len_of S_1 N_1]
 show own_G p e below _ (s₁.setTop (mkF m 5 #[vR x, vR b] [(.int 3), (.int 0), (.ref b), (.ref x)]))
 refine own_st (fun tq kq => XS.aconstNull X0.here hx rfl (hb hby dN1_5) kq) ?_
 obtain ⟨_, _, ⟨T2, L2, k2, n2⟩, -, X2, ⟨Lc2, hQ2, l2, y2, z2⟩, st2⟩ := X0.specialBack hx (y := mN0) rfl hown (mvT hZ (wd8 hw)) (mvT hZ (wd9 hw)) (mvT hZ (wd11 hw)) (by decide) (own_backN (W := 0) (own_n4_3 l Z a0 hw [] (x) (b) (v0) (c_0) (dv) (kC) (G1) (c0) (c1) (c2) h0 n0 (by omega) (X00.keep K0 hws0) Ex Fv Fc gx ltx Vb O2 P5 OA OH OL hb0 hb1 hb2 hD) hZ (wd11 hw) (wd3 hw) (by decide) (by decide)) (g := (mkF m 6 #[vR x, vR b] [.null, (.int 3), (.int 0), (.ref b), (.ref x)])) rfl (by rw [hml]; rfl) (Steps.refl _) (a := x) (argsL := [(.ref b), (.int 0), (.int 3), .null]) (rest := []) (lenOf own_pd0 rfl) rfl (Nat.le_of_eq rfl) (hb hby dN1_6) (fun _ _ => ⟨rfl, e0, (by decide : 0 + 2 ≤ _), (by decide : 0 + 9 ≤ _)⟩)
 dsimp only [Pt.U, Pt.locs, Pt.cells, Pt.slots] at X2 l2 y2 z2 st2 hQ2
 subst l2 y2 z2
 obtain ⟨rfl, Nq2, Kq2, R2⟩ := hQ2
 have KK2 : Keep h0 T2.heap [x] := Kq2
 have sz2 : h0.size ≤ T2.heap.size := KK2.1
 have K2 : Keep h0 T2.heap [x] := K0.trans KK2 (allS (Or.inl (by simp)) all0)
 have N2 := Fr.app N0 Nq2
 refine own_st (fun tq kq => st2.trans kq) ?_
 obtain ⟨fs, hr, hrun, hended, hW, hsame⟩ := X2.leave (v := none) (fun _ => rfl)
 refine ⟨_, _, X2.returnOut hx Bd.returns (hb hby dN1_9) hr, hrun, hended, _, _, rfl, ?_, ⟨_, rfl⟩, hW, hsame.mono (by decide) (by decide)⟩
 change Q_own_n1_3 Z x b v0 c_0 dv kC G1 c0 c1 c2 h0 n0 _ T2.heap _; exact ⟨rfl, N2, K2, R2⟩

set_option maxRecDepth 65536 in
set_option maxHeartbeats 40000000 in
theorem own_newU3 {p : Program} {l : Launch} {e : Env} {R : Room} {s : State} {args : Array Value} {below : List Frame} {len W : Nat} {Z : State} {a0 : Array Value} {h : Heap} {vm0 : Vm} (hZ : Z.Warmed39 vm0) (hw : ∀ d ∈ tables_1, d.before a0 Z = true) (hEL : EW Z a0 consts_1) (H : CHv Z consts_1 vm0 h)
    {x b : Nat} {kC : ClassId} {c0 c1 c2 : Int32} {d v0 c_0 : Value} {z : Int32} {n0 : Nat} (hs : Safe Z consts_1 vm0 h x) (hx0 : n0 ≤ x) (X00 : Old Z n0 h) (E : Exa Z h x "java/lang/String") (V : Fld Z h x "java/lang/String" "value" "[B" v0) (F : Fld Z h x "java/lang/String" "coder" "B" c_0) (K : Arv Z h b kC .char (3 : Int32) [.int c0, .int c1, .int c2] d) (S : Sta Z Z.heap "java/lang/String" "COMPACT_STRINGS" "Z" (.int z)) (hz : ¬ z = 0) (OA : oA Z) (OH : oH Z) (OL : oL Z)
    (hp : ∀ c ∈ ([c0, c1, c2] : List Int32), ¬ c < 0 ∧ ¬ (65535 : Int32) < c) (hfr : 6 ≤ R.frames) (hlo : W + 128 ≤ R.locals) :
    BackS l R p e below (s.setVm vm0) args (⟨"java/lang/String", "<init>", "([C)V"⟩ : MethodName) len W (fun P a => a = #[.ref x, .ref b] ∧ P.U.heap = h ∧ P.cells + 2 ≤ R.cells ∧ P.slots + 13 ≤ R.slots)
      (fun P _ v B => ∃ L, own_QU Z x ([c0, c1, c2] : List Int32) h n0 v B.U.heap L ∧ B.locs = P.locs ++ L ∧ B.cells = P.cells + 2 ∧ B.slots = P.slots + 13 ∧ CHr Z consts_1 vm0 h B.U.vm B.U.heap) := by
  have hh0 : n0 ≤ h.size := by have := X00.1; have := X00.2.1; omega
  have key : (((255 : Int32) < c0) ∨ (¬ (255 : Int32) < c0 ∧ (255 : Int32) < c1) ∨ (¬ (255 : Int32) < c0 ∧ ¬ (255 : Int32) < c1 ∧ (255 : Int32) < c2)) ∨ (¬ (255 : Int32) < c0 ∧ ¬ (255 : Int32) < c1 ∧ ¬ (255 : Int32) < c2) := by
    by_cases hl0 : (255 : Int32) < c0
    · exact Or.inl (Or.inl hl0)
    by_cases hl1 : (255 : Int32) < c1
    · exact Or.inl (Or.inr (Or.inl ⟨hl0, hl1⟩))
    by_cases hl2 : (255 : Int32) < c2
    · exact Or.inl (Or.inr (Or.inr (⟨hl0, hl1, hl2⟩)))
    exact Or.inr ⟨hl0, hl1, hl2⟩
  rcases key with hD | hL
  · have hex : ∃ c ∈ ([c0, c1, c2] : List Int32), 255 < c := by
     rcases hD with hg | ⟨-, hg⟩ | ⟨-, -, hg⟩
     · exact ⟨c0, by simp, hg⟩
     · exact ⟨c1, by simp, hg⟩
     · exact ⟨c2, by simp, hg⟩
    intro m meth c P g ig mk a X hg hsize hdg hW hnn hp'
    obtain ⟨v, B, Y, ⟨L, hQ, e1, e2, e3⟩, st⟩ := own_backN (rm := rm_5_2_9_115) (R := R) (W := W) (s := s.setVm vm0) (own_n1_3 l Z a0 hw [] x b v0 c_0 d kC z c0 c1 c2 h n0 hh0 X00 E V F hx0 E.lt K S hz OA OH OL (hp _ (by simp)) (hp _ (by simp)) (hp _ (by simp)) hD) hZ (wd7 hw) (wd3 hw) (by show 5 + 1 ≤ _; omega) (by show W + (2 + 11) + 115 ≤ _; omega) m meth c P g ig mk a X hg hsize hdg hW hnn ⟨hp'.1, hp'.2.1, Nat.le_trans (by show _ + 2 ≤ _ + 2; exact Nat.le_refl _) hp'.2.2.1, Nat.le_trans (by show _ + 9 ≤ _ + 13; exact Nat.add_le_add_left (by decide) _) hp'.2.2.2⟩
    obtain ⟨BU, BL, Bc, Bs⟩ := B
    dsimp only [Pt.U, Pt.locs, Pt.cells, Pt.slots] at Y hQ e1 e2 e3 st
    obtain ⟨r1, r2, r3, t, kb, r5, r6, r7⟩ := hQ
    have hCH : CHr Z consts_1 vm0 h vm0 BU.heap := CHr.keep r3 (allS hs all0) H
    have Y2 : Stand p l e R (s.setVm vm0) m args below meth c BU BL (P.cells + 2) (P.slots + 13) := Y.mono (by rw [e2]; exact Nat.le_refl _) (by rw [e3]; exact Nat.add_le_add_left (by decide) _)
    refine ⟨v, ⟨BU, BL, P.cells + 2, P.slots + 13⟩, Y2.retabled Y2.warmed.wide, Y2.warmed.since _, ?_, ⟨L, ⟨r1, r2, r3, r5.lt, E.keep r3, hp, by simp, t, kb, 1, _, _, r7.lt, r5, r6, r7, Or.inr ⟨rfl, rfl, rfl, hex⟩⟩, e1, rfl, rfl, hCH.trans (CHv.at (s := s) (vm0 := vm0) Y2 hZ hEL hCH.1)⟩, st⟩
    show P.U.heap.size ≤ BU.heap.size
    rw [hp'.2.1]; exact r3.1
  obtain ⟨hl0, hl1, hl2⟩ := hL
  have hp2 : ∀ c ∈ ([c0, c1, c2] : List Int32), ¬ c < 0 ∧ ¬ (255 : Int32) < c := by
    intro c hc
    simp only [List.mem_cons, List.not_mem_nil, or_false] at hc
    rcases hc with rfl | rfl | rfl
    · exact ⟨(hp _ (by simp)).1, hl0⟩
    · exact ⟨(hp _ (by simp)).1, hl1⟩
    · exact ⟨(hp _ (by simp)).1, hl2⟩
  intro m meth c P g ig mk a X hg hsize hdg hW hnn hp'
  obtain ⟨v, B, Y, q1, q2, ⟨L, hQ, e1, e2, e3, hc⟩, st⟩ := own_newStr (R := R) (W := W) (s := s) (vm0 := vm0) hZ hw hEL H (cs := ([c0, c1, c2] : List Int32)) (n := 3) (n0 := n0) hs hx0 X00 E V F K S hz rfl rfl (by decide) hp2 (by omega) (by omega) m meth c P g ig mk a X hg hsize hdg hW hnn ⟨hp'.1, hp'.2.1, hp'.2.2.1, Nat.le_trans (Nat.add_le_add_left (by decide) _) hp'.2.2.2⟩
  obtain ⟨BU, BL, Bc, Bs⟩ := B
  dsimp only [Pt.U, Pt.locs, Pt.cells, Pt.slots] at Y q1 q2 hQ e1 e2 e3 st hc
  have Y2 : Stand p l e R ((s.setVm vm0).setVm BU.vm) m args below meth c BU BL (P.cells + 2) (P.slots + 13) := Y.mono (by rw [e2]; exact Nat.le_refl _) (by rw [e3]; exact Nat.add_le_add_left (by decide) _)
  exact ⟨v, ⟨BU, BL, P.cells + 2, P.slots + 13⟩, Y2, q1, q2, ⟨L, ⟨hQ.1, hQ.2.1, hQ.2.2.1, hQ.2.2.2.toU⟩, e1, rfl, rfl, hc⟩, st⟩

def Q_own_pidxN (Z : State) (i nn : Int32) (h0 : Heap) (n0 : Nat) (v : Option Value) (h : Heap) (L : List Loc) : Prop := v = some (.int i) ∧ Fr n0 L ∧ h = h0
theorem ef_own_pidxN (m : MethodId) (x0 : Int32) (x1 : Int32) : entryFrame m #[(.int x0), (.int x1), .null] 3 = mkF m 0 #[.val (.int x0), .val (.int x1), .val .null] [] := by first | (simp [entryFrame, mkF, argsToLocals, Value.category]; done) | rfl
theorem own_pidxN (l : Launch) (Z : State) (a0 : Array Value) (hw : hWt a0 Z) (ws : List Jvm.Cond) (i nn : Int32) (h0 : Heap) (n0 : Nat) (Z0 : n0 ≤ h0.size) (X00 : Old Z n0 h0) (h1 : ¬ i < (0 : Int32)) (h2 : i < nn) :
 own_MN l mN11 jdk_41_method_11_code 3 (some .int) ws rm_0_0_0_0 Z #[(.int i), (.int nn), .null] h0 (Q_own_pidxN Z i nn h0 n0) := by
 refine own_bodyN (plainFor_of_name own_pn2) fun p e s m below meth c s₁ Bd hx hby hml hown hZ X0 e0 => ?_
 have N0 := Fr.nil n0
 have K0 : Keep h0 h0 [] := Keep.refl h0 []
 refine own_st (fun tq kq => castTop (ef_own_pidxN m (i) (nn)) kq) ?_
 show own_G p e below _ (s₁.setTop (mkF m 0 #[vI i, vI nn, .val .null] []))
 refine s_iloadN X0 hx (hb hby dPI_0) rfl ?_
 show own_G p e below _ (s₁.setTop (mkF m 1 #[vI i, vI nn, .val .null] [(.int i)]))
 refine own_st (fun tq kq => XS.ifNo X0.here hx rfl (hb hby dPI_1) rfl ((if0 _ _).trans (flt h1).1) kq) ?_
 refine s_iloadN X0 hx (hb hby dPI_4) rfl ?_
 refine s_iloadN X0 hx (hb hby dPI_5) rfl ?_
 show own_G p e below _ (s₁.setTop (mkF m 6 #[vI i, vI nn, .val .null] [(.int nn), (.int i)]))
 refine own_st (fun tq kq => XS.icmpYes X0.here hx rfl (pc0 := 6) (pc' := 16) rfl (hb hby dPI_6) rfl (tlt h2).1 (by decide) (by decide) kq) ?_
 refine s_iloadN X0 hx (hb hby dPI_16) rfl ?_
 show own_G p e below _ (s₁.setTop (mkF m 17 #[vI i, vI nn, .val .null] [(.int i)]))
 obtain ⟨fs, hr, hrun, hended, hW, hsame⟩ := X0.leave (v := some (.int i)) (fun h => by rw [Bd.returns] at h; cases h)
 refine ⟨_, _, retOut X0 hx Bd.returns rfl (Or.inl ⟨rfl, by simp, _, rfl⟩) (hb hby dPI_17) hr, hrun, hended, _, _, rfl, ?_, ⟨_, rfl⟩, hW, hsame.mono (by decide) (by decide)⟩
 change Q_own_pidxN Z i nn h0 n0 _ s₁.heap _; rw [e0]; exact ⟨rfl, N0, rfl⟩

def Q_own_pidxR (Z : State) (i nn : Int32) (gf : Nat) (h0 : Heap) (n0 : Nat) (v : Option Value) (h : Heap) (L : List Loc) : Prop := v = some (.int i) ∧ Fr n0 L ∧ h = h0
theorem ef_own_pidxR (m : MethodId) (x0 : Int32) (x1 : Int32) (x2 : Nat) : entryFrame m #[(.int x0), (.int x1), (.ref x2)] 3 = mkF m 0 #[.val (.int x0), .val (.int x1), .val (.ref x2)] [] := by first | (simp [entryFrame, mkF, argsToLocals, Value.category]; done) | rfl
theorem own_pidxR (l : Launch) (Z : State) (a0 : Array Value) (hw : hWt a0 Z) (ws : List Jvm.Cond) (i nn : Int32) (gf : Nat) (h0 : Heap) (n0 : Nat) (Z0 : n0 ≤ h0.size) (X00 : Old Z n0 h0) (h1 : ¬ i < (0 : Int32)) (h2 : i < nn) :
 own_MN l mN11 jdk_41_method_11_code 3 (some .int) ws rm_0_0_0_0 Z #[(.int i), (.int nn), (.ref gf)] h0 (Q_own_pidxR Z i nn gf h0 n0) := by
 refine own_bodyN (plainFor_of_name own_pn2) fun p e s m below meth c s₁ Bd hx hby hml hown hZ X0 e0 => ?_
 have N0 := Fr.nil n0
 have K0 : Keep h0 h0 [] := Keep.refl h0 []
 refine own_st (fun tq kq => castTop (ef_own_pidxR m (i) (nn) (gf)) kq) ?_
 show own_G p e below _ (s₁.setTop (mkF m 0 #[vI i, vI nn, vR gf] []))
 refine s_iloadN X0 hx (hb hby dPI_0) rfl ?_
 show own_G p e below _ (s₁.setTop (mkF m 1 #[vI i, vI nn, vR gf] [(.int i)]))
 refine own_st (fun tq kq => XS.ifNo X0.here hx rfl (hb hby dPI_1) rfl ((if0 _ _).trans (flt h1).1) kq) ?_
 refine s_iloadN X0 hx (hb hby dPI_4) rfl ?_
 refine s_iloadN X0 hx (hb hby dPI_5) rfl ?_
 show own_G p e below _ (s₁.setTop (mkF m 6 #[vI i, vI nn, vR gf] [(.int nn), (.int i)]))
 refine own_st (fun tq kq => XS.icmpYes X0.here hx rfl (pc0 := 6) (pc' := 16) rfl (hb hby dPI_6) rfl (tlt h2).1 (by decide) (by decide) kq) ?_
 refine s_iloadN X0 hx (hb hby dPI_16) rfl ?_
 show own_G p e below _ (s₁.setTop (mkF m 17 #[vI i, vI nn, vR gf] [(.int i)]))
 obtain ⟨fs, hr, hrun, hended, hW, hsame⟩ := X0.leave (v := some (.int i)) (fun h => by rw [Bd.returns] at h; cases h)
 refine ⟨_, _, retOut X0 hx Bd.returns rfl (Or.inl ⟨rfl, by simp, _, rfl⟩) (hb hby dPI_17) hr, hrun, hended, _, _, rfl, ?_, ⟨_, rfl⟩, hW, hsame.mono (by decide) (by decide)⟩
 change Q_own_pidxR Z i nn gf h0 n0 _ s₁.heap _; rw [e0]; exact ⟨rfl, N0, rfl⟩

def Q_own_cidx (Z : State) (i nn : Int32) (fm : Value) (h0 : Heap) (n0 : Nat) (v : Option Value) (h : Heap) (L : List Loc) : Prop := v = none ∧ Fr n0 L ∧ h = h0
theorem ef_own_cidx (m : MethodId) (x0 : Int32) (x1 : Int32) : entryFrame m #[(.int x0), (.int x1)] 2 = mkF m 0 #[.val (.int x0), .val (.int x1)] [] := by first | (simp [entryFrame, mkF, argsToLocals, Value.category]; done) | rfl
theorem own_cidx (l : Launch) (Z : State) (a0 : Array Value) (hw : hWt a0 Z) (ws : List Jvm.Cond) (i nn : Int32) (fm : Value) (h0 : Heap) (n0 : Nat) (Z0 : n0 ≤ h0.size) (X00 : Old Z n0 h0) (O4 : o4 Z fm) (rfm : fm.isRef = true) (h1 : ¬ i < (0 : Int32)) (h2 : i < nn) :
 own_MN l mN12 jdk_42_method_155_code 2 none ws rm_1_0_0_20 Z #[(.int i), (.int nn)] h0 (Q_own_cidx Z i nn fm h0 n0) := by
 refine own_bodyN (plainFor_of_name own_pn0) fun p e s m below meth c s₁ Bd hx hby hml hown hZ X0 e0 => ?_
 have N0 := Fr.nil n0
 have K0 : Keep h0 h0 [] := Keep.refl h0 []
 refine own_st (fun tq kq => castTop (ef_own_cidx m (i) (nn)) kq) ?_
 show own_G p e below _ (s₁.setTop (mkF m 0 #[vI i, vI nn] []))
 rcases ref_cases rfm with rfl | ⟨gf, rfl⟩
 ·
  refine s_iloadN X0 hx (hb hby dCI_0) rfl ?_
  refine s_iloadN X0 hx (hb hby dCI_1) rfl ?_
  obtain ⟨T1, X1, e1, st1⟩ := getS2 X0 hx hZ hown (host := "") (Or.inl (wd105 hw)) Via.refl e0 (O4.ext (X00.keep K0 all0).2) (g := (mkF m 2 #[vI i, vI nn] [(.int nn), (.int i)])) rfl (hb hby dCI_2)
  refine own_st st1 ?_
  obtain ⟨_, _, ⟨T2, L2, k2, n2⟩, -, X2, ⟨Lc2, hQ2, l2, y2, z2⟩, st2⟩ := Jvm.LawKit.callS X1 hx (y := mN11) hown (mvT hZ (wd107 hw)) (mvT hZ (wd108 hw)) (mvT hZ (wd106 hw)) (mvT hZ (wd109 hw)) (by decide) (own_backN (W := 0) (own_pidxN l Z a0 hw [] (i) (nn) h0 n0 (by omega) (X00.keep K0 all0) h1 h2) hZ (wd109 hw) (wd106 hw) (by decide) (by decide)) (g := (mkF m 5 #[vI i, vI nn] [.null, (.int nn), (.int i)])) rfl (by rw [hml]; rfl) (argsL := [(.int i), (.int nn), .null]) (rest := []) (lenOf own_pd8 rfl) rfl (Nat.le_of_eq rfl) (hb hby dCI_5) (fun _ _ => ⟨rfl, e1, (by decide : 0 + 0 ≤ _), (by decide : 0 + 0 ≤ _)⟩)
  dsimp only [Pt.U, Pt.locs, Pt.cells, Pt.slots] at X2 l2 y2 z2 st2 hQ2
  subst l2 y2 z2
  obtain ⟨rfl, Nq2, sm2⟩ := hQ2
  have N2 := Fr.app N0 Nq2
  refine own_st st2 ?_
  refine own_st (fun tq kq => XS.pop X2.here hx rfl (hb hby dCI_8) rfl rfl kq) ?_
  obtain ⟨fs, hr, hrun, hended, hW, hsame⟩ := X2.leave (v := none) (fun _ => rfl)
  refine ⟨_, _, X2.returnOut hx Bd.returns (hb hby dCI_9) hr, hrun, hended, _, _, rfl, ?_, ⟨_, rfl⟩, hW, hsame.mono (by decide) (by decide)⟩
  change Q_own_cidx Z i nn .null h0 n0 _ T2.heap _; rw [sm2]; exact ⟨rfl, N2, rfl⟩
 ·
  refine s_iloadN X0 hx (hb hby dCI_0) rfl ?_
  refine s_iloadN X0 hx (hb hby dCI_1) rfl ?_
  obtain ⟨T3, X3, e3, st3⟩ := getS2 X0 hx hZ hown (host := "") (Or.inl (wd105 hw)) Via.refl e0 (O4.ext (X00.keep K0 all0).2) (g := (mkF m 2 #[vI i, vI nn] [(.int nn), (.int i)])) rfl (hb hby dCI_2)
  refine own_st st3 ?_
  obtain ⟨_, _, ⟨T4, L4, k4, n4⟩, -, X4, ⟨Lc4, hQ4, l4, y4, z4⟩, st4⟩ := Jvm.LawKit.callS X3 hx (y := mN11) hown (mvT hZ (wd107 hw)) (mvT hZ (wd108 hw)) (mvT hZ (wd106 hw)) (mvT hZ (wd109 hw)) (by decide) (own_backN (W := 0) (own_pidxR l Z a0 hw [] (i) (nn) (gf) h0 n0 (by omega) (X00.keep K0 all0) h1 h2) hZ (wd109 hw) (wd106 hw) (by decide) (by decide)) (g := (mkF m 5 #[vI i, vI nn] [(.ref gf), (.int nn), (.int i)])) rfl (by rw [hml]; rfl) (argsL := [(.int i), (.int nn), (.ref gf)]) (rest := []) (lenOf own_pd8 rfl) rfl (Nat.le_of_eq rfl) (hb hby dCI_5) (fun _ _ => ⟨rfl, e3, (by decide : 0 + 0 ≤ _), (by decide : 0 + 0 ≤ _)⟩)
  dsimp only [Pt.U, Pt.locs, Pt.cells, Pt.slots] at X4 l4 y4 z4 st4 hQ4
  subst l4 y4 z4
  obtain ⟨rfl, Nq4, sm4⟩ := hQ4
  have N4 := Fr.app N0 Nq4
  refine own_st st4 ?_
  refine own_st (fun tq kq => XS.pop X4.here hx rfl (hb hby dCI_8) rfl rfl kq) ?_
  obtain ⟨fs, hr, hrun, hended, hW, hsame⟩ := X4.leave (v := none) (fun _ => rfl)
  refine ⟨_, _, X4.returnOut hx Bd.returns (hb hby dCI_9) hr, hrun, hended, _, _, rfl, ?_, ⟨_, rfl⟩, hW, hsame.mono (by decide) (by decide)⟩
  change Q_own_cidx Z i nn (.ref gf) h0 n0 _ T4.heap _; rw [sm4]; exact ⟨rfl, N4, rfl⟩

def Q_own_isL (Z : State) (x : Nat) (G1 : Int32) (h0 : Heap) (n0 : Nat) (v : Option Value) (h : Heap) (L : List Loc) : Prop := v = some (.int (0 : Int32)) ∧ Fr n0 L ∧ h = h0
theorem ef_own_isL (m : MethodId) (x0 : Nat) : entryFrame m #[(.ref x0)] 1 = mkF m 0 #[.val (.ref x0)] [] := by first | (simp [entryFrame, mkF, argsToLocals, Value.category]; done) | rfl
theorem own_isL (l : Launch) (Z : State) (a0 : Array Value) (hw : hWt a0 Z) (ws : List Jvm.Cond) (x : Nat) (G1 : Int32) (h0 : Heap) (n0 : Nat) (Z0 : n0 ≤ h0.size) (X00 : Old Z n0 h0) (Fc : Fld Z h0 x "java/lang/String" "coder" "B" (.int (1 : Int32))) (O2 : Sta Z Z.heap "java/lang/String" "COMPACT_STRINGS" "Z" (.int G1)) (P5 : ¬ (G1 = (0 : Int32))) :
 own_MN l mN13 jdk_42_method_154_code 1 (some .boolean) ws rm_0_0_0_0 Z #[(.ref x)] h0 (Q_own_isL Z x G1 h0 n0) := by
 refine own_bodyN (plainFor_of_name own_pn0) fun p e s m below meth c s₁ Bd hx hby hml hown hZ X0 e0 => ?_
 have N0 := Fr.nil n0
 have K0 : Keep h0 h0 [] := Keep.refl h0 []
 refine own_st (fun tq kq => castTop (ef_own_isL m (x)) kq) ?_
 show own_G p e below _ (s₁.setTop (mkF m 0 #[vR x] []))
 obtain ⟨T1, X1, e1, st1⟩ := getS2 X0 hx hZ hown (host := "") (Or.inl (wd32 hw)) Via.refl e0 (O2.ext (X00.keep K0 all0).2) (g := (mkF m 0 #[vR x] [])) rfl (hb hby dIL_0)
 refine own_st st1 ?_
 refine own_st (fun tq kq => XS.ifNo X1.here hx rfl (hb hby dIL_3) rfl ((if0 _ _).trans (feq P5).1) kq) ?_
 refine s_aloadN X1 hx (hb hby dIL_6) rfl rfl ?_
 obtain ⟨T2, X2, e2, st2⟩ := getF X1 hx hZ hown (host := "") (Or.inl (wd22 hw)) Via.refl e1 Fc (g := (mkF m 7 #[vR x] [(.ref x)])) rfl rfl (hb hby dIL_7)
 refine own_st st2 ?_
 refine own_st (fun tq kq => XS.ifYes X2.here hx rfl (pc0 := 10) (pc' := 17) rfl (hb hby dIL_10) rfl ((if0 _ _).trans (feq (by decide : ¬ ((1 : Int32) = (0 : Int32)))).2) (by decide) (by decide) kq) ?_
 refine s_iconst X2 hx (hb hby dIL_17) ?_
 show own_G p e below _ (T2.setTop (mkF m 18 #[vR x] [(.int 0)]))
 obtain ⟨fs, hr, hrun, hended, hW, hsame⟩ := X2.leave (v := some (.int 0)) (fun h => by rw [Bd.returns] at h; cases h)
 refine ⟨_, _, retN X2 hx (t := .boolean) Bd.returns (by simp) (hb hby dIL_18) hr, hrun, hended, _, _, rfl, ?_, ⟨_, rfl⟩, hW, hsame.mono (by decide) (by decide)⟩
 change Q_own_isL Z x G1 h0 n0 _ T2.heap _; rw [e2]; exact ⟨rfl, N0, rfl⟩

def Q_own_uidx1 (Z : State) (i : Int32) (t : Nat) (kb : ClassId) (fm : Value) (c0 : Int32) (h0 : Heap) (n0 : Nat) (v : Option Value) (h : Heap) (L : List Loc) : Prop := v = none ∧ Fr n0 L ∧ h = h0
theorem ef_own_uidx1 (m : MethodId) (x0 : Int32) (x1 : Nat) : entryFrame m #[(.int x0), (.ref x1)] 2 = mkF m 0 #[.val (.int x0), .val (.ref x1)] [] := by first | (simp [entryFrame, mkF, argsToLocals, Value.category]; done) | rfl
theorem own_uidx1 (l : Launch) (Z : State) (a0 : Array Value) (hw : hWt a0 Z) (ws : List Jvm.Cond) (i : Int32) (t : Nat) (kb : ClassId) (fm : Value) (c0 : Int32) (h0 : Heap) (n0 : Nat) (Z0 : n0 ≤ h0.size) (X00 : Old Z n0 h0) (O4 : o4 Z fm) (rfm : fm.isRef = true) (Vt : Arv Z h0 t kb .byte (2 : Int32) [.int (L8 c0), .int (H8 c0)] (.int 0)) (h1 : ¬ i < (0 : Int32)) (h2 : i < (1 : Int32)) :
 own_MN l mN14 jdk_52_method_91_code 2 none ws rm_2_0_0_40 Z #[(.int i), (.ref t)] h0 (Q_own_uidx1 Z i t kb fm c0 h0 n0) := by
 refine own_bodyN (plainFor_of_name own_pn1) fun p e s m below meth c s₁ Bd hx hby hml hown hZ X0 e0 => ?_
 have N0 := Fr.nil n0
 have K0 : Keep h0 h0 [] := Keep.refl h0 []
 refine own_st (fun tq kq => castTop (ef_own_uidx1 m (i) (t)) kq) ?_
 show own_G p e below _ (s₁.setTop (mkF m 0 #[vI i, vR t] []))
 refine s_iloadN X0 hx (hb hby dUI_0) rfl ?_
 refine s_aloadN X0 hx (hb hby dUI_1) rfl rfl ?_
 obtain ⟨_, _, ⟨T1, L1, k1, n1⟩, -, X1, ⟨Lc1, hQ1, l1, y1, z1⟩, st1⟩ := Jvm.LawKit.callS X0 hx (y := mN3) hown (mvT hZ (wd141 hw)) (mvT hZ (wd142 hw)) (mvT hZ (wd35 hw)) (mvT hZ (wd143 hw)) (by decide) (own_backN (W := 1) (own_ulen1 l Z a0 hw [] (t) (_) (_) h0 n0 (by omega) (X00.keep K0 all0) Vt) hZ (wd143 hw) (wd35 hw) (by decide) (by decide)) (g := (mkF m 2 #[vI i, vR t] [(.ref t), (.int i)])) rfl (by rw [hml]; rfl) (argsL := [(.ref t)]) (rest := [(.int i)]) (lenOf own_pd9 rfl) rfl (Nat.le_of_eq rfl) (hb hby dUI_2) (fun _ _ => ⟨rfl, e0, (by decide : 0 + 0 ≤ _), (by decide : 0 + 0 ≤ _)⟩)
 dsimp only [Pt.U, Pt.locs, Pt.cells, Pt.slots] at X1 l1 y1 z1 st1 hQ1
 subst l1 y1 z1
 obtain ⟨rfl, Nq1, sm1⟩ := hQ1
 have N1 := Fr.app N0 Nq1
 refine own_st st1 ?_
 obtain ⟨_, _, ⟨T2, L2, k2, n2⟩, -, X2, ⟨Lc2, hQ2, l2, y2, z2⟩, st2⟩ := Jvm.LawKit.callS X1 hx (y := mN12) hown (mvT hZ (wd159 hw)) (mvT hZ (wd103 hw)) (mvT hZ (wd3 hw)) (mvT hZ (wd104 hw)) (by decide) (own_backN (W := 0) (own_cidx l Z a0 hw [] (i) ((1 : Int32)) (fm) h0 n0 (by omega) (X00.keep K0 all0) O4 rfm h1 h2) hZ (wd104 hw) (wd3 hw) (by decide) (by decide)) (g := (mkF m 5 #[vI i, vR t] [(.int 1), (.int i)])) rfl (by rw [hml]; rfl) (argsL := [(.int i), (.int 1)]) (rest := []) (lenOf own_pd10 rfl) rfl (Nat.le_of_eq rfl) (hb hby dUI_5) (fun _ _ => ⟨rfl, sm1, (by decide : 0 + 0 ≤ _), (by decide : 0 + 0 ≤ _)⟩)
 dsimp only [Pt.U, Pt.locs, Pt.cells, Pt.slots] at X2 l2 y2 z2 st2 hQ2
 subst l2 y2 z2
 obtain ⟨rfl, Nq2, sm2⟩ := hQ2
 have N2 := Fr.app N1 Nq2
 refine own_st st2 ?_
 obtain ⟨fs, hr, hrun, hended, hW, hsame⟩ := X2.leave (v := none) (fun _ => rfl)
 refine ⟨_, _, X2.returnOut hx Bd.returns (hb hby dUI_8) hr, hrun, hended, _, _, rfl, ?_, ⟨_, rfl⟩, hW, hsame.mono (by decide) (by decide)⟩
 change Q_own_uidx1 Z i t kb fm c0 h0 n0 _ T2.heap _; rw [sm2]; exact ⟨rfl, N2, rfl⟩

def Q_own_uch1_0 (Z : State) (t : Nat) (kb : ClassId) (fm : Value) (c0 : Int32) (h0 : Heap) (n0 : Nat) (v : Option Value) (h : Heap) (L : List Loc) : Prop := v = some (.int c0) ∧ Fr n0 L ∧ h = h0
theorem ef_own_uch1_0 (m : MethodId) (x0 : Nat) : entryFrame m #[(.ref x0), (.int 0)] 2 = mkF m 0 #[.val (.ref x0), .val (.int 0)] [] := by first | (simp [entryFrame, mkF, argsToLocals, Value.category]; done) | rfl
theorem own_uch1_0 (l : Launch) (Z : State) (a0 : Array Value) (hw : hWt a0 Z) (ws : List Jvm.Cond) (t : Nat) (kb : ClassId) (fm : Value) (c0 : Int32) (h0 : Heap) (n0 : Nat) (Z0 : n0 ≤ h0.size) (X00 : Old Z n0 h0) (OA : oA Z) (OH : oH Z) (OL : oL Z) (O4 : o4 Z fm) (rfm : fm.isRef = true) (Vt : Arv Z h0 t kb .byte (2 : Int32) [.int (L8 c0), .int (H8 c0)] (.int 0)) (hbi : ¬ c0 < 0 ∧ ¬ (65535 : Int32) < c0) :
 own_MN l mN15 jdk_52_method_83_code 2 (some .char) ws rm_3_0_0_60 Z #[(.ref t), (.int 0)] h0 (Q_own_uch1_0 Z t kb fm c0 h0 n0) := by
 refine own_bodyN (plainFor_of_name own_pn1) fun p e s m below meth c s₁ Bd hx hby hml hown hZ X0 e0 => ?_
 have N0 := Fr.nil n0
 have K0 : Keep h0 h0 [] := Keep.refl h0 []
 refine own_st (fun tq kq => castTop (ef_own_uch1_0 m (t)) kq) ?_
 show own_G p e below _ (s₁.setTop (mkF m 0 #[vR t, vI 0] []))
 refine s_iloadN X0 hx (hb hby dUC_0) rfl ?_
 refine s_aloadN X0 hx (hb hby dUC_1) rfl rfl ?_
 obtain ⟨_, _, ⟨T1, L1, k1, n1⟩, -, X1, ⟨Lc1, hQ1, l1, y1, z1⟩, st1⟩ := Jvm.LawKit.callS X0 hx (y := mN14) hown (mvT hZ (wd156 hw)) (mvT hZ (wd157 hw)) (mvT hZ (wd35 hw)) (mvT hZ (wd158 hw)) (by decide) (own_backN (W := 0) (own_uidx1 l Z a0 hw [] ((0 : Int32)) (t) (kb) (fm) (c0) h0 n0 (by omega) (X00.keep K0 all0) O4 rfm Vt (by decide) (by decide)) hZ (wd158 hw) (wd35 hw) (by decide) (by decide)) (g := (mkF m 2 #[vR t, vI 0] [(.ref t), (.int 0)])) rfl (by rw [hml]; rfl) (argsL := [(.int 0), (.ref t)]) (rest := []) (lenOf own_pd11 rfl) rfl (Nat.le_of_eq rfl) (hb hby dUC_2) (fun _ _ => ⟨rfl, e0, (by decide : 0 + 0 ≤ _), (by decide : 0 + 0 ≤ _)⟩)
 dsimp only [Pt.U, Pt.locs, Pt.cells, Pt.slots] at X1 l1 y1 z1 st1 hQ1
 subst l1 y1 z1
 obtain ⟨rfl, Nq1, sm1⟩ := hQ1
 have N1 := Fr.app N0 Nq1
 refine own_st st1 ?_
 refine s_aloadN X1 hx (hb hby dUC_5) rfl rfl ?_
 refine s_iloadN X1 hx (hb hby dUC_6) rfl ?_
 obtain ⟨_, _, ⟨T2, L2, k2, n2⟩, -, X2, ⟨Lc2, hQ2, l2, y2, z2⟩, st2⟩ := Jvm.LawKit.callS X1 hx (y := mN2) hown (mvT hZ (wd126 hw)) (mvT hZ (wd127 hw)) (mvT hZ (wd35 hw)) (mvT hZ (wd128 hw)) (by decide) (own_backN (W := 0) (own_get_0 l Z a0 hw [] (t) (_) (_) (_) (_) (_) h0 n0 (by omega) (X00.keep K0 all0) OA OH OL Vt (by decide) (by decide) rfl rfl) hZ (wd128 hw) (wd35 hw) (by decide) (by decide)) (g := (mkF m 7 #[vR t, vI 0] [(.int 0), (.ref t)])) rfl (by rw [hml]; rfl) (argsL := [(.ref t), (.int 0)]) (rest := []) (lenOf own_pd6 rfl) rfl (Nat.le_of_eq rfl) (hb hby dUC_7) (fun _ _ => ⟨rfl, sm1, (by decide : 0 + 0 ≤ _), (by decide : 0 + 0 ≤ _)⟩)
 dsimp only [Pt.U, Pt.locs, Pt.cells, Pt.slots] at X2 l2 y2 z2 st2 hQ2
 subst l2 y2 z2
 obtain ⟨rfl, Nq2, sm2⟩ := hQ2
 have N2 := Fr.app N1 Nq2
 refine own_st st2 ?_
 obtain ⟨fs, hr, hrun, hended, hW, hsame⟩ := X2.leave (v := some (.int (nar .char (StrChars.pairCh (L8 c0) (H8 c0))))) (fun h => by rw [Bd.returns] at h; cases h)
 refine ⟨_, _, retN X2 hx (t := .char) Bd.returns (by simp) (hb hby dUC_10) hr, hrun, hended, _, _, rfl, ?_, ⟨_, rfl⟩, hW, hsame.mono (by decide) (by decide)⟩
 change Q_own_uch1_0 Z t kb fm c0 h0 n0 _ T2.heap _; rw [sm2]; exact ⟨congrArg (fun z => some (Value.int z)) ((own_pairN _ _).trans (StrChars.pair_says hbi.1 hbi.2)), N2, rfl⟩

def Q_own_cha1_0 (Z : State) (x t : Nat) (kb : ClassId) (fm : Value) (G1 : Int32) (c0 : Int32) (h0 : Heap) (n0 : Nat) (v : Option Value) (h : Heap) (L : List Loc) : Prop := v = some (.int c0) ∧ Fr n0 L ∧ h = h0
theorem ef_own_cha1_0 (m : MethodId) (x0 : Nat) : entryFrame m #[(.ref x0), (.int 0)] 2 = mkF m 0 #[.val (.ref x0), .val (.int 0)] [] := by first | (simp [entryFrame, mkF, argsToLocals, Value.category]; done) | rfl
theorem own_cha1_0 (l : Launch) (Z : State) (a0 : Array Value) (hw : hWt a0 Z) (ws : List Jvm.Cond) (x t : Nat) (kb : ClassId) (fm : Value) (G1 : Int32) (c0 : Int32) (h0 : Heap) (n0 : Nat) (Z0 : n0 ≤ h0.size) (X00 : Old Z n0 h0) (Ex : Exa Z h0 x "java/lang/String") (Fv : Fld Z h0 x "java/lang/String" "value" "[B" (.ref t)) (Fc : Fld Z h0 x "java/lang/String" "coder" "B" (.int (1 : Int32))) (O2 : Sta Z Z.heap "java/lang/String" "COMPACT_STRINGS" "Z" (.int G1)) (P5 : ¬ (G1 = (0 : Int32))) (OA : oA Z) (OH : oH Z) (OL : oL Z) (O4 : o4 Z fm) (rfm : fm.isRef = true) (Vt : Arv Z h0 t kb .byte (2 : Int32) [.int (L8 c0), .int (H8 c0)] (.int 0)) (hbi : ¬ c0 < 0 ∧ ¬ (65535 : Int32) < c0) :
 own_MN l mN16 jdk_42_method_56_code 2 (some .char) ws rm_4_0_0_80 Z #[(.ref x), (.int 0)] h0 (Q_own_cha1_0 Z x t kb fm G1 c0 h0 n0) := by
 refine own_bodyN (plainFor_of_name own_pn0) fun p e s m below meth c s₁ Bd hx hby hml hown hZ X0 e0 => ?_
 have N0 := Fr.nil n0
 have K0 : Keep h0 h0 [] := Keep.refl h0 []
 refine own_st (fun tq kq => castTop (ef_own_cha1_0 m (x)) kq) ?_
 show own_G p e below _ (s₁.setTop (mkF m 0 #[vR x, vI 0] []))
 refine s_aloadN X0 hx (hb hby dCA_0) rfl rfl ?_
 obtain ⟨cq1, kq1, q1a, q1b, q1c⟩ := isOf hZ e0 Ex
 obtain ⟨_, _, ⟨T1, L1, k1, n1⟩, -, X1, ⟨Lc1, hQ1, l1, y1, z1⟩, st1⟩ := X0.virtualBack hx (y := mN13) (z := mN13) hown (mvT hZ (wd57 hw)) (mvT hZ (wd58 hw)) (notFace_of_selects (args := #[]) (mvT hZ (wd60 hw))) (mvT hZ (wd60 hw)) (mvT hZ (wd59 hw)) (by decide) (own_backN (W := 0) (own_isL l Z a0 hw [] (x) (G1) h0 n0 (by omega) (X00.keep K0 all0) Fc O2 P5) hZ (wd61 hw) (wd3 hw) (by decide) (by decide)) q1a q1c (g := (mkF m 1 #[vR x, vI 0] [(.ref x)])) rfl (by rw [hml]; rfl) (Steps.refl _) (argsL := []) (rest := []) (lenOf own_pd12 rfl) rfl (Nat.le_of_eq rfl) (hb hby dCA_1) (fun _ _ => ⟨rfl, e0, (by decide : 0 + 0 ≤ _), (by decide : 0 + 0 ≤ _)⟩)
 dsimp only [Pt.U, Pt.locs, Pt.cells, Pt.slots] at X1 l1 y1 z1 st1 hQ1
 subst l1 y1 z1
 obtain ⟨rfl, Nq1, sm1⟩ := hQ1
 have N1 := Fr.app N0 Nq1
 refine own_st (fun tq kq => st1.trans kq) ?_
 refine own_st (fun tq kq => XS.ifYes X1.here hx rfl (pc0 := 4) (pc' := 16) rfl (hb hby dCA_4) rfl ((if0 _ _).trans (teq (by decide : ((0 : Int32) = (0 : Int32)))).1) (by decide) (by decide) kq) ?_
 refine s_aloadN X1 hx (hb hby dCA_16) rfl rfl ?_
 obtain ⟨T2, X2, e2, st2⟩ := getF X1 hx hZ hown (host := "") (Or.inl (wd21 hw)) Via.refl sm1 Fv (g := (mkF m 17 #[vR x, vI 0] [(.ref x)])) rfl rfl (hb hby dCA_17)
 refine own_st st2 ?_
 refine s_iloadN X2 hx (hb hby dCA_20) rfl ?_
 obtain ⟨_, _, ⟨T3, L3, k3, n3⟩, -, X3, ⟨Lc3, hQ3, l3, y3, z3⟩, st3⟩ := Jvm.LawKit.callS X2 hx (y := mN15) hown (mvT hZ (wd153 hw)) (mvT hZ (wd154 hw)) (mvT hZ (wd35 hw)) (mvT hZ (wd155 hw)) (by decide) (own_backN (W := 0) (own_uch1_0 l Z a0 hw [] (t) (kb) (fm) (c0) h0 n0 (by omega) (X00.keep K0 all0) OA OH OL O4 rfm Vt hbi) hZ (wd155 hw) (wd35 hw) (by decide) (by decide)) (g := (mkF m 21 #[vR x, vI 0] [(.int 0), (.ref t)])) rfl (by rw [hml]; rfl) (argsL := [(.ref t), (.int 0)]) (rest := []) (lenOf own_pd6 rfl) rfl (Nat.le_of_eq rfl) (hb hby dCA_21) (fun _ _ => ⟨rfl, e2, (by decide : 0 + 0 ≤ _), (by decide : 0 + 0 ≤ _)⟩)
 dsimp only [Pt.U, Pt.locs, Pt.cells, Pt.slots] at X3 l3 y3 z3 st3 hQ3
 subst l3 y3 z3
 obtain ⟨rfl, Nq3, sm3⟩ := hQ3
 have N3 := Fr.app N1 Nq3
 refine own_st st3 ?_
 obtain ⟨fs, hr, hrun, hended, hW, hsame⟩ := X3.leave (v := some (.int (nar .char c0))) (fun h => by rw [Bd.returns] at h; cases h)
 refine ⟨_, _, retN X3 hx (t := .char) Bd.returns (by simp) (hb hby dCA_24) hr, hrun, hended, _, _, rfl, ?_, ⟨_, rfl⟩, hW, hsame.mono (by decide) (by decide)⟩
 change Q_own_cha1_0 Z x t kb fm G1 c0 h0 n0 _ T3.heap _; rw [sm3]; exact ⟨congrArg (fun z => some (Value.int z)) (own_narc hbi), N3, rfl⟩

set_option maxRecDepth 65536 in
set_option maxHeartbeats 40000000 in
theorem own_chU1_0 {p : Program} {l : Launch} {e : Env} {R : Room} {s : State} {args : Array Value} {below : List Frame} {W : Nat} {Z : State} {a0 : Array Value} {h : Heap} (hZ : Z.Warmed39 s.vm) (hw : ∀ d ∈ tables_1, d.before a0 Z = true) {x n n0 : Nat} {c0 : Int32} {G1 : Int32} {fm : Value} (F : own_StrU Z n h x ([c0] : List Int32)) (X00 : Old Z n0 h) (O2 : Sta Z Z.heap "java/lang/String" "COMPACT_STRINGS" "Z" (.int G1)) (P5 : ¬ (G1 = (0 : Int32))) (OA : oA Z) (OH : oH Z) (OL : oL Z) (O4 : o4 Z fm) (rfm : fm.isRef = true) (hfr : 5 ≤ R.frames) (hlo : W + 93 ≤ R.locals) :
    Back l R p e below s args (⟨"java/lang/String", "charAt", "(I)C"⟩ : MethodName) 3 W (fun P a => a = #[.ref x, .int (0 : Int32)] ∧ P.U.heap = h ∧ P.cells + 0 ≤ R.cells ∧ P.slots + 0 ≤ R.slots)
      (fun P _ v B => ∃ L, (v = some (.int c0) ∧ Fr n0 L ∧ B.U.heap = h) ∧ B.locs = P.locs ++ L ∧ B.cells = P.cells + 0 ∧ B.slots = P.slots + 0) := by
  have hh0 : n0 ≤ h.size := by have := X00.1; have := X00.2.1; omega
  obtain ⟨-, E, hb, ln, t, kb, cd, N2, vs, -, V, Cc, A, hc⟩ := F
  rcases id hc with ⟨rfl, rfl, rfl, hl⟩ | ⟨rfl, rfl, rfl, hg⟩
  · refine Back.mono (StrChars.Road.chN (W := W) hZ (own_wCh hw) (kI := 4) (wd2 hw) E V Cc A hc hb (O2.ext X00.2) P5 (O4.ext X00.2) rfm ln (i := 0) (by simp) (j := (0 : Int32)) rfl (by omega) (by omega)) (fun P a q => q) (fun P a v B _ q => ?_)
    obtain ⟨L, ⟨q1, rfl, q3⟩, q4⟩ := q
    exact ⟨[], ⟨q1, Fr.nil n0, q3⟩, q4⟩
  · exact own_backN (W := W) (rm := rm_4_0_0_80) (own_cha1_0 l Z a0 hw [] x t kb fm G1 c0 h n0 hh0 X00 E V Cc O2 P5 OA OH OL O4 rfm A (hb _ (by simp))) hZ (wd98 hw) (wd3 hw) (by show 4 + 1 ≤ _; omega) (by show W + (2 + 11) + 80 ≤ _; omega)

def Q_own_uidx2 (Z : State) (i : Int32) (t : Nat) (kb : ClassId) (fm : Value) (c0 c1 : Int32) (h0 : Heap) (n0 : Nat) (v : Option Value) (h : Heap) (L : List Loc) : Prop := v = none ∧ Fr n0 L ∧ h = h0
theorem ef_own_uidx2 (m : MethodId) (x0 : Int32) (x1 : Nat) : entryFrame m #[(.int x0), (.ref x1)] 2 = mkF m 0 #[.val (.int x0), .val (.ref x1)] [] := by first | (simp [entryFrame, mkF, argsToLocals, Value.category]; done) | rfl
theorem own_uidx2 (l : Launch) (Z : State) (a0 : Array Value) (hw : hWt a0 Z) (ws : List Jvm.Cond) (i : Int32) (t : Nat) (kb : ClassId) (fm : Value) (c0 c1 : Int32) (h0 : Heap) (n0 : Nat) (Z0 : n0 ≤ h0.size) (X00 : Old Z n0 h0) (O4 : o4 Z fm) (rfm : fm.isRef = true) (Vt : Arv Z h0 t kb .byte (4 : Int32) [.int (L8 c0), .int (H8 c0), .int (L8 c1), .int (H8 c1)] (.int 0)) (h1 : ¬ i < (0 : Int32)) (h2 : i < (2 : Int32)) :
 own_MN l mN14 jdk_52_method_91_code 2 none ws rm_2_0_0_40 Z #[(.int i), (.ref t)] h0 (Q_own_uidx2 Z i t kb fm c0 c1 h0 n0) := by
 refine own_bodyN (plainFor_of_name own_pn1) fun p e s m below meth c s₁ Bd hx hby hml hown hZ X0 e0 => ?_
 have N0 := Fr.nil n0
 have K0 : Keep h0 h0 [] := Keep.refl h0 []
 refine own_st (fun tq kq => castTop (ef_own_uidx2 m (i) (t)) kq) ?_
 show own_G p e below _ (s₁.setTop (mkF m 0 #[vI i, vR t] []))
 refine s_iloadN X0 hx (hb hby dUI_0) rfl ?_
 refine s_aloadN X0 hx (hb hby dUI_1) rfl rfl ?_
 obtain ⟨_, _, ⟨T1, L1, k1, n1⟩, -, X1, ⟨Lc1, hQ1, l1, y1, z1⟩, st1⟩ := Jvm.LawKit.callS X0 hx (y := mN3) hown (mvT hZ (wd141 hw)) (mvT hZ (wd142 hw)) (mvT hZ (wd35 hw)) (mvT hZ (wd143 hw)) (by decide) (own_backN (W := 1) (own_ulen2 l Z a0 hw [] (t) (_) (_) h0 n0 (by omega) (X00.keep K0 all0) Vt) hZ (wd143 hw) (wd35 hw) (by decide) (by decide)) (g := (mkF m 2 #[vI i, vR t] [(.ref t), (.int i)])) rfl (by rw [hml]; rfl) (argsL := [(.ref t)]) (rest := [(.int i)]) (lenOf own_pd9 rfl) rfl (Nat.le_of_eq rfl) (hb hby dUI_2) (fun _ _ => ⟨rfl, e0, (by decide : 0 + 0 ≤ _), (by decide : 0 + 0 ≤ _)⟩)
 dsimp only [Pt.U, Pt.locs, Pt.cells, Pt.slots] at X1 l1 y1 z1 st1 hQ1
 subst l1 y1 z1
 obtain ⟨rfl, Nq1, sm1⟩ := hQ1
 have N1 := Fr.app N0 Nq1
 refine own_st st1 ?_
 obtain ⟨_, _, ⟨T2, L2, k2, n2⟩, -, X2, ⟨Lc2, hQ2, l2, y2, z2⟩, st2⟩ := Jvm.LawKit.callS X1 hx (y := mN12) hown (mvT hZ (wd159 hw)) (mvT hZ (wd103 hw)) (mvT hZ (wd3 hw)) (mvT hZ (wd104 hw)) (by decide) (own_backN (W := 0) (own_cidx l Z a0 hw [] (i) ((2 : Int32)) (fm) h0 n0 (by omega) (X00.keep K0 all0) O4 rfm h1 h2) hZ (wd104 hw) (wd3 hw) (by decide) (by decide)) (g := (mkF m 5 #[vI i, vR t] [(.int 2), (.int i)])) rfl (by rw [hml]; rfl) (argsL := [(.int i), (.int 2)]) (rest := []) (lenOf own_pd10 rfl) rfl (Nat.le_of_eq rfl) (hb hby dUI_5) (fun _ _ => ⟨rfl, sm1, (by decide : 0 + 0 ≤ _), (by decide : 0 + 0 ≤ _)⟩)
 dsimp only [Pt.U, Pt.locs, Pt.cells, Pt.slots] at X2 l2 y2 z2 st2 hQ2
 subst l2 y2 z2
 obtain ⟨rfl, Nq2, sm2⟩ := hQ2
 have N2 := Fr.app N1 Nq2
 refine own_st st2 ?_
 obtain ⟨fs, hr, hrun, hended, hW, hsame⟩ := X2.leave (v := none) (fun _ => rfl)
 refine ⟨_, _, X2.returnOut hx Bd.returns (hb hby dUI_8) hr, hrun, hended, _, _, rfl, ?_, ⟨_, rfl⟩, hW, hsame.mono (by decide) (by decide)⟩
 change Q_own_uidx2 Z i t kb fm c0 c1 h0 n0 _ T2.heap _; rw [sm2]; exact ⟨rfl, N2, rfl⟩

def Q_own_uch2_0 (Z : State) (t : Nat) (kb : ClassId) (fm : Value) (c0 c1 : Int32) (h0 : Heap) (n0 : Nat) (v : Option Value) (h : Heap) (L : List Loc) : Prop := v = some (.int c0) ∧ Fr n0 L ∧ h = h0
theorem ef_own_uch2_0 (m : MethodId) (x0 : Nat) : entryFrame m #[(.ref x0), (.int 0)] 2 = mkF m 0 #[.val (.ref x0), .val (.int 0)] [] := by first | (simp [entryFrame, mkF, argsToLocals, Value.category]; done) | rfl
theorem own_uch2_0 (l : Launch) (Z : State) (a0 : Array Value) (hw : hWt a0 Z) (ws : List Jvm.Cond) (t : Nat) (kb : ClassId) (fm : Value) (c0 c1 : Int32) (h0 : Heap) (n0 : Nat) (Z0 : n0 ≤ h0.size) (X00 : Old Z n0 h0) (OA : oA Z) (OH : oH Z) (OL : oL Z) (O4 : o4 Z fm) (rfm : fm.isRef = true) (Vt : Arv Z h0 t kb .byte (4 : Int32) [.int (L8 c0), .int (H8 c0), .int (L8 c1), .int (H8 c1)] (.int 0)) (hbi : ¬ c0 < 0 ∧ ¬ (65535 : Int32) < c0) :
 own_MN l mN15 jdk_52_method_83_code 2 (some .char) ws rm_3_0_0_60 Z #[(.ref t), (.int 0)] h0 (Q_own_uch2_0 Z t kb fm c0 c1 h0 n0) := by
 refine own_bodyN (plainFor_of_name own_pn1) fun p e s m below meth c s₁ Bd hx hby hml hown hZ X0 e0 => ?_
 have N0 := Fr.nil n0
 have K0 : Keep h0 h0 [] := Keep.refl h0 []
 refine own_st (fun tq kq => castTop (ef_own_uch2_0 m (t)) kq) ?_
 show own_G p e below _ (s₁.setTop (mkF m 0 #[vR t, vI 0] []))
 refine s_iloadN X0 hx (hb hby dUC_0) rfl ?_
 refine s_aloadN X0 hx (hb hby dUC_1) rfl rfl ?_
 obtain ⟨_, _, ⟨T1, L1, k1, n1⟩, -, X1, ⟨Lc1, hQ1, l1, y1, z1⟩, st1⟩ := Jvm.LawKit.callS X0 hx (y := mN14) hown (mvT hZ (wd156 hw)) (mvT hZ (wd157 hw)) (mvT hZ (wd35 hw)) (mvT hZ (wd158 hw)) (by decide) (own_backN (W := 0) (own_uidx2 l Z a0 hw [] ((0 : Int32)) (t) (kb) (fm) (c0) (c1) h0 n0 (by omega) (X00.keep K0 all0) O4 rfm Vt (by decide) (by decide)) hZ (wd158 hw) (wd35 hw) (by decide) (by decide)) (g := (mkF m 2 #[vR t, vI 0] [(.ref t), (.int 0)])) rfl (by rw [hml]; rfl) (argsL := [(.int 0), (.ref t)]) (rest := []) (lenOf own_pd11 rfl) rfl (Nat.le_of_eq rfl) (hb hby dUC_2) (fun _ _ => ⟨rfl, e0, (by decide : 0 + 0 ≤ _), (by decide : 0 + 0 ≤ _)⟩)
 dsimp only [Pt.U, Pt.locs, Pt.cells, Pt.slots] at X1 l1 y1 z1 st1 hQ1
 subst l1 y1 z1
 obtain ⟨rfl, Nq1, sm1⟩ := hQ1
 have N1 := Fr.app N0 Nq1
 refine own_st st1 ?_
 refine s_aloadN X1 hx (hb hby dUC_5) rfl rfl ?_
 refine s_iloadN X1 hx (hb hby dUC_6) rfl ?_
 obtain ⟨_, _, ⟨T2, L2, k2, n2⟩, -, X2, ⟨Lc2, hQ2, l2, y2, z2⟩, st2⟩ := Jvm.LawKit.callS X1 hx (y := mN2) hown (mvT hZ (wd126 hw)) (mvT hZ (wd127 hw)) (mvT hZ (wd35 hw)) (mvT hZ (wd128 hw)) (by decide) (own_backN (W := 0) (own_get_0 l Z a0 hw [] (t) (_) (_) (_) (_) (_) h0 n0 (by omega) (X00.keep K0 all0) OA OH OL Vt (by decide) (by decide) rfl rfl) hZ (wd128 hw) (wd35 hw) (by decide) (by decide)) (g := (mkF m 7 #[vR t, vI 0] [(.int 0), (.ref t)])) rfl (by rw [hml]; rfl) (argsL := [(.ref t), (.int 0)]) (rest := []) (lenOf own_pd6 rfl) rfl (Nat.le_of_eq rfl) (hb hby dUC_7) (fun _ _ => ⟨rfl, sm1, (by decide : 0 + 0 ≤ _), (by decide : 0 + 0 ≤ _)⟩)
 dsimp only [Pt.U, Pt.locs, Pt.cells, Pt.slots] at X2 l2 y2 z2 st2 hQ2
 subst l2 y2 z2
 obtain ⟨rfl, Nq2, sm2⟩ := hQ2
 have N2 := Fr.app N1 Nq2
 refine own_st st2 ?_
 obtain ⟨fs, hr, hrun, hended, hW, hsame⟩ := X2.leave (v := some (.int (nar .char (StrChars.pairCh (L8 c0) (H8 c0))))) (fun h => by rw [Bd.returns] at h; cases h)
 refine ⟨_, _, retN X2 hx (t := .char) Bd.returns (by simp) (hb hby dUC_10) hr, hrun, hended, _, _, rfl, ?_, ⟨_, rfl⟩, hW, hsame.mono (by decide) (by decide)⟩
 change Q_own_uch2_0 Z t kb fm c0 c1 h0 n0 _ T2.heap _; rw [sm2]; exact ⟨congrArg (fun z => some (Value.int z)) ((own_pairN _ _).trans (StrChars.pair_says hbi.1 hbi.2)), N2, rfl⟩

def Q_own_cha2_0 (Z : State) (x t : Nat) (kb : ClassId) (fm : Value) (G1 : Int32) (c0 c1 : Int32) (h0 : Heap) (n0 : Nat) (v : Option Value) (h : Heap) (L : List Loc) : Prop := v = some (.int c0) ∧ Fr n0 L ∧ h = h0
theorem ef_own_cha2_0 (m : MethodId) (x0 : Nat) : entryFrame m #[(.ref x0), (.int 0)] 2 = mkF m 0 #[.val (.ref x0), .val (.int 0)] [] := by first | (simp [entryFrame, mkF, argsToLocals, Value.category]; done) | rfl
theorem own_cha2_0 (l : Launch) (Z : State) (a0 : Array Value) (hw : hWt a0 Z) (ws : List Jvm.Cond) (x t : Nat) (kb : ClassId) (fm : Value) (G1 : Int32) (c0 c1 : Int32) (h0 : Heap) (n0 : Nat) (Z0 : n0 ≤ h0.size) (X00 : Old Z n0 h0) (Ex : Exa Z h0 x "java/lang/String") (Fv : Fld Z h0 x "java/lang/String" "value" "[B" (.ref t)) (Fc : Fld Z h0 x "java/lang/String" "coder" "B" (.int (1 : Int32))) (O2 : Sta Z Z.heap "java/lang/String" "COMPACT_STRINGS" "Z" (.int G1)) (P5 : ¬ (G1 = (0 : Int32))) (OA : oA Z) (OH : oH Z) (OL : oL Z) (O4 : o4 Z fm) (rfm : fm.isRef = true) (Vt : Arv Z h0 t kb .byte (4 : Int32) [.int (L8 c0), .int (H8 c0), .int (L8 c1), .int (H8 c1)] (.int 0)) (hbi : ¬ c0 < 0 ∧ ¬ (65535 : Int32) < c0) :
 own_MN l mN16 jdk_42_method_56_code 2 (some .char) ws rm_4_0_0_80 Z #[(.ref x), (.int 0)] h0 (Q_own_cha2_0 Z x t kb fm G1 c0 c1 h0 n0) := by
 refine own_bodyN (plainFor_of_name own_pn0) fun p e s m below meth c s₁ Bd hx hby hml hown hZ X0 e0 => ?_
 have N0 := Fr.nil n0
 have K0 : Keep h0 h0 [] := Keep.refl h0 []
 refine own_st (fun tq kq => castTop (ef_own_cha2_0 m (x)) kq) ?_
 show own_G p e below _ (s₁.setTop (mkF m 0 #[vR x, vI 0] []))
 refine s_aloadN X0 hx (hb hby dCA_0) rfl rfl ?_
 obtain ⟨cq1, kq1, q1a, q1b, q1c⟩ := isOf hZ e0 Ex
 obtain ⟨_, _, ⟨T1, L1, k1, n1⟩, -, X1, ⟨Lc1, hQ1, l1, y1, z1⟩, st1⟩ := X0.virtualBack hx (y := mN13) (z := mN13) hown (mvT hZ (wd57 hw)) (mvT hZ (wd58 hw)) (notFace_of_selects (args := #[]) (mvT hZ (wd60 hw))) (mvT hZ (wd60 hw)) (mvT hZ (wd59 hw)) (by decide) (own_backN (W := 0) (own_isL l Z a0 hw [] (x) (G1) h0 n0 (by omega) (X00.keep K0 all0) Fc O2 P5) hZ (wd61 hw) (wd3 hw) (by decide) (by decide)) q1a q1c (g := (mkF m 1 #[vR x, vI 0] [(.ref x)])) rfl (by rw [hml]; rfl) (Steps.refl _) (argsL := []) (rest := []) (lenOf own_pd12 rfl) rfl (Nat.le_of_eq rfl) (hb hby dCA_1) (fun _ _ => ⟨rfl, e0, (by decide : 0 + 0 ≤ _), (by decide : 0 + 0 ≤ _)⟩)
 dsimp only [Pt.U, Pt.locs, Pt.cells, Pt.slots] at X1 l1 y1 z1 st1 hQ1
 subst l1 y1 z1
 obtain ⟨rfl, Nq1, sm1⟩ := hQ1
 have N1 := Fr.app N0 Nq1
 refine own_st (fun tq kq => st1.trans kq) ?_
 refine own_st (fun tq kq => XS.ifYes X1.here hx rfl (pc0 := 4) (pc' := 16) rfl (hb hby dCA_4) rfl ((if0 _ _).trans (teq (by decide : ((0 : Int32) = (0 : Int32)))).1) (by decide) (by decide) kq) ?_
 refine s_aloadN X1 hx (hb hby dCA_16) rfl rfl ?_
 obtain ⟨T2, X2, e2, st2⟩ := getF X1 hx hZ hown (host := "") (Or.inl (wd21 hw)) Via.refl sm1 Fv (g := (mkF m 17 #[vR x, vI 0] [(.ref x)])) rfl rfl (hb hby dCA_17)
 refine own_st st2 ?_
 refine s_iloadN X2 hx (hb hby dCA_20) rfl ?_
 obtain ⟨_, _, ⟨T3, L3, k3, n3⟩, -, X3, ⟨Lc3, hQ3, l3, y3, z3⟩, st3⟩ := Jvm.LawKit.callS X2 hx (y := mN15) hown (mvT hZ (wd153 hw)) (mvT hZ (wd154 hw)) (mvT hZ (wd35 hw)) (mvT hZ (wd155 hw)) (by decide) (own_backN (W := 0) (own_uch2_0 l Z a0 hw [] (t) (kb) (fm) (c0) (c1) h0 n0 (by omega) (X00.keep K0 all0) OA OH OL O4 rfm Vt hbi) hZ (wd155 hw) (wd35 hw) (by decide) (by decide)) (g := (mkF m 21 #[vR x, vI 0] [(.int 0), (.ref t)])) rfl (by rw [hml]; rfl) (argsL := [(.ref t), (.int 0)]) (rest := []) (lenOf own_pd6 rfl) rfl (Nat.le_of_eq rfl) (hb hby dCA_21) (fun _ _ => ⟨rfl, e2, (by decide : 0 + 0 ≤ _), (by decide : 0 + 0 ≤ _)⟩)
 dsimp only [Pt.U, Pt.locs, Pt.cells, Pt.slots] at X3 l3 y3 z3 st3 hQ3
 subst l3 y3 z3
 obtain ⟨rfl, Nq3, sm3⟩ := hQ3
 have N3 := Fr.app N1 Nq3
 refine own_st st3 ?_
 obtain ⟨fs, hr, hrun, hended, hW, hsame⟩ := X3.leave (v := some (.int (nar .char c0))) (fun h => by rw [Bd.returns] at h; cases h)
 refine ⟨_, _, retN X3 hx (t := .char) Bd.returns (by simp) (hb hby dCA_24) hr, hrun, hended, _, _, rfl, ?_, ⟨_, rfl⟩, hW, hsame.mono (by decide) (by decide)⟩
 change Q_own_cha2_0 Z x t kb fm G1 c0 c1 h0 n0 _ T3.heap _; rw [sm3]; exact ⟨congrArg (fun z => some (Value.int z)) (own_narc hbi), N3, rfl⟩

set_option maxRecDepth 65536 in
set_option maxHeartbeats 40000000 in
theorem own_chU2_0 {p : Program} {l : Launch} {e : Env} {R : Room} {s : State} {args : Array Value} {below : List Frame} {W : Nat} {Z : State} {a0 : Array Value} {h : Heap} (hZ : Z.Warmed39 s.vm) (hw : ∀ d ∈ tables_1, d.before a0 Z = true) {x n n0 : Nat} {c0 c1 : Int32} {G1 : Int32} {fm : Value} (F : own_StrU Z n h x ([c0, c1] : List Int32)) (X00 : Old Z n0 h) (O2 : Sta Z Z.heap "java/lang/String" "COMPACT_STRINGS" "Z" (.int G1)) (P5 : ¬ (G1 = (0 : Int32))) (OA : oA Z) (OH : oH Z) (OL : oL Z) (O4 : o4 Z fm) (rfm : fm.isRef = true) (hfr : 5 ≤ R.frames) (hlo : W + 93 ≤ R.locals) :
    Back l R p e below s args (⟨"java/lang/String", "charAt", "(I)C"⟩ : MethodName) 3 W (fun P a => a = #[.ref x, .int (0 : Int32)] ∧ P.U.heap = h ∧ P.cells + 0 ≤ R.cells ∧ P.slots + 0 ≤ R.slots)
      (fun P _ v B => ∃ L, (v = some (.int c0) ∧ Fr n0 L ∧ B.U.heap = h) ∧ B.locs = P.locs ++ L ∧ B.cells = P.cells + 0 ∧ B.slots = P.slots + 0) := by
  have hh0 : n0 ≤ h.size := by have := X00.1; have := X00.2.1; omega
  obtain ⟨-, E, hb, ln, t, kb, cd, N2, vs, -, V, Cc, A, hc⟩ := F
  rcases id hc with ⟨rfl, rfl, rfl, hl⟩ | ⟨rfl, rfl, rfl, hg⟩
  · refine Back.mono (StrChars.Road.chN (W := W) hZ (own_wCh hw) (kI := 4) (wd2 hw) E V Cc A hc hb (O2.ext X00.2) P5 (O4.ext X00.2) rfm ln (i := 0) (by simp) (j := (0 : Int32)) rfl (by omega) (by omega)) (fun P a q => q) (fun P a v B _ q => ?_)
    obtain ⟨L, ⟨q1, rfl, q3⟩, q4⟩ := q
    exact ⟨[], ⟨q1, Fr.nil n0, q3⟩, q4⟩
  · exact own_backN (W := W) (rm := rm_4_0_0_80) (own_cha2_0 l Z a0 hw [] x t kb fm G1 c0 c1 h n0 hh0 X00 E V Cc O2 P5 OA OH OL O4 rfm A (hb _ (by simp))) hZ (wd98 hw) (wd3 hw) (by show 4 + 1 ≤ _; omega) (by show W + (2 + 11) + 80 ≤ _; omega)

def Q_own_uch2_1 (Z : State) (t : Nat) (kb : ClassId) (fm : Value) (c0 c1 : Int32) (h0 : Heap) (n0 : Nat) (v : Option Value) (h : Heap) (L : List Loc) : Prop := v = some (.int c1) ∧ Fr n0 L ∧ h = h0
theorem ef_own_uch2_1 (m : MethodId) (x0 : Nat) : entryFrame m #[(.ref x0), (.int 1)] 2 = mkF m 0 #[.val (.ref x0), .val (.int 1)] [] := by first | (simp [entryFrame, mkF, argsToLocals, Value.category]; done) | rfl
theorem own_uch2_1 (l : Launch) (Z : State) (a0 : Array Value) (hw : hWt a0 Z) (ws : List Jvm.Cond) (t : Nat) (kb : ClassId) (fm : Value) (c0 c1 : Int32) (h0 : Heap) (n0 : Nat) (Z0 : n0 ≤ h0.size) (X00 : Old Z n0 h0) (OA : oA Z) (OH : oH Z) (OL : oL Z) (O4 : o4 Z fm) (rfm : fm.isRef = true) (Vt : Arv Z h0 t kb .byte (4 : Int32) [.int (L8 c0), .int (H8 c0), .int (L8 c1), .int (H8 c1)] (.int 0)) (hbi : ¬ c1 < 0 ∧ ¬ (65535 : Int32) < c1) :
 own_MN l mN15 jdk_52_method_83_code 2 (some .char) ws rm_3_0_0_60 Z #[(.ref t), (.int 1)] h0 (Q_own_uch2_1 Z t kb fm c0 c1 h0 n0) := by
 refine own_bodyN (plainFor_of_name own_pn1) fun p e s m below meth c s₁ Bd hx hby hml hown hZ X0 e0 => ?_
 have N0 := Fr.nil n0
 have K0 : Keep h0 h0 [] := Keep.refl h0 []
 refine own_st (fun tq kq => castTop (ef_own_uch2_1 m (t)) kq) ?_
 show own_G p e below _ (s₁.setTop (mkF m 0 #[vR t, vI 1] []))
 refine s_iloadN X0 hx (hb hby dUC_0) rfl ?_
 refine s_aloadN X0 hx (hb hby dUC_1) rfl rfl ?_
 obtain ⟨_, _, ⟨T1, L1, k1, n1⟩, -, X1, ⟨Lc1, hQ1, l1, y1, z1⟩, st1⟩ := Jvm.LawKit.callS X0 hx (y := mN14) hown (mvT hZ (wd156 hw)) (mvT hZ (wd157 hw)) (mvT hZ (wd35 hw)) (mvT hZ (wd158 hw)) (by decide) (own_backN (W := 0) (own_uidx2 l Z a0 hw [] ((1 : Int32)) (t) (kb) (fm) (c0) (c1) h0 n0 (by omega) (X00.keep K0 all0) O4 rfm Vt (by decide) (by decide)) hZ (wd158 hw) (wd35 hw) (by decide) (by decide)) (g := (mkF m 2 #[vR t, vI 1] [(.ref t), (.int 1)])) rfl (by rw [hml]; rfl) (argsL := [(.int 1), (.ref t)]) (rest := []) (lenOf own_pd11 rfl) rfl (Nat.le_of_eq rfl) (hb hby dUC_2) (fun _ _ => ⟨rfl, e0, (by decide : 0 + 0 ≤ _), (by decide : 0 + 0 ≤ _)⟩)
 dsimp only [Pt.U, Pt.locs, Pt.cells, Pt.slots] at X1 l1 y1 z1 st1 hQ1
 subst l1 y1 z1
 obtain ⟨rfl, Nq1, sm1⟩ := hQ1
 have N1 := Fr.app N0 Nq1
 refine own_st st1 ?_
 refine s_aloadN X1 hx (hb hby dUC_5) rfl rfl ?_
 refine s_iloadN X1 hx (hb hby dUC_6) rfl ?_
 obtain ⟨_, _, ⟨T2, L2, k2, n2⟩, -, X2, ⟨Lc2, hQ2, l2, y2, z2⟩, st2⟩ := Jvm.LawKit.callS X1 hx (y := mN2) hown (mvT hZ (wd126 hw)) (mvT hZ (wd127 hw)) (mvT hZ (wd35 hw)) (mvT hZ (wd128 hw)) (by decide) (own_backN (W := 0) (own_get_1 l Z a0 hw [] (t) (_) (_) (_) (_) (_) h0 n0 (by omega) (X00.keep K0 all0) OA OH OL Vt (by decide) (by decide) rfl rfl) hZ (wd128 hw) (wd35 hw) (by decide) (by decide)) (g := (mkF m 7 #[vR t, vI 1] [(.int 1), (.ref t)])) rfl (by rw [hml]; rfl) (argsL := [(.ref t), (.int 1)]) (rest := []) (lenOf own_pd6 rfl) rfl (Nat.le_of_eq rfl) (hb hby dUC_7) (fun _ _ => ⟨rfl, sm1, (by decide : 0 + 0 ≤ _), (by decide : 0 + 0 ≤ _)⟩)
 dsimp only [Pt.U, Pt.locs, Pt.cells, Pt.slots] at X2 l2 y2 z2 st2 hQ2
 subst l2 y2 z2
 obtain ⟨rfl, Nq2, sm2⟩ := hQ2
 have N2 := Fr.app N1 Nq2
 refine own_st st2 ?_
 obtain ⟨fs, hr, hrun, hended, hW, hsame⟩ := X2.leave (v := some (.int (nar .char (StrChars.pairCh (L8 c1) (H8 c1))))) (fun h => by rw [Bd.returns] at h; cases h)
 refine ⟨_, _, retN X2 hx (t := .char) Bd.returns (by simp) (hb hby dUC_10) hr, hrun, hended, _, _, rfl, ?_, ⟨_, rfl⟩, hW, hsame.mono (by decide) (by decide)⟩
 change Q_own_uch2_1 Z t kb fm c0 c1 h0 n0 _ T2.heap _; rw [sm2]; exact ⟨congrArg (fun z => some (Value.int z)) ((own_pairN _ _).trans (StrChars.pair_says hbi.1 hbi.2)), N2, rfl⟩

def Q_own_cha2_1 (Z : State) (x t : Nat) (kb : ClassId) (fm : Value) (G1 : Int32) (c0 c1 : Int32) (h0 : Heap) (n0 : Nat) (v : Option Value) (h : Heap) (L : List Loc) : Prop := v = some (.int c1) ∧ Fr n0 L ∧ h = h0
theorem ef_own_cha2_1 (m : MethodId) (x0 : Nat) : entryFrame m #[(.ref x0), (.int 1)] 2 = mkF m 0 #[.val (.ref x0), .val (.int 1)] [] := by first | (simp [entryFrame, mkF, argsToLocals, Value.category]; done) | rfl
theorem own_cha2_1 (l : Launch) (Z : State) (a0 : Array Value) (hw : hWt a0 Z) (ws : List Jvm.Cond) (x t : Nat) (kb : ClassId) (fm : Value) (G1 : Int32) (c0 c1 : Int32) (h0 : Heap) (n0 : Nat) (Z0 : n0 ≤ h0.size) (X00 : Old Z n0 h0) (Ex : Exa Z h0 x "java/lang/String") (Fv : Fld Z h0 x "java/lang/String" "value" "[B" (.ref t)) (Fc : Fld Z h0 x "java/lang/String" "coder" "B" (.int (1 : Int32))) (O2 : Sta Z Z.heap "java/lang/String" "COMPACT_STRINGS" "Z" (.int G1)) (P5 : ¬ (G1 = (0 : Int32))) (OA : oA Z) (OH : oH Z) (OL : oL Z) (O4 : o4 Z fm) (rfm : fm.isRef = true) (Vt : Arv Z h0 t kb .byte (4 : Int32) [.int (L8 c0), .int (H8 c0), .int (L8 c1), .int (H8 c1)] (.int 0)) (hbi : ¬ c1 < 0 ∧ ¬ (65535 : Int32) < c1) :
 own_MN l mN16 jdk_42_method_56_code 2 (some .char) ws rm_4_0_0_80 Z #[(.ref x), (.int 1)] h0 (Q_own_cha2_1 Z x t kb fm G1 c0 c1 h0 n0) := by
 refine own_bodyN (plainFor_of_name own_pn0) fun p e s m below meth c s₁ Bd hx hby hml hown hZ X0 e0 => ?_
 have N0 := Fr.nil n0
 have K0 : Keep h0 h0 [] := Keep.refl h0 []
 refine own_st (fun tq kq => castTop (ef_own_cha2_1 m (x)) kq) ?_
 show own_G p e below _ (s₁.setTop (mkF m 0 #[vR x, vI 1] []))
 refine s_aloadN X0 hx (hb hby dCA_0) rfl rfl ?_
 obtain ⟨cq1, kq1, q1a, q1b, q1c⟩ := isOf hZ e0 Ex
 obtain ⟨_, _, ⟨T1, L1, k1, n1⟩, -, X1, ⟨Lc1, hQ1, l1, y1, z1⟩, st1⟩ := X0.virtualBack hx (y := mN13) (z := mN13) hown (mvT hZ (wd57 hw)) (mvT hZ (wd58 hw)) (notFace_of_selects (args := #[]) (mvT hZ (wd60 hw))) (mvT hZ (wd60 hw)) (mvT hZ (wd59 hw)) (by decide) (own_backN (W := 0) (own_isL l Z a0 hw [] (x) (G1) h0 n0 (by omega) (X00.keep K0 all0) Fc O2 P5) hZ (wd61 hw) (wd3 hw) (by decide) (by decide)) q1a q1c (g := (mkF m 1 #[vR x, vI 1] [(.ref x)])) rfl (by rw [hml]; rfl) (Steps.refl _) (argsL := []) (rest := []) (lenOf own_pd12 rfl) rfl (Nat.le_of_eq rfl) (hb hby dCA_1) (fun _ _ => ⟨rfl, e0, (by decide : 0 + 0 ≤ _), (by decide : 0 + 0 ≤ _)⟩)
 dsimp only [Pt.U, Pt.locs, Pt.cells, Pt.slots] at X1 l1 y1 z1 st1 hQ1
 subst l1 y1 z1
 obtain ⟨rfl, Nq1, sm1⟩ := hQ1
 have N1 := Fr.app N0 Nq1
 refine own_st (fun tq kq => st1.trans kq) ?_
 refine own_st (fun tq kq => XS.ifYes X1.here hx rfl (pc0 := 4) (pc' := 16) rfl (hb hby dCA_4) rfl ((if0 _ _).trans (teq (by decide : ((0 : Int32) = (0 : Int32)))).1) (by decide) (by decide) kq) ?_
 refine s_aloadN X1 hx (hb hby dCA_16) rfl rfl ?_
 obtain ⟨T2, X2, e2, st2⟩ := getF X1 hx hZ hown (host := "") (Or.inl (wd21 hw)) Via.refl sm1 Fv (g := (mkF m 17 #[vR x, vI 1] [(.ref x)])) rfl rfl (hb hby dCA_17)
 refine own_st st2 ?_
 refine s_iloadN X2 hx (hb hby dCA_20) rfl ?_
 obtain ⟨_, _, ⟨T3, L3, k3, n3⟩, -, X3, ⟨Lc3, hQ3, l3, y3, z3⟩, st3⟩ := Jvm.LawKit.callS X2 hx (y := mN15) hown (mvT hZ (wd153 hw)) (mvT hZ (wd154 hw)) (mvT hZ (wd35 hw)) (mvT hZ (wd155 hw)) (by decide) (own_backN (W := 0) (own_uch2_1 l Z a0 hw [] (t) (kb) (fm) (c0) (c1) h0 n0 (by omega) (X00.keep K0 all0) OA OH OL O4 rfm Vt hbi) hZ (wd155 hw) (wd35 hw) (by decide) (by decide)) (g := (mkF m 21 #[vR x, vI 1] [(.int 1), (.ref t)])) rfl (by rw [hml]; rfl) (argsL := [(.ref t), (.int 1)]) (rest := []) (lenOf own_pd6 rfl) rfl (Nat.le_of_eq rfl) (hb hby dCA_21) (fun _ _ => ⟨rfl, e2, (by decide : 0 + 0 ≤ _), (by decide : 0 + 0 ≤ _)⟩)
 dsimp only [Pt.U, Pt.locs, Pt.cells, Pt.slots] at X3 l3 y3 z3 st3 hQ3
 subst l3 y3 z3
 obtain ⟨rfl, Nq3, sm3⟩ := hQ3
 have N3 := Fr.app N1 Nq3
 refine own_st st3 ?_
 obtain ⟨fs, hr, hrun, hended, hW, hsame⟩ := X3.leave (v := some (.int (nar .char c1))) (fun h => by rw [Bd.returns] at h; cases h)
 refine ⟨_, _, retN X3 hx (t := .char) Bd.returns (by simp) (hb hby dCA_24) hr, hrun, hended, _, _, rfl, ?_, ⟨_, rfl⟩, hW, hsame.mono (by decide) (by decide)⟩
 change Q_own_cha2_1 Z x t kb fm G1 c0 c1 h0 n0 _ T3.heap _; rw [sm3]; exact ⟨congrArg (fun z => some (Value.int z)) (own_narc hbi), N3, rfl⟩

set_option maxRecDepth 65536 in
set_option maxHeartbeats 40000000 in
theorem own_chU2_1 {p : Program} {l : Launch} {e : Env} {R : Room} {s : State} {args : Array Value} {below : List Frame} {W : Nat} {Z : State} {a0 : Array Value} {h : Heap} (hZ : Z.Warmed39 s.vm) (hw : ∀ d ∈ tables_1, d.before a0 Z = true) {x n n0 : Nat} {c0 c1 : Int32} {G1 : Int32} {fm : Value} (F : own_StrU Z n h x ([c0, c1] : List Int32)) (X00 : Old Z n0 h) (O2 : Sta Z Z.heap "java/lang/String" "COMPACT_STRINGS" "Z" (.int G1)) (P5 : ¬ (G1 = (0 : Int32))) (OA : oA Z) (OH : oH Z) (OL : oL Z) (O4 : o4 Z fm) (rfm : fm.isRef = true) (hfr : 5 ≤ R.frames) (hlo : W + 93 ≤ R.locals) :
    Back l R p e below s args (⟨"java/lang/String", "charAt", "(I)C"⟩ : MethodName) 3 W (fun P a => a = #[.ref x, .int (1 : Int32)] ∧ P.U.heap = h ∧ P.cells + 0 ≤ R.cells ∧ P.slots + 0 ≤ R.slots)
      (fun P _ v B => ∃ L, (v = some (.int c1) ∧ Fr n0 L ∧ B.U.heap = h) ∧ B.locs = P.locs ++ L ∧ B.cells = P.cells + 0 ∧ B.slots = P.slots + 0) := by
  have hh0 : n0 ≤ h.size := by have := X00.1; have := X00.2.1; omega
  obtain ⟨-, E, hb, ln, t, kb, cd, N2, vs, -, V, Cc, A, hc⟩ := F
  rcases id hc with ⟨rfl, rfl, rfl, hl⟩ | ⟨rfl, rfl, rfl, hg⟩
  · refine Back.mono (StrChars.Road.chN (W := W) hZ (own_wCh hw) (kI := 4) (wd2 hw) E V Cc A hc hb (O2.ext X00.2) P5 (O4.ext X00.2) rfm ln (i := 1) (by simp) (j := (1 : Int32)) rfl (by omega) (by omega)) (fun P a q => q) (fun P a v B _ q => ?_)
    obtain ⟨L, ⟨q1, rfl, q3⟩, q4⟩ := q
    exact ⟨[], ⟨q1, Fr.nil n0, q3⟩, q4⟩
  · exact own_backN (W := W) (rm := rm_4_0_0_80) (own_cha2_1 l Z a0 hw [] x t kb fm G1 c0 c1 h n0 hh0 X00 E V Cc O2 P5 OA OH OL O4 rfm A (hb _ (by simp))) hZ (wd98 hw) (wd3 hw) (by show 4 + 1 ≤ _; omega) (by show W + (2 + 11) + 80 ≤ _; omega)

def Q_own_uidx3 (Z : State) (i : Int32) (t : Nat) (kb : ClassId) (fm : Value) (c0 c1 c2 : Int32) (h0 : Heap) (n0 : Nat) (v : Option Value) (h : Heap) (L : List Loc) : Prop := v = none ∧ Fr n0 L ∧ h = h0
theorem ef_own_uidx3 (m : MethodId) (x0 : Int32) (x1 : Nat) : entryFrame m #[(.int x0), (.ref x1)] 2 = mkF m 0 #[.val (.int x0), .val (.ref x1)] [] := by first | (simp [entryFrame, mkF, argsToLocals, Value.category]; done) | rfl
theorem own_uidx3 (l : Launch) (Z : State) (a0 : Array Value) (hw : hWt a0 Z) (ws : List Jvm.Cond) (i : Int32) (t : Nat) (kb : ClassId) (fm : Value) (c0 c1 c2 : Int32) (h0 : Heap) (n0 : Nat) (Z0 : n0 ≤ h0.size) (X00 : Old Z n0 h0) (O4 : o4 Z fm) (rfm : fm.isRef = true) (Vt : Arv Z h0 t kb .byte (6 : Int32) [.int (L8 c0), .int (H8 c0), .int (L8 c1), .int (H8 c1), .int (L8 c2), .int (H8 c2)] (.int 0)) (h1 : ¬ i < (0 : Int32)) (h2 : i < (3 : Int32)) :
 own_MN l mN14 jdk_52_method_91_code 2 none ws rm_2_0_0_40 Z #[(.int i), (.ref t)] h0 (Q_own_uidx3 Z i t kb fm c0 c1 c2 h0 n0) := by
 refine own_bodyN (plainFor_of_name own_pn1) fun p e s m below meth c s₁ Bd hx hby hml hown hZ X0 e0 => ?_
 have N0 := Fr.nil n0
 have K0 : Keep h0 h0 [] := Keep.refl h0 []
 refine own_st (fun tq kq => castTop (ef_own_uidx3 m (i) (t)) kq) ?_
 show own_G p e below _ (s₁.setTop (mkF m 0 #[vI i, vR t] []))
 refine s_iloadN X0 hx (hb hby dUI_0) rfl ?_
 refine s_aloadN X0 hx (hb hby dUI_1) rfl rfl ?_
 obtain ⟨_, _, ⟨T1, L1, k1, n1⟩, -, X1, ⟨Lc1, hQ1, l1, y1, z1⟩, st1⟩ := Jvm.LawKit.callS X0 hx (y := mN3) hown (mvT hZ (wd141 hw)) (mvT hZ (wd142 hw)) (mvT hZ (wd35 hw)) (mvT hZ (wd143 hw)) (by decide) (own_backN (W := 1) (own_ulen3 l Z a0 hw [] (t) (_) (_) h0 n0 (by omega) (X00.keep K0 all0) Vt) hZ (wd143 hw) (wd35 hw) (by decide) (by decide)) (g := (mkF m 2 #[vI i, vR t] [(.ref t), (.int i)])) rfl (by rw [hml]; rfl) (argsL := [(.ref t)]) (rest := [(.int i)]) (lenOf own_pd9 rfl) rfl (Nat.le_of_eq rfl) (hb hby dUI_2) (fun _ _ => ⟨rfl, e0, (by decide : 0 + 0 ≤ _), (by decide : 0 + 0 ≤ _)⟩)
 dsimp only [Pt.U, Pt.locs, Pt.cells, Pt.slots] at X1 l1 y1 z1 st1 hQ1
 subst l1 y1 z1
 obtain ⟨rfl, Nq1, sm1⟩ := hQ1
 have N1 := Fr.app N0 Nq1
 refine own_st st1 ?_
 obtain ⟨_, _, ⟨T2, L2, k2, n2⟩, -, X2, ⟨Lc2, hQ2, l2, y2, z2⟩, st2⟩ := Jvm.LawKit.callS X1 hx (y := mN12) hown (mvT hZ (wd159 hw)) (mvT hZ (wd103 hw)) (mvT hZ (wd3 hw)) (mvT hZ (wd104 hw)) (by decide) (own_backN (W := 0) (own_cidx l Z a0 hw [] (i) ((3 : Int32)) (fm) h0 n0 (by omega) (X00.keep K0 all0) O4 rfm h1 h2) hZ (wd104 hw) (wd3 hw) (by decide) (by decide)) (g := (mkF m 5 #[vI i, vR t] [(.int 3), (.int i)])) rfl (by rw [hml]; rfl) (argsL := [(.int i), (.int 3)]) (rest := []) (lenOf own_pd10 rfl) rfl (Nat.le_of_eq rfl) (hb hby dUI_5) (fun _ _ => ⟨rfl, sm1, (by decide : 0 + 0 ≤ _), (by decide : 0 + 0 ≤ _)⟩)
 dsimp only [Pt.U, Pt.locs, Pt.cells, Pt.slots] at X2 l2 y2 z2 st2 hQ2
 subst l2 y2 z2
 obtain ⟨rfl, Nq2, sm2⟩ := hQ2
 have N2 := Fr.app N1 Nq2
 refine own_st st2 ?_
 obtain ⟨fs, hr, hrun, hended, hW, hsame⟩ := X2.leave (v := none) (fun _ => rfl)
 refine ⟨_, _, X2.returnOut hx Bd.returns (hb hby dUI_8) hr, hrun, hended, _, _, rfl, ?_, ⟨_, rfl⟩, hW, hsame.mono (by decide) (by decide)⟩
 change Q_own_uidx3 Z i t kb fm c0 c1 c2 h0 n0 _ T2.heap _; rw [sm2]; exact ⟨rfl, N2, rfl⟩

def Q_own_uch3_0 (Z : State) (t : Nat) (kb : ClassId) (fm : Value) (c0 c1 c2 : Int32) (h0 : Heap) (n0 : Nat) (v : Option Value) (h : Heap) (L : List Loc) : Prop := v = some (.int c0) ∧ Fr n0 L ∧ h = h0
theorem ef_own_uch3_0 (m : MethodId) (x0 : Nat) : entryFrame m #[(.ref x0), (.int 0)] 2 = mkF m 0 #[.val (.ref x0), .val (.int 0)] [] := by first | (simp [entryFrame, mkF, argsToLocals, Value.category]; done) | rfl
theorem own_uch3_0 (l : Launch) (Z : State) (a0 : Array Value) (hw : hWt a0 Z) (ws : List Jvm.Cond) (t : Nat) (kb : ClassId) (fm : Value) (c0 c1 c2 : Int32) (h0 : Heap) (n0 : Nat) (Z0 : n0 ≤ h0.size) (X00 : Old Z n0 h0) (OA : oA Z) (OH : oH Z) (OL : oL Z) (O4 : o4 Z fm) (rfm : fm.isRef = true) (Vt : Arv Z h0 t kb .byte (6 : Int32) [.int (L8 c0), .int (H8 c0), .int (L8 c1), .int (H8 c1), .int (L8 c2), .int (H8 c2)] (.int 0)) (hbi : ¬ c0 < 0 ∧ ¬ (65535 : Int32) < c0) :
 own_MN l mN15 jdk_52_method_83_code 2 (some .char) ws rm_3_0_0_60 Z #[(.ref t), (.int 0)] h0 (Q_own_uch3_0 Z t kb fm c0 c1 c2 h0 n0) := by
 refine own_bodyN (plainFor_of_name own_pn1) fun p e s m below meth c s₁ Bd hx hby hml hown hZ X0 e0 => ?_
 have N0 := Fr.nil n0
 have K0 : Keep h0 h0 [] := Keep.refl h0 []
 refine own_st (fun tq kq => castTop (ef_own_uch3_0 m (t)) kq) ?_
 show own_G p e below _ (s₁.setTop (mkF m 0 #[vR t, vI 0] []))
 refine s_iloadN X0 hx (hb hby dUC_0) rfl ?_
 refine s_aloadN X0 hx (hb hby dUC_1) rfl rfl ?_
 obtain ⟨_, _, ⟨T1, L1, k1, n1⟩, -, X1, ⟨Lc1, hQ1, l1, y1, z1⟩, st1⟩ := Jvm.LawKit.callS X0 hx (y := mN14) hown (mvT hZ (wd156 hw)) (mvT hZ (wd157 hw)) (mvT hZ (wd35 hw)) (mvT hZ (wd158 hw)) (by decide) (own_backN (W := 0) (own_uidx3 l Z a0 hw [] ((0 : Int32)) (t) (kb) (fm) (c0) (c1) (c2) h0 n0 (by omega) (X00.keep K0 all0) O4 rfm Vt (by decide) (by decide)) hZ (wd158 hw) (wd35 hw) (by decide) (by decide)) (g := (mkF m 2 #[vR t, vI 0] [(.ref t), (.int 0)])) rfl (by rw [hml]; rfl) (argsL := [(.int 0), (.ref t)]) (rest := []) (lenOf own_pd11 rfl) rfl (Nat.le_of_eq rfl) (hb hby dUC_2) (fun _ _ => ⟨rfl, e0, (by decide : 0 + 0 ≤ _), (by decide : 0 + 0 ≤ _)⟩)
 dsimp only [Pt.U, Pt.locs, Pt.cells, Pt.slots] at X1 l1 y1 z1 st1 hQ1
 subst l1 y1 z1
 obtain ⟨rfl, Nq1, sm1⟩ := hQ1
 have N1 := Fr.app N0 Nq1
 refine own_st st1 ?_
 refine s_aloadN X1 hx (hb hby dUC_5) rfl rfl ?_
 refine s_iloadN X1 hx (hb hby dUC_6) rfl ?_
 obtain ⟨_, _, ⟨T2, L2, k2, n2⟩, -, X2, ⟨Lc2, hQ2, l2, y2, z2⟩, st2⟩ := Jvm.LawKit.callS X1 hx (y := mN2) hown (mvT hZ (wd126 hw)) (mvT hZ (wd127 hw)) (mvT hZ (wd35 hw)) (mvT hZ (wd128 hw)) (by decide) (own_backN (W := 0) (own_get_0 l Z a0 hw [] (t) (_) (_) (_) (_) (_) h0 n0 (by omega) (X00.keep K0 all0) OA OH OL Vt (by decide) (by decide) rfl rfl) hZ (wd128 hw) (wd35 hw) (by decide) (by decide)) (g := (mkF m 7 #[vR t, vI 0] [(.int 0), (.ref t)])) rfl (by rw [hml]; rfl) (argsL := [(.ref t), (.int 0)]) (rest := []) (lenOf own_pd6 rfl) rfl (Nat.le_of_eq rfl) (hb hby dUC_7) (fun _ _ => ⟨rfl, sm1, (by decide : 0 + 0 ≤ _), (by decide : 0 + 0 ≤ _)⟩)
 dsimp only [Pt.U, Pt.locs, Pt.cells, Pt.slots] at X2 l2 y2 z2 st2 hQ2
 subst l2 y2 z2
 obtain ⟨rfl, Nq2, sm2⟩ := hQ2
 have N2 := Fr.app N1 Nq2
 refine own_st st2 ?_
 obtain ⟨fs, hr, hrun, hended, hW, hsame⟩ := X2.leave (v := some (.int (nar .char (StrChars.pairCh (L8 c0) (H8 c0))))) (fun h => by rw [Bd.returns] at h; cases h)
 refine ⟨_, _, retN X2 hx (t := .char) Bd.returns (by simp) (hb hby dUC_10) hr, hrun, hended, _, _, rfl, ?_, ⟨_, rfl⟩, hW, hsame.mono (by decide) (by decide)⟩
 change Q_own_uch3_0 Z t kb fm c0 c1 c2 h0 n0 _ T2.heap _; rw [sm2]; exact ⟨congrArg (fun z => some (Value.int z)) ((own_pairN _ _).trans (StrChars.pair_says hbi.1 hbi.2)), N2, rfl⟩

def Q_own_cha3_0 (Z : State) (x t : Nat) (kb : ClassId) (fm : Value) (G1 : Int32) (c0 c1 c2 : Int32) (h0 : Heap) (n0 : Nat) (v : Option Value) (h : Heap) (L : List Loc) : Prop := v = some (.int c0) ∧ Fr n0 L ∧ h = h0
theorem ef_own_cha3_0 (m : MethodId) (x0 : Nat) : entryFrame m #[(.ref x0), (.int 0)] 2 = mkF m 0 #[.val (.ref x0), .val (.int 0)] [] := by first | (simp [entryFrame, mkF, argsToLocals, Value.category]; done) | rfl
theorem own_cha3_0 (l : Launch) (Z : State) (a0 : Array Value) (hw : hWt a0 Z) (ws : List Jvm.Cond) (x t : Nat) (kb : ClassId) (fm : Value) (G1 : Int32) (c0 c1 c2 : Int32) (h0 : Heap) (n0 : Nat) (Z0 : n0 ≤ h0.size) (X00 : Old Z n0 h0) (Ex : Exa Z h0 x "java/lang/String") (Fv : Fld Z h0 x "java/lang/String" "value" "[B" (.ref t)) (Fc : Fld Z h0 x "java/lang/String" "coder" "B" (.int (1 : Int32))) (O2 : Sta Z Z.heap "java/lang/String" "COMPACT_STRINGS" "Z" (.int G1)) (P5 : ¬ (G1 = (0 : Int32))) (OA : oA Z) (OH : oH Z) (OL : oL Z) (O4 : o4 Z fm) (rfm : fm.isRef = true) (Vt : Arv Z h0 t kb .byte (6 : Int32) [.int (L8 c0), .int (H8 c0), .int (L8 c1), .int (H8 c1), .int (L8 c2), .int (H8 c2)] (.int 0)) (hbi : ¬ c0 < 0 ∧ ¬ (65535 : Int32) < c0) :
 own_MN l mN16 jdk_42_method_56_code 2 (some .char) ws rm_4_0_0_80 Z #[(.ref x), (.int 0)] h0 (Q_own_cha3_0 Z x t kb fm G1 c0 c1 c2 h0 n0) := by
 refine own_bodyN (plainFor_of_name own_pn0) fun p e s m below meth c s₁ Bd hx hby hml hown hZ X0 e0 => ?_
 have N0 := Fr.nil n0
 have K0 : Keep h0 h0 [] := Keep.refl h0 []
 refine own_st (fun tq kq => castTop (ef_own_cha3_0 m (x)) kq) ?_
 show own_G p e below _ (s₁.setTop (mkF m 0 #[vR x, vI 0] []))
 refine s_aloadN X0 hx (hb hby dCA_0) rfl rfl ?_
 obtain ⟨cq1, kq1, q1a, q1b, q1c⟩ := isOf hZ e0 Ex
 obtain ⟨_, _, ⟨T1, L1, k1, n1⟩, -, X1, ⟨Lc1, hQ1, l1, y1, z1⟩, st1⟩ := X0.virtualBack hx (y := mN13) (z := mN13) hown (mvT hZ (wd57 hw)) (mvT hZ (wd58 hw)) (notFace_of_selects (args := #[]) (mvT hZ (wd60 hw))) (mvT hZ (wd60 hw)) (mvT hZ (wd59 hw)) (by decide) (own_backN (W := 0) (own_isL l Z a0 hw [] (x) (G1) h0 n0 (by omega) (X00.keep K0 all0) Fc O2 P5) hZ (wd61 hw) (wd3 hw) (by decide) (by decide)) q1a q1c (g := (mkF m 1 #[vR x, vI 0] [(.ref x)])) rfl (by rw [hml]; rfl) (Steps.refl _) (argsL := []) (rest := []) (lenOf own_pd12 rfl) rfl (Nat.le_of_eq rfl) (hb hby dCA_1) (fun _ _ => ⟨rfl, e0, (by decide : 0 + 0 ≤ _), (by decide : 0 + 0 ≤ _)⟩)
 dsimp only [Pt.U, Pt.locs, Pt.cells, Pt.slots] at X1 l1 y1 z1 st1 hQ1
 subst l1 y1 z1
 obtain ⟨rfl, Nq1, sm1⟩ := hQ1
 have N1 := Fr.app N0 Nq1
 refine own_st (fun tq kq => st1.trans kq) ?_
 refine own_st (fun tq kq => XS.ifYes X1.here hx rfl (pc0 := 4) (pc' := 16) rfl (hb hby dCA_4) rfl ((if0 _ _).trans (teq (by decide : ((0 : Int32) = (0 : Int32)))).1) (by decide) (by decide) kq) ?_
 refine s_aloadN X1 hx (hb hby dCA_16) rfl rfl ?_
 obtain ⟨T2, X2, e2, st2⟩ := getF X1 hx hZ hown (host := "") (Or.inl (wd21 hw)) Via.refl sm1 Fv (g := (mkF m 17 #[vR x, vI 0] [(.ref x)])) rfl rfl (hb hby dCA_17)
 refine own_st st2 ?_
 refine s_iloadN X2 hx (hb hby dCA_20) rfl ?_
 obtain ⟨_, _, ⟨T3, L3, k3, n3⟩, -, X3, ⟨Lc3, hQ3, l3, y3, z3⟩, st3⟩ := Jvm.LawKit.callS X2 hx (y := mN15) hown (mvT hZ (wd153 hw)) (mvT hZ (wd154 hw)) (mvT hZ (wd35 hw)) (mvT hZ (wd155 hw)) (by decide) (own_backN (W := 0) (own_uch3_0 l Z a0 hw [] (t) (kb) (fm) (c0) (c1) (c2) h0 n0 (by omega) (X00.keep K0 all0) OA OH OL O4 rfm Vt hbi) hZ (wd155 hw) (wd35 hw) (by decide) (by decide)) (g := (mkF m 21 #[vR x, vI 0] [(.int 0), (.ref t)])) rfl (by rw [hml]; rfl) (argsL := [(.ref t), (.int 0)]) (rest := []) (lenOf own_pd6 rfl) rfl (Nat.le_of_eq rfl) (hb hby dCA_21) (fun _ _ => ⟨rfl, e2, (by decide : 0 + 0 ≤ _), (by decide : 0 + 0 ≤ _)⟩)
 dsimp only [Pt.U, Pt.locs, Pt.cells, Pt.slots] at X3 l3 y3 z3 st3 hQ3
 subst l3 y3 z3
 obtain ⟨rfl, Nq3, sm3⟩ := hQ3
 have N3 := Fr.app N1 Nq3
 refine own_st st3 ?_
 obtain ⟨fs, hr, hrun, hended, hW, hsame⟩ := X3.leave (v := some (.int (nar .char c0))) (fun h => by rw [Bd.returns] at h; cases h)
 refine ⟨_, _, retN X3 hx (t := .char) Bd.returns (by simp) (hb hby dCA_24) hr, hrun, hended, _, _, rfl, ?_, ⟨_, rfl⟩, hW, hsame.mono (by decide) (by decide)⟩
 change Q_own_cha3_0 Z x t kb fm G1 c0 c1 c2 h0 n0 _ T3.heap _; rw [sm3]; exact ⟨congrArg (fun z => some (Value.int z)) (own_narc hbi), N3, rfl⟩

set_option maxRecDepth 65536 in
set_option maxHeartbeats 40000000 in
theorem own_chU3_0 {p : Program} {l : Launch} {e : Env} {R : Room} {s : State} {args : Array Value} {below : List Frame} {W : Nat} {Z : State} {a0 : Array Value} {h : Heap} (hZ : Z.Warmed39 s.vm) (hw : ∀ d ∈ tables_1, d.before a0 Z = true) {x n n0 : Nat} {c0 c1 c2 : Int32} {G1 : Int32} {fm : Value} (F : own_StrU Z n h x ([c0, c1, c2] : List Int32)) (X00 : Old Z n0 h) (O2 : Sta Z Z.heap "java/lang/String" "COMPACT_STRINGS" "Z" (.int G1)) (P5 : ¬ (G1 = (0 : Int32))) (OA : oA Z) (OH : oH Z) (OL : oL Z) (O4 : o4 Z fm) (rfm : fm.isRef = true) (hfr : 5 ≤ R.frames) (hlo : W + 93 ≤ R.locals) :
    Back l R p e below s args (⟨"java/lang/String", "charAt", "(I)C"⟩ : MethodName) 3 W (fun P a => a = #[.ref x, .int (0 : Int32)] ∧ P.U.heap = h ∧ P.cells + 0 ≤ R.cells ∧ P.slots + 0 ≤ R.slots)
      (fun P _ v B => ∃ L, (v = some (.int c0) ∧ Fr n0 L ∧ B.U.heap = h) ∧ B.locs = P.locs ++ L ∧ B.cells = P.cells + 0 ∧ B.slots = P.slots + 0) := by
  have hh0 : n0 ≤ h.size := by have := X00.1; have := X00.2.1; omega
  obtain ⟨-, E, hb, ln, t, kb, cd, N2, vs, -, V, Cc, A, hc⟩ := F
  rcases id hc with ⟨rfl, rfl, rfl, hl⟩ | ⟨rfl, rfl, rfl, hg⟩
  · refine Back.mono (StrChars.Road.chN (W := W) hZ (own_wCh hw) (kI := 4) (wd2 hw) E V Cc A hc hb (O2.ext X00.2) P5 (O4.ext X00.2) rfm ln (i := 0) (by simp) (j := (0 : Int32)) rfl (by omega) (by omega)) (fun P a q => q) (fun P a v B _ q => ?_)
    obtain ⟨L, ⟨q1, rfl, q3⟩, q4⟩ := q
    exact ⟨[], ⟨q1, Fr.nil n0, q3⟩, q4⟩
  · exact own_backN (W := W) (rm := rm_4_0_0_80) (own_cha3_0 l Z a0 hw [] x t kb fm G1 c0 c1 c2 h n0 hh0 X00 E V Cc O2 P5 OA OH OL O4 rfm A (hb _ (by simp))) hZ (wd98 hw) (wd3 hw) (by show 4 + 1 ≤ _; omega) (by show W + (2 + 11) + 80 ≤ _; omega)

def Q_own_uch3_1 (Z : State) (t : Nat) (kb : ClassId) (fm : Value) (c0 c1 c2 : Int32) (h0 : Heap) (n0 : Nat) (v : Option Value) (h : Heap) (L : List Loc) : Prop := v = some (.int c1) ∧ Fr n0 L ∧ h = h0
theorem ef_own_uch3_1 (m : MethodId) (x0 : Nat) : entryFrame m #[(.ref x0), (.int 1)] 2 = mkF m 0 #[.val (.ref x0), .val (.int 1)] [] := by first | (simp [entryFrame, mkF, argsToLocals, Value.category]; done) | rfl
theorem own_uch3_1 (l : Launch) (Z : State) (a0 : Array Value) (hw : hWt a0 Z) (ws : List Jvm.Cond) (t : Nat) (kb : ClassId) (fm : Value) (c0 c1 c2 : Int32) (h0 : Heap) (n0 : Nat) (Z0 : n0 ≤ h0.size) (X00 : Old Z n0 h0) (OA : oA Z) (OH : oH Z) (OL : oL Z) (O4 : o4 Z fm) (rfm : fm.isRef = true) (Vt : Arv Z h0 t kb .byte (6 : Int32) [.int (L8 c0), .int (H8 c0), .int (L8 c1), .int (H8 c1), .int (L8 c2), .int (H8 c2)] (.int 0)) (hbi : ¬ c1 < 0 ∧ ¬ (65535 : Int32) < c1) :
 own_MN l mN15 jdk_52_method_83_code 2 (some .char) ws rm_3_0_0_60 Z #[(.ref t), (.int 1)] h0 (Q_own_uch3_1 Z t kb fm c0 c1 c2 h0 n0) := by
 refine own_bodyN (plainFor_of_name own_pn1) fun p e s m below meth c s₁ Bd hx hby hml hown hZ X0 e0 => ?_
 have N0 := Fr.nil n0
 have K0 : Keep h0 h0 [] := Keep.refl h0 []
 refine own_st (fun tq kq => castTop (ef_own_uch3_1 m (t)) kq) ?_
 show own_G p e below _ (s₁.setTop (mkF m 0 #[vR t, vI 1] []))
 refine s_iloadN X0 hx (hb hby dUC_0) rfl ?_
 refine s_aloadN X0 hx (hb hby dUC_1) rfl rfl ?_
 obtain ⟨_, _, ⟨T1, L1, k1, n1⟩, -, X1, ⟨Lc1, hQ1, l1, y1, z1⟩, st1⟩ := Jvm.LawKit.callS X0 hx (y := mN14) hown (mvT hZ (wd156 hw)) (mvT hZ (wd157 hw)) (mvT hZ (wd35 hw)) (mvT hZ (wd158 hw)) (by decide) (own_backN (W := 0) (own_uidx3 l Z a0 hw [] ((1 : Int32)) (t) (kb) (fm) (c0) (c1) (c2) h0 n0 (by omega) (X00.keep K0 all0) O4 rfm Vt (by decide) (by decide)) hZ (wd158 hw) (wd35 hw) (by decide) (by decide)) (g := (mkF m 2 #[vR t, vI 1] [(.ref t), (.int 1)])) rfl (by rw [hml]; rfl) (argsL := [(.int 1), (.ref t)]) (rest := []) (lenOf own_pd11 rfl) rfl (Nat.le_of_eq rfl) (hb hby dUC_2) (fun _ _ => ⟨rfl, e0, (by decide : 0 + 0 ≤ _), (by decide : 0 + 0 ≤ _)⟩)
 dsimp only [Pt.U, Pt.locs, Pt.cells, Pt.slots] at X1 l1 y1 z1 st1 hQ1
 subst l1 y1 z1
 obtain ⟨rfl, Nq1, sm1⟩ := hQ1
 have N1 := Fr.app N0 Nq1
 refine own_st st1 ?_
 refine s_aloadN X1 hx (hb hby dUC_5) rfl rfl ?_
 refine s_iloadN X1 hx (hb hby dUC_6) rfl ?_
 obtain ⟨_, _, ⟨T2, L2, k2, n2⟩, -, X2, ⟨Lc2, hQ2, l2, y2, z2⟩, st2⟩ := Jvm.LawKit.callS X1 hx (y := mN2) hown (mvT hZ (wd126 hw)) (mvT hZ (wd127 hw)) (mvT hZ (wd35 hw)) (mvT hZ (wd128 hw)) (by decide) (own_backN (W := 0) (own_get_1 l Z a0 hw [] (t) (_) (_) (_) (_) (_) h0 n0 (by omega) (X00.keep K0 all0) OA OH OL Vt (by decide) (by decide) rfl rfl) hZ (wd128 hw) (wd35 hw) (by decide) (by decide)) (g := (mkF m 7 #[vR t, vI 1] [(.int 1), (.ref t)])) rfl (by rw [hml]; rfl) (argsL := [(.ref t), (.int 1)]) (rest := []) (lenOf own_pd6 rfl) rfl (Nat.le_of_eq rfl) (hb hby dUC_7) (fun _ _ => ⟨rfl, sm1, (by decide : 0 + 0 ≤ _), (by decide : 0 + 0 ≤ _)⟩)
 dsimp only [Pt.U, Pt.locs, Pt.cells, Pt.slots] at X2 l2 y2 z2 st2 hQ2
 subst l2 y2 z2
 obtain ⟨rfl, Nq2, sm2⟩ := hQ2
 have N2 := Fr.app N1 Nq2
 refine own_st st2 ?_
 obtain ⟨fs, hr, hrun, hended, hW, hsame⟩ := X2.leave (v := some (.int (nar .char (StrChars.pairCh (L8 c1) (H8 c1))))) (fun h => by rw [Bd.returns] at h; cases h)
 refine ⟨_, _, retN X2 hx (t := .char) Bd.returns (by simp) (hb hby dUC_10) hr, hrun, hended, _, _, rfl, ?_, ⟨_, rfl⟩, hW, hsame.mono (by decide) (by decide)⟩
 change Q_own_uch3_1 Z t kb fm c0 c1 c2 h0 n0 _ T2.heap _; rw [sm2]; exact ⟨congrArg (fun z => some (Value.int z)) ((own_pairN _ _).trans (StrChars.pair_says hbi.1 hbi.2)), N2, rfl⟩

def Q_own_cha3_1 (Z : State) (x t : Nat) (kb : ClassId) (fm : Value) (G1 : Int32) (c0 c1 c2 : Int32) (h0 : Heap) (n0 : Nat) (v : Option Value) (h : Heap) (L : List Loc) : Prop := v = some (.int c1) ∧ Fr n0 L ∧ h = h0
theorem ef_own_cha3_1 (m : MethodId) (x0 : Nat) : entryFrame m #[(.ref x0), (.int 1)] 2 = mkF m 0 #[.val (.ref x0), .val (.int 1)] [] := by first | (simp [entryFrame, mkF, argsToLocals, Value.category]; done) | rfl
theorem own_cha3_1 (l : Launch) (Z : State) (a0 : Array Value) (hw : hWt a0 Z) (ws : List Jvm.Cond) (x t : Nat) (kb : ClassId) (fm : Value) (G1 : Int32) (c0 c1 c2 : Int32) (h0 : Heap) (n0 : Nat) (Z0 : n0 ≤ h0.size) (X00 : Old Z n0 h0) (Ex : Exa Z h0 x "java/lang/String") (Fv : Fld Z h0 x "java/lang/String" "value" "[B" (.ref t)) (Fc : Fld Z h0 x "java/lang/String" "coder" "B" (.int (1 : Int32))) (O2 : Sta Z Z.heap "java/lang/String" "COMPACT_STRINGS" "Z" (.int G1)) (P5 : ¬ (G1 = (0 : Int32))) (OA : oA Z) (OH : oH Z) (OL : oL Z) (O4 : o4 Z fm) (rfm : fm.isRef = true) (Vt : Arv Z h0 t kb .byte (6 : Int32) [.int (L8 c0), .int (H8 c0), .int (L8 c1), .int (H8 c1), .int (L8 c2), .int (H8 c2)] (.int 0)) (hbi : ¬ c1 < 0 ∧ ¬ (65535 : Int32) < c1) :
 own_MN l mN16 jdk_42_method_56_code 2 (some .char) ws rm_4_0_0_80 Z #[(.ref x), (.int 1)] h0 (Q_own_cha3_1 Z x t kb fm G1 c0 c1 c2 h0 n0) := by
 refine own_bodyN (plainFor_of_name own_pn0) fun p e s m below meth c s₁ Bd hx hby hml hown hZ X0 e0 => ?_
 have N0 := Fr.nil n0
 have K0 : Keep h0 h0 [] := Keep.refl h0 []
 refine own_st (fun tq kq => castTop (ef_own_cha3_1 m (x)) kq) ?_
 show own_G p e below _ (s₁.setTop (mkF m 0 #[vR x, vI 1] []))
 refine s_aloadN X0 hx (hb hby dCA_0) rfl rfl ?_
 obtain ⟨cq1, kq1, q1a, q1b, q1c⟩ := isOf hZ e0 Ex
 obtain ⟨_, _, ⟨T1, L1, k1, n1⟩, -, X1, ⟨Lc1, hQ1, l1, y1, z1⟩, st1⟩ := X0.virtualBack hx (y := mN13) (z := mN13) hown (mvT hZ (wd57 hw)) (mvT hZ (wd58 hw)) (notFace_of_selects (args := #[]) (mvT hZ (wd60 hw))) (mvT hZ (wd60 hw)) (mvT hZ (wd59 hw)) (by decide) (own_backN (W := 0) (own_isL l Z a0 hw [] (x) (G1) h0 n0 (by omega) (X00.keep K0 all0) Fc O2 P5) hZ (wd61 hw) (wd3 hw) (by decide) (by decide)) q1a q1c (g := (mkF m 1 #[vR x, vI 1] [(.ref x)])) rfl (by rw [hml]; rfl) (Steps.refl _) (argsL := []) (rest := []) (lenOf own_pd12 rfl) rfl (Nat.le_of_eq rfl) (hb hby dCA_1) (fun _ _ => ⟨rfl, e0, (by decide : 0 + 0 ≤ _), (by decide : 0 + 0 ≤ _)⟩)
 dsimp only [Pt.U, Pt.locs, Pt.cells, Pt.slots] at X1 l1 y1 z1 st1 hQ1
 subst l1 y1 z1
 obtain ⟨rfl, Nq1, sm1⟩ := hQ1
 have N1 := Fr.app N0 Nq1
 refine own_st (fun tq kq => st1.trans kq) ?_
 refine own_st (fun tq kq => XS.ifYes X1.here hx rfl (pc0 := 4) (pc' := 16) rfl (hb hby dCA_4) rfl ((if0 _ _).trans (teq (by decide : ((0 : Int32) = (0 : Int32)))).1) (by decide) (by decide) kq) ?_
 refine s_aloadN X1 hx (hb hby dCA_16) rfl rfl ?_
 obtain ⟨T2, X2, e2, st2⟩ := getF X1 hx hZ hown (host := "") (Or.inl (wd21 hw)) Via.refl sm1 Fv (g := (mkF m 17 #[vR x, vI 1] [(.ref x)])) rfl rfl (hb hby dCA_17)
 refine own_st st2 ?_
 refine s_iloadN X2 hx (hb hby dCA_20) rfl ?_
 obtain ⟨_, _, ⟨T3, L3, k3, n3⟩, -, X3, ⟨Lc3, hQ3, l3, y3, z3⟩, st3⟩ := Jvm.LawKit.callS X2 hx (y := mN15) hown (mvT hZ (wd153 hw)) (mvT hZ (wd154 hw)) (mvT hZ (wd35 hw)) (mvT hZ (wd155 hw)) (by decide) (own_backN (W := 0) (own_uch3_1 l Z a0 hw [] (t) (kb) (fm) (c0) (c1) (c2) h0 n0 (by omega) (X00.keep K0 all0) OA OH OL O4 rfm Vt hbi) hZ (wd155 hw) (wd35 hw) (by decide) (by decide)) (g := (mkF m 21 #[vR x, vI 1] [(.int 1), (.ref t)])) rfl (by rw [hml]; rfl) (argsL := [(.ref t), (.int 1)]) (rest := []) (lenOf own_pd6 rfl) rfl (Nat.le_of_eq rfl) (hb hby dCA_21) (fun _ _ => ⟨rfl, e2, (by decide : 0 + 0 ≤ _), (by decide : 0 + 0 ≤ _)⟩)
 dsimp only [Pt.U, Pt.locs, Pt.cells, Pt.slots] at X3 l3 y3 z3 st3 hQ3
 subst l3 y3 z3
 obtain ⟨rfl, Nq3, sm3⟩ := hQ3
 have N3 := Fr.app N1 Nq3
 refine own_st st3 ?_
 obtain ⟨fs, hr, hrun, hended, hW, hsame⟩ := X3.leave (v := some (.int (nar .char c1))) (fun h => by rw [Bd.returns] at h; cases h)
 refine ⟨_, _, retN X3 hx (t := .char) Bd.returns (by simp) (hb hby dCA_24) hr, hrun, hended, _, _, rfl, ?_, ⟨_, rfl⟩, hW, hsame.mono (by decide) (by decide)⟩
 change Q_own_cha3_1 Z x t kb fm G1 c0 c1 c2 h0 n0 _ T3.heap _; rw [sm3]; exact ⟨congrArg (fun z => some (Value.int z)) (own_narc hbi), N3, rfl⟩

set_option maxRecDepth 65536 in
set_option maxHeartbeats 40000000 in
theorem own_chU3_1 {p : Program} {l : Launch} {e : Env} {R : Room} {s : State} {args : Array Value} {below : List Frame} {W : Nat} {Z : State} {a0 : Array Value} {h : Heap} (hZ : Z.Warmed39 s.vm) (hw : ∀ d ∈ tables_1, d.before a0 Z = true) {x n n0 : Nat} {c0 c1 c2 : Int32} {G1 : Int32} {fm : Value} (F : own_StrU Z n h x ([c0, c1, c2] : List Int32)) (X00 : Old Z n0 h) (O2 : Sta Z Z.heap "java/lang/String" "COMPACT_STRINGS" "Z" (.int G1)) (P5 : ¬ (G1 = (0 : Int32))) (OA : oA Z) (OH : oH Z) (OL : oL Z) (O4 : o4 Z fm) (rfm : fm.isRef = true) (hfr : 5 ≤ R.frames) (hlo : W + 93 ≤ R.locals) :
    Back l R p e below s args (⟨"java/lang/String", "charAt", "(I)C"⟩ : MethodName) 3 W (fun P a => a = #[.ref x, .int (1 : Int32)] ∧ P.U.heap = h ∧ P.cells + 0 ≤ R.cells ∧ P.slots + 0 ≤ R.slots)
      (fun P _ v B => ∃ L, (v = some (.int c1) ∧ Fr n0 L ∧ B.U.heap = h) ∧ B.locs = P.locs ++ L ∧ B.cells = P.cells + 0 ∧ B.slots = P.slots + 0) := by
  have hh0 : n0 ≤ h.size := by have := X00.1; have := X00.2.1; omega
  obtain ⟨-, E, hb, ln, t, kb, cd, N2, vs, -, V, Cc, A, hc⟩ := F
  rcases id hc with ⟨rfl, rfl, rfl, hl⟩ | ⟨rfl, rfl, rfl, hg⟩
  · refine Back.mono (StrChars.Road.chN (W := W) hZ (own_wCh hw) (kI := 4) (wd2 hw) E V Cc A hc hb (O2.ext X00.2) P5 (O4.ext X00.2) rfm ln (i := 1) (by simp) (j := (1 : Int32)) rfl (by omega) (by omega)) (fun P a q => q) (fun P a v B _ q => ?_)
    obtain ⟨L, ⟨q1, rfl, q3⟩, q4⟩ := q
    exact ⟨[], ⟨q1, Fr.nil n0, q3⟩, q4⟩
  · exact own_backN (W := W) (rm := rm_4_0_0_80) (own_cha3_1 l Z a0 hw [] x t kb fm G1 c0 c1 c2 h n0 hh0 X00 E V Cc O2 P5 OA OH OL O4 rfm A (hb _ (by simp))) hZ (wd98 hw) (wd3 hw) (by show 4 + 1 ≤ _; omega) (by show W + (2 + 11) + 80 ≤ _; omega)

def Q_own_uch3_2 (Z : State) (t : Nat) (kb : ClassId) (fm : Value) (c0 c1 c2 : Int32) (h0 : Heap) (n0 : Nat) (v : Option Value) (h : Heap) (L : List Loc) : Prop := v = some (.int c2) ∧ Fr n0 L ∧ h = h0
theorem ef_own_uch3_2 (m : MethodId) (x0 : Nat) : entryFrame m #[(.ref x0), (.int 2)] 2 = mkF m 0 #[.val (.ref x0), .val (.int 2)] [] := by first | (simp [entryFrame, mkF, argsToLocals, Value.category]; done) | rfl
theorem own_uch3_2 (l : Launch) (Z : State) (a0 : Array Value) (hw : hWt a0 Z) (ws : List Jvm.Cond) (t : Nat) (kb : ClassId) (fm : Value) (c0 c1 c2 : Int32) (h0 : Heap) (n0 : Nat) (Z0 : n0 ≤ h0.size) (X00 : Old Z n0 h0) (OA : oA Z) (OH : oH Z) (OL : oL Z) (O4 : o4 Z fm) (rfm : fm.isRef = true) (Vt : Arv Z h0 t kb .byte (6 : Int32) [.int (L8 c0), .int (H8 c0), .int (L8 c1), .int (H8 c1), .int (L8 c2), .int (H8 c2)] (.int 0)) (hbi : ¬ c2 < 0 ∧ ¬ (65535 : Int32) < c2) :
 own_MN l mN15 jdk_52_method_83_code 2 (some .char) ws rm_3_0_0_60 Z #[(.ref t), (.int 2)] h0 (Q_own_uch3_2 Z t kb fm c0 c1 c2 h0 n0) := by
 refine own_bodyN (plainFor_of_name own_pn1) fun p e s m below meth c s₁ Bd hx hby hml hown hZ X0 e0 => ?_
 have N0 := Fr.nil n0
 have K0 : Keep h0 h0 [] := Keep.refl h0 []
 refine own_st (fun tq kq => castTop (ef_own_uch3_2 m (t)) kq) ?_
 show own_G p e below _ (s₁.setTop (mkF m 0 #[vR t, vI 2] []))
 refine s_iloadN X0 hx (hb hby dUC_0) rfl ?_
 refine s_aloadN X0 hx (hb hby dUC_1) rfl rfl ?_
 obtain ⟨_, _, ⟨T1, L1, k1, n1⟩, -, X1, ⟨Lc1, hQ1, l1, y1, z1⟩, st1⟩ := Jvm.LawKit.callS X0 hx (y := mN14) hown (mvT hZ (wd156 hw)) (mvT hZ (wd157 hw)) (mvT hZ (wd35 hw)) (mvT hZ (wd158 hw)) (by decide) (own_backN (W := 0) (own_uidx3 l Z a0 hw [] ((2 : Int32)) (t) (kb) (fm) (c0) (c1) (c2) h0 n0 (by omega) (X00.keep K0 all0) O4 rfm Vt (by decide) (by decide)) hZ (wd158 hw) (wd35 hw) (by decide) (by decide)) (g := (mkF m 2 #[vR t, vI 2] [(.ref t), (.int 2)])) rfl (by rw [hml]; rfl) (argsL := [(.int 2), (.ref t)]) (rest := []) (lenOf own_pd11 rfl) rfl (Nat.le_of_eq rfl) (hb hby dUC_2) (fun _ _ => ⟨rfl, e0, (by decide : 0 + 0 ≤ _), (by decide : 0 + 0 ≤ _)⟩)
 dsimp only [Pt.U, Pt.locs, Pt.cells, Pt.slots] at X1 l1 y1 z1 st1 hQ1
 subst l1 y1 z1
 obtain ⟨rfl, Nq1, sm1⟩ := hQ1
 have N1 := Fr.app N0 Nq1
 refine own_st st1 ?_
 refine s_aloadN X1 hx (hb hby dUC_5) rfl rfl ?_
 refine s_iloadN X1 hx (hb hby dUC_6) rfl ?_
 obtain ⟨_, _, ⟨T2, L2, k2, n2⟩, -, X2, ⟨Lc2, hQ2, l2, y2, z2⟩, st2⟩ := Jvm.LawKit.callS X1 hx (y := mN2) hown (mvT hZ (wd126 hw)) (mvT hZ (wd127 hw)) (mvT hZ (wd35 hw)) (mvT hZ (wd128 hw)) (by decide) (own_backN (W := 0) (own_get_2 l Z a0 hw [] (t) (_) (_) (_) (_) (_) h0 n0 (by omega) (X00.keep K0 all0) OA OH OL Vt (by decide) (by decide) rfl rfl) hZ (wd128 hw) (wd35 hw) (by decide) (by decide)) (g := (mkF m 7 #[vR t, vI 2] [(.int 2), (.ref t)])) rfl (by rw [hml]; rfl) (argsL := [(.ref t), (.int 2)]) (rest := []) (lenOf own_pd6 rfl) rfl (Nat.le_of_eq rfl) (hb hby dUC_7) (fun _ _ => ⟨rfl, sm1, (by decide : 0 + 0 ≤ _), (by decide : 0 + 0 ≤ _)⟩)
 dsimp only [Pt.U, Pt.locs, Pt.cells, Pt.slots] at X2 l2 y2 z2 st2 hQ2
 subst l2 y2 z2
 obtain ⟨rfl, Nq2, sm2⟩ := hQ2
 have N2 := Fr.app N1 Nq2
 refine own_st st2 ?_
 obtain ⟨fs, hr, hrun, hended, hW, hsame⟩ := X2.leave (v := some (.int (nar .char (StrChars.pairCh (L8 c2) (H8 c2))))) (fun h => by rw [Bd.returns] at h; cases h)
 refine ⟨_, _, retN X2 hx (t := .char) Bd.returns (by simp) (hb hby dUC_10) hr, hrun, hended, _, _, rfl, ?_, ⟨_, rfl⟩, hW, hsame.mono (by decide) (by decide)⟩
 change Q_own_uch3_2 Z t kb fm c0 c1 c2 h0 n0 _ T2.heap _; rw [sm2]; exact ⟨congrArg (fun z => some (Value.int z)) ((own_pairN _ _).trans (StrChars.pair_says hbi.1 hbi.2)), N2, rfl⟩

def Q_own_cha3_2 (Z : State) (x t : Nat) (kb : ClassId) (fm : Value) (G1 : Int32) (c0 c1 c2 : Int32) (h0 : Heap) (n0 : Nat) (v : Option Value) (h : Heap) (L : List Loc) : Prop := v = some (.int c2) ∧ Fr n0 L ∧ h = h0
theorem ef_own_cha3_2 (m : MethodId) (x0 : Nat) : entryFrame m #[(.ref x0), (.int 2)] 2 = mkF m 0 #[.val (.ref x0), .val (.int 2)] [] := by first | (simp [entryFrame, mkF, argsToLocals, Value.category]; done) | rfl
theorem own_cha3_2 (l : Launch) (Z : State) (a0 : Array Value) (hw : hWt a0 Z) (ws : List Jvm.Cond) (x t : Nat) (kb : ClassId) (fm : Value) (G1 : Int32) (c0 c1 c2 : Int32) (h0 : Heap) (n0 : Nat) (Z0 : n0 ≤ h0.size) (X00 : Old Z n0 h0) (Ex : Exa Z h0 x "java/lang/String") (Fv : Fld Z h0 x "java/lang/String" "value" "[B" (.ref t)) (Fc : Fld Z h0 x "java/lang/String" "coder" "B" (.int (1 : Int32))) (O2 : Sta Z Z.heap "java/lang/String" "COMPACT_STRINGS" "Z" (.int G1)) (P5 : ¬ (G1 = (0 : Int32))) (OA : oA Z) (OH : oH Z) (OL : oL Z) (O4 : o4 Z fm) (rfm : fm.isRef = true) (Vt : Arv Z h0 t kb .byte (6 : Int32) [.int (L8 c0), .int (H8 c0), .int (L8 c1), .int (H8 c1), .int (L8 c2), .int (H8 c2)] (.int 0)) (hbi : ¬ c2 < 0 ∧ ¬ (65535 : Int32) < c2) :
 own_MN l mN16 jdk_42_method_56_code 2 (some .char) ws rm_4_0_0_80 Z #[(.ref x), (.int 2)] h0 (Q_own_cha3_2 Z x t kb fm G1 c0 c1 c2 h0 n0) := by
 refine own_bodyN (plainFor_of_name own_pn0) fun p e s m below meth c s₁ Bd hx hby hml hown hZ X0 e0 => ?_
 have N0 := Fr.nil n0
 have K0 : Keep h0 h0 [] := Keep.refl h0 []
 refine own_st (fun tq kq => castTop (ef_own_cha3_2 m (x)) kq) ?_
 show own_G p e below _ (s₁.setTop (mkF m 0 #[vR x, vI 2] []))
 refine s_aloadN X0 hx (hb hby dCA_0) rfl rfl ?_
 obtain ⟨cq1, kq1, q1a, q1b, q1c⟩ := isOf hZ e0 Ex
 obtain ⟨_, _, ⟨T1, L1, k1, n1⟩, -, X1, ⟨Lc1, hQ1, l1, y1, z1⟩, st1⟩ := X0.virtualBack hx (y := mN13) (z := mN13) hown (mvT hZ (wd57 hw)) (mvT hZ (wd58 hw)) (notFace_of_selects (args := #[]) (mvT hZ (wd60 hw))) (mvT hZ (wd60 hw)) (mvT hZ (wd59 hw)) (by decide) (own_backN (W := 0) (own_isL l Z a0 hw [] (x) (G1) h0 n0 (by omega) (X00.keep K0 all0) Fc O2 P5) hZ (wd61 hw) (wd3 hw) (by decide) (by decide)) q1a q1c (g := (mkF m 1 #[vR x, vI 2] [(.ref x)])) rfl (by rw [hml]; rfl) (Steps.refl _) (argsL := []) (rest := []) (lenOf own_pd12 rfl) rfl (Nat.le_of_eq rfl) (hb hby dCA_1) (fun _ _ => ⟨rfl, e0, (by decide : 0 + 0 ≤ _), (by decide : 0 + 0 ≤ _)⟩)
 dsimp only [Pt.U, Pt.locs, Pt.cells, Pt.slots] at X1 l1 y1 z1 st1 hQ1
 subst l1 y1 z1
 obtain ⟨rfl, Nq1, sm1⟩ := hQ1
 have N1 := Fr.app N0 Nq1
 refine own_st (fun tq kq => st1.trans kq) ?_
 refine own_st (fun tq kq => XS.ifYes X1.here hx rfl (pc0 := 4) (pc' := 16) rfl (hb hby dCA_4) rfl ((if0 _ _).trans (teq (by decide : ((0 : Int32) = (0 : Int32)))).1) (by decide) (by decide) kq) ?_
 refine s_aloadN X1 hx (hb hby dCA_16) rfl rfl ?_
 obtain ⟨T2, X2, e2, st2⟩ := getF X1 hx hZ hown (host := "") (Or.inl (wd21 hw)) Via.refl sm1 Fv (g := (mkF m 17 #[vR x, vI 2] [(.ref x)])) rfl rfl (hb hby dCA_17)
 refine own_st st2 ?_
 refine s_iloadN X2 hx (hb hby dCA_20) rfl ?_
 obtain ⟨_, _, ⟨T3, L3, k3, n3⟩, -, X3, ⟨Lc3, hQ3, l3, y3, z3⟩, st3⟩ := Jvm.LawKit.callS X2 hx (y := mN15) hown (mvT hZ (wd153 hw)) (mvT hZ (wd154 hw)) (mvT hZ (wd35 hw)) (mvT hZ (wd155 hw)) (by decide) (own_backN (W := 0) (own_uch3_2 l Z a0 hw [] (t) (kb) (fm) (c0) (c1) (c2) h0 n0 (by omega) (X00.keep K0 all0) OA OH OL O4 rfm Vt hbi) hZ (wd155 hw) (wd35 hw) (by decide) (by decide)) (g := (mkF m 21 #[vR x, vI 2] [(.int 2), (.ref t)])) rfl (by rw [hml]; rfl) (argsL := [(.ref t), (.int 2)]) (rest := []) (lenOf own_pd6 rfl) rfl (Nat.le_of_eq rfl) (hb hby dCA_21) (fun _ _ => ⟨rfl, e2, (by decide : 0 + 0 ≤ _), (by decide : 0 + 0 ≤ _)⟩)
 dsimp only [Pt.U, Pt.locs, Pt.cells, Pt.slots] at X3 l3 y3 z3 st3 hQ3
 subst l3 y3 z3
 obtain ⟨rfl, Nq3, sm3⟩ := hQ3
 have N3 := Fr.app N1 Nq3
 refine own_st st3 ?_
 obtain ⟨fs, hr, hrun, hended, hW, hsame⟩ := X3.leave (v := some (.int (nar .char c2))) (fun h => by rw [Bd.returns] at h; cases h)
 refine ⟨_, _, retN X3 hx (t := .char) Bd.returns (by simp) (hb hby dCA_24) hr, hrun, hended, _, _, rfl, ?_, ⟨_, rfl⟩, hW, hsame.mono (by decide) (by decide)⟩
 change Q_own_cha3_2 Z x t kb fm G1 c0 c1 c2 h0 n0 _ T3.heap _; rw [sm3]; exact ⟨congrArg (fun z => some (Value.int z)) (own_narc hbi), N3, rfl⟩

set_option maxRecDepth 65536 in
set_option maxHeartbeats 40000000 in
theorem own_chU3_2 {p : Program} {l : Launch} {e : Env} {R : Room} {s : State} {args : Array Value} {below : List Frame} {W : Nat} {Z : State} {a0 : Array Value} {h : Heap} (hZ : Z.Warmed39 s.vm) (hw : ∀ d ∈ tables_1, d.before a0 Z = true) {x n n0 : Nat} {c0 c1 c2 : Int32} {G1 : Int32} {fm : Value} (F : own_StrU Z n h x ([c0, c1, c2] : List Int32)) (X00 : Old Z n0 h) (O2 : Sta Z Z.heap "java/lang/String" "COMPACT_STRINGS" "Z" (.int G1)) (P5 : ¬ (G1 = (0 : Int32))) (OA : oA Z) (OH : oH Z) (OL : oL Z) (O4 : o4 Z fm) (rfm : fm.isRef = true) (hfr : 5 ≤ R.frames) (hlo : W + 93 ≤ R.locals) :
    Back l R p e below s args (⟨"java/lang/String", "charAt", "(I)C"⟩ : MethodName) 3 W (fun P a => a = #[.ref x, .int (2 : Int32)] ∧ P.U.heap = h ∧ P.cells + 0 ≤ R.cells ∧ P.slots + 0 ≤ R.slots)
      (fun P _ v B => ∃ L, (v = some (.int c2) ∧ Fr n0 L ∧ B.U.heap = h) ∧ B.locs = P.locs ++ L ∧ B.cells = P.cells + 0 ∧ B.slots = P.slots + 0) := by
  have hh0 : n0 ≤ h.size := by have := X00.1; have := X00.2.1; omega
  obtain ⟨-, E, hb, ln, t, kb, cd, N2, vs, -, V, Cc, A, hc⟩ := F
  rcases id hc with ⟨rfl, rfl, rfl, hl⟩ | ⟨rfl, rfl, rfl, hg⟩
  · refine Back.mono (StrChars.Road.chN (W := W) hZ (own_wCh hw) (kI := 4) (wd2 hw) E V Cc A hc hb (O2.ext X00.2) P5 (O4.ext X00.2) rfm ln (i := 2) (by simp) (j := (2 : Int32)) rfl (by omega) (by omega)) (fun P a q => q) (fun P a v B _ q => ?_)
    obtain ⟨L, ⟨q1, rfl, q3⟩, q4⟩ := q
    exact ⟨[], ⟨q1, Fr.nil n0, q3⟩, q4⟩
  · exact own_backN (W := W) (rm := rm_4_0_0_80) (own_cha3_2 l Z a0 hw [] x t kb fm G1 c0 c1 c2 h n0 hh0 X00 E V Cc O2 P5 OA OH OL O4 rfm A (hb _ (by simp))) hZ (wd98 hw) (wd3 hw) (by show 4 + 1 ≤ _; omega) (by show W + (2 + 11) + 80 ≤ _; omega)

def own_ctl (c : Int32) : Prop := c < (32 : Int32) ∨ c = (127 : Int32)
theorem own_lt32 {c : Int32} : ¬ (31 : Int32) < c ↔ c < (32 : Int32) := by
  rw [Int32.lt_iff_toInt_lt, Int32.lt_iff_toInt_lt]
  have e1 : (31 : Int32).toInt = 31 := rfl
  have e2 : (32 : Int32).toInt = 32 := rfl
  omega
theorem own_i2cb (x : Int32) : ¬ x.toUInt32.toUInt16.toUInt32.toInt32 < 0 ∧ ¬ (65535 : Int32) < x.toUInt32.toUInt16.toUInt32.toInt32 := by
  have h := c_i2c x
  rw [Int32.lt_iff_toInt_lt, Int32.lt_iff_toInt_lt]
  have e0 : (0 : Int32).toInt = 0 := rfl
  have e1 : (65535 : Int32).toInt = 65535 := rfl
  omega

def Q_own_hc0 (Z : State) (q nb : Nat) (fm : Value) (G1 : Int32) (h0 : Heap) (n0 : Nat) (v : Option Value) (h : Heap) (L : List Loc) : Prop := ((v = some (.int (1 : Int32)) ∧ ∃ c ∈ ([] : List Int32), own_ctl c) ∨ (v = some (.int (0 : Int32)) ∧ ∀ c ∈ ([] : List Int32), ¬ own_ctl c)) ∧ Fr n0 L ∧ h = h0
theorem ef_own_hc0 (m : MethodId) (x0 : Nat) : entryFrame m #[(.ref x0)] 3 = mkF m 0 #[.val (.ref x0), .unset, .unset] [] := by first | (simp [entryFrame, mkF, argsToLocals, Value.category]; done) | rfl
theorem own_hc0 (l : Launch) (Z : State) (a0 : Array Value) (hw : hWt a0 Z) (ws : List Jvm.Cond) (q nb : Nat) (fm : Value) (G1 : Int32) (h0 : Heap) (n0 : Nat) (Z0 : n0 ≤ h0.size) (X00 : Old Z n0 h0) (Sq : own_StrU Z nb h0 q ([] : List Int32)) (O2 : Sta Z Z.heap "java/lang/String" "COMPACT_STRINGS" "Z" (.int G1)) (P5 : ¬ (G1 = (0 : Int32))) (OA : oA Z) (OH : oH Z) (OL : oL Z) (O4 : o4 Z fm) (rfm : fm.isRef = true) :
 own_MN l mN17 prog_4_method_3_code 3 (some .boolean) ws rm_5_0_0_96 Z #[(.ref q)] h0 (Q_own_hc0 Z q nb fm G1 h0 n0) := by
 refine own_bodyN (plainFor_of_name own_pn3) fun p e s m below meth c s₁ Bd hx hby hml hown hZ X0 e0 => ?_
 have N0 := Fr.nil n0
 have K0 : Keep h0 h0 [] := Keep.refl h0 []
 refine own_st (fun tq kq => castTop (ef_own_hc0 m (q)) kq) ?_
 show own_G p e below _ (s₁.setTop (mkF m 0 #[vR q, .unset, .unset] []))
 refine s_iconst X0 hx (hb hby dHC_0) ?_
 refine own_st (fun tq kq => XS.istoreN X0.here hx rfl (hb hby dHC_1) rfl (l' := #[vR q, vI 0, .unset]) rfl kq) ?_
 refine s_iloadN X0 hx (hb hby dHC_2) rfl ?_
 refine s_aloadN X0 hx (hb hby dHC_3) rfl rfl ?_
 show own_G p e below _ (s₁.setTop (mkF m 4 #[vR q, vI 0, .unset] [(.ref q), (.int 0)]))
 obtain ⟨-, E_1, hb_1, ln_1, t_1, kb_1, cd_1, N2_1, vs_1, -, V_1, C_1, A_1, hc_1⟩ := id Sq
 obtain ⟨cq1, kq1, q1a, q1b, q1c⟩ := isOf hZ e0 Sq.2.1
 obtain ⟨_, _, ⟨T1, L1, k1, n1⟩, -, X1, ⟨Lc1, hQ1, l1, y1, z1⟩, st1⟩ := X0.virtualBack hx (y := mN18) (z := mN18) hown (mvT hZ (wd93 hw)) (mvT hZ (wd63 hw)) (notFace_of_selects (args := #[]) (mvT hZ (wd65 hw))) (mvT hZ (wd65 hw)) (mvT hZ (wd64 hw)) (by decide) (StrChars.Road.lenW (W := 1) hZ (own_wLen hw) (kI := 4) (wd2 hw) E_1 V_1 C_1 A_1 hc_1 hb_1 (O2.ext (X00.keep K0 all0).2) P5 ln_1 (by decide) (by decide)) q1a q1c (g := (mkF m 4 #[vR q, vI 0, .unset] [(.ref q), (.int 0)])) rfl (by rw [hml]; rfl) (Steps.refl _) (argsL := []) (rest := [(.int 0)]) (lenOf own_pd13 rfl) rfl (Nat.le_of_eq rfl) (hb hby dHC_4) (fun _ _ => ⟨rfl, e0, (by decide : 0 + 0 ≤ _), (by decide : 0 + 0 ≤ _)⟩)
 dsimp only [Pt.U, Pt.locs, Pt.cells, Pt.slots] at X1 l1 y1 z1 st1 hQ1
 subst l1 y1 z1
 obtain ⟨rfl, rfl, sm1⟩ := hQ1
 have N1 := Fr.app N0 (Fr.nil n0)
 refine own_st (fun tq kq => st1.trans kq) ?_
 refine own_st (fun tq kq => XS.icmpYes X1.here hx rfl (pc0 := 7) (pc' := 36) rfl (hb hby dHC_7) rfl (flt (by decide : ¬ ((0 : Int32) < (0 : Int32)))).2.1 (by decide) (by decide) kq) ?_
 refine s_iconst X1 hx (hb hby dHC_36) ?_
 show own_G p e below _ (T1.setTop (mkF m 37 #[vR q, vI 0, .unset] [(.int 0)]))
 obtain ⟨fs, hr, hrun, hended, hW, hsame⟩ := X1.leave (v := some (.int 0)) (fun h => by rw [Bd.returns] at h; cases h)
 refine ⟨_, _, retN X1 hx (t := .boolean) Bd.returns (by simp) (hb hby dHC_37) hr, hrun, hended, _, _, rfl, ?_, ⟨_, rfl⟩, hW, hsame.mono (by decide) (by decide)⟩
 change Q_own_hc0 Z q nb fm G1 h0 n0 _ T1.heap _; rw [sm1]; exact ⟨Or.inr ⟨rfl, by intro c hc; cases hc⟩, N1, rfl⟩

theorem own_all1 {P : Int32 → Prop} {c0 : Int32} (h0 : ¬ P c0) : ∀ c ∈ ([c0] : List Int32), ¬ P c := by
  intro c hc
  simp only [List.mem_cons, List.not_mem_nil, or_false] at hc
  rcases hc with rfl
  · exact h0

def Q_own_hc1 (Z : State) (q nb : Nat) (fm : Value) (G1 : Int32) (c0 : Int32) (h0 : Heap) (n0 : Nat) (v : Option Value) (h : Heap) (L : List Loc) : Prop := ((v = some (.int (1 : Int32)) ∧ ∃ c ∈ ([c0] : List Int32), own_ctl c) ∨ (v = some (.int (0 : Int32)) ∧ ∀ c ∈ ([c0] : List Int32), ¬ own_ctl c)) ∧ Fr n0 L ∧ h = h0
theorem ef_own_hc1 (m : MethodId) (x0 : Nat) : entryFrame m #[(.ref x0)] 3 = mkF m 0 #[.val (.ref x0), .unset, .unset] [] := by first | (simp [entryFrame, mkF, argsToLocals, Value.category]; done) | rfl
theorem own_hc1 (l : Launch) (Z : State) (a0 : Array Value) (hw : hWt a0 Z) (ws : List Jvm.Cond) (q nb : Nat) (fm : Value) (G1 : Int32) (c0 : Int32) (h0 : Heap) (n0 : Nat) (Z0 : n0 ≤ h0.size) (X00 : Old Z n0 h0) (Sq : own_StrU Z nb h0 q ([c0] : List Int32)) (O2 : Sta Z Z.heap "java/lang/String" "COMPACT_STRINGS" "Z" (.int G1)) (P5 : ¬ (G1 = (0 : Int32))) (OA : oA Z) (OH : oH Z) (OL : oL Z) (O4 : o4 Z fm) (rfm : fm.isRef = true) :
 own_MN l mN17 prog_4_method_3_code 3 (some .boolean) ws rm_5_0_0_96 Z #[(.ref q)] h0 (Q_own_hc1 Z q nb fm G1 c0 h0 n0) := by
 refine own_bodyN (plainFor_of_name own_pn3) fun p e s m below meth c s₁ Bd hx hby hml hown hZ X0 e0 => ?_
 have N0 := Fr.nil n0
 have K0 : Keep h0 h0 [] := Keep.refl h0 []
 refine own_st (fun tq kq => castTop (ef_own_hc1 m (q)) kq) ?_
 show own_G p e below _ (s₁.setTop (mkF m 0 #[vR q, .unset, .unset] []))
 refine s_iconst X0 hx (hb hby dHC_0) ?_
 refine own_st (fun tq kq => XS.istoreN X0.here hx rfl (hb hby dHC_1) rfl (l' := #[vR q, vI 0, .unset]) rfl kq) ?_
 refine s_iloadN X0 hx (hb hby dHC_2) rfl ?_
 refine s_aloadN X0 hx (hb hby dHC_3) rfl rfl ?_
 show own_G p e below _ (s₁.setTop (mkF m 4 #[vR q, vI 0, .unset] [(.ref q), (.int 0)]))
 obtain ⟨-, E_1, hb_1, ln_1, t_1, kb_1, cd_1, N2_1, vs_1, -, V_1, C_1, A_1, hc_1⟩ := id Sq
 obtain ⟨cq1, kq1, q1a, q1b, q1c⟩ := isOf hZ e0 Sq.2.1
 obtain ⟨_, _, ⟨T1, L1, k1, n1⟩, -, X1, ⟨Lc1, hQ1, l1, y1, z1⟩, st1⟩ := X0.virtualBack hx (y := mN18) (z := mN18) hown (mvT hZ (wd93 hw)) (mvT hZ (wd63 hw)) (notFace_of_selects (args := #[]) (mvT hZ (wd65 hw))) (mvT hZ (wd65 hw)) (mvT hZ (wd64 hw)) (by decide) (StrChars.Road.lenW (W := 1) hZ (own_wLen hw) (kI := 4) (wd2 hw) E_1 V_1 C_1 A_1 hc_1 hb_1 (O2.ext (X00.keep K0 all0).2) P5 ln_1 (by decide) (by decide)) q1a q1c (g := (mkF m 4 #[vR q, vI 0, .unset] [(.ref q), (.int 0)])) rfl (by rw [hml]; rfl) (Steps.refl _) (argsL := []) (rest := [(.int 0)]) (lenOf own_pd13 rfl) rfl (Nat.le_of_eq rfl) (hb hby dHC_4) (fun _ _ => ⟨rfl, e0, (by decide : 0 + 0 ≤ _), (by decide : 0 + 0 ≤ _)⟩)
 dsimp only [Pt.U, Pt.locs, Pt.cells, Pt.slots] at X1 l1 y1 z1 st1 hQ1
 subst l1 y1 z1
 obtain ⟨rfl, rfl, sm1⟩ := hQ1
 have N1 := Fr.app N0 (Fr.nil n0)
 refine own_st (fun tq kq => st1.trans kq) ?_
 refine own_st (fun tq kq => XS.icmpNo X1.here hx rfl (hb hby dHC_7) rfl (tlt (by decide : ((0 : Int32) < (1 : Int32)))).2.1 kq) ?_
 refine s_aloadN X1 hx (hb hby dHC_10) rfl rfl ?_
 refine s_iloadN X1 hx (hb hby dHC_11) rfl ?_
 obtain ⟨cq2, kq2, q2a, q2b, q2c⟩ := isOf hZ sm1 Sq.2.1
 obtain ⟨_, _, ⟨T2, L2, k2, n2⟩, -, X2, ⟨Lc2, hQ2, l2, y2, z2⟩, st2⟩ := X1.virtualBack hx (y := mN16) (z := mN16) hown (mvT hZ (wd94 hw)) (mvT hZ (wd95 hw)) (notFace_of_selects (args := #[]) (mvT hZ (wd97 hw))) (mvT hZ (wd97 hw)) (mvT hZ (wd96 hw)) (by decide) (own_chU1_0 (W := 0) hZ hw Sq (X00.keep K0 all0) O2 P5 OA OH OL O4 rfm (by decide) (by decide)) q2a q2c (g := (mkF m 12 #[vR q, vI 0, .unset] [(.int 0), (.ref q)])) rfl (by rw [hml]; rfl) (Steps.refl _) (argsL := [(.int 0)]) (rest := []) (lenOf own_pd14 rfl) rfl (Nat.le_of_eq rfl) (hb hby dHC_12) (fun _ _ => ⟨rfl, sm1, (by decide : 0 + 0 ≤ _), (by decide : 0 + 0 ≤ _)⟩)
 dsimp only [Pt.U, Pt.locs, Pt.cells, Pt.slots] at X2 l2 y2 z2 st2 hQ2
 subst l2 y2 z2
 obtain ⟨rfl, Nq2, sm2⟩ := hQ2
 have N2 := Fr.app N1 Nq2
 refine own_st (fun tq kq => st2.trans kq) ?_
 refine own_st (fun tq kq => XS.istoreN X2.here hx rfl (hb hby dHC_15) rfl (l' := #[vR q, vI 0, vI c0]) rfl kq) ?_
 refine s_iloadN X2 hx (hb hby dHC_16) rfl ?_
 refine s_bipush X2 hx (hb hby dHC_17) ?_
 show own_G p e below _ (T2.setTop (mkF m 19 #[vR q, vI 0, vI c0] [(.int 32), (.int c0)]))
 by_cases hc19_3 : (c0 < (32 : Int32))
 ·
  refine own_st (fun tq kq => XS.icmpYes X2.here hx rfl (pc0 := 19) (pc' := 28) rfl (hb hby dHC_19) rfl (tlt hc19_3).1 (by decide) (by decide) kq) ?_
  refine s_iconst X2 hx (hb hby dHC_28) ?_
  show own_G p e below _ (T2.setTop (mkF m 29 #[vR q, vI 0, vI c0] [(.int 1)]))
  obtain ⟨fs, hr, hrun, hended, hW, hsame⟩ := X2.leave (v := some (.int 1)) (fun h => by rw [Bd.returns] at h; cases h)
  refine ⟨_, _, retN X2 hx (t := .boolean) Bd.returns (by simp) (hb hby dHC_29) hr, hrun, hended, _, _, rfl, ?_, ⟨_, rfl⟩, hW, hsame.mono (by decide) (by decide)⟩
  change Q_own_hc1 Z q nb fm G1 c0 h0 n0 _ T2.heap _; rw [sm2]; exact ⟨Or.inl ⟨rfl, c0, by simp, Or.inl hc19_3⟩, N2, rfl⟩
 ·
  refine own_st (fun tq kq => XS.icmpNo X2.here hx rfl (hb hby dHC_19) rfl (flt hc19_3).1 kq) ?_
  refine s_iloadN X2 hx (hb hby dHC_22) rfl ?_
  refine s_bipush X2 hx (hb hby dHC_23) ?_
  show own_G p e below _ (T2.setTop (mkF m 25 #[vR q, vI 0, vI c0] [(.int 127), (.int c0)]))
  by_cases hc25_4 : (c0 = (127 : Int32))
  ·
   refine own_st (fun tq kq => XS.icmpNo X2.here hx rfl (hb hby dHC_25) rfl (teq hc25_4).2 kq) ?_
   refine s_iconst X2 hx (hb hby dHC_28) ?_
   show own_G p e below _ (T2.setTop (mkF m 29 #[vR q, vI 0, vI c0] [(.int 1)]))
   obtain ⟨fs, hr, hrun, hended, hW, hsame⟩ := X2.leave (v := some (.int 1)) (fun h => by rw [Bd.returns] at h; cases h)
   refine ⟨_, _, retN X2 hx (t := .boolean) Bd.returns (by simp) (hb hby dHC_29) hr, hrun, hended, _, _, rfl, ?_, ⟨_, rfl⟩, hW, hsame.mono (by decide) (by decide)⟩
   change Q_own_hc1 Z q nb fm G1 c0 h0 n0 _ T2.heap _; rw [sm2]; exact ⟨Or.inl ⟨rfl, c0, by simp, Or.inr hc25_4⟩, N2, rfl⟩
  ·
   refine own_st (fun tq kq => XS.icmpYes X2.here hx rfl (pc0 := 25) (pc' := 30) rfl (hb hby dHC_25) rfl (feq hc25_4).2 (by decide) (by decide) kq) ?_
   refine own_st (fun tq kq => XS.iinc X2.here hx rfl (hb hby dHC_30) rfl (l' := #[vR q, vI 1, vI c0]) rfl kq) ?_
   refine own_st (fun tq kq => XS.goto X2.here hx rfl (pc0 := 33) (pc' := 2) rfl (hb hby dHC_33) (by decide) (by decide) kq) ?_
   refine s_iloadN X2 hx (hb hby dHC_2) rfl ?_
   show own_G p e below _ (T2.setTop (mkF m 3 #[vR q, vI 1, vI c0] [(.int 1)]))
   refine s_aloadN X2 hx (hb hby dHC_3) rfl rfl ?_
   obtain ⟨-, E_5, hb_5, ln_5, t_5, kb_5, cd_5, N2_5, vs_5, -, V_5, C_5, A_5, hc_5⟩ := id Sq
   obtain ⟨cq5, kq5, q5a, q5b, q5c⟩ := isOf hZ sm2 Sq.2.1
   obtain ⟨_, _, ⟨T5, L5, k5, n5⟩, -, X5, ⟨Lc5, hQ5, l5, y5, z5⟩, st5⟩ := X2.virtualBack hx (y := mN18) (z := mN18) hown (mvT hZ (wd93 hw)) (mvT hZ (wd63 hw)) (notFace_of_selects (args := #[]) (mvT hZ (wd65 hw))) (mvT hZ (wd65 hw)) (mvT hZ (wd64 hw)) (by decide) (StrChars.Road.lenW (W := 1) hZ (own_wLen hw) (kI := 4) (wd2 hw) E_5 V_5 C_5 A_5 hc_5 hb_5 (O2.ext (X00.keep K0 all0).2) P5 ln_5 (by decide) (by decide)) q5a q5c (g := (mkF m 4 #[vR q, vI 1, vI c0] [(.ref q), (.int 1)])) rfl (by rw [hml]; rfl) (Steps.refl _) (argsL := []) (rest := [(.int 1)]) (lenOf own_pd13 rfl) rfl (Nat.le_of_eq rfl) (hb hby dHC_4) (fun _ _ => ⟨rfl, sm2, (by decide : 0 + 0 ≤ _), (by decide : 0 + 0 ≤ _)⟩)
   dsimp only [Pt.U, Pt.locs, Pt.cells, Pt.slots] at X5 l5 y5 z5 st5 hQ5
   subst l5 y5 z5
   obtain ⟨rfl, rfl, sm5⟩ := hQ5
   have N5 := Fr.app N2 (Fr.nil n0)
   refine own_st (fun tq kq => st5.trans kq) ?_
   refine own_st (fun tq kq => XS.icmpYes X5.here hx rfl (pc0 := 7) (pc' := 36) rfl (hb hby dHC_7) rfl (flt (by decide : ¬ ((1 : Int32) < (1 : Int32)))).2.1 (by decide) (by decide) kq) ?_
   refine s_iconst X5 hx (hb hby dHC_36) ?_
   show own_G p e below _ (T5.setTop (mkF m 37 #[vR q, vI 1, vI c0] [(.int 0)]))
   obtain ⟨fs, hr, hrun, hended, hW, hsame⟩ := X5.leave (v := some (.int 0)) (fun h => by rw [Bd.returns] at h; cases h)
   refine ⟨_, _, retN X5 hx (t := .boolean) Bd.returns (by simp) (hb hby dHC_37) hr, hrun, hended, _, _, rfl, ?_, ⟨_, rfl⟩, hW, hsame.mono (by decide) (by decide)⟩
   change Q_own_hc1 Z q nb fm G1 c0 h0 n0 _ T5.heap _; rw [sm5]; exact ⟨Or.inr ⟨rfl, fun y hy => own_all1 (fun q => q.elim hc19_3 hc25_4) y hy⟩, N5, rfl⟩

theorem own_all2 {P : Int32 → Prop} {c0 c1 : Int32} (h0 : ¬ P c0) (h1 : ¬ P c1) : ∀ c ∈ ([c0, c1] : List Int32), ¬ P c := by
  intro c hc
  simp only [List.mem_cons, List.not_mem_nil, or_false] at hc
  rcases hc with rfl | rfl
  · exact h0
  · exact h1

def Q_own_hc2 (Z : State) (q nb : Nat) (fm : Value) (G1 : Int32) (c0 c1 : Int32) (h0 : Heap) (n0 : Nat) (v : Option Value) (h : Heap) (L : List Loc) : Prop := ((v = some (.int (1 : Int32)) ∧ ∃ c ∈ ([c0, c1] : List Int32), own_ctl c) ∨ (v = some (.int (0 : Int32)) ∧ ∀ c ∈ ([c0, c1] : List Int32), ¬ own_ctl c)) ∧ Fr n0 L ∧ h = h0
theorem ef_own_hc2 (m : MethodId) (x0 : Nat) : entryFrame m #[(.ref x0)] 3 = mkF m 0 #[.val (.ref x0), .unset, .unset] [] := by first | (simp [entryFrame, mkF, argsToLocals, Value.category]; done) | rfl
theorem own_hc2 (l : Launch) (Z : State) (a0 : Array Value) (hw : hWt a0 Z) (ws : List Jvm.Cond) (q nb : Nat) (fm : Value) (G1 : Int32) (c0 c1 : Int32) (h0 : Heap) (n0 : Nat) (Z0 : n0 ≤ h0.size) (X00 : Old Z n0 h0) (Sq : own_StrU Z nb h0 q ([c0, c1] : List Int32)) (O2 : Sta Z Z.heap "java/lang/String" "COMPACT_STRINGS" "Z" (.int G1)) (P5 : ¬ (G1 = (0 : Int32))) (OA : oA Z) (OH : oH Z) (OL : oL Z) (O4 : o4 Z fm) (rfm : fm.isRef = true) :
 own_MN l mN17 prog_4_method_3_code 3 (some .boolean) ws rm_5_0_0_96 Z #[(.ref q)] h0 (Q_own_hc2 Z q nb fm G1 c0 c1 h0 n0) := by
 refine own_bodyN (plainFor_of_name own_pn3) fun p e s m below meth c s₁ Bd hx hby hml hown hZ X0 e0 => ?_
 have N0 := Fr.nil n0
 have K0 : Keep h0 h0 [] := Keep.refl h0 []
 refine own_st (fun tq kq => castTop (ef_own_hc2 m (q)) kq) ?_
 show own_G p e below _ (s₁.setTop (mkF m 0 #[vR q, .unset, .unset] []))
 refine s_iconst X0 hx (hb hby dHC_0) ?_
 refine own_st (fun tq kq => XS.istoreN X0.here hx rfl (hb hby dHC_1) rfl (l' := #[vR q, vI 0, .unset]) rfl kq) ?_
 refine s_iloadN X0 hx (hb hby dHC_2) rfl ?_
 refine s_aloadN X0 hx (hb hby dHC_3) rfl rfl ?_
 show own_G p e below _ (s₁.setTop (mkF m 4 #[vR q, vI 0, .unset] [(.ref q), (.int 0)]))
 obtain ⟨-, E_1, hb_1, ln_1, t_1, kb_1, cd_1, N2_1, vs_1, -, V_1, C_1, A_1, hc_1⟩ := id Sq
 obtain ⟨cq1, kq1, q1a, q1b, q1c⟩ := isOf hZ e0 Sq.2.1
 obtain ⟨_, _, ⟨T1, L1, k1, n1⟩, -, X1, ⟨Lc1, hQ1, l1, y1, z1⟩, st1⟩ := X0.virtualBack hx (y := mN18) (z := mN18) hown (mvT hZ (wd93 hw)) (mvT hZ (wd63 hw)) (notFace_of_selects (args := #[]) (mvT hZ (wd65 hw))) (mvT hZ (wd65 hw)) (mvT hZ (wd64 hw)) (by decide) (StrChars.Road.lenW (W := 1) hZ (own_wLen hw) (kI := 4) (wd2 hw) E_1 V_1 C_1 A_1 hc_1 hb_1 (O2.ext (X00.keep K0 all0).2) P5 ln_1 (by decide) (by decide)) q1a q1c (g := (mkF m 4 #[vR q, vI 0, .unset] [(.ref q), (.int 0)])) rfl (by rw [hml]; rfl) (Steps.refl _) (argsL := []) (rest := [(.int 0)]) (lenOf own_pd13 rfl) rfl (Nat.le_of_eq rfl) (hb hby dHC_4) (fun _ _ => ⟨rfl, e0, (by decide : 0 + 0 ≤ _), (by decide : 0 + 0 ≤ _)⟩)
 dsimp only [Pt.U, Pt.locs, Pt.cells, Pt.slots] at X1 l1 y1 z1 st1 hQ1
 subst l1 y1 z1
 obtain ⟨rfl, rfl, sm1⟩ := hQ1
 have N1 := Fr.app N0 (Fr.nil n0)
 refine own_st (fun tq kq => st1.trans kq) ?_
 refine own_st (fun tq kq => XS.icmpNo X1.here hx rfl (hb hby dHC_7) rfl (tlt (by decide : ((0 : Int32) < (2 : Int32)))).2.1 kq) ?_
 refine s_aloadN X1 hx (hb hby dHC_10) rfl rfl ?_
 refine s_iloadN X1 hx (hb hby dHC_11) rfl ?_
 obtain ⟨cq2, kq2, q2a, q2b, q2c⟩ := isOf hZ sm1 Sq.2.1
 obtain ⟨_, _, ⟨T2, L2, k2, n2⟩, -, X2, ⟨Lc2, hQ2, l2, y2, z2⟩, st2⟩ := X1.virtualBack hx (y := mN16) (z := mN16) hown (mvT hZ (wd94 hw)) (mvT hZ (wd95 hw)) (notFace_of_selects (args := #[]) (mvT hZ (wd97 hw))) (mvT hZ (wd97 hw)) (mvT hZ (wd96 hw)) (by decide) (own_chU2_0 (W := 0) hZ hw Sq (X00.keep K0 all0) O2 P5 OA OH OL O4 rfm (by decide) (by decide)) q2a q2c (g := (mkF m 12 #[vR q, vI 0, .unset] [(.int 0), (.ref q)])) rfl (by rw [hml]; rfl) (Steps.refl _) (argsL := [(.int 0)]) (rest := []) (lenOf own_pd14 rfl) rfl (Nat.le_of_eq rfl) (hb hby dHC_12) (fun _ _ => ⟨rfl, sm1, (by decide : 0 + 0 ≤ _), (by decide : 0 + 0 ≤ _)⟩)
 dsimp only [Pt.U, Pt.locs, Pt.cells, Pt.slots] at X2 l2 y2 z2 st2 hQ2
 subst l2 y2 z2
 obtain ⟨rfl, Nq2, sm2⟩ := hQ2
 have N2 := Fr.app N1 Nq2
 refine own_st (fun tq kq => st2.trans kq) ?_
 refine own_st (fun tq kq => XS.istoreN X2.here hx rfl (hb hby dHC_15) rfl (l' := #[vR q, vI 0, vI c0]) rfl kq) ?_
 refine s_iloadN X2 hx (hb hby dHC_16) rfl ?_
 refine s_bipush X2 hx (hb hby dHC_17) ?_
 show own_G p e below _ (T2.setTop (mkF m 19 #[vR q, vI 0, vI c0] [(.int 32), (.int c0)]))
 by_cases hc19_3 : (c0 < (32 : Int32))
 ·
  refine own_st (fun tq kq => XS.icmpYes X2.here hx rfl (pc0 := 19) (pc' := 28) rfl (hb hby dHC_19) rfl (tlt hc19_3).1 (by decide) (by decide) kq) ?_
  refine s_iconst X2 hx (hb hby dHC_28) ?_
  show own_G p e below _ (T2.setTop (mkF m 29 #[vR q, vI 0, vI c0] [(.int 1)]))
  obtain ⟨fs, hr, hrun, hended, hW, hsame⟩ := X2.leave (v := some (.int 1)) (fun h => by rw [Bd.returns] at h; cases h)
  refine ⟨_, _, retN X2 hx (t := .boolean) Bd.returns (by simp) (hb hby dHC_29) hr, hrun, hended, _, _, rfl, ?_, ⟨_, rfl⟩, hW, hsame.mono (by decide) (by decide)⟩
  change Q_own_hc2 Z q nb fm G1 c0 c1 h0 n0 _ T2.heap _; rw [sm2]; exact ⟨Or.inl ⟨rfl, c0, by simp, Or.inl hc19_3⟩, N2, rfl⟩
 ·
  refine own_st (fun tq kq => XS.icmpNo X2.here hx rfl (hb hby dHC_19) rfl (flt hc19_3).1 kq) ?_
  refine s_iloadN X2 hx (hb hby dHC_22) rfl ?_
  refine s_bipush X2 hx (hb hby dHC_23) ?_
  show own_G p e below _ (T2.setTop (mkF m 25 #[vR q, vI 0, vI c0] [(.int 127), (.int c0)]))
  by_cases hc25_4 : (c0 = (127 : Int32))
  ·
   refine own_st (fun tq kq => XS.icmpNo X2.here hx rfl (hb hby dHC_25) rfl (teq hc25_4).2 kq) ?_
   refine s_iconst X2 hx (hb hby dHC_28) ?_
   show own_G p e below _ (T2.setTop (mkF m 29 #[vR q, vI 0, vI c0] [(.int 1)]))
   obtain ⟨fs, hr, hrun, hended, hW, hsame⟩ := X2.leave (v := some (.int 1)) (fun h => by rw [Bd.returns] at h; cases h)
   refine ⟨_, _, retN X2 hx (t := .boolean) Bd.returns (by simp) (hb hby dHC_29) hr, hrun, hended, _, _, rfl, ?_, ⟨_, rfl⟩, hW, hsame.mono (by decide) (by decide)⟩
   change Q_own_hc2 Z q nb fm G1 c0 c1 h0 n0 _ T2.heap _; rw [sm2]; exact ⟨Or.inl ⟨rfl, c0, by simp, Or.inr hc25_4⟩, N2, rfl⟩
  ·
   refine own_st (fun tq kq => XS.icmpYes X2.here hx rfl (pc0 := 25) (pc' := 30) rfl (hb hby dHC_25) rfl (feq hc25_4).2 (by decide) (by decide) kq) ?_
   refine own_st (fun tq kq => XS.iinc X2.here hx rfl (hb hby dHC_30) rfl (l' := #[vR q, vI 1, vI c0]) rfl kq) ?_
   refine own_st (fun tq kq => XS.goto X2.here hx rfl (pc0 := 33) (pc' := 2) rfl (hb hby dHC_33) (by decide) (by decide) kq) ?_
   refine s_iloadN X2 hx (hb hby dHC_2) rfl ?_
   show own_G p e below _ (T2.setTop (mkF m 3 #[vR q, vI 1, vI c0] [(.int 1)]))
   refine s_aloadN X2 hx (hb hby dHC_3) rfl rfl ?_
   obtain ⟨-, E_5, hb_5, ln_5, t_5, kb_5, cd_5, N2_5, vs_5, -, V_5, C_5, A_5, hc_5⟩ := id Sq
   obtain ⟨cq5, kq5, q5a, q5b, q5c⟩ := isOf hZ sm2 Sq.2.1
   obtain ⟨_, _, ⟨T5, L5, k5, n5⟩, -, X5, ⟨Lc5, hQ5, l5, y5, z5⟩, st5⟩ := X2.virtualBack hx (y := mN18) (z := mN18) hown (mvT hZ (wd93 hw)) (mvT hZ (wd63 hw)) (notFace_of_selects (args := #[]) (mvT hZ (wd65 hw))) (mvT hZ (wd65 hw)) (mvT hZ (wd64 hw)) (by decide) (StrChars.Road.lenW (W := 1) hZ (own_wLen hw) (kI := 4) (wd2 hw) E_5 V_5 C_5 A_5 hc_5 hb_5 (O2.ext (X00.keep K0 all0).2) P5 ln_5 (by decide) (by decide)) q5a q5c (g := (mkF m 4 #[vR q, vI 1, vI c0] [(.ref q), (.int 1)])) rfl (by rw [hml]; rfl) (Steps.refl _) (argsL := []) (rest := [(.int 1)]) (lenOf own_pd13 rfl) rfl (Nat.le_of_eq rfl) (hb hby dHC_4) (fun _ _ => ⟨rfl, sm2, (by decide : 0 + 0 ≤ _), (by decide : 0 + 0 ≤ _)⟩)
   dsimp only [Pt.U, Pt.locs, Pt.cells, Pt.slots] at X5 l5 y5 z5 st5 hQ5
   subst l5 y5 z5
   obtain ⟨rfl, rfl, sm5⟩ := hQ5
   have N5 := Fr.app N2 (Fr.nil n0)
   refine own_st (fun tq kq => st5.trans kq) ?_
   refine own_st (fun tq kq => XS.icmpNo X5.here hx rfl (hb hby dHC_7) rfl (tlt (by decide : ((1 : Int32) < (2 : Int32)))).2.1 kq) ?_
   refine s_aloadN X5 hx (hb hby dHC_10) rfl rfl ?_
   refine s_iloadN X5 hx (hb hby dHC_11) rfl ?_
   obtain ⟨cq6, kq6, q6a, q6b, q6c⟩ := isOf hZ sm5 Sq.2.1
   obtain ⟨_, _, ⟨T6, L6, k6, n6⟩, -, X6, ⟨Lc6, hQ6, l6, y6, z6⟩, st6⟩ := X5.virtualBack hx (y := mN16) (z := mN16) hown (mvT hZ (wd94 hw)) (mvT hZ (wd95 hw)) (notFace_of_selects (args := #[]) (mvT hZ (wd97 hw))) (mvT hZ (wd97 hw)) (mvT hZ (wd96 hw)) (by decide) (own_chU2_1 (W := 0) hZ hw Sq (X00.keep K0 all0) O2 P5 OA OH OL O4 rfm (by decide) (by decide)) q6a q6c (g := (mkF m 12 #[vR q, vI 1, vI c0] [(.int 1), (.ref q)])) rfl (by rw [hml]; rfl) (Steps.refl _) (argsL := [(.int 1)]) (rest := []) (lenOf own_pd14 rfl) rfl (Nat.le_of_eq rfl) (hb hby dHC_12) (fun _ _ => ⟨rfl, sm5, (by decide : 0 + 0 ≤ _), (by decide : 0 + 0 ≤ _)⟩)
   dsimp only [Pt.U, Pt.locs, Pt.cells, Pt.slots] at X6 l6 y6 z6 st6 hQ6
   subst l6 y6 z6
   obtain ⟨rfl, Nq6, sm6⟩ := hQ6
   have N6 := Fr.app N5 Nq6
   refine own_st (fun tq kq => st6.trans kq) ?_
   refine own_st (fun tq kq => XS.istoreN X6.here hx rfl (hb hby dHC_15) rfl (l' := #[vR q, vI 1, vI c1]) rfl kq) ?_
   refine s_iloadN X6 hx (hb hby dHC_16) rfl ?_
   refine s_bipush X6 hx (hb hby dHC_17) ?_
   show own_G p e below _ (T6.setTop (mkF m 19 #[vR q, vI 1, vI c1] [(.int 32), (.int c1)]))
   by_cases hc19_7 : (c1 < (32 : Int32))
   ·
    refine own_st (fun tq kq => XS.icmpYes X6.here hx rfl (pc0 := 19) (pc' := 28) rfl (hb hby dHC_19) rfl (tlt hc19_7).1 (by decide) (by decide) kq) ?_
    refine s_iconst X6 hx (hb hby dHC_28) ?_
    show own_G p e below _ (T6.setTop (mkF m 29 #[vR q, vI 1, vI c1] [(.int 1)]))
    obtain ⟨fs, hr, hrun, hended, hW, hsame⟩ := X6.leave (v := some (.int 1)) (fun h => by rw [Bd.returns] at h; cases h)
    refine ⟨_, _, retN X6 hx (t := .boolean) Bd.returns (by simp) (hb hby dHC_29) hr, hrun, hended, _, _, rfl, ?_, ⟨_, rfl⟩, hW, hsame.mono (by decide) (by decide)⟩
    change Q_own_hc2 Z q nb fm G1 c0 c1 h0 n0 _ T6.heap _; rw [sm6]; exact ⟨Or.inl ⟨rfl, c1, by simp, Or.inl hc19_7⟩, N6, rfl⟩
   ·
    refine own_st (fun tq kq => XS.icmpNo X6.here hx rfl (hb hby dHC_19) rfl (flt hc19_7).1 kq) ?_
    refine s_iloadN X6 hx (hb hby dHC_22) rfl ?_
    refine s_bipush X6 hx (hb hby dHC_23) ?_
    show own_G p e below _ (T6.setTop (mkF m 25 #[vR q, vI 1, vI c1] [(.int 127), (.int c1)]))
    by_cases hc25_8 : (c1 = (127 : Int32))
    ·
     refine own_st (fun tq kq => XS.icmpNo X6.here hx rfl (hb hby dHC_25) rfl (teq hc25_8).2 kq) ?_
     refine s_iconst X6 hx (hb hby dHC_28) ?_
     show own_G p e below _ (T6.setTop (mkF m 29 #[vR q, vI 1, vI c1] [(.int 1)]))
     obtain ⟨fs, hr, hrun, hended, hW, hsame⟩ := X6.leave (v := some (.int 1)) (fun h => by rw [Bd.returns] at h; cases h)
     refine ⟨_, _, retN X6 hx (t := .boolean) Bd.returns (by simp) (hb hby dHC_29) hr, hrun, hended, _, _, rfl, ?_, ⟨_, rfl⟩, hW, hsame.mono (by decide) (by decide)⟩
     change Q_own_hc2 Z q nb fm G1 c0 c1 h0 n0 _ T6.heap _; rw [sm6]; exact ⟨Or.inl ⟨rfl, c1, by simp, Or.inr hc25_8⟩, N6, rfl⟩
    ·
     refine own_st (fun tq kq => XS.icmpYes X6.here hx rfl (pc0 := 25) (pc' := 30) rfl (hb hby dHC_25) rfl (feq hc25_8).2 (by decide) (by decide) kq) ?_
     refine own_st (fun tq kq => XS.iinc X6.here hx rfl (hb hby dHC_30) rfl (l' := #[vR q, vI 2, vI c1]) rfl kq) ?_
     refine own_st (fun tq kq => XS.goto X6.here hx rfl (pc0 := 33) (pc' := 2) rfl (hb hby dHC_33) (by decide) (by decide) kq) ?_
     refine s_iloadN X6 hx (hb hby dHC_2) rfl ?_
     show own_G p e below _ (T6.setTop (mkF m 3 #[vR q, vI 2, vI c1] [(.int 2)]))
     refine s_aloadN X6 hx (hb hby dHC_3) rfl rfl ?_
     obtain ⟨-, E_9, hb_9, ln_9, t_9, kb_9, cd_9, N2_9, vs_9, -, V_9, C_9, A_9, hc_9⟩ := id Sq
     obtain ⟨cq9, kq9, q9a, q9b, q9c⟩ := isOf hZ sm6 Sq.2.1
     obtain ⟨_, _, ⟨T9, L9, k9, n9⟩, -, X9, ⟨Lc9, hQ9, l9, y9, z9⟩, st9⟩ := X6.virtualBack hx (y := mN18) (z := mN18) hown (mvT hZ (wd93 hw)) (mvT hZ (wd63 hw)) (notFace_of_selects (args := #[]) (mvT hZ (wd65 hw))) (mvT hZ (wd65 hw)) (mvT hZ (wd64 hw)) (by decide) (StrChars.Road.lenW (W := 1) hZ (own_wLen hw) (kI := 4) (wd2 hw) E_9 V_9 C_9 A_9 hc_9 hb_9 (O2.ext (X00.keep K0 all0).2) P5 ln_9 (by decide) (by decide)) q9a q9c (g := (mkF m 4 #[vR q, vI 2, vI c1] [(.ref q), (.int 2)])) rfl (by rw [hml]; rfl) (Steps.refl _) (argsL := []) (rest := [(.int 2)]) (lenOf own_pd13 rfl) rfl (Nat.le_of_eq rfl) (hb hby dHC_4) (fun _ _ => ⟨rfl, sm6, (by decide : 0 + 0 ≤ _), (by decide : 0 + 0 ≤ _)⟩)
     dsimp only [Pt.U, Pt.locs, Pt.cells, Pt.slots] at X9 l9 y9 z9 st9 hQ9
     subst l9 y9 z9
     obtain ⟨rfl, rfl, sm9⟩ := hQ9
     have N9 := Fr.app N6 (Fr.nil n0)
     refine own_st (fun tq kq => st9.trans kq) ?_
     refine own_st (fun tq kq => XS.icmpYes X9.here hx rfl (pc0 := 7) (pc' := 36) rfl (hb hby dHC_7) rfl (flt (by decide : ¬ ((2 : Int32) < (2 : Int32)))).2.1 (by decide) (by decide) kq) ?_
     refine s_iconst X9 hx (hb hby dHC_36) ?_
     show own_G p e below _ (T9.setTop (mkF m 37 #[vR q, vI 2, vI c1] [(.int 0)]))
     obtain ⟨fs, hr, hrun, hended, hW, hsame⟩ := X9.leave (v := some (.int 0)) (fun h => by rw [Bd.returns] at h; cases h)
     refine ⟨_, _, retN X9 hx (t := .boolean) Bd.returns (by simp) (hb hby dHC_37) hr, hrun, hended, _, _, rfl, ?_, ⟨_, rfl⟩, hW, hsame.mono (by decide) (by decide)⟩
     change Q_own_hc2 Z q nb fm G1 c0 c1 h0 n0 _ T9.heap _; rw [sm9]; exact ⟨Or.inr ⟨rfl, fun y hy => own_all2 (fun q => q.elim hc19_3 hc25_4) (fun q => q.elim hc19_7 hc25_8) y hy⟩, N9, rfl⟩

theorem own_all3 {P : Int32 → Prop} {c0 c1 c2 : Int32} (h0 : ¬ P c0) (h1 : ¬ P c1) (h2 : ¬ P c2) : ∀ c ∈ ([c0, c1, c2] : List Int32), ¬ P c := by
  intro c hc
  simp only [List.mem_cons, List.not_mem_nil, or_false] at hc
  rcases hc with rfl | rfl | rfl
  · exact h0
  · exact h1
  · exact h2

def Q_own_hc3 (Z : State) (q nb : Nat) (fm : Value) (G1 : Int32) (c0 c1 c2 : Int32) (h0 : Heap) (n0 : Nat) (v : Option Value) (h : Heap) (L : List Loc) : Prop := ((v = some (.int (1 : Int32)) ∧ ∃ c ∈ ([c0, c1, c2] : List Int32), own_ctl c) ∨ (v = some (.int (0 : Int32)) ∧ ∀ c ∈ ([c0, c1, c2] : List Int32), ¬ own_ctl c)) ∧ Fr n0 L ∧ h = h0
theorem ef_own_hc3 (m : MethodId) (x0 : Nat) : entryFrame m #[(.ref x0)] 3 = mkF m 0 #[.val (.ref x0), .unset, .unset] [] := by first | (simp [entryFrame, mkF, argsToLocals, Value.category]; done) | rfl
theorem own_hc3 (l : Launch) (Z : State) (a0 : Array Value) (hw : hWt a0 Z) (ws : List Jvm.Cond) (q nb : Nat) (fm : Value) (G1 : Int32) (c0 c1 c2 : Int32) (h0 : Heap) (n0 : Nat) (Z0 : n0 ≤ h0.size) (X00 : Old Z n0 h0) (Sq : own_StrU Z nb h0 q ([c0, c1, c2] : List Int32)) (O2 : Sta Z Z.heap "java/lang/String" "COMPACT_STRINGS" "Z" (.int G1)) (P5 : ¬ (G1 = (0 : Int32))) (OA : oA Z) (OH : oH Z) (OL : oL Z) (O4 : o4 Z fm) (rfm : fm.isRef = true) :
 own_MN l mN17 prog_4_method_3_code 3 (some .boolean) ws rm_5_0_0_96 Z #[(.ref q)] h0 (Q_own_hc3 Z q nb fm G1 c0 c1 c2 h0 n0) := by
 refine own_bodyN (plainFor_of_name own_pn3) fun p e s m below meth c s₁ Bd hx hby hml hown hZ X0 e0 => ?_
 have N0 := Fr.nil n0
 have K0 : Keep h0 h0 [] := Keep.refl h0 []
 refine own_st (fun tq kq => castTop (ef_own_hc3 m (q)) kq) ?_
 show own_G p e below _ (s₁.setTop (mkF m 0 #[vR q, .unset, .unset] []))
 refine s_iconst X0 hx (hb hby dHC_0) ?_
 refine own_st (fun tq kq => XS.istoreN X0.here hx rfl (hb hby dHC_1) rfl (l' := #[vR q, vI 0, .unset]) rfl kq) ?_
 refine s_iloadN X0 hx (hb hby dHC_2) rfl ?_
 refine s_aloadN X0 hx (hb hby dHC_3) rfl rfl ?_
 show own_G p e below _ (s₁.setTop (mkF m 4 #[vR q, vI 0, .unset] [(.ref q), (.int 0)]))
 obtain ⟨-, E_1, hb_1, ln_1, t_1, kb_1, cd_1, N2_1, vs_1, -, V_1, C_1, A_1, hc_1⟩ := id Sq
 obtain ⟨cq1, kq1, q1a, q1b, q1c⟩ := isOf hZ e0 Sq.2.1
 obtain ⟨_, _, ⟨T1, L1, k1, n1⟩, -, X1, ⟨Lc1, hQ1, l1, y1, z1⟩, st1⟩ := X0.virtualBack hx (y := mN18) (z := mN18) hown (mvT hZ (wd93 hw)) (mvT hZ (wd63 hw)) (notFace_of_selects (args := #[]) (mvT hZ (wd65 hw))) (mvT hZ (wd65 hw)) (mvT hZ (wd64 hw)) (by decide) (StrChars.Road.lenW (W := 1) hZ (own_wLen hw) (kI := 4) (wd2 hw) E_1 V_1 C_1 A_1 hc_1 hb_1 (O2.ext (X00.keep K0 all0).2) P5 ln_1 (by decide) (by decide)) q1a q1c (g := (mkF m 4 #[vR q, vI 0, .unset] [(.ref q), (.int 0)])) rfl (by rw [hml]; rfl) (Steps.refl _) (argsL := []) (rest := [(.int 0)]) (lenOf own_pd13 rfl) rfl (Nat.le_of_eq rfl) (hb hby dHC_4) (fun _ _ => ⟨rfl, e0, (by decide : 0 + 0 ≤ _), (by decide : 0 + 0 ≤ _)⟩)
 dsimp only [Pt.U, Pt.locs, Pt.cells, Pt.slots] at X1 l1 y1 z1 st1 hQ1
 subst l1 y1 z1
 obtain ⟨rfl, rfl, sm1⟩ := hQ1
 have N1 := Fr.app N0 (Fr.nil n0)
 refine own_st (fun tq kq => st1.trans kq) ?_
 refine own_st (fun tq kq => XS.icmpNo X1.here hx rfl (hb hby dHC_7) rfl (tlt (by decide : ((0 : Int32) < (3 : Int32)))).2.1 kq) ?_
 refine s_aloadN X1 hx (hb hby dHC_10) rfl rfl ?_
 refine s_iloadN X1 hx (hb hby dHC_11) rfl ?_
 obtain ⟨cq2, kq2, q2a, q2b, q2c⟩ := isOf hZ sm1 Sq.2.1
 obtain ⟨_, _, ⟨T2, L2, k2, n2⟩, -, X2, ⟨Lc2, hQ2, l2, y2, z2⟩, st2⟩ := X1.virtualBack hx (y := mN16) (z := mN16) hown (mvT hZ (wd94 hw)) (mvT hZ (wd95 hw)) (notFace_of_selects (args := #[]) (mvT hZ (wd97 hw))) (mvT hZ (wd97 hw)) (mvT hZ (wd96 hw)) (by decide) (own_chU3_0 (W := 0) hZ hw Sq (X00.keep K0 all0) O2 P5 OA OH OL O4 rfm (by decide) (by decide)) q2a q2c (g := (mkF m 12 #[vR q, vI 0, .unset] [(.int 0), (.ref q)])) rfl (by rw [hml]; rfl) (Steps.refl _) (argsL := [(.int 0)]) (rest := []) (lenOf own_pd14 rfl) rfl (Nat.le_of_eq rfl) (hb hby dHC_12) (fun _ _ => ⟨rfl, sm1, (by decide : 0 + 0 ≤ _), (by decide : 0 + 0 ≤ _)⟩)
 dsimp only [Pt.U, Pt.locs, Pt.cells, Pt.slots] at X2 l2 y2 z2 st2 hQ2
 subst l2 y2 z2
 obtain ⟨rfl, Nq2, sm2⟩ := hQ2
 have N2 := Fr.app N1 Nq2
 refine own_st (fun tq kq => st2.trans kq) ?_
 refine own_st (fun tq kq => XS.istoreN X2.here hx rfl (hb hby dHC_15) rfl (l' := #[vR q, vI 0, vI c0]) rfl kq) ?_
 refine s_iloadN X2 hx (hb hby dHC_16) rfl ?_
 refine s_bipush X2 hx (hb hby dHC_17) ?_
 show own_G p e below _ (T2.setTop (mkF m 19 #[vR q, vI 0, vI c0] [(.int 32), (.int c0)]))
 by_cases hc19_3 : (c0 < (32 : Int32))
 ·
  refine own_st (fun tq kq => XS.icmpYes X2.here hx rfl (pc0 := 19) (pc' := 28) rfl (hb hby dHC_19) rfl (tlt hc19_3).1 (by decide) (by decide) kq) ?_
  refine s_iconst X2 hx (hb hby dHC_28) ?_
  show own_G p e below _ (T2.setTop (mkF m 29 #[vR q, vI 0, vI c0] [(.int 1)]))
  obtain ⟨fs, hr, hrun, hended, hW, hsame⟩ := X2.leave (v := some (.int 1)) (fun h => by rw [Bd.returns] at h; cases h)
  refine ⟨_, _, retN X2 hx (t := .boolean) Bd.returns (by simp) (hb hby dHC_29) hr, hrun, hended, _, _, rfl, ?_, ⟨_, rfl⟩, hW, hsame.mono (by decide) (by decide)⟩
  change Q_own_hc3 Z q nb fm G1 c0 c1 c2 h0 n0 _ T2.heap _; rw [sm2]; exact ⟨Or.inl ⟨rfl, c0, by simp, Or.inl hc19_3⟩, N2, rfl⟩
 ·
  refine own_st (fun tq kq => XS.icmpNo X2.here hx rfl (hb hby dHC_19) rfl (flt hc19_3).1 kq) ?_
  refine s_iloadN X2 hx (hb hby dHC_22) rfl ?_
  refine s_bipush X2 hx (hb hby dHC_23) ?_
  show own_G p e below _ (T2.setTop (mkF m 25 #[vR q, vI 0, vI c0] [(.int 127), (.int c0)]))
  by_cases hc25_4 : (c0 = (127 : Int32))
  ·
   refine own_st (fun tq kq => XS.icmpNo X2.here hx rfl (hb hby dHC_25) rfl (teq hc25_4).2 kq) ?_
   refine s_iconst X2 hx (hb hby dHC_28) ?_
   show own_G p e below _ (T2.setTop (mkF m 29 #[vR q, vI 0, vI c0] [(.int 1)]))
   obtain ⟨fs, hr, hrun, hended, hW, hsame⟩ := X2.leave (v := some (.int 1)) (fun h => by rw [Bd.returns] at h; cases h)
   refine ⟨_, _, retN X2 hx (t := .boolean) Bd.returns (by simp) (hb hby dHC_29) hr, hrun, hended, _, _, rfl, ?_, ⟨_, rfl⟩, hW, hsame.mono (by decide) (by decide)⟩
   change Q_own_hc3 Z q nb fm G1 c0 c1 c2 h0 n0 _ T2.heap _; rw [sm2]; exact ⟨Or.inl ⟨rfl, c0, by simp, Or.inr hc25_4⟩, N2, rfl⟩
  ·
   refine own_st (fun tq kq => XS.icmpYes X2.here hx rfl (pc0 := 25) (pc' := 30) rfl (hb hby dHC_25) rfl (feq hc25_4).2 (by decide) (by decide) kq) ?_
   refine own_st (fun tq kq => XS.iinc X2.here hx rfl (hb hby dHC_30) rfl (l' := #[vR q, vI 1, vI c0]) rfl kq) ?_
   refine own_st (fun tq kq => XS.goto X2.here hx rfl (pc0 := 33) (pc' := 2) rfl (hb hby dHC_33) (by decide) (by decide) kq) ?_
   refine s_iloadN X2 hx (hb hby dHC_2) rfl ?_
   show own_G p e below _ (T2.setTop (mkF m 3 #[vR q, vI 1, vI c0] [(.int 1)]))
   refine s_aloadN X2 hx (hb hby dHC_3) rfl rfl ?_
   obtain ⟨-, E_5, hb_5, ln_5, t_5, kb_5, cd_5, N2_5, vs_5, -, V_5, C_5, A_5, hc_5⟩ := id Sq
   obtain ⟨cq5, kq5, q5a, q5b, q5c⟩ := isOf hZ sm2 Sq.2.1
   obtain ⟨_, _, ⟨T5, L5, k5, n5⟩, -, X5, ⟨Lc5, hQ5, l5, y5, z5⟩, st5⟩ := X2.virtualBack hx (y := mN18) (z := mN18) hown (mvT hZ (wd93 hw)) (mvT hZ (wd63 hw)) (notFace_of_selects (args := #[]) (mvT hZ (wd65 hw))) (mvT hZ (wd65 hw)) (mvT hZ (wd64 hw)) (by decide) (StrChars.Road.lenW (W := 1) hZ (own_wLen hw) (kI := 4) (wd2 hw) E_5 V_5 C_5 A_5 hc_5 hb_5 (O2.ext (X00.keep K0 all0).2) P5 ln_5 (by decide) (by decide)) q5a q5c (g := (mkF m 4 #[vR q, vI 1, vI c0] [(.ref q), (.int 1)])) rfl (by rw [hml]; rfl) (Steps.refl _) (argsL := []) (rest := [(.int 1)]) (lenOf own_pd13 rfl) rfl (Nat.le_of_eq rfl) (hb hby dHC_4) (fun _ _ => ⟨rfl, sm2, (by decide : 0 + 0 ≤ _), (by decide : 0 + 0 ≤ _)⟩)
   dsimp only [Pt.U, Pt.locs, Pt.cells, Pt.slots] at X5 l5 y5 z5 st5 hQ5
   subst l5 y5 z5
   obtain ⟨rfl, rfl, sm5⟩ := hQ5
   have N5 := Fr.app N2 (Fr.nil n0)
   refine own_st (fun tq kq => st5.trans kq) ?_
   refine own_st (fun tq kq => XS.icmpNo X5.here hx rfl (hb hby dHC_7) rfl (tlt (by decide : ((1 : Int32) < (3 : Int32)))).2.1 kq) ?_
   refine s_aloadN X5 hx (hb hby dHC_10) rfl rfl ?_
   refine s_iloadN X5 hx (hb hby dHC_11) rfl ?_
   obtain ⟨cq6, kq6, q6a, q6b, q6c⟩ := isOf hZ sm5 Sq.2.1
   obtain ⟨_, _, ⟨T6, L6, k6, n6⟩, -, X6, ⟨Lc6, hQ6, l6, y6, z6⟩, st6⟩ := X5.virtualBack hx (y := mN16) (z := mN16) hown (mvT hZ (wd94 hw)) (mvT hZ (wd95 hw)) (notFace_of_selects (args := #[]) (mvT hZ (wd97 hw))) (mvT hZ (wd97 hw)) (mvT hZ (wd96 hw)) (by decide) (own_chU3_1 (W := 0) hZ hw Sq (X00.keep K0 all0) O2 P5 OA OH OL O4 rfm (by decide) (by decide)) q6a q6c (g := (mkF m 12 #[vR q, vI 1, vI c0] [(.int 1), (.ref q)])) rfl (by rw [hml]; rfl) (Steps.refl _) (argsL := [(.int 1)]) (rest := []) (lenOf own_pd14 rfl) rfl (Nat.le_of_eq rfl) (hb hby dHC_12) (fun _ _ => ⟨rfl, sm5, (by decide : 0 + 0 ≤ _), (by decide : 0 + 0 ≤ _)⟩)
   dsimp only [Pt.U, Pt.locs, Pt.cells, Pt.slots] at X6 l6 y6 z6 st6 hQ6
   subst l6 y6 z6
   obtain ⟨rfl, Nq6, sm6⟩ := hQ6
   have N6 := Fr.app N5 Nq6
   refine own_st (fun tq kq => st6.trans kq) ?_
   refine own_st (fun tq kq => XS.istoreN X6.here hx rfl (hb hby dHC_15) rfl (l' := #[vR q, vI 1, vI c1]) rfl kq) ?_
   refine s_iloadN X6 hx (hb hby dHC_16) rfl ?_
   refine s_bipush X6 hx (hb hby dHC_17) ?_
   show own_G p e below _ (T6.setTop (mkF m 19 #[vR q, vI 1, vI c1] [(.int 32), (.int c1)]))
   by_cases hc19_7 : (c1 < (32 : Int32))
   ·
    refine own_st (fun tq kq => XS.icmpYes X6.here hx rfl (pc0 := 19) (pc' := 28) rfl (hb hby dHC_19) rfl (tlt hc19_7).1 (by decide) (by decide) kq) ?_
    refine s_iconst X6 hx (hb hby dHC_28) ?_
    show own_G p e below _ (T6.setTop (mkF m 29 #[vR q, vI 1, vI c1] [(.int 1)]))
    obtain ⟨fs, hr, hrun, hended, hW, hsame⟩ := X6.leave (v := some (.int 1)) (fun h => by rw [Bd.returns] at h; cases h)
    refine ⟨_, _, retN X6 hx (t := .boolean) Bd.returns (by simp) (hb hby dHC_29) hr, hrun, hended, _, _, rfl, ?_, ⟨_, rfl⟩, hW, hsame.mono (by decide) (by decide)⟩
    change Q_own_hc3 Z q nb fm G1 c0 c1 c2 h0 n0 _ T6.heap _; rw [sm6]; exact ⟨Or.inl ⟨rfl, c1, by simp, Or.inl hc19_7⟩, N6, rfl⟩
   ·
    refine own_st (fun tq kq => XS.icmpNo X6.here hx rfl (hb hby dHC_19) rfl (flt hc19_7).1 kq) ?_
    refine s_iloadN X6 hx (hb hby dHC_22) rfl ?_
    refine s_bipush X6 hx (hb hby dHC_23) ?_
    show own_G p e below _ (T6.setTop (mkF m 25 #[vR q, vI 1, vI c1] [(.int 127), (.int c1)]))
    by_cases hc25_8 : (c1 = (127 : Int32))
    ·
     refine own_st (fun tq kq => XS.icmpNo X6.here hx rfl (hb hby dHC_25) rfl (teq hc25_8).2 kq) ?_
     refine s_iconst X6 hx (hb hby dHC_28) ?_
     show own_G p e below _ (T6.setTop (mkF m 29 #[vR q, vI 1, vI c1] [(.int 1)]))
     obtain ⟨fs, hr, hrun, hended, hW, hsame⟩ := X6.leave (v := some (.int 1)) (fun h => by rw [Bd.returns] at h; cases h)
     refine ⟨_, _, retN X6 hx (t := .boolean) Bd.returns (by simp) (hb hby dHC_29) hr, hrun, hended, _, _, rfl, ?_, ⟨_, rfl⟩, hW, hsame.mono (by decide) (by decide)⟩
     change Q_own_hc3 Z q nb fm G1 c0 c1 c2 h0 n0 _ T6.heap _; rw [sm6]; exact ⟨Or.inl ⟨rfl, c1, by simp, Or.inr hc25_8⟩, N6, rfl⟩
    ·
     refine own_st (fun tq kq => XS.icmpYes X6.here hx rfl (pc0 := 25) (pc' := 30) rfl (hb hby dHC_25) rfl (feq hc25_8).2 (by decide) (by decide) kq) ?_
     refine own_st (fun tq kq => XS.iinc X6.here hx rfl (hb hby dHC_30) rfl (l' := #[vR q, vI 2, vI c1]) rfl kq) ?_
     refine own_st (fun tq kq => XS.goto X6.here hx rfl (pc0 := 33) (pc' := 2) rfl (hb hby dHC_33) (by decide) (by decide) kq) ?_
     refine s_iloadN X6 hx (hb hby dHC_2) rfl ?_
     show own_G p e below _ (T6.setTop (mkF m 3 #[vR q, vI 2, vI c1] [(.int 2)]))
     refine s_aloadN X6 hx (hb hby dHC_3) rfl rfl ?_
     obtain ⟨-, E_9, hb_9, ln_9, t_9, kb_9, cd_9, N2_9, vs_9, -, V_9, C_9, A_9, hc_9⟩ := id Sq
     obtain ⟨cq9, kq9, q9a, q9b, q9c⟩ := isOf hZ sm6 Sq.2.1
     obtain ⟨_, _, ⟨T9, L9, k9, n9⟩, -, X9, ⟨Lc9, hQ9, l9, y9, z9⟩, st9⟩ := X6.virtualBack hx (y := mN18) (z := mN18) hown (mvT hZ (wd93 hw)) (mvT hZ (wd63 hw)) (notFace_of_selects (args := #[]) (mvT hZ (wd65 hw))) (mvT hZ (wd65 hw)) (mvT hZ (wd64 hw)) (by decide) (StrChars.Road.lenW (W := 1) hZ (own_wLen hw) (kI := 4) (wd2 hw) E_9 V_9 C_9 A_9 hc_9 hb_9 (O2.ext (X00.keep K0 all0).2) P5 ln_9 (by decide) (by decide)) q9a q9c (g := (mkF m 4 #[vR q, vI 2, vI c1] [(.ref q), (.int 2)])) rfl (by rw [hml]; rfl) (Steps.refl _) (argsL := []) (rest := [(.int 2)]) (lenOf own_pd13 rfl) rfl (Nat.le_of_eq rfl) (hb hby dHC_4) (fun _ _ => ⟨rfl, sm6, (by decide : 0 + 0 ≤ _), (by decide : 0 + 0 ≤ _)⟩)
     dsimp only [Pt.U, Pt.locs, Pt.cells, Pt.slots] at X9 l9 y9 z9 st9 hQ9
     subst l9 y9 z9
     obtain ⟨rfl, rfl, sm9⟩ := hQ9
     have N9 := Fr.app N6 (Fr.nil n0)
     refine own_st (fun tq kq => st9.trans kq) ?_
     refine own_st (fun tq kq => XS.icmpNo X9.here hx rfl (hb hby dHC_7) rfl (tlt (by decide : ((2 : Int32) < (3 : Int32)))).2.1 kq) ?_
     refine s_aloadN X9 hx (hb hby dHC_10) rfl rfl ?_
     refine s_iloadN X9 hx (hb hby dHC_11) rfl ?_
     obtain ⟨cq10, kq10, q10a, q10b, q10c⟩ := isOf hZ sm9 Sq.2.1
     obtain ⟨_, _, ⟨T10, L10, k10, n10⟩, -, X10, ⟨Lc10, hQ10, l10, y10, z10⟩, st10⟩ := X9.virtualBack hx (y := mN16) (z := mN16) hown (mvT hZ (wd94 hw)) (mvT hZ (wd95 hw)) (notFace_of_selects (args := #[]) (mvT hZ (wd97 hw))) (mvT hZ (wd97 hw)) (mvT hZ (wd96 hw)) (by decide) (own_chU3_2 (W := 0) hZ hw Sq (X00.keep K0 all0) O2 P5 OA OH OL O4 rfm (by decide) (by decide)) q10a q10c (g := (mkF m 12 #[vR q, vI 2, vI c1] [(.int 2), (.ref q)])) rfl (by rw [hml]; rfl) (Steps.refl _) (argsL := [(.int 2)]) (rest := []) (lenOf own_pd14 rfl) rfl (Nat.le_of_eq rfl) (hb hby dHC_12) (fun _ _ => ⟨rfl, sm9, (by decide : 0 + 0 ≤ _), (by decide : 0 + 0 ≤ _)⟩)
     dsimp only [Pt.U, Pt.locs, Pt.cells, Pt.slots] at X10 l10 y10 z10 st10 hQ10
     subst l10 y10 z10
     obtain ⟨rfl, Nq10, sm10⟩ := hQ10
     have N10 := Fr.app N9 Nq10
     refine own_st (fun tq kq => st10.trans kq) ?_
     refine own_st (fun tq kq => XS.istoreN X10.here hx rfl (hb hby dHC_15) rfl (l' := #[vR q, vI 2, vI c2]) rfl kq) ?_
     refine s_iloadN X10 hx (hb hby dHC_16) rfl ?_
     refine s_bipush X10 hx (hb hby dHC_17) ?_
     show own_G p e below _ (T10.setTop (mkF m 19 #[vR q, vI 2, vI c2] [(.int 32), (.int c2)]))
     by_cases hc19_11 : (c2 < (32 : Int32))
     ·
      refine own_st (fun tq kq => XS.icmpYes X10.here hx rfl (pc0 := 19) (pc' := 28) rfl (hb hby dHC_19) rfl (tlt hc19_11).1 (by decide) (by decide) kq) ?_
      refine s_iconst X10 hx (hb hby dHC_28) ?_
      show own_G p e below _ (T10.setTop (mkF m 29 #[vR q, vI 2, vI c2] [(.int 1)]))
      obtain ⟨fs, hr, hrun, hended, hW, hsame⟩ := X10.leave (v := some (.int 1)) (fun h => by rw [Bd.returns] at h; cases h)
      refine ⟨_, _, retN X10 hx (t := .boolean) Bd.returns (by simp) (hb hby dHC_29) hr, hrun, hended, _, _, rfl, ?_, ⟨_, rfl⟩, hW, hsame.mono (by decide) (by decide)⟩
      change Q_own_hc3 Z q nb fm G1 c0 c1 c2 h0 n0 _ T10.heap _; rw [sm10]; exact ⟨Or.inl ⟨rfl, c2, by simp, Or.inl hc19_11⟩, N10, rfl⟩
     ·
      refine own_st (fun tq kq => XS.icmpNo X10.here hx rfl (hb hby dHC_19) rfl (flt hc19_11).1 kq) ?_
      refine s_iloadN X10 hx (hb hby dHC_22) rfl ?_
      refine s_bipush X10 hx (hb hby dHC_23) ?_
      show own_G p e below _ (T10.setTop (mkF m 25 #[vR q, vI 2, vI c2] [(.int 127), (.int c2)]))
      by_cases hc25_12 : (c2 = (127 : Int32))
      ·
       refine own_st (fun tq kq => XS.icmpNo X10.here hx rfl (hb hby dHC_25) rfl (teq hc25_12).2 kq) ?_
       refine s_iconst X10 hx (hb hby dHC_28) ?_
       show own_G p e below _ (T10.setTop (mkF m 29 #[vR q, vI 2, vI c2] [(.int 1)]))
       obtain ⟨fs, hr, hrun, hended, hW, hsame⟩ := X10.leave (v := some (.int 1)) (fun h => by rw [Bd.returns] at h; cases h)
       refine ⟨_, _, retN X10 hx (t := .boolean) Bd.returns (by simp) (hb hby dHC_29) hr, hrun, hended, _, _, rfl, ?_, ⟨_, rfl⟩, hW, hsame.mono (by decide) (by decide)⟩
       change Q_own_hc3 Z q nb fm G1 c0 c1 c2 h0 n0 _ T10.heap _; rw [sm10]; exact ⟨Or.inl ⟨rfl, c2, by simp, Or.inr hc25_12⟩, N10, rfl⟩
      ·
       refine own_st (fun tq kq => XS.icmpYes X10.here hx rfl (pc0 := 25) (pc' := 30) rfl (hb hby dHC_25) rfl (feq hc25_12).2 (by decide) (by decide) kq) ?_
       refine own_st (fun tq kq => XS.iinc X10.here hx rfl (hb hby dHC_30) rfl (l' := #[vR q, vI 3, vI c2]) rfl kq) ?_
       refine own_st (fun tq kq => XS.goto X10.here hx rfl (pc0 := 33) (pc' := 2) rfl (hb hby dHC_33) (by decide) (by decide) kq) ?_
       refine s_iloadN X10 hx (hb hby dHC_2) rfl ?_
       show own_G p e below _ (T10.setTop (mkF m 3 #[vR q, vI 3, vI c2] [(.int 3)]))
       refine s_aloadN X10 hx (hb hby dHC_3) rfl rfl ?_
       obtain ⟨-, E_13, hb_13, ln_13, t_13, kb_13, cd_13, N2_13, vs_13, -, V_13, C_13, A_13, hc_13⟩ := id Sq
       obtain ⟨cq13, kq13, q13a, q13b, q13c⟩ := isOf hZ sm10 Sq.2.1
       obtain ⟨_, _, ⟨T13, L13, k13, n13⟩, -, X13, ⟨Lc13, hQ13, l13, y13, z13⟩, st13⟩ := X10.virtualBack hx (y := mN18) (z := mN18) hown (mvT hZ (wd93 hw)) (mvT hZ (wd63 hw)) (notFace_of_selects (args := #[]) (mvT hZ (wd65 hw))) (mvT hZ (wd65 hw)) (mvT hZ (wd64 hw)) (by decide) (StrChars.Road.lenW (W := 1) hZ (own_wLen hw) (kI := 4) (wd2 hw) E_13 V_13 C_13 A_13 hc_13 hb_13 (O2.ext (X00.keep K0 all0).2) P5 ln_13 (by decide) (by decide)) q13a q13c (g := (mkF m 4 #[vR q, vI 3, vI c2] [(.ref q), (.int 3)])) rfl (by rw [hml]; rfl) (Steps.refl _) (argsL := []) (rest := [(.int 3)]) (lenOf own_pd13 rfl) rfl (Nat.le_of_eq rfl) (hb hby dHC_4) (fun _ _ => ⟨rfl, sm10, (by decide : 0 + 0 ≤ _), (by decide : 0 + 0 ≤ _)⟩)
       dsimp only [Pt.U, Pt.locs, Pt.cells, Pt.slots] at X13 l13 y13 z13 st13 hQ13
       subst l13 y13 z13
       obtain ⟨rfl, rfl, sm13⟩ := hQ13
       have N13 := Fr.app N10 (Fr.nil n0)
       refine own_st (fun tq kq => st13.trans kq) ?_
       refine own_st (fun tq kq => XS.icmpYes X13.here hx rfl (pc0 := 7) (pc' := 36) rfl (hb hby dHC_7) rfl (flt (by decide : ¬ ((3 : Int32) < (3 : Int32)))).2.1 (by decide) (by decide) kq) ?_
       refine s_iconst X13 hx (hb hby dHC_36) ?_
       show own_G p e below _ (T13.setTop (mkF m 37 #[vR q, vI 3, vI c2] [(.int 0)]))
       obtain ⟨fs, hr, hrun, hended, hW, hsame⟩ := X13.leave (v := some (.int 0)) (fun h => by rw [Bd.returns] at h; cases h)
       refine ⟨_, _, retN X13 hx (t := .boolean) Bd.returns (by simp) (hb hby dHC_37) hr, hrun, hended, _, _, rfl, ?_, ⟨_, rfl⟩, hW, hsame.mono (by decide) (by decide)⟩
       change Q_own_hc3 Z q nb fm G1 c0 c1 c2 h0 n0 _ T13.heap _; rw [sm13]; exact ⟨Or.inr ⟨rfl, fun y hy => own_all3 (fun q => q.elim hc19_3 hc25_4) (fun q => q.elim hc19_7 hc25_8) (fun q => q.elim hc19_11 hc25_12) y hy⟩, N13, rfl⟩

def own_IX (r : Int32) (cs : List Int32) : Prop := (¬ r < 0 ∧ ∃ c ∈ cs, c = (58 : Int32)) ∨ (r < 0 ∧ ∀ c ∈ cs, ¬ c = (58 : Int32))
theorem own_IXy {r : Int32} {cs : List Int32} (h : own_IX r cs) (q : ¬ r < 0) : ∃ c ∈ cs, c = (58 : Int32) := h.elim (fun z => z.2) (fun z => absurd z.1 q)
theorem own_IXn {r : Int32} {cs : List Int32} (h : own_IX r cs) (q : r < 0) : ∀ c ∈ cs, ¬ c = (58 : Int32) := h.elim (fun z => absurd q z.1) (fun z => z.2)
theorem own_b58 {c : Int32} (h : ¬ c < 0 ∧ ¬ (255 : Int32) < c) : c.toInt8.toInt32 = (58 : Int32) ↔ c = (58 : Int32) := by
  obtain ⟨h1, h2⟩ := h
  rw [Int32.lt_iff_toInt_lt] at h1 h2
  have e0 : (0 : Int32).toInt = 0 := rfl
  have e1 : (255 : Int32).toInt = 255 := rfl
  have e2 : (58 : Int32).toInt = 58 := rfl
  rw [← Int32.toInt_inj, ← Int32.toInt_inj, Int8.toInt_toInt32, Int32.toInt_toInt8, e2, Int.bmod_def]
  split <;> omega
theorem own_wEmp {a0 : Array Value} {Z : State} (hw : ∀ d ∈ tables_1, d.before a0 Z = true) : ∀ d ∈ StrChars.Road.wordsEmp, d.before a0 Z = true := fun d hd => hw d ((by decide +kernel : ∀ d ∈ StrChars.Road.wordsEmp, d ∈ tables_1) d hd)
abbrev own_okc (c : Int32) : Prop := ¬ c = (58 : Int32) ∧ ¬ own_ctl c
abbrev own_ok (cs : List Int32) : Prop := cs ≠ [] ∧ (∀ c ∈ cs, ¬ c = (58 : Int32)) ∧ ∀ c ∈ cs, ¬ own_ctl c
theorem own_and3 (x : Int32) : x &&& (3 : Int32) = 0 ∨ x &&& (3 : Int32) = 1 ∨ x &&& (3 : Int32) = 2 ∨ x &&& (3 : Int32) = 3 := by
  have h := c_and x (3 : Int32) (by decide)
  have e0 : (0 : Int32).toInt = 0 := rfl
  have e1 : (1 : Int32).toInt = 1 := rfl
  have e2 : (2 : Int32).toInt = 2 := rfl
  have e3 : (3 : Int32).toInt = 3 := rfl
  simp only [← Int32.toInt_inj, e0, e1, e2, e3]
  rw [e3] at h
  omega

def Q_own_max (Z : State)  (h0 : Heap) (n0 : Nat) (v : Option Value) (h : Heap) (L : List Loc) : Prop := v = some (.int (0 : Int32)) ∧ Fr n0 L ∧ h = h0
theorem ef_own_max (m : MethodId)  : entryFrame m #[(.int 0), (.int 0)] 2 = mkF m 0 #[.val (.int 0), .val (.int 0)] [] := by first | (simp [entryFrame, mkF, argsToLocals, Value.category]; done) | rfl
theorem own_max (l : Launch) (Z : State) (a0 : Array Value) (hw : hWt a0 Z) (ws : List Jvm.Cond)  (h0 : Heap) (n0 : Nat) (Z0 : n0 ≤ h0.size) (X00 : Old Z n0 h0)  :
 own_MN l mN19 jdk_29_method_65_code 2 (some .int) ws rm_0_0_0_0 Z #[(.int 0), (.int 0)] h0 (Q_own_max Z  h0 n0) := by
 refine own_bodyN own_pn4 fun p e s m below meth c s₁ Bd hx hby hml hown hZ X0 e0 => ?_
 have N0 := Fr.nil n0
 have K0 : Keep h0 h0 [] := Keep.refl h0 []
 refine own_st (fun tq kq => castTop (ef_own_max m ) kq) ?_
 show own_G p e below _ (s₁.setTop (mkF m 0 #[vI 0, vI 0] []))
 refine s_iloadN X0 hx (hb hby dMX_0) rfl ?_
 refine s_iloadN X0 hx (hb hby dMX_1) rfl ?_
 show own_G p e below _ (s₁.setTop (mkF m 2 #[vI 0, vI 0] [(.int 0), (.int 0)]))
 refine own_st (fun tq kq => XS.icmpNo X0.here hx rfl (hb hby dMX_2) rfl (flt (by decide : ¬ ((0 : Int32) < (0 : Int32)))).1 kq) ?_
 refine s_iloadN X0 hx (hb hby dMX_5) rfl ?_
 refine own_st (fun tq kq => XS.goto X0.here hx rfl (pc0 := 6) (pc' := 10) rfl (hb hby dMX_6) (by decide) (by decide) kq) ?_
 show own_G p e below _ (s₁.setTop (mkF m 10 #[vI 0, vI 0] [(.int 0)]))
 obtain ⟨fs, hr, hrun, hended, hW, hsame⟩ := X0.leave (v := some (.int 0)) (fun h => by rw [Bd.returns] at h; cases h)
 refine ⟨_, _, retOut X0 hx Bd.returns rfl (Or.inl ⟨rfl, by simp, _, rfl⟩) (hb hby dMX_10) hr, hrun, hended, _, _, rfl, ?_, ⟨_, rfl⟩, hW, hsame.mono (by decide) (by decide)⟩
 change Q_own_max Z  h0 n0 _ s₁.heap _; rw [e0]; exact ⟨rfl, N0, rfl⟩

def Q_own_canE (Z : State)  (h0 : Heap) (n0 : Nat) (v : Option Value) (h : Heap) (L : List Loc) : Prop := v = some (.int (1 : Int32)) ∧ Fr n0 L ∧ h = h0
theorem ef_own_canE (m : MethodId)  : entryFrame m #[(.int 58)] 1 = mkF m 0 #[.val (.int 58)] [] := by first | (simp [entryFrame, mkF, argsToLocals, Value.category]; done) | rfl
theorem own_canE (l : Launch) (Z : State) (a0 : Array Value) (hw : hWt a0 Z) (ws : List Jvm.Cond)  (h0 : Heap) (n0 : Nat) (Z0 : n0 ≤ h0.size) (X00 : Old Z n0 h0)  :
 own_MN l mN20 jdk_43_method_4_code 1 (some .boolean) ws rm_0_0_0_0 Z #[(.int 58)] h0 (Q_own_canE Z  h0 n0) := by
 refine own_bodyN (plainFor_of_name own_pn5) fun p e s m below meth c s₁ Bd hx hby hml hown hZ X0 e0 => ?_
 have N0 := Fr.nil n0
 have K0 : Keep h0 h0 [] := Keep.refl h0 []
 refine own_st (fun tq kq => castTop (ef_own_canE m ) kq) ?_
 show own_G p e below _ (s₁.setTop (mkF m 0 #[vI 58] []))
 refine s_iloadN X0 hx (hb hby dCE_0) rfl ?_
 show own_G p e below _ (s₁.setTop (mkF m 1 #[vI 58] [(.int 58)]))
 refine own_st (fun tq kq => XS.ifNo X0.here hx rfl (hb hby dCE_1) rfl ((if0 _ _).trans (flt (by decide : ¬ ((58 : Int32) < (0 : Int32)))).1) kq) ?_
 refine s_iloadN X0 hx (hb hby dCE_4) rfl ?_
 refine s_sipush X0 hx (hb hby dCE_5) ?_
 show own_G p e below _ (s₁.setTop (mkF m 8 #[vI 58] [(.int 255), (.int 58)]))
 refine own_st (fun tq kq => XS.icmpNo X0.here hx rfl (hb hby dCE_8) rfl (flt (by decide : ¬ ((255 : Int32) < (58 : Int32)))).2.2.1 kq) ?_
 refine s_iconst X0 hx (hb hby dCE_11) ?_
 refine own_st (fun tq kq => XS.goto X0.here hx rfl (pc0 := 12) (pc' := 16) rfl (hb hby dCE_12) (by decide) (by decide) kq) ?_
 show own_G p e below _ (s₁.setTop (mkF m 16 #[vI 58] [(.int 1)]))
 obtain ⟨fs, hr, hrun, hended, hW, hsame⟩ := X0.leave (v := some (.int 1)) (fun h => by rw [Bd.returns] at h; cases h)
 refine ⟨_, _, retN X0 hx (t := .boolean) Bd.returns (by simp) (hb hby dCE_16) hr, hrun, hended, _, _, rfl, ?_, ⟨_, rfl⟩, hW, hsame.mono (by decide) (by decide)⟩
 change Q_own_canE Z  h0 n0 _ s₁.heap _; rw [e0]; exact ⟨rfl, N0, rfl⟩

def Q_own_isL0 (Z : State) (x : Nat) (G1 : Int32) (h0 : Heap) (n0 : Nat) (v : Option Value) (h : Heap) (L : List Loc) : Prop := v = some (.int (1 : Int32)) ∧ Fr n0 L ∧ h = h0
theorem ef_own_isL0 (m : MethodId) (x0 : Nat) : entryFrame m #[(.ref x0)] 1 = mkF m 0 #[.val (.ref x0)] [] := by first | (simp [entryFrame, mkF, argsToLocals, Value.category]; done) | rfl
theorem own_isL0 (l : Launch) (Z : State) (a0 : Array Value) (hw : hWt a0 Z) (ws : List Jvm.Cond) (x : Nat) (G1 : Int32) (h0 : Heap) (n0 : Nat) (Z0 : n0 ≤ h0.size) (X00 : Old Z n0 h0) (Fc : Fld Z h0 x "java/lang/String" "coder" "B" (.int (0 : Int32))) (O2 : Sta Z Z.heap "java/lang/String" "COMPACT_STRINGS" "Z" (.int G1)) (P5 : ¬ (G1 = (0 : Int32))) :
 own_MN l mN13 jdk_42_method_154_code 1 (some .boolean) ws rm_0_0_0_0 Z #[(.ref x)] h0 (Q_own_isL0 Z x G1 h0 n0) := by
 refine own_bodyN (plainFor_of_name own_pn0) fun p e s m below meth c s₁ Bd hx hby hml hown hZ X0 e0 => ?_
 have N0 := Fr.nil n0
 have K0 : Keep h0 h0 [] := Keep.refl h0 []
 refine own_st (fun tq kq => castTop (ef_own_isL0 m (x)) kq) ?_
 show own_G p e below _ (s₁.setTop (mkF m 0 #[vR x] []))
 obtain ⟨T1, X1, e1, st1⟩ := getS2 X0 hx hZ hown (host := "") (Or.inl (wd32 hw)) Via.refl e0 (O2.ext (X00.keep K0 all0).2) (g := (mkF m 0 #[vR x] [])) rfl (hb hby dI0_0)
 refine own_st st1 ?_
 refine own_st (fun tq kq => XS.ifNo X1.here hx rfl (hb hby dI0_3) rfl ((if0 _ _).trans (feq P5).1) kq) ?_
 refine s_aloadN X1 hx (hb hby dI0_6) rfl rfl ?_
 obtain ⟨T2, X2, e2, st2⟩ := getF X1 hx hZ hown (host := "") (Or.inl (wd22 hw)) Via.refl e1 Fc (g := (mkF m 7 #[vR x] [(.ref x)])) rfl rfl (hb hby dI0_7)
 refine own_st st2 ?_
 refine own_st (fun tq kq => XS.ifNo X2.here hx rfl (hb hby dI0_10) rfl ((if0 _ _).trans (teq (by decide : ((0 : Int32) = (0 : Int32)))).2) kq) ?_
 refine s_iconst X2 hx (hb hby dI0_13) ?_
 refine own_st (fun tq kq => XS.goto X2.here hx rfl (pc0 := 14) (pc' := 18) rfl (hb hby dI0_14) (by decide) (by decide) kq) ?_
 show own_G p e below _ (T2.setTop (mkF m 18 #[vR x] [(.int 1)]))
 obtain ⟨fs, hr, hrun, hended, hW, hsame⟩ := X2.leave (v := some (.int 1)) (fun h => by rw [Bd.returns] at h; cases h)
 refine ⟨_, _, retN X2 hx (t := .boolean) Bd.returns (by simp) (hb hby dI0_18) hr, hrun, hended, _, _, rfl, ?_, ⟨_, rfl⟩, hW, hsame.mono (by decide) (by decide)⟩
 change Q_own_isL0 Z x G1 h0 n0 _ T2.heap _; rw [e2]; exact ⟨rfl, N0, rfl⟩

def Q_own_min1 (Z : State)  (h0 : Heap) (n0 : Nat) (v : Option Value) (h : Heap) (L : List Loc) : Prop := v = some (.int (1 : Int32)) ∧ Fr n0 L ∧ h = h0
theorem ef_own_min1 (m : MethodId)  : entryFrame m #[(.int 1), (.int 1)] 2 = mkF m 0 #[.val (.int 1), .val (.int 1)] [] := by first | (simp [entryFrame, mkF, argsToLocals, Value.category]; done) | rfl
theorem own_min1 (l : Launch) (Z : State) (a0 : Array Value) (hw : hWt a0 Z) (ws : List Jvm.Cond)  (h0 : Heap) (n0 : Nat) (Z0 : n0 ≤ h0.size) (X00 : Old Z n0 h0)  :
 own_MN l mN21 jdk_29_method_69_code 2 (some .int) ws rm_0_0_0_0 Z #[(.int 1), (.int 1)] h0 (Q_own_min1 Z  h0 n0) := by
 refine own_bodyN own_pn6 fun p e s m below meth c s₁ Bd hx hby hml hown hZ X0 e0 => ?_
 have N0 := Fr.nil n0
 have K0 : Keep h0 h0 [] := Keep.refl h0 []
 refine own_st (fun tq kq => castTop (ef_own_min1 m ) kq) ?_
 show own_G p e below _ (s₁.setTop (mkF m 0 #[vI 1, vI 1] []))
 refine s_iloadN X0 hx (hb hby dMM_0) rfl ?_
 refine s_iloadN X0 hx (hb hby dMM_1) rfl ?_
 show own_G p e below _ (s₁.setTop (mkF m 2 #[vI 1, vI 1] [(.int 1), (.int 1)]))
 refine own_st (fun tq kq => XS.icmpNo X0.here hx rfl (hb hby dMM_2) rfl (flt (by decide : ¬ ((1 : Int32) < (1 : Int32)))).2.2.1 kq) ?_
 refine s_iloadN X0 hx (hb hby dMM_5) rfl ?_
 refine own_st (fun tq kq => XS.goto X0.here hx rfl (pc0 := 6) (pc' := 10) rfl (hb hby dMM_6) (by decide) (by decide) kq) ?_
 show own_G p e below _ (s₁.setTop (mkF m 10 #[vI 1, vI 1] [(.int 1)]))
 obtain ⟨fs, hr, hrun, hended, hW, hsame⟩ := X0.leave (v := some (.int 1)) (fun h => by rw [Bd.returns] at h; cases h)
 refine ⟨_, _, retOut X0 hx Bd.returns rfl (Or.inl ⟨rfl, by simp, _, rfl⟩) (hb hby dMM_10) hr, hrun, hended, _, _, rfl, ?_, ⟨_, rfl⟩, hW, hsame.mono (by decide) (by decide)⟩
 change Q_own_min1 Z  h0 n0 _ s₁.heap _; rw [e0]; exact ⟨rfl, N0, rfl⟩

def Q_own_lx1 (Z : State) (t : Nat) (kb : ClassId) (c0 : Int32) (h0 : Heap) (n0 : Nat) (v : Option Value) (h : Heap) (L : List Loc) : Prop := ∃ r : Int32, v = some (.int r) ∧ own_IX r ([c0] : List Int32) ∧ Fr n0 L ∧ h = h0
theorem ef_own_lx1 (m : MethodId) (x0 : Nat) : entryFrame m #[(.ref x0), (.int 58), (.int 0), (.int 1)] 6 = mkF m 0 #[.val (.ref x0), .val (.int 58), .val (.int 0), .val (.int 1), .unset, .unset] [] := by first | (simp [entryFrame, mkF, argsToLocals, Value.category]; done) | rfl
theorem own_lx1 (l : Launch) (Z : State) (a0 : Array Value) (hw : hWt a0 Z) (ws : List Jvm.Cond) (t : Nat) (kb : ClassId) (c0 : Int32) (h0 : Heap) (n0 : Nat) (Z0 : n0 ≤ h0.size) (X00 : Old Z n0 h0) (Vt : Arv Z h0 t kb .byte (1 : Int32) [.int (c0.toInt8.toInt32)] (.int 0)) (hb0 : ¬ c0 < 0 ∧ ¬ (255 : Int32) < c0) :
 own_MN l mN22 jdk_43_method_23_code 6 (some .int) ws rm_0_0_0_0 Z #[(.ref t), (.int 58), (.int 0), (.int 1)] h0 (Q_own_lx1 Z t kb c0 h0 n0) := by
 refine own_bodyN (plainFor_of_name own_pn5) fun p e s m below meth c s₁ Bd hx hby hml hown hZ X0 e0 => ?_
 have N0 := Fr.nil n0
 have K0 : Keep h0 h0 [] := Keep.refl h0 []
 refine own_st (fun tq kq => castTop (ef_own_lx1 m (t)) kq) ?_
 show own_G p e below _ (s₁.setTop (mkF m 0 #[vR t, vI 58, vI 0, vI 1, .unset, .unset] []))
 refine s_iloadN X0 hx (hb hby dLX_0) rfl ?_
 refine own_st (fun tq kq => XS.i2b X0.here hx rfl (hb hby dLX_1) rfl kq) ?_
 refine own_st (fun tq kq => XS.istore X0.here hx rfl (hb hby dLX_2) rfl (l' := #[vR t, vI 58, vI 0, vI 1, vI 58, .unset]) rfl kq) ?_
 refine s_iloadN X0 hx (hb hby dLX_4) rfl ?_
 show own_G p e below _ (s₁.setTop (mkF m 5 #[vR t, vI 58, vI 0, vI 1, vI 58, .unset] [(.int 0)]))
 refine own_st (fun tq kq => XS.istore X0.here hx rfl (hb hby dLX_5) rfl (l' := #[vR t, vI 58, vI 0, vI 1, vI 58, vI 0]) rfl kq) ?_
 refine s_iload X0 hx (hb hby dLX_7) rfl ?_
 refine s_iloadN X0 hx (hb hby dLX_9) rfl ?_
 show own_G p e below _ (s₁.setTop (mkF m 10 #[vR t, vI 58, vI 0, vI 1, vI 58, vI 0] [(.int 1), (.int 0)]))
 refine own_st (fun tq kq => XS.icmpNo X0.here hx rfl (hb hby dLX_10) rfl (tlt (by decide : ((0 : Int32) < (1 : Int32)))).2.1 kq) ?_
 refine s_aloadN X0 hx (hb hby dLX_13) rfl rfl ?_
 refine s_iload X0 hx (hb hby dLX_14) rfl ?_
 obtain ⟨cl1, Ar1, q1, S_1, N_1, H_1, G_1⟩ := id Vt
 have in1 : ¬ ((0 : Int32) < 0 ∨ cl1.slots.size ≤ ((0 : Int32)).toNatClampNeg) := inb_of S_1 ⟨by decide, by decide⟩
 have at1 : cl1.slots[((0 : Int32)).toNatClampNeg]? = some (.int (c0.toInt8.toInt32)) := H_1.at in1 rfl
 refine own_st (fun tq kq => X0.baloadBytes hx (j := (0 : Int32)) (v := (.int (c0.toInt8.toInt32))) (by rw [e0]; exact Ar1.1) (State.isArrayOf_alike hZ.alike Ar1.2.1) Ar1.2.2 in1 at1 (g := (mkF m 16 #[vR t, vI 58, vI 0, vI 1, vI 58, vI 0] [(.int 0), (.ref t)])) rfl rfl (hb hby dLX_16) _ kq) ?_
 show own_G p e below _ (s₁.setTop (mkF m 17 #[vR t, vI 58, vI 0, vI 1, vI 58, vI 0] [(.int (c0.toInt8.toInt32))]))
 refine s_iload X0 hx (hb hby dLX_17) rfl ?_
 show own_G p e below _ (s₁.setTop (mkF m 19 #[vR t, vI 58, vI 0, vI 1, vI 58, vI 0] [(.int 58), (.int (c0.toInt8.toInt32))]))
 by_cases hc19_2 : ((c0.toInt8.toInt32) = (58 : Int32))
 ·
  refine own_st (fun tq kq => XS.icmpNo X0.here hx rfl (hb hby dLX_19) rfl (teq hc19_2).2 kq) ?_
  refine s_iload X0 hx (hb hby dLX_22) rfl ?_
  show own_G p e below _ (s₁.setTop (mkF m 24 #[vR t, vI 58, vI 0, vI 1, vI 58, vI 0] [(.int 0)]))
  obtain ⟨fs, hr, hrun, hended, hW, hsame⟩ := X0.leave (v := some (.int 0)) (fun h => by rw [Bd.returns] at h; cases h)
  refine ⟨_, _, retOut X0 hx Bd.returns rfl (Or.inl ⟨rfl, by simp, _, rfl⟩) (hb hby dLX_24) hr, hrun, hended, _, _, rfl, ?_, ⟨_, rfl⟩, hW, hsame.mono (by decide) (by decide)⟩
  change Q_own_lx1 Z t kb c0 h0 n0 _ s₁.heap _; rw [e0]; exact ⟨(0 : Int32), rfl, Or.inl ⟨by decide, c0, by simp, (own_b58 hb0).mp hc19_2⟩, N0, rfl⟩
 ·
  refine own_st (fun tq kq => XS.icmpYes X0.here hx rfl (pc0 := 19) (pc' := 25) rfl (hb hby dLX_19) rfl (feq hc19_2).2 (by decide) (by decide) kq) ?_
  refine own_st (fun tq kq => XS.iinc X0.here hx rfl (hb hby dLX_25) rfl (l' := #[vR t, vI 58, vI 0, vI 1, vI 58, vI 1]) rfl kq) ?_
  refine own_st (fun tq kq => XS.goto X0.here hx rfl (pc0 := 28) (pc' := 7) rfl (hb hby dLX_28) (by decide) (by decide) kq) ?_
  refine s_iload X0 hx (hb hby dLX_7) rfl ?_
  show own_G p e below _ (s₁.setTop (mkF m 9 #[vR t, vI 58, vI 0, vI 1, vI 58, vI 1] [(.int 1)]))
  refine s_iloadN X0 hx (hb hby dLX_9) rfl ?_
  show own_G p e below _ (s₁.setTop (mkF m 10 #[vR t, vI 58, vI 0, vI 1, vI 58, vI 1] [(.int 1), (.int 1)]))
  refine own_st (fun tq kq => XS.icmpYes X0.here hx rfl (pc0 := 10) (pc' := 31) rfl (hb hby dLX_10) rfl (flt (by decide : ¬ ((1 : Int32) < (1 : Int32)))).2.1 (by decide) (by decide) kq) ?_
  refine s_iconst X0 hx (hb hby dLX_31) ?_
  show own_G p e below _ (s₁.setTop (mkF m 32 #[vR t, vI 58, vI 0, vI 1, vI 58, vI 1] [(.int (-1))]))
  obtain ⟨fs, hr, hrun, hended, hW, hsame⟩ := X0.leave (v := some (.int (-1))) (fun h => by rw [Bd.returns] at h; cases h)
  refine ⟨_, _, retOut X0 hx Bd.returns rfl (Or.inl ⟨rfl, by simp, _, rfl⟩) (hb hby dLX_32) hr, hrun, hended, _, _, rfl, ?_, ⟨_, rfl⟩, hW, hsame.mono (by decide) (by decide)⟩
  change Q_own_lx1 Z t kb c0 h0 n0 _ s₁.heap _; rw [e0]; exact ⟨(-1 : Int32), rfl, Or.inr ⟨by decide, own_all1 (fun q => hc19_2 ((own_b58 hb0).mpr q))⟩, N0, rfl⟩

def Q_own_li1 (Z : State) (t : Nat) (kb : ClassId) (c0 : Int32) (h0 : Heap) (n0 : Nat) (v : Option Value) (h : Heap) (L : List Loc) : Prop := ∃ r : Int32, v = some (.int r) ∧ own_IX r ([c0] : List Int32) ∧ Fr n0 L ∧ h = h0
theorem ef_own_li1 (m : MethodId) (x0 : Nat) : entryFrame m #[(.ref x0), (.int 58), (.int 0), (.int 1)] 4 = mkF m 0 #[.val (.ref x0), .val (.int 58), .val (.int 0), .val (.int 1)] [] := by first | (simp [entryFrame, mkF, argsToLocals, Value.category]; done) | rfl
theorem own_li1 (l : Launch) (Z : State) (a0 : Array Value) (hw : hWt a0 Z) (ws : List Jvm.Cond) (t : Nat) (kb : ClassId) (c0 : Int32) (h0 : Heap) (n0 : Nat) (Z0 : n0 ≤ h0.size) (X00 : Old Z n0 h0) (Vt : Arv Z h0 t kb .byte (1 : Int32) [.int (c0.toInt8.toInt32)] (.int 0)) (hb0 : ¬ c0 < 0 ∧ ¬ (255 : Int32) < c0) :
 own_MN l mN23 jdk_43_method_22_code 4 (some .int) ws rm_1_0_0_20 Z #[(.ref t), (.int 58), (.int 0), (.int 1)] h0 (Q_own_li1 Z t kb c0 h0 n0) := by
 refine own_bodyN (plainFor_of_name own_pn5) fun p e s m below meth c s₁ Bd hx hby hml hown hZ X0 e0 => ?_
 have N0 := Fr.nil n0
 have K0 : Keep h0 h0 [] := Keep.refl h0 []
 refine own_st (fun tq kq => castTop (ef_own_li1 m (t)) kq) ?_
 show own_G p e below _ (s₁.setTop (mkF m 0 #[vR t, vI 58, vI 0, vI 1] []))
 refine s_iloadN X0 hx (hb hby dLI_0) rfl ?_
 obtain ⟨_, _, ⟨T1, L1, k1, n1⟩, -, X1, ⟨Lc1, hQ1, l1, y1, z1⟩, st1⟩ := Jvm.LawKit.callS X0 hx (y := mN20) hown (mvT hZ (wd76 hw)) (mvT hZ (wd77 hw)) (mvT hZ (wd74 hw)) (mvT hZ (wd78 hw)) (by decide) (own_backN (W := 0) (own_canE l Z a0 hw []  h0 n0 (by omega) (X00.keep K0 all0) ) hZ (wd78 hw) (wd74 hw) (by decide) (by decide)) (g := (mkF m 1 #[vR t, vI 58, vI 0, vI 1] [(.int 58)])) rfl (by rw [hml]; rfl) (argsL := [(.int 58)]) (rest := []) (lenOf own_pd15 rfl) rfl (Nat.le_of_eq rfl) (hb hby dLI_1) (fun _ _ => ⟨rfl, e0, (by decide : 0 + 0 ≤ _), (by decide : 0 + 0 ≤ _)⟩)
 dsimp only [Pt.U, Pt.locs, Pt.cells, Pt.slots] at X1 l1 y1 z1 st1 hQ1
 subst l1 y1 z1
 obtain ⟨rfl, Nq1, sm1⟩ := hQ1
 have N1 := Fr.app N0 Nq1
 refine own_st st1 ?_
 refine own_st (fun tq kq => XS.ifYes X1.here hx rfl (pc0 := 4) (pc' := 9) rfl (hb hby dLI_4) rfl ((if0 _ _).trans (feq (by decide : ¬ ((1 : Int32) = (0 : Int32)))).2) (by decide) (by decide) kq) ?_
 refine s_iloadN X1 hx (hb hby dLI_9) rfl ?_
 refine s_iconst X1 hx (hb hby dLI_10) ?_
 obtain ⟨_, _, ⟨T2, L2, k2, n2⟩, -, X2, ⟨Lc2, hQ2, l2, y2, z2⟩, st2⟩ := Jvm.LawKit.callS X1 hx (y := mN19) hown (mvT hZ (wd79 hw)) (mvT hZ (wd80 hw)) (mvT hZ (wd81 hw)) (mvT hZ (wd82 hw)) (by decide) (own_backN (W := 0) (own_max l Z a0 hw []  h0 n0 (by omega) (X00.keep K0 all0) ) hZ (wd82 hw) (wd81 hw) (by decide) (by decide)) (g := (mkF m 11 #[vR t, vI 58, vI 0, vI 1] [(.int 0), (.int 0)])) rfl (by rw [hml]; rfl) (argsL := [(.int 0), (.int 0)]) (rest := []) (lenOf own_pd16 rfl) rfl (Nat.le_of_eq rfl) (hb hby dLI_11) (fun _ _ => ⟨rfl, sm1, (by decide : 0 + 0 ≤ _), (by decide : 0 + 0 ≤ _)⟩)
 dsimp only [Pt.U, Pt.locs, Pt.cells, Pt.slots] at X2 l2 y2 z2 st2 hQ2
 subst l2 y2 z2
 obtain ⟨rfl, Nq2, sm2⟩ := hQ2
 have N2 := Fr.app N1 Nq2
 refine own_st st2 ?_
 refine own_st (fun tq kq => XS.istoreN X2.here hx rfl (hb hby dLI_14) rfl (l' := #[vR t, vI 58, vI 0, vI 1]) rfl kq) ?_
 refine s_iloadN X2 hx (hb hby dLI_15) rfl ?_
 refine s_aloadN X2 hx (hb hby dLI_16) rfl rfl ?_
 obtain ⟨cl3, Ar3, q3, S_3, N_3, H_3, G_3⟩ := id Vt
 refine own_st (fun tq kq => X2.arraylength hx (by rw [sm2]; exact Ar3.1) (State.isArrayOf_alike hZ.alike Ar3.2.1) (g := (mkF m 17 #[vR t, vI 58, vI 0, vI 1] [(.ref t), (.int 1)])) rfl rfl (hb hby dLI_17) _ kq) ?_
 rw [len_of S_3 N_3]
 show own_G p e below _ (T2.setTop (mkF m 18 #[vR t, vI 58, vI 0, vI 1] [(.int 1), (.int 1)]))
 obtain ⟨_, _, ⟨T4, L4, k4, n4⟩, -, X4, ⟨Lc4, hQ4, l4, y4, z4⟩, st4⟩ := Jvm.LawKit.callS X2 hx (y := mN21) hown (mvT hZ (wd83 hw)) (mvT hZ (wd84 hw)) (mvT hZ (wd81 hw)) (mvT hZ (wd85 hw)) (by decide) (own_backN (W := 0) (own_min1 l Z a0 hw []  h0 n0 (by omega) (X00.keep K0 all0) ) hZ (wd85 hw) (wd81 hw) (by decide) (by decide)) (g := (mkF m 18 #[vR t, vI 58, vI 0, vI 1] [(.int 1), (.int 1)])) rfl (by rw [hml]; rfl) (argsL := [(.int 1), (.int 1)]) (rest := []) (lenOf own_pd16 rfl) rfl (Nat.le_of_eq rfl) (hb hby dLI_18) (fun _ _ => ⟨rfl, sm2, (by decide : 0 + 0 ≤ _), (by decide : 0 + 0 ≤ _)⟩)
 dsimp only [Pt.U, Pt.locs, Pt.cells, Pt.slots] at X4 l4 y4 z4 st4 hQ4
 subst l4 y4 z4
 obtain ⟨rfl, Nq4, sm4⟩ := hQ4
 have N4 := Fr.app N2 Nq4
 refine own_st st4 ?_
 refine own_st (fun tq kq => XS.istoreN X4.here hx rfl (hb hby dLI_21) rfl (l' := #[vR t, vI 58, vI 0, vI 1]) rfl kq) ?_
 refine s_iloadN X4 hx (hb hby dLI_22) rfl ?_
 refine s_iloadN X4 hx (hb hby dLI_23) rfl ?_
 show own_G p e below _ (T4.setTop (mkF m 24 #[vR t, vI 58, vI 0, vI 1] [(.int 1), (.int 0)]))
 refine own_st (fun tq kq => XS.icmpYes X4.here hx rfl (pc0 := 24) (pc' := 29) rfl (hb hby dLI_24) rfl (tlt (by decide : ((0 : Int32) < (1 : Int32)))).1 (by decide) (by decide) kq) ?_
 refine s_aloadN X4 hx (hb hby dLI_29) rfl rfl ?_
 refine s_iloadN X4 hx (hb hby dLI_30) rfl ?_
 refine s_iloadN X4 hx (hb hby dLI_31) rfl ?_
 show own_G p e below _ (T4.setTop (mkF m 32 #[vR t, vI 58, vI 0, vI 1] [(.int 0), (.int 58), (.ref t)]))
 refine s_iloadN X4 hx (hb hby dLI_32) rfl ?_
 obtain ⟨_, _, ⟨T5, L5, k5, n5⟩, -, X5, ⟨Lc5, hQ5, l5, y5, z5⟩, st5⟩ := Jvm.LawKit.callS X4 hx (y := mN22) hown (mvT hZ (wd86 hw)) (mvT hZ (wd87 hw)) (mvT hZ (wd74 hw)) (mvT hZ (wd88 hw)) (by decide) (own_backN (W := 0) (own_lx1 l Z a0 hw [] (t) (kb) (c0) h0 n0 (by omega) (X00.keep K0 all0) Vt hb0) hZ (wd88 hw) (wd74 hw) (by decide) (by decide)) (g := (mkF m 33 #[vR t, vI 58, vI 0, vI 1] [(.int 1), (.int 0), (.int 58), (.ref t)])) rfl (by rw [hml]; rfl) (argsL := [(.ref t), (.int 58), (.int 0), (.int 1)]) (rest := []) (lenOf own_pd17 rfl) rfl (Nat.le_of_eq rfl) (hb hby dLI_33) (fun _ _ => ⟨rfl, sm4, (by decide : 0 + 0 ≤ _), (by decide : 0 + 0 ≤ _)⟩)
 dsimp only [Pt.U, Pt.locs, Pt.cells, Pt.slots] at X5 l5 y5 z5 st5 hQ5
 subst l5 y5 z5
 obtain ⟨r5, rfl, ix5, Nq5, sm5⟩ := hQ5
 have N5 := Fr.app N4 Nq5
 refine own_st st5 ?_
 obtain ⟨fs, hr, hrun, hended, hW, hsame⟩ := X5.leave (v := some (.int r5)) (fun h => by rw [Bd.returns] at h; cases h)
 refine ⟨_, _, retOut X5 hx Bd.returns rfl (Or.inl ⟨rfl, by simp, _, rfl⟩) (hb hby dLI_36) hr, hrun, hended, _, _, rfl, ?_, ⟨_, rfl⟩, hW, hsame.mono (by decide) (by decide)⟩
 change Q_own_li1 Z t kb c0 h0 n0 _ T5.heap _; rw [sm5]; exact ⟨r5, rfl, ix5, N5, rfl⟩

def Q_own_ft1N (Z : State)  (h0 : Heap) (n0 : Nat) (v : Option Value) (h : Heap) (L : List Loc) : Prop := v = some (.int (0 : Int32)) ∧ Fr n0 L ∧ h = h0
theorem ef_own_ft1N (m : MethodId)  : entryFrame m #[(.int 0), (.int 1), (.int 1), .null] 4 = mkF m 0 #[.val (.int 0), .val (.int 1), .val (.int 1), .val .null] [] := by first | (simp [entryFrame, mkF, argsToLocals, Value.category]; done) | rfl
theorem own_ft1N (l : Launch) (Z : State) (a0 : Array Value) (hw : hWt a0 Z) (ws : List Jvm.Cond)  (h0 : Heap) (n0 : Nat) (Z0 : n0 ≤ h0.size) (X00 : Old Z n0 h0)  :
 own_MN l mN24 jdk_41_method_12_code 4 (some .int) ws rm_0_0_0_0 Z #[(.int 0), (.int 1), (.int 1), .null] h0 (Q_own_ft1N Z  h0 n0) := by
 refine own_bodyN (plainFor_of_name own_pn2) fun p e s m below meth c s₁ Bd hx hby hml hown hZ X0 e0 => ?_
 have N0 := Fr.nil n0
 have K0 : Keep h0 h0 [] := Keep.refl h0 []
 refine own_st (fun tq kq => castTop (ef_own_ft1N m ) kq) ?_
 show own_G p e below _ (s₁.setTop (mkF m 0 #[vI 0, vI 1, vI 1, .val .null] []))
 refine s_iloadN X0 hx (hb hby dFT_0) rfl ?_
 show own_G p e below _ (s₁.setTop (mkF m 1 #[vI 0, vI 1, vI 1, .val .null] [(.int 0)]))
 refine own_st (fun tq kq => XS.ifNo X0.here hx rfl (hb hby dFT_1) rfl ((if0 _ _).trans (flt (by decide : ¬ ((0 : Int32) < (0 : Int32)))).1) kq) ?_
 refine s_iloadN X0 hx (hb hby dFT_4) rfl ?_
 refine s_iloadN X0 hx (hb hby dFT_5) rfl ?_
 show own_G p e below _ (s₁.setTop (mkF m 6 #[vI 0, vI 1, vI 1, .val .null] [(.int 1), (.int 0)]))
 refine own_st (fun tq kq => XS.icmpNo X0.here hx rfl (hb hby dFT_6) rfl (flt (by decide : ¬ ((1 : Int32) < (0 : Int32)))).2.2.1 kq) ?_
 refine s_iloadN X0 hx (hb hby dFT_9) rfl ?_
 refine s_iloadN X0 hx (hb hby dFT_10) rfl ?_
 show own_G p e below _ (s₁.setTop (mkF m 11 #[vI 0, vI 1, vI 1, .val .null] [(.int 1), (.int 1)]))
 refine own_st (fun tq kq => XS.icmpYes X0.here hx rfl (pc0 := 11) (pc' := 22) rfl (hb hby dFT_11) rfl (flt (by decide : ¬ ((1 : Int32) < (1 : Int32)))).2.2.2 (by decide) (by decide) kq) ?_
 refine s_iloadN X0 hx (hb hby dFT_22) rfl ?_
 show own_G p e below _ (s₁.setTop (mkF m 23 #[vI 0, vI 1, vI 1, .val .null] [(.int 0)]))
 obtain ⟨fs, hr, hrun, hended, hW, hsame⟩ := X0.leave (v := some (.int 0)) (fun h => by rw [Bd.returns] at h; cases h)
 refine ⟨_, _, retOut X0 hx Bd.returns rfl (Or.inl ⟨rfl, by simp, _, rfl⟩) (hb hby dFT_23) hr, hrun, hended, _, _, rfl, ?_, ⟨_, rfl⟩, hW, hsame.mono (by decide) (by decide)⟩
 change Q_own_ft1N Z  h0 n0 _ s₁.heap _; rw [e0]; exact ⟨rfl, N0, rfl⟩

def Q_own_ft1R (Z : State) (gf : Nat) (h0 : Heap) (n0 : Nat) (v : Option Value) (h : Heap) (L : List Loc) : Prop := v = some (.int (0 : Int32)) ∧ Fr n0 L ∧ h = h0
theorem ef_own_ft1R (m : MethodId) (x3 : Nat) : entryFrame m #[(.int 0), (.int 1), (.int 1), (.ref x3)] 4 = mkF m 0 #[.val (.int 0), .val (.int 1), .val (.int 1), .val (.ref x3)] [] := by first | (simp [entryFrame, mkF, argsToLocals, Value.category]; done) | rfl
theorem own_ft1R (l : Launch) (Z : State) (a0 : Array Value) (hw : hWt a0 Z) (ws : List Jvm.Cond) (gf : Nat) (h0 : Heap) (n0 : Nat) (Z0 : n0 ≤ h0.size) (X00 : Old Z n0 h0)  :
 own_MN l mN24 jdk_41_method_12_code 4 (some .int) ws rm_0_0_0_0 Z #[(.int 0), (.int 1), (.int 1), (.ref gf)] h0 (Q_own_ft1R Z gf h0 n0) := by
 refine own_bodyN (plainFor_of_name own_pn2) fun p e s m below meth c s₁ Bd hx hby hml hown hZ X0 e0 => ?_
 have N0 := Fr.nil n0
 have K0 : Keep h0 h0 [] := Keep.refl h0 []
 refine own_st (fun tq kq => castTop (ef_own_ft1R m (gf)) kq) ?_
 show own_G p e below _ (s₁.setTop (mkF m 0 #[vI 0, vI 1, vI 1, vR gf] []))
 refine s_iloadN X0 hx (hb hby dFT_0) rfl ?_
 show own_G p e below _ (s₁.setTop (mkF m 1 #[vI 0, vI 1, vI 1, vR gf] [(.int 0)]))
 refine own_st (fun tq kq => XS.ifNo X0.here hx rfl (hb hby dFT_1) rfl ((if0 _ _).trans (flt (by decide : ¬ ((0 : Int32) < (0 : Int32)))).1) kq) ?_
 refine s_iloadN X0 hx (hb hby dFT_4) rfl ?_
 refine s_iloadN X0 hx (hb hby dFT_5) rfl ?_
 show own_G p e below _ (s₁.setTop (mkF m 6 #[vI 0, vI 1, vI 1, vR gf] [(.int 1), (.int 0)]))
 refine own_st (fun tq kq => XS.icmpNo X0.here hx rfl (hb hby dFT_6) rfl (flt (by decide : ¬ ((1 : Int32) < (0 : Int32)))).2.2.1 kq) ?_
 refine s_iloadN X0 hx (hb hby dFT_9) rfl ?_
 refine s_iloadN X0 hx (hb hby dFT_10) rfl ?_
 show own_G p e below _ (s₁.setTop (mkF m 11 #[vI 0, vI 1, vI 1, vR gf] [(.int 1), (.int 1)]))
 refine own_st (fun tq kq => XS.icmpYes X0.here hx rfl (pc0 := 11) (pc' := 22) rfl (hb hby dFT_11) rfl (flt (by decide : ¬ ((1 : Int32) < (1 : Int32)))).2.2.2 (by decide) (by decide) kq) ?_
 refine s_iloadN X0 hx (hb hby dFT_22) rfl ?_
 show own_G p e below _ (s₁.setTop (mkF m 23 #[vI 0, vI 1, vI 1, vR gf] [(.int 0)]))
 obtain ⟨fs, hr, hrun, hended, hW, hsame⟩ := X0.leave (v := some (.int 0)) (fun h => by rw [Bd.returns] at h; cases h)
 refine ⟨_, _, retOut X0 hx Bd.returns rfl (Or.inl ⟨rfl, by simp, _, rfl⟩) (hb hby dFT_23) hr, hrun, hended, _, _, rfl, ?_, ⟨_, rfl⟩, hW, hsame.mono (by decide) (by decide)⟩
 change Q_own_ft1R Z gf h0 n0 _ s₁.heap _; rw [e0]; exact ⟨rfl, N0, rfl⟩

def Q_own_sb1 (Z : State) (fm : Value) (h0 : Heap) (n0 : Nat) (v : Option Value) (h : Heap) (L : List Loc) : Prop := v = none ∧ Fr n0 L ∧ h = h0
theorem ef_own_sb1 (m : MethodId)  : entryFrame m #[(.int 0), (.int 1), (.int 1)] 3 = mkF m 0 #[.val (.int 0), .val (.int 1), .val (.int 1)] [] := by first | (simp [entryFrame, mkF, argsToLocals, Value.category]; done) | rfl
theorem own_sb1 (l : Launch) (Z : State) (a0 : Array Value) (hw : hWt a0 Z) (ws : List Jvm.Cond) (fm : Value) (h0 : Heap) (n0 : Nat) (Z0 : n0 ≤ h0.size) (X00 : Old Z n0 h0) (O4 : o4 Z fm) (rfm : fm.isRef = true) :
 own_MN l mN25 jdk_42_method_158_code 3 none ws rm_1_0_0_20 Z #[(.int 0), (.int 1), (.int 1)] h0 (Q_own_sb1 Z fm h0 n0) := by
 refine own_bodyN (plainFor_of_name own_pn0) fun p e s m below meth c s₁ Bd hx hby hml hown hZ X0 e0 => ?_
 have N0 := Fr.nil n0
 have K0 : Keep h0 h0 [] := Keep.refl h0 []
 refine own_st (fun tq kq => castTop (ef_own_sb1 m ) kq) ?_
 show own_G p e below _ (s₁.setTop (mkF m 0 #[vI 0, vI 1, vI 1] []))
 rcases ref_cases rfm with rfl | ⟨gf, rfl⟩
 ·
  refine s_iloadN X0 hx (hb hby dSB_0) rfl ?_
  refine s_iloadN X0 hx (hb hby dSB_1) rfl ?_
  refine s_iloadN X0 hx (hb hby dSB_2) rfl ?_
  obtain ⟨T1, X1, e1, st1⟩ := getS2 X0 hx hZ hown (host := "") (Or.inl (wd105 hw)) Via.refl e0 (O4.ext (X00.keep K0 all0).2) (g := (mkF m 3 #[vI 0, vI 1, vI 1] [(.int 1), (.int 1), (.int 0)])) rfl (hb hby dSB_3)
  refine own_st st1 ?_
  obtain ⟨_, _, ⟨T2, L2, k2, n2⟩, -, X2, ⟨Lc2, hQ2, l2, y2, z2⟩, st2⟩ := Jvm.LawKit.callS X1 hx (y := mN24) hown (mvT hZ (wd147 hw)) (mvT hZ (wd148 hw)) (mvT hZ (wd106 hw)) (mvT hZ (wd149 hw)) (by decide) (own_backN (W := 0) (own_ft1N l Z a0 hw []  h0 n0 (by omega) (X00.keep K0 all0) ) hZ (wd149 hw) (wd106 hw) (by decide) (by decide)) (g := (mkF m 6 #[vI 0, vI 1, vI 1] [.null, (.int 1), (.int 1), (.int 0)])) rfl (by rw [hml]; rfl) (argsL := [(.int 0), (.int 1), (.int 1), .null]) (rest := []) (lenOf own_pd18 rfl) rfl (Nat.le_of_eq rfl) (hb hby dSB_6) (fun _ _ => ⟨rfl, e1, (by decide : 0 + 0 ≤ _), (by decide : 0 + 0 ≤ _)⟩)
  dsimp only [Pt.U, Pt.locs, Pt.cells, Pt.slots] at X2 l2 y2 z2 st2 hQ2
  subst l2 y2 z2
  obtain ⟨rfl, Nq2, sm2⟩ := hQ2
  have N2 := Fr.app N0 Nq2
  refine own_st st2 ?_
  refine own_st (fun tq kq => XS.pop X2.here hx rfl (hb hby dSB_9) rfl rfl kq) ?_
  obtain ⟨fs, hr, hrun, hended, hW, hsame⟩ := X2.leave (v := none) (fun _ => rfl)
  refine ⟨_, _, X2.returnOut hx Bd.returns (hb hby dSB_10) hr, hrun, hended, _, _, rfl, ?_, ⟨_, rfl⟩, hW, hsame.mono (by decide) (by decide)⟩
  change Q_own_sb1 Z .null h0 n0 _ T2.heap _; rw [sm2]; exact ⟨rfl, N2, rfl⟩
 ·
  refine s_iloadN X0 hx (hb hby dSB_0) rfl ?_
  refine s_iloadN X0 hx (hb hby dSB_1) rfl ?_
  refine s_iloadN X0 hx (hb hby dSB_2) rfl ?_
  show own_G p e below _ (s₁.setTop (mkF m 3 #[vI 0, vI 1, vI 1] [(.int 1), (.int 1), (.int 0)]))
  obtain ⟨T3, X3, e3, st3⟩ := getS2 X0 hx hZ hown (host := "") (Or.inl (wd105 hw)) Via.refl e0 (O4.ext (X00.keep K0 all0).2) (g := (mkF m 3 #[vI 0, vI 1, vI 1] [(.int 1), (.int 1), (.int 0)])) rfl (hb hby dSB_3)
  refine own_st st3 ?_
  obtain ⟨_, _, ⟨T4, L4, k4, n4⟩, -, X4, ⟨Lc4, hQ4, l4, y4, z4⟩, st4⟩ := Jvm.LawKit.callS X3 hx (y := mN24) hown (mvT hZ (wd147 hw)) (mvT hZ (wd148 hw)) (mvT hZ (wd106 hw)) (mvT hZ (wd149 hw)) (by decide) (own_backN (W := 0) (own_ft1R l Z a0 hw [] (gf) h0 n0 (by omega) (X00.keep K0 all0) ) hZ (wd149 hw) (wd106 hw) (by decide) (by decide)) (g := (mkF m 6 #[vI 0, vI 1, vI 1] [(.ref gf), (.int 1), (.int 1), (.int 0)])) rfl (by rw [hml]; rfl) (argsL := [(.int 0), (.int 1), (.int 1), (.ref gf)]) (rest := []) (lenOf own_pd18 rfl) rfl (Nat.le_of_eq rfl) (hb hby dSB_6) (fun _ _ => ⟨rfl, e3, (by decide : 0 + 0 ≤ _), (by decide : 0 + 0 ≤ _)⟩)
  dsimp only [Pt.U, Pt.locs, Pt.cells, Pt.slots] at X4 l4 y4 z4 st4 hQ4
  subst l4 y4 z4
  obtain ⟨rfl, Nq4, sm4⟩ := hQ4
  have N4 := Fr.app N0 Nq4
  refine own_st st4 ?_
  refine own_st (fun tq kq => XS.pop X4.here hx rfl (hb hby dSB_9) rfl rfl kq) ?_
  obtain ⟨fs, hr, hrun, hended, hW, hsame⟩ := X4.leave (v := none) (fun _ => rfl)
  refine ⟨_, _, X4.returnOut hx Bd.returns (hb hby dSB_10) hr, hrun, hended, _, _, rfl, ?_, ⟨_, rfl⟩, hW, hsame.mono (by decide) (by decide)⟩
  change Q_own_sb1 Z (.ref gf) h0 n0 _ T4.heap _; rw [sm4]; exact ⟨rfl, N4, rfl⟩

def Q_own_ub1 (Z : State) (t : Nat) (kb : ClassId) (fm : Value) (c0 : Int32) (h0 : Heap) (n0 : Nat) (v : Option Value) (h : Heap) (L : List Loc) : Prop := v = none ∧ Fr n0 L ∧ h = h0
theorem ef_own_ub1 (m : MethodId) (x2 : Nat) : entryFrame m #[(.int 0), (.int 1), (.ref x2)] 3 = mkF m 0 #[.val (.int 0), .val (.int 1), .val (.ref x2)] [] := by first | (simp [entryFrame, mkF, argsToLocals, Value.category]; done) | rfl
theorem own_ub1 (l : Launch) (Z : State) (a0 : Array Value) (hw : hWt a0 Z) (ws : List Jvm.Cond) (t : Nat) (kb : ClassId) (fm : Value) (c0 : Int32) (h0 : Heap) (n0 : Nat) (Z0 : n0 ≤ h0.size) (X00 : Old Z n0 h0) (O4 : o4 Z fm) (rfm : fm.isRef = true) (Vt : Arv Z h0 t kb .byte (2 : Int32) [.int (L8 c0), .int (H8 c0)] (.int 0)) :
 own_MN l mN26 jdk_52_method_93_code 3 none ws rm_2_0_0_40 Z #[(.int 0), (.int 1), (.ref t)] h0 (Q_own_ub1 Z t kb fm c0 h0 n0) := by
 refine own_bodyN (plainFor_of_name own_pn1) fun p e s m below meth c s₁ Bd hx hby hml hown hZ X0 e0 => ?_
 have N0 := Fr.nil n0
 have K0 : Keep h0 h0 [] := Keep.refl h0 []
 refine own_st (fun tq kq => castTop (ef_own_ub1 m (t)) kq) ?_
 show own_G p e below _ (s₁.setTop (mkF m 0 #[vI 0, vI 1, vR t] []))
 refine s_iloadN X0 hx (hb hby dUB_0) rfl ?_
 refine s_iloadN X0 hx (hb hby dUB_1) rfl ?_
 refine s_aloadN X0 hx (hb hby dUB_2) rfl rfl ?_
 obtain ⟨_, _, ⟨T1, L1, k1, n1⟩, -, X1, ⟨Lc1, hQ1, l1, y1, z1⟩, st1⟩ := Jvm.LawKit.callS X0 hx (y := mN3) hown (mvT hZ (wd141 hw)) (mvT hZ (wd142 hw)) (mvT hZ (wd35 hw)) (mvT hZ (wd143 hw)) (by decide) (own_backN (W := 2) (own_ulen1 l Z a0 hw [] (t) (_) (_) h0 n0 (by omega) (X00.keep K0 all0) Vt) hZ (wd143 hw) (wd35 hw) (by decide) (by decide)) (g := (mkF m 3 #[vI 0, vI 1, vR t] [(.ref t), (.int 1), (.int 0)])) rfl (by rw [hml]; rfl) (argsL := [(.ref t)]) (rest := [(.int 1), (.int 0)]) (lenOf own_pd9 rfl) rfl (Nat.le_of_eq rfl) (hb hby dUB_3) (fun _ _ => ⟨rfl, e0, (by decide : 0 + 0 ≤ _), (by decide : 0 + 0 ≤ _)⟩)
 dsimp only [Pt.U, Pt.locs, Pt.cells, Pt.slots] at X1 l1 y1 z1 st1 hQ1
 subst l1 y1 z1
 obtain ⟨rfl, Nq1, sm1⟩ := hQ1
 have N1 := Fr.app N0 Nq1
 refine own_st st1 ?_
 obtain ⟨_, _, ⟨T2, L2, k2, n2⟩, -, X2, ⟨Lc2, hQ2, l2, y2, z2⟩, st2⟩ := Jvm.LawKit.callS X1 hx (y := mN25) hown (mvT hZ (wd144 hw)) (mvT hZ (wd145 hw)) (mvT hZ (wd3 hw)) (mvT hZ (wd146 hw)) (by decide) (own_backN (W := 0) (own_sb1 l Z a0 hw [] (fm) h0 n0 (by omega) (X00.keep K0 all0) O4 rfm) hZ (wd146 hw) (wd3 hw) (by decide) (by decide)) (g := (mkF m 6 #[vI 0, vI 1, vR t] [(.int 1), (.int 1), (.int 0)])) rfl (by rw [hml]; rfl) (argsL := [(.int 0), (.int 1), (.int 1)]) (rest := []) (lenOf own_pd19 rfl) rfl (Nat.le_of_eq rfl) (hb hby dUB_6) (fun _ _ => ⟨rfl, sm1, (by decide : 0 + 0 ≤ _), (by decide : 0 + 0 ≤ _)⟩)
 dsimp only [Pt.U, Pt.locs, Pt.cells, Pt.slots] at X2 l2 y2 z2 st2 hQ2
 subst l2 y2 z2
 obtain ⟨rfl, Nq2, sm2⟩ := hQ2
 have N2 := Fr.app N1 Nq2
 refine own_st st2 ?_
 obtain ⟨fs, hr, hrun, hended, hW, hsame⟩ := X2.leave (v := none) (fun _ => rfl)
 refine ⟨_, _, X2.returnOut hx Bd.returns (hb hby dUB_9) hr, hrun, hended, _, _, rfl, ?_, ⟨_, rfl⟩, hW, hsame.mono (by decide) (by decide)⟩
 change Q_own_ub1 Z t kb fm c0 h0 n0 _ T2.heap _; rw [sm2]; exact ⟨rfl, N2, rfl⟩

def Q_own_ux1 (Z : State) (t : Nat) (kb : ClassId) (c0 : Int32) (h0 : Heap) (n0 : Nat) (v : Option Value) (h : Heap) (L : List Loc) : Prop := ∃ r : Int32, v = some (.int r) ∧ own_IX r ([c0] : List Int32) ∧ Fr n0 L ∧ h = h0
theorem ef_own_ux1 (m : MethodId) (x0 : Nat) : entryFrame m #[(.ref x0), (.int 58), (.int 0), (.int 1)] 5 = mkF m 0 #[.val (.ref x0), .val (.int 58), .val (.int 0), .val (.int 1), .unset] [] := by first | (simp [entryFrame, mkF, argsToLocals, Value.category]; done) | rfl
theorem own_ux1 (l : Launch) (Z : State) (a0 : Array Value) (hw : hWt a0 Z) (ws : List Jvm.Cond) (t : Nat) (kb : ClassId) (c0 : Int32) (h0 : Heap) (n0 : Nat) (Z0 : n0 ≤ h0.size) (X00 : Old Z n0 h0) (OA : oA Z) (OH : oH Z) (OL : oL Z) (Vt : Arv Z h0 t kb .byte (2 : Int32) [.int (L8 c0), .int (H8 c0)] (.int 0)) (hb0 : ¬ c0 < 0 ∧ ¬ (65535 : Int32) < c0) :
 own_MN l mN27 jdk_52_method_48_code 5 (some .int) ws rm_1_0_0_20 Z #[(.ref t), (.int 58), (.int 0), (.int 1)] h0 (Q_own_ux1 Z t kb c0 h0 n0) := by
 refine own_bodyN (plainFor_of_name own_pn1) fun p e s m below meth c s₁ Bd hx hby hml hown hZ X0 e0 => ?_
 have N0 := Fr.nil n0
 have K0 : Keep h0 h0 [] := Keep.refl h0 []
 refine own_st (fun tq kq => castTop (ef_own_ux1 m (t)) kq) ?_
 show own_G p e below _ (s₁.setTop (mkF m 0 #[vR t, vI 58, vI 0, vI 1, .unset] []))
 refine s_iloadN X0 hx (hb hby dUX_0) rfl ?_
 refine own_st (fun tq kq => XS.istore X0.here hx rfl (hb hby dUX_1) rfl (l' := #[vR t, vI 58, vI 0, vI 1, vI 0]) rfl kq) ?_
 refine s_iload X0 hx (hb hby dUX_3) rfl ?_
 refine s_iloadN X0 hx (hb hby dUX_5) rfl ?_
 show own_G p e below _ (s₁.setTop (mkF m 6 #[vR t, vI 58, vI 0, vI 1, vI 0] [(.int 1), (.int 0)]))
 refine own_st (fun tq kq => XS.icmpNo X0.here hx rfl (hb hby dUX_6) rfl (tlt (by decide : ((0 : Int32) < (1 : Int32)))).2.1 kq) ?_
 refine s_aloadN X0 hx (hb hby dUX_9) rfl rfl ?_
 refine s_iload X0 hx (hb hby dUX_10) rfl ?_
 obtain ⟨_, _, ⟨T1, L1, k1, n1⟩, -, X1, ⟨Lc1, hQ1, l1, y1, z1⟩, st1⟩ := Jvm.LawKit.callS X0 hx (y := mN2) hown (mvT hZ (wd126 hw)) (mvT hZ (wd127 hw)) (mvT hZ (wd35 hw)) (mvT hZ (wd128 hw)) (by decide) (own_backN (W := 0) (own_get_0 l Z a0 hw [] (t) (_) (_) (_) (_) (_) h0 n0 (by omega) (X00.keep K0 all0) OA OH OL Vt (by decide) (by decide) rfl rfl) hZ (wd128 hw) (wd35 hw) (by decide) (by decide)) (g := (mkF m 12 #[vR t, vI 58, vI 0, vI 1, vI 0] [(.int 0), (.ref t)])) rfl (by rw [hml]; rfl) (argsL := [(.ref t), (.int 0)]) (rest := []) (lenOf own_pd6 rfl) rfl (Nat.le_of_eq rfl) (hb hby dUX_12) (fun _ _ => ⟨rfl, e0, (by decide : 0 + 0 ≤ _), (by decide : 0 + 0 ≤ _)⟩)
 dsimp only [Pt.U, Pt.locs, Pt.cells, Pt.slots] at X1 l1 y1 z1 st1 hQ1
 subst l1 y1 z1
 obtain ⟨rfl, Nq1, sm1⟩ := hQ1
 have N1 := Fr.app N0 Nq1
 refine own_st st1 ?_
 refine s_iloadN X1 hx (hb hby dUX_15) rfl ?_
 show own_G p e below _ (T1.setTop (mkF m 16 #[vR t, vI 58, vI 0, vI 1, vI 0] [(.int 58), (.int (StrChars.pairCh (L8 c0) (H8 c0)))]))
 by_cases hc16_2 : ((StrChars.pairCh (L8 c0) (H8 c0)) = (58 : Int32))
 ·
  refine own_st (fun tq kq => XS.icmpNo X1.here hx rfl (hb hby dUX_16) rfl (teq hc16_2).2 kq) ?_
  refine s_iload X1 hx (hb hby dUX_19) rfl ?_
  show own_G p e below _ (T1.setTop (mkF m 21 #[vR t, vI 58, vI 0, vI 1, vI 0] [(.int 0)]))
  obtain ⟨fs, hr, hrun, hended, hW, hsame⟩ := X1.leave (v := some (.int 0)) (fun h => by rw [Bd.returns] at h; cases h)
  refine ⟨_, _, retOut X1 hx Bd.returns rfl (Or.inl ⟨rfl, by simp, _, rfl⟩) (hb hby dUX_21) hr, hrun, hended, _, _, rfl, ?_, ⟨_, rfl⟩, hW, hsame.mono (by decide) (by decide)⟩
  change Q_own_ux1 Z t kb c0 h0 n0 _ T1.heap _; rw [sm1]; exact ⟨(0 : Int32), rfl, Or.inl ⟨by decide, c0, by simp, (StrChars.pair_says hb0.1 hb0.2).symm.trans hc16_2⟩, N1, rfl⟩
 ·
  refine own_st (fun tq kq => XS.icmpYes X1.here hx rfl (pc0 := 16) (pc' := 22) rfl (hb hby dUX_16) rfl (feq hc16_2).2 (by decide) (by decide) kq) ?_
  refine own_st (fun tq kq => XS.iinc X1.here hx rfl (hb hby dUX_22) rfl (l' := #[vR t, vI 58, vI 0, vI 1, vI 1]) rfl kq) ?_
  refine own_st (fun tq kq => XS.goto X1.here hx rfl (pc0 := 25) (pc' := 3) rfl (hb hby dUX_25) (by decide) (by decide) kq) ?_
  refine s_iload X1 hx (hb hby dUX_3) rfl ?_
  show own_G p e below _ (T1.setTop (mkF m 5 #[vR t, vI 58, vI 0, vI 1, vI 1] [(.int 1)]))
  refine s_iloadN X1 hx (hb hby dUX_5) rfl ?_
  show own_G p e below _ (T1.setTop (mkF m 6 #[vR t, vI 58, vI 0, vI 1, vI 1] [(.int 1), (.int 1)]))
  refine own_st (fun tq kq => XS.icmpYes X1.here hx rfl (pc0 := 6) (pc' := 28) rfl (hb hby dUX_6) rfl (flt (by decide : ¬ ((1 : Int32) < (1 : Int32)))).2.1 (by decide) (by decide) kq) ?_
  refine s_iconst X1 hx (hb hby dUX_28) ?_
  show own_G p e below _ (T1.setTop (mkF m 29 #[vR t, vI 58, vI 0, vI 1, vI 1] [(.int (-1))]))
  obtain ⟨fs, hr, hrun, hended, hW, hsame⟩ := X1.leave (v := some (.int (-1))) (fun h => by rw [Bd.returns] at h; cases h)
  refine ⟨_, _, retOut X1 hx Bd.returns rfl (Or.inl ⟨rfl, by simp, _, rfl⟩) (hb hby dUX_29) hr, hrun, hended, _, _, rfl, ?_, ⟨_, rfl⟩, hW, hsame.mono (by decide) (by decide)⟩
  change Q_own_ux1 Z t kb c0 h0 n0 _ T1.heap _; rw [sm1]; exact ⟨(-1 : Int32), rfl, Or.inr ⟨by decide, own_all1 (fun q => hc16_2 ((StrChars.pair_says hb0.1 hb0.2).trans q))⟩, N1, rfl⟩

def Q_own_uo1 (Z : State) (t : Nat) (kb : ClassId) (fm : Value) (c0 : Int32) (h0 : Heap) (n0 : Nat) (v : Option Value) (h : Heap) (L : List Loc) : Prop := ∃ r : Int32, v = some (.int r) ∧ own_IX r ([c0] : List Int32) ∧ Fr n0 L ∧ h = h0
theorem ef_own_uo1 (m : MethodId) (x0 : Nat) : entryFrame m #[(.ref x0), (.int 58), (.int 0), (.int 1)] 4 = mkF m 0 #[.val (.ref x0), .val (.int 58), .val (.int 0), .val (.int 1)] [] := by first | (simp [entryFrame, mkF, argsToLocals, Value.category]; done) | rfl
theorem own_uo1 (l : Launch) (Z : State) (a0 : Array Value) (hw : hWt a0 Z) (ws : List Jvm.Cond) (t : Nat) (kb : ClassId) (fm : Value) (c0 : Int32) (h0 : Heap) (n0 : Nat) (Z0 : n0 ≤ h0.size) (X00 : Old Z n0 h0) (OA : oA Z) (OH : oH Z) (OL : oL Z) (O4 : o4 Z fm) (rfm : fm.isRef = true) (Vt : Arv Z h0 t kb .byte (2 : Int32) [.int (L8 c0), .int (H8 c0)] (.int 0)) (hb0 : ¬ c0 < 0 ∧ ¬ (65535 : Int32) < c0) :
 own_MN l mN28 jdk_52_method_47_code 4 (some .int) ws rm_3_0_0_60 Z #[(.ref t), (.int 58), (.int 0), (.int 1)] h0 (Q_own_uo1 Z t kb fm c0 h0 n0) := by
 refine own_bodyN (plainFor_of_name own_pn1) fun p e s m below meth c s₁ Bd hx hby hml hown hZ X0 e0 => ?_
 have N0 := Fr.nil n0
 have K0 : Keep h0 h0 [] := Keep.refl h0 []
 refine own_st (fun tq kq => castTop (ef_own_uo1 m (t)) kq) ?_
 show own_G p e below _ (s₁.setTop (mkF m 0 #[vR t, vI 58, vI 0, vI 1] []))
 refine s_iloadN X0 hx (hb hby dUO_0) rfl ?_
 refine s_iloadN X0 hx (hb hby dUO_1) rfl ?_
 refine s_aloadN X0 hx (hb hby dUO_2) rfl rfl ?_
 obtain ⟨_, _, ⟨T1, L1, k1, n1⟩, -, X1, ⟨Lc1, hQ1, l1, y1, z1⟩, st1⟩ := Jvm.LawKit.callS X0 hx (y := mN26) hown (mvT hZ (wd138 hw)) (mvT hZ (wd139 hw)) (mvT hZ (wd35 hw)) (mvT hZ (wd140 hw)) (by decide) (own_backN (W := 0) (own_ub1 l Z a0 hw [] (t) (kb) (fm) (c0) h0 n0 (by omega) (X00.keep K0 all0) O4 rfm Vt) hZ (wd140 hw) (wd35 hw) (by decide) (by decide)) (g := (mkF m 3 #[vR t, vI 58, vI 0, vI 1] [(.ref t), (.int 1), (.int 0)])) rfl (by rw [hml]; rfl) (argsL := [(.int 0), (.int 1), (.ref t)]) (rest := []) (lenOf own_pd20 rfl) rfl (Nat.le_of_eq rfl) (hb hby dUO_3) (fun _ _ => ⟨rfl, e0, (by decide : 0 + 0 ≤ _), (by decide : 0 + 0 ≤ _)⟩)
 dsimp only [Pt.U, Pt.locs, Pt.cells, Pt.slots] at X1 l1 y1 z1 st1 hQ1
 subst l1 y1 z1
 obtain ⟨rfl, Nq1, sm1⟩ := hQ1
 have N1 := Fr.app N0 Nq1
 refine own_st st1 ?_
 refine s_aloadN X1 hx (hb hby dUO_6) rfl rfl ?_
 refine s_iloadN X1 hx (hb hby dUO_7) rfl ?_
 refine s_iloadN X1 hx (hb hby dUO_8) rfl ?_
 refine s_iloadN X1 hx (hb hby dUO_9) rfl ?_
 show own_G p e below _ (T1.setTop (mkF m 10 #[vR t, vI 58, vI 0, vI 1] [(.int 1), (.int 0), (.int 58), (.ref t)]))
 obtain ⟨_, _, ⟨T2, L2, k2, n2⟩, -, X2, ⟨Lc2, hQ2, l2, y2, z2⟩, st2⟩ := Jvm.LawKit.callS X1 hx (y := mN27) hown (mvT hZ (wd150 hw)) (mvT hZ (wd151 hw)) (mvT hZ (wd35 hw)) (mvT hZ (wd152 hw)) (by decide) (own_backN (W := 0) (own_ux1 l Z a0 hw [] (t) (kb) (c0) h0 n0 (by omega) (X00.keep K0 all0) OA OH OL Vt hb0) hZ (wd152 hw) (wd35 hw) (by decide) (by decide)) (g := (mkF m 10 #[vR t, vI 58, vI 0, vI 1] [(.int 1), (.int 0), (.int 58), (.ref t)])) rfl (by rw [hml]; rfl) (argsL := [(.ref t), (.int 58), (.int 0), (.int 1)]) (rest := []) (lenOf own_pd17 rfl) rfl (Nat.le_of_eq rfl) (hb hby dUO_10) (fun _ _ => ⟨rfl, sm1, (by decide : 0 + 0 ≤ _), (by decide : 0 + 0 ≤ _)⟩)
 dsimp only [Pt.U, Pt.locs, Pt.cells, Pt.slots] at X2 l2 y2 z2 st2 hQ2
 subst l2 y2 z2
 obtain ⟨r2, rfl, ix2, Nq2, sm2⟩ := hQ2
 have N2 := Fr.app N1 Nq2
 refine own_st st2 ?_
 obtain ⟨fs, hr, hrun, hended, hW, hsame⟩ := X2.leave (v := some (.int r2)) (fun h => by rw [Bd.returns] at h; cases h)
 refine ⟨_, _, retOut X2 hx Bd.returns rfl (Or.inl ⟨rfl, by simp, _, rfl⟩) (hb hby dUO_13) hr, hrun, hended, _, _, rfl, ?_, ⟨_, rfl⟩, hW, hsame.mono (by decide) (by decide)⟩
 change Q_own_uo1 Z t kb fm c0 h0 n0 _ T2.heap _; rw [sm2]; exact ⟨r2, rfl, ix2, N2, rfl⟩

def Q_own_un1 (Z : State) (t : Nat) (kb : ClassId) (fm : Value) (c0 : Int32) (h0 : Heap) (n0 : Nat) (v : Option Value) (h : Heap) (L : List Loc) : Prop := ∃ r : Int32, v = some (.int r) ∧ own_IX r ([c0] : List Int32) ∧ Fr n0 L ∧ h = h0
theorem ef_own_un1 (m : MethodId) (x0 : Nat) : entryFrame m #[(.ref x0), (.int 58), (.int 0), (.int 1)] 4 = mkF m 0 #[.val (.ref x0), .val (.int 58), .val (.int 0), .val (.int 1)] [] := by first | (simp [entryFrame, mkF, argsToLocals, Value.category]; done) | rfl
theorem own_un1 (l : Launch) (Z : State) (a0 : Array Value) (hw : hWt a0 Z) (ws : List Jvm.Cond) (t : Nat) (kb : ClassId) (fm : Value) (c0 : Int32) (h0 : Heap) (n0 : Nat) (Z0 : n0 ≤ h0.size) (X00 : Old Z n0 h0) (OA : oA Z) (OH : oH Z) (OL : oL Z) (O4 : o4 Z fm) (rfm : fm.isRef = true) (Vt : Arv Z h0 t kb .byte (2 : Int32) [.int (L8 c0), .int (H8 c0)] (.int 0)) (hb0 : ¬ c0 < 0 ∧ ¬ (65535 : Int32) < c0) :
 own_MN l mN29 jdk_52_method_40_code 4 (some .int) ws rm_4_0_0_80 Z #[(.ref t), (.int 58), (.int 0), (.int 1)] h0 (Q_own_un1 Z t kb fm c0 h0 n0) := by
 refine own_bodyN (plainFor_of_name own_pn1) fun p e s m below meth c s₁ Bd hx hby hml hown hZ X0 e0 => ?_
 have N0 := Fr.nil n0
 have K0 : Keep h0 h0 [] := Keep.refl h0 []
 refine own_st (fun tq kq => castTop (ef_own_un1 m (t)) kq) ?_
 show own_G p e below _ (s₁.setTop (mkF m 0 #[vR t, vI 58, vI 0, vI 1] []))
 refine s_iloadN X0 hx (hb hby dUN_0) rfl ?_
 refine s_iconst X0 hx (hb hby dUN_1) ?_
 obtain ⟨_, _, ⟨T1, L1, k1, n1⟩, -, X1, ⟨Lc1, hQ1, l1, y1, z1⟩, st1⟩ := Jvm.LawKit.callS X0 hx (y := mN19) hown (mvT hZ (wd132 hw)) (mvT hZ (wd80 hw)) (mvT hZ (wd81 hw)) (mvT hZ (wd82 hw)) (by decide) (own_backN (W := 0) (own_max l Z a0 hw []  h0 n0 (by omega) (X00.keep K0 all0) ) hZ (wd82 hw) (wd81 hw) (by decide) (by decide)) (g := (mkF m 2 #[vR t, vI 58, vI 0, vI 1] [(.int 0), (.int 0)])) rfl (by rw [hml]; rfl) (argsL := [(.int 0), (.int 0)]) (rest := []) (lenOf own_pd16 rfl) rfl (Nat.le_of_eq rfl) (hb hby dUN_2) (fun _ _ => ⟨rfl, e0, (by decide : 0 + 0 ≤ _), (by decide : 0 + 0 ≤ _)⟩)
 dsimp only [Pt.U, Pt.locs, Pt.cells, Pt.slots] at X1 l1 y1 z1 st1 hQ1
 subst l1 y1 z1
 obtain ⟨rfl, Nq1, sm1⟩ := hQ1
 have N1 := Fr.app N0 Nq1
 refine own_st st1 ?_
 refine own_st (fun tq kq => XS.istoreN X1.here hx rfl (hb hby dUN_5) rfl (l' := #[vR t, vI 58, vI 0, vI 1]) rfl kq) ?_
 refine s_iloadN X1 hx (hb hby dUN_6) rfl ?_
 refine s_aloadN X1 hx (hb hby dUN_7) rfl rfl ?_
 obtain ⟨cl2, Ar2, q2, S_2, N_2, H_2, G_2⟩ := id Vt
 refine own_st (fun tq kq => X1.arraylength hx (by rw [sm1]; exact Ar2.1) (State.isArrayOf_alike hZ.alike Ar2.2.1) (g := (mkF m 8 #[vR t, vI 58, vI 0, vI 1] [(.ref t), (.int 1)])) rfl rfl (hb hby dUN_8) _ kq) ?_
 rw [len_of S_2 N_2]
 show own_G p e below _ (T1.setTop (mkF m 9 #[vR t, vI 58, vI 0, vI 1] [(.int 2), (.int 1)]))
 refine s_iconst X1 hx (hb hby dUN_9) ?_
 refine own_st (fun tq kq => XS.ishr X1.here hx rfl (hb hby dUN_10) rfl kq) ?_
 obtain ⟨_, _, ⟨T3, L3, k3, n3⟩, -, X3, ⟨Lc3, hQ3, l3, y3, z3⟩, st3⟩ := Jvm.LawKit.callS X1 hx (y := mN21) hown (mvT hZ (wd133 hw)) (mvT hZ (wd84 hw)) (mvT hZ (wd81 hw)) (mvT hZ (wd85 hw)) (by decide) (own_backN (W := 0) (own_min1 l Z a0 hw []  h0 n0 (by omega) (X00.keep K0 all0) ) hZ (wd85 hw) (wd81 hw) (by decide) (by decide)) (g := (mkF m 11 #[vR t, vI 58, vI 0, vI 1] [(.int 1), (.int 1)])) rfl (by rw [hml]; rfl) (argsL := [(.int 1), (.int 1)]) (rest := []) (lenOf own_pd16 rfl) rfl (Nat.le_of_eq rfl) (hb hby dUN_11) (fun _ _ => ⟨rfl, sm1, (by decide : 0 + 0 ≤ _), (by decide : 0 + 0 ≤ _)⟩)
 dsimp only [Pt.U, Pt.locs, Pt.cells, Pt.slots] at X3 l3 y3 z3 st3 hQ3
 subst l3 y3 z3
 obtain ⟨rfl, Nq3, sm3⟩ := hQ3
 have N3 := Fr.app N1 Nq3
 refine own_st st3 ?_
 refine own_st (fun tq kq => XS.istoreN X3.here hx rfl (hb hby dUN_14) rfl (l' := #[vR t, vI 58, vI 0, vI 1]) rfl kq) ?_
 refine s_iloadN X3 hx (hb hby dUN_15) rfl ?_
 refine s_iloadN X3 hx (hb hby dUN_16) rfl ?_
 show own_G p e below _ (T3.setTop (mkF m 17 #[vR t, vI 58, vI 0, vI 1] [(.int 1), (.int 0)]))
 refine own_st (fun tq kq => XS.icmpYes X3.here hx rfl (pc0 := 17) (pc' := 22) rfl (hb hby dUN_17) rfl (tlt (by decide : ((0 : Int32) < (1 : Int32)))).1 (by decide) (by decide) kq) ?_
 refine s_iloadN X3 hx (hb hby dUN_22) rfl ?_
 refine own_st (fun tq kq => X3.ldcInt hx hown (mvT hZ (wd134 hw)) (g := (mkF m 23 #[vR t, vI 58, vI 0, vI 1] [(.int 58)])) rfl (hb hby dUN_23) _ kq) ?_
 show own_G p e below _ (T3.setTop (mkF m 25 #[vR t, vI 58, vI 0, vI 1] [(.int 65536), (.int 58)]))
 refine own_st (fun tq kq => XS.icmpNo X3.here hx rfl (hb hby dUN_25) rfl (tlt (by decide : ((58 : Int32) < (65536 : Int32)))).2.1 kq) ?_
 refine s_aloadN X3 hx (hb hby dUN_28) rfl rfl ?_
 refine s_iloadN X3 hx (hb hby dUN_29) rfl ?_
 refine s_iloadN X3 hx (hb hby dUN_30) rfl ?_
 show own_G p e below _ (T3.setTop (mkF m 31 #[vR t, vI 58, vI 0, vI 1] [(.int 0), (.int 58), (.ref t)]))
 refine s_iloadN X3 hx (hb hby dUN_31) rfl ?_
 obtain ⟨_, _, ⟨T4, L4, k4, n4⟩, -, X4, ⟨Lc4, hQ4, l4, y4, z4⟩, st4⟩ := Jvm.LawKit.callS X3 hx (y := mN28) hown (mvT hZ (wd135 hw)) (mvT hZ (wd136 hw)) (mvT hZ (wd35 hw)) (mvT hZ (wd137 hw)) (by decide) (own_backN (W := 0) (own_uo1 l Z a0 hw [] (t) (kb) (fm) (c0) h0 n0 (by omega) (X00.keep K0 all0) OA OH OL O4 rfm Vt hb0) hZ (wd137 hw) (wd35 hw) (by decide) (by decide)) (g := (mkF m 32 #[vR t, vI 58, vI 0, vI 1] [(.int 1), (.int 0), (.int 58), (.ref t)])) rfl (by rw [hml]; rfl) (argsL := [(.ref t), (.int 58), (.int 0), (.int 1)]) (rest := []) (lenOf own_pd17 rfl) rfl (Nat.le_of_eq rfl) (hb hby dUN_32) (fun _ _ => ⟨rfl, sm3, (by decide : 0 + 0 ≤ _), (by decide : 0 + 0 ≤ _)⟩)
 dsimp only [Pt.U, Pt.locs, Pt.cells, Pt.slots] at X4 l4 y4 z4 st4 hQ4
 subst l4 y4 z4
 obtain ⟨r4, rfl, ix4, Nq4, sm4⟩ := hQ4
 have N4 := Fr.app N3 Nq4
 refine own_st st4 ?_
 obtain ⟨fs, hr, hrun, hended, hW, hsame⟩ := X4.leave (v := some (.int r4)) (fun h => by rw [Bd.returns] at h; cases h)
 refine ⟨_, _, retOut X4 hx Bd.returns rfl (Or.inl ⟨rfl, by simp, _, rfl⟩) (hb hby dUN_35) hr, hrun, hended, _, _, rfl, ?_, ⟨_, rfl⟩, hW, hsame.mono (by decide) (by decide)⟩
 change Q_own_un1 Z t kb fm c0 h0 n0 _ T4.heap _; rw [sm4]; exact ⟨r4, rfl, ix4, N4, rfl⟩

def Q_own_j2_1_0 (Z : State) (x t nb : Nat) (kb : ClassId) (fm : Value) (G1 : Int32) (c0 : Int32) (h0 : Heap) (n0 : Nat) (v : Option Value) (h : Heap) (L : List Loc) : Prop := ∃ r : Int32, v = some (.int r) ∧ own_IX r ([c0] : List Int32) ∧ Fr n0 L ∧ h = h0
theorem ef_own_j2_1_0 (m : MethodId) (x0 : Nat) : entryFrame m #[(.ref x0), (.int 58), (.int 0)] 3 = mkF m 0 #[.val (.ref x0), .val (.int 58), .val (.int 0)] [] := by first | (simp [entryFrame, mkF, argsToLocals, Value.category]; done) | rfl
theorem own_j2_1_0 (l : Launch) (Z : State) (a0 : Array Value) (hw : hWt a0 Z) (ws : List Jvm.Cond) (x t nb : Nat) (kb : ClassId) (fm : Value) (G1 : Int32) (c0 : Int32) (h0 : Heap) (n0 : Nat) (Z0 : n0 ≤ h0.size) (X00 : Old Z n0 h0) (Ex : Exa Z h0 x "java/lang/String") (Fv : Fld Z h0 x "java/lang/String" "value" "[B" (.ref t)) (Fc : Fld Z h0 x "java/lang/String" "coder" "B" (.int (0 : Int32))) (Sx : own_StrU Z nb h0 x ([c0] : List Int32)) (O2 : Sta Z Z.heap "java/lang/String" "COMPACT_STRINGS" "Z" (.int G1)) (P5 : ¬ (G1 = (0 : Int32))) (OA : oA Z) (OH : oH Z) (OL : oL Z) (O4 : o4 Z fm) (rfm : fm.isRef = true) (Vt : Arv Z h0 t kb .byte (1 : Int32) [.int (c0.toInt8.toInt32)] (.int 0)) (hb0 : ¬ c0 < 0 ∧ ¬ (255 : Int32) < c0) :
 own_MN l mN30 jdk_42_method_80_code 3 (some .int) ws rm_5_0_0_100 Z #[(.ref x), (.int 58), (.int 0)] h0 (Q_own_j2_1_0 Z x t nb kb fm G1 c0 h0 n0) := by
 refine own_bodyN (plainFor_of_name own_pn0) fun p e s m below meth c s₁ Bd hx hby hml hown hZ X0 e0 => ?_
 have N0 := Fr.nil n0
 have K0 : Keep h0 h0 [] := Keep.refl h0 []
 refine own_st (fun tq kq => castTop (ef_own_j2_1_0 m (x)) kq) ?_
 show own_G p e below _ (s₁.setTop (mkF m 0 #[vR x, vI 58, vI 0] []))
 refine s_aloadN X0 hx (hb hby dJ2_0) rfl rfl ?_
 obtain ⟨cq1, kq1, q1a, q1b, q1c⟩ := isOf hZ e0 Ex
 obtain ⟨_, _, ⟨T1, L1, k1, n1⟩, -, X1, ⟨Lc1, hQ1, l1, y1, z1⟩, st1⟩ := X0.virtualBack hx (y := mN13) (z := mN13) hown (mvT hZ (wd57 hw)) (mvT hZ (wd58 hw)) (notFace_of_selects (args := #[]) (mvT hZ (wd60 hw))) (mvT hZ (wd60 hw)) (mvT hZ (wd59 hw)) (by decide) (own_backN (W := 0) (own_isL0 l Z a0 hw [] (x) (G1) h0 n0 (by omega) (X00.keep K0 all0) Fc O2 P5) hZ (wd61 hw) (wd3 hw) (by decide) (by decide)) q1a q1c (g := (mkF m 1 #[vR x, vI 58, vI 0] [(.ref x)])) rfl (by rw [hml]; rfl) (Steps.refl _) (argsL := []) (rest := []) (lenOf own_pd12 rfl) rfl (Nat.le_of_eq rfl) (hb hby dJ2_1) (fun _ _ => ⟨rfl, e0, (by decide : 0 + 0 ≤ _), (by decide : 0 + 0 ≤ _)⟩)
 dsimp only [Pt.U, Pt.locs, Pt.cells, Pt.slots] at X1 l1 y1 z1 st1 hQ1
 subst l1 y1 z1
 obtain ⟨rfl, Nq1, sm1⟩ := hQ1
 have N1 := Fr.app N0 Nq1
 refine own_st (fun tq kq => st1.trans kq) ?_
 refine own_st (fun tq kq => XS.ifNo X1.here hx rfl (hb hby dJ2_4) rfl ((if0 _ _).trans (feq (by decide : ¬ ((1 : Int32) = (0 : Int32)))).1) kq) ?_
 refine s_aloadN X1 hx (hb hby dJ2_7) rfl rfl ?_
 obtain ⟨T2, X2, e2, st2⟩ := getF X1 hx hZ hown (host := "") (Or.inl (wd21 hw)) Via.refl sm1 Fv (g := (mkF m 8 #[vR x, vI 58, vI 0] [(.ref x)])) rfl rfl (hb hby dJ2_8)
 refine own_st st2 ?_
 refine s_iloadN X2 hx (hb hby dJ2_11) rfl ?_
 refine s_iloadN X2 hx (hb hby dJ2_12) rfl ?_
 refine s_aloadN X2 hx (hb hby dJ2_13) rfl rfl ?_
 obtain ⟨-, E_3, hb_3, ln_3, t_3, kb_3, cd_3, N2_3, vs_3, -, V_3, C_3, A_3, hc_3⟩ := id Sx
 obtain ⟨cq3, kq3, q3a, q3b, q3c⟩ := isOf hZ e2 Ex
 obtain ⟨_, _, ⟨T3, L3, k3, n3⟩, -, X3, ⟨Lc3, hQ3, l3, y3, z3⟩, st3⟩ := X2.virtualBack hx (y := mN18) (z := mN18) hown (mvT hZ (wd62 hw)) (mvT hZ (wd63 hw)) (notFace_of_selects (args := #[]) (mvT hZ (wd65 hw))) (mvT hZ (wd65 hw)) (mvT hZ (wd64 hw)) (by decide) (StrChars.Road.lenW (W := 3) hZ (own_wLen hw) (kI := 4) (wd2 hw) E_3 V_3 C_3 A_3 hc_3 hb_3 (O2.ext (X00.keep K0 all0).2) P5 ln_3 (by decide) (by decide)) q3a q3c (g := (mkF m 14 #[vR x, vI 58, vI 0] [(.ref x), (.int 0), (.int 58), (.ref t)])) rfl (by rw [hml]; rfl) (Steps.refl _) (argsL := []) (rest := [(.int 0), (.int 58), (.ref t)]) (lenOf own_pd13 rfl) rfl (Nat.le_of_eq rfl) (hb hby dJ2_14) (fun _ _ => ⟨rfl, e2, (by decide : 0 + 0 ≤ _), (by decide : 0 + 0 ≤ _)⟩)
 dsimp only [Pt.U, Pt.locs, Pt.cells, Pt.slots] at X3 l3 y3 z3 st3 hQ3
 subst l3 y3 z3
 obtain ⟨rfl, rfl, sm3⟩ := hQ3
 have N3 := Fr.app N1 (Fr.nil n0)
 refine own_st (fun tq kq => st3.trans kq) ?_
 obtain ⟨_, _, ⟨T4, L4, k4, n4⟩, -, X4, ⟨Lc4, hQ4, l4, y4, z4⟩, st4⟩ := Jvm.LawKit.callS X3 hx (y := mN23) hown (mvT hZ (wd72 hw)) (mvT hZ (wd73 hw)) (mvT hZ (wd74 hw)) (mvT hZ (wd75 hw)) (by decide) (own_backN (W := 0) (own_li1 l Z a0 hw [] (t) (kb) (c0) h0 n0 (by omega) (X00.keep K0 all0) Vt hb0) hZ (wd75 hw) (wd74 hw) (by decide) (by decide)) (g := (mkF m 17 #[vR x, vI 58, vI 0] [(.int 1), (.int 0), (.int 58), (.ref t)])) rfl (by rw [hml]; rfl) (argsL := [(.ref t), (.int 58), (.int 0), (.int 1)]) (rest := []) (lenOf own_pd17 rfl) rfl (Nat.le_of_eq rfl) (hb hby dJ2_17) (fun _ _ => ⟨rfl, sm3, (by decide : 0 + 0 ≤ _), (by decide : 0 + 0 ≤ _)⟩)
 dsimp only [Pt.U, Pt.locs, Pt.cells, Pt.slots] at X4 l4 y4 z4 st4 hQ4
 subst l4 y4 z4
 obtain ⟨r4, rfl, ix4, Nq4, sm4⟩ := hQ4
 have N4 := Fr.app N3 Nq4
 refine own_st st4 ?_
 refine own_st (fun tq kq => XS.goto X4.here hx rfl (pc0 := 20) (pc' := 36) rfl (hb hby dJ2_20) (by decide) (by decide) kq) ?_
 show own_G p e below _ (T4.setTop (mkF m 36 #[vR x, vI 58, vI 0] [(.int r4)]))
 obtain ⟨fs, hr, hrun, hended, hW, hsame⟩ := X4.leave (v := some (.int r4)) (fun h => by rw [Bd.returns] at h; cases h)
 refine ⟨_, _, retOut X4 hx Bd.returns rfl (Or.inl ⟨rfl, by simp, _, rfl⟩) (hb hby dJ2_36) hr, hrun, hended, _, _, rfl, ?_, ⟨_, rfl⟩, hW, hsame.mono (by decide) (by decide)⟩
 change Q_own_j2_1_0 Z x t nb kb fm G1 c0 h0 n0 _ T4.heap _; rw [sm4]; exact ⟨r4, rfl, ix4, N4, rfl⟩

def Q_own_j1_1_0 (Z : State) (x t nb : Nat) (kb : ClassId) (fm : Value) (G1 : Int32) (c0 : Int32) (h0 : Heap) (n0 : Nat) (v : Option Value) (h : Heap) (L : List Loc) : Prop := ∃ r : Int32, v = some (.int r) ∧ own_IX r ([c0] : List Int32) ∧ Fr n0 L ∧ h = h0
theorem ef_own_j1_1_0 (m : MethodId) (x0 : Nat) : entryFrame m #[(.ref x0), (.int 58)] 2 = mkF m 0 #[.val (.ref x0), .val (.int 58)] [] := by first | (simp [entryFrame, mkF, argsToLocals, Value.category]; done) | rfl
theorem own_j1_1_0 (l : Launch) (Z : State) (a0 : Array Value) (hw : hWt a0 Z) (ws : List Jvm.Cond) (x t nb : Nat) (kb : ClassId) (fm : Value) (G1 : Int32) (c0 : Int32) (h0 : Heap) (n0 : Nat) (Z0 : n0 ≤ h0.size) (X00 : Old Z n0 h0) (Ex : Exa Z h0 x "java/lang/String") (Fv : Fld Z h0 x "java/lang/String" "value" "[B" (.ref t)) (Fc : Fld Z h0 x "java/lang/String" "coder" "B" (.int (0 : Int32))) (Sx : own_StrU Z nb h0 x ([c0] : List Int32)) (O2 : Sta Z Z.heap "java/lang/String" "COMPACT_STRINGS" "Z" (.int G1)) (P5 : ¬ (G1 = (0 : Int32))) (OA : oA Z) (OH : oH Z) (OL : oL Z) (O4 : o4 Z fm) (rfm : fm.isRef = true) (Vt : Arv Z h0 t kb .byte (1 : Int32) [.int (c0.toInt8.toInt32)] (.int 0)) (hb0 : ¬ c0 < 0 ∧ ¬ (255 : Int32) < c0) :
 own_MN l mN31 jdk_42_method_79_code 2 (some .int) ws rm_6_0_0_120 Z #[(.ref x), (.int 58)] h0 (Q_own_j1_1_0 Z x t nb kb fm G1 c0 h0 n0) := by
 refine own_bodyN (plainFor_of_name own_pn0) fun p e s m below meth c s₁ Bd hx hby hml hown hZ X0 e0 => ?_
 have N0 := Fr.nil n0
 have K0 : Keep h0 h0 [] := Keep.refl h0 []
 refine own_st (fun tq kq => castTop (ef_own_j1_1_0 m (x)) kq) ?_
 show own_G p e below _ (s₁.setTop (mkF m 0 #[vR x, vI 58] []))
 refine s_aloadN X0 hx (hb hby dJ1_0) rfl rfl ?_
 refine s_iloadN X0 hx (hb hby dJ1_1) rfl ?_
 refine s_iconst X0 hx (hb hby dJ1_2) ?_
 obtain ⟨cq1, kq1, q1a, q1b, q1c⟩ := isOf hZ e0 Ex
 obtain ⟨_, _, ⟨T1, L1, k1, n1⟩, -, X1, ⟨Lc1, hQ1, l1, y1, z1⟩, st1⟩ := X0.virtualBack hx (y := mN30) (z := mN30) hown (mvT hZ (wd52 hw)) (mvT hZ (wd53 hw)) (notFace_of_selects (args := #[]) (mvT hZ (wd55 hw))) (mvT hZ (wd55 hw)) (mvT hZ (wd54 hw)) (by decide) (own_backN (W := 0) (own_j2_1_0 l Z a0 hw [] (x) (t) (nb) (kb) (fm) (G1) (c0) h0 n0 (by omega) (X00.keep K0 all0) Ex Fv Fc Sx O2 P5 OA OH OL O4 rfm Vt hb0) hZ (wd56 hw) (wd3 hw) (by decide) (by decide)) q1a q1c (g := (mkF m 3 #[vR x, vI 58] [(.int 0), (.int 58), (.ref x)])) rfl (by rw [hml]; rfl) (Steps.refl _) (argsL := [(.int 58), (.int 0)]) (rest := []) (lenOf own_pd16 rfl) rfl (Nat.le_of_eq rfl) (hb hby dJ1_3) (fun _ _ => ⟨rfl, e0, (by decide : 0 + 0 ≤ _), (by decide : 0 + 0 ≤ _)⟩)
 dsimp only [Pt.U, Pt.locs, Pt.cells, Pt.slots] at X1 l1 y1 z1 st1 hQ1
 subst l1 y1 z1
 obtain ⟨r1, rfl, ix1, Nq1, sm1⟩ := hQ1
 have N1 := Fr.app N0 Nq1
 refine own_st (fun tq kq => st1.trans kq) ?_
 obtain ⟨fs, hr, hrun, hended, hW, hsame⟩ := X1.leave (v := some (.int r1)) (fun h => by rw [Bd.returns] at h; cases h)
 refine ⟨_, _, retOut X1 hx Bd.returns rfl (Or.inl ⟨rfl, by simp, _, rfl⟩) (hb hby dJ1_6) hr, hrun, hended, _, _, rfl, ?_, ⟨_, rfl⟩, hW, hsame.mono (by decide) (by decide)⟩
 change Q_own_j1_1_0 Z x t nb kb fm G1 c0 h0 n0 _ T1.heap _; rw [sm1]; exact ⟨r1, rfl, ix1, N1, rfl⟩

def Q_own_j2_1_1 (Z : State) (x t nb : Nat) (kb : ClassId) (fm : Value) (G1 : Int32) (c0 : Int32) (h0 : Heap) (n0 : Nat) (v : Option Value) (h : Heap) (L : List Loc) : Prop := ∃ r : Int32, v = some (.int r) ∧ own_IX r ([c0] : List Int32) ∧ Fr n0 L ∧ h = h0
theorem ef_own_j2_1_1 (m : MethodId) (x0 : Nat) : entryFrame m #[(.ref x0), (.int 58), (.int 0)] 3 = mkF m 0 #[.val (.ref x0), .val (.int 58), .val (.int 0)] [] := by first | (simp [entryFrame, mkF, argsToLocals, Value.category]; done) | rfl
theorem own_j2_1_1 (l : Launch) (Z : State) (a0 : Array Value) (hw : hWt a0 Z) (ws : List Jvm.Cond) (x t nb : Nat) (kb : ClassId) (fm : Value) (G1 : Int32) (c0 : Int32) (h0 : Heap) (n0 : Nat) (Z0 : n0 ≤ h0.size) (X00 : Old Z n0 h0) (Ex : Exa Z h0 x "java/lang/String") (Fv : Fld Z h0 x "java/lang/String" "value" "[B" (.ref t)) (Fc : Fld Z h0 x "java/lang/String" "coder" "B" (.int (1 : Int32))) (Sx : own_StrU Z nb h0 x ([c0] : List Int32)) (O2 : Sta Z Z.heap "java/lang/String" "COMPACT_STRINGS" "Z" (.int G1)) (P5 : ¬ (G1 = (0 : Int32))) (OA : oA Z) (OH : oH Z) (OL : oL Z) (O4 : o4 Z fm) (rfm : fm.isRef = true) (Vt : Arv Z h0 t kb .byte (2 : Int32) [.int (L8 c0), .int (H8 c0)] (.int 0)) (hb0 : ¬ c0 < 0 ∧ ¬ (65535 : Int32) < c0) :
 own_MN l mN30 jdk_42_method_80_code 3 (some .int) ws rm_5_0_0_100 Z #[(.ref x), (.int 58), (.int 0)] h0 (Q_own_j2_1_1 Z x t nb kb fm G1 c0 h0 n0) := by
 refine own_bodyN (plainFor_of_name own_pn0) fun p e s m below meth c s₁ Bd hx hby hml hown hZ X0 e0 => ?_
 have N0 := Fr.nil n0
 have K0 : Keep h0 h0 [] := Keep.refl h0 []
 refine own_st (fun tq kq => castTop (ef_own_j2_1_1 m (x)) kq) ?_
 show own_G p e below _ (s₁.setTop (mkF m 0 #[vR x, vI 58, vI 0] []))
 refine s_aloadN X0 hx (hb hby dJ2_0) rfl rfl ?_
 obtain ⟨cq1, kq1, q1a, q1b, q1c⟩ := isOf hZ e0 Ex
 obtain ⟨_, _, ⟨T1, L1, k1, n1⟩, -, X1, ⟨Lc1, hQ1, l1, y1, z1⟩, st1⟩ := X0.virtualBack hx (y := mN13) (z := mN13) hown (mvT hZ (wd57 hw)) (mvT hZ (wd58 hw)) (notFace_of_selects (args := #[]) (mvT hZ (wd60 hw))) (mvT hZ (wd60 hw)) (mvT hZ (wd59 hw)) (by decide) (own_backN (W := 0) (own_isL l Z a0 hw [] (x) (G1) h0 n0 (by omega) (X00.keep K0 all0) Fc O2 P5) hZ (wd61 hw) (wd3 hw) (by decide) (by decide)) q1a q1c (g := (mkF m 1 #[vR x, vI 58, vI 0] [(.ref x)])) rfl (by rw [hml]; rfl) (Steps.refl _) (argsL := []) (rest := []) (lenOf own_pd12 rfl) rfl (Nat.le_of_eq rfl) (hb hby dJ2_1) (fun _ _ => ⟨rfl, e0, (by decide : 0 + 0 ≤ _), (by decide : 0 + 0 ≤ _)⟩)
 dsimp only [Pt.U, Pt.locs, Pt.cells, Pt.slots] at X1 l1 y1 z1 st1 hQ1
 subst l1 y1 z1
 obtain ⟨rfl, Nq1, sm1⟩ := hQ1
 have N1 := Fr.app N0 Nq1
 refine own_st (fun tq kq => st1.trans kq) ?_
 refine own_st (fun tq kq => XS.ifYes X1.here hx rfl (pc0 := 4) (pc' := 23) rfl (hb hby dJ2_4) rfl ((if0 _ _).trans (teq (by decide : ((0 : Int32) = (0 : Int32)))).1) (by decide) (by decide) kq) ?_
 refine s_aloadN X1 hx (hb hby dJ2_23) rfl rfl ?_
 obtain ⟨T2, X2, e2, st2⟩ := getF X1 hx hZ hown (host := "") (Or.inl (wd21 hw)) Via.refl sm1 Fv (g := (mkF m 24 #[vR x, vI 58, vI 0] [(.ref x)])) rfl rfl (hb hby dJ2_24)
 refine own_st st2 ?_
 refine s_iloadN X2 hx (hb hby dJ2_27) rfl ?_
 refine s_iloadN X2 hx (hb hby dJ2_28) rfl ?_
 refine s_aloadN X2 hx (hb hby dJ2_29) rfl rfl ?_
 obtain ⟨-, E_3, hb_3, ln_3, t_3, kb_3, cd_3, N2_3, vs_3, -, V_3, C_3, A_3, hc_3⟩ := id Sx
 obtain ⟨cq3, kq3, q3a, q3b, q3c⟩ := isOf hZ e2 Ex
 obtain ⟨_, _, ⟨T3, L3, k3, n3⟩, -, X3, ⟨Lc3, hQ3, l3, y3, z3⟩, st3⟩ := X2.virtualBack hx (y := mN18) (z := mN18) hown (mvT hZ (wd62 hw)) (mvT hZ (wd63 hw)) (notFace_of_selects (args := #[]) (mvT hZ (wd65 hw))) (mvT hZ (wd65 hw)) (mvT hZ (wd64 hw)) (by decide) (StrChars.Road.lenW (W := 3) hZ (own_wLen hw) (kI := 4) (wd2 hw) E_3 V_3 C_3 A_3 hc_3 hb_3 (O2.ext (X00.keep K0 all0).2) P5 ln_3 (by decide) (by decide)) q3a q3c (g := (mkF m 30 #[vR x, vI 58, vI 0] [(.ref x), (.int 0), (.int 58), (.ref t)])) rfl (by rw [hml]; rfl) (Steps.refl _) (argsL := []) (rest := [(.int 0), (.int 58), (.ref t)]) (lenOf own_pd13 rfl) rfl (Nat.le_of_eq rfl) (hb hby dJ2_30) (fun _ _ => ⟨rfl, e2, (by decide : 0 + 0 ≤ _), (by decide : 0 + 0 ≤ _)⟩)
 dsimp only [Pt.U, Pt.locs, Pt.cells, Pt.slots] at X3 l3 y3 z3 st3 hQ3
 subst l3 y3 z3
 obtain ⟨rfl, rfl, sm3⟩ := hQ3
 have N3 := Fr.app N1 (Fr.nil n0)
 refine own_st (fun tq kq => st3.trans kq) ?_
 obtain ⟨_, _, ⟨T4, L4, k4, n4⟩, -, X4, ⟨Lc4, hQ4, l4, y4, z4⟩, st4⟩ := Jvm.LawKit.callS X3 hx (y := mN29) hown (mvT hZ (wd129 hw)) (mvT hZ (wd130 hw)) (mvT hZ (wd35 hw)) (mvT hZ (wd131 hw)) (by decide) (own_backN (W := 0) (own_un1 l Z a0 hw [] (t) (kb) (fm) (c0) h0 n0 (by omega) (X00.keep K0 all0) OA OH OL O4 rfm Vt hb0) hZ (wd131 hw) (wd35 hw) (by decide) (by decide)) (g := (mkF m 33 #[vR x, vI 58, vI 0] [(.int 1), (.int 0), (.int 58), (.ref t)])) rfl (by rw [hml]; rfl) (argsL := [(.ref t), (.int 58), (.int 0), (.int 1)]) (rest := []) (lenOf own_pd17 rfl) rfl (Nat.le_of_eq rfl) (hb hby dJ2_33) (fun _ _ => ⟨rfl, sm3, (by decide : 0 + 0 ≤ _), (by decide : 0 + 0 ≤ _)⟩)
 dsimp only [Pt.U, Pt.locs, Pt.cells, Pt.slots] at X4 l4 y4 z4 st4 hQ4
 subst l4 y4 z4
 obtain ⟨r4, rfl, ix4, Nq4, sm4⟩ := hQ4
 have N4 := Fr.app N3 Nq4
 refine own_st st4 ?_
 obtain ⟨fs, hr, hrun, hended, hW, hsame⟩ := X4.leave (v := some (.int r4)) (fun h => by rw [Bd.returns] at h; cases h)
 refine ⟨_, _, retOut X4 hx Bd.returns rfl (Or.inl ⟨rfl, by simp, _, rfl⟩) (hb hby dJ2_36) hr, hrun, hended, _, _, rfl, ?_, ⟨_, rfl⟩, hW, hsame.mono (by decide) (by decide)⟩
 change Q_own_j2_1_1 Z x t nb kb fm G1 c0 h0 n0 _ T4.heap _; rw [sm4]; exact ⟨r4, rfl, ix4, N4, rfl⟩

def Q_own_j1_1_1 (Z : State) (x t nb : Nat) (kb : ClassId) (fm : Value) (G1 : Int32) (c0 : Int32) (h0 : Heap) (n0 : Nat) (v : Option Value) (h : Heap) (L : List Loc) : Prop := ∃ r : Int32, v = some (.int r) ∧ own_IX r ([c0] : List Int32) ∧ Fr n0 L ∧ h = h0
theorem ef_own_j1_1_1 (m : MethodId) (x0 : Nat) : entryFrame m #[(.ref x0), (.int 58)] 2 = mkF m 0 #[.val (.ref x0), .val (.int 58)] [] := by first | (simp [entryFrame, mkF, argsToLocals, Value.category]; done) | rfl
theorem own_j1_1_1 (l : Launch) (Z : State) (a0 : Array Value) (hw : hWt a0 Z) (ws : List Jvm.Cond) (x t nb : Nat) (kb : ClassId) (fm : Value) (G1 : Int32) (c0 : Int32) (h0 : Heap) (n0 : Nat) (Z0 : n0 ≤ h0.size) (X00 : Old Z n0 h0) (Ex : Exa Z h0 x "java/lang/String") (Fv : Fld Z h0 x "java/lang/String" "value" "[B" (.ref t)) (Fc : Fld Z h0 x "java/lang/String" "coder" "B" (.int (1 : Int32))) (Sx : own_StrU Z nb h0 x ([c0] : List Int32)) (O2 : Sta Z Z.heap "java/lang/String" "COMPACT_STRINGS" "Z" (.int G1)) (P5 : ¬ (G1 = (0 : Int32))) (OA : oA Z) (OH : oH Z) (OL : oL Z) (O4 : o4 Z fm) (rfm : fm.isRef = true) (Vt : Arv Z h0 t kb .byte (2 : Int32) [.int (L8 c0), .int (H8 c0)] (.int 0)) (hb0 : ¬ c0 < 0 ∧ ¬ (65535 : Int32) < c0) :
 own_MN l mN31 jdk_42_method_79_code 2 (some .int) ws rm_6_0_0_120 Z #[(.ref x), (.int 58)] h0 (Q_own_j1_1_1 Z x t nb kb fm G1 c0 h0 n0) := by
 refine own_bodyN (plainFor_of_name own_pn0) fun p e s m below meth c s₁ Bd hx hby hml hown hZ X0 e0 => ?_
 have N0 := Fr.nil n0
 have K0 : Keep h0 h0 [] := Keep.refl h0 []
 refine own_st (fun tq kq => castTop (ef_own_j1_1_1 m (x)) kq) ?_
 show own_G p e below _ (s₁.setTop (mkF m 0 #[vR x, vI 58] []))
 refine s_aloadN X0 hx (hb hby dJ1_0) rfl rfl ?_
 refine s_iloadN X0 hx (hb hby dJ1_1) rfl ?_
 refine s_iconst X0 hx (hb hby dJ1_2) ?_
 obtain ⟨cq1, kq1, q1a, q1b, q1c⟩ := isOf hZ e0 Ex
 obtain ⟨_, _, ⟨T1, L1, k1, n1⟩, -, X1, ⟨Lc1, hQ1, l1, y1, z1⟩, st1⟩ := X0.virtualBack hx (y := mN30) (z := mN30) hown (mvT hZ (wd52 hw)) (mvT hZ (wd53 hw)) (notFace_of_selects (args := #[]) (mvT hZ (wd55 hw))) (mvT hZ (wd55 hw)) (mvT hZ (wd54 hw)) (by decide) (own_backN (W := 0) (own_j2_1_1 l Z a0 hw [] (x) (t) (nb) (kb) (fm) (G1) (c0) h0 n0 (by omega) (X00.keep K0 all0) Ex Fv Fc Sx O2 P5 OA OH OL O4 rfm Vt hb0) hZ (wd56 hw) (wd3 hw) (by decide) (by decide)) q1a q1c (g := (mkF m 3 #[vR x, vI 58] [(.int 0), (.int 58), (.ref x)])) rfl (by rw [hml]; rfl) (Steps.refl _) (argsL := [(.int 58), (.int 0)]) (rest := []) (lenOf own_pd16 rfl) rfl (Nat.le_of_eq rfl) (hb hby dJ1_3) (fun _ _ => ⟨rfl, e0, (by decide : 0 + 0 ≤ _), (by decide : 0 + 0 ≤ _)⟩)
 dsimp only [Pt.U, Pt.locs, Pt.cells, Pt.slots] at X1 l1 y1 z1 st1 hQ1
 subst l1 y1 z1
 obtain ⟨r1, rfl, ix1, Nq1, sm1⟩ := hQ1
 have N1 := Fr.app N0 Nq1
 refine own_st (fun tq kq => st1.trans kq) ?_
 obtain ⟨fs, hr, hrun, hended, hW, hsame⟩ := X1.leave (v := some (.int r1)) (fun h => by rw [Bd.returns] at h; cases h)
 refine ⟨_, _, retOut X1 hx Bd.returns rfl (Or.inl ⟨rfl, by simp, _, rfl⟩) (hb hby dJ1_6) hr, hrun, hended, _, _, rfl, ?_, ⟨_, rfl⟩, hW, hsame.mono (by decide) (by decide)⟩
 change Q_own_j1_1_1 Z x t nb kb fm G1 c0 h0 n0 _ T1.heap _; rw [sm1]; exact ⟨r1, rfl, ix1, N1, rfl⟩

theorem own_ixU1 {p : Program} {l : Launch} {e : Env} {R : Room} {s : State} {args : Array Value} {below : List Frame} {W : Nat} {Z : State} {a0 : Array Value} {h : Heap} (hZ : Z.Warmed39 s.vm) (hw : ∀ d ∈ tables_1, d.before a0 Z = true) {x n n0 : Nat} {c0 : Int32} {G1 : Int32} {fm : Value} (F : own_StrU Z n h x ([c0] : List Int32)) (X00 : Old Z n0 h) (O2 : Sta Z Z.heap "java/lang/String" "COMPACT_STRINGS" "Z" (.int G1)) (P5 : ¬ (G1 = (0 : Int32))) (OA : oA Z) (OH : oH Z) (OL : oL Z) (O4 : o4 Z fm) (rfm : fm.isRef = true) (hfr : 7 ≤ R.frames) (hlo : W + 133 ≤ R.locals) :
    Back l R p e below s args (⟨"java/lang/String", "indexOf", "(I)I"⟩ : MethodName) 3 W (fun P a => a = #[.ref x, .int (58 : Int32)] ∧ P.U.heap = h ∧ P.cells + 0 ≤ R.cells ∧ P.slots + 0 ≤ R.slots)
      (fun P _ v B => ∃ L, (∃ r : Int32, v = some (.int r) ∧ own_IX r ([c0] : List Int32) ∧ Fr n0 L ∧ B.U.heap = h) ∧ B.locs = P.locs ++ L ∧ B.cells = P.cells + 0 ∧ B.slots = P.slots + 0) := by
  have hh0 : n0 ≤ h.size := by have := X00.1; have := X00.2.1; omega
  obtain ⟨-, E, hb, ln, t, kb, cd, N2, vs, -, V, Cc, A, hc⟩ := id F
  rcases hc with ⟨rfl, rfl, rfl, hl⟩ | ⟨rfl, rfl, rfl, hg⟩
  · exact own_backN (W := W) (rm := rm_6_0_0_120) (own_j1_1_0 l Z a0 hw [] x t n kb fm G1 c0 h n0 hh0 X00 E V Cc F O2 P5 OA OH OL O4 rfm A ⟨(hb c0 (by simp)).1, hl c0 (by simp)⟩) hZ (wd51 hw) (wd3 hw) (by show 6 + 1 ≤ _; omega) (by show W + (2 + 11) + 120 ≤ _; omega)
  · exact own_backN (W := W) (rm := rm_6_0_0_120) (own_j1_1_1 l Z a0 hw [] x t n kb fm G1 c0 h n0 hh0 X00 E V Cc F O2 P5 OA OH OL O4 rfm A (hb c0 (by simp))) hZ (wd51 hw) (wd3 hw) (by show 6 + 1 ≤ _; omega) (by show W + (2 + 11) + 120 ≤ _; omega)

def Q_own_min2 (Z : State)  (h0 : Heap) (n0 : Nat) (v : Option Value) (h : Heap) (L : List Loc) : Prop := v = some (.int (2 : Int32)) ∧ Fr n0 L ∧ h = h0
theorem ef_own_min2 (m : MethodId)  : entryFrame m #[(.int 2), (.int 2)] 2 = mkF m 0 #[.val (.int 2), .val (.int 2)] [] := by first | (simp [entryFrame, mkF, argsToLocals, Value.category]; done) | rfl
theorem own_min2 (l : Launch) (Z : State) (a0 : Array Value) (hw : hWt a0 Z) (ws : List Jvm.Cond)  (h0 : Heap) (n0 : Nat) (Z0 : n0 ≤ h0.size) (X00 : Old Z n0 h0)  :
 own_MN l mN21 jdk_29_method_69_code 2 (some .int) ws rm_0_0_0_0 Z #[(.int 2), (.int 2)] h0 (Q_own_min2 Z  h0 n0) := by
 refine own_bodyN own_pn6 fun p e s m below meth c s₁ Bd hx hby hml hown hZ X0 e0 => ?_
 have N0 := Fr.nil n0
 have K0 : Keep h0 h0 [] := Keep.refl h0 []
 refine own_st (fun tq kq => castTop (ef_own_min2 m ) kq) ?_
 show own_G p e below _ (s₁.setTop (mkF m 0 #[vI 2, vI 2] []))
 refine s_iloadN X0 hx (hb hby dMM_0) rfl ?_
 refine s_iloadN X0 hx (hb hby dMM_1) rfl ?_
 show own_G p e below _ (s₁.setTop (mkF m 2 #[vI 2, vI 2] [(.int 2), (.int 2)]))
 refine own_st (fun tq kq => XS.icmpNo X0.here hx rfl (hb hby dMM_2) rfl (flt (by decide : ¬ ((2 : Int32) < (2 : Int32)))).2.2.1 kq) ?_
 refine s_iloadN X0 hx (hb hby dMM_5) rfl ?_
 refine own_st (fun tq kq => XS.goto X0.here hx rfl (pc0 := 6) (pc' := 10) rfl (hb hby dMM_6) (by decide) (by decide) kq) ?_
 show own_G p e below _ (s₁.setTop (mkF m 10 #[vI 2, vI 2] [(.int 2)]))
 obtain ⟨fs, hr, hrun, hended, hW, hsame⟩ := X0.leave (v := some (.int 2)) (fun h => by rw [Bd.returns] at h; cases h)
 refine ⟨_, _, retOut X0 hx Bd.returns rfl (Or.inl ⟨rfl, by simp, _, rfl⟩) (hb hby dMM_10) hr, hrun, hended, _, _, rfl, ?_, ⟨_, rfl⟩, hW, hsame.mono (by decide) (by decide)⟩
 change Q_own_min2 Z  h0 n0 _ s₁.heap _; rw [e0]; exact ⟨rfl, N0, rfl⟩

def Q_own_lx2 (Z : State) (t : Nat) (kb : ClassId) (c0 c1 : Int32) (h0 : Heap) (n0 : Nat) (v : Option Value) (h : Heap) (L : List Loc) : Prop := ∃ r : Int32, v = some (.int r) ∧ own_IX r ([c0, c1] : List Int32) ∧ Fr n0 L ∧ h = h0
theorem ef_own_lx2 (m : MethodId) (x0 : Nat) : entryFrame m #[(.ref x0), (.int 58), (.int 0), (.int 2)] 6 = mkF m 0 #[.val (.ref x0), .val (.int 58), .val (.int 0), .val (.int 2), .unset, .unset] [] := by first | (simp [entryFrame, mkF, argsToLocals, Value.category]; done) | rfl
theorem own_lx2 (l : Launch) (Z : State) (a0 : Array Value) (hw : hWt a0 Z) (ws : List Jvm.Cond) (t : Nat) (kb : ClassId) (c0 c1 : Int32) (h0 : Heap) (n0 : Nat) (Z0 : n0 ≤ h0.size) (X00 : Old Z n0 h0) (Vt : Arv Z h0 t kb .byte (2 : Int32) [.int (c0.toInt8.toInt32), .int (c1.toInt8.toInt32)] (.int 0)) (hb0 : ¬ c0 < 0 ∧ ¬ (255 : Int32) < c0) (hb1 : ¬ c1 < 0 ∧ ¬ (255 : Int32) < c1) :
 own_MN l mN22 jdk_43_method_23_code 6 (some .int) ws rm_0_0_0_0 Z #[(.ref t), (.int 58), (.int 0), (.int 2)] h0 (Q_own_lx2 Z t kb c0 c1 h0 n0) := by
 refine own_bodyN (plainFor_of_name own_pn5) fun p e s m below meth c s₁ Bd hx hby hml hown hZ X0 e0 => ?_
 have N0 := Fr.nil n0
 have K0 : Keep h0 h0 [] := Keep.refl h0 []
 refine own_st (fun tq kq => castTop (ef_own_lx2 m (t)) kq) ?_
 show own_G p e below _ (s₁.setTop (mkF m 0 #[vR t, vI 58, vI 0, vI 2, .unset, .unset] []))
 refine s_iloadN X0 hx (hb hby dLX_0) rfl ?_
 refine own_st (fun tq kq => XS.i2b X0.here hx rfl (hb hby dLX_1) rfl kq) ?_
 refine own_st (fun tq kq => XS.istore X0.here hx rfl (hb hby dLX_2) rfl (l' := #[vR t, vI 58, vI 0, vI 2, vI 58, .unset]) rfl kq) ?_
 refine s_iloadN X0 hx (hb hby dLX_4) rfl ?_
 show own_G p e below _ (s₁.setTop (mkF m 5 #[vR t, vI 58, vI 0, vI 2, vI 58, .unset] [(.int 0)]))
 refine own_st (fun tq kq => XS.istore X0.here hx rfl (hb hby dLX_5) rfl (l' := #[vR t, vI 58, vI 0, vI 2, vI 58, vI 0]) rfl kq) ?_
 refine s_iload X0 hx (hb hby dLX_7) rfl ?_
 refine s_iloadN X0 hx (hb hby dLX_9) rfl ?_
 show own_G p e below _ (s₁.setTop (mkF m 10 #[vR t, vI 58, vI 0, vI 2, vI 58, vI 0] [(.int 2), (.int 0)]))
 refine own_st (fun tq kq => XS.icmpNo X0.here hx rfl (hb hby dLX_10) rfl (tlt (by decide : ((0 : Int32) < (2 : Int32)))).2.1 kq) ?_
 refine s_aloadN X0 hx (hb hby dLX_13) rfl rfl ?_
 refine s_iload X0 hx (hb hby dLX_14) rfl ?_
 obtain ⟨cl1, Ar1, q1, S_1, N_1, H_1, G_1⟩ := id Vt
 have in1 : ¬ ((0 : Int32) < 0 ∨ cl1.slots.size ≤ ((0 : Int32)).toNatClampNeg) := inb_of S_1 ⟨by decide, by decide⟩
 have at1 : cl1.slots[((0 : Int32)).toNatClampNeg]? = some (.int (c0.toInt8.toInt32)) := H_1.at in1 rfl
 refine own_st (fun tq kq => X0.baloadBytes hx (j := (0 : Int32)) (v := (.int (c0.toInt8.toInt32))) (by rw [e0]; exact Ar1.1) (State.isArrayOf_alike hZ.alike Ar1.2.1) Ar1.2.2 in1 at1 (g := (mkF m 16 #[vR t, vI 58, vI 0, vI 2, vI 58, vI 0] [(.int 0), (.ref t)])) rfl rfl (hb hby dLX_16) _ kq) ?_
 show own_G p e below _ (s₁.setTop (mkF m 17 #[vR t, vI 58, vI 0, vI 2, vI 58, vI 0] [(.int (c0.toInt8.toInt32))]))
 refine s_iload X0 hx (hb hby dLX_17) rfl ?_
 show own_G p e below _ (s₁.setTop (mkF m 19 #[vR t, vI 58, vI 0, vI 2, vI 58, vI 0] [(.int 58), (.int (c0.toInt8.toInt32))]))
 by_cases hc19_2 : ((c0.toInt8.toInt32) = (58 : Int32))
 ·
  refine own_st (fun tq kq => XS.icmpNo X0.here hx rfl (hb hby dLX_19) rfl (teq hc19_2).2 kq) ?_
  refine s_iload X0 hx (hb hby dLX_22) rfl ?_
  show own_G p e below _ (s₁.setTop (mkF m 24 #[vR t, vI 58, vI 0, vI 2, vI 58, vI 0] [(.int 0)]))
  obtain ⟨fs, hr, hrun, hended, hW, hsame⟩ := X0.leave (v := some (.int 0)) (fun h => by rw [Bd.returns] at h; cases h)
  refine ⟨_, _, retOut X0 hx Bd.returns rfl (Or.inl ⟨rfl, by simp, _, rfl⟩) (hb hby dLX_24) hr, hrun, hended, _, _, rfl, ?_, ⟨_, rfl⟩, hW, hsame.mono (by decide) (by decide)⟩
  change Q_own_lx2 Z t kb c0 c1 h0 n0 _ s₁.heap _; rw [e0]; exact ⟨(0 : Int32), rfl, Or.inl ⟨by decide, c0, by simp, (own_b58 hb0).mp hc19_2⟩, N0, rfl⟩
 ·
  refine own_st (fun tq kq => XS.icmpYes X0.here hx rfl (pc0 := 19) (pc' := 25) rfl (hb hby dLX_19) rfl (feq hc19_2).2 (by decide) (by decide) kq) ?_
  refine own_st (fun tq kq => XS.iinc X0.here hx rfl (hb hby dLX_25) rfl (l' := #[vR t, vI 58, vI 0, vI 2, vI 58, vI 1]) rfl kq) ?_
  refine own_st (fun tq kq => XS.goto X0.here hx rfl (pc0 := 28) (pc' := 7) rfl (hb hby dLX_28) (by decide) (by decide) kq) ?_
  refine s_iload X0 hx (hb hby dLX_7) rfl ?_
  show own_G p e below _ (s₁.setTop (mkF m 9 #[vR t, vI 58, vI 0, vI 2, vI 58, vI 1] [(.int 1)]))
  refine s_iloadN X0 hx (hb hby dLX_9) rfl ?_
  show own_G p e below _ (s₁.setTop (mkF m 10 #[vR t, vI 58, vI 0, vI 2, vI 58, vI 1] [(.int 2), (.int 1)]))
  refine own_st (fun tq kq => XS.icmpNo X0.here hx rfl (hb hby dLX_10) rfl (tlt (by decide : ((1 : Int32) < (2 : Int32)))).2.1 kq) ?_
  refine s_aloadN X0 hx (hb hby dLX_13) rfl rfl ?_
  refine s_iload X0 hx (hb hby dLX_14) rfl ?_
  obtain ⟨cl3, Ar3, q3, S_3, N_3, H_3, G_3⟩ := id Vt
  have in3 : ¬ ((1 : Int32) < 0 ∨ cl3.slots.size ≤ ((1 : Int32)).toNatClampNeg) := inb_of S_3 ⟨by decide, by decide⟩
  have at3 : cl3.slots[((1 : Int32)).toNatClampNeg]? = some (.int (c1.toInt8.toInt32)) := H_3.at in3 rfl
  refine own_st (fun tq kq => X0.baloadBytes hx (j := (1 : Int32)) (v := (.int (c1.toInt8.toInt32))) (by rw [e0]; exact Ar3.1) (State.isArrayOf_alike hZ.alike Ar3.2.1) Ar3.2.2 in3 at3 (g := (mkF m 16 #[vR t, vI 58, vI 0, vI 2, vI 58, vI 1] [(.int 1), (.ref t)])) rfl rfl (hb hby dLX_16) _ kq) ?_
  show own_G p e below _ (s₁.setTop (mkF m 17 #[vR t, vI 58, vI 0, vI 2, vI 58, vI 1] [(.int (c1.toInt8.toInt32))]))
  refine s_iload X0 hx (hb hby dLX_17) rfl ?_
  show own_G p e below _ (s₁.setTop (mkF m 19 #[vR t, vI 58, vI 0, vI 2, vI 58, vI 1] [(.int 58), (.int (c1.toInt8.toInt32))]))
  by_cases hc19_4 : ((c1.toInt8.toInt32) = (58 : Int32))
  ·
   refine own_st (fun tq kq => XS.icmpNo X0.here hx rfl (hb hby dLX_19) rfl (teq hc19_4).2 kq) ?_
   refine s_iload X0 hx (hb hby dLX_22) rfl ?_
   show own_G p e below _ (s₁.setTop (mkF m 24 #[vR t, vI 58, vI 0, vI 2, vI 58, vI 1] [(.int 1)]))
   obtain ⟨fs, hr, hrun, hended, hW, hsame⟩ := X0.leave (v := some (.int 1)) (fun h => by rw [Bd.returns] at h; cases h)
   refine ⟨_, _, retOut X0 hx Bd.returns rfl (Or.inl ⟨rfl, by simp, _, rfl⟩) (hb hby dLX_24) hr, hrun, hended, _, _, rfl, ?_, ⟨_, rfl⟩, hW, hsame.mono (by decide) (by decide)⟩
   change Q_own_lx2 Z t kb c0 c1 h0 n0 _ s₁.heap _; rw [e0]; exact ⟨(1 : Int32), rfl, Or.inl ⟨by decide, c1, by simp, (own_b58 hb1).mp hc19_4⟩, N0, rfl⟩
  ·
   refine own_st (fun tq kq => XS.icmpYes X0.here hx rfl (pc0 := 19) (pc' := 25) rfl (hb hby dLX_19) rfl (feq hc19_4).2 (by decide) (by decide) kq) ?_
   refine own_st (fun tq kq => XS.iinc X0.here hx rfl (hb hby dLX_25) rfl (l' := #[vR t, vI 58, vI 0, vI 2, vI 58, vI 2]) rfl kq) ?_
   refine own_st (fun tq kq => XS.goto X0.here hx rfl (pc0 := 28) (pc' := 7) rfl (hb hby dLX_28) (by decide) (by decide) kq) ?_
   refine s_iload X0 hx (hb hby dLX_7) rfl ?_
   show own_G p e below _ (s₁.setTop (mkF m 9 #[vR t, vI 58, vI 0, vI 2, vI 58, vI 2] [(.int 2)]))
   refine s_iloadN X0 hx (hb hby dLX_9) rfl ?_
   show own_G p e below _ (s₁.setTop (mkF m 10 #[vR t, vI 58, vI 0, vI 2, vI 58, vI 2] [(.int 2), (.int 2)]))
   refine own_st (fun tq kq => XS.icmpYes X0.here hx rfl (pc0 := 10) (pc' := 31) rfl (hb hby dLX_10) rfl (flt (by decide : ¬ ((2 : Int32) < (2 : Int32)))).2.1 (by decide) (by decide) kq) ?_
   refine s_iconst X0 hx (hb hby dLX_31) ?_
   show own_G p e below _ (s₁.setTop (mkF m 32 #[vR t, vI 58, vI 0, vI 2, vI 58, vI 2] [(.int (-1))]))
   obtain ⟨fs, hr, hrun, hended, hW, hsame⟩ := X0.leave (v := some (.int (-1))) (fun h => by rw [Bd.returns] at h; cases h)
   refine ⟨_, _, retOut X0 hx Bd.returns rfl (Or.inl ⟨rfl, by simp, _, rfl⟩) (hb hby dLX_32) hr, hrun, hended, _, _, rfl, ?_, ⟨_, rfl⟩, hW, hsame.mono (by decide) (by decide)⟩
   change Q_own_lx2 Z t kb c0 c1 h0 n0 _ s₁.heap _; rw [e0]; exact ⟨(-1 : Int32), rfl, Or.inr ⟨by decide, own_all2 (fun q => hc19_2 ((own_b58 hb0).mpr q)) (fun q => hc19_4 ((own_b58 hb1).mpr q))⟩, N0, rfl⟩

def Q_own_li2 (Z : State) (t : Nat) (kb : ClassId) (c0 c1 : Int32) (h0 : Heap) (n0 : Nat) (v : Option Value) (h : Heap) (L : List Loc) : Prop := ∃ r : Int32, v = some (.int r) ∧ own_IX r ([c0, c1] : List Int32) ∧ Fr n0 L ∧ h = h0
theorem ef_own_li2 (m : MethodId) (x0 : Nat) : entryFrame m #[(.ref x0), (.int 58), (.int 0), (.int 2)] 4 = mkF m 0 #[.val (.ref x0), .val (.int 58), .val (.int 0), .val (.int 2)] [] := by first | (simp [entryFrame, mkF, argsToLocals, Value.category]; done) | rfl
theorem own_li2 (l : Launch) (Z : State) (a0 : Array Value) (hw : hWt a0 Z) (ws : List Jvm.Cond) (t : Nat) (kb : ClassId) (c0 c1 : Int32) (h0 : Heap) (n0 : Nat) (Z0 : n0 ≤ h0.size) (X00 : Old Z n0 h0) (Vt : Arv Z h0 t kb .byte (2 : Int32) [.int (c0.toInt8.toInt32), .int (c1.toInt8.toInt32)] (.int 0)) (hb0 : ¬ c0 < 0 ∧ ¬ (255 : Int32) < c0) (hb1 : ¬ c1 < 0 ∧ ¬ (255 : Int32) < c1) :
 own_MN l mN23 jdk_43_method_22_code 4 (some .int) ws rm_1_0_0_20 Z #[(.ref t), (.int 58), (.int 0), (.int 2)] h0 (Q_own_li2 Z t kb c0 c1 h0 n0) := by
 refine own_bodyN (plainFor_of_name own_pn5) fun p e s m below meth c s₁ Bd hx hby hml hown hZ X0 e0 => ?_
 have N0 := Fr.nil n0
 have K0 : Keep h0 h0 [] := Keep.refl h0 []
 refine own_st (fun tq kq => castTop (ef_own_li2 m (t)) kq) ?_
 show own_G p e below _ (s₁.setTop (mkF m 0 #[vR t, vI 58, vI 0, vI 2] []))
 refine s_iloadN X0 hx (hb hby dLI_0) rfl ?_
 obtain ⟨_, _, ⟨T1, L1, k1, n1⟩, -, X1, ⟨Lc1, hQ1, l1, y1, z1⟩, st1⟩ := Jvm.LawKit.callS X0 hx (y := mN20) hown (mvT hZ (wd76 hw)) (mvT hZ (wd77 hw)) (mvT hZ (wd74 hw)) (mvT hZ (wd78 hw)) (by decide) (own_backN (W := 0) (own_canE l Z a0 hw []  h0 n0 (by omega) (X00.keep K0 all0) ) hZ (wd78 hw) (wd74 hw) (by decide) (by decide)) (g := (mkF m 1 #[vR t, vI 58, vI 0, vI 2] [(.int 58)])) rfl (by rw [hml]; rfl) (argsL := [(.int 58)]) (rest := []) (lenOf own_pd15 rfl) rfl (Nat.le_of_eq rfl) (hb hby dLI_1) (fun _ _ => ⟨rfl, e0, (by decide : 0 + 0 ≤ _), (by decide : 0 + 0 ≤ _)⟩)
 dsimp only [Pt.U, Pt.locs, Pt.cells, Pt.slots] at X1 l1 y1 z1 st1 hQ1
 subst l1 y1 z1
 obtain ⟨rfl, Nq1, sm1⟩ := hQ1
 have N1 := Fr.app N0 Nq1
 refine own_st st1 ?_
 refine own_st (fun tq kq => XS.ifYes X1.here hx rfl (pc0 := 4) (pc' := 9) rfl (hb hby dLI_4) rfl ((if0 _ _).trans (feq (by decide : ¬ ((1 : Int32) = (0 : Int32)))).2) (by decide) (by decide) kq) ?_
 refine s_iloadN X1 hx (hb hby dLI_9) rfl ?_
 refine s_iconst X1 hx (hb hby dLI_10) ?_
 obtain ⟨_, _, ⟨T2, L2, k2, n2⟩, -, X2, ⟨Lc2, hQ2, l2, y2, z2⟩, st2⟩ := Jvm.LawKit.callS X1 hx (y := mN19) hown (mvT hZ (wd79 hw)) (mvT hZ (wd80 hw)) (mvT hZ (wd81 hw)) (mvT hZ (wd82 hw)) (by decide) (own_backN (W := 0) (own_max l Z a0 hw []  h0 n0 (by omega) (X00.keep K0 all0) ) hZ (wd82 hw) (wd81 hw) (by decide) (by decide)) (g := (mkF m 11 #[vR t, vI 58, vI 0, vI 2] [(.int 0), (.int 0)])) rfl (by rw [hml]; rfl) (argsL := [(.int 0), (.int 0)]) (rest := []) (lenOf own_pd16 rfl) rfl (Nat.le_of_eq rfl) (hb hby dLI_11) (fun _ _ => ⟨rfl, sm1, (by decide : 0 + 0 ≤ _), (by decide : 0 + 0 ≤ _)⟩)
 dsimp only [Pt.U, Pt.locs, Pt.cells, Pt.slots] at X2 l2 y2 z2 st2 hQ2
 subst l2 y2 z2
 obtain ⟨rfl, Nq2, sm2⟩ := hQ2
 have N2 := Fr.app N1 Nq2
 refine own_st st2 ?_
 refine own_st (fun tq kq => XS.istoreN X2.here hx rfl (hb hby dLI_14) rfl (l' := #[vR t, vI 58, vI 0, vI 2]) rfl kq) ?_
 refine s_iloadN X2 hx (hb hby dLI_15) rfl ?_
 refine s_aloadN X2 hx (hb hby dLI_16) rfl rfl ?_
 obtain ⟨cl3, Ar3, q3, S_3, N_3, H_3, G_3⟩ := id Vt
 refine own_st (fun tq kq => X2.arraylength hx (by rw [sm2]; exact Ar3.1) (State.isArrayOf_alike hZ.alike Ar3.2.1) (g := (mkF m 17 #[vR t, vI 58, vI 0, vI 2] [(.ref t), (.int 2)])) rfl rfl (hb hby dLI_17) _ kq) ?_
 rw [len_of S_3 N_3]
 show own_G p e below _ (T2.setTop (mkF m 18 #[vR t, vI 58, vI 0, vI 2] [(.int 2), (.int 2)]))
 obtain ⟨_, _, ⟨T4, L4, k4, n4⟩, -, X4, ⟨Lc4, hQ4, l4, y4, z4⟩, st4⟩ := Jvm.LawKit.callS X2 hx (y := mN21) hown (mvT hZ (wd83 hw)) (mvT hZ (wd84 hw)) (mvT hZ (wd81 hw)) (mvT hZ (wd85 hw)) (by decide) (own_backN (W := 0) (own_min2 l Z a0 hw []  h0 n0 (by omega) (X00.keep K0 all0) ) hZ (wd85 hw) (wd81 hw) (by decide) (by decide)) (g := (mkF m 18 #[vR t, vI 58, vI 0, vI 2] [(.int 2), (.int 2)])) rfl (by rw [hml]; rfl) (argsL := [(.int 2), (.int 2)]) (rest := []) (lenOf own_pd16 rfl) rfl (Nat.le_of_eq rfl) (hb hby dLI_18) (fun _ _ => ⟨rfl, sm2, (by decide : 0 + 0 ≤ _), (by decide : 0 + 0 ≤ _)⟩)
 dsimp only [Pt.U, Pt.locs, Pt.cells, Pt.slots] at X4 l4 y4 z4 st4 hQ4
 subst l4 y4 z4
 obtain ⟨rfl, Nq4, sm4⟩ := hQ4
 have N4 := Fr.app N2 Nq4
 refine own_st st4 ?_
 refine own_st (fun tq kq => XS.istoreN X4.here hx rfl (hb hby dLI_21) rfl (l' := #[vR t, vI 58, vI 0, vI 2]) rfl kq) ?_
 refine s_iloadN X4 hx (hb hby dLI_22) rfl ?_
 refine s_iloadN X4 hx (hb hby dLI_23) rfl ?_
 show own_G p e below _ (T4.setTop (mkF m 24 #[vR t, vI 58, vI 0, vI 2] [(.int 2), (.int 0)]))
 refine own_st (fun tq kq => XS.icmpYes X4.here hx rfl (pc0 := 24) (pc' := 29) rfl (hb hby dLI_24) rfl (tlt (by decide : ((0 : Int32) < (2 : Int32)))).1 (by decide) (by decide) kq) ?_
 refine s_aloadN X4 hx (hb hby dLI_29) rfl rfl ?_
 refine s_iloadN X4 hx (hb hby dLI_30) rfl ?_
 refine s_iloadN X4 hx (hb hby dLI_31) rfl ?_
 show own_G p e below _ (T4.setTop (mkF m 32 #[vR t, vI 58, vI 0, vI 2] [(.int 0), (.int 58), (.ref t)]))
 refine s_iloadN X4 hx (hb hby dLI_32) rfl ?_
 obtain ⟨_, _, ⟨T5, L5, k5, n5⟩, -, X5, ⟨Lc5, hQ5, l5, y5, z5⟩, st5⟩ := Jvm.LawKit.callS X4 hx (y := mN22) hown (mvT hZ (wd86 hw)) (mvT hZ (wd87 hw)) (mvT hZ (wd74 hw)) (mvT hZ (wd88 hw)) (by decide) (own_backN (W := 0) (own_lx2 l Z a0 hw [] (t) (kb) (c0) (c1) h0 n0 (by omega) (X00.keep K0 all0) Vt hb0 hb1) hZ (wd88 hw) (wd74 hw) (by decide) (by decide)) (g := (mkF m 33 #[vR t, vI 58, vI 0, vI 2] [(.int 2), (.int 0), (.int 58), (.ref t)])) rfl (by rw [hml]; rfl) (argsL := [(.ref t), (.int 58), (.int 0), (.int 2)]) (rest := []) (lenOf own_pd17 rfl) rfl (Nat.le_of_eq rfl) (hb hby dLI_33) (fun _ _ => ⟨rfl, sm4, (by decide : 0 + 0 ≤ _), (by decide : 0 + 0 ≤ _)⟩)
 dsimp only [Pt.U, Pt.locs, Pt.cells, Pt.slots] at X5 l5 y5 z5 st5 hQ5
 subst l5 y5 z5
 obtain ⟨r5, rfl, ix5, Nq5, sm5⟩ := hQ5
 have N5 := Fr.app N4 Nq5
 refine own_st st5 ?_
 obtain ⟨fs, hr, hrun, hended, hW, hsame⟩ := X5.leave (v := some (.int r5)) (fun h => by rw [Bd.returns] at h; cases h)
 refine ⟨_, _, retOut X5 hx Bd.returns rfl (Or.inl ⟨rfl, by simp, _, rfl⟩) (hb hby dLI_36) hr, hrun, hended, _, _, rfl, ?_, ⟨_, rfl⟩, hW, hsame.mono (by decide) (by decide)⟩
 change Q_own_li2 Z t kb c0 c1 h0 n0 _ T5.heap _; rw [sm5]; exact ⟨r5, rfl, ix5, N5, rfl⟩

def Q_own_ft2N (Z : State)  (h0 : Heap) (n0 : Nat) (v : Option Value) (h : Heap) (L : List Loc) : Prop := v = some (.int (0 : Int32)) ∧ Fr n0 L ∧ h = h0
theorem ef_own_ft2N (m : MethodId)  : entryFrame m #[(.int 0), (.int 2), (.int 2), .null] 4 = mkF m 0 #[.val (.int 0), .val (.int 2), .val (.int 2), .val .null] [] := by first | (simp [entryFrame, mkF, argsToLocals, Value.category]; done) | rfl
theorem own_ft2N (l : Launch) (Z : State) (a0 : Array Value) (hw : hWt a0 Z) (ws : List Jvm.Cond)  (h0 : Heap) (n0 : Nat) (Z0 : n0 ≤ h0.size) (X00 : Old Z n0 h0)  :
 own_MN l mN24 jdk_41_method_12_code 4 (some .int) ws rm_0_0_0_0 Z #[(.int 0), (.int 2), (.int 2), .null] h0 (Q_own_ft2N Z  h0 n0) := by
 refine own_bodyN (plainFor_of_name own_pn2) fun p e s m below meth c s₁ Bd hx hby hml hown hZ X0 e0 => ?_
 have N0 := Fr.nil n0
 have K0 : Keep h0 h0 [] := Keep.refl h0 []
 refine own_st (fun tq kq => castTop (ef_own_ft2N m ) kq) ?_
 show own_G p e below _ (s₁.setTop (mkF m 0 #[vI 0, vI 2, vI 2, .val .null] []))
 refine s_iloadN X0 hx (hb hby dFT_0) rfl ?_
 show own_G p e below _ (s₁.setTop (mkF m 1 #[vI 0, vI 2, vI 2, .val .null] [(.int 0)]))
 refine own_st (fun tq kq => XS.ifNo X0.here hx rfl (hb hby dFT_1) rfl ((if0 _ _).trans (flt (by decide : ¬ ((0 : Int32) < (0 : Int32)))).1) kq) ?_
 refine s_iloadN X0 hx (hb hby dFT_4) rfl ?_
 refine s_iloadN X0 hx (hb hby dFT_5) rfl ?_
 show own_G p e below _ (s₁.setTop (mkF m 6 #[vI 0, vI 2, vI 2, .val .null] [(.int 2), (.int 0)]))
 refine own_st (fun tq kq => XS.icmpNo X0.here hx rfl (hb hby dFT_6) rfl (flt (by decide : ¬ ((2 : Int32) < (0 : Int32)))).2.2.1 kq) ?_
 refine s_iloadN X0 hx (hb hby dFT_9) rfl ?_
 refine s_iloadN X0 hx (hb hby dFT_10) rfl ?_
 show own_G p e below _ (s₁.setTop (mkF m 11 #[vI 0, vI 2, vI 2, .val .null] [(.int 2), (.int 2)]))
 refine own_st (fun tq kq => XS.icmpYes X0.here hx rfl (pc0 := 11) (pc' := 22) rfl (hb hby dFT_11) rfl (flt (by decide : ¬ ((2 : Int32) < (2 : Int32)))).2.2.2 (by decide) (by decide) kq) ?_
 refine s_iloadN X0 hx (hb hby dFT_22) rfl ?_
 show own_G p e below _ (s₁.setTop (mkF m 23 #[vI 0, vI 2, vI 2, .val .null] [(.int 0)]))
 obtain ⟨fs, hr, hrun, hended, hW, hsame⟩ := X0.leave (v := some (.int 0)) (fun h => by rw [Bd.returns] at h; cases h)
 refine ⟨_, _, retOut X0 hx Bd.returns rfl (Or.inl ⟨rfl, by simp, _, rfl⟩) (hb hby dFT_23) hr, hrun, hended, _, _, rfl, ?_, ⟨_, rfl⟩, hW, hsame.mono (by decide) (by decide)⟩
 change Q_own_ft2N Z  h0 n0 _ s₁.heap _; rw [e0]; exact ⟨rfl, N0, rfl⟩

def Q_own_ft2R (Z : State) (gf : Nat) (h0 : Heap) (n0 : Nat) (v : Option Value) (h : Heap) (L : List Loc) : Prop := v = some (.int (0 : Int32)) ∧ Fr n0 L ∧ h = h0
theorem ef_own_ft2R (m : MethodId) (x3 : Nat) : entryFrame m #[(.int 0), (.int 2), (.int 2), (.ref x3)] 4 = mkF m 0 #[.val (.int 0), .val (.int 2), .val (.int 2), .val (.ref x3)] [] := by first | (simp [entryFrame, mkF, argsToLocals, Value.category]; done) | rfl
theorem own_ft2R (l : Launch) (Z : State) (a0 : Array Value) (hw : hWt a0 Z) (ws : List Jvm.Cond) (gf : Nat) (h0 : Heap) (n0 : Nat) (Z0 : n0 ≤ h0.size) (X00 : Old Z n0 h0)  :
 own_MN l mN24 jdk_41_method_12_code 4 (some .int) ws rm_0_0_0_0 Z #[(.int 0), (.int 2), (.int 2), (.ref gf)] h0 (Q_own_ft2R Z gf h0 n0) := by
 refine own_bodyN (plainFor_of_name own_pn2) fun p e s m below meth c s₁ Bd hx hby hml hown hZ X0 e0 => ?_
 have N0 := Fr.nil n0
 have K0 : Keep h0 h0 [] := Keep.refl h0 []
 refine own_st (fun tq kq => castTop (ef_own_ft2R m (gf)) kq) ?_
 show own_G p e below _ (s₁.setTop (mkF m 0 #[vI 0, vI 2, vI 2, vR gf] []))
 refine s_iloadN X0 hx (hb hby dFT_0) rfl ?_
 show own_G p e below _ (s₁.setTop (mkF m 1 #[vI 0, vI 2, vI 2, vR gf] [(.int 0)]))
 refine own_st (fun tq kq => XS.ifNo X0.here hx rfl (hb hby dFT_1) rfl ((if0 _ _).trans (flt (by decide : ¬ ((0 : Int32) < (0 : Int32)))).1) kq) ?_
 refine s_iloadN X0 hx (hb hby dFT_4) rfl ?_
 refine s_iloadN X0 hx (hb hby dFT_5) rfl ?_
 show own_G p e below _ (s₁.setTop (mkF m 6 #[vI 0, vI 2, vI 2, vR gf] [(.int 2), (.int 0)]))
 refine own_st (fun tq kq => XS.icmpNo X0.here hx rfl (hb hby dFT_6) rfl (flt (by decide : ¬ ((2 : Int32) < (0 : Int32)))).2.2.1 kq) ?_
 refine s_iloadN X0 hx (hb hby dFT_9) rfl ?_
 refine s_iloadN X0 hx (hb hby dFT_10) rfl ?_
 show own_G p e below _ (s₁.setTop (mkF m 11 #[vI 0, vI 2, vI 2, vR gf] [(.int 2), (.int 2)]))
 refine own_st (fun tq kq => XS.icmpYes X0.here hx rfl (pc0 := 11) (pc' := 22) rfl (hb hby dFT_11) rfl (flt (by decide : ¬ ((2 : Int32) < (2 : Int32)))).2.2.2 (by decide) (by decide) kq) ?_
 refine s_iloadN X0 hx (hb hby dFT_22) rfl ?_
 show own_G p e below _ (s₁.setTop (mkF m 23 #[vI 0, vI 2, vI 2, vR gf] [(.int 0)]))
 obtain ⟨fs, hr, hrun, hended, hW, hsame⟩ := X0.leave (v := some (.int 0)) (fun h => by rw [Bd.returns] at h; cases h)
 refine ⟨_, _, retOut X0 hx Bd.returns rfl (Or.inl ⟨rfl, by simp, _, rfl⟩) (hb hby dFT_23) hr, hrun, hended, _, _, rfl, ?_, ⟨_, rfl⟩, hW, hsame.mono (by decide) (by decide)⟩
 change Q_own_ft2R Z gf h0 n0 _ s₁.heap _; rw [e0]; exact ⟨rfl, N0, rfl⟩

def Q_own_sb2 (Z : State) (fm : Value) (h0 : Heap) (n0 : Nat) (v : Option Value) (h : Heap) (L : List Loc) : Prop := v = none ∧ Fr n0 L ∧ h = h0
theorem ef_own_sb2 (m : MethodId)  : entryFrame m #[(.int 0), (.int 2), (.int 2)] 3 = mkF m 0 #[.val (.int 0), .val (.int 2), .val (.int 2)] [] := by first | (simp [entryFrame, mkF, argsToLocals, Value.category]; done) | rfl
theorem own_sb2 (l : Launch) (Z : State) (a0 : Array Value) (hw : hWt a0 Z) (ws : List Jvm.Cond) (fm : Value) (h0 : Heap) (n0 : Nat) (Z0 : n0 ≤ h0.size) (X00 : Old Z n0 h0) (O4 : o4 Z fm) (rfm : fm.isRef = true) :
 own_MN l mN25 jdk_42_method_158_code 3 none ws rm_1_0_0_20 Z #[(.int 0), (.int 2), (.int 2)] h0 (Q_own_sb2 Z fm h0 n0) := by
 refine own_bodyN (plainFor_of_name own_pn0) fun p e s m below meth c s₁ Bd hx hby hml hown hZ X0 e0 => ?_
 have N0 := Fr.nil n0
 have K0 : Keep h0 h0 [] := Keep.refl h0 []
 refine own_st (fun tq kq => castTop (ef_own_sb2 m ) kq) ?_
 show own_G p e below _ (s₁.setTop (mkF m 0 #[vI 0, vI 2, vI 2] []))
 rcases ref_cases rfm with rfl | ⟨gf, rfl⟩
 ·
  refine s_iloadN X0 hx (hb hby dSB_0) rfl ?_
  refine s_iloadN X0 hx (hb hby dSB_1) rfl ?_
  refine s_iloadN X0 hx (hb hby dSB_2) rfl ?_
  obtain ⟨T1, X1, e1, st1⟩ := getS2 X0 hx hZ hown (host := "") (Or.inl (wd105 hw)) Via.refl e0 (O4.ext (X00.keep K0 all0).2) (g := (mkF m 3 #[vI 0, vI 2, vI 2] [(.int 2), (.int 2), (.int 0)])) rfl (hb hby dSB_3)
  refine own_st st1 ?_
  obtain ⟨_, _, ⟨T2, L2, k2, n2⟩, -, X2, ⟨Lc2, hQ2, l2, y2, z2⟩, st2⟩ := Jvm.LawKit.callS X1 hx (y := mN24) hown (mvT hZ (wd147 hw)) (mvT hZ (wd148 hw)) (mvT hZ (wd106 hw)) (mvT hZ (wd149 hw)) (by decide) (own_backN (W := 0) (own_ft2N l Z a0 hw []  h0 n0 (by omega) (X00.keep K0 all0) ) hZ (wd149 hw) (wd106 hw) (by decide) (by decide)) (g := (mkF m 6 #[vI 0, vI 2, vI 2] [.null, (.int 2), (.int 2), (.int 0)])) rfl (by rw [hml]; rfl) (argsL := [(.int 0), (.int 2), (.int 2), .null]) (rest := []) (lenOf own_pd18 rfl) rfl (Nat.le_of_eq rfl) (hb hby dSB_6) (fun _ _ => ⟨rfl, e1, (by decide : 0 + 0 ≤ _), (by decide : 0 + 0 ≤ _)⟩)
  dsimp only [Pt.U, Pt.locs, Pt.cells, Pt.slots] at X2 l2 y2 z2 st2 hQ2
  subst l2 y2 z2
  obtain ⟨rfl, Nq2, sm2⟩ := hQ2
  have N2 := Fr.app N0 Nq2
  refine own_st st2 ?_
  refine own_st (fun tq kq => XS.pop X2.here hx rfl (hb hby dSB_9) rfl rfl kq) ?_
  obtain ⟨fs, hr, hrun, hended, hW, hsame⟩ := X2.leave (v := none) (fun _ => rfl)
  refine ⟨_, _, X2.returnOut hx Bd.returns (hb hby dSB_10) hr, hrun, hended, _, _, rfl, ?_, ⟨_, rfl⟩, hW, hsame.mono (by decide) (by decide)⟩
  change Q_own_sb2 Z .null h0 n0 _ T2.heap _; rw [sm2]; exact ⟨rfl, N2, rfl⟩
 ·
  refine s_iloadN X0 hx (hb hby dSB_0) rfl ?_
  refine s_iloadN X0 hx (hb hby dSB_1) rfl ?_
  refine s_iloadN X0 hx (hb hby dSB_2) rfl ?_
  show own_G p e below _ (s₁.setTop (mkF m 3 #[vI 0, vI 2, vI 2] [(.int 2), (.int 2), (.int 0)]))
  obtain ⟨T3, X3, e3, st3⟩ := getS2 X0 hx hZ hown (host := "") (Or.inl (wd105 hw)) Via.refl e0 (O4.ext (X00.keep K0 all0).2) (g := (mkF m 3 #[vI 0, vI 2, vI 2] [(.int 2), (.int 2), (.int 0)])) rfl (hb hby dSB_3)
  refine own_st st3 ?_
  obtain ⟨_, _, ⟨T4, L4, k4, n4⟩, -, X4, ⟨Lc4, hQ4, l4, y4, z4⟩, st4⟩ := Jvm.LawKit.callS X3 hx (y := mN24) hown (mvT hZ (wd147 hw)) (mvT hZ (wd148 hw)) (mvT hZ (wd106 hw)) (mvT hZ (wd149 hw)) (by decide) (own_backN (W := 0) (own_ft2R l Z a0 hw [] (gf) h0 n0 (by omega) (X00.keep K0 all0) ) hZ (wd149 hw) (wd106 hw) (by decide) (by decide)) (g := (mkF m 6 #[vI 0, vI 2, vI 2] [(.ref gf), (.int 2), (.int 2), (.int 0)])) rfl (by rw [hml]; rfl) (argsL := [(.int 0), (.int 2), (.int 2), (.ref gf)]) (rest := []) (lenOf own_pd18 rfl) rfl (Nat.le_of_eq rfl) (hb hby dSB_6) (fun _ _ => ⟨rfl, e3, (by decide : 0 + 0 ≤ _), (by decide : 0 + 0 ≤ _)⟩)
  dsimp only [Pt.U, Pt.locs, Pt.cells, Pt.slots] at X4 l4 y4 z4 st4 hQ4
  subst l4 y4 z4
  obtain ⟨rfl, Nq4, sm4⟩ := hQ4
  have N4 := Fr.app N0 Nq4
  refine own_st st4 ?_
  refine own_st (fun tq kq => XS.pop X4.here hx rfl (hb hby dSB_9) rfl rfl kq) ?_
  obtain ⟨fs, hr, hrun, hended, hW, hsame⟩ := X4.leave (v := none) (fun _ => rfl)
  refine ⟨_, _, X4.returnOut hx Bd.returns (hb hby dSB_10) hr, hrun, hended, _, _, rfl, ?_, ⟨_, rfl⟩, hW, hsame.mono (by decide) (by decide)⟩
  change Q_own_sb2 Z (.ref gf) h0 n0 _ T4.heap _; rw [sm4]; exact ⟨rfl, N4, rfl⟩

def Q_own_ub2 (Z : State) (t : Nat) (kb : ClassId) (fm : Value) (c0 c1 : Int32) (h0 : Heap) (n0 : Nat) (v : Option Value) (h : Heap) (L : List Loc) : Prop := v = none ∧ Fr n0 L ∧ h = h0
theorem ef_own_ub2 (m : MethodId) (x2 : Nat) : entryFrame m #[(.int 0), (.int 2), (.ref x2)] 3 = mkF m 0 #[.val (.int 0), .val (.int 2), .val (.ref x2)] [] := by first | (simp [entryFrame, mkF, argsToLocals, Value.category]; done) | rfl
theorem own_ub2 (l : Launch) (Z : State) (a0 : Array Value) (hw : hWt a0 Z) (ws : List Jvm.Cond) (t : Nat) (kb : ClassId) (fm : Value) (c0 c1 : Int32) (h0 : Heap) (n0 : Nat) (Z0 : n0 ≤ h0.size) (X00 : Old Z n0 h0) (O4 : o4 Z fm) (rfm : fm.isRef = true) (Vt : Arv Z h0 t kb .byte (4 : Int32) [.int (L8 c0), .int (H8 c0), .int (L8 c1), .int (H8 c1)] (.int 0)) :
 own_MN l mN26 jdk_52_method_93_code 3 none ws rm_2_0_0_40 Z #[(.int 0), (.int 2), (.ref t)] h0 (Q_own_ub2 Z t kb fm c0 c1 h0 n0) := by
 refine own_bodyN (plainFor_of_name own_pn1) fun p e s m below meth c s₁ Bd hx hby hml hown hZ X0 e0 => ?_
 have N0 := Fr.nil n0
 have K0 : Keep h0 h0 [] := Keep.refl h0 []
 refine own_st (fun tq kq => castTop (ef_own_ub2 m (t)) kq) ?_
 show own_G p e below _ (s₁.setTop (mkF m 0 #[vI 0, vI 2, vR t] []))
 refine s_iloadN X0 hx (hb hby dUB_0) rfl ?_
 refine s_iloadN X0 hx (hb hby dUB_1) rfl ?_
 refine s_aloadN X0 hx (hb hby dUB_2) rfl rfl ?_
 obtain ⟨_, _, ⟨T1, L1, k1, n1⟩, -, X1, ⟨Lc1, hQ1, l1, y1, z1⟩, st1⟩ := Jvm.LawKit.callS X0 hx (y := mN3) hown (mvT hZ (wd141 hw)) (mvT hZ (wd142 hw)) (mvT hZ (wd35 hw)) (mvT hZ (wd143 hw)) (by decide) (own_backN (W := 2) (own_ulen2 l Z a0 hw [] (t) (_) (_) h0 n0 (by omega) (X00.keep K0 all0) Vt) hZ (wd143 hw) (wd35 hw) (by decide) (by decide)) (g := (mkF m 3 #[vI 0, vI 2, vR t] [(.ref t), (.int 2), (.int 0)])) rfl (by rw [hml]; rfl) (argsL := [(.ref t)]) (rest := [(.int 2), (.int 0)]) (lenOf own_pd9 rfl) rfl (Nat.le_of_eq rfl) (hb hby dUB_3) (fun _ _ => ⟨rfl, e0, (by decide : 0 + 0 ≤ _), (by decide : 0 + 0 ≤ _)⟩)
 dsimp only [Pt.U, Pt.locs, Pt.cells, Pt.slots] at X1 l1 y1 z1 st1 hQ1
 subst l1 y1 z1
 obtain ⟨rfl, Nq1, sm1⟩ := hQ1
 have N1 := Fr.app N0 Nq1
 refine own_st st1 ?_
 obtain ⟨_, _, ⟨T2, L2, k2, n2⟩, -, X2, ⟨Lc2, hQ2, l2, y2, z2⟩, st2⟩ := Jvm.LawKit.callS X1 hx (y := mN25) hown (mvT hZ (wd144 hw)) (mvT hZ (wd145 hw)) (mvT hZ (wd3 hw)) (mvT hZ (wd146 hw)) (by decide) (own_backN (W := 0) (own_sb2 l Z a0 hw [] (fm) h0 n0 (by omega) (X00.keep K0 all0) O4 rfm) hZ (wd146 hw) (wd3 hw) (by decide) (by decide)) (g := (mkF m 6 #[vI 0, vI 2, vR t] [(.int 2), (.int 2), (.int 0)])) rfl (by rw [hml]; rfl) (argsL := [(.int 0), (.int 2), (.int 2)]) (rest := []) (lenOf own_pd19 rfl) rfl (Nat.le_of_eq rfl) (hb hby dUB_6) (fun _ _ => ⟨rfl, sm1, (by decide : 0 + 0 ≤ _), (by decide : 0 + 0 ≤ _)⟩)
 dsimp only [Pt.U, Pt.locs, Pt.cells, Pt.slots] at X2 l2 y2 z2 st2 hQ2
 subst l2 y2 z2
 obtain ⟨rfl, Nq2, sm2⟩ := hQ2
 have N2 := Fr.app N1 Nq2
 refine own_st st2 ?_
 obtain ⟨fs, hr, hrun, hended, hW, hsame⟩ := X2.leave (v := none) (fun _ => rfl)
 refine ⟨_, _, X2.returnOut hx Bd.returns (hb hby dUB_9) hr, hrun, hended, _, _, rfl, ?_, ⟨_, rfl⟩, hW, hsame.mono (by decide) (by decide)⟩
 change Q_own_ub2 Z t kb fm c0 c1 h0 n0 _ T2.heap _; rw [sm2]; exact ⟨rfl, N2, rfl⟩

def Q_own_ux2 (Z : State) (t : Nat) (kb : ClassId) (c0 c1 : Int32) (h0 : Heap) (n0 : Nat) (v : Option Value) (h : Heap) (L : List Loc) : Prop := ∃ r : Int32, v = some (.int r) ∧ own_IX r ([c0, c1] : List Int32) ∧ Fr n0 L ∧ h = h0
theorem ef_own_ux2 (m : MethodId) (x0 : Nat) : entryFrame m #[(.ref x0), (.int 58), (.int 0), (.int 2)] 5 = mkF m 0 #[.val (.ref x0), .val (.int 58), .val (.int 0), .val (.int 2), .unset] [] := by first | (simp [entryFrame, mkF, argsToLocals, Value.category]; done) | rfl
theorem own_ux2 (l : Launch) (Z : State) (a0 : Array Value) (hw : hWt a0 Z) (ws : List Jvm.Cond) (t : Nat) (kb : ClassId) (c0 c1 : Int32) (h0 : Heap) (n0 : Nat) (Z0 : n0 ≤ h0.size) (X00 : Old Z n0 h0) (OA : oA Z) (OH : oH Z) (OL : oL Z) (Vt : Arv Z h0 t kb .byte (4 : Int32) [.int (L8 c0), .int (H8 c0), .int (L8 c1), .int (H8 c1)] (.int 0)) (hb0 : ¬ c0 < 0 ∧ ¬ (65535 : Int32) < c0) (hb1 : ¬ c1 < 0 ∧ ¬ (65535 : Int32) < c1) :
 own_MN l mN27 jdk_52_method_48_code 5 (some .int) ws rm_1_0_0_20 Z #[(.ref t), (.int 58), (.int 0), (.int 2)] h0 (Q_own_ux2 Z t kb c0 c1 h0 n0) := by
 refine own_bodyN (plainFor_of_name own_pn1) fun p e s m below meth c s₁ Bd hx hby hml hown hZ X0 e0 => ?_
 have N0 := Fr.nil n0
 have K0 : Keep h0 h0 [] := Keep.refl h0 []
 refine own_st (fun tq kq => castTop (ef_own_ux2 m (t)) kq) ?_
 show own_G p e below _ (s₁.setTop (mkF m 0 #[vR t, vI 58, vI 0, vI 2, .unset] []))
 refine s_iloadN X0 hx (hb hby dUX_0) rfl ?_
 refine own_st (fun tq kq => XS.istore X0.here hx rfl (hb hby dUX_1) rfl (l' := #[vR t, vI 58, vI 0, vI 2, vI 0]) rfl kq) ?_
 refine s_iload X0 hx (hb hby dUX_3) rfl ?_
 refine s_iloadN X0 hx (hb hby dUX_5) rfl ?_
 show own_G p e below _ (s₁.setTop (mkF m 6 #[vR t, vI 58, vI 0, vI 2, vI 0] [(.int 2), (.int 0)]))
 refine own_st (fun tq kq => XS.icmpNo X0.here hx rfl (hb hby dUX_6) rfl (tlt (by decide : ((0 : Int32) < (2 : Int32)))).2.1 kq) ?_
 refine s_aloadN X0 hx (hb hby dUX_9) rfl rfl ?_
 refine s_iload X0 hx (hb hby dUX_10) rfl ?_
 obtain ⟨_, _, ⟨T1, L1, k1, n1⟩, -, X1, ⟨Lc1, hQ1, l1, y1, z1⟩, st1⟩ := Jvm.LawKit.callS X0 hx (y := mN2) hown (mvT hZ (wd126 hw)) (mvT hZ (wd127 hw)) (mvT hZ (wd35 hw)) (mvT hZ (wd128 hw)) (by decide) (own_backN (W := 0) (own_get_0 l Z a0 hw [] (t) (_) (_) (_) (_) (_) h0 n0 (by omega) (X00.keep K0 all0) OA OH OL Vt (by decide) (by decide) rfl rfl) hZ (wd128 hw) (wd35 hw) (by decide) (by decide)) (g := (mkF m 12 #[vR t, vI 58, vI 0, vI 2, vI 0] [(.int 0), (.ref t)])) rfl (by rw [hml]; rfl) (argsL := [(.ref t), (.int 0)]) (rest := []) (lenOf own_pd6 rfl) rfl (Nat.le_of_eq rfl) (hb hby dUX_12) (fun _ _ => ⟨rfl, e0, (by decide : 0 + 0 ≤ _), (by decide : 0 + 0 ≤ _)⟩)
 dsimp only [Pt.U, Pt.locs, Pt.cells, Pt.slots] at X1 l1 y1 z1 st1 hQ1
 subst l1 y1 z1
 obtain ⟨rfl, Nq1, sm1⟩ := hQ1
 have N1 := Fr.app N0 Nq1
 refine own_st st1 ?_
 refine s_iloadN X1 hx (hb hby dUX_15) rfl ?_
 show own_G p e below _ (T1.setTop (mkF m 16 #[vR t, vI 58, vI 0, vI 2, vI 0] [(.int 58), (.int (StrChars.pairCh (L8 c0) (H8 c0)))]))
 by_cases hc16_2 : ((StrChars.pairCh (L8 c0) (H8 c0)) = (58 : Int32))
 ·
  refine own_st (fun tq kq => XS.icmpNo X1.here hx rfl (hb hby dUX_16) rfl (teq hc16_2).2 kq) ?_
  refine s_iload X1 hx (hb hby dUX_19) rfl ?_
  show own_G p e below _ (T1.setTop (mkF m 21 #[vR t, vI 58, vI 0, vI 2, vI 0] [(.int 0)]))
  obtain ⟨fs, hr, hrun, hended, hW, hsame⟩ := X1.leave (v := some (.int 0)) (fun h => by rw [Bd.returns] at h; cases h)
  refine ⟨_, _, retOut X1 hx Bd.returns rfl (Or.inl ⟨rfl, by simp, _, rfl⟩) (hb hby dUX_21) hr, hrun, hended, _, _, rfl, ?_, ⟨_, rfl⟩, hW, hsame.mono (by decide) (by decide)⟩
  change Q_own_ux2 Z t kb c0 c1 h0 n0 _ T1.heap _; rw [sm1]; exact ⟨(0 : Int32), rfl, Or.inl ⟨by decide, c0, by simp, (StrChars.pair_says hb0.1 hb0.2).symm.trans hc16_2⟩, N1, rfl⟩
 ·
  refine own_st (fun tq kq => XS.icmpYes X1.here hx rfl (pc0 := 16) (pc' := 22) rfl (hb hby dUX_16) rfl (feq hc16_2).2 (by decide) (by decide) kq) ?_
  refine own_st (fun tq kq => XS.iinc X1.here hx rfl (hb hby dUX_22) rfl (l' := #[vR t, vI 58, vI 0, vI 2, vI 1]) rfl kq) ?_
  refine own_st (fun tq kq => XS.goto X1.here hx rfl (pc0 := 25) (pc' := 3) rfl (hb hby dUX_25) (by decide) (by decide) kq) ?_
  refine s_iload X1 hx (hb hby dUX_3) rfl ?_
  show own_G p e below _ (T1.setTop (mkF m 5 #[vR t, vI 58, vI 0, vI 2, vI 1] [(.int 1)]))
  refine s_iloadN X1 hx (hb hby dUX_5) rfl ?_
  show own_G p e below _ (T1.setTop (mkF m 6 #[vR t, vI 58, vI 0, vI 2, vI 1] [(.int 2), (.int 1)]))
  refine own_st (fun tq kq => XS.icmpNo X1.here hx rfl (hb hby dUX_6) rfl (tlt (by decide : ((1 : Int32) < (2 : Int32)))).2.1 kq) ?_
  refine s_aloadN X1 hx (hb hby dUX_9) rfl rfl ?_
  refine s_iload X1 hx (hb hby dUX_10) rfl ?_
  obtain ⟨_, _, ⟨T3, L3, k3, n3⟩, -, X3, ⟨Lc3, hQ3, l3, y3, z3⟩, st3⟩ := Jvm.LawKit.callS X1 hx (y := mN2) hown (mvT hZ (wd126 hw)) (mvT hZ (wd127 hw)) (mvT hZ (wd35 hw)) (mvT hZ (wd128 hw)) (by decide) (own_backN (W := 0) (own_get_1 l Z a0 hw [] (t) (_) (_) (_) (_) (_) h0 n0 (by omega) (X00.keep K0 all0) OA OH OL Vt (by decide) (by decide) rfl rfl) hZ (wd128 hw) (wd35 hw) (by decide) (by decide)) (g := (mkF m 12 #[vR t, vI 58, vI 0, vI 2, vI 1] [(.int 1), (.ref t)])) rfl (by rw [hml]; rfl) (argsL := [(.ref t), (.int 1)]) (rest := []) (lenOf own_pd6 rfl) rfl (Nat.le_of_eq rfl) (hb hby dUX_12) (fun _ _ => ⟨rfl, sm1, (by decide : 0 + 0 ≤ _), (by decide : 0 + 0 ≤ _)⟩)
  dsimp only [Pt.U, Pt.locs, Pt.cells, Pt.slots] at X3 l3 y3 z3 st3 hQ3
  subst l3 y3 z3
  obtain ⟨rfl, Nq3, sm3⟩ := hQ3
  have N3 := Fr.app N1 Nq3
  refine own_st st3 ?_
  refine s_iloadN X3 hx (hb hby dUX_15) rfl ?_
  show own_G p e below _ (T3.setTop (mkF m 16 #[vR t, vI 58, vI 0, vI 2, vI 1] [(.int 58), (.int (StrChars.pairCh (L8 c1) (H8 c1)))]))
  by_cases hc16_4 : ((StrChars.pairCh (L8 c1) (H8 c1)) = (58 : Int32))
  ·
   refine own_st (fun tq kq => XS.icmpNo X3.here hx rfl (hb hby dUX_16) rfl (teq hc16_4).2 kq) ?_
   refine s_iload X3 hx (hb hby dUX_19) rfl ?_
   show own_G p e below _ (T3.setTop (mkF m 21 #[vR t, vI 58, vI 0, vI 2, vI 1] [(.int 1)]))
   obtain ⟨fs, hr, hrun, hended, hW, hsame⟩ := X3.leave (v := some (.int 1)) (fun h => by rw [Bd.returns] at h; cases h)
   refine ⟨_, _, retOut X3 hx Bd.returns rfl (Or.inl ⟨rfl, by simp, _, rfl⟩) (hb hby dUX_21) hr, hrun, hended, _, _, rfl, ?_, ⟨_, rfl⟩, hW, hsame.mono (by decide) (by decide)⟩
   change Q_own_ux2 Z t kb c0 c1 h0 n0 _ T3.heap _; rw [sm3]; exact ⟨(1 : Int32), rfl, Or.inl ⟨by decide, c1, by simp, (StrChars.pair_says hb1.1 hb1.2).symm.trans hc16_4⟩, N3, rfl⟩
  ·
   refine own_st (fun tq kq => XS.icmpYes X3.here hx rfl (pc0 := 16) (pc' := 22) rfl (hb hby dUX_16) rfl (feq hc16_4).2 (by decide) (by decide) kq) ?_
   refine own_st (fun tq kq => XS.iinc X3.here hx rfl (hb hby dUX_22) rfl (l' := #[vR t, vI 58, vI 0, vI 2, vI 2]) rfl kq) ?_
   refine own_st (fun tq kq => XS.goto X3.here hx rfl (pc0 := 25) (pc' := 3) rfl (hb hby dUX_25) (by decide) (by decide) kq) ?_
   refine s_iload X3 hx (hb hby dUX_3) rfl ?_
   show own_G p e below _ (T3.setTop (mkF m 5 #[vR t, vI 58, vI 0, vI 2, vI 2] [(.int 2)]))
   refine s_iloadN X3 hx (hb hby dUX_5) rfl ?_
   show own_G p e below _ (T3.setTop (mkF m 6 #[vR t, vI 58, vI 0, vI 2, vI 2] [(.int 2), (.int 2)]))
   refine own_st (fun tq kq => XS.icmpYes X3.here hx rfl (pc0 := 6) (pc' := 28) rfl (hb hby dUX_6) rfl (flt (by decide : ¬ ((2 : Int32) < (2 : Int32)))).2.1 (by decide) (by decide) kq) ?_
   refine s_iconst X3 hx (hb hby dUX_28) ?_
   show own_G p e below _ (T3.setTop (mkF m 29 #[vR t, vI 58, vI 0, vI 2, vI 2] [(.int (-1))]))
   obtain ⟨fs, hr, hrun, hended, hW, hsame⟩ := X3.leave (v := some (.int (-1))) (fun h => by rw [Bd.returns] at h; cases h)
   refine ⟨_, _, retOut X3 hx Bd.returns rfl (Or.inl ⟨rfl, by simp, _, rfl⟩) (hb hby dUX_29) hr, hrun, hended, _, _, rfl, ?_, ⟨_, rfl⟩, hW, hsame.mono (by decide) (by decide)⟩
   change Q_own_ux2 Z t kb c0 c1 h0 n0 _ T3.heap _; rw [sm3]; exact ⟨(-1 : Int32), rfl, Or.inr ⟨by decide, own_all2 (fun q => hc16_2 ((StrChars.pair_says hb0.1 hb0.2).trans q)) (fun q => hc16_4 ((StrChars.pair_says hb1.1 hb1.2).trans q))⟩, N3, rfl⟩

def Q_own_uo2 (Z : State) (t : Nat) (kb : ClassId) (fm : Value) (c0 c1 : Int32) (h0 : Heap) (n0 : Nat) (v : Option Value) (h : Heap) (L : List Loc) : Prop := ∃ r : Int32, v = some (.int r) ∧ own_IX r ([c0, c1] : List Int32) ∧ Fr n0 L ∧ h = h0
theorem ef_own_uo2 (m : MethodId) (x0 : Nat) : entryFrame m #[(.ref x0), (.int 58), (.int 0), (.int 2)] 4 = mkF m 0 #[.val (.ref x0), .val (.int 58), .val (.int 0), .val (.int 2)] [] := by first | (simp [entryFrame, mkF, argsToLocals, Value.category]; done) | rfl
theorem own_uo2 (l : Launch) (Z : State) (a0 : Array Value) (hw : hWt a0 Z) (ws : List Jvm.Cond) (t : Nat) (kb : ClassId) (fm : Value) (c0 c1 : Int32) (h0 : Heap) (n0 : Nat) (Z0 : n0 ≤ h0.size) (X00 : Old Z n0 h0) (OA : oA Z) (OH : oH Z) (OL : oL Z) (O4 : o4 Z fm) (rfm : fm.isRef = true) (Vt : Arv Z h0 t kb .byte (4 : Int32) [.int (L8 c0), .int (H8 c0), .int (L8 c1), .int (H8 c1)] (.int 0)) (hb0 : ¬ c0 < 0 ∧ ¬ (65535 : Int32) < c0) (hb1 : ¬ c1 < 0 ∧ ¬ (65535 : Int32) < c1) :
 own_MN l mN28 jdk_52_method_47_code 4 (some .int) ws rm_3_0_0_60 Z #[(.ref t), (.int 58), (.int 0), (.int 2)] h0 (Q_own_uo2 Z t kb fm c0 c1 h0 n0) := by
 refine own_bodyN (plainFor_of_name own_pn1) fun p e s m below meth c s₁ Bd hx hby hml hown hZ X0 e0 => ?_
 have N0 := Fr.nil n0
 have K0 : Keep h0 h0 [] := Keep.refl h0 []
 refine own_st (fun tq kq => castTop (ef_own_uo2 m (t)) kq) ?_
 show own_G p e below _ (s₁.setTop (mkF m 0 #[vR t, vI 58, vI 0, vI 2] []))
 refine s_iloadN X0 hx (hb hby dUO_0) rfl ?_
 refine s_iloadN X0 hx (hb hby dUO_1) rfl ?_
 refine s_aloadN X0 hx (hb hby dUO_2) rfl rfl ?_
 obtain ⟨_, _, ⟨T1, L1, k1, n1⟩, -, X1, ⟨Lc1, hQ1, l1, y1, z1⟩, st1⟩ := Jvm.LawKit.callS X0 hx (y := mN26) hown (mvT hZ (wd138 hw)) (mvT hZ (wd139 hw)) (mvT hZ (wd35 hw)) (mvT hZ (wd140 hw)) (by decide) (own_backN (W := 0) (own_ub2 l Z a0 hw [] (t) (kb) (fm) (c0) (c1) h0 n0 (by omega) (X00.keep K0 all0) O4 rfm Vt) hZ (wd140 hw) (wd35 hw) (by decide) (by decide)) (g := (mkF m 3 #[vR t, vI 58, vI 0, vI 2] [(.ref t), (.int 2), (.int 0)])) rfl (by rw [hml]; rfl) (argsL := [(.int 0), (.int 2), (.ref t)]) (rest := []) (lenOf own_pd20 rfl) rfl (Nat.le_of_eq rfl) (hb hby dUO_3) (fun _ _ => ⟨rfl, e0, (by decide : 0 + 0 ≤ _), (by decide : 0 + 0 ≤ _)⟩)
 dsimp only [Pt.U, Pt.locs, Pt.cells, Pt.slots] at X1 l1 y1 z1 st1 hQ1
 subst l1 y1 z1
 obtain ⟨rfl, Nq1, sm1⟩ := hQ1
 have N1 := Fr.app N0 Nq1
 refine own_st st1 ?_
 refine s_aloadN X1 hx (hb hby dUO_6) rfl rfl ?_
 refine s_iloadN X1 hx (hb hby dUO_7) rfl ?_
 refine s_iloadN X1 hx (hb hby dUO_8) rfl ?_
 refine s_iloadN X1 hx (hb hby dUO_9) rfl ?_
 show own_G p e below _ (T1.setTop (mkF m 10 #[vR t, vI 58, vI 0, vI 2] [(.int 2), (.int 0), (.int 58), (.ref t)]))
 obtain ⟨_, _, ⟨T2, L2, k2, n2⟩, -, X2, ⟨Lc2, hQ2, l2, y2, z2⟩, st2⟩ := Jvm.LawKit.callS X1 hx (y := mN27) hown (mvT hZ (wd150 hw)) (mvT hZ (wd151 hw)) (mvT hZ (wd35 hw)) (mvT hZ (wd152 hw)) (by decide) (own_backN (W := 0) (own_ux2 l Z a0 hw [] (t) (kb) (c0) (c1) h0 n0 (by omega) (X00.keep K0 all0) OA OH OL Vt hb0 hb1) hZ (wd152 hw) (wd35 hw) (by decide) (by decide)) (g := (mkF m 10 #[vR t, vI 58, vI 0, vI 2] [(.int 2), (.int 0), (.int 58), (.ref t)])) rfl (by rw [hml]; rfl) (argsL := [(.ref t), (.int 58), (.int 0), (.int 2)]) (rest := []) (lenOf own_pd17 rfl) rfl (Nat.le_of_eq rfl) (hb hby dUO_10) (fun _ _ => ⟨rfl, sm1, (by decide : 0 + 0 ≤ _), (by decide : 0 + 0 ≤ _)⟩)
 dsimp only [Pt.U, Pt.locs, Pt.cells, Pt.slots] at X2 l2 y2 z2 st2 hQ2
 subst l2 y2 z2
 obtain ⟨r2, rfl, ix2, Nq2, sm2⟩ := hQ2
 have N2 := Fr.app N1 Nq2
 refine own_st st2 ?_
 obtain ⟨fs, hr, hrun, hended, hW, hsame⟩ := X2.leave (v := some (.int r2)) (fun h => by rw [Bd.returns] at h; cases h)
 refine ⟨_, _, retOut X2 hx Bd.returns rfl (Or.inl ⟨rfl, by simp, _, rfl⟩) (hb hby dUO_13) hr, hrun, hended, _, _, rfl, ?_, ⟨_, rfl⟩, hW, hsame.mono (by decide) (by decide)⟩
 change Q_own_uo2 Z t kb fm c0 c1 h0 n0 _ T2.heap _; rw [sm2]; exact ⟨r2, rfl, ix2, N2, rfl⟩

def Q_own_un2 (Z : State) (t : Nat) (kb : ClassId) (fm : Value) (c0 c1 : Int32) (h0 : Heap) (n0 : Nat) (v : Option Value) (h : Heap) (L : List Loc) : Prop := ∃ r : Int32, v = some (.int r) ∧ own_IX r ([c0, c1] : List Int32) ∧ Fr n0 L ∧ h = h0
theorem ef_own_un2 (m : MethodId) (x0 : Nat) : entryFrame m #[(.ref x0), (.int 58), (.int 0), (.int 2)] 4 = mkF m 0 #[.val (.ref x0), .val (.int 58), .val (.int 0), .val (.int 2)] [] := by first | (simp [entryFrame, mkF, argsToLocals, Value.category]; done) | rfl
theorem own_un2 (l : Launch) (Z : State) (a0 : Array Value) (hw : hWt a0 Z) (ws : List Jvm.Cond) (t : Nat) (kb : ClassId) (fm : Value) (c0 c1 : Int32) (h0 : Heap) (n0 : Nat) (Z0 : n0 ≤ h0.size) (X00 : Old Z n0 h0) (OA : oA Z) (OH : oH Z) (OL : oL Z) (O4 : o4 Z fm) (rfm : fm.isRef = true) (Vt : Arv Z h0 t kb .byte (4 : Int32) [.int (L8 c0), .int (H8 c0), .int (L8 c1), .int (H8 c1)] (.int 0)) (hb0 : ¬ c0 < 0 ∧ ¬ (65535 : Int32) < c0) (hb1 : ¬ c1 < 0 ∧ ¬ (65535 : Int32) < c1) :
 own_MN l mN29 jdk_52_method_40_code 4 (some .int) ws rm_4_0_0_80 Z #[(.ref t), (.int 58), (.int 0), (.int 2)] h0 (Q_own_un2 Z t kb fm c0 c1 h0 n0) := by
 refine own_bodyN (plainFor_of_name own_pn1) fun p e s m below meth c s₁ Bd hx hby hml hown hZ X0 e0 => ?_
 have N0 := Fr.nil n0
 have K0 : Keep h0 h0 [] := Keep.refl h0 []
 refine own_st (fun tq kq => castTop (ef_own_un2 m (t)) kq) ?_
 show own_G p e below _ (s₁.setTop (mkF m 0 #[vR t, vI 58, vI 0, vI 2] []))
 refine s_iloadN X0 hx (hb hby dUN_0) rfl ?_
 refine s_iconst X0 hx (hb hby dUN_1) ?_
 obtain ⟨_, _, ⟨T1, L1, k1, n1⟩, -, X1, ⟨Lc1, hQ1, l1, y1, z1⟩, st1⟩ := Jvm.LawKit.callS X0 hx (y := mN19) hown (mvT hZ (wd132 hw)) (mvT hZ (wd80 hw)) (mvT hZ (wd81 hw)) (mvT hZ (wd82 hw)) (by decide) (own_backN (W := 0) (own_max l Z a0 hw []  h0 n0 (by omega) (X00.keep K0 all0) ) hZ (wd82 hw) (wd81 hw) (by decide) (by decide)) (g := (mkF m 2 #[vR t, vI 58, vI 0, vI 2] [(.int 0), (.int 0)])) rfl (by rw [hml]; rfl) (argsL := [(.int 0), (.int 0)]) (rest := []) (lenOf own_pd16 rfl) rfl (Nat.le_of_eq rfl) (hb hby dUN_2) (fun _ _ => ⟨rfl, e0, (by decide : 0 + 0 ≤ _), (by decide : 0 + 0 ≤ _)⟩)
 dsimp only [Pt.U, Pt.locs, Pt.cells, Pt.slots] at X1 l1 y1 z1 st1 hQ1
 subst l1 y1 z1
 obtain ⟨rfl, Nq1, sm1⟩ := hQ1
 have N1 := Fr.app N0 Nq1
 refine own_st st1 ?_
 refine own_st (fun tq kq => XS.istoreN X1.here hx rfl (hb hby dUN_5) rfl (l' := #[vR t, vI 58, vI 0, vI 2]) rfl kq) ?_
 refine s_iloadN X1 hx (hb hby dUN_6) rfl ?_
 refine s_aloadN X1 hx (hb hby dUN_7) rfl rfl ?_
 obtain ⟨cl2, Ar2, q2, S_2, N_2, H_2, G_2⟩ := id Vt
 refine own_st (fun tq kq => X1.arraylength hx (by rw [sm1]; exact Ar2.1) (State.isArrayOf_alike hZ.alike Ar2.2.1) (g := (mkF m 8 #[vR t, vI 58, vI 0, vI 2] [(.ref t), (.int 2)])) rfl rfl (hb hby dUN_8) _ kq) ?_
 rw [len_of S_2 N_2]
 show own_G p e below _ (T1.setTop (mkF m 9 #[vR t, vI 58, vI 0, vI 2] [(.int 4), (.int 2)]))
 refine s_iconst X1 hx (hb hby dUN_9) ?_
 refine own_st (fun tq kq => XS.ishr X1.here hx rfl (hb hby dUN_10) rfl kq) ?_
 obtain ⟨_, _, ⟨T3, L3, k3, n3⟩, -, X3, ⟨Lc3, hQ3, l3, y3, z3⟩, st3⟩ := Jvm.LawKit.callS X1 hx (y := mN21) hown (mvT hZ (wd133 hw)) (mvT hZ (wd84 hw)) (mvT hZ (wd81 hw)) (mvT hZ (wd85 hw)) (by decide) (own_backN (W := 0) (own_min2 l Z a0 hw []  h0 n0 (by omega) (X00.keep K0 all0) ) hZ (wd85 hw) (wd81 hw) (by decide) (by decide)) (g := (mkF m 11 #[vR t, vI 58, vI 0, vI 2] [(.int 2), (.int 2)])) rfl (by rw [hml]; rfl) (argsL := [(.int 2), (.int 2)]) (rest := []) (lenOf own_pd16 rfl) rfl (Nat.le_of_eq rfl) (hb hby dUN_11) (fun _ _ => ⟨rfl, sm1, (by decide : 0 + 0 ≤ _), (by decide : 0 + 0 ≤ _)⟩)
 dsimp only [Pt.U, Pt.locs, Pt.cells, Pt.slots] at X3 l3 y3 z3 st3 hQ3
 subst l3 y3 z3
 obtain ⟨rfl, Nq3, sm3⟩ := hQ3
 have N3 := Fr.app N1 Nq3
 refine own_st st3 ?_
 refine own_st (fun tq kq => XS.istoreN X3.here hx rfl (hb hby dUN_14) rfl (l' := #[vR t, vI 58, vI 0, vI 2]) rfl kq) ?_
 refine s_iloadN X3 hx (hb hby dUN_15) rfl ?_
 refine s_iloadN X3 hx (hb hby dUN_16) rfl ?_
 show own_G p e below _ (T3.setTop (mkF m 17 #[vR t, vI 58, vI 0, vI 2] [(.int 2), (.int 0)]))
 refine own_st (fun tq kq => XS.icmpYes X3.here hx rfl (pc0 := 17) (pc' := 22) rfl (hb hby dUN_17) rfl (tlt (by decide : ((0 : Int32) < (2 : Int32)))).1 (by decide) (by decide) kq) ?_
 refine s_iloadN X3 hx (hb hby dUN_22) rfl ?_
 refine own_st (fun tq kq => X3.ldcInt hx hown (mvT hZ (wd134 hw)) (g := (mkF m 23 #[vR t, vI 58, vI 0, vI 2] [(.int 58)])) rfl (hb hby dUN_23) _ kq) ?_
 show own_G p e below _ (T3.setTop (mkF m 25 #[vR t, vI 58, vI 0, vI 2] [(.int 65536), (.int 58)]))
 refine own_st (fun tq kq => XS.icmpNo X3.here hx rfl (hb hby dUN_25) rfl (tlt (by decide : ((58 : Int32) < (65536 : Int32)))).2.1 kq) ?_
 refine s_aloadN X3 hx (hb hby dUN_28) rfl rfl ?_
 refine s_iloadN X3 hx (hb hby dUN_29) rfl ?_
 refine s_iloadN X3 hx (hb hby dUN_30) rfl ?_
 show own_G p e below _ (T3.setTop (mkF m 31 #[vR t, vI 58, vI 0, vI 2] [(.int 0), (.int 58), (.ref t)]))
 refine s_iloadN X3 hx (hb hby dUN_31) rfl ?_
 obtain ⟨_, _, ⟨T4, L4, k4, n4⟩, -, X4, ⟨Lc4, hQ4, l4, y4, z4⟩, st4⟩ := Jvm.LawKit.callS X3 hx (y := mN28) hown (mvT hZ (wd135 hw)) (mvT hZ (wd136 hw)) (mvT hZ (wd35 hw)) (mvT hZ (wd137 hw)) (by decide) (own_backN (W := 0) (own_uo2 l Z a0 hw [] (t) (kb) (fm) (c0) (c1) h0 n0 (by omega) (X00.keep K0 all0) OA OH OL O4 rfm Vt hb0 hb1) hZ (wd137 hw) (wd35 hw) (by decide) (by decide)) (g := (mkF m 32 #[vR t, vI 58, vI 0, vI 2] [(.int 2), (.int 0), (.int 58), (.ref t)])) rfl (by rw [hml]; rfl) (argsL := [(.ref t), (.int 58), (.int 0), (.int 2)]) (rest := []) (lenOf own_pd17 rfl) rfl (Nat.le_of_eq rfl) (hb hby dUN_32) (fun _ _ => ⟨rfl, sm3, (by decide : 0 + 0 ≤ _), (by decide : 0 + 0 ≤ _)⟩)
 dsimp only [Pt.U, Pt.locs, Pt.cells, Pt.slots] at X4 l4 y4 z4 st4 hQ4
 subst l4 y4 z4
 obtain ⟨r4, rfl, ix4, Nq4, sm4⟩ := hQ4
 have N4 := Fr.app N3 Nq4
 refine own_st st4 ?_
 obtain ⟨fs, hr, hrun, hended, hW, hsame⟩ := X4.leave (v := some (.int r4)) (fun h => by rw [Bd.returns] at h; cases h)
 refine ⟨_, _, retOut X4 hx Bd.returns rfl (Or.inl ⟨rfl, by simp, _, rfl⟩) (hb hby dUN_35) hr, hrun, hended, _, _, rfl, ?_, ⟨_, rfl⟩, hW, hsame.mono (by decide) (by decide)⟩
 change Q_own_un2 Z t kb fm c0 c1 h0 n0 _ T4.heap _; rw [sm4]; exact ⟨r4, rfl, ix4, N4, rfl⟩

def Q_own_j2_2_0 (Z : State) (x t nb : Nat) (kb : ClassId) (fm : Value) (G1 : Int32) (c0 c1 : Int32) (h0 : Heap) (n0 : Nat) (v : Option Value) (h : Heap) (L : List Loc) : Prop := ∃ r : Int32, v = some (.int r) ∧ own_IX r ([c0, c1] : List Int32) ∧ Fr n0 L ∧ h = h0
theorem ef_own_j2_2_0 (m : MethodId) (x0 : Nat) : entryFrame m #[(.ref x0), (.int 58), (.int 0)] 3 = mkF m 0 #[.val (.ref x0), .val (.int 58), .val (.int 0)] [] := by first | (simp [entryFrame, mkF, argsToLocals, Value.category]; done) | rfl
theorem own_j2_2_0 (l : Launch) (Z : State) (a0 : Array Value) (hw : hWt a0 Z) (ws : List Jvm.Cond) (x t nb : Nat) (kb : ClassId) (fm : Value) (G1 : Int32) (c0 c1 : Int32) (h0 : Heap) (n0 : Nat) (Z0 : n0 ≤ h0.size) (X00 : Old Z n0 h0) (Ex : Exa Z h0 x "java/lang/String") (Fv : Fld Z h0 x "java/lang/String" "value" "[B" (.ref t)) (Fc : Fld Z h0 x "java/lang/String" "coder" "B" (.int (0 : Int32))) (Sx : own_StrU Z nb h0 x ([c0, c1] : List Int32)) (O2 : Sta Z Z.heap "java/lang/String" "COMPACT_STRINGS" "Z" (.int G1)) (P5 : ¬ (G1 = (0 : Int32))) (OA : oA Z) (OH : oH Z) (OL : oL Z) (O4 : o4 Z fm) (rfm : fm.isRef = true) (Vt : Arv Z h0 t kb .byte (2 : Int32) [.int (c0.toInt8.toInt32), .int (c1.toInt8.toInt32)] (.int 0)) (hb0 : ¬ c0 < 0 ∧ ¬ (255 : Int32) < c0) (hb1 : ¬ c1 < 0 ∧ ¬ (255 : Int32) < c1) :
 own_MN l mN30 jdk_42_method_80_code 3 (some .int) ws rm_5_0_0_100 Z #[(.ref x), (.int 58), (.int 0)] h0 (Q_own_j2_2_0 Z x t nb kb fm G1 c0 c1 h0 n0) := by
 refine own_bodyN (plainFor_of_name own_pn0) fun p e s m below meth c s₁ Bd hx hby hml hown hZ X0 e0 => ?_
 have N0 := Fr.nil n0
 have K0 : Keep h0 h0 [] := Keep.refl h0 []
 refine own_st (fun tq kq => castTop (ef_own_j2_2_0 m (x)) kq) ?_
 show own_G p e below _ (s₁.setTop (mkF m 0 #[vR x, vI 58, vI 0] []))
 refine s_aloadN X0 hx (hb hby dJ2_0) rfl rfl ?_
 obtain ⟨cq1, kq1, q1a, q1b, q1c⟩ := isOf hZ e0 Ex
 obtain ⟨_, _, ⟨T1, L1, k1, n1⟩, -, X1, ⟨Lc1, hQ1, l1, y1, z1⟩, st1⟩ := X0.virtualBack hx (y := mN13) (z := mN13) hown (mvT hZ (wd57 hw)) (mvT hZ (wd58 hw)) (notFace_of_selects (args := #[]) (mvT hZ (wd60 hw))) (mvT hZ (wd60 hw)) (mvT hZ (wd59 hw)) (by decide) (own_backN (W := 0) (own_isL0 l Z a0 hw [] (x) (G1) h0 n0 (by omega) (X00.keep K0 all0) Fc O2 P5) hZ (wd61 hw) (wd3 hw) (by decide) (by decide)) q1a q1c (g := (mkF m 1 #[vR x, vI 58, vI 0] [(.ref x)])) rfl (by rw [hml]; rfl) (Steps.refl _) (argsL := []) (rest := []) (lenOf own_pd12 rfl) rfl (Nat.le_of_eq rfl) (hb hby dJ2_1) (fun _ _ => ⟨rfl, e0, (by decide : 0 + 0 ≤ _), (by decide : 0 + 0 ≤ _)⟩)
 dsimp only [Pt.U, Pt.locs, Pt.cells, Pt.slots] at X1 l1 y1 z1 st1 hQ1
 subst l1 y1 z1
 obtain ⟨rfl, Nq1, sm1⟩ := hQ1
 have N1 := Fr.app N0 Nq1
 refine own_st (fun tq kq => st1.trans kq) ?_
 refine own_st (fun tq kq => XS.ifNo X1.here hx rfl (hb hby dJ2_4) rfl ((if0 _ _).trans (feq (by decide : ¬ ((1 : Int32) = (0 : Int32)))).1) kq) ?_
 refine s_aloadN X1 hx (hb hby dJ2_7) rfl rfl ?_
 obtain ⟨T2, X2, e2, st2⟩ := getF X1 hx hZ hown (host := "") (Or.inl (wd21 hw)) Via.refl sm1 Fv (g := (mkF m 8 #[vR x, vI 58, vI 0] [(.ref x)])) rfl rfl (hb hby dJ2_8)
 refine own_st st2 ?_
 refine s_iloadN X2 hx (hb hby dJ2_11) rfl ?_
 refine s_iloadN X2 hx (hb hby dJ2_12) rfl ?_
 refine s_aloadN X2 hx (hb hby dJ2_13) rfl rfl ?_
 obtain ⟨-, E_3, hb_3, ln_3, t_3, kb_3, cd_3, N2_3, vs_3, -, V_3, C_3, A_3, hc_3⟩ := id Sx
 obtain ⟨cq3, kq3, q3a, q3b, q3c⟩ := isOf hZ e2 Ex
 obtain ⟨_, _, ⟨T3, L3, k3, n3⟩, -, X3, ⟨Lc3, hQ3, l3, y3, z3⟩, st3⟩ := X2.virtualBack hx (y := mN18) (z := mN18) hown (mvT hZ (wd62 hw)) (mvT hZ (wd63 hw)) (notFace_of_selects (args := #[]) (mvT hZ (wd65 hw))) (mvT hZ (wd65 hw)) (mvT hZ (wd64 hw)) (by decide) (StrChars.Road.lenW (W := 3) hZ (own_wLen hw) (kI := 4) (wd2 hw) E_3 V_3 C_3 A_3 hc_3 hb_3 (O2.ext (X00.keep K0 all0).2) P5 ln_3 (by decide) (by decide)) q3a q3c (g := (mkF m 14 #[vR x, vI 58, vI 0] [(.ref x), (.int 0), (.int 58), (.ref t)])) rfl (by rw [hml]; rfl) (Steps.refl _) (argsL := []) (rest := [(.int 0), (.int 58), (.ref t)]) (lenOf own_pd13 rfl) rfl (Nat.le_of_eq rfl) (hb hby dJ2_14) (fun _ _ => ⟨rfl, e2, (by decide : 0 + 0 ≤ _), (by decide : 0 + 0 ≤ _)⟩)
 dsimp only [Pt.U, Pt.locs, Pt.cells, Pt.slots] at X3 l3 y3 z3 st3 hQ3
 subst l3 y3 z3
 obtain ⟨rfl, rfl, sm3⟩ := hQ3
 have N3 := Fr.app N1 (Fr.nil n0)
 refine own_st (fun tq kq => st3.trans kq) ?_
 obtain ⟨_, _, ⟨T4, L4, k4, n4⟩, -, X4, ⟨Lc4, hQ4, l4, y4, z4⟩, st4⟩ := Jvm.LawKit.callS X3 hx (y := mN23) hown (mvT hZ (wd72 hw)) (mvT hZ (wd73 hw)) (mvT hZ (wd74 hw)) (mvT hZ (wd75 hw)) (by decide) (own_backN (W := 0) (own_li2 l Z a0 hw [] (t) (kb) (c0) (c1) h0 n0 (by omega) (X00.keep K0 all0) Vt hb0 hb1) hZ (wd75 hw) (wd74 hw) (by decide) (by decide)) (g := (mkF m 17 #[vR x, vI 58, vI 0] [(.int 2), (.int 0), (.int 58), (.ref t)])) rfl (by rw [hml]; rfl) (argsL := [(.ref t), (.int 58), (.int 0), (.int 2)]) (rest := []) (lenOf own_pd17 rfl) rfl (Nat.le_of_eq rfl) (hb hby dJ2_17) (fun _ _ => ⟨rfl, sm3, (by decide : 0 + 0 ≤ _), (by decide : 0 + 0 ≤ _)⟩)
 dsimp only [Pt.U, Pt.locs, Pt.cells, Pt.slots] at X4 l4 y4 z4 st4 hQ4
 subst l4 y4 z4
 obtain ⟨r4, rfl, ix4, Nq4, sm4⟩ := hQ4
 have N4 := Fr.app N3 Nq4
 refine own_st st4 ?_
 refine own_st (fun tq kq => XS.goto X4.here hx rfl (pc0 := 20) (pc' := 36) rfl (hb hby dJ2_20) (by decide) (by decide) kq) ?_
 show own_G p e below _ (T4.setTop (mkF m 36 #[vR x, vI 58, vI 0] [(.int r4)]))
 obtain ⟨fs, hr, hrun, hended, hW, hsame⟩ := X4.leave (v := some (.int r4)) (fun h => by rw [Bd.returns] at h; cases h)
 refine ⟨_, _, retOut X4 hx Bd.returns rfl (Or.inl ⟨rfl, by simp, _, rfl⟩) (hb hby dJ2_36) hr, hrun, hended, _, _, rfl, ?_, ⟨_, rfl⟩, hW, hsame.mono (by decide) (by decide)⟩
 change Q_own_j2_2_0 Z x t nb kb fm G1 c0 c1 h0 n0 _ T4.heap _; rw [sm4]; exact ⟨r4, rfl, ix4, N4, rfl⟩

def Q_own_j1_2_0 (Z : State) (x t nb : Nat) (kb : ClassId) (fm : Value) (G1 : Int32) (c0 c1 : Int32) (h0 : Heap) (n0 : Nat) (v : Option Value) (h : Heap) (L : List Loc) : Prop := ∃ r : Int32, v = some (.int r) ∧ own_IX r ([c0, c1] : List Int32) ∧ Fr n0 L ∧ h = h0
theorem ef_own_j1_2_0 (m : MethodId) (x0 : Nat) : entryFrame m #[(.ref x0), (.int 58)] 2 = mkF m 0 #[.val (.ref x0), .val (.int 58)] [] := by first | (simp [entryFrame, mkF, argsToLocals, Value.category]; done) | rfl
theorem own_j1_2_0 (l : Launch) (Z : State) (a0 : Array Value) (hw : hWt a0 Z) (ws : List Jvm.Cond) (x t nb : Nat) (kb : ClassId) (fm : Value) (G1 : Int32) (c0 c1 : Int32) (h0 : Heap) (n0 : Nat) (Z0 : n0 ≤ h0.size) (X00 : Old Z n0 h0) (Ex : Exa Z h0 x "java/lang/String") (Fv : Fld Z h0 x "java/lang/String" "value" "[B" (.ref t)) (Fc : Fld Z h0 x "java/lang/String" "coder" "B" (.int (0 : Int32))) (Sx : own_StrU Z nb h0 x ([c0, c1] : List Int32)) (O2 : Sta Z Z.heap "java/lang/String" "COMPACT_STRINGS" "Z" (.int G1)) (P5 : ¬ (G1 = (0 : Int32))) (OA : oA Z) (OH : oH Z) (OL : oL Z) (O4 : o4 Z fm) (rfm : fm.isRef = true) (Vt : Arv Z h0 t kb .byte (2 : Int32) [.int (c0.toInt8.toInt32), .int (c1.toInt8.toInt32)] (.int 0)) (hb0 : ¬ c0 < 0 ∧ ¬ (255 : Int32) < c0) (hb1 : ¬ c1 < 0 ∧ ¬ (255 : Int32) < c1) :
 own_MN l mN31 jdk_42_method_79_code 2 (some .int) ws rm_6_0_0_120 Z #[(.ref x), (.int 58)] h0 (Q_own_j1_2_0 Z x t nb kb fm G1 c0 c1 h0 n0) := by
 refine own_bodyN (plainFor_of_name own_pn0) fun p e s m below meth c s₁ Bd hx hby hml hown hZ X0 e0 => ?_
 have N0 := Fr.nil n0
 have K0 : Keep h0 h0 [] := Keep.refl h0 []
 refine own_st (fun tq kq => castTop (ef_own_j1_2_0 m (x)) kq) ?_
 show own_G p e below _ (s₁.setTop (mkF m 0 #[vR x, vI 58] []))
 refine s_aloadN X0 hx (hb hby dJ1_0) rfl rfl ?_
 refine s_iloadN X0 hx (hb hby dJ1_1) rfl ?_
 refine s_iconst X0 hx (hb hby dJ1_2) ?_
 obtain ⟨cq1, kq1, q1a, q1b, q1c⟩ := isOf hZ e0 Ex
 obtain ⟨_, _, ⟨T1, L1, k1, n1⟩, -, X1, ⟨Lc1, hQ1, l1, y1, z1⟩, st1⟩ := X0.virtualBack hx (y := mN30) (z := mN30) hown (mvT hZ (wd52 hw)) (mvT hZ (wd53 hw)) (notFace_of_selects (args := #[]) (mvT hZ (wd55 hw))) (mvT hZ (wd55 hw)) (mvT hZ (wd54 hw)) (by decide) (own_backN (W := 0) (own_j2_2_0 l Z a0 hw [] (x) (t) (nb) (kb) (fm) (G1) (c0) (c1) h0 n0 (by omega) (X00.keep K0 all0) Ex Fv Fc Sx O2 P5 OA OH OL O4 rfm Vt hb0 hb1) hZ (wd56 hw) (wd3 hw) (by decide) (by decide)) q1a q1c (g := (mkF m 3 #[vR x, vI 58] [(.int 0), (.int 58), (.ref x)])) rfl (by rw [hml]; rfl) (Steps.refl _) (argsL := [(.int 58), (.int 0)]) (rest := []) (lenOf own_pd16 rfl) rfl (Nat.le_of_eq rfl) (hb hby dJ1_3) (fun _ _ => ⟨rfl, e0, (by decide : 0 + 0 ≤ _), (by decide : 0 + 0 ≤ _)⟩)
 dsimp only [Pt.U, Pt.locs, Pt.cells, Pt.slots] at X1 l1 y1 z1 st1 hQ1
 subst l1 y1 z1
 obtain ⟨r1, rfl, ix1, Nq1, sm1⟩ := hQ1
 have N1 := Fr.app N0 Nq1
 refine own_st (fun tq kq => st1.trans kq) ?_
 obtain ⟨fs, hr, hrun, hended, hW, hsame⟩ := X1.leave (v := some (.int r1)) (fun h => by rw [Bd.returns] at h; cases h)
 refine ⟨_, _, retOut X1 hx Bd.returns rfl (Or.inl ⟨rfl, by simp, _, rfl⟩) (hb hby dJ1_6) hr, hrun, hended, _, _, rfl, ?_, ⟨_, rfl⟩, hW, hsame.mono (by decide) (by decide)⟩
 change Q_own_j1_2_0 Z x t nb kb fm G1 c0 c1 h0 n0 _ T1.heap _; rw [sm1]; exact ⟨r1, rfl, ix1, N1, rfl⟩

def Q_own_j2_2_1 (Z : State) (x t nb : Nat) (kb : ClassId) (fm : Value) (G1 : Int32) (c0 c1 : Int32) (h0 : Heap) (n0 : Nat) (v : Option Value) (h : Heap) (L : List Loc) : Prop := ∃ r : Int32, v = some (.int r) ∧ own_IX r ([c0, c1] : List Int32) ∧ Fr n0 L ∧ h = h0
theorem ef_own_j2_2_1 (m : MethodId) (x0 : Nat) : entryFrame m #[(.ref x0), (.int 58), (.int 0)] 3 = mkF m 0 #[.val (.ref x0), .val (.int 58), .val (.int 0)] [] := by first | (simp [entryFrame, mkF, argsToLocals, Value.category]; done) | rfl
theorem own_j2_2_1 (l : Launch) (Z : State) (a0 : Array Value) (hw : hWt a0 Z) (ws : List Jvm.Cond) (x t nb : Nat) (kb : ClassId) (fm : Value) (G1 : Int32) (c0 c1 : Int32) (h0 : Heap) (n0 : Nat) (Z0 : n0 ≤ h0.size) (X00 : Old Z n0 h0) (Ex : Exa Z h0 x "java/lang/String") (Fv : Fld Z h0 x "java/lang/String" "value" "[B" (.ref t)) (Fc : Fld Z h0 x "java/lang/String" "coder" "B" (.int (1 : Int32))) (Sx : own_StrU Z nb h0 x ([c0, c1] : List Int32)) (O2 : Sta Z Z.heap "java/lang/String" "COMPACT_STRINGS" "Z" (.int G1)) (P5 : ¬ (G1 = (0 : Int32))) (OA : oA Z) (OH : oH Z) (OL : oL Z) (O4 : o4 Z fm) (rfm : fm.isRef = true) (Vt : Arv Z h0 t kb .byte (4 : Int32) [.int (L8 c0), .int (H8 c0), .int (L8 c1), .int (H8 c1)] (.int 0)) (hb0 : ¬ c0 < 0 ∧ ¬ (65535 : Int32) < c0) (hb1 : ¬ c1 < 0 ∧ ¬ (65535 : Int32) < c1) :
 own_MN l mN30 jdk_42_method_80_code 3 (some .int) ws rm_5_0_0_100 Z #[(.ref x), (.int 58), (.int 0)] h0 (Q_own_j2_2_1 Z x t nb kb fm G1 c0 c1 h0 n0) := by
 refine own_bodyN (plainFor_of_name own_pn0) fun p e s m below meth c s₁ Bd hx hby hml hown hZ X0 e0 => ?_
 have N0 := Fr.nil n0
 have K0 : Keep h0 h0 [] := Keep.refl h0 []
 refine own_st (fun tq kq => castTop (ef_own_j2_2_1 m (x)) kq) ?_
 show own_G p e below _ (s₁.setTop (mkF m 0 #[vR x, vI 58, vI 0] []))
 refine s_aloadN X0 hx (hb hby dJ2_0) rfl rfl ?_
 obtain ⟨cq1, kq1, q1a, q1b, q1c⟩ := isOf hZ e0 Ex
 obtain ⟨_, _, ⟨T1, L1, k1, n1⟩, -, X1, ⟨Lc1, hQ1, l1, y1, z1⟩, st1⟩ := X0.virtualBack hx (y := mN13) (z := mN13) hown (mvT hZ (wd57 hw)) (mvT hZ (wd58 hw)) (notFace_of_selects (args := #[]) (mvT hZ (wd60 hw))) (mvT hZ (wd60 hw)) (mvT hZ (wd59 hw)) (by decide) (own_backN (W := 0) (own_isL l Z a0 hw [] (x) (G1) h0 n0 (by omega) (X00.keep K0 all0) Fc O2 P5) hZ (wd61 hw) (wd3 hw) (by decide) (by decide)) q1a q1c (g := (mkF m 1 #[vR x, vI 58, vI 0] [(.ref x)])) rfl (by rw [hml]; rfl) (Steps.refl _) (argsL := []) (rest := []) (lenOf own_pd12 rfl) rfl (Nat.le_of_eq rfl) (hb hby dJ2_1) (fun _ _ => ⟨rfl, e0, (by decide : 0 + 0 ≤ _), (by decide : 0 + 0 ≤ _)⟩)
 dsimp only [Pt.U, Pt.locs, Pt.cells, Pt.slots] at X1 l1 y1 z1 st1 hQ1
 subst l1 y1 z1
 obtain ⟨rfl, Nq1, sm1⟩ := hQ1
 have N1 := Fr.app N0 Nq1
 refine own_st (fun tq kq => st1.trans kq) ?_
 refine own_st (fun tq kq => XS.ifYes X1.here hx rfl (pc0 := 4) (pc' := 23) rfl (hb hby dJ2_4) rfl ((if0 _ _).trans (teq (by decide : ((0 : Int32) = (0 : Int32)))).1) (by decide) (by decide) kq) ?_
 refine s_aloadN X1 hx (hb hby dJ2_23) rfl rfl ?_
 obtain ⟨T2, X2, e2, st2⟩ := getF X1 hx hZ hown (host := "") (Or.inl (wd21 hw)) Via.refl sm1 Fv (g := (mkF m 24 #[vR x, vI 58, vI 0] [(.ref x)])) rfl rfl (hb hby dJ2_24)
 refine own_st st2 ?_
 refine s_iloadN X2 hx (hb hby dJ2_27) rfl ?_
 refine s_iloadN X2 hx (hb hby dJ2_28) rfl ?_
 refine s_aloadN X2 hx (hb hby dJ2_29) rfl rfl ?_
 obtain ⟨-, E_3, hb_3, ln_3, t_3, kb_3, cd_3, N2_3, vs_3, -, V_3, C_3, A_3, hc_3⟩ := id Sx
 obtain ⟨cq3, kq3, q3a, q3b, q3c⟩ := isOf hZ e2 Ex
 obtain ⟨_, _, ⟨T3, L3, k3, n3⟩, -, X3, ⟨Lc3, hQ3, l3, y3, z3⟩, st3⟩ := X2.virtualBack hx (y := mN18) (z := mN18) hown (mvT hZ (wd62 hw)) (mvT hZ (wd63 hw)) (notFace_of_selects (args := #[]) (mvT hZ (wd65 hw))) (mvT hZ (wd65 hw)) (mvT hZ (wd64 hw)) (by decide) (StrChars.Road.lenW (W := 3) hZ (own_wLen hw) (kI := 4) (wd2 hw) E_3 V_3 C_3 A_3 hc_3 hb_3 (O2.ext (X00.keep K0 all0).2) P5 ln_3 (by decide) (by decide)) q3a q3c (g := (mkF m 30 #[vR x, vI 58, vI 0] [(.ref x), (.int 0), (.int 58), (.ref t)])) rfl (by rw [hml]; rfl) (Steps.refl _) (argsL := []) (rest := [(.int 0), (.int 58), (.ref t)]) (lenOf own_pd13 rfl) rfl (Nat.le_of_eq rfl) (hb hby dJ2_30) (fun _ _ => ⟨rfl, e2, (by decide : 0 + 0 ≤ _), (by decide : 0 + 0 ≤ _)⟩)
 dsimp only [Pt.U, Pt.locs, Pt.cells, Pt.slots] at X3 l3 y3 z3 st3 hQ3
 subst l3 y3 z3
 obtain ⟨rfl, rfl, sm3⟩ := hQ3
 have N3 := Fr.app N1 (Fr.nil n0)
 refine own_st (fun tq kq => st3.trans kq) ?_
 obtain ⟨_, _, ⟨T4, L4, k4, n4⟩, -, X4, ⟨Lc4, hQ4, l4, y4, z4⟩, st4⟩ := Jvm.LawKit.callS X3 hx (y := mN29) hown (mvT hZ (wd129 hw)) (mvT hZ (wd130 hw)) (mvT hZ (wd35 hw)) (mvT hZ (wd131 hw)) (by decide) (own_backN (W := 0) (own_un2 l Z a0 hw [] (t) (kb) (fm) (c0) (c1) h0 n0 (by omega) (X00.keep K0 all0) OA OH OL O4 rfm Vt hb0 hb1) hZ (wd131 hw) (wd35 hw) (by decide) (by decide)) (g := (mkF m 33 #[vR x, vI 58, vI 0] [(.int 2), (.int 0), (.int 58), (.ref t)])) rfl (by rw [hml]; rfl) (argsL := [(.ref t), (.int 58), (.int 0), (.int 2)]) (rest := []) (lenOf own_pd17 rfl) rfl (Nat.le_of_eq rfl) (hb hby dJ2_33) (fun _ _ => ⟨rfl, sm3, (by decide : 0 + 0 ≤ _), (by decide : 0 + 0 ≤ _)⟩)
 dsimp only [Pt.U, Pt.locs, Pt.cells, Pt.slots] at X4 l4 y4 z4 st4 hQ4
 subst l4 y4 z4
 obtain ⟨r4, rfl, ix4, Nq4, sm4⟩ := hQ4
 have N4 := Fr.app N3 Nq4
 refine own_st st4 ?_
 obtain ⟨fs, hr, hrun, hended, hW, hsame⟩ := X4.leave (v := some (.int r4)) (fun h => by rw [Bd.returns] at h; cases h)
 refine ⟨_, _, retOut X4 hx Bd.returns rfl (Or.inl ⟨rfl, by simp, _, rfl⟩) (hb hby dJ2_36) hr, hrun, hended, _, _, rfl, ?_, ⟨_, rfl⟩, hW, hsame.mono (by decide) (by decide)⟩
 change Q_own_j2_2_1 Z x t nb kb fm G1 c0 c1 h0 n0 _ T4.heap _; rw [sm4]; exact ⟨r4, rfl, ix4, N4, rfl⟩

def Q_own_j1_2_1 (Z : State) (x t nb : Nat) (kb : ClassId) (fm : Value) (G1 : Int32) (c0 c1 : Int32) (h0 : Heap) (n0 : Nat) (v : Option Value) (h : Heap) (L : List Loc) : Prop := ∃ r : Int32, v = some (.int r) ∧ own_IX r ([c0, c1] : List Int32) ∧ Fr n0 L ∧ h = h0
theorem ef_own_j1_2_1 (m : MethodId) (x0 : Nat) : entryFrame m #[(.ref x0), (.int 58)] 2 = mkF m 0 #[.val (.ref x0), .val (.int 58)] [] := by first | (simp [entryFrame, mkF, argsToLocals, Value.category]; done) | rfl
theorem own_j1_2_1 (l : Launch) (Z : State) (a0 : Array Value) (hw : hWt a0 Z) (ws : List Jvm.Cond) (x t nb : Nat) (kb : ClassId) (fm : Value) (G1 : Int32) (c0 c1 : Int32) (h0 : Heap) (n0 : Nat) (Z0 : n0 ≤ h0.size) (X00 : Old Z n0 h0) (Ex : Exa Z h0 x "java/lang/String") (Fv : Fld Z h0 x "java/lang/String" "value" "[B" (.ref t)) (Fc : Fld Z h0 x "java/lang/String" "coder" "B" (.int (1 : Int32))) (Sx : own_StrU Z nb h0 x ([c0, c1] : List Int32)) (O2 : Sta Z Z.heap "java/lang/String" "COMPACT_STRINGS" "Z" (.int G1)) (P5 : ¬ (G1 = (0 : Int32))) (OA : oA Z) (OH : oH Z) (OL : oL Z) (O4 : o4 Z fm) (rfm : fm.isRef = true) (Vt : Arv Z h0 t kb .byte (4 : Int32) [.int (L8 c0), .int (H8 c0), .int (L8 c1), .int (H8 c1)] (.int 0)) (hb0 : ¬ c0 < 0 ∧ ¬ (65535 : Int32) < c0) (hb1 : ¬ c1 < 0 ∧ ¬ (65535 : Int32) < c1) :
 own_MN l mN31 jdk_42_method_79_code 2 (some .int) ws rm_6_0_0_120 Z #[(.ref x), (.int 58)] h0 (Q_own_j1_2_1 Z x t nb kb fm G1 c0 c1 h0 n0) := by
 refine own_bodyN (plainFor_of_name own_pn0) fun p e s m below meth c s₁ Bd hx hby hml hown hZ X0 e0 => ?_
 have N0 := Fr.nil n0
 have K0 : Keep h0 h0 [] := Keep.refl h0 []
 refine own_st (fun tq kq => castTop (ef_own_j1_2_1 m (x)) kq) ?_
 show own_G p e below _ (s₁.setTop (mkF m 0 #[vR x, vI 58] []))
 refine s_aloadN X0 hx (hb hby dJ1_0) rfl rfl ?_
 refine s_iloadN X0 hx (hb hby dJ1_1) rfl ?_
 refine s_iconst X0 hx (hb hby dJ1_2) ?_
 obtain ⟨cq1, kq1, q1a, q1b, q1c⟩ := isOf hZ e0 Ex
 obtain ⟨_, _, ⟨T1, L1, k1, n1⟩, -, X1, ⟨Lc1, hQ1, l1, y1, z1⟩, st1⟩ := X0.virtualBack hx (y := mN30) (z := mN30) hown (mvT hZ (wd52 hw)) (mvT hZ (wd53 hw)) (notFace_of_selects (args := #[]) (mvT hZ (wd55 hw))) (mvT hZ (wd55 hw)) (mvT hZ (wd54 hw)) (by decide) (own_backN (W := 0) (own_j2_2_1 l Z a0 hw [] (x) (t) (nb) (kb) (fm) (G1) (c0) (c1) h0 n0 (by omega) (X00.keep K0 all0) Ex Fv Fc Sx O2 P5 OA OH OL O4 rfm Vt hb0 hb1) hZ (wd56 hw) (wd3 hw) (by decide) (by decide)) q1a q1c (g := (mkF m 3 #[vR x, vI 58] [(.int 0), (.int 58), (.ref x)])) rfl (by rw [hml]; rfl) (Steps.refl _) (argsL := [(.int 58), (.int 0)]) (rest := []) (lenOf own_pd16 rfl) rfl (Nat.le_of_eq rfl) (hb hby dJ1_3) (fun _ _ => ⟨rfl, e0, (by decide : 0 + 0 ≤ _), (by decide : 0 + 0 ≤ _)⟩)
 dsimp only [Pt.U, Pt.locs, Pt.cells, Pt.slots] at X1 l1 y1 z1 st1 hQ1
 subst l1 y1 z1
 obtain ⟨r1, rfl, ix1, Nq1, sm1⟩ := hQ1
 have N1 := Fr.app N0 Nq1
 refine own_st (fun tq kq => st1.trans kq) ?_
 obtain ⟨fs, hr, hrun, hended, hW, hsame⟩ := X1.leave (v := some (.int r1)) (fun h => by rw [Bd.returns] at h; cases h)
 refine ⟨_, _, retOut X1 hx Bd.returns rfl (Or.inl ⟨rfl, by simp, _, rfl⟩) (hb hby dJ1_6) hr, hrun, hended, _, _, rfl, ?_, ⟨_, rfl⟩, hW, hsame.mono (by decide) (by decide)⟩
 change Q_own_j1_2_1 Z x t nb kb fm G1 c0 c1 h0 n0 _ T1.heap _; rw [sm1]; exact ⟨r1, rfl, ix1, N1, rfl⟩

theorem own_ixU2 {p : Program} {l : Launch} {e : Env} {R : Room} {s : State} {args : Array Value} {below : List Frame} {W : Nat} {Z : State} {a0 : Array Value} {h : Heap} (hZ : Z.Warmed39 s.vm) (hw : ∀ d ∈ tables_1, d.before a0 Z = true) {x n n0 : Nat} {c0 c1 : Int32} {G1 : Int32} {fm : Value} (F : own_StrU Z n h x ([c0, c1] : List Int32)) (X00 : Old Z n0 h) (O2 : Sta Z Z.heap "java/lang/String" "COMPACT_STRINGS" "Z" (.int G1)) (P5 : ¬ (G1 = (0 : Int32))) (OA : oA Z) (OH : oH Z) (OL : oL Z) (O4 : o4 Z fm) (rfm : fm.isRef = true) (hfr : 7 ≤ R.frames) (hlo : W + 133 ≤ R.locals) :
    Back l R p e below s args (⟨"java/lang/String", "indexOf", "(I)I"⟩ : MethodName) 3 W (fun P a => a = #[.ref x, .int (58 : Int32)] ∧ P.U.heap = h ∧ P.cells + 0 ≤ R.cells ∧ P.slots + 0 ≤ R.slots)
      (fun P _ v B => ∃ L, (∃ r : Int32, v = some (.int r) ∧ own_IX r ([c0, c1] : List Int32) ∧ Fr n0 L ∧ B.U.heap = h) ∧ B.locs = P.locs ++ L ∧ B.cells = P.cells + 0 ∧ B.slots = P.slots + 0) := by
  have hh0 : n0 ≤ h.size := by have := X00.1; have := X00.2.1; omega
  obtain ⟨-, E, hb, ln, t, kb, cd, N2, vs, -, V, Cc, A, hc⟩ := id F
  rcases hc with ⟨rfl, rfl, rfl, hl⟩ | ⟨rfl, rfl, rfl, hg⟩
  · exact own_backN (W := W) (rm := rm_6_0_0_120) (own_j1_2_0 l Z a0 hw [] x t n kb fm G1 c0 c1 h n0 hh0 X00 E V Cc F O2 P5 OA OH OL O4 rfm A ⟨(hb c0 (by simp)).1, hl c0 (by simp)⟩ ⟨(hb c1 (by simp)).1, hl c1 (by simp)⟩) hZ (wd51 hw) (wd3 hw) (by show 6 + 1 ≤ _; omega) (by show W + (2 + 11) + 120 ≤ _; omega)
  · exact own_backN (W := W) (rm := rm_6_0_0_120) (own_j1_2_1 l Z a0 hw [] x t n kb fm G1 c0 c1 h n0 hh0 X00 E V Cc F O2 P5 OA OH OL O4 rfm A (hb c0 (by simp)) (hb c1 (by simp))) hZ (wd51 hw) (wd3 hw) (by show 6 + 1 ≤ _; omega) (by show W + (2 + 11) + 120 ≤ _; omega)

def Q_own_min3 (Z : State)  (h0 : Heap) (n0 : Nat) (v : Option Value) (h : Heap) (L : List Loc) : Prop := v = some (.int (3 : Int32)) ∧ Fr n0 L ∧ h = h0
theorem ef_own_min3 (m : MethodId)  : entryFrame m #[(.int 3), (.int 3)] 2 = mkF m 0 #[.val (.int 3), .val (.int 3)] [] := by first | (simp [entryFrame, mkF, argsToLocals, Value.category]; done) | rfl
theorem own_min3 (l : Launch) (Z : State) (a0 : Array Value) (hw : hWt a0 Z) (ws : List Jvm.Cond)  (h0 : Heap) (n0 : Nat) (Z0 : n0 ≤ h0.size) (X00 : Old Z n0 h0)  :
 own_MN l mN21 jdk_29_method_69_code 2 (some .int) ws rm_0_0_0_0 Z #[(.int 3), (.int 3)] h0 (Q_own_min3 Z  h0 n0) := by
 refine own_bodyN own_pn6 fun p e s m below meth c s₁ Bd hx hby hml hown hZ X0 e0 => ?_
 have N0 := Fr.nil n0
 have K0 : Keep h0 h0 [] := Keep.refl h0 []
 refine own_st (fun tq kq => castTop (ef_own_min3 m ) kq) ?_
 show own_G p e below _ (s₁.setTop (mkF m 0 #[vI 3, vI 3] []))
 refine s_iloadN X0 hx (hb hby dMM_0) rfl ?_
 refine s_iloadN X0 hx (hb hby dMM_1) rfl ?_
 show own_G p e below _ (s₁.setTop (mkF m 2 #[vI 3, vI 3] [(.int 3), (.int 3)]))
 refine own_st (fun tq kq => XS.icmpNo X0.here hx rfl (hb hby dMM_2) rfl (flt (by decide : ¬ ((3 : Int32) < (3 : Int32)))).2.2.1 kq) ?_
 refine s_iloadN X0 hx (hb hby dMM_5) rfl ?_
 refine own_st (fun tq kq => XS.goto X0.here hx rfl (pc0 := 6) (pc' := 10) rfl (hb hby dMM_6) (by decide) (by decide) kq) ?_
 show own_G p e below _ (s₁.setTop (mkF m 10 #[vI 3, vI 3] [(.int 3)]))
 obtain ⟨fs, hr, hrun, hended, hW, hsame⟩ := X0.leave (v := some (.int 3)) (fun h => by rw [Bd.returns] at h; cases h)
 refine ⟨_, _, retOut X0 hx Bd.returns rfl (Or.inl ⟨rfl, by simp, _, rfl⟩) (hb hby dMM_10) hr, hrun, hended, _, _, rfl, ?_, ⟨_, rfl⟩, hW, hsame.mono (by decide) (by decide)⟩
 change Q_own_min3 Z  h0 n0 _ s₁.heap _; rw [e0]; exact ⟨rfl, N0, rfl⟩

def Q_own_lx3 (Z : State) (t : Nat) (kb : ClassId) (c0 c1 c2 : Int32) (h0 : Heap) (n0 : Nat) (v : Option Value) (h : Heap) (L : List Loc) : Prop := ∃ r : Int32, v = some (.int r) ∧ own_IX r ([c0, c1, c2] : List Int32) ∧ Fr n0 L ∧ h = h0
theorem ef_own_lx3 (m : MethodId) (x0 : Nat) : entryFrame m #[(.ref x0), (.int 58), (.int 0), (.int 3)] 6 = mkF m 0 #[.val (.ref x0), .val (.int 58), .val (.int 0), .val (.int 3), .unset, .unset] [] := by first | (simp [entryFrame, mkF, argsToLocals, Value.category]; done) | rfl
theorem own_lx3 (l : Launch) (Z : State) (a0 : Array Value) (hw : hWt a0 Z) (ws : List Jvm.Cond) (t : Nat) (kb : ClassId) (c0 c1 c2 : Int32) (h0 : Heap) (n0 : Nat) (Z0 : n0 ≤ h0.size) (X00 : Old Z n0 h0) (Vt : Arv Z h0 t kb .byte (3 : Int32) [.int (c0.toInt8.toInt32), .int (c1.toInt8.toInt32), .int (c2.toInt8.toInt32)] (.int 0)) (hb0 : ¬ c0 < 0 ∧ ¬ (255 : Int32) < c0) (hb1 : ¬ c1 < 0 ∧ ¬ (255 : Int32) < c1) (hb2 : ¬ c2 < 0 ∧ ¬ (255 : Int32) < c2) :
 own_MN l mN22 jdk_43_method_23_code 6 (some .int) ws rm_0_0_0_0 Z #[(.ref t), (.int 58), (.int 0), (.int 3)] h0 (Q_own_lx3 Z t kb c0 c1 c2 h0 n0) := by
 refine own_bodyN (plainFor_of_name own_pn5) fun p e s m below meth c s₁ Bd hx hby hml hown hZ X0 e0 => ?_
 have N0 := Fr.nil n0
 have K0 : Keep h0 h0 [] := Keep.refl h0 []
 refine own_st (fun tq kq => castTop (ef_own_lx3 m (t)) kq) ?_
 show own_G p e below _ (s₁.setTop (mkF m 0 #[vR t, vI 58, vI 0, vI 3, .unset, .unset] []))
 refine s_iloadN X0 hx (hb hby dLX_0) rfl ?_
 refine own_st (fun tq kq => XS.i2b X0.here hx rfl (hb hby dLX_1) rfl kq) ?_
 refine own_st (fun tq kq => XS.istore X0.here hx rfl (hb hby dLX_2) rfl (l' := #[vR t, vI 58, vI 0, vI 3, vI 58, .unset]) rfl kq) ?_
 refine s_iloadN X0 hx (hb hby dLX_4) rfl ?_
 show own_G p e below _ (s₁.setTop (mkF m 5 #[vR t, vI 58, vI 0, vI 3, vI 58, .unset] [(.int 0)]))
 refine own_st (fun tq kq => XS.istore X0.here hx rfl (hb hby dLX_5) rfl (l' := #[vR t, vI 58, vI 0, vI 3, vI 58, vI 0]) rfl kq) ?_
 refine s_iload X0 hx (hb hby dLX_7) rfl ?_
 refine s_iloadN X0 hx (hb hby dLX_9) rfl ?_
 show own_G p e below _ (s₁.setTop (mkF m 10 #[vR t, vI 58, vI 0, vI 3, vI 58, vI 0] [(.int 3), (.int 0)]))
 refine own_st (fun tq kq => XS.icmpNo X0.here hx rfl (hb hby dLX_10) rfl (tlt (by decide : ((0 : Int32) < (3 : Int32)))).2.1 kq) ?_
 refine s_aloadN X0 hx (hb hby dLX_13) rfl rfl ?_
 refine s_iload X0 hx (hb hby dLX_14) rfl ?_
 obtain ⟨cl1, Ar1, q1, S_1, N_1, H_1, G_1⟩ := id Vt
 have in1 : ¬ ((0 : Int32) < 0 ∨ cl1.slots.size ≤ ((0 : Int32)).toNatClampNeg) := inb_of S_1 ⟨by decide, by decide⟩
 have at1 : cl1.slots[((0 : Int32)).toNatClampNeg]? = some (.int (c0.toInt8.toInt32)) := H_1.at in1 rfl
 refine own_st (fun tq kq => X0.baloadBytes hx (j := (0 : Int32)) (v := (.int (c0.toInt8.toInt32))) (by rw [e0]; exact Ar1.1) (State.isArrayOf_alike hZ.alike Ar1.2.1) Ar1.2.2 in1 at1 (g := (mkF m 16 #[vR t, vI 58, vI 0, vI 3, vI 58, vI 0] [(.int 0), (.ref t)])) rfl rfl (hb hby dLX_16) _ kq) ?_
 show own_G p e below _ (s₁.setTop (mkF m 17 #[vR t, vI 58, vI 0, vI 3, vI 58, vI 0] [(.int (c0.toInt8.toInt32))]))
 refine s_iload X0 hx (hb hby dLX_17) rfl ?_
 show own_G p e below _ (s₁.setTop (mkF m 19 #[vR t, vI 58, vI 0, vI 3, vI 58, vI 0] [(.int 58), (.int (c0.toInt8.toInt32))]))
 by_cases hc19_2 : ((c0.toInt8.toInt32) = (58 : Int32))
 ·
  refine own_st (fun tq kq => XS.icmpNo X0.here hx rfl (hb hby dLX_19) rfl (teq hc19_2).2 kq) ?_
  refine s_iload X0 hx (hb hby dLX_22) rfl ?_
  show own_G p e below _ (s₁.setTop (mkF m 24 #[vR t, vI 58, vI 0, vI 3, vI 58, vI 0] [(.int 0)]))
  obtain ⟨fs, hr, hrun, hended, hW, hsame⟩ := X0.leave (v := some (.int 0)) (fun h => by rw [Bd.returns] at h; cases h)
  refine ⟨_, _, retOut X0 hx Bd.returns rfl (Or.inl ⟨rfl, by simp, _, rfl⟩) (hb hby dLX_24) hr, hrun, hended, _, _, rfl, ?_, ⟨_, rfl⟩, hW, hsame.mono (by decide) (by decide)⟩
  change Q_own_lx3 Z t kb c0 c1 c2 h0 n0 _ s₁.heap _; rw [e0]; exact ⟨(0 : Int32), rfl, Or.inl ⟨by decide, c0, by simp, (own_b58 hb0).mp hc19_2⟩, N0, rfl⟩
 ·
  refine own_st (fun tq kq => XS.icmpYes X0.here hx rfl (pc0 := 19) (pc' := 25) rfl (hb hby dLX_19) rfl (feq hc19_2).2 (by decide) (by decide) kq) ?_
  refine own_st (fun tq kq => XS.iinc X0.here hx rfl (hb hby dLX_25) rfl (l' := #[vR t, vI 58, vI 0, vI 3, vI 58, vI 1]) rfl kq) ?_
  refine own_st (fun tq kq => XS.goto X0.here hx rfl (pc0 := 28) (pc' := 7) rfl (hb hby dLX_28) (by decide) (by decide) kq) ?_
  refine s_iload X0 hx (hb hby dLX_7) rfl ?_
  show own_G p e below _ (s₁.setTop (mkF m 9 #[vR t, vI 58, vI 0, vI 3, vI 58, vI 1] [(.int 1)]))
  refine s_iloadN X0 hx (hb hby dLX_9) rfl ?_
  show own_G p e below _ (s₁.setTop (mkF m 10 #[vR t, vI 58, vI 0, vI 3, vI 58, vI 1] [(.int 3), (.int 1)]))
  refine own_st (fun tq kq => XS.icmpNo X0.here hx rfl (hb hby dLX_10) rfl (tlt (by decide : ((1 : Int32) < (3 : Int32)))).2.1 kq) ?_
  refine s_aloadN X0 hx (hb hby dLX_13) rfl rfl ?_
  refine s_iload X0 hx (hb hby dLX_14) rfl ?_
  obtain ⟨cl3, Ar3, q3, S_3, N_3, H_3, G_3⟩ := id Vt
  have in3 : ¬ ((1 : Int32) < 0 ∨ cl3.slots.size ≤ ((1 : Int32)).toNatClampNeg) := inb_of S_3 ⟨by decide, by decide⟩
  have at3 : cl3.slots[((1 : Int32)).toNatClampNeg]? = some (.int (c1.toInt8.toInt32)) := H_3.at in3 rfl
  refine own_st (fun tq kq => X0.baloadBytes hx (j := (1 : Int32)) (v := (.int (c1.toInt8.toInt32))) (by rw [e0]; exact Ar3.1) (State.isArrayOf_alike hZ.alike Ar3.2.1) Ar3.2.2 in3 at3 (g := (mkF m 16 #[vR t, vI 58, vI 0, vI 3, vI 58, vI 1] [(.int 1), (.ref t)])) rfl rfl (hb hby dLX_16) _ kq) ?_
  show own_G p e below _ (s₁.setTop (mkF m 17 #[vR t, vI 58, vI 0, vI 3, vI 58, vI 1] [(.int (c1.toInt8.toInt32))]))
  refine s_iload X0 hx (hb hby dLX_17) rfl ?_
  show own_G p e below _ (s₁.setTop (mkF m 19 #[vR t, vI 58, vI 0, vI 3, vI 58, vI 1] [(.int 58), (.int (c1.toInt8.toInt32))]))
  by_cases hc19_4 : ((c1.toInt8.toInt32) = (58 : Int32))
  ·
   refine own_st (fun tq kq => XS.icmpNo X0.here hx rfl (hb hby dLX_19) rfl (teq hc19_4).2 kq) ?_
   refine s_iload X0 hx (hb hby dLX_22) rfl ?_
   show own_G p e below _ (s₁.setTop (mkF m 24 #[vR t, vI 58, vI 0, vI 3, vI 58, vI 1] [(.int 1)]))
   obtain ⟨fs, hr, hrun, hended, hW, hsame⟩ := X0.leave (v := some (.int 1)) (fun h => by rw [Bd.returns] at h; cases h)
   refine ⟨_, _, retOut X0 hx Bd.returns rfl (Or.inl ⟨rfl, by simp, _, rfl⟩) (hb hby dLX_24) hr, hrun, hended, _, _, rfl, ?_, ⟨_, rfl⟩, hW, hsame.mono (by decide) (by decide)⟩
   change Q_own_lx3 Z t kb c0 c1 c2 h0 n0 _ s₁.heap _; rw [e0]; exact ⟨(1 : Int32), rfl, Or.inl ⟨by decide, c1, by simp, (own_b58 hb1).mp hc19_4⟩, N0, rfl⟩
  ·
   refine own_st (fun tq kq => XS.icmpYes X0.here hx rfl (pc0 := 19) (pc' := 25) rfl (hb hby dLX_19) rfl (feq hc19_4).2 (by decide) (by decide) kq) ?_
   refine own_st (fun tq kq => XS.iinc X0.here hx rfl (hb hby dLX_25) rfl (l' := #[vR t, vI 58, vI 0, vI 3, vI 58, vI 2]) rfl kq) ?_
   refine own_st (fun tq kq => XS.goto X0.here hx rfl (pc0 := 28) (pc' := 7) rfl (hb hby dLX_28) (by decide) (by decide) kq) ?_
   refine s_iload X0 hx (hb hby dLX_7) rfl ?_
   show own_G p e below _ (s₁.setTop (mkF m 9 #[vR t, vI 58, vI 0, vI 3, vI 58, vI 2] [(.int 2)]))
   refine s_iloadN X0 hx (hb hby dLX_9) rfl ?_
   show own_G p e below _ (s₁.setTop (mkF m 10 #[vR t, vI 58, vI 0, vI 3, vI 58, vI 2] [(.int 3), (.int 2)]))
   refine own_st (fun tq kq => XS.icmpNo X0.here hx rfl (hb hby dLX_10) rfl (tlt (by decide : ((2 : Int32) < (3 : Int32)))).2.1 kq) ?_
   refine s_aloadN X0 hx (hb hby dLX_13) rfl rfl ?_
   refine s_iload X0 hx (hb hby dLX_14) rfl ?_
   obtain ⟨cl5, Ar5, q5, S_5, N_5, H_5, G_5⟩ := id Vt
   have in5 : ¬ ((2 : Int32) < 0 ∨ cl5.slots.size ≤ ((2 : Int32)).toNatClampNeg) := inb_of S_5 ⟨by decide, by decide⟩
   have at5 : cl5.slots[((2 : Int32)).toNatClampNeg]? = some (.int (c2.toInt8.toInt32)) := H_5.at in5 rfl
   refine own_st (fun tq kq => X0.baloadBytes hx (j := (2 : Int32)) (v := (.int (c2.toInt8.toInt32))) (by rw [e0]; exact Ar5.1) (State.isArrayOf_alike hZ.alike Ar5.2.1) Ar5.2.2 in5 at5 (g := (mkF m 16 #[vR t, vI 58, vI 0, vI 3, vI 58, vI 2] [(.int 2), (.ref t)])) rfl rfl (hb hby dLX_16) _ kq) ?_
   show own_G p e below _ (s₁.setTop (mkF m 17 #[vR t, vI 58, vI 0, vI 3, vI 58, vI 2] [(.int (c2.toInt8.toInt32))]))
   refine s_iload X0 hx (hb hby dLX_17) rfl ?_
   show own_G p e below _ (s₁.setTop (mkF m 19 #[vR t, vI 58, vI 0, vI 3, vI 58, vI 2] [(.int 58), (.int (c2.toInt8.toInt32))]))
   by_cases hc19_6 : ((c2.toInt8.toInt32) = (58 : Int32))
   ·
    refine own_st (fun tq kq => XS.icmpNo X0.here hx rfl (hb hby dLX_19) rfl (teq hc19_6).2 kq) ?_
    refine s_iload X0 hx (hb hby dLX_22) rfl ?_
    show own_G p e below _ (s₁.setTop (mkF m 24 #[vR t, vI 58, vI 0, vI 3, vI 58, vI 2] [(.int 2)]))
    obtain ⟨fs, hr, hrun, hended, hW, hsame⟩ := X0.leave (v := some (.int 2)) (fun h => by rw [Bd.returns] at h; cases h)
    refine ⟨_, _, retOut X0 hx Bd.returns rfl (Or.inl ⟨rfl, by simp, _, rfl⟩) (hb hby dLX_24) hr, hrun, hended, _, _, rfl, ?_, ⟨_, rfl⟩, hW, hsame.mono (by decide) (by decide)⟩
    change Q_own_lx3 Z t kb c0 c1 c2 h0 n0 _ s₁.heap _; rw [e0]; exact ⟨(2 : Int32), rfl, Or.inl ⟨by decide, c2, by simp, (own_b58 hb2).mp hc19_6⟩, N0, rfl⟩
   ·
    refine own_st (fun tq kq => XS.icmpYes X0.here hx rfl (pc0 := 19) (pc' := 25) rfl (hb hby dLX_19) rfl (feq hc19_6).2 (by decide) (by decide) kq) ?_
    refine own_st (fun tq kq => XS.iinc X0.here hx rfl (hb hby dLX_25) rfl (l' := #[vR t, vI 58, vI 0, vI 3, vI 58, vI 3]) rfl kq) ?_
    refine own_st (fun tq kq => XS.goto X0.here hx rfl (pc0 := 28) (pc' := 7) rfl (hb hby dLX_28) (by decide) (by decide) kq) ?_
    refine s_iload X0 hx (hb hby dLX_7) rfl ?_
    show own_G p e below _ (s₁.setTop (mkF m 9 #[vR t, vI 58, vI 0, vI 3, vI 58, vI 3] [(.int 3)]))
    refine s_iloadN X0 hx (hb hby dLX_9) rfl ?_
    show own_G p e below _ (s₁.setTop (mkF m 10 #[vR t, vI 58, vI 0, vI 3, vI 58, vI 3] [(.int 3), (.int 3)]))
    refine own_st (fun tq kq => XS.icmpYes X0.here hx rfl (pc0 := 10) (pc' := 31) rfl (hb hby dLX_10) rfl (flt (by decide : ¬ ((3 : Int32) < (3 : Int32)))).2.1 (by decide) (by decide) kq) ?_
    refine s_iconst X0 hx (hb hby dLX_31) ?_
    show own_G p e below _ (s₁.setTop (mkF m 32 #[vR t, vI 58, vI 0, vI 3, vI 58, vI 3] [(.int (-1))]))
    obtain ⟨fs, hr, hrun, hended, hW, hsame⟩ := X0.leave (v := some (.int (-1))) (fun h => by rw [Bd.returns] at h; cases h)
    refine ⟨_, _, retOut X0 hx Bd.returns rfl (Or.inl ⟨rfl, by simp, _, rfl⟩) (hb hby dLX_32) hr, hrun, hended, _, _, rfl, ?_, ⟨_, rfl⟩, hW, hsame.mono (by decide) (by decide)⟩
    change Q_own_lx3 Z t kb c0 c1 c2 h0 n0 _ s₁.heap _; rw [e0]; exact ⟨(-1 : Int32), rfl, Or.inr ⟨by decide, own_all3 (fun q => hc19_2 ((own_b58 hb0).mpr q)) (fun q => hc19_4 ((own_b58 hb1).mpr q)) (fun q => hc19_6 ((own_b58 hb2).mpr q))⟩, N0, rfl⟩

def Q_own_li3 (Z : State) (t : Nat) (kb : ClassId) (c0 c1 c2 : Int32) (h0 : Heap) (n0 : Nat) (v : Option Value) (h : Heap) (L : List Loc) : Prop := ∃ r : Int32, v = some (.int r) ∧ own_IX r ([c0, c1, c2] : List Int32) ∧ Fr n0 L ∧ h = h0
theorem ef_own_li3 (m : MethodId) (x0 : Nat) : entryFrame m #[(.ref x0), (.int 58), (.int 0), (.int 3)] 4 = mkF m 0 #[.val (.ref x0), .val (.int 58), .val (.int 0), .val (.int 3)] [] := by first | (simp [entryFrame, mkF, argsToLocals, Value.category]; done) | rfl
theorem own_li3 (l : Launch) (Z : State) (a0 : Array Value) (hw : hWt a0 Z) (ws : List Jvm.Cond) (t : Nat) (kb : ClassId) (c0 c1 c2 : Int32) (h0 : Heap) (n0 : Nat) (Z0 : n0 ≤ h0.size) (X00 : Old Z n0 h0) (Vt : Arv Z h0 t kb .byte (3 : Int32) [.int (c0.toInt8.toInt32), .int (c1.toInt8.toInt32), .int (c2.toInt8.toInt32)] (.int 0)) (hb0 : ¬ c0 < 0 ∧ ¬ (255 : Int32) < c0) (hb1 : ¬ c1 < 0 ∧ ¬ (255 : Int32) < c1) (hb2 : ¬ c2 < 0 ∧ ¬ (255 : Int32) < c2) :
 own_MN l mN23 jdk_43_method_22_code 4 (some .int) ws rm_1_0_0_20 Z #[(.ref t), (.int 58), (.int 0), (.int 3)] h0 (Q_own_li3 Z t kb c0 c1 c2 h0 n0) := by
 refine own_bodyN (plainFor_of_name own_pn5) fun p e s m below meth c s₁ Bd hx hby hml hown hZ X0 e0 => ?_
 have N0 := Fr.nil n0
 have K0 : Keep h0 h0 [] := Keep.refl h0 []
 refine own_st (fun tq kq => castTop (ef_own_li3 m (t)) kq) ?_
 show own_G p e below _ (s₁.setTop (mkF m 0 #[vR t, vI 58, vI 0, vI 3] []))
 refine s_iloadN X0 hx (hb hby dLI_0) rfl ?_
 obtain ⟨_, _, ⟨T1, L1, k1, n1⟩, -, X1, ⟨Lc1, hQ1, l1, y1, z1⟩, st1⟩ := Jvm.LawKit.callS X0 hx (y := mN20) hown (mvT hZ (wd76 hw)) (mvT hZ (wd77 hw)) (mvT hZ (wd74 hw)) (mvT hZ (wd78 hw)) (by decide) (own_backN (W := 0) (own_canE l Z a0 hw []  h0 n0 (by omega) (X00.keep K0 all0) ) hZ (wd78 hw) (wd74 hw) (by decide) (by decide)) (g := (mkF m 1 #[vR t, vI 58, vI 0, vI 3] [(.int 58)])) rfl (by rw [hml]; rfl) (argsL := [(.int 58)]) (rest := []) (lenOf own_pd15 rfl) rfl (Nat.le_of_eq rfl) (hb hby dLI_1) (fun _ _ => ⟨rfl, e0, (by decide : 0 + 0 ≤ _), (by decide : 0 + 0 ≤ _)⟩)
 dsimp only [Pt.U, Pt.locs, Pt.cells, Pt.slots] at X1 l1 y1 z1 st1 hQ1
 subst l1 y1 z1
 obtain ⟨rfl, Nq1, sm1⟩ := hQ1
 have N1 := Fr.app N0 Nq1
 refine own_st st1 ?_
 refine own_st (fun tq kq => XS.ifYes X1.here hx rfl (pc0 := 4) (pc' := 9) rfl (hb hby dLI_4) rfl ((if0 _ _).trans (feq (by decide : ¬ ((1 : Int32) = (0 : Int32)))).2) (by decide) (by decide) kq) ?_
 refine s_iloadN X1 hx (hb hby dLI_9) rfl ?_
 refine s_iconst X1 hx (hb hby dLI_10) ?_
 obtain ⟨_, _, ⟨T2, L2, k2, n2⟩, -, X2, ⟨Lc2, hQ2, l2, y2, z2⟩, st2⟩ := Jvm.LawKit.callS X1 hx (y := mN19) hown (mvT hZ (wd79 hw)) (mvT hZ (wd80 hw)) (mvT hZ (wd81 hw)) (mvT hZ (wd82 hw)) (by decide) (own_backN (W := 0) (own_max l Z a0 hw []  h0 n0 (by omega) (X00.keep K0 all0) ) hZ (wd82 hw) (wd81 hw) (by decide) (by decide)) (g := (mkF m 11 #[vR t, vI 58, vI 0, vI 3] [(.int 0), (.int 0)])) rfl (by rw [hml]; rfl) (argsL := [(.int 0), (.int 0)]) (rest := []) (lenOf own_pd16 rfl) rfl (Nat.le_of_eq rfl) (hb hby dLI_11) (fun _ _ => ⟨rfl, sm1, (by decide : 0 + 0 ≤ _), (by decide : 0 + 0 ≤ _)⟩)
 dsimp only [Pt.U, Pt.locs, Pt.cells, Pt.slots] at X2 l2 y2 z2 st2 hQ2
 subst l2 y2 z2
 obtain ⟨rfl, Nq2, sm2⟩ := hQ2
 have N2 := Fr.app N1 Nq2
 refine own_st st2 ?_
 refine own_st (fun tq kq => XS.istoreN X2.here hx rfl (hb hby dLI_14) rfl (l' := #[vR t, vI 58, vI 0, vI 3]) rfl kq) ?_
 refine s_iloadN X2 hx (hb hby dLI_15) rfl ?_
 refine s_aloadN X2 hx (hb hby dLI_16) rfl rfl ?_
 obtain ⟨cl3, Ar3, q3, S_3, N_3, H_3, G_3⟩ := id Vt
 refine own_st (fun tq kq => X2.arraylength hx (by rw [sm2]; exact Ar3.1) (State.isArrayOf_alike hZ.alike Ar3.2.1) (g := (mkF m 17 #[vR t, vI 58, vI 0, vI 3] [(.ref t), (.int 3)])) rfl rfl (hb hby dLI_17) _ kq) ?_
 rw [len_of S_3 N_3]
 show own_G p e below _ (T2.setTop (mkF m 18 #[vR t, vI 58, vI 0, vI 3] [(.int 3), (.int 3)]))
 obtain ⟨_, _, ⟨T4, L4, k4, n4⟩, -, X4, ⟨Lc4, hQ4, l4, y4, z4⟩, st4⟩ := Jvm.LawKit.callS X2 hx (y := mN21) hown (mvT hZ (wd83 hw)) (mvT hZ (wd84 hw)) (mvT hZ (wd81 hw)) (mvT hZ (wd85 hw)) (by decide) (own_backN (W := 0) (own_min3 l Z a0 hw []  h0 n0 (by omega) (X00.keep K0 all0) ) hZ (wd85 hw) (wd81 hw) (by decide) (by decide)) (g := (mkF m 18 #[vR t, vI 58, vI 0, vI 3] [(.int 3), (.int 3)])) rfl (by rw [hml]; rfl) (argsL := [(.int 3), (.int 3)]) (rest := []) (lenOf own_pd16 rfl) rfl (Nat.le_of_eq rfl) (hb hby dLI_18) (fun _ _ => ⟨rfl, sm2, (by decide : 0 + 0 ≤ _), (by decide : 0 + 0 ≤ _)⟩)
 dsimp only [Pt.U, Pt.locs, Pt.cells, Pt.slots] at X4 l4 y4 z4 st4 hQ4
 subst l4 y4 z4
 obtain ⟨rfl, Nq4, sm4⟩ := hQ4
 have N4 := Fr.app N2 Nq4
 refine own_st st4 ?_
 refine own_st (fun tq kq => XS.istoreN X4.here hx rfl (hb hby dLI_21) rfl (l' := #[vR t, vI 58, vI 0, vI 3]) rfl kq) ?_
 refine s_iloadN X4 hx (hb hby dLI_22) rfl ?_
 refine s_iloadN X4 hx (hb hby dLI_23) rfl ?_
 show own_G p e below _ (T4.setTop (mkF m 24 #[vR t, vI 58, vI 0, vI 3] [(.int 3), (.int 0)]))
 refine own_st (fun tq kq => XS.icmpYes X4.here hx rfl (pc0 := 24) (pc' := 29) rfl (hb hby dLI_24) rfl (tlt (by decide : ((0 : Int32) < (3 : Int32)))).1 (by decide) (by decide) kq) ?_
 refine s_aloadN X4 hx (hb hby dLI_29) rfl rfl ?_
 refine s_iloadN X4 hx (hb hby dLI_30) rfl ?_
 refine s_iloadN X4 hx (hb hby dLI_31) rfl ?_
 show own_G p e below _ (T4.setTop (mkF m 32 #[vR t, vI 58, vI 0, vI 3] [(.int 0), (.int 58), (.ref t)]))
 refine s_iloadN X4 hx (hb hby dLI_32) rfl ?_
 obtain ⟨_, _, ⟨T5, L5, k5, n5⟩, -, X5, ⟨Lc5, hQ5, l5, y5, z5⟩, st5⟩ := Jvm.LawKit.callS X4 hx (y := mN22) hown (mvT hZ (wd86 hw)) (mvT hZ (wd87 hw)) (mvT hZ (wd74 hw)) (mvT hZ (wd88 hw)) (by decide) (own_backN (W := 0) (own_lx3 l Z a0 hw [] (t) (kb) (c0) (c1) (c2) h0 n0 (by omega) (X00.keep K0 all0) Vt hb0 hb1 hb2) hZ (wd88 hw) (wd74 hw) (by decide) (by decide)) (g := (mkF m 33 #[vR t, vI 58, vI 0, vI 3] [(.int 3), (.int 0), (.int 58), (.ref t)])) rfl (by rw [hml]; rfl) (argsL := [(.ref t), (.int 58), (.int 0), (.int 3)]) (rest := []) (lenOf own_pd17 rfl) rfl (Nat.le_of_eq rfl) (hb hby dLI_33) (fun _ _ => ⟨rfl, sm4, (by decide : 0 + 0 ≤ _), (by decide : 0 + 0 ≤ _)⟩)
 dsimp only [Pt.U, Pt.locs, Pt.cells, Pt.slots] at X5 l5 y5 z5 st5 hQ5
 subst l5 y5 z5
 obtain ⟨r5, rfl, ix5, Nq5, sm5⟩ := hQ5
 have N5 := Fr.app N4 Nq5
 refine own_st st5 ?_
 obtain ⟨fs, hr, hrun, hended, hW, hsame⟩ := X5.leave (v := some (.int r5)) (fun h => by rw [Bd.returns] at h; cases h)
 refine ⟨_, _, retOut X5 hx Bd.returns rfl (Or.inl ⟨rfl, by simp, _, rfl⟩) (hb hby dLI_36) hr, hrun, hended, _, _, rfl, ?_, ⟨_, rfl⟩, hW, hsame.mono (by decide) (by decide)⟩
 change Q_own_li3 Z t kb c0 c1 c2 h0 n0 _ T5.heap _; rw [sm5]; exact ⟨r5, rfl, ix5, N5, rfl⟩

def Q_own_ft3N (Z : State)  (h0 : Heap) (n0 : Nat) (v : Option Value) (h : Heap) (L : List Loc) : Prop := v = some (.int (0 : Int32)) ∧ Fr n0 L ∧ h = h0
theorem ef_own_ft3N (m : MethodId)  : entryFrame m #[(.int 0), (.int 3), (.int 3), .null] 4 = mkF m 0 #[.val (.int 0), .val (.int 3), .val (.int 3), .val .null] [] := by first | (simp [entryFrame, mkF, argsToLocals, Value.category]; done) | rfl
theorem own_ft3N (l : Launch) (Z : State) (a0 : Array Value) (hw : hWt a0 Z) (ws : List Jvm.Cond)  (h0 : Heap) (n0 : Nat) (Z0 : n0 ≤ h0.size) (X00 : Old Z n0 h0)  :
 own_MN l mN24 jdk_41_method_12_code 4 (some .int) ws rm_0_0_0_0 Z #[(.int 0), (.int 3), (.int 3), .null] h0 (Q_own_ft3N Z  h0 n0) := by
 refine own_bodyN (plainFor_of_name own_pn2) fun p e s m below meth c s₁ Bd hx hby hml hown hZ X0 e0 => ?_
 have N0 := Fr.nil n0
 have K0 : Keep h0 h0 [] := Keep.refl h0 []
 refine own_st (fun tq kq => castTop (ef_own_ft3N m ) kq) ?_
 show own_G p e below _ (s₁.setTop (mkF m 0 #[vI 0, vI 3, vI 3, .val .null] []))
 refine s_iloadN X0 hx (hb hby dFT_0) rfl ?_
 show own_G p e below _ (s₁.setTop (mkF m 1 #[vI 0, vI 3, vI 3, .val .null] [(.int 0)]))
 refine own_st (fun tq kq => XS.ifNo X0.here hx rfl (hb hby dFT_1) rfl ((if0 _ _).trans (flt (by decide : ¬ ((0 : Int32) < (0 : Int32)))).1) kq) ?_
 refine s_iloadN X0 hx (hb hby dFT_4) rfl ?_
 refine s_iloadN X0 hx (hb hby dFT_5) rfl ?_
 show own_G p e below _ (s₁.setTop (mkF m 6 #[vI 0, vI 3, vI 3, .val .null] [(.int 3), (.int 0)]))
 refine own_st (fun tq kq => XS.icmpNo X0.here hx rfl (hb hby dFT_6) rfl (flt (by decide : ¬ ((3 : Int32) < (0 : Int32)))).2.2.1 kq) ?_
 refine s_iloadN X0 hx (hb hby dFT_9) rfl ?_
 refine s_iloadN X0 hx (hb hby dFT_10) rfl ?_
 show own_G p e below _ (s₁.setTop (mkF m 11 #[vI 0, vI 3, vI 3, .val .null] [(.int 3), (.int 3)]))
 refine own_st (fun tq kq => XS.icmpYes X0.here hx rfl (pc0 := 11) (pc' := 22) rfl (hb hby dFT_11) rfl (flt (by decide : ¬ ((3 : Int32) < (3 : Int32)))).2.2.2 (by decide) (by decide) kq) ?_
 refine s_iloadN X0 hx (hb hby dFT_22) rfl ?_
 show own_G p e below _ (s₁.setTop (mkF m 23 #[vI 0, vI 3, vI 3, .val .null] [(.int 0)]))
 obtain ⟨fs, hr, hrun, hended, hW, hsame⟩ := X0.leave (v := some (.int 0)) (fun h => by rw [Bd.returns] at h; cases h)
 refine ⟨_, _, retOut X0 hx Bd.returns rfl (Or.inl ⟨rfl, by simp, _, rfl⟩) (hb hby dFT_23) hr, hrun, hended, _, _, rfl, ?_, ⟨_, rfl⟩, hW, hsame.mono (by decide) (by decide)⟩
 change Q_own_ft3N Z  h0 n0 _ s₁.heap _; rw [e0]; exact ⟨rfl, N0, rfl⟩

def Q_own_ft3R (Z : State) (gf : Nat) (h0 : Heap) (n0 : Nat) (v : Option Value) (h : Heap) (L : List Loc) : Prop := v = some (.int (0 : Int32)) ∧ Fr n0 L ∧ h = h0
theorem ef_own_ft3R (m : MethodId) (x3 : Nat) : entryFrame m #[(.int 0), (.int 3), (.int 3), (.ref x3)] 4 = mkF m 0 #[.val (.int 0), .val (.int 3), .val (.int 3), .val (.ref x3)] [] := by first | (simp [entryFrame, mkF, argsToLocals, Value.category]; done) | rfl
theorem own_ft3R (l : Launch) (Z : State) (a0 : Array Value) (hw : hWt a0 Z) (ws : List Jvm.Cond) (gf : Nat) (h0 : Heap) (n0 : Nat) (Z0 : n0 ≤ h0.size) (X00 : Old Z n0 h0)  :
 own_MN l mN24 jdk_41_method_12_code 4 (some .int) ws rm_0_0_0_0 Z #[(.int 0), (.int 3), (.int 3), (.ref gf)] h0 (Q_own_ft3R Z gf h0 n0) := by
 refine own_bodyN (plainFor_of_name own_pn2) fun p e s m below meth c s₁ Bd hx hby hml hown hZ X0 e0 => ?_
 have N0 := Fr.nil n0
 have K0 : Keep h0 h0 [] := Keep.refl h0 []
 refine own_st (fun tq kq => castTop (ef_own_ft3R m (gf)) kq) ?_
 show own_G p e below _ (s₁.setTop (mkF m 0 #[vI 0, vI 3, vI 3, vR gf] []))
 refine s_iloadN X0 hx (hb hby dFT_0) rfl ?_
 show own_G p e below _ (s₁.setTop (mkF m 1 #[vI 0, vI 3, vI 3, vR gf] [(.int 0)]))
 refine own_st (fun tq kq => XS.ifNo X0.here hx rfl (hb hby dFT_1) rfl ((if0 _ _).trans (flt (by decide : ¬ ((0 : Int32) < (0 : Int32)))).1) kq) ?_
 refine s_iloadN X0 hx (hb hby dFT_4) rfl ?_
 refine s_iloadN X0 hx (hb hby dFT_5) rfl ?_
 show own_G p e below _ (s₁.setTop (mkF m 6 #[vI 0, vI 3, vI 3, vR gf] [(.int 3), (.int 0)]))
 refine own_st (fun tq kq => XS.icmpNo X0.here hx rfl (hb hby dFT_6) rfl (flt (by decide : ¬ ((3 : Int32) < (0 : Int32)))).2.2.1 kq) ?_
 refine s_iloadN X0 hx (hb hby dFT_9) rfl ?_
 refine s_iloadN X0 hx (hb hby dFT_10) rfl ?_
 show own_G p e below _ (s₁.setTop (mkF m 11 #[vI 0, vI 3, vI 3, vR gf] [(.int 3), (.int 3)]))
 refine own_st (fun tq kq => XS.icmpYes X0.here hx rfl (pc0 := 11) (pc' := 22) rfl (hb hby dFT_11) rfl (flt (by decide : ¬ ((3 : Int32) < (3 : Int32)))).2.2.2 (by decide) (by decide) kq) ?_
 refine s_iloadN X0 hx (hb hby dFT_22) rfl ?_
 show own_G p e below _ (s₁.setTop (mkF m 23 #[vI 0, vI 3, vI 3, vR gf] [(.int 0)]))
 obtain ⟨fs, hr, hrun, hended, hW, hsame⟩ := X0.leave (v := some (.int 0)) (fun h => by rw [Bd.returns] at h; cases h)
 refine ⟨_, _, retOut X0 hx Bd.returns rfl (Or.inl ⟨rfl, by simp, _, rfl⟩) (hb hby dFT_23) hr, hrun, hended, _, _, rfl, ?_, ⟨_, rfl⟩, hW, hsame.mono (by decide) (by decide)⟩
 change Q_own_ft3R Z gf h0 n0 _ s₁.heap _; rw [e0]; exact ⟨rfl, N0, rfl⟩

def Q_own_sb3 (Z : State) (fm : Value) (h0 : Heap) (n0 : Nat) (v : Option Value) (h : Heap) (L : List Loc) : Prop := v = none ∧ Fr n0 L ∧ h = h0
theorem ef_own_sb3 (m : MethodId)  : entryFrame m #[(.int 0), (.int 3), (.int 3)] 3 = mkF m 0 #[.val (.int 0), .val (.int 3), .val (.int 3)] [] := by first | (simp [entryFrame, mkF, argsToLocals, Value.category]; done) | rfl
theorem own_sb3 (l : Launch) (Z : State) (a0 : Array Value) (hw : hWt a0 Z) (ws : List Jvm.Cond) (fm : Value) (h0 : Heap) (n0 : Nat) (Z0 : n0 ≤ h0.size) (X00 : Old Z n0 h0) (O4 : o4 Z fm) (rfm : fm.isRef = true) :
 own_MN l mN25 jdk_42_method_158_code 3 none ws rm_1_0_0_20 Z #[(.int 0), (.int 3), (.int 3)] h0 (Q_own_sb3 Z fm h0 n0) := by
 refine own_bodyN (plainFor_of_name own_pn0) fun p e s m below meth c s₁ Bd hx hby hml hown hZ X0 e0 => ?_
 have N0 := Fr.nil n0
 have K0 : Keep h0 h0 [] := Keep.refl h0 []
 refine own_st (fun tq kq => castTop (ef_own_sb3 m ) kq) ?_
 show own_G p e below _ (s₁.setTop (mkF m 0 #[vI 0, vI 3, vI 3] []))
 rcases ref_cases rfm with rfl | ⟨gf, rfl⟩
 ·
  refine s_iloadN X0 hx (hb hby dSB_0) rfl ?_
  refine s_iloadN X0 hx (hb hby dSB_1) rfl ?_
  refine s_iloadN X0 hx (hb hby dSB_2) rfl ?_
  obtain ⟨T1, X1, e1, st1⟩ := getS2 X0 hx hZ hown (host := "") (Or.inl (wd105 hw)) Via.refl e0 (O4.ext (X00.keep K0 all0).2) (g := (mkF m 3 #[vI 0, vI 3, vI 3] [(.int 3), (.int 3), (.int 0)])) rfl (hb hby dSB_3)
  refine own_st st1 ?_
  obtain ⟨_, _, ⟨T2, L2, k2, n2⟩, -, X2, ⟨Lc2, hQ2, l2, y2, z2⟩, st2⟩ := Jvm.LawKit.callS X1 hx (y := mN24) hown (mvT hZ (wd147 hw)) (mvT hZ (wd148 hw)) (mvT hZ (wd106 hw)) (mvT hZ (wd149 hw)) (by decide) (own_backN (W := 0) (own_ft3N l Z a0 hw []  h0 n0 (by omega) (X00.keep K0 all0) ) hZ (wd149 hw) (wd106 hw) (by decide) (by decide)) (g := (mkF m 6 #[vI 0, vI 3, vI 3] [.null, (.int 3), (.int 3), (.int 0)])) rfl (by rw [hml]; rfl) (argsL := [(.int 0), (.int 3), (.int 3), .null]) (rest := []) (lenOf own_pd18 rfl) rfl (Nat.le_of_eq rfl) (hb hby dSB_6) (fun _ _ => ⟨rfl, e1, (by decide : 0 + 0 ≤ _), (by decide : 0 + 0 ≤ _)⟩)
  dsimp only [Pt.U, Pt.locs, Pt.cells, Pt.slots] at X2 l2 y2 z2 st2 hQ2
  subst l2 y2 z2
  obtain ⟨rfl, Nq2, sm2⟩ := hQ2
  have N2 := Fr.app N0 Nq2
  refine own_st st2 ?_
  refine own_st (fun tq kq => XS.pop X2.here hx rfl (hb hby dSB_9) rfl rfl kq) ?_
  obtain ⟨fs, hr, hrun, hended, hW, hsame⟩ := X2.leave (v := none) (fun _ => rfl)
  refine ⟨_, _, X2.returnOut hx Bd.returns (hb hby dSB_10) hr, hrun, hended, _, _, rfl, ?_, ⟨_, rfl⟩, hW, hsame.mono (by decide) (by decide)⟩
  change Q_own_sb3 Z .null h0 n0 _ T2.heap _; rw [sm2]; exact ⟨rfl, N2, rfl⟩
 ·
  refine s_iloadN X0 hx (hb hby dSB_0) rfl ?_
  refine s_iloadN X0 hx (hb hby dSB_1) rfl ?_
  refine s_iloadN X0 hx (hb hby dSB_2) rfl ?_
  show own_G p e below _ (s₁.setTop (mkF m 3 #[vI 0, vI 3, vI 3] [(.int 3), (.int 3), (.int 0)]))
  obtain ⟨T3, X3, e3, st3⟩ := getS2 X0 hx hZ hown (host := "") (Or.inl (wd105 hw)) Via.refl e0 (O4.ext (X00.keep K0 all0).2) (g := (mkF m 3 #[vI 0, vI 3, vI 3] [(.int 3), (.int 3), (.int 0)])) rfl (hb hby dSB_3)
  refine own_st st3 ?_
  obtain ⟨_, _, ⟨T4, L4, k4, n4⟩, -, X4, ⟨Lc4, hQ4, l4, y4, z4⟩, st4⟩ := Jvm.LawKit.callS X3 hx (y := mN24) hown (mvT hZ (wd147 hw)) (mvT hZ (wd148 hw)) (mvT hZ (wd106 hw)) (mvT hZ (wd149 hw)) (by decide) (own_backN (W := 0) (own_ft3R l Z a0 hw [] (gf) h0 n0 (by omega) (X00.keep K0 all0) ) hZ (wd149 hw) (wd106 hw) (by decide) (by decide)) (g := (mkF m 6 #[vI 0, vI 3, vI 3] [(.ref gf), (.int 3), (.int 3), (.int 0)])) rfl (by rw [hml]; rfl) (argsL := [(.int 0), (.int 3), (.int 3), (.ref gf)]) (rest := []) (lenOf own_pd18 rfl) rfl (Nat.le_of_eq rfl) (hb hby dSB_6) (fun _ _ => ⟨rfl, e3, (by decide : 0 + 0 ≤ _), (by decide : 0 + 0 ≤ _)⟩)
  dsimp only [Pt.U, Pt.locs, Pt.cells, Pt.slots] at X4 l4 y4 z4 st4 hQ4
  subst l4 y4 z4
  obtain ⟨rfl, Nq4, sm4⟩ := hQ4
  have N4 := Fr.app N0 Nq4
  refine own_st st4 ?_
  refine own_st (fun tq kq => XS.pop X4.here hx rfl (hb hby dSB_9) rfl rfl kq) ?_
  obtain ⟨fs, hr, hrun, hended, hW, hsame⟩ := X4.leave (v := none) (fun _ => rfl)
  refine ⟨_, _, X4.returnOut hx Bd.returns (hb hby dSB_10) hr, hrun, hended, _, _, rfl, ?_, ⟨_, rfl⟩, hW, hsame.mono (by decide) (by decide)⟩
  change Q_own_sb3 Z (.ref gf) h0 n0 _ T4.heap _; rw [sm4]; exact ⟨rfl, N4, rfl⟩

def Q_own_ub3 (Z : State) (t : Nat) (kb : ClassId) (fm : Value) (c0 c1 c2 : Int32) (h0 : Heap) (n0 : Nat) (v : Option Value) (h : Heap) (L : List Loc) : Prop := v = none ∧ Fr n0 L ∧ h = h0
theorem ef_own_ub3 (m : MethodId) (x2 : Nat) : entryFrame m #[(.int 0), (.int 3), (.ref x2)] 3 = mkF m 0 #[.val (.int 0), .val (.int 3), .val (.ref x2)] [] := by first | (simp [entryFrame, mkF, argsToLocals, Value.category]; done) | rfl
theorem own_ub3 (l : Launch) (Z : State) (a0 : Array Value) (hw : hWt a0 Z) (ws : List Jvm.Cond) (t : Nat) (kb : ClassId) (fm : Value) (c0 c1 c2 : Int32) (h0 : Heap) (n0 : Nat) (Z0 : n0 ≤ h0.size) (X00 : Old Z n0 h0) (O4 : o4 Z fm) (rfm : fm.isRef = true) (Vt : Arv Z h0 t kb .byte (6 : Int32) [.int (L8 c0), .int (H8 c0), .int (L8 c1), .int (H8 c1), .int (L8 c2), .int (H8 c2)] (.int 0)) :
 own_MN l mN26 jdk_52_method_93_code 3 none ws rm_2_0_0_40 Z #[(.int 0), (.int 3), (.ref t)] h0 (Q_own_ub3 Z t kb fm c0 c1 c2 h0 n0) := by
 refine own_bodyN (plainFor_of_name own_pn1) fun p e s m below meth c s₁ Bd hx hby hml hown hZ X0 e0 => ?_
 have N0 := Fr.nil n0
 have K0 : Keep h0 h0 [] := Keep.refl h0 []
 refine own_st (fun tq kq => castTop (ef_own_ub3 m (t)) kq) ?_
 show own_G p e below _ (s₁.setTop (mkF m 0 #[vI 0, vI 3, vR t] []))
 refine s_iloadN X0 hx (hb hby dUB_0) rfl ?_
 refine s_iloadN X0 hx (hb hby dUB_1) rfl ?_
 refine s_aloadN X0 hx (hb hby dUB_2) rfl rfl ?_
 obtain ⟨_, _, ⟨T1, L1, k1, n1⟩, -, X1, ⟨Lc1, hQ1, l1, y1, z1⟩, st1⟩ := Jvm.LawKit.callS X0 hx (y := mN3) hown (mvT hZ (wd141 hw)) (mvT hZ (wd142 hw)) (mvT hZ (wd35 hw)) (mvT hZ (wd143 hw)) (by decide) (own_backN (W := 2) (own_ulen3 l Z a0 hw [] (t) (_) (_) h0 n0 (by omega) (X00.keep K0 all0) Vt) hZ (wd143 hw) (wd35 hw) (by decide) (by decide)) (g := (mkF m 3 #[vI 0, vI 3, vR t] [(.ref t), (.int 3), (.int 0)])) rfl (by rw [hml]; rfl) (argsL := [(.ref t)]) (rest := [(.int 3), (.int 0)]) (lenOf own_pd9 rfl) rfl (Nat.le_of_eq rfl) (hb hby dUB_3) (fun _ _ => ⟨rfl, e0, (by decide : 0 + 0 ≤ _), (by decide : 0 + 0 ≤ _)⟩)
 dsimp only [Pt.U, Pt.locs, Pt.cells, Pt.slots] at X1 l1 y1 z1 st1 hQ1
 subst l1 y1 z1
 obtain ⟨rfl, Nq1, sm1⟩ := hQ1
 have N1 := Fr.app N0 Nq1
 refine own_st st1 ?_
 obtain ⟨_, _, ⟨T2, L2, k2, n2⟩, -, X2, ⟨Lc2, hQ2, l2, y2, z2⟩, st2⟩ := Jvm.LawKit.callS X1 hx (y := mN25) hown (mvT hZ (wd144 hw)) (mvT hZ (wd145 hw)) (mvT hZ (wd3 hw)) (mvT hZ (wd146 hw)) (by decide) (own_backN (W := 0) (own_sb3 l Z a0 hw [] (fm) h0 n0 (by omega) (X00.keep K0 all0) O4 rfm) hZ (wd146 hw) (wd3 hw) (by decide) (by decide)) (g := (mkF m 6 #[vI 0, vI 3, vR t] [(.int 3), (.int 3), (.int 0)])) rfl (by rw [hml]; rfl) (argsL := [(.int 0), (.int 3), (.int 3)]) (rest := []) (lenOf own_pd19 rfl) rfl (Nat.le_of_eq rfl) (hb hby dUB_6) (fun _ _ => ⟨rfl, sm1, (by decide : 0 + 0 ≤ _), (by decide : 0 + 0 ≤ _)⟩)
 dsimp only [Pt.U, Pt.locs, Pt.cells, Pt.slots] at X2 l2 y2 z2 st2 hQ2
 subst l2 y2 z2
 obtain ⟨rfl, Nq2, sm2⟩ := hQ2
 have N2 := Fr.app N1 Nq2
 refine own_st st2 ?_
 obtain ⟨fs, hr, hrun, hended, hW, hsame⟩ := X2.leave (v := none) (fun _ => rfl)
 refine ⟨_, _, X2.returnOut hx Bd.returns (hb hby dUB_9) hr, hrun, hended, _, _, rfl, ?_, ⟨_, rfl⟩, hW, hsame.mono (by decide) (by decide)⟩
 change Q_own_ub3 Z t kb fm c0 c1 c2 h0 n0 _ T2.heap _; rw [sm2]; exact ⟨rfl, N2, rfl⟩

def Q_own_ux3 (Z : State) (t : Nat) (kb : ClassId) (c0 c1 c2 : Int32) (h0 : Heap) (n0 : Nat) (v : Option Value) (h : Heap) (L : List Loc) : Prop := ∃ r : Int32, v = some (.int r) ∧ own_IX r ([c0, c1, c2] : List Int32) ∧ Fr n0 L ∧ h = h0
theorem ef_own_ux3 (m : MethodId) (x0 : Nat) : entryFrame m #[(.ref x0), (.int 58), (.int 0), (.int 3)] 5 = mkF m 0 #[.val (.ref x0), .val (.int 58), .val (.int 0), .val (.int 3), .unset] [] := by first | (simp [entryFrame, mkF, argsToLocals, Value.category]; done) | rfl
theorem own_ux3 (l : Launch) (Z : State) (a0 : Array Value) (hw : hWt a0 Z) (ws : List Jvm.Cond) (t : Nat) (kb : ClassId) (c0 c1 c2 : Int32) (h0 : Heap) (n0 : Nat) (Z0 : n0 ≤ h0.size) (X00 : Old Z n0 h0) (OA : oA Z) (OH : oH Z) (OL : oL Z) (Vt : Arv Z h0 t kb .byte (6 : Int32) [.int (L8 c0), .int (H8 c0), .int (L8 c1), .int (H8 c1), .int (L8 c2), .int (H8 c2)] (.int 0)) (hb0 : ¬ c0 < 0 ∧ ¬ (65535 : Int32) < c0) (hb1 : ¬ c1 < 0 ∧ ¬ (65535 : Int32) < c1) (hb2 : ¬ c2 < 0 ∧ ¬ (65535 : Int32) < c2) :
 own_MN l mN27 jdk_52_method_48_code 5 (some .int) ws rm_1_0_0_20 Z #[(.ref t), (.int 58), (.int 0), (.int 3)] h0 (Q_own_ux3 Z t kb c0 c1 c2 h0 n0) := by
 refine own_bodyN (plainFor_of_name own_pn1) fun p e s m below meth c s₁ Bd hx hby hml hown hZ X0 e0 => ?_
 have N0 := Fr.nil n0
 have K0 : Keep h0 h0 [] := Keep.refl h0 []
 refine own_st (fun tq kq => castTop (ef_own_ux3 m (t)) kq) ?_
 show own_G p e below _ (s₁.setTop (mkF m 0 #[vR t, vI 58, vI 0, vI 3, .unset] []))
 refine s_iloadN X0 hx (hb hby dUX_0) rfl ?_
 refine own_st (fun tq kq => XS.istore X0.here hx rfl (hb hby dUX_1) rfl (l' := #[vR t, vI 58, vI 0, vI 3, vI 0]) rfl kq) ?_
 refine s_iload X0 hx (hb hby dUX_3) rfl ?_
 refine s_iloadN X0 hx (hb hby dUX_5) rfl ?_
 show own_G p e below _ (s₁.setTop (mkF m 6 #[vR t, vI 58, vI 0, vI 3, vI 0] [(.int 3), (.int 0)]))
 refine own_st (fun tq kq => XS.icmpNo X0.here hx rfl (hb hby dUX_6) rfl (tlt (by decide : ((0 : Int32) < (3 : Int32)))).2.1 kq) ?_
 refine s_aloadN X0 hx (hb hby dUX_9) rfl rfl ?_
 refine s_iload X0 hx (hb hby dUX_10) rfl ?_
 obtain ⟨_, _, ⟨T1, L1, k1, n1⟩, -, X1, ⟨Lc1, hQ1, l1, y1, z1⟩, st1⟩ := Jvm.LawKit.callS X0 hx (y := mN2) hown (mvT hZ (wd126 hw)) (mvT hZ (wd127 hw)) (mvT hZ (wd35 hw)) (mvT hZ (wd128 hw)) (by decide) (own_backN (W := 0) (own_get_0 l Z a0 hw [] (t) (_) (_) (_) (_) (_) h0 n0 (by omega) (X00.keep K0 all0) OA OH OL Vt (by decide) (by decide) rfl rfl) hZ (wd128 hw) (wd35 hw) (by decide) (by decide)) (g := (mkF m 12 #[vR t, vI 58, vI 0, vI 3, vI 0] [(.int 0), (.ref t)])) rfl (by rw [hml]; rfl) (argsL := [(.ref t), (.int 0)]) (rest := []) (lenOf own_pd6 rfl) rfl (Nat.le_of_eq rfl) (hb hby dUX_12) (fun _ _ => ⟨rfl, e0, (by decide : 0 + 0 ≤ _), (by decide : 0 + 0 ≤ _)⟩)
 dsimp only [Pt.U, Pt.locs, Pt.cells, Pt.slots] at X1 l1 y1 z1 st1 hQ1
 subst l1 y1 z1
 obtain ⟨rfl, Nq1, sm1⟩ := hQ1
 have N1 := Fr.app N0 Nq1
 refine own_st st1 ?_
 refine s_iloadN X1 hx (hb hby dUX_15) rfl ?_
 show own_G p e below _ (T1.setTop (mkF m 16 #[vR t, vI 58, vI 0, vI 3, vI 0] [(.int 58), (.int (StrChars.pairCh (L8 c0) (H8 c0)))]))
 by_cases hc16_2 : ((StrChars.pairCh (L8 c0) (H8 c0)) = (58 : Int32))
 ·
  refine own_st (fun tq kq => XS.icmpNo X1.here hx rfl (hb hby dUX_16) rfl (teq hc16_2).2 kq) ?_
  refine s_iload X1 hx (hb hby dUX_19) rfl ?_
  show own_G p e below _ (T1.setTop (mkF m 21 #[vR t, vI 58, vI 0, vI 3, vI 0] [(.int 0)]))
  obtain ⟨fs, hr, hrun, hended, hW, hsame⟩ := X1.leave (v := some (.int 0)) (fun h => by rw [Bd.returns] at h; cases h)
  refine ⟨_, _, retOut X1 hx Bd.returns rfl (Or.inl ⟨rfl, by simp, _, rfl⟩) (hb hby dUX_21) hr, hrun, hended, _, _, rfl, ?_, ⟨_, rfl⟩, hW, hsame.mono (by decide) (by decide)⟩
  change Q_own_ux3 Z t kb c0 c1 c2 h0 n0 _ T1.heap _; rw [sm1]; exact ⟨(0 : Int32), rfl, Or.inl ⟨by decide, c0, by simp, (StrChars.pair_says hb0.1 hb0.2).symm.trans hc16_2⟩, N1, rfl⟩
 ·
  refine own_st (fun tq kq => XS.icmpYes X1.here hx rfl (pc0 := 16) (pc' := 22) rfl (hb hby dUX_16) rfl (feq hc16_2).2 (by decide) (by decide) kq) ?_
  refine own_st (fun tq kq => XS.iinc X1.here hx rfl (hb hby dUX_22) rfl (l' := #[vR t, vI 58, vI 0, vI 3, vI 1]) rfl kq) ?_
  refine own_st (fun tq kq => XS.goto X1.here hx rfl (pc0 := 25) (pc' := 3) rfl (hb hby dUX_25) (by decide) (by decide) kq) ?_
  refine s_iload X1 hx (hb hby dUX_3) rfl ?_
  show own_G p e below _ (T1.setTop (mkF m 5 #[vR t, vI 58, vI 0, vI 3, vI 1] [(.int 1)]))
  refine s_iloadN X1 hx (hb hby dUX_5) rfl ?_
  show own_G p e below _ (T1.setTop (mkF m 6 #[vR t, vI 58, vI 0, vI 3, vI 1] [(.int 3), (.int 1)]))
  refine own_st (fun tq kq => XS.icmpNo X1.here hx rfl (hb hby dUX_6) rfl (tlt (by decide : ((1 : Int32) < (3 : Int32)))).2.1 kq) ?_
  refine s_aloadN X1 hx (hb hby dUX_9) rfl rfl ?_
  refine s_iload X1 hx (hb hby dUX_10) rfl ?_
  obtain ⟨_, _, ⟨T3, L3, k3, n3⟩, -, X3, ⟨Lc3, hQ3, l3, y3, z3⟩, st3⟩ := Jvm.LawKit.callS X1 hx (y := mN2) hown (mvT hZ (wd126 hw)) (mvT hZ (wd127 hw)) (mvT hZ (wd35 hw)) (mvT hZ (wd128 hw)) (by decide) (own_backN (W := 0) (own_get_1 l Z a0 hw [] (t) (_) (_) (_) (_) (_) h0 n0 (by omega) (X00.keep K0 all0) OA OH OL Vt (by decide) (by decide) rfl rfl) hZ (wd128 hw) (wd35 hw) (by decide) (by decide)) (g := (mkF m 12 #[vR t, vI 58, vI 0, vI 3, vI 1] [(.int 1), (.ref t)])) rfl (by rw [hml]; rfl) (argsL := [(.ref t), (.int 1)]) (rest := []) (lenOf own_pd6 rfl) rfl (Nat.le_of_eq rfl) (hb hby dUX_12) (fun _ _ => ⟨rfl, sm1, (by decide : 0 + 0 ≤ _), (by decide : 0 + 0 ≤ _)⟩)
  dsimp only [Pt.U, Pt.locs, Pt.cells, Pt.slots] at X3 l3 y3 z3 st3 hQ3
  subst l3 y3 z3
  obtain ⟨rfl, Nq3, sm3⟩ := hQ3
  have N3 := Fr.app N1 Nq3
  refine own_st st3 ?_
  refine s_iloadN X3 hx (hb hby dUX_15) rfl ?_
  show own_G p e below _ (T3.setTop (mkF m 16 #[vR t, vI 58, vI 0, vI 3, vI 1] [(.int 58), (.int (StrChars.pairCh (L8 c1) (H8 c1)))]))
  by_cases hc16_4 : ((StrChars.pairCh (L8 c1) (H8 c1)) = (58 : Int32))
  ·
   refine own_st (fun tq kq => XS.icmpNo X3.here hx rfl (hb hby dUX_16) rfl (teq hc16_4).2 kq) ?_
   refine s_iload X3 hx (hb hby dUX_19) rfl ?_
   show own_G p e below _ (T3.setTop (mkF m 21 #[vR t, vI 58, vI 0, vI 3, vI 1] [(.int 1)]))
   obtain ⟨fs, hr, hrun, hended, hW, hsame⟩ := X3.leave (v := some (.int 1)) (fun h => by rw [Bd.returns] at h; cases h)
   refine ⟨_, _, retOut X3 hx Bd.returns rfl (Or.inl ⟨rfl, by simp, _, rfl⟩) (hb hby dUX_21) hr, hrun, hended, _, _, rfl, ?_, ⟨_, rfl⟩, hW, hsame.mono (by decide) (by decide)⟩
   change Q_own_ux3 Z t kb c0 c1 c2 h0 n0 _ T3.heap _; rw [sm3]; exact ⟨(1 : Int32), rfl, Or.inl ⟨by decide, c1, by simp, (StrChars.pair_says hb1.1 hb1.2).symm.trans hc16_4⟩, N3, rfl⟩
  ·
   refine own_st (fun tq kq => XS.icmpYes X3.here hx rfl (pc0 := 16) (pc' := 22) rfl (hb hby dUX_16) rfl (feq hc16_4).2 (by decide) (by decide) kq) ?_
   refine own_st (fun tq kq => XS.iinc X3.here hx rfl (hb hby dUX_22) rfl (l' := #[vR t, vI 58, vI 0, vI 3, vI 2]) rfl kq) ?_
   refine own_st (fun tq kq => XS.goto X3.here hx rfl (pc0 := 25) (pc' := 3) rfl (hb hby dUX_25) (by decide) (by decide) kq) ?_
   refine s_iload X3 hx (hb hby dUX_3) rfl ?_
   show own_G p e below _ (T3.setTop (mkF m 5 #[vR t, vI 58, vI 0, vI 3, vI 2] [(.int 2)]))
   refine s_iloadN X3 hx (hb hby dUX_5) rfl ?_
   show own_G p e below _ (T3.setTop (mkF m 6 #[vR t, vI 58, vI 0, vI 3, vI 2] [(.int 3), (.int 2)]))
   refine own_st (fun tq kq => XS.icmpNo X3.here hx rfl (hb hby dUX_6) rfl (tlt (by decide : ((2 : Int32) < (3 : Int32)))).2.1 kq) ?_
   refine s_aloadN X3 hx (hb hby dUX_9) rfl rfl ?_
   refine s_iload X3 hx (hb hby dUX_10) rfl ?_
   obtain ⟨_, _, ⟨T5, L5, k5, n5⟩, -, X5, ⟨Lc5, hQ5, l5, y5, z5⟩, st5⟩ := Jvm.LawKit.callS X3 hx (y := mN2) hown (mvT hZ (wd126 hw)) (mvT hZ (wd127 hw)) (mvT hZ (wd35 hw)) (mvT hZ (wd128 hw)) (by decide) (own_backN (W := 0) (own_get_2 l Z a0 hw [] (t) (_) (_) (_) (_) (_) h0 n0 (by omega) (X00.keep K0 all0) OA OH OL Vt (by decide) (by decide) rfl rfl) hZ (wd128 hw) (wd35 hw) (by decide) (by decide)) (g := (mkF m 12 #[vR t, vI 58, vI 0, vI 3, vI 2] [(.int 2), (.ref t)])) rfl (by rw [hml]; rfl) (argsL := [(.ref t), (.int 2)]) (rest := []) (lenOf own_pd6 rfl) rfl (Nat.le_of_eq rfl) (hb hby dUX_12) (fun _ _ => ⟨rfl, sm3, (by decide : 0 + 0 ≤ _), (by decide : 0 + 0 ≤ _)⟩)
   dsimp only [Pt.U, Pt.locs, Pt.cells, Pt.slots] at X5 l5 y5 z5 st5 hQ5
   subst l5 y5 z5
   obtain ⟨rfl, Nq5, sm5⟩ := hQ5
   have N5 := Fr.app N3 Nq5
   refine own_st st5 ?_
   refine s_iloadN X5 hx (hb hby dUX_15) rfl ?_
   show own_G p e below _ (T5.setTop (mkF m 16 #[vR t, vI 58, vI 0, vI 3, vI 2] [(.int 58), (.int (StrChars.pairCh (L8 c2) (H8 c2)))]))
   by_cases hc16_6 : ((StrChars.pairCh (L8 c2) (H8 c2)) = (58 : Int32))
   ·
    refine own_st (fun tq kq => XS.icmpNo X5.here hx rfl (hb hby dUX_16) rfl (teq hc16_6).2 kq) ?_
    refine s_iload X5 hx (hb hby dUX_19) rfl ?_
    show own_G p e below _ (T5.setTop (mkF m 21 #[vR t, vI 58, vI 0, vI 3, vI 2] [(.int 2)]))
    obtain ⟨fs, hr, hrun, hended, hW, hsame⟩ := X5.leave (v := some (.int 2)) (fun h => by rw [Bd.returns] at h; cases h)
    refine ⟨_, _, retOut X5 hx Bd.returns rfl (Or.inl ⟨rfl, by simp, _, rfl⟩) (hb hby dUX_21) hr, hrun, hended, _, _, rfl, ?_, ⟨_, rfl⟩, hW, hsame.mono (by decide) (by decide)⟩
    change Q_own_ux3 Z t kb c0 c1 c2 h0 n0 _ T5.heap _; rw [sm5]; exact ⟨(2 : Int32), rfl, Or.inl ⟨by decide, c2, by simp, (StrChars.pair_says hb2.1 hb2.2).symm.trans hc16_6⟩, N5, rfl⟩
   ·
    refine own_st (fun tq kq => XS.icmpYes X5.here hx rfl (pc0 := 16) (pc' := 22) rfl (hb hby dUX_16) rfl (feq hc16_6).2 (by decide) (by decide) kq) ?_
    refine own_st (fun tq kq => XS.iinc X5.here hx rfl (hb hby dUX_22) rfl (l' := #[vR t, vI 58, vI 0, vI 3, vI 3]) rfl kq) ?_
    refine own_st (fun tq kq => XS.goto X5.here hx rfl (pc0 := 25) (pc' := 3) rfl (hb hby dUX_25) (by decide) (by decide) kq) ?_
    refine s_iload X5 hx (hb hby dUX_3) rfl ?_
    show own_G p e below _ (T5.setTop (mkF m 5 #[vR t, vI 58, vI 0, vI 3, vI 3] [(.int 3)]))
    refine s_iloadN X5 hx (hb hby dUX_5) rfl ?_
    show own_G p e below _ (T5.setTop (mkF m 6 #[vR t, vI 58, vI 0, vI 3, vI 3] [(.int 3), (.int 3)]))
    refine own_st (fun tq kq => XS.icmpYes X5.here hx rfl (pc0 := 6) (pc' := 28) rfl (hb hby dUX_6) rfl (flt (by decide : ¬ ((3 : Int32) < (3 : Int32)))).2.1 (by decide) (by decide) kq) ?_
    refine s_iconst X5 hx (hb hby dUX_28) ?_
    show own_G p e below _ (T5.setTop (mkF m 29 #[vR t, vI 58, vI 0, vI 3, vI 3] [(.int (-1))]))
    obtain ⟨fs, hr, hrun, hended, hW, hsame⟩ := X5.leave (v := some (.int (-1))) (fun h => by rw [Bd.returns] at h; cases h)
    refine ⟨_, _, retOut X5 hx Bd.returns rfl (Or.inl ⟨rfl, by simp, _, rfl⟩) (hb hby dUX_29) hr, hrun, hended, _, _, rfl, ?_, ⟨_, rfl⟩, hW, hsame.mono (by decide) (by decide)⟩
    change Q_own_ux3 Z t kb c0 c1 c2 h0 n0 _ T5.heap _; rw [sm5]; exact ⟨(-1 : Int32), rfl, Or.inr ⟨by decide, own_all3 (fun q => hc16_2 ((StrChars.pair_says hb0.1 hb0.2).trans q)) (fun q => hc16_4 ((StrChars.pair_says hb1.1 hb1.2).trans q)) (fun q => hc16_6 ((StrChars.pair_says hb2.1 hb2.2).trans q))⟩, N5, rfl⟩

def Q_own_uo3 (Z : State) (t : Nat) (kb : ClassId) (fm : Value) (c0 c1 c2 : Int32) (h0 : Heap) (n0 : Nat) (v : Option Value) (h : Heap) (L : List Loc) : Prop := ∃ r : Int32, v = some (.int r) ∧ own_IX r ([c0, c1, c2] : List Int32) ∧ Fr n0 L ∧ h = h0
theorem ef_own_uo3 (m : MethodId) (x0 : Nat) : entryFrame m #[(.ref x0), (.int 58), (.int 0), (.int 3)] 4 = mkF m 0 #[.val (.ref x0), .val (.int 58), .val (.int 0), .val (.int 3)] [] := by first | (simp [entryFrame, mkF, argsToLocals, Value.category]; done) | rfl
theorem own_uo3 (l : Launch) (Z : State) (a0 : Array Value) (hw : hWt a0 Z) (ws : List Jvm.Cond) (t : Nat) (kb : ClassId) (fm : Value) (c0 c1 c2 : Int32) (h0 : Heap) (n0 : Nat) (Z0 : n0 ≤ h0.size) (X00 : Old Z n0 h0) (OA : oA Z) (OH : oH Z) (OL : oL Z) (O4 : o4 Z fm) (rfm : fm.isRef = true) (Vt : Arv Z h0 t kb .byte (6 : Int32) [.int (L8 c0), .int (H8 c0), .int (L8 c1), .int (H8 c1), .int (L8 c2), .int (H8 c2)] (.int 0)) (hb0 : ¬ c0 < 0 ∧ ¬ (65535 : Int32) < c0) (hb1 : ¬ c1 < 0 ∧ ¬ (65535 : Int32) < c1) (hb2 : ¬ c2 < 0 ∧ ¬ (65535 : Int32) < c2) :
 own_MN l mN28 jdk_52_method_47_code 4 (some .int) ws rm_3_0_0_60 Z #[(.ref t), (.int 58), (.int 0), (.int 3)] h0 (Q_own_uo3 Z t kb fm c0 c1 c2 h0 n0) := by
 refine own_bodyN (plainFor_of_name own_pn1) fun p e s m below meth c s₁ Bd hx hby hml hown hZ X0 e0 => ?_
 have N0 := Fr.nil n0
 have K0 : Keep h0 h0 [] := Keep.refl h0 []
 refine own_st (fun tq kq => castTop (ef_own_uo3 m (t)) kq) ?_
 show own_G p e below _ (s₁.setTop (mkF m 0 #[vR t, vI 58, vI 0, vI 3] []))
 refine s_iloadN X0 hx (hb hby dUO_0) rfl ?_
 refine s_iloadN X0 hx (hb hby dUO_1) rfl ?_
 refine s_aloadN X0 hx (hb hby dUO_2) rfl rfl ?_
 obtain ⟨_, _, ⟨T1, L1, k1, n1⟩, -, X1, ⟨Lc1, hQ1, l1, y1, z1⟩, st1⟩ := Jvm.LawKit.callS X0 hx (y := mN26) hown (mvT hZ (wd138 hw)) (mvT hZ (wd139 hw)) (mvT hZ (wd35 hw)) (mvT hZ (wd140 hw)) (by decide) (own_backN (W := 0) (own_ub3 l Z a0 hw [] (t) (kb) (fm) (c0) (c1) (c2) h0 n0 (by omega) (X00.keep K0 all0) O4 rfm Vt) hZ (wd140 hw) (wd35 hw) (by decide) (by decide)) (g := (mkF m 3 #[vR t, vI 58, vI 0, vI 3] [(.ref t), (.int 3), (.int 0)])) rfl (by rw [hml]; rfl) (argsL := [(.int 0), (.int 3), (.ref t)]) (rest := []) (lenOf own_pd20 rfl) rfl (Nat.le_of_eq rfl) (hb hby dUO_3) (fun _ _ => ⟨rfl, e0, (by decide : 0 + 0 ≤ _), (by decide : 0 + 0 ≤ _)⟩)
 dsimp only [Pt.U, Pt.locs, Pt.cells, Pt.slots] at X1 l1 y1 z1 st1 hQ1
 subst l1 y1 z1
 obtain ⟨rfl, Nq1, sm1⟩ := hQ1
 have N1 := Fr.app N0 Nq1
 refine own_st st1 ?_
 refine s_aloadN X1 hx (hb hby dUO_6) rfl rfl ?_
 refine s_iloadN X1 hx (hb hby dUO_7) rfl ?_
 refine s_iloadN X1 hx (hb hby dUO_8) rfl ?_
 refine s_iloadN X1 hx (hb hby dUO_9) rfl ?_
 show own_G p e below _ (T1.setTop (mkF m 10 #[vR t, vI 58, vI 0, vI 3] [(.int 3), (.int 0), (.int 58), (.ref t)]))
 obtain ⟨_, _, ⟨T2, L2, k2, n2⟩, -, X2, ⟨Lc2, hQ2, l2, y2, z2⟩, st2⟩ := Jvm.LawKit.callS X1 hx (y := mN27) hown (mvT hZ (wd150 hw)) (mvT hZ (wd151 hw)) (mvT hZ (wd35 hw)) (mvT hZ (wd152 hw)) (by decide) (own_backN (W := 0) (own_ux3 l Z a0 hw [] (t) (kb) (c0) (c1) (c2) h0 n0 (by omega) (X00.keep K0 all0) OA OH OL Vt hb0 hb1 hb2) hZ (wd152 hw) (wd35 hw) (by decide) (by decide)) (g := (mkF m 10 #[vR t, vI 58, vI 0, vI 3] [(.int 3), (.int 0), (.int 58), (.ref t)])) rfl (by rw [hml]; rfl) (argsL := [(.ref t), (.int 58), (.int 0), (.int 3)]) (rest := []) (lenOf own_pd17 rfl) rfl (Nat.le_of_eq rfl) (hb hby dUO_10) (fun _ _ => ⟨rfl, sm1, (by decide : 0 + 0 ≤ _), (by decide : 0 + 0 ≤ _)⟩)
 dsimp only [Pt.U, Pt.locs, Pt.cells, Pt.slots] at X2 l2 y2 z2 st2 hQ2
 subst l2 y2 z2
 obtain ⟨r2, rfl, ix2, Nq2, sm2⟩ := hQ2
 have N2 := Fr.app N1 Nq2
 refine own_st st2 ?_
 obtain ⟨fs, hr, hrun, hended, hW, hsame⟩ := X2.leave (v := some (.int r2)) (fun h => by rw [Bd.returns] at h; cases h)
 refine ⟨_, _, retOut X2 hx Bd.returns rfl (Or.inl ⟨rfl, by simp, _, rfl⟩) (hb hby dUO_13) hr, hrun, hended, _, _, rfl, ?_, ⟨_, rfl⟩, hW, hsame.mono (by decide) (by decide)⟩
 change Q_own_uo3 Z t kb fm c0 c1 c2 h0 n0 _ T2.heap _; rw [sm2]; exact ⟨r2, rfl, ix2, N2, rfl⟩

def Q_own_un3 (Z : State) (t : Nat) (kb : ClassId) (fm : Value) (c0 c1 c2 : Int32) (h0 : Heap) (n0 : Nat) (v : Option Value) (h : Heap) (L : List Loc) : Prop := ∃ r : Int32, v = some (.int r) ∧ own_IX r ([c0, c1, c2] : List Int32) ∧ Fr n0 L ∧ h = h0
theorem ef_own_un3 (m : MethodId) (x0 : Nat) : entryFrame m #[(.ref x0), (.int 58), (.int 0), (.int 3)] 4 = mkF m 0 #[.val (.ref x0), .val (.int 58), .val (.int 0), .val (.int 3)] [] := by first | (simp [entryFrame, mkF, argsToLocals, Value.category]; done) | rfl
theorem own_un3 (l : Launch) (Z : State) (a0 : Array Value) (hw : hWt a0 Z) (ws : List Jvm.Cond) (t : Nat) (kb : ClassId) (fm : Value) (c0 c1 c2 : Int32) (h0 : Heap) (n0 : Nat) (Z0 : n0 ≤ h0.size) (X00 : Old Z n0 h0) (OA : oA Z) (OH : oH Z) (OL : oL Z) (O4 : o4 Z fm) (rfm : fm.isRef = true) (Vt : Arv Z h0 t kb .byte (6 : Int32) [.int (L8 c0), .int (H8 c0), .int (L8 c1), .int (H8 c1), .int (L8 c2), .int (H8 c2)] (.int 0)) (hb0 : ¬ c0 < 0 ∧ ¬ (65535 : Int32) < c0) (hb1 : ¬ c1 < 0 ∧ ¬ (65535 : Int32) < c1) (hb2 : ¬ c2 < 0 ∧ ¬ (65535 : Int32) < c2) :
 own_MN l mN29 jdk_52_method_40_code 4 (some .int) ws rm_4_0_0_80 Z #[(.ref t), (.int 58), (.int 0), (.int 3)] h0 (Q_own_un3 Z t kb fm c0 c1 c2 h0 n0) := by
 refine own_bodyN (plainFor_of_name own_pn1) fun p e s m below meth c s₁ Bd hx hby hml hown hZ X0 e0 => ?_
 have N0 := Fr.nil n0
 have K0 : Keep h0 h0 [] := Keep.refl h0 []
 refine own_st (fun tq kq => castTop (ef_own_un3 m (t)) kq) ?_
 show own_G p e below _ (s₁.setTop (mkF m 0 #[vR t, vI 58, vI 0, vI 3] []))
 refine s_iloadN X0 hx (hb hby dUN_0) rfl ?_
 refine s_iconst X0 hx (hb hby dUN_1) ?_
 obtain ⟨_, _, ⟨T1, L1, k1, n1⟩, -, X1, ⟨Lc1, hQ1, l1, y1, z1⟩, st1⟩ := Jvm.LawKit.callS X0 hx (y := mN19) hown (mvT hZ (wd132 hw)) (mvT hZ (wd80 hw)) (mvT hZ (wd81 hw)) (mvT hZ (wd82 hw)) (by decide) (own_backN (W := 0) (own_max l Z a0 hw []  h0 n0 (by omega) (X00.keep K0 all0) ) hZ (wd82 hw) (wd81 hw) (by decide) (by decide)) (g := (mkF m 2 #[vR t, vI 58, vI 0, vI 3] [(.int 0), (.int 0)])) rfl (by rw [hml]; rfl) (argsL := [(.int 0), (.int 0)]) (rest := []) (lenOf own_pd16 rfl) rfl (Nat.le_of_eq rfl) (hb hby dUN_2) (fun _ _ => ⟨rfl, e0, (by decide : 0 + 0 ≤ _), (by decide : 0 + 0 ≤ _)⟩)
 dsimp only [Pt.U, Pt.locs, Pt.cells, Pt.slots] at X1 l1 y1 z1 st1 hQ1
 subst l1 y1 z1
 obtain ⟨rfl, Nq1, sm1⟩ := hQ1
 have N1 := Fr.app N0 Nq1
 refine own_st st1 ?_
 refine own_st (fun tq kq => XS.istoreN X1.here hx rfl (hb hby dUN_5) rfl (l' := #[vR t, vI 58, vI 0, vI 3]) rfl kq) ?_
 refine s_iloadN X1 hx (hb hby dUN_6) rfl ?_
 refine s_aloadN X1 hx (hb hby dUN_7) rfl rfl ?_
 obtain ⟨cl2, Ar2, q2, S_2, N_2, H_2, G_2⟩ := id Vt
 refine own_st (fun tq kq => X1.arraylength hx (by rw [sm1]; exact Ar2.1) (State.isArrayOf_alike hZ.alike Ar2.2.1) (g := (mkF m 8 #[vR t, vI 58, vI 0, vI 3] [(.ref t), (.int 3)])) rfl rfl (hb hby dUN_8) _ kq) ?_
 rw [len_of S_2 N_2]
 show own_G p e below _ (T1.setTop (mkF m 9 #[vR t, vI 58, vI 0, vI 3] [(.int 6), (.int 3)]))
 refine s_iconst X1 hx (hb hby dUN_9) ?_
 refine own_st (fun tq kq => XS.ishr X1.here hx rfl (hb hby dUN_10) rfl kq) ?_
 obtain ⟨_, _, ⟨T3, L3, k3, n3⟩, -, X3, ⟨Lc3, hQ3, l3, y3, z3⟩, st3⟩ := Jvm.LawKit.callS X1 hx (y := mN21) hown (mvT hZ (wd133 hw)) (mvT hZ (wd84 hw)) (mvT hZ (wd81 hw)) (mvT hZ (wd85 hw)) (by decide) (own_backN (W := 0) (own_min3 l Z a0 hw []  h0 n0 (by omega) (X00.keep K0 all0) ) hZ (wd85 hw) (wd81 hw) (by decide) (by decide)) (g := (mkF m 11 #[vR t, vI 58, vI 0, vI 3] [(.int 3), (.int 3)])) rfl (by rw [hml]; rfl) (argsL := [(.int 3), (.int 3)]) (rest := []) (lenOf own_pd16 rfl) rfl (Nat.le_of_eq rfl) (hb hby dUN_11) (fun _ _ => ⟨rfl, sm1, (by decide : 0 + 0 ≤ _), (by decide : 0 + 0 ≤ _)⟩)
 dsimp only [Pt.U, Pt.locs, Pt.cells, Pt.slots] at X3 l3 y3 z3 st3 hQ3
 subst l3 y3 z3
 obtain ⟨rfl, Nq3, sm3⟩ := hQ3
 have N3 := Fr.app N1 Nq3
 refine own_st st3 ?_
 refine own_st (fun tq kq => XS.istoreN X3.here hx rfl (hb hby dUN_14) rfl (l' := #[vR t, vI 58, vI 0, vI 3]) rfl kq) ?_
 refine s_iloadN X3 hx (hb hby dUN_15) rfl ?_
 refine s_iloadN X3 hx (hb hby dUN_16) rfl ?_
 show own_G p e below _ (T3.setTop (mkF m 17 #[vR t, vI 58, vI 0, vI 3] [(.int 3), (.int 0)]))
 refine own_st (fun tq kq => XS.icmpYes X3.here hx rfl (pc0 := 17) (pc' := 22) rfl (hb hby dUN_17) rfl (tlt (by decide : ((0 : Int32) < (3 : Int32)))).1 (by decide) (by decide) kq) ?_
 refine s_iloadN X3 hx (hb hby dUN_22) rfl ?_
 refine own_st (fun tq kq => X3.ldcInt hx hown (mvT hZ (wd134 hw)) (g := (mkF m 23 #[vR t, vI 58, vI 0, vI 3] [(.int 58)])) rfl (hb hby dUN_23) _ kq) ?_
 show own_G p e below _ (T3.setTop (mkF m 25 #[vR t, vI 58, vI 0, vI 3] [(.int 65536), (.int 58)]))
 refine own_st (fun tq kq => XS.icmpNo X3.here hx rfl (hb hby dUN_25) rfl (tlt (by decide : ((58 : Int32) < (65536 : Int32)))).2.1 kq) ?_
 refine s_aloadN X3 hx (hb hby dUN_28) rfl rfl ?_
 refine s_iloadN X3 hx (hb hby dUN_29) rfl ?_
 refine s_iloadN X3 hx (hb hby dUN_30) rfl ?_
 show own_G p e below _ (T3.setTop (mkF m 31 #[vR t, vI 58, vI 0, vI 3] [(.int 0), (.int 58), (.ref t)]))
 refine s_iloadN X3 hx (hb hby dUN_31) rfl ?_
 obtain ⟨_, _, ⟨T4, L4, k4, n4⟩, -, X4, ⟨Lc4, hQ4, l4, y4, z4⟩, st4⟩ := Jvm.LawKit.callS X3 hx (y := mN28) hown (mvT hZ (wd135 hw)) (mvT hZ (wd136 hw)) (mvT hZ (wd35 hw)) (mvT hZ (wd137 hw)) (by decide) (own_backN (W := 0) (own_uo3 l Z a0 hw [] (t) (kb) (fm) (c0) (c1) (c2) h0 n0 (by omega) (X00.keep K0 all0) OA OH OL O4 rfm Vt hb0 hb1 hb2) hZ (wd137 hw) (wd35 hw) (by decide) (by decide)) (g := (mkF m 32 #[vR t, vI 58, vI 0, vI 3] [(.int 3), (.int 0), (.int 58), (.ref t)])) rfl (by rw [hml]; rfl) (argsL := [(.ref t), (.int 58), (.int 0), (.int 3)]) (rest := []) (lenOf own_pd17 rfl) rfl (Nat.le_of_eq rfl) (hb hby dUN_32) (fun _ _ => ⟨rfl, sm3, (by decide : 0 + 0 ≤ _), (by decide : 0 + 0 ≤ _)⟩)
 dsimp only [Pt.U, Pt.locs, Pt.cells, Pt.slots] at X4 l4 y4 z4 st4 hQ4
 subst l4 y4 z4
 obtain ⟨r4, rfl, ix4, Nq4, sm4⟩ := hQ4
 have N4 := Fr.app N3 Nq4
 refine own_st st4 ?_
 obtain ⟨fs, hr, hrun, hended, hW, hsame⟩ := X4.leave (v := some (.int r4)) (fun h => by rw [Bd.returns] at h; cases h)
 refine ⟨_, _, retOut X4 hx Bd.returns rfl (Or.inl ⟨rfl, by simp, _, rfl⟩) (hb hby dUN_35) hr, hrun, hended, _, _, rfl, ?_, ⟨_, rfl⟩, hW, hsame.mono (by decide) (by decide)⟩
 change Q_own_un3 Z t kb fm c0 c1 c2 h0 n0 _ T4.heap _; rw [sm4]; exact ⟨r4, rfl, ix4, N4, rfl⟩

def Q_own_j2_3_0 (Z : State) (x t nb : Nat) (kb : ClassId) (fm : Value) (G1 : Int32) (c0 c1 c2 : Int32) (h0 : Heap) (n0 : Nat) (v : Option Value) (h : Heap) (L : List Loc) : Prop := ∃ r : Int32, v = some (.int r) ∧ own_IX r ([c0, c1, c2] : List Int32) ∧ Fr n0 L ∧ h = h0
theorem ef_own_j2_3_0 (m : MethodId) (x0 : Nat) : entryFrame m #[(.ref x0), (.int 58), (.int 0)] 3 = mkF m 0 #[.val (.ref x0), .val (.int 58), .val (.int 0)] [] := by first | (simp [entryFrame, mkF, argsToLocals, Value.category]; done) | rfl
theorem own_j2_3_0 (l : Launch) (Z : State) (a0 : Array Value) (hw : hWt a0 Z) (ws : List Jvm.Cond) (x t nb : Nat) (kb : ClassId) (fm : Value) (G1 : Int32) (c0 c1 c2 : Int32) (h0 : Heap) (n0 : Nat) (Z0 : n0 ≤ h0.size) (X00 : Old Z n0 h0) (Ex : Exa Z h0 x "java/lang/String") (Fv : Fld Z h0 x "java/lang/String" "value" "[B" (.ref t)) (Fc : Fld Z h0 x "java/lang/String" "coder" "B" (.int (0 : Int32))) (Sx : own_StrU Z nb h0 x ([c0, c1, c2] : List Int32)) (O2 : Sta Z Z.heap "java/lang/String" "COMPACT_STRINGS" "Z" (.int G1)) (P5 : ¬ (G1 = (0 : Int32))) (OA : oA Z) (OH : oH Z) (OL : oL Z) (O4 : o4 Z fm) (rfm : fm.isRef = true) (Vt : Arv Z h0 t kb .byte (3 : Int32) [.int (c0.toInt8.toInt32), .int (c1.toInt8.toInt32), .int (c2.toInt8.toInt32)] (.int 0)) (hb0 : ¬ c0 < 0 ∧ ¬ (255 : Int32) < c0) (hb1 : ¬ c1 < 0 ∧ ¬ (255 : Int32) < c1) (hb2 : ¬ c2 < 0 ∧ ¬ (255 : Int32) < c2) :
 own_MN l mN30 jdk_42_method_80_code 3 (some .int) ws rm_5_0_0_100 Z #[(.ref x), (.int 58), (.int 0)] h0 (Q_own_j2_3_0 Z x t nb kb fm G1 c0 c1 c2 h0 n0) := by
 refine own_bodyN (plainFor_of_name own_pn0) fun p e s m below meth c s₁ Bd hx hby hml hown hZ X0 e0 => ?_
 have N0 := Fr.nil n0
 have K0 : Keep h0 h0 [] := Keep.refl h0 []
 refine own_st (fun tq kq => castTop (ef_own_j2_3_0 m (x)) kq) ?_
 show own_G p e below _ (s₁.setTop (mkF m 0 #[vR x, vI 58, vI 0] []))
 refine s_aloadN X0 hx (hb hby dJ2_0) rfl rfl ?_
 obtain ⟨cq1, kq1, q1a, q1b, q1c⟩ := isOf hZ e0 Ex
 obtain ⟨_, _, ⟨T1, L1, k1, n1⟩, -, X1, ⟨Lc1, hQ1, l1, y1, z1⟩, st1⟩ := X0.virtualBack hx (y := mN13) (z := mN13) hown (mvT hZ (wd57 hw)) (mvT hZ (wd58 hw)) (notFace_of_selects (args := #[]) (mvT hZ (wd60 hw))) (mvT hZ (wd60 hw)) (mvT hZ (wd59 hw)) (by decide) (own_backN (W := 0) (own_isL0 l Z a0 hw [] (x) (G1) h0 n0 (by omega) (X00.keep K0 all0) Fc O2 P5) hZ (wd61 hw) (wd3 hw) (by decide) (by decide)) q1a q1c (g := (mkF m 1 #[vR x, vI 58, vI 0] [(.ref x)])) rfl (by rw [hml]; rfl) (Steps.refl _) (argsL := []) (rest := []) (lenOf own_pd12 rfl) rfl (Nat.le_of_eq rfl) (hb hby dJ2_1) (fun _ _ => ⟨rfl, e0, (by decide : 0 + 0 ≤ _), (by decide : 0 + 0 ≤ _)⟩)
 dsimp only [Pt.U, Pt.locs, Pt.cells, Pt.slots] at X1 l1 y1 z1 st1 hQ1
 subst l1 y1 z1
 obtain ⟨rfl, Nq1, sm1⟩ := hQ1
 have N1 := Fr.app N0 Nq1
 refine own_st (fun tq kq => st1.trans kq) ?_
 refine own_st (fun tq kq => XS.ifNo X1.here hx rfl (hb hby dJ2_4) rfl ((if0 _ _).trans (feq (by decide : ¬ ((1 : Int32) = (0 : Int32)))).1) kq) ?_
 refine s_aloadN X1 hx (hb hby dJ2_7) rfl rfl ?_
 obtain ⟨T2, X2, e2, st2⟩ := getF X1 hx hZ hown (host := "") (Or.inl (wd21 hw)) Via.refl sm1 Fv (g := (mkF m 8 #[vR x, vI 58, vI 0] [(.ref x)])) rfl rfl (hb hby dJ2_8)
 refine own_st st2 ?_
 refine s_iloadN X2 hx (hb hby dJ2_11) rfl ?_
 refine s_iloadN X2 hx (hb hby dJ2_12) rfl ?_
 refine s_aloadN X2 hx (hb hby dJ2_13) rfl rfl ?_
 obtain ⟨-, E_3, hb_3, ln_3, t_3, kb_3, cd_3, N2_3, vs_3, -, V_3, C_3, A_3, hc_3⟩ := id Sx
 obtain ⟨cq3, kq3, q3a, q3b, q3c⟩ := isOf hZ e2 Ex
 obtain ⟨_, _, ⟨T3, L3, k3, n3⟩, -, X3, ⟨Lc3, hQ3, l3, y3, z3⟩, st3⟩ := X2.virtualBack hx (y := mN18) (z := mN18) hown (mvT hZ (wd62 hw)) (mvT hZ (wd63 hw)) (notFace_of_selects (args := #[]) (mvT hZ (wd65 hw))) (mvT hZ (wd65 hw)) (mvT hZ (wd64 hw)) (by decide) (StrChars.Road.lenW (W := 3) hZ (own_wLen hw) (kI := 4) (wd2 hw) E_3 V_3 C_3 A_3 hc_3 hb_3 (O2.ext (X00.keep K0 all0).2) P5 ln_3 (by decide) (by decide)) q3a q3c (g := (mkF m 14 #[vR x, vI 58, vI 0] [(.ref x), (.int 0), (.int 58), (.ref t)])) rfl (by rw [hml]; rfl) (Steps.refl _) (argsL := []) (rest := [(.int 0), (.int 58), (.ref t)]) (lenOf own_pd13 rfl) rfl (Nat.le_of_eq rfl) (hb hby dJ2_14) (fun _ _ => ⟨rfl, e2, (by decide : 0 + 0 ≤ _), (by decide : 0 + 0 ≤ _)⟩)
 dsimp only [Pt.U, Pt.locs, Pt.cells, Pt.slots] at X3 l3 y3 z3 st3 hQ3
 subst l3 y3 z3
 obtain ⟨rfl, rfl, sm3⟩ := hQ3
 have N3 := Fr.app N1 (Fr.nil n0)
 refine own_st (fun tq kq => st3.trans kq) ?_
 obtain ⟨_, _, ⟨T4, L4, k4, n4⟩, -, X4, ⟨Lc4, hQ4, l4, y4, z4⟩, st4⟩ := Jvm.LawKit.callS X3 hx (y := mN23) hown (mvT hZ (wd72 hw)) (mvT hZ (wd73 hw)) (mvT hZ (wd74 hw)) (mvT hZ (wd75 hw)) (by decide) (own_backN (W := 0) (own_li3 l Z a0 hw [] (t) (kb) (c0) (c1) (c2) h0 n0 (by omega) (X00.keep K0 all0) Vt hb0 hb1 hb2) hZ (wd75 hw) (wd74 hw) (by decide) (by decide)) (g := (mkF m 17 #[vR x, vI 58, vI 0] [(.int 3), (.int 0), (.int 58), (.ref t)])) rfl (by rw [hml]; rfl) (argsL := [(.ref t), (.int 58), (.int 0), (.int 3)]) (rest := []) (lenOf own_pd17 rfl) rfl (Nat.le_of_eq rfl) (hb hby dJ2_17) (fun _ _ => ⟨rfl, sm3, (by decide : 0 + 0 ≤ _), (by decide : 0 + 0 ≤ _)⟩)
 dsimp only [Pt.U, Pt.locs, Pt.cells, Pt.slots] at X4 l4 y4 z4 st4 hQ4
 subst l4 y4 z4
 obtain ⟨r4, rfl, ix4, Nq4, sm4⟩ := hQ4
 have N4 := Fr.app N3 Nq4
 refine own_st st4 ?_
 refine own_st (fun tq kq => XS.goto X4.here hx rfl (pc0 := 20) (pc' := 36) rfl (hb hby dJ2_20) (by decide) (by decide) kq) ?_
 show own_G p e below _ (T4.setTop (mkF m 36 #[vR x, vI 58, vI 0] [(.int r4)]))
 obtain ⟨fs, hr, hrun, hended, hW, hsame⟩ := X4.leave (v := some (.int r4)) (fun h => by rw [Bd.returns] at h; cases h)
 refine ⟨_, _, retOut X4 hx Bd.returns rfl (Or.inl ⟨rfl, by simp, _, rfl⟩) (hb hby dJ2_36) hr, hrun, hended, _, _, rfl, ?_, ⟨_, rfl⟩, hW, hsame.mono (by decide) (by decide)⟩
 change Q_own_j2_3_0 Z x t nb kb fm G1 c0 c1 c2 h0 n0 _ T4.heap _; rw [sm4]; exact ⟨r4, rfl, ix4, N4, rfl⟩

def Q_own_j1_3_0 (Z : State) (x t nb : Nat) (kb : ClassId) (fm : Value) (G1 : Int32) (c0 c1 c2 : Int32) (h0 : Heap) (n0 : Nat) (v : Option Value) (h : Heap) (L : List Loc) : Prop := ∃ r : Int32, v = some (.int r) ∧ own_IX r ([c0, c1, c2] : List Int32) ∧ Fr n0 L ∧ h = h0
theorem ef_own_j1_3_0 (m : MethodId) (x0 : Nat) : entryFrame m #[(.ref x0), (.int 58)] 2 = mkF m 0 #[.val (.ref x0), .val (.int 58)] [] := by first | (simp [entryFrame, mkF, argsToLocals, Value.category]; done) | rfl
theorem own_j1_3_0 (l : Launch) (Z : State) (a0 : Array Value) (hw : hWt a0 Z) (ws : List Jvm.Cond) (x t nb : Nat) (kb : ClassId) (fm : Value) (G1 : Int32) (c0 c1 c2 : Int32) (h0 : Heap) (n0 : Nat) (Z0 : n0 ≤ h0.size) (X00 : Old Z n0 h0) (Ex : Exa Z h0 x "java/lang/String") (Fv : Fld Z h0 x "java/lang/String" "value" "[B" (.ref t)) (Fc : Fld Z h0 x "java/lang/String" "coder" "B" (.int (0 : Int32))) (Sx : own_StrU Z nb h0 x ([c0, c1, c2] : List Int32)) (O2 : Sta Z Z.heap "java/lang/String" "COMPACT_STRINGS" "Z" (.int G1)) (P5 : ¬ (G1 = (0 : Int32))) (OA : oA Z) (OH : oH Z) (OL : oL Z) (O4 : o4 Z fm) (rfm : fm.isRef = true) (Vt : Arv Z h0 t kb .byte (3 : Int32) [.int (c0.toInt8.toInt32), .int (c1.toInt8.toInt32), .int (c2.toInt8.toInt32)] (.int 0)) (hb0 : ¬ c0 < 0 ∧ ¬ (255 : Int32) < c0) (hb1 : ¬ c1 < 0 ∧ ¬ (255 : Int32) < c1) (hb2 : ¬ c2 < 0 ∧ ¬ (255 : Int32) < c2) :
 own_MN l mN31 jdk_42_method_79_code 2 (some .int) ws rm_6_0_0_120 Z #[(.ref x), (.int 58)] h0 (Q_own_j1_3_0 Z x t nb kb fm G1 c0 c1 c2 h0 n0) := by
 refine own_bodyN (plainFor_of_name own_pn0) fun p e s m below meth c s₁ Bd hx hby hml hown hZ X0 e0 => ?_
 have N0 := Fr.nil n0
 have K0 : Keep h0 h0 [] := Keep.refl h0 []
 refine own_st (fun tq kq => castTop (ef_own_j1_3_0 m (x)) kq) ?_
 show own_G p e below _ (s₁.setTop (mkF m 0 #[vR x, vI 58] []))
 refine s_aloadN X0 hx (hb hby dJ1_0) rfl rfl ?_
 refine s_iloadN X0 hx (hb hby dJ1_1) rfl ?_
 refine s_iconst X0 hx (hb hby dJ1_2) ?_
 obtain ⟨cq1, kq1, q1a, q1b, q1c⟩ := isOf hZ e0 Ex
 obtain ⟨_, _, ⟨T1, L1, k1, n1⟩, -, X1, ⟨Lc1, hQ1, l1, y1, z1⟩, st1⟩ := X0.virtualBack hx (y := mN30) (z := mN30) hown (mvT hZ (wd52 hw)) (mvT hZ (wd53 hw)) (notFace_of_selects (args := #[]) (mvT hZ (wd55 hw))) (mvT hZ (wd55 hw)) (mvT hZ (wd54 hw)) (by decide) (own_backN (W := 0) (own_j2_3_0 l Z a0 hw [] (x) (t) (nb) (kb) (fm) (G1) (c0) (c1) (c2) h0 n0 (by omega) (X00.keep K0 all0) Ex Fv Fc Sx O2 P5 OA OH OL O4 rfm Vt hb0 hb1 hb2) hZ (wd56 hw) (wd3 hw) (by decide) (by decide)) q1a q1c (g := (mkF m 3 #[vR x, vI 58] [(.int 0), (.int 58), (.ref x)])) rfl (by rw [hml]; rfl) (Steps.refl _) (argsL := [(.int 58), (.int 0)]) (rest := []) (lenOf own_pd16 rfl) rfl (Nat.le_of_eq rfl) (hb hby dJ1_3) (fun _ _ => ⟨rfl, e0, (by decide : 0 + 0 ≤ _), (by decide : 0 + 0 ≤ _)⟩)
 dsimp only [Pt.U, Pt.locs, Pt.cells, Pt.slots] at X1 l1 y1 z1 st1 hQ1
 subst l1 y1 z1
 obtain ⟨r1, rfl, ix1, Nq1, sm1⟩ := hQ1
 have N1 := Fr.app N0 Nq1
 refine own_st (fun tq kq => st1.trans kq) ?_
 obtain ⟨fs, hr, hrun, hended, hW, hsame⟩ := X1.leave (v := some (.int r1)) (fun h => by rw [Bd.returns] at h; cases h)
 refine ⟨_, _, retOut X1 hx Bd.returns rfl (Or.inl ⟨rfl, by simp, _, rfl⟩) (hb hby dJ1_6) hr, hrun, hended, _, _, rfl, ?_, ⟨_, rfl⟩, hW, hsame.mono (by decide) (by decide)⟩
 change Q_own_j1_3_0 Z x t nb kb fm G1 c0 c1 c2 h0 n0 _ T1.heap _; rw [sm1]; exact ⟨r1, rfl, ix1, N1, rfl⟩

def Q_own_j2_3_1 (Z : State) (x t nb : Nat) (kb : ClassId) (fm : Value) (G1 : Int32) (c0 c1 c2 : Int32) (h0 : Heap) (n0 : Nat) (v : Option Value) (h : Heap) (L : List Loc) : Prop := ∃ r : Int32, v = some (.int r) ∧ own_IX r ([c0, c1, c2] : List Int32) ∧ Fr n0 L ∧ h = h0
theorem ef_own_j2_3_1 (m : MethodId) (x0 : Nat) : entryFrame m #[(.ref x0), (.int 58), (.int 0)] 3 = mkF m 0 #[.val (.ref x0), .val (.int 58), .val (.int 0)] [] := by first | (simp [entryFrame, mkF, argsToLocals, Value.category]; done) | rfl
theorem own_j2_3_1 (l : Launch) (Z : State) (a0 : Array Value) (hw : hWt a0 Z) (ws : List Jvm.Cond) (x t nb : Nat) (kb : ClassId) (fm : Value) (G1 : Int32) (c0 c1 c2 : Int32) (h0 : Heap) (n0 : Nat) (Z0 : n0 ≤ h0.size) (X00 : Old Z n0 h0) (Ex : Exa Z h0 x "java/lang/String") (Fv : Fld Z h0 x "java/lang/String" "value" "[B" (.ref t)) (Fc : Fld Z h0 x "java/lang/String" "coder" "B" (.int (1 : Int32))) (Sx : own_StrU Z nb h0 x ([c0, c1, c2] : List Int32)) (O2 : Sta Z Z.heap "java/lang/String" "COMPACT_STRINGS" "Z" (.int G1)) (P5 : ¬ (G1 = (0 : Int32))) (OA : oA Z) (OH : oH Z) (OL : oL Z) (O4 : o4 Z fm) (rfm : fm.isRef = true) (Vt : Arv Z h0 t kb .byte (6 : Int32) [.int (L8 c0), .int (H8 c0), .int (L8 c1), .int (H8 c1), .int (L8 c2), .int (H8 c2)] (.int 0)) (hb0 : ¬ c0 < 0 ∧ ¬ (65535 : Int32) < c0) (hb1 : ¬ c1 < 0 ∧ ¬ (65535 : Int32) < c1) (hb2 : ¬ c2 < 0 ∧ ¬ (65535 : Int32) < c2) :
 own_MN l mN30 jdk_42_method_80_code 3 (some .int) ws rm_5_0_0_100 Z #[(.ref x), (.int 58), (.int 0)] h0 (Q_own_j2_3_1 Z x t nb kb fm G1 c0 c1 c2 h0 n0) := by
 refine own_bodyN (plainFor_of_name own_pn0) fun p e s m below meth c s₁ Bd hx hby hml hown hZ X0 e0 => ?_
 have N0 := Fr.nil n0
 have K0 : Keep h0 h0 [] := Keep.refl h0 []
 refine own_st (fun tq kq => castTop (ef_own_j2_3_1 m (x)) kq) ?_
 show own_G p e below _ (s₁.setTop (mkF m 0 #[vR x, vI 58, vI 0] []))
 refine s_aloadN X0 hx (hb hby dJ2_0) rfl rfl ?_
 obtain ⟨cq1, kq1, q1a, q1b, q1c⟩ := isOf hZ e0 Ex
 obtain ⟨_, _, ⟨T1, L1, k1, n1⟩, -, X1, ⟨Lc1, hQ1, l1, y1, z1⟩, st1⟩ := X0.virtualBack hx (y := mN13) (z := mN13) hown (mvT hZ (wd57 hw)) (mvT hZ (wd58 hw)) (notFace_of_selects (args := #[]) (mvT hZ (wd60 hw))) (mvT hZ (wd60 hw)) (mvT hZ (wd59 hw)) (by decide) (own_backN (W := 0) (own_isL l Z a0 hw [] (x) (G1) h0 n0 (by omega) (X00.keep K0 all0) Fc O2 P5) hZ (wd61 hw) (wd3 hw) (by decide) (by decide)) q1a q1c (g := (mkF m 1 #[vR x, vI 58, vI 0] [(.ref x)])) rfl (by rw [hml]; rfl) (Steps.refl _) (argsL := []) (rest := []) (lenOf own_pd12 rfl) rfl (Nat.le_of_eq rfl) (hb hby dJ2_1) (fun _ _ => ⟨rfl, e0, (by decide : 0 + 0 ≤ _), (by decide : 0 + 0 ≤ _)⟩)
 dsimp only [Pt.U, Pt.locs, Pt.cells, Pt.slots] at X1 l1 y1 z1 st1 hQ1
 subst l1 y1 z1
 obtain ⟨rfl, Nq1, sm1⟩ := hQ1
 have N1 := Fr.app N0 Nq1
 refine own_st (fun tq kq => st1.trans kq) ?_
 refine own_st (fun tq kq => XS.ifYes X1.here hx rfl (pc0 := 4) (pc' := 23) rfl (hb hby dJ2_4) rfl ((if0 _ _).trans (teq (by decide : ((0 : Int32) = (0 : Int32)))).1) (by decide) (by decide) kq) ?_
 refine s_aloadN X1 hx (hb hby dJ2_23) rfl rfl ?_
 obtain ⟨T2, X2, e2, st2⟩ := getF X1 hx hZ hown (host := "") (Or.inl (wd21 hw)) Via.refl sm1 Fv (g := (mkF m 24 #[vR x, vI 58, vI 0] [(.ref x)])) rfl rfl (hb hby dJ2_24)
 refine own_st st2 ?_
 refine s_iloadN X2 hx (hb hby dJ2_27) rfl ?_
 refine s_iloadN X2 hx (hb hby dJ2_28) rfl ?_
 refine s_aloadN X2 hx (hb hby dJ2_29) rfl rfl ?_
 obtain ⟨-, E_3, hb_3, ln_3, t_3, kb_3, cd_3, N2_3, vs_3, -, V_3, C_3, A_3, hc_3⟩ := id Sx
 obtain ⟨cq3, kq3, q3a, q3b, q3c⟩ := isOf hZ e2 Ex
 obtain ⟨_, _, ⟨T3, L3, k3, n3⟩, -, X3, ⟨Lc3, hQ3, l3, y3, z3⟩, st3⟩ := X2.virtualBack hx (y := mN18) (z := mN18) hown (mvT hZ (wd62 hw)) (mvT hZ (wd63 hw)) (notFace_of_selects (args := #[]) (mvT hZ (wd65 hw))) (mvT hZ (wd65 hw)) (mvT hZ (wd64 hw)) (by decide) (StrChars.Road.lenW (W := 3) hZ (own_wLen hw) (kI := 4) (wd2 hw) E_3 V_3 C_3 A_3 hc_3 hb_3 (O2.ext (X00.keep K0 all0).2) P5 ln_3 (by decide) (by decide)) q3a q3c (g := (mkF m 30 #[vR x, vI 58, vI 0] [(.ref x), (.int 0), (.int 58), (.ref t)])) rfl (by rw [hml]; rfl) (Steps.refl _) (argsL := []) (rest := [(.int 0), (.int 58), (.ref t)]) (lenOf own_pd13 rfl) rfl (Nat.le_of_eq rfl) (hb hby dJ2_30) (fun _ _ => ⟨rfl, e2, (by decide : 0 + 0 ≤ _), (by decide : 0 + 0 ≤ _)⟩)
 dsimp only [Pt.U, Pt.locs, Pt.cells, Pt.slots] at X3 l3 y3 z3 st3 hQ3
 subst l3 y3 z3
 obtain ⟨rfl, rfl, sm3⟩ := hQ3
 have N3 := Fr.app N1 (Fr.nil n0)
 refine own_st (fun tq kq => st3.trans kq) ?_
 obtain ⟨_, _, ⟨T4, L4, k4, n4⟩, -, X4, ⟨Lc4, hQ4, l4, y4, z4⟩, st4⟩ := Jvm.LawKit.callS X3 hx (y := mN29) hown (mvT hZ (wd129 hw)) (mvT hZ (wd130 hw)) (mvT hZ (wd35 hw)) (mvT hZ (wd131 hw)) (by decide) (own_backN (W := 0) (own_un3 l Z a0 hw [] (t) (kb) (fm) (c0) (c1) (c2) h0 n0 (by omega) (X00.keep K0 all0) OA OH OL O4 rfm Vt hb0 hb1 hb2) hZ (wd131 hw) (wd35 hw) (by decide) (by decide)) (g := (mkF m 33 #[vR x, vI 58, vI 0] [(.int 3), (.int 0), (.int 58), (.ref t)])) rfl (by rw [hml]; rfl) (argsL := [(.ref t), (.int 58), (.int 0), (.int 3)]) (rest := []) (lenOf own_pd17 rfl) rfl (Nat.le_of_eq rfl) (hb hby dJ2_33) (fun _ _ => ⟨rfl, sm3, (by decide : 0 + 0 ≤ _), (by decide : 0 + 0 ≤ _)⟩)
 dsimp only [Pt.U, Pt.locs, Pt.cells, Pt.slots] at X4 l4 y4 z4 st4 hQ4
 subst l4 y4 z4
 obtain ⟨r4, rfl, ix4, Nq4, sm4⟩ := hQ4
 have N4 := Fr.app N3 Nq4
 refine own_st st4 ?_
 obtain ⟨fs, hr, hrun, hended, hW, hsame⟩ := X4.leave (v := some (.int r4)) (fun h => by rw [Bd.returns] at h; cases h)
 refine ⟨_, _, retOut X4 hx Bd.returns rfl (Or.inl ⟨rfl, by simp, _, rfl⟩) (hb hby dJ2_36) hr, hrun, hended, _, _, rfl, ?_, ⟨_, rfl⟩, hW, hsame.mono (by decide) (by decide)⟩
 change Q_own_j2_3_1 Z x t nb kb fm G1 c0 c1 c2 h0 n0 _ T4.heap _; rw [sm4]; exact ⟨r4, rfl, ix4, N4, rfl⟩

def Q_own_j1_3_1 (Z : State) (x t nb : Nat) (kb : ClassId) (fm : Value) (G1 : Int32) (c0 c1 c2 : Int32) (h0 : Heap) (n0 : Nat) (v : Option Value) (h : Heap) (L : List Loc) : Prop := ∃ r : Int32, v = some (.int r) ∧ own_IX r ([c0, c1, c2] : List Int32) ∧ Fr n0 L ∧ h = h0
theorem ef_own_j1_3_1 (m : MethodId) (x0 : Nat) : entryFrame m #[(.ref x0), (.int 58)] 2 = mkF m 0 #[.val (.ref x0), .val (.int 58)] [] := by first | (simp [entryFrame, mkF, argsToLocals, Value.category]; done) | rfl
theorem own_j1_3_1 (l : Launch) (Z : State) (a0 : Array Value) (hw : hWt a0 Z) (ws : List Jvm.Cond) (x t nb : Nat) (kb : ClassId) (fm : Value) (G1 : Int32) (c0 c1 c2 : Int32) (h0 : Heap) (n0 : Nat) (Z0 : n0 ≤ h0.size) (X00 : Old Z n0 h0) (Ex : Exa Z h0 x "java/lang/String") (Fv : Fld Z h0 x "java/lang/String" "value" "[B" (.ref t)) (Fc : Fld Z h0 x "java/lang/String" "coder" "B" (.int (1 : Int32))) (Sx : own_StrU Z nb h0 x ([c0, c1, c2] : List Int32)) (O2 : Sta Z Z.heap "java/lang/String" "COMPACT_STRINGS" "Z" (.int G1)) (P5 : ¬ (G1 = (0 : Int32))) (OA : oA Z) (OH : oH Z) (OL : oL Z) (O4 : o4 Z fm) (rfm : fm.isRef = true) (Vt : Arv Z h0 t kb .byte (6 : Int32) [.int (L8 c0), .int (H8 c0), .int (L8 c1), .int (H8 c1), .int (L8 c2), .int (H8 c2)] (.int 0)) (hb0 : ¬ c0 < 0 ∧ ¬ (65535 : Int32) < c0) (hb1 : ¬ c1 < 0 ∧ ¬ (65535 : Int32) < c1) (hb2 : ¬ c2 < 0 ∧ ¬ (65535 : Int32) < c2) :
 own_MN l mN31 jdk_42_method_79_code 2 (some .int) ws rm_6_0_0_120 Z #[(.ref x), (.int 58)] h0 (Q_own_j1_3_1 Z x t nb kb fm G1 c0 c1 c2 h0 n0) := by
 refine own_bodyN (plainFor_of_name own_pn0) fun p e s m below meth c s₁ Bd hx hby hml hown hZ X0 e0 => ?_
 have N0 := Fr.nil n0
 have K0 : Keep h0 h0 [] := Keep.refl h0 []
 refine own_st (fun tq kq => castTop (ef_own_j1_3_1 m (x)) kq) ?_
 show own_G p e below _ (s₁.setTop (mkF m 0 #[vR x, vI 58] []))
 refine s_aloadN X0 hx (hb hby dJ1_0) rfl rfl ?_
 refine s_iloadN X0 hx (hb hby dJ1_1) rfl ?_
 refine s_iconst X0 hx (hb hby dJ1_2) ?_
 obtain ⟨cq1, kq1, q1a, q1b, q1c⟩ := isOf hZ e0 Ex
 obtain ⟨_, _, ⟨T1, L1, k1, n1⟩, -, X1, ⟨Lc1, hQ1, l1, y1, z1⟩, st1⟩ := X0.virtualBack hx (y := mN30) (z := mN30) hown (mvT hZ (wd52 hw)) (mvT hZ (wd53 hw)) (notFace_of_selects (args := #[]) (mvT hZ (wd55 hw))) (mvT hZ (wd55 hw)) (mvT hZ (wd54 hw)) (by decide) (own_backN (W := 0) (own_j2_3_1 l Z a0 hw [] (x) (t) (nb) (kb) (fm) (G1) (c0) (c1) (c2) h0 n0 (by omega) (X00.keep K0 all0) Ex Fv Fc Sx O2 P5 OA OH OL O4 rfm Vt hb0 hb1 hb2) hZ (wd56 hw) (wd3 hw) (by decide) (by decide)) q1a q1c (g := (mkF m 3 #[vR x, vI 58] [(.int 0), (.int 58), (.ref x)])) rfl (by rw [hml]; rfl) (Steps.refl _) (argsL := [(.int 58), (.int 0)]) (rest := []) (lenOf own_pd16 rfl) rfl (Nat.le_of_eq rfl) (hb hby dJ1_3) (fun _ _ => ⟨rfl, e0, (by decide : 0 + 0 ≤ _), (by decide : 0 + 0 ≤ _)⟩)
 dsimp only [Pt.U, Pt.locs, Pt.cells, Pt.slots] at X1 l1 y1 z1 st1 hQ1
 subst l1 y1 z1
 obtain ⟨r1, rfl, ix1, Nq1, sm1⟩ := hQ1
 have N1 := Fr.app N0 Nq1
 refine own_st (fun tq kq => st1.trans kq) ?_
 obtain ⟨fs, hr, hrun, hended, hW, hsame⟩ := X1.leave (v := some (.int r1)) (fun h => by rw [Bd.returns] at h; cases h)
 refine ⟨_, _, retOut X1 hx Bd.returns rfl (Or.inl ⟨rfl, by simp, _, rfl⟩) (hb hby dJ1_6) hr, hrun, hended, _, _, rfl, ?_, ⟨_, rfl⟩, hW, hsame.mono (by decide) (by decide)⟩
 change Q_own_j1_3_1 Z x t nb kb fm G1 c0 c1 c2 h0 n0 _ T1.heap _; rw [sm1]; exact ⟨r1, rfl, ix1, N1, rfl⟩

theorem own_ixU3 {p : Program} {l : Launch} {e : Env} {R : Room} {s : State} {args : Array Value} {below : List Frame} {W : Nat} {Z : State} {a0 : Array Value} {h : Heap} (hZ : Z.Warmed39 s.vm) (hw : ∀ d ∈ tables_1, d.before a0 Z = true) {x n n0 : Nat} {c0 c1 c2 : Int32} {G1 : Int32} {fm : Value} (F : own_StrU Z n h x ([c0, c1, c2] : List Int32)) (X00 : Old Z n0 h) (O2 : Sta Z Z.heap "java/lang/String" "COMPACT_STRINGS" "Z" (.int G1)) (P5 : ¬ (G1 = (0 : Int32))) (OA : oA Z) (OH : oH Z) (OL : oL Z) (O4 : o4 Z fm) (rfm : fm.isRef = true) (hfr : 7 ≤ R.frames) (hlo : W + 133 ≤ R.locals) :
    Back l R p e below s args (⟨"java/lang/String", "indexOf", "(I)I"⟩ : MethodName) 3 W (fun P a => a = #[.ref x, .int (58 : Int32)] ∧ P.U.heap = h ∧ P.cells + 0 ≤ R.cells ∧ P.slots + 0 ≤ R.slots)
      (fun P _ v B => ∃ L, (∃ r : Int32, v = some (.int r) ∧ own_IX r ([c0, c1, c2] : List Int32) ∧ Fr n0 L ∧ B.U.heap = h) ∧ B.locs = P.locs ++ L ∧ B.cells = P.cells + 0 ∧ B.slots = P.slots + 0) := by
  have hh0 : n0 ≤ h.size := by have := X00.1; have := X00.2.1; omega
  obtain ⟨-, E, hb, ln, t, kb, cd, N2, vs, -, V, Cc, A, hc⟩ := id F
  rcases hc with ⟨rfl, rfl, rfl, hl⟩ | ⟨rfl, rfl, rfl, hg⟩
  · exact own_backN (W := W) (rm := rm_6_0_0_120) (own_j1_3_0 l Z a0 hw [] x t n kb fm G1 c0 c1 c2 h n0 hh0 X00 E V Cc F O2 P5 OA OH OL O4 rfm A ⟨(hb c0 (by simp)).1, hl c0 (by simp)⟩ ⟨(hb c1 (by simp)).1, hl c1 (by simp)⟩ ⟨(hb c2 (by simp)).1, hl c2 (by simp)⟩) hZ (wd51 hw) (wd3 hw) (by show 6 + 1 ≤ _; omega) (by show W + (2 + 11) + 120 ≤ _; omega)
  · exact own_backN (W := W) (rm := rm_6_0_0_120) (own_j1_3_1 l Z a0 hw [] x t n kb fm G1 c0 c1 c2 h n0 hh0 X00 E V Cc F O2 P5 OA OH OL O4 rfm A (hb c0 (by simp)) (hb c1 (by simp)) (hb c2 (by simp))) hZ (wd51 hw) (wd3 hw) (by show 6 + 1 ≤ _; omega) (by show W + (2 + 11) + 120 ≤ _; omega)

def Q_own_nm0 (Z : State) (q nb : Nat) (fm : Value) (G1 : Int32) (h0 : Heap) (n0 : Nat) (v : Option Value) (h : Heap) (L : List Loc) : Prop := ((v = some (.int (1 : Int32)) ∧ own_ok ([] : List Int32)) ∨ (v = some (.int (0 : Int32)) ∧ ¬ own_ok ([] : List Int32))) ∧ Fr n0 L ∧ h = h0
theorem ef_own_nm0 (m : MethodId) (x0 : Nat) : entryFrame m #[(.ref x0)] 1 = mkF m 0 #[.val (.ref x0)] [] := by first | (simp [entryFrame, mkF, argsToLocals, Value.category]; done) | rfl
theorem own_nm0 (l : Launch) (Z : State) (a0 : Array Value) (hw : hWt a0 Z) (ws : List Jvm.Cond) (q nb : Nat) (fm : Value) (G1 : Int32) (h0 : Heap) (n0 : Nat) (Z0 : n0 ≤ h0.size) (X00 : Old Z n0 h0) (Sq : own_StrU Z nb h0 q ([] : List Int32)) (O2 : Sta Z Z.heap "java/lang/String" "COMPACT_STRINGS" "Z" (.int G1)) (P5 : ¬ (G1 = (0 : Int32))) (OA : oA Z) (OH : oH Z) (OL : oL Z) (O4 : o4 Z fm) (rfm : fm.isRef = true) :
 own_MN l mN32 prog_18_method_2_code 1 (some .boolean) ws rm_7_0_0_140 Z #[(.ref q)] h0 (Q_own_nm0 Z q nb fm G1 h0 n0) := by
 refine own_bodyN (plainFor_of_name own_pn7) fun p e s m below meth c s₁ Bd hx hby hml hown hZ X0 e0 => ?_
 have N0 := Fr.nil n0
 have K0 : Keep h0 h0 [] := Keep.refl h0 []
 refine own_st (fun tq kq => castTop (ef_own_nm0 m (q)) kq) ?_
 show own_G p e below _ (s₁.setTop (mkF m 0 #[vR q] []))
 refine s_aloadN X0 hx (hb hby dNM_0) rfl rfl ?_
 obtain ⟨-, E_1, hb_1, ln_1, t_1, kb_1, cd_1, N2_1, vs_1, -, V_1, C_1, A_1, hc_1⟩ := id Sq
 obtain ⟨cq1, kq1, q1a, q1b, q1c⟩ := isOf hZ e0 Sq.2.1
 obtain ⟨_, _, ⟨T1, L1, k1, n1⟩, -, X1, ⟨Lc1, hQ1, l1, y1, z1⟩, st1⟩ := X0.virtualBack hx (y := mN33) (z := mN33) hown (mvT hZ (wd27 hw)) (mvT hZ (wd28 hw)) (notFace_of_selects (args := #[]) (mvT hZ (wd30 hw))) (mvT hZ (wd30 hw)) (mvT hZ (wd29 hw)) (by decide) (StrChars.Road.empW (W := 0) hZ (own_wEmp hw) (kI := 4) (wd2 hw) E_1 V_1 C_1 A_1 hc_1 hb_1 ln_1 (by decide) (by decide)) q1a q1c (g := (mkF m 1 #[vR q] [(.ref q)])) rfl (by rw [hml]; rfl) (Steps.refl _) (argsL := []) (rest := []) (lenOf own_pd12 rfl) rfl (Nat.le_of_eq rfl) (hb hby dNM_1) (fun _ _ => ⟨rfl, e0, (by decide : 0 + 0 ≤ _), (by decide : 0 + 0 ≤ _)⟩)
 dsimp only [Pt.U, Pt.locs, Pt.cells, Pt.slots] at X1 l1 y1 z1 st1 hQ1
 subst l1 y1 z1
 obtain ⟨rfl, rfl, sm1⟩ := hQ1
 have N1 := Fr.app N0 (Fr.nil n0)
 refine own_st (fun tq kq => st1.trans kq) ?_
 refine own_st (fun tq kq => XS.ifYes X1.here hx rfl (pc0 := 4) (pc' := 27) rfl (hb hby dNM_4) rfl ((if0 _ _).trans (feq (by decide : ¬ ((1 : Int32) = (0 : Int32)))).2) (by decide) (by decide) kq) ?_
 refine s_iconst X1 hx (hb hby dNM_27) ?_
 show own_G p e below _ (T1.setTop (mkF m 28 #[vR q] [(.int 0)]))
 obtain ⟨fs, hr, hrun, hended, hW, hsame⟩ := X1.leave (v := some (.int 0)) (fun h => by rw [Bd.returns] at h; cases h)
 refine ⟨_, _, retN X1 hx (t := .boolean) Bd.returns (by simp) (hb hby dNM_28) hr, hrun, hended, _, _, rfl, ?_, ⟨_, rfl⟩, hW, hsame.mono (by decide) (by decide)⟩
 change Q_own_nm0 Z q nb fm G1 h0 n0 _ T1.heap _; rw [sm1]; exact ⟨Or.inr ⟨rfl, fun q => q.1 rfl⟩, N1, rfl⟩

def Q_own_nm1 (Z : State) (q nb : Nat) (fm : Value) (G1 : Int32) (c0 : Int32) (h0 : Heap) (n0 : Nat) (v : Option Value) (h : Heap) (L : List Loc) : Prop := ((v = some (.int (1 : Int32)) ∧ own_ok ([c0] : List Int32)) ∨ (v = some (.int (0 : Int32)) ∧ ¬ own_ok ([c0] : List Int32))) ∧ Fr n0 L ∧ h = h0
theorem ef_own_nm1 (m : MethodId) (x0 : Nat) : entryFrame m #[(.ref x0)] 1 = mkF m 0 #[.val (.ref x0)] [] := by first | (simp [entryFrame, mkF, argsToLocals, Value.category]; done) | rfl
theorem own_nm1 (l : Launch) (Z : State) (a0 : Array Value) (hw : hWt a0 Z) (ws : List Jvm.Cond) (q nb : Nat) (fm : Value) (G1 : Int32) (c0 : Int32) (h0 : Heap) (n0 : Nat) (Z0 : n0 ≤ h0.size) (X00 : Old Z n0 h0) (Sq : own_StrU Z nb h0 q ([c0] : List Int32)) (O2 : Sta Z Z.heap "java/lang/String" "COMPACT_STRINGS" "Z" (.int G1)) (P5 : ¬ (G1 = (0 : Int32))) (OA : oA Z) (OH : oH Z) (OL : oL Z) (O4 : o4 Z fm) (rfm : fm.isRef = true) :
 own_MN l mN32 prog_18_method_2_code 1 (some .boolean) ws rm_7_0_0_140 Z #[(.ref q)] h0 (Q_own_nm1 Z q nb fm G1 c0 h0 n0) := by
 refine own_bodyN (plainFor_of_name own_pn7) fun p e s m below meth c s₁ Bd hx hby hml hown hZ X0 e0 => ?_
 have N0 := Fr.nil n0
 have K0 : Keep h0 h0 [] := Keep.refl h0 []
 refine own_st (fun tq kq => castTop (ef_own_nm1 m (q)) kq) ?_
 show own_G p e below _ (s₁.setTop (mkF m 0 #[vR q] []))
 refine s_aloadN X0 hx (hb hby dNM_0) rfl rfl ?_
 obtain ⟨-, E_1, hb_1, ln_1, t_1, kb_1, cd_1, N2_1, vs_1, -, V_1, C_1, A_1, hc_1⟩ := id Sq
 obtain ⟨cq1, kq1, q1a, q1b, q1c⟩ := isOf hZ e0 Sq.2.1
 obtain ⟨_, _, ⟨T1, L1, k1, n1⟩, -, X1, ⟨Lc1, hQ1, l1, y1, z1⟩, st1⟩ := X0.virtualBack hx (y := mN33) (z := mN33) hown (mvT hZ (wd27 hw)) (mvT hZ (wd28 hw)) (notFace_of_selects (args := #[]) (mvT hZ (wd30 hw))) (mvT hZ (wd30 hw)) (mvT hZ (wd29 hw)) (by decide) (StrChars.Road.empW (W := 0) hZ (own_wEmp hw) (kI := 4) (wd2 hw) E_1 V_1 C_1 A_1 hc_1 hb_1 ln_1 (by decide) (by decide)) q1a q1c (g := (mkF m 1 #[vR q] [(.ref q)])) rfl (by rw [hml]; rfl) (Steps.refl _) (argsL := []) (rest := []) (lenOf own_pd12 rfl) rfl (Nat.le_of_eq rfl) (hb hby dNM_1) (fun _ _ => ⟨rfl, e0, (by decide : 0 + 0 ≤ _), (by decide : 0 + 0 ≤ _)⟩)
 dsimp only [Pt.U, Pt.locs, Pt.cells, Pt.slots] at X1 l1 y1 z1 st1 hQ1
 subst l1 y1 z1
 obtain ⟨rfl, rfl, sm1⟩ := hQ1
 have N1 := Fr.app N0 (Fr.nil n0)
 refine own_st (fun tq kq => st1.trans kq) ?_
 refine own_st (fun tq kq => XS.ifNo X1.here hx rfl (hb hby dNM_4) rfl ((if0 _ _).trans (teq (by decide : ((0 : Int32) = (0 : Int32)))).2) kq) ?_
 refine s_aloadN X1 hx (hb hby dNM_7) rfl rfl ?_
 refine s_bipush X1 hx (hb hby dNM_8) ?_
 obtain ⟨cq2, kq2, q2a, q2b, q2c⟩ := isOf hZ sm1 Sq.2.1
 obtain ⟨_, _, ⟨T2, L2, k2, n2⟩, -, X2, ⟨Lc2, hQ2, l2, y2, z2⟩, st2⟩ := X1.virtualBack hx (y := mN31) (z := mN31) hown (mvT hZ (wd47 hw)) (mvT hZ (wd48 hw)) (notFace_of_selects (args := #[]) (mvT hZ (wd50 hw))) (mvT hZ (wd50 hw)) (mvT hZ (wd49 hw)) (by decide) (own_ixU1 (W := 0) hZ hw Sq (X00.keep K0 all0) O2 P5 OA OH OL O4 rfm (by decide) (by decide)) q2a q2c (g := (mkF m 10 #[vR q] [(.int 58), (.ref q)])) rfl (by rw [hml]; rfl) (Steps.refl _) (argsL := [(.int 58)]) (rest := []) (lenOf own_pd1 rfl) rfl (Nat.le_of_eq rfl) (hb hby dNM_10) (fun _ _ => ⟨rfl, sm1, (by decide : 0 + 0 ≤ _), (by decide : 0 + 0 ≤ _)⟩)
 dsimp only [Pt.U, Pt.locs, Pt.cells, Pt.slots] at X2 l2 y2 z2 st2 hQ2
 subst l2 y2 z2
 obtain ⟨r2, rfl, ix2, Nq2, sm2⟩ := hQ2
 have N2 := Fr.app N1 Nq2
 refine own_st (fun tq kq => st2.trans kq) ?_
 by_cases hc13_3 : (r2 < (0 : Int32))
 ·
  refine own_st (fun tq kq => XS.ifNo X2.here hx rfl (hb hby dNM_13) rfl ((if0 _ _).trans (tlt hc13_3).2.1) kq) ?_
  refine s_aloadN X2 hx (hb hby dNM_16) rfl rfl ?_
  obtain ⟨_, _, ⟨T4, L4, k4, n4⟩, -, X4, ⟨Lc4, hQ4, l4, y4, z4⟩, st4⟩ := Jvm.LawKit.callS X2 hx (y := mN17) hown (mvT hZ (wd89 hw)) (mvT hZ (wd90 hw)) (mvT hZ (wd91 hw)) (mvT hZ (wd92 hw)) (by decide) (own_backN (W := 0) (own_hc1 l Z a0 hw [] (q) (nb) (fm) (G1) (c0) h0 n0 (by omega) (X00.keep K0 all0) Sq O2 P5 OA OH OL O4 rfm) hZ (wd92 hw) (wd91 hw) (by decide) (by decide)) (g := (mkF m 17 #[vR q] [(.ref q)])) rfl (by rw [hml]; rfl) (argsL := [(.ref q)]) (rest := []) (lenOf own_pd21 rfl) rfl (Nat.le_of_eq rfl) (hb hby dNM_17) (fun _ _ => ⟨rfl, sm2, (by decide : 0 + 0 ≤ _), (by decide : 0 + 0 ≤ _)⟩)
  dsimp only [Pt.U, Pt.locs, Pt.cells, Pt.slots] at X4 l4 y4 z4 st4 hQ4
  subst l4 y4 z4
  obtain ⟨hr4, Nq4, sm4⟩ := hQ4
  have N4 := Fr.app N2 Nq4
  rcases hr4 with ⟨rfl, ct4⟩ | ⟨rfl, ct4⟩
  ·
   refine own_st st4 ?_
   refine own_st (fun tq kq => XS.ifYes X4.here hx rfl (pc0 := 20) (pc' := 27) rfl (hb hby dNM_20) rfl ((if0 _ _).trans (feq (by decide : ¬ ((1 : Int32) = (0 : Int32)))).2) (by decide) (by decide) kq) ?_
   refine s_iconst X4 hx (hb hby dNM_27) ?_
   show own_G p e below _ (T4.setTop (mkF m 28 #[vR q] [(.int 0)]))
   obtain ⟨fs, hr, hrun, hended, hW, hsame⟩ := X4.leave (v := some (.int 0)) (fun h => by rw [Bd.returns] at h; cases h)
   refine ⟨_, _, retN X4 hx (t := .boolean) Bd.returns (by simp) (hb hby dNM_28) hr, hrun, hended, _, _, rfl, ?_, ⟨_, rfl⟩, hW, hsame.mono (by decide) (by decide)⟩
   change Q_own_nm1 Z q nb fm G1 c0 h0 n0 _ T4.heap _; rw [sm4]; exact ⟨Or.inr ⟨rfl, fun q => ct4.elim fun y z => q.2.2 y z.1 z.2⟩, N4, rfl⟩
  ·
   refine own_st st4 ?_
   refine own_st (fun tq kq => XS.ifNo X4.here hx rfl (hb hby dNM_20) rfl ((if0 _ _).trans (teq (by decide : ((0 : Int32) = (0 : Int32)))).2) kq) ?_
   refine s_iconst X4 hx (hb hby dNM_23) ?_
   refine own_st (fun tq kq => XS.goto X4.here hx rfl (pc0 := 24) (pc' := 28) rfl (hb hby dNM_24) (by decide) (by decide) kq) ?_
   show own_G p e below _ (T4.setTop (mkF m 28 #[vR q] [(.int 1)]))
   obtain ⟨fs, hr, hrun, hended, hW, hsame⟩ := X4.leave (v := some (.int 1)) (fun h => by rw [Bd.returns] at h; cases h)
   refine ⟨_, _, retN X4 hx (t := .boolean) Bd.returns (by simp) (hb hby dNM_28) hr, hrun, hended, _, _, rfl, ?_, ⟨_, rfl⟩, hW, hsame.mono (by decide) (by decide)⟩
   change Q_own_nm1 Z q nb fm G1 c0 h0 n0 _ T4.heap _; rw [sm4]; exact ⟨Or.inl ⟨rfl, List.cons_ne_nil _ _, own_IXn ix2 hc13_3, ct4⟩, N4, rfl⟩
 ·
  refine own_st (fun tq kq => XS.ifYes X2.here hx rfl (pc0 := 13) (pc' := 27) rfl (hb hby dNM_13) rfl ((if0 _ _).trans (flt hc13_3).2.1) (by decide) (by decide) kq) ?_
  refine s_iconst X2 hx (hb hby dNM_27) ?_
  show own_G p e below _ (T2.setTop (mkF m 28 #[vR q] [(.int 0)]))
  obtain ⟨fs, hr, hrun, hended, hW, hsame⟩ := X2.leave (v := some (.int 0)) (fun h => by rw [Bd.returns] at h; cases h)
  refine ⟨_, _, retN X2 hx (t := .boolean) Bd.returns (by simp) (hb hby dNM_28) hr, hrun, hended, _, _, rfl, ?_, ⟨_, rfl⟩, hW, hsame.mono (by decide) (by decide)⟩
  change Q_own_nm1 Z q nb fm G1 c0 h0 n0 _ T2.heap _; rw [sm2]; exact ⟨Or.inr ⟨rfl, fun q => (own_IXy ix2 hc13_3).elim fun y z => q.2.1 y z.1 z.2⟩, N2, rfl⟩

def Q_own_nm2 (Z : State) (q nb : Nat) (fm : Value) (G1 : Int32) (c0 c1 : Int32) (h0 : Heap) (n0 : Nat) (v : Option Value) (h : Heap) (L : List Loc) : Prop := ((v = some (.int (1 : Int32)) ∧ own_ok ([c0, c1] : List Int32)) ∨ (v = some (.int (0 : Int32)) ∧ ¬ own_ok ([c0, c1] : List Int32))) ∧ Fr n0 L ∧ h = h0
theorem ef_own_nm2 (m : MethodId) (x0 : Nat) : entryFrame m #[(.ref x0)] 1 = mkF m 0 #[.val (.ref x0)] [] := by first | (simp [entryFrame, mkF, argsToLocals, Value.category]; done) | rfl
theorem own_nm2 (l : Launch) (Z : State) (a0 : Array Value) (hw : hWt a0 Z) (ws : List Jvm.Cond) (q nb : Nat) (fm : Value) (G1 : Int32) (c0 c1 : Int32) (h0 : Heap) (n0 : Nat) (Z0 : n0 ≤ h0.size) (X00 : Old Z n0 h0) (Sq : own_StrU Z nb h0 q ([c0, c1] : List Int32)) (O2 : Sta Z Z.heap "java/lang/String" "COMPACT_STRINGS" "Z" (.int G1)) (P5 : ¬ (G1 = (0 : Int32))) (OA : oA Z) (OH : oH Z) (OL : oL Z) (O4 : o4 Z fm) (rfm : fm.isRef = true) :
 own_MN l mN32 prog_18_method_2_code 1 (some .boolean) ws rm_7_0_0_140 Z #[(.ref q)] h0 (Q_own_nm2 Z q nb fm G1 c0 c1 h0 n0) := by
 refine own_bodyN (plainFor_of_name own_pn7) fun p e s m below meth c s₁ Bd hx hby hml hown hZ X0 e0 => ?_
 have N0 := Fr.nil n0
 have K0 : Keep h0 h0 [] := Keep.refl h0 []
 refine own_st (fun tq kq => castTop (ef_own_nm2 m (q)) kq) ?_
 show own_G p e below _ (s₁.setTop (mkF m 0 #[vR q] []))
 refine s_aloadN X0 hx (hb hby dNM_0) rfl rfl ?_
 obtain ⟨-, E_1, hb_1, ln_1, t_1, kb_1, cd_1, N2_1, vs_1, -, V_1, C_1, A_1, hc_1⟩ := id Sq
 obtain ⟨cq1, kq1, q1a, q1b, q1c⟩ := isOf hZ e0 Sq.2.1
 obtain ⟨_, _, ⟨T1, L1, k1, n1⟩, -, X1, ⟨Lc1, hQ1, l1, y1, z1⟩, st1⟩ := X0.virtualBack hx (y := mN33) (z := mN33) hown (mvT hZ (wd27 hw)) (mvT hZ (wd28 hw)) (notFace_of_selects (args := #[]) (mvT hZ (wd30 hw))) (mvT hZ (wd30 hw)) (mvT hZ (wd29 hw)) (by decide) (StrChars.Road.empW (W := 0) hZ (own_wEmp hw) (kI := 4) (wd2 hw) E_1 V_1 C_1 A_1 hc_1 hb_1 ln_1 (by decide) (by decide)) q1a q1c (g := (mkF m 1 #[vR q] [(.ref q)])) rfl (by rw [hml]; rfl) (Steps.refl _) (argsL := []) (rest := []) (lenOf own_pd12 rfl) rfl (Nat.le_of_eq rfl) (hb hby dNM_1) (fun _ _ => ⟨rfl, e0, (by decide : 0 + 0 ≤ _), (by decide : 0 + 0 ≤ _)⟩)
 dsimp only [Pt.U, Pt.locs, Pt.cells, Pt.slots] at X1 l1 y1 z1 st1 hQ1
 subst l1 y1 z1
 obtain ⟨rfl, rfl, sm1⟩ := hQ1
 have N1 := Fr.app N0 (Fr.nil n0)
 refine own_st (fun tq kq => st1.trans kq) ?_
 refine own_st (fun tq kq => XS.ifNo X1.here hx rfl (hb hby dNM_4) rfl ((if0 _ _).trans (teq (by decide : ((0 : Int32) = (0 : Int32)))).2) kq) ?_
 refine s_aloadN X1 hx (hb hby dNM_7) rfl rfl ?_
 refine s_bipush X1 hx (hb hby dNM_8) ?_
 obtain ⟨cq2, kq2, q2a, q2b, q2c⟩ := isOf hZ sm1 Sq.2.1
 obtain ⟨_, _, ⟨T2, L2, k2, n2⟩, -, X2, ⟨Lc2, hQ2, l2, y2, z2⟩, st2⟩ := X1.virtualBack hx (y := mN31) (z := mN31) hown (mvT hZ (wd47 hw)) (mvT hZ (wd48 hw)) (notFace_of_selects (args := #[]) (mvT hZ (wd50 hw))) (mvT hZ (wd50 hw)) (mvT hZ (wd49 hw)) (by decide) (own_ixU2 (W := 0) hZ hw Sq (X00.keep K0 all0) O2 P5 OA OH OL O4 rfm (by decide) (by decide)) q2a q2c (g := (mkF m 10 #[vR q] [(.int 58), (.ref q)])) rfl (by rw [hml]; rfl) (Steps.refl _) (argsL := [(.int 58)]) (rest := []) (lenOf own_pd1 rfl) rfl (Nat.le_of_eq rfl) (hb hby dNM_10) (fun _ _ => ⟨rfl, sm1, (by decide : 0 + 0 ≤ _), (by decide : 0 + 0 ≤ _)⟩)
 dsimp only [Pt.U, Pt.locs, Pt.cells, Pt.slots] at X2 l2 y2 z2 st2 hQ2
 subst l2 y2 z2
 obtain ⟨r2, rfl, ix2, Nq2, sm2⟩ := hQ2
 have N2 := Fr.app N1 Nq2
 refine own_st (fun tq kq => st2.trans kq) ?_
 by_cases hc13_3 : (r2 < (0 : Int32))
 ·
  refine own_st (fun tq kq => XS.ifNo X2.here hx rfl (hb hby dNM_13) rfl ((if0 _ _).trans (tlt hc13_3).2.1) kq) ?_
  refine s_aloadN X2 hx (hb hby dNM_16) rfl rfl ?_
  obtain ⟨_, _, ⟨T4, L4, k4, n4⟩, -, X4, ⟨Lc4, hQ4, l4, y4, z4⟩, st4⟩ := Jvm.LawKit.callS X2 hx (y := mN17) hown (mvT hZ (wd89 hw)) (mvT hZ (wd90 hw)) (mvT hZ (wd91 hw)) (mvT hZ (wd92 hw)) (by decide) (own_backN (W := 0) (own_hc2 l Z a0 hw [] (q) (nb) (fm) (G1) (c0) (c1) h0 n0 (by omega) (X00.keep K0 all0) Sq O2 P5 OA OH OL O4 rfm) hZ (wd92 hw) (wd91 hw) (by decide) (by decide)) (g := (mkF m 17 #[vR q] [(.ref q)])) rfl (by rw [hml]; rfl) (argsL := [(.ref q)]) (rest := []) (lenOf own_pd21 rfl) rfl (Nat.le_of_eq rfl) (hb hby dNM_17) (fun _ _ => ⟨rfl, sm2, (by decide : 0 + 0 ≤ _), (by decide : 0 + 0 ≤ _)⟩)
  dsimp only [Pt.U, Pt.locs, Pt.cells, Pt.slots] at X4 l4 y4 z4 st4 hQ4
  subst l4 y4 z4
  obtain ⟨hr4, Nq4, sm4⟩ := hQ4
  have N4 := Fr.app N2 Nq4
  rcases hr4 with ⟨rfl, ct4⟩ | ⟨rfl, ct4⟩
  ·
   refine own_st st4 ?_
   refine own_st (fun tq kq => XS.ifYes X4.here hx rfl (pc0 := 20) (pc' := 27) rfl (hb hby dNM_20) rfl ((if0 _ _).trans (feq (by decide : ¬ ((1 : Int32) = (0 : Int32)))).2) (by decide) (by decide) kq) ?_
   refine s_iconst X4 hx (hb hby dNM_27) ?_
   show own_G p e below _ (T4.setTop (mkF m 28 #[vR q] [(.int 0)]))
   obtain ⟨fs, hr, hrun, hended, hW, hsame⟩ := X4.leave (v := some (.int 0)) (fun h => by rw [Bd.returns] at h; cases h)
   refine ⟨_, _, retN X4 hx (t := .boolean) Bd.returns (by simp) (hb hby dNM_28) hr, hrun, hended, _, _, rfl, ?_, ⟨_, rfl⟩, hW, hsame.mono (by decide) (by decide)⟩
   change Q_own_nm2 Z q nb fm G1 c0 c1 h0 n0 _ T4.heap _; rw [sm4]; exact ⟨Or.inr ⟨rfl, fun q => ct4.elim fun y z => q.2.2 y z.1 z.2⟩, N4, rfl⟩
  ·
   refine own_st st4 ?_
   refine own_st (fun tq kq => XS.ifNo X4.here hx rfl (hb hby dNM_20) rfl ((if0 _ _).trans (teq (by decide : ((0 : Int32) = (0 : Int32)))).2) kq) ?_
   refine s_iconst X4 hx (hb hby dNM_23) ?_
   refine own_st (fun tq kq => XS.goto X4.here hx rfl (pc0 := 24) (pc' := 28) rfl (hb hby dNM_24) (by decide) (by decide) kq) ?_
   show own_G p e below _ (T4.setTop (mkF m 28 #[vR q] [(.int 1)]))
   obtain ⟨fs, hr, hrun, hended, hW, hsame⟩ := X4.leave (v := some (.int 1)) (fun h => by rw [Bd.returns] at h; cases h)
   refine ⟨_, _, retN X4 hx (t := .boolean) Bd.returns (by simp) (hb hby dNM_28) hr, hrun, hended, _, _, rfl, ?_, ⟨_, rfl⟩, hW, hsame.mono (by decide) (by decide)⟩
   change Q_own_nm2 Z q nb fm G1 c0 c1 h0 n0 _ T4.heap _; rw [sm4]; exact ⟨Or.inl ⟨rfl, List.cons_ne_nil _ _, own_IXn ix2 hc13_3, ct4⟩, N4, rfl⟩
 ·
  refine own_st (fun tq kq => XS.ifYes X2.here hx rfl (pc0 := 13) (pc' := 27) rfl (hb hby dNM_13) rfl ((if0 _ _).trans (flt hc13_3).2.1) (by decide) (by decide) kq) ?_
  refine s_iconst X2 hx (hb hby dNM_27) ?_
  show own_G p e below _ (T2.setTop (mkF m 28 #[vR q] [(.int 0)]))
  obtain ⟨fs, hr, hrun, hended, hW, hsame⟩ := X2.leave (v := some (.int 0)) (fun h => by rw [Bd.returns] at h; cases h)
  refine ⟨_, _, retN X2 hx (t := .boolean) Bd.returns (by simp) (hb hby dNM_28) hr, hrun, hended, _, _, rfl, ?_, ⟨_, rfl⟩, hW, hsame.mono (by decide) (by decide)⟩
  change Q_own_nm2 Z q nb fm G1 c0 c1 h0 n0 _ T2.heap _; rw [sm2]; exact ⟨Or.inr ⟨rfl, fun q => (own_IXy ix2 hc13_3).elim fun y z => q.2.1 y z.1 z.2⟩, N2, rfl⟩

def Q_own_nm3 (Z : State) (q nb : Nat) (fm : Value) (G1 : Int32) (c0 c1 c2 : Int32) (h0 : Heap) (n0 : Nat) (v : Option Value) (h : Heap) (L : List Loc) : Prop := ((v = some (.int (1 : Int32)) ∧ own_ok ([c0, c1, c2] : List Int32)) ∨ (v = some (.int (0 : Int32)) ∧ ¬ own_ok ([c0, c1, c2] : List Int32))) ∧ Fr n0 L ∧ h = h0
theorem ef_own_nm3 (m : MethodId) (x0 : Nat) : entryFrame m #[(.ref x0)] 1 = mkF m 0 #[.val (.ref x0)] [] := by first | (simp [entryFrame, mkF, argsToLocals, Value.category]; done) | rfl
theorem own_nm3 (l : Launch) (Z : State) (a0 : Array Value) (hw : hWt a0 Z) (ws : List Jvm.Cond) (q nb : Nat) (fm : Value) (G1 : Int32) (c0 c1 c2 : Int32) (h0 : Heap) (n0 : Nat) (Z0 : n0 ≤ h0.size) (X00 : Old Z n0 h0) (Sq : own_StrU Z nb h0 q ([c0, c1, c2] : List Int32)) (O2 : Sta Z Z.heap "java/lang/String" "COMPACT_STRINGS" "Z" (.int G1)) (P5 : ¬ (G1 = (0 : Int32))) (OA : oA Z) (OH : oH Z) (OL : oL Z) (O4 : o4 Z fm) (rfm : fm.isRef = true) :
 own_MN l mN32 prog_18_method_2_code 1 (some .boolean) ws rm_7_0_0_140 Z #[(.ref q)] h0 (Q_own_nm3 Z q nb fm G1 c0 c1 c2 h0 n0) := by
 refine own_bodyN (plainFor_of_name own_pn7) fun p e s m below meth c s₁ Bd hx hby hml hown hZ X0 e0 => ?_
 have N0 := Fr.nil n0
 have K0 : Keep h0 h0 [] := Keep.refl h0 []
 refine own_st (fun tq kq => castTop (ef_own_nm3 m (q)) kq) ?_
 show own_G p e below _ (s₁.setTop (mkF m 0 #[vR q] []))
 refine s_aloadN X0 hx (hb hby dNM_0) rfl rfl ?_
 obtain ⟨-, E_1, hb_1, ln_1, t_1, kb_1, cd_1, N2_1, vs_1, -, V_1, C_1, A_1, hc_1⟩ := id Sq
 obtain ⟨cq1, kq1, q1a, q1b, q1c⟩ := isOf hZ e0 Sq.2.1
 obtain ⟨_, _, ⟨T1, L1, k1, n1⟩, -, X1, ⟨Lc1, hQ1, l1, y1, z1⟩, st1⟩ := X0.virtualBack hx (y := mN33) (z := mN33) hown (mvT hZ (wd27 hw)) (mvT hZ (wd28 hw)) (notFace_of_selects (args := #[]) (mvT hZ (wd30 hw))) (mvT hZ (wd30 hw)) (mvT hZ (wd29 hw)) (by decide) (StrChars.Road.empW (W := 0) hZ (own_wEmp hw) (kI := 4) (wd2 hw) E_1 V_1 C_1 A_1 hc_1 hb_1 ln_1 (by decide) (by decide)) q1a q1c (g := (mkF m 1 #[vR q] [(.ref q)])) rfl (by rw [hml]; rfl) (Steps.refl _) (argsL := []) (rest := []) (lenOf own_pd12 rfl) rfl (Nat.le_of_eq rfl) (hb hby dNM_1) (fun _ _ => ⟨rfl, e0, (by decide : 0 + 0 ≤ _), (by decide : 0 + 0 ≤ _)⟩)
 dsimp only [Pt.U, Pt.locs, Pt.cells, Pt.slots] at X1 l1 y1 z1 st1 hQ1
 subst l1 y1 z1
 obtain ⟨rfl, rfl, sm1⟩ := hQ1
 have N1 := Fr.app N0 (Fr.nil n0)
 refine own_st (fun tq kq => st1.trans kq) ?_
 refine own_st (fun tq kq => XS.ifNo X1.here hx rfl (hb hby dNM_4) rfl ((if0 _ _).trans (teq (by decide : ((0 : Int32) = (0 : Int32)))).2) kq) ?_
 refine s_aloadN X1 hx (hb hby dNM_7) rfl rfl ?_
 refine s_bipush X1 hx (hb hby dNM_8) ?_
 obtain ⟨cq2, kq2, q2a, q2b, q2c⟩ := isOf hZ sm1 Sq.2.1
 obtain ⟨_, _, ⟨T2, L2, k2, n2⟩, -, X2, ⟨Lc2, hQ2, l2, y2, z2⟩, st2⟩ := X1.virtualBack hx (y := mN31) (z := mN31) hown (mvT hZ (wd47 hw)) (mvT hZ (wd48 hw)) (notFace_of_selects (args := #[]) (mvT hZ (wd50 hw))) (mvT hZ (wd50 hw)) (mvT hZ (wd49 hw)) (by decide) (own_ixU3 (W := 0) hZ hw Sq (X00.keep K0 all0) O2 P5 OA OH OL O4 rfm (by decide) (by decide)) q2a q2c (g := (mkF m 10 #[vR q] [(.int 58), (.ref q)])) rfl (by rw [hml]; rfl) (Steps.refl _) (argsL := [(.int 58)]) (rest := []) (lenOf own_pd1 rfl) rfl (Nat.le_of_eq rfl) (hb hby dNM_10) (fun _ _ => ⟨rfl, sm1, (by decide : 0 + 0 ≤ _), (by decide : 0 + 0 ≤ _)⟩)
 dsimp only [Pt.U, Pt.locs, Pt.cells, Pt.slots] at X2 l2 y2 z2 st2 hQ2
 subst l2 y2 z2
 obtain ⟨r2, rfl, ix2, Nq2, sm2⟩ := hQ2
 have N2 := Fr.app N1 Nq2
 refine own_st (fun tq kq => st2.trans kq) ?_
 by_cases hc13_3 : (r2 < (0 : Int32))
 ·
  refine own_st (fun tq kq => XS.ifNo X2.here hx rfl (hb hby dNM_13) rfl ((if0 _ _).trans (tlt hc13_3).2.1) kq) ?_
  refine s_aloadN X2 hx (hb hby dNM_16) rfl rfl ?_
  obtain ⟨_, _, ⟨T4, L4, k4, n4⟩, -, X4, ⟨Lc4, hQ4, l4, y4, z4⟩, st4⟩ := Jvm.LawKit.callS X2 hx (y := mN17) hown (mvT hZ (wd89 hw)) (mvT hZ (wd90 hw)) (mvT hZ (wd91 hw)) (mvT hZ (wd92 hw)) (by decide) (own_backN (W := 0) (own_hc3 l Z a0 hw [] (q) (nb) (fm) (G1) (c0) (c1) (c2) h0 n0 (by omega) (X00.keep K0 all0) Sq O2 P5 OA OH OL O4 rfm) hZ (wd92 hw) (wd91 hw) (by decide) (by decide)) (g := (mkF m 17 #[vR q] [(.ref q)])) rfl (by rw [hml]; rfl) (argsL := [(.ref q)]) (rest := []) (lenOf own_pd21 rfl) rfl (Nat.le_of_eq rfl) (hb hby dNM_17) (fun _ _ => ⟨rfl, sm2, (by decide : 0 + 0 ≤ _), (by decide : 0 + 0 ≤ _)⟩)
  dsimp only [Pt.U, Pt.locs, Pt.cells, Pt.slots] at X4 l4 y4 z4 st4 hQ4
  subst l4 y4 z4
  obtain ⟨hr4, Nq4, sm4⟩ := hQ4
  have N4 := Fr.app N2 Nq4
  rcases hr4 with ⟨rfl, ct4⟩ | ⟨rfl, ct4⟩
  ·
   refine own_st st4 ?_
   refine own_st (fun tq kq => XS.ifYes X4.here hx rfl (pc0 := 20) (pc' := 27) rfl (hb hby dNM_20) rfl ((if0 _ _).trans (feq (by decide : ¬ ((1 : Int32) = (0 : Int32)))).2) (by decide) (by decide) kq) ?_
   refine s_iconst X4 hx (hb hby dNM_27) ?_
   show own_G p e below _ (T4.setTop (mkF m 28 #[vR q] [(.int 0)]))
   obtain ⟨fs, hr, hrun, hended, hW, hsame⟩ := X4.leave (v := some (.int 0)) (fun h => by rw [Bd.returns] at h; cases h)
   refine ⟨_, _, retN X4 hx (t := .boolean) Bd.returns (by simp) (hb hby dNM_28) hr, hrun, hended, _, _, rfl, ?_, ⟨_, rfl⟩, hW, hsame.mono (by decide) (by decide)⟩
   change Q_own_nm3 Z q nb fm G1 c0 c1 c2 h0 n0 _ T4.heap _; rw [sm4]; exact ⟨Or.inr ⟨rfl, fun q => ct4.elim fun y z => q.2.2 y z.1 z.2⟩, N4, rfl⟩
  ·
   refine own_st st4 ?_
   refine own_st (fun tq kq => XS.ifNo X4.here hx rfl (hb hby dNM_20) rfl ((if0 _ _).trans (teq (by decide : ((0 : Int32) = (0 : Int32)))).2) kq) ?_
   refine s_iconst X4 hx (hb hby dNM_23) ?_
   refine own_st (fun tq kq => XS.goto X4.here hx rfl (pc0 := 24) (pc' := 28) rfl (hb hby dNM_24) (by decide) (by decide) kq) ?_
   show own_G p e below _ (T4.setTop (mkF m 28 #[vR q] [(.int 1)]))
   obtain ⟨fs, hr, hrun, hended, hW, hsame⟩ := X4.leave (v := some (.int 1)) (fun h => by rw [Bd.returns] at h; cases h)
   refine ⟨_, _, retN X4 hx (t := .boolean) Bd.returns (by simp) (hb hby dNM_28) hr, hrun, hended, _, _, rfl, ?_, ⟨_, rfl⟩, hW, hsame.mono (by decide) (by decide)⟩
   change Q_own_nm3 Z q nb fm G1 c0 c1 c2 h0 n0 _ T4.heap _; rw [sm4]; exact ⟨Or.inl ⟨rfl, List.cons_ne_nil _ _, own_IXn ix2 hc13_3, ct4⟩, N4, rfl⟩
 ·
  refine own_st (fun tq kq => XS.ifYes X2.here hx rfl (pc0 := 13) (pc' := 27) rfl (hb hby dNM_13) rfl ((if0 _ _).trans (flt hc13_3).2.1) (by decide) (by decide) kq) ?_
  refine s_iconst X2 hx (hb hby dNM_27) ?_
  show own_G p e below _ (T2.setTop (mkF m 28 #[vR q] [(.int 0)]))
  obtain ⟨fs, hr, hrun, hended, hW, hsame⟩ := X2.leave (v := some (.int 0)) (fun h => by rw [Bd.returns] at h; cases h)
  refine ⟨_, _, retN X2 hx (t := .boolean) Bd.returns (by simp) (hb hby dNM_28) hr, hrun, hended, _, _, rfl, ?_, ⟨_, rfl⟩, hW, hsame.mono (by decide) (by decide)⟩
  change Q_own_nm3 Z q nb fm G1 c0 c1 c2 h0 n0 _ T2.heap _; rw [sm2]; exact ⟨Or.inr ⟨rfl, fun q => (own_IXy ix2 hc13_3).elim fun y z => q.2.1 y z.1 z.2⟩, N2, rfl⟩

def Q_own_okC (Z : State) (ch : Int32) (h0 : Heap) (n0 : Nat) (v : Option Value) (h : Heap) (L : List Loc) : Prop := ((v = some (.int (1 : Int32)) ∧ own_okc ch) ∨ (v = some (.int (0 : Int32)) ∧ ¬ own_okc ch)) ∧ Fr n0 L ∧ h = h0
theorem ef_own_okC (m : MethodId) (x0 : Int32) : entryFrame m #[(.int x0)] 1 = mkF m 0 #[.val (.int x0)] [] := by first | (simp [entryFrame, mkF, argsToLocals, Value.category]; done) | rfl
theorem own_okC (l : Launch) (Z : State) (a0 : Array Value) (hw : hWt a0 Z) (ws : List Jvm.Cond) (ch : Int32) (h0 : Heap) (n0 : Nat) (Z0 : n0 ≤ h0.size) (X00 : Old Z n0 h0)  :
 own_MN l mN34 method_2_code 1 (some .boolean) ws rm_0_0_0_0 Z #[(.int ch)] h0 (Q_own_okC Z ch h0 n0) := by
 refine own_bodyN (plainFor_of_name own_pn8) fun p e s m below meth c s₁ Bd hx hby hml hown hZ X0 e0 => ?_
 have N0 := Fr.nil n0
 have K0 : Keep h0 h0 [] := Keep.refl h0 []
 refine own_st (fun tq kq => castTop (ef_own_okC m (ch)) kq) ?_
 show own_G p e below _ (s₁.setTop (mkF m 0 #[vI ch] []))
 refine s_iloadN X0 hx (hb hby dOK_0) rfl ?_
 refine s_bipush X0 hx (hb hby dOK_1) ?_
 show own_G p e below _ (s₁.setTop (mkF m 3 #[vI ch] [(.int 58), (.int ch)]))
 by_cases hc3_1 : (ch = (58 : Int32))
 ·
  refine own_st (fun tq kq => XS.icmpNo X0.here hx rfl (hb hby dOK_3) rfl (teq hc3_1).2 kq) ?_
  refine s_iconst X0 hx (hb hby dOK_6) ?_
  show own_G p e below _ (s₁.setTop (mkF m 7 #[vI ch] [(.int 0)]))
  obtain ⟨fs, hr, hrun, hended, hW, hsame⟩ := X0.leave (v := some (.int 0)) (fun h => by rw [Bd.returns] at h; cases h)
  refine ⟨_, _, retN X0 hx (t := .boolean) Bd.returns (by simp) (hb hby dOK_7) hr, hrun, hended, _, _, rfl, ?_, ⟨_, rfl⟩, hW, hsame.mono (by decide) (by decide)⟩
  change Q_own_okC Z ch h0 n0 _ s₁.heap _; rw [e0]; exact ⟨Or.inr ⟨rfl, fun q => q.1 hc3_1⟩, N0, rfl⟩
 ·
  refine own_st (fun tq kq => XS.icmpYes X0.here hx rfl (pc0 := 3) (pc' := 8) rfl (hb hby dOK_3) rfl (feq hc3_1).2 (by decide) (by decide) kq) ?_
  refine s_iloadN X0 hx (hb hby dOK_8) rfl ?_
  refine s_bipush X0 hx (hb hby dOK_9) ?_
  show own_G p e below _ (s₁.setTop (mkF m 11 #[vI ch] [(.int 32), (.int ch)]))
  by_cases hc11_2 : (ch < (32 : Int32))
  ·
   refine own_st (fun tq kq => XS.icmpNo X0.here hx rfl (hb hby dOK_11) rfl (tlt hc11_2).2.1 kq) ?_
   refine s_iconst X0 hx (hb hby dOK_14) ?_
   show own_G p e below _ (s₁.setTop (mkF m 15 #[vI ch] [(.int 0)]))
   obtain ⟨fs, hr, hrun, hended, hW, hsame⟩ := X0.leave (v := some (.int 0)) (fun h => by rw [Bd.returns] at h; cases h)
   refine ⟨_, _, retN X0 hx (t := .boolean) Bd.returns (by simp) (hb hby dOK_15) hr, hrun, hended, _, _, rfl, ?_, ⟨_, rfl⟩, hW, hsame.mono (by decide) (by decide)⟩
   change Q_own_okC Z ch h0 n0 _ s₁.heap _; rw [e0]; exact ⟨Or.inr ⟨rfl, fun q => q.2 (Or.inl hc11_2)⟩, N0, rfl⟩
  ·
   refine own_st (fun tq kq => XS.icmpYes X0.here hx rfl (pc0 := 11) (pc' := 16) rfl (hb hby dOK_11) rfl (flt hc11_2).2.1 (by decide) (by decide) kq) ?_
   refine s_iloadN X0 hx (hb hby dOK_16) rfl ?_
   refine s_bipush X0 hx (hb hby dOK_17) ?_
   show own_G p e below _ (s₁.setTop (mkF m 19 #[vI ch] [(.int 127), (.int ch)]))
   by_cases hc19_3 : (ch = (127 : Int32))
   ·
    refine own_st (fun tq kq => XS.icmpNo X0.here hx rfl (hb hby dOK_19) rfl (teq hc19_3).2 kq) ?_
    refine s_iconst X0 hx (hb hby dOK_22) ?_
    show own_G p e below _ (s₁.setTop (mkF m 23 #[vI ch] [(.int 0)]))
    obtain ⟨fs, hr, hrun, hended, hW, hsame⟩ := X0.leave (v := some (.int 0)) (fun h => by rw [Bd.returns] at h; cases h)
    refine ⟨_, _, retN X0 hx (t := .boolean) Bd.returns (by simp) (hb hby dOK_23) hr, hrun, hended, _, _, rfl, ?_, ⟨_, rfl⟩, hW, hsame.mono (by decide) (by decide)⟩
    change Q_own_okC Z ch h0 n0 _ s₁.heap _; rw [e0]; exact ⟨Or.inr ⟨rfl, fun q => q.2 (Or.inr hc19_3)⟩, N0, rfl⟩
   ·
    refine own_st (fun tq kq => XS.icmpYes X0.here hx rfl (pc0 := 19) (pc' := 24) rfl (hb hby dOK_19) rfl (feq hc19_3).2 (by decide) (by decide) kq) ?_
    refine s_iconst X0 hx (hb hby dOK_24) ?_
    show own_G p e below _ (s₁.setTop (mkF m 25 #[vI ch] [(.int 1)]))
    obtain ⟨fs, hr, hrun, hended, hW, hsame⟩ := X0.leave (v := some (.int 1)) (fun h => by rw [Bd.returns] at h; cases h)
    refine ⟨_, _, retN X0 hx (t := .boolean) Bd.returns (by simp) (hb hby dOK_25) hr, hrun, hended, _, _, rfl, ?_, ⟨_, rfl⟩, hW, hsame.mono (by decide) (by decide)⟩
    change Q_own_okC Z ch h0 n0 _ s₁.heap _; rw [e0]; exact ⟨Or.inl ⟨rfl, hc3_1, fun q => q.elim hc11_2 hc19_3⟩, N0, rfl⟩

def Q_rm0 (Z : State) (p0 p1 p2 p3 G1 : Int32) (fm : Value) (h0 : Heap) (n0 : Nat) (v : Option Value) (_vm : Vm) (h : Heap) (L : List Loc) : Prop := v = some (.int (1 : Int32)) ∧ Fr n0 L
theorem ef_rm0 (m : MethodId) (x0 : Int32) (x1 : Int32) (x2 : Int32) (x3 : Int32) : entryFrame m #[(.int x0), (.int x1), (.int x2), (.int x3)] maxLocals = mkF m 0 #[.val (.int x0), .val (.int x1), .val (.int x2), .val (.int x3), .unset, .unset, .unset, .unset, .unset, .unset] [] := by first | (simp [entryFrame, mkF, argsToLocals, Value.category, maxLocals]; done) | rfl
theorem rm0 (l : Launch) (Z : State) (a0 : Array Value) (hw : hWt a0 Z) (hEL : EW Z a0 consts_1) (ws : List Jvm.Cond) (p0 p1 p2 p3 G1 : Int32) (fm : Value) (h0 : Heap) (n0 : Nat) (Z0 : n0 ≤ h0.size) (X00 : Old Z n0 h0) (O2 : Sta Z Z.heap "java/lang/String" "COMPACT_STRINGS" "Z" (.int G1)) (P5 : ¬ (G1 = (0 : Int32))) (OA : oA Z) (OH : oH Z) (OL : oL Z) (O4 : o4 Z fm) (rfm : fm.isRef = true) :
    MetFree l x (head1 (Jvm.Cond.code x code maxLocals ret :: ws) room_1) (own_P Z consts_1 #[(.int p0), (.int p1), (.int p2), (.int p3)] h0 []) (fun _ _ _ _ _ => True) (own_E Z consts_1 (Q_rm0 Z p0 p1 p2 p3 G1 fm h0 n0) room_1) := by
 refine MetFree.of_bodySF (plainFor_of_name own_pn8) hisR ?_
 intro p e s m args below meth c s₁ Bd hml0 hP hK
 obtain ⟨rfl, hZ, hh, hCH, hSafe⟩ := hP
 have hx := Bd.exec
 have hby := Bd.bytes
 have hml : c.maxLocals = 10 := hml0
 have hown : s.vm.findClass "com/example/ward/ward/UserIsNamePinLaw" = some m.cls := findClass_of_methodNamed Bd.named
 have X0 : Stand p l e room_1 (s.setVm s.vm) m #[(.int p0), (.int p1), (.int p2), (.int p3)] below meth c s₁ [] 0 0 := Stand.of_body Bd
 have e0 : s₁.heap = h0 := by rw [← hh, Bd.state]; rfl
 have N0 := Fr.nil n0
 have K0 : Keep h0 h0 [] := Keep.refl h0 []
 have S0 : s.Since s.vm 0 := own_since s
 have C0 : CHr Z consts_1 s.vm h0 s.vm h0 := CHr.refl hCH
 refine show own_G p e below (own_E Z consts_1 (Q_rm0 Z p0 p1 p2 p3 G1 fm h0 n0) room_1 #[(.int p0), (.int p1), (.int p2), (.int p3)] s) _ from ?_
 have tail : ∀ (T : State) (nn u0 u1 u2 : Int32), Stand p l e room_1 (s.setVm s.vm) m #[(.int p0), (.int p1), (.int p2), (.int p3)] below meth c T [] 0 0 → T.heap = h0 → (nn = 0 ∨ nn = 1 ∨ nn = 2 ∨ nn = 3) → (¬ u0 < 0 ∧ ¬ (65535 : Int32) < u0) → (¬ u1 < 0 ∧ ¬ (65535 : Int32) < u1) → (¬ u2 < 0 ∧ ¬ (65535 : Int32) < u2) → (nar .char u0 = u0) → (nar .char u1 = u1) → (nar .char u2 = u2) → own_G p e below (own_E Z consts_1 (Q_rm0 Z p0 p1 p2 p3 G1 fm h0 n0) room_1 #[(.int p0), (.int p1), (.int p2), (.int p3)] s) (T.setTop (mkF m 26 #[vI p0, vI p1, vI p2, vI p3, vI nn, vI u0, vI u1, vI u2, .unset, .unset] [])) := by
  intro T nn u0 u1 u2 X0 e0 hnn hu0 hu1 hu2 nu0 nu1 nu2
  rcases hnn with rfl | rfl | rfl | rfl
  ·
   show own_G p e below _ (T.setTop (mkF m 26 #[vI p0, vI p1, vI p2, vI p3, vI 0, vI u0, vI u1, vI u2, .unset, .unset] []))
   refine s_iload X0 hx (hb hby at_26) rfl ?_
   show own_G p e below _ (T.setTop (mkF m 28 #[vI p0, vI p1, vI p2, vI p3, vI 0, vI u0, vI u1, vI u2, .unset, .unset] [(.int 0)]))
   refine own_st (fun tq kq => XS.ifNo X0.here hx rfl (hb hby at_28) rfl ((if0 _ _).trans (teq (by decide : ((0 : Int32) = (0 : Int32)))).2) kq) ?_
   obtain ⟨T1, h1, X1, e1, E1, A1, D1, -, st1⟩ := newO X0 hx hZ hown (wd1 hw) (wd2 hw) (wd3 hw) e0 (g := (mkF m 31 #[vI p0, vI p1, vI p2, vI p3, vI 0, vI u0, vI u1, vI u2, .unset, .unset] [])) rfl (hb hby at_31) (by decide) (by decide)
   obtain ⟨b1, g1⟩ : ∃ z, z = h0.size := ⟨_, rfl⟩
   rw [← g1] at A1 D1 st1
   have lt1 : b1 < h1.size := A1.lt
   have Sn1 : Safe Z consts_1 s.vm h0 b1 := Safe.new (own_le (by omega))
   have sz1 : h0.size ≤ h1.size := E1.1
   have K1 : Keep h0 h1 [] := K0.ext E1
   have c1 : CHr Z consts_1 s.vm h0 s.vm h1 := CHr.ext E1 C0.1
   have C1 := C0.trans c1
   have Sf1 : Safe Z consts_1 s.vm h1 b1 := Safe.ext E1 C0.1 Sn1
   have F1_value : Fld Z h1 b1 "java/lang/String" "value" "[B" .null := D1 (Or.inr (wd17 hw)) (ty := (.array .byte)) (by decide)
   have F1_coder : Fld Z h1 b1 "java/lang/String" "coder" "B" (.int 0) := D1 (Or.inr (wd18 hw)) (ty := .byte) (by decide)
   refine own_st st1 ?_
   refine own_st (fun tq kq => XS.dup X1.here hx rfl (hb hby at_34) rfl rfl kq) ?_
   refine s_iconst X1 hx (hb hby at_35) ?_
   obtain ⟨T2, h2, k2, X2, e2, E2, A2, st2⟩ := newP X1 hx hZ (hw _ (List.mem_of_getElem? (i := 4) rfl)) e1 (g := (mkF m 36 #[vI p0, vI p1, vI p2, vI p3, vI 0, vI u0, vI u1, vI u2, .unset, .unset] [(.int 0), (.ref b1), (.ref b1)])) rfl (hb hby at_36) rfl (by decide) (cap := 0) (by decide) (by decide) (by decide) (by decide)
   obtain ⟨b2, g2⟩ : ∃ z, z = h1.size := ⟨_, rfl⟩
   rw [← g2] at A2 st2
   have lt2 : b2 < h2.size := A2.lt
   have V2 : Arv Z h2 b2 k2 .char (0 : Int32) [] (.int (0 : Int32)) := Arv.new A2 (by decide)
   have sz2 : h1.size ≤ h2.size := E2.1
   have K2 : Keep h0 h2 [] := K1.ext E2
   have c2 : CHr Z consts_1 s.vm h1 s.vm h2 := CHr.ext E2 C1.1
   have C2 := C1.trans c2
   have Sf2_3 := c2.safe (own_lt (by omega)) Sf1
   refine own_st st2 ?_
   have hp4 : ∀ c ∈ ([] : List Int32), ¬ c < 0 ∧ ¬ (255 : Int32) < c := fun c hc => by cases hc
   obtain ⟨_, _, ⟨T4, L4, k4, n4⟩, -, Y4, S4p, gr4, ⟨Lc4, hQ4, l4, y4, z4, c4⟩, st4⟩ := X2.specialBackS hx (y := mN1) rfl hown (mvT hZ (wd5 hw)) (mvT hZ (wd6 hw)) (mvT hZ (wd7 hw)) (by decide) (own_newStr (s := s) (vm0 := s.vm) (W := 1) hZ hw hEL C2.1 (cs := ([] : List Int32)) (n := 0) (n0 := n0) Sf2_3 (by omega) (X00.keep K2 all0) (A1.ext E2) (F1_value.ext E2) (F1_coder.ext E2) V2 O2 P5 rfl rfl (by decide) hp4 (by decide) (by decide)) (g := (mkF m 38 #[vI p0, vI p1, vI p2, vI p3, vI 0, vI u0, vI u1, vI u2, .unset, .unset] [(.ref b2), (.ref b1), (.ref b1)])) rfl (by rw [hml]; rfl) (Steps.refl _) (a := b1) (argsL := [(.ref b2)]) (rest := [(.ref b1)]) (lenOf own_pd22 rfl) rfl (Nat.le_of_eq rfl) (hb hby at_38) (fun _ _ => ⟨rfl, e2, (by decide : 2 + 2 ≤ _), (by decide : 4 + 4 ≤ _)⟩)
   dsimp only [Pt.U, Pt.locs, Pt.cells, Pt.slots] at Y4 S4p gr4 l4 y4 z4 st4 hQ4 c4
   subst l4 y4 z4
   obtain ⟨X4, S4, Z4, o4⟩ := rebS S0 (by rw [e2]; exact (own_le (by omega))) Y4 S4p gr4 hZ hown
   obtain ⟨rfl, Nq4, Kq4, Str4⟩ := hQ4
   have KK4 : Keep h2 T4.heap [b1] := Kq4
   have sz4 : h2.size ≤ T4.heap.size := KK4.1
   have K4 : Keep h0 T4.heap [] := K2.trans KK4 (allS (Or.inr (own_le (by omega))) all0)
   have C4 := C2.trans c4
   have Sf4_5 := c4.safe (own_lt (by omega)) Sf2_3
   have N4 := Fr.app N0 Nq4
   have Su4 : own_StrU Z T4.heap.size T4.heap b1 ([] : List Int32) := Str4.toU
   refine own_st (fun tq kq => st4.trans kq) ?_
   refine own_st (fun tq kq => XS.astore X4.here hx rfl (hb hby at_41) rfl rfl (l' := #[vI p0, vI p1, vI p2, vI p3, vI 0, vI u0, vI u1, vI u2, vR b1, .unset]) rfl kq) ?_
   refine own_st (fun tq kq => XS.goto X4.here hx rfl (pc0 := 43) (pc' := 130) rfl (hb hby at_43) (by decide) (by decide) kq) ?_
   refine s_iload X4 hx (hb hby at_130) rfl ?_
   show own_G p e below _ (T4.setTop (mkF m 132 #[vI p0, vI p1, vI p2, vI p3, vI 0, vI u0, vI u1, vI u2, vR b1, .unset] [(.int 0)]))
   refine own_st (fun tq kq => XS.ifNo X4.here hx rfl (hb hby at_132) rfl ((if0 _ _).trans (teq (by decide : ((0 : Int32) = (0 : Int32)))).2) kq) ?_
   refine s_iconst X4 hx (hb hby at_135) ?_
   refine own_st (fun tq kq => XS.istore X4.here hx rfl (hb hby at_136) rfl (l' := #[vI p0, vI p1, vI p2, vI p3, vI 0, vI u0, vI u1, vI u2, vR b1, vI 0]) rfl kq) ?_
   refine own_st (fun tq kq => XS.goto X4.here hx rfl (pc0 := 138) (pc' := 220) rfl (hb hby at_138) (by decide) (by decide) kq) ?_
   show own_G p e below _ (T4.setTop (mkF m 220 #[vI p0, vI p1, vI p2, vI p3, vI 0, vI u0, vI u1, vI u2, vR b1, vI 0] []))
   refine s_aload X4 hx (hb hby at_220) rfl rfl ?_
   obtain ⟨_, _, ⟨T6, L6, k6, n6⟩, -, X6, ⟨Lc6, hQ6, l6, y6, z6⟩, st6⟩ := Jvm.LawKit.callS X4 hx (y := mN32) o4 (mvT Z4 (wd23 hw)) (mvT Z4 (wd24 hw)) (mvT Z4 (wd25 hw)) (mvT Z4 (wd26 hw)) (by decide) (own_backN (W := 0) (own_nm0 l Z a0 hw [] (b1) (T4.heap.size) (fm) (G1) T4.heap n0 (by omega) (X00.keep K4 all0) Su4 O2 P5 OA OH OL O4 rfm) Z4 (wd26 hw) (wd25 hw) (by decide) (by decide)) (g := (mkF m 222 #[vI p0, vI p1, vI p2, vI p3, vI 0, vI u0, vI u1, vI u2, vR b1, vI 0] [(.ref b1)])) rfl (by rw [hml]; rfl) (argsL := [(.ref b1)]) (rest := []) (lenOf own_pd21 rfl) rfl (Nat.le_of_eq rfl) (hb hby at_222) (fun _ _ => ⟨rfl, rfl, (by decide : 4 + 0 ≤ _), (by decide : 8 + 0 ≤ _)⟩)
   dsimp only [Pt.U, Pt.locs, Pt.cells, Pt.slots] at X6 l6 y6 z6 st6 hQ6
   subst l6 y6 z6
   obtain ⟨hr6, Nq6, sm6⟩ := hQ6
   obtain ⟨rfl, ee6⟩ := hr6.resolve_left (fun q => q.2.1 rfl)
   have N6 := Fr.app N4 Nq6
   refine own_st st6 ?_
   refine s_iload X6 hx (hb hby at_225) rfl ?_
   show own_G p e below _ (T6.setTop (mkF m 227 #[vI p0, vI p1, vI p2, vI p3, vI 0, vI u0, vI u1, vI u2, vR b1, vI 0] [(.int 0), (.int 0)]))
   refine own_st (fun tq kq => XS.icmpNo X6.here hx rfl (hb hby at_227) rfl (teq (by decide : ((0 : Int32) = (0 : Int32)))).2 kq) ?_
   refine s_iconst X6 hx (hb hby at_230) ?_
   refine own_st (fun tq kq => XS.goto X6.here hx rfl (pc0 := 231) (pc' := 235) rfl (hb hby at_231) (by decide) (by decide) kq) ?_
   show own_G p e below _ (T6.setTop (mkF m 235 #[vI p0, vI p1, vI p2, vI p3, vI 0, vI u0, vI u1, vI u2, vR b1, vI 0] [(.int 1)]))
   obtain ⟨fs, hr, hrun, hended, hRW⟩ := X6.leaveW S4 (by rw [sm6]; exact (own_le (by omega))) (v := some (.int 1)) (fun h => by rw [Bd.returns] at h; cases h)
   have cE := C4.trans (CHv.at (s := s) (vm0 := T4.vm) X6 Z4 hEL C4.1)
   refine ⟨_, _, retN X6 hx (t := .boolean) Bd.returns (by simp) (hb hby at_235) hr, hrun, hended, _, _, rfl, ?_, ?_, own_RW hRW (by decide) (by decide)⟩
   · change Q_rm0 Z p0 p1 p2 p3 G1 fm h0 n0 _ T6.vm T6.heap _; rw [sm6]; exact ⟨rfl, N6⟩
   · rw [hh]; change CHr Z consts_1 s.vm h0 T6.vm T6.heap; rw [sm6]; exact cE
  ·
   show own_G p e below _ (T.setTop (mkF m 26 #[vI p0, vI p1, vI p2, vI p3, vI 1, vI u0, vI u1, vI u2, .unset, .unset] []))
   refine s_iload X0 hx (hb hby at_26) rfl ?_
   show own_G p e below _ (T.setTop (mkF m 28 #[vI p0, vI p1, vI p2, vI p3, vI 1, vI u0, vI u1, vI u2, .unset, .unset] [(.int 1)]))
   refine own_st (fun tq kq => XS.ifYes X0.here hx rfl (pc0 := 28) (pc' := 46) rfl (hb hby at_28) rfl ((if0 _ _).trans (feq (by decide : ¬ ((1 : Int32) = (0 : Int32)))).2) (by decide) (by decide) kq) ?_
   refine s_iload X0 hx (hb hby at_46) rfl ?_
   refine s_iconst X0 hx (hb hby at_48) ?_
   show own_G p e below _ (T.setTop (mkF m 49 #[vI p0, vI p1, vI p2, vI p3, vI 1, vI u0, vI u1, vI u2, .unset, .unset] [(.int 1), (.int 1)]))
   refine own_st (fun tq kq => XS.icmpNo X0.here hx rfl (hb hby at_49) rfl (teq (by decide : ((1 : Int32) = (1 : Int32)))).2 kq) ?_
   obtain ⟨T7, h7, X7, e7, E7, A7, D7, -, st7⟩ := newO X0 hx hZ hown (wd1 hw) (wd2 hw) (wd3 hw) e0 (g := (mkF m 52 #[vI p0, vI p1, vI p2, vI p3, vI 1, vI u0, vI u1, vI u2, .unset, .unset] [])) rfl (hb hby at_52) (by decide) (by decide)
   obtain ⟨b7, g7⟩ : ∃ z, z = h0.size := ⟨_, rfl⟩
   rw [← g7] at A7 D7 st7
   have lt7 : b7 < h7.size := A7.lt
   have Sn7 : Safe Z consts_1 s.vm h0 b7 := Safe.new (own_le (by omega))
   have sz7 : h0.size ≤ h7.size := E7.1
   have K7 : Keep h0 h7 [] := K0.ext E7
   have c7 : CHr Z consts_1 s.vm h0 s.vm h7 := CHr.ext E7 C0.1
   have C7 := C0.trans c7
   have Sf7 : Safe Z consts_1 s.vm h7 b7 := Safe.ext E7 C0.1 Sn7
   have F7_value : Fld Z h7 b7 "java/lang/String" "value" "[B" .null := D7 (Or.inr (wd17 hw)) (ty := (.array .byte)) (by decide)
   have F7_coder : Fld Z h7 b7 "java/lang/String" "coder" "B" (.int 0) := D7 (Or.inr (wd18 hw)) (ty := .byte) (by decide)
   refine own_st st7 ?_
   refine own_st (fun tq kq => XS.dup X7.here hx rfl (hb hby at_55) rfl rfl kq) ?_
   refine s_iconst X7 hx (hb hby at_56) ?_
   obtain ⟨T8, h8, k8, X8, e8, E8, A8, st8⟩ := newP X7 hx hZ (hw _ (List.mem_of_getElem? (i := 4) rfl)) e7 (g := (mkF m 57 #[vI p0, vI p1, vI p2, vI p3, vI 1, vI u0, vI u1, vI u2, .unset, .unset] [(.int 1), (.ref b7), (.ref b7)])) rfl (hb hby at_57) rfl (by decide) (cap := 1) (by decide) (by decide) (by decide) (by decide)
   obtain ⟨b8, g8⟩ : ∃ z, z = h7.size := ⟨_, rfl⟩
   rw [← g8] at A8 st8
   have lt8 : b8 < h8.size := A8.lt
   have V8 : Arv Z h8 b8 k8 .char (1 : Int32) [(.int (0 : Int32))] (.int (0 : Int32)) := (Arv.new A8 (by decide)).pad (pad_rep [] (.int (0 : Int32)) 1)
   have sz8 : h7.size ≤ h8.size := E8.1
   have K8 : Keep h0 h8 [] := K7.ext E8
   have c8 : CHr Z consts_1 s.vm h7 s.vm h8 := CHr.ext E8 C7.1
   have C8 := C7.trans c8
   have Sf8_9 := c8.safe (own_lt (by omega)) Sf7
   refine own_st st8 ?_
   refine own_st (fun tq kq => XS.dup X8.here hx rfl (hb hby at_59) rfl rfl kq) ?_
   refine s_iconst X8 hx (hb hby at_60) ?_
   refine s_iload X8 hx (hb hby at_61) rfl ?_
   obtain ⟨cl10, Ar10, q10, S_10, N_10, H_10, G_10⟩ := id V8
   have in10 : ¬ ((0 : Int32) < 0 ∨ cl10.slots.size ≤ ((0 : Int32)).toNatClampNeg) := inb_of S_10 ⟨by decide, by decide⟩
   obtain ⟨T10, h10, X10, e10, W10, st10⟩ := stC X8 hx hZ e8 Ar10 (j := (0 : Int32)) in10 (g := (mkF m 63 #[vI p0, vI p1, vI p2, vI p3, vI 1, vI u0, vI u1, vI u2, .unset, .unset] [(.int u0), (.int 0), (.ref b8), (.ref b8), (.ref b7), (.ref b7)])) rfl rfl (hb hby at_63)
   have V10 := Arv.set Ar10 q10 S_10 N_10 H_10 G_10 (fits_nar_char _) W10 0 rfl (Nat.le_of_ble_eq_true rfl)
   have sz10 : h8.size ≤ h10.size := (Keep.of_wr W10).1
   have K10 : Keep h0 h10 [] := K8.wr W10 (Or.inr (own_le (by omega)))
   have c10 : CHr Z consts_1 s.vm h8 s.vm h10 := CHr.wr W10 (Safe.arr hZ.alike Ar10 (by decide)) C8.1
   have C10 := C8.trans c10
   have Sf10_11 := c10.safe (own_lt (by omega)) Sf8_9
   have N10 := Fr.snoc X10 N0 (own_le (by omega))
   refine own_st st10 ?_
   have Vx12 : Arv Z h10 b8 k8 .char (1 : Int32) [.int (nar .char u0)] (.int (0 : Int32)) := V10
   rw [nu0] at Vx12
   have hp12 : ∀ c ∈ ([u0] : List Int32), ¬ c < 0 ∧ ¬ (65535 : Int32) < c := by
     intro c hc
     simp only [List.mem_cons, List.not_mem_nil, or_false] at hc
     rcases hc with rfl
     · exact hu0
   obtain ⟨_, _, ⟨T12, L12, k12, n12⟩, -, Y12, S12p, gr12, ⟨Lc12, hQ12, l12, y12, z12, c12⟩, st12⟩ := X10.specialBackS hx (y := mN1) rfl hown (mvT hZ (wd5 hw)) (mvT hZ (wd6 hw)) (mvT hZ (wd7 hw)) (by decide) (own_newU1 (s := s) (vm0 := s.vm) (W := 1) hZ hw hEL C10.1 (n0 := n0) Sf10_11 (own_le (by omega)) (X00.keep K10 all0) ((A7.ext E8).wr W10) ((F7_value.ext E8).other W10 (Or.inl (own_ne (by omega)))) ((F7_coder.ext E8).other W10 (Or.inl (own_ne (by omega)))) Vx12 O2 P5 OA OH OL hp12 (by decide) (by decide)) (g := (mkF m 64 #[vI p0, vI p1, vI p2, vI p3, vI 1, vI u0, vI u1, vI u2, .unset, .unset] [(.ref b8), (.ref b7), (.ref b7)])) rfl (by rw [hml]; rfl) (Steps.refl _) (a := b7) (argsL := [(.ref b8)]) (rest := [(.ref b7)]) (lenOf own_pd22 rfl) rfl (Nat.le_of_eq rfl) (hb hby at_64) (fun _ _ => ⟨rfl, e10, (by decide : 2 + 2 ≤ _), (by decide : 5 + 7 ≤ _)⟩)
   dsimp only [Pt.U, Pt.locs, Pt.cells, Pt.slots] at Y12 S12p gr12 l12 y12 z12 st12 hQ12 c12
   subst l12 y12 z12
   obtain ⟨X12, S12, Z12, o12⟩ := rebS S0 (by rw [e10]; exact (own_le (by omega))) Y12 S12p gr12 hZ hown
   obtain ⟨rfl, Nq12, Kq12, Su12⟩ := hQ12
   have KK12 : Keep h10 T12.heap [b7] := Kq12
   have sz12 : h10.size ≤ T12.heap.size := KK12.1
   have K12 : Keep h0 T12.heap [] := K10.trans KK12 (allS (Or.inr (own_le (by omega))) all0)
   have C12 := C10.trans c12
   have Sf12_13 := c12.safe (own_lt (by omega)) Sf10_11
   have N12 := Fr.app N10 Nq12
   refine own_st (fun tq kq => st12.trans kq) ?_
   refine own_st (fun tq kq => XS.astore X12.here hx rfl (hb hby at_67) rfl rfl (l' := #[vI p0, vI p1, vI p2, vI p3, vI 1, vI u0, vI u1, vI u2, vR b7, .unset]) rfl kq) ?_
   refine own_st (fun tq kq => XS.goto X12.here hx rfl (pc0 := 69) (pc' := 130) rfl (hb hby at_69) (by decide) (by decide) kq) ?_
   refine s_iload X12 hx (hb hby at_130) rfl ?_
   show own_G p e below _ (T12.setTop (mkF m 132 #[vI p0, vI p1, vI p2, vI p3, vI 1, vI u0, vI u1, vI u2, vR b7, .unset] [(.int 1)]))
   refine own_st (fun tq kq => XS.ifYes X12.here hx rfl (pc0 := 132) (pc' := 141) rfl (hb hby at_132) rfl ((if0 _ _).trans (feq (by decide : ¬ ((1 : Int32) = (0 : Int32)))).2) (by decide) (by decide) kq) ?_
   refine s_iload X12 hx (hb hby at_141) rfl ?_
   refine s_iconst X12 hx (hb hby at_143) ?_
   show own_G p e below _ (T12.setTop (mkF m 144 #[vI p0, vI p1, vI p2, vI p3, vI 1, vI u0, vI u1, vI u2, vR b7, .unset] [(.int 1), (.int 1)]))
   refine own_st (fun tq kq => XS.icmpNo X12.here hx rfl (hb hby at_144) rfl (teq (by decide : ((1 : Int32) = (1 : Int32)))).2 kq) ?_
   refine s_iload X12 hx (hb hby at_147) rfl ?_
   obtain ⟨_, _, ⟨T14, L14, k14, n14⟩, -, X14, ⟨Lc14, hQ14, l14, y14, z14⟩, st14⟩ := Jvm.LawKit.callS X12 hx (y := mN34) o12 (mvT Z12 (wd43 hw)) (mvT Z12 (wd44 hw)) (mvT Z12 (wd45 hw)) (mvT Z12 (wd46 hw)) (by decide) (own_backN (W := 0) (own_okC l Z a0 hw [] (u0) T12.heap n0 (by omega) (X00.keep K12 all0) ) Z12 (wd46 hw) (wd45 hw) (by decide) (by decide)) (g := (mkF m 149 #[vI p0, vI p1, vI p2, vI p3, vI 1, vI u0, vI u1, vI u2, vR b7, .unset] [(.int u0)])) rfl (by rw [hml]; rfl) (argsL := [(.int u0)]) (rest := []) (lenOf own_pd23 rfl) rfl (Nat.le_of_eq rfl) (hb hby at_149) (fun _ _ => ⟨rfl, rfl, (by decide : 4 + 0 ≤ _), (by decide : 12 + 0 ≤ _)⟩)
   dsimp only [Pt.U, Pt.locs, Pt.cells, Pt.slots] at X14 l14 y14 z14 st14 hQ14
   subst l14 y14 z14
   obtain ⟨hr14, Nq14, sm14⟩ := hQ14
   have N14 := Fr.app N12 Nq14
   rcases hr14 with ⟨rfl, ok14⟩ | ⟨rfl, ok14⟩
   ·
    refine own_st st14 ?_
    refine own_st (fun tq kq => XS.istore X14.here hx rfl (hb hby at_152) rfl (l' := #[vI p0, vI p1, vI p2, vI p3, vI 1, vI u0, vI u1, vI u2, vR b7, vI 1]) rfl kq) ?_
    refine own_st (fun tq kq => XS.goto X14.here hx rfl (pc0 := 154) (pc' := 220) rfl (hb hby at_154) (by decide) (by decide) kq) ?_
    refine s_aload X14 hx (hb hby at_220) rfl rfl ?_
    obtain ⟨_, _, ⟨T15, L15, k15, n15⟩, -, X15, ⟨Lc15, hQ15, l15, y15, z15⟩, st15⟩ := Jvm.LawKit.callS X14 hx (y := mN32) o12 (mvT Z12 (wd23 hw)) (mvT Z12 (wd24 hw)) (mvT Z12 (wd25 hw)) (mvT Z12 (wd26 hw)) (by decide) (own_backN (W := 0) (own_nm1 l Z a0 hw [] (b7) (T12.heap.size) (fm) (G1) (u0) T12.heap n0 (by omega) (X00.keep K12 all0) Su12 O2 P5 OA OH OL O4 rfm) Z12 (wd26 hw) (wd25 hw) (by decide) (by decide)) (g := (mkF m 222 #[vI p0, vI p1, vI p2, vI p3, vI 1, vI u0, vI u1, vI u2, vR b7, vI 1] [(.ref b7)])) rfl (by rw [hml]; rfl) (argsL := [(.ref b7)]) (rest := []) (lenOf own_pd21 rfl) rfl (Nat.le_of_eq rfl) (hb hby at_222) (fun _ _ => ⟨rfl, sm14, (by decide : 4 + 0 ≤ _), (by decide : 12 + 0 ≤ _)⟩)
    dsimp only [Pt.U, Pt.locs, Pt.cells, Pt.slots] at X15 l15 y15 z15 st15 hQ15
    subst l15 y15 z15
    obtain ⟨hr15, Nq15, sm15⟩ := hQ15
    obtain ⟨rfl, ee15⟩ := hr15.resolve_right (fun q => q.2 ⟨List.cons_ne_nil _ _, own_all1 ok14.1, own_all1 ok14.2⟩)
    have N15 := Fr.app N14 Nq15
    refine own_st st15 ?_
    refine s_iload X15 hx (hb hby at_225) rfl ?_
    show own_G p e below _ (T15.setTop (mkF m 227 #[vI p0, vI p1, vI p2, vI p3, vI 1, vI u0, vI u1, vI u2, vR b7, vI 1] [(.int 1), (.int 1)]))
    refine own_st (fun tq kq => XS.icmpNo X15.here hx rfl (hb hby at_227) rfl (teq (by decide : ((1 : Int32) = (1 : Int32)))).2 kq) ?_
    refine s_iconst X15 hx (hb hby at_230) ?_
    refine own_st (fun tq kq => XS.goto X15.here hx rfl (pc0 := 231) (pc' := 235) rfl (hb hby at_231) (by decide) (by decide) kq) ?_
    show own_G p e below _ (T15.setTop (mkF m 235 #[vI p0, vI p1, vI p2, vI p3, vI 1, vI u0, vI u1, vI u2, vR b7, vI 1] [(.int 1)]))
    obtain ⟨fs, hr, hrun, hended, hRW⟩ := X15.leaveW S12 (by rw [sm15]; exact (own_le (by omega))) (v := some (.int 1)) (fun h => by rw [Bd.returns] at h; cases h)
    have cE := C12.trans (CHv.at (s := s) (vm0 := T12.vm) X15 Z12 hEL C12.1)
    refine ⟨_, _, retN X15 hx (t := .boolean) Bd.returns (by simp) (hb hby at_235) hr, hrun, hended, _, _, rfl, ?_, ?_, own_RW hRW (by decide) (by decide)⟩
    · change Q_rm0 Z p0 p1 p2 p3 G1 fm h0 n0 _ T15.vm T15.heap _; rw [sm15]; exact ⟨rfl, N15⟩
    · rw [hh]; change CHr Z consts_1 s.vm h0 T15.vm T15.heap; rw [sm15]; exact cE
   ·
    refine own_st st14 ?_
    refine own_st (fun tq kq => XS.istore X14.here hx rfl (hb hby at_152) rfl (l' := #[vI p0, vI p1, vI p2, vI p3, vI 1, vI u0, vI u1, vI u2, vR b7, vI 0]) rfl kq) ?_
    refine own_st (fun tq kq => XS.goto X14.here hx rfl (pc0 := 154) (pc' := 220) rfl (hb hby at_154) (by decide) (by decide) kq) ?_
    refine s_aload X14 hx (hb hby at_220) rfl rfl ?_
    obtain ⟨_, _, ⟨T16, L16, k16, n16⟩, -, X16, ⟨Lc16, hQ16, l16, y16, z16⟩, st16⟩ := Jvm.LawKit.callS X14 hx (y := mN32) o12 (mvT Z12 (wd23 hw)) (mvT Z12 (wd24 hw)) (mvT Z12 (wd25 hw)) (mvT Z12 (wd26 hw)) (by decide) (own_backN (W := 0) (own_nm1 l Z a0 hw [] (b7) (T12.heap.size) (fm) (G1) (u0) T12.heap n0 (by omega) (X00.keep K12 all0) Su12 O2 P5 OA OH OL O4 rfm) Z12 (wd26 hw) (wd25 hw) (by decide) (by decide)) (g := (mkF m 222 #[vI p0, vI p1, vI p2, vI p3, vI 1, vI u0, vI u1, vI u2, vR b7, vI 0] [(.ref b7)])) rfl (by rw [hml]; rfl) (argsL := [(.ref b7)]) (rest := []) (lenOf own_pd21 rfl) rfl (Nat.le_of_eq rfl) (hb hby at_222) (fun _ _ => ⟨rfl, sm14, (by decide : 4 + 0 ≤ _), (by decide : 12 + 0 ≤ _)⟩)
    dsimp only [Pt.U, Pt.locs, Pt.cells, Pt.slots] at X16 l16 y16 z16 st16 hQ16
    subst l16 y16 z16
    obtain ⟨hr16, Nq16, sm16⟩ := hQ16
    obtain ⟨rfl, ee16⟩ := hr16.resolve_left (fun q => ok14 ⟨q.2.2.1 u0 (by simp), q.2.2.2 u0 (by simp)⟩)
    have N16 := Fr.app N14 Nq16
    refine own_st st16 ?_
    refine s_iload X16 hx (hb hby at_225) rfl ?_
    show own_G p e below _ (T16.setTop (mkF m 227 #[vI p0, vI p1, vI p2, vI p3, vI 1, vI u0, vI u1, vI u2, vR b7, vI 0] [(.int 0), (.int 0)]))
    refine own_st (fun tq kq => XS.icmpNo X16.here hx rfl (hb hby at_227) rfl (teq (by decide : ((0 : Int32) = (0 : Int32)))).2 kq) ?_
    refine s_iconst X16 hx (hb hby at_230) ?_
    refine own_st (fun tq kq => XS.goto X16.here hx rfl (pc0 := 231) (pc' := 235) rfl (hb hby at_231) (by decide) (by decide) kq) ?_
    show own_G p e below _ (T16.setTop (mkF m 235 #[vI p0, vI p1, vI p2, vI p3, vI 1, vI u0, vI u1, vI u2, vR b7, vI 0] [(.int 1)]))
    obtain ⟨fs, hr, hrun, hended, hRW⟩ := X16.leaveW S12 (by rw [sm16]; exact (own_le (by omega))) (v := some (.int 1)) (fun h => by rw [Bd.returns] at h; cases h)
    have cE := C12.trans (CHv.at (s := s) (vm0 := T12.vm) X16 Z12 hEL C12.1)
    refine ⟨_, _, retN X16 hx (t := .boolean) Bd.returns (by simp) (hb hby at_235) hr, hrun, hended, _, _, rfl, ?_, ?_, own_RW hRW (by decide) (by decide)⟩
    · change Q_rm0 Z p0 p1 p2 p3 G1 fm h0 n0 _ T16.vm T16.heap _; rw [sm16]; exact ⟨rfl, N16⟩
    · rw [hh]; change CHr Z consts_1 s.vm h0 T16.vm T16.heap; rw [sm16]; exact cE
  ·
   show own_G p e below _ (T.setTop (mkF m 26 #[vI p0, vI p1, vI p2, vI p3, vI 2, vI u0, vI u1, vI u2, .unset, .unset] []))
   refine s_iload X0 hx (hb hby at_26) rfl ?_
   show own_G p e below _ (T.setTop (mkF m 28 #[vI p0, vI p1, vI p2, vI p3, vI 2, vI u0, vI u1, vI u2, .unset, .unset] [(.int 2)]))
   refine own_st (fun tq kq => XS.ifYes X0.here hx rfl (pc0 := 28) (pc' := 46) rfl (hb hby at_28) rfl ((if0 _ _).trans (feq (by decide : ¬ ((2 : Int32) = (0 : Int32)))).2) (by decide) (by decide) kq) ?_
   refine s_iload X0 hx (hb hby at_46) rfl ?_
   refine s_iconst X0 hx (hb hby at_48) ?_
   show own_G p e below _ (T.setTop (mkF m 49 #[vI p0, vI p1, vI p2, vI p3, vI 2, vI u0, vI u1, vI u2, .unset, .unset] [(.int 1), (.int 2)]))
   refine own_st (fun tq kq => XS.icmpYes X0.here hx rfl (pc0 := 49) (pc' := 72) rfl (hb hby at_49) rfl (feq (by decide : ¬ ((2 : Int32) = (1 : Int32)))).2 (by decide) (by decide) kq) ?_
   refine s_iload X0 hx (hb hby at_72) rfl ?_
   refine s_iconst X0 hx (hb hby at_74) ?_
   show own_G p e below _ (T.setTop (mkF m 75 #[vI p0, vI p1, vI p2, vI p3, vI 2, vI u0, vI u1, vI u2, .unset, .unset] [(.int 2), (.int 2)]))
   refine own_st (fun tq kq => XS.icmpNo X0.here hx rfl (hb hby at_75) rfl (teq (by decide : ((2 : Int32) = (2 : Int32)))).2 kq) ?_
   obtain ⟨T17, h17, X17, e17, E17, A17, D17, -, st17⟩ := newO X0 hx hZ hown (wd1 hw) (wd2 hw) (wd3 hw) e0 (g := (mkF m 78 #[vI p0, vI p1, vI p2, vI p3, vI 2, vI u0, vI u1, vI u2, .unset, .unset] [])) rfl (hb hby at_78) (by decide) (by decide)
   obtain ⟨b17, g17⟩ : ∃ z, z = h0.size := ⟨_, rfl⟩
   rw [← g17] at A17 D17 st17
   have lt17 : b17 < h17.size := A17.lt
   have Sn17 : Safe Z consts_1 s.vm h0 b17 := Safe.new (own_le (by omega))
   have sz17 : h0.size ≤ h17.size := E17.1
   have K17 : Keep h0 h17 [] := K0.ext E17
   have c17 : CHr Z consts_1 s.vm h0 s.vm h17 := CHr.ext E17 C0.1
   have C17 := C0.trans c17
   have Sf17 : Safe Z consts_1 s.vm h17 b17 := Safe.ext E17 C0.1 Sn17
   have F17_value : Fld Z h17 b17 "java/lang/String" "value" "[B" .null := D17 (Or.inr (wd17 hw)) (ty := (.array .byte)) (by decide)
   have F17_coder : Fld Z h17 b17 "java/lang/String" "coder" "B" (.int 0) := D17 (Or.inr (wd18 hw)) (ty := .byte) (by decide)
   refine own_st st17 ?_
   refine own_st (fun tq kq => XS.dup X17.here hx rfl (hb hby at_81) rfl rfl kq) ?_
   refine s_iconst X17 hx (hb hby at_82) ?_
   obtain ⟨T18, h18, k18, X18, e18, E18, A18, st18⟩ := newP X17 hx hZ (hw _ (List.mem_of_getElem? (i := 4) rfl)) e17 (g := (mkF m 83 #[vI p0, vI p1, vI p2, vI p3, vI 2, vI u0, vI u1, vI u2, .unset, .unset] [(.int 2), (.ref b17), (.ref b17)])) rfl (hb hby at_83) rfl (by decide) (cap := 2) (by decide) (by decide) (by decide) (by decide)
   obtain ⟨b18, g18⟩ : ∃ z, z = h17.size := ⟨_, rfl⟩
   rw [← g18] at A18 st18
   have lt18 : b18 < h18.size := A18.lt
   have V18 : Arv Z h18 b18 k18 .char (2 : Int32) [(.int (0 : Int32)), (.int (0 : Int32))] (.int (0 : Int32)) := (Arv.new A18 (by decide)).pad (pad_rep [] (.int (0 : Int32)) 2)
   have sz18 : h17.size ≤ h18.size := E18.1
   have K18 : Keep h0 h18 [] := K17.ext E18
   have c18 : CHr Z consts_1 s.vm h17 s.vm h18 := CHr.ext E18 C17.1
   have C18 := C17.trans c18
   have Sf18_19 := c18.safe (own_lt (by omega)) Sf17
   refine own_st st18 ?_
   refine own_st (fun tq kq => XS.dup X18.here hx rfl (hb hby at_85) rfl rfl kq) ?_
   refine s_iconst X18 hx (hb hby at_86) ?_
   refine s_iload X18 hx (hb hby at_87) rfl ?_
   obtain ⟨cl20, Ar20, q20, S_20, N_20, H_20, G_20⟩ := id V18
   have in20 : ¬ ((0 : Int32) < 0 ∨ cl20.slots.size ≤ ((0 : Int32)).toNatClampNeg) := inb_of S_20 ⟨by decide, by decide⟩
   obtain ⟨T20, h20, X20, e20, W20, st20⟩ := stC X18 hx hZ e18 Ar20 (j := (0 : Int32)) in20 (g := (mkF m 89 #[vI p0, vI p1, vI p2, vI p3, vI 2, vI u0, vI u1, vI u2, .unset, .unset] [(.int u0), (.int 0), (.ref b18), (.ref b18), (.ref b17), (.ref b17)])) rfl rfl (hb hby at_89)
   have V20 := Arv.set Ar20 q20 S_20 N_20 H_20 G_20 (fits_nar_char _) W20 0 rfl (Nat.le_of_ble_eq_true rfl)
   have sz20 : h18.size ≤ h20.size := (Keep.of_wr W20).1
   have K20 : Keep h0 h20 [] := K18.wr W20 (Or.inr (own_le (by omega)))
   have c20 : CHr Z consts_1 s.vm h18 s.vm h20 := CHr.wr W20 (Safe.arr hZ.alike Ar20 (by decide)) C18.1
   have C20 := C18.trans c20
   have Sf20_21 := c20.safe (own_lt (by omega)) Sf18_19
   have N20 := Fr.snoc X20 N0 (own_le (by omega))
   refine own_st st20 ?_
   refine own_st (fun tq kq => XS.dup X20.here hx rfl (hb hby at_90) rfl rfl kq) ?_
   refine s_iconst X20 hx (hb hby at_91) ?_
   refine s_iload X20 hx (hb hby at_92) rfl ?_
   obtain ⟨cl22, Ar22, q22, S_22, N_22, H_22, G_22⟩ := id V20
   have in22 : ¬ ((1 : Int32) < 0 ∨ cl22.slots.size ≤ ((1 : Int32)).toNatClampNeg) := inb_of S_22 ⟨by decide, by decide⟩
   obtain ⟨T22, h22, X22, e22, W22, st22⟩ := stC X20 hx hZ e20 Ar22 (j := (1 : Int32)) in22 (g := (mkF m 94 #[vI p0, vI p1, vI p2, vI p3, vI 2, vI u0, vI u1, vI u2, .unset, .unset] [(.int u1), (.int 1), (.ref b18), (.ref b18), (.ref b17), (.ref b17)])) rfl rfl (hb hby at_94)
   have V22 := Arv.set Ar22 q22 S_22 N_22 H_22 G_22 (fits_nar_char _) W22 1 rfl (Nat.le_of_ble_eq_true rfl)
   have sz22 : h20.size ≤ h22.size := (Keep.of_wr W22).1
   have K22 : Keep h0 h22 [] := K20.wr W22 (Or.inr (own_le (by omega)))
   have c22 : CHr Z consts_1 s.vm h20 s.vm h22 := CHr.wr W22 (Safe.arr hZ.alike Ar22 (by decide)) C20.1
   have C22 := C20.trans c22
   have Sf22_23 := c22.safe (own_lt (by omega)) Sf20_21
   have N22 := Fr.snoc X22 N20 (own_le (by omega))
   refine own_st st22 ?_
   have Vx24 : Arv Z h22 b18 k18 .char (2 : Int32) [.int (nar .char u0), .int (nar .char u1)] (.int (0 : Int32)) := V22
   rw [nu0, nu1] at Vx24
   have hp24 : ∀ c ∈ ([u0, u1] : List Int32), ¬ c < 0 ∧ ¬ (65535 : Int32) < c := by
     intro c hc
     simp only [List.mem_cons, List.not_mem_nil, or_false] at hc
     rcases hc with rfl | rfl
     · exact hu0
     · exact hu1
   obtain ⟨_, _, ⟨T24, L24, k24, n24⟩, -, Y24, S24p, gr24, ⟨Lc24, hQ24, l24, y24, z24, c24⟩, st24⟩ := X22.specialBackS hx (y := mN1) rfl hown (mvT hZ (wd5 hw)) (mvT hZ (wd6 hw)) (mvT hZ (wd7 hw)) (by decide) (own_newU2 (s := s) (vm0 := s.vm) (W := 1) hZ hw hEL C22.1 (n0 := n0) Sf22_23 (own_le (by omega)) (X00.keep K22 all0) (((A17.ext E18).wr W20).wr W22) (((F17_value.ext E18).other W20 (Or.inl (own_ne (by omega)))).other W22 (Or.inl (own_ne (by omega)))) (((F17_coder.ext E18).other W20 (Or.inl (own_ne (by omega)))).other W22 (Or.inl (own_ne (by omega)))) Vx24 O2 P5 OA OH OL hp24 (by decide) (by decide)) (g := (mkF m 95 #[vI p0, vI p1, vI p2, vI p3, vI 2, vI u0, vI u1, vI u2, .unset, .unset] [(.ref b18), (.ref b17), (.ref b17)])) rfl (by rw [hml]; rfl) (Steps.refl _) (a := b17) (argsL := [(.ref b18)]) (rest := [(.ref b17)]) (lenOf own_pd22 rfl) rfl (Nat.le_of_eq rfl) (hb hby at_95) (fun _ _ => ⟨rfl, e22, (by decide : 2 + 2 ≤ _), (by decide : 6 + 10 ≤ _)⟩)
   dsimp only [Pt.U, Pt.locs, Pt.cells, Pt.slots] at Y24 S24p gr24 l24 y24 z24 st24 hQ24 c24
   subst l24 y24 z24
   obtain ⟨X24, S24, Z24, o24⟩ := rebS S0 (by rw [e22]; exact (own_le (by omega))) Y24 S24p gr24 hZ hown
   obtain ⟨rfl, Nq24, Kq24, Su24⟩ := hQ24
   have KK24 : Keep h22 T24.heap [b17] := Kq24
   have sz24 : h22.size ≤ T24.heap.size := KK24.1
   have K24 : Keep h0 T24.heap [] := K22.trans KK24 (allS (Or.inr (own_le (by omega))) all0)
   have C24 := C22.trans c24
   have Sf24_25 := c24.safe (own_lt (by omega)) Sf22_23
   have N24 := Fr.app N22 Nq24
   refine own_st (fun tq kq => st24.trans kq) ?_
   refine own_st (fun tq kq => XS.astore X24.here hx rfl (hb hby at_98) rfl rfl (l' := #[vI p0, vI p1, vI p2, vI p3, vI 2, vI u0, vI u1, vI u2, vR b17, .unset]) rfl kq) ?_
   refine own_st (fun tq kq => XS.goto X24.here hx rfl (pc0 := 100) (pc' := 130) rfl (hb hby at_100) (by decide) (by decide) kq) ?_
   refine s_iload X24 hx (hb hby at_130) rfl ?_
   show own_G p e below _ (T24.setTop (mkF m 132 #[vI p0, vI p1, vI p2, vI p3, vI 2, vI u0, vI u1, vI u2, vR b17, .unset] [(.int 2)]))
   refine own_st (fun tq kq => XS.ifYes X24.here hx rfl (pc0 := 132) (pc' := 141) rfl (hb hby at_132) rfl ((if0 _ _).trans (feq (by decide : ¬ ((2 : Int32) = (0 : Int32)))).2) (by decide) (by decide) kq) ?_
   refine s_iload X24 hx (hb hby at_141) rfl ?_
   refine s_iconst X24 hx (hb hby at_143) ?_
   show own_G p e below _ (T24.setTop (mkF m 144 #[vI p0, vI p1, vI p2, vI p3, vI 2, vI u0, vI u1, vI u2, vR b17, .unset] [(.int 1), (.int 2)]))
   refine own_st (fun tq kq => XS.icmpYes X24.here hx rfl (pc0 := 144) (pc' := 157) rfl (hb hby at_144) rfl (feq (by decide : ¬ ((2 : Int32) = (1 : Int32)))).2 (by decide) (by decide) kq) ?_
   refine s_iload X24 hx (hb hby at_157) rfl ?_
   refine s_iconst X24 hx (hb hby at_159) ?_
   show own_G p e below _ (T24.setTop (mkF m 160 #[vI p0, vI p1, vI p2, vI p3, vI 2, vI u0, vI u1, vI u2, vR b17, .unset] [(.int 2), (.int 2)]))
   refine own_st (fun tq kq => XS.icmpNo X24.here hx rfl (hb hby at_160) rfl (teq (by decide : ((2 : Int32) = (2 : Int32)))).2 kq) ?_
   refine s_iload X24 hx (hb hby at_163) rfl ?_
   obtain ⟨_, _, ⟨T26, L26, k26, n26⟩, -, X26, ⟨Lc26, hQ26, l26, y26, z26⟩, st26⟩ := Jvm.LawKit.callS X24 hx (y := mN34) o24 (mvT Z24 (wd43 hw)) (mvT Z24 (wd44 hw)) (mvT Z24 (wd45 hw)) (mvT Z24 (wd46 hw)) (by decide) (own_backN (W := 0) (own_okC l Z a0 hw [] (u0) T24.heap n0 (by omega) (X00.keep K24 all0) ) Z24 (wd46 hw) (wd45 hw) (by decide) (by decide)) (g := (mkF m 165 #[vI p0, vI p1, vI p2, vI p3, vI 2, vI u0, vI u1, vI u2, vR b17, .unset] [(.int u0)])) rfl (by rw [hml]; rfl) (argsL := [(.int u0)]) (rest := []) (lenOf own_pd23 rfl) rfl (Nat.le_of_eq rfl) (hb hby at_165) (fun _ _ => ⟨rfl, rfl, (by decide : 4 + 0 ≤ _), (by decide : 16 + 0 ≤ _)⟩)
   dsimp only [Pt.U, Pt.locs, Pt.cells, Pt.slots] at X26 l26 y26 z26 st26 hQ26
   subst l26 y26 z26
   obtain ⟨hr26, Nq26, sm26⟩ := hQ26
   have N26 := Fr.app N24 Nq26
   rcases hr26 with ⟨rfl, ok26⟩ | ⟨rfl, ok26⟩
   ·
    refine own_st st26 ?_
    refine own_st (fun tq kq => XS.ifNo X26.here hx rfl (hb hby at_168) rfl ((if0 _ _).trans (feq (by decide : ¬ ((1 : Int32) = (0 : Int32)))).1) kq) ?_
    refine s_iload X26 hx (hb hby at_171) rfl ?_
    obtain ⟨_, _, ⟨T27, L27, k27, n27⟩, -, X27, ⟨Lc27, hQ27, l27, y27, z27⟩, st27⟩ := Jvm.LawKit.callS X26 hx (y := mN34) o24 (mvT Z24 (wd43 hw)) (mvT Z24 (wd44 hw)) (mvT Z24 (wd45 hw)) (mvT Z24 (wd46 hw)) (by decide) (own_backN (W := 0) (own_okC l Z a0 hw [] (u1) T24.heap n0 (by omega) (X00.keep K24 all0) ) Z24 (wd46 hw) (wd45 hw) (by decide) (by decide)) (g := (mkF m 173 #[vI p0, vI p1, vI p2, vI p3, vI 2, vI u0, vI u1, vI u2, vR b17, .unset] [(.int u1)])) rfl (by rw [hml]; rfl) (argsL := [(.int u1)]) (rest := []) (lenOf own_pd23 rfl) rfl (Nat.le_of_eq rfl) (hb hby at_173) (fun _ _ => ⟨rfl, sm26, (by decide : 4 + 0 ≤ _), (by decide : 16 + 0 ≤ _)⟩)
    dsimp only [Pt.U, Pt.locs, Pt.cells, Pt.slots] at X27 l27 y27 z27 st27 hQ27
    subst l27 y27 z27
    obtain ⟨hr27, Nq27, sm27⟩ := hQ27
    have N27 := Fr.app N26 Nq27
    rcases hr27 with ⟨rfl, ok27⟩ | ⟨rfl, ok27⟩
    ·
     refine own_st st27 ?_
     refine own_st (fun tq kq => XS.ifNo X27.here hx rfl (hb hby at_176) rfl ((if0 _ _).trans (feq (by decide : ¬ ((1 : Int32) = (0 : Int32)))).1) kq) ?_
     refine s_iconst X27 hx (hb hby at_179) ?_
     refine own_st (fun tq kq => XS.goto X27.here hx rfl (pc0 := 180) (pc' := 184) rfl (hb hby at_180) (by decide) (by decide) kq) ?_
     refine own_st (fun tq kq => XS.istore X27.here hx rfl (hb hby at_184) rfl (l' := #[vI p0, vI p1, vI p2, vI p3, vI 2, vI u0, vI u1, vI u2, vR b17, vI 1]) rfl kq) ?_
     show own_G p e below _ (T27.setTop (mkF m 186 #[vI p0, vI p1, vI p2, vI p3, vI 2, vI u0, vI u1, vI u2, vR b17, vI 1] []))
     refine own_st (fun tq kq => XS.goto X27.here hx rfl (pc0 := 186) (pc' := 220) rfl (hb hby at_186) (by decide) (by decide) kq) ?_
     refine s_aload X27 hx (hb hby at_220) rfl rfl ?_
     obtain ⟨_, _, ⟨T28, L28, k28, n28⟩, -, X28, ⟨Lc28, hQ28, l28, y28, z28⟩, st28⟩ := Jvm.LawKit.callS X27 hx (y := mN32) o24 (mvT Z24 (wd23 hw)) (mvT Z24 (wd24 hw)) (mvT Z24 (wd25 hw)) (mvT Z24 (wd26 hw)) (by decide) (own_backN (W := 0) (own_nm2 l Z a0 hw [] (b17) (T24.heap.size) (fm) (G1) (u0) (u1) T24.heap n0 (by omega) (X00.keep K24 all0) Su24 O2 P5 OA OH OL O4 rfm) Z24 (wd26 hw) (wd25 hw) (by decide) (by decide)) (g := (mkF m 222 #[vI p0, vI p1, vI p2, vI p3, vI 2, vI u0, vI u1, vI u2, vR b17, vI 1] [(.ref b17)])) rfl (by rw [hml]; rfl) (argsL := [(.ref b17)]) (rest := []) (lenOf own_pd21 rfl) rfl (Nat.le_of_eq rfl) (hb hby at_222) (fun _ _ => ⟨rfl, sm27, (by decide : 4 + 0 ≤ _), (by decide : 16 + 0 ≤ _)⟩)
     dsimp only [Pt.U, Pt.locs, Pt.cells, Pt.slots] at X28 l28 y28 z28 st28 hQ28
     subst l28 y28 z28
     obtain ⟨hr28, Nq28, sm28⟩ := hQ28
     obtain ⟨rfl, ee28⟩ := hr28.resolve_right (fun q => q.2 ⟨List.cons_ne_nil _ _, own_all2 ok26.1 ok27.1, own_all2 ok26.2 ok27.2⟩)
     have N28 := Fr.app N27 Nq28
     refine own_st st28 ?_
     refine s_iload X28 hx (hb hby at_225) rfl ?_
     show own_G p e below _ (T28.setTop (mkF m 227 #[vI p0, vI p1, vI p2, vI p3, vI 2, vI u0, vI u1, vI u2, vR b17, vI 1] [(.int 1), (.int 1)]))
     refine own_st (fun tq kq => XS.icmpNo X28.here hx rfl (hb hby at_227) rfl (teq (by decide : ((1 : Int32) = (1 : Int32)))).2 kq) ?_
     refine s_iconst X28 hx (hb hby at_230) ?_
     refine own_st (fun tq kq => XS.goto X28.here hx rfl (pc0 := 231) (pc' := 235) rfl (hb hby at_231) (by decide) (by decide) kq) ?_
     show own_G p e below _ (T28.setTop (mkF m 235 #[vI p0, vI p1, vI p2, vI p3, vI 2, vI u0, vI u1, vI u2, vR b17, vI 1] [(.int 1)]))
     obtain ⟨fs, hr, hrun, hended, hRW⟩ := X28.leaveW S24 (by rw [sm28]; exact (own_le (by omega))) (v := some (.int 1)) (fun h => by rw [Bd.returns] at h; cases h)
     have cE := C24.trans (CHv.at (s := s) (vm0 := T24.vm) X28 Z24 hEL C24.1)
     refine ⟨_, _, retN X28 hx (t := .boolean) Bd.returns (by simp) (hb hby at_235) hr, hrun, hended, _, _, rfl, ?_, ?_, own_RW hRW (by decide) (by decide)⟩
     · change Q_rm0 Z p0 p1 p2 p3 G1 fm h0 n0 _ T28.vm T28.heap _; rw [sm28]; exact ⟨rfl, N28⟩
     · rw [hh]; change CHr Z consts_1 s.vm h0 T28.vm T28.heap; rw [sm28]; exact cE
    ·
     refine own_st st27 ?_
     refine own_st (fun tq kq => XS.ifYes X27.here hx rfl (pc0 := 176) (pc' := 183) rfl (hb hby at_176) rfl ((if0 _ _).trans (teq (by decide : ((0 : Int32) = (0 : Int32)))).1) (by decide) (by decide) kq) ?_
     refine s_iconst X27 hx (hb hby at_183) ?_
     refine own_st (fun tq kq => XS.istore X27.here hx rfl (hb hby at_184) rfl (l' := #[vI p0, vI p1, vI p2, vI p3, vI 2, vI u0, vI u1, vI u2, vR b17, vI 0]) rfl kq) ?_
     refine own_st (fun tq kq => XS.goto X27.here hx rfl (pc0 := 186) (pc' := 220) rfl (hb hby at_186) (by decide) (by decide) kq) ?_
     show own_G p e below _ (T27.setTop (mkF m 220 #[vI p0, vI p1, vI p2, vI p3, vI 2, vI u0, vI u1, vI u2, vR b17, vI 0] []))
     refine s_aload X27 hx (hb hby at_220) rfl rfl ?_
     obtain ⟨_, _, ⟨T29, L29, k29, n29⟩, -, X29, ⟨Lc29, hQ29, l29, y29, z29⟩, st29⟩ := Jvm.LawKit.callS X27 hx (y := mN32) o24 (mvT Z24 (wd23 hw)) (mvT Z24 (wd24 hw)) (mvT Z24 (wd25 hw)) (mvT Z24 (wd26 hw)) (by decide) (own_backN (W := 0) (own_nm2 l Z a0 hw [] (b17) (T24.heap.size) (fm) (G1) (u0) (u1) T24.heap n0 (by omega) (X00.keep K24 all0) Su24 O2 P5 OA OH OL O4 rfm) Z24 (wd26 hw) (wd25 hw) (by decide) (by decide)) (g := (mkF m 222 #[vI p0, vI p1, vI p2, vI p3, vI 2, vI u0, vI u1, vI u2, vR b17, vI 0] [(.ref b17)])) rfl (by rw [hml]; rfl) (argsL := [(.ref b17)]) (rest := []) (lenOf own_pd21 rfl) rfl (Nat.le_of_eq rfl) (hb hby at_222) (fun _ _ => ⟨rfl, sm27, (by decide : 4 + 0 ≤ _), (by decide : 16 + 0 ≤ _)⟩)
     dsimp only [Pt.U, Pt.locs, Pt.cells, Pt.slots] at X29 l29 y29 z29 st29 hQ29
     subst l29 y29 z29
     obtain ⟨hr29, Nq29, sm29⟩ := hQ29
     obtain ⟨rfl, ee29⟩ := hr29.resolve_left (fun q => ok27 ⟨q.2.2.1 u1 (by simp), q.2.2.2 u1 (by simp)⟩)
     have N29 := Fr.app N27 Nq29
     refine own_st st29 ?_
     refine s_iload X29 hx (hb hby at_225) rfl ?_
     show own_G p e below _ (T29.setTop (mkF m 227 #[vI p0, vI p1, vI p2, vI p3, vI 2, vI u0, vI u1, vI u2, vR b17, vI 0] [(.int 0), (.int 0)]))
     refine own_st (fun tq kq => XS.icmpNo X29.here hx rfl (hb hby at_227) rfl (teq (by decide : ((0 : Int32) = (0 : Int32)))).2 kq) ?_
     refine s_iconst X29 hx (hb hby at_230) ?_
     refine own_st (fun tq kq => XS.goto X29.here hx rfl (pc0 := 231) (pc' := 235) rfl (hb hby at_231) (by decide) (by decide) kq) ?_
     show own_G p e below _ (T29.setTop (mkF m 235 #[vI p0, vI p1, vI p2, vI p3, vI 2, vI u0, vI u1, vI u2, vR b17, vI 0] [(.int 1)]))
     obtain ⟨fs, hr, hrun, hended, hRW⟩ := X29.leaveW S24 (by rw [sm29]; exact (own_le (by omega))) (v := some (.int 1)) (fun h => by rw [Bd.returns] at h; cases h)
     have cE := C24.trans (CHv.at (s := s) (vm0 := T24.vm) X29 Z24 hEL C24.1)
     refine ⟨_, _, retN X29 hx (t := .boolean) Bd.returns (by simp) (hb hby at_235) hr, hrun, hended, _, _, rfl, ?_, ?_, own_RW hRW (by decide) (by decide)⟩
     · change Q_rm0 Z p0 p1 p2 p3 G1 fm h0 n0 _ T29.vm T29.heap _; rw [sm29]; exact ⟨rfl, N29⟩
     · rw [hh]; change CHr Z consts_1 s.vm h0 T29.vm T29.heap; rw [sm29]; exact cE
   ·
    refine own_st st26 ?_
    refine own_st (fun tq kq => XS.ifYes X26.here hx rfl (pc0 := 168) (pc' := 183) rfl (hb hby at_168) rfl ((if0 _ _).trans (teq (by decide : ((0 : Int32) = (0 : Int32)))).1) (by decide) (by decide) kq) ?_
    refine s_iconst X26 hx (hb hby at_183) ?_
    refine own_st (fun tq kq => XS.istore X26.here hx rfl (hb hby at_184) rfl (l' := #[vI p0, vI p1, vI p2, vI p3, vI 2, vI u0, vI u1, vI u2, vR b17, vI 0]) rfl kq) ?_
    refine own_st (fun tq kq => XS.goto X26.here hx rfl (pc0 := 186) (pc' := 220) rfl (hb hby at_186) (by decide) (by decide) kq) ?_
    show own_G p e below _ (T26.setTop (mkF m 220 #[vI p0, vI p1, vI p2, vI p3, vI 2, vI u0, vI u1, vI u2, vR b17, vI 0] []))
    refine s_aload X26 hx (hb hby at_220) rfl rfl ?_
    obtain ⟨_, _, ⟨T30, L30, k30, n30⟩, -, X30, ⟨Lc30, hQ30, l30, y30, z30⟩, st30⟩ := Jvm.LawKit.callS X26 hx (y := mN32) o24 (mvT Z24 (wd23 hw)) (mvT Z24 (wd24 hw)) (mvT Z24 (wd25 hw)) (mvT Z24 (wd26 hw)) (by decide) (own_backN (W := 0) (own_nm2 l Z a0 hw [] (b17) (T24.heap.size) (fm) (G1) (u0) (u1) T24.heap n0 (by omega) (X00.keep K24 all0) Su24 O2 P5 OA OH OL O4 rfm) Z24 (wd26 hw) (wd25 hw) (by decide) (by decide)) (g := (mkF m 222 #[vI p0, vI p1, vI p2, vI p3, vI 2, vI u0, vI u1, vI u2, vR b17, vI 0] [(.ref b17)])) rfl (by rw [hml]; rfl) (argsL := [(.ref b17)]) (rest := []) (lenOf own_pd21 rfl) rfl (Nat.le_of_eq rfl) (hb hby at_222) (fun _ _ => ⟨rfl, sm26, (by decide : 4 + 0 ≤ _), (by decide : 16 + 0 ≤ _)⟩)
    dsimp only [Pt.U, Pt.locs, Pt.cells, Pt.slots] at X30 l30 y30 z30 st30 hQ30
    subst l30 y30 z30
    obtain ⟨hr30, Nq30, sm30⟩ := hQ30
    obtain ⟨rfl, ee30⟩ := hr30.resolve_left (fun q => ok26 ⟨q.2.2.1 u0 (by simp), q.2.2.2 u0 (by simp)⟩)
    have N30 := Fr.app N26 Nq30
    refine own_st st30 ?_
    refine s_iload X30 hx (hb hby at_225) rfl ?_
    show own_G p e below _ (T30.setTop (mkF m 227 #[vI p0, vI p1, vI p2, vI p3, vI 2, vI u0, vI u1, vI u2, vR b17, vI 0] [(.int 0), (.int 0)]))
    refine own_st (fun tq kq => XS.icmpNo X30.here hx rfl (hb hby at_227) rfl (teq (by decide : ((0 : Int32) = (0 : Int32)))).2 kq) ?_
    refine s_iconst X30 hx (hb hby at_230) ?_
    refine own_st (fun tq kq => XS.goto X30.here hx rfl (pc0 := 231) (pc' := 235) rfl (hb hby at_231) (by decide) (by decide) kq) ?_
    show own_G p e below _ (T30.setTop (mkF m 235 #[vI p0, vI p1, vI p2, vI p3, vI 2, vI u0, vI u1, vI u2, vR b17, vI 0] [(.int 1)]))
    obtain ⟨fs, hr, hrun, hended, hRW⟩ := X30.leaveW S24 (by rw [sm30]; exact (own_le (by omega))) (v := some (.int 1)) (fun h => by rw [Bd.returns] at h; cases h)
    have cE := C24.trans (CHv.at (s := s) (vm0 := T24.vm) X30 Z24 hEL C24.1)
    refine ⟨_, _, retN X30 hx (t := .boolean) Bd.returns (by simp) (hb hby at_235) hr, hrun, hended, _, _, rfl, ?_, ?_, own_RW hRW (by decide) (by decide)⟩
    · change Q_rm0 Z p0 p1 p2 p3 G1 fm h0 n0 _ T30.vm T30.heap _; rw [sm30]; exact ⟨rfl, N30⟩
    · rw [hh]; change CHr Z consts_1 s.vm h0 T30.vm T30.heap; rw [sm30]; exact cE
  ·
   show own_G p e below _ (T.setTop (mkF m 26 #[vI p0, vI p1, vI p2, vI p3, vI 3, vI u0, vI u1, vI u2, .unset, .unset] []))
   refine s_iload X0 hx (hb hby at_26) rfl ?_
   show own_G p e below _ (T.setTop (mkF m 28 #[vI p0, vI p1, vI p2, vI p3, vI 3, vI u0, vI u1, vI u2, .unset, .unset] [(.int 3)]))
   refine own_st (fun tq kq => XS.ifYes X0.here hx rfl (pc0 := 28) (pc' := 46) rfl (hb hby at_28) rfl ((if0 _ _).trans (feq (by decide : ¬ ((3 : Int32) = (0 : Int32)))).2) (by decide) (by decide) kq) ?_
   refine s_iload X0 hx (hb hby at_46) rfl ?_
   refine s_iconst X0 hx (hb hby at_48) ?_
   show own_G p e below _ (T.setTop (mkF m 49 #[vI p0, vI p1, vI p2, vI p3, vI 3, vI u0, vI u1, vI u2, .unset, .unset] [(.int 1), (.int 3)]))
   refine own_st (fun tq kq => XS.icmpYes X0.here hx rfl (pc0 := 49) (pc' := 72) rfl (hb hby at_49) rfl (feq (by decide : ¬ ((3 : Int32) = (1 : Int32)))).2 (by decide) (by decide) kq) ?_
   refine s_iload X0 hx (hb hby at_72) rfl ?_
   refine s_iconst X0 hx (hb hby at_74) ?_
   show own_G p e below _ (T.setTop (mkF m 75 #[vI p0, vI p1, vI p2, vI p3, vI 3, vI u0, vI u1, vI u2, .unset, .unset] [(.int 2), (.int 3)]))
   refine own_st (fun tq kq => XS.icmpYes X0.here hx rfl (pc0 := 75) (pc' := 103) rfl (hb hby at_75) rfl (feq (by decide : ¬ ((3 : Int32) = (2 : Int32)))).2 (by decide) (by decide) kq) ?_
   obtain ⟨T31, h31, X31, e31, E31, A31, D31, -, st31⟩ := newO X0 hx hZ hown (wd1 hw) (wd2 hw) (wd3 hw) e0 (g := (mkF m 103 #[vI p0, vI p1, vI p2, vI p3, vI 3, vI u0, vI u1, vI u2, .unset, .unset] [])) rfl (hb hby at_103) (by decide) (by decide)
   obtain ⟨b31, g31⟩ : ∃ z, z = h0.size := ⟨_, rfl⟩
   rw [← g31] at A31 D31 st31
   have lt31 : b31 < h31.size := A31.lt
   have Sn31 : Safe Z consts_1 s.vm h0 b31 := Safe.new (own_le (by omega))
   have sz31 : h0.size ≤ h31.size := E31.1
   have K31 : Keep h0 h31 [] := K0.ext E31
   have c31 : CHr Z consts_1 s.vm h0 s.vm h31 := CHr.ext E31 C0.1
   have C31 := C0.trans c31
   have Sf31 : Safe Z consts_1 s.vm h31 b31 := Safe.ext E31 C0.1 Sn31
   have F31_value : Fld Z h31 b31 "java/lang/String" "value" "[B" .null := D31 (Or.inr (wd17 hw)) (ty := (.array .byte)) (by decide)
   have F31_coder : Fld Z h31 b31 "java/lang/String" "coder" "B" (.int 0) := D31 (Or.inr (wd18 hw)) (ty := .byte) (by decide)
   refine own_st st31 ?_
   refine own_st (fun tq kq => XS.dup X31.here hx rfl (hb hby at_106) rfl rfl kq) ?_
   refine s_iconst X31 hx (hb hby at_107) ?_
   obtain ⟨T32, h32, k32, X32, e32, E32, A32, st32⟩ := newP X31 hx hZ (hw _ (List.mem_of_getElem? (i := 4) rfl)) e31 (g := (mkF m 108 #[vI p0, vI p1, vI p2, vI p3, vI 3, vI u0, vI u1, vI u2, .unset, .unset] [(.int 3), (.ref b31), (.ref b31)])) rfl (hb hby at_108) rfl (by decide) (cap := 3) (by decide) (by decide) (by decide) (by decide)
   obtain ⟨b32, g32⟩ : ∃ z, z = h31.size := ⟨_, rfl⟩
   rw [← g32] at A32 st32
   have lt32 : b32 < h32.size := A32.lt
   have V32 : Arv Z h32 b32 k32 .char (3 : Int32) [(.int (0 : Int32)), (.int (0 : Int32)), (.int (0 : Int32))] (.int (0 : Int32)) := (Arv.new A32 (by decide)).pad (pad_rep [] (.int (0 : Int32)) 3)
   have sz32 : h31.size ≤ h32.size := E32.1
   have K32 : Keep h0 h32 [] := K31.ext E32
   have c32 : CHr Z consts_1 s.vm h31 s.vm h32 := CHr.ext E32 C31.1
   have C32 := C31.trans c32
   have Sf32_33 := c32.safe (own_lt (by omega)) Sf31
   refine own_st st32 ?_
   refine own_st (fun tq kq => XS.dup X32.here hx rfl (hb hby at_110) rfl rfl kq) ?_
   refine s_iconst X32 hx (hb hby at_111) ?_
   refine s_iload X32 hx (hb hby at_112) rfl ?_
   obtain ⟨cl34, Ar34, q34, S_34, N_34, H_34, G_34⟩ := id V32
   have in34 : ¬ ((0 : Int32) < 0 ∨ cl34.slots.size ≤ ((0 : Int32)).toNatClampNeg) := inb_of S_34 ⟨by decide, by decide⟩
   obtain ⟨T34, h34, X34, e34, W34, st34⟩ := stC X32 hx hZ e32 Ar34 (j := (0 : Int32)) in34 (g := (mkF m 114 #[vI p0, vI p1, vI p2, vI p3, vI 3, vI u0, vI u1, vI u2, .unset, .unset] [(.int u0), (.int 0), (.ref b32), (.ref b32), (.ref b31), (.ref b31)])) rfl rfl (hb hby at_114)
   have V34 := Arv.set Ar34 q34 S_34 N_34 H_34 G_34 (fits_nar_char _) W34 0 rfl (Nat.le_of_ble_eq_true rfl)
   have sz34 : h32.size ≤ h34.size := (Keep.of_wr W34).1
   have K34 : Keep h0 h34 [] := K32.wr W34 (Or.inr (own_le (by omega)))
   have c34 : CHr Z consts_1 s.vm h32 s.vm h34 := CHr.wr W34 (Safe.arr hZ.alike Ar34 (by decide)) C32.1
   have C34 := C32.trans c34
   have Sf34_35 := c34.safe (own_lt (by omega)) Sf32_33
   have N34 := Fr.snoc X34 N0 (own_le (by omega))
   refine own_st st34 ?_
   refine own_st (fun tq kq => XS.dup X34.here hx rfl (hb hby at_115) rfl rfl kq) ?_
   refine s_iconst X34 hx (hb hby at_116) ?_
   refine s_iload X34 hx (hb hby at_117) rfl ?_
   obtain ⟨cl36, Ar36, q36, S_36, N_36, H_36, G_36⟩ := id V34
   have in36 : ¬ ((1 : Int32) < 0 ∨ cl36.slots.size ≤ ((1 : Int32)).toNatClampNeg) := inb_of S_36 ⟨by decide, by decide⟩
   obtain ⟨T36, h36, X36, e36, W36, st36⟩ := stC X34 hx hZ e34 Ar36 (j := (1 : Int32)) in36 (g := (mkF m 119 #[vI p0, vI p1, vI p2, vI p3, vI 3, vI u0, vI u1, vI u2, .unset, .unset] [(.int u1), (.int 1), (.ref b32), (.ref b32), (.ref b31), (.ref b31)])) rfl rfl (hb hby at_119)
   have V36 := Arv.set Ar36 q36 S_36 N_36 H_36 G_36 (fits_nar_char _) W36 1 rfl (Nat.le_of_ble_eq_true rfl)
   have sz36 : h34.size ≤ h36.size := (Keep.of_wr W36).1
   have K36 : Keep h0 h36 [] := K34.wr W36 (Or.inr (own_le (by omega)))
   have c36 : CHr Z consts_1 s.vm h34 s.vm h36 := CHr.wr W36 (Safe.arr hZ.alike Ar36 (by decide)) C34.1
   have C36 := C34.trans c36
   have Sf36_37 := c36.safe (own_lt (by omega)) Sf34_35
   have N36 := Fr.snoc X36 N34 (own_le (by omega))
   refine own_st st36 ?_
   refine own_st (fun tq kq => XS.dup X36.here hx rfl (hb hby at_120) rfl rfl kq) ?_
   refine s_iconst X36 hx (hb hby at_121) ?_
   refine s_iload X36 hx (hb hby at_122) rfl ?_
   obtain ⟨cl38, Ar38, q38, S_38, N_38, H_38, G_38⟩ := id V36
   have in38 : ¬ ((2 : Int32) < 0 ∨ cl38.slots.size ≤ ((2 : Int32)).toNatClampNeg) := inb_of S_38 ⟨by decide, by decide⟩
   obtain ⟨T38, h38, X38, e38, W38, st38⟩ := stC X36 hx hZ e36 Ar38 (j := (2 : Int32)) in38 (g := (mkF m 124 #[vI p0, vI p1, vI p2, vI p3, vI 3, vI u0, vI u1, vI u2, .unset, .unset] [(.int u2), (.int 2), (.ref b32), (.ref b32), (.ref b31), (.ref b31)])) rfl rfl (hb hby at_124)
   have V38 := Arv.set Ar38 q38 S_38 N_38 H_38 G_38 (fits_nar_char _) W38 2 rfl (Nat.le_of_ble_eq_true rfl)
   have sz38 : h36.size ≤ h38.size := (Keep.of_wr W38).1
   have K38 : Keep h0 h38 [] := K36.wr W38 (Or.inr (own_le (by omega)))
   have c38 : CHr Z consts_1 s.vm h36 s.vm h38 := CHr.wr W38 (Safe.arr hZ.alike Ar38 (by decide)) C36.1
   have C38 := C36.trans c38
   have Sf38_39 := c38.safe (own_lt (by omega)) Sf36_37
   have N38 := Fr.snoc X38 N36 (own_le (by omega))
   refine own_st st38 ?_
   have Vx40 : Arv Z h38 b32 k32 .char (3 : Int32) [.int (nar .char u0), .int (nar .char u1), .int (nar .char u2)] (.int (0 : Int32)) := V38
   rw [nu0, nu1, nu2] at Vx40
   have hp40 : ∀ c ∈ ([u0, u1, u2] : List Int32), ¬ c < 0 ∧ ¬ (65535 : Int32) < c := by
     intro c hc
     simp only [List.mem_cons, List.not_mem_nil, or_false] at hc
     rcases hc with rfl | rfl | rfl
     · exact hu0
     · exact hu1
     · exact hu2
   obtain ⟨_, _, ⟨T40, L40, k40, n40⟩, -, Y40, S40p, gr40, ⟨Lc40, hQ40, l40, y40, z40, c40⟩, st40⟩ := X38.specialBackS hx (y := mN1) rfl hown (mvT hZ (wd5 hw)) (mvT hZ (wd6 hw)) (mvT hZ (wd7 hw)) (by decide) (own_newU3 (s := s) (vm0 := s.vm) (W := 1) hZ hw hEL C38.1 (n0 := n0) Sf38_39 (own_le (by omega)) (X00.keep K38 all0) ((((A31.ext E32).wr W34).wr W36).wr W38) ((((F31_value.ext E32).other W34 (Or.inl (own_ne (by omega)))).other W36 (Or.inl (own_ne (by omega)))).other W38 (Or.inl (own_ne (by omega)))) ((((F31_coder.ext E32).other W34 (Or.inl (own_ne (by omega)))).other W36 (Or.inl (own_ne (by omega)))).other W38 (Or.inl (own_ne (by omega)))) Vx40 O2 P5 OA OH OL hp40 (by decide) (by decide)) (g := (mkF m 125 #[vI p0, vI p1, vI p2, vI p3, vI 3, vI u0, vI u1, vI u2, .unset, .unset] [(.ref b32), (.ref b31), (.ref b31)])) rfl (by rw [hml]; rfl) (Steps.refl _) (a := b31) (argsL := [(.ref b32)]) (rest := [(.ref b31)]) (lenOf own_pd22 rfl) rfl (Nat.le_of_eq rfl) (hb hby at_125) (fun _ _ => ⟨rfl, e38, (by decide : 2 + 2 ≤ _), (by decide : 7 + 13 ≤ _)⟩)
   dsimp only [Pt.U, Pt.locs, Pt.cells, Pt.slots] at Y40 S40p gr40 l40 y40 z40 st40 hQ40 c40
   subst l40 y40 z40
   obtain ⟨X40, S40, Z40, o40⟩ := rebS S0 (by rw [e38]; exact (own_le (by omega))) Y40 S40p gr40 hZ hown
   obtain ⟨rfl, Nq40, Kq40, Su40⟩ := hQ40
   have KK40 : Keep h38 T40.heap [b31] := Kq40
   have sz40 : h38.size ≤ T40.heap.size := KK40.1
   have K40 : Keep h0 T40.heap [] := K38.trans KK40 (allS (Or.inr (own_le (by omega))) all0)
   have C40 := C38.trans c40
   have Sf40_41 := c40.safe (own_lt (by omega)) Sf38_39
   have N40 := Fr.app N38 Nq40
   refine own_st (fun tq kq => st40.trans kq) ?_
   refine own_st (fun tq kq => XS.astore X40.here hx rfl (hb hby at_128) rfl rfl (l' := #[vI p0, vI p1, vI p2, vI p3, vI 3, vI u0, vI u1, vI u2, vR b31, .unset]) rfl kq) ?_
   refine s_iload X40 hx (hb hby at_130) rfl ?_
   show own_G p e below _ (T40.setTop (mkF m 132 #[vI p0, vI p1, vI p2, vI p3, vI 3, vI u0, vI u1, vI u2, vR b31, .unset] [(.int 3)]))
   refine own_st (fun tq kq => XS.ifYes X40.here hx rfl (pc0 := 132) (pc' := 141) rfl (hb hby at_132) rfl ((if0 _ _).trans (feq (by decide : ¬ ((3 : Int32) = (0 : Int32)))).2) (by decide) (by decide) kq) ?_
   refine s_iload X40 hx (hb hby at_141) rfl ?_
   refine s_iconst X40 hx (hb hby at_143) ?_
   show own_G p e below _ (T40.setTop (mkF m 144 #[vI p0, vI p1, vI p2, vI p3, vI 3, vI u0, vI u1, vI u2, vR b31, .unset] [(.int 1), (.int 3)]))
   refine own_st (fun tq kq => XS.icmpYes X40.here hx rfl (pc0 := 144) (pc' := 157) rfl (hb hby at_144) rfl (feq (by decide : ¬ ((3 : Int32) = (1 : Int32)))).2 (by decide) (by decide) kq) ?_
   refine s_iload X40 hx (hb hby at_157) rfl ?_
   refine s_iconst X40 hx (hb hby at_159) ?_
   show own_G p e below _ (T40.setTop (mkF m 160 #[vI p0, vI p1, vI p2, vI p3, vI 3, vI u0, vI u1, vI u2, vR b31, .unset] [(.int 2), (.int 3)]))
   refine own_st (fun tq kq => XS.icmpYes X40.here hx rfl (pc0 := 160) (pc' := 189) rfl (hb hby at_160) rfl (feq (by decide : ¬ ((3 : Int32) = (2 : Int32)))).2 (by decide) (by decide) kq) ?_
   refine s_iload X40 hx (hb hby at_189) rfl ?_
   obtain ⟨_, _, ⟨T42, L42, k42, n42⟩, -, X42, ⟨Lc42, hQ42, l42, y42, z42⟩, st42⟩ := Jvm.LawKit.callS X40 hx (y := mN34) o40 (mvT Z40 (wd43 hw)) (mvT Z40 (wd44 hw)) (mvT Z40 (wd45 hw)) (mvT Z40 (wd46 hw)) (by decide) (own_backN (W := 0) (own_okC l Z a0 hw [] (u0) T40.heap n0 (by omega) (X00.keep K40 all0) ) Z40 (wd46 hw) (wd45 hw) (by decide) (by decide)) (g := (mkF m 191 #[vI p0, vI p1, vI p2, vI p3, vI 3, vI u0, vI u1, vI u2, vR b31, .unset] [(.int u0)])) rfl (by rw [hml]; rfl) (argsL := [(.int u0)]) (rest := []) (lenOf own_pd23 rfl) rfl (Nat.le_of_eq rfl) (hb hby at_191) (fun _ _ => ⟨rfl, rfl, (by decide : 4 + 0 ≤ _), (by decide : 20 + 0 ≤ _)⟩)
   dsimp only [Pt.U, Pt.locs, Pt.cells, Pt.slots] at X42 l42 y42 z42 st42 hQ42
   subst l42 y42 z42
   obtain ⟨hr42, Nq42, sm42⟩ := hQ42
   have N42 := Fr.app N40 Nq42
   rcases hr42 with ⟨rfl, ok42⟩ | ⟨rfl, ok42⟩
   ·
    refine own_st st42 ?_
    refine own_st (fun tq kq => XS.ifNo X42.here hx rfl (hb hby at_194) rfl ((if0 _ _).trans (feq (by decide : ¬ ((1 : Int32) = (0 : Int32)))).1) kq) ?_
    refine s_iload X42 hx (hb hby at_197) rfl ?_
    obtain ⟨_, _, ⟨T43, L43, k43, n43⟩, -, X43, ⟨Lc43, hQ43, l43, y43, z43⟩, st43⟩ := Jvm.LawKit.callS X42 hx (y := mN34) o40 (mvT Z40 (wd43 hw)) (mvT Z40 (wd44 hw)) (mvT Z40 (wd45 hw)) (mvT Z40 (wd46 hw)) (by decide) (own_backN (W := 0) (own_okC l Z a0 hw [] (u1) T40.heap n0 (by omega) (X00.keep K40 all0) ) Z40 (wd46 hw) (wd45 hw) (by decide) (by decide)) (g := (mkF m 199 #[vI p0, vI p1, vI p2, vI p3, vI 3, vI u0, vI u1, vI u2, vR b31, .unset] [(.int u1)])) rfl (by rw [hml]; rfl) (argsL := [(.int u1)]) (rest := []) (lenOf own_pd23 rfl) rfl (Nat.le_of_eq rfl) (hb hby at_199) (fun _ _ => ⟨rfl, sm42, (by decide : 4 + 0 ≤ _), (by decide : 20 + 0 ≤ _)⟩)
    dsimp only [Pt.U, Pt.locs, Pt.cells, Pt.slots] at X43 l43 y43 z43 st43 hQ43
    subst l43 y43 z43
    obtain ⟨hr43, Nq43, sm43⟩ := hQ43
    have N43 := Fr.app N42 Nq43
    rcases hr43 with ⟨rfl, ok43⟩ | ⟨rfl, ok43⟩
    ·
     refine own_st st43 ?_
     refine own_st (fun tq kq => XS.ifNo X43.here hx rfl (hb hby at_202) rfl ((if0 _ _).trans (feq (by decide : ¬ ((1 : Int32) = (0 : Int32)))).1) kq) ?_
     refine s_iload X43 hx (hb hby at_205) rfl ?_
     obtain ⟨_, _, ⟨T44, L44, k44, n44⟩, -, X44, ⟨Lc44, hQ44, l44, y44, z44⟩, st44⟩ := Jvm.LawKit.callS X43 hx (y := mN34) o40 (mvT Z40 (wd43 hw)) (mvT Z40 (wd44 hw)) (mvT Z40 (wd45 hw)) (mvT Z40 (wd46 hw)) (by decide) (own_backN (W := 0) (own_okC l Z a0 hw [] (u2) T40.heap n0 (by omega) (X00.keep K40 all0) ) Z40 (wd46 hw) (wd45 hw) (by decide) (by decide)) (g := (mkF m 207 #[vI p0, vI p1, vI p2, vI p3, vI 3, vI u0, vI u1, vI u2, vR b31, .unset] [(.int u2)])) rfl (by rw [hml]; rfl) (argsL := [(.int u2)]) (rest := []) (lenOf own_pd23 rfl) rfl (Nat.le_of_eq rfl) (hb hby at_207) (fun _ _ => ⟨rfl, sm43, (by decide : 4 + 0 ≤ _), (by decide : 20 + 0 ≤ _)⟩)
     dsimp only [Pt.U, Pt.locs, Pt.cells, Pt.slots] at X44 l44 y44 z44 st44 hQ44
     subst l44 y44 z44
     obtain ⟨hr44, Nq44, sm44⟩ := hQ44
     have N44 := Fr.app N43 Nq44
     rcases hr44 with ⟨rfl, ok44⟩ | ⟨rfl, ok44⟩
     ·
      refine own_st st44 ?_
      refine own_st (fun tq kq => XS.ifNo X44.here hx rfl (hb hby at_210) rfl ((if0 _ _).trans (feq (by decide : ¬ ((1 : Int32) = (0 : Int32)))).1) kq) ?_
      refine s_iconst X44 hx (hb hby at_213) ?_
      refine own_st (fun tq kq => XS.goto X44.here hx rfl (pc0 := 214) (pc' := 218) rfl (hb hby at_214) (by decide) (by decide) kq) ?_
      refine own_st (fun tq kq => XS.istore X44.here hx rfl (hb hby at_218) rfl (l' := #[vI p0, vI p1, vI p2, vI p3, vI 3, vI u0, vI u1, vI u2, vR b31, vI 1]) rfl kq) ?_
      show own_G p e below _ (T44.setTop (mkF m 220 #[vI p0, vI p1, vI p2, vI p3, vI 3, vI u0, vI u1, vI u2, vR b31, vI 1] []))
      refine s_aload X44 hx (hb hby at_220) rfl rfl ?_
      obtain ⟨_, _, ⟨T45, L45, k45, n45⟩, -, X45, ⟨Lc45, hQ45, l45, y45, z45⟩, st45⟩ := Jvm.LawKit.callS X44 hx (y := mN32) o40 (mvT Z40 (wd23 hw)) (mvT Z40 (wd24 hw)) (mvT Z40 (wd25 hw)) (mvT Z40 (wd26 hw)) (by decide) (own_backN (W := 0) (own_nm3 l Z a0 hw [] (b31) (T40.heap.size) (fm) (G1) (u0) (u1) (u2) T40.heap n0 (by omega) (X00.keep K40 all0) Su40 O2 P5 OA OH OL O4 rfm) Z40 (wd26 hw) (wd25 hw) (by decide) (by decide)) (g := (mkF m 222 #[vI p0, vI p1, vI p2, vI p3, vI 3, vI u0, vI u1, vI u2, vR b31, vI 1] [(.ref b31)])) rfl (by rw [hml]; rfl) (argsL := [(.ref b31)]) (rest := []) (lenOf own_pd21 rfl) rfl (Nat.le_of_eq rfl) (hb hby at_222) (fun _ _ => ⟨rfl, sm44, (by decide : 4 + 0 ≤ _), (by decide : 20 + 0 ≤ _)⟩)
      dsimp only [Pt.U, Pt.locs, Pt.cells, Pt.slots] at X45 l45 y45 z45 st45 hQ45
      subst l45 y45 z45
      obtain ⟨hr45, Nq45, sm45⟩ := hQ45
      obtain ⟨rfl, ee45⟩ := hr45.resolve_right (fun q => q.2 ⟨List.cons_ne_nil _ _, own_all3 ok42.1 ok43.1 ok44.1, own_all3 ok42.2 ok43.2 ok44.2⟩)
      have N45 := Fr.app N44 Nq45
      refine own_st st45 ?_
      refine s_iload X45 hx (hb hby at_225) rfl ?_
      show own_G p e below _ (T45.setTop (mkF m 227 #[vI p0, vI p1, vI p2, vI p3, vI 3, vI u0, vI u1, vI u2, vR b31, vI 1] [(.int 1), (.int 1)]))
      refine own_st (fun tq kq => XS.icmpNo X45.here hx rfl (hb hby at_227) rfl (teq (by decide : ((1 : Int32) = (1 : Int32)))).2 kq) ?_
      refine s_iconst X45 hx (hb hby at_230) ?_
      refine own_st (fun tq kq => XS.goto X45.here hx rfl (pc0 := 231) (pc' := 235) rfl (hb hby at_231) (by decide) (by decide) kq) ?_
      show own_G p e below _ (T45.setTop (mkF m 235 #[vI p0, vI p1, vI p2, vI p3, vI 3, vI u0, vI u1, vI u2, vR b31, vI 1] [(.int 1)]))
      obtain ⟨fs, hr, hrun, hended, hRW⟩ := X45.leaveW S40 (by rw [sm45]; exact (own_le (by omega))) (v := some (.int 1)) (fun h => by rw [Bd.returns] at h; cases h)
      have cE := C40.trans (CHv.at (s := s) (vm0 := T40.vm) X45 Z40 hEL C40.1)
      refine ⟨_, _, retN X45 hx (t := .boolean) Bd.returns (by simp) (hb hby at_235) hr, hrun, hended, _, _, rfl, ?_, ?_, own_RW hRW (by decide) (by decide)⟩
      · change Q_rm0 Z p0 p1 p2 p3 G1 fm h0 n0 _ T45.vm T45.heap _; rw [sm45]; exact ⟨rfl, N45⟩
      · rw [hh]; change CHr Z consts_1 s.vm h0 T45.vm T45.heap; rw [sm45]; exact cE
     ·
      refine own_st st44 ?_
      refine own_st (fun tq kq => XS.ifYes X44.here hx rfl (pc0 := 210) (pc' := 217) rfl (hb hby at_210) rfl ((if0 _ _).trans (teq (by decide : ((0 : Int32) = (0 : Int32)))).1) (by decide) (by decide) kq) ?_
      refine s_iconst X44 hx (hb hby at_217) ?_
      refine own_st (fun tq kq => XS.istore X44.here hx rfl (hb hby at_218) rfl (l' := #[vI p0, vI p1, vI p2, vI p3, vI 3, vI u0, vI u1, vI u2, vR b31, vI 0]) rfl kq) ?_
      refine s_aload X44 hx (hb hby at_220) rfl rfl ?_
      show own_G p e below _ (T44.setTop (mkF m 222 #[vI p0, vI p1, vI p2, vI p3, vI 3, vI u0, vI u1, vI u2, vR b31, vI 0] [(.ref b31)]))
      obtain ⟨_, _, ⟨T46, L46, k46, n46⟩, -, X46, ⟨Lc46, hQ46, l46, y46, z46⟩, st46⟩ := Jvm.LawKit.callS X44 hx (y := mN32) o40 (mvT Z40 (wd23 hw)) (mvT Z40 (wd24 hw)) (mvT Z40 (wd25 hw)) (mvT Z40 (wd26 hw)) (by decide) (own_backN (W := 0) (own_nm3 l Z a0 hw [] (b31) (T40.heap.size) (fm) (G1) (u0) (u1) (u2) T40.heap n0 (by omega) (X00.keep K40 all0) Su40 O2 P5 OA OH OL O4 rfm) Z40 (wd26 hw) (wd25 hw) (by decide) (by decide)) (g := (mkF m 222 #[vI p0, vI p1, vI p2, vI p3, vI 3, vI u0, vI u1, vI u2, vR b31, vI 0] [(.ref b31)])) rfl (by rw [hml]; rfl) (argsL := [(.ref b31)]) (rest := []) (lenOf own_pd21 rfl) rfl (Nat.le_of_eq rfl) (hb hby at_222) (fun _ _ => ⟨rfl, sm44, (by decide : 4 + 0 ≤ _), (by decide : 20 + 0 ≤ _)⟩)
      dsimp only [Pt.U, Pt.locs, Pt.cells, Pt.slots] at X46 l46 y46 z46 st46 hQ46
      subst l46 y46 z46
      obtain ⟨hr46, Nq46, sm46⟩ := hQ46
      obtain ⟨rfl, ee46⟩ := hr46.resolve_left (fun q => ok44 ⟨q.2.2.1 u2 (by simp), q.2.2.2 u2 (by simp)⟩)
      have N46 := Fr.app N44 Nq46
      refine own_st st46 ?_
      refine s_iload X46 hx (hb hby at_225) rfl ?_
      show own_G p e below _ (T46.setTop (mkF m 227 #[vI p0, vI p1, vI p2, vI p3, vI 3, vI u0, vI u1, vI u2, vR b31, vI 0] [(.int 0), (.int 0)]))
      refine own_st (fun tq kq => XS.icmpNo X46.here hx rfl (hb hby at_227) rfl (teq (by decide : ((0 : Int32) = (0 : Int32)))).2 kq) ?_
      refine s_iconst X46 hx (hb hby at_230) ?_
      refine own_st (fun tq kq => XS.goto X46.here hx rfl (pc0 := 231) (pc' := 235) rfl (hb hby at_231) (by decide) (by decide) kq) ?_
      show own_G p e below _ (T46.setTop (mkF m 235 #[vI p0, vI p1, vI p2, vI p3, vI 3, vI u0, vI u1, vI u2, vR b31, vI 0] [(.int 1)]))
      obtain ⟨fs, hr, hrun, hended, hRW⟩ := X46.leaveW S40 (by rw [sm46]; exact (own_le (by omega))) (v := some (.int 1)) (fun h => by rw [Bd.returns] at h; cases h)
      have cE := C40.trans (CHv.at (s := s) (vm0 := T40.vm) X46 Z40 hEL C40.1)
      refine ⟨_, _, retN X46 hx (t := .boolean) Bd.returns (by simp) (hb hby at_235) hr, hrun, hended, _, _, rfl, ?_, ?_, own_RW hRW (by decide) (by decide)⟩
      · change Q_rm0 Z p0 p1 p2 p3 G1 fm h0 n0 _ T46.vm T46.heap _; rw [sm46]; exact ⟨rfl, N46⟩
      · rw [hh]; change CHr Z consts_1 s.vm h0 T46.vm T46.heap; rw [sm46]; exact cE
    ·
     refine own_st st43 ?_
     refine own_st (fun tq kq => XS.ifYes X43.here hx rfl (pc0 := 202) (pc' := 217) rfl (hb hby at_202) rfl ((if0 _ _).trans (teq (by decide : ((0 : Int32) = (0 : Int32)))).1) (by decide) (by decide) kq) ?_
     refine s_iconst X43 hx (hb hby at_217) ?_
     refine own_st (fun tq kq => XS.istore X43.here hx rfl (hb hby at_218) rfl (l' := #[vI p0, vI p1, vI p2, vI p3, vI 3, vI u0, vI u1, vI u2, vR b31, vI 0]) rfl kq) ?_
     refine s_aload X43 hx (hb hby at_220) rfl rfl ?_
     show own_G p e below _ (T43.setTop (mkF m 222 #[vI p0, vI p1, vI p2, vI p3, vI 3, vI u0, vI u1, vI u2, vR b31, vI 0] [(.ref b31)]))
     obtain ⟨_, _, ⟨T47, L47, k47, n47⟩, -, X47, ⟨Lc47, hQ47, l47, y47, z47⟩, st47⟩ := Jvm.LawKit.callS X43 hx (y := mN32) o40 (mvT Z40 (wd23 hw)) (mvT Z40 (wd24 hw)) (mvT Z40 (wd25 hw)) (mvT Z40 (wd26 hw)) (by decide) (own_backN (W := 0) (own_nm3 l Z a0 hw [] (b31) (T40.heap.size) (fm) (G1) (u0) (u1) (u2) T40.heap n0 (by omega) (X00.keep K40 all0) Su40 O2 P5 OA OH OL O4 rfm) Z40 (wd26 hw) (wd25 hw) (by decide) (by decide)) (g := (mkF m 222 #[vI p0, vI p1, vI p2, vI p3, vI 3, vI u0, vI u1, vI u2, vR b31, vI 0] [(.ref b31)])) rfl (by rw [hml]; rfl) (argsL := [(.ref b31)]) (rest := []) (lenOf own_pd21 rfl) rfl (Nat.le_of_eq rfl) (hb hby at_222) (fun _ _ => ⟨rfl, sm43, (by decide : 4 + 0 ≤ _), (by decide : 20 + 0 ≤ _)⟩)
     dsimp only [Pt.U, Pt.locs, Pt.cells, Pt.slots] at X47 l47 y47 z47 st47 hQ47
     subst l47 y47 z47
     obtain ⟨hr47, Nq47, sm47⟩ := hQ47
     obtain ⟨rfl, ee47⟩ := hr47.resolve_left (fun q => ok43 ⟨q.2.2.1 u1 (by simp), q.2.2.2 u1 (by simp)⟩)
     have N47 := Fr.app N43 Nq47
     refine own_st st47 ?_
     refine s_iload X47 hx (hb hby at_225) rfl ?_
     show own_G p e below _ (T47.setTop (mkF m 227 #[vI p0, vI p1, vI p2, vI p3, vI 3, vI u0, vI u1, vI u2, vR b31, vI 0] [(.int 0), (.int 0)]))
     refine own_st (fun tq kq => XS.icmpNo X47.here hx rfl (hb hby at_227) rfl (teq (by decide : ((0 : Int32) = (0 : Int32)))).2 kq) ?_
     refine s_iconst X47 hx (hb hby at_230) ?_
     refine own_st (fun tq kq => XS.goto X47.here hx rfl (pc0 := 231) (pc' := 235) rfl (hb hby at_231) (by decide) (by decide) kq) ?_
     show own_G p e below _ (T47.setTop (mkF m 235 #[vI p0, vI p1, vI p2, vI p3, vI 3, vI u0, vI u1, vI u2, vR b31, vI 0] [(.int 1)]))
     obtain ⟨fs, hr, hrun, hended, hRW⟩ := X47.leaveW S40 (by rw [sm47]; exact (own_le (by omega))) (v := some (.int 1)) (fun h => by rw [Bd.returns] at h; cases h)
     have cE := C40.trans (CHv.at (s := s) (vm0 := T40.vm) X47 Z40 hEL C40.1)
     refine ⟨_, _, retN X47 hx (t := .boolean) Bd.returns (by simp) (hb hby at_235) hr, hrun, hended, _, _, rfl, ?_, ?_, own_RW hRW (by decide) (by decide)⟩
     · change Q_rm0 Z p0 p1 p2 p3 G1 fm h0 n0 _ T47.vm T47.heap _; rw [sm47]; exact ⟨rfl, N47⟩
     · rw [hh]; change CHr Z consts_1 s.vm h0 T47.vm T47.heap; rw [sm47]; exact cE
   ·
    refine own_st st42 ?_
    refine own_st (fun tq kq => XS.ifYes X42.here hx rfl (pc0 := 194) (pc' := 217) rfl (hb hby at_194) rfl ((if0 _ _).trans (teq (by decide : ((0 : Int32) = (0 : Int32)))).1) (by decide) (by decide) kq) ?_
    refine s_iconst X42 hx (hb hby at_217) ?_
    refine own_st (fun tq kq => XS.istore X42.here hx rfl (hb hby at_218) rfl (l' := #[vI p0, vI p1, vI p2, vI p3, vI 3, vI u0, vI u1, vI u2, vR b31, vI 0]) rfl kq) ?_
    refine s_aload X42 hx (hb hby at_220) rfl rfl ?_
    show own_G p e below _ (T42.setTop (mkF m 222 #[vI p0, vI p1, vI p2, vI p3, vI 3, vI u0, vI u1, vI u2, vR b31, vI 0] [(.ref b31)]))
    obtain ⟨_, _, ⟨T48, L48, k48, n48⟩, -, X48, ⟨Lc48, hQ48, l48, y48, z48⟩, st48⟩ := Jvm.LawKit.callS X42 hx (y := mN32) o40 (mvT Z40 (wd23 hw)) (mvT Z40 (wd24 hw)) (mvT Z40 (wd25 hw)) (mvT Z40 (wd26 hw)) (by decide) (own_backN (W := 0) (own_nm3 l Z a0 hw [] (b31) (T40.heap.size) (fm) (G1) (u0) (u1) (u2) T40.heap n0 (by omega) (X00.keep K40 all0) Su40 O2 P5 OA OH OL O4 rfm) Z40 (wd26 hw) (wd25 hw) (by decide) (by decide)) (g := (mkF m 222 #[vI p0, vI p1, vI p2, vI p3, vI 3, vI u0, vI u1, vI u2, vR b31, vI 0] [(.ref b31)])) rfl (by rw [hml]; rfl) (argsL := [(.ref b31)]) (rest := []) (lenOf own_pd21 rfl) rfl (Nat.le_of_eq rfl) (hb hby at_222) (fun _ _ => ⟨rfl, sm42, (by decide : 4 + 0 ≤ _), (by decide : 20 + 0 ≤ _)⟩)
    dsimp only [Pt.U, Pt.locs, Pt.cells, Pt.slots] at X48 l48 y48 z48 st48 hQ48
    subst l48 y48 z48
    obtain ⟨hr48, Nq48, sm48⟩ := hQ48
    obtain ⟨rfl, ee48⟩ := hr48.resolve_left (fun q => ok42 ⟨q.2.2.1 u0 (by simp), q.2.2.2 u0 (by simp)⟩)
    have N48 := Fr.app N42 Nq48
    refine own_st st48 ?_
    refine s_iload X48 hx (hb hby at_225) rfl ?_
    show own_G p e below _ (T48.setTop (mkF m 227 #[vI p0, vI p1, vI p2, vI p3, vI 3, vI u0, vI u1, vI u2, vR b31, vI 0] [(.int 0), (.int 0)]))
    refine own_st (fun tq kq => XS.icmpNo X48.here hx rfl (hb hby at_227) rfl (teq (by decide : ((0 : Int32) = (0 : Int32)))).2 kq) ?_
    refine s_iconst X48 hx (hb hby at_230) ?_
    refine own_st (fun tq kq => XS.goto X48.here hx rfl (pc0 := 231) (pc' := 235) rfl (hb hby at_231) (by decide) (by decide) kq) ?_
    show own_G p e below _ (T48.setTop (mkF m 235 #[vI p0, vI p1, vI p2, vI p3, vI 3, vI u0, vI u1, vI u2, vR b31, vI 0] [(.int 1)]))
    obtain ⟨fs, hr, hrun, hended, hRW⟩ := X48.leaveW S40 (by rw [sm48]; exact (own_le (by omega))) (v := some (.int 1)) (fun h => by rw [Bd.returns] at h; cases h)
    have cE := C40.trans (CHv.at (s := s) (vm0 := T40.vm) X48 Z40 hEL C40.1)
    refine ⟨_, _, retN X48 hx (t := .boolean) Bd.returns (by simp) (hb hby at_235) hr, hrun, hended, _, _, rfl, ?_, ?_, own_RW hRW (by decide) (by decide)⟩
    · change Q_rm0 Z p0 p1 p2 p3 G1 fm h0 n0 _ T48.vm T48.heap _; rw [sm48]; exact ⟨rfl, N48⟩
    · rw [hh]; change CHr Z consts_1 s.vm h0 T48.vm T48.heap; rw [sm48]; exact cE
 refine own_st (fun tq kq => castTop (ef_rm0 m (p0) (p1) (p2) (p3)) kq) ?_
 show own_G p e below _ (s₁.setTop (mkF m 0 #[vI p0, vI p1, vI p2, vI p3, .unset, .unset, .unset, .unset, .unset, .unset] []))
 refine s_iloadN X0 hx (hb hby at_0) rfl ?_
 refine s_iconst X0 hx (hb hby at_1) ?_
 refine own_st (fun tq kq => XS.iand X0.here hx rfl (hb hby at_2) rfl kq) ?_
 refine own_st (fun tq kq => XS.istore X0.here hx rfl (hb hby at_3) rfl (l' := #[vI p0, vI p1, vI p2, vI p3, vI (p0 &&& (3 : Int32)), .unset, .unset, .unset, .unset, .unset]) rfl kq) ?_
 show own_G p e below _ (s₁.setTop (mkF m 5 #[vI p0, vI p1, vI p2, vI p3, vI (p0 &&& (3 : Int32)), .unset, .unset, .unset, .unset, .unset] []))
 refine s_iloadN X0 hx (hb hby at_5) rfl ?_
 refine own_st (fun tq kq => X0.ldcInt hx hown (mvT hZ (wd0 hw)) (g := (mkF m 6 #[vI p0, vI p1, vI p2, vI p3, vI (p0 &&& (3 : Int32)), .unset, .unset, .unset, .unset, .unset] [(.int p1)])) rfl (hb hby at_6) _ kq) ?_
 refine own_st (fun tq kq => XS.iand X0.here hx rfl (hb hby at_8) rfl kq) ?_
 refine own_st (fun tq kq => XS.i2c X0.here hx rfl (hb hby at_9) rfl kq) ?_
 show own_G p e below _ (s₁.setTop (mkF m 10 #[vI p0, vI p1, vI p2, vI p3, vI (p0 &&& (3 : Int32)), .unset, .unset, .unset, .unset, .unset] [(.int ((p1 &&& (65535 : Int32)).toUInt32.toUInt16.toUInt32.toInt32))]))
 refine own_st (fun tq kq => XS.istore X0.here hx rfl (hb hby at_10) rfl (l' := #[vI p0, vI p1, vI p2, vI p3, vI (p0 &&& (3 : Int32)), vI ((p1 &&& (65535 : Int32)).toUInt32.toUInt16.toUInt32.toInt32), .unset, .unset, .unset, .unset]) rfl kq) ?_
 refine s_iloadN X0 hx (hb hby at_12) rfl ?_
 refine own_st (fun tq kq => X0.ldcInt hx hown (mvT hZ (wd0 hw)) (g := (mkF m 13 #[vI p0, vI p1, vI p2, vI p3, vI (p0 &&& (3 : Int32)), vI ((p1 &&& (65535 : Int32)).toUInt32.toUInt16.toUInt32.toInt32), .unset, .unset, .unset, .unset] [(.int p2)])) rfl (hb hby at_13) _ kq) ?_
 refine own_st (fun tq kq => XS.iand X0.here hx rfl (hb hby at_15) rfl kq) ?_
 show own_G p e below _ (s₁.setTop (mkF m 16 #[vI p0, vI p1, vI p2, vI p3, vI (p0 &&& (3 : Int32)), vI ((p1 &&& (65535 : Int32)).toUInt32.toUInt16.toUInt32.toInt32), .unset, .unset, .unset, .unset] [(.int (p2 &&& (65535 : Int32)))]))
 refine own_st (fun tq kq => XS.i2c X0.here hx rfl (hb hby at_16) rfl kq) ?_
 refine own_st (fun tq kq => XS.istore X0.here hx rfl (hb hby at_17) rfl (l' := #[vI p0, vI p1, vI p2, vI p3, vI (p0 &&& (3 : Int32)), vI ((p1 &&& (65535 : Int32)).toUInt32.toUInt16.toUInt32.toInt32), vI ((p2 &&& (65535 : Int32)).toUInt32.toUInt16.toUInt32.toInt32), .unset, .unset, .unset]) rfl kq) ?_
 refine s_iloadN X0 hx (hb hby at_19) rfl ?_
 refine own_st (fun tq kq => X0.ldcInt hx hown (mvT hZ (wd0 hw)) (g := (mkF m 20 #[vI p0, vI p1, vI p2, vI p3, vI (p0 &&& (3 : Int32)), vI ((p1 &&& (65535 : Int32)).toUInt32.toUInt16.toUInt32.toInt32), vI ((p2 &&& (65535 : Int32)).toUInt32.toUInt16.toUInt32.toInt32), .unset, .unset, .unset] [(.int p3)])) rfl (hb hby at_20) _ kq) ?_
 show own_G p e below _ (s₁.setTop (mkF m 22 #[vI p0, vI p1, vI p2, vI p3, vI (p0 &&& (3 : Int32)), vI ((p1 &&& (65535 : Int32)).toUInt32.toUInt16.toUInt32.toInt32), vI ((p2 &&& (65535 : Int32)).toUInt32.toUInt16.toUInt32.toInt32), .unset, .unset, .unset] [(.int 65535), (.int p3)]))
 refine own_st (fun tq kq => XS.iand X0.here hx rfl (hb hby at_22) rfl kq) ?_
 refine own_st (fun tq kq => XS.i2c X0.here hx rfl (hb hby at_23) rfl kq) ?_
 refine own_st (fun tq kq => XS.istore X0.here hx rfl (hb hby at_24) rfl (l' := #[vI p0, vI p1, vI p2, vI p3, vI (p0 &&& (3 : Int32)), vI ((p1 &&& (65535 : Int32)).toUInt32.toUInt16.toUInt32.toInt32), vI ((p2 &&& (65535 : Int32)).toUInt32.toUInt16.toUInt32.toInt32), vI ((p3 &&& (65535 : Int32)).toUInt32.toUInt16.toUInt32.toInt32), .unset, .unset]) rfl kq) ?_
 show own_G p e below _ (s₁.setTop (mkF m 26 #[vI p0, vI p1, vI p2, vI p3, vI (p0 &&& (3 : Int32)), vI ((p1 &&& (65535 : Int32)).toUInt32.toUInt16.toUInt32.toInt32), vI ((p2 &&& (65535 : Int32)).toUInt32.toUInt16.toUInt32.toInt32), vI ((p3 &&& (65535 : Int32)).toUInt32.toUInt16.toUInt32.toInt32), .unset, .unset] []))
 exact tail s₁ (p0 &&& (3 : Int32)) ((p1 &&& (65535 : Int32)).toUInt32.toUInt16.toUInt32.toInt32) ((p2 &&& (65535 : Int32)).toUInt32.toUInt16.toUInt32.toInt32) ((p3 &&& (65535 : Int32)).toUInt32.toUInt16.toUInt32.toInt32) X0 e0 (own_and3 _) (own_i2cb _) (own_i2cb _) (own_i2cb _) (own_i2cn _) (own_i2cn _) (own_i2cn _)

set_option maxRecDepth 65536 in
set_option maxHeartbeats 40000000 in
theorem comes_1 {Post : Tables → Env → Array Value → State → Outcome → State → Prop} (hpost : ∀ tb e args s v u, (limb_1_1.after args s (.returned v) u = true ∧ limb_1_2.after args s (.returned v) u = true ∧ True) → ReturnedEndW s (.returned v) u (Jvm.fieldLocs frame_1_writes args s ++ Jvm.arrayLocs frame_1_arrays args s ++ Jvm.staticLocs frame_1_statics s) 24 1152 → Post tb e args s (.returned v) u) :
    ArmFor flags0 classFile x code maxLocals ret World_1 tables_1 room_1 Calls_1 rest_1 Pre_1 Post := by
  intro l hfl _ _ p e ha hc hk s m args below hf hA hF happ hP
  obtain ⟨hcalls, hrest, hpre⟩ := hP
  obtain ⟨-, -, -, hnamed, -, -, -, hat⟩ := (Spec.applies_iff hf).mp happ
  obtain ⟨hg, hn⟩ := and_e (Cond.before_iff.mp (show (Jvm.Cond.and given_1 narrow_1).before args s = true from hpre))
  obtain ⟨ga0, gb0⟩ := and_e hg
  obtain ⟨ga1, gb1⟩ := and_e gb0
  obtain ⟨ga2, gb2⟩ := and_e gb1
  obtain ⟨ga3, gb3⟩ := and_e gb2
  obtain ⟨w0, w1, w2, w3, rfl⟩ : ∃ w0 w1 w2 w3 : Value, args = #[w0, w1, w2, w3] := by
    have hs : args.size = 4 := by simpa [Cond.value, given_1] using ga0
    obtain ⟨L⟩ := args
    match L, hs with
    | [w0, w1, w2, w3], _ => exact ⟨w0, w1, w2, w3, rfl⟩
  have hw := fun d (hd : d ∈ tables_1) => atoms_spec (ws := Jvm.Cond.code x code maxLocals ret :: tables_1) hat d (List.mem_cons_of_mem _ hd)
  have hfit : Fit s := fun {y c} hc i hi => by
    obtain ⟨ha, rfl⟩ := Array.getElem?_eq_some_iff.mp hc
    have q := List.all_eq_true.mp ((Array.all_eq_true_iff_forall_mem.mp hF) _ (Array.getElem_mem ha)) i (List.mem_range.mpr hi)
    simpa [Array.getElem?_eq_getElem hi] using q
  obtain ⟨hsets, hown0⟩ := atoms_of _ (rest_1_c_eq ▸ (show rest_1_c.before _ s = true from hrest))
  have hr0 := Cond.before_iff.mp hown0
  obtain ⟨i0, ei0⟩ := is_v ga1
  obtain rfl : w0 = (.int i0) := Option.some.inj ei0
  obtain ⟨i1, ei1⟩ := is_v ga2
  obtain rfl : w1 = (.int i1) := Option.some.inj ei1
  obtain ⟨i2, ei2⟩ := is_v ga3
  obtain rfl : w2 = (.int i2) := Option.some.inj ei2
  obtain ⟨i3, ei3⟩ := is_v gb3
  obtain rfl : w3 = (.int i3) := Option.some.inj ei3
  have n5 := not_v (Cond.before_iff.mp (hsets _ (List.mem_of_getElem? (i := 2) rfl)))
  obtain ⟨iG, eG⟩ := is_v (Cond.before_iff.mp (hsets _ (List.mem_of_getElem? (i := 1) rfl)))
  have SG : Sta s s.heap "java/lang/String" "COMPACT_STRINGS" "Z" (.int iG) := Sta.start eG (Or.inl (hsets _ (List.mem_of_getElem? (i := 0) rfl)))
  have cG : ¬ (iG = (0 : Int32)) := gotF (Cond.eq_ints eG (Term.int_eval (0))) n5
  have OA : Sta s s.heap "java/lang/StringUTF16" "$assertionsDisabled" "Z" (.int (1 : Int32)) := Sta.start (Cond.eq_int (hsets _ (List.mem_of_getElem? (i := 12) rfl)) rfl) (Or.inl (hsets _ (List.mem_of_getElem? (i := 11) rfl)))
  have OH : Sta s s.heap "java/lang/StringUTF16" "HI_BYTE_SHIFT" "I" (.int (0 : Int32)) := Sta.start (Cond.eq_int (hsets _ (List.mem_of_getElem? (i := 15) rfl)) rfl) (Or.inl (hsets _ (List.mem_of_getElem? (i := 14) rfl)))
  have OL : Sta s s.heap "java/lang/StringUTF16" "LO_BYTE_SHIFT" "I" (.int (8 : Int32)) := Sta.start (Cond.eq_int (hsets _ (List.mem_of_getElem? (i := 18) rfl)) rfl) (Or.inl (hsets _ (List.mem_of_getElem? (i := 17) rfl)))
  obtain ⟨fm, efm, rfm⟩ := isR_v (Cond.before_iff.mp (hsets _ (List.mem_of_getElem? (i := 8) rfl)))
  have O4 : Sta s s.heap "jdk/internal/util/Preconditions" "SIOOBE_FORMATTER" "Ljava/util/function/BiFunction;" fm := Sta.start efm (Or.inl (hsets _ (List.mem_of_getElem? (i := 7) rfl)))
  have hEL : EW s _ consts_1 := (EW.cons (wd15 hw) (by decide) EW.nil)
  have hheld : ∀ p ∈ consts_1, Jvm.Lit.constHeld s p.1 p.2 := hcalls.1
  have hcw : Jvm.Lit.compactW.before _ s = true := hsets _ (List.mem_of_getElem? (i := 2) rfl)
  have hCH : CHv s consts_1 s.vm s.heap := CHv.start hEL hheld hcw (wd16 hw) (wd2 hw)
  obtain ⟨n, o, h1, h2, h3, _, L, rfl, ⟨rfl, N⟩, -, hq⟩ := rm0 l s _ hw hEL tables_1 i0 i1 i2 i3 iG fm s.heap s.heap.size (Nat.le_refl _) (Old.start s) SG cG OA OH OL O4 rfm p e ha hc hk s m _ below hf ((Spec.applies_iff_loose hf).mp happ).1 ⟨rfl, State.Warmed39.refl s, rfl, hCH, all0⟩ trivial
  refine ⟨n, _, h1, h2, h3, hpost _ _ _ _ _ _ ⟨Cond.after_iff.mpr rfl, Cond.after_iff.mpr (eq_i res_at (Term.int_eval (1)) rfl), trivial⟩ ⟨hq.1, hq.2.1, hq.2.2.1, (hq.2.2.2.sift fun y hy => Or.inr (N y hy)).mono (by decide) (by decide)⟩⟩
theorem main_1_1 : Claimed_1_1 := comes_1 fun _ _ _ _ _ _ h hF => ⟨h.1, hF⟩
theorem main_1_2 : Claimed_1_2 := comes_1 fun _ _ _ _ _ _ h hF => ⟨h.2.1, hF⟩
end Jvm.Pilot.@@N@@
namespace Jvm.Pilot.@@N@@
open Jvm Jvm.ClassFile Sem Op Lib Jvm.Free Jvm.Stand Jvm.Pilot.@@N@@.Jvm.D
/-! MADE BY PROGRAM (witnessworld.py) out of the Statement's table words and the real class files: 23 classes; the members and pool entries that the words name. The judged class is class 1, her method 2. -/
namespace start1
open Jvm.ClassFile
def u (s : String) : CpInfo := .utf8 (stringToUtf16 s)
/-- a pool by its gaps: so many unusable entries, then the entry; so many at the end -/
def gap : Nat → List CpInfo → List CpInfo
  | 0, r => r
  | n + 1, r => .unusable :: gap n r
def poolList (es : List (Nat × CpInfo)) (last : Nat) : List CpInfo := es.foldr (fun e r => gap e.1 (e.2 :: r)) (gap last [])
def pool (es : List (Nat × CpInfo)) (last : Nat) : Array CpInfo := ⟨poolList es last⟩
def fileOf (pool : Array CpInfo) (this : Nat) (attrs : Array Attribute := #[]) (ms : Array MethodInfo := #[]) (fl : Nat := 33) (sup : Nat := 0) (ifs : Array Nat := #[]) (fds : Array FieldInfo := #[]) : ClassFile where
  minorVersion := 0
  majorVersion := 65
  constantPool := pool
  accessFlags := fl
  thisClass := this
  superClass := sup
  interfaces := ifs
  fields := fds
  methods := ms
  attributes := attrs
def plain (name : String) (sup : Option ClassId) : Class where
  name := name
  kind := .ordinary
  loader := none
  accessFlags := 33
  super := sup
  interfaces := #[]
  cf := none
  fields := #[]
  methods := #[]
  instanceTypes := #[]
  staticTypes := #[]
  resolved := #[]
  callSites := []
  init := .initialized
  statics := none
  mirror := none

def pool0 : Array CpInfo := pool [(5, u "<init>"), (0, u "()V"), (1, .class_ 10), (1, u "java/lang/Object")] 113

def k0c0 : Code := { maxStack := 0, maxLocals := 1, code := object_method_1_code, exceptionTable := #[], attributes := #[] }
def k0m0 : Method := { name := "<init>", desc := "()V", sig := { parameters := [], returnType := none }, accessFlags := 1, code := some k0c0 }
/-- java/lang/Object -/
def k0 : Class := { plain "java/lang/Object" none with
  accessFlags := 33
  interfaces := #[]
  cf := some (fileOf pool0 8 #[] #[{ accessFlags := 1, nameIndex := 5, descriptorIndex := 6, attributes := #[] }] 33 0 #[] #[])
  fields := #[]
  methods := #[k0m0]
  instanceTypes := #[]
  staticTypes := #[]
  resolved := Array.replicate 124 none
  statics := none }

def pool1 : Array CpInfo := pool [(2, .class_ 4), (1, u "java/lang/Object"), (0, u "<init>"), (0, u "()V"), (0, .integer 65535), (0, .class_ 9), (0, u "java/lang/String"), (0, .methodref 8 11), (0, .nameAndType 5 12), (0, u "([C)V"), (0, .methodref 14 15), (0, .class_ 16), (0, .nameAndType 17 18), (0, u "com/example/ward/ward/UserIsNamePinLaw"), (0, u "ok"), (0, u "(C)Z"), (0, .methodref 20 21), (0, .class_ 22), (0, .nameAndType 23 24), (0, u "com/example/ward/ward/User"), (0, u "isName"), (0, u "(Ljava/lang/String;)Z"), (3, u "law"), (0, u "(IIII)Z")] 2

def k1m0 : Method := { name := "<init>", desc := "()V", sig := { parameters := [], returnType := none }, accessFlags := 2, code := none }
def k1c1 : Code := { maxStack := 2, maxLocals := 1, code := method_2_code, exceptionTable := #[], attributes := #[] }
def k1m1 : Method := { name := "ok", desc := "(C)Z", sig := { parameters := [.char], returnType := some .boolean }, accessFlags := 10, code := some k1c1 }
def k1c2 : Code := { maxStack := 6, maxLocals := 10, code := code, exceptionTable := #[], attributes := #[] }
def k1m2 : Method := { name := "law", desc := "(IIII)Z", sig := { parameters := [.int, .int, .int, .int], returnType := some .boolean }, accessFlags := 9, code := some k1c2 }
/-- com/example/ward/ward/UserIsNamePinLaw -/
def k1 : Class := { plain "com/example/ward/ward/UserIsNamePinLaw" (some 0) with
  accessFlags := 49
  interfaces := #[]
  cf := some (fileOf pool1 14 #[] #[{ accessFlags := 2, nameIndex := 5, descriptorIndex := 6, attributes := #[] }, { accessFlags := 10, nameIndex := 17, descriptorIndex := 18, attributes := #[] }, { accessFlags := 9, nameIndex := 28, descriptorIndex := 29, attributes := #[] }] 49 2 #[] #[])
  fields := #[]
  methods := #[k1m0, k1m1, k1m2]
  instanceTypes := #[]
  staticTypes := #[]
  resolved := Array.replicate 32 none
  statics := none }

def pool2 : Array CpInfo := pool [(1, .class_ 2), (0, u "java/io/Serializable"), (0, .class_ 4), (0, u "java/lang/Object")] 2

/-- java/io/Serializable -/
def k2 : Class := { plain "java/io/Serializable" (some 0) with
  accessFlags := 1537
  interfaces := #[]
  cf := some (fileOf pool2 1 #[] #[] 1537 3 #[] #[])
  fields := #[]
  methods := #[]
  instanceTypes := #[]
  staticTypes := #[]
  resolved := Array.replicate 7 none
  statics := none }

def pool3 : Array CpInfo := pool [(1, .class_ 2), (0, u "java/lang/Comparable"), (0, .class_ 4), (0, u "java/lang/Object")] 7

/-- java/lang/Comparable -/
def k3 : Class := { plain "java/lang/Comparable" (some 0) with
  accessFlags := 1537
  interfaces := #[]
  cf := some (fileOf pool3 1 #[] #[] 1537 3 #[] #[])
  fields := #[]
  methods := #[]
  instanceTypes := #[]
  staticTypes := #[]
  resolved := Array.replicate 12 none
  statics := none }

def pool4 : Array CpInfo := pool [(2, .class_ 4), (1, u "java/lang/CharSequence"), (42, .class_ 48), (0, u "java/lang/CharSequence$1CodePointIterator"), (10, .class_ 60), (0, u "java/lang/CharSequence$1CharIterator"), (5, .class_ 67), (0, u "java/lang/Object")] 63

/-- java/lang/CharSequence -/
def k4 : Class := { plain "java/lang/CharSequence" (some 0) with
  accessFlags := 1537
  interfaces := #[]
  cf := some (fileOf pool4 2 #[.nestMembers #[47, 59]] #[] 1537 66 #[] #[])
  fields := #[]
  methods := #[]
  instanceTypes := #[]
  staticTypes := #[]
  resolved := Array.replicate 131 none
  statics := none }

def pool5 : Array CpInfo := pool [(1, .class_ 2), (0, u "java/lang/constant/Constable"), (0, .class_ 4), (0, u "java/lang/Object")] 6

/-- java/lang/constant/Constable -/
def k5 : Class := { plain "java/lang/constant/Constable" (some 0) with
  accessFlags := 1537
  interfaces := #[]
  cf := some (fileOf pool5 1 #[] #[] 1537 3 #[] #[])
  fields := #[]
  methods := #[]
  instanceTypes := #[]
  staticTypes := #[]
  resolved := Array.replicate 11 none
  statics := none }

def pool6 : Array CpInfo := pool [(1, .class_ 2), (0, u "java/lang/constant/ConstantDesc"), (0, .class_ 4), (0, u "java/lang/Object")] 32

/-- java/lang/constant/ConstantDesc -/
def k6 : Class := { plain "java/lang/constant/ConstantDesc" (some 0) with
  accessFlags := 1537
  interfaces := #[]
  cf := some (fileOf pool6 1 #[] #[] 1537 3 #[] #[])
  fields := #[]
  methods := #[]
  instanceTypes := #[]
  staticTypes := #[]
  resolved := Array.replicate 37 none
  statics := none }

def pool7 : Array CpInfo := pool [(1, .methodref 2 3), (0, .class_ 4), (0, .nameAndType 5 6), (0, u "java/lang/Object"), (0, u "<init>"), (0, u "()V"), (0, .string 8), (0, u ""), (0, .fieldref 10 11), (0, .class_ 12), (0, .nameAndType 13 14), (0, u "java/lang/String"), (0, u "value"), (0, u "[B"), (0, .fieldref 10 16), (0, .nameAndType 17 18), (0, u "coder"), (0, u "B"), (2, u "hash"), (0, u "I"), (2, u "hashIsZero"), (0, u "Z"), (0, .methodref 10 28), (0, .nameAndType 5 29), (0, u "([CIILjava/lang/Void;)V"), (8, .fieldref 10 39), (0, .nameAndType 40 26), (0, u "COMPACT_STRINGS"), (1, .class_ 44), (1, u "java/lang/StringUTF16"), (0, u "compress"), (1, .methodref 42 48), (0, .nameAndType 49 50), (0, u "coderFromArrayLen"), (0, u "([BI)B"), (56, .class_ 109), (1, u "java/lang/StringLatin1"), (32, u "()Z"), (34, .methodref 42 178), (0, .nameAndType 45 179), (0, u "([CII)[B"), (154, u "()I"), (0, .methodref 10 336), (0, .nameAndType 17 337), (0, u "()B"), (25, u "([BI)C"), (27, u "(II)V"), (35, u "(I)C"), (64, .methodref 10 493), (0, .nameAndType 494 142), (0, u "isLatin1"), (0, .methodref 107 496), (0, .nameAndType 497 363), (0, u "charAt"), (0, .methodref 42 496), (2, u "checkIndex"), (3, .methodref 10 506), (0, .nameAndType 507 334), (0, u "length"), (5, u "checkFromToIndex"), (9, u "checkBoundsBeginEnd"), (0, u "(III)V"), (50, .class_ 576), (0, u "java/lang/CharSequence"), (22, u "CASE_INSENSITIVE_ORDER"), (0, u "Ljava/util/Comparator;"), (32, .methodref 10 634), (0, .nameAndType 635 636), (0, u "indexOf"), (0, u "(II)I"), (0, .methodref 107 638), (0, .nameAndType 635 639), (0, u "([BIII)I"), (0, .methodref 42 638), (51, u "isEmpty"), (72, u "(I)I"), (244, u "([C)V"), (42, .fieldref 1054 1055), (0, .class_ 1056), (0, .nameAndType 1057 1058), (0, u "jdk/internal/util/Preconditions"), (0, u "SIOOBE_FORMATTER"), (0, u "Ljava/util/function/BiFunction;"), (0, .methodref 1054 1060), (0, .nameAndType 501 1061), (0, u "(IILjava/util/function/BiFunction;)I"), (0, .methodref 1054 1063), (0, .nameAndType 513 1064), (0, u "(IIILjava/util/function/BiFunction;)I"), (36, u "serialPersistentFields"), (0, u "[Ljava/io/ObjectStreamField;"), (0, .class_ 1104), (0, u "java/lang/String$CaseInsensitiveComparator"), (1, .class_ 1107), (0, u "java/io/Serializable"), (0, .class_ 1109), (0, u "java/lang/Comparable"), (0, .class_ 1111), (0, u "java/lang/constant/Constable"), (0, .class_ 1113), (0, u "java/lang/constant/ConstantDesc"), (2, u "serialVersionUID"), (0, u "J"), (3, u "REPL"), (0, u "C"), (2, u "LATIN1"), (1, u "UTF16")] 323

def k7m0 : Method := { name := "<init>", desc := "()V", sig := { parameters := [], returnType := none }, accessFlags := 1, code := none }
def k7c1 : Code := { maxStack := 5, maxLocals := 2, code := jdk_42_method_3_code, exceptionTable := #[], attributes := #[] }
def k7m1 : Method := { name := "<init>", desc := "([C)V", sig := { parameters := [(.array .char)], returnType := none }, accessFlags := 1, code := some k7c1 }
def k7c2 : Code := { maxStack := 2, maxLocals := 1, code := jdk_42_method_54_code, exceptionTable := #[], attributes := #[] }
def k7m2 : Method := { name := "length", desc := "()I", sig := { parameters := [], returnType := some .int }, accessFlags := 1, code := some k7c2 }
def k7c3 : Code := { maxStack := 1, maxLocals := 1, code := jdk_42_method_55_code, exceptionTable := #[], attributes := #[] }
def k7m3 : Method := { name := "isEmpty", desc := "()Z", sig := { parameters := [], returnType := some .boolean }, accessFlags := 1, code := some k7c3 }
def k7c4 : Code := { maxStack := 2, maxLocals := 2, code := jdk_42_method_56_code, exceptionTable := #[], attributes := #[] }
def k7m4 : Method := { name := "charAt", desc := "(I)C", sig := { parameters := [.int], returnType := some .char }, accessFlags := 1, code := some k7c4 }
def k7c5 : Code := { maxStack := 3, maxLocals := 2, code := jdk_42_method_79_code, exceptionTable := #[], attributes := #[] }
def k7m5 : Method := { name := "indexOf", desc := "(I)I", sig := { parameters := [.int], returnType := some .int }, accessFlags := 1, code := some k7c5 }
def k7c6 : Code := { maxStack := 4, maxLocals := 3, code := jdk_42_method_80_code, exceptionTable := #[], attributes := #[] }
def k7m6 : Method := { name := "indexOf", desc := "(II)I", sig := { parameters := [.int, .int], returnType := some .int }, accessFlags := 1, code := some k7c6 }
def k7c7 : Code := { maxStack := 4, maxLocals := 6, code := jdk_42_method_149_code, exceptionTable := #[], attributes := #[] }
def k7m7 : Method := { name := "<init>", desc := "([CIILjava/lang/Void;)V", sig := { parameters := [(.array .char), .int, .int, (.object "java/lang/Void")], returnType := none }, accessFlags := 2, code := some k7c7 }
def k7c8 : Code := { maxStack := 1, maxLocals := 1, code := jdk_42_method_152_code, exceptionTable := #[], attributes := #[] }
def k7m8 : Method := { name := "coder", desc := "()B", sig := { parameters := [], returnType := some .byte }, accessFlags := 0, code := some k7c8 }
def k7c9 : Code := { maxStack := 1, maxLocals := 1, code := jdk_42_method_154_code, exceptionTable := #[], attributes := #[] }
def k7m9 : Method := { name := "isLatin1", desc := "()Z", sig := { parameters := [], returnType := some .boolean }, accessFlags := 0, code := some k7c9 }
def k7c10 : Code := { maxStack := 3, maxLocals := 2, code := jdk_42_method_155_code, exceptionTable := #[], attributes := #[] }
def k7m10 : Method := { name := "checkIndex", desc := "(II)V", sig := { parameters := [.int, .int], returnType := none }, accessFlags := 8, code := some k7c10 }
def k7c11 : Code := { maxStack := 4, maxLocals := 3, code := jdk_42_method_158_code, exceptionTable := #[], attributes := #[] }
def k7m11 : Method := { name := "checkBoundsBeginEnd", desc := "(III)V", sig := { parameters := [.int, .int, .int], returnType := none }, accessFlags := 8, code := some k7c11 }
/-- java/lang/String -/
def k7 : Class := { plain "java/lang/String" (some 0) with
  accessFlags := 49
  interfaces := #[2, 3, 4, 5, 6]
  cf := some (fileOf pool7 10 #[.nestMembers #[1103]] #[{ accessFlags := 1, nameIndex := 5, descriptorIndex := 6, attributes := #[] }, { accessFlags := 1, nameIndex := 5, descriptorIndex := 1010, attributes := #[] }, { accessFlags := 1, nameIndex := 507, descriptorIndex := 334, attributes := #[] }, { accessFlags := 1, nameIndex := 692, descriptorIndex := 142, attributes := #[] }, { accessFlags := 1, nameIndex := 497, descriptorIndex := 427, attributes := #[] }, { accessFlags := 1, nameIndex := 635, descriptorIndex := 765, attributes := #[] }, { accessFlags := 1, nameIndex := 635, descriptorIndex := 636, attributes := #[] }, { accessFlags := 2, nameIndex := 5, descriptorIndex := 29, attributes := #[] }, { accessFlags := 0, nameIndex := 17, descriptorIndex := 337, attributes := #[] }, { accessFlags := 0, nameIndex := 494, descriptorIndex := 142, attributes := #[] }, { accessFlags := 8, nameIndex := 501, descriptorIndex := 391, attributes := #[] }, { accessFlags := 8, nameIndex := 523, descriptorIndex := 524, attributes := #[] }] 49 2 #[1106, 1108, 575, 1110, 1112] #[{ accessFlags := 18, nameIndex := 13, descriptorIndex := 14, attributes := #[] }, { accessFlags := 18, nameIndex := 17, descriptorIndex := 18, attributes := #[] }, { accessFlags := 2, nameIndex := 21, descriptorIndex := 22, attributes := #[] }, { accessFlags := 2, nameIndex := 25, descriptorIndex := 26, attributes := #[] }, { accessFlags := 26, nameIndex := 1116, descriptorIndex := 1117, attributes := #[] }, { accessFlags := 24, nameIndex := 40, descriptorIndex := 26, attributes := #[] }, { accessFlags := 26, nameIndex := 1101, descriptorIndex := 1102, attributes := #[] }, { accessFlags := 26, nameIndex := 1121, descriptorIndex := 1122, attributes := #[] }, { accessFlags := 25, nameIndex := 599, descriptorIndex := 600, attributes := #[] }, { accessFlags := 24, nameIndex := 1125, descriptorIndex := 18, attributes := #[] }, { accessFlags := 24, nameIndex := 1127, descriptorIndex := 18, attributes := #[] }])
  fields := #[{ name := "value", type := (.array .byte), accessFlags := 18, slot := 0, constantValue := 0 }, { name := "coder", type := .byte, accessFlags := 18, slot := 1, constantValue := 0 }, { name := "hash", type := .int, accessFlags := 2, slot := 2, constantValue := 0 }, { name := "hashIsZero", type := .boolean, accessFlags := 2, slot := 3, constantValue := 0 }, { name := "serialVersionUID", type := .long, accessFlags := 26, slot := 0, constantValue := 0 }, { name := "COMPACT_STRINGS", type := .boolean, accessFlags := 24, slot := 1, constantValue := 0 }, { name := "serialPersistentFields", type := (.array (.object "java/io/ObjectStreamField")), accessFlags := 26, slot := 2, constantValue := 0 }, { name := "REPL", type := .char, accessFlags := 26, slot := 3, constantValue := 0 }, { name := "CASE_INSENSITIVE_ORDER", type := (.object "java/util/Comparator"), accessFlags := 25, slot := 4, constantValue := 0 }, { name := "LATIN1", type := .byte, accessFlags := 24, slot := 5, constantValue := 0 }, { name := "UTF16", type := .byte, accessFlags := 24, slot := 6, constantValue := 0 }]
  methods := #[k7m0, k7m1, k7m2, k7m3, k7m4, k7m5, k7m6, k7m7, k7m8, k7m9, k7m10, k7m11]
  instanceTypes := #[(.array .byte), .byte, .int, .boolean]
  staticTypes := #[.long, .boolean, (.array (.object "java/io/ObjectStreamField")), .char, (.object "java/util/Comparator"), .byte, .byte]
  resolved := Array.replicate 1451 none
  statics := some 0 }

def pool8 : Array CpInfo := pool [(2, .class_ 4), (1, u "java/lang/Object"), (0, u "<init>"), (0, u "()V"), (0, .class_ 8), (0, u "java/lang/Record")] 13

def k8m0 : Method := { name := "<init>", desc := "()V", sig := { parameters := [], returnType := none }, accessFlags := 4, code := none }
/-- java/lang/Record -/
def k8 : Class := { plain "java/lang/Record" (some 0) with
  accessFlags := 1057
  interfaces := #[]
  cf := some (fileOf pool8 7 #[] #[{ accessFlags := 4, nameIndex := 5, descriptorIndex := 6, attributes := #[] }] 1057 2 #[] #[])
  fields := #[]
  methods := #[k8m0]
  instanceTypes := #[]
  staticTypes := #[]
  resolved := Array.replicate 22 none
  statics := none }

def pool9 : Array CpInfo := pool [(2, .class_ 4), (1, u "java/lang/Record"), (9, .class_ 16), (1, u "com/example/ward/ward/User"), (0, u "name"), (0, u "Ljava/lang/String;"), (2, u "roles"), (0, u "Ljava/util/Set;"), (2, u "passwordStamp"), (0, .methodref 27 28), (0, .class_ 29), (0, .nameAndType 30 31), (0, u "java/lang/String"), (0, u "isEmpty"), (0, u "()Z"), (0, .methodref 27 33), (0, .nameAndType 34 35), (0, u "indexOf"), (0, u "(I)I"), (0, .methodref 37 38), (0, .class_ 39), (0, .nameAndType 40 41), (0, u "com/example/ward/ward/BasicCredentials"), (0, u "holdsControl"), (0, u "(Ljava/lang/String;)Z"), (31, u "NO_ROLE"), (1, u "ANY_SIGNED_IN"), (5, u "isName")] 30

def k9c0 : Code := { maxStack := 2, maxLocals := 1, code := prog_18_method_2_code, exceptionTable := #[], attributes := #[] }
def k9m0 : Method := { name := "isName", desc := "(Ljava/lang/String;)Z", sig := { parameters := [(.object "java/lang/String")], returnType := some .boolean }, accessFlags := 8, code := some k9c0 }
/-- com/example/ward/ward/User -/
def k9 : Class := { plain "com/example/ward/ward/User" (some 8) with
  accessFlags := 48
  interfaces := #[]
  cf := some (fileOf pool9 14 #[] #[{ accessFlags := 8, nameIndex := 81, descriptorIndex := 41, attributes := #[] }] 48 2 #[] #[{ accessFlags := 18, nameIndex := 17, descriptorIndex := 18, attributes := #[] }, { accessFlags := 18, nameIndex := 21, descriptorIndex := 22, attributes := #[] }, { accessFlags := 18, nameIndex := 25, descriptorIndex := 18, attributes := #[] }, { accessFlags := 26, nameIndex := 73, descriptorIndex := 18, attributes := #[] }, { accessFlags := 26, nameIndex := 75, descriptorIndex := 18, attributes := #[] }])
  fields := #[{ name := "name", type := (.object "java/lang/String"), accessFlags := 18, slot := 0, constantValue := 0 }, { name := "roles", type := (.object "java/util/Set"), accessFlags := 18, slot := 1, constantValue := 0 }, { name := "passwordStamp", type := (.object "java/lang/String"), accessFlags := 18, slot := 2, constantValue := 0 }, { name := "NO_ROLE", type := (.object "java/lang/String"), accessFlags := 26, slot := 0, constantValue := 0 }, { name := "ANY_SIGNED_IN", type := (.object "java/lang/String"), accessFlags := 26, slot := 1, constantValue := 0 }]
  methods := #[k9m0]
  instanceTypes := #[(.object "java/lang/String"), (.object "java/util/Set"), (.object "java/lang/String")]
  staticTypes := #[(.object "java/lang/String"), (.object "java/lang/String")]
  resolved := Array.replicate 112 none
  statics := none }

def pool10 : Array CpInfo := pool [(3, .class_ 4), (0, u "java/lang/String"), (1, .class_ 8), (1, u "java/lang/Object"), (0, u "<init>"), (0, u "()V"), (0, .methodref 12 13), (0, .class_ 14), (0, .nameAndType 15 16), (0, u "java/lang/StringUTF16"), (0, u "newBytesLength"), (0, u "(I)I"), (3, .integer 1073741823), (23, .fieldref 12 45), (0, .nameAndType 46 47), (0, u "$assertionsDisabled"), (0, u "Z"), (0, .methodref 12 49), (0, .nameAndType 50 51), (0, u "length"), (0, u "([B)I"), (7, .fieldref 12 60), (0, .nameAndType 61 62), (0, u "HI_BYTE_SHIFT"), (0, u "I"), (0, .fieldref 12 64), (0, .nameAndType 65 62), (0, u "LO_BYTE_SHIFT"), (1, .methodref 12 68), (0, .nameAndType 69 70), (0, u "checkIndex"), (0, u "(I[B)V"), (0, .methodref 12 72), (0, .nameAndType 73 74), (0, u "getChar"), (0, u "([BI)C"), (21, .methodref 12 97), (0, .nameAndType 98 99), (0, u "checkBoundsBeginEnd"), (0, u "(II[B)V"), (7, .methodref 12 108), (0, .nameAndType 109 110), (0, u "newBytesFor"), (0, u "(I)[B"), (0, .methodref 12 112), (0, .nameAndType 113 114), (0, u "putChar"), (0, u "([BII)V"), (0, .methodref 12 116), (0, .nameAndType 117 118), (0, u "compress"), (0, u "([CI[BII)I"), (0, .methodref 12 120), (0, .nameAndType 121 122), (0, u "toBytes"), (0, u "([CII)[B"), (60, .methodref 184 185), (0, .class_ 186), (0, .nameAndType 187 188), (0, u "java/lang/Math"), (0, u "min"), (0, u "(II)I"), (35, .methodref 184 225), (0, .nameAndType 226 188), (0, u "max"), (0, .integer 65536), (0, .methodref 12 229), (0, .nameAndType 230 231), (0, u "indexOfChar"), (0, u "([BIII)I"), (9, .methodref 3 242), (0, .nameAndType 98 243), (0, u "(III)V"), (0, .methodref 12 245), (0, .nameAndType 246 231), (0, u "indexOfCharUnsafe"), (14, u "coderFromArrayLen"), (0, u "([BI)B"), (5, u "indexOf"), (100, .class_ 371), (1, u "java/lang/StringUTF16$LinesSpliterator"), (20, u "charAt"), (21, .methodref 3 415), (0, .nameAndType 69 416), (0, u "(II)V"), (13, u "MAX_LENGTH"), (196, .class_ 628), (0, u "java/lang/StringUTF16$CodePointsSpliterator"), (0, .class_ 630), (0, u "java/lang/StringUTF16$CharsSpliterator")] 4

def k10m0 : Method := { name := "<init>", desc := "()V", sig := { parameters := [], returnType := none }, accessFlags := 0, code := none }
def k10c1 : Code := { maxStack := 1, maxLocals := 1, code := jdk_52_method_2_code, exceptionTable := #[], attributes := #[] }
def k10m1 : Method := { name := "newBytesFor", desc := "(I)[B", sig := { parameters := [.int], returnType := some (.array .byte) }, accessFlags := 9, code := some k10c1 }
def k10c2 : Code := { maxStack := 4, maxLocals := 1, code := jdk_52_method_3_code, exceptionTable := #[], attributes := #[] }
def k10m2 : Method := { name := "newBytesLength", desc := "(I)I", sig := { parameters := [.int], returnType := some .int }, accessFlags := 9, code := some k10c2 }
def k10c3 : Code := { maxStack := 4, maxLocals := 3, code := jdk_52_method_4_code, exceptionTable := #[], attributes := #[] }
def k10m3 : Method := { name := "putChar", desc := "([BII)V", sig := { parameters := [(.array .byte), .int, .int], returnType := none }, accessFlags := 8, code := some k10c3 }
def k10c4 : Code := { maxStack := 3, maxLocals := 2, code := jdk_52_method_5_code, exceptionTable := #[], attributes := #[] }
def k10m4 : Method := { name := "getChar", desc := "([BI)C", sig := { parameters := [(.array .byte), .int], returnType := some .char }, accessFlags := 8, code := some k10c4 }
def k10c5 : Code := { maxStack := 2, maxLocals := 1, code := jdk_52_method_6_code, exceptionTable := #[], attributes := #[] }
def k10m5 : Method := { name := "length", desc := "([B)I", sig := { parameters := [(.array .byte)], returnType := some .int }, accessFlags := 9, code := some k10c5 }
def k10c6 : Code := { maxStack := 4, maxLocals := 5, code := jdk_52_method_14_code, exceptionTable := #[], attributes := #[] }
def k10m6 : Method := { name := "toBytes", desc := "([CII)[B", sig := { parameters := [(.array .char), .int, .int], returnType := some (.array .byte) }, accessFlags := 9, code := some k10c6 }
def k10c7 : Code := { maxStack := 2, maxLocals := 2, code := jdk_52_method_15_code, exceptionTable := #[], attributes := #[] }
def k10m7 : Method := { name := "coderFromArrayLen", desc := "([BI)B", sig := { parameters := [(.array .byte), .int], returnType := some .byte }, accessFlags := 8, code := some k10c7 }
def k10c8 : Code := { maxStack := 5, maxLocals := 6, code := jdk_52_method_16_code, exceptionTable := #[], attributes := #[] }
def k10m8 : Method := { name := "compress", desc := "([CII)[B", sig := { parameters := [(.array .char), .int, .int], returnType := some (.array .byte) }, accessFlags := 9, code := some k10c8 }
def k10c9 : Code := { maxStack := 3, maxLocals := 7, code := jdk_52_method_21_code, exceptionTable := #[], attributes := #[] }
def k10m9 : Method := { name := "compress", desc := "([CI[BII)I", sig := { parameters := [(.array .char), .int, (.array .byte), .int, .int], returnType := some .int }, accessFlags := 9, code := some k10c9 }
def k10c10 : Code := { maxStack := 4, maxLocals := 4, code := jdk_52_method_40_code, exceptionTable := #[], attributes := #[] }
def k10m10 : Method := { name := "indexOf", desc := "([BIII)I", sig := { parameters := [(.array .byte), .int, .int, .int], returnType := some .int }, accessFlags := 9, code := some k10c10 }
def k10c11 : Code := { maxStack := 4, maxLocals := 4, code := jdk_52_method_47_code, exceptionTable := #[], attributes := #[] }
def k10m11 : Method := { name := "indexOfChar", desc := "([BIII)I", sig := { parameters := [(.array .byte), .int, .int, .int], returnType := some .int }, accessFlags := 10, code := some k10c11 }
def k10c12 : Code := { maxStack := 2, maxLocals := 5, code := jdk_52_method_48_code, exceptionTable := #[], attributes := #[] }
def k10m12 : Method := { name := "indexOfCharUnsafe", desc := "([BIII)I", sig := { parameters := [(.array .byte), .int, .int, .int], returnType := some .int }, accessFlags := 10, code := some k10c12 }
def k10c13 : Code := { maxStack := 2, maxLocals := 2, code := jdk_52_method_83_code, exceptionTable := #[], attributes := #[] }
def k10m13 : Method := { name := "charAt", desc := "([BI)C", sig := { parameters := [(.array .byte), .int], returnType := some .char }, accessFlags := 9, code := some k10c13 }
def k10c14 : Code := { maxStack := 2, maxLocals := 2, code := jdk_52_method_91_code, exceptionTable := #[], attributes := #[] }
def k10m14 : Method := { name := "checkIndex", desc := "(I[B)V", sig := { parameters := [.int, (.array .byte)], returnType := none }, accessFlags := 9, code := some k10c14 }
def k10c15 : Code := { maxStack := 3, maxLocals := 3, code := jdk_52_method_93_code, exceptionTable := #[], attributes := #[] }
def k10m15 : Method := { name := "checkBoundsBeginEnd", desc := "(II[B)V", sig := { parameters := [.int, .int, (.array .byte)], returnType := none }, accessFlags := 9, code := some k10c15 }
/-- java/lang/StringUTF16 -/
def k10 : Class := { plain "java/lang/StringUTF16" (some 0) with
  accessFlags := 48
  interfaces := #[]
  cf := some (fileOf pool10 12 #[.nestMembers #[627, 629, 369]] #[{ accessFlags := 0, nameIndex := 9, descriptorIndex := 10, attributes := #[] }, { accessFlags := 9, nameIndex := 109, descriptorIndex := 110, attributes := #[] }, { accessFlags := 9, nameIndex := 15, descriptorIndex := 16, attributes := #[] }, { accessFlags := 8, nameIndex := 113, descriptorIndex := 114, attributes := #[] }, { accessFlags := 8, nameIndex := 73, descriptorIndex := 74, attributes := #[] }, { accessFlags := 9, nameIndex := 50, descriptorIndex := 51, attributes := #[] }, { accessFlags := 9, nameIndex := 121, descriptorIndex := 122, attributes := #[] }, { accessFlags := 8, nameIndex := 261, descriptorIndex := 262, attributes := #[] }, { accessFlags := 9, nameIndex := 117, descriptorIndex := 122, attributes := #[] }, { accessFlags := 9, nameIndex := 117, descriptorIndex := 118, attributes := #[] }, { accessFlags := 9, nameIndex := 268, descriptorIndex := 231, attributes := #[] }, { accessFlags := 10, nameIndex := 230, descriptorIndex := 231, attributes := #[] }, { accessFlags := 10, nameIndex := 246, descriptorIndex := 231, attributes := #[] }, { accessFlags := 9, nameIndex := 392, descriptorIndex := 74, attributes := #[] }, { accessFlags := 9, nameIndex := 69, descriptorIndex := 70, attributes := #[] }, { accessFlags := 9, nameIndex := 98, descriptorIndex := 99, attributes := #[] }] 48 6 #[] #[{ accessFlags := 26, nameIndex := 61, descriptorIndex := 62, attributes := #[] }, { accessFlags := 26, nameIndex := 65, descriptorIndex := 62, attributes := #[] }, { accessFlags := 24, nameIndex := 430, descriptorIndex := 62, attributes := #[] }, { accessFlags := 4120, nameIndex := 46, descriptorIndex := 47, attributes := #[] }])
  fields := #[{ name := "HI_BYTE_SHIFT", type := .int, accessFlags := 26, slot := 0, constantValue := 0 }, { name := "LO_BYTE_SHIFT", type := .int, accessFlags := 26, slot := 1, constantValue := 0 }, { name := "MAX_LENGTH", type := .int, accessFlags := 24, slot := 2, constantValue := 0 }, { name := "$assertionsDisabled", type := .boolean, accessFlags := 4120, slot := 3, constantValue := 0 }]
  methods := #[k10m0, k10m1, k10m2, k10m3, k10m4, k10m5, k10m6, k10m7, k10m8, k10m9, k10m10, k10m11, k10m12, k10m13, k10m14, k10m15]
  instanceTypes := #[]
  staticTypes := #[.int, .int, .int, .boolean]
  resolved := Array.replicate 635 none
  statics := some 1 }

def pool11 : Array CpInfo := pool [(1, .class_ 2), (0, u "java/lang/String"), (1, .class_ 6), (1, u "java/lang/Object"), (0, u "<init>"), (0, u "()V"), (0, .methodref 1 10), (0, .nameAndType 11 12), (0, u "checkIndex"), (0, u "(II)V"), (1, .class_ 16), (1, u "java/lang/StringLatin1"), (21, .methodref 39 40), (0, .class_ 41), (0, .nameAndType 42 43), (0, u "java/lang/Math"), (0, u "min"), (0, u "(II)I"), (9, u "([BI)C"), (34, .methodref 14 89), (0, .nameAndType 90 91), (0, u "canEncode"), (0, u "(I)Z"), (0, .methodref 39 93), (0, .nameAndType 94 43), (0, u "max"), (0, .methodref 14 96), (0, .nameAndType 97 98), (0, u "indexOfChar"), (0, u "([BIII)I"), (2, u "indexOf"), (19, u "$assertionsDisabled"), (0, u "Z"), (98, .class_ 223), (1, u "java/lang/StringLatin1$LinesSpliterator"), (28, u "charAt"), (137, .class_ 391), (0, u "java/lang/StringLatin1$CharsSpliterator")] 3

def k11m0 : Method := { name := "<init>", desc := "()V", sig := { parameters := [], returnType := none }, accessFlags := 0, code := none }
def k11c1 : Code := { maxStack := 2, maxLocals := 2, code := jdk_43_method_2_code, exceptionTable := #[], attributes := #[] }
def k11m1 : Method := { name := "charAt", desc := "([BI)C", sig := { parameters := [(.array .byte), .int], returnType := some .char }, accessFlags := 9, code := some k11c1 }
def k11c2 : Code := { maxStack := 2, maxLocals := 1, code := jdk_43_method_4_code, exceptionTable := #[], attributes := #[] }
def k11m2 : Method := { name := "canEncode", desc := "(I)Z", sig := { parameters := [.int], returnType := some .boolean }, accessFlags := 9, code := some k11c2 }
def k11c3 : Code := { maxStack := 4, maxLocals := 4, code := jdk_43_method_22_code, exceptionTable := #[], attributes := #[] }
def k11m3 : Method := { name := "indexOf", desc := "([BIII)I", sig := { parameters := [(.array .byte), .int, .int, .int], returnType := some .int }, accessFlags := 9, code := some k11c3 }
def k11c4 : Code := { maxStack := 2, maxLocals := 6, code := jdk_43_method_23_code, exceptionTable := #[], attributes := #[] }
def k11m4 : Method := { name := "indexOfChar", desc := "([BIII)I", sig := { parameters := [(.array .byte), .int, .int, .int], returnType := some .int }, accessFlags := 10, code := some k11c4 }
/-- java/lang/StringLatin1 -/
def k11 : Class := { plain "java/lang/StringLatin1" (some 0) with
  accessFlags := 48
  interfaces := #[]
  cf := some (fileOf pool11 14 #[.nestMembers #[390, 221]] #[{ accessFlags := 0, nameIndex := 7, descriptorIndex := 8, attributes := #[] }, { accessFlags := 9, nameIndex := 252, descriptorIndex := 53, attributes := #[] }, { accessFlags := 9, nameIndex := 90, descriptorIndex := 91, attributes := #[] }, { accessFlags := 9, nameIndex := 101, descriptorIndex := 98, attributes := #[] }, { accessFlags := 10, nameIndex := 97, descriptorIndex := 98, attributes := #[] }] 48 4 #[] #[{ accessFlags := 4120, nameIndex := 121, descriptorIndex := 122, attributes := #[] }])
  fields := #[{ name := "$assertionsDisabled", type := .boolean, accessFlags := 4120, slot := 0, constantValue := 0 }]
  methods := #[k11m0, k11m1, k11m2, k11m3, k11m4]
  instanceTypes := #[]
  staticTypes := #[.boolean]
  resolved := Array.replicate 395 none
  statics := none }

def pool12 : Array CpInfo := pool [(1, .class_ 2), (0, u "java/lang/Math"), (1, .class_ 6), (1, u "java/lang/Object"), (0, u "<init>"), (0, u "()V"), (89, .class_ 100), (1, u "java/lang/Math$RandomNumberGeneratorHolder"), (71, u "negativeZeroFloatBits"), (0, u "J"), (2, u "negativeZeroDoubleBits"), (21, u "max"), (2, u "min"), (43, u "$assertionsDisabled"), (0, u "Z"), (88, u "(II)I"), (2, u "twoToTheDoubleScaleDown"), (0, u "D"), (4, u "twoToTheDoubleScaleUp"), (9, u "E"), (3, u "PI"), (2, u "TAU"), (2, u "DEGREES_TO_RADIANS"), (0, u "RADIANS_TO_DEGREES")] 94

def k12m0 : Method := { name := "<init>", desc := "()V", sig := { parameters := [], returnType := none }, accessFlags := 2, code := none }
def k12c1 : Code := { maxStack := 2, maxLocals := 2, code := jdk_29_method_65_code, exceptionTable := #[], attributes := #[] }
def k12m1 : Method := { name := "max", desc := "(II)I", sig := { parameters := [.int, .int], returnType := some .int }, accessFlags := 9, code := some k12c1 }
def k12c2 : Code := { maxStack := 2, maxLocals := 2, code := jdk_29_method_69_code, exceptionTable := #[], attributes := #[] }
def k12m2 : Method := { name := "min", desc := "(II)I", sig := { parameters := [.int, .int], returnType := some .int }, accessFlags := 9, code := some k12c2 }
/-- java/lang/Math -/
def k12 : Class := { plain "java/lang/Math" (some 0) with
  accessFlags := 49
  interfaces := #[]
  cf := some (fileOf pool12 1 #[.nestMembers #[98]] #[{ accessFlags := 2, nameIndex := 7, descriptorIndex := 8, attributes := #[] }, { accessFlags := 9, nameIndex := 198, descriptorIndex := 335, attributes := #[] }, { accessFlags := 9, nameIndex := 201, descriptorIndex := 335, attributes := #[] }] 49 4 #[] #[{ accessFlags := 25, nameIndex := 354, descriptorIndex := 339, attributes := #[] }, { accessFlags := 25, nameIndex := 358, descriptorIndex := 339, attributes := #[] }, { accessFlags := 25, nameIndex := 361, descriptorIndex := 339, attributes := #[] }, { accessFlags := 26, nameIndex := 364, descriptorIndex := 339, attributes := #[] }, { accessFlags := 26, nameIndex := 365, descriptorIndex := 339, attributes := #[] }, { accessFlags := 26, nameIndex := 172, descriptorIndex := 173, attributes := #[] }, { accessFlags := 26, nameIndex := 176, descriptorIndex := 173, attributes := #[] }, { accessFlags := 8, nameIndex := 344, descriptorIndex := 339, attributes := #[] }, { accessFlags := 8, nameIndex := 338, descriptorIndex := 339, attributes := #[] }, { accessFlags := 4120, nameIndex := 245, descriptorIndex := 246, attributes := #[] }])
  fields := #[{ name := "E", type := .double, accessFlags := 25, slot := 0, constantValue := 0 }, { name := "PI", type := .double, accessFlags := 25, slot := 1, constantValue := 0 }, { name := "TAU", type := .double, accessFlags := 25, slot := 2, constantValue := 0 }, { name := "DEGREES_TO_RADIANS", type := .double, accessFlags := 26, slot := 3, constantValue := 0 }, { name := "RADIANS_TO_DEGREES", type := .double, accessFlags := 26, slot := 4, constantValue := 0 }, { name := "negativeZeroFloatBits", type := .long, accessFlags := 26, slot := 5, constantValue := 0 }, { name := "negativeZeroDoubleBits", type := .long, accessFlags := 26, slot := 6, constantValue := 0 }, { name := "twoToTheDoubleScaleUp", type := .double, accessFlags := 8, slot := 7, constantValue := 0 }, { name := "twoToTheDoubleScaleDown", type := .double, accessFlags := 8, slot := 8, constantValue := 0 }, { name := "$assertionsDisabled", type := .boolean, accessFlags := 4120, slot := 9, constantValue := 0 }]
  methods := #[k12m0, k12m1, k12m2]
  instanceTypes := #[]
  staticTypes := #[.double, .double, .double, .double, .double, .long, .long, .double, .double, .boolean]
  resolved := Array.replicate 460 none
  statics := none }

def pool13 : Array CpInfo := pool [(2, .class_ 4), (1, u "java/lang/Object"), (3, .class_ 10), (1, u "com/example/ward/ward/BasicCredentials"), (0, u "userId"), (0, u "Ljava/lang/String;"), (2, u "password"), (7, .class_ 25), (1, u "java/lang/String"), (2, .methodref 23 29), (0, .nameAndType 30 31), (0, u "length"), (0, u "()I"), (9, u "(Ljava/lang/String;)Z"), (0, .methodref 23 43), (0, .nameAndType 44 45), (0, u "charAt"), (0, u "(I)C"), (16, u "holdsControl"), (73, u "SCHEME")] 29

def k13c0 : Code := { maxStack := 2, maxLocals := 3, code := prog_4_method_3_code, exceptionTable := #[], attributes := #[] }
def k13m0 : Method := { name := "holdsControl", desc := "(Ljava/lang/String;)Z", sig := { parameters := [(.object "java/lang/String")], returnType := some .boolean }, accessFlags := 8, code := some k13c0 }
/-- com/example/ward/ward/BasicCredentials -/
def k13 : Class := { plain "com/example/ward/ward/BasicCredentials" (some 0) with
  accessFlags := 48
  interfaces := #[]
  cf := some (fileOf pool13 8 #[] #[{ accessFlags := 8, nameIndex := 62, descriptorIndex := 41, attributes := #[] }] 48 2 #[] #[{ accessFlags := 26, nameIndex := 136, descriptorIndex := 12, attributes := #[] }, { accessFlags := 18, nameIndex := 11, descriptorIndex := 12, attributes := #[] }, { accessFlags := 18, nameIndex := 15, descriptorIndex := 12, attributes := #[] }])
  fields := #[{ name := "SCHEME", type := (.object "java/lang/String"), accessFlags := 26, slot := 0, constantValue := 0 }, { name := "userId", type := (.object "java/lang/String"), accessFlags := 18, slot := 0, constantValue := 0 }, { name := "password", type := (.object "java/lang/String"), accessFlags := 18, slot := 1, constantValue := 0 }]
  methods := #[k13m0]
  instanceTypes := #[(.object "java/lang/String"), (.object "java/lang/String")]
  staticTypes := #[(.object "java/lang/String")]
  resolved := Array.replicate 166 none
  statics := none }

def pool14 : Array CpInfo := pool [(2, .class_ 4), (1, u "java/lang/Object"), (0, u "<init>"), (0, u "()V"), (17, .class_ 26), (1, u "jdk/internal/util/Preconditions"), (6, u "checkIndex"), (13, u "checkFromToIndex"), (7, .class_ 56), (0, u "jdk/internal/util/Preconditions$4"), (57, .class_ 115), (0, u "jdk/internal/util/Preconditions$1"), (7, u "SIOOBE_FORMATTER"), (0, u "Ljava/util/function/BiFunction;"), (0, .class_ 126), (0, u "jdk/internal/util/Preconditions$2"), (3, u "AIOOBE_FORMATTER"), (0, .class_ 132), (0, u "jdk/internal/util/Preconditions$3"), (3, u "IOOBE_FORMATTER"), (41, u "(IILjava/util/function/BiFunction;)I"), (4, u "(IIILjava/util/function/BiFunction;)I")] 10

def k14m0 : Method := { name := "<init>", desc := "()V", sig := { parameters := [], returnType := none }, accessFlags := 1, code := none }
def k14c1 : Code := { maxStack := 3, maxLocals := 3, code := jdk_41_method_11_code, exceptionTable := #[], attributes := #[] }
def k14m1 : Method := { name := "checkIndex", desc := "(IILjava/util/function/BiFunction;)I", sig := { parameters := [.int, .int, (.object "java/util/function/BiFunction")], returnType := some .int }, accessFlags := 9, code := some k14c1 }
def k14c2 : Code := { maxStack := 4, maxLocals := 4, code := jdk_41_method_12_code, exceptionTable := #[], attributes := #[] }
def k14m2 : Method := { name := "checkFromToIndex", desc := "(IIILjava/util/function/BiFunction;)I", sig := { parameters := [.int, .int, .int, (.object "java/util/function/BiFunction")], returnType := some .int }, accessFlags := 9, code := some k14c2 }
/-- jdk/internal/util/Preconditions -/
def k14 : Class := { plain "jdk/internal/util/Preconditions" (some 0) with
  accessFlags := 33
  interfaces := #[]
  cf := some (fileOf pool14 24 #[.nestMembers #[55, 131, 125, 114]] #[{ accessFlags := 1, nameIndex := 5, descriptorIndex := 6, attributes := #[] }, { accessFlags := 9, nameIndex := 33, descriptorIndex := 178, attributes := #[] }, { accessFlags := 9, nameIndex := 47, descriptorIndex := 183, attributes := #[] }] 33 2 #[] #[{ accessFlags := 25, nameIndex := 123, descriptorIndex := 124, attributes := #[] }, { accessFlags := 25, nameIndex := 130, descriptorIndex := 124, attributes := #[] }, { accessFlags := 25, nameIndex := 136, descriptorIndex := 124, attributes := #[] }])
  fields := #[{ name := "SIOOBE_FORMATTER", type := (.object "java/util/function/BiFunction"), accessFlags := 25, slot := 0, constantValue := 0 }, { name := "AIOOBE_FORMATTER", type := (.object "java/util/function/BiFunction"), accessFlags := 25, slot := 1, constantValue := 0 }, { name := "IOOBE_FORMATTER", type := (.object "java/util/function/BiFunction"), accessFlags := 25, slot := 2, constantValue := 0 }]
  methods := #[k14m0, k14m1, k14m2]
  instanceTypes := #[]
  staticTypes := #[(.object "java/util/function/BiFunction"), (.object "java/util/function/BiFunction"), (.object "java/util/function/BiFunction")]
  resolved := Array.replicate 194 none
  statics := some 2 }

def pool15 : Array CpInfo := pool [(9, u "<init>"), (6, .class_ 18), (1, u "java/lang/Object"), (0, u "()V"), (1, .class_ 23), (1, u "jdk/internal/util/ArraysSupport"), (0, u "LOG2_ARRAY_LONG_INDEX_SCALE"), (0, u "I"), (2, u "U"), (0, u "Ljdk/internal/misc/Unsafe;"), (8, u "BIG_ENDIAN"), (0, u "Z"), (8, u "LOG2_BYTE_BIT_SIZE"), (4, u "LOG2_ARRAY_INT_INDEX_SCALE"), (54, u "JLA"), (0, u "Ljdk/internal/access/JavaLangAccess;"), (11, u "LOG2_ARRAY_BOOLEAN_INDEX_SCALE"), (9, u "LOG2_ARRAY_BYTE_INDEX_SCALE"), (5, u "LOG2_ARRAY_CHAR_INDEX_SCALE"), (5, u "LOG2_ARRAY_SHORT_INDEX_SCALE"), (18, u "LOG2_ARRAY_FLOAT_INDEX_SCALE"), (24, u "LOG2_ARRAY_DOUBLE_INDEX_SCALE"), (89, u "T_BOOLEAN"), (2, u "T_CHAR"), (1, u "T_FLOAT"), (1, u "T_DOUBLE"), (1, u "T_BYTE"), (1, u "T_SHORT"), (1, u "T_INT"), (1, u "T_LONG"), (1, u "SOFT_MAX_ARRAY_LENGTH")] 83

def k15m0 : Method := { name := "<init>", desc := "()V", sig := { parameters := [], returnType := none }, accessFlags := 2, code := none }
/-- jdk/internal/util/ArraysSupport -/
def k15 : Class := { plain "jdk/internal/util/ArraysSupport" (some 0) with
  accessFlags := 33
  interfaces := #[]
  cf := some (fileOf pool15 21 #[] #[{ accessFlags := 2, nameIndex := 9, descriptorIndex := 19, attributes := #[] }] 33 16 #[] #[{ accessFlags := 24, nameIndex := 28, descriptorIndex := 29, attributes := #[] }, { accessFlags := 26, nameIndex := 38, descriptorIndex := 39, attributes := #[] }, { accessFlags := 25, nameIndex := 121, descriptorIndex := 25, attributes := #[] }, { accessFlags := 25, nameIndex := 131, descriptorIndex := 25, attributes := #[] }, { accessFlags := 25, nameIndex := 137, descriptorIndex := 25, attributes := #[] }, { accessFlags := 25, nameIndex := 143, descriptorIndex := 25, attributes := #[] }, { accessFlags := 25, nameIndex := 53, descriptorIndex := 25, attributes := #[] }, { accessFlags := 25, nameIndex := 24, descriptorIndex := 25, attributes := #[] }, { accessFlags := 25, nameIndex := 162, descriptorIndex := 25, attributes := #[] }, { accessFlags := 25, nameIndex := 187, descriptorIndex := 25, attributes := #[] }, { accessFlags := 26, nameIndex := 48, descriptorIndex := 25, attributes := #[] }, { accessFlags := 25, nameIndex := 277, descriptorIndex := 25, attributes := #[] }, { accessFlags := 25, nameIndex := 280, descriptorIndex := 25, attributes := #[] }, { accessFlags := 25, nameIndex := 282, descriptorIndex := 25, attributes := #[] }, { accessFlags := 25, nameIndex := 284, descriptorIndex := 25, attributes := #[] }, { accessFlags := 25, nameIndex := 286, descriptorIndex := 25, attributes := #[] }, { accessFlags := 25, nameIndex := 288, descriptorIndex := 25, attributes := #[] }, { accessFlags := 25, nameIndex := 290, descriptorIndex := 25, attributes := #[] }, { accessFlags := 25, nameIndex := 292, descriptorIndex := 25, attributes := #[] }, { accessFlags := 26, nameIndex := 108, descriptorIndex := 109, attributes := #[] }, { accessFlags := 25, nameIndex := 294, descriptorIndex := 25, attributes := #[] }])
  fields := #[{ name := "U", type := (.object "jdk/internal/misc/Unsafe"), accessFlags := 24, slot := 0, constantValue := 0 }, { name := "BIG_ENDIAN", type := .boolean, accessFlags := 26, slot := 1, constantValue := 0 }, { name := "LOG2_ARRAY_BOOLEAN_INDEX_SCALE", type := .int, accessFlags := 25, slot := 2, constantValue := 0 }, { name := "LOG2_ARRAY_BYTE_INDEX_SCALE", type := .int, accessFlags := 25, slot := 3, constantValue := 0 }, { name := "LOG2_ARRAY_CHAR_INDEX_SCALE", type := .int, accessFlags := 25, slot := 4, constantValue := 0 }, { name := "LOG2_ARRAY_SHORT_INDEX_SCALE", type := .int, accessFlags := 25, slot := 5, constantValue := 0 }, { name := "LOG2_ARRAY_INT_INDEX_SCALE", type := .int, accessFlags := 25, slot := 6, constantValue := 0 }, { name := "LOG2_ARRAY_LONG_INDEX_SCALE", type := .int, accessFlags := 25, slot := 7, constantValue := 0 }, { name := "LOG2_ARRAY_FLOAT_INDEX_SCALE", type := .int, accessFlags := 25, slot := 8, constantValue := 0 }, { name := "LOG2_ARRAY_DOUBLE_INDEX_SCALE", type := .int, accessFlags := 25, slot := 9, constantValue := 0 }, { name := "LOG2_BYTE_BIT_SIZE", type := .int, accessFlags := 26, slot := 10, constantValue := 0 }, { name := "T_BOOLEAN", type := .int, accessFlags := 25, slot := 11, constantValue := 0 }, { name := "T_CHAR", type := .int, accessFlags := 25, slot := 12, constantValue := 0 }, { name := "T_FLOAT", type := .int, accessFlags := 25, slot := 13, constantValue := 0 }, { name := "T_DOUBLE", type := .int, accessFlags := 25, slot := 14, constantValue := 0 }, { name := "T_BYTE", type := .int, accessFlags := 25, slot := 15, constantValue := 0 }, { name := "T_SHORT", type := .int, accessFlags := 25, slot := 16, constantValue := 0 }, { name := "T_INT", type := .int, accessFlags := 25, slot := 17, constantValue := 0 }, { name := "T_LONG", type := .int, accessFlags := 25, slot := 18, constantValue := 0 }, { name := "JLA", type := (.object "jdk/internal/access/JavaLangAccess"), accessFlags := 26, slot := 19, constantValue := 0 }, { name := "SOFT_MAX_ARRAY_LENGTH", type := .int, accessFlags := 25, slot := 20, constantValue := 0 }]
  methods := #[k15m0]
  instanceTypes := #[]
  staticTypes := #[(.object "jdk/internal/misc/Unsafe"), .boolean, .int, .int, .int, .int, .int, .int, .int, .int, .int, .int, .int, .int, .int, .int, .int, .int, .int, (.object "jdk/internal/access/JavaLangAccess"), .int]
  resolved := Array.replicate 378 none
  statics := none }

def pool16 : Array CpInfo := pool [(1, u "java/lang/Cloneable"), (0, .class_ 1), (0, u "java/lang/Object"), (0, .class_ 3)] 3

/-- java/lang/Cloneable -/
def k16 : Class := { plain "java/lang/Cloneable" (some 0) with
  accessFlags := 1537
  interfaces := #[]
  cf := some (fileOf pool16 2 #[] #[] 1537 4 #[] #[])
  fields := #[]
  methods := #[]
  instanceTypes := #[]
  staticTypes := #[]
  resolved := Array.replicate 8 none
  statics := none }

/-- the primitive byte -/
def k17 : Class := { plain "byte" none with kind := .primitive 'B', accessFlags := 0x411 }
/-- [B -/
def k18 : Class := { plain "[B" (some 0) with kind := .array 17 .byte, interfaces := #[16, 2], accessFlags := 1041 }

/-- the primitive char -/
def k19 : Class := { plain "char" none with kind := .primitive 'C', accessFlags := 0x411 }
/-- [C -/
def k20 : Class := { plain "[C" (some 0) with kind := .array 19 .char, interfaces := #[16, 2], accessFlags := 1041 }

/-- the primitive int -/
def k21 : Class := { plain "int" none with kind := .primitive 'I', accessFlags := 0x411 }
/-- [I -/
def k22 : Class := { plain "[I" (some 0) with kind := .array 21 .int, interfaces := #[16, 2], accessFlags := 1041 }

def heap : Heap := #[{ cls := 7, slots := #[.long 0, .int 1, .null, .int 0, .null, .int 0, .int 0], vm := .statics 7 },
  { cls := 10, slots := #[.int 0, .int 8, .int 0, .int 1], vm := .statics 10 },
  { cls := 14, slots := #[.null, .null, .null], vm := .statics 14 }]
def classes : Array Class := #[k0, k1, k2, k3, k4, k5, k6, k7, k8, k9, k10, k11, k12, k13, k14, k15, k16, k17, k18, k19, k20, k21, k22]
def interned : List (Array UInt16 × Addr) := []
def slotsUsed : Nat := 14
def theMethod : MethodId := ⟨1, 2⟩
def args0 : Array Value := #[.int 5, .int 6, .int 7, .int 8]
def aboutOver (below : List Frame) : State where
  vm := { classes := classes, interned := interned.toArray }
  heap := heap
  slotsUsed := slotsUsed
  threads := #[{ frames := .invoking theMethod args0 :: below }]
def below0 : List Frame := [.native { method := ⟨0, 0⟩, args := #[] }]
def about1 : State := aboutOver below0
def p0 : Program := .bare "" "" ""
def e0 : Env := launch0.env 0 0 0
theorem w_frames : about1.frames = Frame.invoking theMethod args0 :: below0 := rfl
set_option maxRecDepth 65536 in
theorem w_args : argsFit about1.vm theMethod args0 = true := by decide +kernel
set_option maxRecDepth 65536 in
theorem w_heap : heapFits about1 = true := by decide +kernel
set_option maxRecDepth 65536 in
theorem w_runnable : about1.curStatus? = some .runnable := by decide +kernel
set_option maxRecDepth 65536 in
theorem w_alone : about1.alone = true := by decide +kernel
set_option maxRecDepth 65536 in
theorem w_named : about1.methodNamed? x = some theMethod := by decide +kernel
set_option maxRecDepth 65536 in
theorem w_hears : about1.hears theMethod below0 = true := by decide +kernel
set_option maxRecDepth 65536 in
theorem w_ripe : about1.ripe theMethod args0 below0 = true := by decide +kernel
theorem w_running : about1.status = .running := rfl
set_option maxRecDepth 65536 in
theorem w_room : about1.hasRoom e0.platform room_1 = true :=
  launch0.hasRoom_least _ room_1 (by decide +kernel) (by decide +kernel) (by decide +kernel) (by decide +kernel) (by decide +kernel) (by decide +kernel)
theorem allAtoms_all (ts : List Jvm.Cond) (a : Array Jvm.Value) (st : Jvm.State) : (allAtoms ts).before a st = ts.all (fun c => c.before a st) := by
  induction ts with
  | nil => rfl
  | cons c t ih =>
    show (Jvm.Cond.and c (allAtoms t)).before a st = _
    rw [Jvm.Cond.before_and, ih, List.all_cons]
def words1 : List Jvm.Cond := Jvm.Cond.code x code maxLocals ret :: tables_1
/-- a 'code' word, met by the world's own term for the bytes: nothing is compared byte by byte -/
theorem code_word {y : MethodName} {bytes : ByteArray} {mx : Nat} {rt : Option FieldType} {a : Array Value} {s : State} {m : MethodId} {meth : Method} {c : Code} (h1 : s.methodNamed? y = some m) (h2 : s.vm.method? m = some meth) (h3 : meth.code = some c) (h4 : c.code = bytes)
    (h5 : (c.maxLocals == mx && c.exceptionTable.isEmpty && decide (c.maxStack ≤ mostOperands) && decide (meth.sig.returnType = rt) && !meth.locks && decide (parseMethodDescriptor y.desc = some meth.sig)) = true) : (Jvm.Cond.code y bytes mx rt).before a s = true := by
  simp only [Bool.and_eq_true, beq_iff_eq, Bool.not_eq_true', decide_eq_true_eq] at h5
  obtain ⟨⟨⟨⟨⟨g1, g2⟩, g3⟩, g4⟩, g5⟩, g6⟩ := h5
  simp [Cond.before, Cond.holds, Cond.value, h1, h2, h3, h4, g1, g2, g3, g4, g5, g6]
def isCode : Jvm.Cond → Bool
  | .code _ _ _ _ => true
  | _ => false
theorem all_split {L : List Jvm.Cond} {P : Jvm.Cond → Bool} (h1 : L.all (fun c => isCode c || P c) = true) (h2 : ∀ c ∈ L.filter isCode, P c = true) : L.all P = true := by
  refine List.all_eq_true.mpr fun c hc => ?_
  have h := List.all_eq_true.mp h1 c hc
  rcases Bool.eq_false_or_eq_true (isCode c) with hi | hi
  · exact h2 c (List.mem_filter.mpr ⟨hc, hi⟩)
  · simpa [hi] using h
set_option maxRecDepth 65536 in
theorem w_c0 : (Jvm.Cond.code x code maxLocals ret).before args0 about1 = true := code_word (m := ⟨1, 2⟩) (meth := k1m2) (c := k1c2) (by decide +kernel) rfl rfl rfl (by decide +kernel)
set_option maxRecDepth 65536 in
theorem w_c1 : (Jvm.Cond.code ({ cls := "java/lang/String", name := "<init>", desc := "([C)V" } : Jvm.MethodName) jdk_42_method_3_code (2 : Nat) (Option.none : Option Jvm.ClassFile.FieldType)).before args0 about1 = true := code_word (m := ⟨7, 1⟩) (meth := k7m1) (c := k7c1) (by decide +kernel) rfl rfl rfl (by decide +kernel)
set_option maxRecDepth 65536 in
theorem w_c2 : (Jvm.Cond.code ({ cls := "java/lang/String", name := "<init>", desc := "([CIILjava/lang/Void;)V" } : Jvm.MethodName) jdk_42_method_149_code (6 : Nat) (Option.none : Option Jvm.ClassFile.FieldType)).before args0 about1 = true := code_word (m := ⟨7, 7⟩) (meth := k7m7) (c := k7c7) (by decide +kernel) rfl rfl rfl (by decide +kernel)
set_option maxRecDepth 65536 in
theorem w_c3 : (Jvm.Cond.code ({ cls := "java/lang/Object", name := "<init>", desc := "()V" } : Jvm.MethodName) object_method_1_code (1 : Nat) (Option.none : Option Jvm.ClassFile.FieldType)).before args0 about1 = true := code_word (m := ⟨0, 0⟩) (meth := k0m0) (c := k0c0) (by decide +kernel) rfl rfl rfl (by decide +kernel)
set_option maxRecDepth 65536 in
theorem w_c4 : (Jvm.Cond.code ({ cls := "com/example/ward/ward/User", name := "isName", desc := "(Ljava/lang/String;)Z" } : Jvm.MethodName) prog_18_method_2_code (1 : Nat) (Option.some Jvm.ClassFile.FieldType.boolean)).before args0 about1 = true := code_word (m := ⟨9, 0⟩) (meth := k9m0) (c := k9c0) (by decide +kernel) rfl rfl rfl (by decide +kernel)
set_option maxRecDepth 65536 in
theorem w_c5 : (Jvm.Cond.code ({ cls := "java/lang/String", name := "isEmpty", desc := "()Z" } : Jvm.MethodName) jdk_42_method_55_code (1 : Nat) (Option.some Jvm.ClassFile.FieldType.boolean)).before args0 about1 = true := code_word (m := ⟨7, 3⟩) (meth := k7m3) (c := k7c3) (by decide +kernel) rfl rfl rfl (by decide +kernel)
set_option maxRecDepth 65536 in
theorem w_c6 : (Jvm.Cond.code ({ cls := "java/lang/StringUTF16", name := "compress", desc := "([CII)[B" } : Jvm.MethodName) jdk_52_method_16_code (6 : Nat) (Option.some (Jvm.ClassFile.FieldType.array Jvm.ClassFile.FieldType.byte))).before args0 about1 = true := code_word (m := ⟨10, 8⟩) (meth := k10m8) (c := k10c8) (by decide +kernel) rfl rfl rfl (by decide +kernel)
set_option maxRecDepth 65536 in
theorem w_c7 : (Jvm.Cond.code ({ cls := "java/lang/StringUTF16", name := "compress", desc := "([CI[BII)I" } : Jvm.MethodName) jdk_52_method_21_code (7 : Nat) (Option.some Jvm.ClassFile.FieldType.int)).before args0 about1 = true := code_word (m := ⟨10, 9⟩) (meth := k10m9) (c := k10c9) (by decide +kernel) rfl rfl rfl (by decide +kernel)
set_option maxRecDepth 65536 in
theorem w_c8 : (Jvm.Cond.code ({ cls := "java/lang/StringUTF16", name := "coderFromArrayLen", desc := "([BI)B" } : Jvm.MethodName) jdk_52_method_15_code (2 : Nat) (Option.some Jvm.ClassFile.FieldType.byte)).before args0 about1 = true := code_word (m := ⟨10, 7⟩) (meth := k10m7) (c := k10c7) (by decide +kernel) rfl rfl rfl (by decide +kernel)
set_option maxRecDepth 65536 in
theorem w_c9 : (Jvm.Cond.code ({ cls := "com/example/ward/ward/UserIsNamePinLaw", name := "ok", desc := "(C)Z" } : Jvm.MethodName) method_2_code (1 : Nat) (Option.some Jvm.ClassFile.FieldType.boolean)).before args0 about1 = true := code_word (m := ⟨1, 1⟩) (meth := k1m1) (c := k1c1) (by decide +kernel) rfl rfl rfl (by decide +kernel)
set_option maxRecDepth 65536 in
theorem w_c10 : (Jvm.Cond.code ({ cls := "java/lang/String", name := "indexOf", desc := "(I)I" } : Jvm.MethodName) jdk_42_method_79_code (2 : Nat) (Option.some Jvm.ClassFile.FieldType.int)).before args0 about1 = true := code_word (m := ⟨7, 5⟩) (meth := k7m5) (c := k7c5) (by decide +kernel) rfl rfl rfl (by decide +kernel)
set_option maxRecDepth 65536 in
theorem w_c11 : (Jvm.Cond.code ({ cls := "java/lang/String", name := "indexOf", desc := "(II)I" } : Jvm.MethodName) jdk_42_method_80_code (3 : Nat) (Option.some Jvm.ClassFile.FieldType.int)).before args0 about1 = true := code_word (m := ⟨7, 6⟩) (meth := k7m6) (c := k7c6) (by decide +kernel) rfl rfl rfl (by decide +kernel)
set_option maxRecDepth 65536 in
theorem w_c12 : (Jvm.Cond.code ({ cls := "java/lang/String", name := "isLatin1", desc := "()Z" } : Jvm.MethodName) jdk_42_method_154_code (1 : Nat) (Option.some Jvm.ClassFile.FieldType.boolean)).before args0 about1 = true := code_word (m := ⟨7, 9⟩) (meth := k7m9) (c := k7c9) (by decide +kernel) rfl rfl rfl (by decide +kernel)
set_option maxRecDepth 65536 in
theorem w_c13 : (Jvm.Cond.code ({ cls := "java/lang/String", name := "length", desc := "()I" } : Jvm.MethodName) jdk_42_method_54_code (1 : Nat) (Option.some Jvm.ClassFile.FieldType.int)).before args0 about1 = true := code_word (m := ⟨7, 2⟩) (meth := k7m2) (c := k7c2) (by decide +kernel) rfl rfl rfl (by decide +kernel)
set_option maxRecDepth 65536 in
theorem w_c14 : (Jvm.Cond.code ({ cls := "java/lang/String", name := "coder", desc := "()B" } : Jvm.MethodName) jdk_42_method_152_code (1 : Nat) (Option.some Jvm.ClassFile.FieldType.byte)).before args0 about1 = true := code_word (m := ⟨7, 8⟩) (meth := k7m8) (c := k7c8) (by decide +kernel) rfl rfl rfl (by decide +kernel)
set_option maxRecDepth 65536 in
theorem w_c15 : (Jvm.Cond.code ({ cls := "java/lang/StringLatin1", name := "indexOf", desc := "([BIII)I" } : Jvm.MethodName) jdk_43_method_22_code (4 : Nat) (Option.some Jvm.ClassFile.FieldType.int)).before args0 about1 = true := code_word (m := ⟨11, 3⟩) (meth := k11m3) (c := k11c3) (by decide +kernel) rfl rfl rfl (by decide +kernel)
set_option maxRecDepth 65536 in
theorem w_c16 : (Jvm.Cond.code ({ cls := "java/lang/StringLatin1", name := "canEncode", desc := "(I)Z" } : Jvm.MethodName) jdk_43_method_4_code (1 : Nat) (Option.some Jvm.ClassFile.FieldType.boolean)).before args0 about1 = true := code_word (m := ⟨11, 2⟩) (meth := k11m2) (c := k11c2) (by decide +kernel) rfl rfl rfl (by decide +kernel)
set_option maxRecDepth 65536 in
theorem w_c17 : (Jvm.Cond.code ({ cls := "java/lang/Math", name := "max", desc := "(II)I" } : Jvm.MethodName) jdk_29_method_65_code (2 : Nat) (Option.some Jvm.ClassFile.FieldType.int)).before args0 about1 = true := code_word (m := ⟨12, 1⟩) (meth := k12m1) (c := k12c1) (by decide +kernel) rfl rfl rfl (by decide +kernel)
set_option maxRecDepth 65536 in
theorem w_c18 : (Jvm.Cond.code ({ cls := "java/lang/Math", name := "min", desc := "(II)I" } : Jvm.MethodName) jdk_29_method_69_code (2 : Nat) (Option.some Jvm.ClassFile.FieldType.int)).before args0 about1 = true := code_word (m := ⟨12, 2⟩) (meth := k12m2) (c := k12c2) (by decide +kernel) rfl rfl rfl (by decide +kernel)
set_option maxRecDepth 65536 in
theorem w_c19 : (Jvm.Cond.code ({ cls := "java/lang/StringLatin1", name := "indexOfChar", desc := "([BIII)I" } : Jvm.MethodName) jdk_43_method_23_code (6 : Nat) (Option.some Jvm.ClassFile.FieldType.int)).before args0 about1 = true := code_word (m := ⟨11, 4⟩) (meth := k11m4) (c := k11c4) (by decide +kernel) rfl rfl rfl (by decide +kernel)
set_option maxRecDepth 65536 in
theorem w_c20 : (Jvm.Cond.code ({ cls := "com/example/ward/ward/BasicCredentials", name := "holdsControl", desc := "(Ljava/lang/String;)Z" } : Jvm.MethodName) prog_4_method_3_code (3 : Nat) (Option.some Jvm.ClassFile.FieldType.boolean)).before args0 about1 = true := code_word (m := ⟨13, 0⟩) (meth := k13m0) (c := k13c0) (by decide +kernel) rfl rfl rfl (by decide +kernel)
set_option maxRecDepth 65536 in
theorem w_c21 : (Jvm.Cond.code ({ cls := "java/lang/String", name := "charAt", desc := "(I)C" } : Jvm.MethodName) jdk_42_method_56_code (2 : Nat) (Option.some Jvm.ClassFile.FieldType.char)).before args0 about1 = true := code_word (m := ⟨7, 4⟩) (meth := k7m4) (c := k7c4) (by decide +kernel) rfl rfl rfl (by decide +kernel)
set_option maxRecDepth 65536 in
theorem w_c22 : (Jvm.Cond.code ({ cls := "java/lang/StringLatin1", name := "charAt", desc := "([BI)C" } : Jvm.MethodName) jdk_43_method_2_code (2 : Nat) (Option.some Jvm.ClassFile.FieldType.char)).before args0 about1 = true := code_word (m := ⟨11, 1⟩) (meth := k11m1) (c := k11c1) (by decide +kernel) rfl rfl rfl (by decide +kernel)
set_option maxRecDepth 65536 in
theorem w_c23 : (Jvm.Cond.code ({ cls := "java/lang/String", name := "checkIndex", desc := "(II)V" } : Jvm.MethodName) jdk_42_method_155_code (2 : Nat) (Option.none : Option Jvm.ClassFile.FieldType)).before args0 about1 = true := code_word (m := ⟨7, 10⟩) (meth := k7m10) (c := k7c10) (by decide +kernel) rfl rfl rfl (by decide +kernel)
set_option maxRecDepth 65536 in
theorem w_c24 : (Jvm.Cond.code ({ cls := "jdk/internal/util/Preconditions", name := "checkIndex", desc := "(IILjava/util/function/BiFunction;)I" } : Jvm.MethodName) jdk_41_method_11_code (3 : Nat) (Option.some Jvm.ClassFile.FieldType.int)).before args0 about1 = true := code_word (m := ⟨14, 1⟩) (meth := k14m1) (c := k14c1) (by decide +kernel) rfl rfl rfl (by decide +kernel)
set_option maxRecDepth 65536 in
theorem w_c25 : (Jvm.Cond.code ({ cls := "java/lang/StringUTF16", name := "toBytes", desc := "([CII)[B" } : Jvm.MethodName) jdk_52_method_14_code (5 : Nat) (Option.some (Jvm.ClassFile.FieldType.array Jvm.ClassFile.FieldType.byte))).before args0 about1 = true := code_word (m := ⟨10, 6⟩) (meth := k10m6) (c := k10c6) (by decide +kernel) rfl rfl rfl (by decide +kernel)
set_option maxRecDepth 65536 in
theorem w_c26 : (Jvm.Cond.code ({ cls := "java/lang/StringUTF16", name := "newBytesFor", desc := "(I)[B" } : Jvm.MethodName) jdk_52_method_2_code (1 : Nat) (Option.some (Jvm.ClassFile.FieldType.array Jvm.ClassFile.FieldType.byte))).before args0 about1 = true := code_word (m := ⟨10, 1⟩) (meth := k10m1) (c := k10c1) (by decide +kernel) rfl rfl rfl (by decide +kernel)
set_option maxRecDepth 65536 in
theorem w_c27 : (Jvm.Cond.code ({ cls := "java/lang/StringUTF16", name := "newBytesLength", desc := "(I)I" } : Jvm.MethodName) jdk_52_method_3_code (1 : Nat) (Option.some Jvm.ClassFile.FieldType.int)).before args0 about1 = true := code_word (m := ⟨10, 2⟩) (meth := k10m2) (c := k10c2) (by decide +kernel) rfl rfl rfl (by decide +kernel)
set_option maxRecDepth 65536 in
theorem w_c28 : (Jvm.Cond.code ({ cls := "java/lang/StringUTF16", name := "putChar", desc := "([BII)V" } : Jvm.MethodName) jdk_52_method_4_code (3 : Nat) (Option.none : Option Jvm.ClassFile.FieldType)).before args0 about1 = true := code_word (m := ⟨10, 3⟩) (meth := k10m3) (c := k10c3) (by decide +kernel) rfl rfl rfl (by decide +kernel)
set_option maxRecDepth 65536 in
theorem w_c29 : (Jvm.Cond.code ({ cls := "java/lang/StringUTF16", name := "getChar", desc := "([BI)C" } : Jvm.MethodName) jdk_52_method_5_code (2 : Nat) (Option.some Jvm.ClassFile.FieldType.char)).before args0 about1 = true := code_word (m := ⟨10, 4⟩) (meth := k10m4) (c := k10c4) (by decide +kernel) rfl rfl rfl (by decide +kernel)
set_option maxRecDepth 65536 in
theorem w_c30 : (Jvm.Cond.code ({ cls := "java/lang/StringUTF16", name := "indexOf", desc := "([BIII)I" } : Jvm.MethodName) jdk_52_method_40_code (4 : Nat) (Option.some Jvm.ClassFile.FieldType.int)).before args0 about1 = true := code_word (m := ⟨10, 10⟩) (meth := k10m10) (c := k10c10) (by decide +kernel) rfl rfl rfl (by decide +kernel)
set_option maxRecDepth 65536 in
theorem w_c31 : (Jvm.Cond.code ({ cls := "java/lang/StringUTF16", name := "indexOfChar", desc := "([BIII)I" } : Jvm.MethodName) jdk_52_method_47_code (4 : Nat) (Option.some Jvm.ClassFile.FieldType.int)).before args0 about1 = true := code_word (m := ⟨10, 11⟩) (meth := k10m11) (c := k10c11) (by decide +kernel) rfl rfl rfl (by decide +kernel)
set_option maxRecDepth 65536 in
theorem w_c32 : (Jvm.Cond.code ({ cls := "java/lang/StringUTF16", name := "checkBoundsBeginEnd", desc := "(II[B)V" } : Jvm.MethodName) jdk_52_method_93_code (3 : Nat) (Option.none : Option Jvm.ClassFile.FieldType)).before args0 about1 = true := code_word (m := ⟨10, 15⟩) (meth := k10m15) (c := k10c15) (by decide +kernel) rfl rfl rfl (by decide +kernel)
set_option maxRecDepth 65536 in
theorem w_c33 : (Jvm.Cond.code ({ cls := "java/lang/StringUTF16", name := "length", desc := "([B)I" } : Jvm.MethodName) jdk_52_method_6_code (1 : Nat) (Option.some Jvm.ClassFile.FieldType.int)).before args0 about1 = true := code_word (m := ⟨10, 5⟩) (meth := k10m5) (c := k10c5) (by decide +kernel) rfl rfl rfl (by decide +kernel)
set_option maxRecDepth 65536 in
theorem w_c34 : (Jvm.Cond.code ({ cls := "java/lang/String", name := "checkBoundsBeginEnd", desc := "(III)V" } : Jvm.MethodName) jdk_42_method_158_code (3 : Nat) (Option.none : Option Jvm.ClassFile.FieldType)).before args0 about1 = true := code_word (m := ⟨7, 11⟩) (meth := k7m11) (c := k7c11) (by decide +kernel) rfl rfl rfl (by decide +kernel)
set_option maxRecDepth 65536 in
theorem w_c35 : (Jvm.Cond.code ({ cls := "jdk/internal/util/Preconditions", name := "checkFromToIndex", desc := "(IIILjava/util/function/BiFunction;)I" } : Jvm.MethodName) jdk_41_method_12_code (4 : Nat) (Option.some Jvm.ClassFile.FieldType.int)).before args0 about1 = true := code_word (m := ⟨14, 2⟩) (meth := k14m2) (c := k14c2) (by decide +kernel) rfl rfl rfl (by decide +kernel)
set_option maxRecDepth 65536 in
theorem w_c36 : (Jvm.Cond.code ({ cls := "java/lang/StringUTF16", name := "indexOfCharUnsafe", desc := "([BIII)I" } : Jvm.MethodName) jdk_52_method_48_code (5 : Nat) (Option.some Jvm.ClassFile.FieldType.int)).before args0 about1 = true := code_word (m := ⟨10, 12⟩) (meth := k10m12) (c := k10c12) (by decide +kernel) rfl rfl rfl (by decide +kernel)
set_option maxRecDepth 65536 in
theorem w_c37 : (Jvm.Cond.code ({ cls := "java/lang/StringUTF16", name := "charAt", desc := "([BI)C" } : Jvm.MethodName) jdk_52_method_83_code (2 : Nat) (Option.some Jvm.ClassFile.FieldType.char)).before args0 about1 = true := code_word (m := ⟨10, 13⟩) (meth := k10m13) (c := k10c13) (by decide +kernel) rfl rfl rfl (by decide +kernel)
set_option maxRecDepth 65536 in
theorem w_c38 : (Jvm.Cond.code ({ cls := "java/lang/StringUTF16", name := "checkIndex", desc := "(I[B)V" } : Jvm.MethodName) jdk_52_method_91_code (2 : Nat) (Option.none : Option Jvm.ClassFile.FieldType)).before args0 about1 = true := code_word (m := ⟨10, 14⟩) (meth := k10m14) (c := k10c14) (by decide +kernel) rfl rfl rfl (by decide +kernel)
def codes1 : List Jvm.Cond := [Jvm.Cond.code x code maxLocals ret, Jvm.Cond.code ({ cls := "java/lang/String", name := "<init>", desc := "([C)V" } : Jvm.MethodName) jdk_42_method_3_code (2 : Nat) (Option.none : Option Jvm.ClassFile.FieldType), Jvm.Cond.code ({ cls := "java/lang/String", name := "<init>", desc := "([CIILjava/lang/Void;)V" } : Jvm.MethodName) jdk_42_method_149_code (6 : Nat) (Option.none : Option Jvm.ClassFile.FieldType), Jvm.Cond.code ({ cls := "java/lang/Object", name := "<init>", desc := "()V" } : Jvm.MethodName) object_method_1_code (1 : Nat) (Option.none : Option Jvm.ClassFile.FieldType), Jvm.Cond.code ({ cls := "com/example/ward/ward/User", name := "isName", desc := "(Ljava/lang/String;)Z" } : Jvm.MethodName) prog_18_method_2_code (1 : Nat) (Option.some Jvm.ClassFile.FieldType.boolean), Jvm.Cond.code ({ cls := "java/lang/String", name := "isEmpty", desc := "()Z" } : Jvm.MethodName) jdk_42_method_55_code (1 : Nat) (Option.some Jvm.ClassFile.FieldType.boolean), Jvm.Cond.code ({ cls := "java/lang/StringUTF16", name := "compress", desc := "([CII)[B" } : Jvm.MethodName) jdk_52_method_16_code (6 : Nat) (Option.some (Jvm.ClassFile.FieldType.array Jvm.ClassFile.FieldType.byte)), Jvm.Cond.code ({ cls := "java/lang/StringUTF16", name := "compress", desc := "([CI[BII)I" } : Jvm.MethodName) jdk_52_method_21_code (7 : Nat) (Option.some Jvm.ClassFile.FieldType.int), Jvm.Cond.code ({ cls := "java/lang/StringUTF16", name := "coderFromArrayLen", desc := "([BI)B" } : Jvm.MethodName) jdk_52_method_15_code (2 : Nat) (Option.some Jvm.ClassFile.FieldType.byte), Jvm.Cond.code ({ cls := "com/example/ward/ward/UserIsNamePinLaw", name := "ok", desc := "(C)Z" } : Jvm.MethodName) method_2_code (1 : Nat) (Option.some Jvm.ClassFile.FieldType.boolean), Jvm.Cond.code ({ cls := "java/lang/String", name := "indexOf", desc := "(I)I" } : Jvm.MethodName) jdk_42_method_79_code (2 : Nat) (Option.some Jvm.ClassFile.FieldType.int), Jvm.Cond.code ({ cls := "java/lang/String", name := "indexOf", desc := "(II)I" } : Jvm.MethodName) jdk_42_method_80_code (3 : Nat) (Option.some Jvm.ClassFile.FieldType.int), Jvm.Cond.code ({ cls := "java/lang/String", name := "isLatin1", desc := "()Z" } : Jvm.MethodName) jdk_42_method_154_code (1 : Nat) (Option.some Jvm.ClassFile.FieldType.boolean), Jvm.Cond.code ({ cls := "java/lang/String", name := "length", desc := "()I" } : Jvm.MethodName) jdk_42_method_54_code (1 : Nat) (Option.some Jvm.ClassFile.FieldType.int), Jvm.Cond.code ({ cls := "java/lang/String", name := "coder", desc := "()B" } : Jvm.MethodName) jdk_42_method_152_code (1 : Nat) (Option.some Jvm.ClassFile.FieldType.byte), Jvm.Cond.code ({ cls := "java/lang/StringLatin1", name := "indexOf", desc := "([BIII)I" } : Jvm.MethodName) jdk_43_method_22_code (4 : Nat) (Option.some Jvm.ClassFile.FieldType.int), Jvm.Cond.code ({ cls := "java/lang/StringLatin1", name := "canEncode", desc := "(I)Z" } : Jvm.MethodName) jdk_43_method_4_code (1 : Nat) (Option.some Jvm.ClassFile.FieldType.boolean), Jvm.Cond.code ({ cls := "java/lang/Math", name := "max", desc := "(II)I" } : Jvm.MethodName) jdk_29_method_65_code (2 : Nat) (Option.some Jvm.ClassFile.FieldType.int), Jvm.Cond.code ({ cls := "java/lang/Math", name := "min", desc := "(II)I" } : Jvm.MethodName) jdk_29_method_69_code (2 : Nat) (Option.some Jvm.ClassFile.FieldType.int), Jvm.Cond.code ({ cls := "java/lang/StringLatin1", name := "indexOfChar", desc := "([BIII)I" } : Jvm.MethodName) jdk_43_method_23_code (6 : Nat) (Option.some Jvm.ClassFile.FieldType.int), Jvm.Cond.code ({ cls := "com/example/ward/ward/BasicCredentials", name := "holdsControl", desc := "(Ljava/lang/String;)Z" } : Jvm.MethodName) prog_4_method_3_code (3 : Nat) (Option.some Jvm.ClassFile.FieldType.boolean), Jvm.Cond.code ({ cls := "java/lang/String", name := "charAt", desc := "(I)C" } : Jvm.MethodName) jdk_42_method_56_code (2 : Nat) (Option.some Jvm.ClassFile.FieldType.char), Jvm.Cond.code ({ cls := "java/lang/StringLatin1", name := "charAt", desc := "([BI)C" } : Jvm.MethodName) jdk_43_method_2_code (2 : Nat) (Option.some Jvm.ClassFile.FieldType.char), Jvm.Cond.code ({ cls := "java/lang/String", name := "checkIndex", desc := "(II)V" } : Jvm.MethodName) jdk_42_method_155_code (2 : Nat) (Option.none : Option Jvm.ClassFile.FieldType), Jvm.Cond.code ({ cls := "jdk/internal/util/Preconditions", name := "checkIndex", desc := "(IILjava/util/function/BiFunction;)I" } : Jvm.MethodName) jdk_41_method_11_code (3 : Nat) (Option.some Jvm.ClassFile.FieldType.int), Jvm.Cond.code ({ cls := "java/lang/StringUTF16", name := "toBytes", desc := "([CII)[B" } : Jvm.MethodName) jdk_52_method_14_code (5 : Nat) (Option.some (Jvm.ClassFile.FieldType.array Jvm.ClassFile.FieldType.byte)), Jvm.Cond.code ({ cls := "java/lang/StringUTF16", name := "newBytesFor", desc := "(I)[B" } : Jvm.MethodName) jdk_52_method_2_code (1 : Nat) (Option.some (Jvm.ClassFile.FieldType.array Jvm.ClassFile.FieldType.byte)), Jvm.Cond.code ({ cls := "java/lang/StringUTF16", name := "newBytesLength", desc := "(I)I" } : Jvm.MethodName) jdk_52_method_3_code (1 : Nat) (Option.some Jvm.ClassFile.FieldType.int), Jvm.Cond.code ({ cls := "java/lang/StringUTF16", name := "putChar", desc := "([BII)V" } : Jvm.MethodName) jdk_52_method_4_code (3 : Nat) (Option.none : Option Jvm.ClassFile.FieldType), Jvm.Cond.code ({ cls := "java/lang/StringUTF16", name := "getChar", desc := "([BI)C" } : Jvm.MethodName) jdk_52_method_5_code (2 : Nat) (Option.some Jvm.ClassFile.FieldType.char), Jvm.Cond.code ({ cls := "java/lang/StringUTF16", name := "indexOf", desc := "([BIII)I" } : Jvm.MethodName) jdk_52_method_40_code (4 : Nat) (Option.some Jvm.ClassFile.FieldType.int), Jvm.Cond.code ({ cls := "java/lang/StringUTF16", name := "indexOfChar", desc := "([BIII)I" } : Jvm.MethodName) jdk_52_method_47_code (4 : Nat) (Option.some Jvm.ClassFile.FieldType.int), Jvm.Cond.code ({ cls := "java/lang/StringUTF16", name := "checkBoundsBeginEnd", desc := "(II[B)V" } : Jvm.MethodName) jdk_52_method_93_code (3 : Nat) (Option.none : Option Jvm.ClassFile.FieldType), Jvm.Cond.code ({ cls := "java/lang/StringUTF16", name := "length", desc := "([B)I" } : Jvm.MethodName) jdk_52_method_6_code (1 : Nat) (Option.some Jvm.ClassFile.FieldType.int), Jvm.Cond.code ({ cls := "java/lang/String", name := "checkBoundsBeginEnd", desc := "(III)V" } : Jvm.MethodName) jdk_42_method_158_code (3 : Nat) (Option.none : Option Jvm.ClassFile.FieldType), Jvm.Cond.code ({ cls := "jdk/internal/util/Preconditions", name := "checkFromToIndex", desc := "(IIILjava/util/function/BiFunction;)I" } : Jvm.MethodName) jdk_41_method_12_code (4 : Nat) (Option.some Jvm.ClassFile.FieldType.int), Jvm.Cond.code ({ cls := "java/lang/StringUTF16", name := "indexOfCharUnsafe", desc := "([BIII)I" } : Jvm.MethodName) jdk_52_method_48_code (5 : Nat) (Option.some Jvm.ClassFile.FieldType.int), Jvm.Cond.code ({ cls := "java/lang/StringUTF16", name := "charAt", desc := "([BI)C" } : Jvm.MethodName) jdk_52_method_83_code (2 : Nat) (Option.some Jvm.ClassFile.FieldType.char), Jvm.Cond.code ({ cls := "java/lang/StringUTF16", name := "checkIndex", desc := "(I[B)V" } : Jvm.MethodName) jdk_52_method_91_code (2 : Nat) (Option.none : Option Jvm.ClassFile.FieldType)]
set_option maxRecDepth 65536 in
theorem codes_eq : words1.filter isCode = codes1 := rfl
theorem w_codes : ∀ c ∈ words1.filter isCode, c.before args0 about1 = true := by
  rw [codes_eq]
  intro c hc
  simp only [codes1, List.mem_cons, List.not_mem_nil, or_false] at hc
  rcases hc with rfl | rfl | rfl | rfl | rfl | rfl | rfl | rfl | rfl | rfl | rfl | rfl | rfl | rfl | rfl | rfl | rfl | rfl | rfl | rfl | rfl | rfl | rfl | rfl | rfl | rfl | rfl | rfl | rfl | rfl | rfl | rfl | rfl | rfl | rfl | rfl | rfl | rfl | rfl
  · exact w_c0
  · exact w_c1
  · exact w_c2
  · exact w_c3
  · exact w_c4
  · exact w_c5
  · exact w_c6
  · exact w_c7
  · exact w_c8
  · exact w_c9
  · exact w_c10
  · exact w_c11
  · exact w_c12
  · exact w_c13
  · exact w_c14
  · exact w_c15
  · exact w_c16
  · exact w_c17
  · exact w_c18
  · exact w_c19
  · exact w_c20
  · exact w_c21
  · exact w_c22
  · exact w_c23
  · exact w_c24
  · exact w_c25
  · exact w_c26
  · exact w_c27
  · exact w_c28
  · exact w_c29
  · exact w_c30
  · exact w_c31
  · exact w_c32
  · exact w_c33
  · exact w_c34
  · exact w_c35
  · exact w_c36
  · exact w_c37
  · exact w_c38
set_option maxRecDepth 65536 in
theorem w_t1 : (words1.take 24).all (fun c => isCode c || c.before args0 about1) = true := by decide +kernel
set_option maxRecDepth 65536 in
theorem w_t2 : ((words1.drop 24).take 24).all (fun c => isCode c || c.before args0 about1) = true := by decide +kernel
set_option maxRecDepth 65536 in
theorem w_t3 : (((words1.drop 24).drop 24).take 24).all (fun c => isCode c || c.before args0 about1) = true := by decide +kernel
set_option maxRecDepth 65536 in
theorem w_t4 : ((((words1.drop 24).drop 24).drop 24).take 24).all (fun c => isCode c || c.before args0 about1) = true := by decide +kernel
set_option maxRecDepth 65536 in
theorem w_t5 : (((((words1.drop 24).drop 24).drop 24).drop 24).take 24).all (fun c => isCode c || c.before args0 about1) = true := by decide +kernel
set_option maxRecDepth 65536 in
theorem w_t6 : ((((((words1.drop 24).drop 24).drop 24).drop 24).drop 24).take 24).all (fun c => isCode c || c.before args0 about1) = true := by decide +kernel
set_option maxRecDepth 65536 in
theorem w_t7 : ((((((words1.drop 24).drop 24).drop 24).drop 24).drop 24).drop 24).all (fun c => isCode c || c.before args0 about1) = true := by decide +kernel
theorem w_tables : (allAtoms (Jvm.Cond.code x code maxLocals ret :: tables_1)).before args0 about1 = true := by
  rw [allAtoms_all]
  show words1.all (fun c => c.before args0 about1) = true
  refine all_split ?_ w_codes
  rw [← List.take_append_drop 24 words1, List.all_append, w_t1, ← List.take_append_drop 24 (words1.drop 24), List.all_append, w_t2, ← List.take_append_drop 24 ((words1.drop 24).drop 24), List.all_append, w_t3, ← List.take_append_drop 24 (((words1.drop 24).drop 24).drop 24), List.all_append, w_t4, ← List.take_append_drop 24 ((((words1.drop 24).drop 24).drop 24).drop 24), List.all_append, w_t5, ← List.take_append_drop 24 (((((words1.drop 24).drop 24).drop 24).drop 24).drop 24), List.all_append, w_t6, w_t7]
  rfl
set_option maxRecDepth 65536 in
theorem w_rest : rest_1_c.before args0 about1 = true := by decide +kernel
set_option maxRecDepth 65536 in
theorem w_case : (Jvm.Cond.and given_1 narrow_1).before args0 about1 = true := by decide +kernel
set_option maxRecDepth 65536 in
theorem w_consts : constsHeld consts_1 about1 := Jvm.Lit.constsHeldB_iff.mp (by decide +kernel)
theorem w_applies : (headSpec (Jvm.Cond.code x code maxLocals ret :: tables_1) room_1).applies x e0.platform about1 = true :=
  (Spec.applies_iff w_frames).mpr ⟨w_running, w_runnable, w_alone, w_named, w_hears, w_ripe, w_room, w_tables⟩
theorem atStart : AtStart classFile x code maxLocals ret World_1 tables_1 room_1 Calls_1 rest_1 Pre_1 launch0 p0 e0 about1 theMethod args0 below0 :=
  ⟨lists_1, trivial, launch0.admits_env _ _ _, launch0.least_env, fairChoices_fair.cas, fairChoices_fair.clock, w_frames, w_args, w_heap, w_applies, ⟨w_consts, trivial⟩, w_rest, w_case⟩
end start1
theorem witness_1 : WitnessClaimed_1 := ⟨start1.p0, start1.e0, start1.about1, start1.theMethod, start1.args0, start1.below0, start1.atStart⟩
end Jvm.Pilot.@@N@@
