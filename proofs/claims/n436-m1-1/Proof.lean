import JvmDerived
import JvmDerived.Pilot.@@N@@Statement
import JvmDerived.Pilot.@@N@@Code
set_option linter.unusedVariables false
set_option linter.unusedSimpArgs false
set_option maxRecDepth 65536
set_option maxHeartbeats 40000000
/- laws to paste: Road.backV, Road.lenW, Road.chN, Road.codOf, pair_says, shr0, Road.wideBytes, narrow_ch (cut by pick.py; bodies as the Statement names them) -/
namespace Jvm.Pilot.@@N@@
namespace StrChars
open Jvm Sem ClassFile Op Lib Jvm.Stand Jvm.Free.XT Jvm.Free.ALB Jvm.Free.JM Jvm.Free
open Jvm.Lib.Cold (StaticIs)
/-- a char array whose places are chars -/
def Ch (a : Addr) (A : Cell) (U : State) : Prop := Arr .char a A U ∧ Typed .char A
theorem Ch.mv {a : Addr} {A : Cell} {U U' : State} (h : Ch a A U) (hal : U.vm.Alike U'.vm) (hh : U'.heap = U.heap) : Ch a A U' := ⟨h.1.mv hal hh, h.2⟩
theorem Ch.keep {a : Addr} {A : Cell} {U U' : State} (h : Ch a A U) (hal : U.vm.Alike U'.vm) (hk : U'.heap[a]? = some A) : Ch a A U' := ⟨h.1.keep hal hk, h.2⟩
/-- what place i of a char[]'s cell holds -/
def cv (A : Cell) (i : Nat) : Int32 := match A.slots[i]? with | some (.int x) => x | _ => 0
theorem Ch.get {a : Addr} {A : Cell} {U : State} (h : Ch a A U) {i : Nat} (hi : i < A.slots.size) : A.slots[i]? = some (.int (cv A i)) := by
  have e := Array.getElem?_eq_getElem hi
  have f := h.2 i _ e
  unfold cv; rw [e]
  generalize A.slots[i] = v at f
  cases v <;> simp [fits] at f ⊢
/-- the byte that i2b leaves of a char -/
def lo8 (x : Int32) : Int32 := x.toInt8.toInt32
theorem fits_lo8 (y : Int32) : fits .byte (.int (lo8 y)) = true := by
  have h1 := y.toInt8.le_toInt
  have h2 := y.toInt8.toInt_lt
  simp only [lo8, fits, Bool.and_eq_true, decide_eq_true_eq, Int32.le_iff_toInt_le, Int8.toInt_toInt32, show (-128 : Int32).toInt = -128 from by decide, show (127 : Int32).toInt = 127 from by decide]
  omega
/-- A' is A but that each place j of lo .. hi - 1 holds f j -/
def Laid (A A' : Cell) (lo hi : Nat) (f : Nat → Value) : Prop := A'.cls = A.cls ∧ A'.vm = A.vm ∧ A'.slots.size = A.slots.size ∧ ∀ i, A'.slots[i]? = if lo ≤ i ∧ i < hi then some (f i) else A.slots[i]?
theorem Laid.zero (A : Cell) (lo : Nat) (f : Nat → Value) : Laid A A lo (lo + 0) f := ⟨rfl, rfl, rfl, fun i => by rw [if_neg (by omega)]⟩
theorem Laid.step {A Ak : Cell} {lo k : Nat} {f : Nat → Value} {v : Value} (h : Laid A Ak lo k f) (hlo : lo ≤ k) (hk : k < Ak.slots.size) (hv : v = f k) : Laid A (Ak.setSlot k v) lo (k + 1) f := by
  refine ⟨h.1, h.2.1, by simpa [Cell.setSlot] using h.2.2.1, fun i => ?_⟩
  by_cases e : k = i
  · subst e; rw [Cell.slots_setSlot_self v hk, if_pos (by omega), hv]
  · rw [Cell.slots_setSlot_ne v e, h.2.2.2 i]
    by_cases q : lo ≤ i ∧ i < k
    · rw [if_pos q, if_pos (by omega)]
    · rw [if_neg q, if_neg (by omega)]
def U16 : String := "java/lang/StringUTF16"
namespace Cmp5
def yN : MethodName := ⟨"java/lang/StringUTF16", "compress", "([CI[BII)I"⟩
abbrev yB : ByteArray := jdk_52_method_21_code
theorem d0 : decode yB 0 = .ok (.iconst 0, 1) := by decide +kernel
theorem d1 : decode yB 1 = .ok (.istore 5, 2) := by decide +kernel
theorem d3 : decode yB 3 = .ok (.iload 5, 2) := by decide +kernel
theorem d5 : decode yB 5 = .ok (.iload 4, 2) := by decide +kernel
theorem d7 : decode yB 7 = .ok (.if_icmp (.ge) 37, 3) := by decide +kernel
theorem d10 : decode yB 10 = .ok (.aload_n 0, 1) := by decide +kernel
theorem d11 : decode yB 11 = .ok (.iload_n 1, 1) := by decide +kernel
theorem d12 : decode yB 12 = .ok (.caload, 1) := by decide +kernel
theorem d13 : decode yB 13 = .ok (.istore 6, 2) := by decide +kernel
theorem d15 : decode yB 15 = .ok (.iload 6, 2) := by decide +kernel
theorem d17 : decode yB 17 = .ok (.sipush 255, 3) := by decide +kernel
theorem d20 : decode yB 20 = .ok (.if_icmp (.le) 6, 3) := by decide +kernel
theorem d26 : decode yB 26 = .ok (.aload_n 2, 1) := by decide +kernel
theorem d27 : decode yB 27 = .ok (.iload_n 3, 1) := by decide +kernel
theorem d28 : decode yB 28 = .ok (.iload 6, 2) := by decide +kernel
theorem d30 : decode yB 30 = .ok (.i2b, 1) := by decide +kernel
theorem d31 : decode yB 31 = .ok (.bastore, 1) := by decide +kernel
theorem d32 : decode yB 32 = .ok (.iinc 1 1, 3) := by decide +kernel
theorem d35 : decode yB 35 = .ok (.iinc 3 1, 3) := by decide +kernel
theorem d38 : decode yB 38 = .ok (.iinc 5 1, 3) := by decide +kernel
theorem d41 : decode yB 41 = .ok (.goto (-38), 3) := by decide +kernel
theorem d44 : decode yB 44 = .ok (.iload 4, 2) := by decide +kernel
theorem d46 : decode yB 46 = .ok (.ireturn, 1) := by decide +kernel
def site : List Cond := []
def tab : Cond := tabOf yN yB 7 (some .int) site
def P (b : Addr) (A : Cell) (d : Addr) (B : Cell) (o q len : Nat) (args : Array Value) (s : State) : Prop := args = #[.ref b, .int (Int32.ofNat o), .ref d, .int (Int32.ofNat q), .int (Int32.ofNat len)] ∧ Ch b A s ∧ Arr .byte d B s ∧ b ≠ d ∧ o + len ≤ A.slots.size ∧ q + len ≤ B.slots.size ∧ ∀ i, i < len → ¬ 255 < cv A (o + i)
def E (b : Addr) (A : Cell) (d : Addr) (B : Cell) (o q len : Nat) (r : Option Value) (s u : State) : Prop := r = some (.int (Int32.ofNat len)) ∧ ∃ B', Put d B' s u ∧ Laid B B' q (q + len) (fun j => Value.int (lo8 (cv A (o + (j - q)))))
/-- no char of the range above 255: len; the places written hold each char's low byte -/
theorem law (l : Launch) (b : Addr) (A : Cell) (d : Addr) (B : Cell) (o q len : Nat) : Law l yN 5 5 0 0 yB 7 (some .int) site (P b A d B o q len) (E b A d B o q len) (copyLocs d q len) 0 0 := by
  refine Law.of_walk (plainFor_of_name (by decide +kernel)) (by decide +kernel) (by decide +kernel) (by decide) (fun _ _ h => by rw [h.1]; rfl) (fun _ U U' hal hh h => ⟨h.1, h.2.1.mv hal hh, h.2.2.1.mv hal hh, h.2.2.2⟩) (fun r U U' V V' h1 hal h2 h => ⟨h.1, h.2.elim fun B' q => ⟨B', q.1.mv h1 h2, q.2⟩⟩) ?_
  intro p e s m args below meth c s₁ X0 hexec hbytes hml hret hlk hnm hown hh0 W hP
  obtain ⟨rfl, hA, hB, hne, l1, l2, hp⟩ := hP
  have c1 : Steps p.tables e below (s₁.setTop (entryFrame m #[.ref b, .int (Int32.ofNat o), .ref d, .int (Int32.ofNat q), .int (Int32.ofNat len)] 7)) (s₁.setTop (mkF m 0 #[.val (.ref b), .val (.int (Int32.ofNat o)), .val (.ref d), .val (.int (Int32.ofNat q)), .val (.int (Int32.ofNat len)), .unset, .unset] [])) := entry rfl
  have hA0 := hA.1.mv X0.warmed.alike hh0
  have hB0 := hB.mv X0.warmed.alike hh0
  have a31 := hA.1.2.2.2
  have c2 : Steps p.tables e below (s₁.setTop (entryFrame m #[.ref b, .int (Int32.ofNat o), .ref d, .int (Int32.ofNat q), .int (Int32.ofNat len)] 7)) (s₁.setTop (mkF m 3 #[.val (.ref b), .val (.int (Int32.ofNat o)), .val (.ref d), .val (.int (Int32.ofNat q)), .val (.int (Int32.ofNat len)), .val (.int 0), .unset] [])) := c1.trans (by
    refine iconstV X0.here hexec rfl 0 (hb hbytes d0) (by decide) ?_
    refine XS.istore X0.here hexec rfl (hb hbytes d1) rfl rfl ?_
    exact Steps.refl _)
  have loop : ∀ (r i : Nat), i + r = len → ∀ (z : Slot), (z = .unset ∨ ∃ w, z = .val w ∧ w.category = 1) → ∀ (Tl : State) (Bk : Cell), Stand p l e { frames := 0, locals := 0, cells := 0, slots := 0 } s m #[.ref b, .int (Int32.ofNat o), .ref d, .int (Int32.ofNat q), .int (Int32.ofNat len)] below meth c Tl ([] ++ copyLocs d q i) 0 0 → Put d Bk s₁ Tl → Laid B Bk q (q + i) (fun j => Value.int (lo8 (cv A (o + (j - q))))) →
      Steps p.tables e below (s₁.setTop (entryFrame m #[.ref b, .int (Int32.ofNat o), .ref d, .int (Int32.ofNat q), .int (Int32.ofNat len)] 7)) (Tl.setTop (mkF m 3 #[.val (.ref b), .val (.int (Int32.ofNat (o + i))), .val (.ref d), .val (.int (Int32.ofNat (q + i))), .val (.int (Int32.ofNat len)), .val (.int (Int32.ofNat i)), z] [])) → ∃ (T' : State) (B' : Cell) (z' : Slot), Stand p l e { frames := 0, locals := 0, cells := 0, slots := 0 } s m #[.ref b, .int (Int32.ofNat o), .ref d, .int (Int32.ofNat q), .int (Int32.ofNat len)] below meth c T' ([] ++ copyLocs d q len) 0 0 ∧ Put d B' s₁ T' ∧ Laid B B' q (q + len) (fun j => Value.int (lo8 (cv A (o + (j - q))))) ∧
      Steps p.tables e below (s₁.setTop (entryFrame m #[.ref b, .int (Int32.ofNat o), .ref d, .int (Int32.ofNat q), .int (Int32.ofNat len)] 7)) (T'.setTop (mkF m 3 #[.val (.ref b), .val (.int (Int32.ofNat (o + len))), .val (.ref d), .val (.int (Int32.ofNat (q + len))), .val (.int (Int32.ofNat len)), .val (.int (Int32.ofNat len)), z'] [])) := by
    intro r
    induction r with
    | zero =>
      intro i hi z hz Tl Bk Xl pl fl cl
      have hil : i = len := by omega
      rw [hil] at Xl fl cl
      exact ⟨Tl, Bk, z, Xl, pl, fl, cl⟩
    | succ r ih =>
      intro i hi z hz Tl Bk Xl pl fl cl
      have all := X0.warmed.alike.symm.trans Xl.warmed.alike
      have hAl := hA0.keep all (pl.other hne hA0.1)
      have hBk := hB0.like all pl.1 fl.1 fl.2.1 fl.2.2.1
      have hlt : q + i < Bk.slots.size := by rw [fl.2.2.1]; omega
      have c3 : Steps p.tables e below (s₁.setTop (entryFrame m #[.ref b, .int (Int32.ofNat o), .ref d, .int (Int32.ofNat q), .int (Int32.ofNat len)] 7)) (Tl.setTop (mkF m 12 #[.val (.ref b), .val (.int (Int32.ofNat (o + i))), .val (.ref d), .val (.int (Int32.ofNat (q + i))), .val (.int (Int32.ofNat len)), .val (.int (Int32.ofNat i)), z] [.int (Int32.ofNat (o + i)), .ref b])) := cl.trans (by
        refine XS.iload Xl.here hexec rfl (hb hbytes d3) rfl ?_
        refine XS.iload Xl.here hexec rfl (hb hbytes d5) rfl ?_
        refine XS.icmpNo Xl.here hexec rfl (hb hbytes d7) rfl (ii_ge_f (lt32 (by omega) (by omega))) ?_
        refine XS.aloadN Xl.here hexec rfl (hb hbytes d10) rfl rfl ?_
        refine XS.iloadN Xl.here hexec rfl (hb hbytes d11) rfl ?_
        exact Steps.refl _)
      have c4 : Steps p.tables e below (s₁.setTop (entryFrame m #[.ref b, .int (Int32.ofNat o), .ref d, .int (Int32.ofNat q), .int (Int32.ofNat len)] 7)) (Tl.setTop (mkF m 13 #[.val (.ref b), .val (.int (Int32.ofNat (o + i))), .val (.ref d), .val (.int (Int32.ofNat (q + i))), .val (.int (Int32.ofNat len)), .val (.int (Int32.ofNat i)), z] [.int (cv A (o + i))])) := c3.trans (by
        refine Xl.aget hexec hAl rfl (hA.get (i := o + i) (by omega)) rfl rfl (hb hbytes d12) ?_
        exact Steps.refl _)
      have c5 : Steps p.tables e below (s₁.setTop (entryFrame m #[.ref b, .int (Int32.ofNat o), .ref d, .int (Int32.ofNat q), .int (Int32.ofNat len)] 7)) (Tl.setTop (mkF m 15 #[.val (.ref b), .val (.int (Int32.ofNat (o + i))), .val (.ref d), .val (.int (Int32.ofNat (q + i))), .val (.int (Int32.ofNat len)), .val (.int (Int32.ofNat i)), .val (.int (cv A (o + i)))] [])) := c4.trans (by
        refine XS.istoreS Xl.here hexec rfl (hb hbytes d13) rfl rfl hz ?_
        exact Steps.refl _)
      have c6 : Steps p.tables e below (s₁.setTop (entryFrame m #[.ref b, .int (Int32.ofNat o), .ref d, .int (Int32.ofNat q), .int (Int32.ofNat len)] 7)) (Tl.setTop (mkF m 31 #[.val (.ref b), .val (.int (Int32.ofNat (o + i))), .val (.ref d), .val (.int (Int32.ofNat (q + i))), .val (.int (Int32.ofNat len)), .val (.int (Int32.ofNat i)), .val (.int (cv A (o + i)))] [.int (lo8 (cv A (o + i))), .int (Int32.ofNat (q + i)), .ref d])) := c5.trans (by
        refine XS.iload Xl.here hexec rfl (hb hbytes d15) rfl ?_
        refine sipushV Xl.here hexec rfl 255 (hb hbytes d17) (by decide) ?_
        refine XS.icmpYes Xl.here hexec rfl (pc0 := 20) rfl (hb hbytes d20) rfl (ii_le_t (hp i (by omega))) (by decide) rfl ?_
        refine XS.aloadN Xl.here hexec rfl (hb hbytes d26) rfl rfl ?_
        refine XS.iloadN Xl.here hexec rfl (hb hbytes d27) rfl ?_
        refine XS.iload Xl.here hexec rfl (hb hbytes d28) rfl ?_
        refine i2b Xl.here hexec rfl (hb hbytes d30) rfl ?_
        exact Steps.refl _)
      obtain ⟨T7, X7, p7, st7⟩ := Xl.aput hexec hBk rfl hlt rfl (fits_lo8 (cv A (o + i))) (g := (mkF m 31 #[.val (.ref b), .val (.int (Int32.ofNat (o + i))), .val (.ref d), .val (.int (Int32.ofNat (q + i))), .val (.int (Int32.ofNat len)), .val (.int (Int32.ofNat i)), .val (.int (cv A (o + i)))] [.int (lo8 (cv A (o + i))), .int (Int32.ofNat (q + i)), .ref d])) rfl (rest := []) rfl (hb hbytes d31)
      have c8 : Steps p.tables e below (s₁.setTop (entryFrame m #[.ref b, .int (Int32.ofNat o), .ref d, .int (Int32.ofNat q), .int (Int32.ofNat len)] 7)) (T7.setTop (mkF m 32 #[.val (.ref b), .val (.int (Int32.ofNat (o + i))), .val (.ref d), .val (.int (Int32.ofNat (q + i))), .val (.int (Int32.ofNat len)), .val (.int (Int32.ofNat i)), .val (.int (cv A (o + i)))] [])) := c6.trans (st7 _ (Steps.refl _))
      have c9 : Steps p.tables e below (s₁.setTop (entryFrame m #[.ref b, .int (Int32.ofNat o), .ref d, .int (Int32.ofNat q), .int (Int32.ofNat len)] 7)) (T7.setTop (mkF m 3 #[.val (.ref b), .val (.int (Int32.ofNat (o + i) + 1)), .val (.ref d), .val (.int (Int32.ofNat (q + i) + 1)), .val (.int (Int32.ofNat len)), .val (.int (Int32.ofNat i + 1)), .val (.int (cv A (o + i)))] [])) := c8.trans (by
        refine iincV X7.here hexec rfl 1 (hb hbytes d32) (by decide) rfl rfl ?_
        refine iincV X7.here hexec rfl 1 (hb hbytes d35) (by decide) rfl rfl ?_
        refine iincV X7.here hexec rfl 1 (hb hbytes d38) (by decide) rfl rfl ?_
        refine XS.goto X7.here hexec rfl (pc0 := 41) rfl (hb hbytes d41) (by decide) rfl ?_
        exact Steps.refl _)
      have c10 : Steps p.tables e below (s₁.setTop (entryFrame m #[.ref b, .int (Int32.ofNat o), .ref d, .int (Int32.ofNat q), .int (Int32.ofNat len)] 7)) (T7.setTop (mkF m 3 #[.val (.ref b), .val (.int (Int32.ofNat (o + (i + 1)))), .val (.ref d), .val (.int (Int32.ofNat (q + (i + 1)))), .val (.int (Int32.ofNat len)), .val (.int (Int32.ofNat (i + 1))), .val (.int (cv A (o + i)))] [])) := by
        have := c9
        rw [succ32, succ32, succ32] at this
        exact this
      exact ih (i + 1) (by omega) _ (Or.inr ⟨_, rfl, rfl⟩) T7 _ (by rw [copyLocs_step, ← List.append_assoc]; exact X7) (pl.trans p7) (fl.step (by omega) hlt (by simp)) c10
  obtain ⟨T9, B9, z9, X9, p9, f9, g9⟩ := loop len 0 (by omega) .unset (Or.inl rfl) s₁ B (by simpa [copyLocs] using X0) ⟨hB0.1, fun _ _ => rfl, rfl⟩ (Laid.zero _ _ _) c2
  have c11 : Steps p.tables e below (s₁.setTop (entryFrame m #[.ref b, .int (Int32.ofNat o), .ref d, .int (Int32.ofNat q), .int (Int32.ofNat len)] 7)) (T9.setTop (mkF m 46 #[.val (.ref b), .val (.int (Int32.ofNat (o + len))), .val (.ref d), .val (.int (Int32.ofNat (q + len))), .val (.int (Int32.ofNat len)), .val (.int (Int32.ofNat len)), z9] [.int (Int32.ofNat len)])) := g9.trans (by
    refine XS.iload X9.here hexec rfl (hb hbytes d3) rfl ?_
    refine XS.iload X9.here hexec rfl (hb hbytes d5) rfl ?_
    refine XS.icmpYes X9.here hexec rfl (pc0 := 7) rfl (hb hbytes d7) rfl (ii_ge_t (nlt32 (by omega) (Nat.le_refl _))) (by decide) rfl ?_
    refine XS.iload X9.here hexec rfl (hb hbytes d44) rfl ?_
    exact Steps.refl _)
  exact ⟨T9, some (.int (Int32.ofNat len)), _, _, _, X9, by simp, rfl, rfl, (fun h => by cases h), ⟨rfl, B9, p9.from hh0, f9⟩, fun fs hl => c11.trans (X9.ireturnOut hexec hret rfl (Or.inl rfl) (hb hbytes d46) hl)⟩
end Cmp5
namespace Cmp3
def yN : MethodName := ⟨"java/lang/StringUTF16", "compress", "([CII)[B"⟩
abbrev yB : ByteArray := jdk_52_method_16_code
theorem d0 : decode yB 0 = .ok (.iload_n 2, 1) := by decide +kernel
theorem d1 : decode yB 1 = .ok (.newarray .byte, 2) := by decide +kernel
theorem d3 : decode yB 3 = .ok (.astore_n 3, 1) := by decide +kernel
theorem d4 : decode yB 4 = .ok (.aload_n 0, 1) := by decide +kernel
theorem d5 : decode yB 5 = .ok (.iload_n 1, 1) := by decide +kernel
theorem d6 : decode yB 6 = .ok (.aload_n 3, 1) := by decide +kernel
theorem d7 : decode yB 7 = .ok (.iconst 0, 1) := by decide +kernel
theorem d8 : decode yB 8 = .ok (.iload_n 2, 1) := by decide +kernel
theorem d9 : decode yB 9 = .ok (.invokestatic 115, 3) := by decide +kernel
theorem d12 : decode yB 12 = .ok (.istore 4, 2) := by decide +kernel
theorem d14 : decode yB 14 = .ok (.iload 4, 2) := by decide +kernel
theorem d16 : decode yB 16 = .ok (.iload_n 2, 1) := by decide +kernel
theorem d17 : decode yB 17 = .ok (.if_icmp (.eq) 40, 3) := by decide +kernel
theorem d57 : decode yB 57 = .ok (.aload_n 3, 1) := by decide +kernel
theorem d58 : decode yB 58 = .ok (.areturn, 1) := by decide +kernel
def site : List Cond := [.arrayClass .byte, Cmp5.tab] ++ staticW U16 115 Cmp5.yN
def tab : Cond := tabOf yN yB 6 (some (.array .byte)) site
def P (b : Addr) (A : Cell) (o len : Nat) (args : Array Value) (s : State) : Prop := args = #[.ref b, .int (Int32.ofNat o), .int (Int32.ofNat len)] ∧ Ch b A s ∧ o + len ≤ A.slots.size ∧ len ≤ 536870912 ∧ ∀ i, i < len → ¬ 255 < cv A (o + i)
def E (b : Addr) (A : Cell) (o len : Nat) (r : Option Value) (s u : State) : Prop := NewArr .byte "[B" len (fun j => .int (lo8 (cv A (o + j)))) r s u ∧ u.heap.size = s.heap.size + 1
/-- no char of the range above 255: a new byte[] of their low bytes -/
theorem law (l : Launch) (b : Addr) (A : Cell) (o len : Nat) : Law l yN 3 3 1 18 yB 6 (some (.array .byte)) site (P b A o len) (E b A o len) [] 1 len := by
  refine Law.of_walk (plainFor_of_name (by decide +kernel)) (by decide +kernel) (by decide +kernel) (by decide) (fun _ _ h => by rw [h.1]; rfl) (fun _ U U' hal hh h => ⟨h.1, h.2.1.mv hal hh, h.2.2⟩) (fun r U U' V V' h1 hal h2 h => ⟨NewArr.mv r U U' V V' h1 hal h2 h.1, by rw [h1, h2]; exact h.2⟩) ?_
  intro p e s m args below meth c s₁ X0 hexec hbytes hml hret hlk hnm hown hh0 W hP
  obtain ⟨rfl, hA, l1, l2, hp⟩ := hP
  have a31 := hA.1.2.2.2
  have c1 : Steps p.tables e below (s₁.setTop (entryFrame m #[.ref b, .int (Int32.ofNat o), .int (Int32.ofNat len)] 6)) (s₁.setTop (mkF m 0 #[.val (.ref b), .val (.int (Int32.ofNat o)), .val (.int (Int32.ofNat len)), .unset, .unset, .unset] [])) := entry rfl
  have c2 : Steps p.tables e below (s₁.setTop (entryFrame m #[.ref b, .int (Int32.ofNat o), .int (Int32.ofNat len)] 6)) (s₁.setTop (mkF m 1 #[.val (.ref b), .val (.int (Int32.ofNat o)), .val (.int (Int32.ofNat len)), .unset, .unset, .unset] [.int (Int32.ofNat len)])) := c1.trans (by
    refine XS.iloadN X0.here hexec rfl (hb hbytes d0) rfl ?_
    exact Steps.refl _)
  obtain ⟨T3, B3, X3, ba3, bs3, bv3, bh3, bf3, st3⟩ := X0.anew hexec (atype := .byte) (wk W (.arrayClass .byte)) rfl (by show len * 1 ≤ _; omega) (by omega) (g := (mkF m 1 #[.val (.ref b), .val (.int (Int32.ofNat o)), .val (.int (Int32.ofNat len)), .unset, .unset, .unset] [.int (Int32.ofNat len)])) rfl (hb hbytes d1) (rest := []) rfl (Nat.le_refl _) (by show 0 + len ≤ len; omega)
  rw [hh0] at ba3 st3
  have kp3 : XT.Kept s T3 := (XT.Kept.of_eq hh0).push bh3
  have hA3 := hA.keep X3.warmed.alike (kp3 _ _ hA.1.1)
  have hne : b ≠ s.heap.size := hA.1.ne
  have c4 : Steps p.tables e below (s₁.setTop (entryFrame m #[.ref b, .int (Int32.ofNat o), .int (Int32.ofNat len)] 6)) (T3.setTop (mkF m 3 #[.val (.ref b), .val (.int (Int32.ofNat o)), .val (.int (Int32.ofNat len)), .unset, .unset, .unset] [.ref s.heap.size])) := c2.trans (st3 _ (Steps.refl _))
  have c5 : Steps p.tables e below (s₁.setTop (entryFrame m #[.ref b, .int (Int32.ofNat o), .int (Int32.ofNat len)] 6)) (T3.setTop (mkF m 9 #[.val (.ref b), .val (.int (Int32.ofNat o)), .val (.int (Int32.ofNat len)), .val (.ref s.heap.size), .unset, .unset] [.int (Int32.ofNat len), .int 0, .ref s.heap.size, .int (Int32.ofNat o), .ref b])) := c4.trans (by
    refine XS.astoreN X3.here hexec rfl (hb hbytes d3) rfl rfl rfl ?_
    refine XS.aloadN X3.here hexec rfl (hb hbytes d4) rfl rfl ?_
    refine XS.iloadN X3.here hexec rfl (hb hbytes d5) rfl ?_
    refine XS.aloadN X3.here hexec rfl (hb hbytes d6) rfl rfl ?_
    refine iconstV X3.here hexec rfl 0 (hb hbytes d7) (by decide) ?_
    refine XS.iloadN X3.here hexec rfl (hb hbytes d8) rfl ?_
    exact Steps.refl _)
  obtain ⟨v6, T6, X6, E6, g6⟩ := X3.callS hexec (Cmp5.law l b A s.heap.size B3 o 0 len) hown (wks W (staticW U16 115 Cmp5.yN)) (wk W Cmp5.tab) (W := 0) (Nat.le_of_ble_eq_true rfl) (Nat.le_of_ble_eq_true rfl) (Nat.le_refl _) (by show 0 + len + 0 ≤ len; omega) (g := (mkF m 9 #[.val (.ref b), .val (.int (Int32.ofNat o)), .val (.int (Int32.ofNat len)), .val (.ref s.heap.size), .unset, .unset] [.int (Int32.ofNat len), .int (Int32.ofNat 0), .ref s.heap.size, .int (Int32.ofNat o), .ref b])) rfl (by rw [hml]; rfl) c5 (argsL := [.ref b, .int (Int32.ofNat o), .ref s.heap.size, .int (Int32.ofNat 0), .int (Int32.ofNat len)]) (rest := []) rfl rfl (by show 2 * 0 + 0 ≤ _; decide) (hb hbytes d9) (⟨rfl, hA3, ba3, hne, l1, by rw [bs3]; simp, hp⟩)
  obtain ⟨rfl, B6, p6, f6⟩ := E6
  have c7 : Steps p.tables e below (s₁.setTop (entryFrame m #[.ref b, .int (Int32.ofNat o), .int (Int32.ofNat len)] 6)) (T6.setTop (mkF m 12 #[.val (.ref b), .val (.int (Int32.ofNat o)), .val (.int (Int32.ofNat len)), .val (.ref s.heap.size), .unset, .unset] [.int (Int32.ofNat len)])) := g6
  have c8 : Steps p.tables e below (s₁.setTop (entryFrame m #[.ref b, .int (Int32.ofNat o), .int (Int32.ofNat len)] 6)) (T6.setTop (mkF m 58 #[.val (.ref b), .val (.int (Int32.ofNat o)), .val (.int (Int32.ofNat len)), .val (.ref s.heap.size), .val (.int (Int32.ofNat len)), .unset] [.ref s.heap.size])) := c7.trans (by
    refine XS.istore X6.here hexec rfl (hb hbytes d12) rfl rfl ?_
    refine XS.iload X6.here hexec rfl (hb hbytes d14) rfl ?_
    refine XS.iloadN X6.here hexec rfl (hb hbytes d16) rfl ?_
    refine XS.icmpYes X6.here hexec rfl (pc0 := 17) rfl (hb hbytes d17) rfl (ii_eq_t rfl) (by decide) rfl ?_
    refine XS.aloadN X6.here hexec rfl (hb hbytes d57) rfl rfl ?_
    exact Steps.refl _)
  have X8 := X6.wide (L' := []) (cells' := 1) (slots' := len) (fun x hx hlt => by
    simp only [List.nil_append, copyLocs, List.mem_map, List.mem_range] at hx
    obtain ⟨i, -, rfl⟩ := hx
    exact absurd hlt (Nat.lt_irrefl _)) (Nat.le_refl _) (by omega)
  exact ⟨T6, some (.ref s.heap.size), _, _, _, X8, rfl, rfl, rfl, (fun h => by cases h), ⟨⟨rfl, B6, ba3.like (X3.warmed.alike.symm.trans X6.warmed.alike) p6.1 f6.1 f6.2.1 f6.2.2.1, f6.2.1.trans bv3, by rw [X6.warmed.alike.findClass, f6.1]; exact bf3, by rw [f6.2.2.1, bs3]; simp, fun j hj => by rw [f6.2.2.2 j, if_pos (by omega)]; rfl, kp3.put p6 (Nat.le_refl _)⟩, by rw [p6.2.2, bh3, hh0]; simp⟩, fun fs hl => c8.trans (X8.areturnOut hexec rfl hret rfl (hb hbytes d58) hl)⟩
end Cmp3
namespace CodL
def yN : MethodName := ⟨"java/lang/StringUTF16", "coderFromArrayLen", "([BI)B"⟩
abbrev yB : ByteArray := jdk_52_method_15_code
theorem d0 : decode yB 0 = .ok (.iload_n 1, 1) := by decide +kernel
theorem d1 : decode yB 1 = .ok (.aload_n 0, 1) := by decide +kernel
theorem d2 : decode yB 2 = .ok (.arraylength, 1) := by decide +kernel
theorem d3 : decode yB 3 = .ok (.isub, 1) := by decide +kernel
theorem d4 : decode yB 4 = .ok (.bipush 31, 2) := by decide +kernel
theorem d6 : decode yB 6 = .ok (.iushr, 1) := by decide +kernel
theorem d7 : decode yB 7 = .ok (.i2b, 1) := by decide +kernel
theorem d8 : decode yB 8 = .ok (.ireturn, 1) := by decide +kernel
def site : List Cond := []
def tab : Cond := tabOf yN yB 2 (some .byte) site
def P (d : Addr) (B : Cell) (args : Array Value) (s : State) : Prop := args = #[.ref d, .int (Int32.ofNat B.slots.size)] ∧ Arr .byte d B s
def E (r : Option Value) (s u : State) : Prop := XT.PureE (some (.int 0)) r s u
/-- an array as long as the number of chars: LATIN1 -/
theorem law (l : Launch) (d : Addr) (B : Cell) : Law l yN 2 2 0 0 yB 2 (some .byte) site (P d B) E [] 0 0 := by
  refine Law.of_walk (plainFor_of_name (by decide +kernel)) (by decide +kernel) (by decide +kernel) (by decide) (fun _ _ h => by rw [h.1]; rfl) (fun _ U U' hal hh h => ⟨h.1, h.2.mv hal hh⟩) (fun r U U' V V' h1 hal h2 h => XT.PureE.mv r U U' V V' h1 hal h2 h) ?_
  intro p e s m args below meth c s₁ X0 hexec hbytes hml hret hlk hnm hown hh0 W hP
  obtain ⟨rfl, hB⟩ := hP
  have hB0 := hB.mv X0.warmed.alike hh0
  have c1 : Steps p.tables e below (s₁.setTop (entryFrame m #[.ref d, .int (Int32.ofNat B.slots.size)] 2)) (s₁.setTop (mkF m 0 #[.val (.ref d), .val (.int (Int32.ofNat B.slots.size))] [])) := entry rfl
  have c2 : Steps p.tables e below (s₁.setTop (entryFrame m #[.ref d, .int (Int32.ofNat B.slots.size)] 2)) (s₁.setTop (mkF m 2 #[.val (.ref d), .val (.int (Int32.ofNat B.slots.size))] [.ref d, .int (Int32.ofNat B.slots.size)])) := c1.trans (by
    refine XS.iloadN X0.here hexec rfl (hb hbytes d0) rfl ?_
    refine XS.aloadN X0.here hexec rfl (hb hbytes d1) rfl rfl ?_
    exact Steps.refl _)
  have c3 : Steps p.tables e below (s₁.setTop (entryFrame m #[.ref d, .int (Int32.ofNat B.slots.size)] 2)) (s₁.setTop (mkF m 8 #[.val (.ref d), .val (.int (Int32.ofNat B.slots.size))] [.int (lo8 (ushr (Int32.ofNat B.slots.size - Int32.ofNat B.slots.size) 31))])) := c2.trans (by
    refine X0.alen hexec hB0 rfl rfl (hb hbytes d2) ?_
    refine XS.isub X0.here hexec rfl (hb hbytes d3) rfl ?_
    refine bipushV X0.here hexec rfl 31 (hb hbytes d4) (by decide) ?_
    refine iushr X0.here hexec rfl (hb hbytes d6) rfl ?_
    refine i2b X0.here hexec rfl (hb hbytes d7) rfl ?_
    exact Steps.refl _)
  have e0 : lo8 (ushr (Int32.ofNat B.slots.size - Int32.ofNat B.slots.size) 31) = 0 := by rw [Int32.sub_self]; decide
  rw [e0] at c3
  exact ⟨s₁, some (.int 0), _, _, _, X0, rfl, rfl, rfl, (fun h => by cases h), ⟨rfl, hh0⟩, fun fs hl => c3.trans (X0.ireturnOut hexec hret rfl (Or.inr (Or.inr (Or.inl rfl))) (hb hbytes d8) hl)⟩
end CodL
/-- the String at a is Latin-1 over a new byte[] (the heap's one new cell): the low bytes of the len chars of A from o on; every cell but a is kept -/
def Got (a : Addr) (D : Cell) (fV fC : Field) (A : Cell) (o len : Nat) (r : Option Value) (s u : State) : Prop := r = none ∧ ∃ D' V : Cell, Blank "java/lang/String" a D' u ∧ Same D D' [fV.slot, fC.slot] ∧ D'.slots[fV.slot]? = some (.ref s.heap.size) ∧ D'.slots[fC.slot]? = some (.int 0) ∧ Arr .byte s.heap.size V u ∧ V.vm = .none ∧ u.vm.findClass "[B" = some V.cls ∧ V.slots.size = len ∧ (∀ j, j < len → V.slots[j]? = some (.int (lo8 (cv A (o + j))))) ∧ (∀ (y : Addr) (c : Cell), y ≠ a → s.heap[y]? = some c → u.heap[y]? = some c) ∧ u.heap.size = s.heap.size + 1
theorem Got.mv {a : Addr} {D A : Cell} {fV fC : Field} {o len : Nat} : ∀ r (U U' V V' : State), U'.heap = U.heap → V.vm.Alike V'.vm → V'.heap = V.heap → Got a D fV fC A o len r U V → Got a D fV fC A o len r U' V' :=
  fun r U U' V V' h1 hal h2 ⟨e0, D', X, a1, a2, a3, a4, a5, a6, a7, a8, a9, a10, a11⟩ => ⟨e0, D', X, a1.mv hal h2, a2, by rw [h1]; exact a3, a4, by rw [h1]; exact a5.mv hal h2, a6, by rw [hal.findClass]; exact a7, a8, a9, by rw [h1, h2]; exact a10, by rw [h1, h2]; exact a11⟩
namespace New4
def yN : MethodName := ⟨"java/lang/String", "<init>", "([CIILjava/lang/Void;)V"⟩
abbrev yB : ByteArray := jdk_42_method_149_code
theorem d0 : decode yB 0 = .ok (.aload_n 0, 1) := by decide +kernel
theorem d1 : decode yB 1 = .ok (.invokespecial 1, 3) := by decide +kernel
theorem d4 : decode yB 4 = .ok (.iload_n 3, 1) := by decide +kernel
theorem d5 : decode yB 5 = .ok (.ifCond (.ne) 22, 3) := by decide +kernel
theorem d27 : decode yB 27 = .ok (.getstatic 38, 3) := by decide +kernel
theorem d30 : decode yB 30 = .ok (.ifCond (.eq) 28, 3) := by decide +kernel
theorem d33 : decode yB 33 = .ok (.aload_n 1, 1) := by decide +kernel
theorem d34 : decode yB 34 = .ok (.iload_n 2, 1) := by decide +kernel
theorem d35 : decode yB 35 = .ok (.iload_n 3, 1) := by decide +kernel
theorem d36 : decode yB 36 = .ok (.invokestatic 177, 3) := by decide +kernel
theorem d39 : decode yB 39 = .ok (.astore 5, 2) := by decide +kernel
theorem d41 : decode yB 41 = .ok (.aload_n 0, 1) := by decide +kernel
theorem d42 : decode yB 42 = .ok (.aload 5, 2) := by decide +kernel
theorem d44 : decode yB 44 = .ok (.iload_n 3, 1) := by decide +kernel
theorem d45 : decode yB 45 = .ok (.invokestatic 47, 3) := by decide +kernel
theorem d48 : decode yB 48 = .ok (.putfield 15, 3) := by decide +kernel
theorem d51 : decode yB 51 = .ok (.aload_n 0, 1) := by decide +kernel
theorem d52 : decode yB 52 = .ok (.aload 5, 2) := by decide +kernel
theorem d54 : decode yB 54 = .ok (.putfield 9, 3) := by decide +kernel
theorem d57 : decode yB 57 = .ok (.return_, 1) := by decide +kernel
def site : List Cond := [.fieldLink "java/lang/String" 38 "java/lang/String" "COMPACT_STRINGS" "Z", Cmp3.tab, CodL.tab, .laysFinal "java/lang/String" "java/lang/String" "value" "[B", .fieldLink "java/lang/String" 9 "java/lang/String" "value" "[B", .laysFinal "java/lang/String" "java/lang/String" "coder" "B", .fieldLink "java/lang/String" 15 "java/lang/String" "coder" "B"] ++ objW "java/lang/String" 1 ++ staticW "java/lang/String" 177 Cmp3.yN ++ staticW "java/lang/String" 47 CodL.yN
def tab : Cond := tabOf yN yB 6 none site
def P (a : Addr) (D : Cell) (fV fC : Field) (b : Addr) (A : Cell) (z : Int32) (o len : Nat) (args : Array Value) (s : State) : Prop := args = #[.ref a, .ref b, .int (Int32.ofNat o), .int (Int32.ofNat len), .null] ∧ Blank "java/lang/String" a D s ∧ Found "java/lang/String" "value" "[B" fV s ∧ Found "java/lang/String" "coder" "B" fC s ∧ Ch b A s ∧ StaticIs s "java/lang/String" "COMPACT_STRINGS" "Z" (.int z) ∧ ¬ z = 0 ∧ 0 < len ∧ o + len ≤ A.slots.size ∧ len ≤ 536870912 ∧ ∀ i, i < len → ¬ 255 < cv A (o + i)
def E (a : Addr) (D : Cell) (fV fC : Field) (A : Cell) (o len : Nat) (r : Option Value) (s u : State) : Prop := Got a D fV fC A o len r s u
/-- len > 0, no char of the range above 255: a Latin-1 String of their low bytes -/
theorem law (l : Launch) (a : Addr) (D : Cell) (fV fC : Field) (b : Addr) (A : Cell) (z : Int32) (o len : Nat) : Law l yN 5 4 2 35 yB 6 none site (P a D fV fC b A z o len) (E a D fV fC A o len) [⟨a, fC.slot⟩, ⟨a, fV.slot⟩] 1 len := by
  refine Law.of_walk (plainFor_of_name (by decide +kernel)) (by decide +kernel) (by decide +kernel) (by decide) (fun _ _ h => by rw [h.1]; rfl) (fun _ U U' hal hh h => ⟨h.1, h.2.1.mv hal hh, h.2.2.1.al hal, h.2.2.2.1.al hal, h.2.2.2.2.1.mv hal hh, h.2.2.2.2.2.1.there hal hh, h.2.2.2.2.2.2⟩) (fun r U U' V V' h1 hal h2 h => Got.mv r U U' V V' h1 hal h2 h) ?_
  intro p e s m args below meth c s₁ X0 hexec hbytes hml hret hlk hnm hown hh0 W hP
  obtain ⟨rfl, hB, f1, f2, hA, s1, hz, l0, l1, l2, hp⟩ := hP
  have a31 := hA.1.2.2.2
  have c1 : Steps p.tables e below (s₁.setTop (entryFrame m #[.ref a, .ref b, .int (Int32.ofNat o), .int (Int32.ofNat len), .null] 6)) (s₁.setTop (mkF m 0 #[.val (.ref a), .val (.ref b), .val (.int (Int32.ofNat o)), .val (.int (Int32.ofNat len)), .val .null, .unset] [])) := entry rfl
  have c2 : Steps p.tables e below (s₁.setTop (entryFrame m #[.ref a, .ref b, .int (Int32.ofNat o), .int (Int32.ofNat len), .null] 6)) (s₁.setTop (mkF m 1 #[.val (.ref a), .val (.ref b), .val (.int (Int32.ofNat o)), .val (.int (Int32.ofNat len)), .val .null, .unset] [.ref a])) := c1.trans (by
    refine XS.aloadN X0.here hexec rfl (hb hbytes d0) rfl rfl ?_
    exact Steps.refl _)
  obtain ⟨T3, X3, q3, st3⟩ := X0.oinit hexec hown (wks W (objW "java/lang/String" 1)) (g := (mkF m 1 #[.val (.ref a), .val (.ref b), .val (.int (Int32.ofNat o)), .val (.int (Int32.ofNat len)), .val .null, .unset] [.ref a])) rfl (by rw [hml]; rfl) (rest := []) rfl (hb hbytes d1) (W := 0) (by show 2 * 0 + 0 ≤ _; decide) (Nat.le_of_ble_eq_true rfl) (Nat.le_of_ble_eq_true rfl)
  have hh3 := q3.trans hh0
  have c4 : Steps p.tables e below (s₁.setTop (entryFrame m #[.ref a, .ref b, .int (Int32.ofNat o), .int (Int32.ofNat len), .null] 6)) (T3.setTop (mkF m 27 #[.val (.ref a), .val (.ref b), .val (.int (Int32.ofNat o)), .val (.int (Int32.ofNat len)), .val .null, .unset] [])) := (c2.trans (st3 _ (Steps.refl _))).trans (by
    refine XS.iloadN X3.here hexec rfl (hb hbytes d4) rfl ?_
    refine XS.ifYes X3.here hexec rfl (pc0 := 5) rfl (hb hbytes d5) rfl (i0_ne_t (nz32 (by omega) l0)) (by decide) rfl ?_
    exact Steps.refl _)
  obtain ⟨T5, X5, q5, st5⟩ := X3.sget hexec hown (wk W (.fieldLink "java/lang/String" 38 "java/lang/String" "COMPACT_STRINGS" "Z")) s1 (fun _ _ h => by rw [hh3]; exact h) (g := (mkF m 27 #[.val (.ref a), .val (.ref b), .val (.int (Int32.ofNat o)), .val (.int (Int32.ofNat len)), .val .null, .unset] [])) rfl (hb hbytes d27)
  have hh5 := q5.trans hh3
  have c6 : Steps p.tables e below (s₁.setTop (entryFrame m #[.ref a, .ref b, .int (Int32.ofNat o), .int (Int32.ofNat len), .null] 6)) (T5.setTop (mkF m 30 #[.val (.ref a), .val (.ref b), .val (.int (Int32.ofNat o)), .val (.int (Int32.ofNat len)), .val .null, .unset] [.int z])) := c4.trans (st5 _ (Steps.refl _))
  have c7 : Steps p.tables e below (s₁.setTop (entryFrame m #[.ref a, .ref b, .int (Int32.ofNat o), .int (Int32.ofNat len), .null] 6)) (T5.setTop (mkF m 36 #[.val (.ref a), .val (.ref b), .val (.int (Int32.ofNat o)), .val (.int (Int32.ofNat len)), .val .null, .unset] [.int (Int32.ofNat len), .int (Int32.ofNat o), .ref b])) := c6.trans (by
    refine XS.ifNo X5.here hexec rfl (hb hbytes d30) rfl (i0_eq_f hz) ?_
    refine XS.aloadN X5.here hexec rfl (hb hbytes d33) rfl rfl ?_
    refine XS.iloadN X5.here hexec rfl (hb hbytes d34) rfl ?_
    refine XS.iloadN X5.here hexec rfl (hb hbytes d35) rfl ?_
    exact Steps.refl _)
  obtain ⟨v8, T8, X8, E8, g8⟩ := X5.callS hexec (Cmp3.law l b A o len) hown (wks W (staticW "java/lang/String" 177 Cmp3.yN)) (wk W Cmp3.tab) (W := 0) (Nat.le_of_ble_eq_true rfl) (Nat.le_of_ble_eq_true rfl) (Nat.le_refl _) (by show 0 + len ≤ len; omega) (g := (mkF m 36 #[.val (.ref a), .val (.ref b), .val (.int (Int32.ofNat o)), .val (.int (Int32.ofNat len)), .val .null, .unset] [.int (Int32.ofNat len), .int (Int32.ofNat o), .ref b])) rfl (by rw [hml]; rfl) c7 (argsL := [.ref b, .int (Int32.ofNat o), .int (Int32.ofNat len)]) (rest := []) rfl rfl (by show 2 * 0 + 0 ≤ _; decide) (hb hbytes d36) (⟨rfl, hA.mv X5.warmed.alike hh5, l1, l2, hp⟩)
  obtain ⟨e8, z8⟩ := E8
  obtain ⟨rfl, N, n1, n2, n3, n4, n5, n6⟩ := NewArr.mv _ T5 s _ _ hh5.symm (Vm.Alike.refl _) rfl e8
  rw [hh5] at z8
  have hB1 := hB.keep X8.warmed.alike (n6 _ _ hB.1)
  have hne : s.heap.size ≠ a := (Nat.ne_of_lt (Array.getElem?_eq_some_iff.mp hB.1).1).symm
  have c9 : Steps p.tables e below (s₁.setTop (entryFrame m #[.ref a, .ref b, .int (Int32.ofNat o), .int (Int32.ofNat len), .null] 6)) (T8.setTop (mkF m 39 #[.val (.ref a), .val (.ref b), .val (.int (Int32.ofNat o)), .val (.int (Int32.ofNat len)), .val .null, .unset] [.ref s.heap.size])) := g8
  have c10 : Steps p.tables e below (s₁.setTop (entryFrame m #[.ref a, .ref b, .int (Int32.ofNat o), .int (Int32.ofNat len), .null] 6)) (T8.setTop (mkF m 45 #[.val (.ref a), .val (.ref b), .val (.int (Int32.ofNat o)), .val (.int (Int32.ofNat len)), .val .null, .val (.ref s.heap.size)] [.int (Int32.ofNat N.slots.size), .ref s.heap.size, .ref a])) := by
    have hc : Steps p.tables e below (s₁.setTop (entryFrame m #[.ref a, .ref b, .int (Int32.ofNat o), .int (Int32.ofNat len), .null] 6)) (T8.setTop (mkF m 45 #[.val (.ref a), .val (.ref b), .val (.int (Int32.ofNat o)), .val (.int (Int32.ofNat len)), .val .null, .val (.ref s.heap.size)] [.int (Int32.ofNat len), .ref s.heap.size, .ref a])) := c9.trans (by
      refine XS.astore X8.here hexec rfl (hb hbytes d39) rfl rfl rfl ?_
      refine XS.aloadN X8.here hexec rfl (hb hbytes d41) rfl rfl ?_
      refine XS.aload X8.here hexec rfl (hb hbytes d42) rfl rfl ?_
      refine XS.iloadN X8.here hexec rfl (hb hbytes d44) rfl ?_
      exact Steps.refl _)
    rw [n4]; exact hc
  obtain ⟨v11, T11, X11, E11, g11⟩ := X8.callS hexec (CodL.law l s.heap.size N) hown (wks W (staticW "java/lang/String" 47 CodL.yN)) (wk W CodL.tab) (W := 1) (Nat.le_of_ble_eq_true rfl) (Nat.le_of_ble_eq_true rfl) (Nat.le_refl _) (by show 0 + len + 0 ≤ len; omega) (g := (mkF m 45 #[.val (.ref a), .val (.ref b), .val (.int (Int32.ofNat o)), .val (.int (Int32.ofNat len)), .val .null, .val (.ref s.heap.size)] [.int (Int32.ofNat N.slots.size), .ref s.heap.size, .ref a])) rfl (by rw [hml]; rfl) c10 (argsL := [.ref s.heap.size, .int (Int32.ofNat N.slots.size)]) (rest := [.ref a]) rfl rfl (by show 2 * 0 + (1 + 0) ≤ _; decide) (hb hbytes d45) (⟨rfl, n1⟩)
  obtain ⟨rfl, q11⟩ := E11
  have hB11 := hB1.mv (X8.warmed.alike.symm.trans X11.warmed.alike) q11
  have c12 : Steps p.tables e below (s₁.setTop (entryFrame m #[.ref a, .ref b, .int (Int32.ofNat o), .int (Int32.ofNat len), .null] 6)) (T11.setTop (mkF m 48 #[.val (.ref a), .val (.ref b), .val (.int (Int32.ofNat o)), .val (.int (Int32.ofNat len)), .val .null, .val (.ref s.heap.size)] [.int 0, .ref a])) := g11
  obtain ⟨T13, X13, p13, bl13, sl13, st13⟩ := X11.finit hexec hown (wk W (.fieldLink "java/lang/String" 15 "java/lang/String" "coder" "B")) (Or.inr ⟨_, (wk W (.laysFinal "java/lang/String" "java/lang/String" "coder" "B"))⟩) (Or.inl ⟨rfl, hnm⟩) f2 (Or.inl rfl) hB11 (t := .byte) (by decide +kernel) rfl (g := (mkF m 48 #[.val (.ref a), .val (.ref b), .val (.int (Int32.ofNat o)), .val (.int (Int32.ofNat len)), .val .null, .val (.ref s.heap.size)] [.int 0, .ref a])) rfl (rest := []) rfl (hb hbytes d48)
  have c14 : Steps p.tables e below (s₁.setTop (entryFrame m #[.ref a, .ref b, .int (Int32.ofNat o), .int (Int32.ofNat len), .null] 6)) (T13.setTop (mkF m 54 #[.val (.ref a), .val (.ref b), .val (.int (Int32.ofNat o)), .val (.int (Int32.ofNat len)), .val .null, .val (.ref s.heap.size)] [.ref s.heap.size, .ref a])) := (c12.trans (st13 _ (Steps.refl _))).trans (by
    refine XS.aloadN X13.here hexec rfl (hb hbytes d51) rfl rfl ?_
    refine XS.aload X13.here hexec rfl (hb hbytes d52) rfl rfl ?_
    exact Steps.refl _)
  obtain ⟨T15, X15, p15, bl15, sl15, st15⟩ := X13.finit hexec hown (wk W (.fieldLink "java/lang/String" 9 "java/lang/String" "value" "[B")) (Or.inr ⟨_, (wk W (.laysFinal "java/lang/String" "java/lang/String" "value" "[B"))⟩) (Or.inl ⟨rfl, hnm⟩) f1 (Or.inl rfl) bl13 (t := (.array .byte)) (by decide +kernel) rfl (g := (mkF m 54 #[.val (.ref a), .val (.ref b), .val (.int (Int32.ofNat o)), .val (.int (Int32.ofNat len)), .val .null, .val (.ref s.heap.size)] [.ref s.heap.size, .ref a])) rfl (rest := []) rfl (hb hbytes d54)
  have c16 : Steps p.tables e below (s₁.setTop (entryFrame m #[.ref a, .ref b, .int (Int32.ofNat o), .int (Int32.ofNat len), .null] 6)) (T15.setTop (mkF m 57 #[.val (.ref a), .val (.ref b), .val (.int (Int32.ofNat o)), .val (.int (Int32.ofNat len)), .val .null, .val (.ref s.heap.size)] [])) := c14.trans (st15 _ (Steps.refl _))
  have ap := apart (Or.inr ⟨_, (wk W (.laysFinal "java/lang/String" "java/lang/String" "value" "[B"))⟩) (Or.inr ⟨_, (wk W (.laysFinal "java/lang/String" "java/lang/String" "coder" "B"))⟩) f1 f2 (t₁ := .array .byte) (t₂ := .byte) (by decide +kernel) (by decide +kernel) (by decide)
  have al := X8.warmed.alike.symm.trans X15.warmed.alike
  have n7 : T11.heap[s.heap.size]? = some N := by rw [q11]; exact n1.1
  exact ⟨T15, none, _, _, _, X15, by simp, rfl, by omega, (fun _ => rfl), ⟨rfl, _, N, bl15, ((Same.refl D _).set _ (by simp)).set _ (by simp), sl15, (Cell.slots_setSlot_ne _ ap).trans sl13, n1.keep al (p15.other hne (p13.other hne n7)), n2, by rw [al.findClass]; exact n3, n4, n5, fun y c h1 h2 => p15.other h1 (p13.other h1 (by rw [q11]; exact n6 y c h2)), by rw [p15.2.2, p13.2.2, q11]; exact z8⟩, fun fs hl => c16.trans (X15.returnOut hexec hret (hb hbytes d57) hl)⟩
end New4
namespace New1
def yN : MethodName := ⟨"java/lang/String", "<init>", "([C)V"⟩
abbrev yB : ByteArray := jdk_42_method_3_code
theorem d0 : decode yB 0 = .ok (.aload_n 0, 1) := by decide +kernel
theorem d1 : decode yB 1 = .ok (.aload_n 1, 1) := by decide +kernel
theorem d2 : decode yB 2 = .ok (.iconst 0, 1) := by decide +kernel
theorem d3 : decode yB 3 = .ok (.aload_n 1, 1) := by decide +kernel
theorem d4 : decode yB 4 = .ok (.arraylength, 1) := by decide +kernel
theorem d5 : decode yB 5 = .ok (.aconst_null, 1) := by decide +kernel
theorem d6 : decode yB 6 = .ok (.invokespecial 27, 3) := by decide +kernel
theorem d9 : decode yB 9 = .ok (.return_, 1) := by decide +kernel
def site : List Cond := [New4.tab] ++ initW "java/lang/String" 27 New4.yN
def tab : Cond := tabOf yN yB 2 none site
def P (a : Addr) (D : Cell) (fV fC : Field) (b : Addr) (A : Cell) (z : Int32) (args : Array Value) (s : State) : Prop := args = #[.ref a, .ref b] ∧ Blank "java/lang/String" a D s ∧ Found "java/lang/String" "value" "[B" fV s ∧ Found "java/lang/String" "coder" "B" fC s ∧ Ch b A s ∧ StaticIs s "java/lang/String" "COMPACT_STRINGS" "Z" (.int z) ∧ ¬ z = 0 ∧ 0 < A.slots.size ∧ A.slots.size ≤ 536870912 ∧ ∀ i, i < A.slots.size → ¬ 255 < cv A i
def E (a : Addr) (D : Cell) (fV fC : Field) (A : Cell) (r : Option Value) (s u : State) : Prop := Got a D fV fC A 0 A.slots.size r s u
/-- new String(chars), not empty, no char above 255: a Latin-1 String of their low bytes -/
theorem law (l : Launch) (a : Addr) (D : Cell) (fV fC : Field) (b : Addr) (A : Cell) (z : Int32) : Law l yN 2 1 3 52 yB 2 none site (P a D fV fC b A z) (E a D fV fC A) [⟨a, fC.slot⟩, ⟨a, fV.slot⟩] 1 A.slots.size := by
  refine Law.of_walk (plainFor_of_name (by decide +kernel)) (by decide +kernel) (by decide +kernel) (by decide) (fun _ _ h => by rw [h.1]; rfl) (fun _ U U' hal hh h => ⟨h.1, h.2.1.mv hal hh, h.2.2.1.al hal, h.2.2.2.1.al hal, h.2.2.2.2.1.mv hal hh, h.2.2.2.2.2.1.there hal hh, h.2.2.2.2.2.2⟩) (fun r U U' V V' h1 hal h2 h => Got.mv r U U' V V' h1 hal h2 h) ?_
  intro p e s m args below meth c s₁ X0 hexec hbytes hml hret hlk hnm hown hh0 W hP
  obtain ⟨rfl, hB, f1, f2, hA, s1, hz, l0, l2, hp⟩ := hP
  have c1 : Steps p.tables e below (s₁.setTop (entryFrame m #[.ref a, .ref b] 2)) (s₁.setTop (mkF m 0 #[.val (.ref a), .val (.ref b)] [])) := entry rfl
  have c2 : Steps p.tables e below (s₁.setTop (entryFrame m #[.ref a, .ref b] 2)) (s₁.setTop (mkF m 6 #[.val (.ref a), .val (.ref b)] [.null, .int (Int32.ofNat A.slots.size), .int 0, .ref b, .ref a])) := c1.trans (by
    refine XS.aloadN X0.here hexec rfl (hb hbytes d0) rfl rfl ?_
    refine XS.aloadN X0.here hexec rfl (hb hbytes d1) rfl rfl ?_
    refine iconstV X0.here hexec rfl 0 (hb hbytes d2) (by decide) ?_
    refine XS.aloadN X0.here hexec rfl (hb hbytes d3) rfl rfl ?_
    refine X0.alen hexec (hA.1.mv X0.warmed.alike hh0) rfl rfl (hb hbytes d4) ?_
    refine XS.aconstNull X0.here hexec rfl (hb hbytes d5) ?_
    exact Steps.refl _)
  obtain ⟨v3, T3, X3, E3, g3⟩ := X0.callN hexec (New4.law l a D fV fC b A z 0 A.slots.size) rfl hown (wks W (initW "java/lang/String" 27 New4.yN)) (W New4.tab (by simp only [site, List.mem_cons, List.mem_append, true_or, or_true])) (W := 0) (Nat.le_of_ble_eq_true rfl) (Nat.le_of_ble_eq_true rfl) (Nat.le_refl _) (by show 0 + A.slots.size ≤ A.slots.size; omega) (g := (mkF m 6 #[.val (.ref a), .val (.ref b)] [.null, .int (Int32.ofNat A.slots.size), .int (Int32.ofNat 0), .ref b, .ref a])) rfl (by rw [hml]; rfl) c2 (argsL := [.ref b, .int (Int32.ofNat 0), .int (Int32.ofNat A.slots.size), .null]) (rest := []) rfl rfl (by show 2 * 0 + 0 ≤ _; decide) (hb hbytes d6) (⟨rfl, hB.mv X0.warmed.alike hh0, f1.al X0.warmed.alike, f2.al X0.warmed.alike, hA.mv X0.warmed.alike hh0, s1.there X0.warmed.alike hh0, hz, l0, by omega, l2, fun i hi => by rw [Nat.zero_add]; exact hp i hi⟩)
  have e0 := Got.mv _ s₁ s _ _ hh0.symm (Vm.Alike.refl _) rfl E3
  obtain rfl := e0.1
  have c4 : Steps p.tables e below (s₁.setTop (entryFrame m #[.ref a, .ref b] 2)) (T3.setTop (mkF m 9 #[.val (.ref a), .val (.ref b)] [])) := g3
  exact ⟨T3, none, _, _, _, X3, by simp, rfl, by omega, (fun _ => rfl), e0, fun fs hl => c4.trans (X3.returnOut hexec hret (hb hbytes d9) hl)⟩
theorem pays {l : Launch} {R : Room} {p : Program} {e : Env} {below : List Frame} {s : State} {sargs : Array Value} {len W : Nat} (a : Addr) (D : Cell) (fV fC : Field) (b : Addr) (A : Cell) (z : Int32) (htab : tab.before sargs s = true) (hfr : 4 ≤ R.frames) (hlo : W + 65 ≤ R.locals) :
    Back l R p e below s sargs yN len W (fun A₁ a₁ => A₁.cells + 1 ≤ R.cells ∧ A₁.slots + A.slots.size ≤ R.slots ∧ P a D fV fC b A z a₁ A₁.U) (fun A₁ _ v₁ B₁ => E a D fV fC A v₁ A₁.U B₁.U ∧ B₁.locs = A₁.locs ++ [⟨a, fC.slot⟩, ⟨a, fV.slot⟩] ∧ B₁.cells = A₁.cells + 1 ∧ B₁.slots = A₁.slots + A.slots.size) :=
  (law l a D fV fC b A z).pays htab hfr (by omega)
end New1
/-- the byte, read back as charAt reads it, is the char -/
theorem lo8_mask {x : Int32} (h0 : ¬ x < 0) (h1 : ¬ 255 < x) : lo8 x &&& 255 = x := by
  have t : ∀ k : Fin 256, lo8 (Int32.ofNat k.val) &&& 255 = Int32.ofNat k.val := by decide +kernel
  rw [Int32.lt_iff_toInt_lt] at h0 h1
  have e0 : (0 : Int32).toInt = 0 := rfl
  have e1 : (255 : Int32).toInt = 255 := rfl
  obtain ⟨k, hk⟩ : ∃ k : Nat, x.toInt = k := ⟨x.toInt.toNat, by omega⟩
  have hx : x = Int32.ofNat k := Int32.toInt_inj.mp (by rw [hk, Int32.toInt_ofNat_small (by omega)])
  rw [hx]
  exact t ⟨k, by omega⟩
end StrChars
namespace StrChars.Road
open Jvm Sem ClassFile Op Lib Jvm.Stand Jvm.Free Jvm.Free.XT
open Jvm.Lib.Cold (StaticIs)
abbrev ST : String := "java/lang/String"
/-- every table word that New1's law asks, flat -/
abbrev words : List Jvm.Cond := [.code New1.yN New1.yB 2 none, .initialized ST, .methodLink ST 27 New4.yN, .instanceMethod New4.yN,
  .code New4.yN New4.yB 6 none, .fieldLink ST 38 ST "COMPACT_STRINGS" "Z", .laysFinal ST ST "value" "[B", .fieldLink ST 9 ST "value" "[B", .laysFinal ST ST "coder" "B", .fieldLink ST 15 ST "coder" "B",
  .methodLink ST 1 Lib.objectInit, .instanceMethod Lib.objectInit, .code Lib.objectInit ⟨#[0xb1]⟩ 1 none, .methodLink ST 177 Cmp3.yN, .static Cmp3.yN, .methodLink ST 47 CodL.yN, .static CodL.yN,
  .code Cmp3.yN Cmp3.yB 6 (some (.array .byte)), .initialized U16, .arrayClass .byte, .methodLink U16 115 Cmp5.yN, .static Cmp5.yN, .code Cmp5.yN Cmp5.yB 7 (some .int), .code CodL.yN CodL.yB 2 (some .byte)]
theorem tab_of {a : Array Value} {s : State} (h : ∀ w ∈ words, w.before a s = true) : New1.tab.before a s = true := by
  have h5 : Cmp5.tab.before a s = true := unparts (wk h (.code Cmp5.yN Cmp5.yB 7 (some .int))) (wks h (.initialized Cmp5.yN.cls :: Cmp5.site))
  have hc : CodL.tab.before a s = true := unparts (wk h (.code CodL.yN CodL.yB 2 (some .byte))) (wks h (.initialized CodL.yN.cls :: CodL.site))
  have q5 : ∀ w ∈ Cmp5.tab :: words, w.before a s = true := fun w hw => (List.mem_cons.mp hw).elim (fun e => e ▸ h5) (h w)
  have h3 : Cmp3.tab.before a s = true := unparts (wk q5 (.code Cmp3.yN Cmp3.yB 6 (some (.array .byte)))) (wks q5 (.initialized Cmp3.yN.cls :: Cmp3.site))
  have q3 : ∀ w ∈ Cmp3.tab :: CodL.tab :: words, w.before a s = true := fun w hw => (List.mem_cons.mp hw).elim (fun e => e ▸ h3) fun hw => (List.mem_cons.mp hw).elim (fun e => e ▸ hc) (h w)
  have h4 : New4.tab.before a s = true := unparts (wk q3 (.code New4.yN New4.yB 6 none)) (wks q3 (.initialized New4.yN.cls :: New4.site))
  have q4 : ∀ w ∈ New4.tab :: words, w.before a s = true := fun w hw => (List.mem_cons.mp hw).elim (fun e => e ▸ h4) (h w)
  exact unparts (wk q4 (.code New1.yN New1.yB 2 none)) (wks q4 (.initialized New1.yN.cls :: New1.site))
/-- the words ride from the start Z to the walk's own state -/
theorem moved {Z s : State} {a0 args : Array Value} (hZ : Z.Warmed39 s.vm) (hw : ∀ d ∈ words, d.before a0 Z = true) : ∀ d ∈ words, d.before args s = true := fun d hd => by
  have q := hw d hd
  have t : ∀ d ∈ words, d = .arrayClass .byte ∨ (d.onTables && d.keepsFace) = true := by decide +kernel
  rcases t d hd with rfl | t
  · exact RoadKit.mvA hZ q
  · exact RoadKit.mv hZ q t
/-- WHAT COMES BACK, over the tables of the start Z: h the heap at the call, h' behind it -/
def Q (Z : State) (x : Addr) (A : Cell) (h : Heap) (v : Option Value) (h' : Heap) (L : List Loc) : Prop := v = none ∧ (∀ y ∈ L, y.base = x) ∧ RoadKit.Keep h h' [x] ∧ h'.size = h.size + 1 ∧ RoadKit.Exa Z h' x ST ∧ RoadKit.Fld Z h' x ST "value" "[B" (.ref h.size) ∧ RoadKit.Fld Z h' x ST "coder" "B" (.int 0) ∧
  (∃ V : Cell, RoadKit.Arr Z h' h.size V .byte ∧ V.vm = .none ∧ Z.vm.findClass "[B" = some V.cls ∧ V.slots.size = A.slots.size ∧ ∀ j, j < A.slots.size → V.slots[j]? = some (.int (lo8 (cv A j)))) ∧
  ∀ (O n d : String) (w : Value), RoadKit.Fld Z h x O n d w → RoadKit.slotOf Z O n d ≠ RoadKit.slotOf Z ST "value" "[B" → RoadKit.slotOf Z O n d ≠ RoadKit.slotOf Z ST "coder" "B" → RoadKit.Fld Z h' x O n d w
/-- **new String(chars) AT A CALL, IN THE ROAD'S FORM**: for specialBack behind newO: x the fresh String, b the char[] with the cell A -/
theorem back {p : Program} {l : Launch} {e : Env} {R : Room} {s : State} {args : Array Value} {below : List Frame} {len W : Nat} {Z : State} {a0 : Array Value} {h : Heap} (hZ : Z.Warmed39 s.vm) (hw : ∀ d ∈ words, d.before a0 Z = true) {kI : Nat} (wi : (Jvm.Cond.instantiable ST kI).before a0 Z = true)
    {x b : Addr} {A : Cell} {z : Int32} {v0 c0 : Value} (E : RoadKit.Exa Z h x ST) (V : RoadKit.Fld Z h x ST "value" "[B" v0) (C : RoadKit.Fld Z h x ST "coder" "B" c0) (K : RoadKit.Arr Z h b A .char) (hty : Typed .char A) (S : RoadKit.Sta Z h ST "COMPACT_STRINGS" "Z" (.int z)) (hz : ¬ z = 0)
    (l0 : 0 < A.slots.size) (l2 : A.slots.size ≤ 536870912) (hp : ∀ i, i < A.slots.size → ¬ 255 < cv A i) (hfr : 4 ≤ R.frames) (hlo : W + 65 ≤ R.locals) :
    Back l R p e below s args New1.yN len W (fun P a => a = #[.ref x, .ref b] ∧ P.U.heap = h ∧ P.cells + 1 ≤ R.cells ∧ P.slots + A.slots.size ≤ R.slots)
      (fun P _ v B => ∃ L, Q Z x A h v B.U.heap L ∧ B.locs = P.locs ++ L ∧ B.cells = P.cells + 1 ∧ B.slots = P.slots + A.slots.size) := by
  intro m meth c P g ig mk a X hg hsize hdg hW hn hp'
  obtain ⟨rfl, rfl, r1, r2⟩ := hp'
  have al : Z.vm.Alike P.U.vm := hZ.alike.trans X.warmed.alike
  obtain ⟨D, cfV, kV, iV, fV, hD, gV, stV, knV, obV, asV, slV⟩ := id V
  obtain ⟨D', cfC, kC, iC, fC, hD', gC, stC, -, -, asC, slC⟩ := id C
  cases hD.symm.trans hD'
  obtain ⟨D2, kD, e1, e2, e3, e4, e5⟩ := id E
  cases hD.symm.trans e1
  obtain ⟨c2, k2, i1, i2, i3, -⟩ := Cond.instantiable_spec wi
  cases e2.symm.trans i1
  cases e3.symm.trans i2
  obtain ⟨kU, u1, u2⟩ := al.2.2 _ _ e3
  have hB : Blank ST x D P.U := ⟨hD, ⟨knV, fun q hq => by rw [hq] at obV; cases obV⟩, by rw [al.findClass]; exact e2, kU, u1, by rw [u2]; exact i3, by rw [u2]; exact e5 i3⟩
  have F1 : Found ST "value" "[B" fV P.U := ⟨SBG.found_only al ⟨cfV, kV, iV, gV⟩, stV⟩
  have F2 : Found ST "coder" "B" fC P.U := ⟨SBG.found_only al ⟨cfC, kC, iC, gC⟩, stC⟩
  have hA : Ch b A P.U := ⟨⟨K.1, State.isArrayOf_alike al K.2.1, K.2.2, by omega⟩, hty⟩
  have hS : StaticIs P.U ST "COMPACT_STRINGS" "Z" (.int z) := by
    obtain ⟨cfS, iS, kS, fS, st, cS, t1, t2, t3, t4, t5, t6, t7⟩ := S
    exact StaticIs.there (s := { Z with heap := P.U.heap }) ⟨cfS, iS, kS, fS, st, cS, t1, t2, t3, t4, t5, (fun q => by rw [q] at t6; cases t6), t7⟩ al rfl
  obtain ⟨v, B, X', ⟨⟨hv, E', V', q1, q2, q3, q4, q5, q6, q7, q8, q9, q10, q11⟩, hl, hc, hs⟩, st⟩ := New1.pays x D fV fC b A z (tab_of (moved hZ hw)) hfr hlo m meth c P g ig mk _ X hg hsize hdg hW hn ⟨r1, r2, rfl, hB, F1, F2, hA, hS, hz, l0, l2, hp⟩
  have al' : Z.vm.Alike B.U.vm := hZ.alike.trans X'.warmed.alike
  have hsz : E'.slots.size = D.slots.size := by
    obtain ⟨-, -, -, kB, w1, w2, w3⟩ := q1
    obtain ⟨kB', y1, y2⟩ := al'.2.2 _ _ e3
    rw [q2.2.1] at w1
    cases w1.symm.trans y1
    rw [w3, e5 i3, y2]
  refine ⟨v, B, X', ⟨_, ⟨hv, ?_, ⟨by omega, fun y cy hy hn' => q10 y cy (by simpa using hn') hy, fun y cy hy => ?_⟩, q11, ⟨E', _, q1.1, by rw [q2.2.1]; exact e2, by rw [q2.2.1]; exact e3, by rw [q2.1]; exact obV, fun _ => by rw [hsz]; exact e5 i3⟩,
    ⟨E', cfV, kV, iV, fV, q1.1, gV, stV, by rw [q2.1]; exact knV, by rw [q2.1]; exact obV, by rw [q2.2.1]; exact asV, q3⟩, ⟨E', cfC, kC, iC, fC, q1.1, gC, stC, by rw [q2.1]; exact knV, by rw [q2.1]; exact obV, by rw [q2.2.1]; exact asC, q4⟩,
    ⟨V', ⟨q5.1, State.isArrayOf_alike al'.symm q5.2.1, q5.2.2.1⟩, q6, by rw [← al'.findClass]; exact q7, q8, fun j hj => by have := q9 j hj; rwa [Nat.zero_add] at this⟩, fun O n d w F n1 n2 => ?_⟩, hl, hc, hs⟩, st⟩
  · intro y hy
    simp only [List.mem_cons, List.not_mem_nil, or_false] at hy
    rcases hy with rfl | rfl <;> rfl
  · by_cases q : y = x
    · subst q
      cases hD.symm.trans hy
      exact ⟨E', q1.1, q2.2.1, q2.1, hsz⟩
    · exact ⟨cy, q10 y cy q hy, rfl, rfl, rfl⟩
  · obtain ⟨D3, cf, k, i, f, g1, g2, g3, g4, g5, g6, g7⟩ := F
    cases hD.symm.trans g1
    simp only [RoadKit.slotOf, g2, gV, gC, Option.map_some, Option.getD_some] at n1 n2
    exact ⟨E', cf, k, i, f, q1.1, g2, g3, by rw [q2.1]; exact g4, by rw [q2.1]; exact g5, by rw [q2.2.1]; exact g6, by rw [q2.2.2 f.slot (by simp [n1, n2])]; exact g7⟩
end StrChars.Road
namespace StrChars.Road
open Jvm Sem ClassFile Op Lib Jvm.Stand Jvm.Free Jvm.Free.XT
/-- WHAT COMES BACK, the byte[] as a list of values -/
def QA (Z : State) (x : Addr) (zn : Int32) (cs : List Int32) (h : Heap) (v : Option Value) (h' : Heap) (L : List Loc) : Prop := v = none ∧ (∀ y ∈ L, y.base = x) ∧ RoadKit.Keep h h' [x] ∧ h'.size = h.size + 1 ∧ RoadKit.Exa Z h' x ST ∧ RoadKit.Fld Z h' x ST "value" "[B" (.ref h.size) ∧ RoadKit.Fld Z h' x ST "coder" "B" (.int 0) ∧
  (∃ kb, Z.vm.findClass "[B" = some kb ∧ RoadKit.Arv Z h' h.size kb .byte zn (cs.map fun c => .int (lo8 c)) (.int 0)) ∧
  ∀ (O n d : String) (w : Value), RoadKit.Fld Z h x O n d w → RoadKit.slotOf Z O n d ≠ RoadKit.slotOf Z ST "value" "[B" → RoadKit.slotOf Z O n d ≠ RoadKit.slotOf Z ST "coder" "B" → RoadKit.Fld Z h' x O n d w
/-- **new String(chars) AT A CALL, THE ARRAYS AS LISTS**: the char[] at b holds cs, not empty, no char above 255 -/
theorem backArv {p : Program} {l : Launch} {e : Env} {R : Room} {s : State} {args : Array Value} {below : List Frame} {len W : Nat} {Z : State} {a0 : Array Value} {h : Heap} (hZ : Z.Warmed39 s.vm) (hw : ∀ d ∈ words, d.before a0 Z = true) {kI : Nat} (wi : (Jvm.Cond.instantiable ST kI).before a0 Z = true)
    {x b : Addr} {k : ClassId} {zn z : Int32} {cs : List Int32} {dv v0 c0 : Value} (E : RoadKit.Exa Z h x ST) (V : RoadKit.Fld Z h x ST "value" "[B" v0) (C : RoadKit.Fld Z h x ST "coder" "B" c0) (K : RoadKit.Arv Z h b k .char zn (cs.map Value.int) dv) (S : RoadKit.Sta Z h ST "COMPACT_STRINGS" "Z" (.int z)) (hz : ¬ z = 0)
    (hlen : zn.toNatClampNeg = cs.length) (h0 : 0 < cs.length) (hbig : cs.length ≤ 536870912) (hall : ∀ c ∈ cs, ¬ 255 < c) (hfr : 4 ≤ R.frames) (hlo : W + 65 ≤ R.locals) :
    Back l R p e below s args New1.yN len W (fun P a => a = #[.ref x, .ref b] ∧ P.U.heap = h ∧ P.cells + 1 ≤ R.cells ∧ P.slots + cs.length ≤ R.slots)
      (fun P _ v B => ∃ L, QA Z x zn cs h v B.U.heap L ∧ B.locs = P.locs ++ L ∧ B.cells = P.cells + 1 ∧ B.slots = P.slots + cs.length) := by
  obtain ⟨A, K1, K2, K3, K4, K5, K6⟩ := K
  have e : A.slots.size = cs.length := K3.trans hlen
  have hat : ∀ (i : Nat) (hi : i < cs.length), A.slots[i]? = some (.int cs[i]) := fun i hi => by rw [K5 i (by omega)]; simp [List.getD_eq_getElem?_getD, hi]
  have hcv : ∀ (i : Nat) (hi : i < cs.length), cv A i = cs[i] := fun i hi => by unfold cv; rw [hat i hi]
  have hty : Typed .char A := fun i v hv => by
    have hi : i < A.slots.size := (Array.getElem?_eq_some_iff.mp hv).1
    have q := K5 i hi
    rw [hv] at q
    rw [Option.some.inj q]
    exact K6 i hi
  refine Back.mono (back hZ hw wi E V C K1 hty S hz (by omega) (by omega) (fun i hi => by rw [hcv i (by omega)]; exact hall _ (List.getElem_mem _)) hfr hlo) (fun P a hp => ⟨hp.1, hp.2.1, hp.2.2.1, by rw [e]; exact hp.2.2.2⟩) (fun P a v B hp hq => ?_)
  obtain ⟨L, ⟨q1, q2, q3, q4, q5, q6, q7, ⟨V', v1, v2, v3, v4, v5⟩, q9⟩, hl, hc, hs⟩ := hq
  refine ⟨L, ⟨q1, q2, q3, q4, q5, q6, q7, ⟨V'.cls, v3, V', v1, rfl, by rw [v4, e, hlen], K4, fun i hi => ?_, fun i hi => ?_⟩, q9⟩, hl, hc, by rw [hs, e]⟩
  · have hi' : i < cs.length := by omega
    rw [v5 i (by omega), hcv i hi']; simp [List.getD_eq_getElem?_getD, hi']
  · have hi' : i < cs.length := by omega
    simp only [List.getD_eq_getElem?_getD, List.getElem?_map, List.getElem?_eq_getElem hi', Option.map_some, Option.getD_some]
    exact fits_lo8 _
end StrChars.Road
namespace StrChars.Road
open Jvm Sem ClassFile Op Lib Jvm.Stand Jvm.Free Jvm.Free.XT
/-- WHAT COMES BACK, in the writer's own shape -/
def QV (Z : State) (x : Addr) (N : Int32) (bs : List Int32) (h : Heap) (n0 : Nat) (v : Option Value) (h' : Heap) (L : List Loc) : Prop := v = none ∧ RoadKit.Fr n0 L ∧ RoadKit.Keep h h' [x] ∧ RoadKit.Exa Z h' x ST ∧ RoadKit.Fld Z h' x ST "coder" "B" (.int 0) ∧
  ∃ (t : Addr) (kb : ClassId), n0 ≤ t ∧ h.size ≤ t ∧ ¬ t = x ∧ RoadKit.Fld Z h' x ST "value" "[B" (.ref t) ∧ RoadKit.Arv Z h' t kb .byte N (bs.map Value.int) (.int 0)
/-- **new String(chars) AT A CALL, FOR THE WRITER**: a char[] of n known ints, each 0 to 255 -/
theorem backV {p : Program} {l : Launch} {e : Env} {R : Room} {s : State} {args : Array Value} {below : List Frame} {len W : Nat} {Z : State} {a0 : Array Value} {h : Heap} (hZ : Z.Warmed39 s.vm) (hw : ∀ d ∈ words, d.before a0 Z = true) {kI : Nat} (wi : (Jvm.Cond.instantiable ST kI).before a0 Z = true)
    {x b : Addr} {kC : ClassId} {cs bs : List Int32} {d v0 c0 : Value} {z N : Int32} {n n0 : Nat} (hx0 : n0 ≤ x) (hh0 : n0 ≤ h.size) (E : RoadKit.Exa Z h x ST) (V : RoadKit.Fld Z h x ST "value" "[B" v0) (C : RoadKit.Fld Z h x ST "coder" "B" c0) (K : RoadKit.Arv Z h b kC .char N (cs.map Value.int) d) (S : RoadKit.Sta Z h ST "COMPACT_STRINGS" "Z" (.int z)) (hz : ¬ z = 0)
    (hn : cs.length = n) (hN : N = Int32.ofNat n) (l0 : 0 < n) (l2 : n ≤ 4000) (hp : ∀ c ∈ cs, ¬ c < 0 ∧ ¬ (255 : Int32) < c) (hb : bs = cs.map (fun c => c.toInt8.toInt32)) (hfr : 4 ≤ R.frames) (hlo : W + 65 ≤ R.locals) :
    Back l R p e below s args (⟨"java/lang/String", "<init>", "([C)V"⟩ : MethodName) len W (fun P a => a = #[.ref x, .ref b] ∧ P.U.heap = h ∧ P.cells + 1 ≤ R.cells ∧ P.slots + n ≤ R.slots)
      (fun P _ v B => ∃ L, QV Z x N bs h n0 v B.U.heap L ∧ B.locs = P.locs ++ L ∧ B.cells = P.cells + 1 ∧ B.slots = P.slots + n) := by
  subst hn hN hb
  refine Back.mono (backArv hZ hw wi E V C K S hz (n32 (by omega)) l0 (by omega) (fun c hc => (hp c hc).2) hfr hlo) (fun P a hp => hp) (fun P a v B hp hq => ?_)
  obtain ⟨L, ⟨q1, q2, q3, q4, q5, q6, q7, ⟨kb, v1, v2⟩, q9⟩, hl, hc, hs⟩ := hq
  exact ⟨L, ⟨q1, fun y hy => by rw [q2 y hy]; exact hx0, q3, q5, q7, h.size, kb, hh0, Nat.le_refl _, Nat.ne_of_gt E.lt, q6, by rw [List.map_map]; exact v2⟩, hl, hc, hs⟩
end StrChars.Road
namespace StrChars
open Jvm Sem ClassFile Op Lib Jvm.Stand Jvm.Free.XT Jvm.Free.ALB Jvm.Free.JM Jvm.Free
open Jvm.Lib.Cold (StaticIs)
def hi8 (x : Int32) : Int32 := lo8 (x >>> ((8 : Int32) &&& 31))
/-- what StringUTF16.getChar makes of two bytes -/
def pairCh (u v : Int32) : Int32 := (((u &&& 255) <<< ((0 : Int32) &&& 31)) ||| ((v &&& 255) <<< ((8 : Int32) &&& 31))).toUInt32.toUInt16.toUInt32.toInt32
theorem shr0 (c : Int32) : c >>> ((0 : Int32) &&& 31) = c := by
  have e : ((0 : Int32) &&& 31) = 0 := by decide
  rw [e]
  apply Int32.toBitVec_inj.mp
  rw [Int32.toBitVec_shiftRight]
  have e1 : ((0 : Int32).toBitVec.smod 32) = 0#32 := by decide
  rw [e1, BitVec.sshiftRight_eq']
  exact BitVec.sshiftRight_zero
theorem lo8_and (x : Int32) : (lo8 x &&& 255).toBitVec.toNat = x.toBitVec.toNat % 256 := by
  have h : (lo8 x).toBitVec = (x.toBitVec.signExtend 8).signExtend 32 := by rw [lo8, Int8.toBitVec_toInt32, Int32.toBitVec_toInt8]
  rw [Int32.toBitVec_and, BitVec.toNat_and, h]
  have e : ((x.toBitVec.signExtend 8).signExtend 32).toNat % 256 = x.toBitVec.toNat % 256 := by
    rw [BitVec.toNat_signExtend]
    have hlt := x.toBitVec.isLt
    simp only [BitVec.toNat_setWidth, BitVec.toNat_signExtend]
    split <;> split <;> omega
  rw [← e]
  exact Nat.and_two_pow_sub_one_eq_mod _ 8
theorem pair_says {c : Int32} (h0 : ¬ c < 0) (h1 : ¬ 65535 < c) : pairCh (lo8 c) (hi8 c) = c := by
  rw [Int32.lt_iff_toInt_lt] at h0 h1
  have e0 : (0 : Int32).toInt = 0 := rfl
  have e1 : (65535 : Int32).toInt = 65535 := rfl
  have hc : c.toInt = c.toBitVec.toNat := by
    have := c.toBitVec.isLt
    have e : c.toInt = c.toBitVec.toInt := rfl
    rw [e] at h0 h1
    rw [e]
    rw [BitVec.toInt_eq_toNat_cond] at h0 h1 ⊢
    split at h0 <;> split <;> omega
  have hn : c.toBitVec.toNat < 65536 := by omega
  have a1 := lo8_and c
  have a2 : (hi8 c &&& 255).toBitVec.toNat = c.toBitVec.toNat / 256 := by
    rw [hi8, lo8_and]
    have e : ((8 : Int32) &&& 31) = 8 := by decide
    rw [e, Int32.toBitVec_shiftRight]
    have e2 : ((8 : Int32).toBitVec.smod 32) = 8#32 := by decide
    rw [e2, BitVec.sshiftRight_eq', BitVec.toNat_sshiftRight_of_msb_false (by rw [BitVec.msb_eq_false_iff_two_mul_lt]; omega)]
    show c.toBitVec.toNat >>> 8 % 256 = _
    rw [Nat.shiftRight_eq_div_pow]
    omega
  unfold pairCh
  apply Int32.toBitVec_inj.mp
  apply BitVec.eq_of_toNat_eq
  have f0 : ((0 : Int32) &&& 31) = 0 := by decide
  have f8 : ((8 : Int32) &&& 31) = 8 := by decide
  rw [f0, f8]
  have g : (((lo8 c &&& 255) <<< (0 : Int32)) ||| ((hi8 c &&& 255) <<< (8 : Int32))).toBitVec.toNat = c.toBitVec.toNat := by
    rw [Int32.toBitVec_or, Int32.toBitVec_shiftLeft, Int32.toBitVec_shiftLeft]
    have s0 : ((0 : Int32).toBitVec.smod 32) = 0#32 := by decide
    have s8 : ((8 : Int32).toBitVec.smod 32) = 8#32 := by decide
    rw [s0, s8, BitVec.toNat_or]
    simp only [BitVec.shiftLeft_eq', BitVec.toNat_shiftLeft, a1, a2]
    show (c.toBitVec.toNat % 256) <<< 0 % 2 ^ 32 ||| (c.toBitVec.toNat / 256) <<< 8 % 2 ^ 32 = _
    rw [Nat.shiftLeft_zero, Nat.mod_eq_of_lt (show c.toBitVec.toNat % 256 < 2 ^ 32 by omega), Nat.mod_eq_of_lt (show (c.toBitVec.toNat / 256) <<< 8 < 2 ^ 32 by rw [Nat.shiftLeft_eq]; omega), Nat.or_comm, ← Nat.shiftLeft_add_eq_or_of_lt (by omega), Nat.shiftLeft_eq]
    omega
  show BitVec.toNat (((((lo8 c &&& 255) <<< (0 : Int32)) ||| ((hi8 c &&& 255) <<< (8 : Int32))).toBitVec.setWidth 16).setWidth 32) = _
  rw [BitVec.toNat_setWidth, BitVec.toNat_setWidth, g]
  omega
end StrChars
namespace StrChars
open Jvm Sem ClassFile Op Lib Jvm.Stand Jvm.Free.XT Jvm.Free.ALB Jvm.Free.JM Jvm.Free
open Jvm.Lib.Cold (StaticIs)
theorem shr1 {n : Nat} (h : 2 * n < 2 ^ 31) : Int32.ofNat (2 * n) >>> ((1 : Int32) &&& 31) = Int32.ofNat n := by
  have e : ((1 : Int32) &&& 31) = 1 := by decide
  rw [e]
  apply Int32.toBitVec_inj.mp
  rw [Int32.toBitVec_shiftRight]
  have e1 : ((1 : Int32).toBitVec.smod 32) = 1#32 := by decide
  have hm : (BitVec.ofNat 32 (2 * n)).toNat = 2 * n := by rw [BitVec.toNat_ofNat, Nat.mod_eq_of_lt (by omega)]
  rw [e1, BitVec.sshiftRight_eq']
  apply BitVec.eq_of_toNat_eq
  show ((BitVec.ofNat 32 (2 * n)).sshiftRight 1).toNat = (BitVec.ofNat 32 n).toNat
  rw [BitVec.toNat_sshiftRight_of_msb_false (by rw [BitVec.msb_eq_false_iff_two_mul_lt, hm]; omega), hm, BitVec.toNat_ofNat, Nat.shiftRight_eq_div_pow]
  omega
/-- charAt's cast of a byte read back -/
def chr8 (u : Int32) : Int32 := (u &&& 255).toUInt32.toUInt16.toUInt32.toInt32
theorem chr8_lo8 {c : Int32} (h0 : ¬ c < 0) (h1 : ¬ 255 < c) : chr8 (lo8 c) = c := by
  have t : ∀ k : Fin 256, (Int32.ofNat k.val).toUInt32.toUInt16.toUInt32.toInt32 = Int32.ofNat k.val := by decide +kernel
  unfold chr8
  rw [lo8_mask h0 h1]
  rw [Int32.lt_iff_toInt_lt] at h0 h1
  have e0 : (0 : Int32).toInt = 0 := rfl
  have e1 : (255 : Int32).toInt = 255 := rfl
  obtain ⟨k, hk⟩ : ∃ k : Nat, c.toInt = k := ⟨c.toInt.toNat, by omega⟩
  have hx : c = Int32.ofNat k := Int32.toInt_inj.mp (by rw [hk, Int32.toInt_ofNat_small (by omega)])
  rw [hx]
  exact t ⟨k, by omega⟩
theorem narrow_ch {c : Int32} (h0 : ¬ c < 0) (h1 : ¬ 65535 < c) : narrow .char (.int c) = .int c := by
  have q : narrow .char (.int (pairCh (lo8 c) (hi8 c))) = .int (pairCh (lo8 c) (hi8 c)) := narrow_c _
  rwa [pair_says h0 h1] at q
/-- the array's cell V codes the n chars f 0 .. f (n - 1) by the coder cd, as the JDK does: coder 1 just where some char is above 255 -/
def Cod (cd : Int32) (n : Nat) (f : Nat → Int32) (V : Cell) : Prop := (cd = 0 ∧ V.slots.size = n ∧ ∀ j, j < n → V.slots[j]? = some (.int (lo8 (f j))) ∧ ¬ 255 < f j) ∨ (cd = 1 ∧ V.slots.size = 2 * n ∧ (∀ j, j < n → V.slots[2 * j]? = some (.int (lo8 (f j))) ∧ V.slots[2 * j + 1]? = some (.int (hi8 (f j)))) ∧ ∃ j, j < n ∧ 255 < f j)
theorem Cod.cd {cd : Int32} {n : Nat} {f : Nat → Int32} {V : Cell} (h : Cod cd n f V) : cd = 0 ∨ cd = 1 := h.imp (fun q => q.1) fun q => q.1
theorem Cod.len {cd : Int32} {n : Nat} {f : Nat → Int32} {V : Cell} (h : Cod cd n f V) (hs : V.slots.size < 2 ^ 31) : Int32.ofNat V.slots.size >>> (cd &&& 31) = Int32.ofNat n := by
  rcases h with ⟨rfl, h, -⟩ | ⟨rfl, h, -⟩
  · rw [shr0, h]
  · rw [h, shr1 (by omega)]
/-- **x is a String of the n chars f 0 .. f (n - 1)**, Latin-1 or UTF-16; its array at t has the cell V -/
def Txt (x t : Addr) (V : Cell) (cd : Int32) (n : Nat) (f : Nat → Int32) (U : State) : Prop := Exact "java/lang/String" x U ∧ Has x "java/lang/String" "value" "[B" (.ref t) U ∧ Has x "java/lang/String" "coder" "B" (.int cd) U ∧ XT.Arr .byte t V U ∧ Cod cd n f V ∧ ∀ j, j < n → ¬ f j < 0 ∧ ¬ 65535 < f j
theorem Txt.mv {x t : Addr} {V : Cell} {cd : Int32} {n : Nat} {f : Nat → Int32} {U U' : State} (h : Txt x t V cd n f U) (hal : U.vm.Alike U'.vm) (hh : U'.heap = U.heap) : Txt x t V cd n f U' := ⟨h.1.mv hal hh, h.2.1.mv hal hh, h.2.2.1.mv hal hh, h.2.2.2.1.mv hal hh, h.2.2.2.2⟩
namespace Cdr
def yN : MethodName := ⟨"java/lang/String", "coder", "()B"⟩
abbrev yB : ByteArray := jdk_42_method_152_code
theorem d0 : decode yB 0 = .ok (.getstatic 38, 3) := by decide +kernel
theorem d3 : decode yB 3 = .ok (.ifCond (.eq) 10, 3) := by decide +kernel
theorem d6 : decode yB 6 = .ok (.aload_n 0, 1) := by decide +kernel
theorem d7 : decode yB 7 = .ok (.getfield 15, 3) := by decide +kernel
theorem d10 : decode yB 10 = .ok (.goto 4, 3) := by decide +kernel
theorem d14 : decode yB 14 = .ok (.ireturn, 1) := by decide +kernel
def site : List Cond := [.fieldLink "java/lang/String" 38 "java/lang/String" "COMPACT_STRINGS" "Z", .fieldLink "java/lang/String" 15 "java/lang/String" "coder" "B"]
def tab : Cond := tabOf yN yB 1 (some .byte) site
def P (x : Addr) (cd z : Int32) (args : Array Value) (s : State) : Prop := args = #[.ref x] ∧ Has x "java/lang/String" "coder" "B" (.int cd) s ∧ (cd = 0 ∨ cd = 1) ∧ StaticIs s "java/lang/String" "COMPACT_STRINGS" "Z" (.int z) ∧ ¬ z = 0
def E (cd : Int32) (r : Option Value) (s u : State) : Prop := XT.PureE (some (.int cd)) r s u
theorem law (l : Launch) (x : Addr) (cd z : Int32) : Law l yN 1 0 0 0 yB 1 (some .byte) site (P x cd z) (E cd) [] 0 0 := by
  refine Law.of_walk (plainFor_of_name (by decide +kernel)) (by decide +kernel) (by decide +kernel) (by decide) (fun _ _ h => by rw [h.1]; rfl) (fun _ U U' hal hh h => ⟨h.1, h.2.1.mv hal hh, h.2.2.1, h.2.2.2.1.there hal hh, h.2.2.2.2⟩) (fun r U U' V V' h1 hal h2 h => XT.PureE.mv r U U' V V' h1 hal h2 h) ?_
  intro p e s m args below meth c s₁ X0 hexec hbytes hml hret hlk hnm hown hh0 W hP
  obtain ⟨rfl, hx, hc, s1, hz⟩ := hP
  have c1 : Steps p.tables e below (s₁.setTop (entryFrame m #[.ref x] 1)) (s₁.setTop (mkF m 0 #[.val (.ref x)] [])) := entry rfl
  obtain ⟨T2, X2, q2, st2⟩ := X0.sget hexec hown (wk W (.fieldLink "java/lang/String" 38 "java/lang/String" "COMPACT_STRINGS" "Z")) s1 (fun _ _ h => by rw [hh0]; exact h) (g := (mkF m 0 #[.val (.ref x)] [])) rfl (hb hbytes d0)
  have hh2 := q2.trans hh0
  have c3 : Steps p.tables e below (s₁.setTop (entryFrame m #[.ref x] 1)) (T2.setTop (mkF m 7 #[.val (.ref x)] [.ref x])) := (c1.trans (st2 _ (Steps.refl _))).trans (by
    refine XS.ifNo X2.here hexec rfl (hb hbytes d3) rfl (i0_eq_f hz) ?_
    refine XS.aloadN X2.here hexec rfl (hb hbytes d6) rfl rfl ?_
    exact Steps.refl _)
  obtain ⟨T4, X4, q4, st4⟩ := X2.hget hexec hown (wk W (.fieldLink "java/lang/String" 15 "java/lang/String" "coder" "B")) (hx.mv X2.warmed.alike hh2) (g := (mkF m 7 #[.val (.ref x)] [.ref x])) rfl (rest := []) rfl (hb hbytes d7)
  have c5 : Steps p.tables e below (s₁.setTop (entryFrame m #[.ref x] 1)) (T4.setTop (mkF m 14 #[.val (.ref x)] [.int cd])) := (c3.trans (st4 _ (Steps.refl _))).trans (by
    refine XS.goto X4.here hexec rfl (pc0 := 10) rfl (hb hbytes d10) (by decide) rfl ?_
    exact Steps.refl _)
  exact ⟨T4, some (.int cd), _, _, _, X4, rfl, rfl, rfl, (fun h => by cases h), ⟨rfl, q4.trans hh2⟩, fun fs hl => c5.trans (X4.ireturnOut hexec hret (by rcases hc with rfl | rfl <;> rfl) (Or.inr (Or.inr (Or.inl rfl))) (hb hbytes d14) hl)⟩
end Cdr
namespace Len
def yN : MethodName := ⟨"java/lang/String", "length", "()I"⟩
abbrev yB : ByteArray := jdk_42_method_54_code
theorem d0 : decode yB 0 = .ok (.aload_n 0, 1) := by decide +kernel
theorem d1 : decode yB 1 = .ok (.getfield 9, 3) := by decide +kernel
theorem d4 : decode yB 4 = .ok (.arraylength, 1) := by decide +kernel
theorem d5 : decode yB 5 = .ok (.aload_n 0, 1) := by decide +kernel
theorem d6 : decode yB 6 = .ok (.invokevirtual 335, 3) := by decide +kernel
theorem d9 : decode yB 9 = .ok (.ishr, 1) := by decide +kernel
theorem d10 : decode yB 10 = .ok (.ireturn, 1) := by decide +kernel
def site : List Cond := [.fieldLink "java/lang/String" 9 "java/lang/String" "value" "[B", Cdr.tab] ++ virtW "java/lang/String" 335 "java/lang/String" Cdr.yN Cdr.yN
def tab : Cond := tabOf yN yB 1 (some .int) site
def P (x t : Addr) (V : Cell) (cd : Int32) (n : Nat) (f : Nat → Int32) (z : Int32) (args : Array Value) (s : State) : Prop := args = #[.ref x] ∧ Txt x t V cd n f s ∧ StaticIs s "java/lang/String" "COMPACT_STRINGS" "Z" (.int z) ∧ ¬ z = 0
def E (n : Nat) (r : Option Value) (s u : State) : Prop := XT.PureE (some (.int (Int32.ofNat n))) r s u
/-- length() of a String of n chars, in either coding -/
theorem law (l : Launch) (x t : Addr) (V : Cell) (cd : Int32) (n : Nat) (f : Nat → Int32) (z : Int32) : Law l yN 1 0 1 13 yB 1 (some .int) site (P x t V cd n f z) (E n) [] 0 0 := by
  refine Law.of_walk (plainFor_of_name (by decide +kernel)) (by decide +kernel) (by decide +kernel) (by decide) (fun _ _ h => by rw [h.1]; rfl) (fun _ U U' hal hh h => ⟨h.1, h.2.1.mv hal hh, h.2.2.1.there hal hh, h.2.2.2⟩) (fun r U U' V V' h1 hal h2 h => XT.PureE.mv r U U' V V' h1 hal h2 h) ?_
  intro p e s m args below meth c s₁ X0 hexec hbytes hml hret hlk hnm hown hh0 W hP
  obtain ⟨rfl, hx, s1, hz⟩ := hP
  have v31 := hx.2.2.2.1.2.2.2
  have c1 : Steps p.tables e below (s₁.setTop (entryFrame m #[.ref x] 1)) (s₁.setTop (mkF m 1 #[.val (.ref x)] [.ref x])) := Steps.trans (entry rfl) (by
    show Steps p.tables e below (s₁.setTop (mkF m 0 #[.val (.ref x)] [])) _
    refine XS.aloadN X0.here hexec rfl (hb hbytes d0) rfl rfl ?_
    exact Steps.refl _)
  obtain ⟨T2, X2, q2, st2⟩ := X0.hget hexec hown (wk W (.fieldLink "java/lang/String" 9 "java/lang/String" "value" "[B")) (hx.mv X0.warmed.alike hh0).2.1 (g := (mkF m 1 #[.val (.ref x)] [.ref x])) rfl (rest := []) rfl (hb hbytes d1)
  have hh2 := q2.trans hh0
  have hx2 := hx.mv X2.warmed.alike hh2
  have c3 : Steps p.tables e below (s₁.setTop (entryFrame m #[.ref x] 1)) (T2.setTop (mkF m 6 #[.val (.ref x)] [.ref x, .int (Int32.ofNat V.slots.size)])) := (c1.trans (st2 _ (Steps.refl _))).trans (by
    refine X2.alen hexec hx2.2.2.2.1 rfl rfl (hb hbytes d4) ?_
    refine XS.aloadN X2.here hexec rfl (hb hbytes d5) rfl rfl ?_
    exact Steps.refl _)
  obtain ⟨v4, T4, X4, E4, g4⟩ := X2.callV hexec (Cdr.law l x cd z) hown (wks W (virtW "java/lang/String" 335 "java/lang/String" Cdr.yN Cdr.yN)) rfl (by decide) (wk W Cdr.tab) (W := 1) (Nat.le_of_ble_eq_true rfl) (Nat.le_of_ble_eq_true rfl) (Nat.le_refl _) (Nat.le_refl _) (hx2.1.fc X2.warmed.alike) hx2.1.is (g := (mkF m 6 #[.val (.ref x)] [.ref x, .int (Int32.ofNat V.slots.size)])) rfl (by rw [hml]; rfl) c3 (argsL := []) (rest := [.int (Int32.ofNat V.slots.size)]) rfl rfl (by show 2 * 0 + (1 + 0) ≤ _; decide) (hb hbytes d6) (⟨rfl, hx2.2.2.1, hx.2.2.2.2.1.cd, s1.there X2.warmed.alike hh2, hz⟩)
  obtain ⟨rfl, q4⟩ := E4
  have c5 : Steps p.tables e below (s₁.setTop (entryFrame m #[.ref x] 1)) (T4.setTop (mkF m 10 #[.val (.ref x)] [.int (Int32.ofNat V.slots.size >>> (cd &&& 31))])) := Steps.trans g4 (by
    refine ishr X4.here hexec rfl (hb hbytes d9) rfl ?_
    exact Steps.refl _)
  rw [hx.2.2.2.2.1.len v31] at c5
  exact ⟨T4, some (.int (Int32.ofNat n)), _, _, _, X4, rfl, rfl, rfl, (fun h => by cases h), ⟨rfl, q4.trans hh2⟩, fun fs hl => c5.trans (X4.ireturnOut hexec hret rfl (Or.inl rfl) (hb hbytes d10) hl)⟩
theorem pays {l : Launch} {R : Room} {p : Program} {e : Env} {below : List Frame} {s : State} {sargs : Array Value} {len W : Nat} (x t : Addr) (V : Cell) (cd : Int32) (n : Nat) (f : Nat → Int32) (z : Int32) (htab : tab.before sargs s = true) (hfr : 2 ≤ R.frames) (hlo : W + 25 ≤ R.locals) :
    Back l R p e below s sargs yN len W (fun A₁ a₁ => A₁.cells + 0 ≤ R.cells ∧ A₁.slots + 0 ≤ R.slots ∧ P x t V cd n f z a₁ A₁.U) (fun A₁ _ v₁ B₁ => E n v₁ A₁.U B₁.U ∧ B₁.locs = A₁.locs ++ [] ∧ B₁.cells = A₁.cells + 0 ∧ B₁.slots = A₁.slots + 0) :=
  (law l x t V cd n f z).pays htab hfr (by omega)
end Len
namespace IsL
def yN : MethodName := ⟨"java/lang/String", "isLatin1", "()Z"⟩
abbrev yB : ByteArray := jdk_42_method_154_code
theorem d0 : decode yB 0 = .ok (.getstatic 38, 3) := by decide +kernel
theorem d3 : decode yB 3 = .ok (.ifCond (.eq) 14, 3) := by decide +kernel
theorem d6 : decode yB 6 = .ok (.aload_n 0, 1) := by decide +kernel
theorem d7 : decode yB 7 = .ok (.getfield 15, 3) := by decide +kernel
theorem d10 : decode yB 10 = .ok (.ifCond (.ne) 7, 3) := by decide +kernel
theorem d13 : decode yB 13 = .ok (.iconst 1, 1) := by decide +kernel
theorem d14 : decode yB 14 = .ok (.goto 4, 3) := by decide +kernel
theorem d17 : decode yB 17 = .ok (.iconst 0, 1) := by decide +kernel
theorem d18 : decode yB 18 = .ok (.ireturn, 1) := by decide +kernel
def site : List Cond := [.fieldLink "java/lang/String" 38 "java/lang/String" "COMPACT_STRINGS" "Z", .fieldLink "java/lang/String" 15 "java/lang/String" "coder" "B"]
def tab : Cond := tabOf yN yB 1 (some .boolean) site
def P (x : Addr) (cd z : Int32) (args : Array Value) (s : State) : Prop := args = #[.ref x] ∧ Has x "java/lang/String" "coder" "B" (.int cd) s ∧ (cd = 0 ∨ cd = 1) ∧ StaticIs s "java/lang/String" "COMPACT_STRINGS" "Z" (.int z) ∧ ¬ z = 0
def E (cd : Int32) (r : Option Value) (s u : State) : Prop := XT.PureE (some (.int (1 - cd))) r s u
theorem law (l : Launch) (x : Addr) (cd z : Int32) : Law l yN 1 0 0 0 yB 1 (some .boolean) site (P x cd z) (E cd) [] 0 0 := by
  refine Law.of_walk (plainFor_of_name (by decide +kernel)) (by decide +kernel) (by decide +kernel) (by decide) (fun _ _ h => by rw [h.1]; rfl) (fun _ U U' hal hh h => ⟨h.1, h.2.1.mv hal hh, h.2.2.1, h.2.2.2.1.there hal hh, h.2.2.2.2⟩) (fun r U U' V V' h1 hal h2 h => XT.PureE.mv r U U' V V' h1 hal h2 h) ?_
  intro p e s m args below meth c s₁ X0 hexec hbytes hml hret hlk hnm hown hh0 W hP
  obtain ⟨rfl, hx, hc, s1, hz⟩ := hP
  have c1 : Steps p.tables e below (s₁.setTop (entryFrame m #[.ref x] 1)) (s₁.setTop (mkF m 0 #[.val (.ref x)] [])) := entry rfl
  obtain ⟨T2, X2, q2, st2⟩ := X0.sget hexec hown (wk W (.fieldLink "java/lang/String" 38 "java/lang/String" "COMPACT_STRINGS" "Z")) s1 (fun _ _ h => by rw [hh0]; exact h) (g := (mkF m 0 #[.val (.ref x)] [])) rfl (hb hbytes d0)
  have hh2 := q2.trans hh0
  have c3 : Steps p.tables e below (s₁.setTop (entryFrame m #[.ref x] 1)) (T2.setTop (mkF m 7 #[.val (.ref x)] [.ref x])) := (c1.trans (st2 _ (Steps.refl _))).trans (by
    refine XS.ifNo X2.here hexec rfl (hb hbytes d3) rfl (i0_eq_f hz) ?_
    refine XS.aloadN X2.here hexec rfl (hb hbytes d6) rfl rfl ?_
    exact Steps.refl _)
  obtain ⟨T4, X4, q4, st4⟩ := X2.hget hexec hown (wk W (.fieldLink "java/lang/String" 15 "java/lang/String" "coder" "B")) (hx.mv X2.warmed.alike hh2) (g := (mkF m 7 #[.val (.ref x)] [.ref x])) rfl (rest := []) rfl (hb hbytes d7)
  have c5 : Steps p.tables e below (s₁.setTop (entryFrame m #[.ref x] 1)) (T4.setTop (mkF m 10 #[.val (.ref x)] [.int cd])) := c3.trans (st4 _ (Steps.refl _))
  have c6 : Steps p.tables e below (s₁.setTop (entryFrame m #[.ref x] 1)) (T4.setTop (mkF m 18 #[.val (.ref x)] [.int (1 - cd)])) := by
    rcases hc with rfl | rfl
    · exact c5.trans (by
        refine XS.ifNo X4.here hexec rfl (hb hbytes d10) rfl (i0_ne_f rfl) ?_
        refine iconstV X4.here hexec rfl 1 (hb hbytes d13) (by decide) ?_
        refine XS.goto X4.here hexec rfl (pc0 := 14) rfl (hb hbytes d14) (by decide) rfl ?_
        exact Steps.refl _)
    · exact c5.trans (by
        refine XS.ifYes X4.here hexec rfl (pc0 := 10) rfl (hb hbytes d10) rfl (i0_ne_t (by decide)) (by decide) rfl ?_
        refine iconstV X4.here hexec rfl 0 (hb hbytes d17) (by decide) ?_
        exact Steps.refl _)
  exact ⟨T4, some (.int (1 - cd)), _, _, _, X4, rfl, rfl, rfl, (fun h => by cases h), ⟨rfl, q4.trans hh2⟩, fun fs hl => c6.trans (X4.ireturnOut hexec hret (by rcases hc with rfl | rfl <;> rfl) (Or.inr (Or.inl rfl)) (hb hbytes d18) hl)⟩
end IsL
namespace LChA
def yN : MethodName := ⟨"java/lang/StringLatin1", "charAt", "([BI)C"⟩
abbrev yB : ByteArray := jdk_43_method_2_code
theorem d0 : decode yB 0 = .ok (.iload_n 1, 1) := by decide +kernel
theorem d1 : decode yB 1 = .ok (.aload_n 0, 1) := by decide +kernel
theorem d2 : decode yB 2 = .ok (.arraylength, 1) := by decide +kernel
theorem d3 : decode yB 3 = .ok (.invokestatic 9, 3) := by decide +kernel
theorem d6 : decode yB 6 = .ok (.aload_n 0, 1) := by decide +kernel
theorem d7 : decode yB 7 = .ok (.iload_n 1, 1) := by decide +kernel
theorem d8 : decode yB 8 = .ok (.baload, 1) := by decide +kernel
theorem d9 : decode yB 9 = .ok (.sipush 255, 3) := by decide +kernel
theorem d12 : decode yB 12 = .ok (.iand, 1) := by decide +kernel
theorem d13 : decode yB 13 = .ok (.i2c, 1) := by decide +kernel
theorem d14 : decode yB 14 = .ok (.ireturn, 1) := by decide +kernel
def site : List Cond := [JO.Str_checkIndex.tab] ++ staticW "java/lang/StringLatin1" 9 JO.Str_checkIndex.yN
def tab : Cond := tabOf yN yB 2 (some .char) site
def P (t : Addr) (V : Cell) (i : Nat) (u : Int32) (fm : Value) (args : Array Value) (s : State) : Prop := args = #[.ref t, .int (Int32.ofNat i)] ∧ XT.Arr .byte t V s ∧ V.slots[i]? = some (.int u) ∧ (StaticIs s "jdk/internal/util/Preconditions" "SIOOBE_FORMATTER" "Ljava/util/function/BiFunction;" fm ∧ fm.isRef = true)
def E (u : Int32) (r : Option Value) (s w : State) : Prop := XT.PureE (some (.int (chr8 u))) r s w
theorem law (l : Launch) (t : Addr) (V : Cell) (i : Nat) (u : Int32) (fm : Value) : Law l yN 2 2 2 27 yB 2 (some .char) site (P t V i u fm) (E u) [] 0 0 := by
  refine Law.of_walk (plainFor_of_name (by decide +kernel)) (by decide +kernel) (by decide +kernel) (by decide) (fun _ _ h => by rw [h.1]; rfl) (fun _ U U' hal hh h => ⟨h.1, h.2.1.mv hal hh, h.2.2.1, h.2.2.2.1.there hal hh, h.2.2.2.2⟩) (fun r U U' V V' h1 hal h2 h => XT.PureE.mv r U U' V V' h1 hal h2 h) ?_
  intro p e s m args below meth c s₁ X0 hexec hbytes hml hret hlk hnm hown hh0 W hP
  obtain ⟨rfl, hV, hu, s1, rf⟩ := hP
  have v31 := hV.2.2.2
  have hi : i < V.slots.size := (Array.getElem?_eq_some_iff.mp hu).1
  have c1 : Steps p.tables e below (s₁.setTop (entryFrame m #[.ref t, .int (Int32.ofNat i)] 2)) (s₁.setTop (mkF m 0 #[.val (.ref t), .val (.int (Int32.ofNat i))] [])) := entry rfl
  have c2 : Steps p.tables e below (s₁.setTop (entryFrame m #[.ref t, .int (Int32.ofNat i)] 2)) (s₁.setTop (mkF m 3 #[.val (.ref t), .val (.int (Int32.ofNat i))] [.int (Int32.ofNat V.slots.size), .int (Int32.ofNat i)])) := c1.trans (by
    refine XS.iloadN X0.here hexec rfl (hb hbytes d0) rfl ?_
    refine XS.aloadN X0.here hexec rfl (hb hbytes d1) rfl rfl ?_
    refine X0.alen hexec (hV.mv X0.warmed.alike hh0) rfl rfl (hb hbytes d2) ?_
    exact Steps.refl _)
  obtain ⟨v3, T3, X3, E3, g3⟩ := X0.callS hexec (JO.Str_checkIndex.law l (Int32.ofNat i) (Int32.ofNat V.slots.size) fm) hown (wks W (staticW "java/lang/StringLatin1" 9 JO.Str_checkIndex.yN)) (wk W JO.Str_checkIndex.tab) (W := 0) (Nat.le_of_ble_eq_true rfl) (Nat.le_of_ble_eq_true rfl) (Nat.le_refl _) (Nat.le_refl _) (g := (mkF m 3 #[.val (.ref t), .val (.int (Int32.ofNat i))] [.int (Int32.ofNat V.slots.size), .int (Int32.ofNat i)])) rfl (by rw [hml]; rfl) c2 (argsL := [.int (Int32.ofNat i), .int (Int32.ofNat V.slots.size)]) (rest := []) rfl rfl (by show 2 * 0 + 0 ≤ _; decide) (hb hbytes d3) (⟨rfl, rf, s1.there X0.warmed.alike hh0, Int32.ofNat_not_neg (by omega), lt32 v31 hi⟩)
  obtain ⟨rfl, q3⟩ := E3
  have hh3 := q3.trans hh0
  have c4 : Steps p.tables e below (s₁.setTop (entryFrame m #[.ref t, .int (Int32.ofNat i)] 2)) (T3.setTop (mkF m 14 #[.val (.ref t), .val (.int (Int32.ofNat i))] [.int (chr8 u)])) := Steps.trans g3 (by
    refine XS.aloadN X3.here hexec rfl (hb hbytes d6) rfl rfl ?_
    refine XS.iloadN X3.here hexec rfl (hb hbytes d7) rfl ?_
    refine X3.aget hexec (hV.mv X3.warmed.alike hh3) rfl hu rfl rfl (hb hbytes d8) ?_
    refine sipushV X3.here hexec rfl 255 (hb hbytes d9) (by decide) ?_
    refine XS.iand X3.here hexec rfl (hb hbytes d12) rfl ?_
    refine i2c X3.here hexec rfl (hb hbytes d13) rfl ?_
    exact Steps.refl _)
  exact ⟨T3, some (.int (chr8 u)), _, _, _, X3, rfl, rfl, rfl, (fun h => by cases h), ⟨rfl, hh3⟩, fun fs hl => c4.trans (X3.ireturnOut hexec hret (narrow_c _) (Or.inr (Or.inr (Or.inr (Or.inl rfl)))) (hb hbytes d14) hl)⟩
end LChA
end StrChars
namespace StrChars.Road
open Jvm Sem ClassFile Op Lib Jvm.Stand Jvm.Free Jvm.Free.XT
open Jvm.Lib.Cold (StaticIs)
theorem consq {a : Array Value} {s : State} {c : Jvm.Cond} {L : List Jvm.Cond} (h0 : c.before a s = true) (h : ∀ w ∈ L, w.before a s = true) : ∀ w ∈ c :: L, w.before a s = true := fun w hw => (List.mem_cons.mp hw).elim (fun e => e ▸ h0) (h w)
/-- the words of String.length(), either coding -/
abbrev wordsLen : List Jvm.Cond := [.code Len.yN Len.yB 1 (some .int), .initialized ST, .fieldLink ST 9 ST "value" "[B", .fieldLink ST 38 ST "COMPACT_STRINGS" "Z", .fieldLink ST 15 ST "coder" "B", .code Cdr.yN Cdr.yB 1 (some .byte), .methodLink ST 335 Cdr.yN, .declares Cdr.yN, .selects ST Cdr.yN Cdr.yN, .instanceMethod Cdr.yN]
theorem tabLen_of {a : Array Value} {s : State} (h : ∀ w ∈ wordsLen, w.before a s = true) : Len.tab.before a s = true := by
  have hc : Cdr.tab.before a s = true := unparts (wk h (.code Cdr.yN Cdr.yB 1 (some .byte))) (wks h (.initialized Cdr.yN.cls :: Cdr.site))
  have q := consq hc h
  exact unparts (wk q (.code Len.yN Len.yB 1 (some .int))) (wks q (.initialized Len.yN.cls :: Len.site))
theorem movedLen {Z s : State} {a0 args : Array Value} (hZ : Z.Warmed39 s.vm) (hw : ∀ d ∈ wordsLen, d.before a0 Z = true) : ∀ d ∈ wordsLen, d.before args s = true := fun d hd => by
  have q := hw d hd
  have t : ∀ d ∈ wordsLen, d = .arrayClass .byte ∨ (d.onTables && d.keepsFace) = true := by decide +kernel
  rcases t d hd with rfl | t
  · exact RoadKit.mvA hZ q
  · exact RoadKit.mv hZ q t
/-- the bytes of the chars cs, low before high -/
def wideBytes : List Int32 → List Value
  | [] => []
  | c :: cs => .int (lo8 c) :: .int (hi8 c) :: wideBytes cs
theorem wide_lo (d : Value) : ∀ (cs : List Int32) (j : Nat), j < cs.length → (wideBytes cs).getD (2 * j) d = .int (lo8 (cs.getD j 0))
  | [], j, h => absurd h (Nat.not_lt_zero j)
  | c :: cs, 0, _ => rfl
  | c :: cs, j + 1, h => by
    have q := wide_lo d cs j (by simpa using h)
    rw [show 2 * (j + 1) = 2 * j + 1 + 1 from by omega]
    simpa [wideBytes] using q
theorem wide_hi (d : Value) : ∀ (cs : List Int32) (j : Nat), j < cs.length → (wideBytes cs).getD (2 * j + 1) d = .int (hi8 (cs.getD j 0))
  | [], j, h => absurd h (Nat.not_lt_zero j)
  | c :: cs, 0, _ => rfl
  | c :: cs, j + 1, h => by
    have q := wide_hi d cs j (by simpa using h)
    rw [show 2 * (j + 1) + 1 = 2 * j + 1 + 1 + 1 from by omega]
    simpa [wideBytes] using q
theorem low_at (d : Value) (cs : List Int32) (j : Nat) (h : j < cs.length) : (cs.map fun c => Value.int (lo8 c)).getD j d = .int (lo8 (cs.getD j 0)) := by
  simp [List.getD_eq_getElem?_getD, h]
/-- an array of N2 bytes vs codes the chars cs by the coder cd -/
def CodA (cs : List Int32) (cd N2 : Int32) (vs : List Value) : Prop := (cd = 0 ∧ N2 = Int32.ofNat cs.length ∧ vs = (cs.map fun c => Value.int (lo8 c)) ∧ ∀ c ∈ cs, ¬ 255 < c) ∨ (cd = 1 ∧ N2 = Int32.ofNat (2 * cs.length) ∧ vs = wideBytes cs ∧ ∃ c ∈ cs, 255 < c)
theorem CodA.cod {cs : List Int32} {cd N2 : Int32} {vs : List Value} {V : Cell} (h : CodA cs cd N2 vs) (hn : 2 * cs.length < 2 ^ 31) (hs : V.slots.size = N2.toNatClampNeg) (hv : RoadKit.Has V vs (.int 0)) : Cod cd cs.length (fun j => cs.getD j 0) V := by
  rcases h with ⟨rfl, rfl, rfl, h⟩ | ⟨rfl, rfl, rfl, c, hc, hw⟩
  · rw [n32 (by omega)] at hs
    exact Or.inl ⟨rfl, hs, fun j hj => ⟨by rw [hv j (by omega), low_at _ _ _ hj], by
      have e : cs.getD j 0 = cs[j] := by simp [List.getD_eq_getElem?_getD, hj]
      show ¬ 255 < cs.getD j 0
      rw [e]; exact h _ (List.getElem_mem _)⟩⟩
  · rw [n32 (by omega)] at hs
    obtain ⟨j, hj, rfl⟩ := List.getElem_of_mem hc
    exact Or.inr ⟨rfl, hs, fun j hj => ⟨by rw [hv _ (by omega), wide_lo _ _ _ hj], by rw [hv _ (by omega), wide_hi _ _ _ hj]⟩, j, hj, by
      have e : cs.getD j 0 = cs[j] := by simp [List.getD_eq_getElem?_getD, hj]
      show 255 < cs.getD j 0
      rw [e]; exact hw⟩
/-- an object of exactly java/lang/String, its two fields found: as the laws ask it -/
theorem strObj {Z U : State} {a0 : Array Value} {kI : Nat} (wi : (Jvm.Cond.instantiable ST kI).before a0 Z = true) (al : Z.vm.Alike U.vm) {x : Addr} {v0 c0 : Value} (E : RoadKit.Exa Z U.heap x ST) (V : RoadKit.Fld Z U.heap x ST "value" "[B" v0) (C : RoadKit.Fld Z U.heap x ST "coder" "B" c0) :
    ∃ (D : Cell) (fV fC : Field), Blank ST x D U ∧ Found ST "value" "[B" fV U ∧ Found ST "coder" "B" fC U ∧ D.slots[fV.slot]? = some v0 ∧ D.slots[fC.slot]? = some c0 ∧ RoadKit.slotOf Z ST "value" "[B" = fV.slot ∧ RoadKit.slotOf Z ST "coder" "B" = fC.slot := by
  obtain ⟨D, cfV, kV, iV, fV, hD, gV, stV, knV, obV, asV, slV⟩ := V
  obtain ⟨D', cfC, kC, iC, fC, hD', gC, stC, -, -, asC, slC⟩ := C
  cases hD.symm.trans hD'
  obtain ⟨D2, kD, e1, e2, e3, e4, e5⟩ := E
  cases hD.symm.trans e1
  obtain ⟨c2, k2, i1, i2, i3, -⟩ := Cond.instantiable_spec wi
  cases e2.symm.trans i1
  cases e3.symm.trans i2
  obtain ⟨kU, u1, u2⟩ := al.2.2 _ _ e3
  exact ⟨D, fV, fC, ⟨hD, ⟨knV, fun q hq => by rw [hq] at obV; cases obV⟩, by rw [al.findClass]; exact e2, kU, u1, by rw [u2]; exact i3, by rw [u2]; exact e5 i3⟩, ⟨SBG.found_only al ⟨cfV, kV, iV, gV⟩, stV⟩, ⟨SBG.found_only al ⟨cfC, kC, iC, gC⟩, stC⟩, slV, slC, by simp [RoadKit.slotOf, gV], by simp [RoadKit.slotOf, gC]⟩
theorem sta_is {Z U : State} (al : Z.vm.Alike U.vm) {C n d : String} {v : Value} (S : RoadKit.Sta Z U.heap C n d v) : StaticIs U C n d v := by
  obtain ⟨cfS, iS, kS, fS, st, cS, t1, t2, t3, t4, t5, t6, t7⟩ := S
  exact StaticIs.there (s := { Z with heap := U.heap }) ⟨cfS, iS, kS, fS, st, cS, t1, t2, t3, t4, t5, (fun q => by rw [q] at t6; cases t6), t7⟩ al rfl
/-- **length() OF SUCH A STRING** -/
theorem lenW {p : Program} {l : Launch} {e : Env} {R : Room} {s : State} {args : Array Value} {below : List Frame} {len W : Nat} {Z : State} {a0 : Array Value} {h : Heap} (hZ : Z.Warmed39 s.vm) (hw : ∀ d ∈ wordsLen, d.before a0 Z = true) {kI : Nat} (wi : (Jvm.Cond.instantiable ST kI).before a0 Z = true)
    {x t : Addr} {kb : ClassId} {cs : List Int32} {cd N2 z : Int32} {vs : List Value} (E : RoadKit.Exa Z h x ST) (V : RoadKit.Fld Z h x ST "value" "[B" (.ref t)) (C : RoadKit.Fld Z h x ST "coder" "B" (.int cd)) (K : RoadKit.Arv Z h t kb .byte N2 vs (.int 0)) (hc : CodA cs cd N2 vs) (hb : ∀ c ∈ cs, ¬ c < 0 ∧ ¬ (65535 : Int32) < c)
    (S : RoadKit.Sta Z h ST "COMPACT_STRINGS" "Z" (.int z)) (hz : ¬ z = 0) (l2 : cs.length ≤ 4000) (hfr : 2 ≤ R.frames) (hlo : W + 25 ≤ R.locals) :
    Back l R p e below s args (⟨"java/lang/String", "length", "()I"⟩ : MethodName) len W (fun P a => a = #[.ref x] ∧ P.U.heap = h ∧ P.cells + 0 ≤ R.cells ∧ P.slots + 0 ≤ R.slots)
      (fun P _ v B => ∃ L, (v = some (.int (Int32.ofNat cs.length)) ∧ L = [] ∧ B.U.heap = h) ∧ B.locs = P.locs ++ L ∧ B.cells = P.cells + 0 ∧ B.slots = P.slots + 0) := by
  obtain ⟨A, K1, K2, K3, K4, K5, K6⟩ := K
  have hcod := hc.cod (by omega) K3 K5
  intro m meth c P g ig mk a X hg hsize hdg hW hn hp'
  obtain ⟨rfl, rfl, r1, r2⟩ := hp'
  have al : Z.vm.Alike P.U.vm := hZ.alike.trans X.warmed.alike
  obtain ⟨D, fV, fC, hB, F1, F2, g1, g2, -, -⟩ := strObj wi al E V C
  have hx : Txt x t A cd cs.length (fun j => cs.getD j 0) P.U := ⟨⟨_, hB.2.2.1, D, hB.1, rfl, by cases q : D.vm <;> first | rfl | exact absurd q (hB.2.1.2 _)⟩, Has.of hB F1 g1, Has.of hB F2 g2, ⟨K1.1, State.isArrayOf_alike al K1.2.1, K1.2.2, by rcases hcod with ⟨-, q, -⟩ | ⟨-, q, -⟩ <;> omega⟩, hcod, fun j hj => by
    have e : cs.getD j 0 = cs[j] := by simp [List.getD_eq_getElem?_getD, hj]
    show ¬ cs.getD j 0 < 0 ∧ ¬ 65535 < cs.getD j 0
    rw [e]; exact hb _ (List.getElem_mem _)⟩
  obtain ⟨v, B, X', ⟨⟨hv, hh⟩, hl, hk, hs⟩, st⟩ := Len.pays x t A cd cs.length (fun j => cs.getD j 0) z (tabLen_of (movedLen hZ hw)) hfr hlo m meth c P g ig mk _ X hg hsize hdg hW hn ⟨r1, r2, rfl, hx, sta_is al S, hz⟩
  exact ⟨v, B, X', ⟨[], ⟨hv, rfl, hh⟩, hl, hk, hs⟩, st⟩
end StrChars.Road
namespace StrChars.Road
open Jvm Sem ClassFile Op Lib Jvm.Stand Jvm.Free Jvm.Free.XT
open Jvm.Lib.Cold (StaticIs)
/-- the road's facts of a String, as the laws ask it -/
theorem txt_of {Z U : State} {a0 : Array Value} {kI : Nat} (wi : (Jvm.Cond.instantiable ST kI).before a0 Z = true) (al : Z.vm.Alike U.vm) {x t : Addr} {kb : ClassId} {cs : List Int32} {cd N2 : Int32} {vs : List Value} (E : RoadKit.Exa Z U.heap x ST) (V : RoadKit.Fld Z U.heap x ST "value" "[B" (.ref t)) (C : RoadKit.Fld Z U.heap x ST "coder" "B" (.int cd)) (K : RoadKit.Arv Z U.heap t kb .byte N2 vs (.int 0)) (hc : CodA cs cd N2 vs) (hb : ∀ c ∈ cs, ¬ c < 0 ∧ ¬ (65535 : Int32) < c) (l2 : cs.length ≤ 4000) :
    ∃ A, Txt x t A cd cs.length (fun j => cs.getD j 0) U := by
  obtain ⟨A, K1, K2, K3, K4, K5, K6⟩ := K
  have hcod := hc.cod (by omega) K3 K5
  obtain ⟨D, fV, fC, hB, F1, F2, g1, g2, -, -⟩ := strObj wi al E V C
  exact ⟨A, ⟨_, hB.2.2.1, D, hB.1, rfl, by cases q : D.vm <;> first | rfl | exact absurd q (hB.2.1.2 _)⟩, Has.of hB F1 g1, Has.of hB F2 g2, ⟨K1.1, State.isArrayOf_alike al K1.2.1, K1.2.2, by rcases hcod with ⟨-, q, -⟩ | ⟨-, q, -⟩ <;> omega⟩, hcod, fun j hj => by
    have e : cs.getD j 0 = cs[j] := by simp [List.getD_eq_getElem?_getD, hj]
    show ¬ cs.getD j 0 < 0 ∧ ¬ 65535 < cs.getD j 0
    rw [e]; exact hb _ (List.getElem_mem _)⟩
end StrChars.Road
namespace StrChars
open Jvm Sem ClassFile Op Lib Jvm.Stand Jvm.Free.XT Jvm.Free.ALB Jvm.Free.JM Jvm.Free
open Jvm.Lib.Cold (StaticIs)
namespace ChN
def yN : MethodName := ⟨"java/lang/String", "charAt", "(I)C"⟩
abbrev yB : ByteArray := jdk_42_method_56_code
theorem d0 : decode yB 0 = .ok (.aload_n 0, 1) := by decide +kernel
theorem d1 : decode yB 1 = .ok (.invokevirtual 492, 3) := by decide +kernel
theorem d4 : decode yB 4 = .ok (.ifCond (.eq) 12, 3) := by decide +kernel
theorem d7 : decode yB 7 = .ok (.aload_n 0, 1) := by decide +kernel
theorem d8 : decode yB 8 = .ok (.getfield 9, 3) := by decide +kernel
theorem d11 : decode yB 11 = .ok (.iload_n 1, 1) := by decide +kernel
theorem d12 : decode yB 12 = .ok (.invokestatic 495, 3) := by decide +kernel
theorem d15 : decode yB 15 = .ok (.ireturn, 1) := by decide +kernel
def site : List Cond := [.fieldLink "java/lang/String" 9 "java/lang/String" "value" "[B", IsL.tab, LChA.tab] ++ virtW "java/lang/String" 492 "java/lang/String" IsL.yN IsL.yN ++ staticW "java/lang/String" 495 LChA.yN
def tab : Cond := tabOf yN yB 2 (some .char) site
def P (x t : Addr) (V : Cell) (n : Nat) (f : Nat → Int32) (z : Int32) (fm : Value) (i : Nat) (args : Array Value) (s : State) : Prop := args = #[.ref x, .int (Int32.ofNat i)] ∧ Txt x t V 0 n f s ∧ i < n ∧ StaticIs s "java/lang/String" "COMPACT_STRINGS" "Z" (.int z) ∧ ¬ z = 0 ∧ StaticIs s "jdk/internal/util/Preconditions" "SIOOBE_FORMATTER" "Ljava/util/function/BiFunction;" fm ∧ fm.isRef = true
def E (f : Nat → Int32) (i : Nat) (r : Option Value) (s u : State) : Prop := XT.PureE (some (.int (f i))) r s u
/-- charAt(i) of a Latin-1 String of n chars, i < n: f i -/
theorem law (l : Launch) (x t : Addr) (V : Cell) (n : Nat) (f : Nat → Int32) (z : Int32) (fm : Value) (i : Nat) : Law l yN 2 1 3 40 yB 2 (some .char) site (P x t V n f z fm i) (E f i) [] 0 0 := by
  refine Law.of_walk (plainFor_of_name (by decide +kernel)) (by decide +kernel) (by decide +kernel) (by decide) (fun _ _ h => by rw [h.1]; rfl) (fun _ U U' hal hh h => ⟨h.1, h.2.1.mv hal hh, h.2.2.1, h.2.2.2.1.there hal hh, h.2.2.2.2.1, h.2.2.2.2.2.1.there hal hh, h.2.2.2.2.2.2⟩) (fun r U U' V V' h1 hal h2 h => XT.PureE.mv r U U' V V' h1 hal h2 h) ?_
  intro p e s m args below meth c s₁ X0 hexec hbytes hml hret hlk hnm hown hh0 W hP
  obtain ⟨rfl, hx, hi, s1, hz, s3, rf⟩ := hP
  have v31 := hx.2.2.2.1.2.2.2
  have hr := hx.2.2.2.2.2 i hi
  have hx0 := hx.mv X0.warmed.alike hh0
  have c1 : Steps p.tables e below (s₁.setTop (entryFrame m #[.ref x, .int (Int32.ofNat i)] 2)) (s₁.setTop (mkF m 1 #[.val (.ref x), .val (.int (Int32.ofNat i))] [.ref x])) := Steps.trans (entry rfl) (by
    show Steps p.tables e below (s₁.setTop (mkF m 0 #[.val (.ref x), .val (.int (Int32.ofNat i))] [])) _
    refine XS.aloadN X0.here hexec rfl (hb hbytes d0) rfl rfl ?_
    exact Steps.refl _)
  obtain ⟨v2, T2, X2, E2, g2⟩ := X0.callV hexec (IsL.law l x 0 z) hown (wks W (virtW "java/lang/String" 492 "java/lang/String" IsL.yN IsL.yN)) rfl (by decide) (wk W IsL.tab) (W := 0) (Nat.le_of_ble_eq_true rfl) (Nat.le_of_ble_eq_true rfl) (Nat.le_refl _) (Nat.le_refl _) (hx0.1.fc X0.warmed.alike) hx0.1.is (g := (mkF m 1 #[.val (.ref x), .val (.int (Int32.ofNat i))] [.ref x])) rfl (by rw [hml]; rfl) c1 (argsL := []) (rest := []) rfl rfl (by show 2 * 0 + 0 ≤ _; decide) (hb hbytes d1) (⟨rfl, hx0.2.2.1, hx.2.2.2.2.1.cd, s1.there X0.warmed.alike hh0, hz⟩)
  obtain ⟨rfl, q2⟩ := E2
  have hh2 := q2.trans hh0
  have hx2 := hx.mv X2.warmed.alike hh2
  obtain ⟨-, k1, k2⟩ | ⟨k0, -⟩ := hx.2.2.2.2.1
  · have c3 : Steps p.tables e below (s₁.setTop (entryFrame m #[.ref x, .int (Int32.ofNat i)] 2)) (T2.setTop (mkF m 8 #[.val (.ref x), .val (.int (Int32.ofNat i))] [.ref x])) := Steps.trans g2 (by
      refine XS.ifNo X2.here hexec rfl (hb hbytes d4) rfl (i0_eq_f (by decide)) ?_
      refine XS.aloadN X2.here hexec rfl (hb hbytes d7) rfl rfl ?_
      exact Steps.refl _)
    obtain ⟨T4, X4, q4, st4⟩ := X2.hget hexec hown (wk W (.fieldLink "java/lang/String" 9 "java/lang/String" "value" "[B")) hx2.2.1 (g := (mkF m 8 #[.val (.ref x), .val (.int (Int32.ofNat i))] [.ref x])) rfl (rest := []) rfl (hb hbytes d8)
    have hh4 := q4.trans hh2
    have c5 : Steps p.tables e below (s₁.setTop (entryFrame m #[.ref x, .int (Int32.ofNat i)] 2)) (T4.setTop (mkF m 12 #[.val (.ref x), .val (.int (Int32.ofNat i))] [.int (Int32.ofNat i), .ref t])) := (c3.trans (st4 _ (Steps.refl _))).trans (by
      refine XS.iloadN X4.here hexec rfl (hb hbytes d11) rfl ?_
      exact Steps.refl _)
    obtain ⟨v6, T6, X6, E6, g6⟩ := X4.callS hexec (LChA.law l t V i (lo8 (f i)) fm) hown (wks W (staticW "java/lang/String" 495 LChA.yN)) (wk W LChA.tab) (W := 0) (Nat.le_of_ble_eq_true rfl) (Nat.le_of_ble_eq_true rfl) (Nat.le_refl _) (Nat.le_refl _) (g := (mkF m 12 #[.val (.ref x), .val (.int (Int32.ofNat i))] [.int (Int32.ofNat i), .ref t])) rfl (by rw [hml]; rfl) c5 (argsL := [.ref t, .int (Int32.ofNat i)]) (rest := []) rfl rfl (by show 2 * 0 + 0 ≤ _; decide) (hb hbytes d12) (⟨rfl, hx.2.2.2.1.mv X4.warmed.alike hh4, (k2 i hi).1, s3.there X4.warmed.alike hh4, rf⟩)
    obtain ⟨rfl, q6⟩ := E6
    rw [chr8_lo8 hr.1 (k2 i hi).2] at g6
    exact ⟨T6, some (.int (f i)), _, _, _, X6, rfl, rfl, rfl, (fun h => by cases h), ⟨rfl, q6.trans hh4⟩, fun fs hl => Steps.trans g6 (X6.ireturnOut hexec hret (narrow_ch hr.1 hr.2) (Or.inr (Or.inr (Or.inr (Or.inl rfl)))) (hb hbytes d15) hl)⟩
  · exact absurd k0 (by decide)
theorem pays {l : Launch} {R : Room} {p : Program} {e : Env} {below : List Frame} {s : State} {sargs : Array Value} {len W : Nat} (x t : Addr) (V : Cell) (n : Nat) (f : Nat → Int32) (z : Int32) (fm : Value) (i : Nat) (htab : tab.before sargs s = true) (hfr : 4 ≤ R.frames) (hlo : W + 53 ≤ R.locals) :
    Back l R p e below s sargs yN len W (fun A₁ a₁ => A₁.cells + 0 ≤ R.cells ∧ A₁.slots + 0 ≤ R.slots ∧ P x t V n f z fm i a₁ A₁.U) (fun A₁ _ v₁ B₁ => E f i v₁ A₁.U B₁.U ∧ B₁.locs = A₁.locs ++ [] ∧ B₁.cells = A₁.cells + 0 ∧ B₁.slots = A₁.slots + 0) :=
  (law l x t V n f z fm i).pays htab hfr (by omega)
end ChN
end StrChars
namespace StrChars.Road
open Jvm Sem ClassFile Op Lib Jvm.Stand Jvm.Free Jvm.Free.XT
open Jvm.Lib.Cold (StaticIs)
/-- the words of String.charAt(int), the Latin-1 road alone -/
abbrev wordsChN : List Jvm.Cond := [.code ChN.yN ChN.yB 2 (some .char), .initialized ST, .fieldLink ST 9 ST "value" "[B", .fieldLink ST 38 ST "COMPACT_STRINGS" "Z", .fieldLink ST 15 ST "coder" "B", .code IsL.yN IsL.yB 1 (some .boolean), .methodLink ST 492 IsL.yN, .declares IsL.yN, .selects ST IsL.yN IsL.yN, .instanceMethod IsL.yN,
  .methodLink ST 495 LChA.yN, .static LChA.yN, .code LChA.yN LChA.yB 2 (some .char), .initialized "java/lang/StringLatin1", .methodLink "java/lang/StringLatin1" 9 JO.Str_checkIndex.yN, .static JO.Str_checkIndex.yN, .code JO.Str_checkIndex.yN JO.Str_checkIndex.yB 2 none,
  .fieldLink ST 1053 "jdk/internal/util/Preconditions" "SIOOBE_FORMATTER" "Ljava/util/function/BiFunction;", .methodLink ST 1059 JC.PreCheck.yN, .static JC.PreCheck.yN, .code JC.PreCheck.yN JC.PreCheck.yB 3 (some .int), .initialized "jdk/internal/util/Preconditions"]
theorem tabChN_of {a : Array Value} {s : State} (h : ∀ w ∈ wordsChN, w.before a s = true) : ChN.tab.before a s = true := by
  have hp : JC.PreCheck.tab.before a s = true := unparts (wk h (.code JC.PreCheck.yN JC.PreCheck.yB 3 (some .int))) (wks h (.initialized JC.PreCheck.yN.cls :: JC.PreCheck.site))
  have qk := consq hp h
  have hk : JO.Str_checkIndex.tab.before a s = true := unparts (wk qk (.code JO.Str_checkIndex.yN JO.Str_checkIndex.yB 2 none)) (wks qk (.initialized JO.Str_checkIndex.yN.cls :: JO.Str_checkIndex.site))
  have ql := consq hk h
  have hl : LChA.tab.before a s = true := unparts (wk ql (.code LChA.yN LChA.yB 2 (some .char))) (wks ql (.initialized LChA.yN.cls :: LChA.site))
  have hi : IsL.tab.before a s = true := unparts (wk h (.code IsL.yN IsL.yB 1 (some .boolean))) (wks h (.initialized IsL.yN.cls :: IsL.site))
  have q := consq hi (consq hl h)
  exact unparts (wk q (.code ChN.yN ChN.yB 2 (some .char))) (wks q (.initialized ChN.yN.cls :: ChN.site))
theorem movedChN {Z s : State} {a0 args : Array Value} (hZ : Z.Warmed39 s.vm) (hw : ∀ d ∈ wordsChN, d.before a0 Z = true) : ∀ d ∈ wordsChN, d.before args s = true := fun d hd => by
  have t : ∀ d ∈ wordsChN, (d.onTables && d.keepsFace) = true := by decide +kernel
  exact RoadKit.mv hZ (hw d hd) (t d hd)
/-- **charAt(i) OF A LATIN-1 STRING**, i < n: the char -/
theorem chN {p : Program} {l : Launch} {e : Env} {R : Room} {s : State} {args : Array Value} {below : List Frame} {len W : Nat} {Z : State} {a0 : Array Value} {h : Heap} (hZ : Z.Warmed39 s.vm) (hw : ∀ d ∈ wordsChN, d.before a0 Z = true) {kI : Nat} (wi : (Jvm.Cond.instantiable ST kI).before a0 Z = true)
    {x t : Addr} {kb : ClassId} {cs : List Int32} {N2 z : Int32} {vs : List Value} {fm : Value} {i : Nat} {j : Int32} (E : RoadKit.Exa Z h x ST) (V : RoadKit.Fld Z h x ST "value" "[B" (.ref t)) (C : RoadKit.Fld Z h x ST "coder" "B" (.int 0)) (K : RoadKit.Arv Z h t kb .byte N2 vs (.int 0)) (hc : CodA cs 0 N2 vs) (hb : ∀ c ∈ cs, ¬ c < 0 ∧ ¬ (65535 : Int32) < c)
    (S : RoadKit.Sta Z h ST "COMPACT_STRINGS" "Z" (.int z)) (hz : ¬ z = 0) (F : RoadKit.Sta Z h "jdk/internal/util/Preconditions" "SIOOBE_FORMATTER" "Ljava/util/function/BiFunction;" fm) (rf : fm.isRef = true) (l2 : cs.length ≤ 4000) (hi : i < cs.length) (hj : j = Int32.ofNat i) (hfr : 4 ≤ R.frames) (hlo : W + 53 ≤ R.locals) :
    Back l R p e below s args (⟨"java/lang/String", "charAt", "(I)C"⟩ : MethodName) len W (fun P a => a = #[.ref x, .int j] ∧ P.U.heap = h ∧ P.cells + 0 ≤ R.cells ∧ P.slots + 0 ≤ R.slots)
      (fun P _ v B => ∃ L, (v = some (.int (cs.getD i 0)) ∧ L = [] ∧ B.U.heap = h) ∧ B.locs = P.locs ++ L ∧ B.cells = P.cells + 0 ∧ B.slots = P.slots + 0) := by
  subst hj
  intro m meth c P g ig mk a X hg hsize hdg hW hn hp'
  obtain ⟨rfl, rfl, r1, r2⟩ := hp'
  have al : Z.vm.Alike P.U.vm := hZ.alike.trans X.warmed.alike
  obtain ⟨A, hx⟩ := txt_of wi al E V C K hc hb l2
  obtain ⟨v, B, X', ⟨⟨hv, hh⟩, hl, hk, hs⟩, st⟩ := ChN.pays x t A cs.length (fun j => cs.getD j 0) z fm i (tabChN_of (movedChN hZ hw)) hfr hlo m meth c P g ig mk _ X hg hsize hdg hW hn ⟨r1, r2, rfl, hx, hi, sta_is al S, hz, sta_is al F, rf⟩
  exact ⟨v, B, X', ⟨[], ⟨hv, rfl, hh⟩, hl, hk, hs⟩, st⟩
/-- what backV says of its String, as the contracts of this text ask it: cs's low bytes, coder 0 -/
theorem codOf {cs : List Int32} {n : Nat} (hn : cs.length = n) (hb : ∀ c ∈ cs, ¬ 255 < c) : CodA cs 0 (Int32.ofNat n) ((cs.map lo8).map Value.int) := Or.inl ⟨rfl, by rw [hn], by simp [List.map_map, Function.comp_def], hb⟩
end StrChars.Road
end Jvm.Pilot.@@N@@

namespace Jvm.Pilot.@@N@@
open Jvm Jvm.ClassFile Sem Op Lib Jvm.Free Jvm.Stand Jvm.LawKit Jvm.RoadKit Bundle Jvm.Pilot.@@N@@.Jvm.D
abbrev hWt (a0 : Array Value) (Z : State) : Prop := ∀ d ∈ tables_1, d.before a0 Z = true
abbrev vR (x : Nat) : Slot := .val (.ref x)
abbrev vI (x : Int32) : Slot := .val (.int x)
/-- what is left to show at a state of the walk -/
def own_G (p : Program) (e : Env) (below : List Frame) (Q : Outcome → State → Prop) (S : State) : Prop := ∃ s₂ o, Steps p.tables e below S s₂ ∧ s₂.status = .running ∧ Ended s₂ below o ∧ Q o s₂
theorem own_st {p : Program} {e : Env} {below : List Frame} {Q : Outcome → State → Prop} {S S' : State} (h : ∀ t, Steps p.tables e below S' t → Steps p.tables e below S t) (g : own_G p e below Q S') : own_G p e below Q S := by
  obtain ⟨s₂, o, a, b⟩ := g
  exact ⟨s₂, o, h _ a, b⟩
theorem s_iloadN {p : Program} {l : Launch} {e : Env} {R : Room} {s : State} {m : MethodId} {args : Array Value} {below : List Frame} {meth : Method} {c : Code} {T : State} {locs : List Loc} {cells slots : Nat} {Q : Outcome → State → Prop} {pc : Nat} {Ls : Array Slot} {S : List Value} (X : Stand p l e R s m args below meth c T locs cells slots) (hx : p.tables.exec = Jvm.exec) {k : Fin 4} {v : Int32} (hd : decode c.code pc = .ok (.iload_n k, 1)) (hl : Ls[k.val]? = some (.val (.int v))) (k : own_G p e below Q (T.setTop (mkF m (pc + 1) Ls (.int v :: S)))) : own_G p e below Q (T.setTop (mkF m pc Ls S)) := own_st (fun tq kq => XS.iloadN X.here hx rfl hd hl kq) k
theorem s_iload {p : Program} {l : Launch} {e : Env} {R : Room} {s : State} {m : MethodId} {args : Array Value} {below : List Frame} {meth : Method} {c : Code} {T : State} {locs : List Loc} {cells slots : Nat} {Q : Outcome → State → Prop} {pc : Nat} {Ls : Array Slot} {S : List Value} (X : Stand p l e R s m args below meth c T locs cells slots) (hx : p.tables.exec = Jvm.exec) {k : Nat} {v : Int32} (hd : decode c.code pc = .ok (.iload k, 2)) (hl : Ls[k]? = some (.val (.int v))) (k : own_G p e below Q (T.setTop (mkF m (pc + 2) Ls (.int v :: S)))) : own_G p e below Q (T.setTop (mkF m pc Ls S)) := own_st (fun tq kq => XS.iload X.here hx rfl hd hl kq) k
theorem s_aloadN {p : Program} {l : Launch} {e : Env} {R : Room} {s : State} {m : MethodId} {args : Array Value} {below : List Frame} {meth : Method} {c : Code} {T : State} {locs : List Loc} {cells slots : Nat} {Q : Outcome → State → Prop} {pc : Nat} {Ls : Array Slot} {S : List Value} (X : Stand p l e R s m args below meth c T locs cells slots) (hx : p.tables.exec = Jvm.exec) {k : Fin 4} {v : Value} (hd : decode c.code pc = .ok (.aload_n k, 1)) (hl : Ls[k.val]? = some (.val v)) (hv : v.isRef = true) (k : own_G p e below Q (T.setTop (mkF m (pc + 1) Ls (v :: S)))) : own_G p e below Q (T.setTop (mkF m pc Ls S)) := own_st (fun tq kq => XS.aloadN X.here hx rfl hd hl hv kq) k
theorem s_aload {p : Program} {l : Launch} {e : Env} {R : Room} {s : State} {m : MethodId} {args : Array Value} {below : List Frame} {meth : Method} {c : Code} {T : State} {locs : List Loc} {cells slots : Nat} {Q : Outcome → State → Prop} {pc : Nat} {Ls : Array Slot} {S : List Value} (X : Stand p l e R s m args below meth c T locs cells slots) (hx : p.tables.exec = Jvm.exec) {k : Nat} {v : Value} (hd : decode c.code pc = .ok (.aload k, 2)) (hl : Ls[k]? = some (.val v)) (hv : v.isRef = true) (k : own_G p e below Q (T.setTop (mkF m (pc + 2) Ls (v :: S)))) : own_G p e below Q (T.setTop (mkF m pc Ls S)) := own_st (fun tq kq => XS.aload X.here hx rfl hd hl hv kq) k
theorem s_iconst {p : Program} {l : Launch} {e : Env} {R : Room} {s : State} {m : MethodId} {args : Array Value} {below : List Frame} {meth : Method} {c : Code} {T : State} {locs : List Loc} {cells slots : Nat} {Q : Outcome → State → Prop} {pc : Nat} {Ls : Array Slot} {S : List Value} (X : Stand p l e R s m args below meth c T locs cells slots) (hx : p.tables.exec = Jvm.exec) {i : Int} (hd : decode c.code pc = .ok (.iconst i, 1))  (k : own_G p e below Q (T.setTop (mkF m (pc + 1) Ls (.int (Int32.ofInt i) :: S)))) : own_G p e below Q (T.setTop (mkF m pc Ls S)) := own_st (fun tq kq => XS.iconst X.here hx rfl hd  kq) k
theorem s_bipush {p : Program} {l : Launch} {e : Env} {R : Room} {s : State} {m : MethodId} {args : Array Value} {below : List Frame} {meth : Method} {c : Code} {T : State} {locs : List Loc} {cells slots : Nat} {Q : Outcome → State → Prop} {pc : Nat} {Ls : Array Slot} {S : List Value} (X : Stand p l e R s m args below meth c T locs cells slots) (hx : p.tables.exec = Jvm.exec) {i : Int} (hd : decode c.code pc = .ok (.bipush i, 2))  (k : own_G p e below Q (T.setTop (mkF m (pc + 2) Ls (.int (Int8.ofInt i).toInt32 :: S)))) : own_G p e below Q (T.setTop (mkF m pc Ls S)) := own_st (fun tq kq => XS.bipush X.here hx rfl hd  kq) k
theorem s_sipush {p : Program} {l : Launch} {e : Env} {R : Room} {s : State} {m : MethodId} {args : Array Value} {below : List Frame} {meth : Method} {c : Code} {T : State} {locs : List Loc} {cells slots : Nat} {Q : Outcome → State → Prop} {pc : Nat} {Ls : Array Slot} {S : List Value} (X : Stand p l e R s m args below meth c T locs cells slots) (hx : p.tables.exec = Jvm.exec) {i : Int} (hd : decode c.code pc = .ok (.sipush i, 3))  (k : own_G p e below Q (T.setTop (mkF m (pc + 3) Ls (.int (Int16.ofInt i).toInt32 :: S)))) : own_G p e below Q (T.setTop (mkF m pc Ls S)) := own_st (fun tq kq => XS.sipush X.here hx rfl hd  kq) k
theorem own_lt {a b : Nat} (h : a < b) : a < b := h
theorem own_le {a b : Nat} (h : a ≤ b) : a ≤ b := h
theorem own_ne {a b : Nat} (h : a ≠ b) : a ≠ b := h
theorem own_since (s : State) : s.Since s.vm 0 := (State.WarmedH.refl s).since 0
/-- a contract's start: the arguments, the tables, the heap, the constants held, what may be written is no constant's -/
def own_P (Z : State) (EL : List (String × Nat)) (as : Array Value) (h : Heap) (ws : List Addr) : Array Value → State → Prop := fun a U => a = as ∧ Z.Warmed39 U.vm ∧ U.heap = h ∧ CHv Z EL U.vm h ∧ ∀ x ∈ ws, Safe Z EL U.vm h x
/-- a contract's end -/
def own_E (Z : State) (EL : List (String × Nat)) (Q : Option Value → Vm → Heap → List Loc → Prop) (rm : Room) : Array Value → State → Outcome → State → Prop := fun _ U o U' => ∃ v L, o = .returned v ∧ Q v U'.vm U'.heap L ∧ CHr Z EL U.vm U.heap U'.vm U'.heap ∧ ReturnedEndW U o U' L rm.cells rm.slots
theorem own_RW {U U' : State} {o : Outcome} {L : List Loc} {k n k' n' : Nat} (h : ReturnedEndW U o U' L k n) (h1 : k ≤ k') (h2 : n ≤ n') : ReturnedEndW U o U' L k' n' := ⟨h.1, h.2.1, h.2.2.1, h.2.2.2.mono h1 h2⟩
/-- a callee that may load constants, by its contract -/
theorem own_back {p : Program} {l : Launch} {e : Env} {R : Room} {s : State} {args : Array Value} {below : List Frame} {Z : State} {a0 : Array Value} {EL : List (String × Nat)} {h : Heap} {vm0 : Vm} {y : MethodName} {bytes : ByteArray} {maxL : Nat} {ret : Option FieldType} {rm : Room} {len W : Nat} {as' : Array Value} {ws : List Addr} {Q : Option Value → Vm → Heap → List Loc → Prop}
    (hM : MetFree l y (head1 [Cond.code y bytes maxL ret] rm) (own_P Z EL as' h ws) (fun _ _ _ _ _ => True) (own_E Z EL Q rm))
    (hZ : Z.Warmed39 vm0) (wc : (Cond.code y bytes maxL ret).before a0 Z = true) (wz : (Cond.initialized y.cls).before a0 Z = true) (hf : rm.frames + 1 ≤ R.frames) (hl : W + (maxL + 11) + rm.locals ≤ R.locals) (hEL : EW Z a0 EL) (H : CHv Z EL vm0 h) (hs : ∀ x ∈ ws, x < h.size ∧ Safe Z EL vm0 h x) :
    BackS l R p e below (s.setVm vm0) args y len W (fun A a => a = as' ∧ A.U.heap = h ∧ A.cells + rm.cells ≤ R.cells ∧ A.slots + rm.slots ≤ R.slots)
      (fun A _ v B => ∃ L, Q v B.U.vm B.U.heap L ∧ B.locs = A.locs ++ L ∧ B.cells = A.cells + rm.cells ∧ B.slots = A.slots + rm.slots ∧ CHr Z EL vm0 h B.U.vm B.U.heap) := by
  refine BackS.of_freeW (bytes := bytes) (maxL := maxL) (ret := ret) (E := fun _ first o t L k n => k = rm.cells ∧ n = rm.slots ∧ (∃ v, o = .returned v ∧ Q v t.vm t.heap L) ∧ CHr Z EL first.vm first.heap t.vm t.heap) hM hf hl ?_ ?_ (fun _ _ _ _ _ _ _ _ _ => trivial) ?_ ?_
  · intro m meth c A a Y hp
    have hU : Z.Warmed39 A.U.vm := wtrans (s := s.setVm vm0) hZ Y.warmed
    exact ⟨by show (Cond.and _ .tt).before a A.U = true; rw [Cond.before_and, mv hU wc]; rfl, mv hU wc, mv hU wz, hp.2.2.1, hp.2.2.2⟩
  · intro m meth c A a g mk Y hp
    have q := CHv.at Y hZ hEL H
    exact ⟨hp.1, wtrans (s := s.setVm vm0) hZ Y.warmed, hp.2.1, q.1, fun x hx => q.safe (hs x hx).1 (hs x hx).2⟩
  · rintro _ _ _ _ ⟨v, L, h1, h2, h3, h4⟩
    exact ⟨L, _, _, h4, rfl, rfl, ⟨v, h1, h2⟩, h3⟩
  · rintro m meth c A a g mk v t L k n Y hp _ _ ⟨e1, e2, ⟨v', e3, e4⟩, e5⟩
    cases e3; subst e1 e2
    refine ⟨L, e4, rfl, rfl, rfl, (CHv.at Y hZ hEL H).trans ?_⟩
    rw [← hp.2.1]; exact e5
/-- the end of a contract that loads no constant -/
def own_EN (Q : Option Value → Heap → List Loc → Prop) (rm : Room) : Array Value → State → Outcome → State → Prop := fun _ U o U' => ∃ v L, o = .returned v ∧ Q v U'.heap L ∧ FrameEnd U o U' L rm.cells rm.slots
theorem own_backN {p : Program} {l : Launch} {e : Env} {R : Room} {s : State} {args : Array Value} {below : List Frame} {Z : State} {a0 : Array Value} {h : Heap} {y : MethodName} {bytes : ByteArray} {maxL : Nat} {ret : Option FieldType} {rm : Room} {len W : Nat} {as' : Array Value} {Q : Option Value → Heap → List Loc → Prop}
    (hM : MetFree l y (head1 [Cond.code y bytes maxL ret] rm) (fun a U => a = as' ∧ Z.Warmed39 U.vm ∧ U.heap = h) (fun _ _ _ _ _ => True) (own_EN Q rm))
    (hZ : Z.Warmed39 s.vm) (wc : (Cond.code y bytes maxL ret).before a0 Z = true) (wz : (Cond.initialized y.cls).before a0 Z = true) (hf : rm.frames + 1 ≤ R.frames) (hl : W + (maxL + 11) + rm.locals ≤ R.locals) :
    Back l R p e below s args y len W (fun A a => a = as' ∧ A.U.heap = h ∧ A.cells + rm.cells ≤ R.cells ∧ A.slots + rm.slots ≤ R.slots)
      (fun A _ v B => ∃ L, Q v B.U.heap L ∧ B.locs = A.locs ++ L ∧ B.cells = A.cells + rm.cells ∧ B.slots = A.slots + rm.slots) := backOf (Q := Q) hM hZ wc wz hf hl
theorem own_wS {a0 : Array Value} {Z : State} (hw : ∀ d ∈ tables_1, d.before a0 Z = true) : ∀ a ∈ Bundle.stringAtoms, a.before a0 Z = true := fun d hd => hw d ((by decide +kernel : ∀ d ∈ Bundle.stringAtoms, d ∈ tables_1) d hd)
theorem own_and255 (x : Int32) : ¬ nar .char ((x &&& (255 : Int32)).toUInt32.toUInt16.toUInt32.toInt32) < 0 ∧ ¬ (255 : Int32) < nar .char ((x &&& (255 : Int32)).toUInt32.toUInt16.toUInt32.toInt32) := by
  have t : ∀ k : Fin 256, ¬ nar .char ((Int32.ofNat k.val).toUInt32.toUInt16.toUInt32.toInt32) < 0 ∧ ¬ (255 : Int32) < nar .char ((Int32.ofNat k.val).toUInt32.toUInt16.toUInt32.toInt32) := by decide +kernel
  have h : (x &&& 255).toBitVec.toNat < 256 := by
    simp only [Int32.toBitVec_and, BitVec.toNat_and]
    exact Nat.lt_succ_of_le Nat.and_le_right
  have e : (x &&& 255) = Int32.ofNat (x &&& 255).toBitVec.toNat := by
    apply Int32.toBitVec_inj.mp
    show _ = BitVec.ofNat 32 _
    rw [BitVec.ofNat_toNat]; simp
  rw [e]
  exact t ⟨_, h⟩
theorem own_and255b (x : Int32) : ¬ ((x &&& (255 : Int32)).toUInt32.toUInt16.toUInt32.toInt32) < 0 ∧ ¬ (255 : Int32) < ((x &&& (255 : Int32)).toUInt32.toUInt16.toUInt32.toInt32) := by
  have e : nar .char ((x &&& (255 : Int32)).toUInt32.toUInt16.toUInt32.toInt32) = ((x &&& (255 : Int32)).toUInt32.toUInt16.toUInt32.toInt32) := by simp only [nar, UInt32.toUInt32_toInt32, UInt16.toUInt16_toUInt32]
  have q := own_and255 x
  rw [e] at q
  exact q

/-- a String of known chars below 256; a, and its byte[], lie below n -/
def own_Str (Z : State) (n : Nat) (h : Heap) (a : Nat) (cs : List Int32) : Prop := a < n ∧ Exa Z h a "java/lang/String" ∧ (∀ c ∈ cs, ¬ c < 0 ∧ ¬ (255 : Int32) < c) ∧ cs.length ≤ 4000 ∧ ∃ (t : Nat) (kb : ClassId), t < n ∧ Fld Z h a "java/lang/String" "value" "[B" (.ref t) ∧ Fld Z h a "java/lang/String" "coder" "B" (.int 0) ∧ Arv Z h t kb .byte (Int32.ofNat cs.length) ((cs.map fun c => c.toInt8.toInt32).map Value.int) (.int 0)
theorem own_Str.keep {Z : State} {n : Nat} {h h' : Heap} {a : Nat} {cs : List Int32} {ws : List Addr} (F : own_Str Z n h a cs) (K : Keep h h' ws) (q : ∀ x ∈ ws, n ≤ x) : own_Str Z n h' a cs := by
  obtain ⟨f1, f2, f3, f4, t, kb, f5, f6, f7, f8⟩ := F
  exact ⟨f1, f2.keep K, f3, f4, t, kb, f5, f6.keep K (fun m => absurd f1 (Nat.not_lt.mpr (q _ m))), f7.keep K (fun m => absurd f1 (Nat.not_lt.mpr (q _ m))), f8.keep K (fun m => absurd f5 (Nat.not_lt.mpr (q _ m)))⟩
theorem own_Str.keepX {Z : State} {a0 : Array Value} {n k : Nat} {h h' : Heap} {a x : Nat} {C : String} {cs : List Int32} (F : own_Str Z n h a cs) (K : Keep h h' [x]) (E : Exa Z h x C) (w : (Cond.instantiable C k).before a0 Z = true) (hC : C ≠ "java/lang/String") : own_Str Z n h' a cs := by
  obtain ⟨f1, f2, f3, f4, t, kb, f5, f6, f7, f8⟩ := F
  have n1 : a ≠ x := fun q => (E.ne f2 hC) q.symm
  have n2 : t ≠ x := fun q => (E.neArv f8 w) q.symm
  exact ⟨f1, f2.keep K, f3, f4, t, kb, f5, f6.keep K (ninS n1 nin0), f7.keep K (ninS n1 nin0), f8.keep K (ninS n2 nin0)⟩
theorem own_Str.ext {Z : State} {n : Nat} {h h' : Heap} {a : Nat} {cs : List Int32} (F : own_Str Z n h a cs) (E : Ext h h') : own_Str Z n h' a cs := by
  obtain ⟨f1, f2, f3, f4, t, kb, f5, f6, f7, f8⟩ := F
  exact ⟨f1, f2.ext E, f3, f4, t, kb, f5, f6.ext E, f7.ext E, f8.ext E⟩
theorem own_Str.wr {Z : State} {n : Nat} {h h' : Heap} {a b : Nat} {sl : Nat} {v : Value} {cs : List Int32} (F : own_Str Z n h a cs) (W : Wr h h' b sl v) (q : n ≤ b) : own_Str Z n h' a cs := F.keep (Keep.of_wr W) (allS q all0)
theorem own_Str.mono {Z : State} {n n' : Nat} {h : Heap} {a : Nat} {cs : List Int32} (F : own_Str Z n h a cs) (q : n ≤ n') : own_Str Z n' h a cs := by
  obtain ⟨f1, f2, f3, f4, t, kb, f5, f6⟩ := F
  exact ⟨Nat.lt_of_lt_of_le f1 q, f2, f3, f4, t, kb, Nat.lt_of_lt_of_le f5 q, f6⟩
abbrev rm_0_0_0_0 : Room := { frames := 0, cells := 0, slots := 0, locals := 0 }
abbrev rm_1_0_0_20 : Room := { frames := 1, cells := 0, slots := 0, locals := 20 }
abbrev rm_1_1_2_14 : Room := { frames := 1, cells := 1, slots := 2, locals := 14 }
abbrev rm_1_1_4_14 : Room := { frames := 1, cells := 1, slots := 4, locals := 14 }
abbrev rm_1_1_6_14 : Room := { frames := 1, cells := 1, slots := 6, locals := 14 }
abbrev rm_1_1_8_14 : Room := { frames := 1, cells := 1, slots := 8, locals := 14 }
abbrev rm_1_2_4_12 : Room := { frames := 1, cells := 2, slots := 4, locals := 12 }
abbrev rm_2_0_0_40 : Room := { frames := 2, cells := 0, slots := 0, locals := 40 }
abbrev rm_2_1_2_40 : Room := { frames := 2, cells := 1, slots := 2, locals := 40 }
abbrev rm_2_1_4_40 : Room := { frames := 2, cells := 1, slots := 4, locals := 40 }
abbrev rm_2_1_6_40 : Room := { frames := 2, cells := 1, slots := 6, locals := 40 }
abbrev rm_2_1_8_40 : Room := { frames := 2, cells := 1, slots := 8, locals := 40 }
abbrev rm_2_2_4_29 : Room := { frames := 2, cells := 2, slots := 4, locals := 29 }
abbrev rm_3_0_0_60 : Room := { frames := 3, cells := 0, slots := 0, locals := 60 }
abbrev rm_3_2_3_70 : Room := { frames := 3, cells := 2, slots := 3, locals := 70 }
abbrev rm_3_2_6_70 : Room := { frames := 3, cells := 2, slots := 6, locals := 70 }
abbrev rm_3_2_9_70 : Room := { frames := 3, cells := 2, slots := 9, locals := 70 }
abbrev rm_3_2_12_70 : Room := { frames := 3, cells := 2, slots := 12, locals := 70 }
abbrev rm_4_0_0_80 : Room := { frames := 4, cells := 0, slots := 0, locals := 80 }
abbrev rm_4_2_3_95 : Room := { frames := 4, cells := 2, slots := 3, locals := 95 }
abbrev rm_4_2_6_95 : Room := { frames := 4, cells := 2, slots := 6, locals := 95 }
abbrev rm_4_2_9_95 : Room := { frames := 4, cells := 2, slots := 9, locals := 95 }
abbrev rm_4_2_12_95 : Room := { frames := 4, cells := 2, slots := 12, locals := 95 }
abbrev rm_5_0_0_96 : Room := { frames := 5, cells := 0, slots := 0, locals := 96 }
abbrev rm_5_2_3_115 : Room := { frames := 5, cells := 2, slots := 3, locals := 115 }
abbrev rm_5_2_6_115 : Room := { frames := 5, cells := 2, slots := 6, locals := 115 }
abbrev rm_5_2_9_115 : Room := { frames := 5, cells := 2, slots := 9, locals := 115 }
abbrev rm_5_2_12_115 : Room := { frames := 5, cells := 2, slots := 12, locals := 115 }
abbrev mN0 : MethodName := ⟨"java/lang/String", "<init>", "([CIILjava/lang/Void;)V"⟩
abbrev mN1 : MethodName := ⟨"java/lang/String", "<init>", "([C)V"⟩
abbrev mN2 : MethodName := ⟨"java/lang/StringUTF16", "getChar", "([BI)C"⟩
abbrev mN3 : MethodName := ⟨"java/lang/StringUTF16", "length", "([B)I"⟩
abbrev mN4 : MethodName := ⟨"java/lang/StringUTF16", "newBytesLength", "(I)I"⟩
abbrev mN5 : MethodName := ⟨"java/lang/StringUTF16", "newBytesFor", "(I)[B"⟩
abbrev mN6 : MethodName := ⟨"java/lang/StringUTF16", "putChar", "([BII)V"⟩
abbrev mN7 : MethodName := ⟨"java/lang/StringUTF16", "toBytes", "([CII)[B"⟩
abbrev mN8 : MethodName := ⟨"java/lang/StringUTF16", "coderFromArrayLen", "([BI)B"⟩
abbrev mN9 : MethodName := ⟨"java/lang/StringUTF16", "compress", "([CI[BII)I"⟩
abbrev mN10 : MethodName := ⟨"java/lang/StringUTF16", "compress", "([CII)[B"⟩
abbrev mN11 : MethodName := ⟨"jdk/internal/util/Preconditions", "checkIndex", "(IILjava/util/function/BiFunction;)I"⟩
abbrev mN12 : MethodName := ⟨"java/lang/String", "checkIndex", "(II)V"⟩
abbrev mN13 : MethodName := ⟨"java/lang/String", "isLatin1", "()Z"⟩
abbrev mN14 : MethodName := ⟨"java/lang/StringUTF16", "checkIndex", "(I[B)V"⟩
abbrev mN15 : MethodName := ⟨"java/lang/StringUTF16", "charAt", "([BI)C"⟩
abbrev mN16 : MethodName := ⟨"java/lang/String", "charAt", "(I)C"⟩
abbrev mN17 : MethodName := ⟨"com/example/ward/ward/BasicCredentials", "holdsControl", "(Ljava/lang/String;)Z"⟩
abbrev mN18 : MethodName := ⟨"java/lang/String", "length", "()I"⟩
abbrev mN19 : MethodName := ⟨"com/example/ward/ward/BasicCredentialsHoldsControlPinLaw", "ctl", "(C)Z"⟩
theorem own_pn0 : plainName "java/lang/String" = true := by first | (simp [plainName, overriddenIn]; done) | decide +kernel
theorem dS4_0 : Jvm.ClassFile.decode jdk_42_method_149_code 0 = .ok (.aload_n 0, 1) := by decide +kernel
theorem dS4_1 : Jvm.ClassFile.decode jdk_42_method_149_code 1 = .ok (.invokespecial 1, 3) := by decide +kernel
theorem wd12 {a0 : Array Value} {Z : State} (hw : hWt a0 Z) : (Cond.methodLink "java/lang/String" (1 : Nat) ({ cls := "java/lang/Object", name := "<init>", desc := "()V" } : MethodName)).before a0 Z = true := hw _ (List.mem_of_getElem? (i := 12) rfl)
theorem wd13 {a0 : Array Value} {Z : State} (hw : hWt a0 Z) : (Cond.instanceMethod ({ cls := "java/lang/Object", name := "<init>", desc := "()V" } : MethodName)).before a0 Z = true := hw _ (List.mem_of_getElem? (i := 13) rfl)
theorem wd14 {a0 : Array Value} {Z : State} (hw : hWt a0 Z) : (Cond.code ({ cls := "java/lang/Object", name := "<init>", desc := "()V" } : MethodName) object_method_1_code (1 : Nat) (Option.none : Option FieldType)).before a0 Z = true := hw _ (List.mem_of_getElem? (i := 14) rfl)
theorem dS4_4 : Jvm.ClassFile.decode jdk_42_method_149_code 4 = .ok (.iload_n 3, 1) := by decide +kernel
theorem dS4_5 : Jvm.ClassFile.decode jdk_42_method_149_code 5 = .ok (.ifCond .ne 22, 3) := by decide +kernel
theorem dS4_8 : Jvm.ClassFile.decode jdk_42_method_149_code 8 = .ok (.aload_n 0, 1) := by decide +kernel
theorem dS4_9 : Jvm.ClassFile.decode jdk_42_method_149_code 9 = .ok (.ldc 7, 2) := by decide +kernel
theorem wd15 {a0 : Array Value} {Z : State} (hw : hWt a0 Z) : (Cond.stringLink "java/lang/String" (7 : Nat) "").before a0 Z = true := hw _ (List.mem_of_getElem? (i := 15) rfl)
theorem dS4_11 : Jvm.ClassFile.decode jdk_42_method_149_code 11 = .ok (.getfield 9, 3) := by decide +kernel
theorem wd21 {a0 : Array Value} {Z : State} (hw : hWt a0 Z) : (Cond.fieldLink "java/lang/String" (9 : Nat) "java/lang/String" "value" "[B").before a0 Z = true := hw _ (List.mem_of_getElem? (i := 21) rfl)
theorem dS4_14 : Jvm.ClassFile.decode jdk_42_method_149_code 14 = .ok (.putfield 9, 3) := by decide +kernel
theorem wd17 {a0 : Array Value} {Z : State} (hw : hWt a0 Z) : (Cond.laysFinal "java/lang/String" "java/lang/String" "value" "[B").before a0 Z = true := hw _ (List.mem_of_getElem? (i := 17) rfl)
theorem wd3 {a0 : Array Value} {Z : State} (hw : hWt a0 Z) : (Cond.instantiable "java/lang/String" (4 : Nat)).before a0 Z = true := hw _ (List.mem_of_getElem? (i := 3) rfl)
theorem dS4_17 : Jvm.ClassFile.decode jdk_42_method_149_code 17 = .ok (.aload_n 0, 1) := by decide +kernel
theorem dS4_18 : Jvm.ClassFile.decode jdk_42_method_149_code 18 = .ok (.ldc 7, 2) := by decide +kernel
theorem dS4_20 : Jvm.ClassFile.decode jdk_42_method_149_code 20 = .ok (.getfield 15, 3) := by decide +kernel
theorem wd22 {a0 : Array Value} {Z : State} (hw : hWt a0 Z) : (Cond.fieldLink "java/lang/String" (15 : Nat) "java/lang/String" "coder" "B").before a0 Z = true := hw _ (List.mem_of_getElem? (i := 22) rfl)
theorem dS4_23 : Jvm.ClassFile.decode jdk_42_method_149_code 23 = .ok (.putfield 15, 3) := by decide +kernel
theorem wd18 {a0 : Array Value} {Z : State} (hw : hWt a0 Z) : (Cond.laysFinal "java/lang/String" "java/lang/String" "coder" "B").before a0 Z = true := hw _ (List.mem_of_getElem? (i := 18) rfl)
theorem dS4_26 : Jvm.ClassFile.decode jdk_42_method_149_code 26 = .ok (.return_, 1) := by decide +kernel
theorem dS1_0 : Jvm.ClassFile.decode jdk_42_method_3_code 0 = .ok (.aload_n 0, 1) := by decide +kernel
theorem dS1_1 : Jvm.ClassFile.decode jdk_42_method_3_code 1 = .ok (.aload_n 1, 1) := by decide +kernel
theorem dS1_2 : Jvm.ClassFile.decode jdk_42_method_3_code 2 = .ok (.iconst 0, 1) := by decide +kernel
theorem dS1_3 : Jvm.ClassFile.decode jdk_42_method_3_code 3 = .ok (.aload_n 1, 1) := by decide +kernel
theorem dS1_4 : Jvm.ClassFile.decode jdk_42_method_3_code 4 = .ok (.arraylength, 1) := by decide +kernel
theorem dS1_5 : Jvm.ClassFile.decode jdk_42_method_3_code 5 = .ok (.aconst_null, 1) := by decide +kernel
theorem dS1_6 : Jvm.ClassFile.decode jdk_42_method_3_code 6 = .ok (.invokespecial 27, 3) := by decide +kernel
theorem wd8 {a0 : Array Value} {Z : State} (hw : hWt a0 Z) : (Cond.methodLink "java/lang/String" (27 : Nat) ({ cls := "java/lang/String", name := "<init>", desc := "([CIILjava/lang/Void;)V" } : MethodName)).before a0 Z = true := hw _ (List.mem_of_getElem? (i := 8) rfl)
theorem wd11 {a0 : Array Value} {Z : State} (hw : hWt a0 Z) : (Cond.code ({ cls := "java/lang/String", name := "<init>", desc := "([CIILjava/lang/Void;)V" } : MethodName) jdk_42_method_149_code (6 : Nat) (Option.none : Option FieldType)).before a0 Z = true := hw _ (List.mem_of_getElem? (i := 11) rfl)
theorem wd4 {a0 : Array Value} {Z : State} (hw : hWt a0 Z) : (Cond.initialized "java/lang/String").before a0 Z = true := hw _ (List.mem_of_getElem? (i := 4) rfl)
theorem own_pd0 : parseMethodDescriptor "([CIILjava/lang/Void;)V" = some ⟨[(.array .char), .int, .int, (.object "java/lang/Void")], none⟩ := by decide +kernel
theorem wd9 {a0 : Array Value} {Z : State} (hw : hWt a0 Z) : (Cond.instanceMethod ({ cls := "java/lang/String", name := "<init>", desc := "([CIILjava/lang/Void;)V" } : MethodName)).before a0 Z = true := hw _ (List.mem_of_getElem? (i := 9) rfl)
theorem dS1_9 : Jvm.ClassFile.decode jdk_42_method_3_code 9 = .ok (.return_, 1) := by decide +kernel
theorem wd7 {a0 : Array Value} {Z : State} (hw : hWt a0 Z) : (Cond.code ({ cls := "java/lang/String", name := "<init>", desc := "([C)V" } : MethodName) jdk_42_method_3_code (2 : Nat) (Option.none : Option FieldType)).before a0 Z = true := hw _ (List.mem_of_getElem? (i := 7) rfl)
theorem own_pn1 : plainName "java/lang/StringUTF16" = true := by first | (simp [plainName, overriddenIn]; done) | decide +kernel
theorem dGC_0 : Jvm.ClassFile.decode jdk_52_method_5_code 0 = .ok (.getstatic 44, 3) := by decide +kernel
theorem wd87 {a0 : Array Value} {Z : State} (hw : hWt a0 Z) : (Cond.fieldLink "java/lang/StringUTF16" (44 : Nat) "java/lang/StringUTF16" "$assertionsDisabled" "Z").before a0 Z = true := hw _ (List.mem_of_getElem? (i := 87) rfl)
theorem dGC_3 : Jvm.ClassFile.decode jdk_52_method_5_code 3 = .ok (.ifCond .ne 25, 3) := by decide +kernel
theorem dGC_28 : Jvm.ClassFile.decode jdk_52_method_5_code 28 = .ok (.iload_n 1, 1) := by decide +kernel
theorem dGC_29 : Jvm.ClassFile.decode jdk_52_method_5_code 29 = .ok (.iconst 1, 1) := by decide +kernel
theorem dGC_30 : Jvm.ClassFile.decode jdk_52_method_5_code 30 = .ok (.ishl, 1) := by decide +kernel
theorem dGC_31 : Jvm.ClassFile.decode jdk_52_method_5_code 31 = .ok (.istore_n 1, 1) := by decide +kernel
theorem dGC_32 : Jvm.ClassFile.decode jdk_52_method_5_code 32 = .ok (.aload_n 0, 1) := by decide +kernel
theorem dGC_33 : Jvm.ClassFile.decode jdk_52_method_5_code 33 = .ok (.iload_n 1, 1) := by decide +kernel
theorem dGC_34 : Jvm.ClassFile.decode jdk_52_method_5_code 34 = .ok (.iinc 1 1, 3) := by decide +kernel
theorem dGC_37 : Jvm.ClassFile.decode jdk_52_method_5_code 37 = .ok (.baload, 1) := by decide +kernel
theorem dGC_38 : Jvm.ClassFile.decode jdk_52_method_5_code 38 = .ok (.sipush 255, 3) := by decide +kernel
theorem dGC_41 : Jvm.ClassFile.decode jdk_52_method_5_code 41 = .ok (.iand, 1) := by decide +kernel
theorem dGC_42 : Jvm.ClassFile.decode jdk_52_method_5_code 42 = .ok (.getstatic 59, 3) := by decide +kernel
theorem wd88 {a0 : Array Value} {Z : State} (hw : hWt a0 Z) : (Cond.fieldLink "java/lang/StringUTF16" (59 : Nat) "java/lang/StringUTF16" "HI_BYTE_SHIFT" "I").before a0 Z = true := hw _ (List.mem_of_getElem? (i := 88) rfl)
theorem dGC_45 : Jvm.ClassFile.decode jdk_52_method_5_code 45 = .ok (.ishl, 1) := by decide +kernel
theorem dGC_46 : Jvm.ClassFile.decode jdk_52_method_5_code 46 = .ok (.aload_n 0, 1) := by decide +kernel
theorem dGC_47 : Jvm.ClassFile.decode jdk_52_method_5_code 47 = .ok (.iload_n 1, 1) := by decide +kernel
theorem dGC_48 : Jvm.ClassFile.decode jdk_52_method_5_code 48 = .ok (.baload, 1) := by decide +kernel
theorem dGC_49 : Jvm.ClassFile.decode jdk_52_method_5_code 49 = .ok (.sipush 255, 3) := by decide +kernel
theorem dGC_52 : Jvm.ClassFile.decode jdk_52_method_5_code 52 = .ok (.iand, 1) := by decide +kernel
theorem dGC_53 : Jvm.ClassFile.decode jdk_52_method_5_code 53 = .ok (.getstatic 63, 3) := by decide +kernel
theorem wd89 {a0 : Array Value} {Z : State} (hw : hWt a0 Z) : (Cond.fieldLink "java/lang/StringUTF16" (63 : Nat) "java/lang/StringUTF16" "LO_BYTE_SHIFT" "I").before a0 Z = true := hw _ (List.mem_of_getElem? (i := 89) rfl)
theorem dGC_56 : Jvm.ClassFile.decode jdk_52_method_5_code 56 = .ok (.ishl, 1) := by decide +kernel
theorem dGC_57 : Jvm.ClassFile.decode jdk_52_method_5_code 57 = .ok (.ior, 1) := by decide +kernel
theorem dGC_58 : Jvm.ClassFile.decode jdk_52_method_5_code 58 = .ok (.i2c, 1) := by decide +kernel
theorem dGC_59 : Jvm.ClassFile.decode jdk_52_method_5_code 59 = .ok (.ireturn, 1) := by decide +kernel
theorem dUL_0 : Jvm.ClassFile.decode jdk_52_method_6_code 0 = .ok (.aload_n 0, 1) := by decide +kernel
theorem dUL_1 : Jvm.ClassFile.decode jdk_52_method_6_code 1 = .ok (.arraylength, 1) := by decide +kernel
theorem dUL_2 : Jvm.ClassFile.decode jdk_52_method_6_code 2 = .ok (.iconst 1, 1) := by decide +kernel
theorem dUL_3 : Jvm.ClassFile.decode jdk_52_method_6_code 3 = .ok (.ishr, 1) := by decide +kernel
theorem dUL_4 : Jvm.ClassFile.decode jdk_52_method_6_code 4 = .ok (.ireturn, 1) := by decide +kernel
theorem dNL_0 : Jvm.ClassFile.decode jdk_52_method_3_code 0 = .ok (.iload_n 0, 1) := by decide +kernel
theorem dNL_1 : Jvm.ClassFile.decode jdk_52_method_3_code 1 = .ok (.ifCond .ge 11, 3) := by decide +kernel
theorem dNL_12 : Jvm.ClassFile.decode jdk_52_method_3_code 12 = .ok (.iload_n 0, 1) := by decide +kernel
theorem dNL_13 : Jvm.ClassFile.decode jdk_52_method_3_code 13 = .ok (.ldc 20, 2) := by decide +kernel
theorem wd83 {a0 : Array Value} {Z : State} (hw : hWt a0 Z) : (Cond.constant "java/lang/StringUTF16" (20 : Nat) (1073741823 : Int32)).before a0 Z = true := hw _ (List.mem_of_getElem? (i := 83) rfl)
theorem dNL_15 : Jvm.ClassFile.decode jdk_52_method_3_code 15 = .ok (.if_icmp .lt 40, 3) := by decide +kernel
theorem dNL_55 : Jvm.ClassFile.decode jdk_52_method_3_code 55 = .ok (.iload_n 0, 1) := by decide +kernel
theorem dNL_56 : Jvm.ClassFile.decode jdk_52_method_3_code 56 = .ok (.iconst 1, 1) := by decide +kernel
theorem dNL_57 : Jvm.ClassFile.decode jdk_52_method_3_code 57 = .ok (.ishl, 1) := by decide +kernel
theorem dNL_58 : Jvm.ClassFile.decode jdk_52_method_3_code 58 = .ok (.ireturn, 1) := by decide +kernel
theorem dNF_0 : Jvm.ClassFile.decode jdk_52_method_2_code 0 = .ok (.iload_n 0, 1) := by decide +kernel
theorem dNF_1 : Jvm.ClassFile.decode jdk_52_method_2_code 1 = .ok (.invokestatic 11, 3) := by decide +kernel
theorem wd80 {a0 : Array Value} {Z : State} (hw : hWt a0 Z) : (Cond.methodLink "java/lang/StringUTF16" (11 : Nat) ({ cls := "java/lang/StringUTF16", name := "newBytesLength", desc := "(I)I" } : MethodName)).before a0 Z = true := hw _ (List.mem_of_getElem? (i := 80) rfl)
theorem wd82 {a0 : Array Value} {Z : State} (hw : hWt a0 Z) : (Cond.code ({ cls := "java/lang/StringUTF16", name := "newBytesLength", desc := "(I)I" } : MethodName) jdk_52_method_3_code (1 : Nat) (Option.some FieldType.int)).before a0 Z = true := hw _ (List.mem_of_getElem? (i := 82) rfl)
theorem wd40 {a0 : Array Value} {Z : State} (hw : hWt a0 Z) : (Cond.initialized "java/lang/StringUTF16").before a0 Z = true := hw _ (List.mem_of_getElem? (i := 40) rfl)
theorem own_pd1 : parseMethodDescriptor "(I)I" = some ⟨[.int], some .int⟩ := by decide +kernel
theorem wd81 {a0 : Array Value} {Z : State} (hw : hWt a0 Z) : (Cond.static ({ cls := "java/lang/StringUTF16", name := "newBytesLength", desc := "(I)I" } : MethodName)).before a0 Z = true := hw _ (List.mem_of_getElem? (i := 81) rfl)
theorem dNF_4 : Jvm.ClassFile.decode jdk_52_method_2_code 4 = .ok (.newarray .byte, 2) := by decide +kernel
theorem dNF_6 : Jvm.ClassFile.decode jdk_52_method_2_code 6 = .ok (.areturn, 1) := by decide +kernel
theorem dPU_0 : Jvm.ClassFile.decode jdk_52_method_4_code 0 = .ok (.getstatic 44, 3) := by decide +kernel
theorem dPU_3 : Jvm.ClassFile.decode jdk_52_method_4_code 3 = .ok (.ifCond .ne 25, 3) := by decide +kernel
theorem dPU_28 : Jvm.ClassFile.decode jdk_52_method_4_code 28 = .ok (.iload_n 1, 1) := by decide +kernel
theorem dPU_29 : Jvm.ClassFile.decode jdk_52_method_4_code 29 = .ok (.iconst 1, 1) := by decide +kernel
theorem dPU_30 : Jvm.ClassFile.decode jdk_52_method_4_code 30 = .ok (.ishl, 1) := by decide +kernel
theorem dPU_31 : Jvm.ClassFile.decode jdk_52_method_4_code 31 = .ok (.istore_n 1, 1) := by decide +kernel
theorem dPU_32 : Jvm.ClassFile.decode jdk_52_method_4_code 32 = .ok (.aload_n 0, 1) := by decide +kernel
theorem dPU_33 : Jvm.ClassFile.decode jdk_52_method_4_code 33 = .ok (.iload_n 1, 1) := by decide +kernel
theorem dPU_34 : Jvm.ClassFile.decode jdk_52_method_4_code 34 = .ok (.iinc 1 1, 3) := by decide +kernel
theorem dPU_37 : Jvm.ClassFile.decode jdk_52_method_4_code 37 = .ok (.iload_n 2, 1) := by decide +kernel
theorem dPU_38 : Jvm.ClassFile.decode jdk_52_method_4_code 38 = .ok (.getstatic 59, 3) := by decide +kernel
theorem dPU_41 : Jvm.ClassFile.decode jdk_52_method_4_code 41 = .ok (.ishr, 1) := by decide +kernel
theorem dPU_42 : Jvm.ClassFile.decode jdk_52_method_4_code 42 = .ok (.i2b, 1) := by decide +kernel
theorem dPU_43 : Jvm.ClassFile.decode jdk_52_method_4_code 43 = .ok (.bastore, 1) := by decide +kernel
theorem dPU_44 : Jvm.ClassFile.decode jdk_52_method_4_code 44 = .ok (.aload_n 0, 1) := by decide +kernel
theorem dPU_45 : Jvm.ClassFile.decode jdk_52_method_4_code 45 = .ok (.iload_n 1, 1) := by decide +kernel
theorem dPU_46 : Jvm.ClassFile.decode jdk_52_method_4_code 46 = .ok (.iload_n 2, 1) := by decide +kernel
theorem dPU_47 : Jvm.ClassFile.decode jdk_52_method_4_code 47 = .ok (.getstatic 63, 3) := by decide +kernel
theorem dPU_50 : Jvm.ClassFile.decode jdk_52_method_4_code 50 = .ok (.ishr, 1) := by decide +kernel
theorem dPU_51 : Jvm.ClassFile.decode jdk_52_method_4_code 51 = .ok (.i2b, 1) := by decide +kernel
theorem dPU_52 : Jvm.ClassFile.decode jdk_52_method_4_code 52 = .ok (.bastore, 1) := by decide +kernel
theorem dPU_53 : Jvm.ClassFile.decode jdk_52_method_4_code 53 = .ok (.return_, 1) := by decide +kernel
theorem dTO_0 : Jvm.ClassFile.decode jdk_52_method_14_code 0 = .ok (.iload_n 2, 1) := by decide +kernel
theorem dTO_1 : Jvm.ClassFile.decode jdk_52_method_14_code 1 = .ok (.invokestatic 107, 3) := by decide +kernel
theorem wd77 {a0 : Array Value} {Z : State} (hw : hWt a0 Z) : (Cond.methodLink "java/lang/StringUTF16" (107 : Nat) ({ cls := "java/lang/StringUTF16", name := "newBytesFor", desc := "(I)[B" } : MethodName)).before a0 Z = true := hw _ (List.mem_of_getElem? (i := 77) rfl)
theorem wd79 {a0 : Array Value} {Z : State} (hw : hWt a0 Z) : (Cond.code ({ cls := "java/lang/StringUTF16", name := "newBytesFor", desc := "(I)[B" } : MethodName) jdk_52_method_2_code (1 : Nat) (Option.some (FieldType.array FieldType.byte))).before a0 Z = true := hw _ (List.mem_of_getElem? (i := 79) rfl)
theorem own_pd2 : parseMethodDescriptor "(I)[B" = some ⟨[.int], some (.array .byte)⟩ := by decide +kernel
theorem wd78 {a0 : Array Value} {Z : State} (hw : hWt a0 Z) : (Cond.static ({ cls := "java/lang/StringUTF16", name := "newBytesFor", desc := "(I)[B" } : MethodName)).before a0 Z = true := hw _ (List.mem_of_getElem? (i := 78) rfl)
theorem dTO_4 : Jvm.ClassFile.decode jdk_52_method_14_code 4 = .ok (.astore_n 3, 1) := by decide +kernel
theorem dTO_5 : Jvm.ClassFile.decode jdk_52_method_14_code 5 = .ok (.iconst 0, 1) := by decide +kernel
theorem dTO_6 : Jvm.ClassFile.decode jdk_52_method_14_code 6 = .ok (.istore 4, 2) := by decide +kernel
theorem dTO_8 : Jvm.ClassFile.decode jdk_52_method_14_code 8 = .ok (.iload 4, 2) := by decide +kernel
theorem dTO_10 : Jvm.ClassFile.decode jdk_52_method_14_code 10 = .ok (.iload_n 2, 1) := by decide +kernel
theorem dTO_11 : Jvm.ClassFile.decode jdk_52_method_14_code 11 = .ok (.if_icmp .ge 21, 3) := by decide +kernel
theorem dTO_14 : Jvm.ClassFile.decode jdk_52_method_14_code 14 = .ok (.aload_n 3, 1) := by decide +kernel
theorem dTO_15 : Jvm.ClassFile.decode jdk_52_method_14_code 15 = .ok (.iload 4, 2) := by decide +kernel
theorem dTO_17 : Jvm.ClassFile.decode jdk_52_method_14_code 17 = .ok (.aload_n 0, 1) := by decide +kernel
theorem dTO_18 : Jvm.ClassFile.decode jdk_52_method_14_code 18 = .ok (.iload_n 1, 1) := by decide +kernel
theorem dTO_19 : Jvm.ClassFile.decode jdk_52_method_14_code 19 = .ok (.caload, 1) := by decide +kernel
theorem dTO_20 : Jvm.ClassFile.decode jdk_52_method_14_code 20 = .ok (.invokestatic 111, 3) := by decide +kernel
theorem wd84 {a0 : Array Value} {Z : State} (hw : hWt a0 Z) : (Cond.methodLink "java/lang/StringUTF16" (111 : Nat) ({ cls := "java/lang/StringUTF16", name := "putChar", desc := "([BII)V" } : MethodName)).before a0 Z = true := hw _ (List.mem_of_getElem? (i := 84) rfl)
theorem wd86 {a0 : Array Value} {Z : State} (hw : hWt a0 Z) : (Cond.code ({ cls := "java/lang/StringUTF16", name := "putChar", desc := "([BII)V" } : MethodName) jdk_52_method_4_code (3 : Nat) (Option.none : Option FieldType)).before a0 Z = true := hw _ (List.mem_of_getElem? (i := 86) rfl)
theorem own_pd3 : parseMethodDescriptor "([BII)V" = some ⟨[(.array .byte), .int, .int], none⟩ := by decide +kernel
theorem wd85 {a0 : Array Value} {Z : State} (hw : hWt a0 Z) : (Cond.static ({ cls := "java/lang/StringUTF16", name := "putChar", desc := "([BII)V" } : MethodName)).before a0 Z = true := hw _ (List.mem_of_getElem? (i := 85) rfl)
theorem dTO_23 : Jvm.ClassFile.decode jdk_52_method_14_code 23 = .ok (.iinc 1 1, 3) := by decide +kernel
theorem dTO_26 : Jvm.ClassFile.decode jdk_52_method_14_code 26 = .ok (.iinc 4 1, 3) := by decide +kernel
theorem dTO_29 : Jvm.ClassFile.decode jdk_52_method_14_code 29 = .ok (.goto (-21), 3) := by decide +kernel
theorem dTO_32 : Jvm.ClassFile.decode jdk_52_method_14_code 32 = .ok (.aload_n 3, 1) := by decide +kernel
theorem dTO_33 : Jvm.ClassFile.decode jdk_52_method_14_code 33 = .ok (.areturn, 1) := by decide +kernel
theorem dCL_0 : Jvm.ClassFile.decode jdk_52_method_15_code 0 = .ok (.iload_n 1, 1) := by decide +kernel
theorem dCL_1 : Jvm.ClassFile.decode jdk_52_method_15_code 1 = .ok (.aload_n 0, 1) := by decide +kernel
theorem dCL_2 : Jvm.ClassFile.decode jdk_52_method_15_code 2 = .ok (.arraylength, 1) := by decide +kernel
theorem dCL_3 : Jvm.ClassFile.decode jdk_52_method_15_code 3 = .ok (.isub, 1) := by decide +kernel
theorem dCL_4 : Jvm.ClassFile.decode jdk_52_method_15_code 4 = .ok (.bipush 31, 2) := by decide +kernel
theorem dCL_6 : Jvm.ClassFile.decode jdk_52_method_15_code 6 = .ok (.iushr, 1) := by decide +kernel
theorem dCL_7 : Jvm.ClassFile.decode jdk_52_method_15_code 7 = .ok (.i2b, 1) := by decide +kernel
theorem dCL_8 : Jvm.ClassFile.decode jdk_52_method_15_code 8 = .ok (.ireturn, 1) := by decide +kernel
theorem dC5_0 : Jvm.ClassFile.decode jdk_52_method_21_code 0 = .ok (.iconst 0, 1) := by decide +kernel
theorem dC5_1 : Jvm.ClassFile.decode jdk_52_method_21_code 1 = .ok (.istore 5, 2) := by decide +kernel
theorem dC5_3 : Jvm.ClassFile.decode jdk_52_method_21_code 3 = .ok (.iload 5, 2) := by decide +kernel
theorem dC5_5 : Jvm.ClassFile.decode jdk_52_method_21_code 5 = .ok (.iload 4, 2) := by decide +kernel
theorem dC5_7 : Jvm.ClassFile.decode jdk_52_method_21_code 7 = .ok (.if_icmp .ge 37, 3) := by decide +kernel
theorem dC5_10 : Jvm.ClassFile.decode jdk_52_method_21_code 10 = .ok (.aload_n 0, 1) := by decide +kernel
theorem dC5_11 : Jvm.ClassFile.decode jdk_52_method_21_code 11 = .ok (.iload_n 1, 1) := by decide +kernel
theorem dC5_12 : Jvm.ClassFile.decode jdk_52_method_21_code 12 = .ok (.caload, 1) := by decide +kernel
theorem dC5_13 : Jvm.ClassFile.decode jdk_52_method_21_code 13 = .ok (.istore 6, 2) := by decide +kernel
theorem dC5_15 : Jvm.ClassFile.decode jdk_52_method_21_code 15 = .ok (.iload 6, 2) := by decide +kernel
theorem dC5_17 : Jvm.ClassFile.decode jdk_52_method_21_code 17 = .ok (.sipush 255, 3) := by decide +kernel
theorem dC5_20 : Jvm.ClassFile.decode jdk_52_method_21_code 20 = .ok (.if_icmp .le 6, 3) := by decide +kernel
theorem dC5_23 : Jvm.ClassFile.decode jdk_52_method_21_code 23 = .ok (.iload 5, 2) := by decide +kernel
theorem dC5_25 : Jvm.ClassFile.decode jdk_52_method_21_code 25 = .ok (.ireturn, 1) := by decide +kernel
theorem dC3_0 : Jvm.ClassFile.decode jdk_52_method_16_code 0 = .ok (.iload_n 2, 1) := by decide +kernel
theorem dC3_1 : Jvm.ClassFile.decode jdk_52_method_16_code 1 = .ok (.newarray .byte, 2) := by decide +kernel
theorem dC3_3 : Jvm.ClassFile.decode jdk_52_method_16_code 3 = .ok (.astore_n 3, 1) := by decide +kernel
theorem dC3_4 : Jvm.ClassFile.decode jdk_52_method_16_code 4 = .ok (.aload_n 0, 1) := by decide +kernel
theorem dC3_5 : Jvm.ClassFile.decode jdk_52_method_16_code 5 = .ok (.iload_n 1, 1) := by decide +kernel
theorem dC3_6 : Jvm.ClassFile.decode jdk_52_method_16_code 6 = .ok (.aload_n 3, 1) := by decide +kernel
theorem dC3_7 : Jvm.ClassFile.decode jdk_52_method_16_code 7 = .ok (.iconst 0, 1) := by decide +kernel
theorem dC3_8 : Jvm.ClassFile.decode jdk_52_method_16_code 8 = .ok (.iload_n 2, 1) := by decide +kernel
theorem dC3_9 : Jvm.ClassFile.decode jdk_52_method_16_code 9 = .ok (.invokestatic 115, 3) := by decide +kernel
theorem wd42 {a0 : Array Value} {Z : State} (hw : hWt a0 Z) : (Cond.methodLink "java/lang/StringUTF16" (115 : Nat) ({ cls := "java/lang/StringUTF16", name := "compress", desc := "([CI[BII)I" } : MethodName)).before a0 Z = true := hw _ (List.mem_of_getElem? (i := 42) rfl)
theorem wd44 {a0 : Array Value} {Z : State} (hw : hWt a0 Z) : (Cond.code ({ cls := "java/lang/StringUTF16", name := "compress", desc := "([CI[BII)I" } : MethodName) jdk_52_method_21_code (7 : Nat) (Option.some FieldType.int)).before a0 Z = true := hw _ (List.mem_of_getElem? (i := 44) rfl)
theorem own_pd4 : parseMethodDescriptor "([CI[BII)I" = some ⟨[(.array .char), .int, (.array .byte), .int, .int], some .int⟩ := by decide +kernel
theorem wd43 {a0 : Array Value} {Z : State} (hw : hWt a0 Z) : (Cond.static ({ cls := "java/lang/StringUTF16", name := "compress", desc := "([CI[BII)I" } : MethodName)).before a0 Z = true := hw _ (List.mem_of_getElem? (i := 43) rfl)
theorem dC3_12 : Jvm.ClassFile.decode jdk_52_method_16_code 12 = .ok (.istore 4, 2) := by decide +kernel
theorem dC3_14 : Jvm.ClassFile.decode jdk_52_method_16_code 14 = .ok (.iload 4, 2) := by decide +kernel
theorem dC3_16 : Jvm.ClassFile.decode jdk_52_method_16_code 16 = .ok (.iload_n 2, 1) := by decide +kernel
theorem dC3_17 : Jvm.ClassFile.decode jdk_52_method_16_code 17 = .ok (.if_icmp .eq 40, 3) := by decide +kernel
theorem dC3_20 : Jvm.ClassFile.decode jdk_52_method_16_code 20 = .ok (.aload_n 0, 1) := by decide +kernel
theorem dC3_21 : Jvm.ClassFile.decode jdk_52_method_16_code 21 = .ok (.iload_n 1, 1) := by decide +kernel
theorem dC3_22 : Jvm.ClassFile.decode jdk_52_method_16_code 22 = .ok (.iload_n 2, 1) := by decide +kernel
theorem dC3_23 : Jvm.ClassFile.decode jdk_52_method_16_code 23 = .ok (.invokestatic 119, 3) := by decide +kernel
theorem wd74 {a0 : Array Value} {Z : State} (hw : hWt a0 Z) : (Cond.methodLink "java/lang/StringUTF16" (119 : Nat) ({ cls := "java/lang/StringUTF16", name := "toBytes", desc := "([CII)[B" } : MethodName)).before a0 Z = true := hw _ (List.mem_of_getElem? (i := 74) rfl)
theorem wd76 {a0 : Array Value} {Z : State} (hw : hWt a0 Z) : (Cond.code ({ cls := "java/lang/StringUTF16", name := "toBytes", desc := "([CII)[B" } : MethodName) jdk_52_method_14_code (5 : Nat) (Option.some (FieldType.array FieldType.byte))).before a0 Z = true := hw _ (List.mem_of_getElem? (i := 76) rfl)
theorem own_pd5 : parseMethodDescriptor "([CII)[B" = some ⟨[(.array .char), .int, .int], some (.array .byte)⟩ := by decide +kernel
theorem wd75 {a0 : Array Value} {Z : State} (hw : hWt a0 Z) : (Cond.static ({ cls := "java/lang/StringUTF16", name := "toBytes", desc := "([CII)[B" } : MethodName)).before a0 Z = true := hw _ (List.mem_of_getElem? (i := 75) rfl)
theorem dC3_26 : Jvm.ClassFile.decode jdk_52_method_16_code 26 = .ok (.astore 5, 2) := by decide +kernel
theorem dC3_28 : Jvm.ClassFile.decode jdk_52_method_16_code 28 = .ok (.aload 5, 2) := by decide +kernel
theorem dC3_30 : Jvm.ClassFile.decode jdk_52_method_16_code 30 = .ok (.iload 4, 2) := by decide +kernel
theorem dC3_32 : Jvm.ClassFile.decode jdk_52_method_16_code 32 = .ok (.invokestatic 71, 3) := by decide +kernel
theorem wd90 {a0 : Array Value} {Z : State} (hw : hWt a0 Z) : (Cond.methodLink "java/lang/StringUTF16" (71 : Nat) ({ cls := "java/lang/StringUTF16", name := "getChar", desc := "([BI)C" } : MethodName)).before a0 Z = true := hw _ (List.mem_of_getElem? (i := 90) rfl)
theorem wd92 {a0 : Array Value} {Z : State} (hw : hWt a0 Z) : (Cond.code ({ cls := "java/lang/StringUTF16", name := "getChar", desc := "([BI)C" } : MethodName) jdk_52_method_5_code (2 : Nat) (Option.some FieldType.char)).before a0 Z = true := hw _ (List.mem_of_getElem? (i := 92) rfl)
theorem own_pd6 : parseMethodDescriptor "([BI)C" = some ⟨[(.array .byte), .int], some .char⟩ := by decide +kernel
theorem wd91 {a0 : Array Value} {Z : State} (hw : hWt a0 Z) : (Cond.static ({ cls := "java/lang/StringUTF16", name := "getChar", desc := "([BI)C" } : MethodName)).before a0 Z = true := hw _ (List.mem_of_getElem? (i := 91) rfl)
theorem dC3_35 : Jvm.ClassFile.decode jdk_52_method_16_code 35 = .ok (.sipush 255, 3) := by decide +kernel
theorem dC3_38 : Jvm.ClassFile.decode jdk_52_method_16_code 38 = .ok (.if_icmp .gt 16, 3) := by decide +kernel
theorem dC3_54 : Jvm.ClassFile.decode jdk_52_method_16_code 54 = .ok (.aload 5, 2) := by decide +kernel
theorem dC3_56 : Jvm.ClassFile.decode jdk_52_method_16_code 56 = .ok (.areturn, 1) := by decide +kernel
theorem dN4_0 : Jvm.ClassFile.decode jdk_42_method_149_code 0 = .ok (.aload_n 0, 1) := by decide +kernel
theorem dN4_1 : Jvm.ClassFile.decode jdk_42_method_149_code 1 = .ok (.invokespecial 1, 3) := by decide +kernel
theorem dN4_4 : Jvm.ClassFile.decode jdk_42_method_149_code 4 = .ok (.iload_n 3, 1) := by decide +kernel
theorem dN4_5 : Jvm.ClassFile.decode jdk_42_method_149_code 5 = .ok (.ifCond .ne 22, 3) := by decide +kernel
theorem dN4_27 : Jvm.ClassFile.decode jdk_42_method_149_code 27 = .ok (.getstatic 38, 3) := by decide +kernel
theorem wd37 {a0 : Array Value} {Z : State} (hw : hWt a0 Z) : (Cond.fieldLink "java/lang/String" (38 : Nat) "java/lang/String" "COMPACT_STRINGS" "Z").before a0 Z = true := hw _ (List.mem_of_getElem? (i := 37) rfl)
theorem dN4_30 : Jvm.ClassFile.decode jdk_42_method_149_code 30 = .ok (.ifCond .eq 28, 3) := by decide +kernel
theorem dN4_33 : Jvm.ClassFile.decode jdk_42_method_149_code 33 = .ok (.aload_n 1, 1) := by decide +kernel
theorem dN4_34 : Jvm.ClassFile.decode jdk_42_method_149_code 34 = .ok (.iload_n 2, 1) := by decide +kernel
theorem dN4_35 : Jvm.ClassFile.decode jdk_42_method_149_code 35 = .ok (.iload_n 3, 1) := by decide +kernel
theorem dN4_36 : Jvm.ClassFile.decode jdk_42_method_149_code 36 = .ok (.invokestatic 177, 3) := by decide +kernel
theorem wd38 {a0 : Array Value} {Z : State} (hw : hWt a0 Z) : (Cond.methodLink "java/lang/String" (177 : Nat) ({ cls := "java/lang/StringUTF16", name := "compress", desc := "([CII)[B" } : MethodName)).before a0 Z = true := hw _ (List.mem_of_getElem? (i := 38) rfl)
theorem wd41 {a0 : Array Value} {Z : State} (hw : hWt a0 Z) : (Cond.code ({ cls := "java/lang/StringUTF16", name := "compress", desc := "([CII)[B" } : MethodName) jdk_52_method_16_code (6 : Nat) (Option.some (FieldType.array FieldType.byte))).before a0 Z = true := hw _ (List.mem_of_getElem? (i := 41) rfl)
theorem wd39 {a0 : Array Value} {Z : State} (hw : hWt a0 Z) : (Cond.static ({ cls := "java/lang/StringUTF16", name := "compress", desc := "([CII)[B" } : MethodName)).before a0 Z = true := hw _ (List.mem_of_getElem? (i := 39) rfl)
theorem dN4_39 : Jvm.ClassFile.decode jdk_42_method_149_code 39 = .ok (.astore 5, 2) := by decide +kernel
theorem dN4_41 : Jvm.ClassFile.decode jdk_42_method_149_code 41 = .ok (.aload_n 0, 1) := by decide +kernel
theorem dN4_42 : Jvm.ClassFile.decode jdk_42_method_149_code 42 = .ok (.aload 5, 2) := by decide +kernel
theorem dN4_44 : Jvm.ClassFile.decode jdk_42_method_149_code 44 = .ok (.iload_n 3, 1) := by decide +kernel
theorem dN4_45 : Jvm.ClassFile.decode jdk_42_method_149_code 45 = .ok (.invokestatic 47, 3) := by decide +kernel
theorem wd45 {a0 : Array Value} {Z : State} (hw : hWt a0 Z) : (Cond.methodLink "java/lang/String" (47 : Nat) ({ cls := "java/lang/StringUTF16", name := "coderFromArrayLen", desc := "([BI)B" } : MethodName)).before a0 Z = true := hw _ (List.mem_of_getElem? (i := 45) rfl)
theorem wd47 {a0 : Array Value} {Z : State} (hw : hWt a0 Z) : (Cond.code ({ cls := "java/lang/StringUTF16", name := "coderFromArrayLen", desc := "([BI)B" } : MethodName) jdk_52_method_15_code (2 : Nat) (Option.some FieldType.byte)).before a0 Z = true := hw _ (List.mem_of_getElem? (i := 47) rfl)
theorem own_pd7 : parseMethodDescriptor "([BI)B" = some ⟨[(.array .byte), .int], some .byte⟩ := by decide +kernel
theorem wd46 {a0 : Array Value} {Z : State} (hw : hWt a0 Z) : (Cond.static ({ cls := "java/lang/StringUTF16", name := "coderFromArrayLen", desc := "([BI)B" } : MethodName)).before a0 Z = true := hw _ (List.mem_of_getElem? (i := 46) rfl)
theorem dN4_48 : Jvm.ClassFile.decode jdk_42_method_149_code 48 = .ok (.putfield 15, 3) := by decide +kernel
theorem dN4_51 : Jvm.ClassFile.decode jdk_42_method_149_code 51 = .ok (.aload_n 0, 1) := by decide +kernel
theorem dN4_52 : Jvm.ClassFile.decode jdk_42_method_149_code 52 = .ok (.aload 5, 2) := by decide +kernel
theorem dN4_54 : Jvm.ClassFile.decode jdk_42_method_149_code 54 = .ok (.putfield 9, 3) := by decide +kernel
theorem dN4_57 : Jvm.ClassFile.decode jdk_42_method_149_code 57 = .ok (.return_, 1) := by decide +kernel
theorem dN1_0 : Jvm.ClassFile.decode jdk_42_method_3_code 0 = .ok (.aload_n 0, 1) := by decide +kernel
theorem dN1_1 : Jvm.ClassFile.decode jdk_42_method_3_code 1 = .ok (.aload_n 1, 1) := by decide +kernel
theorem dN1_2 : Jvm.ClassFile.decode jdk_42_method_3_code 2 = .ok (.iconst 0, 1) := by decide +kernel
theorem dN1_3 : Jvm.ClassFile.decode jdk_42_method_3_code 3 = .ok (.aload_n 1, 1) := by decide +kernel
theorem dN1_4 : Jvm.ClassFile.decode jdk_42_method_3_code 4 = .ok (.arraylength, 1) := by decide +kernel
theorem dN1_5 : Jvm.ClassFile.decode jdk_42_method_3_code 5 = .ok (.aconst_null, 1) := by decide +kernel
theorem dN1_6 : Jvm.ClassFile.decode jdk_42_method_3_code 6 = .ok (.invokespecial 27, 3) := by decide +kernel
theorem dN1_9 : Jvm.ClassFile.decode jdk_42_method_3_code 9 = .ok (.return_, 1) := by decide +kernel
theorem dC5_26 : Jvm.ClassFile.decode jdk_52_method_21_code 26 = .ok (.aload_n 2, 1) := by decide +kernel
theorem dC5_27 : Jvm.ClassFile.decode jdk_52_method_21_code 27 = .ok (.iload_n 3, 1) := by decide +kernel
theorem dC5_28 : Jvm.ClassFile.decode jdk_52_method_21_code 28 = .ok (.iload 6, 2) := by decide +kernel
theorem dC5_30 : Jvm.ClassFile.decode jdk_52_method_21_code 30 = .ok (.i2b, 1) := by decide +kernel
theorem dC5_31 : Jvm.ClassFile.decode jdk_52_method_21_code 31 = .ok (.bastore, 1) := by decide +kernel
theorem dC5_32 : Jvm.ClassFile.decode jdk_52_method_21_code 32 = .ok (.iinc 1 1, 3) := by decide +kernel
theorem dC5_35 : Jvm.ClassFile.decode jdk_52_method_21_code 35 = .ok (.iinc 3 1, 3) := by decide +kernel
theorem dC5_38 : Jvm.ClassFile.decode jdk_52_method_21_code 38 = .ok (.iinc 5 1, 3) := by decide +kernel
theorem dC5_41 : Jvm.ClassFile.decode jdk_52_method_21_code 41 = .ok (.goto (-38), 3) := by decide +kernel
theorem own_pn2 : plainName "jdk/internal/util/Preconditions" = true := by first | (simp [plainName, overriddenIn]; done) | decide +kernel
theorem dPI_0 : Jvm.ClassFile.decode jdk_41_method_11_code 0 = .ok (.iload_n 0, 1) := by decide +kernel
theorem dPI_1 : Jvm.ClassFile.decode jdk_41_method_11_code 1 = .ok (.ifCond .lt 8, 3) := by decide +kernel
theorem dPI_4 : Jvm.ClassFile.decode jdk_41_method_11_code 4 = .ok (.iload_n 0, 1) := by decide +kernel
theorem dPI_5 : Jvm.ClassFile.decode jdk_41_method_11_code 5 = .ok (.iload_n 1, 1) := by decide +kernel
theorem dPI_6 : Jvm.ClassFile.decode jdk_41_method_11_code 6 = .ok (.if_icmp .lt 10, 3) := by decide +kernel
theorem dPI_16 : Jvm.ClassFile.decode jdk_41_method_11_code 16 = .ok (.iload_n 0, 1) := by decide +kernel
theorem dPI_17 : Jvm.ClassFile.decode jdk_41_method_11_code 17 = .ok (.ireturn, 1) := by decide +kernel
theorem dCI_0 : Jvm.ClassFile.decode jdk_42_method_155_code 0 = .ok (.iload_n 0, 1) := by decide +kernel
theorem dCI_1 : Jvm.ClassFile.decode jdk_42_method_155_code 1 = .ok (.iload_n 1, 1) := by decide +kernel
theorem dCI_2 : Jvm.ClassFile.decode jdk_42_method_155_code 2 = .ok (.getstatic 1053, 3) := by decide +kernel
theorem wd69 {a0 : Array Value} {Z : State} (hw : hWt a0 Z) : (Cond.fieldLink "java/lang/String" (1053 : Nat) "jdk/internal/util/Preconditions" "SIOOBE_FORMATTER" "Ljava/util/function/BiFunction;").before a0 Z = true := hw _ (List.mem_of_getElem? (i := 69) rfl)
theorem dCI_5 : Jvm.ClassFile.decode jdk_42_method_155_code 5 = .ok (.invokestatic 1059, 3) := by decide +kernel
theorem wd71 {a0 : Array Value} {Z : State} (hw : hWt a0 Z) : (Cond.methodLink "java/lang/String" (1059 : Nat) ({ cls := "jdk/internal/util/Preconditions", name := "checkIndex", desc := "(IILjava/util/function/BiFunction;)I" } : MethodName)).before a0 Z = true := hw _ (List.mem_of_getElem? (i := 71) rfl)
theorem wd73 {a0 : Array Value} {Z : State} (hw : hWt a0 Z) : (Cond.code ({ cls := "jdk/internal/util/Preconditions", name := "checkIndex", desc := "(IILjava/util/function/BiFunction;)I" } : MethodName) jdk_41_method_11_code (3 : Nat) (Option.some FieldType.int)).before a0 Z = true := hw _ (List.mem_of_getElem? (i := 73) rfl)
theorem wd70 {a0 : Array Value} {Z : State} (hw : hWt a0 Z) : (Cond.initialized "jdk/internal/util/Preconditions").before a0 Z = true := hw _ (List.mem_of_getElem? (i := 70) rfl)
theorem own_pd8 : parseMethodDescriptor "(IILjava/util/function/BiFunction;)I" = some ⟨[.int, .int, (.object "java/util/function/BiFunction")], some .int⟩ := by decide +kernel
theorem wd72 {a0 : Array Value} {Z : State} (hw : hWt a0 Z) : (Cond.static ({ cls := "jdk/internal/util/Preconditions", name := "checkIndex", desc := "(IILjava/util/function/BiFunction;)I" } : MethodName)).before a0 Z = true := hw _ (List.mem_of_getElem? (i := 72) rfl)
theorem dCI_8 : Jvm.ClassFile.decode jdk_42_method_155_code 8 = .ok (.pop, 1) := by decide +kernel
theorem dCI_9 : Jvm.ClassFile.decode jdk_42_method_155_code 9 = .ok (.return_, 1) := by decide +kernel
theorem dIL_0 : Jvm.ClassFile.decode jdk_42_method_154_code 0 = .ok (.getstatic 38, 3) := by decide +kernel
theorem dIL_3 : Jvm.ClassFile.decode jdk_42_method_154_code 3 = .ok (.ifCond .eq 14, 3) := by decide +kernel
theorem dIL_6 : Jvm.ClassFile.decode jdk_42_method_154_code 6 = .ok (.aload_n 0, 1) := by decide +kernel
theorem dIL_7 : Jvm.ClassFile.decode jdk_42_method_154_code 7 = .ok (.getfield 15, 3) := by decide +kernel
theorem dIL_10 : Jvm.ClassFile.decode jdk_42_method_154_code 10 = .ok (.ifCond .ne 7, 3) := by decide +kernel
theorem dIL_17 : Jvm.ClassFile.decode jdk_42_method_154_code 17 = .ok (.iconst 0, 1) := by decide +kernel
theorem dIL_18 : Jvm.ClassFile.decode jdk_42_method_154_code 18 = .ok (.ireturn, 1) := by decide +kernel
theorem dUI_0 : Jvm.ClassFile.decode jdk_52_method_91_code 0 = .ok (.iload_n 0, 1) := by decide +kernel
theorem dUI_1 : Jvm.ClassFile.decode jdk_52_method_91_code 1 = .ok (.aload_n 1, 1) := by decide +kernel
theorem dUI_2 : Jvm.ClassFile.decode jdk_52_method_91_code 2 = .ok (.invokestatic 48, 3) := by decide +kernel
theorem wd99 {a0 : Array Value} {Z : State} (hw : hWt a0 Z) : (Cond.methodLink "java/lang/StringUTF16" (48 : Nat) ({ cls := "java/lang/StringUTF16", name := "length", desc := "([B)I" } : MethodName)).before a0 Z = true := hw _ (List.mem_of_getElem? (i := 99) rfl)
theorem wd101 {a0 : Array Value} {Z : State} (hw : hWt a0 Z) : (Cond.code ({ cls := "java/lang/StringUTF16", name := "length", desc := "([B)I" } : MethodName) jdk_52_method_6_code (1 : Nat) (Option.some FieldType.int)).before a0 Z = true := hw _ (List.mem_of_getElem? (i := 101) rfl)
theorem own_pd9 : parseMethodDescriptor "([B)I" = some ⟨[(.array .byte)], some .int⟩ := by decide +kernel
theorem wd100 {a0 : Array Value} {Z : State} (hw : hWt a0 Z) : (Cond.static ({ cls := "java/lang/StringUTF16", name := "length", desc := "([B)I" } : MethodName)).before a0 Z = true := hw _ (List.mem_of_getElem? (i := 100) rfl)
theorem dUI_5 : Jvm.ClassFile.decode jdk_52_method_91_code 5 = .ok (.invokestatic 414, 3) := by decide +kernel
theorem wd102 {a0 : Array Value} {Z : State} (hw : hWt a0 Z) : (Cond.methodLink "java/lang/StringUTF16" (414 : Nat) ({ cls := "java/lang/String", name := "checkIndex", desc := "(II)V" } : MethodName)).before a0 Z = true := hw _ (List.mem_of_getElem? (i := 102) rfl)
theorem wd68 {a0 : Array Value} {Z : State} (hw : hWt a0 Z) : (Cond.code ({ cls := "java/lang/String", name := "checkIndex", desc := "(II)V" } : MethodName) jdk_42_method_155_code (2 : Nat) (Option.none : Option FieldType)).before a0 Z = true := hw _ (List.mem_of_getElem? (i := 68) rfl)
theorem own_pd10 : parseMethodDescriptor "(II)V" = some ⟨[.int, .int], none⟩ := by decide +kernel
theorem wd67 {a0 : Array Value} {Z : State} (hw : hWt a0 Z) : (Cond.static ({ cls := "java/lang/String", name := "checkIndex", desc := "(II)V" } : MethodName)).before a0 Z = true := hw _ (List.mem_of_getElem? (i := 67) rfl)
theorem dUI_8 : Jvm.ClassFile.decode jdk_52_method_91_code 8 = .ok (.return_, 1) := by decide +kernel
theorem dUC_0 : Jvm.ClassFile.decode jdk_52_method_83_code 0 = .ok (.iload_n 1, 1) := by decide +kernel
theorem dUC_1 : Jvm.ClassFile.decode jdk_52_method_83_code 1 = .ok (.aload_n 0, 1) := by decide +kernel
theorem dUC_2 : Jvm.ClassFile.decode jdk_52_method_83_code 2 = .ok (.invokestatic 67, 3) := by decide +kernel
theorem wd96 {a0 : Array Value} {Z : State} (hw : hWt a0 Z) : (Cond.methodLink "java/lang/StringUTF16" (67 : Nat) ({ cls := "java/lang/StringUTF16", name := "checkIndex", desc := "(I[B)V" } : MethodName)).before a0 Z = true := hw _ (List.mem_of_getElem? (i := 96) rfl)
theorem wd98 {a0 : Array Value} {Z : State} (hw : hWt a0 Z) : (Cond.code ({ cls := "java/lang/StringUTF16", name := "checkIndex", desc := "(I[B)V" } : MethodName) jdk_52_method_91_code (2 : Nat) (Option.none : Option FieldType)).before a0 Z = true := hw _ (List.mem_of_getElem? (i := 98) rfl)
theorem own_pd11 : parseMethodDescriptor "(I[B)V" = some ⟨[.int, (.array .byte)], none⟩ := by decide +kernel
theorem wd97 {a0 : Array Value} {Z : State} (hw : hWt a0 Z) : (Cond.static ({ cls := "java/lang/StringUTF16", name := "checkIndex", desc := "(I[B)V" } : MethodName)).before a0 Z = true := hw _ (List.mem_of_getElem? (i := 97) rfl)
theorem dUC_5 : Jvm.ClassFile.decode jdk_52_method_83_code 5 = .ok (.aload_n 0, 1) := by decide +kernel
theorem dUC_6 : Jvm.ClassFile.decode jdk_52_method_83_code 6 = .ok (.iload_n 1, 1) := by decide +kernel
theorem dUC_7 : Jvm.ClassFile.decode jdk_52_method_83_code 7 = .ok (.invokestatic 71, 3) := by decide +kernel
theorem dUC_10 : Jvm.ClassFile.decode jdk_52_method_83_code 10 = .ok (.ireturn, 1) := by decide +kernel
theorem dCA_0 : Jvm.ClassFile.decode jdk_42_method_56_code 0 = .ok (.aload_n 0, 1) := by decide +kernel
theorem dCA_1 : Jvm.ClassFile.decode jdk_42_method_56_code 1 = .ok (.invokevirtual 492, 3) := by decide +kernel
theorem wd57 {a0 : Array Value} {Z : State} (hw : hWt a0 Z) : (Cond.methodLink "java/lang/String" (492 : Nat) ({ cls := "java/lang/String", name := "isLatin1", desc := "()Z" } : MethodName)).before a0 Z = true := hw _ (List.mem_of_getElem? (i := 57) rfl)
theorem wd61 {a0 : Array Value} {Z : State} (hw : hWt a0 Z) : (Cond.code ({ cls := "java/lang/String", name := "isLatin1", desc := "()Z" } : MethodName) jdk_42_method_154_code (1 : Nat) (Option.some FieldType.boolean)).before a0 Z = true := hw _ (List.mem_of_getElem? (i := 61) rfl)
theorem own_pd12 : parseMethodDescriptor "()Z" = some ⟨[], some .boolean⟩ := by decide +kernel
theorem wd60 {a0 : Array Value} {Z : State} (hw : hWt a0 Z) : (Cond.selects "java/lang/String" ({ cls := "java/lang/String", name := "isLatin1", desc := "()Z" } : MethodName) ({ cls := "java/lang/String", name := "isLatin1", desc := "()Z" } : MethodName)).before a0 Z = true := hw _ (List.mem_of_getElem? (i := 60) rfl)
theorem wd58 {a0 : Array Value} {Z : State} (hw : hWt a0 Z) : (Cond.declares ({ cls := "java/lang/String", name := "isLatin1", desc := "()Z" } : MethodName)).before a0 Z = true := hw _ (List.mem_of_getElem? (i := 58) rfl)
theorem wd59 {a0 : Array Value} {Z : State} (hw : hWt a0 Z) : (Cond.instanceMethod ({ cls := "java/lang/String", name := "isLatin1", desc := "()Z" } : MethodName)).before a0 Z = true := hw _ (List.mem_of_getElem? (i := 59) rfl)
theorem dCA_4 : Jvm.ClassFile.decode jdk_42_method_56_code 4 = .ok (.ifCond .eq 12, 3) := by decide +kernel
theorem dCA_16 : Jvm.ClassFile.decode jdk_42_method_56_code 16 = .ok (.aload_n 0, 1) := by decide +kernel
theorem dCA_17 : Jvm.ClassFile.decode jdk_42_method_56_code 17 = .ok (.getfield 9, 3) := by decide +kernel
theorem dCA_20 : Jvm.ClassFile.decode jdk_42_method_56_code 20 = .ok (.iload_n 1, 1) := by decide +kernel
theorem dCA_21 : Jvm.ClassFile.decode jdk_42_method_56_code 21 = .ok (.invokestatic 498, 3) := by decide +kernel
theorem wd93 {a0 : Array Value} {Z : State} (hw : hWt a0 Z) : (Cond.methodLink "java/lang/String" (498 : Nat) ({ cls := "java/lang/StringUTF16", name := "charAt", desc := "([BI)C" } : MethodName)).before a0 Z = true := hw _ (List.mem_of_getElem? (i := 93) rfl)
theorem wd95 {a0 : Array Value} {Z : State} (hw : hWt a0 Z) : (Cond.code ({ cls := "java/lang/StringUTF16", name := "charAt", desc := "([BI)C" } : MethodName) jdk_52_method_83_code (2 : Nat) (Option.some FieldType.char)).before a0 Z = true := hw _ (List.mem_of_getElem? (i := 95) rfl)
theorem wd94 {a0 : Array Value} {Z : State} (hw : hWt a0 Z) : (Cond.static ({ cls := "java/lang/StringUTF16", name := "charAt", desc := "([BI)C" } : MethodName)).before a0 Z = true := hw _ (List.mem_of_getElem? (i := 94) rfl)
theorem dCA_24 : Jvm.ClassFile.decode jdk_42_method_56_code 24 = .ok (.ireturn, 1) := by decide +kernel
theorem wd56 {a0 : Array Value} {Z : State} (hw : hWt a0 Z) : (Cond.code ({ cls := "java/lang/String", name := "charAt", desc := "(I)C" } : MethodName) jdk_42_method_56_code (2 : Nat) (Option.some FieldType.char)).before a0 Z = true := hw _ (List.mem_of_getElem? (i := 56) rfl)
theorem own_pn3 : plainName "com/example/ward/ward/BasicCredentials" = true := by first | (simp [plainName, overriddenIn]; done) | decide +kernel
theorem dHC_0 : Jvm.ClassFile.decode prog_4_method_3_code 0 = .ok (.iconst 0, 1) := by decide +kernel
theorem dHC_1 : Jvm.ClassFile.decode prog_4_method_3_code 1 = .ok (.istore_n 1, 1) := by decide +kernel
theorem dHC_2 : Jvm.ClassFile.decode prog_4_method_3_code 2 = .ok (.iload_n 1, 1) := by decide +kernel
theorem dHC_3 : Jvm.ClassFile.decode prog_4_method_3_code 3 = .ok (.aload_n 0, 1) := by decide +kernel
theorem dHC_4 : Jvm.ClassFile.decode prog_4_method_3_code 4 = .ok (.invokevirtual 28, 3) := by decide +kernel
theorem wd27 {a0 : Array Value} {Z : State} (hw : hWt a0 Z) : (Cond.methodLink "com/example/ward/ward/BasicCredentials" (28 : Nat) ({ cls := "java/lang/String", name := "length", desc := "()I" } : MethodName)).before a0 Z = true := hw _ (List.mem_of_getElem? (i := 27) rfl)
theorem own_pd13 : parseMethodDescriptor "()I" = some ⟨[], some .int⟩ := by decide +kernel
theorem wd30 {a0 : Array Value} {Z : State} (hw : hWt a0 Z) : (Cond.selects "java/lang/String" ({ cls := "java/lang/String", name := "length", desc := "()I" } : MethodName) ({ cls := "java/lang/String", name := "length", desc := "()I" } : MethodName)).before a0 Z = true := hw _ (List.mem_of_getElem? (i := 30) rfl)
theorem wd28 {a0 : Array Value} {Z : State} (hw : hWt a0 Z) : (Cond.declares ({ cls := "java/lang/String", name := "length", desc := "()I" } : MethodName)).before a0 Z = true := hw _ (List.mem_of_getElem? (i := 28) rfl)
theorem wd29 {a0 : Array Value} {Z : State} (hw : hWt a0 Z) : (Cond.instanceMethod ({ cls := "java/lang/String", name := "length", desc := "()I" } : MethodName)).before a0 Z = true := hw _ (List.mem_of_getElem? (i := 29) rfl)
theorem dHC_7 : Jvm.ClassFile.decode prog_4_method_3_code 7 = .ok (.if_icmp .ge 29, 3) := by decide +kernel
theorem dHC_36 : Jvm.ClassFile.decode prog_4_method_3_code 36 = .ok (.iconst 0, 1) := by decide +kernel
theorem dHC_37 : Jvm.ClassFile.decode prog_4_method_3_code 37 = .ok (.ireturn, 1) := by decide +kernel
theorem dHC_10 : Jvm.ClassFile.decode prog_4_method_3_code 10 = .ok (.aload_n 0, 1) := by decide +kernel
theorem dHC_11 : Jvm.ClassFile.decode prog_4_method_3_code 11 = .ok (.iload_n 1, 1) := by decide +kernel
theorem dHC_12 : Jvm.ClassFile.decode prog_4_method_3_code 12 = .ok (.invokevirtual 42, 3) := by decide +kernel
theorem wd52 {a0 : Array Value} {Z : State} (hw : hWt a0 Z) : (Cond.methodLink "com/example/ward/ward/BasicCredentials" (42 : Nat) ({ cls := "java/lang/String", name := "charAt", desc := "(I)C" } : MethodName)).before a0 Z = true := hw _ (List.mem_of_getElem? (i := 52) rfl)
theorem own_pd14 : parseMethodDescriptor "(I)C" = some ⟨[.int], some .char⟩ := by decide +kernel
theorem wd55 {a0 : Array Value} {Z : State} (hw : hWt a0 Z) : (Cond.selects "java/lang/String" ({ cls := "java/lang/String", name := "charAt", desc := "(I)C" } : MethodName) ({ cls := "java/lang/String", name := "charAt", desc := "(I)C" } : MethodName)).before a0 Z = true := hw _ (List.mem_of_getElem? (i := 55) rfl)
theorem wd53 {a0 : Array Value} {Z : State} (hw : hWt a0 Z) : (Cond.declares ({ cls := "java/lang/String", name := "charAt", desc := "(I)C" } : MethodName)).before a0 Z = true := hw _ (List.mem_of_getElem? (i := 53) rfl)
theorem wd54 {a0 : Array Value} {Z : State} (hw : hWt a0 Z) : (Cond.instanceMethod ({ cls := "java/lang/String", name := "charAt", desc := "(I)C" } : MethodName)).before a0 Z = true := hw _ (List.mem_of_getElem? (i := 54) rfl)
theorem dHC_15 : Jvm.ClassFile.decode prog_4_method_3_code 15 = .ok (.istore_n 2, 1) := by decide +kernel
theorem dHC_16 : Jvm.ClassFile.decode prog_4_method_3_code 16 = .ok (.iload_n 2, 1) := by decide +kernel
theorem dHC_17 : Jvm.ClassFile.decode prog_4_method_3_code 17 = .ok (.bipush 32, 2) := by decide +kernel
theorem dHC_19 : Jvm.ClassFile.decode prog_4_method_3_code 19 = .ok (.if_icmp .lt 9, 3) := by decide +kernel
theorem dHC_28 : Jvm.ClassFile.decode prog_4_method_3_code 28 = .ok (.iconst 1, 1) := by decide +kernel
theorem dHC_29 : Jvm.ClassFile.decode prog_4_method_3_code 29 = .ok (.ireturn, 1) := by decide +kernel
theorem dHC_22 : Jvm.ClassFile.decode prog_4_method_3_code 22 = .ok (.iload_n 2, 1) := by decide +kernel
theorem dHC_23 : Jvm.ClassFile.decode prog_4_method_3_code 23 = .ok (.bipush 127, 2) := by decide +kernel
theorem dHC_25 : Jvm.ClassFile.decode prog_4_method_3_code 25 = .ok (.if_icmp .ne 5, 3) := by decide +kernel
theorem dHC_30 : Jvm.ClassFile.decode prog_4_method_3_code 30 = .ok (.iinc 1 1, 3) := by decide +kernel
theorem dHC_33 : Jvm.ClassFile.decode prog_4_method_3_code 33 = .ok (.goto (-31), 3) := by decide +kernel
theorem own_pn4 : plainName "com/example/ward/ward/BasicCredentialsHoldsControlPinLaw" = true := by first | (simp [plainName, overriddenIn]; done) | decide +kernel
theorem dCT_0 : Jvm.ClassFile.decode method_2_code 0 = .ok (.iload_n 0, 1) := by decide +kernel
theorem dCT_1 : Jvm.ClassFile.decode method_2_code 1 = .ok (.istore_n 1, 1) := by decide +kernel
theorem dCT_2 : Jvm.ClassFile.decode method_2_code 2 = .ok (.iload_n 1, 1) := by decide +kernel
theorem dCT_3 : Jvm.ClassFile.decode method_2_code 3 = .ok (.ifCond .lt 9, 3) := by decide +kernel
theorem dCT_6 : Jvm.ClassFile.decode method_2_code 6 = .ok (.iload_n 1, 1) := by decide +kernel
theorem dCT_7 : Jvm.ClassFile.decode method_2_code 7 = .ok (.bipush 31, 2) := by decide +kernel
theorem dCT_9 : Jvm.ClassFile.decode method_2_code 9 = .ok (.if_icmp .le 9, 3) := by decide +kernel
theorem dCT_12 : Jvm.ClassFile.decode method_2_code 12 = .ok (.iload_n 1, 1) := by decide +kernel
theorem dCT_13 : Jvm.ClassFile.decode method_2_code 13 = .ok (.bipush 127, 2) := by decide +kernel
theorem dCT_15 : Jvm.ClassFile.decode method_2_code 15 = .ok (.if_icmp .ne 7, 3) := by decide +kernel
theorem dCT_18 : Jvm.ClassFile.decode method_2_code 18 = .ok (.iconst 1, 1) := by decide +kernel
theorem dCT_19 : Jvm.ClassFile.decode method_2_code 19 = .ok (.goto 4, 3) := by decide +kernel
theorem dCT_23 : Jvm.ClassFile.decode method_2_code 23 = .ok (.ireturn, 1) := by decide +kernel
theorem dCT_22 : Jvm.ClassFile.decode method_2_code 22 = .ok (.iconst 0, 1) := by decide +kernel
theorem wd2 {a0 : Array Value} {Z : State} (hw : hWt a0 Z) : (Cond.classLink "com/example/ward/ward/BasicCredentialsHoldsControlPinLaw" (8 : Nat) "java/lang/String").before a0 Z = true := hw _ (List.mem_of_getElem? (i := 2) rfl)
theorem wd5 {a0 : Array Value} {Z : State} (hw : hWt a0 Z) : (Cond.methodLink "com/example/ward/ward/BasicCredentialsHoldsControlPinLaw" (10 : Nat) ({ cls := "java/lang/String", name := "<init>", desc := "([C)V" } : MethodName)).before a0 Z = true := hw _ (List.mem_of_getElem? (i := 5) rfl)
theorem own_pd15 : parseMethodDescriptor "([C)V" = some ⟨[(.array .char)], none⟩ := by decide +kernel
theorem wd6 {a0 : Array Value} {Z : State} (hw : hWt a0 Z) : (Cond.instanceMethod ({ cls := "java/lang/String", name := "<init>", desc := "([C)V" } : MethodName)).before a0 Z = true := hw _ (List.mem_of_getElem? (i := 6) rfl)
theorem wd23 {a0 : Array Value} {Z : State} (hw : hWt a0 Z) : (Cond.methodLink "com/example/ward/ward/BasicCredentialsHoldsControlPinLaw" (19 : Nat) ({ cls := "com/example/ward/ward/BasicCredentials", name := "holdsControl", desc := "(Ljava/lang/String;)Z" } : MethodName)).before a0 Z = true := hw _ (List.mem_of_getElem? (i := 23) rfl)
theorem wd26 {a0 : Array Value} {Z : State} (hw : hWt a0 Z) : (Cond.code ({ cls := "com/example/ward/ward/BasicCredentials", name := "holdsControl", desc := "(Ljava/lang/String;)Z" } : MethodName) prog_4_method_3_code (3 : Nat) (Option.some FieldType.boolean)).before a0 Z = true := hw _ (List.mem_of_getElem? (i := 26) rfl)
theorem wd25 {a0 : Array Value} {Z : State} (hw : hWt a0 Z) : (Cond.initialized "com/example/ward/ward/BasicCredentials").before a0 Z = true := hw _ (List.mem_of_getElem? (i := 25) rfl)
theorem own_pd16 : parseMethodDescriptor "(Ljava/lang/String;)Z" = some ⟨[(.object "java/lang/String")], some .boolean⟩ := by decide +kernel
theorem wd24 {a0 : Array Value} {Z : State} (hw : hWt a0 Z) : (Cond.static ({ cls := "com/example/ward/ward/BasicCredentials", name := "holdsControl", desc := "(Ljava/lang/String;)Z" } : MethodName)).before a0 Z = true := hw _ (List.mem_of_getElem? (i := 24) rfl)
theorem wd48 {a0 : Array Value} {Z : State} (hw : hWt a0 Z) : (Cond.methodLink "com/example/ward/ward/BasicCredentialsHoldsControlPinLaw" (13 : Nat) ({ cls := "com/example/ward/ward/BasicCredentialsHoldsControlPinLaw", name := "ctl", desc := "(C)Z" } : MethodName)).before a0 Z = true := hw _ (List.mem_of_getElem? (i := 48) rfl)
theorem wd51 {a0 : Array Value} {Z : State} (hw : hWt a0 Z) : (Cond.code ({ cls := "com/example/ward/ward/BasicCredentialsHoldsControlPinLaw", name := "ctl", desc := "(C)Z" } : MethodName) method_2_code (2 : Nat) (Option.some FieldType.boolean)).before a0 Z = true := hw _ (List.mem_of_getElem? (i := 51) rfl)
theorem wd50 {a0 : Array Value} {Z : State} (hw : hWt a0 Z) : (Cond.initialized "com/example/ward/ward/BasicCredentialsHoldsControlPinLaw").before a0 Z = true := hw _ (List.mem_of_getElem? (i := 50) rfl)
theorem own_pd17 : parseMethodDescriptor "(C)Z" = some ⟨[.char], some .boolean⟩ := by decide +kernel
theorem wd49 {a0 : Array Value} {Z : State} (hw : hWt a0 Z) : (Cond.static ({ cls := "com/example/ward/ward/BasicCredentialsHoldsControlPinLaw", name := "ctl", desc := "(C)Z" } : MethodName)).before a0 Z = true := hw _ (List.mem_of_getElem? (i := 49) rfl)
theorem wd0 {a0 : Array Value} {Z : State} (hw : hWt a0 Z) : (Cond.constant "com/example/ward/ward/BasicCredentialsHoldsControlPinLaw" (7 : Nat) (2147483647 : Int32)).before a0 Z = true := hw _ (List.mem_of_getElem? (i := 0) rfl)
theorem wd16 {a0 : Array Value} {Z : State} (hw : hWt a0 Z) : (Cond.arrayClass FieldType.byte).before a0 Z = true := hw _ (List.mem_of_getElem? (i := 16) rfl)
def own_QE (Z : State) (x : Nat) (h0 : Heap) (n0 : Nat) (v : Option Value) (h : Heap) (L : List Loc) : Prop := v = none ∧ Fr n0 L ∧ Keep h0 h [x] ∧ ∃ (t : Nat) (kb : ClassId), t ≠ x ∧ Fld Z h x "java/lang/String" "value" "[B" (.ref t) ∧ Fld Z h x "java/lang/String" "coder" "B" (.int 0) ∧ Arv Z h t kb .byte (0 : Int32) [] (.int 0)
def Q_own_init4E (Z : State) (x b : Nat) (v0 c0 : Value) (h0 : Heap) (n0 : Nat) (v : Option Value) (_vm : Vm) (h : Heap) (L : List Loc) : Prop := own_QE Z x h0 n0 v h L
theorem ef_own_init4E (m : MethodId) (x0 : Nat) (x1 : Nat) : entryFrame m #[(.ref x0), (.ref x1), (.int 0), (.int 0), .null] 6 = mkF m 0 #[.val (.ref x0), .val (.ref x1), .val (.int 0), .val (.int 0), .val .null, .unset] [] := by first | (simp [entryFrame, mkF, argsToLocals, Value.category]; done) | rfl
theorem own_init4E (l : Launch) (Z : State) (a0 : Array Value) (hw : hWt a0 Z) (hEL : EW Z a0 consts_1) (ws : List Jvm.Cond) (x b : Nat) (v0 c0 : Value) (h0 : Heap) (n0 : Nat) (Z0 : n0 ≤ h0.size) (X00 : Old Z n0 h0) (Ex : Exa Z h0 x "java/lang/String") (Fv : Fld Z h0 x "java/lang/String" "value" "[B" v0) (Fc : Fld Z h0 x "java/lang/String" "coder" "B" c0) (gx : n0 ≤ x) (ltx : x < h0.size) :
    MetFree l mN0 (head1 (Jvm.Cond.code mN0 jdk_42_method_149_code 6 none :: ws) rm_1_2_4_12) (own_P Z consts_1 #[(.ref x), (.ref b), (.int 0), (.int 0), .null] h0 [x]) (fun _ _ _ _ _ => True) (own_E Z consts_1 (Q_own_init4E Z x b v0 c0 h0 n0) rm_1_2_4_12) := by
 refine MetFree.of_bodySF (plainFor_of_name own_pn0) hisR ?_
 intro p e s m args below meth c s₁ Bd hml0 hP hK
 obtain ⟨rfl, hZ, hh, hCH, hSafe⟩ := hP
 have hx := Bd.exec
 have hby := Bd.bytes
 have hml : c.maxLocals = 6 := hml0
 have hown : s.vm.findClass "java/lang/String" = some m.cls := findClass_of_methodNamed Bd.named
 have hnm := (name_of_methodNamed Bd.named Bd.method).1
 have X0 : Stand p l e rm_1_2_4_12 (s.setVm s.vm) m #[(.ref x), (.ref b), (.int 0), (.int 0), .null] below meth c s₁ [] 0 0 := Stand.of_body Bd
 have e0 : s₁.heap = h0 := by rw [← hh, Bd.state]; rfl
 have N0 := Fr.nil n0
 have K0 : Keep h0 h0 [x] := Keep.refl h0 [x]
 have S0 : s.Since s.vm 0 := own_since s
 have C0 : CHr Z consts_1 s.vm h0 s.vm h0 := CHr.refl hCH
 refine show own_G p e below (own_E Z consts_1 (Q_own_init4E Z x b v0 c0 h0 n0) rm_1_2_4_12 #[(.ref x), (.ref b), (.int 0), (.int 0), .null] s) _ from ?_
 refine own_st (fun tq kq => castTop (ef_own_init4E m (x) (b)) kq) ?_
 show own_G p e below _ (s₁.setTop (mkF m 0 #[vR x, vR b, vI 0, vI 0, .val .null, .unset] []))
 have hws0 : ∀ y ∈ [x], n0 ≤ y := allS gx all0
 refine s_aloadN X0 hx (hb hby dS4_0) rfl rfl ?_
 obtain ⟨T1, X1, e1, st1⟩ := initO X0 hx hZ hown (wd12 hw) (wd13 hw) (wd14 hw) e0 (g := (mkF m 1 #[vR x, vR b, vI 0, vI 0, .val .null, .unset] [(.ref x)])) rfl (by rw [hml]; rfl) rfl (hb hby dS4_1) (by decide) (W := 0) (Nat.le_of_eq rfl) (by decide)
 refine own_st st1 ?_
 refine s_iloadN X1 hx (hb hby dS4_4) rfl ?_
 show own_G p e below _ (T1.setTop (mkF m 5 #[vR x, vR b, vI 0, vI 0, .val .null, .unset] [(.int 0)]))
 refine own_st (fun tq kq => XS.ifNo X1.here hx rfl (hb hby dS4_5) rfl ((if0 _ _).trans (teq (by decide : ((0 : Int32) = (0 : Int32)))).2) kq) ?_
 refine s_aloadN X1 hx (hb hby dS4_8) rfl rfl ?_
 obtain ⟨a2, T2, h2, k2, b2, kb2, X2, e2, E2, S2, hk2, Z2, o2, Ex2, Fc2, Fv2, Av2, la2, lb2, c2, L2, ne2, st2⟩ := ldcCH (s := s) (vm0 := s.vm) X1 hx hZ hown (wd15 hw) (own_wS hw) e1 S0 (own_le (by omega)) hEL (by simp [consts_1]) C0.1 (vs := []) (z := (0 : Int32)) ⟨by decide, by decide⟩ (by decide) (by decide) (g := (mkF m 9 #[vR x, vR b, vI 0, vI 0, .val .null, .unset] [(.ref x)])) rfl (hb hby dS4_9) (n := 0) (by decide) (by decide) (by decide) (by decide)
 have la2 := own_lt la2
 have lb2 := own_lt lb2
 have sz2 : h0.size ≤ h2.size := E2.1
 have K2 : Keep h0 h2 [x] := K0.ext E2
 have C2 := C0.trans c2
 have Sf2_3 := c2.safe (own_lt (by omega)) (hSafe _ (List.mem_of_getElem? (i := 0) rfl))
 obtain ⟨nx4, ny4⟩ := ne2 _ Sf2_3
 have nx4 := own_ne nx4
 have ny4 := own_ne ny4
 refine own_st st2 ?_
 obtain ⟨T5, X5, e5, st5⟩ := getF X2 hx Z2 o2 (host := "") (Or.inl (wd21 hw)) Via.refl e2 Fv2 (g := (mkF m 11 #[vR x, vR b, vI 0, vI 0, .val .null, .unset] [(.ref a2), (.ref x)])) rfl rfl (hb hby dS4_11)
 refine own_st st5 ?_
 obtain ⟨T6, h6, X6, e6, W6, st6⟩ := putF X5 hx Z2 o2 (host := "") (Or.inl (wd21 hw)) Via.refl e5 (Fv.ext E2) (Ex.ext E2) (Or.inr ⟨(wd17 hw), rfl, hnm⟩) (wd3 hw) (ty := (.array .byte)) (by decide) rfl rfl (g := (mkF m 14 #[vR x, vR b, vI 0, vI 0, .val .null, .unset] [(.ref b2), (.ref x)])) rfl rfl (hb hby dS4_14)
 have Fw6 := (Fv.ext E2).same W6
 have sz6 : h2.size ≤ h6.size := (Keep.of_wr W6).1
 have K6 : Keep h0 h6 [x] := K2.wr W6 (Or.inl (by simp))
 have c6 : CHr Z consts_1 T2.vm h2 T2.vm h6 := CHr.wr W6 Sf2_3 C2.1
 have C6 := C2.trans c6
 have Sf6_7 := c6.safe (own_lt (by omega)) Sf2_3
 have N6 := Fr.snoc X6 N0 (own_le (by omega))
 refine own_st st6 ?_
 refine s_aloadN X6 hx (hb hby dS4_17) rfl rfl ?_
 refine own_st (fun tq kq => ldcAgain (s := s) (vm0 := T2.vm) X6 hx Z2 o2 (wd15 hw) L2 (g := (mkF m 18 #[vR x, vR b, vI 0, vI 0, .val .null, .unset] [(.ref x)])) rfl (hb hby dS4_18) _ kq) ?_
 obtain ⟨T8, X8, e8, st8⟩ := getF X6 hx Z2 o2 (host := "") (Or.inl (wd22 hw)) Via.refl e6 (Fc2.other W6 (Or.inl (own_ne (by omega)))) (g := (mkF m 20 #[vR x, vR b, vI 0, vI 0, .val .null, .unset] [(.ref a2), (.ref x)])) rfl rfl (hb hby dS4_20)
 refine own_st st8 ?_
 obtain ⟨T9, h9, X9, e9, W9, st9⟩ := putF X8 hx Z2 o2 (host := "") (Or.inl (wd22 hw)) Via.refl e8 ((Fc.ext E2).other W6 (Or.inr (slot_ne (Or.inr (wd18 hw)) (Or.inr (wd17 hw)) (by decide) (t := .byte) (t' := (.array .byte)) (by decide) (by decide)))) ((Ex.ext E2).wr W6) (Or.inr ⟨(wd18 hw), rfl, hnm⟩) (wd3 hw) (ty := .byte) (by decide) rfl rfl (g := (mkF m 23 #[vR x, vR b, vI 0, vI 0, .val .null, .unset] [(.int 0), (.ref x)])) rfl rfl (hb hby dS4_23)
 have Fw9 := ((Fc.ext E2).other W6 (Or.inr (slot_ne (Or.inr (wd18 hw)) (Or.inr (wd17 hw)) (by decide) (t := .byte) (t' := (.array .byte)) (by decide) (by decide)))).same W9
 have sz9 : h6.size ≤ h9.size := (Keep.of_wr W9).1
 have K9 : Keep h0 h9 [x] := K6.wr W9 (Or.inl (by simp))
 have c9 : CHr Z consts_1 T2.vm h6 T2.vm h9 := CHr.wr W9 Sf6_7 C6.1
 have C9 := C6.trans c9
 have Sf9_10 := c9.safe (own_lt (by omega)) Sf6_7
 have N9 := Fr.snoc X9 N6 (own_le (by omega))
 refine own_st st9 ?_
 obtain ⟨fs, hr, hrun, hended, hRW⟩ := X9.leaveW S2 (by rw [e9]; exact (own_le (by omega))) (v := none) (fun _ => rfl)
 have cE := C9.trans (CHv.at (s := s) (vm0 := T2.vm) X9 Z2 hEL C9.1)
 refine ⟨_, _, X9.returnOut hx Bd.returns (hb hby dS4_26) hr, hrun, hended, _, _, rfl, ?_, ?_, own_RW hRW (by decide) (by decide)⟩
 · change Q_own_init4E Z x b v0 c0 h0 n0 _ T9.vm T9.heap _; rw [e9]; exact ⟨rfl, N9, K9, b2, _, (by omega), (Fw6.other W9 (Or.inr (slot_ne (Or.inr (wd17 hw)) (Or.inr (wd18 hw)) (by decide) (t := (.array .byte)) (t' := .byte) (by decide) (by decide)))), Fw9, ((Av2.other W6 (own_ne (by omega))).other W9 (own_ne (by omega)))⟩
 · rw [hh]; change CHr Z consts_1 s.vm h0 T9.vm T9.heap; rw [e9]; exact cE

def Q_own_init1E (Z : State) (x b : Nat) (v0 c0 dv : Value) (kC : ClassId) (h0 : Heap) (n0 : Nat) (v : Option Value) (_vm : Vm) (h : Heap) (L : List Loc) : Prop := own_QE Z x h0 n0 v h L
theorem ef_own_init1E (m : MethodId) (x0 : Nat) (x1 : Nat) : entryFrame m #[(.ref x0), (.ref x1)] 2 = mkF m 0 #[.val (.ref x0), .val (.ref x1)] [] := by first | (simp [entryFrame, mkF, argsToLocals, Value.category]; done) | rfl
theorem own_init1E (l : Launch) (Z : State) (a0 : Array Value) (hw : hWt a0 Z) (hEL : EW Z a0 consts_1) (ws : List Jvm.Cond) (x b : Nat) (v0 c0 dv : Value) (kC : ClassId) (h0 : Heap) (n0 : Nat) (Z0 : n0 ≤ h0.size) (X00 : Old Z n0 h0) (Ex : Exa Z h0 x "java/lang/String") (Fv : Fld Z h0 x "java/lang/String" "value" "[B" v0) (Fc : Fld Z h0 x "java/lang/String" "coder" "B" c0) (gx : n0 ≤ x) (ltx : x < h0.size) (Vb : Arv Z h0 b kC .char (0 : Int32) [] dv) :
    MetFree l mN1 (head1 (Jvm.Cond.code mN1 jdk_42_method_3_code 2 none :: ws) rm_2_2_4_29) (own_P Z consts_1 #[(.ref x), (.ref b)] h0 [x]) (fun _ _ _ _ _ => True) (own_E Z consts_1 (Q_own_init1E Z x b v0 c0 dv kC h0 n0) rm_2_2_4_29) := by
 refine MetFree.of_bodySF (plainFor_of_name own_pn0) hisR ?_
 intro p e s m args below meth c s₁ Bd hml0 hP hK
 obtain ⟨rfl, hZ, hh, hCH, hSafe⟩ := hP
 have hx := Bd.exec
 have hby := Bd.bytes
 have hml : c.maxLocals = 2 := hml0
 have hown : s.vm.findClass "java/lang/String" = some m.cls := findClass_of_methodNamed Bd.named
 have hnm := (name_of_methodNamed Bd.named Bd.method).1
 have X0 : Stand p l e rm_2_2_4_29 (s.setVm s.vm) m #[(.ref x), (.ref b)] below meth c s₁ [] 0 0 := Stand.of_body Bd
 have e0 : s₁.heap = h0 := by rw [← hh, Bd.state]; rfl
 have N0 := Fr.nil n0
 have K0 : Keep h0 h0 [x] := Keep.refl h0 [x]
 have S0 : s.Since s.vm 0 := own_since s
 have C0 : CHr Z consts_1 s.vm h0 s.vm h0 := CHr.refl hCH
 refine show own_G p e below (own_E Z consts_1 (Q_own_init1E Z x b v0 c0 dv kC h0 n0) rm_2_2_4_29 #[(.ref x), (.ref b)] s) _ from ?_
 refine own_st (fun tq kq => castTop (ef_own_init1E m (x) (b)) kq) ?_
 show own_G p e below _ (s₁.setTop (mkF m 0 #[vR x, vR b] []))
 have hws0 : ∀ y ∈ [x], n0 ≤ y := allS gx all0
 refine s_aloadN X0 hx (hb hby dS1_0) rfl rfl ?_
 refine s_aloadN X0 hx (hb hby dS1_1) rfl rfl ?_
 refine s_iconst X0 hx (hb hby dS1_2) ?_
 refine s_aloadN X0 hx (hb hby dS1_3) rfl rfl ?_
 show own_G p e below _ (s₁.setTop (mkF m 4 #[vR x, vR b] [(.ref b), (.int 0), (.ref b), (.ref x)]))
 obtain ⟨cl1, Ar1, q1, S_1, N_1, H_1, G_1⟩ := id Vb
 refine own_st (fun tq kq => X0.arraylength hx (by rw [e0]; exact Ar1.1) (State.isArrayOf_alike hZ.alike Ar1.2.1) (g := (mkF m 4 #[vR x, vR b] [(.ref b), (.int 0), (.ref b), (.ref x)])) rfl rfl (hb hby dS1_4) _ kq) ?_
 rw [len_of S_1 N_1]
 show own_G p e below _ (s₁.setTop (mkF m 5 #[vR x, vR b] [(.int 0), (.int 0), (.ref b), (.ref x)]))
 refine own_st (fun tq kq => XS.aconstNull X0.here hx rfl (hb hby dS1_5) kq) ?_
 obtain ⟨_, _, ⟨T2, L2, k2, n2⟩, -, Y2, S2p, gr2, ⟨Lc2, hQ2, l2, y2, z2, c2⟩, st2⟩ := X0.specialBackS hx (y := mN0) rfl hown (mvT hZ (wd8 hw)) (mvT hZ (wd9 hw)) (mvT hZ (wd11 hw)) (by decide) (own_back (s := s) (vm0 := s.vm) (W := 0) (own_init4E l Z a0 hw hEL [] (x) (b) (v0) (c0) h0 n0 (by omega) (X00.keep K0 hws0) Ex Fv Fc gx ltx) hZ (wd11 hw) (wd4 hw) (by decide) (by decide) hEL C0.1 (allS ⟨own_lt (by omega), (hSafe _ (List.mem_of_getElem? (i := 0) rfl))⟩ all0)) (g := (mkF m 6 #[vR x, vR b] [.null, (.int 0), (.int 0), (.ref b), (.ref x)])) rfl (by rw [hml]; rfl) (Steps.refl _) (a := x) (argsL := [(.ref b), (.int 0), (.int 0), .null]) (rest := []) (lenOf own_pd0 rfl) rfl (Nat.le_of_eq rfl) (hb hby dS1_6) (fun _ _ => ⟨rfl, e0, (by decide : 0 + 2 ≤ _), (by decide : 0 + 4 ≤ _)⟩)
 dsimp only [Pt.U, Pt.locs, Pt.cells, Pt.slots] at Y2 S2p gr2 l2 y2 z2 st2 hQ2 c2
 subst l2 y2 z2
 obtain ⟨X2, S2, Z2, o2⟩ := rebS S0 (by rw [e0]; exact (own_le (by omega))) Y2 S2p gr2 hZ hown
 obtain ⟨rfl, Nq2, Kq2, R2⟩ := hQ2
 have KK2 : Keep h0 T2.heap [x] := Kq2
 have sz2 : h0.size ≤ T2.heap.size := KK2.1
 have K2 : Keep h0 T2.heap [x] := K0.trans KK2 (allS (Or.inl (by simp)) all0)
 have C2 := C0.trans c2
 have Sf2_3 := c2.safe (own_lt (by omega)) (hSafe _ (List.mem_of_getElem? (i := 0) rfl))
 have N2 := Fr.app N0 Nq2
 refine own_st (fun tq kq => st2.trans kq) ?_
 obtain ⟨fs, hr, hrun, hended, hRW⟩ := X2.leaveW S2 (own_le (by omega)) (v := none) (fun _ => rfl)
 have cE := C2.trans (CHv.at (s := s) (vm0 := T2.vm) X2 Z2 hEL C2.1)
 refine ⟨_, _, X2.returnOut hx Bd.returns (hb hby dS1_9) hr, hrun, hended, _, _, rfl, ?_, ?_, own_RW hRW (by decide) (by decide)⟩
 · change Q_own_init1E Z x b v0 c0 dv kC h0 n0 _ T2.vm T2.heap _; exact ⟨rfl, N2, K2, R2⟩
 · rw [hh]; change CHr Z consts_1 s.vm h0 T2.vm T2.heap; exact cE

/-- what new String(char[]) leaves, of any length -/
def own_QS (Z : State) (x : Nat) (cs : List Int32) (h0 : Heap) (n0 : Nat) (v : Option Value) (h : Heap) (L : List Loc) : Prop := v = none ∧ Fr n0 L ∧ Keep h0 h [x] ∧ own_Str Z h.size h x cs
set_option maxRecDepth 65536 in
set_option maxHeartbeats 40000000 in
/-- new String(char[]) at a call: no char, or up to 4,000 chars from 0 to 255 -/
theorem own_newStr {p : Program} {l : Launch} {e : Env} {R : Room} {s : State} {args : Array Value} {below : List Frame} {len W : Nat} {Z : State} {a0 : Array Value} {h : Heap} {vm0 : Vm} (hZ : Z.Warmed39 vm0) (hw : ∀ d ∈ tables_1, d.before a0 Z = true) (hEL : EW Z a0 consts_1) (H : CHv Z consts_1 vm0 h)
    {x b : Nat} {kC : ClassId} {cs : List Int32} {d v0 c0 : Value} {z N : Int32} {n n0 : Nat} (hs : Safe Z consts_1 vm0 h x) (hx0 : n0 ≤ x) (X00 : Old Z n0 h) (E : Exa Z h x "java/lang/String") (V : Fld Z h x "java/lang/String" "value" "[B" v0) (C : Fld Z h x "java/lang/String" "coder" "B" c0) (K : Arv Z h b kC .char N (cs.map Value.int) d) (S : Sta Z Z.heap "java/lang/String" "COMPACT_STRINGS" "Z" (.int z)) (hz : ¬ z = 0)
    (hn : cs.length = n) (hN : N = Int32.ofNat n) (l2 : n ≤ 4000) (hp : ∀ c ∈ cs, ¬ c < 0 ∧ ¬ (255 : Int32) < c) (hfr : 4 ≤ R.frames) (hlo : W + 65 ≤ R.locals) :
    BackS l R p e below (s.setVm vm0) args (⟨"java/lang/String", "<init>", "([C)V"⟩ : MethodName) len W (fun P a => a = #[.ref x, .ref b] ∧ P.U.heap = h ∧ P.cells + 2 ≤ R.cells ∧ P.slots + (n + 4) ≤ R.slots)
      (fun P _ v B => ∃ L, own_QS Z x cs h n0 v B.U.heap L ∧ B.locs = P.locs ++ L ∧ B.cells = P.cells + 2 ∧ B.slots = P.slots + (n + 4) ∧ CHr Z consts_1 vm0 h B.U.vm B.U.heap) := by
  have hh0 : n0 ≤ h.size := by have := X00.1; have := X00.2.1; omega
  rcases Nat.eq_zero_or_pos n with hn0 | hn0
  · subst hn0
    obtain rfl : cs = [] := List.length_eq_zero_iff.mp hn
    obtain rfl : N = (0 : Int32) := hN
    intro m meth c P g ig mk a X hg hsize hdg hW hnn hp'
    obtain ⟨v, B, Y, q1, q2, ⟨L, hQ, e1, e2, e3, hc⟩, st⟩ := own_back (rm := rm_2_2_4_29) (R := R) (W := W) (s := s) (vm0 := vm0) (own_init1E l Z a0 hw hEL [] x b v0 c0 d kC h n0 hh0 X00 E V C hx0 E.lt K) hZ (wd7 hw) (wd4 hw) (by show 2 + 1 ≤ _; omega) (by show W + (2 + 11) + 29 ≤ _; omega) hEL H (allS ⟨E.lt, hs⟩ all0) m meth c P g ig mk a X hg hsize hdg hW hnn ⟨hp'.1, hp'.2.1, hp'.2.2.1, hp'.2.2.2⟩
    obtain ⟨r1, r2, r3, t, kb, r4, r5, r6, r7⟩ := hQ
    exact ⟨v, B, Y, q1, q2, ⟨L, ⟨r1, r2, r3, r5.lt, E.keep r3, hp, by decide, t, kb, r7.lt, r5, r6, r7⟩, e1, e2, e3, hc⟩, st⟩
  · have hws : ∀ d ∈ StrChars.Road.words, d.before a0 Z = true := fun d hd => hw d ((by decide +kernel : ∀ d ∈ StrChars.Road.words, d ∈ tables_1) d hd)
    intro m meth c P g ig mk a X hg hsize hdg hW hnn hp'
    obtain ⟨v, B, Y, ⟨L, hQ, e1, e2, e3⟩, st⟩ := StrChars.Road.backV (R := R) (W := W) (s := s.setVm vm0) hZ hws (kI := 4) (wd3 hw) (cs := cs) (bs := cs.map (fun c => c.toInt8.toInt32)) (n := n) hx0 hh0 E V C K (S.ext X00.2) hz hn hN hn0 l2 hp rfl hfr hlo m meth c P g ig mk a X hg hsize hdg hW hnn ⟨hp'.1, hp'.2.1, Nat.le_trans (by omega) hp'.2.2.1, Nat.le_trans (by omega) hp'.2.2.2⟩
    obtain ⟨BU, BL, Bc, Bs⟩ := B
    dsimp only [Pt.U, Pt.locs, Pt.cells, Pt.slots] at Y hQ e1 e2 e3 st
    obtain ⟨r1, r2, r3, r4, r5, t, kb, u1, u2, u3, u4, u5⟩ := hQ
    have hCH : CHr Z consts_1 vm0 h vm0 BU.heap := CHr.keep r3 (allS hs all0) H
    have Y2 : Stand p l e R (s.setVm vm0) m args below meth c BU BL (P.cells + 2) (P.slots + (n + 4)) := Y.mono (by rw [e2]; exact Nat.add_le_add_left (by decide) _) (by rw [e3]; exact Nat.add_le_add_left (Nat.le_add_right _ _) _)
    refine ⟨v, ⟨BU, BL, P.cells + 2, P.slots + (n + 4)⟩, Y2.retabled Y2.warmed.wide, Y2.warmed.since _, ?_, ⟨L, ⟨r1, r2, r3, u4.lt, r4, hp, by omega, t, kb, u5.lt, u4, r5, ?_⟩, e1, rfl, rfl, hCH.trans (CHv.at (s := s) (vm0 := vm0) Y2 hZ hEL hCH.1)⟩, st⟩
    · show P.U.heap.size ≤ BU.heap.size
      rw [hp'.2.1]; exact r3.1
    · rw [hn, ← hN]; exact u5

theorem own_narc {c : Int32} (h : ¬ c < 0 ∧ ¬ (65535 : Int32) < c) : nar .char c = c := by
  have q := StrChars.narrow_ch h.1 h.2
  injection q
theorem own_wCh {a0 : Array Value} {Z : State} (hw : ∀ d ∈ tables_1, d.before a0 Z = true) : ∀ d ∈ StrChars.Road.wordsChN, d.before a0 Z = true := fun d hd => hw d ((by decide +kernel : ∀ d ∈ StrChars.Road.wordsChN, d ∈ tables_1) d hd)
theorem own_wLen {a0 : Array Value} {Z : State} (hw : ∀ d ∈ tables_1, d.before a0 Z = true) : ∀ d ∈ StrChars.Road.wordsLen, d.before a0 Z = true := fun d hd => hw d ((by decide +kernel : ∀ d ∈ StrChars.Road.wordsLen, d ∈ tables_1) d hd)


abbrev L8 (c : Int32) : Int32 := StrChars.lo8 c
abbrev H8 (c : Int32) : Int32 := StrChars.hi8 c
abbrev oA (Z : State) : Prop := Sta Z Z.heap "java/lang/StringUTF16" "$assertionsDisabled" "Z" (.int (1 : Int32))
abbrev oH (Z : State) : Prop := Sta Z Z.heap "java/lang/StringUTF16" "HI_BYTE_SHIFT" "I" (.int (0 : Int32))
abbrev oL (Z : State) : Prop := Sta Z Z.heap "java/lang/StringUTF16" "LO_BYTE_SHIFT" "I" (.int (8 : Int32))
abbrev o4 (Z : State) (fm : Value) : Prop := Sta Z Z.heap "jdk/internal/util/Preconditions" "SIOOBE_FORMATTER" "Ljava/util/function/BiFunction;" fm
theorem own_i2cn (x : Int32) : nar .char (x.toUInt32.toUInt16.toUInt32.toInt32) = x.toUInt32.toUInt16.toUInt32.toInt32 := by simp only [nar, UInt32.toUInt32_toInt32, UInt16.toUInt16_toUInt32]
theorem own_pairN (u v : Int32) : nar .char (StrChars.pairCh u v) = StrChars.pairCh u v := own_i2cn _
theorem own_pb0 (c : Int32) : nar .byte ((c >>> ((0 : Int32) &&& 31)).toInt8.toInt32) = StrChars.lo8 c := by
  rw [StrChars.shr0]; unfold StrChars.lo8; simp [nar]
theorem own_pb8 (c : Int32) : nar .byte ((c >>> ((8 : Int32) &&& 31)).toInt8.toInt32) = StrChars.hi8 c := by
  unfold StrChars.hi8 StrChars.lo8; simp [nar]
/-- a String of known chars of any kind; a, and its byte[], lie below n -/
def own_StrU (Z : State) (n : Nat) (h : Heap) (a : Nat) (cs : List Int32) : Prop := a < n ∧ Exa Z h a "java/lang/String" ∧ (∀ c ∈ cs, ¬ c < 0 ∧ ¬ (65535 : Int32) < c) ∧ cs.length ≤ 4000 ∧ ∃ (t : Nat) (kb : ClassId) (cd N2 : Int32) (vs : List Value), t < n ∧ Fld Z h a "java/lang/String" "value" "[B" (.ref t) ∧ Fld Z h a "java/lang/String" "coder" "B" (.int cd) ∧ Arv Z h t kb .byte N2 vs (.int 0) ∧ StrChars.Road.CodA cs cd N2 vs
theorem own_StrU.keep {Z : State} {n : Nat} {h h' : Heap} {a : Nat} {cs : List Int32} {ws : List Addr} (F : own_StrU Z n h a cs) (K : Keep h h' ws) (q : ∀ x ∈ ws, n ≤ x) : own_StrU Z n h' a cs := by
  obtain ⟨f1, f2, f3, f4, t, kb, cd, N2, vs, f5, f6, f7, f8, f9⟩ := F
  exact ⟨f1, f2.keep K, f3, f4, t, kb, cd, N2, vs, f5, f6.keep K (fun m => absurd f1 (Nat.not_lt.mpr (q _ m))), f7.keep K (fun m => absurd f1 (Nat.not_lt.mpr (q _ m))), f8.keep K (fun m => absurd f5 (Nat.not_lt.mpr (q _ m))), f9⟩
theorem own_StrU.mono {Z : State} {n n' : Nat} {h : Heap} {a : Nat} {cs : List Int32} (F : own_StrU Z n h a cs) (q : n ≤ n') : own_StrU Z n' h a cs := by
  obtain ⟨f1, f2, f3, f4, t, kb, cd, N2, vs, f5, f6⟩ := F
  exact ⟨Nat.lt_of_lt_of_le f1 q, f2, f3, f4, t, kb, cd, N2, vs, Nat.lt_of_lt_of_le f5 q, f6⟩
theorem own_up {cs : List Int32} (h : ∀ c ∈ cs, ¬ c < 0 ∧ ¬ (255 : Int32) < c) : ∀ c ∈ cs, ¬ c < 0 ∧ ¬ (65535 : Int32) < c := fun c hc => ⟨(h c hc).1, fun q => (h c hc).2 (by rw [Int32.lt_iff_toInt_lt] at q ⊢; have e1 : (65535 : Int32).toInt = 65535 := rfl; have e2 : (255 : Int32).toInt = 255 := rfl; omega)⟩
theorem own_Str.toU {Z : State} {n : Nat} {h : Heap} {a : Nat} {cs : List Int32} (F : own_Str Z n h a cs) : own_StrU Z n h a cs := by
  obtain ⟨f1, f2, f3, f4, t, kb, f5, f6, f7, f8⟩ := F
  exact ⟨f1, f2, own_up f3, f4, t, kb, 0, _, _, f5, f6, f7, f8, StrChars.Road.codOf rfl (fun c hc => (f3 c hc).2)⟩
def own_QU (Z : State) (x : Nat) (cs : List Int32) (h0 : Heap) (n0 : Nat) (v : Option Value) (h : Heap) (L : List Loc) : Prop := v = none ∧ Fr n0 L ∧ Keep h0 h [x] ∧ own_StrU Z h.size h x cs

def Q_own_get_0 (Z : State) (t : Nat) (kb : ClassId) (zz : Int32) (vs : List Value) (b0 b1 : Int32) (h0 : Heap) (n0 : Nat) (v : Option Value) (h : Heap) (L : List Loc) : Prop := v = some (.int (StrChars.pairCh b0 b1)) ∧ Fr n0 L ∧ h = h0
theorem ef_own_get_0 (m : MethodId) (x0 : Nat) : entryFrame m #[(.ref x0), (.int 0)] 2 = mkF m 0 #[.val (.ref x0), .val (.int 0)] [] := by first | (simp [entryFrame, mkF, argsToLocals, Value.category]; done) | rfl
theorem own_get_0 (l : Launch) (Z : State) (a0 : Array Value) (hw : hWt a0 Z) (ws : List Jvm.Cond) (t : Nat) (kb : ClassId) (zz : Int32) (vs : List Value) (b0 b1 : Int32) (h0 : Heap) (n0 : Nat) (Z0 : n0 ≤ h0.size) (X00 : Old Z n0 h0) (OA : oA Z) (OH : oH Z) (OL : oL Z) (Vt : Arv Z h0 t kb .byte zz vs (.int 0)) (i0 : (0 : Int32) < zz) (i1 : (1 : Int32) < zz) (g0 : vs.getD 0 (.int 0) = .int b0) (g1 : vs.getD 1 (.int 0) = .int b1) :
    MetFree l mN2 (head1 (Jvm.Cond.code mN2 jdk_52_method_5_code 2 (some .char) :: ws) rm_0_0_0_0) (fun av_ U => av_ = #[(.ref t), (.int 0)] ∧ Z.Warmed39 U.vm ∧ U.heap = h0) (fun _ _ _ _ _ => True) (own_EN (Q_own_get_0 Z t kb zz vs b0 b1 h0 n0) rm_0_0_0_0) := by
 refine MetFree.of_bodySF (plainFor_of_name own_pn1) hisR ?_
 intro p e s m args below meth c s₁ Bd hml0 hP hK
 obtain ⟨rfl, hZ, hh⟩ := hP
 have hx := Bd.exec
 have hby := Bd.bytes
 have hml : c.maxLocals = 2 := hml0
 have hown : s.vm.findClass "java/lang/StringUTF16" = some m.cls := findClass_of_methodNamed Bd.named
 have X0 : Stand p l e rm_0_0_0_0 s m _ below meth c s₁ [] 0 0 := Stand.of_body Bd
 have e0 : s₁.heap = h0 := by rw [← hh, Bd.state]; rfl
 have N0 := Fr.nil n0
 have K0 : Keep h0 h0 [] := Keep.refl h0 []
 refine show own_G p e below (own_EN (Q_own_get_0 Z t kb zz vs b0 b1 h0 n0) rm_0_0_0_0 #[(.ref t), (.int 0)] s) _ from ?_
 refine own_st (fun tq kq => castTop (ef_own_get_0 m (t)) kq) ?_
 show own_G p e below _ (s₁.setTop (mkF m 0 #[vR t, vI 0] []))
 obtain ⟨T1, X1, e1, st1⟩ := getS2 X0 hx hZ hown (host := "") (Or.inl (wd87 hw)) Via.refl e0 (OA.ext (X00.keep K0 all0).2) (g := (mkF m 0 #[vR t, vI 0] [])) rfl (hb hby dGC_0)
 refine own_st st1 ?_
 refine own_st (fun tq kq => XS.ifYes X1.here hx rfl (pc0 := 3) (pc' := 28) rfl (hb hby dGC_3) rfl ((if0 _ _).trans (feq (by decide : ¬ ((1 : Int32) = (0 : Int32)))).2) (by decide) (by decide) kq) ?_
 refine s_iloadN X1 hx (hb hby dGC_28) rfl ?_
 refine s_iconst X1 hx (hb hby dGC_29) ?_
 refine own_st (fun tq kq => XS.ishl X1.here hx rfl (hb hby dGC_30) rfl kq) ?_
 show own_G p e below _ (T1.setTop (mkF m 31 #[vR t, vI 0] [(.int 0)]))
 refine own_st (fun tq kq => XS.istoreN X1.here hx rfl (hb hby dGC_31) rfl (l' := #[vR t, vI 0]) rfl kq) ?_
 refine s_aloadN X1 hx (hb hby dGC_32) rfl rfl ?_
 refine s_iloadN X1 hx (hb hby dGC_33) rfl ?_
 refine own_st (fun tq kq => XS.iinc X1.here hx rfl (hb hby dGC_34) rfl (l' := #[vR t, vI 1]) rfl kq) ?_
 show own_G p e below _ (T1.setTop (mkF m 37 #[vR t, vI 1] [(.int 0), (.ref t)]))
 obtain ⟨cl2, Ar2, q2, S_2, N_2, H_2, G_2⟩ := id Vt
 have in2 : ¬ ((0 : Int32) < 0 ∨ cl2.slots.size ≤ ((0 : Int32)).toNatClampNeg) := inb_of S_2 ⟨by decide, i0⟩
 have at2 : cl2.slots[((0 : Int32)).toNatClampNeg]? = some (.int b0) := H_2.at in2 g0
 refine own_st (fun tq kq => X1.baloadBytes hx (j := (0 : Int32)) (v := (.int b0)) (by rw [e1]; exact Ar2.1) (State.isArrayOf_alike hZ.alike Ar2.2.1) Ar2.2.2 in2 at2 (g := (mkF m 37 #[vR t, vI 1] [(.int 0), (.ref t)])) rfl rfl (hb hby dGC_37) _ kq) ?_
 refine s_sipush X1 hx (hb hby dGC_38) ?_
 refine own_st (fun tq kq => XS.iand X1.here hx rfl (hb hby dGC_41) rfl kq) ?_
 obtain ⟨T3, X3, e3, st3⟩ := getS2 X1 hx hZ hown (host := "") (Or.inl (wd88 hw)) Via.refl e1 (OH.ext (X00.keep K0 all0).2) (g := (mkF m 42 #[vR t, vI 1] [(.int (b0 &&& (255 : Int32)))])) rfl (hb hby dGC_42)
 refine own_st st3 ?_
 refine own_st (fun tq kq => XS.ishl X3.here hx rfl (hb hby dGC_45) rfl kq) ?_
 refine s_aloadN X3 hx (hb hby dGC_46) rfl rfl ?_
 refine s_iloadN X3 hx (hb hby dGC_47) rfl ?_
 obtain ⟨cl4, Ar4, q4, S_4, N_4, H_4, G_4⟩ := id Vt
 have in4 : ¬ ((1 : Int32) < 0 ∨ cl4.slots.size ≤ ((1 : Int32)).toNatClampNeg) := inb_of S_4 ⟨by decide, i1⟩
 have at4 : cl4.slots[((1 : Int32)).toNatClampNeg]? = some (.int b1) := H_4.at in4 g1
 refine own_st (fun tq kq => X3.baloadBytes hx (j := (1 : Int32)) (v := (.int b1)) (by rw [e3]; exact Ar4.1) (State.isArrayOf_alike hZ.alike Ar4.2.1) Ar4.2.2 in4 at4 (g := (mkF m 48 #[vR t, vI 1] [(.int 1), (.ref t), (.int ((b0 &&& (255 : Int32)) <<< ((0 : Int32) &&& 31)))])) rfl rfl (hb hby dGC_48) _ kq) ?_
 show own_G p e below _ (T3.setTop (mkF m 49 #[vR t, vI 1] [(.int b1), (.int ((b0 &&& (255 : Int32)) <<< ((0 : Int32) &&& 31)))]))
 refine s_sipush X3 hx (hb hby dGC_49) ?_
 refine own_st (fun tq kq => XS.iand X3.here hx rfl (hb hby dGC_52) rfl kq) ?_
 obtain ⟨T5, X5, e5, st5⟩ := getS2 X3 hx hZ hown (host := "") (Or.inl (wd89 hw)) Via.refl e3 (OL.ext (X00.keep K0 all0).2) (g := (mkF m 53 #[vR t, vI 1] [(.int (b1 &&& (255 : Int32))), (.int ((b0 &&& (255 : Int32)) <<< ((0 : Int32) &&& 31)))])) rfl (hb hby dGC_53)
 refine own_st st5 ?_
 refine own_st (fun tq kq => XS.ishl X5.here hx rfl (hb hby dGC_56) rfl kq) ?_
 refine own_st (fun tq kq => XS.ior X5.here hx rfl (hb hby dGC_57) rfl kq) ?_
 refine own_st (fun tq kq => XS.i2c X5.here hx rfl (hb hby dGC_58) rfl kq) ?_
 show own_G p e below _ (T5.setTop (mkF m 59 #[vR t, vI 1] [(.int ((((b0 &&& (255 : Int32)) <<< ((0 : Int32) &&& 31)) ||| ((b1 &&& (255 : Int32)) <<< ((8 : Int32) &&& 31))).toUInt32.toUInt16.toUInt32.toInt32))]))
 obtain ⟨fs, hr, hrun, hended, hW, hsame⟩ := X5.leave (v := some (.int (nar .char ((((b0 &&& (255 : Int32)) <<< ((0 : Int32) &&& 31)) ||| ((b1 &&& (255 : Int32)) <<< ((8 : Int32) &&& 31))).toUInt32.toUInt16.toUInt32.toInt32)))) (fun h => by rw [Bd.returns] at h; cases h)
 refine ⟨_, _, retN X5 hx (t := .char) Bd.returns (by simp) (hb hby dGC_59) hr, hrun, hended, _, _, rfl, ?_, ⟨_, rfl⟩, hW, hsame.mono (by decide) (by decide)⟩
 change Q_own_get_0 Z t kb zz vs b0 b1 h0 n0 _ T5.heap _; rw [e5]; exact ⟨congrArg (fun z => some (Value.int z)) (own_pairN b0 b1), N0, rfl⟩

def Q_own_get_1 (Z : State) (t : Nat) (kb : ClassId) (zz : Int32) (vs : List Value) (b0 b1 : Int32) (h0 : Heap) (n0 : Nat) (v : Option Value) (h : Heap) (L : List Loc) : Prop := v = some (.int (StrChars.pairCh b0 b1)) ∧ Fr n0 L ∧ h = h0
theorem ef_own_get_1 (m : MethodId) (x0 : Nat) : entryFrame m #[(.ref x0), (.int 1)] 2 = mkF m 0 #[.val (.ref x0), .val (.int 1)] [] := by first | (simp [entryFrame, mkF, argsToLocals, Value.category]; done) | rfl
theorem own_get_1 (l : Launch) (Z : State) (a0 : Array Value) (hw : hWt a0 Z) (ws : List Jvm.Cond) (t : Nat) (kb : ClassId) (zz : Int32) (vs : List Value) (b0 b1 : Int32) (h0 : Heap) (n0 : Nat) (Z0 : n0 ≤ h0.size) (X00 : Old Z n0 h0) (OA : oA Z) (OH : oH Z) (OL : oL Z) (Vt : Arv Z h0 t kb .byte zz vs (.int 0)) (i0 : (2 : Int32) < zz) (i1 : (3 : Int32) < zz) (g0 : vs.getD 2 (.int 0) = .int b0) (g1 : vs.getD 3 (.int 0) = .int b1) :
    MetFree l mN2 (head1 (Jvm.Cond.code mN2 jdk_52_method_5_code 2 (some .char) :: ws) rm_0_0_0_0) (fun av_ U => av_ = #[(.ref t), (.int 1)] ∧ Z.Warmed39 U.vm ∧ U.heap = h0) (fun _ _ _ _ _ => True) (own_EN (Q_own_get_1 Z t kb zz vs b0 b1 h0 n0) rm_0_0_0_0) := by
 refine MetFree.of_bodySF (plainFor_of_name own_pn1) hisR ?_
 intro p e s m args below meth c s₁ Bd hml0 hP hK
 obtain ⟨rfl, hZ, hh⟩ := hP
 have hx := Bd.exec
 have hby := Bd.bytes
 have hml : c.maxLocals = 2 := hml0
 have hown : s.vm.findClass "java/lang/StringUTF16" = some m.cls := findClass_of_methodNamed Bd.named
 have X0 : Stand p l e rm_0_0_0_0 s m _ below meth c s₁ [] 0 0 := Stand.of_body Bd
 have e0 : s₁.heap = h0 := by rw [← hh, Bd.state]; rfl
 have N0 := Fr.nil n0
 have K0 : Keep h0 h0 [] := Keep.refl h0 []
 refine show own_G p e below (own_EN (Q_own_get_1 Z t kb zz vs b0 b1 h0 n0) rm_0_0_0_0 #[(.ref t), (.int 1)] s) _ from ?_
 refine own_st (fun tq kq => castTop (ef_own_get_1 m (t)) kq) ?_
 show own_G p e below _ (s₁.setTop (mkF m 0 #[vR t, vI 1] []))
 obtain ⟨T1, X1, e1, st1⟩ := getS2 X0 hx hZ hown (host := "") (Or.inl (wd87 hw)) Via.refl e0 (OA.ext (X00.keep K0 all0).2) (g := (mkF m 0 #[vR t, vI 1] [])) rfl (hb hby dGC_0)
 refine own_st st1 ?_
 refine own_st (fun tq kq => XS.ifYes X1.here hx rfl (pc0 := 3) (pc' := 28) rfl (hb hby dGC_3) rfl ((if0 _ _).trans (feq (by decide : ¬ ((1 : Int32) = (0 : Int32)))).2) (by decide) (by decide) kq) ?_
 refine s_iloadN X1 hx (hb hby dGC_28) rfl ?_
 refine s_iconst X1 hx (hb hby dGC_29) ?_
 refine own_st (fun tq kq => XS.ishl X1.here hx rfl (hb hby dGC_30) rfl kq) ?_
 show own_G p e below _ (T1.setTop (mkF m 31 #[vR t, vI 1] [(.int 2)]))
 refine own_st (fun tq kq => XS.istoreN X1.here hx rfl (hb hby dGC_31) rfl (l' := #[vR t, vI 2]) rfl kq) ?_
 refine s_aloadN X1 hx (hb hby dGC_32) rfl rfl ?_
 refine s_iloadN X1 hx (hb hby dGC_33) rfl ?_
 refine own_st (fun tq kq => XS.iinc X1.here hx rfl (hb hby dGC_34) rfl (l' := #[vR t, vI 3]) rfl kq) ?_
 show own_G p e below _ (T1.setTop (mkF m 37 #[vR t, vI 3] [(.int 2), (.ref t)]))
 obtain ⟨cl2, Ar2, q2, S_2, N_2, H_2, G_2⟩ := id Vt
 have in2 : ¬ ((2 : Int32) < 0 ∨ cl2.slots.size ≤ ((2 : Int32)).toNatClampNeg) := inb_of S_2 ⟨by decide, i0⟩
 have at2 : cl2.slots[((2 : Int32)).toNatClampNeg]? = some (.int b0) := H_2.at in2 g0
 refine own_st (fun tq kq => X1.baloadBytes hx (j := (2 : Int32)) (v := (.int b0)) (by rw [e1]; exact Ar2.1) (State.isArrayOf_alike hZ.alike Ar2.2.1) Ar2.2.2 in2 at2 (g := (mkF m 37 #[vR t, vI 3] [(.int 2), (.ref t)])) rfl rfl (hb hby dGC_37) _ kq) ?_
 refine s_sipush X1 hx (hb hby dGC_38) ?_
 refine own_st (fun tq kq => XS.iand X1.here hx rfl (hb hby dGC_41) rfl kq) ?_
 obtain ⟨T3, X3, e3, st3⟩ := getS2 X1 hx hZ hown (host := "") (Or.inl (wd88 hw)) Via.refl e1 (OH.ext (X00.keep K0 all0).2) (g := (mkF m 42 #[vR t, vI 3] [(.int (b0 &&& (255 : Int32)))])) rfl (hb hby dGC_42)
 refine own_st st3 ?_
 refine own_st (fun tq kq => XS.ishl X3.here hx rfl (hb hby dGC_45) rfl kq) ?_
 refine s_aloadN X3 hx (hb hby dGC_46) rfl rfl ?_
 refine s_iloadN X3 hx (hb hby dGC_47) rfl ?_
 obtain ⟨cl4, Ar4, q4, S_4, N_4, H_4, G_4⟩ := id Vt
 have in4 : ¬ ((3 : Int32) < 0 ∨ cl4.slots.size ≤ ((3 : Int32)).toNatClampNeg) := inb_of S_4 ⟨by decide, i1⟩
 have at4 : cl4.slots[((3 : Int32)).toNatClampNeg]? = some (.int b1) := H_4.at in4 g1
 refine own_st (fun tq kq => X3.baloadBytes hx (j := (3 : Int32)) (v := (.int b1)) (by rw [e3]; exact Ar4.1) (State.isArrayOf_alike hZ.alike Ar4.2.1) Ar4.2.2 in4 at4 (g := (mkF m 48 #[vR t, vI 3] [(.int 3), (.ref t), (.int ((b0 &&& (255 : Int32)) <<< ((0 : Int32) &&& 31)))])) rfl rfl (hb hby dGC_48) _ kq) ?_
 show own_G p e below _ (T3.setTop (mkF m 49 #[vR t, vI 3] [(.int b1), (.int ((b0 &&& (255 : Int32)) <<< ((0 : Int32) &&& 31)))]))
 refine s_sipush X3 hx (hb hby dGC_49) ?_
 refine own_st (fun tq kq => XS.iand X3.here hx rfl (hb hby dGC_52) rfl kq) ?_
 obtain ⟨T5, X5, e5, st5⟩ := getS2 X3 hx hZ hown (host := "") (Or.inl (wd89 hw)) Via.refl e3 (OL.ext (X00.keep K0 all0).2) (g := (mkF m 53 #[vR t, vI 3] [(.int (b1 &&& (255 : Int32))), (.int ((b0 &&& (255 : Int32)) <<< ((0 : Int32) &&& 31)))])) rfl (hb hby dGC_53)
 refine own_st st5 ?_
 refine own_st (fun tq kq => XS.ishl X5.here hx rfl (hb hby dGC_56) rfl kq) ?_
 refine own_st (fun tq kq => XS.ior X5.here hx rfl (hb hby dGC_57) rfl kq) ?_
 refine own_st (fun tq kq => XS.i2c X5.here hx rfl (hb hby dGC_58) rfl kq) ?_
 show own_G p e below _ (T5.setTop (mkF m 59 #[vR t, vI 3] [(.int ((((b0 &&& (255 : Int32)) <<< ((0 : Int32) &&& 31)) ||| ((b1 &&& (255 : Int32)) <<< ((8 : Int32) &&& 31))).toUInt32.toUInt16.toUInt32.toInt32))]))
 obtain ⟨fs, hr, hrun, hended, hW, hsame⟩ := X5.leave (v := some (.int (nar .char ((((b0 &&& (255 : Int32)) <<< ((0 : Int32) &&& 31)) ||| ((b1 &&& (255 : Int32)) <<< ((8 : Int32) &&& 31))).toUInt32.toUInt16.toUInt32.toInt32)))) (fun h => by rw [Bd.returns] at h; cases h)
 refine ⟨_, _, retN X5 hx (t := .char) Bd.returns (by simp) (hb hby dGC_59) hr, hrun, hended, _, _, rfl, ?_, ⟨_, rfl⟩, hW, hsame.mono (by decide) (by decide)⟩
 change Q_own_get_1 Z t kb zz vs b0 b1 h0 n0 _ T5.heap _; rw [e5]; exact ⟨congrArg (fun z => some (Value.int z)) (own_pairN b0 b1), N0, rfl⟩

def Q_own_get_2 (Z : State) (t : Nat) (kb : ClassId) (zz : Int32) (vs : List Value) (b0 b1 : Int32) (h0 : Heap) (n0 : Nat) (v : Option Value) (h : Heap) (L : List Loc) : Prop := v = some (.int (StrChars.pairCh b0 b1)) ∧ Fr n0 L ∧ h = h0
theorem ef_own_get_2 (m : MethodId) (x0 : Nat) : entryFrame m #[(.ref x0), (.int 2)] 2 = mkF m 0 #[.val (.ref x0), .val (.int 2)] [] := by first | (simp [entryFrame, mkF, argsToLocals, Value.category]; done) | rfl
theorem own_get_2 (l : Launch) (Z : State) (a0 : Array Value) (hw : hWt a0 Z) (ws : List Jvm.Cond) (t : Nat) (kb : ClassId) (zz : Int32) (vs : List Value) (b0 b1 : Int32) (h0 : Heap) (n0 : Nat) (Z0 : n0 ≤ h0.size) (X00 : Old Z n0 h0) (OA : oA Z) (OH : oH Z) (OL : oL Z) (Vt : Arv Z h0 t kb .byte zz vs (.int 0)) (i0 : (4 : Int32) < zz) (i1 : (5 : Int32) < zz) (g0 : vs.getD 4 (.int 0) = .int b0) (g1 : vs.getD 5 (.int 0) = .int b1) :
    MetFree l mN2 (head1 (Jvm.Cond.code mN2 jdk_52_method_5_code 2 (some .char) :: ws) rm_0_0_0_0) (fun av_ U => av_ = #[(.ref t), (.int 2)] ∧ Z.Warmed39 U.vm ∧ U.heap = h0) (fun _ _ _ _ _ => True) (own_EN (Q_own_get_2 Z t kb zz vs b0 b1 h0 n0) rm_0_0_0_0) := by
 refine MetFree.of_bodySF (plainFor_of_name own_pn1) hisR ?_
 intro p e s m args below meth c s₁ Bd hml0 hP hK
 obtain ⟨rfl, hZ, hh⟩ := hP
 have hx := Bd.exec
 have hby := Bd.bytes
 have hml : c.maxLocals = 2 := hml0
 have hown : s.vm.findClass "java/lang/StringUTF16" = some m.cls := findClass_of_methodNamed Bd.named
 have X0 : Stand p l e rm_0_0_0_0 s m _ below meth c s₁ [] 0 0 := Stand.of_body Bd
 have e0 : s₁.heap = h0 := by rw [← hh, Bd.state]; rfl
 have N0 := Fr.nil n0
 have K0 : Keep h0 h0 [] := Keep.refl h0 []
 refine show own_G p e below (own_EN (Q_own_get_2 Z t kb zz vs b0 b1 h0 n0) rm_0_0_0_0 #[(.ref t), (.int 2)] s) _ from ?_
 refine own_st (fun tq kq => castTop (ef_own_get_2 m (t)) kq) ?_
 show own_G p e below _ (s₁.setTop (mkF m 0 #[vR t, vI 2] []))
 obtain ⟨T1, X1, e1, st1⟩ := getS2 X0 hx hZ hown (host := "") (Or.inl (wd87 hw)) Via.refl e0 (OA.ext (X00.keep K0 all0).2) (g := (mkF m 0 #[vR t, vI 2] [])) rfl (hb hby dGC_0)
 refine own_st st1 ?_
 refine own_st (fun tq kq => XS.ifYes X1.here hx rfl (pc0 := 3) (pc' := 28) rfl (hb hby dGC_3) rfl ((if0 _ _).trans (feq (by decide : ¬ ((1 : Int32) = (0 : Int32)))).2) (by decide) (by decide) kq) ?_
 refine s_iloadN X1 hx (hb hby dGC_28) rfl ?_
 refine s_iconst X1 hx (hb hby dGC_29) ?_
 refine own_st (fun tq kq => XS.ishl X1.here hx rfl (hb hby dGC_30) rfl kq) ?_
 show own_G p e below _ (T1.setTop (mkF m 31 #[vR t, vI 2] [(.int 4)]))
 refine own_st (fun tq kq => XS.istoreN X1.here hx rfl (hb hby dGC_31) rfl (l' := #[vR t, vI 4]) rfl kq) ?_
 refine s_aloadN X1 hx (hb hby dGC_32) rfl rfl ?_
 refine s_iloadN X1 hx (hb hby dGC_33) rfl ?_
 refine own_st (fun tq kq => XS.iinc X1.here hx rfl (hb hby dGC_34) rfl (l' := #[vR t, vI 5]) rfl kq) ?_
 show own_G p e below _ (T1.setTop (mkF m 37 #[vR t, vI 5] [(.int 4), (.ref t)]))
 obtain ⟨cl2, Ar2, q2, S_2, N_2, H_2, G_2⟩ := id Vt
 have in2 : ¬ ((4 : Int32) < 0 ∨ cl2.slots.size ≤ ((4 : Int32)).toNatClampNeg) := inb_of S_2 ⟨by decide, i0⟩
 have at2 : cl2.slots[((4 : Int32)).toNatClampNeg]? = some (.int b0) := H_2.at in2 g0
 refine own_st (fun tq kq => X1.baloadBytes hx (j := (4 : Int32)) (v := (.int b0)) (by rw [e1]; exact Ar2.1) (State.isArrayOf_alike hZ.alike Ar2.2.1) Ar2.2.2 in2 at2 (g := (mkF m 37 #[vR t, vI 5] [(.int 4), (.ref t)])) rfl rfl (hb hby dGC_37) _ kq) ?_
 refine s_sipush X1 hx (hb hby dGC_38) ?_
 refine own_st (fun tq kq => XS.iand X1.here hx rfl (hb hby dGC_41) rfl kq) ?_
 obtain ⟨T3, X3, e3, st3⟩ := getS2 X1 hx hZ hown (host := "") (Or.inl (wd88 hw)) Via.refl e1 (OH.ext (X00.keep K0 all0).2) (g := (mkF m 42 #[vR t, vI 5] [(.int (b0 &&& (255 : Int32)))])) rfl (hb hby dGC_42)
 refine own_st st3 ?_
 refine own_st (fun tq kq => XS.ishl X3.here hx rfl (hb hby dGC_45) rfl kq) ?_
 refine s_aloadN X3 hx (hb hby dGC_46) rfl rfl ?_
 refine s_iloadN X3 hx (hb hby dGC_47) rfl ?_
 obtain ⟨cl4, Ar4, q4, S_4, N_4, H_4, G_4⟩ := id Vt
 have in4 : ¬ ((5 : Int32) < 0 ∨ cl4.slots.size ≤ ((5 : Int32)).toNatClampNeg) := inb_of S_4 ⟨by decide, i1⟩
 have at4 : cl4.slots[((5 : Int32)).toNatClampNeg]? = some (.int b1) := H_4.at in4 g1
 refine own_st (fun tq kq => X3.baloadBytes hx (j := (5 : Int32)) (v := (.int b1)) (by rw [e3]; exact Ar4.1) (State.isArrayOf_alike hZ.alike Ar4.2.1) Ar4.2.2 in4 at4 (g := (mkF m 48 #[vR t, vI 5] [(.int 5), (.ref t), (.int ((b0 &&& (255 : Int32)) <<< ((0 : Int32) &&& 31)))])) rfl rfl (hb hby dGC_48) _ kq) ?_
 show own_G p e below _ (T3.setTop (mkF m 49 #[vR t, vI 5] [(.int b1), (.int ((b0 &&& (255 : Int32)) <<< ((0 : Int32) &&& 31)))]))
 refine s_sipush X3 hx (hb hby dGC_49) ?_
 refine own_st (fun tq kq => XS.iand X3.here hx rfl (hb hby dGC_52) rfl kq) ?_
 obtain ⟨T5, X5, e5, st5⟩ := getS2 X3 hx hZ hown (host := "") (Or.inl (wd89 hw)) Via.refl e3 (OL.ext (X00.keep K0 all0).2) (g := (mkF m 53 #[vR t, vI 5] [(.int (b1 &&& (255 : Int32))), (.int ((b0 &&& (255 : Int32)) <<< ((0 : Int32) &&& 31)))])) rfl (hb hby dGC_53)
 refine own_st st5 ?_
 refine own_st (fun tq kq => XS.ishl X5.here hx rfl (hb hby dGC_56) rfl kq) ?_
 refine own_st (fun tq kq => XS.ior X5.here hx rfl (hb hby dGC_57) rfl kq) ?_
 refine own_st (fun tq kq => XS.i2c X5.here hx rfl (hb hby dGC_58) rfl kq) ?_
 show own_G p e below _ (T5.setTop (mkF m 59 #[vR t, vI 5] [(.int ((((b0 &&& (255 : Int32)) <<< ((0 : Int32) &&& 31)) ||| ((b1 &&& (255 : Int32)) <<< ((8 : Int32) &&& 31))).toUInt32.toUInt16.toUInt32.toInt32))]))
 obtain ⟨fs, hr, hrun, hended, hW, hsame⟩ := X5.leave (v := some (.int (nar .char ((((b0 &&& (255 : Int32)) <<< ((0 : Int32) &&& 31)) ||| ((b1 &&& (255 : Int32)) <<< ((8 : Int32) &&& 31))).toUInt32.toUInt16.toUInt32.toInt32)))) (fun h => by rw [Bd.returns] at h; cases h)
 refine ⟨_, _, retN X5 hx (t := .char) Bd.returns (by simp) (hb hby dGC_59) hr, hrun, hended, _, _, rfl, ?_, ⟨_, rfl⟩, hW, hsame.mono (by decide) (by decide)⟩
 change Q_own_get_2 Z t kb zz vs b0 b1 h0 n0 _ T5.heap _; rw [e5]; exact ⟨congrArg (fun z => some (Value.int z)) (own_pairN b0 b1), N0, rfl⟩

def Q_own_get_3 (Z : State) (t : Nat) (kb : ClassId) (zz : Int32) (vs : List Value) (b0 b1 : Int32) (h0 : Heap) (n0 : Nat) (v : Option Value) (h : Heap) (L : List Loc) : Prop := v = some (.int (StrChars.pairCh b0 b1)) ∧ Fr n0 L ∧ h = h0
theorem ef_own_get_3 (m : MethodId) (x0 : Nat) : entryFrame m #[(.ref x0), (.int 3)] 2 = mkF m 0 #[.val (.ref x0), .val (.int 3)] [] := by first | (simp [entryFrame, mkF, argsToLocals, Value.category]; done) | rfl
theorem own_get_3 (l : Launch) (Z : State) (a0 : Array Value) (hw : hWt a0 Z) (ws : List Jvm.Cond) (t : Nat) (kb : ClassId) (zz : Int32) (vs : List Value) (b0 b1 : Int32) (h0 : Heap) (n0 : Nat) (Z0 : n0 ≤ h0.size) (X00 : Old Z n0 h0) (OA : oA Z) (OH : oH Z) (OL : oL Z) (Vt : Arv Z h0 t kb .byte zz vs (.int 0)) (i0 : (6 : Int32) < zz) (i1 : (7 : Int32) < zz) (g0 : vs.getD 6 (.int 0) = .int b0) (g1 : vs.getD 7 (.int 0) = .int b1) :
    MetFree l mN2 (head1 (Jvm.Cond.code mN2 jdk_52_method_5_code 2 (some .char) :: ws) rm_0_0_0_0) (fun av_ U => av_ = #[(.ref t), (.int 3)] ∧ Z.Warmed39 U.vm ∧ U.heap = h0) (fun _ _ _ _ _ => True) (own_EN (Q_own_get_3 Z t kb zz vs b0 b1 h0 n0) rm_0_0_0_0) := by
 refine MetFree.of_bodySF (plainFor_of_name own_pn1) hisR ?_
 intro p e s m args below meth c s₁ Bd hml0 hP hK
 obtain ⟨rfl, hZ, hh⟩ := hP
 have hx := Bd.exec
 have hby := Bd.bytes
 have hml : c.maxLocals = 2 := hml0
 have hown : s.vm.findClass "java/lang/StringUTF16" = some m.cls := findClass_of_methodNamed Bd.named
 have X0 : Stand p l e rm_0_0_0_0 s m _ below meth c s₁ [] 0 0 := Stand.of_body Bd
 have e0 : s₁.heap = h0 := by rw [← hh, Bd.state]; rfl
 have N0 := Fr.nil n0
 have K0 : Keep h0 h0 [] := Keep.refl h0 []
 refine show own_G p e below (own_EN (Q_own_get_3 Z t kb zz vs b0 b1 h0 n0) rm_0_0_0_0 #[(.ref t), (.int 3)] s) _ from ?_
 refine own_st (fun tq kq => castTop (ef_own_get_3 m (t)) kq) ?_
 show own_G p e below _ (s₁.setTop (mkF m 0 #[vR t, vI 3] []))
 obtain ⟨T1, X1, e1, st1⟩ := getS2 X0 hx hZ hown (host := "") (Or.inl (wd87 hw)) Via.refl e0 (OA.ext (X00.keep K0 all0).2) (g := (mkF m 0 #[vR t, vI 3] [])) rfl (hb hby dGC_0)
 refine own_st st1 ?_
 refine own_st (fun tq kq => XS.ifYes X1.here hx rfl (pc0 := 3) (pc' := 28) rfl (hb hby dGC_3) rfl ((if0 _ _).trans (feq (by decide : ¬ ((1 : Int32) = (0 : Int32)))).2) (by decide) (by decide) kq) ?_
 refine s_iloadN X1 hx (hb hby dGC_28) rfl ?_
 refine s_iconst X1 hx (hb hby dGC_29) ?_
 refine own_st (fun tq kq => XS.ishl X1.here hx rfl (hb hby dGC_30) rfl kq) ?_
 show own_G p e below _ (T1.setTop (mkF m 31 #[vR t, vI 3] [(.int 6)]))
 refine own_st (fun tq kq => XS.istoreN X1.here hx rfl (hb hby dGC_31) rfl (l' := #[vR t, vI 6]) rfl kq) ?_
 refine s_aloadN X1 hx (hb hby dGC_32) rfl rfl ?_
 refine s_iloadN X1 hx (hb hby dGC_33) rfl ?_
 refine own_st (fun tq kq => XS.iinc X1.here hx rfl (hb hby dGC_34) rfl (l' := #[vR t, vI 7]) rfl kq) ?_
 show own_G p e below _ (T1.setTop (mkF m 37 #[vR t, vI 7] [(.int 6), (.ref t)]))
 obtain ⟨cl2, Ar2, q2, S_2, N_2, H_2, G_2⟩ := id Vt
 have in2 : ¬ ((6 : Int32) < 0 ∨ cl2.slots.size ≤ ((6 : Int32)).toNatClampNeg) := inb_of S_2 ⟨by decide, i0⟩
 have at2 : cl2.slots[((6 : Int32)).toNatClampNeg]? = some (.int b0) := H_2.at in2 g0
 refine own_st (fun tq kq => X1.baloadBytes hx (j := (6 : Int32)) (v := (.int b0)) (by rw [e1]; exact Ar2.1) (State.isArrayOf_alike hZ.alike Ar2.2.1) Ar2.2.2 in2 at2 (g := (mkF m 37 #[vR t, vI 7] [(.int 6), (.ref t)])) rfl rfl (hb hby dGC_37) _ kq) ?_
 refine s_sipush X1 hx (hb hby dGC_38) ?_
 refine own_st (fun tq kq => XS.iand X1.here hx rfl (hb hby dGC_41) rfl kq) ?_
 obtain ⟨T3, X3, e3, st3⟩ := getS2 X1 hx hZ hown (host := "") (Or.inl (wd88 hw)) Via.refl e1 (OH.ext (X00.keep K0 all0).2) (g := (mkF m 42 #[vR t, vI 7] [(.int (b0 &&& (255 : Int32)))])) rfl (hb hby dGC_42)
 refine own_st st3 ?_
 refine own_st (fun tq kq => XS.ishl X3.here hx rfl (hb hby dGC_45) rfl kq) ?_
 refine s_aloadN X3 hx (hb hby dGC_46) rfl rfl ?_
 refine s_iloadN X3 hx (hb hby dGC_47) rfl ?_
 obtain ⟨cl4, Ar4, q4, S_4, N_4, H_4, G_4⟩ := id Vt
 have in4 : ¬ ((7 : Int32) < 0 ∨ cl4.slots.size ≤ ((7 : Int32)).toNatClampNeg) := inb_of S_4 ⟨by decide, i1⟩
 have at4 : cl4.slots[((7 : Int32)).toNatClampNeg]? = some (.int b1) := H_4.at in4 g1
 refine own_st (fun tq kq => X3.baloadBytes hx (j := (7 : Int32)) (v := (.int b1)) (by rw [e3]; exact Ar4.1) (State.isArrayOf_alike hZ.alike Ar4.2.1) Ar4.2.2 in4 at4 (g := (mkF m 48 #[vR t, vI 7] [(.int 7), (.ref t), (.int ((b0 &&& (255 : Int32)) <<< ((0 : Int32) &&& 31)))])) rfl rfl (hb hby dGC_48) _ kq) ?_
 show own_G p e below _ (T3.setTop (mkF m 49 #[vR t, vI 7] [(.int b1), (.int ((b0 &&& (255 : Int32)) <<< ((0 : Int32) &&& 31)))]))
 refine s_sipush X3 hx (hb hby dGC_49) ?_
 refine own_st (fun tq kq => XS.iand X3.here hx rfl (hb hby dGC_52) rfl kq) ?_
 obtain ⟨T5, X5, e5, st5⟩ := getS2 X3 hx hZ hown (host := "") (Or.inl (wd89 hw)) Via.refl e3 (OL.ext (X00.keep K0 all0).2) (g := (mkF m 53 #[vR t, vI 7] [(.int (b1 &&& (255 : Int32))), (.int ((b0 &&& (255 : Int32)) <<< ((0 : Int32) &&& 31)))])) rfl (hb hby dGC_53)
 refine own_st st5 ?_
 refine own_st (fun tq kq => XS.ishl X5.here hx rfl (hb hby dGC_56) rfl kq) ?_
 refine own_st (fun tq kq => XS.ior X5.here hx rfl (hb hby dGC_57) rfl kq) ?_
 refine own_st (fun tq kq => XS.i2c X5.here hx rfl (hb hby dGC_58) rfl kq) ?_
 show own_G p e below _ (T5.setTop (mkF m 59 #[vR t, vI 7] [(.int ((((b0 &&& (255 : Int32)) <<< ((0 : Int32) &&& 31)) ||| ((b1 &&& (255 : Int32)) <<< ((8 : Int32) &&& 31))).toUInt32.toUInt16.toUInt32.toInt32))]))
 obtain ⟨fs, hr, hrun, hended, hW, hsame⟩ := X5.leave (v := some (.int (nar .char ((((b0 &&& (255 : Int32)) <<< ((0 : Int32) &&& 31)) ||| ((b1 &&& (255 : Int32)) <<< ((8 : Int32) &&& 31))).toUInt32.toUInt16.toUInt32.toInt32)))) (fun h => by rw [Bd.returns] at h; cases h)
 refine ⟨_, _, retN X5 hx (t := .char) Bd.returns (by simp) (hb hby dGC_59) hr, hrun, hended, _, _, rfl, ?_, ⟨_, rfl⟩, hW, hsame.mono (by decide) (by decide)⟩
 change Q_own_get_3 Z t kb zz vs b0 b1 h0 n0 _ T5.heap _; rw [e5]; exact ⟨congrArg (fun z => some (Value.int z)) (own_pairN b0 b1), N0, rfl⟩

def Q_own_ulen1 (Z : State) (t : Nat) (kb : ClassId) (vs : List Value) (h0 : Heap) (n0 : Nat) (v : Option Value) (h : Heap) (L : List Loc) : Prop := v = some (.int (1 : Int32)) ∧ Fr n0 L ∧ h = h0
theorem ef_own_ulen1 (m : MethodId) (x0 : Nat) : entryFrame m #[(.ref x0)] 1 = mkF m 0 #[.val (.ref x0)] [] := by first | (simp [entryFrame, mkF, argsToLocals, Value.category]; done) | rfl
theorem own_ulen1 (l : Launch) (Z : State) (a0 : Array Value) (hw : hWt a0 Z) (ws : List Jvm.Cond) (t : Nat) (kb : ClassId) (vs : List Value) (h0 : Heap) (n0 : Nat) (Z0 : n0 ≤ h0.size) (X00 : Old Z n0 h0) (Vt : Arv Z h0 t kb .byte (2 : Int32) vs (.int 0)) :
    MetFree l mN3 (head1 (Jvm.Cond.code mN3 jdk_52_method_6_code 1 (some .int) :: ws) rm_0_0_0_0) (fun av_ U => av_ = #[(.ref t)] ∧ Z.Warmed39 U.vm ∧ U.heap = h0) (fun _ _ _ _ _ => True) (own_EN (Q_own_ulen1 Z t kb vs h0 n0) rm_0_0_0_0) := by
 refine MetFree.of_bodySF (plainFor_of_name own_pn1) hisR ?_
 intro p e s m args below meth c s₁ Bd hml0 hP hK
 obtain ⟨rfl, hZ, hh⟩ := hP
 have hx := Bd.exec
 have hby := Bd.bytes
 have hml : c.maxLocals = 1 := hml0
 have hown : s.vm.findClass "java/lang/StringUTF16" = some m.cls := findClass_of_methodNamed Bd.named
 have X0 : Stand p l e rm_0_0_0_0 s m _ below meth c s₁ [] 0 0 := Stand.of_body Bd
 have e0 : s₁.heap = h0 := by rw [← hh, Bd.state]; rfl
 have N0 := Fr.nil n0
 have K0 : Keep h0 h0 [] := Keep.refl h0 []
 refine show own_G p e below (own_EN (Q_own_ulen1 Z t kb vs h0 n0) rm_0_0_0_0 #[(.ref t)] s) _ from ?_
 refine own_st (fun tq kq => castTop (ef_own_ulen1 m (t)) kq) ?_
 show own_G p e below _ (s₁.setTop (mkF m 0 #[vR t] []))
 refine s_aloadN X0 hx (hb hby dUL_0) rfl rfl ?_
 obtain ⟨cl1, Ar1, q1, S_1, N_1, H_1, G_1⟩ := id Vt
 refine own_st (fun tq kq => X0.arraylength hx (by rw [e0]; exact Ar1.1) (State.isArrayOf_alike hZ.alike Ar1.2.1) (g := (mkF m 1 #[vR t] [(.ref t)])) rfl rfl (hb hby dUL_1) _ kq) ?_
 rw [len_of S_1 N_1]
 show own_G p e below _ (s₁.setTop (mkF m 2 #[vR t] [(.int 2)]))
 refine s_iconst X0 hx (hb hby dUL_2) ?_
 refine own_st (fun tq kq => XS.ishr X0.here hx rfl (hb hby dUL_3) rfl kq) ?_
 show own_G p e below _ (s₁.setTop (mkF m 4 #[vR t] [(.int 1)]))
 obtain ⟨fs, hr, hrun, hended, hW, hsame⟩ := X0.leave (v := some (.int 1)) (fun h => by rw [Bd.returns] at h; cases h)
 refine ⟨_, _, retOut X0 hx Bd.returns rfl (Or.inl ⟨rfl, by simp, _, rfl⟩) (hb hby dUL_4) hr, hrun, hended, _, _, rfl, ?_, ⟨_, rfl⟩, hW, hsame.mono (by decide) (by decide)⟩
 change Q_own_ulen1 Z t kb vs h0 n0 _ s₁.heap _; rw [e0]; exact ⟨rfl, N0, rfl⟩

def Q_own_nlen1 (Z : State)  (h0 : Heap) (n0 : Nat) (v : Option Value) (h : Heap) (L : List Loc) : Prop := v = some (.int (2 : Int32)) ∧ Fr n0 L ∧ h = h0
theorem ef_own_nlen1 (m : MethodId)  : entryFrame m #[(.int 1)] 1 = mkF m 0 #[.val (.int 1)] [] := by first | (simp [entryFrame, mkF, argsToLocals, Value.category]; done) | rfl
theorem own_nlen1 (l : Launch) (Z : State) (a0 : Array Value) (hw : hWt a0 Z) (ws : List Jvm.Cond)  (h0 : Heap) (n0 : Nat) (Z0 : n0 ≤ h0.size) (X00 : Old Z n0 h0)  :
    MetFree l mN4 (head1 (Jvm.Cond.code mN4 jdk_52_method_3_code 1 (some .int) :: ws) rm_0_0_0_0) (fun av_ U => av_ = #[(.int 1)] ∧ Z.Warmed39 U.vm ∧ U.heap = h0) (fun _ _ _ _ _ => True) (own_EN (Q_own_nlen1 Z  h0 n0) rm_0_0_0_0) := by
 refine MetFree.of_bodySF (plainFor_of_name own_pn1) hisR ?_
 intro p e s m args below meth c s₁ Bd hml0 hP hK
 obtain ⟨rfl, hZ, hh⟩ := hP
 have hx := Bd.exec
 have hby := Bd.bytes
 have hml : c.maxLocals = 1 := hml0
 have hown : s.vm.findClass "java/lang/StringUTF16" = some m.cls := findClass_of_methodNamed Bd.named
 have X0 : Stand p l e rm_0_0_0_0 s m _ below meth c s₁ [] 0 0 := Stand.of_body Bd
 have e0 : s₁.heap = h0 := by rw [← hh, Bd.state]; rfl
 have N0 := Fr.nil n0
 have K0 : Keep h0 h0 [] := Keep.refl h0 []
 refine show own_G p e below (own_EN (Q_own_nlen1 Z  h0 n0) rm_0_0_0_0 #[(.int 1)] s) _ from ?_
 refine own_st (fun tq kq => castTop (ef_own_nlen1 m ) kq) ?_
 show own_G p e below _ (s₁.setTop (mkF m 0 #[vI 1] []))
 refine s_iloadN X0 hx (hb hby dNL_0) rfl ?_
 show own_G p e below _ (s₁.setTop (mkF m 1 #[vI 1] [(.int 1)]))
 refine own_st (fun tq kq => XS.ifYes X0.here hx rfl (pc0 := 1) (pc' := 12) rfl (hb hby dNL_1) rfl ((if0 _ _).trans (flt (by decide : ¬ ((1 : Int32) < (0 : Int32)))).2.1) (by decide) (by decide) kq) ?_
 refine s_iloadN X0 hx (hb hby dNL_12) rfl ?_
 refine own_st (fun tq kq => X0.ldcInt hx hown (mvT hZ (wd83 hw)) (g := (mkF m 13 #[vI 1] [(.int 1)])) rfl (hb hby dNL_13) _ kq) ?_
 show own_G p e below _ (s₁.setTop (mkF m 15 #[vI 1] [(.int 1073741823), (.int 1)]))
 refine own_st (fun tq kq => XS.icmpYes X0.here hx rfl (pc0 := 15) (pc' := 55) rfl (hb hby dNL_15) rfl (tlt (by decide : ((1 : Int32) < (1073741823 : Int32)))).1 (by decide) (by decide) kq) ?_
 refine s_iloadN X0 hx (hb hby dNL_55) rfl ?_
 refine s_iconst X0 hx (hb hby dNL_56) ?_
 refine own_st (fun tq kq => XS.ishl X0.here hx rfl (hb hby dNL_57) rfl kq) ?_
 show own_G p e below _ (s₁.setTop (mkF m 58 #[vI 1] [(.int 2)]))
 obtain ⟨fs, hr, hrun, hended, hW, hsame⟩ := X0.leave (v := some (.int 2)) (fun h => by rw [Bd.returns] at h; cases h)
 refine ⟨_, _, retOut X0 hx Bd.returns rfl (Or.inl ⟨rfl, by simp, _, rfl⟩) (hb hby dNL_58) hr, hrun, hended, _, _, rfl, ?_, ⟨_, rfl⟩, hW, hsame.mono (by decide) (by decide)⟩
 change Q_own_nlen1 Z  h0 n0 _ s₁.heap _; rw [e0]; exact ⟨rfl, N0, rfl⟩

def Q_own_nfor1 (Z : State)  (h0 : Heap) (n0 : Nat) (v : Option Value) (h : Heap) (L : List Loc) : Prop := ∃ (t : Nat) (kb : ClassId), v = some (.ref t) ∧ Fr n0 L ∧ Keep h0 h [] ∧ h0.size ≤ t ∧ t < h.size ∧ Arv Z h t kb .byte (2 : Int32) [.int (0 : Int32), .int (0 : Int32)] (.int 0)
theorem ef_own_nfor1 (m : MethodId)  : entryFrame m #[(.int 1)] 1 = mkF m 0 #[.val (.int 1)] [] := by first | (simp [entryFrame, mkF, argsToLocals, Value.category]; done) | rfl
theorem own_nfor1 (l : Launch) (Z : State) (a0 : Array Value) (hw : hWt a0 Z) (ws : List Jvm.Cond)  (h0 : Heap) (n0 : Nat) (Z0 : n0 ≤ h0.size) (X00 : Old Z n0 h0)  :
    MetFree l mN5 (head1 (Jvm.Cond.code mN5 jdk_52_method_2_code 1 (some (.array .byte)) :: ws) rm_1_1_2_14) (fun av_ U => av_ = #[(.int 1)] ∧ Z.Warmed39 U.vm ∧ U.heap = h0) (fun _ _ _ _ _ => True) (own_EN (Q_own_nfor1 Z  h0 n0) rm_1_1_2_14) := by
 refine MetFree.of_bodySF (plainFor_of_name own_pn1) hisR ?_
 intro p e s m args below meth c s₁ Bd hml0 hP hK
 obtain ⟨rfl, hZ, hh⟩ := hP
 have hx := Bd.exec
 have hby := Bd.bytes
 have hml : c.maxLocals = 1 := hml0
 have hown : s.vm.findClass "java/lang/StringUTF16" = some m.cls := findClass_of_methodNamed Bd.named
 have X0 : Stand p l e rm_1_1_2_14 s m _ below meth c s₁ [] 0 0 := Stand.of_body Bd
 have e0 : s₁.heap = h0 := by rw [← hh, Bd.state]; rfl
 have N0 := Fr.nil n0
 have K0 : Keep h0 h0 [] := Keep.refl h0 []
 refine show own_G p e below (own_EN (Q_own_nfor1 Z  h0 n0) rm_1_1_2_14 #[(.int 1)] s) _ from ?_
 refine own_st (fun tq kq => castTop (ef_own_nfor1 m ) kq) ?_
 show own_G p e below _ (s₁.setTop (mkF m 0 #[vI 1] []))
 refine s_iloadN X0 hx (hb hby dNF_0) rfl ?_
 obtain ⟨_, _, ⟨T1, L1, k1, n1⟩, -, X1, ⟨Lc1, hQ1, l1, y1, z1⟩, st1⟩ := Jvm.LawKit.callS X0 hx (y := mN4) hown (mvT hZ (wd80 hw)) (mvT hZ (wd81 hw)) (mvT hZ (wd40 hw)) (mvT hZ (wd82 hw)) (by decide) (own_backN (W := 0) (own_nlen1 l Z a0 hw []  h0 n0 (by omega) (X00.keep K0 all0) ) hZ (wd82 hw) (wd40 hw) (by decide) (by decide)) (g := (mkF m 1 #[vI 1] [(.int 1)])) rfl (by rw [hml]; rfl) (argsL := [(.int 1)]) (rest := []) (lenOf own_pd1 rfl) rfl (Nat.le_of_eq rfl) (hb hby dNF_1) (fun _ _ => ⟨rfl, e0, (by decide : 0 + 0 ≤ _), (by decide : 0 + 0 ≤ _)⟩)
 dsimp only [Pt.U, Pt.locs, Pt.cells, Pt.slots] at X1 l1 y1 z1 st1 hQ1
 subst l1 y1 z1
 obtain ⟨rfl, Nq1, sm1⟩ := hQ1
 have N1 := Fr.app N0 Nq1
 refine own_st st1 ?_
 obtain ⟨T2, h2, k2, X2, e2, E2, A2, st2⟩ := newP X1 hx hZ (hw _ (List.mem_of_getElem? (i := 16) rfl)) sm1 (g := (mkF m 4 #[vI 1] [(.int 2)])) rfl (hb hby dNF_4) rfl (by decide) (cap := 2) (by decide) (by decide) (by decide) (by decide)
 obtain ⟨b2, g2⟩ : ∃ z, z = h0.size := ⟨_, rfl⟩
 rw [← g2] at A2 st2
 have lt2 : b2 < h2.size := A2.lt
 have V2 : Arv Z h2 b2 k2 .byte (2 : Int32) [(.int (0 : Int32)), (.int (0 : Int32))] (.int (0 : Int32)) := (Arv.new A2 (by decide)).pad (pad_rep [] (.int (0 : Int32)) 2)
 have sz2 : h0.size ≤ h2.size := E2.1
 have K2 : Keep h0 h2 [] := K0.ext E2
 refine own_st st2 ?_
 obtain ⟨fs, hr, hrun, hended, hW, hsame⟩ := X2.leave (v := some (.ref b2)) (fun h => by rw [Bd.returns] at h; cases h)
 refine ⟨_, _, retOut X2 hx Bd.returns rfl (Or.inr (Or.inr (Or.inr (Or.inr ⟨rfl, rfl, rfl⟩)))) (hb hby dNF_6) hr, hrun, hended, _, _, rfl, ?_, ⟨_, rfl⟩, hW, hsame.mono (by decide) (by decide)⟩
 change Q_own_nfor1 Z  h0 n0 _ T2.heap _; rw [e2]; exact ⟨b2, _, rfl, N1, K2, (by omega), (by omega), V2⟩

def Q_own_put1_0 (Z : State) (t : Nat) (kb : ClassId) (ch : Int32) (bt0 bt1 : Int32) (h0 : Heap) (n0 : Nat) (v : Option Value) (h : Heap) (L : List Loc) : Prop := v = none ∧ Fr n0 L ∧ Keep h0 h [t] ∧ Arv Z h t kb .byte (2 : Int32) [.int (L8 ch), .int (H8 ch)] (.int 0)
theorem ef_own_put1_0 (m : MethodId) (x0 : Nat) (x2 : Int32) : entryFrame m #[(.ref x0), (.int 0), (.int x2)] 3 = mkF m 0 #[.val (.ref x0), .val (.int 0), .val (.int x2)] [] := by first | (simp [entryFrame, mkF, argsToLocals, Value.category]; done) | rfl
theorem own_put1_0 (l : Launch) (Z : State) (a0 : Array Value) (hw : hWt a0 Z) (ws : List Jvm.Cond) (t : Nat) (kb : ClassId) (ch : Int32) (bt0 bt1 : Int32) (h0 : Heap) (n0 : Nat) (Z0 : n0 ≤ h0.size) (X00 : Old Z n0 h0) (OA : oA Z) (OH : oH Z) (OL : oL Z) (Vt : Arv Z h0 t kb .byte (2 : Int32) [.int bt0, .int bt1] (.int 0)) (gt : n0 ≤ t) :
    MetFree l mN6 (head1 (Jvm.Cond.code mN6 jdk_52_method_4_code 3 none :: ws) rm_0_0_0_0) (fun av_ U => av_ = #[(.ref t), (.int 0), (.int ch)] ∧ Z.Warmed39 U.vm ∧ U.heap = h0) (fun _ _ _ _ _ => True) (own_EN (Q_own_put1_0 Z t kb ch bt0 bt1 h0 n0) rm_0_0_0_0) := by
 refine MetFree.of_bodySF (plainFor_of_name own_pn1) hisR ?_
 intro p e s m args below meth c s₁ Bd hml0 hP hK
 obtain ⟨rfl, hZ, hh⟩ := hP
 have hx := Bd.exec
 have hby := Bd.bytes
 have hml : c.maxLocals = 3 := hml0
 have hown : s.vm.findClass "java/lang/StringUTF16" = some m.cls := findClass_of_methodNamed Bd.named
 have X0 : Stand p l e rm_0_0_0_0 s m _ below meth c s₁ [] 0 0 := Stand.of_body Bd
 have e0 : s₁.heap = h0 := by rw [← hh, Bd.state]; rfl
 have N0 := Fr.nil n0
 have K0 : Keep h0 h0 [t] := Keep.refl h0 [t]
 refine show own_G p e below (own_EN (Q_own_put1_0 Z t kb ch bt0 bt1 h0 n0) rm_0_0_0_0 #[(.ref t), (.int 0), (.int ch)] s) _ from ?_
 refine own_st (fun tq kq => castTop (ef_own_put1_0 m (t) (ch)) kq) ?_
 show own_G p e below _ (s₁.setTop (mkF m 0 #[vR t, vI 0, vI ch] []))
 have hws0 : ∀ y ∈ [t], n0 ≤ y := allS gt all0
 obtain ⟨T1, X1, e1, st1⟩ := getS2 X0 hx hZ hown (host := "") (Or.inl (wd87 hw)) Via.refl e0 (OA.ext (X00.keep K0 hws0).2) (g := (mkF m 0 #[vR t, vI 0, vI ch] [])) rfl (hb hby dPU_0)
 refine own_st st1 ?_
 refine own_st (fun tq kq => XS.ifYes X1.here hx rfl (pc0 := 3) (pc' := 28) rfl (hb hby dPU_3) rfl ((if0 _ _).trans (feq (by decide : ¬ ((1 : Int32) = (0 : Int32)))).2) (by decide) (by decide) kq) ?_
 refine s_iloadN X1 hx (hb hby dPU_28) rfl ?_
 refine s_iconst X1 hx (hb hby dPU_29) ?_
 refine own_st (fun tq kq => XS.ishl X1.here hx rfl (hb hby dPU_30) rfl kq) ?_
 show own_G p e below _ (T1.setTop (mkF m 31 #[vR t, vI 0, vI ch] [(.int 0)]))
 refine own_st (fun tq kq => XS.istoreN X1.here hx rfl (hb hby dPU_31) rfl (l' := #[vR t, vI 0, vI ch]) rfl kq) ?_
 refine s_aloadN X1 hx (hb hby dPU_32) rfl rfl ?_
 refine s_iloadN X1 hx (hb hby dPU_33) rfl ?_
 refine own_st (fun tq kq => XS.iinc X1.here hx rfl (hb hby dPU_34) rfl (l' := #[vR t, vI 1, vI ch]) rfl kq) ?_
 show own_G p e below _ (T1.setTop (mkF m 37 #[vR t, vI 1, vI ch] [(.int 0), (.ref t)]))
 refine s_iloadN X1 hx (hb hby dPU_37) rfl ?_
 obtain ⟨T2, X2, e2, st2⟩ := getS2 X1 hx hZ hown (host := "") (Or.inl (wd88 hw)) Via.refl e1 (OH.ext (X00.keep K0 hws0).2) (g := (mkF m 38 #[vR t, vI 1, vI ch] [(.int ch), (.int 0), (.ref t)])) rfl (hb hby dPU_38)
 refine own_st st2 ?_
 refine own_st (fun tq kq => XS.ishr X2.here hx rfl (hb hby dPU_41) rfl kq) ?_
 refine own_st (fun tq kq => XS.i2b X2.here hx rfl (hb hby dPU_42) rfl kq) ?_
 obtain ⟨cl3, Ar3, q3, S_3, N_3, H_3, G_3⟩ := id Vt
 have in3 : ¬ ((0 : Int32) < 0 ∨ cl3.slots.size ≤ ((0 : Int32)).toNatClampNeg) := inb_of S_3 ⟨by decide, by decide⟩
 obtain ⟨T3, h3, X3, e3, W3, st3⟩ := stB X2 hx hZ e2 Ar3 (j := (0 : Int32)) in3 (g := (mkF m 43 #[vR t, vI 1, vI ch] [(.int ((ch >>> ((0 : Int32) &&& 31)).toInt8.toInt32)), (.int 0), (.ref t)])) rfl rfl (hb hby dPU_43)
 have V3 := Arv.set Ar3 q3 S_3 N_3 H_3 G_3 (fits_nar_byte _) W3 0 rfl (Nat.le_of_ble_eq_true rfl)
 have sz3 : h0.size ≤ h3.size := (Keep.of_wr W3).1
 have K3 : Keep h0 h3 [t] := K0.wr W3 (Or.inl (by simp))
 have N3 := Fr.snoc X3 N0 (own_le (by omega))
 refine own_st st3 ?_
 refine s_aloadN X3 hx (hb hby dPU_44) rfl rfl ?_
 refine s_iloadN X3 hx (hb hby dPU_45) rfl ?_
 refine s_iloadN X3 hx (hb hby dPU_46) rfl ?_
 obtain ⟨T4, X4, e4, st4⟩ := getS2 X3 hx hZ hown (host := "") (Or.inl (wd89 hw)) Via.refl e3 (OL.ext (X00.keep K3 hws0).2) (g := (mkF m 47 #[vR t, vI 1, vI ch] [(.int ch), (.int 1), (.ref t)])) rfl (hb hby dPU_47)
 refine own_st st4 ?_
 refine own_st (fun tq kq => XS.ishr X4.here hx rfl (hb hby dPU_50) rfl kq) ?_
 refine own_st (fun tq kq => XS.i2b X4.here hx rfl (hb hby dPU_51) rfl kq) ?_
 obtain ⟨cl5, Ar5, q5, S_5, N_5, H_5, G_5⟩ := id V3
 have in5 : ¬ ((1 : Int32) < 0 ∨ cl5.slots.size ≤ ((1 : Int32)).toNatClampNeg) := inb_of S_5 ⟨by decide, by decide⟩
 obtain ⟨T5, h5, X5, e5, W5, st5⟩ := stB X4 hx hZ e4 Ar5 (j := (1 : Int32)) in5 (g := (mkF m 52 #[vR t, vI 1, vI ch] [(.int ((ch >>> ((8 : Int32) &&& 31)).toInt8.toInt32)), (.int 1), (.ref t)])) rfl rfl (hb hby dPU_52)
 have V5 := Arv.set Ar5 q5 S_5 N_5 H_5 G_5 (fits_nar_byte _) W5 1 rfl (Nat.le_of_ble_eq_true rfl)
 have sz5 : h3.size ≤ h5.size := (Keep.of_wr W5).1
 have K5 : Keep h0 h5 [t] := K3.wr W5 (Or.inl (by simp))
 have N5 := Fr.snoc X5 N3 (own_le (by omega))
 refine own_st st5 ?_
 obtain ⟨fs, hr, hrun, hended, hW, hsame⟩ := X5.leave (v := none) (fun _ => rfl)
 refine ⟨_, _, X5.returnOut hx Bd.returns (hb hby dPU_53) hr, hrun, hended, _, _, rfl, ?_, ⟨_, rfl⟩, hW, hsame.mono (by decide) (by decide)⟩
 change Q_own_put1_0 Z t kb ch bt0 bt1 h0 n0 _ T5.heap _; rw [e5]; exact ⟨rfl, N5, K5, (by have q : Arv Z _ t kb .byte (2 : Int32) [.int (nar .byte ((ch >>> ((0 : Int32) &&& 31)).toInt8.toInt32)), .int (nar .byte ((ch >>> ((8 : Int32) &&& 31)).toInt8.toInt32))] (.int 0) := V5; rwa [own_pb0, own_pb8] at q)⟩

def Q_own_toB1 (Z : State) (b : Nat) (kC : ClassId) (dv : Value) (c0 : Int32) (h0 : Heap) (n0 : Nat) (v : Option Value) (h : Heap) (L : List Loc) : Prop := ∃ (t : Nat) (kb : ClassId), v = some (.ref t) ∧ Fr n0 L ∧ Keep h0 h [] ∧ h0.size ≤ t ∧ t < h.size ∧ Arv Z h t kb .byte (2 : Int32) [.int (L8 c0), .int (H8 c0)] (.int 0)
theorem ef_own_toB1 (m : MethodId) (x0 : Nat) : entryFrame m #[(.ref x0), (.int 0), (.int 1)] 5 = mkF m 0 #[.val (.ref x0), .val (.int 0), .val (.int 1), .unset, .unset] [] := by first | (simp [entryFrame, mkF, argsToLocals, Value.category]; done) | rfl
theorem own_toB1 (l : Launch) (Z : State) (a0 : Array Value) (hw : hWt a0 Z) (ws : List Jvm.Cond) (b : Nat) (kC : ClassId) (dv : Value) (c0 : Int32) (h0 : Heap) (n0 : Nat) (Z0 : n0 ≤ h0.size) (X00 : Old Z n0 h0) (OA : oA Z) (OH : oH Z) (OL : oL Z) (Vb : Arv Z h0 b kC .char (1 : Int32) [.int c0] dv) :
    MetFree l mN7 (head1 (Jvm.Cond.code mN7 jdk_52_method_14_code 5 (some (.array .byte)) :: ws) rm_2_1_2_40) (fun av_ U => av_ = #[(.ref b), (.int 0), (.int 1)] ∧ Z.Warmed39 U.vm ∧ U.heap = h0) (fun _ _ _ _ _ => True) (own_EN (Q_own_toB1 Z b kC dv c0 h0 n0) rm_2_1_2_40) := by
 refine MetFree.of_bodySF (plainFor_of_name own_pn1) hisR ?_
 intro p e s m args below meth c s₁ Bd hml0 hP hK
 obtain ⟨rfl, hZ, hh⟩ := hP
 have hx := Bd.exec
 have hby := Bd.bytes
 have hml : c.maxLocals = 5 := hml0
 have hown : s.vm.findClass "java/lang/StringUTF16" = some m.cls := findClass_of_methodNamed Bd.named
 have X0 : Stand p l e rm_2_1_2_40 s m _ below meth c s₁ [] 0 0 := Stand.of_body Bd
 have e0 : s₁.heap = h0 := by rw [← hh, Bd.state]; rfl
 have N0 := Fr.nil n0
 have K0 : Keep h0 h0 [] := Keep.refl h0 []
 refine show own_G p e below (own_EN (Q_own_toB1 Z b kC dv c0 h0 n0) rm_2_1_2_40 #[(.ref b), (.int 0), (.int 1)] s) _ from ?_
 refine own_st (fun tq kq => castTop (ef_own_toB1 m (b)) kq) ?_
 show own_G p e below _ (s₁.setTop (mkF m 0 #[vR b, vI 0, vI 1, .unset, .unset] []))
 have ltb : b < h0.size := Vb.lt
 refine s_iloadN X0 hx (hb hby dTO_0) rfl ?_
 obtain ⟨_, _, ⟨T1, L1, k1, n1⟩, -, X1, ⟨Lc1, hQ1, l1, y1, z1⟩, st1⟩ := Jvm.LawKit.callS X0 hx (y := mN5) hown (mvT hZ (wd77 hw)) (mvT hZ (wd78 hw)) (mvT hZ (wd40 hw)) (mvT hZ (wd79 hw)) (by decide) (own_backN (W := 0) (own_nfor1 l Z a0 hw []  h0 n0 (by omega) (X00.keep K0 all0) ) hZ (wd79 hw) (wd40 hw) (by decide) (by decide)) (g := (mkF m 1 #[vR b, vI 0, vI 1, .unset, .unset] [(.int 1)])) rfl (by rw [hml]; rfl) (argsL := [(.int 1)]) (rest := []) (lenOf own_pd2 rfl) rfl (Nat.le_of_eq rfl) (hb hby dTO_1) (fun _ _ => ⟨rfl, e0, (by decide : 0 + 1 ≤ _), (by decide : 0 + 2 ≤ _)⟩)
 dsimp only [Pt.U, Pt.locs, Pt.cells, Pt.slots] at X1 l1 y1 z1 st1 hQ1
 subst l1 y1 z1
 obtain ⟨t1, kb1, rfl, Nq1, Kq1, gt1, lt1, Vt1⟩ := hQ1
 have KK1 : Keep h0 T1.heap [] := Kq1
 have sz1 : h0.size ≤ T1.heap.size := KK1.1
 have K1 : Keep h0 T1.heap [] := K0.trans KK1 all0
 have N1 := Fr.app N0 Nq1
 refine own_st st1 ?_
 refine own_st (fun tq kq => XS.astoreN X1.here hx rfl (hb hby dTO_4) rfl rfl (l' := #[vR b, vI 0, vI 1, vR t1, .unset]) rfl kq) ?_
 refine s_iconst X1 hx (hb hby dTO_5) ?_
 refine own_st (fun tq kq => XS.istore X1.here hx rfl (hb hby dTO_6) rfl (l' := #[vR b, vI 0, vI 1, vR t1, vI 0]) rfl kq) ?_
 refine s_iload X1 hx (hb hby dTO_8) rfl ?_
 show own_G p e below _ (T1.setTop (mkF m 10 #[vR b, vI 0, vI 1, vR t1, vI 0] [(.int 0)]))
 refine s_iloadN X1 hx (hb hby dTO_10) rfl ?_
 show own_G p e below _ (T1.setTop (mkF m 11 #[vR b, vI 0, vI 1, vR t1, vI 0] [(.int 1), (.int 0)]))
 refine own_st (fun tq kq => XS.icmpNo X1.here hx rfl (hb hby dTO_11) rfl (tlt (by decide : ((0 : Int32) < (1 : Int32)))).2.1 kq) ?_
 refine s_aloadN X1 hx (hb hby dTO_14) rfl rfl ?_
 refine s_iload X1 hx (hb hby dTO_15) rfl ?_
 refine s_aloadN X1 hx (hb hby dTO_17) rfl rfl ?_
 show own_G p e below _ (T1.setTop (mkF m 18 #[vR b, vI 0, vI 1, vR t1, vI 0] [(.ref b), (.int 0), (.ref t1)]))
 refine s_iloadN X1 hx (hb hby dTO_18) rfl ?_
 obtain ⟨cl2, Ar2, q2, S_2, N_2, H_2, G_2⟩ := id (Vb.keep KK1 nin0)
 have in2 : ¬ ((0 : Int32) < 0 ∨ cl2.slots.size ≤ ((0 : Int32)).toNatClampNeg) := inb_of S_2 ⟨by decide, by decide⟩
 have at2 : cl2.slots[((0 : Int32)).toNatClampNeg]? = some (.int c0) := H_2.at in2 rfl
 refine own_st (fun tq kq => X1.caload hx (j := (0 : Int32)) (v := (.int c0)) Ar2.1 (State.isArrayOf_alike hZ.alike Ar2.2.1) Ar2.2.2 in2 at2 (g := (mkF m 19 #[vR b, vI 0, vI 1, vR t1, vI 0] [(.int 0), (.ref b), (.int 0), (.ref t1)])) rfl rfl (hb hby dTO_19) _ kq) ?_
 obtain ⟨_, _, ⟨T3, L3, k3, n3⟩, -, X3, ⟨Lc3, hQ3, l3, y3, z3⟩, st3⟩ := Jvm.LawKit.callS X1 hx (y := mN6) hown (mvT hZ (wd84 hw)) (mvT hZ (wd85 hw)) (mvT hZ (wd40 hw)) (mvT hZ (wd86 hw)) (by decide) (own_backN (W := 0) (own_put1_0 l Z a0 hw [] (t1) (_) (c0) (_) (_) T1.heap n0 (by omega) (X00.keep K1 all0) OA OH OL Vt1 (by omega)) hZ (wd86 hw) (wd40 hw) (by decide) (by decide)) (g := (mkF m 20 #[vR b, vI 0, vI 1, vR t1, vI 0] [(.int c0), (.int 0), (.ref t1)])) rfl (by rw [hml]; rfl) (argsL := [(.ref t1), (.int 0), (.int c0)]) (rest := []) (lenOf own_pd3 rfl) rfl (Nat.le_of_eq rfl) (hb hby dTO_20) (fun _ _ => ⟨rfl, rfl, (by decide : 1 + 0 ≤ _), (by decide : 2 + 0 ≤ _)⟩)
 dsimp only [Pt.U, Pt.locs, Pt.cells, Pt.slots] at X3 l3 y3 z3 st3 hQ3
 subst l3 y3 z3
 obtain ⟨rfl, Nq3, Kq3, Vt3⟩ := hQ3
 have KK3 : Keep T1.heap T3.heap [t1] := Kq3
 have sz3 : T1.heap.size ≤ T3.heap.size := KK3.1
 have K3 : Keep h0 T3.heap [] := K1.trans KK3 (allS (Or.inr (own_le (by omega))) all0)
 have N3 := Fr.app N1 Nq3
 refine own_st st3 ?_
 refine own_st (fun tq kq => XS.iinc X3.here hx rfl (hb hby dTO_23) rfl (l' := #[vR b, vI 1, vI 1, vR t1, vI 0]) rfl kq) ?_
 refine own_st (fun tq kq => XS.iinc X3.here hx rfl (hb hby dTO_26) rfl (l' := #[vR b, vI 1, vI 1, vR t1, vI 1]) rfl kq) ?_
 refine own_st (fun tq kq => XS.goto X3.here hx rfl (pc0 := 29) (pc' := 8) rfl (hb hby dTO_29) (by decide) (by decide) kq) ?_
 refine s_iload X3 hx (hb hby dTO_8) rfl ?_
 show own_G p e below _ (T3.setTop (mkF m 10 #[vR b, vI 1, vI 1, vR t1, vI 1] [(.int 1)]))
 refine s_iloadN X3 hx (hb hby dTO_10) rfl ?_
 show own_G p e below _ (T3.setTop (mkF m 11 #[vR b, vI 1, vI 1, vR t1, vI 1] [(.int 1), (.int 1)]))
 refine own_st (fun tq kq => XS.icmpYes X3.here hx rfl (pc0 := 11) (pc' := 32) rfl (hb hby dTO_11) rfl (flt (by decide : ¬ ((1 : Int32) < (1 : Int32)))).2.1 (by decide) (by decide) kq) ?_
 refine s_aloadN X3 hx (hb hby dTO_32) rfl rfl ?_
 show own_G p e below _ (T3.setTop (mkF m 33 #[vR b, vI 1, vI 1, vR t1, vI 1] [(.ref t1)]))
 obtain ⟨fs, hr, hrun, hended, hW, hsame⟩ := X3.leave (v := some (.ref t1)) (fun h => by rw [Bd.returns] at h; cases h)
 refine ⟨_, _, retOut X3 hx Bd.returns rfl (Or.inr (Or.inr (Or.inr (Or.inr ⟨rfl, rfl, rfl⟩)))) (hb hby dTO_33) hr, hrun, hended, _, _, rfl, ?_, ⟨_, rfl⟩, hW, hsame.mono (by decide) (by decide)⟩
 change Q_own_toB1 Z b kC dv c0 h0 n0 _ T3.heap _; exact ⟨t1, _, rfl, N3, K3, (by omega), Vt3.lt, Vt3⟩

def Q_own_cfl1 (Z : State) (t : Nat) (kb : ClassId) (vs : List Value) (h0 : Heap) (n0 : Nat) (v : Option Value) (h : Heap) (L : List Loc) : Prop := v = some (.int (1 : Int32)) ∧ Fr n0 L ∧ h = h0
theorem ef_own_cfl1 (m : MethodId) (x0 : Nat) : entryFrame m #[(.ref x0), (.int 1)] 2 = mkF m 0 #[.val (.ref x0), .val (.int 1)] [] := by first | (simp [entryFrame, mkF, argsToLocals, Value.category]; done) | rfl
theorem own_cfl1 (l : Launch) (Z : State) (a0 : Array Value) (hw : hWt a0 Z) (ws : List Jvm.Cond) (t : Nat) (kb : ClassId) (vs : List Value) (h0 : Heap) (n0 : Nat) (Z0 : n0 ≤ h0.size) (X00 : Old Z n0 h0) (Vt : Arv Z h0 t kb .byte (2 : Int32) vs (.int 0)) :
    MetFree l mN8 (head1 (Jvm.Cond.code mN8 jdk_52_method_15_code 2 (some .byte) :: ws) rm_0_0_0_0) (fun av_ U => av_ = #[(.ref t), (.int 1)] ∧ Z.Warmed39 U.vm ∧ U.heap = h0) (fun _ _ _ _ _ => True) (own_EN (Q_own_cfl1 Z t kb vs h0 n0) rm_0_0_0_0) := by
 refine MetFree.of_bodySF (plainFor_of_name own_pn1) hisR ?_
 intro p e s m args below meth c s₁ Bd hml0 hP hK
 obtain ⟨rfl, hZ, hh⟩ := hP
 have hx := Bd.exec
 have hby := Bd.bytes
 have hml : c.maxLocals = 2 := hml0
 have hown : s.vm.findClass "java/lang/StringUTF16" = some m.cls := findClass_of_methodNamed Bd.named
 have X0 : Stand p l e rm_0_0_0_0 s m _ below meth c s₁ [] 0 0 := Stand.of_body Bd
 have e0 : s₁.heap = h0 := by rw [← hh, Bd.state]; rfl
 have N0 := Fr.nil n0
 have K0 : Keep h0 h0 [] := Keep.refl h0 []
 refine show own_G p e below (own_EN (Q_own_cfl1 Z t kb vs h0 n0) rm_0_0_0_0 #[(.ref t), (.int 1)] s) _ from ?_
 refine own_st (fun tq kq => castTop (ef_own_cfl1 m (t)) kq) ?_
 show own_G p e below _ (s₁.setTop (mkF m 0 #[vR t, vI 1] []))
 refine s_iloadN X0 hx (hb hby dCL_0) rfl ?_
 refine s_aloadN X0 hx (hb hby dCL_1) rfl rfl ?_
 obtain ⟨cl1, Ar1, q1, S_1, N_1, H_1, G_1⟩ := id Vt
 refine own_st (fun tq kq => X0.arraylength hx (by rw [e0]; exact Ar1.1) (State.isArrayOf_alike hZ.alike Ar1.2.1) (g := (mkF m 2 #[vR t, vI 1] [(.ref t), (.int 1)])) rfl rfl (hb hby dCL_2) _ kq) ?_
 rw [len_of S_1 N_1]
 show own_G p e below _ (s₁.setTop (mkF m 3 #[vR t, vI 1] [(.int 2), (.int 1)]))
 refine own_st (fun tq kq => XS.isub X0.here hx rfl (hb hby dCL_3) rfl kq) ?_
 refine s_bipush X0 hx (hb hby dCL_4) ?_
 refine own_st (fun tq kq => XS.iushr X0.here hx rfl (hb hby dCL_6) rfl kq) ?_
 refine own_st (fun tq kq => XS.i2b X0.here hx rfl (hb hby dCL_7) rfl kq) ?_
 show own_G p e below _ (s₁.setTop (mkF m 8 #[vR t, vI 1] [(.int 1)]))
 obtain ⟨fs, hr, hrun, hended, hW, hsame⟩ := X0.leave (v := some (.int 1)) (fun h => by rw [Bd.returns] at h; cases h)
 refine ⟨_, _, retN X0 hx (t := .byte) Bd.returns (by simp) (hb hby dCL_8) hr, hrun, hended, _, _, rfl, ?_, ⟨_, rfl⟩, hW, hsame.mono (by decide) (by decide)⟩
 change Q_own_cfl1 Z t kb vs h0 n0 _ s₁.heap _; rw [e0]; exact ⟨rfl, N0, rfl⟩

def Q_own_cm5_1_0 (Z : State) (b d : Nat) (kC kD : ClassId) (dv : Value) (c0 : Int32) (h0 : Heap) (n0 : Nat) (v : Option Value) (h : Heap) (L : List Loc) : Prop := v = some (.int (0 : Int32)) ∧ Fr n0 L ∧ Keep h0 h [d]
theorem ef_own_cm5_1_0 (m : MethodId) (x0 : Nat) (x2 : Nat) : entryFrame m #[(.ref x0), (.int 0), (.ref x2), (.int 0), (.int 1)] 7 = mkF m 0 #[.val (.ref x0), .val (.int 0), .val (.ref x2), .val (.int 0), .val (.int 1), .unset, .unset] [] := by first | (simp [entryFrame, mkF, argsToLocals, Value.category]; done) | rfl
theorem own_cm5_1_0 (l : Launch) (Z : State) (a0 : Array Value) (hw : hWt a0 Z) (ws : List Jvm.Cond) (b d : Nat) (kC kD : ClassId) (dv : Value) (c0 : Int32) (h0 : Heap) (n0 : Nat) (Z0 : n0 ≤ h0.size) (X00 : Old Z n0 h0) (Vb : Arv Z h0 b kC .char (1 : Int32) [.int c0] dv) (Vd : Arv Z h0 d kD .byte (1 : Int32) [.int (0 : Int32)] (.int 0)) (gd : n0 ≤ d) (nbd : b ≠ d) (hg : (255 : Int32) < c0) :
    MetFree l mN9 (head1 (Jvm.Cond.code mN9 jdk_52_method_21_code 7 (some .int) :: ws) rm_0_0_0_0) (fun av_ U => av_ = #[(.ref b), (.int 0), (.ref d), (.int 0), (.int 1)] ∧ Z.Warmed39 U.vm ∧ U.heap = h0) (fun _ _ _ _ _ => True) (own_EN (Q_own_cm5_1_0 Z b d kC kD dv c0 h0 n0) rm_0_0_0_0) := by
 refine MetFree.of_bodySF (plainFor_of_name own_pn1) hisR ?_
 intro p e s m args below meth c s₁ Bd hml0 hP hK
 obtain ⟨rfl, hZ, hh⟩ := hP
 have hx := Bd.exec
 have hby := Bd.bytes
 have hml : c.maxLocals = 7 := hml0
 have hown : s.vm.findClass "java/lang/StringUTF16" = some m.cls := findClass_of_methodNamed Bd.named
 have X0 : Stand p l e rm_0_0_0_0 s m _ below meth c s₁ [] 0 0 := Stand.of_body Bd
 have e0 : s₁.heap = h0 := by rw [← hh, Bd.state]; rfl
 have N0 := Fr.nil n0
 have K0 : Keep h0 h0 [d] := Keep.refl h0 [d]
 refine show own_G p e below (own_EN (Q_own_cm5_1_0 Z b d kC kD dv c0 h0 n0) rm_0_0_0_0 #[(.ref b), (.int 0), (.ref d), (.int 0), (.int 1)] s) _ from ?_
 refine own_st (fun tq kq => castTop (ef_own_cm5_1_0 m (b) (d)) kq) ?_
 show own_G p e below _ (s₁.setTop (mkF m 0 #[vR b, vI 0, vR d, vI 0, vI 1, .unset, .unset] []))
 have hws0 : ∀ y ∈ [d], n0 ≤ y := allS gd all0
 refine s_iconst X0 hx (hb hby dC5_0) ?_
 refine own_st (fun tq kq => XS.istore X0.here hx rfl (hb hby dC5_1) rfl (l' := #[vR b, vI 0, vR d, vI 0, vI 1, vI 0, .unset]) rfl kq) ?_
 refine s_iload X0 hx (hb hby dC5_3) rfl ?_
 refine s_iload X0 hx (hb hby dC5_5) rfl ?_
 show own_G p e below _ (s₁.setTop (mkF m 7 #[vR b, vI 0, vR d, vI 0, vI 1, vI 0, .unset] [(.int 1), (.int 0)]))
 refine own_st (fun tq kq => XS.icmpNo X0.here hx rfl (hb hby dC5_7) rfl (tlt (by decide : ((0 : Int32) < (1 : Int32)))).2.1 kq) ?_
 refine s_aloadN X0 hx (hb hby dC5_10) rfl rfl ?_
 refine s_iloadN X0 hx (hb hby dC5_11) rfl ?_
 obtain ⟨cl1, Ar1, q1, S_1, N_1, H_1, G_1⟩ := id Vb
 have in1 : ¬ ((0 : Int32) < 0 ∨ cl1.slots.size ≤ ((0 : Int32)).toNatClampNeg) := inb_of S_1 ⟨by decide, by decide⟩
 have at1 : cl1.slots[((0 : Int32)).toNatClampNeg]? = some (.int c0) := H_1.at in1 rfl
 refine own_st (fun tq kq => X0.caload hx (j := (0 : Int32)) (v := (.int c0)) (by rw [e0]; exact Ar1.1) (State.isArrayOf_alike hZ.alike Ar1.2.1) Ar1.2.2 in1 at1 (g := (mkF m 12 #[vR b, vI 0, vR d, vI 0, vI 1, vI 0, .unset] [(.int 0), (.ref b)])) rfl rfl (hb hby dC5_12) _ kq) ?_
 show own_G p e below _ (s₁.setTop (mkF m 13 #[vR b, vI 0, vR d, vI 0, vI 1, vI 0, .unset] [(.int c0)]))
 refine own_st (fun tq kq => XS.istore X0.here hx rfl (hb hby dC5_13) rfl (l' := #[vR b, vI 0, vR d, vI 0, vI 1, vI 0, vI c0]) rfl kq) ?_
 refine s_iload X0 hx (hb hby dC5_15) rfl ?_
 refine s_sipush X0 hx (hb hby dC5_17) ?_
 show own_G p e below _ (s₁.setTop (mkF m 20 #[vR b, vI 0, vR d, vI 0, vI 1, vI 0, vI c0] [(.int 255), (.int c0)]))
 refine own_st (fun tq kq => XS.icmpNo X0.here hx rfl (hb hby dC5_20) rfl (tlt hg).2.2.2 kq) ?_
 refine s_iload X0 hx (hb hby dC5_23) rfl ?_
 show own_G p e below _ (s₁.setTop (mkF m 25 #[vR b, vI 0, vR d, vI 0, vI 1, vI 0, vI c0] [(.int 0)]))
 obtain ⟨fs, hr, hrun, hended, hW, hsame⟩ := X0.leave (v := some (.int 0)) (fun h => by rw [Bd.returns] at h; cases h)
 refine ⟨_, _, retOut X0 hx Bd.returns rfl (Or.inl ⟨rfl, by simp, _, rfl⟩) (hb hby dC5_25) hr, hrun, hended, _, _, rfl, ?_, ⟨_, rfl⟩, hW, hsame.mono (by decide) (by decide)⟩
 change Q_own_cm5_1_0 Z b d kC kD dv c0 h0 n0 _ s₁.heap _; rw [e0]; exact ⟨rfl, N0, K0⟩

def Q_own_cm3_1 (Z : State) (b : Nat) (kC : ClassId) (dv : Value) (c0 : Int32) (h0 : Heap) (n0 : Nat) (v : Option Value) (h : Heap) (L : List Loc) : Prop := ∃ (t : Nat) (kb : ClassId), v = some (.ref t) ∧ Fr n0 L ∧ Keep h0 h [] ∧ h0.size ≤ t ∧ t < h.size ∧ Arv Z h t kb .byte (2 : Int32) [.int (L8 c0), .int (H8 c0)] (.int 0)
theorem ef_own_cm3_1 (m : MethodId) (x0 : Nat) : entryFrame m #[(.ref x0), (.int 0), (.int 1)] 6 = mkF m 0 #[.val (.ref x0), .val (.int 0), .val (.int 1), .unset, .unset, .unset] [] := by first | (simp [entryFrame, mkF, argsToLocals, Value.category]; done) | rfl
theorem own_cm3_1 (l : Launch) (Z : State) (a0 : Array Value) (hw : hWt a0 Z) (ws : List Jvm.Cond) (b : Nat) (kC : ClassId) (dv : Value) (c0 : Int32) (h0 : Heap) (n0 : Nat) (Z0 : n0 ≤ h0.size) (X00 : Old Z n0 h0) (OA : oA Z) (OH : oH Z) (OL : oL Z) (Vb : Arv Z h0 b kC .char (1 : Int32) [.int c0] dv) (hb0 : ¬ c0 < 0 ∧ ¬ (65535 : Int32) < c0) (hD : ((255 : Int32) < c0)) :
    MetFree l mN10 (head1 (Jvm.Cond.code mN10 jdk_52_method_16_code 6 (some (.array .byte)) :: ws) rm_3_2_3_70) (fun av_ U => av_ = #[(.ref b), (.int 0), (.int 1)] ∧ Z.Warmed39 U.vm ∧ U.heap = h0) (fun _ _ _ _ _ => True) (own_EN (Q_own_cm3_1 Z b kC dv c0 h0 n0) rm_3_2_3_70) := by
 refine MetFree.of_bodySF (plainFor_of_name own_pn1) hisR ?_
 intro p e s m args below meth c s₁ Bd hml0 hP hK
 obtain ⟨rfl, hZ, hh⟩ := hP
 have hx := Bd.exec
 have hby := Bd.bytes
 have hml : c.maxLocals = 6 := hml0
 have hown : s.vm.findClass "java/lang/StringUTF16" = some m.cls := findClass_of_methodNamed Bd.named
 have X0 : Stand p l e rm_3_2_3_70 s m _ below meth c s₁ [] 0 0 := Stand.of_body Bd
 have e0 : s₁.heap = h0 := by rw [← hh, Bd.state]; rfl
 have N0 := Fr.nil n0
 have K0 : Keep h0 h0 [] := Keep.refl h0 []
 refine show own_G p e below (own_EN (Q_own_cm3_1 Z b kC dv c0 h0 n0) rm_3_2_3_70 #[(.ref b), (.int 0), (.int 1)] s) _ from ?_
 refine own_st (fun tq kq => castTop (ef_own_cm3_1 m (b)) kq) ?_
 show own_G p e below _ (s₁.setTop (mkF m 0 #[vR b, vI 0, vI 1, .unset, .unset, .unset] []))
 have ltb : b < h0.size := Vb.lt
 have hg := hD
 refine s_iloadN X0 hx (hb hby dC3_0) rfl ?_
 obtain ⟨T1, h1, k1, X1, e1, E1, A1, st1⟩ := newP X0 hx hZ (hw _ (List.mem_of_getElem? (i := 16) rfl)) e0 (g := (mkF m 1 #[vR b, vI 0, vI 1, .unset, .unset, .unset] [(.int 1)])) rfl (hb hby dC3_1) rfl (by decide) (cap := 1) (by decide) (by decide) (by decide) (by decide)
 obtain ⟨b1, g1⟩ : ∃ z, z = h0.size := ⟨_, rfl⟩
 rw [← g1] at A1 st1
 have lt1 : b1 < h1.size := A1.lt
 have V1 : Arv Z h1 b1 k1 .byte (1 : Int32) [(.int (0 : Int32))] (.int (0 : Int32)) := (Arv.new A1 (by decide)).pad (pad_rep [] (.int (0 : Int32)) 1)
 have sz1 : h0.size ≤ h1.size := E1.1
 have K1 : Keep h0 h1 [] := K0.ext E1
 refine own_st st1 ?_
 refine own_st (fun tq kq => XS.astoreN X1.here hx rfl (hb hby dC3_3) rfl rfl (l' := #[vR b, vI 0, vI 1, vR b1, .unset, .unset]) rfl kq) ?_
 refine s_aloadN X1 hx (hb hby dC3_4) rfl rfl ?_
 refine s_iloadN X1 hx (hb hby dC3_5) rfl ?_
 refine s_aloadN X1 hx (hb hby dC3_6) rfl rfl ?_
 show own_G p e below _ (T1.setTop (mkF m 7 #[vR b, vI 0, vI 1, vR b1, .unset, .unset] [(.ref b1), (.int 0), (.ref b)]))
 refine s_iconst X1 hx (hb hby dC3_7) ?_
 refine s_iloadN X1 hx (hb hby dC3_8) rfl ?_
 obtain ⟨_, _, ⟨T2, L2, k2, n2⟩, -, X2, ⟨Lc2, hQ2, l2, y2, z2⟩, st2⟩ := Jvm.LawKit.callS X1 hx (y := mN9) hown (mvT hZ (wd42 hw)) (mvT hZ (wd43 hw)) (mvT hZ (wd40 hw)) (mvT hZ (wd44 hw)) (by decide) (own_backN (W := 0) (own_cm5_1_0 l Z a0 hw [] (b) (b1) (kC) (k1) (dv) (c0) h1 n0 (by omega) (X00.keep K1 all0) (Vb.ext E1) V1 (by omega) (own_ne (by omega)) hg) hZ (wd44 hw) (wd40 hw) (by decide) (by decide)) (g := (mkF m 9 #[vR b, vI 0, vI 1, vR b1, .unset, .unset] [(.int 1), (.int 0), (.ref b1), (.int 0), (.ref b)])) rfl (by rw [hml]; rfl) (argsL := [(.ref b), (.int 0), (.ref b1), (.int 0), (.int 1)]) (rest := []) (lenOf own_pd4 rfl) rfl (Nat.le_of_eq rfl) (hb hby dC3_9) (fun _ _ => ⟨rfl, e1, (by decide : 1 + 0 ≤ _), (by decide : 1 + 0 ≤ _)⟩)
 dsimp only [Pt.U, Pt.locs, Pt.cells, Pt.slots] at X2 l2 y2 z2 st2 hQ2
 subst l2 y2 z2
 obtain ⟨rfl, Nq2, Kq2⟩ := hQ2
 have KK2 : Keep h1 T2.heap [b1] := Kq2
 have sz2 : h1.size ≤ T2.heap.size := KK2.1
 have K2 : Keep h0 T2.heap [] := K1.trans KK2 (allS (Or.inr (own_le (by omega))) all0)
 have N2 := Fr.app N0 Nq2
 refine own_st st2 ?_
 refine own_st (fun tq kq => XS.istore X2.here hx rfl (hb hby dC3_12) rfl (l' := #[vR b, vI 0, vI 1, vR b1, vI 0, .unset]) rfl kq) ?_
 refine s_iload X2 hx (hb hby dC3_14) rfl ?_
 refine s_iloadN X2 hx (hb hby dC3_16) rfl ?_
 show own_G p e below _ (T2.setTop (mkF m 17 #[vR b, vI 0, vI 1, vR b1, vI 0, .unset] [(.int 1), (.int 0)]))
 refine own_st (fun tq kq => XS.icmpNo X2.here hx rfl (hb hby dC3_17) rfl (feq (by decide : ¬ ((0 : Int32) = (1 : Int32)))).1 kq) ?_
 refine s_aloadN X2 hx (hb hby dC3_20) rfl rfl ?_
 refine s_iloadN X2 hx (hb hby dC3_21) rfl ?_
 refine s_iloadN X2 hx (hb hby dC3_22) rfl ?_
 show own_G p e below _ (T2.setTop (mkF m 23 #[vR b, vI 0, vI 1, vR b1, vI 0, .unset] [(.int 1), (.int 0), (.ref b)]))
 obtain ⟨_, _, ⟨T3, L3, k3, n3⟩, -, X3, ⟨Lc3, hQ3, l3, y3, z3⟩, st3⟩ := Jvm.LawKit.callS X2 hx (y := mN7) hown (mvT hZ (wd74 hw)) (mvT hZ (wd75 hw)) (mvT hZ (wd40 hw)) (mvT hZ (wd76 hw)) (by decide) (own_backN (W := 0) (own_toB1 l Z a0 hw [] (b) (kC) (dv) (c0) T2.heap n0 (by omega) (X00.keep K2 all0) OA OH OL ((Vb.ext E1).keep KK2 (ninS (own_ne (by omega)) nin0))) hZ (wd76 hw) (wd40 hw) (by decide) (by decide)) (g := (mkF m 23 #[vR b, vI 0, vI 1, vR b1, vI 0, .unset] [(.int 1), (.int 0), (.ref b)])) rfl (by rw [hml]; rfl) (argsL := [(.ref b), (.int 0), (.int 1)]) (rest := []) (lenOf own_pd5 rfl) rfl (Nat.le_of_eq rfl) (hb hby dC3_23) (fun _ _ => ⟨rfl, rfl, (by decide : 1 + 1 ≤ _), (by decide : 1 + 2 ≤ _)⟩)
 dsimp only [Pt.U, Pt.locs, Pt.cells, Pt.slots] at X3 l3 y3 z3 st3 hQ3
 subst l3 y3 z3
 obtain ⟨t3, kb3, rfl, Nq3, Kq3, gt3, lt3, Vt3⟩ := hQ3
 have KK3 : Keep T2.heap T3.heap [] := Kq3
 have sz3 : T2.heap.size ≤ T3.heap.size := KK3.1
 have K3 : Keep h0 T3.heap [] := K2.trans KK3 all0
 have N3 := Fr.app N2 Nq3
 refine own_st st3 ?_
 refine own_st (fun tq kq => XS.astore X3.here hx rfl (hb hby dC3_26) rfl rfl (l' := #[vR b, vI 0, vI 1, vR b1, vI 0, vR t3]) rfl kq) ?_
 refine s_aload X3 hx (hb hby dC3_28) rfl rfl ?_
 refine s_iload X3 hx (hb hby dC3_30) rfl ?_
 obtain ⟨_, _, ⟨T4, L4, k4, n4⟩, -, X4, ⟨Lc4, hQ4, l4, y4, z4⟩, st4⟩ := Jvm.LawKit.callS X3 hx (y := mN2) hown (mvT hZ (wd90 hw)) (mvT hZ (wd91 hw)) (mvT hZ (wd40 hw)) (mvT hZ (wd92 hw)) (by decide) (own_backN (W := 0) (own_get_0 l Z a0 hw [] (t3) (_) (_) (_) (_) (_) T3.heap n0 (by omega) (X00.keep K3 all0) OA OH OL Vt3 (by decide) (by decide) rfl rfl) hZ (wd92 hw) (wd40 hw) (by decide) (by decide)) (g := (mkF m 32 #[vR b, vI 0, vI 1, vR b1, vI 0, vR t3] [(.int 0), (.ref t3)])) rfl (by rw [hml]; rfl) (argsL := [(.ref t3), (.int 0)]) (rest := []) (lenOf own_pd6 rfl) rfl (Nat.le_of_eq rfl) (hb hby dC3_32) (fun _ _ => ⟨rfl, rfl, (by decide : 2 + 0 ≤ _), (by decide : 3 + 0 ≤ _)⟩)
 dsimp only [Pt.U, Pt.locs, Pt.cells, Pt.slots] at X4 l4 y4 z4 st4 hQ4
 subst l4 y4 z4
 obtain ⟨rfl, Nq4, sm4⟩ := hQ4
 have N4 := Fr.app N3 Nq4
 refine own_st st4 ?_
 refine s_sipush X4 hx (hb hby dC3_35) ?_
 show own_G p e below _ (T4.setTop (mkF m 38 #[vR b, vI 0, vI 1, vR b1, vI 0, vR t3] [(.int 255), (.int (StrChars.pairCh (L8 c0) (H8 c0)))]))
 refine own_st (fun tq kq => XS.icmpYes X4.here hx rfl (pc0 := 38) (pc' := 54) rfl (hb hby dC3_38) rfl (tlt (by rw [StrChars.pair_says hb0.1 hb0.2]; exact hg)).2.2.1 (by decide) (by decide) kq) ?_
 refine s_aload X4 hx (hb hby dC3_54) rfl rfl ?_
 show own_G p e below _ (T4.setTop (mkF m 56 #[vR b, vI 0, vI 1, vR b1, vI 0, vR t3] [(.ref t3)]))
 obtain ⟨fs, hr, hrun, hended, hW, hsame⟩ := X4.leave (v := some (.ref t3)) (fun h => by rw [Bd.returns] at h; cases h)
 refine ⟨_, _, retOut X4 hx Bd.returns rfl (Or.inr (Or.inr (Or.inr (Or.inr ⟨rfl, rfl, rfl⟩)))) (hb hby dC3_56) hr, hrun, hended, _, _, rfl, ?_, ⟨_, rfl⟩, hW, hsame.mono (by decide) (by decide)⟩
 change Q_own_cm3_1 Z b kC dv c0 h0 n0 _ T4.heap _; rw [sm4]; exact ⟨t3, _, rfl, N4, K3, (by omega), Vt3.lt, Vt3⟩

def Q_own_n4_1 (Z : State) (x b : Nat) (v0 c_0 dv : Value) (kC : ClassId) (G1 : Int32) (c0 : Int32) (h0 : Heap) (n0 : Nat) (v : Option Value) (h : Heap) (L : List Loc) : Prop := v = none ∧ Fr n0 L ∧ Keep h0 h [x] ∧ ∃ (t : Nat) (kb : ClassId), Fld Z h x "java/lang/String" "value" "[B" (.ref t) ∧ Fld Z h x "java/lang/String" "coder" "B" (.int (1 : Int32)) ∧ Arv Z h t kb .byte (2 : Int32) [.int (L8 c0), .int (H8 c0)] (.int 0)
theorem ef_own_n4_1 (m : MethodId) (x0 : Nat) (x1 : Nat) : entryFrame m #[(.ref x0), (.ref x1), (.int 0), (.int 1), .null] 6 = mkF m 0 #[.val (.ref x0), .val (.ref x1), .val (.int 0), .val (.int 1), .val .null, .unset] [] := by first | (simp [entryFrame, mkF, argsToLocals, Value.category]; done) | rfl
theorem own_n4_1 (l : Launch) (Z : State) (a0 : Array Value) (hw : hWt a0 Z) (ws : List Jvm.Cond) (x b : Nat) (v0 c_0 dv : Value) (kC : ClassId) (G1 : Int32) (c0 : Int32) (h0 : Heap) (n0 : Nat) (Z0 : n0 ≤ h0.size) (X00 : Old Z n0 h0) (Ex : Exa Z h0 x "java/lang/String") (Fv : Fld Z h0 x "java/lang/String" "value" "[B" v0) (Fc : Fld Z h0 x "java/lang/String" "coder" "B" c_0) (gx : n0 ≤ x) (ltx : x < h0.size) (Vb : Arv Z h0 b kC .char (1 : Int32) [.int c0] dv) (O2 : Sta Z Z.heap "java/lang/String" "COMPACT_STRINGS" "Z" (.int G1)) (P5 : ¬ (G1 = (0 : Int32))) (OA : oA Z) (OH : oH Z) (OL : oL Z) (hb0 : ¬ c0 < 0 ∧ ¬ (65535 : Int32) < c0) (hD : ((255 : Int32) < c0)) :
    MetFree l mN0 (head1 (Jvm.Cond.code mN0 jdk_42_method_149_code 6 none :: ws) rm_4_2_3_95) (fun av_ U => av_ = #[(.ref x), (.ref b), (.int 0), (.int 1), .null] ∧ Z.Warmed39 U.vm ∧ U.heap = h0) (fun _ _ _ _ _ => True) (own_EN (Q_own_n4_1 Z x b v0 c_0 dv kC G1 c0 h0 n0) rm_4_2_3_95) := by
 refine MetFree.of_bodySF (plainFor_of_name own_pn0) hisR ?_
 intro p e s m args below meth c s₁ Bd hml0 hP hK
 obtain ⟨rfl, hZ, hh⟩ := hP
 have hx := Bd.exec
 have hby := Bd.bytes
 have hml : c.maxLocals = 6 := hml0
 have hown : s.vm.findClass "java/lang/String" = some m.cls := findClass_of_methodNamed Bd.named
 have hnm := (name_of_methodNamed Bd.named Bd.method).1
 have X0 : Stand p l e rm_4_2_3_95 s m _ below meth c s₁ [] 0 0 := Stand.of_body Bd
 have e0 : s₁.heap = h0 := by rw [← hh, Bd.state]; rfl
 have N0 := Fr.nil n0
 have K0 : Keep h0 h0 [x] := Keep.refl h0 [x]
 refine show own_G p e below (own_EN (Q_own_n4_1 Z x b v0 c_0 dv kC G1 c0 h0 n0) rm_4_2_3_95 #[(.ref x), (.ref b), (.int 0), (.int 1), .null] s) _ from ?_
 refine own_st (fun tq kq => castTop (ef_own_n4_1 m (x) (b)) kq) ?_
 show own_G p e below _ (s₁.setTop (mkF m 0 #[vR x, vR b, vI 0, vI 1, .val .null, .unset] []))
 have hws0 : ∀ y ∈ [x], n0 ≤ y := allS gx all0
 refine s_aloadN X0 hx (hb hby dN4_0) rfl rfl ?_
 obtain ⟨T1, X1, e1, st1⟩ := initO X0 hx hZ hown (wd12 hw) (wd13 hw) (wd14 hw) e0 (g := (mkF m 1 #[vR x, vR b, vI 0, vI 1, .val .null, .unset] [(.ref x)])) rfl (by rw [hml]; rfl) rfl (hb hby dN4_1) (by decide) (W := 0) (Nat.le_of_eq rfl) (by decide)
 refine own_st st1 ?_
 refine s_iloadN X1 hx (hb hby dN4_4) rfl ?_
 show own_G p e below _ (T1.setTop (mkF m 5 #[vR x, vR b, vI 0, vI 1, .val .null, .unset] [(.int 1)]))
 refine own_st (fun tq kq => XS.ifYes X1.here hx rfl (pc0 := 5) (pc' := 27) rfl (hb hby dN4_5) rfl ((if0 _ _).trans (feq (by decide : ¬ ((1 : Int32) = (0 : Int32)))).2) (by decide) (by decide) kq) ?_
 obtain ⟨T2, X2, e2, st2⟩ := getS2 X1 hx hZ hown (host := "") (Or.inl (wd37 hw)) Via.refl e1 (O2.ext (X00.keep K0 hws0).2) (g := (mkF m 27 #[vR x, vR b, vI 0, vI 1, .val .null, .unset] [])) rfl (hb hby dN4_27)
 refine own_st st2 ?_
 refine own_st (fun tq kq => XS.ifNo X2.here hx rfl (hb hby dN4_30) rfl ((if0 _ _).trans (feq P5).1) kq) ?_
 refine s_aloadN X2 hx (hb hby dN4_33) rfl rfl ?_
 refine s_iloadN X2 hx (hb hby dN4_34) rfl ?_
 refine s_iloadN X2 hx (hb hby dN4_35) rfl ?_
 show own_G p e below _ (T2.setTop (mkF m 36 #[vR x, vR b, vI 0, vI 1, .val .null, .unset] [(.int 1), (.int 0), (.ref b)]))
 obtain ⟨_, _, ⟨T3, L3, k3, n3⟩, -, X3, ⟨Lc3, hQ3, l3, y3, z3⟩, st3⟩ := Jvm.LawKit.callS X2 hx (y := mN10) hown (mvT hZ (wd38 hw)) (mvT hZ (wd39 hw)) (mvT hZ (wd40 hw)) (mvT hZ (wd41 hw)) (by decide) (own_backN (W := 0) (own_cm3_1 l Z a0 hw [] (b) (kC) (dv) (c0) h0 n0 (by omega) (X00.keep K0 hws0) OA OH OL Vb hb0 hD) hZ (wd41 hw) (wd40 hw) (by decide) (by decide)) (g := (mkF m 36 #[vR x, vR b, vI 0, vI 1, .val .null, .unset] [(.int 1), (.int 0), (.ref b)])) rfl (by rw [hml]; rfl) (argsL := [(.ref b), (.int 0), (.int 1)]) (rest := []) (lenOf own_pd5 rfl) rfl (Nat.le_of_eq rfl) (hb hby dN4_36) (fun _ _ => ⟨rfl, e2, (by decide : 0 + 2 ≤ _), (by decide : 0 + 3 ≤ _)⟩)
 dsimp only [Pt.U, Pt.locs, Pt.cells, Pt.slots] at X3 l3 y3 z3 st3 hQ3
 subst l3 y3 z3
 obtain ⟨t3, kb3, rfl, Nq3, Kq3, gt3, lt3, Vt3⟩ := hQ3
 have KK3 : Keep h0 T3.heap [] := Kq3
 have sz3 : h0.size ≤ T3.heap.size := KK3.1
 have K3 : Keep h0 T3.heap [x] := K0.trans KK3 all0
 have N3 := Fr.app N0 Nq3
 refine own_st st3 ?_
 refine own_st (fun tq kq => XS.astore X3.here hx rfl (hb hby dN4_39) rfl rfl (l' := #[vR x, vR b, vI 0, vI 1, .val .null, vR t3]) rfl kq) ?_
 refine s_aloadN X3 hx (hb hby dN4_41) rfl rfl ?_
 refine s_aload X3 hx (hb hby dN4_42) rfl rfl ?_
 refine s_iloadN X3 hx (hb hby dN4_44) rfl ?_
 show own_G p e below _ (T3.setTop (mkF m 45 #[vR x, vR b, vI 0, vI 1, .val .null, vR t3] [(.int 1), (.ref t3), (.ref x)]))
 obtain ⟨_, _, ⟨T4, L4, k4, n4⟩, -, X4, ⟨Lc4, hQ4, l4, y4, z4⟩, st4⟩ := Jvm.LawKit.callS X3 hx (y := mN8) hown (mvT hZ (wd45 hw)) (mvT hZ (wd46 hw)) (mvT hZ (wd40 hw)) (mvT hZ (wd47 hw)) (by decide) (own_backN (W := 1) (own_cfl1 l Z a0 hw [] (t3) (_) (_) T3.heap n0 (by omega) (X00.keep K3 hws0) Vt3) hZ (wd47 hw) (wd40 hw) (by decide) (by decide)) (g := (mkF m 45 #[vR x, vR b, vI 0, vI 1, .val .null, vR t3] [(.int 1), (.ref t3), (.ref x)])) rfl (by rw [hml]; rfl) (argsL := [(.ref t3), (.int 1)]) (rest := [(.ref x)]) (lenOf own_pd7 rfl) rfl (Nat.le_of_eq rfl) (hb hby dN4_45) (fun _ _ => ⟨rfl, rfl, (by decide : 2 + 0 ≤ _), (by decide : 3 + 0 ≤ _)⟩)
 dsimp only [Pt.U, Pt.locs, Pt.cells, Pt.slots] at X4 l4 y4 z4 st4 hQ4
 subst l4 y4 z4
 obtain ⟨rfl, Nq4, sm4⟩ := hQ4
 have N4 := Fr.app N3 Nq4
 refine own_st st4 ?_
 obtain ⟨T5, h5, X5, e5, W5, st5⟩ := putF X4 hx hZ hown (host := "") (Or.inl (wd22 hw)) Via.refl sm4 (Fc.keep KK3 nin0) (Ex.keep KK3) (Or.inr ⟨(wd18 hw), rfl, hnm⟩) (wd3 hw) (ty := .byte) (by decide) rfl rfl (g := (mkF m 48 #[vR x, vR b, vI 0, vI 1, .val .null, vR t3] [(.int 1), (.ref x)])) rfl rfl (hb hby dN4_48)
 have Fw5 := (Fc.keep KK3 nin0).same W5
 have sz5 : T3.heap.size ≤ h5.size := (Keep.of_wr W5).1
 have K5 : Keep h0 h5 [x] := K3.wr W5 (Or.inl (by simp))
 have N5 := Fr.snoc X5 N4 (own_le (by omega))
 refine own_st st5 ?_
 refine s_aloadN X5 hx (hb hby dN4_51) rfl rfl ?_
 refine s_aload X5 hx (hb hby dN4_52) rfl rfl ?_
 obtain ⟨T6, h6, X6, e6, W6, st6⟩ := putF X5 hx hZ hown (host := "") (Or.inl (wd21 hw)) Via.refl e5 ((Fv.keep KK3 nin0).other W5 (Or.inr (slot_ne (Or.inr (wd17 hw)) (Or.inr (wd18 hw)) (by decide) (t := (.array .byte)) (t' := .byte) (by decide) (by decide)))) ((Ex.keep KK3).wr W5) (Or.inr ⟨(wd17 hw), rfl, hnm⟩) (wd3 hw) (ty := (.array .byte)) (by decide) rfl rfl (g := (mkF m 54 #[vR x, vR b, vI 0, vI 1, .val .null, vR t3] [(.ref t3), (.ref x)])) rfl rfl (hb hby dN4_54)
 have Fw6 := ((Fv.keep KK3 nin0).other W5 (Or.inr (slot_ne (Or.inr (wd17 hw)) (Or.inr (wd18 hw)) (by decide) (t := (.array .byte)) (t' := .byte) (by decide) (by decide)))).same W6
 have sz6 : h5.size ≤ h6.size := (Keep.of_wr W6).1
 have K6 : Keep h0 h6 [x] := K5.wr W6 (Or.inl (by simp))
 have N6 := Fr.snoc X6 N5 (own_le (by omega))
 refine own_st st6 ?_
 obtain ⟨fs, hr, hrun, hended, hW, hsame⟩ := X6.leave (v := none) (fun _ => rfl)
 refine ⟨_, _, X6.returnOut hx Bd.returns (hb hby dN4_57) hr, hrun, hended, _, _, rfl, ?_, ⟨_, rfl⟩, hW, hsame.mono (by decide) (by decide)⟩
 change Q_own_n4_1 Z x b v0 c_0 dv kC G1 c0 h0 n0 _ T6.heap _; rw [e6]; exact ⟨rfl, N6, K6, t3, _, Fw6, (Fw5.other W6 (Or.inr (slot_ne (Or.inr (wd18 hw)) (Or.inr (wd17 hw)) (by decide) (t := .byte) (t' := (.array .byte)) (by decide) (by decide)))), ((Vt3.other W5 (own_ne (by omega))).other W6 (own_ne (by omega)))⟩

def Q_own_n1_1 (Z : State) (x b : Nat) (v0 c_0 dv : Value) (kC : ClassId) (G1 : Int32) (c0 : Int32) (h0 : Heap) (n0 : Nat) (v : Option Value) (h : Heap) (L : List Loc) : Prop := v = none ∧ Fr n0 L ∧ Keep h0 h [x] ∧ ∃ (t : Nat) (kb : ClassId), Fld Z h x "java/lang/String" "value" "[B" (.ref t) ∧ Fld Z h x "java/lang/String" "coder" "B" (.int (1 : Int32)) ∧ Arv Z h t kb .byte (2 : Int32) [.int (L8 c0), .int (H8 c0)] (.int 0)
theorem ef_own_n1_1 (m : MethodId) (x0 : Nat) (x1 : Nat) : entryFrame m #[(.ref x0), (.ref x1)] 2 = mkF m 0 #[.val (.ref x0), .val (.ref x1)] [] := by first | (simp [entryFrame, mkF, argsToLocals, Value.category]; done) | rfl
theorem own_n1_1 (l : Launch) (Z : State) (a0 : Array Value) (hw : hWt a0 Z) (ws : List Jvm.Cond) (x b : Nat) (v0 c_0 dv : Value) (kC : ClassId) (G1 : Int32) (c0 : Int32) (h0 : Heap) (n0 : Nat) (Z0 : n0 ≤ h0.size) (X00 : Old Z n0 h0) (Ex : Exa Z h0 x "java/lang/String") (Fv : Fld Z h0 x "java/lang/String" "value" "[B" v0) (Fc : Fld Z h0 x "java/lang/String" "coder" "B" c_0) (gx : n0 ≤ x) (ltx : x < h0.size) (Vb : Arv Z h0 b kC .char (1 : Int32) [.int c0] dv) (O2 : Sta Z Z.heap "java/lang/String" "COMPACT_STRINGS" "Z" (.int G1)) (P5 : ¬ (G1 = (0 : Int32))) (OA : oA Z) (OH : oH Z) (OL : oL Z) (hb0 : ¬ c0 < 0 ∧ ¬ (65535 : Int32) < c0) (hD : ((255 : Int32) < c0)) :
    MetFree l mN1 (head1 (Jvm.Cond.code mN1 jdk_42_method_3_code 2 none :: ws) rm_5_2_3_115) (fun av_ U => av_ = #[(.ref x), (.ref b)] ∧ Z.Warmed39 U.vm ∧ U.heap = h0) (fun _ _ _ _ _ => True) (own_EN (Q_own_n1_1 Z x b v0 c_0 dv kC G1 c0 h0 n0) rm_5_2_3_115) := by
 refine MetFree.of_bodySF (plainFor_of_name own_pn0) hisR ?_
 intro p e s m args below meth c s₁ Bd hml0 hP hK
 obtain ⟨rfl, hZ, hh⟩ := hP
 have hx := Bd.exec
 have hby := Bd.bytes
 have hml : c.maxLocals = 2 := hml0
 have hown : s.vm.findClass "java/lang/String" = some m.cls := findClass_of_methodNamed Bd.named
 have hnm := (name_of_methodNamed Bd.named Bd.method).1
 have X0 : Stand p l e rm_5_2_3_115 s m _ below meth c s₁ [] 0 0 := Stand.of_body Bd
 have e0 : s₁.heap = h0 := by rw [← hh, Bd.state]; rfl
 have N0 := Fr.nil n0
 have K0 : Keep h0 h0 [x] := Keep.refl h0 [x]
 refine show own_G p e below (own_EN (Q_own_n1_1 Z x b v0 c_0 dv kC G1 c0 h0 n0) rm_5_2_3_115 #[(.ref x), (.ref b)] s) _ from ?_
 refine own_st (fun tq kq => castTop (ef_own_n1_1 m (x) (b)) kq) ?_
 show own_G p e below _ (s₁.setTop (mkF m 0 #[vR x, vR b] []))
 have hws0 : ∀ y ∈ [x], n0 ≤ y := allS gx all0
 refine s_aloadN X0 hx (hb hby dN1_0) rfl rfl ?_
 refine s_aloadN X0 hx (hb hby dN1_1) rfl rfl ?_
 refine s_iconst X0 hx (hb hby dN1_2) ?_
 refine s_aloadN X0 hx (hb hby dN1_3) rfl rfl ?_
 show own_G p e below _ (s₁.setTop (mkF m 4 #[vR x, vR b] [(.ref b), (.int 0), (.ref b), (.ref x)]))
 obtain ⟨cl1, Ar1, q1, S_1, N_1, H_1, G_1⟩ := id Vb
 refine own_st (fun tq kq => X0.arraylength hx (by rw [e0]; exact Ar1.1) (State.isArrayOf_alike hZ.alike Ar1.2.1) (g := (mkF m 4 #[vR x, vR b] [(.ref b), (.int 0), (.ref b), (.ref x)])) rfl rfl (hb hby dN1_4) _ kq) ?_
 rw [len_of S_1 N_1]
 show own_G p e below _ (s₁.setTop (mkF m 5 #[vR x, vR b] [(.int 1), (.int 0), (.ref b), (.ref x)]))
 refine own_st (fun tq kq => XS.aconstNull X0.here hx rfl (hb hby dN1_5) kq) ?_
 obtain ⟨_, _, ⟨T2, L2, k2, n2⟩, -, X2, ⟨Lc2, hQ2, l2, y2, z2⟩, st2⟩ := X0.specialBack hx (y := mN0) rfl hown (mvT hZ (wd8 hw)) (mvT hZ (wd9 hw)) (mvT hZ (wd11 hw)) (by decide) (own_backN (W := 0) (own_n4_1 l Z a0 hw [] (x) (b) (v0) (c_0) (dv) (kC) (G1) (c0) h0 n0 (by omega) (X00.keep K0 hws0) Ex Fv Fc gx ltx Vb O2 P5 OA OH OL hb0 hD) hZ (wd11 hw) (wd4 hw) (by decide) (by decide)) (g := (mkF m 6 #[vR x, vR b] [.null, (.int 1), (.int 0), (.ref b), (.ref x)])) rfl (by rw [hml]; rfl) (Steps.refl _) (a := x) (argsL := [(.ref b), (.int 0), (.int 1), .null]) (rest := []) (lenOf own_pd0 rfl) rfl (Nat.le_of_eq rfl) (hb hby dN1_6) (fun _ _ => ⟨rfl, e0, (by decide : 0 + 2 ≤ _), (by decide : 0 + 3 ≤ _)⟩)
 dsimp only [Pt.U, Pt.locs, Pt.cells, Pt.slots] at X2 l2 y2 z2 st2 hQ2
 subst l2 y2 z2
 obtain ⟨rfl, Nq2, Kq2, R2⟩ := hQ2
 have KK2 : Keep h0 T2.heap [x] := Kq2
 have sz2 : h0.size ≤ T2.heap.size := KK2.1
 have K2 : Keep h0 T2.heap [x] := K0.trans KK2 (allS (Or.inl (by simp)) all0)
 have N2 := Fr.app N0 Nq2
 refine own_st (fun tq kq => st2.trans kq) ?_
 obtain ⟨fs, hr, hrun, hended, hW, hsame⟩ := X2.leave (v := none) (fun _ => rfl)
 refine ⟨_, _, X2.returnOut hx Bd.returns (hb hby dN1_9) hr, hrun, hended, _, _, rfl, ?_, ⟨_, rfl⟩, hW, hsame.mono (by decide) (by decide)⟩
 change Q_own_n1_1 Z x b v0 c_0 dv kC G1 c0 h0 n0 _ T2.heap _; exact ⟨rfl, N2, K2, R2⟩

set_option maxRecDepth 65536 in
set_option maxHeartbeats 40000000 in
theorem own_newU1 {p : Program} {l : Launch} {e : Env} {R : Room} {s : State} {args : Array Value} {below : List Frame} {len W : Nat} {Z : State} {a0 : Array Value} {h : Heap} {vm0 : Vm} (hZ : Z.Warmed39 vm0) (hw : ∀ d ∈ tables_1, d.before a0 Z = true) (hEL : EW Z a0 consts_1) (H : CHv Z consts_1 vm0 h)
    {x b : Nat} {kC : ClassId} {c0 : Int32} {d v0 c_0 : Value} {z : Int32} {n0 : Nat} (hs : Safe Z consts_1 vm0 h x) (hx0 : n0 ≤ x) (X00 : Old Z n0 h) (E : Exa Z h x "java/lang/String") (V : Fld Z h x "java/lang/String" "value" "[B" v0) (F : Fld Z h x "java/lang/String" "coder" "B" c_0) (K : Arv Z h b kC .char (1 : Int32) [.int c0] d) (S : Sta Z Z.heap "java/lang/String" "COMPACT_STRINGS" "Z" (.int z)) (hz : ¬ z = 0) (OA : oA Z) (OH : oH Z) (OL : oL Z)
    (hp : ∀ c ∈ ([c0] : List Int32), ¬ c < 0 ∧ ¬ (65535 : Int32) < c) (hfr : 6 ≤ R.frames) (hlo : W + 128 ≤ R.locals) :
    BackS l R p e below (s.setVm vm0) args (⟨"java/lang/String", "<init>", "([C)V"⟩ : MethodName) len W (fun P a => a = #[.ref x, .ref b] ∧ P.U.heap = h ∧ P.cells + 2 ≤ R.cells ∧ P.slots + 7 ≤ R.slots)
      (fun P _ v B => ∃ L, own_QU Z x ([c0] : List Int32) h n0 v B.U.heap L ∧ B.locs = P.locs ++ L ∧ B.cells = P.cells + 2 ∧ B.slots = P.slots + 7 ∧ CHr Z consts_1 vm0 h B.U.vm B.U.heap) := by
  have hh0 : n0 ≤ h.size := by have := X00.1; have := X00.2.1; omega
  have key : (((255 : Int32) < c0)) ∨ (¬ (255 : Int32) < c0) := by
    by_cases hl0 : (255 : Int32) < c0
    · exact Or.inl (hl0)
    exact Or.inr hl0
  rcases key with hD | hL
  · have hex : ∃ c ∈ ([c0] : List Int32), 255 < c := ⟨c0, by simp, hD⟩
    intro m meth c P g ig mk a X hg hsize hdg hW hnn hp'
    obtain ⟨v, B, Y, ⟨L, hQ, e1, e2, e3⟩, st⟩ := own_backN (rm := rm_5_2_3_115) (R := R) (W := W) (s := s.setVm vm0) (own_n1_1 l Z a0 hw [] x b v0 c_0 d kC z c0 h n0 hh0 X00 E V F hx0 E.lt K S hz OA OH OL (hp _ (by simp)) hD) hZ (wd7 hw) (wd4 hw) (by show 5 + 1 ≤ _; omega) (by show W + (2 + 11) + 115 ≤ _; omega) m meth c P g ig mk a X hg hsize hdg hW hnn ⟨hp'.1, hp'.2.1, Nat.le_trans (by show _ + 2 ≤ _ + 2; exact Nat.le_refl _) hp'.2.2.1, Nat.le_trans (by show _ + 3 ≤ _ + 7; exact Nat.add_le_add_left (by decide) _) hp'.2.2.2⟩
    obtain ⟨BU, BL, Bc, Bs⟩ := B
    dsimp only [Pt.U, Pt.locs, Pt.cells, Pt.slots] at Y hQ e1 e2 e3 st
    obtain ⟨r1, r2, r3, t, kb, r5, r6, r7⟩ := hQ
    have hCH : CHr Z consts_1 vm0 h vm0 BU.heap := CHr.keep r3 (allS hs all0) H
    have Y2 : Stand p l e R (s.setVm vm0) m args below meth c BU BL (P.cells + 2) (P.slots + 7) := Y.mono (by rw [e2]; exact Nat.le_refl _) (by rw [e3]; exact Nat.add_le_add_left (by decide) _)
    refine ⟨v, ⟨BU, BL, P.cells + 2, P.slots + 7⟩, Y2.retabled Y2.warmed.wide, Y2.warmed.since _, ?_, ⟨L, ⟨r1, r2, r3, r5.lt, E.keep r3, hp, by simp, t, kb, 1, _, _, r7.lt, r5, r6, r7, Or.inr ⟨rfl, rfl, rfl, hex⟩⟩, e1, rfl, rfl, hCH.trans (CHv.at (s := s) (vm0 := vm0) Y2 hZ hEL hCH.1)⟩, st⟩
    show P.U.heap.size ≤ BU.heap.size
    rw [hp'.2.1]; exact r3.1
  have hl0 := hL
  have hp2 : ∀ c ∈ ([c0] : List Int32), ¬ c < 0 ∧ ¬ (255 : Int32) < c := by
    intro c hc
    simp only [List.mem_cons, List.not_mem_nil, or_false] at hc
    rcases hc with rfl
    · exact ⟨(hp _ (by simp)).1, hl0⟩
  intro m meth c P g ig mk a X hg hsize hdg hW hnn hp'
  obtain ⟨v, B, Y, q1, q2, ⟨L, hQ, e1, e2, e3, hc⟩, st⟩ := own_newStr (R := R) (W := W) (s := s) (vm0 := vm0) hZ hw hEL H (cs := ([c0] : List Int32)) (n := 1) (n0 := n0) hs hx0 X00 E V F K S hz rfl rfl (by decide) hp2 (by omega) (by omega) m meth c P g ig mk a X hg hsize hdg hW hnn ⟨hp'.1, hp'.2.1, hp'.2.2.1, Nat.le_trans (Nat.add_le_add_left (by decide) _) hp'.2.2.2⟩
  obtain ⟨BU, BL, Bc, Bs⟩ := B
  dsimp only [Pt.U, Pt.locs, Pt.cells, Pt.slots] at Y q1 q2 hQ e1 e2 e3 st hc
  have Y2 : Stand p l e R ((s.setVm vm0).setVm BU.vm) m args below meth c BU BL (P.cells + 2) (P.slots + 7) := Y.mono (by rw [e2]; exact Nat.le_refl _) (by rw [e3]; exact Nat.add_le_add_left (by decide) _)
  exact ⟨v, ⟨BU, BL, P.cells + 2, P.slots + 7⟩, Y2, q1, q2, ⟨L, ⟨hQ.1, hQ.2.1, hQ.2.2.1, hQ.2.2.2.toU⟩, e1, rfl, rfl, hc⟩, st⟩

def Q_own_ulen2 (Z : State) (t : Nat) (kb : ClassId) (vs : List Value) (h0 : Heap) (n0 : Nat) (v : Option Value) (h : Heap) (L : List Loc) : Prop := v = some (.int (2 : Int32)) ∧ Fr n0 L ∧ h = h0
theorem ef_own_ulen2 (m : MethodId) (x0 : Nat) : entryFrame m #[(.ref x0)] 1 = mkF m 0 #[.val (.ref x0)] [] := by first | (simp [entryFrame, mkF, argsToLocals, Value.category]; done) | rfl
theorem own_ulen2 (l : Launch) (Z : State) (a0 : Array Value) (hw : hWt a0 Z) (ws : List Jvm.Cond) (t : Nat) (kb : ClassId) (vs : List Value) (h0 : Heap) (n0 : Nat) (Z0 : n0 ≤ h0.size) (X00 : Old Z n0 h0) (Vt : Arv Z h0 t kb .byte (4 : Int32) vs (.int 0)) :
    MetFree l mN3 (head1 (Jvm.Cond.code mN3 jdk_52_method_6_code 1 (some .int) :: ws) rm_0_0_0_0) (fun av_ U => av_ = #[(.ref t)] ∧ Z.Warmed39 U.vm ∧ U.heap = h0) (fun _ _ _ _ _ => True) (own_EN (Q_own_ulen2 Z t kb vs h0 n0) rm_0_0_0_0) := by
 refine MetFree.of_bodySF (plainFor_of_name own_pn1) hisR ?_
 intro p e s m args below meth c s₁ Bd hml0 hP hK
 obtain ⟨rfl, hZ, hh⟩ := hP
 have hx := Bd.exec
 have hby := Bd.bytes
 have hml : c.maxLocals = 1 := hml0
 have hown : s.vm.findClass "java/lang/StringUTF16" = some m.cls := findClass_of_methodNamed Bd.named
 have X0 : Stand p l e rm_0_0_0_0 s m _ below meth c s₁ [] 0 0 := Stand.of_body Bd
 have e0 : s₁.heap = h0 := by rw [← hh, Bd.state]; rfl
 have N0 := Fr.nil n0
 have K0 : Keep h0 h0 [] := Keep.refl h0 []
 refine show own_G p e below (own_EN (Q_own_ulen2 Z t kb vs h0 n0) rm_0_0_0_0 #[(.ref t)] s) _ from ?_
 refine own_st (fun tq kq => castTop (ef_own_ulen2 m (t)) kq) ?_
 show own_G p e below _ (s₁.setTop (mkF m 0 #[vR t] []))
 refine s_aloadN X0 hx (hb hby dUL_0) rfl rfl ?_
 obtain ⟨cl1, Ar1, q1, S_1, N_1, H_1, G_1⟩ := id Vt
 refine own_st (fun tq kq => X0.arraylength hx (by rw [e0]; exact Ar1.1) (State.isArrayOf_alike hZ.alike Ar1.2.1) (g := (mkF m 1 #[vR t] [(.ref t)])) rfl rfl (hb hby dUL_1) _ kq) ?_
 rw [len_of S_1 N_1]
 show own_G p e below _ (s₁.setTop (mkF m 2 #[vR t] [(.int 4)]))
 refine s_iconst X0 hx (hb hby dUL_2) ?_
 refine own_st (fun tq kq => XS.ishr X0.here hx rfl (hb hby dUL_3) rfl kq) ?_
 show own_G p e below _ (s₁.setTop (mkF m 4 #[vR t] [(.int 2)]))
 obtain ⟨fs, hr, hrun, hended, hW, hsame⟩ := X0.leave (v := some (.int 2)) (fun h => by rw [Bd.returns] at h; cases h)
 refine ⟨_, _, retOut X0 hx Bd.returns rfl (Or.inl ⟨rfl, by simp, _, rfl⟩) (hb hby dUL_4) hr, hrun, hended, _, _, rfl, ?_, ⟨_, rfl⟩, hW, hsame.mono (by decide) (by decide)⟩
 change Q_own_ulen2 Z t kb vs h0 n0 _ s₁.heap _; rw [e0]; exact ⟨rfl, N0, rfl⟩

def Q_own_nlen2 (Z : State)  (h0 : Heap) (n0 : Nat) (v : Option Value) (h : Heap) (L : List Loc) : Prop := v = some (.int (4 : Int32)) ∧ Fr n0 L ∧ h = h0
theorem ef_own_nlen2 (m : MethodId)  : entryFrame m #[(.int 2)] 1 = mkF m 0 #[.val (.int 2)] [] := by first | (simp [entryFrame, mkF, argsToLocals, Value.category]; done) | rfl
theorem own_nlen2 (l : Launch) (Z : State) (a0 : Array Value) (hw : hWt a0 Z) (ws : List Jvm.Cond)  (h0 : Heap) (n0 : Nat) (Z0 : n0 ≤ h0.size) (X00 : Old Z n0 h0)  :
    MetFree l mN4 (head1 (Jvm.Cond.code mN4 jdk_52_method_3_code 1 (some .int) :: ws) rm_0_0_0_0) (fun av_ U => av_ = #[(.int 2)] ∧ Z.Warmed39 U.vm ∧ U.heap = h0) (fun _ _ _ _ _ => True) (own_EN (Q_own_nlen2 Z  h0 n0) rm_0_0_0_0) := by
 refine MetFree.of_bodySF (plainFor_of_name own_pn1) hisR ?_
 intro p e s m args below meth c s₁ Bd hml0 hP hK
 obtain ⟨rfl, hZ, hh⟩ := hP
 have hx := Bd.exec
 have hby := Bd.bytes
 have hml : c.maxLocals = 1 := hml0
 have hown : s.vm.findClass "java/lang/StringUTF16" = some m.cls := findClass_of_methodNamed Bd.named
 have X0 : Stand p l e rm_0_0_0_0 s m _ below meth c s₁ [] 0 0 := Stand.of_body Bd
 have e0 : s₁.heap = h0 := by rw [← hh, Bd.state]; rfl
 have N0 := Fr.nil n0
 have K0 : Keep h0 h0 [] := Keep.refl h0 []
 refine show own_G p e below (own_EN (Q_own_nlen2 Z  h0 n0) rm_0_0_0_0 #[(.int 2)] s) _ from ?_
 refine own_st (fun tq kq => castTop (ef_own_nlen2 m ) kq) ?_
 show own_G p e below _ (s₁.setTop (mkF m 0 #[vI 2] []))
 refine s_iloadN X0 hx (hb hby dNL_0) rfl ?_
 show own_G p e below _ (s₁.setTop (mkF m 1 #[vI 2] [(.int 2)]))
 refine own_st (fun tq kq => XS.ifYes X0.here hx rfl (pc0 := 1) (pc' := 12) rfl (hb hby dNL_1) rfl ((if0 _ _).trans (flt (by decide : ¬ ((2 : Int32) < (0 : Int32)))).2.1) (by decide) (by decide) kq) ?_
 refine s_iloadN X0 hx (hb hby dNL_12) rfl ?_
 refine own_st (fun tq kq => X0.ldcInt hx hown (mvT hZ (wd83 hw)) (g := (mkF m 13 #[vI 2] [(.int 2)])) rfl (hb hby dNL_13) _ kq) ?_
 show own_G p e below _ (s₁.setTop (mkF m 15 #[vI 2] [(.int 1073741823), (.int 2)]))
 refine own_st (fun tq kq => XS.icmpYes X0.here hx rfl (pc0 := 15) (pc' := 55) rfl (hb hby dNL_15) rfl (tlt (by decide : ((2 : Int32) < (1073741823 : Int32)))).1 (by decide) (by decide) kq) ?_
 refine s_iloadN X0 hx (hb hby dNL_55) rfl ?_
 refine s_iconst X0 hx (hb hby dNL_56) ?_
 refine own_st (fun tq kq => XS.ishl X0.here hx rfl (hb hby dNL_57) rfl kq) ?_
 show own_G p e below _ (s₁.setTop (mkF m 58 #[vI 2] [(.int 4)]))
 obtain ⟨fs, hr, hrun, hended, hW, hsame⟩ := X0.leave (v := some (.int 4)) (fun h => by rw [Bd.returns] at h; cases h)
 refine ⟨_, _, retOut X0 hx Bd.returns rfl (Or.inl ⟨rfl, by simp, _, rfl⟩) (hb hby dNL_58) hr, hrun, hended, _, _, rfl, ?_, ⟨_, rfl⟩, hW, hsame.mono (by decide) (by decide)⟩
 change Q_own_nlen2 Z  h0 n0 _ s₁.heap _; rw [e0]; exact ⟨rfl, N0, rfl⟩

def Q_own_nfor2 (Z : State)  (h0 : Heap) (n0 : Nat) (v : Option Value) (h : Heap) (L : List Loc) : Prop := ∃ (t : Nat) (kb : ClassId), v = some (.ref t) ∧ Fr n0 L ∧ Keep h0 h [] ∧ h0.size ≤ t ∧ t < h.size ∧ Arv Z h t kb .byte (4 : Int32) [.int (0 : Int32), .int (0 : Int32), .int (0 : Int32), .int (0 : Int32)] (.int 0)
theorem ef_own_nfor2 (m : MethodId)  : entryFrame m #[(.int 2)] 1 = mkF m 0 #[.val (.int 2)] [] := by first | (simp [entryFrame, mkF, argsToLocals, Value.category]; done) | rfl
theorem own_nfor2 (l : Launch) (Z : State) (a0 : Array Value) (hw : hWt a0 Z) (ws : List Jvm.Cond)  (h0 : Heap) (n0 : Nat) (Z0 : n0 ≤ h0.size) (X00 : Old Z n0 h0)  :
    MetFree l mN5 (head1 (Jvm.Cond.code mN5 jdk_52_method_2_code 1 (some (.array .byte)) :: ws) rm_1_1_4_14) (fun av_ U => av_ = #[(.int 2)] ∧ Z.Warmed39 U.vm ∧ U.heap = h0) (fun _ _ _ _ _ => True) (own_EN (Q_own_nfor2 Z  h0 n0) rm_1_1_4_14) := by
 refine MetFree.of_bodySF (plainFor_of_name own_pn1) hisR ?_
 intro p e s m args below meth c s₁ Bd hml0 hP hK
 obtain ⟨rfl, hZ, hh⟩ := hP
 have hx := Bd.exec
 have hby := Bd.bytes
 have hml : c.maxLocals = 1 := hml0
 have hown : s.vm.findClass "java/lang/StringUTF16" = some m.cls := findClass_of_methodNamed Bd.named
 have X0 : Stand p l e rm_1_1_4_14 s m _ below meth c s₁ [] 0 0 := Stand.of_body Bd
 have e0 : s₁.heap = h0 := by rw [← hh, Bd.state]; rfl
 have N0 := Fr.nil n0
 have K0 : Keep h0 h0 [] := Keep.refl h0 []
 refine show own_G p e below (own_EN (Q_own_nfor2 Z  h0 n0) rm_1_1_4_14 #[(.int 2)] s) _ from ?_
 refine own_st (fun tq kq => castTop (ef_own_nfor2 m ) kq) ?_
 show own_G p e below _ (s₁.setTop (mkF m 0 #[vI 2] []))
 refine s_iloadN X0 hx (hb hby dNF_0) rfl ?_
 obtain ⟨_, _, ⟨T1, L1, k1, n1⟩, -, X1, ⟨Lc1, hQ1, l1, y1, z1⟩, st1⟩ := Jvm.LawKit.callS X0 hx (y := mN4) hown (mvT hZ (wd80 hw)) (mvT hZ (wd81 hw)) (mvT hZ (wd40 hw)) (mvT hZ (wd82 hw)) (by decide) (own_backN (W := 0) (own_nlen2 l Z a0 hw []  h0 n0 (by omega) (X00.keep K0 all0) ) hZ (wd82 hw) (wd40 hw) (by decide) (by decide)) (g := (mkF m 1 #[vI 2] [(.int 2)])) rfl (by rw [hml]; rfl) (argsL := [(.int 2)]) (rest := []) (lenOf own_pd1 rfl) rfl (Nat.le_of_eq rfl) (hb hby dNF_1) (fun _ _ => ⟨rfl, e0, (by decide : 0 + 0 ≤ _), (by decide : 0 + 0 ≤ _)⟩)
 dsimp only [Pt.U, Pt.locs, Pt.cells, Pt.slots] at X1 l1 y1 z1 st1 hQ1
 subst l1 y1 z1
 obtain ⟨rfl, Nq1, sm1⟩ := hQ1
 have N1 := Fr.app N0 Nq1
 refine own_st st1 ?_
 obtain ⟨T2, h2, k2, X2, e2, E2, A2, st2⟩ := newP X1 hx hZ (hw _ (List.mem_of_getElem? (i := 16) rfl)) sm1 (g := (mkF m 4 #[vI 2] [(.int 4)])) rfl (hb hby dNF_4) rfl (by decide) (cap := 4) (by decide) (by decide) (by decide) (by decide)
 obtain ⟨b2, g2⟩ : ∃ z, z = h0.size := ⟨_, rfl⟩
 rw [← g2] at A2 st2
 have lt2 : b2 < h2.size := A2.lt
 have V2 : Arv Z h2 b2 k2 .byte (4 : Int32) [(.int (0 : Int32)), (.int (0 : Int32)), (.int (0 : Int32)), (.int (0 : Int32))] (.int (0 : Int32)) := (Arv.new A2 (by decide)).pad (pad_rep [] (.int (0 : Int32)) 4)
 have sz2 : h0.size ≤ h2.size := E2.1
 have K2 : Keep h0 h2 [] := K0.ext E2
 refine own_st st2 ?_
 obtain ⟨fs, hr, hrun, hended, hW, hsame⟩ := X2.leave (v := some (.ref b2)) (fun h => by rw [Bd.returns] at h; cases h)
 refine ⟨_, _, retOut X2 hx Bd.returns rfl (Or.inr (Or.inr (Or.inr (Or.inr ⟨rfl, rfl, rfl⟩)))) (hb hby dNF_6) hr, hrun, hended, _, _, rfl, ?_, ⟨_, rfl⟩, hW, hsame.mono (by decide) (by decide)⟩
 change Q_own_nfor2 Z  h0 n0 _ T2.heap _; rw [e2]; exact ⟨b2, _, rfl, N1, K2, (by omega), (by omega), V2⟩

def Q_own_put2_0 (Z : State) (t : Nat) (kb : ClassId) (ch : Int32) (bt0 bt1 bt2 bt3 : Int32) (h0 : Heap) (n0 : Nat) (v : Option Value) (h : Heap) (L : List Loc) : Prop := v = none ∧ Fr n0 L ∧ Keep h0 h [t] ∧ Arv Z h t kb .byte (4 : Int32) [.int (L8 ch), .int (H8 ch), .int bt2, .int bt3] (.int 0)
theorem ef_own_put2_0 (m : MethodId) (x0 : Nat) (x2 : Int32) : entryFrame m #[(.ref x0), (.int 0), (.int x2)] 3 = mkF m 0 #[.val (.ref x0), .val (.int 0), .val (.int x2)] [] := by first | (simp [entryFrame, mkF, argsToLocals, Value.category]; done) | rfl
theorem own_put2_0 (l : Launch) (Z : State) (a0 : Array Value) (hw : hWt a0 Z) (ws : List Jvm.Cond) (t : Nat) (kb : ClassId) (ch : Int32) (bt0 bt1 bt2 bt3 : Int32) (h0 : Heap) (n0 : Nat) (Z0 : n0 ≤ h0.size) (X00 : Old Z n0 h0) (OA : oA Z) (OH : oH Z) (OL : oL Z) (Vt : Arv Z h0 t kb .byte (4 : Int32) [.int bt0, .int bt1, .int bt2, .int bt3] (.int 0)) (gt : n0 ≤ t) :
    MetFree l mN6 (head1 (Jvm.Cond.code mN6 jdk_52_method_4_code 3 none :: ws) rm_0_0_0_0) (fun av_ U => av_ = #[(.ref t), (.int 0), (.int ch)] ∧ Z.Warmed39 U.vm ∧ U.heap = h0) (fun _ _ _ _ _ => True) (own_EN (Q_own_put2_0 Z t kb ch bt0 bt1 bt2 bt3 h0 n0) rm_0_0_0_0) := by
 refine MetFree.of_bodySF (plainFor_of_name own_pn1) hisR ?_
 intro p e s m args below meth c s₁ Bd hml0 hP hK
 obtain ⟨rfl, hZ, hh⟩ := hP
 have hx := Bd.exec
 have hby := Bd.bytes
 have hml : c.maxLocals = 3 := hml0
 have hown : s.vm.findClass "java/lang/StringUTF16" = some m.cls := findClass_of_methodNamed Bd.named
 have X0 : Stand p l e rm_0_0_0_0 s m _ below meth c s₁ [] 0 0 := Stand.of_body Bd
 have e0 : s₁.heap = h0 := by rw [← hh, Bd.state]; rfl
 have N0 := Fr.nil n0
 have K0 : Keep h0 h0 [t] := Keep.refl h0 [t]
 refine show own_G p e below (own_EN (Q_own_put2_0 Z t kb ch bt0 bt1 bt2 bt3 h0 n0) rm_0_0_0_0 #[(.ref t), (.int 0), (.int ch)] s) _ from ?_
 refine own_st (fun tq kq => castTop (ef_own_put2_0 m (t) (ch)) kq) ?_
 show own_G p e below _ (s₁.setTop (mkF m 0 #[vR t, vI 0, vI ch] []))
 have hws0 : ∀ y ∈ [t], n0 ≤ y := allS gt all0
 obtain ⟨T1, X1, e1, st1⟩ := getS2 X0 hx hZ hown (host := "") (Or.inl (wd87 hw)) Via.refl e0 (OA.ext (X00.keep K0 hws0).2) (g := (mkF m 0 #[vR t, vI 0, vI ch] [])) rfl (hb hby dPU_0)
 refine own_st st1 ?_
 refine own_st (fun tq kq => XS.ifYes X1.here hx rfl (pc0 := 3) (pc' := 28) rfl (hb hby dPU_3) rfl ((if0 _ _).trans (feq (by decide : ¬ ((1 : Int32) = (0 : Int32)))).2) (by decide) (by decide) kq) ?_
 refine s_iloadN X1 hx (hb hby dPU_28) rfl ?_
 refine s_iconst X1 hx (hb hby dPU_29) ?_
 refine own_st (fun tq kq => XS.ishl X1.here hx rfl (hb hby dPU_30) rfl kq) ?_
 show own_G p e below _ (T1.setTop (mkF m 31 #[vR t, vI 0, vI ch] [(.int 0)]))
 refine own_st (fun tq kq => XS.istoreN X1.here hx rfl (hb hby dPU_31) rfl (l' := #[vR t, vI 0, vI ch]) rfl kq) ?_
 refine s_aloadN X1 hx (hb hby dPU_32) rfl rfl ?_
 refine s_iloadN X1 hx (hb hby dPU_33) rfl ?_
 refine own_st (fun tq kq => XS.iinc X1.here hx rfl (hb hby dPU_34) rfl (l' := #[vR t, vI 1, vI ch]) rfl kq) ?_
 show own_G p e below _ (T1.setTop (mkF m 37 #[vR t, vI 1, vI ch] [(.int 0), (.ref t)]))
 refine s_iloadN X1 hx (hb hby dPU_37) rfl ?_
 obtain ⟨T2, X2, e2, st2⟩ := getS2 X1 hx hZ hown (host := "") (Or.inl (wd88 hw)) Via.refl e1 (OH.ext (X00.keep K0 hws0).2) (g := (mkF m 38 #[vR t, vI 1, vI ch] [(.int ch), (.int 0), (.ref t)])) rfl (hb hby dPU_38)
 refine own_st st2 ?_
 refine own_st (fun tq kq => XS.ishr X2.here hx rfl (hb hby dPU_41) rfl kq) ?_
 refine own_st (fun tq kq => XS.i2b X2.here hx rfl (hb hby dPU_42) rfl kq) ?_
 obtain ⟨cl3, Ar3, q3, S_3, N_3, H_3, G_3⟩ := id Vt
 have in3 : ¬ ((0 : Int32) < 0 ∨ cl3.slots.size ≤ ((0 : Int32)).toNatClampNeg) := inb_of S_3 ⟨by decide, by decide⟩
 obtain ⟨T3, h3, X3, e3, W3, st3⟩ := stB X2 hx hZ e2 Ar3 (j := (0 : Int32)) in3 (g := (mkF m 43 #[vR t, vI 1, vI ch] [(.int ((ch >>> ((0 : Int32) &&& 31)).toInt8.toInt32)), (.int 0), (.ref t)])) rfl rfl (hb hby dPU_43)
 have V3 := Arv.set Ar3 q3 S_3 N_3 H_3 G_3 (fits_nar_byte _) W3 0 rfl (Nat.le_of_ble_eq_true rfl)
 have sz3 : h0.size ≤ h3.size := (Keep.of_wr W3).1
 have K3 : Keep h0 h3 [t] := K0.wr W3 (Or.inl (by simp))
 have N3 := Fr.snoc X3 N0 (own_le (by omega))
 refine own_st st3 ?_
 refine s_aloadN X3 hx (hb hby dPU_44) rfl rfl ?_
 refine s_iloadN X3 hx (hb hby dPU_45) rfl ?_
 refine s_iloadN X3 hx (hb hby dPU_46) rfl ?_
 obtain ⟨T4, X4, e4, st4⟩ := getS2 X3 hx hZ hown (host := "") (Or.inl (wd89 hw)) Via.refl e3 (OL.ext (X00.keep K3 hws0).2) (g := (mkF m 47 #[vR t, vI 1, vI ch] [(.int ch), (.int 1), (.ref t)])) rfl (hb hby dPU_47)
 refine own_st st4 ?_
 refine own_st (fun tq kq => XS.ishr X4.here hx rfl (hb hby dPU_50) rfl kq) ?_
 refine own_st (fun tq kq => XS.i2b X4.here hx rfl (hb hby dPU_51) rfl kq) ?_
 obtain ⟨cl5, Ar5, q5, S_5, N_5, H_5, G_5⟩ := id V3
 have in5 : ¬ ((1 : Int32) < 0 ∨ cl5.slots.size ≤ ((1 : Int32)).toNatClampNeg) := inb_of S_5 ⟨by decide, by decide⟩
 obtain ⟨T5, h5, X5, e5, W5, st5⟩ := stB X4 hx hZ e4 Ar5 (j := (1 : Int32)) in5 (g := (mkF m 52 #[vR t, vI 1, vI ch] [(.int ((ch >>> ((8 : Int32) &&& 31)).toInt8.toInt32)), (.int 1), (.ref t)])) rfl rfl (hb hby dPU_52)
 have V5 := Arv.set Ar5 q5 S_5 N_5 H_5 G_5 (fits_nar_byte _) W5 1 rfl (Nat.le_of_ble_eq_true rfl)
 have sz5 : h3.size ≤ h5.size := (Keep.of_wr W5).1
 have K5 : Keep h0 h5 [t] := K3.wr W5 (Or.inl (by simp))
 have N5 := Fr.snoc X5 N3 (own_le (by omega))
 refine own_st st5 ?_
 obtain ⟨fs, hr, hrun, hended, hW, hsame⟩ := X5.leave (v := none) (fun _ => rfl)
 refine ⟨_, _, X5.returnOut hx Bd.returns (hb hby dPU_53) hr, hrun, hended, _, _, rfl, ?_, ⟨_, rfl⟩, hW, hsame.mono (by decide) (by decide)⟩
 change Q_own_put2_0 Z t kb ch bt0 bt1 bt2 bt3 h0 n0 _ T5.heap _; rw [e5]; exact ⟨rfl, N5, K5, (by have q : Arv Z _ t kb .byte (4 : Int32) [.int (nar .byte ((ch >>> ((0 : Int32) &&& 31)).toInt8.toInt32)), .int (nar .byte ((ch >>> ((8 : Int32) &&& 31)).toInt8.toInt32)), .int bt2, .int bt3] (.int 0) := V5; rwa [own_pb0, own_pb8] at q)⟩

def Q_own_put2_1 (Z : State) (t : Nat) (kb : ClassId) (ch : Int32) (bt0 bt1 bt2 bt3 : Int32) (h0 : Heap) (n0 : Nat) (v : Option Value) (h : Heap) (L : List Loc) : Prop := v = none ∧ Fr n0 L ∧ Keep h0 h [t] ∧ Arv Z h t kb .byte (4 : Int32) [.int bt0, .int bt1, .int (L8 ch), .int (H8 ch)] (.int 0)
theorem ef_own_put2_1 (m : MethodId) (x0 : Nat) (x2 : Int32) : entryFrame m #[(.ref x0), (.int 1), (.int x2)] 3 = mkF m 0 #[.val (.ref x0), .val (.int 1), .val (.int x2)] [] := by first | (simp [entryFrame, mkF, argsToLocals, Value.category]; done) | rfl
theorem own_put2_1 (l : Launch) (Z : State) (a0 : Array Value) (hw : hWt a0 Z) (ws : List Jvm.Cond) (t : Nat) (kb : ClassId) (ch : Int32) (bt0 bt1 bt2 bt3 : Int32) (h0 : Heap) (n0 : Nat) (Z0 : n0 ≤ h0.size) (X00 : Old Z n0 h0) (OA : oA Z) (OH : oH Z) (OL : oL Z) (Vt : Arv Z h0 t kb .byte (4 : Int32) [.int bt0, .int bt1, .int bt2, .int bt3] (.int 0)) (gt : n0 ≤ t) :
    MetFree l mN6 (head1 (Jvm.Cond.code mN6 jdk_52_method_4_code 3 none :: ws) rm_0_0_0_0) (fun av_ U => av_ = #[(.ref t), (.int 1), (.int ch)] ∧ Z.Warmed39 U.vm ∧ U.heap = h0) (fun _ _ _ _ _ => True) (own_EN (Q_own_put2_1 Z t kb ch bt0 bt1 bt2 bt3 h0 n0) rm_0_0_0_0) := by
 refine MetFree.of_bodySF (plainFor_of_name own_pn1) hisR ?_
 intro p e s m args below meth c s₁ Bd hml0 hP hK
 obtain ⟨rfl, hZ, hh⟩ := hP
 have hx := Bd.exec
 have hby := Bd.bytes
 have hml : c.maxLocals = 3 := hml0
 have hown : s.vm.findClass "java/lang/StringUTF16" = some m.cls := findClass_of_methodNamed Bd.named
 have X0 : Stand p l e rm_0_0_0_0 s m _ below meth c s₁ [] 0 0 := Stand.of_body Bd
 have e0 : s₁.heap = h0 := by rw [← hh, Bd.state]; rfl
 have N0 := Fr.nil n0
 have K0 : Keep h0 h0 [t] := Keep.refl h0 [t]
 refine show own_G p e below (own_EN (Q_own_put2_1 Z t kb ch bt0 bt1 bt2 bt3 h0 n0) rm_0_0_0_0 #[(.ref t), (.int 1), (.int ch)] s) _ from ?_
 refine own_st (fun tq kq => castTop (ef_own_put2_1 m (t) (ch)) kq) ?_
 show own_G p e below _ (s₁.setTop (mkF m 0 #[vR t, vI 1, vI ch] []))
 have hws0 : ∀ y ∈ [t], n0 ≤ y := allS gt all0
 obtain ⟨T1, X1, e1, st1⟩ := getS2 X0 hx hZ hown (host := "") (Or.inl (wd87 hw)) Via.refl e0 (OA.ext (X00.keep K0 hws0).2) (g := (mkF m 0 #[vR t, vI 1, vI ch] [])) rfl (hb hby dPU_0)
 refine own_st st1 ?_
 refine own_st (fun tq kq => XS.ifYes X1.here hx rfl (pc0 := 3) (pc' := 28) rfl (hb hby dPU_3) rfl ((if0 _ _).trans (feq (by decide : ¬ ((1 : Int32) = (0 : Int32)))).2) (by decide) (by decide) kq) ?_
 refine s_iloadN X1 hx (hb hby dPU_28) rfl ?_
 refine s_iconst X1 hx (hb hby dPU_29) ?_
 refine own_st (fun tq kq => XS.ishl X1.here hx rfl (hb hby dPU_30) rfl kq) ?_
 show own_G p e below _ (T1.setTop (mkF m 31 #[vR t, vI 1, vI ch] [(.int 2)]))
 refine own_st (fun tq kq => XS.istoreN X1.here hx rfl (hb hby dPU_31) rfl (l' := #[vR t, vI 2, vI ch]) rfl kq) ?_
 refine s_aloadN X1 hx (hb hby dPU_32) rfl rfl ?_
 refine s_iloadN X1 hx (hb hby dPU_33) rfl ?_
 refine own_st (fun tq kq => XS.iinc X1.here hx rfl (hb hby dPU_34) rfl (l' := #[vR t, vI 3, vI ch]) rfl kq) ?_
 show own_G p e below _ (T1.setTop (mkF m 37 #[vR t, vI 3, vI ch] [(.int 2), (.ref t)]))
 refine s_iloadN X1 hx (hb hby dPU_37) rfl ?_
 obtain ⟨T2, X2, e2, st2⟩ := getS2 X1 hx hZ hown (host := "") (Or.inl (wd88 hw)) Via.refl e1 (OH.ext (X00.keep K0 hws0).2) (g := (mkF m 38 #[vR t, vI 3, vI ch] [(.int ch), (.int 2), (.ref t)])) rfl (hb hby dPU_38)
 refine own_st st2 ?_
 refine own_st (fun tq kq => XS.ishr X2.here hx rfl (hb hby dPU_41) rfl kq) ?_
 refine own_st (fun tq kq => XS.i2b X2.here hx rfl (hb hby dPU_42) rfl kq) ?_
 obtain ⟨cl3, Ar3, q3, S_3, N_3, H_3, G_3⟩ := id Vt
 have in3 : ¬ ((2 : Int32) < 0 ∨ cl3.slots.size ≤ ((2 : Int32)).toNatClampNeg) := inb_of S_3 ⟨by decide, by decide⟩
 obtain ⟨T3, h3, X3, e3, W3, st3⟩ := stB X2 hx hZ e2 Ar3 (j := (2 : Int32)) in3 (g := (mkF m 43 #[vR t, vI 3, vI ch] [(.int ((ch >>> ((0 : Int32) &&& 31)).toInt8.toInt32)), (.int 2), (.ref t)])) rfl rfl (hb hby dPU_43)
 have V3 := Arv.set Ar3 q3 S_3 N_3 H_3 G_3 (fits_nar_byte _) W3 2 rfl (Nat.le_of_ble_eq_true rfl)
 have sz3 : h0.size ≤ h3.size := (Keep.of_wr W3).1
 have K3 : Keep h0 h3 [t] := K0.wr W3 (Or.inl (by simp))
 have N3 := Fr.snoc X3 N0 (own_le (by omega))
 refine own_st st3 ?_
 refine s_aloadN X3 hx (hb hby dPU_44) rfl rfl ?_
 refine s_iloadN X3 hx (hb hby dPU_45) rfl ?_
 refine s_iloadN X3 hx (hb hby dPU_46) rfl ?_
 obtain ⟨T4, X4, e4, st4⟩ := getS2 X3 hx hZ hown (host := "") (Or.inl (wd89 hw)) Via.refl e3 (OL.ext (X00.keep K3 hws0).2) (g := (mkF m 47 #[vR t, vI 3, vI ch] [(.int ch), (.int 3), (.ref t)])) rfl (hb hby dPU_47)
 refine own_st st4 ?_
 refine own_st (fun tq kq => XS.ishr X4.here hx rfl (hb hby dPU_50) rfl kq) ?_
 refine own_st (fun tq kq => XS.i2b X4.here hx rfl (hb hby dPU_51) rfl kq) ?_
 obtain ⟨cl5, Ar5, q5, S_5, N_5, H_5, G_5⟩ := id V3
 have in5 : ¬ ((3 : Int32) < 0 ∨ cl5.slots.size ≤ ((3 : Int32)).toNatClampNeg) := inb_of S_5 ⟨by decide, by decide⟩
 obtain ⟨T5, h5, X5, e5, W5, st5⟩ := stB X4 hx hZ e4 Ar5 (j := (3 : Int32)) in5 (g := (mkF m 52 #[vR t, vI 3, vI ch] [(.int ((ch >>> ((8 : Int32) &&& 31)).toInt8.toInt32)), (.int 3), (.ref t)])) rfl rfl (hb hby dPU_52)
 have V5 := Arv.set Ar5 q5 S_5 N_5 H_5 G_5 (fits_nar_byte _) W5 3 rfl (Nat.le_of_ble_eq_true rfl)
 have sz5 : h3.size ≤ h5.size := (Keep.of_wr W5).1
 have K5 : Keep h0 h5 [t] := K3.wr W5 (Or.inl (by simp))
 have N5 := Fr.snoc X5 N3 (own_le (by omega))
 refine own_st st5 ?_
 obtain ⟨fs, hr, hrun, hended, hW, hsame⟩ := X5.leave (v := none) (fun _ => rfl)
 refine ⟨_, _, X5.returnOut hx Bd.returns (hb hby dPU_53) hr, hrun, hended, _, _, rfl, ?_, ⟨_, rfl⟩, hW, hsame.mono (by decide) (by decide)⟩
 change Q_own_put2_1 Z t kb ch bt0 bt1 bt2 bt3 h0 n0 _ T5.heap _; rw [e5]; exact ⟨rfl, N5, K5, (by have q : Arv Z _ t kb .byte (4 : Int32) [.int bt0, .int bt1, .int (nar .byte ((ch >>> ((0 : Int32) &&& 31)).toInt8.toInt32)), .int (nar .byte ((ch >>> ((8 : Int32) &&& 31)).toInt8.toInt32))] (.int 0) := V5; rwa [own_pb0, own_pb8] at q)⟩

def Q_own_toB2 (Z : State) (b : Nat) (kC : ClassId) (dv : Value) (c0 c1 : Int32) (h0 : Heap) (n0 : Nat) (v : Option Value) (h : Heap) (L : List Loc) : Prop := ∃ (t : Nat) (kb : ClassId), v = some (.ref t) ∧ Fr n0 L ∧ Keep h0 h [] ∧ h0.size ≤ t ∧ t < h.size ∧ Arv Z h t kb .byte (4 : Int32) [.int (L8 c0), .int (H8 c0), .int (L8 c1), .int (H8 c1)] (.int 0)
theorem ef_own_toB2 (m : MethodId) (x0 : Nat) : entryFrame m #[(.ref x0), (.int 0), (.int 2)] 5 = mkF m 0 #[.val (.ref x0), .val (.int 0), .val (.int 2), .unset, .unset] [] := by first | (simp [entryFrame, mkF, argsToLocals, Value.category]; done) | rfl
theorem own_toB2 (l : Launch) (Z : State) (a0 : Array Value) (hw : hWt a0 Z) (ws : List Jvm.Cond) (b : Nat) (kC : ClassId) (dv : Value) (c0 c1 : Int32) (h0 : Heap) (n0 : Nat) (Z0 : n0 ≤ h0.size) (X00 : Old Z n0 h0) (OA : oA Z) (OH : oH Z) (OL : oL Z) (Vb : Arv Z h0 b kC .char (2 : Int32) [.int c0, .int c1] dv) :
    MetFree l mN7 (head1 (Jvm.Cond.code mN7 jdk_52_method_14_code 5 (some (.array .byte)) :: ws) rm_2_1_4_40) (fun av_ U => av_ = #[(.ref b), (.int 0), (.int 2)] ∧ Z.Warmed39 U.vm ∧ U.heap = h0) (fun _ _ _ _ _ => True) (own_EN (Q_own_toB2 Z b kC dv c0 c1 h0 n0) rm_2_1_4_40) := by
 refine MetFree.of_bodySF (plainFor_of_name own_pn1) hisR ?_
 intro p e s m args below meth c s₁ Bd hml0 hP hK
 obtain ⟨rfl, hZ, hh⟩ := hP
 have hx := Bd.exec
 have hby := Bd.bytes
 have hml : c.maxLocals = 5 := hml0
 have hown : s.vm.findClass "java/lang/StringUTF16" = some m.cls := findClass_of_methodNamed Bd.named
 have X0 : Stand p l e rm_2_1_4_40 s m _ below meth c s₁ [] 0 0 := Stand.of_body Bd
 have e0 : s₁.heap = h0 := by rw [← hh, Bd.state]; rfl
 have N0 := Fr.nil n0
 have K0 : Keep h0 h0 [] := Keep.refl h0 []
 refine show own_G p e below (own_EN (Q_own_toB2 Z b kC dv c0 c1 h0 n0) rm_2_1_4_40 #[(.ref b), (.int 0), (.int 2)] s) _ from ?_
 refine own_st (fun tq kq => castTop (ef_own_toB2 m (b)) kq) ?_
 show own_G p e below _ (s₁.setTop (mkF m 0 #[vR b, vI 0, vI 2, .unset, .unset] []))
 have ltb : b < h0.size := Vb.lt
 refine s_iloadN X0 hx (hb hby dTO_0) rfl ?_
 obtain ⟨_, _, ⟨T1, L1, k1, n1⟩, -, X1, ⟨Lc1, hQ1, l1, y1, z1⟩, st1⟩ := Jvm.LawKit.callS X0 hx (y := mN5) hown (mvT hZ (wd77 hw)) (mvT hZ (wd78 hw)) (mvT hZ (wd40 hw)) (mvT hZ (wd79 hw)) (by decide) (own_backN (W := 0) (own_nfor2 l Z a0 hw []  h0 n0 (by omega) (X00.keep K0 all0) ) hZ (wd79 hw) (wd40 hw) (by decide) (by decide)) (g := (mkF m 1 #[vR b, vI 0, vI 2, .unset, .unset] [(.int 2)])) rfl (by rw [hml]; rfl) (argsL := [(.int 2)]) (rest := []) (lenOf own_pd2 rfl) rfl (Nat.le_of_eq rfl) (hb hby dTO_1) (fun _ _ => ⟨rfl, e0, (by decide : 0 + 1 ≤ _), (by decide : 0 + 4 ≤ _)⟩)
 dsimp only [Pt.U, Pt.locs, Pt.cells, Pt.slots] at X1 l1 y1 z1 st1 hQ1
 subst l1 y1 z1
 obtain ⟨t1, kb1, rfl, Nq1, Kq1, gt1, lt1, Vt1⟩ := hQ1
 have KK1 : Keep h0 T1.heap [] := Kq1
 have sz1 : h0.size ≤ T1.heap.size := KK1.1
 have K1 : Keep h0 T1.heap [] := K0.trans KK1 all0
 have N1 := Fr.app N0 Nq1
 refine own_st st1 ?_
 refine own_st (fun tq kq => XS.astoreN X1.here hx rfl (hb hby dTO_4) rfl rfl (l' := #[vR b, vI 0, vI 2, vR t1, .unset]) rfl kq) ?_
 refine s_iconst X1 hx (hb hby dTO_5) ?_
 refine own_st (fun tq kq => XS.istore X1.here hx rfl (hb hby dTO_6) rfl (l' := #[vR b, vI 0, vI 2, vR t1, vI 0]) rfl kq) ?_
 refine s_iload X1 hx (hb hby dTO_8) rfl ?_
 show own_G p e below _ (T1.setTop (mkF m 10 #[vR b, vI 0, vI 2, vR t1, vI 0] [(.int 0)]))
 refine s_iloadN X1 hx (hb hby dTO_10) rfl ?_
 show own_G p e below _ (T1.setTop (mkF m 11 #[vR b, vI 0, vI 2, vR t1, vI 0] [(.int 2), (.int 0)]))
 refine own_st (fun tq kq => XS.icmpNo X1.here hx rfl (hb hby dTO_11) rfl (tlt (by decide : ((0 : Int32) < (2 : Int32)))).2.1 kq) ?_
 refine s_aloadN X1 hx (hb hby dTO_14) rfl rfl ?_
 refine s_iload X1 hx (hb hby dTO_15) rfl ?_
 refine s_aloadN X1 hx (hb hby dTO_17) rfl rfl ?_
 show own_G p e below _ (T1.setTop (mkF m 18 #[vR b, vI 0, vI 2, vR t1, vI 0] [(.ref b), (.int 0), (.ref t1)]))
 refine s_iloadN X1 hx (hb hby dTO_18) rfl ?_
 obtain ⟨cl2, Ar2, q2, S_2, N_2, H_2, G_2⟩ := id (Vb.keep KK1 nin0)
 have in2 : ¬ ((0 : Int32) < 0 ∨ cl2.slots.size ≤ ((0 : Int32)).toNatClampNeg) := inb_of S_2 ⟨by decide, by decide⟩
 have at2 : cl2.slots[((0 : Int32)).toNatClampNeg]? = some (.int c0) := H_2.at in2 rfl
 refine own_st (fun tq kq => X1.caload hx (j := (0 : Int32)) (v := (.int c0)) Ar2.1 (State.isArrayOf_alike hZ.alike Ar2.2.1) Ar2.2.2 in2 at2 (g := (mkF m 19 #[vR b, vI 0, vI 2, vR t1, vI 0] [(.int 0), (.ref b), (.int 0), (.ref t1)])) rfl rfl (hb hby dTO_19) _ kq) ?_
 obtain ⟨_, _, ⟨T3, L3, k3, n3⟩, -, X3, ⟨Lc3, hQ3, l3, y3, z3⟩, st3⟩ := Jvm.LawKit.callS X1 hx (y := mN6) hown (mvT hZ (wd84 hw)) (mvT hZ (wd85 hw)) (mvT hZ (wd40 hw)) (mvT hZ (wd86 hw)) (by decide) (own_backN (W := 0) (own_put2_0 l Z a0 hw [] (t1) (_) (c0) (_) (_) (_) (_) T1.heap n0 (by omega) (X00.keep K1 all0) OA OH OL Vt1 (by omega)) hZ (wd86 hw) (wd40 hw) (by decide) (by decide)) (g := (mkF m 20 #[vR b, vI 0, vI 2, vR t1, vI 0] [(.int c0), (.int 0), (.ref t1)])) rfl (by rw [hml]; rfl) (argsL := [(.ref t1), (.int 0), (.int c0)]) (rest := []) (lenOf own_pd3 rfl) rfl (Nat.le_of_eq rfl) (hb hby dTO_20) (fun _ _ => ⟨rfl, rfl, (by decide : 1 + 0 ≤ _), (by decide : 4 + 0 ≤ _)⟩)
 dsimp only [Pt.U, Pt.locs, Pt.cells, Pt.slots] at X3 l3 y3 z3 st3 hQ3
 subst l3 y3 z3
 obtain ⟨rfl, Nq3, Kq3, Vt3⟩ := hQ3
 have KK3 : Keep T1.heap T3.heap [t1] := Kq3
 have sz3 : T1.heap.size ≤ T3.heap.size := KK3.1
 have K3 : Keep h0 T3.heap [] := K1.trans KK3 (allS (Or.inr (own_le (by omega))) all0)
 have N3 := Fr.app N1 Nq3
 refine own_st st3 ?_
 refine own_st (fun tq kq => XS.iinc X3.here hx rfl (hb hby dTO_23) rfl (l' := #[vR b, vI 1, vI 2, vR t1, vI 0]) rfl kq) ?_
 refine own_st (fun tq kq => XS.iinc X3.here hx rfl (hb hby dTO_26) rfl (l' := #[vR b, vI 1, vI 2, vR t1, vI 1]) rfl kq) ?_
 refine own_st (fun tq kq => XS.goto X3.here hx rfl (pc0 := 29) (pc' := 8) rfl (hb hby dTO_29) (by decide) (by decide) kq) ?_
 refine s_iload X3 hx (hb hby dTO_8) rfl ?_
 show own_G p e below _ (T3.setTop (mkF m 10 #[vR b, vI 1, vI 2, vR t1, vI 1] [(.int 1)]))
 refine s_iloadN X3 hx (hb hby dTO_10) rfl ?_
 show own_G p e below _ (T3.setTop (mkF m 11 #[vR b, vI 1, vI 2, vR t1, vI 1] [(.int 2), (.int 1)]))
 refine own_st (fun tq kq => XS.icmpNo X3.here hx rfl (hb hby dTO_11) rfl (tlt (by decide : ((1 : Int32) < (2 : Int32)))).2.1 kq) ?_
 refine s_aloadN X3 hx (hb hby dTO_14) rfl rfl ?_
 refine s_iload X3 hx (hb hby dTO_15) rfl ?_
 refine s_aloadN X3 hx (hb hby dTO_17) rfl rfl ?_
 show own_G p e below _ (T3.setTop (mkF m 18 #[vR b, vI 1, vI 2, vR t1, vI 1] [(.ref b), (.int 1), (.ref t1)]))
 refine s_iloadN X3 hx (hb hby dTO_18) rfl ?_
 obtain ⟨cl4, Ar4, q4, S_4, N_4, H_4, G_4⟩ := id ((Vb.keep KK1 nin0).keep KK3 (ninS (own_ne (by omega)) nin0))
 have in4 : ¬ ((1 : Int32) < 0 ∨ cl4.slots.size ≤ ((1 : Int32)).toNatClampNeg) := inb_of S_4 ⟨by decide, by decide⟩
 have at4 : cl4.slots[((1 : Int32)).toNatClampNeg]? = some (.int c1) := H_4.at in4 rfl
 refine own_st (fun tq kq => X3.caload hx (j := (1 : Int32)) (v := (.int c1)) Ar4.1 (State.isArrayOf_alike hZ.alike Ar4.2.1) Ar4.2.2 in4 at4 (g := (mkF m 19 #[vR b, vI 1, vI 2, vR t1, vI 1] [(.int 1), (.ref b), (.int 1), (.ref t1)])) rfl rfl (hb hby dTO_19) _ kq) ?_
 obtain ⟨_, _, ⟨T5, L5, k5, n5⟩, -, X5, ⟨Lc5, hQ5, l5, y5, z5⟩, st5⟩ := Jvm.LawKit.callS X3 hx (y := mN6) hown (mvT hZ (wd84 hw)) (mvT hZ (wd85 hw)) (mvT hZ (wd40 hw)) (mvT hZ (wd86 hw)) (by decide) (own_backN (W := 0) (own_put2_1 l Z a0 hw [] (t1) (_) (c1) (_) (_) (_) (_) T3.heap n0 (by omega) (X00.keep K3 all0) OA OH OL Vt3 (by omega)) hZ (wd86 hw) (wd40 hw) (by decide) (by decide)) (g := (mkF m 20 #[vR b, vI 1, vI 2, vR t1, vI 1] [(.int c1), (.int 1), (.ref t1)])) rfl (by rw [hml]; rfl) (argsL := [(.ref t1), (.int 1), (.int c1)]) (rest := []) (lenOf own_pd3 rfl) rfl (Nat.le_of_eq rfl) (hb hby dTO_20) (fun _ _ => ⟨rfl, rfl, (by decide : 1 + 0 ≤ _), (by decide : 4 + 0 ≤ _)⟩)
 dsimp only [Pt.U, Pt.locs, Pt.cells, Pt.slots] at X5 l5 y5 z5 st5 hQ5
 subst l5 y5 z5
 obtain ⟨rfl, Nq5, Kq5, Vt5⟩ := hQ5
 have KK5 : Keep T3.heap T5.heap [t1] := Kq5
 have sz5 : T3.heap.size ≤ T5.heap.size := KK5.1
 have K5 : Keep h0 T5.heap [] := K3.trans KK5 (allS (Or.inr (own_le (by omega))) all0)
 have N5 := Fr.app N3 Nq5
 refine own_st st5 ?_
 refine own_st (fun tq kq => XS.iinc X5.here hx rfl (hb hby dTO_23) rfl (l' := #[vR b, vI 2, vI 2, vR t1, vI 1]) rfl kq) ?_
 refine own_st (fun tq kq => XS.iinc X5.here hx rfl (hb hby dTO_26) rfl (l' := #[vR b, vI 2, vI 2, vR t1, vI 2]) rfl kq) ?_
 refine own_st (fun tq kq => XS.goto X5.here hx rfl (pc0 := 29) (pc' := 8) rfl (hb hby dTO_29) (by decide) (by decide) kq) ?_
 refine s_iload X5 hx (hb hby dTO_8) rfl ?_
 show own_G p e below _ (T5.setTop (mkF m 10 #[vR b, vI 2, vI 2, vR t1, vI 2] [(.int 2)]))
 refine s_iloadN X5 hx (hb hby dTO_10) rfl ?_
 show own_G p e below _ (T5.setTop (mkF m 11 #[vR b, vI 2, vI 2, vR t1, vI 2] [(.int 2), (.int 2)]))
 refine own_st (fun tq kq => XS.icmpYes X5.here hx rfl (pc0 := 11) (pc' := 32) rfl (hb hby dTO_11) rfl (flt (by decide : ¬ ((2 : Int32) < (2 : Int32)))).2.1 (by decide) (by decide) kq) ?_
 refine s_aloadN X5 hx (hb hby dTO_32) rfl rfl ?_
 show own_G p e below _ (T5.setTop (mkF m 33 #[vR b, vI 2, vI 2, vR t1, vI 2] [(.ref t1)]))
 obtain ⟨fs, hr, hrun, hended, hW, hsame⟩ := X5.leave (v := some (.ref t1)) (fun h => by rw [Bd.returns] at h; cases h)
 refine ⟨_, _, retOut X5 hx Bd.returns rfl (Or.inr (Or.inr (Or.inr (Or.inr ⟨rfl, rfl, rfl⟩)))) (hb hby dTO_33) hr, hrun, hended, _, _, rfl, ?_, ⟨_, rfl⟩, hW, hsame.mono (by decide) (by decide)⟩
 change Q_own_toB2 Z b kC dv c0 c1 h0 n0 _ T5.heap _; exact ⟨t1, _, rfl, N5, K5, (by omega), Vt5.lt, Vt5⟩

def Q_own_cfl2 (Z : State) (t : Nat) (kb : ClassId) (vs : List Value) (h0 : Heap) (n0 : Nat) (v : Option Value) (h : Heap) (L : List Loc) : Prop := v = some (.int (1 : Int32)) ∧ Fr n0 L ∧ h = h0
theorem ef_own_cfl2 (m : MethodId) (x0 : Nat) : entryFrame m #[(.ref x0), (.int 2)] 2 = mkF m 0 #[.val (.ref x0), .val (.int 2)] [] := by first | (simp [entryFrame, mkF, argsToLocals, Value.category]; done) | rfl
theorem own_cfl2 (l : Launch) (Z : State) (a0 : Array Value) (hw : hWt a0 Z) (ws : List Jvm.Cond) (t : Nat) (kb : ClassId) (vs : List Value) (h0 : Heap) (n0 : Nat) (Z0 : n0 ≤ h0.size) (X00 : Old Z n0 h0) (Vt : Arv Z h0 t kb .byte (4 : Int32) vs (.int 0)) :
    MetFree l mN8 (head1 (Jvm.Cond.code mN8 jdk_52_method_15_code 2 (some .byte) :: ws) rm_0_0_0_0) (fun av_ U => av_ = #[(.ref t), (.int 2)] ∧ Z.Warmed39 U.vm ∧ U.heap = h0) (fun _ _ _ _ _ => True) (own_EN (Q_own_cfl2 Z t kb vs h0 n0) rm_0_0_0_0) := by
 refine MetFree.of_bodySF (plainFor_of_name own_pn1) hisR ?_
 intro p e s m args below meth c s₁ Bd hml0 hP hK
 obtain ⟨rfl, hZ, hh⟩ := hP
 have hx := Bd.exec
 have hby := Bd.bytes
 have hml : c.maxLocals = 2 := hml0
 have hown : s.vm.findClass "java/lang/StringUTF16" = some m.cls := findClass_of_methodNamed Bd.named
 have X0 : Stand p l e rm_0_0_0_0 s m _ below meth c s₁ [] 0 0 := Stand.of_body Bd
 have e0 : s₁.heap = h0 := by rw [← hh, Bd.state]; rfl
 have N0 := Fr.nil n0
 have K0 : Keep h0 h0 [] := Keep.refl h0 []
 refine show own_G p e below (own_EN (Q_own_cfl2 Z t kb vs h0 n0) rm_0_0_0_0 #[(.ref t), (.int 2)] s) _ from ?_
 refine own_st (fun tq kq => castTop (ef_own_cfl2 m (t)) kq) ?_
 show own_G p e below _ (s₁.setTop (mkF m 0 #[vR t, vI 2] []))
 refine s_iloadN X0 hx (hb hby dCL_0) rfl ?_
 refine s_aloadN X0 hx (hb hby dCL_1) rfl rfl ?_
 obtain ⟨cl1, Ar1, q1, S_1, N_1, H_1, G_1⟩ := id Vt
 refine own_st (fun tq kq => X0.arraylength hx (by rw [e0]; exact Ar1.1) (State.isArrayOf_alike hZ.alike Ar1.2.1) (g := (mkF m 2 #[vR t, vI 2] [(.ref t), (.int 2)])) rfl rfl (hb hby dCL_2) _ kq) ?_
 rw [len_of S_1 N_1]
 show own_G p e below _ (s₁.setTop (mkF m 3 #[vR t, vI 2] [(.int 4), (.int 2)]))
 refine own_st (fun tq kq => XS.isub X0.here hx rfl (hb hby dCL_3) rfl kq) ?_
 refine s_bipush X0 hx (hb hby dCL_4) ?_
 refine own_st (fun tq kq => XS.iushr X0.here hx rfl (hb hby dCL_6) rfl kq) ?_
 refine own_st (fun tq kq => XS.i2b X0.here hx rfl (hb hby dCL_7) rfl kq) ?_
 show own_G p e below _ (s₁.setTop (mkF m 8 #[vR t, vI 2] [(.int 1)]))
 obtain ⟨fs, hr, hrun, hended, hW, hsame⟩ := X0.leave (v := some (.int 1)) (fun h => by rw [Bd.returns] at h; cases h)
 refine ⟨_, _, retN X0 hx (t := .byte) Bd.returns (by simp) (hb hby dCL_8) hr, hrun, hended, _, _, rfl, ?_, ⟨_, rfl⟩, hW, hsame.mono (by decide) (by decide)⟩
 change Q_own_cfl2 Z t kb vs h0 n0 _ s₁.heap _; rw [e0]; exact ⟨rfl, N0, rfl⟩

def Q_own_cm5_2_0 (Z : State) (b d : Nat) (kC kD : ClassId) (dv : Value) (c0 c1 : Int32) (h0 : Heap) (n0 : Nat) (v : Option Value) (h : Heap) (L : List Loc) : Prop := v = some (.int (0 : Int32)) ∧ Fr n0 L ∧ Keep h0 h [d]
theorem ef_own_cm5_2_0 (m : MethodId) (x0 : Nat) (x2 : Nat) : entryFrame m #[(.ref x0), (.int 0), (.ref x2), (.int 0), (.int 2)] 7 = mkF m 0 #[.val (.ref x0), .val (.int 0), .val (.ref x2), .val (.int 0), .val (.int 2), .unset, .unset] [] := by first | (simp [entryFrame, mkF, argsToLocals, Value.category]; done) | rfl
theorem own_cm5_2_0 (l : Launch) (Z : State) (a0 : Array Value) (hw : hWt a0 Z) (ws : List Jvm.Cond) (b d : Nat) (kC kD : ClassId) (dv : Value) (c0 c1 : Int32) (h0 : Heap) (n0 : Nat) (Z0 : n0 ≤ h0.size) (X00 : Old Z n0 h0) (Vb : Arv Z h0 b kC .char (2 : Int32) [.int c0, .int c1] dv) (Vd : Arv Z h0 d kD .byte (2 : Int32) [.int (0 : Int32), .int (0 : Int32)] (.int 0)) (gd : n0 ≤ d) (nbd : b ≠ d) (hg : (255 : Int32) < c0) :
    MetFree l mN9 (head1 (Jvm.Cond.code mN9 jdk_52_method_21_code 7 (some .int) :: ws) rm_0_0_0_0) (fun av_ U => av_ = #[(.ref b), (.int 0), (.ref d), (.int 0), (.int 2)] ∧ Z.Warmed39 U.vm ∧ U.heap = h0) (fun _ _ _ _ _ => True) (own_EN (Q_own_cm5_2_0 Z b d kC kD dv c0 c1 h0 n0) rm_0_0_0_0) := by
 refine MetFree.of_bodySF (plainFor_of_name own_pn1) hisR ?_
 intro p e s m args below meth c s₁ Bd hml0 hP hK
 obtain ⟨rfl, hZ, hh⟩ := hP
 have hx := Bd.exec
 have hby := Bd.bytes
 have hml : c.maxLocals = 7 := hml0
 have hown : s.vm.findClass "java/lang/StringUTF16" = some m.cls := findClass_of_methodNamed Bd.named
 have X0 : Stand p l e rm_0_0_0_0 s m _ below meth c s₁ [] 0 0 := Stand.of_body Bd
 have e0 : s₁.heap = h0 := by rw [← hh, Bd.state]; rfl
 have N0 := Fr.nil n0
 have K0 : Keep h0 h0 [d] := Keep.refl h0 [d]
 refine show own_G p e below (own_EN (Q_own_cm5_2_0 Z b d kC kD dv c0 c1 h0 n0) rm_0_0_0_0 #[(.ref b), (.int 0), (.ref d), (.int 0), (.int 2)] s) _ from ?_
 refine own_st (fun tq kq => castTop (ef_own_cm5_2_0 m (b) (d)) kq) ?_
 show own_G p e below _ (s₁.setTop (mkF m 0 #[vR b, vI 0, vR d, vI 0, vI 2, .unset, .unset] []))
 have hws0 : ∀ y ∈ [d], n0 ≤ y := allS gd all0
 refine s_iconst X0 hx (hb hby dC5_0) ?_
 refine own_st (fun tq kq => XS.istore X0.here hx rfl (hb hby dC5_1) rfl (l' := #[vR b, vI 0, vR d, vI 0, vI 2, vI 0, .unset]) rfl kq) ?_
 refine s_iload X0 hx (hb hby dC5_3) rfl ?_
 refine s_iload X0 hx (hb hby dC5_5) rfl ?_
 show own_G p e below _ (s₁.setTop (mkF m 7 #[vR b, vI 0, vR d, vI 0, vI 2, vI 0, .unset] [(.int 2), (.int 0)]))
 refine own_st (fun tq kq => XS.icmpNo X0.here hx rfl (hb hby dC5_7) rfl (tlt (by decide : ((0 : Int32) < (2 : Int32)))).2.1 kq) ?_
 refine s_aloadN X0 hx (hb hby dC5_10) rfl rfl ?_
 refine s_iloadN X0 hx (hb hby dC5_11) rfl ?_
 obtain ⟨cl1, Ar1, q1, S_1, N_1, H_1, G_1⟩ := id Vb
 have in1 : ¬ ((0 : Int32) < 0 ∨ cl1.slots.size ≤ ((0 : Int32)).toNatClampNeg) := inb_of S_1 ⟨by decide, by decide⟩
 have at1 : cl1.slots[((0 : Int32)).toNatClampNeg]? = some (.int c0) := H_1.at in1 rfl
 refine own_st (fun tq kq => X0.caload hx (j := (0 : Int32)) (v := (.int c0)) (by rw [e0]; exact Ar1.1) (State.isArrayOf_alike hZ.alike Ar1.2.1) Ar1.2.2 in1 at1 (g := (mkF m 12 #[vR b, vI 0, vR d, vI 0, vI 2, vI 0, .unset] [(.int 0), (.ref b)])) rfl rfl (hb hby dC5_12) _ kq) ?_
 show own_G p e below _ (s₁.setTop (mkF m 13 #[vR b, vI 0, vR d, vI 0, vI 2, vI 0, .unset] [(.int c0)]))
 refine own_st (fun tq kq => XS.istore X0.here hx rfl (hb hby dC5_13) rfl (l' := #[vR b, vI 0, vR d, vI 0, vI 2, vI 0, vI c0]) rfl kq) ?_
 refine s_iload X0 hx (hb hby dC5_15) rfl ?_
 refine s_sipush X0 hx (hb hby dC5_17) ?_
 show own_G p e below _ (s₁.setTop (mkF m 20 #[vR b, vI 0, vR d, vI 0, vI 2, vI 0, vI c0] [(.int 255), (.int c0)]))
 refine own_st (fun tq kq => XS.icmpNo X0.here hx rfl (hb hby dC5_20) rfl (tlt hg).2.2.2 kq) ?_
 refine s_iload X0 hx (hb hby dC5_23) rfl ?_
 show own_G p e below _ (s₁.setTop (mkF m 25 #[vR b, vI 0, vR d, vI 0, vI 2, vI 0, vI c0] [(.int 0)]))
 obtain ⟨fs, hr, hrun, hended, hW, hsame⟩ := X0.leave (v := some (.int 0)) (fun h => by rw [Bd.returns] at h; cases h)
 refine ⟨_, _, retOut X0 hx Bd.returns rfl (Or.inl ⟨rfl, by simp, _, rfl⟩) (hb hby dC5_25) hr, hrun, hended, _, _, rfl, ?_, ⟨_, rfl⟩, hW, hsame.mono (by decide) (by decide)⟩
 change Q_own_cm5_2_0 Z b d kC kD dv c0 c1 h0 n0 _ s₁.heap _; rw [e0]; exact ⟨rfl, N0, K0⟩

def Q_own_cm5_2_1 (Z : State) (b d : Nat) (kC kD : ClassId) (dv : Value) (c0 c1 : Int32) (h0 : Heap) (n0 : Nat) (v : Option Value) (h : Heap) (L : List Loc) : Prop := v = some (.int (1 : Int32)) ∧ Fr n0 L ∧ Keep h0 h [d]
theorem ef_own_cm5_2_1 (m : MethodId) (x0 : Nat) (x2 : Nat) : entryFrame m #[(.ref x0), (.int 0), (.ref x2), (.int 0), (.int 2)] 7 = mkF m 0 #[.val (.ref x0), .val (.int 0), .val (.ref x2), .val (.int 0), .val (.int 2), .unset, .unset] [] := by first | (simp [entryFrame, mkF, argsToLocals, Value.category]; done) | rfl
theorem own_cm5_2_1 (l : Launch) (Z : State) (a0 : Array Value) (hw : hWt a0 Z) (ws : List Jvm.Cond) (b d : Nat) (kC kD : ClassId) (dv : Value) (c0 c1 : Int32) (h0 : Heap) (n0 : Nat) (Z0 : n0 ≤ h0.size) (X00 : Old Z n0 h0) (Vb : Arv Z h0 b kC .char (2 : Int32) [.int c0, .int c1] dv) (Vd : Arv Z h0 d kD .byte (2 : Int32) [.int (0 : Int32), .int (0 : Int32)] (.int 0)) (gd : n0 ≤ d) (nbd : b ≠ d) (hl0 : ¬ (255 : Int32) < c0) (hg : (255 : Int32) < c1) :
    MetFree l mN9 (head1 (Jvm.Cond.code mN9 jdk_52_method_21_code 7 (some .int) :: ws) rm_0_0_0_0) (fun av_ U => av_ = #[(.ref b), (.int 0), (.ref d), (.int 0), (.int 2)] ∧ Z.Warmed39 U.vm ∧ U.heap = h0) (fun _ _ _ _ _ => True) (own_EN (Q_own_cm5_2_1 Z b d kC kD dv c0 c1 h0 n0) rm_0_0_0_0) := by
 refine MetFree.of_bodySF (plainFor_of_name own_pn1) hisR ?_
 intro p e s m args below meth c s₁ Bd hml0 hP hK
 obtain ⟨rfl, hZ, hh⟩ := hP
 have hx := Bd.exec
 have hby := Bd.bytes
 have hml : c.maxLocals = 7 := hml0
 have hown : s.vm.findClass "java/lang/StringUTF16" = some m.cls := findClass_of_methodNamed Bd.named
 have X0 : Stand p l e rm_0_0_0_0 s m _ below meth c s₁ [] 0 0 := Stand.of_body Bd
 have e0 : s₁.heap = h0 := by rw [← hh, Bd.state]; rfl
 have N0 := Fr.nil n0
 have K0 : Keep h0 h0 [d] := Keep.refl h0 [d]
 refine show own_G p e below (own_EN (Q_own_cm5_2_1 Z b d kC kD dv c0 c1 h0 n0) rm_0_0_0_0 #[(.ref b), (.int 0), (.ref d), (.int 0), (.int 2)] s) _ from ?_
 refine own_st (fun tq kq => castTop (ef_own_cm5_2_1 m (b) (d)) kq) ?_
 show own_G p e below _ (s₁.setTop (mkF m 0 #[vR b, vI 0, vR d, vI 0, vI 2, .unset, .unset] []))
 have hws0 : ∀ y ∈ [d], n0 ≤ y := allS gd all0
 refine s_iconst X0 hx (hb hby dC5_0) ?_
 refine own_st (fun tq kq => XS.istore X0.here hx rfl (hb hby dC5_1) rfl (l' := #[vR b, vI 0, vR d, vI 0, vI 2, vI 0, .unset]) rfl kq) ?_
 refine s_iload X0 hx (hb hby dC5_3) rfl ?_
 refine s_iload X0 hx (hb hby dC5_5) rfl ?_
 show own_G p e below _ (s₁.setTop (mkF m 7 #[vR b, vI 0, vR d, vI 0, vI 2, vI 0, .unset] [(.int 2), (.int 0)]))
 refine own_st (fun tq kq => XS.icmpNo X0.here hx rfl (hb hby dC5_7) rfl (tlt (by decide : ((0 : Int32) < (2 : Int32)))).2.1 kq) ?_
 refine s_aloadN X0 hx (hb hby dC5_10) rfl rfl ?_
 refine s_iloadN X0 hx (hb hby dC5_11) rfl ?_
 obtain ⟨cl1, Ar1, q1, S_1, N_1, H_1, G_1⟩ := id Vb
 have in1 : ¬ ((0 : Int32) < 0 ∨ cl1.slots.size ≤ ((0 : Int32)).toNatClampNeg) := inb_of S_1 ⟨by decide, by decide⟩
 have at1 : cl1.slots[((0 : Int32)).toNatClampNeg]? = some (.int c0) := H_1.at in1 rfl
 refine own_st (fun tq kq => X0.caload hx (j := (0 : Int32)) (v := (.int c0)) (by rw [e0]; exact Ar1.1) (State.isArrayOf_alike hZ.alike Ar1.2.1) Ar1.2.2 in1 at1 (g := (mkF m 12 #[vR b, vI 0, vR d, vI 0, vI 2, vI 0, .unset] [(.int 0), (.ref b)])) rfl rfl (hb hby dC5_12) _ kq) ?_
 show own_G p e below _ (s₁.setTop (mkF m 13 #[vR b, vI 0, vR d, vI 0, vI 2, vI 0, .unset] [(.int c0)]))
 refine own_st (fun tq kq => XS.istore X0.here hx rfl (hb hby dC5_13) rfl (l' := #[vR b, vI 0, vR d, vI 0, vI 2, vI 0, vI c0]) rfl kq) ?_
 refine s_iload X0 hx (hb hby dC5_15) rfl ?_
 refine s_sipush X0 hx (hb hby dC5_17) ?_
 show own_G p e below _ (s₁.setTop (mkF m 20 #[vR b, vI 0, vR d, vI 0, vI 2, vI 0, vI c0] [(.int 255), (.int c0)]))
 refine own_st (fun tq kq => XS.icmpYes X0.here hx rfl (pc0 := 20) (pc' := 26) rfl (hb hby dC5_20) rfl (flt hl0).2.2.2 (by decide) (by decide) kq) ?_
 refine s_aloadN X0 hx (hb hby dC5_26) rfl rfl ?_
 refine s_iloadN X0 hx (hb hby dC5_27) rfl ?_
 refine s_iload X0 hx (hb hby dC5_28) rfl ?_
 show own_G p e below _ (s₁.setTop (mkF m 30 #[vR b, vI 0, vR d, vI 0, vI 2, vI 0, vI c0] [(.int c0), (.int 0), (.ref d)]))
 refine own_st (fun tq kq => XS.i2b X0.here hx rfl (hb hby dC5_30) rfl kq) ?_
 obtain ⟨cl2, Ar2, q2, S_2, N_2, H_2, G_2⟩ := id Vd
 have in2 : ¬ ((0 : Int32) < 0 ∨ cl2.slots.size ≤ ((0 : Int32)).toNatClampNeg) := inb_of S_2 ⟨by decide, by decide⟩
 obtain ⟨T2, h2, X2, e2, W2, st2⟩ := stB X0 hx hZ e0 Ar2 (j := (0 : Int32)) in2 (g := (mkF m 31 #[vR b, vI 0, vR d, vI 0, vI 2, vI 0, vI c0] [(.int (c0.toInt8.toInt32)), (.int 0), (.ref d)])) rfl rfl (hb hby dC5_31)
 have V2 := Arv.set Ar2 q2 S_2 N_2 H_2 G_2 (fits_nar_byte _) W2 0 rfl (Nat.le_of_ble_eq_true rfl)
 have sz2 : h0.size ≤ h2.size := (Keep.of_wr W2).1
 have K2 : Keep h0 h2 [d] := K0.wr W2 (Or.inl (by simp))
 have N2 := Fr.snoc X2 N0 (own_le (by omega))
 refine own_st st2 ?_
 refine own_st (fun tq kq => XS.iinc X2.here hx rfl (hb hby dC5_32) rfl (l' := #[vR b, vI 1, vR d, vI 0, vI 2, vI 0, vI c0]) rfl kq) ?_
 refine own_st (fun tq kq => XS.iinc X2.here hx rfl (hb hby dC5_35) rfl (l' := #[vR b, vI 1, vR d, vI 1, vI 2, vI 0, vI c0]) rfl kq) ?_
 refine own_st (fun tq kq => XS.iinc X2.here hx rfl (hb hby dC5_38) rfl (l' := #[vR b, vI 1, vR d, vI 1, vI 2, vI 1, vI c0]) rfl kq) ?_
 refine own_st (fun tq kq => XS.goto X2.here hx rfl (pc0 := 41) (pc' := 3) rfl (hb hby dC5_41) (by decide) (by decide) kq) ?_
 show own_G p e below _ (T2.setTop (mkF m 3 #[vR b, vI 1, vR d, vI 1, vI 2, vI 1, vI c0] []))
 refine s_iload X2 hx (hb hby dC5_3) rfl ?_
 refine s_iload X2 hx (hb hby dC5_5) rfl ?_
 show own_G p e below _ (T2.setTop (mkF m 7 #[vR b, vI 1, vR d, vI 1, vI 2, vI 1, vI c0] [(.int 2), (.int 1)]))
 refine own_st (fun tq kq => XS.icmpNo X2.here hx rfl (hb hby dC5_7) rfl (tlt (by decide : ((1 : Int32) < (2 : Int32)))).2.1 kq) ?_
 refine s_aloadN X2 hx (hb hby dC5_10) rfl rfl ?_
 refine s_iloadN X2 hx (hb hby dC5_11) rfl ?_
 obtain ⟨cl3, Ar3, q3, S_3, N_3, H_3, G_3⟩ := id (Vb.other W2 (own_ne (by omega)))
 have in3 : ¬ ((1 : Int32) < 0 ∨ cl3.slots.size ≤ ((1 : Int32)).toNatClampNeg) := inb_of S_3 ⟨by decide, by decide⟩
 have at3 : cl3.slots[((1 : Int32)).toNatClampNeg]? = some (.int c1) := H_3.at in3 rfl
 refine own_st (fun tq kq => X2.caload hx (j := (1 : Int32)) (v := (.int c1)) (by rw [e2]; exact Ar3.1) (State.isArrayOf_alike hZ.alike Ar3.2.1) Ar3.2.2 in3 at3 (g := (mkF m 12 #[vR b, vI 1, vR d, vI 1, vI 2, vI 1, vI c0] [(.int 1), (.ref b)])) rfl rfl (hb hby dC5_12) _ kq) ?_
 show own_G p e below _ (T2.setTop (mkF m 13 #[vR b, vI 1, vR d, vI 1, vI 2, vI 1, vI c0] [(.int c1)]))
 refine own_st (fun tq kq => XS.istore X2.here hx rfl (hb hby dC5_13) rfl (l' := #[vR b, vI 1, vR d, vI 1, vI 2, vI 1, vI c1]) rfl kq) ?_
 refine s_iload X2 hx (hb hby dC5_15) rfl ?_
 refine s_sipush X2 hx (hb hby dC5_17) ?_
 show own_G p e below _ (T2.setTop (mkF m 20 #[vR b, vI 1, vR d, vI 1, vI 2, vI 1, vI c1] [(.int 255), (.int c1)]))
 refine own_st (fun tq kq => XS.icmpNo X2.here hx rfl (hb hby dC5_20) rfl (tlt hg).2.2.2 kq) ?_
 refine s_iload X2 hx (hb hby dC5_23) rfl ?_
 show own_G p e below _ (T2.setTop (mkF m 25 #[vR b, vI 1, vR d, vI 1, vI 2, vI 1, vI c1] [(.int 1)]))
 obtain ⟨fs, hr, hrun, hended, hW, hsame⟩ := X2.leave (v := some (.int 1)) (fun h => by rw [Bd.returns] at h; cases h)
 refine ⟨_, _, retOut X2 hx Bd.returns rfl (Or.inl ⟨rfl, by simp, _, rfl⟩) (hb hby dC5_25) hr, hrun, hended, _, _, rfl, ?_, ⟨_, rfl⟩, hW, hsame.mono (by decide) (by decide)⟩
 change Q_own_cm5_2_1 Z b d kC kD dv c0 c1 h0 n0 _ T2.heap _; rw [e2]; exact ⟨rfl, N2, K2⟩

def Q_own_cm3_2 (Z : State) (b : Nat) (kC : ClassId) (dv : Value) (c0 c1 : Int32) (h0 : Heap) (n0 : Nat) (v : Option Value) (h : Heap) (L : List Loc) : Prop := ∃ (t : Nat) (kb : ClassId), v = some (.ref t) ∧ Fr n0 L ∧ Keep h0 h [] ∧ h0.size ≤ t ∧ t < h.size ∧ Arv Z h t kb .byte (4 : Int32) [.int (L8 c0), .int (H8 c0), .int (L8 c1), .int (H8 c1)] (.int 0)
theorem ef_own_cm3_2 (m : MethodId) (x0 : Nat) : entryFrame m #[(.ref x0), (.int 0), (.int 2)] 6 = mkF m 0 #[.val (.ref x0), .val (.int 0), .val (.int 2), .unset, .unset, .unset] [] := by first | (simp [entryFrame, mkF, argsToLocals, Value.category]; done) | rfl
theorem own_cm3_2 (l : Launch) (Z : State) (a0 : Array Value) (hw : hWt a0 Z) (ws : List Jvm.Cond) (b : Nat) (kC : ClassId) (dv : Value) (c0 c1 : Int32) (h0 : Heap) (n0 : Nat) (Z0 : n0 ≤ h0.size) (X00 : Old Z n0 h0) (OA : oA Z) (OH : oH Z) (OL : oL Z) (Vb : Arv Z h0 b kC .char (2 : Int32) [.int c0, .int c1] dv) (hb0 : ¬ c0 < 0 ∧ ¬ (65535 : Int32) < c0) (hb1 : ¬ c1 < 0 ∧ ¬ (65535 : Int32) < c1) (hD : ((255 : Int32) < c0) ∨ (¬ (255 : Int32) < c0 ∧ (255 : Int32) < c1)) :
    MetFree l mN10 (head1 (Jvm.Cond.code mN10 jdk_52_method_16_code 6 (some (.array .byte)) :: ws) rm_3_2_6_70) (fun av_ U => av_ = #[(.ref b), (.int 0), (.int 2)] ∧ Z.Warmed39 U.vm ∧ U.heap = h0) (fun _ _ _ _ _ => True) (own_EN (Q_own_cm3_2 Z b kC dv c0 c1 h0 n0) rm_3_2_6_70) := by
 refine MetFree.of_bodySF (plainFor_of_name own_pn1) hisR ?_
 intro p e s m args below meth c s₁ Bd hml0 hP hK
 obtain ⟨rfl, hZ, hh⟩ := hP
 have hx := Bd.exec
 have hby := Bd.bytes
 have hml : c.maxLocals = 6 := hml0
 have hown : s.vm.findClass "java/lang/StringUTF16" = some m.cls := findClass_of_methodNamed Bd.named
 have X0 : Stand p l e rm_3_2_6_70 s m _ below meth c s₁ [] 0 0 := Stand.of_body Bd
 have e0 : s₁.heap = h0 := by rw [← hh, Bd.state]; rfl
 have N0 := Fr.nil n0
 have K0 : Keep h0 h0 [] := Keep.refl h0 []
 refine show own_G p e below (own_EN (Q_own_cm3_2 Z b kC dv c0 c1 h0 n0) rm_3_2_6_70 #[(.ref b), (.int 0), (.int 2)] s) _ from ?_
 refine own_st (fun tq kq => castTop (ef_own_cm3_2 m (b)) kq) ?_
 show own_G p e below _ (s₁.setTop (mkF m 0 #[vR b, vI 0, vI 2, .unset, .unset, .unset] []))
 have ltb : b < h0.size := Vb.lt
 rcases hD with hg | ⟨hl0, hg⟩
 ·
  refine s_iloadN X0 hx (hb hby dC3_0) rfl ?_
  obtain ⟨T1, h1, k1, X1, e1, E1, A1, st1⟩ := newP X0 hx hZ (hw _ (List.mem_of_getElem? (i := 16) rfl)) e0 (g := (mkF m 1 #[vR b, vI 0, vI 2, .unset, .unset, .unset] [(.int 2)])) rfl (hb hby dC3_1) rfl (by decide) (cap := 2) (by decide) (by decide) (by decide) (by decide)
  obtain ⟨b1, g1⟩ : ∃ z, z = h0.size := ⟨_, rfl⟩
  rw [← g1] at A1 st1
  have lt1 : b1 < h1.size := A1.lt
  have V1 : Arv Z h1 b1 k1 .byte (2 : Int32) [(.int (0 : Int32)), (.int (0 : Int32))] (.int (0 : Int32)) := (Arv.new A1 (by decide)).pad (pad_rep [] (.int (0 : Int32)) 2)
  have sz1 : h0.size ≤ h1.size := E1.1
  have K1 : Keep h0 h1 [] := K0.ext E1
  refine own_st st1 ?_
  refine own_st (fun tq kq => XS.astoreN X1.here hx rfl (hb hby dC3_3) rfl rfl (l' := #[vR b, vI 0, vI 2, vR b1, .unset, .unset]) rfl kq) ?_
  refine s_aloadN X1 hx (hb hby dC3_4) rfl rfl ?_
  refine s_iloadN X1 hx (hb hby dC3_5) rfl ?_
  refine s_aloadN X1 hx (hb hby dC3_6) rfl rfl ?_
  show own_G p e below _ (T1.setTop (mkF m 7 #[vR b, vI 0, vI 2, vR b1, .unset, .unset] [(.ref b1), (.int 0), (.ref b)]))
  refine s_iconst X1 hx (hb hby dC3_7) ?_
  refine s_iloadN X1 hx (hb hby dC3_8) rfl ?_
  obtain ⟨_, _, ⟨T2, L2, k2, n2⟩, -, X2, ⟨Lc2, hQ2, l2, y2, z2⟩, st2⟩ := Jvm.LawKit.callS X1 hx (y := mN9) hown (mvT hZ (wd42 hw)) (mvT hZ (wd43 hw)) (mvT hZ (wd40 hw)) (mvT hZ (wd44 hw)) (by decide) (own_backN (W := 0) (own_cm5_2_0 l Z a0 hw [] (b) (b1) (kC) (k1) (dv) (c0) (c1) h1 n0 (by omega) (X00.keep K1 all0) (Vb.ext E1) V1 (by omega) (own_ne (by omega)) hg) hZ (wd44 hw) (wd40 hw) (by decide) (by decide)) (g := (mkF m 9 #[vR b, vI 0, vI 2, vR b1, .unset, .unset] [(.int 2), (.int 0), (.ref b1), (.int 0), (.ref b)])) rfl (by rw [hml]; rfl) (argsL := [(.ref b), (.int 0), (.ref b1), (.int 0), (.int 2)]) (rest := []) (lenOf own_pd4 rfl) rfl (Nat.le_of_eq rfl) (hb hby dC3_9) (fun _ _ => ⟨rfl, e1, (by decide : 1 + 0 ≤ _), (by decide : 2 + 0 ≤ _)⟩)
  dsimp only [Pt.U, Pt.locs, Pt.cells, Pt.slots] at X2 l2 y2 z2 st2 hQ2
  subst l2 y2 z2
  obtain ⟨rfl, Nq2, Kq2⟩ := hQ2
  have KK2 : Keep h1 T2.heap [b1] := Kq2
  have sz2 : h1.size ≤ T2.heap.size := KK2.1
  have K2 : Keep h0 T2.heap [] := K1.trans KK2 (allS (Or.inr (own_le (by omega))) all0)
  have N2 := Fr.app N0 Nq2
  refine own_st st2 ?_
  refine own_st (fun tq kq => XS.istore X2.here hx rfl (hb hby dC3_12) rfl (l' := #[vR b, vI 0, vI 2, vR b1, vI 0, .unset]) rfl kq) ?_
  refine s_iload X2 hx (hb hby dC3_14) rfl ?_
  refine s_iloadN X2 hx (hb hby dC3_16) rfl ?_
  show own_G p e below _ (T2.setTop (mkF m 17 #[vR b, vI 0, vI 2, vR b1, vI 0, .unset] [(.int 2), (.int 0)]))
  refine own_st (fun tq kq => XS.icmpNo X2.here hx rfl (hb hby dC3_17) rfl (feq (by decide : ¬ ((0 : Int32) = (2 : Int32)))).1 kq) ?_
  refine s_aloadN X2 hx (hb hby dC3_20) rfl rfl ?_
  refine s_iloadN X2 hx (hb hby dC3_21) rfl ?_
  refine s_iloadN X2 hx (hb hby dC3_22) rfl ?_
  show own_G p e below _ (T2.setTop (mkF m 23 #[vR b, vI 0, vI 2, vR b1, vI 0, .unset] [(.int 2), (.int 0), (.ref b)]))
  obtain ⟨_, _, ⟨T3, L3, k3, n3⟩, -, X3, ⟨Lc3, hQ3, l3, y3, z3⟩, st3⟩ := Jvm.LawKit.callS X2 hx (y := mN7) hown (mvT hZ (wd74 hw)) (mvT hZ (wd75 hw)) (mvT hZ (wd40 hw)) (mvT hZ (wd76 hw)) (by decide) (own_backN (W := 0) (own_toB2 l Z a0 hw [] (b) (kC) (dv) (c0) (c1) T2.heap n0 (by omega) (X00.keep K2 all0) OA OH OL ((Vb.ext E1).keep KK2 (ninS (own_ne (by omega)) nin0))) hZ (wd76 hw) (wd40 hw) (by decide) (by decide)) (g := (mkF m 23 #[vR b, vI 0, vI 2, vR b1, vI 0, .unset] [(.int 2), (.int 0), (.ref b)])) rfl (by rw [hml]; rfl) (argsL := [(.ref b), (.int 0), (.int 2)]) (rest := []) (lenOf own_pd5 rfl) rfl (Nat.le_of_eq rfl) (hb hby dC3_23) (fun _ _ => ⟨rfl, rfl, (by decide : 1 + 1 ≤ _), (by decide : 2 + 4 ≤ _)⟩)
  dsimp only [Pt.U, Pt.locs, Pt.cells, Pt.slots] at X3 l3 y3 z3 st3 hQ3
  subst l3 y3 z3
  obtain ⟨t3, kb3, rfl, Nq3, Kq3, gt3, lt3, Vt3⟩ := hQ3
  have KK3 : Keep T2.heap T3.heap [] := Kq3
  have sz3 : T2.heap.size ≤ T3.heap.size := KK3.1
  have K3 : Keep h0 T3.heap [] := K2.trans KK3 all0
  have N3 := Fr.app N2 Nq3
  refine own_st st3 ?_
  refine own_st (fun tq kq => XS.astore X3.here hx rfl (hb hby dC3_26) rfl rfl (l' := #[vR b, vI 0, vI 2, vR b1, vI 0, vR t3]) rfl kq) ?_
  refine s_aload X3 hx (hb hby dC3_28) rfl rfl ?_
  refine s_iload X3 hx (hb hby dC3_30) rfl ?_
  obtain ⟨_, _, ⟨T4, L4, k4, n4⟩, -, X4, ⟨Lc4, hQ4, l4, y4, z4⟩, st4⟩ := Jvm.LawKit.callS X3 hx (y := mN2) hown (mvT hZ (wd90 hw)) (mvT hZ (wd91 hw)) (mvT hZ (wd40 hw)) (mvT hZ (wd92 hw)) (by decide) (own_backN (W := 0) (own_get_0 l Z a0 hw [] (t3) (_) (_) (_) (_) (_) T3.heap n0 (by omega) (X00.keep K3 all0) OA OH OL Vt3 (by decide) (by decide) rfl rfl) hZ (wd92 hw) (wd40 hw) (by decide) (by decide)) (g := (mkF m 32 #[vR b, vI 0, vI 2, vR b1, vI 0, vR t3] [(.int 0), (.ref t3)])) rfl (by rw [hml]; rfl) (argsL := [(.ref t3), (.int 0)]) (rest := []) (lenOf own_pd6 rfl) rfl (Nat.le_of_eq rfl) (hb hby dC3_32) (fun _ _ => ⟨rfl, rfl, (by decide : 2 + 0 ≤ _), (by decide : 6 + 0 ≤ _)⟩)
  dsimp only [Pt.U, Pt.locs, Pt.cells, Pt.slots] at X4 l4 y4 z4 st4 hQ4
  subst l4 y4 z4
  obtain ⟨rfl, Nq4, sm4⟩ := hQ4
  have N4 := Fr.app N3 Nq4
  refine own_st st4 ?_
  refine s_sipush X4 hx (hb hby dC3_35) ?_
  show own_G p e below _ (T4.setTop (mkF m 38 #[vR b, vI 0, vI 2, vR b1, vI 0, vR t3] [(.int 255), (.int (StrChars.pairCh (L8 c0) (H8 c0)))]))
  refine own_st (fun tq kq => XS.icmpYes X4.here hx rfl (pc0 := 38) (pc' := 54) rfl (hb hby dC3_38) rfl (tlt (by rw [StrChars.pair_says hb0.1 hb0.2]; exact hg)).2.2.1 (by decide) (by decide) kq) ?_
  refine s_aload X4 hx (hb hby dC3_54) rfl rfl ?_
  show own_G p e below _ (T4.setTop (mkF m 56 #[vR b, vI 0, vI 2, vR b1, vI 0, vR t3] [(.ref t3)]))
  obtain ⟨fs, hr, hrun, hended, hW, hsame⟩ := X4.leave (v := some (.ref t3)) (fun h => by rw [Bd.returns] at h; cases h)
  refine ⟨_, _, retOut X4 hx Bd.returns rfl (Or.inr (Or.inr (Or.inr (Or.inr ⟨rfl, rfl, rfl⟩)))) (hb hby dC3_56) hr, hrun, hended, _, _, rfl, ?_, ⟨_, rfl⟩, hW, hsame.mono (by decide) (by decide)⟩
  change Q_own_cm3_2 Z b kC dv c0 c1 h0 n0 _ T4.heap _; rw [sm4]; exact ⟨t3, _, rfl, N4, K3, (by omega), Vt3.lt, Vt3⟩
 ·
  refine s_iloadN X0 hx (hb hby dC3_0) rfl ?_
  obtain ⟨T5, h5, k5, X5, e5, E5, A5, st5⟩ := newP X0 hx hZ (hw _ (List.mem_of_getElem? (i := 16) rfl)) e0 (g := (mkF m 1 #[vR b, vI 0, vI 2, .unset, .unset, .unset] [(.int 2)])) rfl (hb hby dC3_1) rfl (by decide) (cap := 2) (by decide) (by decide) (by decide) (by decide)
  obtain ⟨b5, g5⟩ : ∃ z, z = h0.size := ⟨_, rfl⟩
  rw [← g5] at A5 st5
  have lt5 : b5 < h5.size := A5.lt
  have V5 : Arv Z h5 b5 k5 .byte (2 : Int32) [(.int (0 : Int32)), (.int (0 : Int32))] (.int (0 : Int32)) := (Arv.new A5 (by decide)).pad (pad_rep [] (.int (0 : Int32)) 2)
  have sz5 : h0.size ≤ h5.size := E5.1
  have K5 : Keep h0 h5 [] := K0.ext E5
  refine own_st st5 ?_
  refine own_st (fun tq kq => XS.astoreN X5.here hx rfl (hb hby dC3_3) rfl rfl (l' := #[vR b, vI 0, vI 2, vR b5, .unset, .unset]) rfl kq) ?_
  refine s_aloadN X5 hx (hb hby dC3_4) rfl rfl ?_
  refine s_iloadN X5 hx (hb hby dC3_5) rfl ?_
  refine s_aloadN X5 hx (hb hby dC3_6) rfl rfl ?_
  show own_G p e below _ (T5.setTop (mkF m 7 #[vR b, vI 0, vI 2, vR b5, .unset, .unset] [(.ref b5), (.int 0), (.ref b)]))
  refine s_iconst X5 hx (hb hby dC3_7) ?_
  refine s_iloadN X5 hx (hb hby dC3_8) rfl ?_
  obtain ⟨_, _, ⟨T6, L6, k6, n6⟩, -, X6, ⟨Lc6, hQ6, l6, y6, z6⟩, st6⟩ := Jvm.LawKit.callS X5 hx (y := mN9) hown (mvT hZ (wd42 hw)) (mvT hZ (wd43 hw)) (mvT hZ (wd40 hw)) (mvT hZ (wd44 hw)) (by decide) (own_backN (W := 0) (own_cm5_2_1 l Z a0 hw [] (b) (b5) (kC) (k5) (dv) (c0) (c1) h5 n0 (by omega) (X00.keep K5 all0) (Vb.ext E5) V5 (by omega) (own_ne (by omega)) hl0 hg) hZ (wd44 hw) (wd40 hw) (by decide) (by decide)) (g := (mkF m 9 #[vR b, vI 0, vI 2, vR b5, .unset, .unset] [(.int 2), (.int 0), (.ref b5), (.int 0), (.ref b)])) rfl (by rw [hml]; rfl) (argsL := [(.ref b), (.int 0), (.ref b5), (.int 0), (.int 2)]) (rest := []) (lenOf own_pd4 rfl) rfl (Nat.le_of_eq rfl) (hb hby dC3_9) (fun _ _ => ⟨rfl, e5, (by decide : 1 + 0 ≤ _), (by decide : 2 + 0 ≤ _)⟩)
  dsimp only [Pt.U, Pt.locs, Pt.cells, Pt.slots] at X6 l6 y6 z6 st6 hQ6
  subst l6 y6 z6
  obtain ⟨rfl, Nq6, Kq6⟩ := hQ6
  have KK6 : Keep h5 T6.heap [b5] := Kq6
  have sz6 : h5.size ≤ T6.heap.size := KK6.1
  have K6 : Keep h0 T6.heap [] := K5.trans KK6 (allS (Or.inr (own_le (by omega))) all0)
  have N6 := Fr.app N0 Nq6
  refine own_st st6 ?_
  refine own_st (fun tq kq => XS.istore X6.here hx rfl (hb hby dC3_12) rfl (l' := #[vR b, vI 0, vI 2, vR b5, vI 1, .unset]) rfl kq) ?_
  refine s_iload X6 hx (hb hby dC3_14) rfl ?_
  refine s_iloadN X6 hx (hb hby dC3_16) rfl ?_
  show own_G p e below _ (T6.setTop (mkF m 17 #[vR b, vI 0, vI 2, vR b5, vI 1, .unset] [(.int 2), (.int 1)]))
  refine own_st (fun tq kq => XS.icmpNo X6.here hx rfl (hb hby dC3_17) rfl (feq (by decide : ¬ ((1 : Int32) = (2 : Int32)))).1 kq) ?_
  refine s_aloadN X6 hx (hb hby dC3_20) rfl rfl ?_
  refine s_iloadN X6 hx (hb hby dC3_21) rfl ?_
  refine s_iloadN X6 hx (hb hby dC3_22) rfl ?_
  show own_G p e below _ (T6.setTop (mkF m 23 #[vR b, vI 0, vI 2, vR b5, vI 1, .unset] [(.int 2), (.int 0), (.ref b)]))
  obtain ⟨_, _, ⟨T7, L7, k7, n7⟩, -, X7, ⟨Lc7, hQ7, l7, y7, z7⟩, st7⟩ := Jvm.LawKit.callS X6 hx (y := mN7) hown (mvT hZ (wd74 hw)) (mvT hZ (wd75 hw)) (mvT hZ (wd40 hw)) (mvT hZ (wd76 hw)) (by decide) (own_backN (W := 0) (own_toB2 l Z a0 hw [] (b) (kC) (dv) (c0) (c1) T6.heap n0 (by omega) (X00.keep K6 all0) OA OH OL ((Vb.ext E5).keep KK6 (ninS (own_ne (by omega)) nin0))) hZ (wd76 hw) (wd40 hw) (by decide) (by decide)) (g := (mkF m 23 #[vR b, vI 0, vI 2, vR b5, vI 1, .unset] [(.int 2), (.int 0), (.ref b)])) rfl (by rw [hml]; rfl) (argsL := [(.ref b), (.int 0), (.int 2)]) (rest := []) (lenOf own_pd5 rfl) rfl (Nat.le_of_eq rfl) (hb hby dC3_23) (fun _ _ => ⟨rfl, rfl, (by decide : 1 + 1 ≤ _), (by decide : 2 + 4 ≤ _)⟩)
  dsimp only [Pt.U, Pt.locs, Pt.cells, Pt.slots] at X7 l7 y7 z7 st7 hQ7
  subst l7 y7 z7
  obtain ⟨t7, kb7, rfl, Nq7, Kq7, gt7, lt7, Vt7⟩ := hQ7
  have KK7 : Keep T6.heap T7.heap [] := Kq7
  have sz7 : T6.heap.size ≤ T7.heap.size := KK7.1
  have K7 : Keep h0 T7.heap [] := K6.trans KK7 all0
  have N7 := Fr.app N6 Nq7
  refine own_st st7 ?_
  refine own_st (fun tq kq => XS.astore X7.here hx rfl (hb hby dC3_26) rfl rfl (l' := #[vR b, vI 0, vI 2, vR b5, vI 1, vR t7]) rfl kq) ?_
  refine s_aload X7 hx (hb hby dC3_28) rfl rfl ?_
  refine s_iload X7 hx (hb hby dC3_30) rfl ?_
  obtain ⟨_, _, ⟨T8, L8, k8, n8⟩, -, X8, ⟨Lc8, hQ8, l8, y8, z8⟩, st8⟩ := Jvm.LawKit.callS X7 hx (y := mN2) hown (mvT hZ (wd90 hw)) (mvT hZ (wd91 hw)) (mvT hZ (wd40 hw)) (mvT hZ (wd92 hw)) (by decide) (own_backN (W := 0) (own_get_1 l Z a0 hw [] (t7) (_) (_) (_) (_) (_) T7.heap n0 (by omega) (X00.keep K7 all0) OA OH OL Vt7 (by decide) (by decide) rfl rfl) hZ (wd92 hw) (wd40 hw) (by decide) (by decide)) (g := (mkF m 32 #[vR b, vI 0, vI 2, vR b5, vI 1, vR t7] [(.int 1), (.ref t7)])) rfl (by rw [hml]; rfl) (argsL := [(.ref t7), (.int 1)]) (rest := []) (lenOf own_pd6 rfl) rfl (Nat.le_of_eq rfl) (hb hby dC3_32) (fun _ _ => ⟨rfl, rfl, (by decide : 2 + 0 ≤ _), (by decide : 6 + 0 ≤ _)⟩)
  dsimp only [Pt.U, Pt.locs, Pt.cells, Pt.slots] at X8 l8 y8 z8 st8 hQ8
  subst l8 y8 z8
  obtain ⟨rfl, Nq8, sm8⟩ := hQ8
  have N8 := Fr.app N7 Nq8
  refine own_st st8 ?_
  refine s_sipush X8 hx (hb hby dC3_35) ?_
  show own_G p e below _ (T8.setTop (mkF m 38 #[vR b, vI 0, vI 2, vR b5, vI 1, vR t7] [(.int 255), (.int (StrChars.pairCh (L8 c1) (H8 c1)))]))
  refine own_st (fun tq kq => XS.icmpYes X8.here hx rfl (pc0 := 38) (pc' := 54) rfl (hb hby dC3_38) rfl (tlt (by rw [StrChars.pair_says hb1.1 hb1.2]; exact hg)).2.2.1 (by decide) (by decide) kq) ?_
  refine s_aload X8 hx (hb hby dC3_54) rfl rfl ?_
  show own_G p e below _ (T8.setTop (mkF m 56 #[vR b, vI 0, vI 2, vR b5, vI 1, vR t7] [(.ref t7)]))
  obtain ⟨fs, hr, hrun, hended, hW, hsame⟩ := X8.leave (v := some (.ref t7)) (fun h => by rw [Bd.returns] at h; cases h)
  refine ⟨_, _, retOut X8 hx Bd.returns rfl (Or.inr (Or.inr (Or.inr (Or.inr ⟨rfl, rfl, rfl⟩)))) (hb hby dC3_56) hr, hrun, hended, _, _, rfl, ?_, ⟨_, rfl⟩, hW, hsame.mono (by decide) (by decide)⟩
  change Q_own_cm3_2 Z b kC dv c0 c1 h0 n0 _ T8.heap _; rw [sm8]; exact ⟨t7, _, rfl, N8, K7, (by omega), Vt7.lt, Vt7⟩

def Q_own_n4_2 (Z : State) (x b : Nat) (v0 c_0 dv : Value) (kC : ClassId) (G1 : Int32) (c0 c1 : Int32) (h0 : Heap) (n0 : Nat) (v : Option Value) (h : Heap) (L : List Loc) : Prop := v = none ∧ Fr n0 L ∧ Keep h0 h [x] ∧ ∃ (t : Nat) (kb : ClassId), Fld Z h x "java/lang/String" "value" "[B" (.ref t) ∧ Fld Z h x "java/lang/String" "coder" "B" (.int (1 : Int32)) ∧ Arv Z h t kb .byte (4 : Int32) [.int (L8 c0), .int (H8 c0), .int (L8 c1), .int (H8 c1)] (.int 0)
theorem ef_own_n4_2 (m : MethodId) (x0 : Nat) (x1 : Nat) : entryFrame m #[(.ref x0), (.ref x1), (.int 0), (.int 2), .null] 6 = mkF m 0 #[.val (.ref x0), .val (.ref x1), .val (.int 0), .val (.int 2), .val .null, .unset] [] := by first | (simp [entryFrame, mkF, argsToLocals, Value.category]; done) | rfl
theorem own_n4_2 (l : Launch) (Z : State) (a0 : Array Value) (hw : hWt a0 Z) (ws : List Jvm.Cond) (x b : Nat) (v0 c_0 dv : Value) (kC : ClassId) (G1 : Int32) (c0 c1 : Int32) (h0 : Heap) (n0 : Nat) (Z0 : n0 ≤ h0.size) (X00 : Old Z n0 h0) (Ex : Exa Z h0 x "java/lang/String") (Fv : Fld Z h0 x "java/lang/String" "value" "[B" v0) (Fc : Fld Z h0 x "java/lang/String" "coder" "B" c_0) (gx : n0 ≤ x) (ltx : x < h0.size) (Vb : Arv Z h0 b kC .char (2 : Int32) [.int c0, .int c1] dv) (O2 : Sta Z Z.heap "java/lang/String" "COMPACT_STRINGS" "Z" (.int G1)) (P5 : ¬ (G1 = (0 : Int32))) (OA : oA Z) (OH : oH Z) (OL : oL Z) (hb0 : ¬ c0 < 0 ∧ ¬ (65535 : Int32) < c0) (hb1 : ¬ c1 < 0 ∧ ¬ (65535 : Int32) < c1) (hD : ((255 : Int32) < c0) ∨ (¬ (255 : Int32) < c0 ∧ (255 : Int32) < c1)) :
    MetFree l mN0 (head1 (Jvm.Cond.code mN0 jdk_42_method_149_code 6 none :: ws) rm_4_2_6_95) (fun av_ U => av_ = #[(.ref x), (.ref b), (.int 0), (.int 2), .null] ∧ Z.Warmed39 U.vm ∧ U.heap = h0) (fun _ _ _ _ _ => True) (own_EN (Q_own_n4_2 Z x b v0 c_0 dv kC G1 c0 c1 h0 n0) rm_4_2_6_95) := by
 refine MetFree.of_bodySF (plainFor_of_name own_pn0) hisR ?_
 intro p e s m args below meth c s₁ Bd hml0 hP hK
 obtain ⟨rfl, hZ, hh⟩ := hP
 have hx := Bd.exec
 have hby := Bd.bytes
 have hml : c.maxLocals = 6 := hml0
 have hown : s.vm.findClass "java/lang/String" = some m.cls := findClass_of_methodNamed Bd.named
 have hnm := (name_of_methodNamed Bd.named Bd.method).1
 have X0 : Stand p l e rm_4_2_6_95 s m _ below meth c s₁ [] 0 0 := Stand.of_body Bd
 have e0 : s₁.heap = h0 := by rw [← hh, Bd.state]; rfl
 have N0 := Fr.nil n0
 have K0 : Keep h0 h0 [x] := Keep.refl h0 [x]
 refine show own_G p e below (own_EN (Q_own_n4_2 Z x b v0 c_0 dv kC G1 c0 c1 h0 n0) rm_4_2_6_95 #[(.ref x), (.ref b), (.int 0), (.int 2), .null] s) _ from ?_
 refine own_st (fun tq kq => castTop (ef_own_n4_2 m (x) (b)) kq) ?_
 show own_G p e below _ (s₁.setTop (mkF m 0 #[vR x, vR b, vI 0, vI 2, .val .null, .unset] []))
 have hws0 : ∀ y ∈ [x], n0 ≤ y := allS gx all0
 refine s_aloadN X0 hx (hb hby dN4_0) rfl rfl ?_
 obtain ⟨T1, X1, e1, st1⟩ := initO X0 hx hZ hown (wd12 hw) (wd13 hw) (wd14 hw) e0 (g := (mkF m 1 #[vR x, vR b, vI 0, vI 2, .val .null, .unset] [(.ref x)])) rfl (by rw [hml]; rfl) rfl (hb hby dN4_1) (by decide) (W := 0) (Nat.le_of_eq rfl) (by decide)
 refine own_st st1 ?_
 refine s_iloadN X1 hx (hb hby dN4_4) rfl ?_
 show own_G p e below _ (T1.setTop (mkF m 5 #[vR x, vR b, vI 0, vI 2, .val .null, .unset] [(.int 2)]))
 refine own_st (fun tq kq => XS.ifYes X1.here hx rfl (pc0 := 5) (pc' := 27) rfl (hb hby dN4_5) rfl ((if0 _ _).trans (feq (by decide : ¬ ((2 : Int32) = (0 : Int32)))).2) (by decide) (by decide) kq) ?_
 obtain ⟨T2, X2, e2, st2⟩ := getS2 X1 hx hZ hown (host := "") (Or.inl (wd37 hw)) Via.refl e1 (O2.ext (X00.keep K0 hws0).2) (g := (mkF m 27 #[vR x, vR b, vI 0, vI 2, .val .null, .unset] [])) rfl (hb hby dN4_27)
 refine own_st st2 ?_
 refine own_st (fun tq kq => XS.ifNo X2.here hx rfl (hb hby dN4_30) rfl ((if0 _ _).trans (feq P5).1) kq) ?_
 refine s_aloadN X2 hx (hb hby dN4_33) rfl rfl ?_
 refine s_iloadN X2 hx (hb hby dN4_34) rfl ?_
 refine s_iloadN X2 hx (hb hby dN4_35) rfl ?_
 show own_G p e below _ (T2.setTop (mkF m 36 #[vR x, vR b, vI 0, vI 2, .val .null, .unset] [(.int 2), (.int 0), (.ref b)]))
 obtain ⟨_, _, ⟨T3, L3, k3, n3⟩, -, X3, ⟨Lc3, hQ3, l3, y3, z3⟩, st3⟩ := Jvm.LawKit.callS X2 hx (y := mN10) hown (mvT hZ (wd38 hw)) (mvT hZ (wd39 hw)) (mvT hZ (wd40 hw)) (mvT hZ (wd41 hw)) (by decide) (own_backN (W := 0) (own_cm3_2 l Z a0 hw [] (b) (kC) (dv) (c0) (c1) h0 n0 (by omega) (X00.keep K0 hws0) OA OH OL Vb hb0 hb1 hD) hZ (wd41 hw) (wd40 hw) (by decide) (by decide)) (g := (mkF m 36 #[vR x, vR b, vI 0, vI 2, .val .null, .unset] [(.int 2), (.int 0), (.ref b)])) rfl (by rw [hml]; rfl) (argsL := [(.ref b), (.int 0), (.int 2)]) (rest := []) (lenOf own_pd5 rfl) rfl (Nat.le_of_eq rfl) (hb hby dN4_36) (fun _ _ => ⟨rfl, e2, (by decide : 0 + 2 ≤ _), (by decide : 0 + 6 ≤ _)⟩)
 dsimp only [Pt.U, Pt.locs, Pt.cells, Pt.slots] at X3 l3 y3 z3 st3 hQ3
 subst l3 y3 z3
 obtain ⟨t3, kb3, rfl, Nq3, Kq3, gt3, lt3, Vt3⟩ := hQ3
 have KK3 : Keep h0 T3.heap [] := Kq3
 have sz3 : h0.size ≤ T3.heap.size := KK3.1
 have K3 : Keep h0 T3.heap [x] := K0.trans KK3 all0
 have N3 := Fr.app N0 Nq3
 refine own_st st3 ?_
 refine own_st (fun tq kq => XS.astore X3.here hx rfl (hb hby dN4_39) rfl rfl (l' := #[vR x, vR b, vI 0, vI 2, .val .null, vR t3]) rfl kq) ?_
 refine s_aloadN X3 hx (hb hby dN4_41) rfl rfl ?_
 refine s_aload X3 hx (hb hby dN4_42) rfl rfl ?_
 refine s_iloadN X3 hx (hb hby dN4_44) rfl ?_
 show own_G p e below _ (T3.setTop (mkF m 45 #[vR x, vR b, vI 0, vI 2, .val .null, vR t3] [(.int 2), (.ref t3), (.ref x)]))
 obtain ⟨_, _, ⟨T4, L4, k4, n4⟩, -, X4, ⟨Lc4, hQ4, l4, y4, z4⟩, st4⟩ := Jvm.LawKit.callS X3 hx (y := mN8) hown (mvT hZ (wd45 hw)) (mvT hZ (wd46 hw)) (mvT hZ (wd40 hw)) (mvT hZ (wd47 hw)) (by decide) (own_backN (W := 1) (own_cfl2 l Z a0 hw [] (t3) (_) (_) T3.heap n0 (by omega) (X00.keep K3 hws0) Vt3) hZ (wd47 hw) (wd40 hw) (by decide) (by decide)) (g := (mkF m 45 #[vR x, vR b, vI 0, vI 2, .val .null, vR t3] [(.int 2), (.ref t3), (.ref x)])) rfl (by rw [hml]; rfl) (argsL := [(.ref t3), (.int 2)]) (rest := [(.ref x)]) (lenOf own_pd7 rfl) rfl (Nat.le_of_eq rfl) (hb hby dN4_45) (fun _ _ => ⟨rfl, rfl, (by decide : 2 + 0 ≤ _), (by decide : 6 + 0 ≤ _)⟩)
 dsimp only [Pt.U, Pt.locs, Pt.cells, Pt.slots] at X4 l4 y4 z4 st4 hQ4
 subst l4 y4 z4
 obtain ⟨rfl, Nq4, sm4⟩ := hQ4
 have N4 := Fr.app N3 Nq4
 refine own_st st4 ?_
 obtain ⟨T5, h5, X5, e5, W5, st5⟩ := putF X4 hx hZ hown (host := "") (Or.inl (wd22 hw)) Via.refl sm4 (Fc.keep KK3 nin0) (Ex.keep KK3) (Or.inr ⟨(wd18 hw), rfl, hnm⟩) (wd3 hw) (ty := .byte) (by decide) rfl rfl (g := (mkF m 48 #[vR x, vR b, vI 0, vI 2, .val .null, vR t3] [(.int 1), (.ref x)])) rfl rfl (hb hby dN4_48)
 have Fw5 := (Fc.keep KK3 nin0).same W5
 have sz5 : T3.heap.size ≤ h5.size := (Keep.of_wr W5).1
 have K5 : Keep h0 h5 [x] := K3.wr W5 (Or.inl (by simp))
 have N5 := Fr.snoc X5 N4 (own_le (by omega))
 refine own_st st5 ?_
 refine s_aloadN X5 hx (hb hby dN4_51) rfl rfl ?_
 refine s_aload X5 hx (hb hby dN4_52) rfl rfl ?_
 obtain ⟨T6, h6, X6, e6, W6, st6⟩ := putF X5 hx hZ hown (host := "") (Or.inl (wd21 hw)) Via.refl e5 ((Fv.keep KK3 nin0).other W5 (Or.inr (slot_ne (Or.inr (wd17 hw)) (Or.inr (wd18 hw)) (by decide) (t := (.array .byte)) (t' := .byte) (by decide) (by decide)))) ((Ex.keep KK3).wr W5) (Or.inr ⟨(wd17 hw), rfl, hnm⟩) (wd3 hw) (ty := (.array .byte)) (by decide) rfl rfl (g := (mkF m 54 #[vR x, vR b, vI 0, vI 2, .val .null, vR t3] [(.ref t3), (.ref x)])) rfl rfl (hb hby dN4_54)
 have Fw6 := ((Fv.keep KK3 nin0).other W5 (Or.inr (slot_ne (Or.inr (wd17 hw)) (Or.inr (wd18 hw)) (by decide) (t := (.array .byte)) (t' := .byte) (by decide) (by decide)))).same W6
 have sz6 : h5.size ≤ h6.size := (Keep.of_wr W6).1
 have K6 : Keep h0 h6 [x] := K5.wr W6 (Or.inl (by simp))
 have N6 := Fr.snoc X6 N5 (own_le (by omega))
 refine own_st st6 ?_
 obtain ⟨fs, hr, hrun, hended, hW, hsame⟩ := X6.leave (v := none) (fun _ => rfl)
 refine ⟨_, _, X6.returnOut hx Bd.returns (hb hby dN4_57) hr, hrun, hended, _, _, rfl, ?_, ⟨_, rfl⟩, hW, hsame.mono (by decide) (by decide)⟩
 change Q_own_n4_2 Z x b v0 c_0 dv kC G1 c0 c1 h0 n0 _ T6.heap _; rw [e6]; exact ⟨rfl, N6, K6, t3, _, Fw6, (Fw5.other W6 (Or.inr (slot_ne (Or.inr (wd18 hw)) (Or.inr (wd17 hw)) (by decide) (t := .byte) (t' := (.array .byte)) (by decide) (by decide)))), ((Vt3.other W5 (own_ne (by omega))).other W6 (own_ne (by omega)))⟩

def Q_own_n1_2 (Z : State) (x b : Nat) (v0 c_0 dv : Value) (kC : ClassId) (G1 : Int32) (c0 c1 : Int32) (h0 : Heap) (n0 : Nat) (v : Option Value) (h : Heap) (L : List Loc) : Prop := v = none ∧ Fr n0 L ∧ Keep h0 h [x] ∧ ∃ (t : Nat) (kb : ClassId), Fld Z h x "java/lang/String" "value" "[B" (.ref t) ∧ Fld Z h x "java/lang/String" "coder" "B" (.int (1 : Int32)) ∧ Arv Z h t kb .byte (4 : Int32) [.int (L8 c0), .int (H8 c0), .int (L8 c1), .int (H8 c1)] (.int 0)
theorem ef_own_n1_2 (m : MethodId) (x0 : Nat) (x1 : Nat) : entryFrame m #[(.ref x0), (.ref x1)] 2 = mkF m 0 #[.val (.ref x0), .val (.ref x1)] [] := by first | (simp [entryFrame, mkF, argsToLocals, Value.category]; done) | rfl
theorem own_n1_2 (l : Launch) (Z : State) (a0 : Array Value) (hw : hWt a0 Z) (ws : List Jvm.Cond) (x b : Nat) (v0 c_0 dv : Value) (kC : ClassId) (G1 : Int32) (c0 c1 : Int32) (h0 : Heap) (n0 : Nat) (Z0 : n0 ≤ h0.size) (X00 : Old Z n0 h0) (Ex : Exa Z h0 x "java/lang/String") (Fv : Fld Z h0 x "java/lang/String" "value" "[B" v0) (Fc : Fld Z h0 x "java/lang/String" "coder" "B" c_0) (gx : n0 ≤ x) (ltx : x < h0.size) (Vb : Arv Z h0 b kC .char (2 : Int32) [.int c0, .int c1] dv) (O2 : Sta Z Z.heap "java/lang/String" "COMPACT_STRINGS" "Z" (.int G1)) (P5 : ¬ (G1 = (0 : Int32))) (OA : oA Z) (OH : oH Z) (OL : oL Z) (hb0 : ¬ c0 < 0 ∧ ¬ (65535 : Int32) < c0) (hb1 : ¬ c1 < 0 ∧ ¬ (65535 : Int32) < c1) (hD : ((255 : Int32) < c0) ∨ (¬ (255 : Int32) < c0 ∧ (255 : Int32) < c1)) :
    MetFree l mN1 (head1 (Jvm.Cond.code mN1 jdk_42_method_3_code 2 none :: ws) rm_5_2_6_115) (fun av_ U => av_ = #[(.ref x), (.ref b)] ∧ Z.Warmed39 U.vm ∧ U.heap = h0) (fun _ _ _ _ _ => True) (own_EN (Q_own_n1_2 Z x b v0 c_0 dv kC G1 c0 c1 h0 n0) rm_5_2_6_115) := by
 refine MetFree.of_bodySF (plainFor_of_name own_pn0) hisR ?_
 intro p e s m args below meth c s₁ Bd hml0 hP hK
 obtain ⟨rfl, hZ, hh⟩ := hP
 have hx := Bd.exec
 have hby := Bd.bytes
 have hml : c.maxLocals = 2 := hml0
 have hown : s.vm.findClass "java/lang/String" = some m.cls := findClass_of_methodNamed Bd.named
 have hnm := (name_of_methodNamed Bd.named Bd.method).1
 have X0 : Stand p l e rm_5_2_6_115 s m _ below meth c s₁ [] 0 0 := Stand.of_body Bd
 have e0 : s₁.heap = h0 := by rw [← hh, Bd.state]; rfl
 have N0 := Fr.nil n0
 have K0 : Keep h0 h0 [x] := Keep.refl h0 [x]
 refine show own_G p e below (own_EN (Q_own_n1_2 Z x b v0 c_0 dv kC G1 c0 c1 h0 n0) rm_5_2_6_115 #[(.ref x), (.ref b)] s) _ from ?_
 refine own_st (fun tq kq => castTop (ef_own_n1_2 m (x) (b)) kq) ?_
 show own_G p e below _ (s₁.setTop (mkF m 0 #[vR x, vR b] []))
 have hws0 : ∀ y ∈ [x], n0 ≤ y := allS gx all0
 refine s_aloadN X0 hx (hb hby dN1_0) rfl rfl ?_
 refine s_aloadN X0 hx (hb hby dN1_1) rfl rfl ?_
 refine s_iconst X0 hx (hb hby dN1_2) ?_
 refine s_aloadN X0 hx (hb hby dN1_3) rfl rfl ?_
 show own_G p e below _ (s₁.setTop (mkF m 4 #[vR x, vR b] [(.ref b), (.int 0), (.ref b), (.ref x)]))
 obtain ⟨cl1, Ar1, q1, S_1, N_1, H_1, G_1⟩ := id Vb
 refine own_st (fun tq kq => X0.arraylength hx (by rw [e0]; exact Ar1.1) (State.isArrayOf_alike hZ.alike Ar1.2.1) (g := (mkF m 4 #[vR x, vR b] [(.ref b), (.int 0), (.ref b), (.ref x)])) rfl rfl (hb hby dN1_4) _ kq) ?_
 rw [len_of S_1 N_1]
 show own_G p e below _ (s₁.setTop (mkF m 5 #[vR x, vR b] [(.int 2), (.int 0), (.ref b), (.ref x)]))
 refine own_st (fun tq kq => XS.aconstNull X0.here hx rfl (hb hby dN1_5) kq) ?_
 obtain ⟨_, _, ⟨T2, L2, k2, n2⟩, -, X2, ⟨Lc2, hQ2, l2, y2, z2⟩, st2⟩ := X0.specialBack hx (y := mN0) rfl hown (mvT hZ (wd8 hw)) (mvT hZ (wd9 hw)) (mvT hZ (wd11 hw)) (by decide) (own_backN (W := 0) (own_n4_2 l Z a0 hw [] (x) (b) (v0) (c_0) (dv) (kC) (G1) (c0) (c1) h0 n0 (by omega) (X00.keep K0 hws0) Ex Fv Fc gx ltx Vb O2 P5 OA OH OL hb0 hb1 hD) hZ (wd11 hw) (wd4 hw) (by decide) (by decide)) (g := (mkF m 6 #[vR x, vR b] [.null, (.int 2), (.int 0), (.ref b), (.ref x)])) rfl (by rw [hml]; rfl) (Steps.refl _) (a := x) (argsL := [(.ref b), (.int 0), (.int 2), .null]) (rest := []) (lenOf own_pd0 rfl) rfl (Nat.le_of_eq rfl) (hb hby dN1_6) (fun _ _ => ⟨rfl, e0, (by decide : 0 + 2 ≤ _), (by decide : 0 + 6 ≤ _)⟩)
 dsimp only [Pt.U, Pt.locs, Pt.cells, Pt.slots] at X2 l2 y2 z2 st2 hQ2
 subst l2 y2 z2
 obtain ⟨rfl, Nq2, Kq2, R2⟩ := hQ2
 have KK2 : Keep h0 T2.heap [x] := Kq2
 have sz2 : h0.size ≤ T2.heap.size := KK2.1
 have K2 : Keep h0 T2.heap [x] := K0.trans KK2 (allS (Or.inl (by simp)) all0)
 have N2 := Fr.app N0 Nq2
 refine own_st (fun tq kq => st2.trans kq) ?_
 obtain ⟨fs, hr, hrun, hended, hW, hsame⟩ := X2.leave (v := none) (fun _ => rfl)
 refine ⟨_, _, X2.returnOut hx Bd.returns (hb hby dN1_9) hr, hrun, hended, _, _, rfl, ?_, ⟨_, rfl⟩, hW, hsame.mono (by decide) (by decide)⟩
 change Q_own_n1_2 Z x b v0 c_0 dv kC G1 c0 c1 h0 n0 _ T2.heap _; exact ⟨rfl, N2, K2, R2⟩

set_option maxRecDepth 65536 in
set_option maxHeartbeats 40000000 in
theorem own_newU2 {p : Program} {l : Launch} {e : Env} {R : Room} {s : State} {args : Array Value} {below : List Frame} {len W : Nat} {Z : State} {a0 : Array Value} {h : Heap} {vm0 : Vm} (hZ : Z.Warmed39 vm0) (hw : ∀ d ∈ tables_1, d.before a0 Z = true) (hEL : EW Z a0 consts_1) (H : CHv Z consts_1 vm0 h)
    {x b : Nat} {kC : ClassId} {c0 c1 : Int32} {d v0 c_0 : Value} {z : Int32} {n0 : Nat} (hs : Safe Z consts_1 vm0 h x) (hx0 : n0 ≤ x) (X00 : Old Z n0 h) (E : Exa Z h x "java/lang/String") (V : Fld Z h x "java/lang/String" "value" "[B" v0) (F : Fld Z h x "java/lang/String" "coder" "B" c_0) (K : Arv Z h b kC .char (2 : Int32) [.int c0, .int c1] d) (S : Sta Z Z.heap "java/lang/String" "COMPACT_STRINGS" "Z" (.int z)) (hz : ¬ z = 0) (OA : oA Z) (OH : oH Z) (OL : oL Z)
    (hp : ∀ c ∈ ([c0, c1] : List Int32), ¬ c < 0 ∧ ¬ (65535 : Int32) < c) (hfr : 6 ≤ R.frames) (hlo : W + 128 ≤ R.locals) :
    BackS l R p e below (s.setVm vm0) args (⟨"java/lang/String", "<init>", "([C)V"⟩ : MethodName) len W (fun P a => a = #[.ref x, .ref b] ∧ P.U.heap = h ∧ P.cells + 2 ≤ R.cells ∧ P.slots + 10 ≤ R.slots)
      (fun P _ v B => ∃ L, own_QU Z x ([c0, c1] : List Int32) h n0 v B.U.heap L ∧ B.locs = P.locs ++ L ∧ B.cells = P.cells + 2 ∧ B.slots = P.slots + 10 ∧ CHr Z consts_1 vm0 h B.U.vm B.U.heap) := by
  have hh0 : n0 ≤ h.size := by have := X00.1; have := X00.2.1; omega
  have key : (((255 : Int32) < c0) ∨ (¬ (255 : Int32) < c0 ∧ (255 : Int32) < c1)) ∨ (¬ (255 : Int32) < c0 ∧ ¬ (255 : Int32) < c1) := by
    by_cases hl0 : (255 : Int32) < c0
    · exact Or.inl (Or.inl hl0)
    by_cases hl1 : (255 : Int32) < c1
    · exact Or.inl (Or.inr (⟨hl0, hl1⟩))
    exact Or.inr ⟨hl0, hl1⟩
  rcases key with hD | hL
  · have hex : ∃ c ∈ ([c0, c1] : List Int32), 255 < c := by
     rcases hD with hg | ⟨-, hg⟩
     · exact ⟨c0, by simp, hg⟩
     · exact ⟨c1, by simp, hg⟩
    intro m meth c P g ig mk a X hg hsize hdg hW hnn hp'
    obtain ⟨v, B, Y, ⟨L, hQ, e1, e2, e3⟩, st⟩ := own_backN (rm := rm_5_2_6_115) (R := R) (W := W) (s := s.setVm vm0) (own_n1_2 l Z a0 hw [] x b v0 c_0 d kC z c0 c1 h n0 hh0 X00 E V F hx0 E.lt K S hz OA OH OL (hp _ (by simp)) (hp _ (by simp)) hD) hZ (wd7 hw) (wd4 hw) (by show 5 + 1 ≤ _; omega) (by show W + (2 + 11) + 115 ≤ _; omega) m meth c P g ig mk a X hg hsize hdg hW hnn ⟨hp'.1, hp'.2.1, Nat.le_trans (by show _ + 2 ≤ _ + 2; exact Nat.le_refl _) hp'.2.2.1, Nat.le_trans (by show _ + 6 ≤ _ + 10; exact Nat.add_le_add_left (by decide) _) hp'.2.2.2⟩
    obtain ⟨BU, BL, Bc, Bs⟩ := B
    dsimp only [Pt.U, Pt.locs, Pt.cells, Pt.slots] at Y hQ e1 e2 e3 st
    obtain ⟨r1, r2, r3, t, kb, r5, r6, r7⟩ := hQ
    have hCH : CHr Z consts_1 vm0 h vm0 BU.heap := CHr.keep r3 (allS hs all0) H
    have Y2 : Stand p l e R (s.setVm vm0) m args below meth c BU BL (P.cells + 2) (P.slots + 10) := Y.mono (by rw [e2]; exact Nat.le_refl _) (by rw [e3]; exact Nat.add_le_add_left (by decide) _)
    refine ⟨v, ⟨BU, BL, P.cells + 2, P.slots + 10⟩, Y2.retabled Y2.warmed.wide, Y2.warmed.since _, ?_, ⟨L, ⟨r1, r2, r3, r5.lt, E.keep r3, hp, by simp, t, kb, 1, _, _, r7.lt, r5, r6, r7, Or.inr ⟨rfl, rfl, rfl, hex⟩⟩, e1, rfl, rfl, hCH.trans (CHv.at (s := s) (vm0 := vm0) Y2 hZ hEL hCH.1)⟩, st⟩
    show P.U.heap.size ≤ BU.heap.size
    rw [hp'.2.1]; exact r3.1
  obtain ⟨hl0, hl1⟩ := hL
  have hp2 : ∀ c ∈ ([c0, c1] : List Int32), ¬ c < 0 ∧ ¬ (255 : Int32) < c := by
    intro c hc
    simp only [List.mem_cons, List.not_mem_nil, or_false] at hc
    rcases hc with rfl | rfl
    · exact ⟨(hp _ (by simp)).1, hl0⟩
    · exact ⟨(hp _ (by simp)).1, hl1⟩
  intro m meth c P g ig mk a X hg hsize hdg hW hnn hp'
  obtain ⟨v, B, Y, q1, q2, ⟨L, hQ, e1, e2, e3, hc⟩, st⟩ := own_newStr (R := R) (W := W) (s := s) (vm0 := vm0) hZ hw hEL H (cs := ([c0, c1] : List Int32)) (n := 2) (n0 := n0) hs hx0 X00 E V F K S hz rfl rfl (by decide) hp2 (by omega) (by omega) m meth c P g ig mk a X hg hsize hdg hW hnn ⟨hp'.1, hp'.2.1, hp'.2.2.1, Nat.le_trans (Nat.add_le_add_left (by decide) _) hp'.2.2.2⟩
  obtain ⟨BU, BL, Bc, Bs⟩ := B
  dsimp only [Pt.U, Pt.locs, Pt.cells, Pt.slots] at Y q1 q2 hQ e1 e2 e3 st hc
  have Y2 : Stand p l e R ((s.setVm vm0).setVm BU.vm) m args below meth c BU BL (P.cells + 2) (P.slots + 10) := Y.mono (by rw [e2]; exact Nat.le_refl _) (by rw [e3]; exact Nat.add_le_add_left (by decide) _)
  exact ⟨v, ⟨BU, BL, P.cells + 2, P.slots + 10⟩, Y2, q1, q2, ⟨L, ⟨hQ.1, hQ.2.1, hQ.2.2.1, hQ.2.2.2.toU⟩, e1, rfl, rfl, hc⟩, st⟩

def Q_own_ulen3 (Z : State) (t : Nat) (kb : ClassId) (vs : List Value) (h0 : Heap) (n0 : Nat) (v : Option Value) (h : Heap) (L : List Loc) : Prop := v = some (.int (3 : Int32)) ∧ Fr n0 L ∧ h = h0
theorem ef_own_ulen3 (m : MethodId) (x0 : Nat) : entryFrame m #[(.ref x0)] 1 = mkF m 0 #[.val (.ref x0)] [] := by first | (simp [entryFrame, mkF, argsToLocals, Value.category]; done) | rfl
theorem own_ulen3 (l : Launch) (Z : State) (a0 : Array Value) (hw : hWt a0 Z) (ws : List Jvm.Cond) (t : Nat) (kb : ClassId) (vs : List Value) (h0 : Heap) (n0 : Nat) (Z0 : n0 ≤ h0.size) (X00 : Old Z n0 h0) (Vt : Arv Z h0 t kb .byte (6 : Int32) vs (.int 0)) :
    MetFree l mN3 (head1 (Jvm.Cond.code mN3 jdk_52_method_6_code 1 (some .int) :: ws) rm_0_0_0_0) (fun av_ U => av_ = #[(.ref t)] ∧ Z.Warmed39 U.vm ∧ U.heap = h0) (fun _ _ _ _ _ => True) (own_EN (Q_own_ulen3 Z t kb vs h0 n0) rm_0_0_0_0) := by
 refine MetFree.of_bodySF (plainFor_of_name own_pn1) hisR ?_
 intro p e s m args below meth c s₁ Bd hml0 hP hK
 obtain ⟨rfl, hZ, hh⟩ := hP
 have hx := Bd.exec
 have hby := Bd.bytes
 have hml : c.maxLocals = 1 := hml0
 have hown : s.vm.findClass "java/lang/StringUTF16" = some m.cls := findClass_of_methodNamed Bd.named
 have X0 : Stand p l e rm_0_0_0_0 s m _ below meth c s₁ [] 0 0 := Stand.of_body Bd
 have e0 : s₁.heap = h0 := by rw [← hh, Bd.state]; rfl
 have N0 := Fr.nil n0
 have K0 : Keep h0 h0 [] := Keep.refl h0 []
 refine show own_G p e below (own_EN (Q_own_ulen3 Z t kb vs h0 n0) rm_0_0_0_0 #[(.ref t)] s) _ from ?_
 refine own_st (fun tq kq => castTop (ef_own_ulen3 m (t)) kq) ?_
 show own_G p e below _ (s₁.setTop (mkF m 0 #[vR t] []))
 refine s_aloadN X0 hx (hb hby dUL_0) rfl rfl ?_
 obtain ⟨cl1, Ar1, q1, S_1, N_1, H_1, G_1⟩ := id Vt
 refine own_st (fun tq kq => X0.arraylength hx (by rw [e0]; exact Ar1.1) (State.isArrayOf_alike hZ.alike Ar1.2.1) (g := (mkF m 1 #[vR t] [(.ref t)])) rfl rfl (hb hby dUL_1) _ kq) ?_
 rw [len_of S_1 N_1]
 show own_G p e below _ (s₁.setTop (mkF m 2 #[vR t] [(.int 6)]))
 refine s_iconst X0 hx (hb hby dUL_2) ?_
 refine own_st (fun tq kq => XS.ishr X0.here hx rfl (hb hby dUL_3) rfl kq) ?_
 show own_G p e below _ (s₁.setTop (mkF m 4 #[vR t] [(.int 3)]))
 obtain ⟨fs, hr, hrun, hended, hW, hsame⟩ := X0.leave (v := some (.int 3)) (fun h => by rw [Bd.returns] at h; cases h)
 refine ⟨_, _, retOut X0 hx Bd.returns rfl (Or.inl ⟨rfl, by simp, _, rfl⟩) (hb hby dUL_4) hr, hrun, hended, _, _, rfl, ?_, ⟨_, rfl⟩, hW, hsame.mono (by decide) (by decide)⟩
 change Q_own_ulen3 Z t kb vs h0 n0 _ s₁.heap _; rw [e0]; exact ⟨rfl, N0, rfl⟩

def Q_own_nlen3 (Z : State)  (h0 : Heap) (n0 : Nat) (v : Option Value) (h : Heap) (L : List Loc) : Prop := v = some (.int (6 : Int32)) ∧ Fr n0 L ∧ h = h0
theorem ef_own_nlen3 (m : MethodId)  : entryFrame m #[(.int 3)] 1 = mkF m 0 #[.val (.int 3)] [] := by first | (simp [entryFrame, mkF, argsToLocals, Value.category]; done) | rfl
theorem own_nlen3 (l : Launch) (Z : State) (a0 : Array Value) (hw : hWt a0 Z) (ws : List Jvm.Cond)  (h0 : Heap) (n0 : Nat) (Z0 : n0 ≤ h0.size) (X00 : Old Z n0 h0)  :
    MetFree l mN4 (head1 (Jvm.Cond.code mN4 jdk_52_method_3_code 1 (some .int) :: ws) rm_0_0_0_0) (fun av_ U => av_ = #[(.int 3)] ∧ Z.Warmed39 U.vm ∧ U.heap = h0) (fun _ _ _ _ _ => True) (own_EN (Q_own_nlen3 Z  h0 n0) rm_0_0_0_0) := by
 refine MetFree.of_bodySF (plainFor_of_name own_pn1) hisR ?_
 intro p e s m args below meth c s₁ Bd hml0 hP hK
 obtain ⟨rfl, hZ, hh⟩ := hP
 have hx := Bd.exec
 have hby := Bd.bytes
 have hml : c.maxLocals = 1 := hml0
 have hown : s.vm.findClass "java/lang/StringUTF16" = some m.cls := findClass_of_methodNamed Bd.named
 have X0 : Stand p l e rm_0_0_0_0 s m _ below meth c s₁ [] 0 0 := Stand.of_body Bd
 have e0 : s₁.heap = h0 := by rw [← hh, Bd.state]; rfl
 have N0 := Fr.nil n0
 have K0 : Keep h0 h0 [] := Keep.refl h0 []
 refine show own_G p e below (own_EN (Q_own_nlen3 Z  h0 n0) rm_0_0_0_0 #[(.int 3)] s) _ from ?_
 refine own_st (fun tq kq => castTop (ef_own_nlen3 m ) kq) ?_
 show own_G p e below _ (s₁.setTop (mkF m 0 #[vI 3] []))
 refine s_iloadN X0 hx (hb hby dNL_0) rfl ?_
 show own_G p e below _ (s₁.setTop (mkF m 1 #[vI 3] [(.int 3)]))
 refine own_st (fun tq kq => XS.ifYes X0.here hx rfl (pc0 := 1) (pc' := 12) rfl (hb hby dNL_1) rfl ((if0 _ _).trans (flt (by decide : ¬ ((3 : Int32) < (0 : Int32)))).2.1) (by decide) (by decide) kq) ?_
 refine s_iloadN X0 hx (hb hby dNL_12) rfl ?_
 refine own_st (fun tq kq => X0.ldcInt hx hown (mvT hZ (wd83 hw)) (g := (mkF m 13 #[vI 3] [(.int 3)])) rfl (hb hby dNL_13) _ kq) ?_
 show own_G p e below _ (s₁.setTop (mkF m 15 #[vI 3] [(.int 1073741823), (.int 3)]))
 refine own_st (fun tq kq => XS.icmpYes X0.here hx rfl (pc0 := 15) (pc' := 55) rfl (hb hby dNL_15) rfl (tlt (by decide : ((3 : Int32) < (1073741823 : Int32)))).1 (by decide) (by decide) kq) ?_
 refine s_iloadN X0 hx (hb hby dNL_55) rfl ?_
 refine s_iconst X0 hx (hb hby dNL_56) ?_
 refine own_st (fun tq kq => XS.ishl X0.here hx rfl (hb hby dNL_57) rfl kq) ?_
 show own_G p e below _ (s₁.setTop (mkF m 58 #[vI 3] [(.int 6)]))
 obtain ⟨fs, hr, hrun, hended, hW, hsame⟩ := X0.leave (v := some (.int 6)) (fun h => by rw [Bd.returns] at h; cases h)
 refine ⟨_, _, retOut X0 hx Bd.returns rfl (Or.inl ⟨rfl, by simp, _, rfl⟩) (hb hby dNL_58) hr, hrun, hended, _, _, rfl, ?_, ⟨_, rfl⟩, hW, hsame.mono (by decide) (by decide)⟩
 change Q_own_nlen3 Z  h0 n0 _ s₁.heap _; rw [e0]; exact ⟨rfl, N0, rfl⟩

def Q_own_nfor3 (Z : State)  (h0 : Heap) (n0 : Nat) (v : Option Value) (h : Heap) (L : List Loc) : Prop := ∃ (t : Nat) (kb : ClassId), v = some (.ref t) ∧ Fr n0 L ∧ Keep h0 h [] ∧ h0.size ≤ t ∧ t < h.size ∧ Arv Z h t kb .byte (6 : Int32) [.int (0 : Int32), .int (0 : Int32), .int (0 : Int32), .int (0 : Int32), .int (0 : Int32), .int (0 : Int32)] (.int 0)
theorem ef_own_nfor3 (m : MethodId)  : entryFrame m #[(.int 3)] 1 = mkF m 0 #[.val (.int 3)] [] := by first | (simp [entryFrame, mkF, argsToLocals, Value.category]; done) | rfl
theorem own_nfor3 (l : Launch) (Z : State) (a0 : Array Value) (hw : hWt a0 Z) (ws : List Jvm.Cond)  (h0 : Heap) (n0 : Nat) (Z0 : n0 ≤ h0.size) (X00 : Old Z n0 h0)  :
    MetFree l mN5 (head1 (Jvm.Cond.code mN5 jdk_52_method_2_code 1 (some (.array .byte)) :: ws) rm_1_1_6_14) (fun av_ U => av_ = #[(.int 3)] ∧ Z.Warmed39 U.vm ∧ U.heap = h0) (fun _ _ _ _ _ => True) (own_EN (Q_own_nfor3 Z  h0 n0) rm_1_1_6_14) := by
 refine MetFree.of_bodySF (plainFor_of_name own_pn1) hisR ?_
 intro p e s m args below meth c s₁ Bd hml0 hP hK
 obtain ⟨rfl, hZ, hh⟩ := hP
 have hx := Bd.exec
 have hby := Bd.bytes
 have hml : c.maxLocals = 1 := hml0
 have hown : s.vm.findClass "java/lang/StringUTF16" = some m.cls := findClass_of_methodNamed Bd.named
 have X0 : Stand p l e rm_1_1_6_14 s m _ below meth c s₁ [] 0 0 := Stand.of_body Bd
 have e0 : s₁.heap = h0 := by rw [← hh, Bd.state]; rfl
 have N0 := Fr.nil n0
 have K0 : Keep h0 h0 [] := Keep.refl h0 []
 refine show own_G p e below (own_EN (Q_own_nfor3 Z  h0 n0) rm_1_1_6_14 #[(.int 3)] s) _ from ?_
 refine own_st (fun tq kq => castTop (ef_own_nfor3 m ) kq) ?_
 show own_G p e below _ (s₁.setTop (mkF m 0 #[vI 3] []))
 refine s_iloadN X0 hx (hb hby dNF_0) rfl ?_
 obtain ⟨_, _, ⟨T1, L1, k1, n1⟩, -, X1, ⟨Lc1, hQ1, l1, y1, z1⟩, st1⟩ := Jvm.LawKit.callS X0 hx (y := mN4) hown (mvT hZ (wd80 hw)) (mvT hZ (wd81 hw)) (mvT hZ (wd40 hw)) (mvT hZ (wd82 hw)) (by decide) (own_backN (W := 0) (own_nlen3 l Z a0 hw []  h0 n0 (by omega) (X00.keep K0 all0) ) hZ (wd82 hw) (wd40 hw) (by decide) (by decide)) (g := (mkF m 1 #[vI 3] [(.int 3)])) rfl (by rw [hml]; rfl) (argsL := [(.int 3)]) (rest := []) (lenOf own_pd1 rfl) rfl (Nat.le_of_eq rfl) (hb hby dNF_1) (fun _ _ => ⟨rfl, e0, (by decide : 0 + 0 ≤ _), (by decide : 0 + 0 ≤ _)⟩)
 dsimp only [Pt.U, Pt.locs, Pt.cells, Pt.slots] at X1 l1 y1 z1 st1 hQ1
 subst l1 y1 z1
 obtain ⟨rfl, Nq1, sm1⟩ := hQ1
 have N1 := Fr.app N0 Nq1
 refine own_st st1 ?_
 obtain ⟨T2, h2, k2, X2, e2, E2, A2, st2⟩ := newP X1 hx hZ (hw _ (List.mem_of_getElem? (i := 16) rfl)) sm1 (g := (mkF m 4 #[vI 3] [(.int 6)])) rfl (hb hby dNF_4) rfl (by decide) (cap := 6) (by decide) (by decide) (by decide) (by decide)
 obtain ⟨b2, g2⟩ : ∃ z, z = h0.size := ⟨_, rfl⟩
 rw [← g2] at A2 st2
 have lt2 : b2 < h2.size := A2.lt
 have V2 : Arv Z h2 b2 k2 .byte (6 : Int32) [(.int (0 : Int32)), (.int (0 : Int32)), (.int (0 : Int32)), (.int (0 : Int32)), (.int (0 : Int32)), (.int (0 : Int32))] (.int (0 : Int32)) := (Arv.new A2 (by decide)).pad (pad_rep [] (.int (0 : Int32)) 6)
 have sz2 : h0.size ≤ h2.size := E2.1
 have K2 : Keep h0 h2 [] := K0.ext E2
 refine own_st st2 ?_
 obtain ⟨fs, hr, hrun, hended, hW, hsame⟩ := X2.leave (v := some (.ref b2)) (fun h => by rw [Bd.returns] at h; cases h)
 refine ⟨_, _, retOut X2 hx Bd.returns rfl (Or.inr (Or.inr (Or.inr (Or.inr ⟨rfl, rfl, rfl⟩)))) (hb hby dNF_6) hr, hrun, hended, _, _, rfl, ?_, ⟨_, rfl⟩, hW, hsame.mono (by decide) (by decide)⟩
 change Q_own_nfor3 Z  h0 n0 _ T2.heap _; rw [e2]; exact ⟨b2, _, rfl, N1, K2, (by omega), (by omega), V2⟩

def Q_own_put3_0 (Z : State) (t : Nat) (kb : ClassId) (ch : Int32) (bt0 bt1 bt2 bt3 bt4 bt5 : Int32) (h0 : Heap) (n0 : Nat) (v : Option Value) (h : Heap) (L : List Loc) : Prop := v = none ∧ Fr n0 L ∧ Keep h0 h [t] ∧ Arv Z h t kb .byte (6 : Int32) [.int (L8 ch), .int (H8 ch), .int bt2, .int bt3, .int bt4, .int bt5] (.int 0)
theorem ef_own_put3_0 (m : MethodId) (x0 : Nat) (x2 : Int32) : entryFrame m #[(.ref x0), (.int 0), (.int x2)] 3 = mkF m 0 #[.val (.ref x0), .val (.int 0), .val (.int x2)] [] := by first | (simp [entryFrame, mkF, argsToLocals, Value.category]; done) | rfl
theorem own_put3_0 (l : Launch) (Z : State) (a0 : Array Value) (hw : hWt a0 Z) (ws : List Jvm.Cond) (t : Nat) (kb : ClassId) (ch : Int32) (bt0 bt1 bt2 bt3 bt4 bt5 : Int32) (h0 : Heap) (n0 : Nat) (Z0 : n0 ≤ h0.size) (X00 : Old Z n0 h0) (OA : oA Z) (OH : oH Z) (OL : oL Z) (Vt : Arv Z h0 t kb .byte (6 : Int32) [.int bt0, .int bt1, .int bt2, .int bt3, .int bt4, .int bt5] (.int 0)) (gt : n0 ≤ t) :
    MetFree l mN6 (head1 (Jvm.Cond.code mN6 jdk_52_method_4_code 3 none :: ws) rm_0_0_0_0) (fun av_ U => av_ = #[(.ref t), (.int 0), (.int ch)] ∧ Z.Warmed39 U.vm ∧ U.heap = h0) (fun _ _ _ _ _ => True) (own_EN (Q_own_put3_0 Z t kb ch bt0 bt1 bt2 bt3 bt4 bt5 h0 n0) rm_0_0_0_0) := by
 refine MetFree.of_bodySF (plainFor_of_name own_pn1) hisR ?_
 intro p e s m args below meth c s₁ Bd hml0 hP hK
 obtain ⟨rfl, hZ, hh⟩ := hP
 have hx := Bd.exec
 have hby := Bd.bytes
 have hml : c.maxLocals = 3 := hml0
 have hown : s.vm.findClass "java/lang/StringUTF16" = some m.cls := findClass_of_methodNamed Bd.named
 have X0 : Stand p l e rm_0_0_0_0 s m _ below meth c s₁ [] 0 0 := Stand.of_body Bd
 have e0 : s₁.heap = h0 := by rw [← hh, Bd.state]; rfl
 have N0 := Fr.nil n0
 have K0 : Keep h0 h0 [t] := Keep.refl h0 [t]
 refine show own_G p e below (own_EN (Q_own_put3_0 Z t kb ch bt0 bt1 bt2 bt3 bt4 bt5 h0 n0) rm_0_0_0_0 #[(.ref t), (.int 0), (.int ch)] s) _ from ?_
 refine own_st (fun tq kq => castTop (ef_own_put3_0 m (t) (ch)) kq) ?_
 show own_G p e below _ (s₁.setTop (mkF m 0 #[vR t, vI 0, vI ch] []))
 have hws0 : ∀ y ∈ [t], n0 ≤ y := allS gt all0
 obtain ⟨T1, X1, e1, st1⟩ := getS2 X0 hx hZ hown (host := "") (Or.inl (wd87 hw)) Via.refl e0 (OA.ext (X00.keep K0 hws0).2) (g := (mkF m 0 #[vR t, vI 0, vI ch] [])) rfl (hb hby dPU_0)
 refine own_st st1 ?_
 refine own_st (fun tq kq => XS.ifYes X1.here hx rfl (pc0 := 3) (pc' := 28) rfl (hb hby dPU_3) rfl ((if0 _ _).trans (feq (by decide : ¬ ((1 : Int32) = (0 : Int32)))).2) (by decide) (by decide) kq) ?_
 refine s_iloadN X1 hx (hb hby dPU_28) rfl ?_
 refine s_iconst X1 hx (hb hby dPU_29) ?_
 refine own_st (fun tq kq => XS.ishl X1.here hx rfl (hb hby dPU_30) rfl kq) ?_
 show own_G p e below _ (T1.setTop (mkF m 31 #[vR t, vI 0, vI ch] [(.int 0)]))
 refine own_st (fun tq kq => XS.istoreN X1.here hx rfl (hb hby dPU_31) rfl (l' := #[vR t, vI 0, vI ch]) rfl kq) ?_
 refine s_aloadN X1 hx (hb hby dPU_32) rfl rfl ?_
 refine s_iloadN X1 hx (hb hby dPU_33) rfl ?_
 refine own_st (fun tq kq => XS.iinc X1.here hx rfl (hb hby dPU_34) rfl (l' := #[vR t, vI 1, vI ch]) rfl kq) ?_
 show own_G p e below _ (T1.setTop (mkF m 37 #[vR t, vI 1, vI ch] [(.int 0), (.ref t)]))
 refine s_iloadN X1 hx (hb hby dPU_37) rfl ?_
 obtain ⟨T2, X2, e2, st2⟩ := getS2 X1 hx hZ hown (host := "") (Or.inl (wd88 hw)) Via.refl e1 (OH.ext (X00.keep K0 hws0).2) (g := (mkF m 38 #[vR t, vI 1, vI ch] [(.int ch), (.int 0), (.ref t)])) rfl (hb hby dPU_38)
 refine own_st st2 ?_
 refine own_st (fun tq kq => XS.ishr X2.here hx rfl (hb hby dPU_41) rfl kq) ?_
 refine own_st (fun tq kq => XS.i2b X2.here hx rfl (hb hby dPU_42) rfl kq) ?_
 obtain ⟨cl3, Ar3, q3, S_3, N_3, H_3, G_3⟩ := id Vt
 have in3 : ¬ ((0 : Int32) < 0 ∨ cl3.slots.size ≤ ((0 : Int32)).toNatClampNeg) := inb_of S_3 ⟨by decide, by decide⟩
 obtain ⟨T3, h3, X3, e3, W3, st3⟩ := stB X2 hx hZ e2 Ar3 (j := (0 : Int32)) in3 (g := (mkF m 43 #[vR t, vI 1, vI ch] [(.int ((ch >>> ((0 : Int32) &&& 31)).toInt8.toInt32)), (.int 0), (.ref t)])) rfl rfl (hb hby dPU_43)
 have V3 := Arv.set Ar3 q3 S_3 N_3 H_3 G_3 (fits_nar_byte _) W3 0 rfl (Nat.le_of_ble_eq_true rfl)
 have sz3 : h0.size ≤ h3.size := (Keep.of_wr W3).1
 have K3 : Keep h0 h3 [t] := K0.wr W3 (Or.inl (by simp))
 have N3 := Fr.snoc X3 N0 (own_le (by omega))
 refine own_st st3 ?_
 refine s_aloadN X3 hx (hb hby dPU_44) rfl rfl ?_
 refine s_iloadN X3 hx (hb hby dPU_45) rfl ?_
 refine s_iloadN X3 hx (hb hby dPU_46) rfl ?_
 obtain ⟨T4, X4, e4, st4⟩ := getS2 X3 hx hZ hown (host := "") (Or.inl (wd89 hw)) Via.refl e3 (OL.ext (X00.keep K3 hws0).2) (g := (mkF m 47 #[vR t, vI 1, vI ch] [(.int ch), (.int 1), (.ref t)])) rfl (hb hby dPU_47)
 refine own_st st4 ?_
 refine own_st (fun tq kq => XS.ishr X4.here hx rfl (hb hby dPU_50) rfl kq) ?_
 refine own_st (fun tq kq => XS.i2b X4.here hx rfl (hb hby dPU_51) rfl kq) ?_
 obtain ⟨cl5, Ar5, q5, S_5, N_5, H_5, G_5⟩ := id V3
 have in5 : ¬ ((1 : Int32) < 0 ∨ cl5.slots.size ≤ ((1 : Int32)).toNatClampNeg) := inb_of S_5 ⟨by decide, by decide⟩
 obtain ⟨T5, h5, X5, e5, W5, st5⟩ := stB X4 hx hZ e4 Ar5 (j := (1 : Int32)) in5 (g := (mkF m 52 #[vR t, vI 1, vI ch] [(.int ((ch >>> ((8 : Int32) &&& 31)).toInt8.toInt32)), (.int 1), (.ref t)])) rfl rfl (hb hby dPU_52)
 have V5 := Arv.set Ar5 q5 S_5 N_5 H_5 G_5 (fits_nar_byte _) W5 1 rfl (Nat.le_of_ble_eq_true rfl)
 have sz5 : h3.size ≤ h5.size := (Keep.of_wr W5).1
 have K5 : Keep h0 h5 [t] := K3.wr W5 (Or.inl (by simp))
 have N5 := Fr.snoc X5 N3 (own_le (by omega))
 refine own_st st5 ?_
 obtain ⟨fs, hr, hrun, hended, hW, hsame⟩ := X5.leave (v := none) (fun _ => rfl)
 refine ⟨_, _, X5.returnOut hx Bd.returns (hb hby dPU_53) hr, hrun, hended, _, _, rfl, ?_, ⟨_, rfl⟩, hW, hsame.mono (by decide) (by decide)⟩
 change Q_own_put3_0 Z t kb ch bt0 bt1 bt2 bt3 bt4 bt5 h0 n0 _ T5.heap _; rw [e5]; exact ⟨rfl, N5, K5, (by have q : Arv Z _ t kb .byte (6 : Int32) [.int (nar .byte ((ch >>> ((0 : Int32) &&& 31)).toInt8.toInt32)), .int (nar .byte ((ch >>> ((8 : Int32) &&& 31)).toInt8.toInt32)), .int bt2, .int bt3, .int bt4, .int bt5] (.int 0) := V5; rwa [own_pb0, own_pb8] at q)⟩

def Q_own_put3_1 (Z : State) (t : Nat) (kb : ClassId) (ch : Int32) (bt0 bt1 bt2 bt3 bt4 bt5 : Int32) (h0 : Heap) (n0 : Nat) (v : Option Value) (h : Heap) (L : List Loc) : Prop := v = none ∧ Fr n0 L ∧ Keep h0 h [t] ∧ Arv Z h t kb .byte (6 : Int32) [.int bt0, .int bt1, .int (L8 ch), .int (H8 ch), .int bt4, .int bt5] (.int 0)
theorem ef_own_put3_1 (m : MethodId) (x0 : Nat) (x2 : Int32) : entryFrame m #[(.ref x0), (.int 1), (.int x2)] 3 = mkF m 0 #[.val (.ref x0), .val (.int 1), .val (.int x2)] [] := by first | (simp [entryFrame, mkF, argsToLocals, Value.category]; done) | rfl
theorem own_put3_1 (l : Launch) (Z : State) (a0 : Array Value) (hw : hWt a0 Z) (ws : List Jvm.Cond) (t : Nat) (kb : ClassId) (ch : Int32) (bt0 bt1 bt2 bt3 bt4 bt5 : Int32) (h0 : Heap) (n0 : Nat) (Z0 : n0 ≤ h0.size) (X00 : Old Z n0 h0) (OA : oA Z) (OH : oH Z) (OL : oL Z) (Vt : Arv Z h0 t kb .byte (6 : Int32) [.int bt0, .int bt1, .int bt2, .int bt3, .int bt4, .int bt5] (.int 0)) (gt : n0 ≤ t) :
    MetFree l mN6 (head1 (Jvm.Cond.code mN6 jdk_52_method_4_code 3 none :: ws) rm_0_0_0_0) (fun av_ U => av_ = #[(.ref t), (.int 1), (.int ch)] ∧ Z.Warmed39 U.vm ∧ U.heap = h0) (fun _ _ _ _ _ => True) (own_EN (Q_own_put3_1 Z t kb ch bt0 bt1 bt2 bt3 bt4 bt5 h0 n0) rm_0_0_0_0) := by
 refine MetFree.of_bodySF (plainFor_of_name own_pn1) hisR ?_
 intro p e s m args below meth c s₁ Bd hml0 hP hK
 obtain ⟨rfl, hZ, hh⟩ := hP
 have hx := Bd.exec
 have hby := Bd.bytes
 have hml : c.maxLocals = 3 := hml0
 have hown : s.vm.findClass "java/lang/StringUTF16" = some m.cls := findClass_of_methodNamed Bd.named
 have X0 : Stand p l e rm_0_0_0_0 s m _ below meth c s₁ [] 0 0 := Stand.of_body Bd
 have e0 : s₁.heap = h0 := by rw [← hh, Bd.state]; rfl
 have N0 := Fr.nil n0
 have K0 : Keep h0 h0 [t] := Keep.refl h0 [t]
 refine show own_G p e below (own_EN (Q_own_put3_1 Z t kb ch bt0 bt1 bt2 bt3 bt4 bt5 h0 n0) rm_0_0_0_0 #[(.ref t), (.int 1), (.int ch)] s) _ from ?_
 refine own_st (fun tq kq => castTop (ef_own_put3_1 m (t) (ch)) kq) ?_
 show own_G p e below _ (s₁.setTop (mkF m 0 #[vR t, vI 1, vI ch] []))
 have hws0 : ∀ y ∈ [t], n0 ≤ y := allS gt all0
 obtain ⟨T1, X1, e1, st1⟩ := getS2 X0 hx hZ hown (host := "") (Or.inl (wd87 hw)) Via.refl e0 (OA.ext (X00.keep K0 hws0).2) (g := (mkF m 0 #[vR t, vI 1, vI ch] [])) rfl (hb hby dPU_0)
 refine own_st st1 ?_
 refine own_st (fun tq kq => XS.ifYes X1.here hx rfl (pc0 := 3) (pc' := 28) rfl (hb hby dPU_3) rfl ((if0 _ _).trans (feq (by decide : ¬ ((1 : Int32) = (0 : Int32)))).2) (by decide) (by decide) kq) ?_
 refine s_iloadN X1 hx (hb hby dPU_28) rfl ?_
 refine s_iconst X1 hx (hb hby dPU_29) ?_
 refine own_st (fun tq kq => XS.ishl X1.here hx rfl (hb hby dPU_30) rfl kq) ?_
 show own_G p e below _ (T1.setTop (mkF m 31 #[vR t, vI 1, vI ch] [(.int 2)]))
 refine own_st (fun tq kq => XS.istoreN X1.here hx rfl (hb hby dPU_31) rfl (l' := #[vR t, vI 2, vI ch]) rfl kq) ?_
 refine s_aloadN X1 hx (hb hby dPU_32) rfl rfl ?_
 refine s_iloadN X1 hx (hb hby dPU_33) rfl ?_
 refine own_st (fun tq kq => XS.iinc X1.here hx rfl (hb hby dPU_34) rfl (l' := #[vR t, vI 3, vI ch]) rfl kq) ?_
 show own_G p e below _ (T1.setTop (mkF m 37 #[vR t, vI 3, vI ch] [(.int 2), (.ref t)]))
 refine s_iloadN X1 hx (hb hby dPU_37) rfl ?_
 obtain ⟨T2, X2, e2, st2⟩ := getS2 X1 hx hZ hown (host := "") (Or.inl (wd88 hw)) Via.refl e1 (OH.ext (X00.keep K0 hws0).2) (g := (mkF m 38 #[vR t, vI 3, vI ch] [(.int ch), (.int 2), (.ref t)])) rfl (hb hby dPU_38)
 refine own_st st2 ?_
 refine own_st (fun tq kq => XS.ishr X2.here hx rfl (hb hby dPU_41) rfl kq) ?_
 refine own_st (fun tq kq => XS.i2b X2.here hx rfl (hb hby dPU_42) rfl kq) ?_
 obtain ⟨cl3, Ar3, q3, S_3, N_3, H_3, G_3⟩ := id Vt
 have in3 : ¬ ((2 : Int32) < 0 ∨ cl3.slots.size ≤ ((2 : Int32)).toNatClampNeg) := inb_of S_3 ⟨by decide, by decide⟩
 obtain ⟨T3, h3, X3, e3, W3, st3⟩ := stB X2 hx hZ e2 Ar3 (j := (2 : Int32)) in3 (g := (mkF m 43 #[vR t, vI 3, vI ch] [(.int ((ch >>> ((0 : Int32) &&& 31)).toInt8.toInt32)), (.int 2), (.ref t)])) rfl rfl (hb hby dPU_43)
 have V3 := Arv.set Ar3 q3 S_3 N_3 H_3 G_3 (fits_nar_byte _) W3 2 rfl (Nat.le_of_ble_eq_true rfl)
 have sz3 : h0.size ≤ h3.size := (Keep.of_wr W3).1
 have K3 : Keep h0 h3 [t] := K0.wr W3 (Or.inl (by simp))
 have N3 := Fr.snoc X3 N0 (own_le (by omega))
 refine own_st st3 ?_
 refine s_aloadN X3 hx (hb hby dPU_44) rfl rfl ?_
 refine s_iloadN X3 hx (hb hby dPU_45) rfl ?_
 refine s_iloadN X3 hx (hb hby dPU_46) rfl ?_
 obtain ⟨T4, X4, e4, st4⟩ := getS2 X3 hx hZ hown (host := "") (Or.inl (wd89 hw)) Via.refl e3 (OL.ext (X00.keep K3 hws0).2) (g := (mkF m 47 #[vR t, vI 3, vI ch] [(.int ch), (.int 3), (.ref t)])) rfl (hb hby dPU_47)
 refine own_st st4 ?_
 refine own_st (fun tq kq => XS.ishr X4.here hx rfl (hb hby dPU_50) rfl kq) ?_
 refine own_st (fun tq kq => XS.i2b X4.here hx rfl (hb hby dPU_51) rfl kq) ?_
 obtain ⟨cl5, Ar5, q5, S_5, N_5, H_5, G_5⟩ := id V3
 have in5 : ¬ ((3 : Int32) < 0 ∨ cl5.slots.size ≤ ((3 : Int32)).toNatClampNeg) := inb_of S_5 ⟨by decide, by decide⟩
 obtain ⟨T5, h5, X5, e5, W5, st5⟩ := stB X4 hx hZ e4 Ar5 (j := (3 : Int32)) in5 (g := (mkF m 52 #[vR t, vI 3, vI ch] [(.int ((ch >>> ((8 : Int32) &&& 31)).toInt8.toInt32)), (.int 3), (.ref t)])) rfl rfl (hb hby dPU_52)
 have V5 := Arv.set Ar5 q5 S_5 N_5 H_5 G_5 (fits_nar_byte _) W5 3 rfl (Nat.le_of_ble_eq_true rfl)
 have sz5 : h3.size ≤ h5.size := (Keep.of_wr W5).1
 have K5 : Keep h0 h5 [t] := K3.wr W5 (Or.inl (by simp))
 have N5 := Fr.snoc X5 N3 (own_le (by omega))
 refine own_st st5 ?_
 obtain ⟨fs, hr, hrun, hended, hW, hsame⟩ := X5.leave (v := none) (fun _ => rfl)
 refine ⟨_, _, X5.returnOut hx Bd.returns (hb hby dPU_53) hr, hrun, hended, _, _, rfl, ?_, ⟨_, rfl⟩, hW, hsame.mono (by decide) (by decide)⟩
 change Q_own_put3_1 Z t kb ch bt0 bt1 bt2 bt3 bt4 bt5 h0 n0 _ T5.heap _; rw [e5]; exact ⟨rfl, N5, K5, (by have q : Arv Z _ t kb .byte (6 : Int32) [.int bt0, .int bt1, .int (nar .byte ((ch >>> ((0 : Int32) &&& 31)).toInt8.toInt32)), .int (nar .byte ((ch >>> ((8 : Int32) &&& 31)).toInt8.toInt32)), .int bt4, .int bt5] (.int 0) := V5; rwa [own_pb0, own_pb8] at q)⟩

def Q_own_put3_2 (Z : State) (t : Nat) (kb : ClassId) (ch : Int32) (bt0 bt1 bt2 bt3 bt4 bt5 : Int32) (h0 : Heap) (n0 : Nat) (v : Option Value) (h : Heap) (L : List Loc) : Prop := v = none ∧ Fr n0 L ∧ Keep h0 h [t] ∧ Arv Z h t kb .byte (6 : Int32) [.int bt0, .int bt1, .int bt2, .int bt3, .int (L8 ch), .int (H8 ch)] (.int 0)
theorem ef_own_put3_2 (m : MethodId) (x0 : Nat) (x2 : Int32) : entryFrame m #[(.ref x0), (.int 2), (.int x2)] 3 = mkF m 0 #[.val (.ref x0), .val (.int 2), .val (.int x2)] [] := by first | (simp [entryFrame, mkF, argsToLocals, Value.category]; done) | rfl
theorem own_put3_2 (l : Launch) (Z : State) (a0 : Array Value) (hw : hWt a0 Z) (ws : List Jvm.Cond) (t : Nat) (kb : ClassId) (ch : Int32) (bt0 bt1 bt2 bt3 bt4 bt5 : Int32) (h0 : Heap) (n0 : Nat) (Z0 : n0 ≤ h0.size) (X00 : Old Z n0 h0) (OA : oA Z) (OH : oH Z) (OL : oL Z) (Vt : Arv Z h0 t kb .byte (6 : Int32) [.int bt0, .int bt1, .int bt2, .int bt3, .int bt4, .int bt5] (.int 0)) (gt : n0 ≤ t) :
    MetFree l mN6 (head1 (Jvm.Cond.code mN6 jdk_52_method_4_code 3 none :: ws) rm_0_0_0_0) (fun av_ U => av_ = #[(.ref t), (.int 2), (.int ch)] ∧ Z.Warmed39 U.vm ∧ U.heap = h0) (fun _ _ _ _ _ => True) (own_EN (Q_own_put3_2 Z t kb ch bt0 bt1 bt2 bt3 bt4 bt5 h0 n0) rm_0_0_0_0) := by
 refine MetFree.of_bodySF (plainFor_of_name own_pn1) hisR ?_
 intro p e s m args below meth c s₁ Bd hml0 hP hK
 obtain ⟨rfl, hZ, hh⟩ := hP
 have hx := Bd.exec
 have hby := Bd.bytes
 have hml : c.maxLocals = 3 := hml0
 have hown : s.vm.findClass "java/lang/StringUTF16" = some m.cls := findClass_of_methodNamed Bd.named
 have X0 : Stand p l e rm_0_0_0_0 s m _ below meth c s₁ [] 0 0 := Stand.of_body Bd
 have e0 : s₁.heap = h0 := by rw [← hh, Bd.state]; rfl
 have N0 := Fr.nil n0
 have K0 : Keep h0 h0 [t] := Keep.refl h0 [t]
 refine show own_G p e below (own_EN (Q_own_put3_2 Z t kb ch bt0 bt1 bt2 bt3 bt4 bt5 h0 n0) rm_0_0_0_0 #[(.ref t), (.int 2), (.int ch)] s) _ from ?_
 refine own_st (fun tq kq => castTop (ef_own_put3_2 m (t) (ch)) kq) ?_
 show own_G p e below _ (s₁.setTop (mkF m 0 #[vR t, vI 2, vI ch] []))
 have hws0 : ∀ y ∈ [t], n0 ≤ y := allS gt all0
 obtain ⟨T1, X1, e1, st1⟩ := getS2 X0 hx hZ hown (host := "") (Or.inl (wd87 hw)) Via.refl e0 (OA.ext (X00.keep K0 hws0).2) (g := (mkF m 0 #[vR t, vI 2, vI ch] [])) rfl (hb hby dPU_0)
 refine own_st st1 ?_
 refine own_st (fun tq kq => XS.ifYes X1.here hx rfl (pc0 := 3) (pc' := 28) rfl (hb hby dPU_3) rfl ((if0 _ _).trans (feq (by decide : ¬ ((1 : Int32) = (0 : Int32)))).2) (by decide) (by decide) kq) ?_
 refine s_iloadN X1 hx (hb hby dPU_28) rfl ?_
 refine s_iconst X1 hx (hb hby dPU_29) ?_
 refine own_st (fun tq kq => XS.ishl X1.here hx rfl (hb hby dPU_30) rfl kq) ?_
 show own_G p e below _ (T1.setTop (mkF m 31 #[vR t, vI 2, vI ch] [(.int 4)]))
 refine own_st (fun tq kq => XS.istoreN X1.here hx rfl (hb hby dPU_31) rfl (l' := #[vR t, vI 4, vI ch]) rfl kq) ?_
 refine s_aloadN X1 hx (hb hby dPU_32) rfl rfl ?_
 refine s_iloadN X1 hx (hb hby dPU_33) rfl ?_
 refine own_st (fun tq kq => XS.iinc X1.here hx rfl (hb hby dPU_34) rfl (l' := #[vR t, vI 5, vI ch]) rfl kq) ?_
 show own_G p e below _ (T1.setTop (mkF m 37 #[vR t, vI 5, vI ch] [(.int 4), (.ref t)]))
 refine s_iloadN X1 hx (hb hby dPU_37) rfl ?_
 obtain ⟨T2, X2, e2, st2⟩ := getS2 X1 hx hZ hown (host := "") (Or.inl (wd88 hw)) Via.refl e1 (OH.ext (X00.keep K0 hws0).2) (g := (mkF m 38 #[vR t, vI 5, vI ch] [(.int ch), (.int 4), (.ref t)])) rfl (hb hby dPU_38)
 refine own_st st2 ?_
 refine own_st (fun tq kq => XS.ishr X2.here hx rfl (hb hby dPU_41) rfl kq) ?_
 refine own_st (fun tq kq => XS.i2b X2.here hx rfl (hb hby dPU_42) rfl kq) ?_
 obtain ⟨cl3, Ar3, q3, S_3, N_3, H_3, G_3⟩ := id Vt
 have in3 : ¬ ((4 : Int32) < 0 ∨ cl3.slots.size ≤ ((4 : Int32)).toNatClampNeg) := inb_of S_3 ⟨by decide, by decide⟩
 obtain ⟨T3, h3, X3, e3, W3, st3⟩ := stB X2 hx hZ e2 Ar3 (j := (4 : Int32)) in3 (g := (mkF m 43 #[vR t, vI 5, vI ch] [(.int ((ch >>> ((0 : Int32) &&& 31)).toInt8.toInt32)), (.int 4), (.ref t)])) rfl rfl (hb hby dPU_43)
 have V3 := Arv.set Ar3 q3 S_3 N_3 H_3 G_3 (fits_nar_byte _) W3 4 rfl (Nat.le_of_ble_eq_true rfl)
 have sz3 : h0.size ≤ h3.size := (Keep.of_wr W3).1
 have K3 : Keep h0 h3 [t] := K0.wr W3 (Or.inl (by simp))
 have N3 := Fr.snoc X3 N0 (own_le (by omega))
 refine own_st st3 ?_
 refine s_aloadN X3 hx (hb hby dPU_44) rfl rfl ?_
 refine s_iloadN X3 hx (hb hby dPU_45) rfl ?_
 refine s_iloadN X3 hx (hb hby dPU_46) rfl ?_
 obtain ⟨T4, X4, e4, st4⟩ := getS2 X3 hx hZ hown (host := "") (Or.inl (wd89 hw)) Via.refl e3 (OL.ext (X00.keep K3 hws0).2) (g := (mkF m 47 #[vR t, vI 5, vI ch] [(.int ch), (.int 5), (.ref t)])) rfl (hb hby dPU_47)
 refine own_st st4 ?_
 refine own_st (fun tq kq => XS.ishr X4.here hx rfl (hb hby dPU_50) rfl kq) ?_
 refine own_st (fun tq kq => XS.i2b X4.here hx rfl (hb hby dPU_51) rfl kq) ?_
 obtain ⟨cl5, Ar5, q5, S_5, N_5, H_5, G_5⟩ := id V3
 have in5 : ¬ ((5 : Int32) < 0 ∨ cl5.slots.size ≤ ((5 : Int32)).toNatClampNeg) := inb_of S_5 ⟨by decide, by decide⟩
 obtain ⟨T5, h5, X5, e5, W5, st5⟩ := stB X4 hx hZ e4 Ar5 (j := (5 : Int32)) in5 (g := (mkF m 52 #[vR t, vI 5, vI ch] [(.int ((ch >>> ((8 : Int32) &&& 31)).toInt8.toInt32)), (.int 5), (.ref t)])) rfl rfl (hb hby dPU_52)
 have V5 := Arv.set Ar5 q5 S_5 N_5 H_5 G_5 (fits_nar_byte _) W5 5 rfl (Nat.le_of_ble_eq_true rfl)
 have sz5 : h3.size ≤ h5.size := (Keep.of_wr W5).1
 have K5 : Keep h0 h5 [t] := K3.wr W5 (Or.inl (by simp))
 have N5 := Fr.snoc X5 N3 (own_le (by omega))
 refine own_st st5 ?_
 obtain ⟨fs, hr, hrun, hended, hW, hsame⟩ := X5.leave (v := none) (fun _ => rfl)
 refine ⟨_, _, X5.returnOut hx Bd.returns (hb hby dPU_53) hr, hrun, hended, _, _, rfl, ?_, ⟨_, rfl⟩, hW, hsame.mono (by decide) (by decide)⟩
 change Q_own_put3_2 Z t kb ch bt0 bt1 bt2 bt3 bt4 bt5 h0 n0 _ T5.heap _; rw [e5]; exact ⟨rfl, N5, K5, (by have q : Arv Z _ t kb .byte (6 : Int32) [.int bt0, .int bt1, .int bt2, .int bt3, .int (nar .byte ((ch >>> ((0 : Int32) &&& 31)).toInt8.toInt32)), .int (nar .byte ((ch >>> ((8 : Int32) &&& 31)).toInt8.toInt32))] (.int 0) := V5; rwa [own_pb0, own_pb8] at q)⟩

def Q_own_toB3 (Z : State) (b : Nat) (kC : ClassId) (dv : Value) (c0 c1 c2 : Int32) (h0 : Heap) (n0 : Nat) (v : Option Value) (h : Heap) (L : List Loc) : Prop := ∃ (t : Nat) (kb : ClassId), v = some (.ref t) ∧ Fr n0 L ∧ Keep h0 h [] ∧ h0.size ≤ t ∧ t < h.size ∧ Arv Z h t kb .byte (6 : Int32) [.int (L8 c0), .int (H8 c0), .int (L8 c1), .int (H8 c1), .int (L8 c2), .int (H8 c2)] (.int 0)
theorem ef_own_toB3 (m : MethodId) (x0 : Nat) : entryFrame m #[(.ref x0), (.int 0), (.int 3)] 5 = mkF m 0 #[.val (.ref x0), .val (.int 0), .val (.int 3), .unset, .unset] [] := by first | (simp [entryFrame, mkF, argsToLocals, Value.category]; done) | rfl
theorem own_toB3 (l : Launch) (Z : State) (a0 : Array Value) (hw : hWt a0 Z) (ws : List Jvm.Cond) (b : Nat) (kC : ClassId) (dv : Value) (c0 c1 c2 : Int32) (h0 : Heap) (n0 : Nat) (Z0 : n0 ≤ h0.size) (X00 : Old Z n0 h0) (OA : oA Z) (OH : oH Z) (OL : oL Z) (Vb : Arv Z h0 b kC .char (3 : Int32) [.int c0, .int c1, .int c2] dv) :
    MetFree l mN7 (head1 (Jvm.Cond.code mN7 jdk_52_method_14_code 5 (some (.array .byte)) :: ws) rm_2_1_6_40) (fun av_ U => av_ = #[(.ref b), (.int 0), (.int 3)] ∧ Z.Warmed39 U.vm ∧ U.heap = h0) (fun _ _ _ _ _ => True) (own_EN (Q_own_toB3 Z b kC dv c0 c1 c2 h0 n0) rm_2_1_6_40) := by
 refine MetFree.of_bodySF (plainFor_of_name own_pn1) hisR ?_
 intro p e s m args below meth c s₁ Bd hml0 hP hK
 obtain ⟨rfl, hZ, hh⟩ := hP
 have hx := Bd.exec
 have hby := Bd.bytes
 have hml : c.maxLocals = 5 := hml0
 have hown : s.vm.findClass "java/lang/StringUTF16" = some m.cls := findClass_of_methodNamed Bd.named
 have X0 : Stand p l e rm_2_1_6_40 s m _ below meth c s₁ [] 0 0 := Stand.of_body Bd
 have e0 : s₁.heap = h0 := by rw [← hh, Bd.state]; rfl
 have N0 := Fr.nil n0
 have K0 : Keep h0 h0 [] := Keep.refl h0 []
 refine show own_G p e below (own_EN (Q_own_toB3 Z b kC dv c0 c1 c2 h0 n0) rm_2_1_6_40 #[(.ref b), (.int 0), (.int 3)] s) _ from ?_
 refine own_st (fun tq kq => castTop (ef_own_toB3 m (b)) kq) ?_
 show own_G p e below _ (s₁.setTop (mkF m 0 #[vR b, vI 0, vI 3, .unset, .unset] []))
 have ltb : b < h0.size := Vb.lt
 refine s_iloadN X0 hx (hb hby dTO_0) rfl ?_
 obtain ⟨_, _, ⟨T1, L1, k1, n1⟩, -, X1, ⟨Lc1, hQ1, l1, y1, z1⟩, st1⟩ := Jvm.LawKit.callS X0 hx (y := mN5) hown (mvT hZ (wd77 hw)) (mvT hZ (wd78 hw)) (mvT hZ (wd40 hw)) (mvT hZ (wd79 hw)) (by decide) (own_backN (W := 0) (own_nfor3 l Z a0 hw []  h0 n0 (by omega) (X00.keep K0 all0) ) hZ (wd79 hw) (wd40 hw) (by decide) (by decide)) (g := (mkF m 1 #[vR b, vI 0, vI 3, .unset, .unset] [(.int 3)])) rfl (by rw [hml]; rfl) (argsL := [(.int 3)]) (rest := []) (lenOf own_pd2 rfl) rfl (Nat.le_of_eq rfl) (hb hby dTO_1) (fun _ _ => ⟨rfl, e0, (by decide : 0 + 1 ≤ _), (by decide : 0 + 6 ≤ _)⟩)
 dsimp only [Pt.U, Pt.locs, Pt.cells, Pt.slots] at X1 l1 y1 z1 st1 hQ1
 subst l1 y1 z1
 obtain ⟨t1, kb1, rfl, Nq1, Kq1, gt1, lt1, Vt1⟩ := hQ1
 have KK1 : Keep h0 T1.heap [] := Kq1
 have sz1 : h0.size ≤ T1.heap.size := KK1.1
 have K1 : Keep h0 T1.heap [] := K0.trans KK1 all0
 have N1 := Fr.app N0 Nq1
 refine own_st st1 ?_
 refine own_st (fun tq kq => XS.astoreN X1.here hx rfl (hb hby dTO_4) rfl rfl (l' := #[vR b, vI 0, vI 3, vR t1, .unset]) rfl kq) ?_
 refine s_iconst X1 hx (hb hby dTO_5) ?_
 refine own_st (fun tq kq => XS.istore X1.here hx rfl (hb hby dTO_6) rfl (l' := #[vR b, vI 0, vI 3, vR t1, vI 0]) rfl kq) ?_
 refine s_iload X1 hx (hb hby dTO_8) rfl ?_
 show own_G p e below _ (T1.setTop (mkF m 10 #[vR b, vI 0, vI 3, vR t1, vI 0] [(.int 0)]))
 refine s_iloadN X1 hx (hb hby dTO_10) rfl ?_
 show own_G p e below _ (T1.setTop (mkF m 11 #[vR b, vI 0, vI 3, vR t1, vI 0] [(.int 3), (.int 0)]))
 refine own_st (fun tq kq => XS.icmpNo X1.here hx rfl (hb hby dTO_11) rfl (tlt (by decide : ((0 : Int32) < (3 : Int32)))).2.1 kq) ?_
 refine s_aloadN X1 hx (hb hby dTO_14) rfl rfl ?_
 refine s_iload X1 hx (hb hby dTO_15) rfl ?_
 refine s_aloadN X1 hx (hb hby dTO_17) rfl rfl ?_
 show own_G p e below _ (T1.setTop (mkF m 18 #[vR b, vI 0, vI 3, vR t1, vI 0] [(.ref b), (.int 0), (.ref t1)]))
 refine s_iloadN X1 hx (hb hby dTO_18) rfl ?_
 obtain ⟨cl2, Ar2, q2, S_2, N_2, H_2, G_2⟩ := id (Vb.keep KK1 nin0)
 have in2 : ¬ ((0 : Int32) < 0 ∨ cl2.slots.size ≤ ((0 : Int32)).toNatClampNeg) := inb_of S_2 ⟨by decide, by decide⟩
 have at2 : cl2.slots[((0 : Int32)).toNatClampNeg]? = some (.int c0) := H_2.at in2 rfl
 refine own_st (fun tq kq => X1.caload hx (j := (0 : Int32)) (v := (.int c0)) Ar2.1 (State.isArrayOf_alike hZ.alike Ar2.2.1) Ar2.2.2 in2 at2 (g := (mkF m 19 #[vR b, vI 0, vI 3, vR t1, vI 0] [(.int 0), (.ref b), (.int 0), (.ref t1)])) rfl rfl (hb hby dTO_19) _ kq) ?_
 obtain ⟨_, _, ⟨T3, L3, k3, n3⟩, -, X3, ⟨Lc3, hQ3, l3, y3, z3⟩, st3⟩ := Jvm.LawKit.callS X1 hx (y := mN6) hown (mvT hZ (wd84 hw)) (mvT hZ (wd85 hw)) (mvT hZ (wd40 hw)) (mvT hZ (wd86 hw)) (by decide) (own_backN (W := 0) (own_put3_0 l Z a0 hw [] (t1) (_) (c0) (_) (_) (_) (_) (_) (_) T1.heap n0 (by omega) (X00.keep K1 all0) OA OH OL Vt1 (by omega)) hZ (wd86 hw) (wd40 hw) (by decide) (by decide)) (g := (mkF m 20 #[vR b, vI 0, vI 3, vR t1, vI 0] [(.int c0), (.int 0), (.ref t1)])) rfl (by rw [hml]; rfl) (argsL := [(.ref t1), (.int 0), (.int c0)]) (rest := []) (lenOf own_pd3 rfl) rfl (Nat.le_of_eq rfl) (hb hby dTO_20) (fun _ _ => ⟨rfl, rfl, (by decide : 1 + 0 ≤ _), (by decide : 6 + 0 ≤ _)⟩)
 dsimp only [Pt.U, Pt.locs, Pt.cells, Pt.slots] at X3 l3 y3 z3 st3 hQ3
 subst l3 y3 z3
 obtain ⟨rfl, Nq3, Kq3, Vt3⟩ := hQ3
 have KK3 : Keep T1.heap T3.heap [t1] := Kq3
 have sz3 : T1.heap.size ≤ T3.heap.size := KK3.1
 have K3 : Keep h0 T3.heap [] := K1.trans KK3 (allS (Or.inr (own_le (by omega))) all0)
 have N3 := Fr.app N1 Nq3
 refine own_st st3 ?_
 refine own_st (fun tq kq => XS.iinc X3.here hx rfl (hb hby dTO_23) rfl (l' := #[vR b, vI 1, vI 3, vR t1, vI 0]) rfl kq) ?_
 refine own_st (fun tq kq => XS.iinc X3.here hx rfl (hb hby dTO_26) rfl (l' := #[vR b, vI 1, vI 3, vR t1, vI 1]) rfl kq) ?_
 refine own_st (fun tq kq => XS.goto X3.here hx rfl (pc0 := 29) (pc' := 8) rfl (hb hby dTO_29) (by decide) (by decide) kq) ?_
 refine s_iload X3 hx (hb hby dTO_8) rfl ?_
 show own_G p e below _ (T3.setTop (mkF m 10 #[vR b, vI 1, vI 3, vR t1, vI 1] [(.int 1)]))
 refine s_iloadN X3 hx (hb hby dTO_10) rfl ?_
 show own_G p e below _ (T3.setTop (mkF m 11 #[vR b, vI 1, vI 3, vR t1, vI 1] [(.int 3), (.int 1)]))
 refine own_st (fun tq kq => XS.icmpNo X3.here hx rfl (hb hby dTO_11) rfl (tlt (by decide : ((1 : Int32) < (3 : Int32)))).2.1 kq) ?_
 refine s_aloadN X3 hx (hb hby dTO_14) rfl rfl ?_
 refine s_iload X3 hx (hb hby dTO_15) rfl ?_
 refine s_aloadN X3 hx (hb hby dTO_17) rfl rfl ?_
 show own_G p e below _ (T3.setTop (mkF m 18 #[vR b, vI 1, vI 3, vR t1, vI 1] [(.ref b), (.int 1), (.ref t1)]))
 refine s_iloadN X3 hx (hb hby dTO_18) rfl ?_
 obtain ⟨cl4, Ar4, q4, S_4, N_4, H_4, G_4⟩ := id ((Vb.keep KK1 nin0).keep KK3 (ninS (own_ne (by omega)) nin0))
 have in4 : ¬ ((1 : Int32) < 0 ∨ cl4.slots.size ≤ ((1 : Int32)).toNatClampNeg) := inb_of S_4 ⟨by decide, by decide⟩
 have at4 : cl4.slots[((1 : Int32)).toNatClampNeg]? = some (.int c1) := H_4.at in4 rfl
 refine own_st (fun tq kq => X3.caload hx (j := (1 : Int32)) (v := (.int c1)) Ar4.1 (State.isArrayOf_alike hZ.alike Ar4.2.1) Ar4.2.2 in4 at4 (g := (mkF m 19 #[vR b, vI 1, vI 3, vR t1, vI 1] [(.int 1), (.ref b), (.int 1), (.ref t1)])) rfl rfl (hb hby dTO_19) _ kq) ?_
 obtain ⟨_, _, ⟨T5, L5, k5, n5⟩, -, X5, ⟨Lc5, hQ5, l5, y5, z5⟩, st5⟩ := Jvm.LawKit.callS X3 hx (y := mN6) hown (mvT hZ (wd84 hw)) (mvT hZ (wd85 hw)) (mvT hZ (wd40 hw)) (mvT hZ (wd86 hw)) (by decide) (own_backN (W := 0) (own_put3_1 l Z a0 hw [] (t1) (_) (c1) (_) (_) (_) (_) (_) (_) T3.heap n0 (by omega) (X00.keep K3 all0) OA OH OL Vt3 (by omega)) hZ (wd86 hw) (wd40 hw) (by decide) (by decide)) (g := (mkF m 20 #[vR b, vI 1, vI 3, vR t1, vI 1] [(.int c1), (.int 1), (.ref t1)])) rfl (by rw [hml]; rfl) (argsL := [(.ref t1), (.int 1), (.int c1)]) (rest := []) (lenOf own_pd3 rfl) rfl (Nat.le_of_eq rfl) (hb hby dTO_20) (fun _ _ => ⟨rfl, rfl, (by decide : 1 + 0 ≤ _), (by decide : 6 + 0 ≤ _)⟩)
 dsimp only [Pt.U, Pt.locs, Pt.cells, Pt.slots] at X5 l5 y5 z5 st5 hQ5
 subst l5 y5 z5
 obtain ⟨rfl, Nq5, Kq5, Vt5⟩ := hQ5
 have KK5 : Keep T3.heap T5.heap [t1] := Kq5
 have sz5 : T3.heap.size ≤ T5.heap.size := KK5.1
 have K5 : Keep h0 T5.heap [] := K3.trans KK5 (allS (Or.inr (own_le (by omega))) all0)
 have N5 := Fr.app N3 Nq5
 refine own_st st5 ?_
 refine own_st (fun tq kq => XS.iinc X5.here hx rfl (hb hby dTO_23) rfl (l' := #[vR b, vI 2, vI 3, vR t1, vI 1]) rfl kq) ?_
 refine own_st (fun tq kq => XS.iinc X5.here hx rfl (hb hby dTO_26) rfl (l' := #[vR b, vI 2, vI 3, vR t1, vI 2]) rfl kq) ?_
 refine own_st (fun tq kq => XS.goto X5.here hx rfl (pc0 := 29) (pc' := 8) rfl (hb hby dTO_29) (by decide) (by decide) kq) ?_
 refine s_iload X5 hx (hb hby dTO_8) rfl ?_
 show own_G p e below _ (T5.setTop (mkF m 10 #[vR b, vI 2, vI 3, vR t1, vI 2] [(.int 2)]))
 refine s_iloadN X5 hx (hb hby dTO_10) rfl ?_
 show own_G p e below _ (T5.setTop (mkF m 11 #[vR b, vI 2, vI 3, vR t1, vI 2] [(.int 3), (.int 2)]))
 refine own_st (fun tq kq => XS.icmpNo X5.here hx rfl (hb hby dTO_11) rfl (tlt (by decide : ((2 : Int32) < (3 : Int32)))).2.1 kq) ?_
 refine s_aloadN X5 hx (hb hby dTO_14) rfl rfl ?_
 refine s_iload X5 hx (hb hby dTO_15) rfl ?_
 refine s_aloadN X5 hx (hb hby dTO_17) rfl rfl ?_
 show own_G p e below _ (T5.setTop (mkF m 18 #[vR b, vI 2, vI 3, vR t1, vI 2] [(.ref b), (.int 2), (.ref t1)]))
 refine s_iloadN X5 hx (hb hby dTO_18) rfl ?_
 obtain ⟨cl6, Ar6, q6, S_6, N_6, H_6, G_6⟩ := id (((Vb.keep KK1 nin0).keep KK3 (ninS (own_ne (by omega)) nin0)).keep KK5 (ninS (own_ne (by omega)) nin0))
 have in6 : ¬ ((2 : Int32) < 0 ∨ cl6.slots.size ≤ ((2 : Int32)).toNatClampNeg) := inb_of S_6 ⟨by decide, by decide⟩
 have at6 : cl6.slots[((2 : Int32)).toNatClampNeg]? = some (.int c2) := H_6.at in6 rfl
 refine own_st (fun tq kq => X5.caload hx (j := (2 : Int32)) (v := (.int c2)) Ar6.1 (State.isArrayOf_alike hZ.alike Ar6.2.1) Ar6.2.2 in6 at6 (g := (mkF m 19 #[vR b, vI 2, vI 3, vR t1, vI 2] [(.int 2), (.ref b), (.int 2), (.ref t1)])) rfl rfl (hb hby dTO_19) _ kq) ?_
 obtain ⟨_, _, ⟨T7, L7, k7, n7⟩, -, X7, ⟨Lc7, hQ7, l7, y7, z7⟩, st7⟩ := Jvm.LawKit.callS X5 hx (y := mN6) hown (mvT hZ (wd84 hw)) (mvT hZ (wd85 hw)) (mvT hZ (wd40 hw)) (mvT hZ (wd86 hw)) (by decide) (own_backN (W := 0) (own_put3_2 l Z a0 hw [] (t1) (_) (c2) (_) (_) (_) (_) (_) (_) T5.heap n0 (by omega) (X00.keep K5 all0) OA OH OL Vt5 (by omega)) hZ (wd86 hw) (wd40 hw) (by decide) (by decide)) (g := (mkF m 20 #[vR b, vI 2, vI 3, vR t1, vI 2] [(.int c2), (.int 2), (.ref t1)])) rfl (by rw [hml]; rfl) (argsL := [(.ref t1), (.int 2), (.int c2)]) (rest := []) (lenOf own_pd3 rfl) rfl (Nat.le_of_eq rfl) (hb hby dTO_20) (fun _ _ => ⟨rfl, rfl, (by decide : 1 + 0 ≤ _), (by decide : 6 + 0 ≤ _)⟩)
 dsimp only [Pt.U, Pt.locs, Pt.cells, Pt.slots] at X7 l7 y7 z7 st7 hQ7
 subst l7 y7 z7
 obtain ⟨rfl, Nq7, Kq7, Vt7⟩ := hQ7
 have KK7 : Keep T5.heap T7.heap [t1] := Kq7
 have sz7 : T5.heap.size ≤ T7.heap.size := KK7.1
 have K7 : Keep h0 T7.heap [] := K5.trans KK7 (allS (Or.inr (own_le (by omega))) all0)
 have N7 := Fr.app N5 Nq7
 refine own_st st7 ?_
 refine own_st (fun tq kq => XS.iinc X7.here hx rfl (hb hby dTO_23) rfl (l' := #[vR b, vI 3, vI 3, vR t1, vI 2]) rfl kq) ?_
 refine own_st (fun tq kq => XS.iinc X7.here hx rfl (hb hby dTO_26) rfl (l' := #[vR b, vI 3, vI 3, vR t1, vI 3]) rfl kq) ?_
 refine own_st (fun tq kq => XS.goto X7.here hx rfl (pc0 := 29) (pc' := 8) rfl (hb hby dTO_29) (by decide) (by decide) kq) ?_
 refine s_iload X7 hx (hb hby dTO_8) rfl ?_
 show own_G p e below _ (T7.setTop (mkF m 10 #[vR b, vI 3, vI 3, vR t1, vI 3] [(.int 3)]))
 refine s_iloadN X7 hx (hb hby dTO_10) rfl ?_
 show own_G p e below _ (T7.setTop (mkF m 11 #[vR b, vI 3, vI 3, vR t1, vI 3] [(.int 3), (.int 3)]))
 refine own_st (fun tq kq => XS.icmpYes X7.here hx rfl (pc0 := 11) (pc' := 32) rfl (hb hby dTO_11) rfl (flt (by decide : ¬ ((3 : Int32) < (3 : Int32)))).2.1 (by decide) (by decide) kq) ?_
 refine s_aloadN X7 hx (hb hby dTO_32) rfl rfl ?_
 show own_G p e below _ (T7.setTop (mkF m 33 #[vR b, vI 3, vI 3, vR t1, vI 3] [(.ref t1)]))
 obtain ⟨fs, hr, hrun, hended, hW, hsame⟩ := X7.leave (v := some (.ref t1)) (fun h => by rw [Bd.returns] at h; cases h)
 refine ⟨_, _, retOut X7 hx Bd.returns rfl (Or.inr (Or.inr (Or.inr (Or.inr ⟨rfl, rfl, rfl⟩)))) (hb hby dTO_33) hr, hrun, hended, _, _, rfl, ?_, ⟨_, rfl⟩, hW, hsame.mono (by decide) (by decide)⟩
 change Q_own_toB3 Z b kC dv c0 c1 c2 h0 n0 _ T7.heap _; exact ⟨t1, _, rfl, N7, K7, (by omega), Vt7.lt, Vt7⟩

def Q_own_cfl3 (Z : State) (t : Nat) (kb : ClassId) (vs : List Value) (h0 : Heap) (n0 : Nat) (v : Option Value) (h : Heap) (L : List Loc) : Prop := v = some (.int (1 : Int32)) ∧ Fr n0 L ∧ h = h0
theorem ef_own_cfl3 (m : MethodId) (x0 : Nat) : entryFrame m #[(.ref x0), (.int 3)] 2 = mkF m 0 #[.val (.ref x0), .val (.int 3)] [] := by first | (simp [entryFrame, mkF, argsToLocals, Value.category]; done) | rfl
theorem own_cfl3 (l : Launch) (Z : State) (a0 : Array Value) (hw : hWt a0 Z) (ws : List Jvm.Cond) (t : Nat) (kb : ClassId) (vs : List Value) (h0 : Heap) (n0 : Nat) (Z0 : n0 ≤ h0.size) (X00 : Old Z n0 h0) (Vt : Arv Z h0 t kb .byte (6 : Int32) vs (.int 0)) :
    MetFree l mN8 (head1 (Jvm.Cond.code mN8 jdk_52_method_15_code 2 (some .byte) :: ws) rm_0_0_0_0) (fun av_ U => av_ = #[(.ref t), (.int 3)] ∧ Z.Warmed39 U.vm ∧ U.heap = h0) (fun _ _ _ _ _ => True) (own_EN (Q_own_cfl3 Z t kb vs h0 n0) rm_0_0_0_0) := by
 refine MetFree.of_bodySF (plainFor_of_name own_pn1) hisR ?_
 intro p e s m args below meth c s₁ Bd hml0 hP hK
 obtain ⟨rfl, hZ, hh⟩ := hP
 have hx := Bd.exec
 have hby := Bd.bytes
 have hml : c.maxLocals = 2 := hml0
 have hown : s.vm.findClass "java/lang/StringUTF16" = some m.cls := findClass_of_methodNamed Bd.named
 have X0 : Stand p l e rm_0_0_0_0 s m _ below meth c s₁ [] 0 0 := Stand.of_body Bd
 have e0 : s₁.heap = h0 := by rw [← hh, Bd.state]; rfl
 have N0 := Fr.nil n0
 have K0 : Keep h0 h0 [] := Keep.refl h0 []
 refine show own_G p e below (own_EN (Q_own_cfl3 Z t kb vs h0 n0) rm_0_0_0_0 #[(.ref t), (.int 3)] s) _ from ?_
 refine own_st (fun tq kq => castTop (ef_own_cfl3 m (t)) kq) ?_
 show own_G p e below _ (s₁.setTop (mkF m 0 #[vR t, vI 3] []))
 refine s_iloadN X0 hx (hb hby dCL_0) rfl ?_
 refine s_aloadN X0 hx (hb hby dCL_1) rfl rfl ?_
 obtain ⟨cl1, Ar1, q1, S_1, N_1, H_1, G_1⟩ := id Vt
 refine own_st (fun tq kq => X0.arraylength hx (by rw [e0]; exact Ar1.1) (State.isArrayOf_alike hZ.alike Ar1.2.1) (g := (mkF m 2 #[vR t, vI 3] [(.ref t), (.int 3)])) rfl rfl (hb hby dCL_2) _ kq) ?_
 rw [len_of S_1 N_1]
 show own_G p e below _ (s₁.setTop (mkF m 3 #[vR t, vI 3] [(.int 6), (.int 3)]))
 refine own_st (fun tq kq => XS.isub X0.here hx rfl (hb hby dCL_3) rfl kq) ?_
 refine s_bipush X0 hx (hb hby dCL_4) ?_
 refine own_st (fun tq kq => XS.iushr X0.here hx rfl (hb hby dCL_6) rfl kq) ?_
 refine own_st (fun tq kq => XS.i2b X0.here hx rfl (hb hby dCL_7) rfl kq) ?_
 show own_G p e below _ (s₁.setTop (mkF m 8 #[vR t, vI 3] [(.int 1)]))
 obtain ⟨fs, hr, hrun, hended, hW, hsame⟩ := X0.leave (v := some (.int 1)) (fun h => by rw [Bd.returns] at h; cases h)
 refine ⟨_, _, retN X0 hx (t := .byte) Bd.returns (by simp) (hb hby dCL_8) hr, hrun, hended, _, _, rfl, ?_, ⟨_, rfl⟩, hW, hsame.mono (by decide) (by decide)⟩
 change Q_own_cfl3 Z t kb vs h0 n0 _ s₁.heap _; rw [e0]; exact ⟨rfl, N0, rfl⟩

def Q_own_cm5_3_0 (Z : State) (b d : Nat) (kC kD : ClassId) (dv : Value) (c0 c1 c2 : Int32) (h0 : Heap) (n0 : Nat) (v : Option Value) (h : Heap) (L : List Loc) : Prop := v = some (.int (0 : Int32)) ∧ Fr n0 L ∧ Keep h0 h [d]
theorem ef_own_cm5_3_0 (m : MethodId) (x0 : Nat) (x2 : Nat) : entryFrame m #[(.ref x0), (.int 0), (.ref x2), (.int 0), (.int 3)] 7 = mkF m 0 #[.val (.ref x0), .val (.int 0), .val (.ref x2), .val (.int 0), .val (.int 3), .unset, .unset] [] := by first | (simp [entryFrame, mkF, argsToLocals, Value.category]; done) | rfl
theorem own_cm5_3_0 (l : Launch) (Z : State) (a0 : Array Value) (hw : hWt a0 Z) (ws : List Jvm.Cond) (b d : Nat) (kC kD : ClassId) (dv : Value) (c0 c1 c2 : Int32) (h0 : Heap) (n0 : Nat) (Z0 : n0 ≤ h0.size) (X00 : Old Z n0 h0) (Vb : Arv Z h0 b kC .char (3 : Int32) [.int c0, .int c1, .int c2] dv) (Vd : Arv Z h0 d kD .byte (3 : Int32) [.int (0 : Int32), .int (0 : Int32), .int (0 : Int32)] (.int 0)) (gd : n0 ≤ d) (nbd : b ≠ d) (hg : (255 : Int32) < c0) :
    MetFree l mN9 (head1 (Jvm.Cond.code mN9 jdk_52_method_21_code 7 (some .int) :: ws) rm_0_0_0_0) (fun av_ U => av_ = #[(.ref b), (.int 0), (.ref d), (.int 0), (.int 3)] ∧ Z.Warmed39 U.vm ∧ U.heap = h0) (fun _ _ _ _ _ => True) (own_EN (Q_own_cm5_3_0 Z b d kC kD dv c0 c1 c2 h0 n0) rm_0_0_0_0) := by
 refine MetFree.of_bodySF (plainFor_of_name own_pn1) hisR ?_
 intro p e s m args below meth c s₁ Bd hml0 hP hK
 obtain ⟨rfl, hZ, hh⟩ := hP
 have hx := Bd.exec
 have hby := Bd.bytes
 have hml : c.maxLocals = 7 := hml0
 have hown : s.vm.findClass "java/lang/StringUTF16" = some m.cls := findClass_of_methodNamed Bd.named
 have X0 : Stand p l e rm_0_0_0_0 s m _ below meth c s₁ [] 0 0 := Stand.of_body Bd
 have e0 : s₁.heap = h0 := by rw [← hh, Bd.state]; rfl
 have N0 := Fr.nil n0
 have K0 : Keep h0 h0 [d] := Keep.refl h0 [d]
 refine show own_G p e below (own_EN (Q_own_cm5_3_0 Z b d kC kD dv c0 c1 c2 h0 n0) rm_0_0_0_0 #[(.ref b), (.int 0), (.ref d), (.int 0), (.int 3)] s) _ from ?_
 refine own_st (fun tq kq => castTop (ef_own_cm5_3_0 m (b) (d)) kq) ?_
 show own_G p e below _ (s₁.setTop (mkF m 0 #[vR b, vI 0, vR d, vI 0, vI 3, .unset, .unset] []))
 have hws0 : ∀ y ∈ [d], n0 ≤ y := allS gd all0
 refine s_iconst X0 hx (hb hby dC5_0) ?_
 refine own_st (fun tq kq => XS.istore X0.here hx rfl (hb hby dC5_1) rfl (l' := #[vR b, vI 0, vR d, vI 0, vI 3, vI 0, .unset]) rfl kq) ?_
 refine s_iload X0 hx (hb hby dC5_3) rfl ?_
 refine s_iload X0 hx (hb hby dC5_5) rfl ?_
 show own_G p e below _ (s₁.setTop (mkF m 7 #[vR b, vI 0, vR d, vI 0, vI 3, vI 0, .unset] [(.int 3), (.int 0)]))
 refine own_st (fun tq kq => XS.icmpNo X0.here hx rfl (hb hby dC5_7) rfl (tlt (by decide : ((0 : Int32) < (3 : Int32)))).2.1 kq) ?_
 refine s_aloadN X0 hx (hb hby dC5_10) rfl rfl ?_
 refine s_iloadN X0 hx (hb hby dC5_11) rfl ?_
 obtain ⟨cl1, Ar1, q1, S_1, N_1, H_1, G_1⟩ := id Vb
 have in1 : ¬ ((0 : Int32) < 0 ∨ cl1.slots.size ≤ ((0 : Int32)).toNatClampNeg) := inb_of S_1 ⟨by decide, by decide⟩
 have at1 : cl1.slots[((0 : Int32)).toNatClampNeg]? = some (.int c0) := H_1.at in1 rfl
 refine own_st (fun tq kq => X0.caload hx (j := (0 : Int32)) (v := (.int c0)) (by rw [e0]; exact Ar1.1) (State.isArrayOf_alike hZ.alike Ar1.2.1) Ar1.2.2 in1 at1 (g := (mkF m 12 #[vR b, vI 0, vR d, vI 0, vI 3, vI 0, .unset] [(.int 0), (.ref b)])) rfl rfl (hb hby dC5_12) _ kq) ?_
 show own_G p e below _ (s₁.setTop (mkF m 13 #[vR b, vI 0, vR d, vI 0, vI 3, vI 0, .unset] [(.int c0)]))
 refine own_st (fun tq kq => XS.istore X0.here hx rfl (hb hby dC5_13) rfl (l' := #[vR b, vI 0, vR d, vI 0, vI 3, vI 0, vI c0]) rfl kq) ?_
 refine s_iload X0 hx (hb hby dC5_15) rfl ?_
 refine s_sipush X0 hx (hb hby dC5_17) ?_
 show own_G p e below _ (s₁.setTop (mkF m 20 #[vR b, vI 0, vR d, vI 0, vI 3, vI 0, vI c0] [(.int 255), (.int c0)]))
 refine own_st (fun tq kq => XS.icmpNo X0.here hx rfl (hb hby dC5_20) rfl (tlt hg).2.2.2 kq) ?_
 refine s_iload X0 hx (hb hby dC5_23) rfl ?_
 show own_G p e below _ (s₁.setTop (mkF m 25 #[vR b, vI 0, vR d, vI 0, vI 3, vI 0, vI c0] [(.int 0)]))
 obtain ⟨fs, hr, hrun, hended, hW, hsame⟩ := X0.leave (v := some (.int 0)) (fun h => by rw [Bd.returns] at h; cases h)
 refine ⟨_, _, retOut X0 hx Bd.returns rfl (Or.inl ⟨rfl, by simp, _, rfl⟩) (hb hby dC5_25) hr, hrun, hended, _, _, rfl, ?_, ⟨_, rfl⟩, hW, hsame.mono (by decide) (by decide)⟩
 change Q_own_cm5_3_0 Z b d kC kD dv c0 c1 c2 h0 n0 _ s₁.heap _; rw [e0]; exact ⟨rfl, N0, K0⟩

def Q_own_cm5_3_1 (Z : State) (b d : Nat) (kC kD : ClassId) (dv : Value) (c0 c1 c2 : Int32) (h0 : Heap) (n0 : Nat) (v : Option Value) (h : Heap) (L : List Loc) : Prop := v = some (.int (1 : Int32)) ∧ Fr n0 L ∧ Keep h0 h [d]
theorem ef_own_cm5_3_1 (m : MethodId) (x0 : Nat) (x2 : Nat) : entryFrame m #[(.ref x0), (.int 0), (.ref x2), (.int 0), (.int 3)] 7 = mkF m 0 #[.val (.ref x0), .val (.int 0), .val (.ref x2), .val (.int 0), .val (.int 3), .unset, .unset] [] := by first | (simp [entryFrame, mkF, argsToLocals, Value.category]; done) | rfl
theorem own_cm5_3_1 (l : Launch) (Z : State) (a0 : Array Value) (hw : hWt a0 Z) (ws : List Jvm.Cond) (b d : Nat) (kC kD : ClassId) (dv : Value) (c0 c1 c2 : Int32) (h0 : Heap) (n0 : Nat) (Z0 : n0 ≤ h0.size) (X00 : Old Z n0 h0) (Vb : Arv Z h0 b kC .char (3 : Int32) [.int c0, .int c1, .int c2] dv) (Vd : Arv Z h0 d kD .byte (3 : Int32) [.int (0 : Int32), .int (0 : Int32), .int (0 : Int32)] (.int 0)) (gd : n0 ≤ d) (nbd : b ≠ d) (hl0 : ¬ (255 : Int32) < c0) (hg : (255 : Int32) < c1) :
    MetFree l mN9 (head1 (Jvm.Cond.code mN9 jdk_52_method_21_code 7 (some .int) :: ws) rm_0_0_0_0) (fun av_ U => av_ = #[(.ref b), (.int 0), (.ref d), (.int 0), (.int 3)] ∧ Z.Warmed39 U.vm ∧ U.heap = h0) (fun _ _ _ _ _ => True) (own_EN (Q_own_cm5_3_1 Z b d kC kD dv c0 c1 c2 h0 n0) rm_0_0_0_0) := by
 refine MetFree.of_bodySF (plainFor_of_name own_pn1) hisR ?_
 intro p e s m args below meth c s₁ Bd hml0 hP hK
 obtain ⟨rfl, hZ, hh⟩ := hP
 have hx := Bd.exec
 have hby := Bd.bytes
 have hml : c.maxLocals = 7 := hml0
 have hown : s.vm.findClass "java/lang/StringUTF16" = some m.cls := findClass_of_methodNamed Bd.named
 have X0 : Stand p l e rm_0_0_0_0 s m _ below meth c s₁ [] 0 0 := Stand.of_body Bd
 have e0 : s₁.heap = h0 := by rw [← hh, Bd.state]; rfl
 have N0 := Fr.nil n0
 have K0 : Keep h0 h0 [d] := Keep.refl h0 [d]
 refine show own_G p e below (own_EN (Q_own_cm5_3_1 Z b d kC kD dv c0 c1 c2 h0 n0) rm_0_0_0_0 #[(.ref b), (.int 0), (.ref d), (.int 0), (.int 3)] s) _ from ?_
 refine own_st (fun tq kq => castTop (ef_own_cm5_3_1 m (b) (d)) kq) ?_
 show own_G p e below _ (s₁.setTop (mkF m 0 #[vR b, vI 0, vR d, vI 0, vI 3, .unset, .unset] []))
 have hws0 : ∀ y ∈ [d], n0 ≤ y := allS gd all0
 refine s_iconst X0 hx (hb hby dC5_0) ?_
 refine own_st (fun tq kq => XS.istore X0.here hx rfl (hb hby dC5_1) rfl (l' := #[vR b, vI 0, vR d, vI 0, vI 3, vI 0, .unset]) rfl kq) ?_
 refine s_iload X0 hx (hb hby dC5_3) rfl ?_
 refine s_iload X0 hx (hb hby dC5_5) rfl ?_
 show own_G p e below _ (s₁.setTop (mkF m 7 #[vR b, vI 0, vR d, vI 0, vI 3, vI 0, .unset] [(.int 3), (.int 0)]))
 refine own_st (fun tq kq => XS.icmpNo X0.here hx rfl (hb hby dC5_7) rfl (tlt (by decide : ((0 : Int32) < (3 : Int32)))).2.1 kq) ?_
 refine s_aloadN X0 hx (hb hby dC5_10) rfl rfl ?_
 refine s_iloadN X0 hx (hb hby dC5_11) rfl ?_
 obtain ⟨cl1, Ar1, q1, S_1, N_1, H_1, G_1⟩ := id Vb
 have in1 : ¬ ((0 : Int32) < 0 ∨ cl1.slots.size ≤ ((0 : Int32)).toNatClampNeg) := inb_of S_1 ⟨by decide, by decide⟩
 have at1 : cl1.slots[((0 : Int32)).toNatClampNeg]? = some (.int c0) := H_1.at in1 rfl
 refine own_st (fun tq kq => X0.caload hx (j := (0 : Int32)) (v := (.int c0)) (by rw [e0]; exact Ar1.1) (State.isArrayOf_alike hZ.alike Ar1.2.1) Ar1.2.2 in1 at1 (g := (mkF m 12 #[vR b, vI 0, vR d, vI 0, vI 3, vI 0, .unset] [(.int 0), (.ref b)])) rfl rfl (hb hby dC5_12) _ kq) ?_
 show own_G p e below _ (s₁.setTop (mkF m 13 #[vR b, vI 0, vR d, vI 0, vI 3, vI 0, .unset] [(.int c0)]))
 refine own_st (fun tq kq => XS.istore X0.here hx rfl (hb hby dC5_13) rfl (l' := #[vR b, vI 0, vR d, vI 0, vI 3, vI 0, vI c0]) rfl kq) ?_
 refine s_iload X0 hx (hb hby dC5_15) rfl ?_
 refine s_sipush X0 hx (hb hby dC5_17) ?_
 show own_G p e below _ (s₁.setTop (mkF m 20 #[vR b, vI 0, vR d, vI 0, vI 3, vI 0, vI c0] [(.int 255), (.int c0)]))
 refine own_st (fun tq kq => XS.icmpYes X0.here hx rfl (pc0 := 20) (pc' := 26) rfl (hb hby dC5_20) rfl (flt hl0).2.2.2 (by decide) (by decide) kq) ?_
 refine s_aloadN X0 hx (hb hby dC5_26) rfl rfl ?_
 refine s_iloadN X0 hx (hb hby dC5_27) rfl ?_
 refine s_iload X0 hx (hb hby dC5_28) rfl ?_
 show own_G p e below _ (s₁.setTop (mkF m 30 #[vR b, vI 0, vR d, vI 0, vI 3, vI 0, vI c0] [(.int c0), (.int 0), (.ref d)]))
 refine own_st (fun tq kq => XS.i2b X0.here hx rfl (hb hby dC5_30) rfl kq) ?_
 obtain ⟨cl2, Ar2, q2, S_2, N_2, H_2, G_2⟩ := id Vd
 have in2 : ¬ ((0 : Int32) < 0 ∨ cl2.slots.size ≤ ((0 : Int32)).toNatClampNeg) := inb_of S_2 ⟨by decide, by decide⟩
 obtain ⟨T2, h2, X2, e2, W2, st2⟩ := stB X0 hx hZ e0 Ar2 (j := (0 : Int32)) in2 (g := (mkF m 31 #[vR b, vI 0, vR d, vI 0, vI 3, vI 0, vI c0] [(.int (c0.toInt8.toInt32)), (.int 0), (.ref d)])) rfl rfl (hb hby dC5_31)
 have V2 := Arv.set Ar2 q2 S_2 N_2 H_2 G_2 (fits_nar_byte _) W2 0 rfl (Nat.le_of_ble_eq_true rfl)
 have sz2 : h0.size ≤ h2.size := (Keep.of_wr W2).1
 have K2 : Keep h0 h2 [d] := K0.wr W2 (Or.inl (by simp))
 have N2 := Fr.snoc X2 N0 (own_le (by omega))
 refine own_st st2 ?_
 refine own_st (fun tq kq => XS.iinc X2.here hx rfl (hb hby dC5_32) rfl (l' := #[vR b, vI 1, vR d, vI 0, vI 3, vI 0, vI c0]) rfl kq) ?_
 refine own_st (fun tq kq => XS.iinc X2.here hx rfl (hb hby dC5_35) rfl (l' := #[vR b, vI 1, vR d, vI 1, vI 3, vI 0, vI c0]) rfl kq) ?_
 refine own_st (fun tq kq => XS.iinc X2.here hx rfl (hb hby dC5_38) rfl (l' := #[vR b, vI 1, vR d, vI 1, vI 3, vI 1, vI c0]) rfl kq) ?_
 refine own_st (fun tq kq => XS.goto X2.here hx rfl (pc0 := 41) (pc' := 3) rfl (hb hby dC5_41) (by decide) (by decide) kq) ?_
 show own_G p e below _ (T2.setTop (mkF m 3 #[vR b, vI 1, vR d, vI 1, vI 3, vI 1, vI c0] []))
 refine s_iload X2 hx (hb hby dC5_3) rfl ?_
 refine s_iload X2 hx (hb hby dC5_5) rfl ?_
 show own_G p e below _ (T2.setTop (mkF m 7 #[vR b, vI 1, vR d, vI 1, vI 3, vI 1, vI c0] [(.int 3), (.int 1)]))
 refine own_st (fun tq kq => XS.icmpNo X2.here hx rfl (hb hby dC5_7) rfl (tlt (by decide : ((1 : Int32) < (3 : Int32)))).2.1 kq) ?_
 refine s_aloadN X2 hx (hb hby dC5_10) rfl rfl ?_
 refine s_iloadN X2 hx (hb hby dC5_11) rfl ?_
 obtain ⟨cl3, Ar3, q3, S_3, N_3, H_3, G_3⟩ := id (Vb.other W2 (own_ne (by omega)))
 have in3 : ¬ ((1 : Int32) < 0 ∨ cl3.slots.size ≤ ((1 : Int32)).toNatClampNeg) := inb_of S_3 ⟨by decide, by decide⟩
 have at3 : cl3.slots[((1 : Int32)).toNatClampNeg]? = some (.int c1) := H_3.at in3 rfl
 refine own_st (fun tq kq => X2.caload hx (j := (1 : Int32)) (v := (.int c1)) (by rw [e2]; exact Ar3.1) (State.isArrayOf_alike hZ.alike Ar3.2.1) Ar3.2.2 in3 at3 (g := (mkF m 12 #[vR b, vI 1, vR d, vI 1, vI 3, vI 1, vI c0] [(.int 1), (.ref b)])) rfl rfl (hb hby dC5_12) _ kq) ?_
 show own_G p e below _ (T2.setTop (mkF m 13 #[vR b, vI 1, vR d, vI 1, vI 3, vI 1, vI c0] [(.int c1)]))
 refine own_st (fun tq kq => XS.istore X2.here hx rfl (hb hby dC5_13) rfl (l' := #[vR b, vI 1, vR d, vI 1, vI 3, vI 1, vI c1]) rfl kq) ?_
 refine s_iload X2 hx (hb hby dC5_15) rfl ?_
 refine s_sipush X2 hx (hb hby dC5_17) ?_
 show own_G p e below _ (T2.setTop (mkF m 20 #[vR b, vI 1, vR d, vI 1, vI 3, vI 1, vI c1] [(.int 255), (.int c1)]))
 refine own_st (fun tq kq => XS.icmpNo X2.here hx rfl (hb hby dC5_20) rfl (tlt hg).2.2.2 kq) ?_
 refine s_iload X2 hx (hb hby dC5_23) rfl ?_
 show own_G p e below _ (T2.setTop (mkF m 25 #[vR b, vI 1, vR d, vI 1, vI 3, vI 1, vI c1] [(.int 1)]))
 obtain ⟨fs, hr, hrun, hended, hW, hsame⟩ := X2.leave (v := some (.int 1)) (fun h => by rw [Bd.returns] at h; cases h)
 refine ⟨_, _, retOut X2 hx Bd.returns rfl (Or.inl ⟨rfl, by simp, _, rfl⟩) (hb hby dC5_25) hr, hrun, hended, _, _, rfl, ?_, ⟨_, rfl⟩, hW, hsame.mono (by decide) (by decide)⟩
 change Q_own_cm5_3_1 Z b d kC kD dv c0 c1 c2 h0 n0 _ T2.heap _; rw [e2]; exact ⟨rfl, N2, K2⟩

def Q_own_cm5_3_2 (Z : State) (b d : Nat) (kC kD : ClassId) (dv : Value) (c0 c1 c2 : Int32) (h0 : Heap) (n0 : Nat) (v : Option Value) (h : Heap) (L : List Loc) : Prop := v = some (.int (2 : Int32)) ∧ Fr n0 L ∧ Keep h0 h [d]
theorem ef_own_cm5_3_2 (m : MethodId) (x0 : Nat) (x2 : Nat) : entryFrame m #[(.ref x0), (.int 0), (.ref x2), (.int 0), (.int 3)] 7 = mkF m 0 #[.val (.ref x0), .val (.int 0), .val (.ref x2), .val (.int 0), .val (.int 3), .unset, .unset] [] := by first | (simp [entryFrame, mkF, argsToLocals, Value.category]; done) | rfl
theorem own_cm5_3_2 (l : Launch) (Z : State) (a0 : Array Value) (hw : hWt a0 Z) (ws : List Jvm.Cond) (b d : Nat) (kC kD : ClassId) (dv : Value) (c0 c1 c2 : Int32) (h0 : Heap) (n0 : Nat) (Z0 : n0 ≤ h0.size) (X00 : Old Z n0 h0) (Vb : Arv Z h0 b kC .char (3 : Int32) [.int c0, .int c1, .int c2] dv) (Vd : Arv Z h0 d kD .byte (3 : Int32) [.int (0 : Int32), .int (0 : Int32), .int (0 : Int32)] (.int 0)) (gd : n0 ≤ d) (nbd : b ≠ d) (hl0 : ¬ (255 : Int32) < c0) (hl1 : ¬ (255 : Int32) < c1) (hg : (255 : Int32) < c2) :
    MetFree l mN9 (head1 (Jvm.Cond.code mN9 jdk_52_method_21_code 7 (some .int) :: ws) rm_0_0_0_0) (fun av_ U => av_ = #[(.ref b), (.int 0), (.ref d), (.int 0), (.int 3)] ∧ Z.Warmed39 U.vm ∧ U.heap = h0) (fun _ _ _ _ _ => True) (own_EN (Q_own_cm5_3_2 Z b d kC kD dv c0 c1 c2 h0 n0) rm_0_0_0_0) := by
 refine MetFree.of_bodySF (plainFor_of_name own_pn1) hisR ?_
 intro p e s m args below meth c s₁ Bd hml0 hP hK
 obtain ⟨rfl, hZ, hh⟩ := hP
 have hx := Bd.exec
 have hby := Bd.bytes
 have hml : c.maxLocals = 7 := hml0
 have hown : s.vm.findClass "java/lang/StringUTF16" = some m.cls := findClass_of_methodNamed Bd.named
 have X0 : Stand p l e rm_0_0_0_0 s m _ below meth c s₁ [] 0 0 := Stand.of_body Bd
 have e0 : s₁.heap = h0 := by rw [← hh, Bd.state]; rfl
 have N0 := Fr.nil n0
 have K0 : Keep h0 h0 [d] := Keep.refl h0 [d]
 refine show own_G p e below (own_EN (Q_own_cm5_3_2 Z b d kC kD dv c0 c1 c2 h0 n0) rm_0_0_0_0 #[(.ref b), (.int 0), (.ref d), (.int 0), (.int 3)] s) _ from ?_
 refine own_st (fun tq kq => castTop (ef_own_cm5_3_2 m (b) (d)) kq) ?_
 show own_G p e below _ (s₁.setTop (mkF m 0 #[vR b, vI 0, vR d, vI 0, vI 3, .unset, .unset] []))
 have hws0 : ∀ y ∈ [d], n0 ≤ y := allS gd all0
 refine s_iconst X0 hx (hb hby dC5_0) ?_
 refine own_st (fun tq kq => XS.istore X0.here hx rfl (hb hby dC5_1) rfl (l' := #[vR b, vI 0, vR d, vI 0, vI 3, vI 0, .unset]) rfl kq) ?_
 refine s_iload X0 hx (hb hby dC5_3) rfl ?_
 refine s_iload X0 hx (hb hby dC5_5) rfl ?_
 show own_G p e below _ (s₁.setTop (mkF m 7 #[vR b, vI 0, vR d, vI 0, vI 3, vI 0, .unset] [(.int 3), (.int 0)]))
 refine own_st (fun tq kq => XS.icmpNo X0.here hx rfl (hb hby dC5_7) rfl (tlt (by decide : ((0 : Int32) < (3 : Int32)))).2.1 kq) ?_
 refine s_aloadN X0 hx (hb hby dC5_10) rfl rfl ?_
 refine s_iloadN X0 hx (hb hby dC5_11) rfl ?_
 obtain ⟨cl1, Ar1, q1, S_1, N_1, H_1, G_1⟩ := id Vb
 have in1 : ¬ ((0 : Int32) < 0 ∨ cl1.slots.size ≤ ((0 : Int32)).toNatClampNeg) := inb_of S_1 ⟨by decide, by decide⟩
 have at1 : cl1.slots[((0 : Int32)).toNatClampNeg]? = some (.int c0) := H_1.at in1 rfl
 refine own_st (fun tq kq => X0.caload hx (j := (0 : Int32)) (v := (.int c0)) (by rw [e0]; exact Ar1.1) (State.isArrayOf_alike hZ.alike Ar1.2.1) Ar1.2.2 in1 at1 (g := (mkF m 12 #[vR b, vI 0, vR d, vI 0, vI 3, vI 0, .unset] [(.int 0), (.ref b)])) rfl rfl (hb hby dC5_12) _ kq) ?_
 show own_G p e below _ (s₁.setTop (mkF m 13 #[vR b, vI 0, vR d, vI 0, vI 3, vI 0, .unset] [(.int c0)]))
 refine own_st (fun tq kq => XS.istore X0.here hx rfl (hb hby dC5_13) rfl (l' := #[vR b, vI 0, vR d, vI 0, vI 3, vI 0, vI c0]) rfl kq) ?_
 refine s_iload X0 hx (hb hby dC5_15) rfl ?_
 refine s_sipush X0 hx (hb hby dC5_17) ?_
 show own_G p e below _ (s₁.setTop (mkF m 20 #[vR b, vI 0, vR d, vI 0, vI 3, vI 0, vI c0] [(.int 255), (.int c0)]))
 refine own_st (fun tq kq => XS.icmpYes X0.here hx rfl (pc0 := 20) (pc' := 26) rfl (hb hby dC5_20) rfl (flt hl0).2.2.2 (by decide) (by decide) kq) ?_
 refine s_aloadN X0 hx (hb hby dC5_26) rfl rfl ?_
 refine s_iloadN X0 hx (hb hby dC5_27) rfl ?_
 refine s_iload X0 hx (hb hby dC5_28) rfl ?_
 show own_G p e below _ (s₁.setTop (mkF m 30 #[vR b, vI 0, vR d, vI 0, vI 3, vI 0, vI c0] [(.int c0), (.int 0), (.ref d)]))
 refine own_st (fun tq kq => XS.i2b X0.here hx rfl (hb hby dC5_30) rfl kq) ?_
 obtain ⟨cl2, Ar2, q2, S_2, N_2, H_2, G_2⟩ := id Vd
 have in2 : ¬ ((0 : Int32) < 0 ∨ cl2.slots.size ≤ ((0 : Int32)).toNatClampNeg) := inb_of S_2 ⟨by decide, by decide⟩
 obtain ⟨T2, h2, X2, e2, W2, st2⟩ := stB X0 hx hZ e0 Ar2 (j := (0 : Int32)) in2 (g := (mkF m 31 #[vR b, vI 0, vR d, vI 0, vI 3, vI 0, vI c0] [(.int (c0.toInt8.toInt32)), (.int 0), (.ref d)])) rfl rfl (hb hby dC5_31)
 have V2 := Arv.set Ar2 q2 S_2 N_2 H_2 G_2 (fits_nar_byte _) W2 0 rfl (Nat.le_of_ble_eq_true rfl)
 have sz2 : h0.size ≤ h2.size := (Keep.of_wr W2).1
 have K2 : Keep h0 h2 [d] := K0.wr W2 (Or.inl (by simp))
 have N2 := Fr.snoc X2 N0 (own_le (by omega))
 refine own_st st2 ?_
 refine own_st (fun tq kq => XS.iinc X2.here hx rfl (hb hby dC5_32) rfl (l' := #[vR b, vI 1, vR d, vI 0, vI 3, vI 0, vI c0]) rfl kq) ?_
 refine own_st (fun tq kq => XS.iinc X2.here hx rfl (hb hby dC5_35) rfl (l' := #[vR b, vI 1, vR d, vI 1, vI 3, vI 0, vI c0]) rfl kq) ?_
 refine own_st (fun tq kq => XS.iinc X2.here hx rfl (hb hby dC5_38) rfl (l' := #[vR b, vI 1, vR d, vI 1, vI 3, vI 1, vI c0]) rfl kq) ?_
 refine own_st (fun tq kq => XS.goto X2.here hx rfl (pc0 := 41) (pc' := 3) rfl (hb hby dC5_41) (by decide) (by decide) kq) ?_
 show own_G p e below _ (T2.setTop (mkF m 3 #[vR b, vI 1, vR d, vI 1, vI 3, vI 1, vI c0] []))
 refine s_iload X2 hx (hb hby dC5_3) rfl ?_
 refine s_iload X2 hx (hb hby dC5_5) rfl ?_
 show own_G p e below _ (T2.setTop (mkF m 7 #[vR b, vI 1, vR d, vI 1, vI 3, vI 1, vI c0] [(.int 3), (.int 1)]))
 refine own_st (fun tq kq => XS.icmpNo X2.here hx rfl (hb hby dC5_7) rfl (tlt (by decide : ((1 : Int32) < (3 : Int32)))).2.1 kq) ?_
 refine s_aloadN X2 hx (hb hby dC5_10) rfl rfl ?_
 refine s_iloadN X2 hx (hb hby dC5_11) rfl ?_
 obtain ⟨cl3, Ar3, q3, S_3, N_3, H_3, G_3⟩ := id (Vb.other W2 (own_ne (by omega)))
 have in3 : ¬ ((1 : Int32) < 0 ∨ cl3.slots.size ≤ ((1 : Int32)).toNatClampNeg) := inb_of S_3 ⟨by decide, by decide⟩
 have at3 : cl3.slots[((1 : Int32)).toNatClampNeg]? = some (.int c1) := H_3.at in3 rfl
 refine own_st (fun tq kq => X2.caload hx (j := (1 : Int32)) (v := (.int c1)) (by rw [e2]; exact Ar3.1) (State.isArrayOf_alike hZ.alike Ar3.2.1) Ar3.2.2 in3 at3 (g := (mkF m 12 #[vR b, vI 1, vR d, vI 1, vI 3, vI 1, vI c0] [(.int 1), (.ref b)])) rfl rfl (hb hby dC5_12) _ kq) ?_
 show own_G p e below _ (T2.setTop (mkF m 13 #[vR b, vI 1, vR d, vI 1, vI 3, vI 1, vI c0] [(.int c1)]))
 refine own_st (fun tq kq => XS.istore X2.here hx rfl (hb hby dC5_13) rfl (l' := #[vR b, vI 1, vR d, vI 1, vI 3, vI 1, vI c1]) rfl kq) ?_
 refine s_iload X2 hx (hb hby dC5_15) rfl ?_
 refine s_sipush X2 hx (hb hby dC5_17) ?_
 show own_G p e below _ (T2.setTop (mkF m 20 #[vR b, vI 1, vR d, vI 1, vI 3, vI 1, vI c1] [(.int 255), (.int c1)]))
 refine own_st (fun tq kq => XS.icmpYes X2.here hx rfl (pc0 := 20) (pc' := 26) rfl (hb hby dC5_20) rfl (flt hl1).2.2.2 (by decide) (by decide) kq) ?_
 refine s_aloadN X2 hx (hb hby dC5_26) rfl rfl ?_
 refine s_iloadN X2 hx (hb hby dC5_27) rfl ?_
 refine s_iload X2 hx (hb hby dC5_28) rfl ?_
 show own_G p e below _ (T2.setTop (mkF m 30 #[vR b, vI 1, vR d, vI 1, vI 3, vI 1, vI c1] [(.int c1), (.int 1), (.ref d)]))
 refine own_st (fun tq kq => XS.i2b X2.here hx rfl (hb hby dC5_30) rfl kq) ?_
 obtain ⟨cl4, Ar4, q4, S_4, N_4, H_4, G_4⟩ := id V2
 have in4 : ¬ ((1 : Int32) < 0 ∨ cl4.slots.size ≤ ((1 : Int32)).toNatClampNeg) := inb_of S_4 ⟨by decide, by decide⟩
 obtain ⟨T4, h4, X4, e4, W4, st4⟩ := stB X2 hx hZ e2 Ar4 (j := (1 : Int32)) in4 (g := (mkF m 31 #[vR b, vI 1, vR d, vI 1, vI 3, vI 1, vI c1] [(.int (c1.toInt8.toInt32)), (.int 1), (.ref d)])) rfl rfl (hb hby dC5_31)
 have V4 := Arv.set Ar4 q4 S_4 N_4 H_4 G_4 (fits_nar_byte _) W4 1 rfl (Nat.le_of_ble_eq_true rfl)
 have sz4 : h2.size ≤ h4.size := (Keep.of_wr W4).1
 have K4 : Keep h0 h4 [d] := K2.wr W4 (Or.inl (by simp))
 have N4 := Fr.snoc X4 N2 (own_le (by omega))
 refine own_st st4 ?_
 refine own_st (fun tq kq => XS.iinc X4.here hx rfl (hb hby dC5_32) rfl (l' := #[vR b, vI 2, vR d, vI 1, vI 3, vI 1, vI c1]) rfl kq) ?_
 refine own_st (fun tq kq => XS.iinc X4.here hx rfl (hb hby dC5_35) rfl (l' := #[vR b, vI 2, vR d, vI 2, vI 3, vI 1, vI c1]) rfl kq) ?_
 refine own_st (fun tq kq => XS.iinc X4.here hx rfl (hb hby dC5_38) rfl (l' := #[vR b, vI 2, vR d, vI 2, vI 3, vI 2, vI c1]) rfl kq) ?_
 refine own_st (fun tq kq => XS.goto X4.here hx rfl (pc0 := 41) (pc' := 3) rfl (hb hby dC5_41) (by decide) (by decide) kq) ?_
 show own_G p e below _ (T4.setTop (mkF m 3 #[vR b, vI 2, vR d, vI 2, vI 3, vI 2, vI c1] []))
 refine s_iload X4 hx (hb hby dC5_3) rfl ?_
 refine s_iload X4 hx (hb hby dC5_5) rfl ?_
 show own_G p e below _ (T4.setTop (mkF m 7 #[vR b, vI 2, vR d, vI 2, vI 3, vI 2, vI c1] [(.int 3), (.int 2)]))
 refine own_st (fun tq kq => XS.icmpNo X4.here hx rfl (hb hby dC5_7) rfl (tlt (by decide : ((2 : Int32) < (3 : Int32)))).2.1 kq) ?_
 refine s_aloadN X4 hx (hb hby dC5_10) rfl rfl ?_
 refine s_iloadN X4 hx (hb hby dC5_11) rfl ?_
 obtain ⟨cl5, Ar5, q5, S_5, N_5, H_5, G_5⟩ := id ((Vb.other W2 (own_ne (by omega))).other W4 (own_ne (by omega)))
 have in5 : ¬ ((2 : Int32) < 0 ∨ cl5.slots.size ≤ ((2 : Int32)).toNatClampNeg) := inb_of S_5 ⟨by decide, by decide⟩
 have at5 : cl5.slots[((2 : Int32)).toNatClampNeg]? = some (.int c2) := H_5.at in5 rfl
 refine own_st (fun tq kq => X4.caload hx (j := (2 : Int32)) (v := (.int c2)) (by rw [e4]; exact Ar5.1) (State.isArrayOf_alike hZ.alike Ar5.2.1) Ar5.2.2 in5 at5 (g := (mkF m 12 #[vR b, vI 2, vR d, vI 2, vI 3, vI 2, vI c1] [(.int 2), (.ref b)])) rfl rfl (hb hby dC5_12) _ kq) ?_
 show own_G p e below _ (T4.setTop (mkF m 13 #[vR b, vI 2, vR d, vI 2, vI 3, vI 2, vI c1] [(.int c2)]))
 refine own_st (fun tq kq => XS.istore X4.here hx rfl (hb hby dC5_13) rfl (l' := #[vR b, vI 2, vR d, vI 2, vI 3, vI 2, vI c2]) rfl kq) ?_
 refine s_iload X4 hx (hb hby dC5_15) rfl ?_
 refine s_sipush X4 hx (hb hby dC5_17) ?_
 show own_G p e below _ (T4.setTop (mkF m 20 #[vR b, vI 2, vR d, vI 2, vI 3, vI 2, vI c2] [(.int 255), (.int c2)]))
 refine own_st (fun tq kq => XS.icmpNo X4.here hx rfl (hb hby dC5_20) rfl (tlt hg).2.2.2 kq) ?_
 refine s_iload X4 hx (hb hby dC5_23) rfl ?_
 show own_G p e below _ (T4.setTop (mkF m 25 #[vR b, vI 2, vR d, vI 2, vI 3, vI 2, vI c2] [(.int 2)]))
 obtain ⟨fs, hr, hrun, hended, hW, hsame⟩ := X4.leave (v := some (.int 2)) (fun h => by rw [Bd.returns] at h; cases h)
 refine ⟨_, _, retOut X4 hx Bd.returns rfl (Or.inl ⟨rfl, by simp, _, rfl⟩) (hb hby dC5_25) hr, hrun, hended, _, _, rfl, ?_, ⟨_, rfl⟩, hW, hsame.mono (by decide) (by decide)⟩
 change Q_own_cm5_3_2 Z b d kC kD dv c0 c1 c2 h0 n0 _ T4.heap _; rw [e4]; exact ⟨rfl, N4, K4⟩

def Q_own_cm3_3 (Z : State) (b : Nat) (kC : ClassId) (dv : Value) (c0 c1 c2 : Int32) (h0 : Heap) (n0 : Nat) (v : Option Value) (h : Heap) (L : List Loc) : Prop := ∃ (t : Nat) (kb : ClassId), v = some (.ref t) ∧ Fr n0 L ∧ Keep h0 h [] ∧ h0.size ≤ t ∧ t < h.size ∧ Arv Z h t kb .byte (6 : Int32) [.int (L8 c0), .int (H8 c0), .int (L8 c1), .int (H8 c1), .int (L8 c2), .int (H8 c2)] (.int 0)
theorem ef_own_cm3_3 (m : MethodId) (x0 : Nat) : entryFrame m #[(.ref x0), (.int 0), (.int 3)] 6 = mkF m 0 #[.val (.ref x0), .val (.int 0), .val (.int 3), .unset, .unset, .unset] [] := by first | (simp [entryFrame, mkF, argsToLocals, Value.category]; done) | rfl
theorem own_cm3_3 (l : Launch) (Z : State) (a0 : Array Value) (hw : hWt a0 Z) (ws : List Jvm.Cond) (b : Nat) (kC : ClassId) (dv : Value) (c0 c1 c2 : Int32) (h0 : Heap) (n0 : Nat) (Z0 : n0 ≤ h0.size) (X00 : Old Z n0 h0) (OA : oA Z) (OH : oH Z) (OL : oL Z) (Vb : Arv Z h0 b kC .char (3 : Int32) [.int c0, .int c1, .int c2] dv) (hb0 : ¬ c0 < 0 ∧ ¬ (65535 : Int32) < c0) (hb1 : ¬ c1 < 0 ∧ ¬ (65535 : Int32) < c1) (hb2 : ¬ c2 < 0 ∧ ¬ (65535 : Int32) < c2) (hD : ((255 : Int32) < c0) ∨ (¬ (255 : Int32) < c0 ∧ (255 : Int32) < c1) ∨ (¬ (255 : Int32) < c0 ∧ ¬ (255 : Int32) < c1 ∧ (255 : Int32) < c2)) :
    MetFree l mN10 (head1 (Jvm.Cond.code mN10 jdk_52_method_16_code 6 (some (.array .byte)) :: ws) rm_3_2_9_70) (fun av_ U => av_ = #[(.ref b), (.int 0), (.int 3)] ∧ Z.Warmed39 U.vm ∧ U.heap = h0) (fun _ _ _ _ _ => True) (own_EN (Q_own_cm3_3 Z b kC dv c0 c1 c2 h0 n0) rm_3_2_9_70) := by
 refine MetFree.of_bodySF (plainFor_of_name own_pn1) hisR ?_
 intro p e s m args below meth c s₁ Bd hml0 hP hK
 obtain ⟨rfl, hZ, hh⟩ := hP
 have hx := Bd.exec
 have hby := Bd.bytes
 have hml : c.maxLocals = 6 := hml0
 have hown : s.vm.findClass "java/lang/StringUTF16" = some m.cls := findClass_of_methodNamed Bd.named
 have X0 : Stand p l e rm_3_2_9_70 s m _ below meth c s₁ [] 0 0 := Stand.of_body Bd
 have e0 : s₁.heap = h0 := by rw [← hh, Bd.state]; rfl
 have N0 := Fr.nil n0
 have K0 : Keep h0 h0 [] := Keep.refl h0 []
 refine show own_G p e below (own_EN (Q_own_cm3_3 Z b kC dv c0 c1 c2 h0 n0) rm_3_2_9_70 #[(.ref b), (.int 0), (.int 3)] s) _ from ?_
 refine own_st (fun tq kq => castTop (ef_own_cm3_3 m (b)) kq) ?_
 show own_G p e below _ (s₁.setTop (mkF m 0 #[vR b, vI 0, vI 3, .unset, .unset, .unset] []))
 have ltb : b < h0.size := Vb.lt
 rcases hD with hg | ⟨hl0, hg⟩ | ⟨hl0, hl1, hg⟩
 ·
  refine s_iloadN X0 hx (hb hby dC3_0) rfl ?_
  obtain ⟨T1, h1, k1, X1, e1, E1, A1, st1⟩ := newP X0 hx hZ (hw _ (List.mem_of_getElem? (i := 16) rfl)) e0 (g := (mkF m 1 #[vR b, vI 0, vI 3, .unset, .unset, .unset] [(.int 3)])) rfl (hb hby dC3_1) rfl (by decide) (cap := 3) (by decide) (by decide) (by decide) (by decide)
  obtain ⟨b1, g1⟩ : ∃ z, z = h0.size := ⟨_, rfl⟩
  rw [← g1] at A1 st1
  have lt1 : b1 < h1.size := A1.lt
  have V1 : Arv Z h1 b1 k1 .byte (3 : Int32) [(.int (0 : Int32)), (.int (0 : Int32)), (.int (0 : Int32))] (.int (0 : Int32)) := (Arv.new A1 (by decide)).pad (pad_rep [] (.int (0 : Int32)) 3)
  have sz1 : h0.size ≤ h1.size := E1.1
  have K1 : Keep h0 h1 [] := K0.ext E1
  refine own_st st1 ?_
  refine own_st (fun tq kq => XS.astoreN X1.here hx rfl (hb hby dC3_3) rfl rfl (l' := #[vR b, vI 0, vI 3, vR b1, .unset, .unset]) rfl kq) ?_
  refine s_aloadN X1 hx (hb hby dC3_4) rfl rfl ?_
  refine s_iloadN X1 hx (hb hby dC3_5) rfl ?_
  refine s_aloadN X1 hx (hb hby dC3_6) rfl rfl ?_
  show own_G p e below _ (T1.setTop (mkF m 7 #[vR b, vI 0, vI 3, vR b1, .unset, .unset] [(.ref b1), (.int 0), (.ref b)]))
  refine s_iconst X1 hx (hb hby dC3_7) ?_
  refine s_iloadN X1 hx (hb hby dC3_8) rfl ?_
  obtain ⟨_, _, ⟨T2, L2, k2, n2⟩, -, X2, ⟨Lc2, hQ2, l2, y2, z2⟩, st2⟩ := Jvm.LawKit.callS X1 hx (y := mN9) hown (mvT hZ (wd42 hw)) (mvT hZ (wd43 hw)) (mvT hZ (wd40 hw)) (mvT hZ (wd44 hw)) (by decide) (own_backN (W := 0) (own_cm5_3_0 l Z a0 hw [] (b) (b1) (kC) (k1) (dv) (c0) (c1) (c2) h1 n0 (by omega) (X00.keep K1 all0) (Vb.ext E1) V1 (by omega) (own_ne (by omega)) hg) hZ (wd44 hw) (wd40 hw) (by decide) (by decide)) (g := (mkF m 9 #[vR b, vI 0, vI 3, vR b1, .unset, .unset] [(.int 3), (.int 0), (.ref b1), (.int 0), (.ref b)])) rfl (by rw [hml]; rfl) (argsL := [(.ref b), (.int 0), (.ref b1), (.int 0), (.int 3)]) (rest := []) (lenOf own_pd4 rfl) rfl (Nat.le_of_eq rfl) (hb hby dC3_9) (fun _ _ => ⟨rfl, e1, (by decide : 1 + 0 ≤ _), (by decide : 3 + 0 ≤ _)⟩)
  dsimp only [Pt.U, Pt.locs, Pt.cells, Pt.slots] at X2 l2 y2 z2 st2 hQ2
  subst l2 y2 z2
  obtain ⟨rfl, Nq2, Kq2⟩ := hQ2
  have KK2 : Keep h1 T2.heap [b1] := Kq2
  have sz2 : h1.size ≤ T2.heap.size := KK2.1
  have K2 : Keep h0 T2.heap [] := K1.trans KK2 (allS (Or.inr (own_le (by omega))) all0)
  have N2 := Fr.app N0 Nq2
  refine own_st st2 ?_
  refine own_st (fun tq kq => XS.istore X2.here hx rfl (hb hby dC3_12) rfl (l' := #[vR b, vI 0, vI 3, vR b1, vI 0, .unset]) rfl kq) ?_
  refine s_iload X2 hx (hb hby dC3_14) rfl ?_
  refine s_iloadN X2 hx (hb hby dC3_16) rfl ?_
  show own_G p e below _ (T2.setTop (mkF m 17 #[vR b, vI 0, vI 3, vR b1, vI 0, .unset] [(.int 3), (.int 0)]))
  refine own_st (fun tq kq => XS.icmpNo X2.here hx rfl (hb hby dC3_17) rfl (feq (by decide : ¬ ((0 : Int32) = (3 : Int32)))).1 kq) ?_
  refine s_aloadN X2 hx (hb hby dC3_20) rfl rfl ?_
  refine s_iloadN X2 hx (hb hby dC3_21) rfl ?_
  refine s_iloadN X2 hx (hb hby dC3_22) rfl ?_
  show own_G p e below _ (T2.setTop (mkF m 23 #[vR b, vI 0, vI 3, vR b1, vI 0, .unset] [(.int 3), (.int 0), (.ref b)]))
  obtain ⟨_, _, ⟨T3, L3, k3, n3⟩, -, X3, ⟨Lc3, hQ3, l3, y3, z3⟩, st3⟩ := Jvm.LawKit.callS X2 hx (y := mN7) hown (mvT hZ (wd74 hw)) (mvT hZ (wd75 hw)) (mvT hZ (wd40 hw)) (mvT hZ (wd76 hw)) (by decide) (own_backN (W := 0) (own_toB3 l Z a0 hw [] (b) (kC) (dv) (c0) (c1) (c2) T2.heap n0 (by omega) (X00.keep K2 all0) OA OH OL ((Vb.ext E1).keep KK2 (ninS (own_ne (by omega)) nin0))) hZ (wd76 hw) (wd40 hw) (by decide) (by decide)) (g := (mkF m 23 #[vR b, vI 0, vI 3, vR b1, vI 0, .unset] [(.int 3), (.int 0), (.ref b)])) rfl (by rw [hml]; rfl) (argsL := [(.ref b), (.int 0), (.int 3)]) (rest := []) (lenOf own_pd5 rfl) rfl (Nat.le_of_eq rfl) (hb hby dC3_23) (fun _ _ => ⟨rfl, rfl, (by decide : 1 + 1 ≤ _), (by decide : 3 + 6 ≤ _)⟩)
  dsimp only [Pt.U, Pt.locs, Pt.cells, Pt.slots] at X3 l3 y3 z3 st3 hQ3
  subst l3 y3 z3
  obtain ⟨t3, kb3, rfl, Nq3, Kq3, gt3, lt3, Vt3⟩ := hQ3
  have KK3 : Keep T2.heap T3.heap [] := Kq3
  have sz3 : T2.heap.size ≤ T3.heap.size := KK3.1
  have K3 : Keep h0 T3.heap [] := K2.trans KK3 all0
  have N3 := Fr.app N2 Nq3
  refine own_st st3 ?_
  refine own_st (fun tq kq => XS.astore X3.here hx rfl (hb hby dC3_26) rfl rfl (l' := #[vR b, vI 0, vI 3, vR b1, vI 0, vR t3]) rfl kq) ?_
  refine s_aload X3 hx (hb hby dC3_28) rfl rfl ?_
  refine s_iload X3 hx (hb hby dC3_30) rfl ?_
  obtain ⟨_, _, ⟨T4, L4, k4, n4⟩, -, X4, ⟨Lc4, hQ4, l4, y4, z4⟩, st4⟩ := Jvm.LawKit.callS X3 hx (y := mN2) hown (mvT hZ (wd90 hw)) (mvT hZ (wd91 hw)) (mvT hZ (wd40 hw)) (mvT hZ (wd92 hw)) (by decide) (own_backN (W := 0) (own_get_0 l Z a0 hw [] (t3) (_) (_) (_) (_) (_) T3.heap n0 (by omega) (X00.keep K3 all0) OA OH OL Vt3 (by decide) (by decide) rfl rfl) hZ (wd92 hw) (wd40 hw) (by decide) (by decide)) (g := (mkF m 32 #[vR b, vI 0, vI 3, vR b1, vI 0, vR t3] [(.int 0), (.ref t3)])) rfl (by rw [hml]; rfl) (argsL := [(.ref t3), (.int 0)]) (rest := []) (lenOf own_pd6 rfl) rfl (Nat.le_of_eq rfl) (hb hby dC3_32) (fun _ _ => ⟨rfl, rfl, (by decide : 2 + 0 ≤ _), (by decide : 9 + 0 ≤ _)⟩)
  dsimp only [Pt.U, Pt.locs, Pt.cells, Pt.slots] at X4 l4 y4 z4 st4 hQ4
  subst l4 y4 z4
  obtain ⟨rfl, Nq4, sm4⟩ := hQ4
  have N4 := Fr.app N3 Nq4
  refine own_st st4 ?_
  refine s_sipush X4 hx (hb hby dC3_35) ?_
  show own_G p e below _ (T4.setTop (mkF m 38 #[vR b, vI 0, vI 3, vR b1, vI 0, vR t3] [(.int 255), (.int (StrChars.pairCh (L8 c0) (H8 c0)))]))
  refine own_st (fun tq kq => XS.icmpYes X4.here hx rfl (pc0 := 38) (pc' := 54) rfl (hb hby dC3_38) rfl (tlt (by rw [StrChars.pair_says hb0.1 hb0.2]; exact hg)).2.2.1 (by decide) (by decide) kq) ?_
  refine s_aload X4 hx (hb hby dC3_54) rfl rfl ?_
  show own_G p e below _ (T4.setTop (mkF m 56 #[vR b, vI 0, vI 3, vR b1, vI 0, vR t3] [(.ref t3)]))
  obtain ⟨fs, hr, hrun, hended, hW, hsame⟩ := X4.leave (v := some (.ref t3)) (fun h => by rw [Bd.returns] at h; cases h)
  refine ⟨_, _, retOut X4 hx Bd.returns rfl (Or.inr (Or.inr (Or.inr (Or.inr ⟨rfl, rfl, rfl⟩)))) (hb hby dC3_56) hr, hrun, hended, _, _, rfl, ?_, ⟨_, rfl⟩, hW, hsame.mono (by decide) (by decide)⟩
  change Q_own_cm3_3 Z b kC dv c0 c1 c2 h0 n0 _ T4.heap _; rw [sm4]; exact ⟨t3, _, rfl, N4, K3, (by omega), Vt3.lt, Vt3⟩
 ·
  refine s_iloadN X0 hx (hb hby dC3_0) rfl ?_
  obtain ⟨T5, h5, k5, X5, e5, E5, A5, st5⟩ := newP X0 hx hZ (hw _ (List.mem_of_getElem? (i := 16) rfl)) e0 (g := (mkF m 1 #[vR b, vI 0, vI 3, .unset, .unset, .unset] [(.int 3)])) rfl (hb hby dC3_1) rfl (by decide) (cap := 3) (by decide) (by decide) (by decide) (by decide)
  obtain ⟨b5, g5⟩ : ∃ z, z = h0.size := ⟨_, rfl⟩
  rw [← g5] at A5 st5
  have lt5 : b5 < h5.size := A5.lt
  have V5 : Arv Z h5 b5 k5 .byte (3 : Int32) [(.int (0 : Int32)), (.int (0 : Int32)), (.int (0 : Int32))] (.int (0 : Int32)) := (Arv.new A5 (by decide)).pad (pad_rep [] (.int (0 : Int32)) 3)
  have sz5 : h0.size ≤ h5.size := E5.1
  have K5 : Keep h0 h5 [] := K0.ext E5
  refine own_st st5 ?_
  refine own_st (fun tq kq => XS.astoreN X5.here hx rfl (hb hby dC3_3) rfl rfl (l' := #[vR b, vI 0, vI 3, vR b5, .unset, .unset]) rfl kq) ?_
  refine s_aloadN X5 hx (hb hby dC3_4) rfl rfl ?_
  refine s_iloadN X5 hx (hb hby dC3_5) rfl ?_
  refine s_aloadN X5 hx (hb hby dC3_6) rfl rfl ?_
  show own_G p e below _ (T5.setTop (mkF m 7 #[vR b, vI 0, vI 3, vR b5, .unset, .unset] [(.ref b5), (.int 0), (.ref b)]))
  refine s_iconst X5 hx (hb hby dC3_7) ?_
  refine s_iloadN X5 hx (hb hby dC3_8) rfl ?_
  obtain ⟨_, _, ⟨T6, L6, k6, n6⟩, -, X6, ⟨Lc6, hQ6, l6, y6, z6⟩, st6⟩ := Jvm.LawKit.callS X5 hx (y := mN9) hown (mvT hZ (wd42 hw)) (mvT hZ (wd43 hw)) (mvT hZ (wd40 hw)) (mvT hZ (wd44 hw)) (by decide) (own_backN (W := 0) (own_cm5_3_1 l Z a0 hw [] (b) (b5) (kC) (k5) (dv) (c0) (c1) (c2) h5 n0 (by omega) (X00.keep K5 all0) (Vb.ext E5) V5 (by omega) (own_ne (by omega)) hl0 hg) hZ (wd44 hw) (wd40 hw) (by decide) (by decide)) (g := (mkF m 9 #[vR b, vI 0, vI 3, vR b5, .unset, .unset] [(.int 3), (.int 0), (.ref b5), (.int 0), (.ref b)])) rfl (by rw [hml]; rfl) (argsL := [(.ref b), (.int 0), (.ref b5), (.int 0), (.int 3)]) (rest := []) (lenOf own_pd4 rfl) rfl (Nat.le_of_eq rfl) (hb hby dC3_9) (fun _ _ => ⟨rfl, e5, (by decide : 1 + 0 ≤ _), (by decide : 3 + 0 ≤ _)⟩)
  dsimp only [Pt.U, Pt.locs, Pt.cells, Pt.slots] at X6 l6 y6 z6 st6 hQ6
  subst l6 y6 z6
  obtain ⟨rfl, Nq6, Kq6⟩ := hQ6
  have KK6 : Keep h5 T6.heap [b5] := Kq6
  have sz6 : h5.size ≤ T6.heap.size := KK6.1
  have K6 : Keep h0 T6.heap [] := K5.trans KK6 (allS (Or.inr (own_le (by omega))) all0)
  have N6 := Fr.app N0 Nq6
  refine own_st st6 ?_
  refine own_st (fun tq kq => XS.istore X6.here hx rfl (hb hby dC3_12) rfl (l' := #[vR b, vI 0, vI 3, vR b5, vI 1, .unset]) rfl kq) ?_
  refine s_iload X6 hx (hb hby dC3_14) rfl ?_
  refine s_iloadN X6 hx (hb hby dC3_16) rfl ?_
  show own_G p e below _ (T6.setTop (mkF m 17 #[vR b, vI 0, vI 3, vR b5, vI 1, .unset] [(.int 3), (.int 1)]))
  refine own_st (fun tq kq => XS.icmpNo X6.here hx rfl (hb hby dC3_17) rfl (feq (by decide : ¬ ((1 : Int32) = (3 : Int32)))).1 kq) ?_
  refine s_aloadN X6 hx (hb hby dC3_20) rfl rfl ?_
  refine s_iloadN X6 hx (hb hby dC3_21) rfl ?_
  refine s_iloadN X6 hx (hb hby dC3_22) rfl ?_
  show own_G p e below _ (T6.setTop (mkF m 23 #[vR b, vI 0, vI 3, vR b5, vI 1, .unset] [(.int 3), (.int 0), (.ref b)]))
  obtain ⟨_, _, ⟨T7, L7, k7, n7⟩, -, X7, ⟨Lc7, hQ7, l7, y7, z7⟩, st7⟩ := Jvm.LawKit.callS X6 hx (y := mN7) hown (mvT hZ (wd74 hw)) (mvT hZ (wd75 hw)) (mvT hZ (wd40 hw)) (mvT hZ (wd76 hw)) (by decide) (own_backN (W := 0) (own_toB3 l Z a0 hw [] (b) (kC) (dv) (c0) (c1) (c2) T6.heap n0 (by omega) (X00.keep K6 all0) OA OH OL ((Vb.ext E5).keep KK6 (ninS (own_ne (by omega)) nin0))) hZ (wd76 hw) (wd40 hw) (by decide) (by decide)) (g := (mkF m 23 #[vR b, vI 0, vI 3, vR b5, vI 1, .unset] [(.int 3), (.int 0), (.ref b)])) rfl (by rw [hml]; rfl) (argsL := [(.ref b), (.int 0), (.int 3)]) (rest := []) (lenOf own_pd5 rfl) rfl (Nat.le_of_eq rfl) (hb hby dC3_23) (fun _ _ => ⟨rfl, rfl, (by decide : 1 + 1 ≤ _), (by decide : 3 + 6 ≤ _)⟩)
  dsimp only [Pt.U, Pt.locs, Pt.cells, Pt.slots] at X7 l7 y7 z7 st7 hQ7
  subst l7 y7 z7
  obtain ⟨t7, kb7, rfl, Nq7, Kq7, gt7, lt7, Vt7⟩ := hQ7
  have KK7 : Keep T6.heap T7.heap [] := Kq7
  have sz7 : T6.heap.size ≤ T7.heap.size := KK7.1
  have K7 : Keep h0 T7.heap [] := K6.trans KK7 all0
  have N7 := Fr.app N6 Nq7
  refine own_st st7 ?_
  refine own_st (fun tq kq => XS.astore X7.here hx rfl (hb hby dC3_26) rfl rfl (l' := #[vR b, vI 0, vI 3, vR b5, vI 1, vR t7]) rfl kq) ?_
  refine s_aload X7 hx (hb hby dC3_28) rfl rfl ?_
  refine s_iload X7 hx (hb hby dC3_30) rfl ?_
  obtain ⟨_, _, ⟨T8, L8, k8, n8⟩, -, X8, ⟨Lc8, hQ8, l8, y8, z8⟩, st8⟩ := Jvm.LawKit.callS X7 hx (y := mN2) hown (mvT hZ (wd90 hw)) (mvT hZ (wd91 hw)) (mvT hZ (wd40 hw)) (mvT hZ (wd92 hw)) (by decide) (own_backN (W := 0) (own_get_1 l Z a0 hw [] (t7) (_) (_) (_) (_) (_) T7.heap n0 (by omega) (X00.keep K7 all0) OA OH OL Vt7 (by decide) (by decide) rfl rfl) hZ (wd92 hw) (wd40 hw) (by decide) (by decide)) (g := (mkF m 32 #[vR b, vI 0, vI 3, vR b5, vI 1, vR t7] [(.int 1), (.ref t7)])) rfl (by rw [hml]; rfl) (argsL := [(.ref t7), (.int 1)]) (rest := []) (lenOf own_pd6 rfl) rfl (Nat.le_of_eq rfl) (hb hby dC3_32) (fun _ _ => ⟨rfl, rfl, (by decide : 2 + 0 ≤ _), (by decide : 9 + 0 ≤ _)⟩)
  dsimp only [Pt.U, Pt.locs, Pt.cells, Pt.slots] at X8 l8 y8 z8 st8 hQ8
  subst l8 y8 z8
  obtain ⟨rfl, Nq8, sm8⟩ := hQ8
  have N8 := Fr.app N7 Nq8
  refine own_st st8 ?_
  refine s_sipush X8 hx (hb hby dC3_35) ?_
  show own_G p e below _ (T8.setTop (mkF m 38 #[vR b, vI 0, vI 3, vR b5, vI 1, vR t7] [(.int 255), (.int (StrChars.pairCh (L8 c1) (H8 c1)))]))
  refine own_st (fun tq kq => XS.icmpYes X8.here hx rfl (pc0 := 38) (pc' := 54) rfl (hb hby dC3_38) rfl (tlt (by rw [StrChars.pair_says hb1.1 hb1.2]; exact hg)).2.2.1 (by decide) (by decide) kq) ?_
  refine s_aload X8 hx (hb hby dC3_54) rfl rfl ?_
  show own_G p e below _ (T8.setTop (mkF m 56 #[vR b, vI 0, vI 3, vR b5, vI 1, vR t7] [(.ref t7)]))
  obtain ⟨fs, hr, hrun, hended, hW, hsame⟩ := X8.leave (v := some (.ref t7)) (fun h => by rw [Bd.returns] at h; cases h)
  refine ⟨_, _, retOut X8 hx Bd.returns rfl (Or.inr (Or.inr (Or.inr (Or.inr ⟨rfl, rfl, rfl⟩)))) (hb hby dC3_56) hr, hrun, hended, _, _, rfl, ?_, ⟨_, rfl⟩, hW, hsame.mono (by decide) (by decide)⟩
  change Q_own_cm3_3 Z b kC dv c0 c1 c2 h0 n0 _ T8.heap _; rw [sm8]; exact ⟨t7, _, rfl, N8, K7, (by omega), Vt7.lt, Vt7⟩
 ·
  refine s_iloadN X0 hx (hb hby dC3_0) rfl ?_
  obtain ⟨T9, h9, k9, X9, e9, E9, A9, st9⟩ := newP X0 hx hZ (hw _ (List.mem_of_getElem? (i := 16) rfl)) e0 (g := (mkF m 1 #[vR b, vI 0, vI 3, .unset, .unset, .unset] [(.int 3)])) rfl (hb hby dC3_1) rfl (by decide) (cap := 3) (by decide) (by decide) (by decide) (by decide)
  obtain ⟨b9, g9⟩ : ∃ z, z = h0.size := ⟨_, rfl⟩
  rw [← g9] at A9 st9
  have lt9 : b9 < h9.size := A9.lt
  have V9 : Arv Z h9 b9 k9 .byte (3 : Int32) [(.int (0 : Int32)), (.int (0 : Int32)), (.int (0 : Int32))] (.int (0 : Int32)) := (Arv.new A9 (by decide)).pad (pad_rep [] (.int (0 : Int32)) 3)
  have sz9 : h0.size ≤ h9.size := E9.1
  have K9 : Keep h0 h9 [] := K0.ext E9
  refine own_st st9 ?_
  refine own_st (fun tq kq => XS.astoreN X9.here hx rfl (hb hby dC3_3) rfl rfl (l' := #[vR b, vI 0, vI 3, vR b9, .unset, .unset]) rfl kq) ?_
  refine s_aloadN X9 hx (hb hby dC3_4) rfl rfl ?_
  refine s_iloadN X9 hx (hb hby dC3_5) rfl ?_
  refine s_aloadN X9 hx (hb hby dC3_6) rfl rfl ?_
  show own_G p e below _ (T9.setTop (mkF m 7 #[vR b, vI 0, vI 3, vR b9, .unset, .unset] [(.ref b9), (.int 0), (.ref b)]))
  refine s_iconst X9 hx (hb hby dC3_7) ?_
  refine s_iloadN X9 hx (hb hby dC3_8) rfl ?_
  obtain ⟨_, _, ⟨T10, L10, k10, n10⟩, -, X10, ⟨Lc10, hQ10, l10, y10, z10⟩, st10⟩ := Jvm.LawKit.callS X9 hx (y := mN9) hown (mvT hZ (wd42 hw)) (mvT hZ (wd43 hw)) (mvT hZ (wd40 hw)) (mvT hZ (wd44 hw)) (by decide) (own_backN (W := 0) (own_cm5_3_2 l Z a0 hw [] (b) (b9) (kC) (k9) (dv) (c0) (c1) (c2) h9 n0 (by omega) (X00.keep K9 all0) (Vb.ext E9) V9 (by omega) (own_ne (by omega)) hl0 hl1 hg) hZ (wd44 hw) (wd40 hw) (by decide) (by decide)) (g := (mkF m 9 #[vR b, vI 0, vI 3, vR b9, .unset, .unset] [(.int 3), (.int 0), (.ref b9), (.int 0), (.ref b)])) rfl (by rw [hml]; rfl) (argsL := [(.ref b), (.int 0), (.ref b9), (.int 0), (.int 3)]) (rest := []) (lenOf own_pd4 rfl) rfl (Nat.le_of_eq rfl) (hb hby dC3_9) (fun _ _ => ⟨rfl, e9, (by decide : 1 + 0 ≤ _), (by decide : 3 + 0 ≤ _)⟩)
  dsimp only [Pt.U, Pt.locs, Pt.cells, Pt.slots] at X10 l10 y10 z10 st10 hQ10
  subst l10 y10 z10
  obtain ⟨rfl, Nq10, Kq10⟩ := hQ10
  have KK10 : Keep h9 T10.heap [b9] := Kq10
  have sz10 : h9.size ≤ T10.heap.size := KK10.1
  have K10 : Keep h0 T10.heap [] := K9.trans KK10 (allS (Or.inr (own_le (by omega))) all0)
  have N10 := Fr.app N0 Nq10
  refine own_st st10 ?_
  refine own_st (fun tq kq => XS.istore X10.here hx rfl (hb hby dC3_12) rfl (l' := #[vR b, vI 0, vI 3, vR b9, vI 2, .unset]) rfl kq) ?_
  refine s_iload X10 hx (hb hby dC3_14) rfl ?_
  refine s_iloadN X10 hx (hb hby dC3_16) rfl ?_
  show own_G p e below _ (T10.setTop (mkF m 17 #[vR b, vI 0, vI 3, vR b9, vI 2, .unset] [(.int 3), (.int 2)]))
  refine own_st (fun tq kq => XS.icmpNo X10.here hx rfl (hb hby dC3_17) rfl (feq (by decide : ¬ ((2 : Int32) = (3 : Int32)))).1 kq) ?_
  refine s_aloadN X10 hx (hb hby dC3_20) rfl rfl ?_
  refine s_iloadN X10 hx (hb hby dC3_21) rfl ?_
  refine s_iloadN X10 hx (hb hby dC3_22) rfl ?_
  show own_G p e below _ (T10.setTop (mkF m 23 #[vR b, vI 0, vI 3, vR b9, vI 2, .unset] [(.int 3), (.int 0), (.ref b)]))
  obtain ⟨_, _, ⟨T11, L11, k11, n11⟩, -, X11, ⟨Lc11, hQ11, l11, y11, z11⟩, st11⟩ := Jvm.LawKit.callS X10 hx (y := mN7) hown (mvT hZ (wd74 hw)) (mvT hZ (wd75 hw)) (mvT hZ (wd40 hw)) (mvT hZ (wd76 hw)) (by decide) (own_backN (W := 0) (own_toB3 l Z a0 hw [] (b) (kC) (dv) (c0) (c1) (c2) T10.heap n0 (by omega) (X00.keep K10 all0) OA OH OL ((Vb.ext E9).keep KK10 (ninS (own_ne (by omega)) nin0))) hZ (wd76 hw) (wd40 hw) (by decide) (by decide)) (g := (mkF m 23 #[vR b, vI 0, vI 3, vR b9, vI 2, .unset] [(.int 3), (.int 0), (.ref b)])) rfl (by rw [hml]; rfl) (argsL := [(.ref b), (.int 0), (.int 3)]) (rest := []) (lenOf own_pd5 rfl) rfl (Nat.le_of_eq rfl) (hb hby dC3_23) (fun _ _ => ⟨rfl, rfl, (by decide : 1 + 1 ≤ _), (by decide : 3 + 6 ≤ _)⟩)
  dsimp only [Pt.U, Pt.locs, Pt.cells, Pt.slots] at X11 l11 y11 z11 st11 hQ11
  subst l11 y11 z11
  obtain ⟨t11, kb11, rfl, Nq11, Kq11, gt11, lt11, Vt11⟩ := hQ11
  have KK11 : Keep T10.heap T11.heap [] := Kq11
  have sz11 : T10.heap.size ≤ T11.heap.size := KK11.1
  have K11 : Keep h0 T11.heap [] := K10.trans KK11 all0
  have N11 := Fr.app N10 Nq11
  refine own_st st11 ?_
  refine own_st (fun tq kq => XS.astore X11.here hx rfl (hb hby dC3_26) rfl rfl (l' := #[vR b, vI 0, vI 3, vR b9, vI 2, vR t11]) rfl kq) ?_
  refine s_aload X11 hx (hb hby dC3_28) rfl rfl ?_
  refine s_iload X11 hx (hb hby dC3_30) rfl ?_
  obtain ⟨_, _, ⟨T12, L12, k12, n12⟩, -, X12, ⟨Lc12, hQ12, l12, y12, z12⟩, st12⟩ := Jvm.LawKit.callS X11 hx (y := mN2) hown (mvT hZ (wd90 hw)) (mvT hZ (wd91 hw)) (mvT hZ (wd40 hw)) (mvT hZ (wd92 hw)) (by decide) (own_backN (W := 0) (own_get_2 l Z a0 hw [] (t11) (_) (_) (_) (_) (_) T11.heap n0 (by omega) (X00.keep K11 all0) OA OH OL Vt11 (by decide) (by decide) rfl rfl) hZ (wd92 hw) (wd40 hw) (by decide) (by decide)) (g := (mkF m 32 #[vR b, vI 0, vI 3, vR b9, vI 2, vR t11] [(.int 2), (.ref t11)])) rfl (by rw [hml]; rfl) (argsL := [(.ref t11), (.int 2)]) (rest := []) (lenOf own_pd6 rfl) rfl (Nat.le_of_eq rfl) (hb hby dC3_32) (fun _ _ => ⟨rfl, rfl, (by decide : 2 + 0 ≤ _), (by decide : 9 + 0 ≤ _)⟩)
  dsimp only [Pt.U, Pt.locs, Pt.cells, Pt.slots] at X12 l12 y12 z12 st12 hQ12
  subst l12 y12 z12
  obtain ⟨rfl, Nq12, sm12⟩ := hQ12
  have N12 := Fr.app N11 Nq12
  refine own_st st12 ?_
  refine s_sipush X12 hx (hb hby dC3_35) ?_
  show own_G p e below _ (T12.setTop (mkF m 38 #[vR b, vI 0, vI 3, vR b9, vI 2, vR t11] [(.int 255), (.int (StrChars.pairCh (L8 c2) (H8 c2)))]))
  refine own_st (fun tq kq => XS.icmpYes X12.here hx rfl (pc0 := 38) (pc' := 54) rfl (hb hby dC3_38) rfl (tlt (by rw [StrChars.pair_says hb2.1 hb2.2]; exact hg)).2.2.1 (by decide) (by decide) kq) ?_
  refine s_aload X12 hx (hb hby dC3_54) rfl rfl ?_
  show own_G p e below _ (T12.setTop (mkF m 56 #[vR b, vI 0, vI 3, vR b9, vI 2, vR t11] [(.ref t11)]))
  obtain ⟨fs, hr, hrun, hended, hW, hsame⟩ := X12.leave (v := some (.ref t11)) (fun h => by rw [Bd.returns] at h; cases h)
  refine ⟨_, _, retOut X12 hx Bd.returns rfl (Or.inr (Or.inr (Or.inr (Or.inr ⟨rfl, rfl, rfl⟩)))) (hb hby dC3_56) hr, hrun, hended, _, _, rfl, ?_, ⟨_, rfl⟩, hW, hsame.mono (by decide) (by decide)⟩
  change Q_own_cm3_3 Z b kC dv c0 c1 c2 h0 n0 _ T12.heap _; rw [sm12]; exact ⟨t11, _, rfl, N12, K11, (by omega), Vt11.lt, Vt11⟩

def Q_own_n4_3 (Z : State) (x b : Nat) (v0 c_0 dv : Value) (kC : ClassId) (G1 : Int32) (c0 c1 c2 : Int32) (h0 : Heap) (n0 : Nat) (v : Option Value) (h : Heap) (L : List Loc) : Prop := v = none ∧ Fr n0 L ∧ Keep h0 h [x] ∧ ∃ (t : Nat) (kb : ClassId), Fld Z h x "java/lang/String" "value" "[B" (.ref t) ∧ Fld Z h x "java/lang/String" "coder" "B" (.int (1 : Int32)) ∧ Arv Z h t kb .byte (6 : Int32) [.int (L8 c0), .int (H8 c0), .int (L8 c1), .int (H8 c1), .int (L8 c2), .int (H8 c2)] (.int 0)
theorem ef_own_n4_3 (m : MethodId) (x0 : Nat) (x1 : Nat) : entryFrame m #[(.ref x0), (.ref x1), (.int 0), (.int 3), .null] 6 = mkF m 0 #[.val (.ref x0), .val (.ref x1), .val (.int 0), .val (.int 3), .val .null, .unset] [] := by first | (simp [entryFrame, mkF, argsToLocals, Value.category]; done) | rfl
theorem own_n4_3 (l : Launch) (Z : State) (a0 : Array Value) (hw : hWt a0 Z) (ws : List Jvm.Cond) (x b : Nat) (v0 c_0 dv : Value) (kC : ClassId) (G1 : Int32) (c0 c1 c2 : Int32) (h0 : Heap) (n0 : Nat) (Z0 : n0 ≤ h0.size) (X00 : Old Z n0 h0) (Ex : Exa Z h0 x "java/lang/String") (Fv : Fld Z h0 x "java/lang/String" "value" "[B" v0) (Fc : Fld Z h0 x "java/lang/String" "coder" "B" c_0) (gx : n0 ≤ x) (ltx : x < h0.size) (Vb : Arv Z h0 b kC .char (3 : Int32) [.int c0, .int c1, .int c2] dv) (O2 : Sta Z Z.heap "java/lang/String" "COMPACT_STRINGS" "Z" (.int G1)) (P5 : ¬ (G1 = (0 : Int32))) (OA : oA Z) (OH : oH Z) (OL : oL Z) (hb0 : ¬ c0 < 0 ∧ ¬ (65535 : Int32) < c0) (hb1 : ¬ c1 < 0 ∧ ¬ (65535 : Int32) < c1) (hb2 : ¬ c2 < 0 ∧ ¬ (65535 : Int32) < c2) (hD : ((255 : Int32) < c0) ∨ (¬ (255 : Int32) < c0 ∧ (255 : Int32) < c1) ∨ (¬ (255 : Int32) < c0 ∧ ¬ (255 : Int32) < c1 ∧ (255 : Int32) < c2)) :
    MetFree l mN0 (head1 (Jvm.Cond.code mN0 jdk_42_method_149_code 6 none :: ws) rm_4_2_9_95) (fun av_ U => av_ = #[(.ref x), (.ref b), (.int 0), (.int 3), .null] ∧ Z.Warmed39 U.vm ∧ U.heap = h0) (fun _ _ _ _ _ => True) (own_EN (Q_own_n4_3 Z x b v0 c_0 dv kC G1 c0 c1 c2 h0 n0) rm_4_2_9_95) := by
 refine MetFree.of_bodySF (plainFor_of_name own_pn0) hisR ?_
 intro p e s m args below meth c s₁ Bd hml0 hP hK
 obtain ⟨rfl, hZ, hh⟩ := hP
 have hx := Bd.exec
 have hby := Bd.bytes
 have hml : c.maxLocals = 6 := hml0
 have hown : s.vm.findClass "java/lang/String" = some m.cls := findClass_of_methodNamed Bd.named
 have hnm := (name_of_methodNamed Bd.named Bd.method).1
 have X0 : Stand p l e rm_4_2_9_95 s m _ below meth c s₁ [] 0 0 := Stand.of_body Bd
 have e0 : s₁.heap = h0 := by rw [← hh, Bd.state]; rfl
 have N0 := Fr.nil n0
 have K0 : Keep h0 h0 [x] := Keep.refl h0 [x]
 refine show own_G p e below (own_EN (Q_own_n4_3 Z x b v0 c_0 dv kC G1 c0 c1 c2 h0 n0) rm_4_2_9_95 #[(.ref x), (.ref b), (.int 0), (.int 3), .null] s) _ from ?_
 refine own_st (fun tq kq => castTop (ef_own_n4_3 m (x) (b)) kq) ?_
 show own_G p e below _ (s₁.setTop (mkF m 0 #[vR x, vR b, vI 0, vI 3, .val .null, .unset] []))
 have hws0 : ∀ y ∈ [x], n0 ≤ y := allS gx all0
 refine s_aloadN X0 hx (hb hby dN4_0) rfl rfl ?_
 obtain ⟨T1, X1, e1, st1⟩ := initO X0 hx hZ hown (wd12 hw) (wd13 hw) (wd14 hw) e0 (g := (mkF m 1 #[vR x, vR b, vI 0, vI 3, .val .null, .unset] [(.ref x)])) rfl (by rw [hml]; rfl) rfl (hb hby dN4_1) (by decide) (W := 0) (Nat.le_of_eq rfl) (by decide)
 refine own_st st1 ?_
 refine s_iloadN X1 hx (hb hby dN4_4) rfl ?_
 show own_G p e below _ (T1.setTop (mkF m 5 #[vR x, vR b, vI 0, vI 3, .val .null, .unset] [(.int 3)]))
 refine own_st (fun tq kq => XS.ifYes X1.here hx rfl (pc0 := 5) (pc' := 27) rfl (hb hby dN4_5) rfl ((if0 _ _).trans (feq (by decide : ¬ ((3 : Int32) = (0 : Int32)))).2) (by decide) (by decide) kq) ?_
 obtain ⟨T2, X2, e2, st2⟩ := getS2 X1 hx hZ hown (host := "") (Or.inl (wd37 hw)) Via.refl e1 (O2.ext (X00.keep K0 hws0).2) (g := (mkF m 27 #[vR x, vR b, vI 0, vI 3, .val .null, .unset] [])) rfl (hb hby dN4_27)
 refine own_st st2 ?_
 refine own_st (fun tq kq => XS.ifNo X2.here hx rfl (hb hby dN4_30) rfl ((if0 _ _).trans (feq P5).1) kq) ?_
 refine s_aloadN X2 hx (hb hby dN4_33) rfl rfl ?_
 refine s_iloadN X2 hx (hb hby dN4_34) rfl ?_
 refine s_iloadN X2 hx (hb hby dN4_35) rfl ?_
 show own_G p e below _ (T2.setTop (mkF m 36 #[vR x, vR b, vI 0, vI 3, .val .null, .unset] [(.int 3), (.int 0), (.ref b)]))
 obtain ⟨_, _, ⟨T3, L3, k3, n3⟩, -, X3, ⟨Lc3, hQ3, l3, y3, z3⟩, st3⟩ := Jvm.LawKit.callS X2 hx (y := mN10) hown (mvT hZ (wd38 hw)) (mvT hZ (wd39 hw)) (mvT hZ (wd40 hw)) (mvT hZ (wd41 hw)) (by decide) (own_backN (W := 0) (own_cm3_3 l Z a0 hw [] (b) (kC) (dv) (c0) (c1) (c2) h0 n0 (by omega) (X00.keep K0 hws0) OA OH OL Vb hb0 hb1 hb2 hD) hZ (wd41 hw) (wd40 hw) (by decide) (by decide)) (g := (mkF m 36 #[vR x, vR b, vI 0, vI 3, .val .null, .unset] [(.int 3), (.int 0), (.ref b)])) rfl (by rw [hml]; rfl) (argsL := [(.ref b), (.int 0), (.int 3)]) (rest := []) (lenOf own_pd5 rfl) rfl (Nat.le_of_eq rfl) (hb hby dN4_36) (fun _ _ => ⟨rfl, e2, (by decide : 0 + 2 ≤ _), (by decide : 0 + 9 ≤ _)⟩)
 dsimp only [Pt.U, Pt.locs, Pt.cells, Pt.slots] at X3 l3 y3 z3 st3 hQ3
 subst l3 y3 z3
 obtain ⟨t3, kb3, rfl, Nq3, Kq3, gt3, lt3, Vt3⟩ := hQ3
 have KK3 : Keep h0 T3.heap [] := Kq3
 have sz3 : h0.size ≤ T3.heap.size := KK3.1
 have K3 : Keep h0 T3.heap [x] := K0.trans KK3 all0
 have N3 := Fr.app N0 Nq3
 refine own_st st3 ?_
 refine own_st (fun tq kq => XS.astore X3.here hx rfl (hb hby dN4_39) rfl rfl (l' := #[vR x, vR b, vI 0, vI 3, .val .null, vR t3]) rfl kq) ?_
 refine s_aloadN X3 hx (hb hby dN4_41) rfl rfl ?_
 refine s_aload X3 hx (hb hby dN4_42) rfl rfl ?_
 refine s_iloadN X3 hx (hb hby dN4_44) rfl ?_
 show own_G p e below _ (T3.setTop (mkF m 45 #[vR x, vR b, vI 0, vI 3, .val .null, vR t3] [(.int 3), (.ref t3), (.ref x)]))
 obtain ⟨_, _, ⟨T4, L4, k4, n4⟩, -, X4, ⟨Lc4, hQ4, l4, y4, z4⟩, st4⟩ := Jvm.LawKit.callS X3 hx (y := mN8) hown (mvT hZ (wd45 hw)) (mvT hZ (wd46 hw)) (mvT hZ (wd40 hw)) (mvT hZ (wd47 hw)) (by decide) (own_backN (W := 1) (own_cfl3 l Z a0 hw [] (t3) (_) (_) T3.heap n0 (by omega) (X00.keep K3 hws0) Vt3) hZ (wd47 hw) (wd40 hw) (by decide) (by decide)) (g := (mkF m 45 #[vR x, vR b, vI 0, vI 3, .val .null, vR t3] [(.int 3), (.ref t3), (.ref x)])) rfl (by rw [hml]; rfl) (argsL := [(.ref t3), (.int 3)]) (rest := [(.ref x)]) (lenOf own_pd7 rfl) rfl (Nat.le_of_eq rfl) (hb hby dN4_45) (fun _ _ => ⟨rfl, rfl, (by decide : 2 + 0 ≤ _), (by decide : 9 + 0 ≤ _)⟩)
 dsimp only [Pt.U, Pt.locs, Pt.cells, Pt.slots] at X4 l4 y4 z4 st4 hQ4
 subst l4 y4 z4
 obtain ⟨rfl, Nq4, sm4⟩ := hQ4
 have N4 := Fr.app N3 Nq4
 refine own_st st4 ?_
 obtain ⟨T5, h5, X5, e5, W5, st5⟩ := putF X4 hx hZ hown (host := "") (Or.inl (wd22 hw)) Via.refl sm4 (Fc.keep KK3 nin0) (Ex.keep KK3) (Or.inr ⟨(wd18 hw), rfl, hnm⟩) (wd3 hw) (ty := .byte) (by decide) rfl rfl (g := (mkF m 48 #[vR x, vR b, vI 0, vI 3, .val .null, vR t3] [(.int 1), (.ref x)])) rfl rfl (hb hby dN4_48)
 have Fw5 := (Fc.keep KK3 nin0).same W5
 have sz5 : T3.heap.size ≤ h5.size := (Keep.of_wr W5).1
 have K5 : Keep h0 h5 [x] := K3.wr W5 (Or.inl (by simp))
 have N5 := Fr.snoc X5 N4 (own_le (by omega))
 refine own_st st5 ?_
 refine s_aloadN X5 hx (hb hby dN4_51) rfl rfl ?_
 refine s_aload X5 hx (hb hby dN4_52) rfl rfl ?_
 obtain ⟨T6, h6, X6, e6, W6, st6⟩ := putF X5 hx hZ hown (host := "") (Or.inl (wd21 hw)) Via.refl e5 ((Fv.keep KK3 nin0).other W5 (Or.inr (slot_ne (Or.inr (wd17 hw)) (Or.inr (wd18 hw)) (by decide) (t := (.array .byte)) (t' := .byte) (by decide) (by decide)))) ((Ex.keep KK3).wr W5) (Or.inr ⟨(wd17 hw), rfl, hnm⟩) (wd3 hw) (ty := (.array .byte)) (by decide) rfl rfl (g := (mkF m 54 #[vR x, vR b, vI 0, vI 3, .val .null, vR t3] [(.ref t3), (.ref x)])) rfl rfl (hb hby dN4_54)
 have Fw6 := ((Fv.keep KK3 nin0).other W5 (Or.inr (slot_ne (Or.inr (wd17 hw)) (Or.inr (wd18 hw)) (by decide) (t := (.array .byte)) (t' := .byte) (by decide) (by decide)))).same W6
 have sz6 : h5.size ≤ h6.size := (Keep.of_wr W6).1
 have K6 : Keep h0 h6 [x] := K5.wr W6 (Or.inl (by simp))
 have N6 := Fr.snoc X6 N5 (own_le (by omega))
 refine own_st st6 ?_
 obtain ⟨fs, hr, hrun, hended, hW, hsame⟩ := X6.leave (v := none) (fun _ => rfl)
 refine ⟨_, _, X6.returnOut hx Bd.returns (hb hby dN4_57) hr, hrun, hended, _, _, rfl, ?_, ⟨_, rfl⟩, hW, hsame.mono (by decide) (by decide)⟩
 change Q_own_n4_3 Z x b v0 c_0 dv kC G1 c0 c1 c2 h0 n0 _ T6.heap _; rw [e6]; exact ⟨rfl, N6, K6, t3, _, Fw6, (Fw5.other W6 (Or.inr (slot_ne (Or.inr (wd18 hw)) (Or.inr (wd17 hw)) (by decide) (t := .byte) (t' := (.array .byte)) (by decide) (by decide)))), ((Vt3.other W5 (own_ne (by omega))).other W6 (own_ne (by omega)))⟩

def Q_own_n1_3 (Z : State) (x b : Nat) (v0 c_0 dv : Value) (kC : ClassId) (G1 : Int32) (c0 c1 c2 : Int32) (h0 : Heap) (n0 : Nat) (v : Option Value) (h : Heap) (L : List Loc) : Prop := v = none ∧ Fr n0 L ∧ Keep h0 h [x] ∧ ∃ (t : Nat) (kb : ClassId), Fld Z h x "java/lang/String" "value" "[B" (.ref t) ∧ Fld Z h x "java/lang/String" "coder" "B" (.int (1 : Int32)) ∧ Arv Z h t kb .byte (6 : Int32) [.int (L8 c0), .int (H8 c0), .int (L8 c1), .int (H8 c1), .int (L8 c2), .int (H8 c2)] (.int 0)
theorem ef_own_n1_3 (m : MethodId) (x0 : Nat) (x1 : Nat) : entryFrame m #[(.ref x0), (.ref x1)] 2 = mkF m 0 #[.val (.ref x0), .val (.ref x1)] [] := by first | (simp [entryFrame, mkF, argsToLocals, Value.category]; done) | rfl
theorem own_n1_3 (l : Launch) (Z : State) (a0 : Array Value) (hw : hWt a0 Z) (ws : List Jvm.Cond) (x b : Nat) (v0 c_0 dv : Value) (kC : ClassId) (G1 : Int32) (c0 c1 c2 : Int32) (h0 : Heap) (n0 : Nat) (Z0 : n0 ≤ h0.size) (X00 : Old Z n0 h0) (Ex : Exa Z h0 x "java/lang/String") (Fv : Fld Z h0 x "java/lang/String" "value" "[B" v0) (Fc : Fld Z h0 x "java/lang/String" "coder" "B" c_0) (gx : n0 ≤ x) (ltx : x < h0.size) (Vb : Arv Z h0 b kC .char (3 : Int32) [.int c0, .int c1, .int c2] dv) (O2 : Sta Z Z.heap "java/lang/String" "COMPACT_STRINGS" "Z" (.int G1)) (P5 : ¬ (G1 = (0 : Int32))) (OA : oA Z) (OH : oH Z) (OL : oL Z) (hb0 : ¬ c0 < 0 ∧ ¬ (65535 : Int32) < c0) (hb1 : ¬ c1 < 0 ∧ ¬ (65535 : Int32) < c1) (hb2 : ¬ c2 < 0 ∧ ¬ (65535 : Int32) < c2) (hD : ((255 : Int32) < c0) ∨ (¬ (255 : Int32) < c0 ∧ (255 : Int32) < c1) ∨ (¬ (255 : Int32) < c0 ∧ ¬ (255 : Int32) < c1 ∧ (255 : Int32) < c2)) :
    MetFree l mN1 (head1 (Jvm.Cond.code mN1 jdk_42_method_3_code 2 none :: ws) rm_5_2_9_115) (fun av_ U => av_ = #[(.ref x), (.ref b)] ∧ Z.Warmed39 U.vm ∧ U.heap = h0) (fun _ _ _ _ _ => True) (own_EN (Q_own_n1_3 Z x b v0 c_0 dv kC G1 c0 c1 c2 h0 n0) rm_5_2_9_115) := by
 refine MetFree.of_bodySF (plainFor_of_name own_pn0) hisR ?_
 intro p e s m args below meth c s₁ Bd hml0 hP hK
 obtain ⟨rfl, hZ, hh⟩ := hP
 have hx := Bd.exec
 have hby := Bd.bytes
 have hml : c.maxLocals = 2 := hml0
 have hown : s.vm.findClass "java/lang/String" = some m.cls := findClass_of_methodNamed Bd.named
 have hnm := (name_of_methodNamed Bd.named Bd.method).1
 have X0 : Stand p l e rm_5_2_9_115 s m _ below meth c s₁ [] 0 0 := Stand.of_body Bd
 have e0 : s₁.heap = h0 := by rw [← hh, Bd.state]; rfl
 have N0 := Fr.nil n0
 have K0 : Keep h0 h0 [x] := Keep.refl h0 [x]
 refine show own_G p e below (own_EN (Q_own_n1_3 Z x b v0 c_0 dv kC G1 c0 c1 c2 h0 n0) rm_5_2_9_115 #[(.ref x), (.ref b)] s) _ from ?_
 refine own_st (fun tq kq => castTop (ef_own_n1_3 m (x) (b)) kq) ?_
 show own_G p e below _ (s₁.setTop (mkF m 0 #[vR x, vR b] []))
 have hws0 : ∀ y ∈ [x], n0 ≤ y := allS gx all0
 refine s_aloadN X0 hx (hb hby dN1_0) rfl rfl ?_
 refine s_aloadN X0 hx (hb hby dN1_1) rfl rfl ?_
 refine s_iconst X0 hx (hb hby dN1_2) ?_
 refine s_aloadN X0 hx (hb hby dN1_3) rfl rfl ?_
 show own_G p e below _ (s₁.setTop (mkF m 4 #[vR x, vR b] [(.ref b), (.int 0), (.ref b), (.ref x)]))
 obtain ⟨cl1, Ar1, q1, S_1, N_1, H_1, G_1⟩ := id Vb
 refine own_st (fun tq kq => X0.arraylength hx (by rw [e0]; exact Ar1.1) (State.isArrayOf_alike hZ.alike Ar1.2.1) (g := (mkF m 4 #[vR x, vR b] [(.ref b), (.int 0), (.ref b), (.ref x)])) rfl rfl (hb hby dN1_4) _ kq) ?_
 rw [len_of S_1 N_1]
 show own_G p e below _ (s₁.setTop (mkF m 5 #[vR x, vR b] [(.int 3), (.int 0), (.ref b), (.ref x)]))
 refine own_st (fun tq kq => XS.aconstNull X0.here hx rfl (hb hby dN1_5) kq) ?_
 obtain ⟨_, _, ⟨T2, L2, k2, n2⟩, -, X2, ⟨Lc2, hQ2, l2, y2, z2⟩, st2⟩ := X0.specialBack hx (y := mN0) rfl hown (mvT hZ (wd8 hw)) (mvT hZ (wd9 hw)) (mvT hZ (wd11 hw)) (by decide) (own_backN (W := 0) (own_n4_3 l Z a0 hw [] (x) (b) (v0) (c_0) (dv) (kC) (G1) (c0) (c1) (c2) h0 n0 (by omega) (X00.keep K0 hws0) Ex Fv Fc gx ltx Vb O2 P5 OA OH OL hb0 hb1 hb2 hD) hZ (wd11 hw) (wd4 hw) (by decide) (by decide)) (g := (mkF m 6 #[vR x, vR b] [.null, (.int 3), (.int 0), (.ref b), (.ref x)])) rfl (by rw [hml]; rfl) (Steps.refl _) (a := x) (argsL := [(.ref b), (.int 0), (.int 3), .null]) (rest := []) (lenOf own_pd0 rfl) rfl (Nat.le_of_eq rfl) (hb hby dN1_6) (fun _ _ => ⟨rfl, e0, (by decide : 0 + 2 ≤ _), (by decide : 0 + 9 ≤ _)⟩)
 dsimp only [Pt.U, Pt.locs, Pt.cells, Pt.slots] at X2 l2 y2 z2 st2 hQ2
 subst l2 y2 z2
 obtain ⟨rfl, Nq2, Kq2, R2⟩ := hQ2
 have KK2 : Keep h0 T2.heap [x] := Kq2
 have sz2 : h0.size ≤ T2.heap.size := KK2.1
 have K2 : Keep h0 T2.heap [x] := K0.trans KK2 (allS (Or.inl (by simp)) all0)
 have N2 := Fr.app N0 Nq2
 refine own_st (fun tq kq => st2.trans kq) ?_
 obtain ⟨fs, hr, hrun, hended, hW, hsame⟩ := X2.leave (v := none) (fun _ => rfl)
 refine ⟨_, _, X2.returnOut hx Bd.returns (hb hby dN1_9) hr, hrun, hended, _, _, rfl, ?_, ⟨_, rfl⟩, hW, hsame.mono (by decide) (by decide)⟩
 change Q_own_n1_3 Z x b v0 c_0 dv kC G1 c0 c1 c2 h0 n0 _ T2.heap _; exact ⟨rfl, N2, K2, R2⟩

set_option maxRecDepth 65536 in
set_option maxHeartbeats 40000000 in
theorem own_newU3 {p : Program} {l : Launch} {e : Env} {R : Room} {s : State} {args : Array Value} {below : List Frame} {len W : Nat} {Z : State} {a0 : Array Value} {h : Heap} {vm0 : Vm} (hZ : Z.Warmed39 vm0) (hw : ∀ d ∈ tables_1, d.before a0 Z = true) (hEL : EW Z a0 consts_1) (H : CHv Z consts_1 vm0 h)
    {x b : Nat} {kC : ClassId} {c0 c1 c2 : Int32} {d v0 c_0 : Value} {z : Int32} {n0 : Nat} (hs : Safe Z consts_1 vm0 h x) (hx0 : n0 ≤ x) (X00 : Old Z n0 h) (E : Exa Z h x "java/lang/String") (V : Fld Z h x "java/lang/String" "value" "[B" v0) (F : Fld Z h x "java/lang/String" "coder" "B" c_0) (K : Arv Z h b kC .char (3 : Int32) [.int c0, .int c1, .int c2] d) (S : Sta Z Z.heap "java/lang/String" "COMPACT_STRINGS" "Z" (.int z)) (hz : ¬ z = 0) (OA : oA Z) (OH : oH Z) (OL : oL Z)
    (hp : ∀ c ∈ ([c0, c1, c2] : List Int32), ¬ c < 0 ∧ ¬ (65535 : Int32) < c) (hfr : 6 ≤ R.frames) (hlo : W + 128 ≤ R.locals) :
    BackS l R p e below (s.setVm vm0) args (⟨"java/lang/String", "<init>", "([C)V"⟩ : MethodName) len W (fun P a => a = #[.ref x, .ref b] ∧ P.U.heap = h ∧ P.cells + 2 ≤ R.cells ∧ P.slots + 13 ≤ R.slots)
      (fun P _ v B => ∃ L, own_QU Z x ([c0, c1, c2] : List Int32) h n0 v B.U.heap L ∧ B.locs = P.locs ++ L ∧ B.cells = P.cells + 2 ∧ B.slots = P.slots + 13 ∧ CHr Z consts_1 vm0 h B.U.vm B.U.heap) := by
  have hh0 : n0 ≤ h.size := by have := X00.1; have := X00.2.1; omega
  have key : (((255 : Int32) < c0) ∨ (¬ (255 : Int32) < c0 ∧ (255 : Int32) < c1) ∨ (¬ (255 : Int32) < c0 ∧ ¬ (255 : Int32) < c1 ∧ (255 : Int32) < c2)) ∨ (¬ (255 : Int32) < c0 ∧ ¬ (255 : Int32) < c1 ∧ ¬ (255 : Int32) < c2) := by
    by_cases hl0 : (255 : Int32) < c0
    · exact Or.inl (Or.inl hl0)
    by_cases hl1 : (255 : Int32) < c1
    · exact Or.inl (Or.inr (Or.inl ⟨hl0, hl1⟩))
    by_cases hl2 : (255 : Int32) < c2
    · exact Or.inl (Or.inr (Or.inr (⟨hl0, hl1, hl2⟩)))
    exact Or.inr ⟨hl0, hl1, hl2⟩
  rcases key with hD | hL
  · have hex : ∃ c ∈ ([c0, c1, c2] : List Int32), 255 < c := by
     rcases hD with hg | ⟨-, hg⟩ | ⟨-, -, hg⟩
     · exact ⟨c0, by simp, hg⟩
     · exact ⟨c1, by simp, hg⟩
     · exact ⟨c2, by simp, hg⟩
    intro m meth c P g ig mk a X hg hsize hdg hW hnn hp'
    obtain ⟨v, B, Y, ⟨L, hQ, e1, e2, e3⟩, st⟩ := own_backN (rm := rm_5_2_9_115) (R := R) (W := W) (s := s.setVm vm0) (own_n1_3 l Z a0 hw [] x b v0 c_0 d kC z c0 c1 c2 h n0 hh0 X00 E V F hx0 E.lt K S hz OA OH OL (hp _ (by simp)) (hp _ (by simp)) (hp _ (by simp)) hD) hZ (wd7 hw) (wd4 hw) (by show 5 + 1 ≤ _; omega) (by show W + (2 + 11) + 115 ≤ _; omega) m meth c P g ig mk a X hg hsize hdg hW hnn ⟨hp'.1, hp'.2.1, Nat.le_trans (by show _ + 2 ≤ _ + 2; exact Nat.le_refl _) hp'.2.2.1, Nat.le_trans (by show _ + 9 ≤ _ + 13; exact Nat.add_le_add_left (by decide) _) hp'.2.2.2⟩
    obtain ⟨BU, BL, Bc, Bs⟩ := B
    dsimp only [Pt.U, Pt.locs, Pt.cells, Pt.slots] at Y hQ e1 e2 e3 st
    obtain ⟨r1, r2, r3, t, kb, r5, r6, r7⟩ := hQ
    have hCH : CHr Z consts_1 vm0 h vm0 BU.heap := CHr.keep r3 (allS hs all0) H
    have Y2 : Stand p l e R (s.setVm vm0) m args below meth c BU BL (P.cells + 2) (P.slots + 13) := Y.mono (by rw [e2]; exact Nat.le_refl _) (by rw [e3]; exact Nat.add_le_add_left (by decide) _)
    refine ⟨v, ⟨BU, BL, P.cells + 2, P.slots + 13⟩, Y2.retabled Y2.warmed.wide, Y2.warmed.since _, ?_, ⟨L, ⟨r1, r2, r3, r5.lt, E.keep r3, hp, by simp, t, kb, 1, _, _, r7.lt, r5, r6, r7, Or.inr ⟨rfl, rfl, rfl, hex⟩⟩, e1, rfl, rfl, hCH.trans (CHv.at (s := s) (vm0 := vm0) Y2 hZ hEL hCH.1)⟩, st⟩
    show P.U.heap.size ≤ BU.heap.size
    rw [hp'.2.1]; exact r3.1
  obtain ⟨hl0, hl1, hl2⟩ := hL
  have hp2 : ∀ c ∈ ([c0, c1, c2] : List Int32), ¬ c < 0 ∧ ¬ (255 : Int32) < c := by
    intro c hc
    simp only [List.mem_cons, List.not_mem_nil, or_false] at hc
    rcases hc with rfl | rfl | rfl
    · exact ⟨(hp _ (by simp)).1, hl0⟩
    · exact ⟨(hp _ (by simp)).1, hl1⟩
    · exact ⟨(hp _ (by simp)).1, hl2⟩
  intro m meth c P g ig mk a X hg hsize hdg hW hnn hp'
  obtain ⟨v, B, Y, q1, q2, ⟨L, hQ, e1, e2, e3, hc⟩, st⟩ := own_newStr (R := R) (W := W) (s := s) (vm0 := vm0) hZ hw hEL H (cs := ([c0, c1, c2] : List Int32)) (n := 3) (n0 := n0) hs hx0 X00 E V F K S hz rfl rfl (by decide) hp2 (by omega) (by omega) m meth c P g ig mk a X hg hsize hdg hW hnn ⟨hp'.1, hp'.2.1, hp'.2.2.1, Nat.le_trans (Nat.add_le_add_left (by decide) _) hp'.2.2.2⟩
  obtain ⟨BU, BL, Bc, Bs⟩ := B
  dsimp only [Pt.U, Pt.locs, Pt.cells, Pt.slots] at Y q1 q2 hQ e1 e2 e3 st hc
  have Y2 : Stand p l e R ((s.setVm vm0).setVm BU.vm) m args below meth c BU BL (P.cells + 2) (P.slots + 13) := Y.mono (by rw [e2]; exact Nat.le_refl _) (by rw [e3]; exact Nat.add_le_add_left (by decide) _)
  exact ⟨v, ⟨BU, BL, P.cells + 2, P.slots + 13⟩, Y2, q1, q2, ⟨L, ⟨hQ.1, hQ.2.1, hQ.2.2.1, hQ.2.2.2.toU⟩, e1, rfl, rfl, hc⟩, st⟩

def Q_own_ulen4 (Z : State) (t : Nat) (kb : ClassId) (vs : List Value) (h0 : Heap) (n0 : Nat) (v : Option Value) (h : Heap) (L : List Loc) : Prop := v = some (.int (4 : Int32)) ∧ Fr n0 L ∧ h = h0
theorem ef_own_ulen4 (m : MethodId) (x0 : Nat) : entryFrame m #[(.ref x0)] 1 = mkF m 0 #[.val (.ref x0)] [] := by first | (simp [entryFrame, mkF, argsToLocals, Value.category]; done) | rfl
theorem own_ulen4 (l : Launch) (Z : State) (a0 : Array Value) (hw : hWt a0 Z) (ws : List Jvm.Cond) (t : Nat) (kb : ClassId) (vs : List Value) (h0 : Heap) (n0 : Nat) (Z0 : n0 ≤ h0.size) (X00 : Old Z n0 h0) (Vt : Arv Z h0 t kb .byte (8 : Int32) vs (.int 0)) :
    MetFree l mN3 (head1 (Jvm.Cond.code mN3 jdk_52_method_6_code 1 (some .int) :: ws) rm_0_0_0_0) (fun av_ U => av_ = #[(.ref t)] ∧ Z.Warmed39 U.vm ∧ U.heap = h0) (fun _ _ _ _ _ => True) (own_EN (Q_own_ulen4 Z t kb vs h0 n0) rm_0_0_0_0) := by
 refine MetFree.of_bodySF (plainFor_of_name own_pn1) hisR ?_
 intro p e s m args below meth c s₁ Bd hml0 hP hK
 obtain ⟨rfl, hZ, hh⟩ := hP
 have hx := Bd.exec
 have hby := Bd.bytes
 have hml : c.maxLocals = 1 := hml0
 have hown : s.vm.findClass "java/lang/StringUTF16" = some m.cls := findClass_of_methodNamed Bd.named
 have X0 : Stand p l e rm_0_0_0_0 s m _ below meth c s₁ [] 0 0 := Stand.of_body Bd
 have e0 : s₁.heap = h0 := by rw [← hh, Bd.state]; rfl
 have N0 := Fr.nil n0
 have K0 : Keep h0 h0 [] := Keep.refl h0 []
 refine show own_G p e below (own_EN (Q_own_ulen4 Z t kb vs h0 n0) rm_0_0_0_0 #[(.ref t)] s) _ from ?_
 refine own_st (fun tq kq => castTop (ef_own_ulen4 m (t)) kq) ?_
 show own_G p e below _ (s₁.setTop (mkF m 0 #[vR t] []))
 refine s_aloadN X0 hx (hb hby dUL_0) rfl rfl ?_
 obtain ⟨cl1, Ar1, q1, S_1, N_1, H_1, G_1⟩ := id Vt
 refine own_st (fun tq kq => X0.arraylength hx (by rw [e0]; exact Ar1.1) (State.isArrayOf_alike hZ.alike Ar1.2.1) (g := (mkF m 1 #[vR t] [(.ref t)])) rfl rfl (hb hby dUL_1) _ kq) ?_
 rw [len_of S_1 N_1]
 show own_G p e below _ (s₁.setTop (mkF m 2 #[vR t] [(.int 8)]))
 refine s_iconst X0 hx (hb hby dUL_2) ?_
 refine own_st (fun tq kq => XS.ishr X0.here hx rfl (hb hby dUL_3) rfl kq) ?_
 show own_G p e below _ (s₁.setTop (mkF m 4 #[vR t] [(.int 4)]))
 obtain ⟨fs, hr, hrun, hended, hW, hsame⟩ := X0.leave (v := some (.int 4)) (fun h => by rw [Bd.returns] at h; cases h)
 refine ⟨_, _, retOut X0 hx Bd.returns rfl (Or.inl ⟨rfl, by simp, _, rfl⟩) (hb hby dUL_4) hr, hrun, hended, _, _, rfl, ?_, ⟨_, rfl⟩, hW, hsame.mono (by decide) (by decide)⟩
 change Q_own_ulen4 Z t kb vs h0 n0 _ s₁.heap _; rw [e0]; exact ⟨rfl, N0, rfl⟩

def Q_own_nlen4 (Z : State)  (h0 : Heap) (n0 : Nat) (v : Option Value) (h : Heap) (L : List Loc) : Prop := v = some (.int (8 : Int32)) ∧ Fr n0 L ∧ h = h0
theorem ef_own_nlen4 (m : MethodId)  : entryFrame m #[(.int 4)] 1 = mkF m 0 #[.val (.int 4)] [] := by first | (simp [entryFrame, mkF, argsToLocals, Value.category]; done) | rfl
theorem own_nlen4 (l : Launch) (Z : State) (a0 : Array Value) (hw : hWt a0 Z) (ws : List Jvm.Cond)  (h0 : Heap) (n0 : Nat) (Z0 : n0 ≤ h0.size) (X00 : Old Z n0 h0)  :
    MetFree l mN4 (head1 (Jvm.Cond.code mN4 jdk_52_method_3_code 1 (some .int) :: ws) rm_0_0_0_0) (fun av_ U => av_ = #[(.int 4)] ∧ Z.Warmed39 U.vm ∧ U.heap = h0) (fun _ _ _ _ _ => True) (own_EN (Q_own_nlen4 Z  h0 n0) rm_0_0_0_0) := by
 refine MetFree.of_bodySF (plainFor_of_name own_pn1) hisR ?_
 intro p e s m args below meth c s₁ Bd hml0 hP hK
 obtain ⟨rfl, hZ, hh⟩ := hP
 have hx := Bd.exec
 have hby := Bd.bytes
 have hml : c.maxLocals = 1 := hml0
 have hown : s.vm.findClass "java/lang/StringUTF16" = some m.cls := findClass_of_methodNamed Bd.named
 have X0 : Stand p l e rm_0_0_0_0 s m _ below meth c s₁ [] 0 0 := Stand.of_body Bd
 have e0 : s₁.heap = h0 := by rw [← hh, Bd.state]; rfl
 have N0 := Fr.nil n0
 have K0 : Keep h0 h0 [] := Keep.refl h0 []
 refine show own_G p e below (own_EN (Q_own_nlen4 Z  h0 n0) rm_0_0_0_0 #[(.int 4)] s) _ from ?_
 refine own_st (fun tq kq => castTop (ef_own_nlen4 m ) kq) ?_
 show own_G p e below _ (s₁.setTop (mkF m 0 #[vI 4] []))
 refine s_iloadN X0 hx (hb hby dNL_0) rfl ?_
 show own_G p e below _ (s₁.setTop (mkF m 1 #[vI 4] [(.int 4)]))
 refine own_st (fun tq kq => XS.ifYes X0.here hx rfl (pc0 := 1) (pc' := 12) rfl (hb hby dNL_1) rfl ((if0 _ _).trans (flt (by decide : ¬ ((4 : Int32) < (0 : Int32)))).2.1) (by decide) (by decide) kq) ?_
 refine s_iloadN X0 hx (hb hby dNL_12) rfl ?_
 refine own_st (fun tq kq => X0.ldcInt hx hown (mvT hZ (wd83 hw)) (g := (mkF m 13 #[vI 4] [(.int 4)])) rfl (hb hby dNL_13) _ kq) ?_
 show own_G p e below _ (s₁.setTop (mkF m 15 #[vI 4] [(.int 1073741823), (.int 4)]))
 refine own_st (fun tq kq => XS.icmpYes X0.here hx rfl (pc0 := 15) (pc' := 55) rfl (hb hby dNL_15) rfl (tlt (by decide : ((4 : Int32) < (1073741823 : Int32)))).1 (by decide) (by decide) kq) ?_
 refine s_iloadN X0 hx (hb hby dNL_55) rfl ?_
 refine s_iconst X0 hx (hb hby dNL_56) ?_
 refine own_st (fun tq kq => XS.ishl X0.here hx rfl (hb hby dNL_57) rfl kq) ?_
 show own_G p e below _ (s₁.setTop (mkF m 58 #[vI 4] [(.int 8)]))
 obtain ⟨fs, hr, hrun, hended, hW, hsame⟩ := X0.leave (v := some (.int 8)) (fun h => by rw [Bd.returns] at h; cases h)
 refine ⟨_, _, retOut X0 hx Bd.returns rfl (Or.inl ⟨rfl, by simp, _, rfl⟩) (hb hby dNL_58) hr, hrun, hended, _, _, rfl, ?_, ⟨_, rfl⟩, hW, hsame.mono (by decide) (by decide)⟩
 change Q_own_nlen4 Z  h0 n0 _ s₁.heap _; rw [e0]; exact ⟨rfl, N0, rfl⟩

def Q_own_nfor4 (Z : State)  (h0 : Heap) (n0 : Nat) (v : Option Value) (h : Heap) (L : List Loc) : Prop := ∃ (t : Nat) (kb : ClassId), v = some (.ref t) ∧ Fr n0 L ∧ Keep h0 h [] ∧ h0.size ≤ t ∧ t < h.size ∧ Arv Z h t kb .byte (8 : Int32) [.int (0 : Int32), .int (0 : Int32), .int (0 : Int32), .int (0 : Int32), .int (0 : Int32), .int (0 : Int32), .int (0 : Int32), .int (0 : Int32)] (.int 0)
theorem ef_own_nfor4 (m : MethodId)  : entryFrame m #[(.int 4)] 1 = mkF m 0 #[.val (.int 4)] [] := by first | (simp [entryFrame, mkF, argsToLocals, Value.category]; done) | rfl
theorem own_nfor4 (l : Launch) (Z : State) (a0 : Array Value) (hw : hWt a0 Z) (ws : List Jvm.Cond)  (h0 : Heap) (n0 : Nat) (Z0 : n0 ≤ h0.size) (X00 : Old Z n0 h0)  :
    MetFree l mN5 (head1 (Jvm.Cond.code mN5 jdk_52_method_2_code 1 (some (.array .byte)) :: ws) rm_1_1_8_14) (fun av_ U => av_ = #[(.int 4)] ∧ Z.Warmed39 U.vm ∧ U.heap = h0) (fun _ _ _ _ _ => True) (own_EN (Q_own_nfor4 Z  h0 n0) rm_1_1_8_14) := by
 refine MetFree.of_bodySF (plainFor_of_name own_pn1) hisR ?_
 intro p e s m args below meth c s₁ Bd hml0 hP hK
 obtain ⟨rfl, hZ, hh⟩ := hP
 have hx := Bd.exec
 have hby := Bd.bytes
 have hml : c.maxLocals = 1 := hml0
 have hown : s.vm.findClass "java/lang/StringUTF16" = some m.cls := findClass_of_methodNamed Bd.named
 have X0 : Stand p l e rm_1_1_8_14 s m _ below meth c s₁ [] 0 0 := Stand.of_body Bd
 have e0 : s₁.heap = h0 := by rw [← hh, Bd.state]; rfl
 have N0 := Fr.nil n0
 have K0 : Keep h0 h0 [] := Keep.refl h0 []
 refine show own_G p e below (own_EN (Q_own_nfor4 Z  h0 n0) rm_1_1_8_14 #[(.int 4)] s) _ from ?_
 refine own_st (fun tq kq => castTop (ef_own_nfor4 m ) kq) ?_
 show own_G p e below _ (s₁.setTop (mkF m 0 #[vI 4] []))
 refine s_iloadN X0 hx (hb hby dNF_0) rfl ?_
 obtain ⟨_, _, ⟨T1, L1, k1, n1⟩, -, X1, ⟨Lc1, hQ1, l1, y1, z1⟩, st1⟩ := Jvm.LawKit.callS X0 hx (y := mN4) hown (mvT hZ (wd80 hw)) (mvT hZ (wd81 hw)) (mvT hZ (wd40 hw)) (mvT hZ (wd82 hw)) (by decide) (own_backN (W := 0) (own_nlen4 l Z a0 hw []  h0 n0 (by omega) (X00.keep K0 all0) ) hZ (wd82 hw) (wd40 hw) (by decide) (by decide)) (g := (mkF m 1 #[vI 4] [(.int 4)])) rfl (by rw [hml]; rfl) (argsL := [(.int 4)]) (rest := []) (lenOf own_pd1 rfl) rfl (Nat.le_of_eq rfl) (hb hby dNF_1) (fun _ _ => ⟨rfl, e0, (by decide : 0 + 0 ≤ _), (by decide : 0 + 0 ≤ _)⟩)
 dsimp only [Pt.U, Pt.locs, Pt.cells, Pt.slots] at X1 l1 y1 z1 st1 hQ1
 subst l1 y1 z1
 obtain ⟨rfl, Nq1, sm1⟩ := hQ1
 have N1 := Fr.app N0 Nq1
 refine own_st st1 ?_
 obtain ⟨T2, h2, k2, X2, e2, E2, A2, st2⟩ := newP X1 hx hZ (hw _ (List.mem_of_getElem? (i := 16) rfl)) sm1 (g := (mkF m 4 #[vI 4] [(.int 8)])) rfl (hb hby dNF_4) rfl (by decide) (cap := 8) (by decide) (by decide) (by decide) (by decide)
 obtain ⟨b2, g2⟩ : ∃ z, z = h0.size := ⟨_, rfl⟩
 rw [← g2] at A2 st2
 have lt2 : b2 < h2.size := A2.lt
 have V2 : Arv Z h2 b2 k2 .byte (8 : Int32) [(.int (0 : Int32)), (.int (0 : Int32)), (.int (0 : Int32)), (.int (0 : Int32)), (.int (0 : Int32)), (.int (0 : Int32)), (.int (0 : Int32)), (.int (0 : Int32))] (.int (0 : Int32)) := (Arv.new A2 (by decide)).pad (pad_rep [] (.int (0 : Int32)) 8)
 have sz2 : h0.size ≤ h2.size := E2.1
 have K2 : Keep h0 h2 [] := K0.ext E2
 refine own_st st2 ?_
 obtain ⟨fs, hr, hrun, hended, hW, hsame⟩ := X2.leave (v := some (.ref b2)) (fun h => by rw [Bd.returns] at h; cases h)
 refine ⟨_, _, retOut X2 hx Bd.returns rfl (Or.inr (Or.inr (Or.inr (Or.inr ⟨rfl, rfl, rfl⟩)))) (hb hby dNF_6) hr, hrun, hended, _, _, rfl, ?_, ⟨_, rfl⟩, hW, hsame.mono (by decide) (by decide)⟩
 change Q_own_nfor4 Z  h0 n0 _ T2.heap _; rw [e2]; exact ⟨b2, _, rfl, N1, K2, (by omega), (by omega), V2⟩

def Q_own_put4_0 (Z : State) (t : Nat) (kb : ClassId) (ch : Int32) (bt0 bt1 bt2 bt3 bt4 bt5 bt6 bt7 : Int32) (h0 : Heap) (n0 : Nat) (v : Option Value) (h : Heap) (L : List Loc) : Prop := v = none ∧ Fr n0 L ∧ Keep h0 h [t] ∧ Arv Z h t kb .byte (8 : Int32) [.int (L8 ch), .int (H8 ch), .int bt2, .int bt3, .int bt4, .int bt5, .int bt6, .int bt7] (.int 0)
theorem ef_own_put4_0 (m : MethodId) (x0 : Nat) (x2 : Int32) : entryFrame m #[(.ref x0), (.int 0), (.int x2)] 3 = mkF m 0 #[.val (.ref x0), .val (.int 0), .val (.int x2)] [] := by first | (simp [entryFrame, mkF, argsToLocals, Value.category]; done) | rfl
theorem own_put4_0 (l : Launch) (Z : State) (a0 : Array Value) (hw : hWt a0 Z) (ws : List Jvm.Cond) (t : Nat) (kb : ClassId) (ch : Int32) (bt0 bt1 bt2 bt3 bt4 bt5 bt6 bt7 : Int32) (h0 : Heap) (n0 : Nat) (Z0 : n0 ≤ h0.size) (X00 : Old Z n0 h0) (OA : oA Z) (OH : oH Z) (OL : oL Z) (Vt : Arv Z h0 t kb .byte (8 : Int32) [.int bt0, .int bt1, .int bt2, .int bt3, .int bt4, .int bt5, .int bt6, .int bt7] (.int 0)) (gt : n0 ≤ t) :
    MetFree l mN6 (head1 (Jvm.Cond.code mN6 jdk_52_method_4_code 3 none :: ws) rm_0_0_0_0) (fun av_ U => av_ = #[(.ref t), (.int 0), (.int ch)] ∧ Z.Warmed39 U.vm ∧ U.heap = h0) (fun _ _ _ _ _ => True) (own_EN (Q_own_put4_0 Z t kb ch bt0 bt1 bt2 bt3 bt4 bt5 bt6 bt7 h0 n0) rm_0_0_0_0) := by
 refine MetFree.of_bodySF (plainFor_of_name own_pn1) hisR ?_
 intro p e s m args below meth c s₁ Bd hml0 hP hK
 obtain ⟨rfl, hZ, hh⟩ := hP
 have hx := Bd.exec
 have hby := Bd.bytes
 have hml : c.maxLocals = 3 := hml0
 have hown : s.vm.findClass "java/lang/StringUTF16" = some m.cls := findClass_of_methodNamed Bd.named
 have X0 : Stand p l e rm_0_0_0_0 s m _ below meth c s₁ [] 0 0 := Stand.of_body Bd
 have e0 : s₁.heap = h0 := by rw [← hh, Bd.state]; rfl
 have N0 := Fr.nil n0
 have K0 : Keep h0 h0 [t] := Keep.refl h0 [t]
 refine show own_G p e below (own_EN (Q_own_put4_0 Z t kb ch bt0 bt1 bt2 bt3 bt4 bt5 bt6 bt7 h0 n0) rm_0_0_0_0 #[(.ref t), (.int 0), (.int ch)] s) _ from ?_
 refine own_st (fun tq kq => castTop (ef_own_put4_0 m (t) (ch)) kq) ?_
 show own_G p e below _ (s₁.setTop (mkF m 0 #[vR t, vI 0, vI ch] []))
 have hws0 : ∀ y ∈ [t], n0 ≤ y := allS gt all0
 obtain ⟨T1, X1, e1, st1⟩ := getS2 X0 hx hZ hown (host := "") (Or.inl (wd87 hw)) Via.refl e0 (OA.ext (X00.keep K0 hws0).2) (g := (mkF m 0 #[vR t, vI 0, vI ch] [])) rfl (hb hby dPU_0)
 refine own_st st1 ?_
 refine own_st (fun tq kq => XS.ifYes X1.here hx rfl (pc0 := 3) (pc' := 28) rfl (hb hby dPU_3) rfl ((if0 _ _).trans (feq (by decide : ¬ ((1 : Int32) = (0 : Int32)))).2) (by decide) (by decide) kq) ?_
 refine s_iloadN X1 hx (hb hby dPU_28) rfl ?_
 refine s_iconst X1 hx (hb hby dPU_29) ?_
 refine own_st (fun tq kq => XS.ishl X1.here hx rfl (hb hby dPU_30) rfl kq) ?_
 show own_G p e below _ (T1.setTop (mkF m 31 #[vR t, vI 0, vI ch] [(.int 0)]))
 refine own_st (fun tq kq => XS.istoreN X1.here hx rfl (hb hby dPU_31) rfl (l' := #[vR t, vI 0, vI ch]) rfl kq) ?_
 refine s_aloadN X1 hx (hb hby dPU_32) rfl rfl ?_
 refine s_iloadN X1 hx (hb hby dPU_33) rfl ?_
 refine own_st (fun tq kq => XS.iinc X1.here hx rfl (hb hby dPU_34) rfl (l' := #[vR t, vI 1, vI ch]) rfl kq) ?_
 show own_G p e below _ (T1.setTop (mkF m 37 #[vR t, vI 1, vI ch] [(.int 0), (.ref t)]))
 refine s_iloadN X1 hx (hb hby dPU_37) rfl ?_
 obtain ⟨T2, X2, e2, st2⟩ := getS2 X1 hx hZ hown (host := "") (Or.inl (wd88 hw)) Via.refl e1 (OH.ext (X00.keep K0 hws0).2) (g := (mkF m 38 #[vR t, vI 1, vI ch] [(.int ch), (.int 0), (.ref t)])) rfl (hb hby dPU_38)
 refine own_st st2 ?_
 refine own_st (fun tq kq => XS.ishr X2.here hx rfl (hb hby dPU_41) rfl kq) ?_
 refine own_st (fun tq kq => XS.i2b X2.here hx rfl (hb hby dPU_42) rfl kq) ?_
 obtain ⟨cl3, Ar3, q3, S_3, N_3, H_3, G_3⟩ := id Vt
 have in3 : ¬ ((0 : Int32) < 0 ∨ cl3.slots.size ≤ ((0 : Int32)).toNatClampNeg) := inb_of S_3 ⟨by decide, by decide⟩
 obtain ⟨T3, h3, X3, e3, W3, st3⟩ := stB X2 hx hZ e2 Ar3 (j := (0 : Int32)) in3 (g := (mkF m 43 #[vR t, vI 1, vI ch] [(.int ((ch >>> ((0 : Int32) &&& 31)).toInt8.toInt32)), (.int 0), (.ref t)])) rfl rfl (hb hby dPU_43)
 have V3 := Arv.set Ar3 q3 S_3 N_3 H_3 G_3 (fits_nar_byte _) W3 0 rfl (Nat.le_of_ble_eq_true rfl)
 have sz3 : h0.size ≤ h3.size := (Keep.of_wr W3).1
 have K3 : Keep h0 h3 [t] := K0.wr W3 (Or.inl (by simp))
 have N3 := Fr.snoc X3 N0 (own_le (by omega))
 refine own_st st3 ?_
 refine s_aloadN X3 hx (hb hby dPU_44) rfl rfl ?_
 refine s_iloadN X3 hx (hb hby dPU_45) rfl ?_
 refine s_iloadN X3 hx (hb hby dPU_46) rfl ?_
 obtain ⟨T4, X4, e4, st4⟩ := getS2 X3 hx hZ hown (host := "") (Or.inl (wd89 hw)) Via.refl e3 (OL.ext (X00.keep K3 hws0).2) (g := (mkF m 47 #[vR t, vI 1, vI ch] [(.int ch), (.int 1), (.ref t)])) rfl (hb hby dPU_47)
 refine own_st st4 ?_
 refine own_st (fun tq kq => XS.ishr X4.here hx rfl (hb hby dPU_50) rfl kq) ?_
 refine own_st (fun tq kq => XS.i2b X4.here hx rfl (hb hby dPU_51) rfl kq) ?_
 obtain ⟨cl5, Ar5, q5, S_5, N_5, H_5, G_5⟩ := id V3
 have in5 : ¬ ((1 : Int32) < 0 ∨ cl5.slots.size ≤ ((1 : Int32)).toNatClampNeg) := inb_of S_5 ⟨by decide, by decide⟩
 obtain ⟨T5, h5, X5, e5, W5, st5⟩ := stB X4 hx hZ e4 Ar5 (j := (1 : Int32)) in5 (g := (mkF m 52 #[vR t, vI 1, vI ch] [(.int ((ch >>> ((8 : Int32) &&& 31)).toInt8.toInt32)), (.int 1), (.ref t)])) rfl rfl (hb hby dPU_52)
 have V5 := Arv.set Ar5 q5 S_5 N_5 H_5 G_5 (fits_nar_byte _) W5 1 rfl (Nat.le_of_ble_eq_true rfl)
 have sz5 : h3.size ≤ h5.size := (Keep.of_wr W5).1
 have K5 : Keep h0 h5 [t] := K3.wr W5 (Or.inl (by simp))
 have N5 := Fr.snoc X5 N3 (own_le (by omega))
 refine own_st st5 ?_
 obtain ⟨fs, hr, hrun, hended, hW, hsame⟩ := X5.leave (v := none) (fun _ => rfl)
 refine ⟨_, _, X5.returnOut hx Bd.returns (hb hby dPU_53) hr, hrun, hended, _, _, rfl, ?_, ⟨_, rfl⟩, hW, hsame.mono (by decide) (by decide)⟩
 change Q_own_put4_0 Z t kb ch bt0 bt1 bt2 bt3 bt4 bt5 bt6 bt7 h0 n0 _ T5.heap _; rw [e5]; exact ⟨rfl, N5, K5, (by have q : Arv Z _ t kb .byte (8 : Int32) [.int (nar .byte ((ch >>> ((0 : Int32) &&& 31)).toInt8.toInt32)), .int (nar .byte ((ch >>> ((8 : Int32) &&& 31)).toInt8.toInt32)), .int bt2, .int bt3, .int bt4, .int bt5, .int bt6, .int bt7] (.int 0) := V5; rwa [own_pb0, own_pb8] at q)⟩

def Q_own_put4_1 (Z : State) (t : Nat) (kb : ClassId) (ch : Int32) (bt0 bt1 bt2 bt3 bt4 bt5 bt6 bt7 : Int32) (h0 : Heap) (n0 : Nat) (v : Option Value) (h : Heap) (L : List Loc) : Prop := v = none ∧ Fr n0 L ∧ Keep h0 h [t] ∧ Arv Z h t kb .byte (8 : Int32) [.int bt0, .int bt1, .int (L8 ch), .int (H8 ch), .int bt4, .int bt5, .int bt6, .int bt7] (.int 0)
theorem ef_own_put4_1 (m : MethodId) (x0 : Nat) (x2 : Int32) : entryFrame m #[(.ref x0), (.int 1), (.int x2)] 3 = mkF m 0 #[.val (.ref x0), .val (.int 1), .val (.int x2)] [] := by first | (simp [entryFrame, mkF, argsToLocals, Value.category]; done) | rfl
theorem own_put4_1 (l : Launch) (Z : State) (a0 : Array Value) (hw : hWt a0 Z) (ws : List Jvm.Cond) (t : Nat) (kb : ClassId) (ch : Int32) (bt0 bt1 bt2 bt3 bt4 bt5 bt6 bt7 : Int32) (h0 : Heap) (n0 : Nat) (Z0 : n0 ≤ h0.size) (X00 : Old Z n0 h0) (OA : oA Z) (OH : oH Z) (OL : oL Z) (Vt : Arv Z h0 t kb .byte (8 : Int32) [.int bt0, .int bt1, .int bt2, .int bt3, .int bt4, .int bt5, .int bt6, .int bt7] (.int 0)) (gt : n0 ≤ t) :
    MetFree l mN6 (head1 (Jvm.Cond.code mN6 jdk_52_method_4_code 3 none :: ws) rm_0_0_0_0) (fun av_ U => av_ = #[(.ref t), (.int 1), (.int ch)] ∧ Z.Warmed39 U.vm ∧ U.heap = h0) (fun _ _ _ _ _ => True) (own_EN (Q_own_put4_1 Z t kb ch bt0 bt1 bt2 bt3 bt4 bt5 bt6 bt7 h0 n0) rm_0_0_0_0) := by
 refine MetFree.of_bodySF (plainFor_of_name own_pn1) hisR ?_
 intro p e s m args below meth c s₁ Bd hml0 hP hK
 obtain ⟨rfl, hZ, hh⟩ := hP
 have hx := Bd.exec
 have hby := Bd.bytes
 have hml : c.maxLocals = 3 := hml0
 have hown : s.vm.findClass "java/lang/StringUTF16" = some m.cls := findClass_of_methodNamed Bd.named
 have X0 : Stand p l e rm_0_0_0_0 s m _ below meth c s₁ [] 0 0 := Stand.of_body Bd
 have e0 : s₁.heap = h0 := by rw [← hh, Bd.state]; rfl
 have N0 := Fr.nil n0
 have K0 : Keep h0 h0 [t] := Keep.refl h0 [t]
 refine show own_G p e below (own_EN (Q_own_put4_1 Z t kb ch bt0 bt1 bt2 bt3 bt4 bt5 bt6 bt7 h0 n0) rm_0_0_0_0 #[(.ref t), (.int 1), (.int ch)] s) _ from ?_
 refine own_st (fun tq kq => castTop (ef_own_put4_1 m (t) (ch)) kq) ?_
 show own_G p e below _ (s₁.setTop (mkF m 0 #[vR t, vI 1, vI ch] []))
 have hws0 : ∀ y ∈ [t], n0 ≤ y := allS gt all0
 obtain ⟨T1, X1, e1, st1⟩ := getS2 X0 hx hZ hown (host := "") (Or.inl (wd87 hw)) Via.refl e0 (OA.ext (X00.keep K0 hws0).2) (g := (mkF m 0 #[vR t, vI 1, vI ch] [])) rfl (hb hby dPU_0)
 refine own_st st1 ?_
 refine own_st (fun tq kq => XS.ifYes X1.here hx rfl (pc0 := 3) (pc' := 28) rfl (hb hby dPU_3) rfl ((if0 _ _).trans (feq (by decide : ¬ ((1 : Int32) = (0 : Int32)))).2) (by decide) (by decide) kq) ?_
 refine s_iloadN X1 hx (hb hby dPU_28) rfl ?_
 refine s_iconst X1 hx (hb hby dPU_29) ?_
 refine own_st (fun tq kq => XS.ishl X1.here hx rfl (hb hby dPU_30) rfl kq) ?_
 show own_G p e below _ (T1.setTop (mkF m 31 #[vR t, vI 1, vI ch] [(.int 2)]))
 refine own_st (fun tq kq => XS.istoreN X1.here hx rfl (hb hby dPU_31) rfl (l' := #[vR t, vI 2, vI ch]) rfl kq) ?_
 refine s_aloadN X1 hx (hb hby dPU_32) rfl rfl ?_
 refine s_iloadN X1 hx (hb hby dPU_33) rfl ?_
 refine own_st (fun tq kq => XS.iinc X1.here hx rfl (hb hby dPU_34) rfl (l' := #[vR t, vI 3, vI ch]) rfl kq) ?_
 show own_G p e below _ (T1.setTop (mkF m 37 #[vR t, vI 3, vI ch] [(.int 2), (.ref t)]))
 refine s_iloadN X1 hx (hb hby dPU_37) rfl ?_
 obtain ⟨T2, X2, e2, st2⟩ := getS2 X1 hx hZ hown (host := "") (Or.inl (wd88 hw)) Via.refl e1 (OH.ext (X00.keep K0 hws0).2) (g := (mkF m 38 #[vR t, vI 3, vI ch] [(.int ch), (.int 2), (.ref t)])) rfl (hb hby dPU_38)
 refine own_st st2 ?_
 refine own_st (fun tq kq => XS.ishr X2.here hx rfl (hb hby dPU_41) rfl kq) ?_
 refine own_st (fun tq kq => XS.i2b X2.here hx rfl (hb hby dPU_42) rfl kq) ?_
 obtain ⟨cl3, Ar3, q3, S_3, N_3, H_3, G_3⟩ := id Vt
 have in3 : ¬ ((2 : Int32) < 0 ∨ cl3.slots.size ≤ ((2 : Int32)).toNatClampNeg) := inb_of S_3 ⟨by decide, by decide⟩
 obtain ⟨T3, h3, X3, e3, W3, st3⟩ := stB X2 hx hZ e2 Ar3 (j := (2 : Int32)) in3 (g := (mkF m 43 #[vR t, vI 3, vI ch] [(.int ((ch >>> ((0 : Int32) &&& 31)).toInt8.toInt32)), (.int 2), (.ref t)])) rfl rfl (hb hby dPU_43)
 have V3 := Arv.set Ar3 q3 S_3 N_3 H_3 G_3 (fits_nar_byte _) W3 2 rfl (Nat.le_of_ble_eq_true rfl)
 have sz3 : h0.size ≤ h3.size := (Keep.of_wr W3).1
 have K3 : Keep h0 h3 [t] := K0.wr W3 (Or.inl (by simp))
 have N3 := Fr.snoc X3 N0 (own_le (by omega))
 refine own_st st3 ?_
 refine s_aloadN X3 hx (hb hby dPU_44) rfl rfl ?_
 refine s_iloadN X3 hx (hb hby dPU_45) rfl ?_
 refine s_iloadN X3 hx (hb hby dPU_46) rfl ?_
 obtain ⟨T4, X4, e4, st4⟩ := getS2 X3 hx hZ hown (host := "") (Or.inl (wd89 hw)) Via.refl e3 (OL.ext (X00.keep K3 hws0).2) (g := (mkF m 47 #[vR t, vI 3, vI ch] [(.int ch), (.int 3), (.ref t)])) rfl (hb hby dPU_47)
 refine own_st st4 ?_
 refine own_st (fun tq kq => XS.ishr X4.here hx rfl (hb hby dPU_50) rfl kq) ?_
 refine own_st (fun tq kq => XS.i2b X4.here hx rfl (hb hby dPU_51) rfl kq) ?_
 obtain ⟨cl5, Ar5, q5, S_5, N_5, H_5, G_5⟩ := id V3
 have in5 : ¬ ((3 : Int32) < 0 ∨ cl5.slots.size ≤ ((3 : Int32)).toNatClampNeg) := inb_of S_5 ⟨by decide, by decide⟩
 obtain ⟨T5, h5, X5, e5, W5, st5⟩ := stB X4 hx hZ e4 Ar5 (j := (3 : Int32)) in5 (g := (mkF m 52 #[vR t, vI 3, vI ch] [(.int ((ch >>> ((8 : Int32) &&& 31)).toInt8.toInt32)), (.int 3), (.ref t)])) rfl rfl (hb hby dPU_52)
 have V5 := Arv.set Ar5 q5 S_5 N_5 H_5 G_5 (fits_nar_byte _) W5 3 rfl (Nat.le_of_ble_eq_true rfl)
 have sz5 : h3.size ≤ h5.size := (Keep.of_wr W5).1
 have K5 : Keep h0 h5 [t] := K3.wr W5 (Or.inl (by simp))
 have N5 := Fr.snoc X5 N3 (own_le (by omega))
 refine own_st st5 ?_
 obtain ⟨fs, hr, hrun, hended, hW, hsame⟩ := X5.leave (v := none) (fun _ => rfl)
 refine ⟨_, _, X5.returnOut hx Bd.returns (hb hby dPU_53) hr, hrun, hended, _, _, rfl, ?_, ⟨_, rfl⟩, hW, hsame.mono (by decide) (by decide)⟩
 change Q_own_put4_1 Z t kb ch bt0 bt1 bt2 bt3 bt4 bt5 bt6 bt7 h0 n0 _ T5.heap _; rw [e5]; exact ⟨rfl, N5, K5, (by have q : Arv Z _ t kb .byte (8 : Int32) [.int bt0, .int bt1, .int (nar .byte ((ch >>> ((0 : Int32) &&& 31)).toInt8.toInt32)), .int (nar .byte ((ch >>> ((8 : Int32) &&& 31)).toInt8.toInt32)), .int bt4, .int bt5, .int bt6, .int bt7] (.int 0) := V5; rwa [own_pb0, own_pb8] at q)⟩

def Q_own_put4_2 (Z : State) (t : Nat) (kb : ClassId) (ch : Int32) (bt0 bt1 bt2 bt3 bt4 bt5 bt6 bt7 : Int32) (h0 : Heap) (n0 : Nat) (v : Option Value) (h : Heap) (L : List Loc) : Prop := v = none ∧ Fr n0 L ∧ Keep h0 h [t] ∧ Arv Z h t kb .byte (8 : Int32) [.int bt0, .int bt1, .int bt2, .int bt3, .int (L8 ch), .int (H8 ch), .int bt6, .int bt7] (.int 0)
theorem ef_own_put4_2 (m : MethodId) (x0 : Nat) (x2 : Int32) : entryFrame m #[(.ref x0), (.int 2), (.int x2)] 3 = mkF m 0 #[.val (.ref x0), .val (.int 2), .val (.int x2)] [] := by first | (simp [entryFrame, mkF, argsToLocals, Value.category]; done) | rfl
theorem own_put4_2 (l : Launch) (Z : State) (a0 : Array Value) (hw : hWt a0 Z) (ws : List Jvm.Cond) (t : Nat) (kb : ClassId) (ch : Int32) (bt0 bt1 bt2 bt3 bt4 bt5 bt6 bt7 : Int32) (h0 : Heap) (n0 : Nat) (Z0 : n0 ≤ h0.size) (X00 : Old Z n0 h0) (OA : oA Z) (OH : oH Z) (OL : oL Z) (Vt : Arv Z h0 t kb .byte (8 : Int32) [.int bt0, .int bt1, .int bt2, .int bt3, .int bt4, .int bt5, .int bt6, .int bt7] (.int 0)) (gt : n0 ≤ t) :
    MetFree l mN6 (head1 (Jvm.Cond.code mN6 jdk_52_method_4_code 3 none :: ws) rm_0_0_0_0) (fun av_ U => av_ = #[(.ref t), (.int 2), (.int ch)] ∧ Z.Warmed39 U.vm ∧ U.heap = h0) (fun _ _ _ _ _ => True) (own_EN (Q_own_put4_2 Z t kb ch bt0 bt1 bt2 bt3 bt4 bt5 bt6 bt7 h0 n0) rm_0_0_0_0) := by
 refine MetFree.of_bodySF (plainFor_of_name own_pn1) hisR ?_
 intro p e s m args below meth c s₁ Bd hml0 hP hK
 obtain ⟨rfl, hZ, hh⟩ := hP
 have hx := Bd.exec
 have hby := Bd.bytes
 have hml : c.maxLocals = 3 := hml0
 have hown : s.vm.findClass "java/lang/StringUTF16" = some m.cls := findClass_of_methodNamed Bd.named
 have X0 : Stand p l e rm_0_0_0_0 s m _ below meth c s₁ [] 0 0 := Stand.of_body Bd
 have e0 : s₁.heap = h0 := by rw [← hh, Bd.state]; rfl
 have N0 := Fr.nil n0
 have K0 : Keep h0 h0 [t] := Keep.refl h0 [t]
 refine show own_G p e below (own_EN (Q_own_put4_2 Z t kb ch bt0 bt1 bt2 bt3 bt4 bt5 bt6 bt7 h0 n0) rm_0_0_0_0 #[(.ref t), (.int 2), (.int ch)] s) _ from ?_
 refine own_st (fun tq kq => castTop (ef_own_put4_2 m (t) (ch)) kq) ?_
 show own_G p e below _ (s₁.setTop (mkF m 0 #[vR t, vI 2, vI ch] []))
 have hws0 : ∀ y ∈ [t], n0 ≤ y := allS gt all0
 obtain ⟨T1, X1, e1, st1⟩ := getS2 X0 hx hZ hown (host := "") (Or.inl (wd87 hw)) Via.refl e0 (OA.ext (X00.keep K0 hws0).2) (g := (mkF m 0 #[vR t, vI 2, vI ch] [])) rfl (hb hby dPU_0)
 refine own_st st1 ?_
 refine own_st (fun tq kq => XS.ifYes X1.here hx rfl (pc0 := 3) (pc' := 28) rfl (hb hby dPU_3) rfl ((if0 _ _).trans (feq (by decide : ¬ ((1 : Int32) = (0 : Int32)))).2) (by decide) (by decide) kq) ?_
 refine s_iloadN X1 hx (hb hby dPU_28) rfl ?_
 refine s_iconst X1 hx (hb hby dPU_29) ?_
 refine own_st (fun tq kq => XS.ishl X1.here hx rfl (hb hby dPU_30) rfl kq) ?_
 show own_G p e below _ (T1.setTop (mkF m 31 #[vR t, vI 2, vI ch] [(.int 4)]))
 refine own_st (fun tq kq => XS.istoreN X1.here hx rfl (hb hby dPU_31) rfl (l' := #[vR t, vI 4, vI ch]) rfl kq) ?_
 refine s_aloadN X1 hx (hb hby dPU_32) rfl rfl ?_
 refine s_iloadN X1 hx (hb hby dPU_33) rfl ?_
 refine own_st (fun tq kq => XS.iinc X1.here hx rfl (hb hby dPU_34) rfl (l' := #[vR t, vI 5, vI ch]) rfl kq) ?_
 show own_G p e below _ (T1.setTop (mkF m 37 #[vR t, vI 5, vI ch] [(.int 4), (.ref t)]))
 refine s_iloadN X1 hx (hb hby dPU_37) rfl ?_
 obtain ⟨T2, X2, e2, st2⟩ := getS2 X1 hx hZ hown (host := "") (Or.inl (wd88 hw)) Via.refl e1 (OH.ext (X00.keep K0 hws0).2) (g := (mkF m 38 #[vR t, vI 5, vI ch] [(.int ch), (.int 4), (.ref t)])) rfl (hb hby dPU_38)
 refine own_st st2 ?_
 refine own_st (fun tq kq => XS.ishr X2.here hx rfl (hb hby dPU_41) rfl kq) ?_
 refine own_st (fun tq kq => XS.i2b X2.here hx rfl (hb hby dPU_42) rfl kq) ?_
 obtain ⟨cl3, Ar3, q3, S_3, N_3, H_3, G_3⟩ := id Vt
 have in3 : ¬ ((4 : Int32) < 0 ∨ cl3.slots.size ≤ ((4 : Int32)).toNatClampNeg) := inb_of S_3 ⟨by decide, by decide⟩
 obtain ⟨T3, h3, X3, e3, W3, st3⟩ := stB X2 hx hZ e2 Ar3 (j := (4 : Int32)) in3 (g := (mkF m 43 #[vR t, vI 5, vI ch] [(.int ((ch >>> ((0 : Int32) &&& 31)).toInt8.toInt32)), (.int 4), (.ref t)])) rfl rfl (hb hby dPU_43)
 have V3 := Arv.set Ar3 q3 S_3 N_3 H_3 G_3 (fits_nar_byte _) W3 4 rfl (Nat.le_of_ble_eq_true rfl)
 have sz3 : h0.size ≤ h3.size := (Keep.of_wr W3).1
 have K3 : Keep h0 h3 [t] := K0.wr W3 (Or.inl (by simp))
 have N3 := Fr.snoc X3 N0 (own_le (by omega))
 refine own_st st3 ?_
 refine s_aloadN X3 hx (hb hby dPU_44) rfl rfl ?_
 refine s_iloadN X3 hx (hb hby dPU_45) rfl ?_
 refine s_iloadN X3 hx (hb hby dPU_46) rfl ?_
 obtain ⟨T4, X4, e4, st4⟩ := getS2 X3 hx hZ hown (host := "") (Or.inl (wd89 hw)) Via.refl e3 (OL.ext (X00.keep K3 hws0).2) (g := (mkF m 47 #[vR t, vI 5, vI ch] [(.int ch), (.int 5), (.ref t)])) rfl (hb hby dPU_47)
 refine own_st st4 ?_
 refine own_st (fun tq kq => XS.ishr X4.here hx rfl (hb hby dPU_50) rfl kq) ?_
 refine own_st (fun tq kq => XS.i2b X4.here hx rfl (hb hby dPU_51) rfl kq) ?_
 obtain ⟨cl5, Ar5, q5, S_5, N_5, H_5, G_5⟩ := id V3
 have in5 : ¬ ((5 : Int32) < 0 ∨ cl5.slots.size ≤ ((5 : Int32)).toNatClampNeg) := inb_of S_5 ⟨by decide, by decide⟩
 obtain ⟨T5, h5, X5, e5, W5, st5⟩ := stB X4 hx hZ e4 Ar5 (j := (5 : Int32)) in5 (g := (mkF m 52 #[vR t, vI 5, vI ch] [(.int ((ch >>> ((8 : Int32) &&& 31)).toInt8.toInt32)), (.int 5), (.ref t)])) rfl rfl (hb hby dPU_52)
 have V5 := Arv.set Ar5 q5 S_5 N_5 H_5 G_5 (fits_nar_byte _) W5 5 rfl (Nat.le_of_ble_eq_true rfl)
 have sz5 : h3.size ≤ h5.size := (Keep.of_wr W5).1
 have K5 : Keep h0 h5 [t] := K3.wr W5 (Or.inl (by simp))
 have N5 := Fr.snoc X5 N3 (own_le (by omega))
 refine own_st st5 ?_
 obtain ⟨fs, hr, hrun, hended, hW, hsame⟩ := X5.leave (v := none) (fun _ => rfl)
 refine ⟨_, _, X5.returnOut hx Bd.returns (hb hby dPU_53) hr, hrun, hended, _, _, rfl, ?_, ⟨_, rfl⟩, hW, hsame.mono (by decide) (by decide)⟩
 change Q_own_put4_2 Z t kb ch bt0 bt1 bt2 bt3 bt4 bt5 bt6 bt7 h0 n0 _ T5.heap _; rw [e5]; exact ⟨rfl, N5, K5, (by have q : Arv Z _ t kb .byte (8 : Int32) [.int bt0, .int bt1, .int bt2, .int bt3, .int (nar .byte ((ch >>> ((0 : Int32) &&& 31)).toInt8.toInt32)), .int (nar .byte ((ch >>> ((8 : Int32) &&& 31)).toInt8.toInt32)), .int bt6, .int bt7] (.int 0) := V5; rwa [own_pb0, own_pb8] at q)⟩

def Q_own_put4_3 (Z : State) (t : Nat) (kb : ClassId) (ch : Int32) (bt0 bt1 bt2 bt3 bt4 bt5 bt6 bt7 : Int32) (h0 : Heap) (n0 : Nat) (v : Option Value) (h : Heap) (L : List Loc) : Prop := v = none ∧ Fr n0 L ∧ Keep h0 h [t] ∧ Arv Z h t kb .byte (8 : Int32) [.int bt0, .int bt1, .int bt2, .int bt3, .int bt4, .int bt5, .int (L8 ch), .int (H8 ch)] (.int 0)
theorem ef_own_put4_3 (m : MethodId) (x0 : Nat) (x2 : Int32) : entryFrame m #[(.ref x0), (.int 3), (.int x2)] 3 = mkF m 0 #[.val (.ref x0), .val (.int 3), .val (.int x2)] [] := by first | (simp [entryFrame, mkF, argsToLocals, Value.category]; done) | rfl
theorem own_put4_3 (l : Launch) (Z : State) (a0 : Array Value) (hw : hWt a0 Z) (ws : List Jvm.Cond) (t : Nat) (kb : ClassId) (ch : Int32) (bt0 bt1 bt2 bt3 bt4 bt5 bt6 bt7 : Int32) (h0 : Heap) (n0 : Nat) (Z0 : n0 ≤ h0.size) (X00 : Old Z n0 h0) (OA : oA Z) (OH : oH Z) (OL : oL Z) (Vt : Arv Z h0 t kb .byte (8 : Int32) [.int bt0, .int bt1, .int bt2, .int bt3, .int bt4, .int bt5, .int bt6, .int bt7] (.int 0)) (gt : n0 ≤ t) :
    MetFree l mN6 (head1 (Jvm.Cond.code mN6 jdk_52_method_4_code 3 none :: ws) rm_0_0_0_0) (fun av_ U => av_ = #[(.ref t), (.int 3), (.int ch)] ∧ Z.Warmed39 U.vm ∧ U.heap = h0) (fun _ _ _ _ _ => True) (own_EN (Q_own_put4_3 Z t kb ch bt0 bt1 bt2 bt3 bt4 bt5 bt6 bt7 h0 n0) rm_0_0_0_0) := by
 refine MetFree.of_bodySF (plainFor_of_name own_pn1) hisR ?_
 intro p e s m args below meth c s₁ Bd hml0 hP hK
 obtain ⟨rfl, hZ, hh⟩ := hP
 have hx := Bd.exec
 have hby := Bd.bytes
 have hml : c.maxLocals = 3 := hml0
 have hown : s.vm.findClass "java/lang/StringUTF16" = some m.cls := findClass_of_methodNamed Bd.named
 have X0 : Stand p l e rm_0_0_0_0 s m _ below meth c s₁ [] 0 0 := Stand.of_body Bd
 have e0 : s₁.heap = h0 := by rw [← hh, Bd.state]; rfl
 have N0 := Fr.nil n0
 have K0 : Keep h0 h0 [t] := Keep.refl h0 [t]
 refine show own_G p e below (own_EN (Q_own_put4_3 Z t kb ch bt0 bt1 bt2 bt3 bt4 bt5 bt6 bt7 h0 n0) rm_0_0_0_0 #[(.ref t), (.int 3), (.int ch)] s) _ from ?_
 refine own_st (fun tq kq => castTop (ef_own_put4_3 m (t) (ch)) kq) ?_
 show own_G p e below _ (s₁.setTop (mkF m 0 #[vR t, vI 3, vI ch] []))
 have hws0 : ∀ y ∈ [t], n0 ≤ y := allS gt all0
 obtain ⟨T1, X1, e1, st1⟩ := getS2 X0 hx hZ hown (host := "") (Or.inl (wd87 hw)) Via.refl e0 (OA.ext (X00.keep K0 hws0).2) (g := (mkF m 0 #[vR t, vI 3, vI ch] [])) rfl (hb hby dPU_0)
 refine own_st st1 ?_
 refine own_st (fun tq kq => XS.ifYes X1.here hx rfl (pc0 := 3) (pc' := 28) rfl (hb hby dPU_3) rfl ((if0 _ _).trans (feq (by decide : ¬ ((1 : Int32) = (0 : Int32)))).2) (by decide) (by decide) kq) ?_
 refine s_iloadN X1 hx (hb hby dPU_28) rfl ?_
 refine s_iconst X1 hx (hb hby dPU_29) ?_
 refine own_st (fun tq kq => XS.ishl X1.here hx rfl (hb hby dPU_30) rfl kq) ?_
 show own_G p e below _ (T1.setTop (mkF m 31 #[vR t, vI 3, vI ch] [(.int 6)]))
 refine own_st (fun tq kq => XS.istoreN X1.here hx rfl (hb hby dPU_31) rfl (l' := #[vR t, vI 6, vI ch]) rfl kq) ?_
 refine s_aloadN X1 hx (hb hby dPU_32) rfl rfl ?_
 refine s_iloadN X1 hx (hb hby dPU_33) rfl ?_
 refine own_st (fun tq kq => XS.iinc X1.here hx rfl (hb hby dPU_34) rfl (l' := #[vR t, vI 7, vI ch]) rfl kq) ?_
 show own_G p e below _ (T1.setTop (mkF m 37 #[vR t, vI 7, vI ch] [(.int 6), (.ref t)]))
 refine s_iloadN X1 hx (hb hby dPU_37) rfl ?_
 obtain ⟨T2, X2, e2, st2⟩ := getS2 X1 hx hZ hown (host := "") (Or.inl (wd88 hw)) Via.refl e1 (OH.ext (X00.keep K0 hws0).2) (g := (mkF m 38 #[vR t, vI 7, vI ch] [(.int ch), (.int 6), (.ref t)])) rfl (hb hby dPU_38)
 refine own_st st2 ?_
 refine own_st (fun tq kq => XS.ishr X2.here hx rfl (hb hby dPU_41) rfl kq) ?_
 refine own_st (fun tq kq => XS.i2b X2.here hx rfl (hb hby dPU_42) rfl kq) ?_
 obtain ⟨cl3, Ar3, q3, S_3, N_3, H_3, G_3⟩ := id Vt
 have in3 : ¬ ((6 : Int32) < 0 ∨ cl3.slots.size ≤ ((6 : Int32)).toNatClampNeg) := inb_of S_3 ⟨by decide, by decide⟩
 obtain ⟨T3, h3, X3, e3, W3, st3⟩ := stB X2 hx hZ e2 Ar3 (j := (6 : Int32)) in3 (g := (mkF m 43 #[vR t, vI 7, vI ch] [(.int ((ch >>> ((0 : Int32) &&& 31)).toInt8.toInt32)), (.int 6), (.ref t)])) rfl rfl (hb hby dPU_43)
 have V3 := Arv.set Ar3 q3 S_3 N_3 H_3 G_3 (fits_nar_byte _) W3 6 rfl (Nat.le_of_ble_eq_true rfl)
 have sz3 : h0.size ≤ h3.size := (Keep.of_wr W3).1
 have K3 : Keep h0 h3 [t] := K0.wr W3 (Or.inl (by simp))
 have N3 := Fr.snoc X3 N0 (own_le (by omega))
 refine own_st st3 ?_
 refine s_aloadN X3 hx (hb hby dPU_44) rfl rfl ?_
 refine s_iloadN X3 hx (hb hby dPU_45) rfl ?_
 refine s_iloadN X3 hx (hb hby dPU_46) rfl ?_
 obtain ⟨T4, X4, e4, st4⟩ := getS2 X3 hx hZ hown (host := "") (Or.inl (wd89 hw)) Via.refl e3 (OL.ext (X00.keep K3 hws0).2) (g := (mkF m 47 #[vR t, vI 7, vI ch] [(.int ch), (.int 7), (.ref t)])) rfl (hb hby dPU_47)
 refine own_st st4 ?_
 refine own_st (fun tq kq => XS.ishr X4.here hx rfl (hb hby dPU_50) rfl kq) ?_
 refine own_st (fun tq kq => XS.i2b X4.here hx rfl (hb hby dPU_51) rfl kq) ?_
 obtain ⟨cl5, Ar5, q5, S_5, N_5, H_5, G_5⟩ := id V3
 have in5 : ¬ ((7 : Int32) < 0 ∨ cl5.slots.size ≤ ((7 : Int32)).toNatClampNeg) := inb_of S_5 ⟨by decide, by decide⟩
 obtain ⟨T5, h5, X5, e5, W5, st5⟩ := stB X4 hx hZ e4 Ar5 (j := (7 : Int32)) in5 (g := (mkF m 52 #[vR t, vI 7, vI ch] [(.int ((ch >>> ((8 : Int32) &&& 31)).toInt8.toInt32)), (.int 7), (.ref t)])) rfl rfl (hb hby dPU_52)
 have V5 := Arv.set Ar5 q5 S_5 N_5 H_5 G_5 (fits_nar_byte _) W5 7 rfl (Nat.le_of_ble_eq_true rfl)
 have sz5 : h3.size ≤ h5.size := (Keep.of_wr W5).1
 have K5 : Keep h0 h5 [t] := K3.wr W5 (Or.inl (by simp))
 have N5 := Fr.snoc X5 N3 (own_le (by omega))
 refine own_st st5 ?_
 obtain ⟨fs, hr, hrun, hended, hW, hsame⟩ := X5.leave (v := none) (fun _ => rfl)
 refine ⟨_, _, X5.returnOut hx Bd.returns (hb hby dPU_53) hr, hrun, hended, _, _, rfl, ?_, ⟨_, rfl⟩, hW, hsame.mono (by decide) (by decide)⟩
 change Q_own_put4_3 Z t kb ch bt0 bt1 bt2 bt3 bt4 bt5 bt6 bt7 h0 n0 _ T5.heap _; rw [e5]; exact ⟨rfl, N5, K5, (by have q : Arv Z _ t kb .byte (8 : Int32) [.int bt0, .int bt1, .int bt2, .int bt3, .int bt4, .int bt5, .int (nar .byte ((ch >>> ((0 : Int32) &&& 31)).toInt8.toInt32)), .int (nar .byte ((ch >>> ((8 : Int32) &&& 31)).toInt8.toInt32))] (.int 0) := V5; rwa [own_pb0, own_pb8] at q)⟩

def Q_own_toB4 (Z : State) (b : Nat) (kC : ClassId) (dv : Value) (c0 c1 c2 c3 : Int32) (h0 : Heap) (n0 : Nat) (v : Option Value) (h : Heap) (L : List Loc) : Prop := ∃ (t : Nat) (kb : ClassId), v = some (.ref t) ∧ Fr n0 L ∧ Keep h0 h [] ∧ h0.size ≤ t ∧ t < h.size ∧ Arv Z h t kb .byte (8 : Int32) [.int (L8 c0), .int (H8 c0), .int (L8 c1), .int (H8 c1), .int (L8 c2), .int (H8 c2), .int (L8 c3), .int (H8 c3)] (.int 0)
theorem ef_own_toB4 (m : MethodId) (x0 : Nat) : entryFrame m #[(.ref x0), (.int 0), (.int 4)] 5 = mkF m 0 #[.val (.ref x0), .val (.int 0), .val (.int 4), .unset, .unset] [] := by first | (simp [entryFrame, mkF, argsToLocals, Value.category]; done) | rfl
theorem own_toB4 (l : Launch) (Z : State) (a0 : Array Value) (hw : hWt a0 Z) (ws : List Jvm.Cond) (b : Nat) (kC : ClassId) (dv : Value) (c0 c1 c2 c3 : Int32) (h0 : Heap) (n0 : Nat) (Z0 : n0 ≤ h0.size) (X00 : Old Z n0 h0) (OA : oA Z) (OH : oH Z) (OL : oL Z) (Vb : Arv Z h0 b kC .char (4 : Int32) [.int c0, .int c1, .int c2, .int c3] dv) :
    MetFree l mN7 (head1 (Jvm.Cond.code mN7 jdk_52_method_14_code 5 (some (.array .byte)) :: ws) rm_2_1_8_40) (fun av_ U => av_ = #[(.ref b), (.int 0), (.int 4)] ∧ Z.Warmed39 U.vm ∧ U.heap = h0) (fun _ _ _ _ _ => True) (own_EN (Q_own_toB4 Z b kC dv c0 c1 c2 c3 h0 n0) rm_2_1_8_40) := by
 refine MetFree.of_bodySF (plainFor_of_name own_pn1) hisR ?_
 intro p e s m args below meth c s₁ Bd hml0 hP hK
 obtain ⟨rfl, hZ, hh⟩ := hP
 have hx := Bd.exec
 have hby := Bd.bytes
 have hml : c.maxLocals = 5 := hml0
 have hown : s.vm.findClass "java/lang/StringUTF16" = some m.cls := findClass_of_methodNamed Bd.named
 have X0 : Stand p l e rm_2_1_8_40 s m _ below meth c s₁ [] 0 0 := Stand.of_body Bd
 have e0 : s₁.heap = h0 := by rw [← hh, Bd.state]; rfl
 have N0 := Fr.nil n0
 have K0 : Keep h0 h0 [] := Keep.refl h0 []
 refine show own_G p e below (own_EN (Q_own_toB4 Z b kC dv c0 c1 c2 c3 h0 n0) rm_2_1_8_40 #[(.ref b), (.int 0), (.int 4)] s) _ from ?_
 refine own_st (fun tq kq => castTop (ef_own_toB4 m (b)) kq) ?_
 show own_G p e below _ (s₁.setTop (mkF m 0 #[vR b, vI 0, vI 4, .unset, .unset] []))
 have ltb : b < h0.size := Vb.lt
 refine s_iloadN X0 hx (hb hby dTO_0) rfl ?_
 obtain ⟨_, _, ⟨T1, L1, k1, n1⟩, -, X1, ⟨Lc1, hQ1, l1, y1, z1⟩, st1⟩ := Jvm.LawKit.callS X0 hx (y := mN5) hown (mvT hZ (wd77 hw)) (mvT hZ (wd78 hw)) (mvT hZ (wd40 hw)) (mvT hZ (wd79 hw)) (by decide) (own_backN (W := 0) (own_nfor4 l Z a0 hw []  h0 n0 (by omega) (X00.keep K0 all0) ) hZ (wd79 hw) (wd40 hw) (by decide) (by decide)) (g := (mkF m 1 #[vR b, vI 0, vI 4, .unset, .unset] [(.int 4)])) rfl (by rw [hml]; rfl) (argsL := [(.int 4)]) (rest := []) (lenOf own_pd2 rfl) rfl (Nat.le_of_eq rfl) (hb hby dTO_1) (fun _ _ => ⟨rfl, e0, (by decide : 0 + 1 ≤ _), (by decide : 0 + 8 ≤ _)⟩)
 dsimp only [Pt.U, Pt.locs, Pt.cells, Pt.slots] at X1 l1 y1 z1 st1 hQ1
 subst l1 y1 z1
 obtain ⟨t1, kb1, rfl, Nq1, Kq1, gt1, lt1, Vt1⟩ := hQ1
 have KK1 : Keep h0 T1.heap [] := Kq1
 have sz1 : h0.size ≤ T1.heap.size := KK1.1
 have K1 : Keep h0 T1.heap [] := K0.trans KK1 all0
 have N1 := Fr.app N0 Nq1
 refine own_st st1 ?_
 refine own_st (fun tq kq => XS.astoreN X1.here hx rfl (hb hby dTO_4) rfl rfl (l' := #[vR b, vI 0, vI 4, vR t1, .unset]) rfl kq) ?_
 refine s_iconst X1 hx (hb hby dTO_5) ?_
 refine own_st (fun tq kq => XS.istore X1.here hx rfl (hb hby dTO_6) rfl (l' := #[vR b, vI 0, vI 4, vR t1, vI 0]) rfl kq) ?_
 refine s_iload X1 hx (hb hby dTO_8) rfl ?_
 show own_G p e below _ (T1.setTop (mkF m 10 #[vR b, vI 0, vI 4, vR t1, vI 0] [(.int 0)]))
 refine s_iloadN X1 hx (hb hby dTO_10) rfl ?_
 show own_G p e below _ (T1.setTop (mkF m 11 #[vR b, vI 0, vI 4, vR t1, vI 0] [(.int 4), (.int 0)]))
 refine own_st (fun tq kq => XS.icmpNo X1.here hx rfl (hb hby dTO_11) rfl (tlt (by decide : ((0 : Int32) < (4 : Int32)))).2.1 kq) ?_
 refine s_aloadN X1 hx (hb hby dTO_14) rfl rfl ?_
 refine s_iload X1 hx (hb hby dTO_15) rfl ?_
 refine s_aloadN X1 hx (hb hby dTO_17) rfl rfl ?_
 show own_G p e below _ (T1.setTop (mkF m 18 #[vR b, vI 0, vI 4, vR t1, vI 0] [(.ref b), (.int 0), (.ref t1)]))
 refine s_iloadN X1 hx (hb hby dTO_18) rfl ?_
 obtain ⟨cl2, Ar2, q2, S_2, N_2, H_2, G_2⟩ := id (Vb.keep KK1 nin0)
 have in2 : ¬ ((0 : Int32) < 0 ∨ cl2.slots.size ≤ ((0 : Int32)).toNatClampNeg) := inb_of S_2 ⟨by decide, by decide⟩
 have at2 : cl2.slots[((0 : Int32)).toNatClampNeg]? = some (.int c0) := H_2.at in2 rfl
 refine own_st (fun tq kq => X1.caload hx (j := (0 : Int32)) (v := (.int c0)) Ar2.1 (State.isArrayOf_alike hZ.alike Ar2.2.1) Ar2.2.2 in2 at2 (g := (mkF m 19 #[vR b, vI 0, vI 4, vR t1, vI 0] [(.int 0), (.ref b), (.int 0), (.ref t1)])) rfl rfl (hb hby dTO_19) _ kq) ?_
 obtain ⟨_, _, ⟨T3, L3, k3, n3⟩, -, X3, ⟨Lc3, hQ3, l3, y3, z3⟩, st3⟩ := Jvm.LawKit.callS X1 hx (y := mN6) hown (mvT hZ (wd84 hw)) (mvT hZ (wd85 hw)) (mvT hZ (wd40 hw)) (mvT hZ (wd86 hw)) (by decide) (own_backN (W := 0) (own_put4_0 l Z a0 hw [] (t1) (_) (c0) (_) (_) (_) (_) (_) (_) (_) (_) T1.heap n0 (by omega) (X00.keep K1 all0) OA OH OL Vt1 (by omega)) hZ (wd86 hw) (wd40 hw) (by decide) (by decide)) (g := (mkF m 20 #[vR b, vI 0, vI 4, vR t1, vI 0] [(.int c0), (.int 0), (.ref t1)])) rfl (by rw [hml]; rfl) (argsL := [(.ref t1), (.int 0), (.int c0)]) (rest := []) (lenOf own_pd3 rfl) rfl (Nat.le_of_eq rfl) (hb hby dTO_20) (fun _ _ => ⟨rfl, rfl, (by decide : 1 + 0 ≤ _), (by decide : 8 + 0 ≤ _)⟩)
 dsimp only [Pt.U, Pt.locs, Pt.cells, Pt.slots] at X3 l3 y3 z3 st3 hQ3
 subst l3 y3 z3
 obtain ⟨rfl, Nq3, Kq3, Vt3⟩ := hQ3
 have KK3 : Keep T1.heap T3.heap [t1] := Kq3
 have sz3 : T1.heap.size ≤ T3.heap.size := KK3.1
 have K3 : Keep h0 T3.heap [] := K1.trans KK3 (allS (Or.inr (own_le (by omega))) all0)
 have N3 := Fr.app N1 Nq3
 refine own_st st3 ?_
 refine own_st (fun tq kq => XS.iinc X3.here hx rfl (hb hby dTO_23) rfl (l' := #[vR b, vI 1, vI 4, vR t1, vI 0]) rfl kq) ?_
 refine own_st (fun tq kq => XS.iinc X3.here hx rfl (hb hby dTO_26) rfl (l' := #[vR b, vI 1, vI 4, vR t1, vI 1]) rfl kq) ?_
 refine own_st (fun tq kq => XS.goto X3.here hx rfl (pc0 := 29) (pc' := 8) rfl (hb hby dTO_29) (by decide) (by decide) kq) ?_
 refine s_iload X3 hx (hb hby dTO_8) rfl ?_
 show own_G p e below _ (T3.setTop (mkF m 10 #[vR b, vI 1, vI 4, vR t1, vI 1] [(.int 1)]))
 refine s_iloadN X3 hx (hb hby dTO_10) rfl ?_
 show own_G p e below _ (T3.setTop (mkF m 11 #[vR b, vI 1, vI 4, vR t1, vI 1] [(.int 4), (.int 1)]))
 refine own_st (fun tq kq => XS.icmpNo X3.here hx rfl (hb hby dTO_11) rfl (tlt (by decide : ((1 : Int32) < (4 : Int32)))).2.1 kq) ?_
 refine s_aloadN X3 hx (hb hby dTO_14) rfl rfl ?_
 refine s_iload X3 hx (hb hby dTO_15) rfl ?_
 refine s_aloadN X3 hx (hb hby dTO_17) rfl rfl ?_
 show own_G p e below _ (T3.setTop (mkF m 18 #[vR b, vI 1, vI 4, vR t1, vI 1] [(.ref b), (.int 1), (.ref t1)]))
 refine s_iloadN X3 hx (hb hby dTO_18) rfl ?_
 obtain ⟨cl4, Ar4, q4, S_4, N_4, H_4, G_4⟩ := id ((Vb.keep KK1 nin0).keep KK3 (ninS (own_ne (by omega)) nin0))
 have in4 : ¬ ((1 : Int32) < 0 ∨ cl4.slots.size ≤ ((1 : Int32)).toNatClampNeg) := inb_of S_4 ⟨by decide, by decide⟩
 have at4 : cl4.slots[((1 : Int32)).toNatClampNeg]? = some (.int c1) := H_4.at in4 rfl
 refine own_st (fun tq kq => X3.caload hx (j := (1 : Int32)) (v := (.int c1)) Ar4.1 (State.isArrayOf_alike hZ.alike Ar4.2.1) Ar4.2.2 in4 at4 (g := (mkF m 19 #[vR b, vI 1, vI 4, vR t1, vI 1] [(.int 1), (.ref b), (.int 1), (.ref t1)])) rfl rfl (hb hby dTO_19) _ kq) ?_
 obtain ⟨_, _, ⟨T5, L5, k5, n5⟩, -, X5, ⟨Lc5, hQ5, l5, y5, z5⟩, st5⟩ := Jvm.LawKit.callS X3 hx (y := mN6) hown (mvT hZ (wd84 hw)) (mvT hZ (wd85 hw)) (mvT hZ (wd40 hw)) (mvT hZ (wd86 hw)) (by decide) (own_backN (W := 0) (own_put4_1 l Z a0 hw [] (t1) (_) (c1) (_) (_) (_) (_) (_) (_) (_) (_) T3.heap n0 (by omega) (X00.keep K3 all0) OA OH OL Vt3 (by omega)) hZ (wd86 hw) (wd40 hw) (by decide) (by decide)) (g := (mkF m 20 #[vR b, vI 1, vI 4, vR t1, vI 1] [(.int c1), (.int 1), (.ref t1)])) rfl (by rw [hml]; rfl) (argsL := [(.ref t1), (.int 1), (.int c1)]) (rest := []) (lenOf own_pd3 rfl) rfl (Nat.le_of_eq rfl) (hb hby dTO_20) (fun _ _ => ⟨rfl, rfl, (by decide : 1 + 0 ≤ _), (by decide : 8 + 0 ≤ _)⟩)
 dsimp only [Pt.U, Pt.locs, Pt.cells, Pt.slots] at X5 l5 y5 z5 st5 hQ5
 subst l5 y5 z5
 obtain ⟨rfl, Nq5, Kq5, Vt5⟩ := hQ5
 have KK5 : Keep T3.heap T5.heap [t1] := Kq5
 have sz5 : T3.heap.size ≤ T5.heap.size := KK5.1
 have K5 : Keep h0 T5.heap [] := K3.trans KK5 (allS (Or.inr (own_le (by omega))) all0)
 have N5 := Fr.app N3 Nq5
 refine own_st st5 ?_
 refine own_st (fun tq kq => XS.iinc X5.here hx rfl (hb hby dTO_23) rfl (l' := #[vR b, vI 2, vI 4, vR t1, vI 1]) rfl kq) ?_
 refine own_st (fun tq kq => XS.iinc X5.here hx rfl (hb hby dTO_26) rfl (l' := #[vR b, vI 2, vI 4, vR t1, vI 2]) rfl kq) ?_
 refine own_st (fun tq kq => XS.goto X5.here hx rfl (pc0 := 29) (pc' := 8) rfl (hb hby dTO_29) (by decide) (by decide) kq) ?_
 refine s_iload X5 hx (hb hby dTO_8) rfl ?_
 show own_G p e below _ (T5.setTop (mkF m 10 #[vR b, vI 2, vI 4, vR t1, vI 2] [(.int 2)]))
 refine s_iloadN X5 hx (hb hby dTO_10) rfl ?_
 show own_G p e below _ (T5.setTop (mkF m 11 #[vR b, vI 2, vI 4, vR t1, vI 2] [(.int 4), (.int 2)]))
 refine own_st (fun tq kq => XS.icmpNo X5.here hx rfl (hb hby dTO_11) rfl (tlt (by decide : ((2 : Int32) < (4 : Int32)))).2.1 kq) ?_
 refine s_aloadN X5 hx (hb hby dTO_14) rfl rfl ?_
 refine s_iload X5 hx (hb hby dTO_15) rfl ?_
 refine s_aloadN X5 hx (hb hby dTO_17) rfl rfl ?_
 show own_G p e below _ (T5.setTop (mkF m 18 #[vR b, vI 2, vI 4, vR t1, vI 2] [(.ref b), (.int 2), (.ref t1)]))
 refine s_iloadN X5 hx (hb hby dTO_18) rfl ?_
 obtain ⟨cl6, Ar6, q6, S_6, N_6, H_6, G_6⟩ := id (((Vb.keep KK1 nin0).keep KK3 (ninS (own_ne (by omega)) nin0)).keep KK5 (ninS (own_ne (by omega)) nin0))
 have in6 : ¬ ((2 : Int32) < 0 ∨ cl6.slots.size ≤ ((2 : Int32)).toNatClampNeg) := inb_of S_6 ⟨by decide, by decide⟩
 have at6 : cl6.slots[((2 : Int32)).toNatClampNeg]? = some (.int c2) := H_6.at in6 rfl
 refine own_st (fun tq kq => X5.caload hx (j := (2 : Int32)) (v := (.int c2)) Ar6.1 (State.isArrayOf_alike hZ.alike Ar6.2.1) Ar6.2.2 in6 at6 (g := (mkF m 19 #[vR b, vI 2, vI 4, vR t1, vI 2] [(.int 2), (.ref b), (.int 2), (.ref t1)])) rfl rfl (hb hby dTO_19) _ kq) ?_
 obtain ⟨_, _, ⟨T7, L7, k7, n7⟩, -, X7, ⟨Lc7, hQ7, l7, y7, z7⟩, st7⟩ := Jvm.LawKit.callS X5 hx (y := mN6) hown (mvT hZ (wd84 hw)) (mvT hZ (wd85 hw)) (mvT hZ (wd40 hw)) (mvT hZ (wd86 hw)) (by decide) (own_backN (W := 0) (own_put4_2 l Z a0 hw [] (t1) (_) (c2) (_) (_) (_) (_) (_) (_) (_) (_) T5.heap n0 (by omega) (X00.keep K5 all0) OA OH OL Vt5 (by omega)) hZ (wd86 hw) (wd40 hw) (by decide) (by decide)) (g := (mkF m 20 #[vR b, vI 2, vI 4, vR t1, vI 2] [(.int c2), (.int 2), (.ref t1)])) rfl (by rw [hml]; rfl) (argsL := [(.ref t1), (.int 2), (.int c2)]) (rest := []) (lenOf own_pd3 rfl) rfl (Nat.le_of_eq rfl) (hb hby dTO_20) (fun _ _ => ⟨rfl, rfl, (by decide : 1 + 0 ≤ _), (by decide : 8 + 0 ≤ _)⟩)
 dsimp only [Pt.U, Pt.locs, Pt.cells, Pt.slots] at X7 l7 y7 z7 st7 hQ7
 subst l7 y7 z7
 obtain ⟨rfl, Nq7, Kq7, Vt7⟩ := hQ7
 have KK7 : Keep T5.heap T7.heap [t1] := Kq7
 have sz7 : T5.heap.size ≤ T7.heap.size := KK7.1
 have K7 : Keep h0 T7.heap [] := K5.trans KK7 (allS (Or.inr (own_le (by omega))) all0)
 have N7 := Fr.app N5 Nq7
 refine own_st st7 ?_
 refine own_st (fun tq kq => XS.iinc X7.here hx rfl (hb hby dTO_23) rfl (l' := #[vR b, vI 3, vI 4, vR t1, vI 2]) rfl kq) ?_
 refine own_st (fun tq kq => XS.iinc X7.here hx rfl (hb hby dTO_26) rfl (l' := #[vR b, vI 3, vI 4, vR t1, vI 3]) rfl kq) ?_
 refine own_st (fun tq kq => XS.goto X7.here hx rfl (pc0 := 29) (pc' := 8) rfl (hb hby dTO_29) (by decide) (by decide) kq) ?_
 refine s_iload X7 hx (hb hby dTO_8) rfl ?_
 show own_G p e below _ (T7.setTop (mkF m 10 #[vR b, vI 3, vI 4, vR t1, vI 3] [(.int 3)]))
 refine s_iloadN X7 hx (hb hby dTO_10) rfl ?_
 show own_G p e below _ (T7.setTop (mkF m 11 #[vR b, vI 3, vI 4, vR t1, vI 3] [(.int 4), (.int 3)]))
 refine own_st (fun tq kq => XS.icmpNo X7.here hx rfl (hb hby dTO_11) rfl (tlt (by decide : ((3 : Int32) < (4 : Int32)))).2.1 kq) ?_
 refine s_aloadN X7 hx (hb hby dTO_14) rfl rfl ?_
 refine s_iload X7 hx (hb hby dTO_15) rfl ?_
 refine s_aloadN X7 hx (hb hby dTO_17) rfl rfl ?_
 show own_G p e below _ (T7.setTop (mkF m 18 #[vR b, vI 3, vI 4, vR t1, vI 3] [(.ref b), (.int 3), (.ref t1)]))
 refine s_iloadN X7 hx (hb hby dTO_18) rfl ?_
 obtain ⟨cl8, Ar8, q8, S_8, N_8, H_8, G_8⟩ := id ((((Vb.keep KK1 nin0).keep KK3 (ninS (own_ne (by omega)) nin0)).keep KK5 (ninS (own_ne (by omega)) nin0)).keep KK7 (ninS (own_ne (by omega)) nin0))
 have in8 : ¬ ((3 : Int32) < 0 ∨ cl8.slots.size ≤ ((3 : Int32)).toNatClampNeg) := inb_of S_8 ⟨by decide, by decide⟩
 have at8 : cl8.slots[((3 : Int32)).toNatClampNeg]? = some (.int c3) := H_8.at in8 rfl
 refine own_st (fun tq kq => X7.caload hx (j := (3 : Int32)) (v := (.int c3)) Ar8.1 (State.isArrayOf_alike hZ.alike Ar8.2.1) Ar8.2.2 in8 at8 (g := (mkF m 19 #[vR b, vI 3, vI 4, vR t1, vI 3] [(.int 3), (.ref b), (.int 3), (.ref t1)])) rfl rfl (hb hby dTO_19) _ kq) ?_
 obtain ⟨_, _, ⟨T9, L9, k9, n9⟩, -, X9, ⟨Lc9, hQ9, l9, y9, z9⟩, st9⟩ := Jvm.LawKit.callS X7 hx (y := mN6) hown (mvT hZ (wd84 hw)) (mvT hZ (wd85 hw)) (mvT hZ (wd40 hw)) (mvT hZ (wd86 hw)) (by decide) (own_backN (W := 0) (own_put4_3 l Z a0 hw [] (t1) (_) (c3) (_) (_) (_) (_) (_) (_) (_) (_) T7.heap n0 (by omega) (X00.keep K7 all0) OA OH OL Vt7 (by omega)) hZ (wd86 hw) (wd40 hw) (by decide) (by decide)) (g := (mkF m 20 #[vR b, vI 3, vI 4, vR t1, vI 3] [(.int c3), (.int 3), (.ref t1)])) rfl (by rw [hml]; rfl) (argsL := [(.ref t1), (.int 3), (.int c3)]) (rest := []) (lenOf own_pd3 rfl) rfl (Nat.le_of_eq rfl) (hb hby dTO_20) (fun _ _ => ⟨rfl, rfl, (by decide : 1 + 0 ≤ _), (by decide : 8 + 0 ≤ _)⟩)
 dsimp only [Pt.U, Pt.locs, Pt.cells, Pt.slots] at X9 l9 y9 z9 st9 hQ9
 subst l9 y9 z9
 obtain ⟨rfl, Nq9, Kq9, Vt9⟩ := hQ9
 have KK9 : Keep T7.heap T9.heap [t1] := Kq9
 have sz9 : T7.heap.size ≤ T9.heap.size := KK9.1
 have K9 : Keep h0 T9.heap [] := K7.trans KK9 (allS (Or.inr (own_le (by omega))) all0)
 have N9 := Fr.app N7 Nq9
 refine own_st st9 ?_
 refine own_st (fun tq kq => XS.iinc X9.here hx rfl (hb hby dTO_23) rfl (l' := #[vR b, vI 4, vI 4, vR t1, vI 3]) rfl kq) ?_
 refine own_st (fun tq kq => XS.iinc X9.here hx rfl (hb hby dTO_26) rfl (l' := #[vR b, vI 4, vI 4, vR t1, vI 4]) rfl kq) ?_
 refine own_st (fun tq kq => XS.goto X9.here hx rfl (pc0 := 29) (pc' := 8) rfl (hb hby dTO_29) (by decide) (by decide) kq) ?_
 refine s_iload X9 hx (hb hby dTO_8) rfl ?_
 show own_G p e below _ (T9.setTop (mkF m 10 #[vR b, vI 4, vI 4, vR t1, vI 4] [(.int 4)]))
 refine s_iloadN X9 hx (hb hby dTO_10) rfl ?_
 show own_G p e below _ (T9.setTop (mkF m 11 #[vR b, vI 4, vI 4, vR t1, vI 4] [(.int 4), (.int 4)]))
 refine own_st (fun tq kq => XS.icmpYes X9.here hx rfl (pc0 := 11) (pc' := 32) rfl (hb hby dTO_11) rfl (flt (by decide : ¬ ((4 : Int32) < (4 : Int32)))).2.1 (by decide) (by decide) kq) ?_
 refine s_aloadN X9 hx (hb hby dTO_32) rfl rfl ?_
 show own_G p e below _ (T9.setTop (mkF m 33 #[vR b, vI 4, vI 4, vR t1, vI 4] [(.ref t1)]))
 obtain ⟨fs, hr, hrun, hended, hW, hsame⟩ := X9.leave (v := some (.ref t1)) (fun h => by rw [Bd.returns] at h; cases h)
 refine ⟨_, _, retOut X9 hx Bd.returns rfl (Or.inr (Or.inr (Or.inr (Or.inr ⟨rfl, rfl, rfl⟩)))) (hb hby dTO_33) hr, hrun, hended, _, _, rfl, ?_, ⟨_, rfl⟩, hW, hsame.mono (by decide) (by decide)⟩
 change Q_own_toB4 Z b kC dv c0 c1 c2 c3 h0 n0 _ T9.heap _; exact ⟨t1, _, rfl, N9, K9, (by omega), Vt9.lt, Vt9⟩

def Q_own_cfl4 (Z : State) (t : Nat) (kb : ClassId) (vs : List Value) (h0 : Heap) (n0 : Nat) (v : Option Value) (h : Heap) (L : List Loc) : Prop := v = some (.int (1 : Int32)) ∧ Fr n0 L ∧ h = h0
theorem ef_own_cfl4 (m : MethodId) (x0 : Nat) : entryFrame m #[(.ref x0), (.int 4)] 2 = mkF m 0 #[.val (.ref x0), .val (.int 4)] [] := by first | (simp [entryFrame, mkF, argsToLocals, Value.category]; done) | rfl
theorem own_cfl4 (l : Launch) (Z : State) (a0 : Array Value) (hw : hWt a0 Z) (ws : List Jvm.Cond) (t : Nat) (kb : ClassId) (vs : List Value) (h0 : Heap) (n0 : Nat) (Z0 : n0 ≤ h0.size) (X00 : Old Z n0 h0) (Vt : Arv Z h0 t kb .byte (8 : Int32) vs (.int 0)) :
    MetFree l mN8 (head1 (Jvm.Cond.code mN8 jdk_52_method_15_code 2 (some .byte) :: ws) rm_0_0_0_0) (fun av_ U => av_ = #[(.ref t), (.int 4)] ∧ Z.Warmed39 U.vm ∧ U.heap = h0) (fun _ _ _ _ _ => True) (own_EN (Q_own_cfl4 Z t kb vs h0 n0) rm_0_0_0_0) := by
 refine MetFree.of_bodySF (plainFor_of_name own_pn1) hisR ?_
 intro p e s m args below meth c s₁ Bd hml0 hP hK
 obtain ⟨rfl, hZ, hh⟩ := hP
 have hx := Bd.exec
 have hby := Bd.bytes
 have hml : c.maxLocals = 2 := hml0
 have hown : s.vm.findClass "java/lang/StringUTF16" = some m.cls := findClass_of_methodNamed Bd.named
 have X0 : Stand p l e rm_0_0_0_0 s m _ below meth c s₁ [] 0 0 := Stand.of_body Bd
 have e0 : s₁.heap = h0 := by rw [← hh, Bd.state]; rfl
 have N0 := Fr.nil n0
 have K0 : Keep h0 h0 [] := Keep.refl h0 []
 refine show own_G p e below (own_EN (Q_own_cfl4 Z t kb vs h0 n0) rm_0_0_0_0 #[(.ref t), (.int 4)] s) _ from ?_
 refine own_st (fun tq kq => castTop (ef_own_cfl4 m (t)) kq) ?_
 show own_G p e below _ (s₁.setTop (mkF m 0 #[vR t, vI 4] []))
 refine s_iloadN X0 hx (hb hby dCL_0) rfl ?_
 refine s_aloadN X0 hx (hb hby dCL_1) rfl rfl ?_
 obtain ⟨cl1, Ar1, q1, S_1, N_1, H_1, G_1⟩ := id Vt
 refine own_st (fun tq kq => X0.arraylength hx (by rw [e0]; exact Ar1.1) (State.isArrayOf_alike hZ.alike Ar1.2.1) (g := (mkF m 2 #[vR t, vI 4] [(.ref t), (.int 4)])) rfl rfl (hb hby dCL_2) _ kq) ?_
 rw [len_of S_1 N_1]
 show own_G p e below _ (s₁.setTop (mkF m 3 #[vR t, vI 4] [(.int 8), (.int 4)]))
 refine own_st (fun tq kq => XS.isub X0.here hx rfl (hb hby dCL_3) rfl kq) ?_
 refine s_bipush X0 hx (hb hby dCL_4) ?_
 refine own_st (fun tq kq => XS.iushr X0.here hx rfl (hb hby dCL_6) rfl kq) ?_
 refine own_st (fun tq kq => XS.i2b X0.here hx rfl (hb hby dCL_7) rfl kq) ?_
 show own_G p e below _ (s₁.setTop (mkF m 8 #[vR t, vI 4] [(.int 1)]))
 obtain ⟨fs, hr, hrun, hended, hW, hsame⟩ := X0.leave (v := some (.int 1)) (fun h => by rw [Bd.returns] at h; cases h)
 refine ⟨_, _, retN X0 hx (t := .byte) Bd.returns (by simp) (hb hby dCL_8) hr, hrun, hended, _, _, rfl, ?_, ⟨_, rfl⟩, hW, hsame.mono (by decide) (by decide)⟩
 change Q_own_cfl4 Z t kb vs h0 n0 _ s₁.heap _; rw [e0]; exact ⟨rfl, N0, rfl⟩

def Q_own_cm5_4_0 (Z : State) (b d : Nat) (kC kD : ClassId) (dv : Value) (c0 c1 c2 c3 : Int32) (h0 : Heap) (n0 : Nat) (v : Option Value) (h : Heap) (L : List Loc) : Prop := v = some (.int (0 : Int32)) ∧ Fr n0 L ∧ Keep h0 h [d]
theorem ef_own_cm5_4_0 (m : MethodId) (x0 : Nat) (x2 : Nat) : entryFrame m #[(.ref x0), (.int 0), (.ref x2), (.int 0), (.int 4)] 7 = mkF m 0 #[.val (.ref x0), .val (.int 0), .val (.ref x2), .val (.int 0), .val (.int 4), .unset, .unset] [] := by first | (simp [entryFrame, mkF, argsToLocals, Value.category]; done) | rfl
theorem own_cm5_4_0 (l : Launch) (Z : State) (a0 : Array Value) (hw : hWt a0 Z) (ws : List Jvm.Cond) (b d : Nat) (kC kD : ClassId) (dv : Value) (c0 c1 c2 c3 : Int32) (h0 : Heap) (n0 : Nat) (Z0 : n0 ≤ h0.size) (X00 : Old Z n0 h0) (Vb : Arv Z h0 b kC .char (4 : Int32) [.int c0, .int c1, .int c2, .int c3] dv) (Vd : Arv Z h0 d kD .byte (4 : Int32) [.int (0 : Int32), .int (0 : Int32), .int (0 : Int32), .int (0 : Int32)] (.int 0)) (gd : n0 ≤ d) (nbd : b ≠ d) (hg : (255 : Int32) < c0) :
    MetFree l mN9 (head1 (Jvm.Cond.code mN9 jdk_52_method_21_code 7 (some .int) :: ws) rm_0_0_0_0) (fun av_ U => av_ = #[(.ref b), (.int 0), (.ref d), (.int 0), (.int 4)] ∧ Z.Warmed39 U.vm ∧ U.heap = h0) (fun _ _ _ _ _ => True) (own_EN (Q_own_cm5_4_0 Z b d kC kD dv c0 c1 c2 c3 h0 n0) rm_0_0_0_0) := by
 refine MetFree.of_bodySF (plainFor_of_name own_pn1) hisR ?_
 intro p e s m args below meth c s₁ Bd hml0 hP hK
 obtain ⟨rfl, hZ, hh⟩ := hP
 have hx := Bd.exec
 have hby := Bd.bytes
 have hml : c.maxLocals = 7 := hml0
 have hown : s.vm.findClass "java/lang/StringUTF16" = some m.cls := findClass_of_methodNamed Bd.named
 have X0 : Stand p l e rm_0_0_0_0 s m _ below meth c s₁ [] 0 0 := Stand.of_body Bd
 have e0 : s₁.heap = h0 := by rw [← hh, Bd.state]; rfl
 have N0 := Fr.nil n0
 have K0 : Keep h0 h0 [d] := Keep.refl h0 [d]
 refine show own_G p e below (own_EN (Q_own_cm5_4_0 Z b d kC kD dv c0 c1 c2 c3 h0 n0) rm_0_0_0_0 #[(.ref b), (.int 0), (.ref d), (.int 0), (.int 4)] s) _ from ?_
 refine own_st (fun tq kq => castTop (ef_own_cm5_4_0 m (b) (d)) kq) ?_
 show own_G p e below _ (s₁.setTop (mkF m 0 #[vR b, vI 0, vR d, vI 0, vI 4, .unset, .unset] []))
 have hws0 : ∀ y ∈ [d], n0 ≤ y := allS gd all0
 refine s_iconst X0 hx (hb hby dC5_0) ?_
 refine own_st (fun tq kq => XS.istore X0.here hx rfl (hb hby dC5_1) rfl (l' := #[vR b, vI 0, vR d, vI 0, vI 4, vI 0, .unset]) rfl kq) ?_
 refine s_iload X0 hx (hb hby dC5_3) rfl ?_
 refine s_iload X0 hx (hb hby dC5_5) rfl ?_
 show own_G p e below _ (s₁.setTop (mkF m 7 #[vR b, vI 0, vR d, vI 0, vI 4, vI 0, .unset] [(.int 4), (.int 0)]))
 refine own_st (fun tq kq => XS.icmpNo X0.here hx rfl (hb hby dC5_7) rfl (tlt (by decide : ((0 : Int32) < (4 : Int32)))).2.1 kq) ?_
 refine s_aloadN X0 hx (hb hby dC5_10) rfl rfl ?_
 refine s_iloadN X0 hx (hb hby dC5_11) rfl ?_
 obtain ⟨cl1, Ar1, q1, S_1, N_1, H_1, G_1⟩ := id Vb
 have in1 : ¬ ((0 : Int32) < 0 ∨ cl1.slots.size ≤ ((0 : Int32)).toNatClampNeg) := inb_of S_1 ⟨by decide, by decide⟩
 have at1 : cl1.slots[((0 : Int32)).toNatClampNeg]? = some (.int c0) := H_1.at in1 rfl
 refine own_st (fun tq kq => X0.caload hx (j := (0 : Int32)) (v := (.int c0)) (by rw [e0]; exact Ar1.1) (State.isArrayOf_alike hZ.alike Ar1.2.1) Ar1.2.2 in1 at1 (g := (mkF m 12 #[vR b, vI 0, vR d, vI 0, vI 4, vI 0, .unset] [(.int 0), (.ref b)])) rfl rfl (hb hby dC5_12) _ kq) ?_
 show own_G p e below _ (s₁.setTop (mkF m 13 #[vR b, vI 0, vR d, vI 0, vI 4, vI 0, .unset] [(.int c0)]))
 refine own_st (fun tq kq => XS.istore X0.here hx rfl (hb hby dC5_13) rfl (l' := #[vR b, vI 0, vR d, vI 0, vI 4, vI 0, vI c0]) rfl kq) ?_
 refine s_iload X0 hx (hb hby dC5_15) rfl ?_
 refine s_sipush X0 hx (hb hby dC5_17) ?_
 show own_G p e below _ (s₁.setTop (mkF m 20 #[vR b, vI 0, vR d, vI 0, vI 4, vI 0, vI c0] [(.int 255), (.int c0)]))
 refine own_st (fun tq kq => XS.icmpNo X0.here hx rfl (hb hby dC5_20) rfl (tlt hg).2.2.2 kq) ?_
 refine s_iload X0 hx (hb hby dC5_23) rfl ?_
 show own_G p e below _ (s₁.setTop (mkF m 25 #[vR b, vI 0, vR d, vI 0, vI 4, vI 0, vI c0] [(.int 0)]))
 obtain ⟨fs, hr, hrun, hended, hW, hsame⟩ := X0.leave (v := some (.int 0)) (fun h => by rw [Bd.returns] at h; cases h)
 refine ⟨_, _, retOut X0 hx Bd.returns rfl (Or.inl ⟨rfl, by simp, _, rfl⟩) (hb hby dC5_25) hr, hrun, hended, _, _, rfl, ?_, ⟨_, rfl⟩, hW, hsame.mono (by decide) (by decide)⟩
 change Q_own_cm5_4_0 Z b d kC kD dv c0 c1 c2 c3 h0 n0 _ s₁.heap _; rw [e0]; exact ⟨rfl, N0, K0⟩

def Q_own_cm5_4_1 (Z : State) (b d : Nat) (kC kD : ClassId) (dv : Value) (c0 c1 c2 c3 : Int32) (h0 : Heap) (n0 : Nat) (v : Option Value) (h : Heap) (L : List Loc) : Prop := v = some (.int (1 : Int32)) ∧ Fr n0 L ∧ Keep h0 h [d]
theorem ef_own_cm5_4_1 (m : MethodId) (x0 : Nat) (x2 : Nat) : entryFrame m #[(.ref x0), (.int 0), (.ref x2), (.int 0), (.int 4)] 7 = mkF m 0 #[.val (.ref x0), .val (.int 0), .val (.ref x2), .val (.int 0), .val (.int 4), .unset, .unset] [] := by first | (simp [entryFrame, mkF, argsToLocals, Value.category]; done) | rfl
theorem own_cm5_4_1 (l : Launch) (Z : State) (a0 : Array Value) (hw : hWt a0 Z) (ws : List Jvm.Cond) (b d : Nat) (kC kD : ClassId) (dv : Value) (c0 c1 c2 c3 : Int32) (h0 : Heap) (n0 : Nat) (Z0 : n0 ≤ h0.size) (X00 : Old Z n0 h0) (Vb : Arv Z h0 b kC .char (4 : Int32) [.int c0, .int c1, .int c2, .int c3] dv) (Vd : Arv Z h0 d kD .byte (4 : Int32) [.int (0 : Int32), .int (0 : Int32), .int (0 : Int32), .int (0 : Int32)] (.int 0)) (gd : n0 ≤ d) (nbd : b ≠ d) (hl0 : ¬ (255 : Int32) < c0) (hg : (255 : Int32) < c1) :
    MetFree l mN9 (head1 (Jvm.Cond.code mN9 jdk_52_method_21_code 7 (some .int) :: ws) rm_0_0_0_0) (fun av_ U => av_ = #[(.ref b), (.int 0), (.ref d), (.int 0), (.int 4)] ∧ Z.Warmed39 U.vm ∧ U.heap = h0) (fun _ _ _ _ _ => True) (own_EN (Q_own_cm5_4_1 Z b d kC kD dv c0 c1 c2 c3 h0 n0) rm_0_0_0_0) := by
 refine MetFree.of_bodySF (plainFor_of_name own_pn1) hisR ?_
 intro p e s m args below meth c s₁ Bd hml0 hP hK
 obtain ⟨rfl, hZ, hh⟩ := hP
 have hx := Bd.exec
 have hby := Bd.bytes
 have hml : c.maxLocals = 7 := hml0
 have hown : s.vm.findClass "java/lang/StringUTF16" = some m.cls := findClass_of_methodNamed Bd.named
 have X0 : Stand p l e rm_0_0_0_0 s m _ below meth c s₁ [] 0 0 := Stand.of_body Bd
 have e0 : s₁.heap = h0 := by rw [← hh, Bd.state]; rfl
 have N0 := Fr.nil n0
 have K0 : Keep h0 h0 [d] := Keep.refl h0 [d]
 refine show own_G p e below (own_EN (Q_own_cm5_4_1 Z b d kC kD dv c0 c1 c2 c3 h0 n0) rm_0_0_0_0 #[(.ref b), (.int 0), (.ref d), (.int 0), (.int 4)] s) _ from ?_
 refine own_st (fun tq kq => castTop (ef_own_cm5_4_1 m (b) (d)) kq) ?_
 show own_G p e below _ (s₁.setTop (mkF m 0 #[vR b, vI 0, vR d, vI 0, vI 4, .unset, .unset] []))
 have hws0 : ∀ y ∈ [d], n0 ≤ y := allS gd all0
 refine s_iconst X0 hx (hb hby dC5_0) ?_
 refine own_st (fun tq kq => XS.istore X0.here hx rfl (hb hby dC5_1) rfl (l' := #[vR b, vI 0, vR d, vI 0, vI 4, vI 0, .unset]) rfl kq) ?_
 refine s_iload X0 hx (hb hby dC5_3) rfl ?_
 refine s_iload X0 hx (hb hby dC5_5) rfl ?_
 show own_G p e below _ (s₁.setTop (mkF m 7 #[vR b, vI 0, vR d, vI 0, vI 4, vI 0, .unset] [(.int 4), (.int 0)]))
 refine own_st (fun tq kq => XS.icmpNo X0.here hx rfl (hb hby dC5_7) rfl (tlt (by decide : ((0 : Int32) < (4 : Int32)))).2.1 kq) ?_
 refine s_aloadN X0 hx (hb hby dC5_10) rfl rfl ?_
 refine s_iloadN X0 hx (hb hby dC5_11) rfl ?_
 obtain ⟨cl1, Ar1, q1, S_1, N_1, H_1, G_1⟩ := id Vb
 have in1 : ¬ ((0 : Int32) < 0 ∨ cl1.slots.size ≤ ((0 : Int32)).toNatClampNeg) := inb_of S_1 ⟨by decide, by decide⟩
 have at1 : cl1.slots[((0 : Int32)).toNatClampNeg]? = some (.int c0) := H_1.at in1 rfl
 refine own_st (fun tq kq => X0.caload hx (j := (0 : Int32)) (v := (.int c0)) (by rw [e0]; exact Ar1.1) (State.isArrayOf_alike hZ.alike Ar1.2.1) Ar1.2.2 in1 at1 (g := (mkF m 12 #[vR b, vI 0, vR d, vI 0, vI 4, vI 0, .unset] [(.int 0), (.ref b)])) rfl rfl (hb hby dC5_12) _ kq) ?_
 show own_G p e below _ (s₁.setTop (mkF m 13 #[vR b, vI 0, vR d, vI 0, vI 4, vI 0, .unset] [(.int c0)]))
 refine own_st (fun tq kq => XS.istore X0.here hx rfl (hb hby dC5_13) rfl (l' := #[vR b, vI 0, vR d, vI 0, vI 4, vI 0, vI c0]) rfl kq) ?_
 refine s_iload X0 hx (hb hby dC5_15) rfl ?_
 refine s_sipush X0 hx (hb hby dC5_17) ?_
 show own_G p e below _ (s₁.setTop (mkF m 20 #[vR b, vI 0, vR d, vI 0, vI 4, vI 0, vI c0] [(.int 255), (.int c0)]))
 refine own_st (fun tq kq => XS.icmpYes X0.here hx rfl (pc0 := 20) (pc' := 26) rfl (hb hby dC5_20) rfl (flt hl0).2.2.2 (by decide) (by decide) kq) ?_
 refine s_aloadN X0 hx (hb hby dC5_26) rfl rfl ?_
 refine s_iloadN X0 hx (hb hby dC5_27) rfl ?_
 refine s_iload X0 hx (hb hby dC5_28) rfl ?_
 show own_G p e below _ (s₁.setTop (mkF m 30 #[vR b, vI 0, vR d, vI 0, vI 4, vI 0, vI c0] [(.int c0), (.int 0), (.ref d)]))
 refine own_st (fun tq kq => XS.i2b X0.here hx rfl (hb hby dC5_30) rfl kq) ?_
 obtain ⟨cl2, Ar2, q2, S_2, N_2, H_2, G_2⟩ := id Vd
 have in2 : ¬ ((0 : Int32) < 0 ∨ cl2.slots.size ≤ ((0 : Int32)).toNatClampNeg) := inb_of S_2 ⟨by decide, by decide⟩
 obtain ⟨T2, h2, X2, e2, W2, st2⟩ := stB X0 hx hZ e0 Ar2 (j := (0 : Int32)) in2 (g := (mkF m 31 #[vR b, vI 0, vR d, vI 0, vI 4, vI 0, vI c0] [(.int (c0.toInt8.toInt32)), (.int 0), (.ref d)])) rfl rfl (hb hby dC5_31)
 have V2 := Arv.set Ar2 q2 S_2 N_2 H_2 G_2 (fits_nar_byte _) W2 0 rfl (Nat.le_of_ble_eq_true rfl)
 have sz2 : h0.size ≤ h2.size := (Keep.of_wr W2).1
 have K2 : Keep h0 h2 [d] := K0.wr W2 (Or.inl (by simp))
 have N2 := Fr.snoc X2 N0 (own_le (by omega))
 refine own_st st2 ?_
 refine own_st (fun tq kq => XS.iinc X2.here hx rfl (hb hby dC5_32) rfl (l' := #[vR b, vI 1, vR d, vI 0, vI 4, vI 0, vI c0]) rfl kq) ?_
 refine own_st (fun tq kq => XS.iinc X2.here hx rfl (hb hby dC5_35) rfl (l' := #[vR b, vI 1, vR d, vI 1, vI 4, vI 0, vI c0]) rfl kq) ?_
 refine own_st (fun tq kq => XS.iinc X2.here hx rfl (hb hby dC5_38) rfl (l' := #[vR b, vI 1, vR d, vI 1, vI 4, vI 1, vI c0]) rfl kq) ?_
 refine own_st (fun tq kq => XS.goto X2.here hx rfl (pc0 := 41) (pc' := 3) rfl (hb hby dC5_41) (by decide) (by decide) kq) ?_
 show own_G p e below _ (T2.setTop (mkF m 3 #[vR b, vI 1, vR d, vI 1, vI 4, vI 1, vI c0] []))
 refine s_iload X2 hx (hb hby dC5_3) rfl ?_
 refine s_iload X2 hx (hb hby dC5_5) rfl ?_
 show own_G p e below _ (T2.setTop (mkF m 7 #[vR b, vI 1, vR d, vI 1, vI 4, vI 1, vI c0] [(.int 4), (.int 1)]))
 refine own_st (fun tq kq => XS.icmpNo X2.here hx rfl (hb hby dC5_7) rfl (tlt (by decide : ((1 : Int32) < (4 : Int32)))).2.1 kq) ?_
 refine s_aloadN X2 hx (hb hby dC5_10) rfl rfl ?_
 refine s_iloadN X2 hx (hb hby dC5_11) rfl ?_
 obtain ⟨cl3, Ar3, q3, S_3, N_3, H_3, G_3⟩ := id (Vb.other W2 (own_ne (by omega)))
 have in3 : ¬ ((1 : Int32) < 0 ∨ cl3.slots.size ≤ ((1 : Int32)).toNatClampNeg) := inb_of S_3 ⟨by decide, by decide⟩
 have at3 : cl3.slots[((1 : Int32)).toNatClampNeg]? = some (.int c1) := H_3.at in3 rfl
 refine own_st (fun tq kq => X2.caload hx (j := (1 : Int32)) (v := (.int c1)) (by rw [e2]; exact Ar3.1) (State.isArrayOf_alike hZ.alike Ar3.2.1) Ar3.2.2 in3 at3 (g := (mkF m 12 #[vR b, vI 1, vR d, vI 1, vI 4, vI 1, vI c0] [(.int 1), (.ref b)])) rfl rfl (hb hby dC5_12) _ kq) ?_
 show own_G p e below _ (T2.setTop (mkF m 13 #[vR b, vI 1, vR d, vI 1, vI 4, vI 1, vI c0] [(.int c1)]))
 refine own_st (fun tq kq => XS.istore X2.here hx rfl (hb hby dC5_13) rfl (l' := #[vR b, vI 1, vR d, vI 1, vI 4, vI 1, vI c1]) rfl kq) ?_
 refine s_iload X2 hx (hb hby dC5_15) rfl ?_
 refine s_sipush X2 hx (hb hby dC5_17) ?_
 show own_G p e below _ (T2.setTop (mkF m 20 #[vR b, vI 1, vR d, vI 1, vI 4, vI 1, vI c1] [(.int 255), (.int c1)]))
 refine own_st (fun tq kq => XS.icmpNo X2.here hx rfl (hb hby dC5_20) rfl (tlt hg).2.2.2 kq) ?_
 refine s_iload X2 hx (hb hby dC5_23) rfl ?_
 show own_G p e below _ (T2.setTop (mkF m 25 #[vR b, vI 1, vR d, vI 1, vI 4, vI 1, vI c1] [(.int 1)]))
 obtain ⟨fs, hr, hrun, hended, hW, hsame⟩ := X2.leave (v := some (.int 1)) (fun h => by rw [Bd.returns] at h; cases h)
 refine ⟨_, _, retOut X2 hx Bd.returns rfl (Or.inl ⟨rfl, by simp, _, rfl⟩) (hb hby dC5_25) hr, hrun, hended, _, _, rfl, ?_, ⟨_, rfl⟩, hW, hsame.mono (by decide) (by decide)⟩
 change Q_own_cm5_4_1 Z b d kC kD dv c0 c1 c2 c3 h0 n0 _ T2.heap _; rw [e2]; exact ⟨rfl, N2, K2⟩

def Q_own_cm5_4_2 (Z : State) (b d : Nat) (kC kD : ClassId) (dv : Value) (c0 c1 c2 c3 : Int32) (h0 : Heap) (n0 : Nat) (v : Option Value) (h : Heap) (L : List Loc) : Prop := v = some (.int (2 : Int32)) ∧ Fr n0 L ∧ Keep h0 h [d]
theorem ef_own_cm5_4_2 (m : MethodId) (x0 : Nat) (x2 : Nat) : entryFrame m #[(.ref x0), (.int 0), (.ref x2), (.int 0), (.int 4)] 7 = mkF m 0 #[.val (.ref x0), .val (.int 0), .val (.ref x2), .val (.int 0), .val (.int 4), .unset, .unset] [] := by first | (simp [entryFrame, mkF, argsToLocals, Value.category]; done) | rfl
theorem own_cm5_4_2 (l : Launch) (Z : State) (a0 : Array Value) (hw : hWt a0 Z) (ws : List Jvm.Cond) (b d : Nat) (kC kD : ClassId) (dv : Value) (c0 c1 c2 c3 : Int32) (h0 : Heap) (n0 : Nat) (Z0 : n0 ≤ h0.size) (X00 : Old Z n0 h0) (Vb : Arv Z h0 b kC .char (4 : Int32) [.int c0, .int c1, .int c2, .int c3] dv) (Vd : Arv Z h0 d kD .byte (4 : Int32) [.int (0 : Int32), .int (0 : Int32), .int (0 : Int32), .int (0 : Int32)] (.int 0)) (gd : n0 ≤ d) (nbd : b ≠ d) (hl0 : ¬ (255 : Int32) < c0) (hl1 : ¬ (255 : Int32) < c1) (hg : (255 : Int32) < c2) :
    MetFree l mN9 (head1 (Jvm.Cond.code mN9 jdk_52_method_21_code 7 (some .int) :: ws) rm_0_0_0_0) (fun av_ U => av_ = #[(.ref b), (.int 0), (.ref d), (.int 0), (.int 4)] ∧ Z.Warmed39 U.vm ∧ U.heap = h0) (fun _ _ _ _ _ => True) (own_EN (Q_own_cm5_4_2 Z b d kC kD dv c0 c1 c2 c3 h0 n0) rm_0_0_0_0) := by
 refine MetFree.of_bodySF (plainFor_of_name own_pn1) hisR ?_
 intro p e s m args below meth c s₁ Bd hml0 hP hK
 obtain ⟨rfl, hZ, hh⟩ := hP
 have hx := Bd.exec
 have hby := Bd.bytes
 have hml : c.maxLocals = 7 := hml0
 have hown : s.vm.findClass "java/lang/StringUTF16" = some m.cls := findClass_of_methodNamed Bd.named
 have X0 : Stand p l e rm_0_0_0_0 s m _ below meth c s₁ [] 0 0 := Stand.of_body Bd
 have e0 : s₁.heap = h0 := by rw [← hh, Bd.state]; rfl
 have N0 := Fr.nil n0
 have K0 : Keep h0 h0 [d] := Keep.refl h0 [d]
 refine show own_G p e below (own_EN (Q_own_cm5_4_2 Z b d kC kD dv c0 c1 c2 c3 h0 n0) rm_0_0_0_0 #[(.ref b), (.int 0), (.ref d), (.int 0), (.int 4)] s) _ from ?_
 refine own_st (fun tq kq => castTop (ef_own_cm5_4_2 m (b) (d)) kq) ?_
 show own_G p e below _ (s₁.setTop (mkF m 0 #[vR b, vI 0, vR d, vI 0, vI 4, .unset, .unset] []))
 have hws0 : ∀ y ∈ [d], n0 ≤ y := allS gd all0
 refine s_iconst X0 hx (hb hby dC5_0) ?_
 refine own_st (fun tq kq => XS.istore X0.here hx rfl (hb hby dC5_1) rfl (l' := #[vR b, vI 0, vR d, vI 0, vI 4, vI 0, .unset]) rfl kq) ?_
 refine s_iload X0 hx (hb hby dC5_3) rfl ?_
 refine s_iload X0 hx (hb hby dC5_5) rfl ?_
 show own_G p e below _ (s₁.setTop (mkF m 7 #[vR b, vI 0, vR d, vI 0, vI 4, vI 0, .unset] [(.int 4), (.int 0)]))
 refine own_st (fun tq kq => XS.icmpNo X0.here hx rfl (hb hby dC5_7) rfl (tlt (by decide : ((0 : Int32) < (4 : Int32)))).2.1 kq) ?_
 refine s_aloadN X0 hx (hb hby dC5_10) rfl rfl ?_
 refine s_iloadN X0 hx (hb hby dC5_11) rfl ?_
 obtain ⟨cl1, Ar1, q1, S_1, N_1, H_1, G_1⟩ := id Vb
 have in1 : ¬ ((0 : Int32) < 0 ∨ cl1.slots.size ≤ ((0 : Int32)).toNatClampNeg) := inb_of S_1 ⟨by decide, by decide⟩
 have at1 : cl1.slots[((0 : Int32)).toNatClampNeg]? = some (.int c0) := H_1.at in1 rfl
 refine own_st (fun tq kq => X0.caload hx (j := (0 : Int32)) (v := (.int c0)) (by rw [e0]; exact Ar1.1) (State.isArrayOf_alike hZ.alike Ar1.2.1) Ar1.2.2 in1 at1 (g := (mkF m 12 #[vR b, vI 0, vR d, vI 0, vI 4, vI 0, .unset] [(.int 0), (.ref b)])) rfl rfl (hb hby dC5_12) _ kq) ?_
 show own_G p e below _ (s₁.setTop (mkF m 13 #[vR b, vI 0, vR d, vI 0, vI 4, vI 0, .unset] [(.int c0)]))
 refine own_st (fun tq kq => XS.istore X0.here hx rfl (hb hby dC5_13) rfl (l' := #[vR b, vI 0, vR d, vI 0, vI 4, vI 0, vI c0]) rfl kq) ?_
 refine s_iload X0 hx (hb hby dC5_15) rfl ?_
 refine s_sipush X0 hx (hb hby dC5_17) ?_
 show own_G p e below _ (s₁.setTop (mkF m 20 #[vR b, vI 0, vR d, vI 0, vI 4, vI 0, vI c0] [(.int 255), (.int c0)]))
 refine own_st (fun tq kq => XS.icmpYes X0.here hx rfl (pc0 := 20) (pc' := 26) rfl (hb hby dC5_20) rfl (flt hl0).2.2.2 (by decide) (by decide) kq) ?_
 refine s_aloadN X0 hx (hb hby dC5_26) rfl rfl ?_
 refine s_iloadN X0 hx (hb hby dC5_27) rfl ?_
 refine s_iload X0 hx (hb hby dC5_28) rfl ?_
 show own_G p e below _ (s₁.setTop (mkF m 30 #[vR b, vI 0, vR d, vI 0, vI 4, vI 0, vI c0] [(.int c0), (.int 0), (.ref d)]))
 refine own_st (fun tq kq => XS.i2b X0.here hx rfl (hb hby dC5_30) rfl kq) ?_
 obtain ⟨cl2, Ar2, q2, S_2, N_2, H_2, G_2⟩ := id Vd
 have in2 : ¬ ((0 : Int32) < 0 ∨ cl2.slots.size ≤ ((0 : Int32)).toNatClampNeg) := inb_of S_2 ⟨by decide, by decide⟩
 obtain ⟨T2, h2, X2, e2, W2, st2⟩ := stB X0 hx hZ e0 Ar2 (j := (0 : Int32)) in2 (g := (mkF m 31 #[vR b, vI 0, vR d, vI 0, vI 4, vI 0, vI c0] [(.int (c0.toInt8.toInt32)), (.int 0), (.ref d)])) rfl rfl (hb hby dC5_31)
 have V2 := Arv.set Ar2 q2 S_2 N_2 H_2 G_2 (fits_nar_byte _) W2 0 rfl (Nat.le_of_ble_eq_true rfl)
 have sz2 : h0.size ≤ h2.size := (Keep.of_wr W2).1
 have K2 : Keep h0 h2 [d] := K0.wr W2 (Or.inl (by simp))
 have N2 := Fr.snoc X2 N0 (own_le (by omega))
 refine own_st st2 ?_
 refine own_st (fun tq kq => XS.iinc X2.here hx rfl (hb hby dC5_32) rfl (l' := #[vR b, vI 1, vR d, vI 0, vI 4, vI 0, vI c0]) rfl kq) ?_
 refine own_st (fun tq kq => XS.iinc X2.here hx rfl (hb hby dC5_35) rfl (l' := #[vR b, vI 1, vR d, vI 1, vI 4, vI 0, vI c0]) rfl kq) ?_
 refine own_st (fun tq kq => XS.iinc X2.here hx rfl (hb hby dC5_38) rfl (l' := #[vR b, vI 1, vR d, vI 1, vI 4, vI 1, vI c0]) rfl kq) ?_
 refine own_st (fun tq kq => XS.goto X2.here hx rfl (pc0 := 41) (pc' := 3) rfl (hb hby dC5_41) (by decide) (by decide) kq) ?_
 show own_G p e below _ (T2.setTop (mkF m 3 #[vR b, vI 1, vR d, vI 1, vI 4, vI 1, vI c0] []))
 refine s_iload X2 hx (hb hby dC5_3) rfl ?_
 refine s_iload X2 hx (hb hby dC5_5) rfl ?_
 show own_G p e below _ (T2.setTop (mkF m 7 #[vR b, vI 1, vR d, vI 1, vI 4, vI 1, vI c0] [(.int 4), (.int 1)]))
 refine own_st (fun tq kq => XS.icmpNo X2.here hx rfl (hb hby dC5_7) rfl (tlt (by decide : ((1 : Int32) < (4 : Int32)))).2.1 kq) ?_
 refine s_aloadN X2 hx (hb hby dC5_10) rfl rfl ?_
 refine s_iloadN X2 hx (hb hby dC5_11) rfl ?_
 obtain ⟨cl3, Ar3, q3, S_3, N_3, H_3, G_3⟩ := id (Vb.other W2 (own_ne (by omega)))
 have in3 : ¬ ((1 : Int32) < 0 ∨ cl3.slots.size ≤ ((1 : Int32)).toNatClampNeg) := inb_of S_3 ⟨by decide, by decide⟩
 have at3 : cl3.slots[((1 : Int32)).toNatClampNeg]? = some (.int c1) := H_3.at in3 rfl
 refine own_st (fun tq kq => X2.caload hx (j := (1 : Int32)) (v := (.int c1)) (by rw [e2]; exact Ar3.1) (State.isArrayOf_alike hZ.alike Ar3.2.1) Ar3.2.2 in3 at3 (g := (mkF m 12 #[vR b, vI 1, vR d, vI 1, vI 4, vI 1, vI c0] [(.int 1), (.ref b)])) rfl rfl (hb hby dC5_12) _ kq) ?_
 show own_G p e below _ (T2.setTop (mkF m 13 #[vR b, vI 1, vR d, vI 1, vI 4, vI 1, vI c0] [(.int c1)]))
 refine own_st (fun tq kq => XS.istore X2.here hx rfl (hb hby dC5_13) rfl (l' := #[vR b, vI 1, vR d, vI 1, vI 4, vI 1, vI c1]) rfl kq) ?_
 refine s_iload X2 hx (hb hby dC5_15) rfl ?_
 refine s_sipush X2 hx (hb hby dC5_17) ?_
 show own_G p e below _ (T2.setTop (mkF m 20 #[vR b, vI 1, vR d, vI 1, vI 4, vI 1, vI c1] [(.int 255), (.int c1)]))
 refine own_st (fun tq kq => XS.icmpYes X2.here hx rfl (pc0 := 20) (pc' := 26) rfl (hb hby dC5_20) rfl (flt hl1).2.2.2 (by decide) (by decide) kq) ?_
 refine s_aloadN X2 hx (hb hby dC5_26) rfl rfl ?_
 refine s_iloadN X2 hx (hb hby dC5_27) rfl ?_
 refine s_iload X2 hx (hb hby dC5_28) rfl ?_
 show own_G p e below _ (T2.setTop (mkF m 30 #[vR b, vI 1, vR d, vI 1, vI 4, vI 1, vI c1] [(.int c1), (.int 1), (.ref d)]))
 refine own_st (fun tq kq => XS.i2b X2.here hx rfl (hb hby dC5_30) rfl kq) ?_
 obtain ⟨cl4, Ar4, q4, S_4, N_4, H_4, G_4⟩ := id V2
 have in4 : ¬ ((1 : Int32) < 0 ∨ cl4.slots.size ≤ ((1 : Int32)).toNatClampNeg) := inb_of S_4 ⟨by decide, by decide⟩
 obtain ⟨T4, h4, X4, e4, W4, st4⟩ := stB X2 hx hZ e2 Ar4 (j := (1 : Int32)) in4 (g := (mkF m 31 #[vR b, vI 1, vR d, vI 1, vI 4, vI 1, vI c1] [(.int (c1.toInt8.toInt32)), (.int 1), (.ref d)])) rfl rfl (hb hby dC5_31)
 have V4 := Arv.set Ar4 q4 S_4 N_4 H_4 G_4 (fits_nar_byte _) W4 1 rfl (Nat.le_of_ble_eq_true rfl)
 have sz4 : h2.size ≤ h4.size := (Keep.of_wr W4).1
 have K4 : Keep h0 h4 [d] := K2.wr W4 (Or.inl (by simp))
 have N4 := Fr.snoc X4 N2 (own_le (by omega))
 refine own_st st4 ?_
 refine own_st (fun tq kq => XS.iinc X4.here hx rfl (hb hby dC5_32) rfl (l' := #[vR b, vI 2, vR d, vI 1, vI 4, vI 1, vI c1]) rfl kq) ?_
 refine own_st (fun tq kq => XS.iinc X4.here hx rfl (hb hby dC5_35) rfl (l' := #[vR b, vI 2, vR d, vI 2, vI 4, vI 1, vI c1]) rfl kq) ?_
 refine own_st (fun tq kq => XS.iinc X4.here hx rfl (hb hby dC5_38) rfl (l' := #[vR b, vI 2, vR d, vI 2, vI 4, vI 2, vI c1]) rfl kq) ?_
 refine own_st (fun tq kq => XS.goto X4.here hx rfl (pc0 := 41) (pc' := 3) rfl (hb hby dC5_41) (by decide) (by decide) kq) ?_
 show own_G p e below _ (T4.setTop (mkF m 3 #[vR b, vI 2, vR d, vI 2, vI 4, vI 2, vI c1] []))
 refine s_iload X4 hx (hb hby dC5_3) rfl ?_
 refine s_iload X4 hx (hb hby dC5_5) rfl ?_
 show own_G p e below _ (T4.setTop (mkF m 7 #[vR b, vI 2, vR d, vI 2, vI 4, vI 2, vI c1] [(.int 4), (.int 2)]))
 refine own_st (fun tq kq => XS.icmpNo X4.here hx rfl (hb hby dC5_7) rfl (tlt (by decide : ((2 : Int32) < (4 : Int32)))).2.1 kq) ?_
 refine s_aloadN X4 hx (hb hby dC5_10) rfl rfl ?_
 refine s_iloadN X4 hx (hb hby dC5_11) rfl ?_
 obtain ⟨cl5, Ar5, q5, S_5, N_5, H_5, G_5⟩ := id ((Vb.other W2 (own_ne (by omega))).other W4 (own_ne (by omega)))
 have in5 : ¬ ((2 : Int32) < 0 ∨ cl5.slots.size ≤ ((2 : Int32)).toNatClampNeg) := inb_of S_5 ⟨by decide, by decide⟩
 have at5 : cl5.slots[((2 : Int32)).toNatClampNeg]? = some (.int c2) := H_5.at in5 rfl
 refine own_st (fun tq kq => X4.caload hx (j := (2 : Int32)) (v := (.int c2)) (by rw [e4]; exact Ar5.1) (State.isArrayOf_alike hZ.alike Ar5.2.1) Ar5.2.2 in5 at5 (g := (mkF m 12 #[vR b, vI 2, vR d, vI 2, vI 4, vI 2, vI c1] [(.int 2), (.ref b)])) rfl rfl (hb hby dC5_12) _ kq) ?_
 show own_G p e below _ (T4.setTop (mkF m 13 #[vR b, vI 2, vR d, vI 2, vI 4, vI 2, vI c1] [(.int c2)]))
 refine own_st (fun tq kq => XS.istore X4.here hx rfl (hb hby dC5_13) rfl (l' := #[vR b, vI 2, vR d, vI 2, vI 4, vI 2, vI c2]) rfl kq) ?_
 refine s_iload X4 hx (hb hby dC5_15) rfl ?_
 refine s_sipush X4 hx (hb hby dC5_17) ?_
 show own_G p e below _ (T4.setTop (mkF m 20 #[vR b, vI 2, vR d, vI 2, vI 4, vI 2, vI c2] [(.int 255), (.int c2)]))
 refine own_st (fun tq kq => XS.icmpNo X4.here hx rfl (hb hby dC5_20) rfl (tlt hg).2.2.2 kq) ?_
 refine s_iload X4 hx (hb hby dC5_23) rfl ?_
 show own_G p e below _ (T4.setTop (mkF m 25 #[vR b, vI 2, vR d, vI 2, vI 4, vI 2, vI c2] [(.int 2)]))
 obtain ⟨fs, hr, hrun, hended, hW, hsame⟩ := X4.leave (v := some (.int 2)) (fun h => by rw [Bd.returns] at h; cases h)
 refine ⟨_, _, retOut X4 hx Bd.returns rfl (Or.inl ⟨rfl, by simp, _, rfl⟩) (hb hby dC5_25) hr, hrun, hended, _, _, rfl, ?_, ⟨_, rfl⟩, hW, hsame.mono (by decide) (by decide)⟩
 change Q_own_cm5_4_2 Z b d kC kD dv c0 c1 c2 c3 h0 n0 _ T4.heap _; rw [e4]; exact ⟨rfl, N4, K4⟩

def Q_own_cm5_4_3 (Z : State) (b d : Nat) (kC kD : ClassId) (dv : Value) (c0 c1 c2 c3 : Int32) (h0 : Heap) (n0 : Nat) (v : Option Value) (h : Heap) (L : List Loc) : Prop := v = some (.int (3 : Int32)) ∧ Fr n0 L ∧ Keep h0 h [d]
theorem ef_own_cm5_4_3 (m : MethodId) (x0 : Nat) (x2 : Nat) : entryFrame m #[(.ref x0), (.int 0), (.ref x2), (.int 0), (.int 4)] 7 = mkF m 0 #[.val (.ref x0), .val (.int 0), .val (.ref x2), .val (.int 0), .val (.int 4), .unset, .unset] [] := by first | (simp [entryFrame, mkF, argsToLocals, Value.category]; done) | rfl
theorem own_cm5_4_3 (l : Launch) (Z : State) (a0 : Array Value) (hw : hWt a0 Z) (ws : List Jvm.Cond) (b d : Nat) (kC kD : ClassId) (dv : Value) (c0 c1 c2 c3 : Int32) (h0 : Heap) (n0 : Nat) (Z0 : n0 ≤ h0.size) (X00 : Old Z n0 h0) (Vb : Arv Z h0 b kC .char (4 : Int32) [.int c0, .int c1, .int c2, .int c3] dv) (Vd : Arv Z h0 d kD .byte (4 : Int32) [.int (0 : Int32), .int (0 : Int32), .int (0 : Int32), .int (0 : Int32)] (.int 0)) (gd : n0 ≤ d) (nbd : b ≠ d) (hl0 : ¬ (255 : Int32) < c0) (hl1 : ¬ (255 : Int32) < c1) (hl2 : ¬ (255 : Int32) < c2) (hg : (255 : Int32) < c3) :
    MetFree l mN9 (head1 (Jvm.Cond.code mN9 jdk_52_method_21_code 7 (some .int) :: ws) rm_0_0_0_0) (fun av_ U => av_ = #[(.ref b), (.int 0), (.ref d), (.int 0), (.int 4)] ∧ Z.Warmed39 U.vm ∧ U.heap = h0) (fun _ _ _ _ _ => True) (own_EN (Q_own_cm5_4_3 Z b d kC kD dv c0 c1 c2 c3 h0 n0) rm_0_0_0_0) := by
 refine MetFree.of_bodySF (plainFor_of_name own_pn1) hisR ?_
 intro p e s m args below meth c s₁ Bd hml0 hP hK
 obtain ⟨rfl, hZ, hh⟩ := hP
 have hx := Bd.exec
 have hby := Bd.bytes
 have hml : c.maxLocals = 7 := hml0
 have hown : s.vm.findClass "java/lang/StringUTF16" = some m.cls := findClass_of_methodNamed Bd.named
 have X0 : Stand p l e rm_0_0_0_0 s m _ below meth c s₁ [] 0 0 := Stand.of_body Bd
 have e0 : s₁.heap = h0 := by rw [← hh, Bd.state]; rfl
 have N0 := Fr.nil n0
 have K0 : Keep h0 h0 [d] := Keep.refl h0 [d]
 refine show own_G p e below (own_EN (Q_own_cm5_4_3 Z b d kC kD dv c0 c1 c2 c3 h0 n0) rm_0_0_0_0 #[(.ref b), (.int 0), (.ref d), (.int 0), (.int 4)] s) _ from ?_
 refine own_st (fun tq kq => castTop (ef_own_cm5_4_3 m (b) (d)) kq) ?_
 show own_G p e below _ (s₁.setTop (mkF m 0 #[vR b, vI 0, vR d, vI 0, vI 4, .unset, .unset] []))
 have hws0 : ∀ y ∈ [d], n0 ≤ y := allS gd all0
 refine s_iconst X0 hx (hb hby dC5_0) ?_
 refine own_st (fun tq kq => XS.istore X0.here hx rfl (hb hby dC5_1) rfl (l' := #[vR b, vI 0, vR d, vI 0, vI 4, vI 0, .unset]) rfl kq) ?_
 refine s_iload X0 hx (hb hby dC5_3) rfl ?_
 refine s_iload X0 hx (hb hby dC5_5) rfl ?_
 show own_G p e below _ (s₁.setTop (mkF m 7 #[vR b, vI 0, vR d, vI 0, vI 4, vI 0, .unset] [(.int 4), (.int 0)]))
 refine own_st (fun tq kq => XS.icmpNo X0.here hx rfl (hb hby dC5_7) rfl (tlt (by decide : ((0 : Int32) < (4 : Int32)))).2.1 kq) ?_
 refine s_aloadN X0 hx (hb hby dC5_10) rfl rfl ?_
 refine s_iloadN X0 hx (hb hby dC5_11) rfl ?_
 obtain ⟨cl1, Ar1, q1, S_1, N_1, H_1, G_1⟩ := id Vb
 have in1 : ¬ ((0 : Int32) < 0 ∨ cl1.slots.size ≤ ((0 : Int32)).toNatClampNeg) := inb_of S_1 ⟨by decide, by decide⟩
 have at1 : cl1.slots[((0 : Int32)).toNatClampNeg]? = some (.int c0) := H_1.at in1 rfl
 refine own_st (fun tq kq => X0.caload hx (j := (0 : Int32)) (v := (.int c0)) (by rw [e0]; exact Ar1.1) (State.isArrayOf_alike hZ.alike Ar1.2.1) Ar1.2.2 in1 at1 (g := (mkF m 12 #[vR b, vI 0, vR d, vI 0, vI 4, vI 0, .unset] [(.int 0), (.ref b)])) rfl rfl (hb hby dC5_12) _ kq) ?_
 show own_G p e below _ (s₁.setTop (mkF m 13 #[vR b, vI 0, vR d, vI 0, vI 4, vI 0, .unset] [(.int c0)]))
 refine own_st (fun tq kq => XS.istore X0.here hx rfl (hb hby dC5_13) rfl (l' := #[vR b, vI 0, vR d, vI 0, vI 4, vI 0, vI c0]) rfl kq) ?_
 refine s_iload X0 hx (hb hby dC5_15) rfl ?_
 refine s_sipush X0 hx (hb hby dC5_17) ?_
 show own_G p e below _ (s₁.setTop (mkF m 20 #[vR b, vI 0, vR d, vI 0, vI 4, vI 0, vI c0] [(.int 255), (.int c0)]))
 refine own_st (fun tq kq => XS.icmpYes X0.here hx rfl (pc0 := 20) (pc' := 26) rfl (hb hby dC5_20) rfl (flt hl0).2.2.2 (by decide) (by decide) kq) ?_
 refine s_aloadN X0 hx (hb hby dC5_26) rfl rfl ?_
 refine s_iloadN X0 hx (hb hby dC5_27) rfl ?_
 refine s_iload X0 hx (hb hby dC5_28) rfl ?_
 show own_G p e below _ (s₁.setTop (mkF m 30 #[vR b, vI 0, vR d, vI 0, vI 4, vI 0, vI c0] [(.int c0), (.int 0), (.ref d)]))
 refine own_st (fun tq kq => XS.i2b X0.here hx rfl (hb hby dC5_30) rfl kq) ?_
 obtain ⟨cl2, Ar2, q2, S_2, N_2, H_2, G_2⟩ := id Vd
 have in2 : ¬ ((0 : Int32) < 0 ∨ cl2.slots.size ≤ ((0 : Int32)).toNatClampNeg) := inb_of S_2 ⟨by decide, by decide⟩
 obtain ⟨T2, h2, X2, e2, W2, st2⟩ := stB X0 hx hZ e0 Ar2 (j := (0 : Int32)) in2 (g := (mkF m 31 #[vR b, vI 0, vR d, vI 0, vI 4, vI 0, vI c0] [(.int (c0.toInt8.toInt32)), (.int 0), (.ref d)])) rfl rfl (hb hby dC5_31)
 have V2 := Arv.set Ar2 q2 S_2 N_2 H_2 G_2 (fits_nar_byte _) W2 0 rfl (Nat.le_of_ble_eq_true rfl)
 have sz2 : h0.size ≤ h2.size := (Keep.of_wr W2).1
 have K2 : Keep h0 h2 [d] := K0.wr W2 (Or.inl (by simp))
 have N2 := Fr.snoc X2 N0 (own_le (by omega))
 refine own_st st2 ?_
 refine own_st (fun tq kq => XS.iinc X2.here hx rfl (hb hby dC5_32) rfl (l' := #[vR b, vI 1, vR d, vI 0, vI 4, vI 0, vI c0]) rfl kq) ?_
 refine own_st (fun tq kq => XS.iinc X2.here hx rfl (hb hby dC5_35) rfl (l' := #[vR b, vI 1, vR d, vI 1, vI 4, vI 0, vI c0]) rfl kq) ?_
 refine own_st (fun tq kq => XS.iinc X2.here hx rfl (hb hby dC5_38) rfl (l' := #[vR b, vI 1, vR d, vI 1, vI 4, vI 1, vI c0]) rfl kq) ?_
 refine own_st (fun tq kq => XS.goto X2.here hx rfl (pc0 := 41) (pc' := 3) rfl (hb hby dC5_41) (by decide) (by decide) kq) ?_
 show own_G p e below _ (T2.setTop (mkF m 3 #[vR b, vI 1, vR d, vI 1, vI 4, vI 1, vI c0] []))
 refine s_iload X2 hx (hb hby dC5_3) rfl ?_
 refine s_iload X2 hx (hb hby dC5_5) rfl ?_
 show own_G p e below _ (T2.setTop (mkF m 7 #[vR b, vI 1, vR d, vI 1, vI 4, vI 1, vI c0] [(.int 4), (.int 1)]))
 refine own_st (fun tq kq => XS.icmpNo X2.here hx rfl (hb hby dC5_7) rfl (tlt (by decide : ((1 : Int32) < (4 : Int32)))).2.1 kq) ?_
 refine s_aloadN X2 hx (hb hby dC5_10) rfl rfl ?_
 refine s_iloadN X2 hx (hb hby dC5_11) rfl ?_
 obtain ⟨cl3, Ar3, q3, S_3, N_3, H_3, G_3⟩ := id (Vb.other W2 (own_ne (by omega)))
 have in3 : ¬ ((1 : Int32) < 0 ∨ cl3.slots.size ≤ ((1 : Int32)).toNatClampNeg) := inb_of S_3 ⟨by decide, by decide⟩
 have at3 : cl3.slots[((1 : Int32)).toNatClampNeg]? = some (.int c1) := H_3.at in3 rfl
 refine own_st (fun tq kq => X2.caload hx (j := (1 : Int32)) (v := (.int c1)) (by rw [e2]; exact Ar3.1) (State.isArrayOf_alike hZ.alike Ar3.2.1) Ar3.2.2 in3 at3 (g := (mkF m 12 #[vR b, vI 1, vR d, vI 1, vI 4, vI 1, vI c0] [(.int 1), (.ref b)])) rfl rfl (hb hby dC5_12) _ kq) ?_
 show own_G p e below _ (T2.setTop (mkF m 13 #[vR b, vI 1, vR d, vI 1, vI 4, vI 1, vI c0] [(.int c1)]))
 refine own_st (fun tq kq => XS.istore X2.here hx rfl (hb hby dC5_13) rfl (l' := #[vR b, vI 1, vR d, vI 1, vI 4, vI 1, vI c1]) rfl kq) ?_
 refine s_iload X2 hx (hb hby dC5_15) rfl ?_
 refine s_sipush X2 hx (hb hby dC5_17) ?_
 show own_G p e below _ (T2.setTop (mkF m 20 #[vR b, vI 1, vR d, vI 1, vI 4, vI 1, vI c1] [(.int 255), (.int c1)]))
 refine own_st (fun tq kq => XS.icmpYes X2.here hx rfl (pc0 := 20) (pc' := 26) rfl (hb hby dC5_20) rfl (flt hl1).2.2.2 (by decide) (by decide) kq) ?_
 refine s_aloadN X2 hx (hb hby dC5_26) rfl rfl ?_
 refine s_iloadN X2 hx (hb hby dC5_27) rfl ?_
 refine s_iload X2 hx (hb hby dC5_28) rfl ?_
 show own_G p e below _ (T2.setTop (mkF m 30 #[vR b, vI 1, vR d, vI 1, vI 4, vI 1, vI c1] [(.int c1), (.int 1), (.ref d)]))
 refine own_st (fun tq kq => XS.i2b X2.here hx rfl (hb hby dC5_30) rfl kq) ?_
 obtain ⟨cl4, Ar4, q4, S_4, N_4, H_4, G_4⟩ := id V2
 have in4 : ¬ ((1 : Int32) < 0 ∨ cl4.slots.size ≤ ((1 : Int32)).toNatClampNeg) := inb_of S_4 ⟨by decide, by decide⟩
 obtain ⟨T4, h4, X4, e4, W4, st4⟩ := stB X2 hx hZ e2 Ar4 (j := (1 : Int32)) in4 (g := (mkF m 31 #[vR b, vI 1, vR d, vI 1, vI 4, vI 1, vI c1] [(.int (c1.toInt8.toInt32)), (.int 1), (.ref d)])) rfl rfl (hb hby dC5_31)
 have V4 := Arv.set Ar4 q4 S_4 N_4 H_4 G_4 (fits_nar_byte _) W4 1 rfl (Nat.le_of_ble_eq_true rfl)
 have sz4 : h2.size ≤ h4.size := (Keep.of_wr W4).1
 have K4 : Keep h0 h4 [d] := K2.wr W4 (Or.inl (by simp))
 have N4 := Fr.snoc X4 N2 (own_le (by omega))
 refine own_st st4 ?_
 refine own_st (fun tq kq => XS.iinc X4.here hx rfl (hb hby dC5_32) rfl (l' := #[vR b, vI 2, vR d, vI 1, vI 4, vI 1, vI c1]) rfl kq) ?_
 refine own_st (fun tq kq => XS.iinc X4.here hx rfl (hb hby dC5_35) rfl (l' := #[vR b, vI 2, vR d, vI 2, vI 4, vI 1, vI c1]) rfl kq) ?_
 refine own_st (fun tq kq => XS.iinc X4.here hx rfl (hb hby dC5_38) rfl (l' := #[vR b, vI 2, vR d, vI 2, vI 4, vI 2, vI c1]) rfl kq) ?_
 refine own_st (fun tq kq => XS.goto X4.here hx rfl (pc0 := 41) (pc' := 3) rfl (hb hby dC5_41) (by decide) (by decide) kq) ?_
 show own_G p e below _ (T4.setTop (mkF m 3 #[vR b, vI 2, vR d, vI 2, vI 4, vI 2, vI c1] []))
 refine s_iload X4 hx (hb hby dC5_3) rfl ?_
 refine s_iload X4 hx (hb hby dC5_5) rfl ?_
 show own_G p e below _ (T4.setTop (mkF m 7 #[vR b, vI 2, vR d, vI 2, vI 4, vI 2, vI c1] [(.int 4), (.int 2)]))
 refine own_st (fun tq kq => XS.icmpNo X4.here hx rfl (hb hby dC5_7) rfl (tlt (by decide : ((2 : Int32) < (4 : Int32)))).2.1 kq) ?_
 refine s_aloadN X4 hx (hb hby dC5_10) rfl rfl ?_
 refine s_iloadN X4 hx (hb hby dC5_11) rfl ?_
 obtain ⟨cl5, Ar5, q5, S_5, N_5, H_5, G_5⟩ := id ((Vb.other W2 (own_ne (by omega))).other W4 (own_ne (by omega)))
 have in5 : ¬ ((2 : Int32) < 0 ∨ cl5.slots.size ≤ ((2 : Int32)).toNatClampNeg) := inb_of S_5 ⟨by decide, by decide⟩
 have at5 : cl5.slots[((2 : Int32)).toNatClampNeg]? = some (.int c2) := H_5.at in5 rfl
 refine own_st (fun tq kq => X4.caload hx (j := (2 : Int32)) (v := (.int c2)) (by rw [e4]; exact Ar5.1) (State.isArrayOf_alike hZ.alike Ar5.2.1) Ar5.2.2 in5 at5 (g := (mkF m 12 #[vR b, vI 2, vR d, vI 2, vI 4, vI 2, vI c1] [(.int 2), (.ref b)])) rfl rfl (hb hby dC5_12) _ kq) ?_
 show own_G p e below _ (T4.setTop (mkF m 13 #[vR b, vI 2, vR d, vI 2, vI 4, vI 2, vI c1] [(.int c2)]))
 refine own_st (fun tq kq => XS.istore X4.here hx rfl (hb hby dC5_13) rfl (l' := #[vR b, vI 2, vR d, vI 2, vI 4, vI 2, vI c2]) rfl kq) ?_
 refine s_iload X4 hx (hb hby dC5_15) rfl ?_
 refine s_sipush X4 hx (hb hby dC5_17) ?_
 show own_G p e below _ (T4.setTop (mkF m 20 #[vR b, vI 2, vR d, vI 2, vI 4, vI 2, vI c2] [(.int 255), (.int c2)]))
 refine own_st (fun tq kq => XS.icmpYes X4.here hx rfl (pc0 := 20) (pc' := 26) rfl (hb hby dC5_20) rfl (flt hl2).2.2.2 (by decide) (by decide) kq) ?_
 refine s_aloadN X4 hx (hb hby dC5_26) rfl rfl ?_
 refine s_iloadN X4 hx (hb hby dC5_27) rfl ?_
 refine s_iload X4 hx (hb hby dC5_28) rfl ?_
 show own_G p e below _ (T4.setTop (mkF m 30 #[vR b, vI 2, vR d, vI 2, vI 4, vI 2, vI c2] [(.int c2), (.int 2), (.ref d)]))
 refine own_st (fun tq kq => XS.i2b X4.here hx rfl (hb hby dC5_30) rfl kq) ?_
 obtain ⟨cl6, Ar6, q6, S_6, N_6, H_6, G_6⟩ := id V4
 have in6 : ¬ ((2 : Int32) < 0 ∨ cl6.slots.size ≤ ((2 : Int32)).toNatClampNeg) := inb_of S_6 ⟨by decide, by decide⟩
 obtain ⟨T6, h6, X6, e6, W6, st6⟩ := stB X4 hx hZ e4 Ar6 (j := (2 : Int32)) in6 (g := (mkF m 31 #[vR b, vI 2, vR d, vI 2, vI 4, vI 2, vI c2] [(.int (c2.toInt8.toInt32)), (.int 2), (.ref d)])) rfl rfl (hb hby dC5_31)
 have V6 := Arv.set Ar6 q6 S_6 N_6 H_6 G_6 (fits_nar_byte _) W6 2 rfl (Nat.le_of_ble_eq_true rfl)
 have sz6 : h4.size ≤ h6.size := (Keep.of_wr W6).1
 have K6 : Keep h0 h6 [d] := K4.wr W6 (Or.inl (by simp))
 have N6 := Fr.snoc X6 N4 (own_le (by omega))
 refine own_st st6 ?_
 refine own_st (fun tq kq => XS.iinc X6.here hx rfl (hb hby dC5_32) rfl (l' := #[vR b, vI 3, vR d, vI 2, vI 4, vI 2, vI c2]) rfl kq) ?_
 refine own_st (fun tq kq => XS.iinc X6.here hx rfl (hb hby dC5_35) rfl (l' := #[vR b, vI 3, vR d, vI 3, vI 4, vI 2, vI c2]) rfl kq) ?_
 refine own_st (fun tq kq => XS.iinc X6.here hx rfl (hb hby dC5_38) rfl (l' := #[vR b, vI 3, vR d, vI 3, vI 4, vI 3, vI c2]) rfl kq) ?_
 refine own_st (fun tq kq => XS.goto X6.here hx rfl (pc0 := 41) (pc' := 3) rfl (hb hby dC5_41) (by decide) (by decide) kq) ?_
 show own_G p e below _ (T6.setTop (mkF m 3 #[vR b, vI 3, vR d, vI 3, vI 4, vI 3, vI c2] []))
 refine s_iload X6 hx (hb hby dC5_3) rfl ?_
 refine s_iload X6 hx (hb hby dC5_5) rfl ?_
 show own_G p e below _ (T6.setTop (mkF m 7 #[vR b, vI 3, vR d, vI 3, vI 4, vI 3, vI c2] [(.int 4), (.int 3)]))
 refine own_st (fun tq kq => XS.icmpNo X6.here hx rfl (hb hby dC5_7) rfl (tlt (by decide : ((3 : Int32) < (4 : Int32)))).2.1 kq) ?_
 refine s_aloadN X6 hx (hb hby dC5_10) rfl rfl ?_
 refine s_iloadN X6 hx (hb hby dC5_11) rfl ?_
 obtain ⟨cl7, Ar7, q7, S_7, N_7, H_7, G_7⟩ := id (((Vb.other W2 (own_ne (by omega))).other W4 (own_ne (by omega))).other W6 (own_ne (by omega)))
 have in7 : ¬ ((3 : Int32) < 0 ∨ cl7.slots.size ≤ ((3 : Int32)).toNatClampNeg) := inb_of S_7 ⟨by decide, by decide⟩
 have at7 : cl7.slots[((3 : Int32)).toNatClampNeg]? = some (.int c3) := H_7.at in7 rfl
 refine own_st (fun tq kq => X6.caload hx (j := (3 : Int32)) (v := (.int c3)) (by rw [e6]; exact Ar7.1) (State.isArrayOf_alike hZ.alike Ar7.2.1) Ar7.2.2 in7 at7 (g := (mkF m 12 #[vR b, vI 3, vR d, vI 3, vI 4, vI 3, vI c2] [(.int 3), (.ref b)])) rfl rfl (hb hby dC5_12) _ kq) ?_
 show own_G p e below _ (T6.setTop (mkF m 13 #[vR b, vI 3, vR d, vI 3, vI 4, vI 3, vI c2] [(.int c3)]))
 refine own_st (fun tq kq => XS.istore X6.here hx rfl (hb hby dC5_13) rfl (l' := #[vR b, vI 3, vR d, vI 3, vI 4, vI 3, vI c3]) rfl kq) ?_
 refine s_iload X6 hx (hb hby dC5_15) rfl ?_
 refine s_sipush X6 hx (hb hby dC5_17) ?_
 show own_G p e below _ (T6.setTop (mkF m 20 #[vR b, vI 3, vR d, vI 3, vI 4, vI 3, vI c3] [(.int 255), (.int c3)]))
 refine own_st (fun tq kq => XS.icmpNo X6.here hx rfl (hb hby dC5_20) rfl (tlt hg).2.2.2 kq) ?_
 refine s_iload X6 hx (hb hby dC5_23) rfl ?_
 show own_G p e below _ (T6.setTop (mkF m 25 #[vR b, vI 3, vR d, vI 3, vI 4, vI 3, vI c3] [(.int 3)]))
 obtain ⟨fs, hr, hrun, hended, hW, hsame⟩ := X6.leave (v := some (.int 3)) (fun h => by rw [Bd.returns] at h; cases h)
 refine ⟨_, _, retOut X6 hx Bd.returns rfl (Or.inl ⟨rfl, by simp, _, rfl⟩) (hb hby dC5_25) hr, hrun, hended, _, _, rfl, ?_, ⟨_, rfl⟩, hW, hsame.mono (by decide) (by decide)⟩
 change Q_own_cm5_4_3 Z b d kC kD dv c0 c1 c2 c3 h0 n0 _ T6.heap _; rw [e6]; exact ⟨rfl, N6, K6⟩

def Q_own_cm3_4 (Z : State) (b : Nat) (kC : ClassId) (dv : Value) (c0 c1 c2 c3 : Int32) (h0 : Heap) (n0 : Nat) (v : Option Value) (h : Heap) (L : List Loc) : Prop := ∃ (t : Nat) (kb : ClassId), v = some (.ref t) ∧ Fr n0 L ∧ Keep h0 h [] ∧ h0.size ≤ t ∧ t < h.size ∧ Arv Z h t kb .byte (8 : Int32) [.int (L8 c0), .int (H8 c0), .int (L8 c1), .int (H8 c1), .int (L8 c2), .int (H8 c2), .int (L8 c3), .int (H8 c3)] (.int 0)
theorem ef_own_cm3_4 (m : MethodId) (x0 : Nat) : entryFrame m #[(.ref x0), (.int 0), (.int 4)] 6 = mkF m 0 #[.val (.ref x0), .val (.int 0), .val (.int 4), .unset, .unset, .unset] [] := by first | (simp [entryFrame, mkF, argsToLocals, Value.category]; done) | rfl
theorem own_cm3_4 (l : Launch) (Z : State) (a0 : Array Value) (hw : hWt a0 Z) (ws : List Jvm.Cond) (b : Nat) (kC : ClassId) (dv : Value) (c0 c1 c2 c3 : Int32) (h0 : Heap) (n0 : Nat) (Z0 : n0 ≤ h0.size) (X00 : Old Z n0 h0) (OA : oA Z) (OH : oH Z) (OL : oL Z) (Vb : Arv Z h0 b kC .char (4 : Int32) [.int c0, .int c1, .int c2, .int c3] dv) (hb0 : ¬ c0 < 0 ∧ ¬ (65535 : Int32) < c0) (hb1 : ¬ c1 < 0 ∧ ¬ (65535 : Int32) < c1) (hb2 : ¬ c2 < 0 ∧ ¬ (65535 : Int32) < c2) (hb3 : ¬ c3 < 0 ∧ ¬ (65535 : Int32) < c3) (hD : ((255 : Int32) < c0) ∨ (¬ (255 : Int32) < c0 ∧ (255 : Int32) < c1) ∨ (¬ (255 : Int32) < c0 ∧ ¬ (255 : Int32) < c1 ∧ (255 : Int32) < c2) ∨ (¬ (255 : Int32) < c0 ∧ ¬ (255 : Int32) < c1 ∧ ¬ (255 : Int32) < c2 ∧ (255 : Int32) < c3)) :
    MetFree l mN10 (head1 (Jvm.Cond.code mN10 jdk_52_method_16_code 6 (some (.array .byte)) :: ws) rm_3_2_12_70) (fun av_ U => av_ = #[(.ref b), (.int 0), (.int 4)] ∧ Z.Warmed39 U.vm ∧ U.heap = h0) (fun _ _ _ _ _ => True) (own_EN (Q_own_cm3_4 Z b kC dv c0 c1 c2 c3 h0 n0) rm_3_2_12_70) := by
 refine MetFree.of_bodySF (plainFor_of_name own_pn1) hisR ?_
 intro p e s m args below meth c s₁ Bd hml0 hP hK
 obtain ⟨rfl, hZ, hh⟩ := hP
 have hx := Bd.exec
 have hby := Bd.bytes
 have hml : c.maxLocals = 6 := hml0
 have hown : s.vm.findClass "java/lang/StringUTF16" = some m.cls := findClass_of_methodNamed Bd.named
 have X0 : Stand p l e rm_3_2_12_70 s m _ below meth c s₁ [] 0 0 := Stand.of_body Bd
 have e0 : s₁.heap = h0 := by rw [← hh, Bd.state]; rfl
 have N0 := Fr.nil n0
 have K0 : Keep h0 h0 [] := Keep.refl h0 []
 refine show own_G p e below (own_EN (Q_own_cm3_4 Z b kC dv c0 c1 c2 c3 h0 n0) rm_3_2_12_70 #[(.ref b), (.int 0), (.int 4)] s) _ from ?_
 refine own_st (fun tq kq => castTop (ef_own_cm3_4 m (b)) kq) ?_
 show own_G p e below _ (s₁.setTop (mkF m 0 #[vR b, vI 0, vI 4, .unset, .unset, .unset] []))
 have ltb : b < h0.size := Vb.lt
 rcases hD with hg | ⟨hl0, hg⟩ | ⟨hl0, hl1, hg⟩ | ⟨hl0, hl1, hl2, hg⟩
 ·
  refine s_iloadN X0 hx (hb hby dC3_0) rfl ?_
  obtain ⟨T1, h1, k1, X1, e1, E1, A1, st1⟩ := newP X0 hx hZ (hw _ (List.mem_of_getElem? (i := 16) rfl)) e0 (g := (mkF m 1 #[vR b, vI 0, vI 4, .unset, .unset, .unset] [(.int 4)])) rfl (hb hby dC3_1) rfl (by decide) (cap := 4) (by decide) (by decide) (by decide) (by decide)
  obtain ⟨b1, g1⟩ : ∃ z, z = h0.size := ⟨_, rfl⟩
  rw [← g1] at A1 st1
  have lt1 : b1 < h1.size := A1.lt
  have V1 : Arv Z h1 b1 k1 .byte (4 : Int32) [(.int (0 : Int32)), (.int (0 : Int32)), (.int (0 : Int32)), (.int (0 : Int32))] (.int (0 : Int32)) := (Arv.new A1 (by decide)).pad (pad_rep [] (.int (0 : Int32)) 4)
  have sz1 : h0.size ≤ h1.size := E1.1
  have K1 : Keep h0 h1 [] := K0.ext E1
  refine own_st st1 ?_
  refine own_st (fun tq kq => XS.astoreN X1.here hx rfl (hb hby dC3_3) rfl rfl (l' := #[vR b, vI 0, vI 4, vR b1, .unset, .unset]) rfl kq) ?_
  refine s_aloadN X1 hx (hb hby dC3_4) rfl rfl ?_
  refine s_iloadN X1 hx (hb hby dC3_5) rfl ?_
  refine s_aloadN X1 hx (hb hby dC3_6) rfl rfl ?_
  show own_G p e below _ (T1.setTop (mkF m 7 #[vR b, vI 0, vI 4, vR b1, .unset, .unset] [(.ref b1), (.int 0), (.ref b)]))
  refine s_iconst X1 hx (hb hby dC3_7) ?_
  refine s_iloadN X1 hx (hb hby dC3_8) rfl ?_
  obtain ⟨_, _, ⟨T2, L2, k2, n2⟩, -, X2, ⟨Lc2, hQ2, l2, y2, z2⟩, st2⟩ := Jvm.LawKit.callS X1 hx (y := mN9) hown (mvT hZ (wd42 hw)) (mvT hZ (wd43 hw)) (mvT hZ (wd40 hw)) (mvT hZ (wd44 hw)) (by decide) (own_backN (W := 0) (own_cm5_4_0 l Z a0 hw [] (b) (b1) (kC) (k1) (dv) (c0) (c1) (c2) (c3) h1 n0 (by omega) (X00.keep K1 all0) (Vb.ext E1) V1 (by omega) (own_ne (by omega)) hg) hZ (wd44 hw) (wd40 hw) (by decide) (by decide)) (g := (mkF m 9 #[vR b, vI 0, vI 4, vR b1, .unset, .unset] [(.int 4), (.int 0), (.ref b1), (.int 0), (.ref b)])) rfl (by rw [hml]; rfl) (argsL := [(.ref b), (.int 0), (.ref b1), (.int 0), (.int 4)]) (rest := []) (lenOf own_pd4 rfl) rfl (Nat.le_of_eq rfl) (hb hby dC3_9) (fun _ _ => ⟨rfl, e1, (by decide : 1 + 0 ≤ _), (by decide : 4 + 0 ≤ _)⟩)
  dsimp only [Pt.U, Pt.locs, Pt.cells, Pt.slots] at X2 l2 y2 z2 st2 hQ2
  subst l2 y2 z2
  obtain ⟨rfl, Nq2, Kq2⟩ := hQ2
  have KK2 : Keep h1 T2.heap [b1] := Kq2
  have sz2 : h1.size ≤ T2.heap.size := KK2.1
  have K2 : Keep h0 T2.heap [] := K1.trans KK2 (allS (Or.inr (own_le (by omega))) all0)
  have N2 := Fr.app N0 Nq2
  refine own_st st2 ?_
  refine own_st (fun tq kq => XS.istore X2.here hx rfl (hb hby dC3_12) rfl (l' := #[vR b, vI 0, vI 4, vR b1, vI 0, .unset]) rfl kq) ?_
  refine s_iload X2 hx (hb hby dC3_14) rfl ?_
  refine s_iloadN X2 hx (hb hby dC3_16) rfl ?_
  show own_G p e below _ (T2.setTop (mkF m 17 #[vR b, vI 0, vI 4, vR b1, vI 0, .unset] [(.int 4), (.int 0)]))
  refine own_st (fun tq kq => XS.icmpNo X2.here hx rfl (hb hby dC3_17) rfl (feq (by decide : ¬ ((0 : Int32) = (4 : Int32)))).1 kq) ?_
  refine s_aloadN X2 hx (hb hby dC3_20) rfl rfl ?_
  refine s_iloadN X2 hx (hb hby dC3_21) rfl ?_
  refine s_iloadN X2 hx (hb hby dC3_22) rfl ?_
  show own_G p e below _ (T2.setTop (mkF m 23 #[vR b, vI 0, vI 4, vR b1, vI 0, .unset] [(.int 4), (.int 0), (.ref b)]))
  obtain ⟨_, _, ⟨T3, L3, k3, n3⟩, -, X3, ⟨Lc3, hQ3, l3, y3, z3⟩, st3⟩ := Jvm.LawKit.callS X2 hx (y := mN7) hown (mvT hZ (wd74 hw)) (mvT hZ (wd75 hw)) (mvT hZ (wd40 hw)) (mvT hZ (wd76 hw)) (by decide) (own_backN (W := 0) (own_toB4 l Z a0 hw [] (b) (kC) (dv) (c0) (c1) (c2) (c3) T2.heap n0 (by omega) (X00.keep K2 all0) OA OH OL ((Vb.ext E1).keep KK2 (ninS (own_ne (by omega)) nin0))) hZ (wd76 hw) (wd40 hw) (by decide) (by decide)) (g := (mkF m 23 #[vR b, vI 0, vI 4, vR b1, vI 0, .unset] [(.int 4), (.int 0), (.ref b)])) rfl (by rw [hml]; rfl) (argsL := [(.ref b), (.int 0), (.int 4)]) (rest := []) (lenOf own_pd5 rfl) rfl (Nat.le_of_eq rfl) (hb hby dC3_23) (fun _ _ => ⟨rfl, rfl, (by decide : 1 + 1 ≤ _), (by decide : 4 + 8 ≤ _)⟩)
  dsimp only [Pt.U, Pt.locs, Pt.cells, Pt.slots] at X3 l3 y3 z3 st3 hQ3
  subst l3 y3 z3
  obtain ⟨t3, kb3, rfl, Nq3, Kq3, gt3, lt3, Vt3⟩ := hQ3
  have KK3 : Keep T2.heap T3.heap [] := Kq3
  have sz3 : T2.heap.size ≤ T3.heap.size := KK3.1
  have K3 : Keep h0 T3.heap [] := K2.trans KK3 all0
  have N3 := Fr.app N2 Nq3
  refine own_st st3 ?_
  refine own_st (fun tq kq => XS.astore X3.here hx rfl (hb hby dC3_26) rfl rfl (l' := #[vR b, vI 0, vI 4, vR b1, vI 0, vR t3]) rfl kq) ?_
  refine s_aload X3 hx (hb hby dC3_28) rfl rfl ?_
  refine s_iload X3 hx (hb hby dC3_30) rfl ?_
  obtain ⟨_, _, ⟨T4, L4, k4, n4⟩, -, X4, ⟨Lc4, hQ4, l4, y4, z4⟩, st4⟩ := Jvm.LawKit.callS X3 hx (y := mN2) hown (mvT hZ (wd90 hw)) (mvT hZ (wd91 hw)) (mvT hZ (wd40 hw)) (mvT hZ (wd92 hw)) (by decide) (own_backN (W := 0) (own_get_0 l Z a0 hw [] (t3) (_) (_) (_) (_) (_) T3.heap n0 (by omega) (X00.keep K3 all0) OA OH OL Vt3 (by decide) (by decide) rfl rfl) hZ (wd92 hw) (wd40 hw) (by decide) (by decide)) (g := (mkF m 32 #[vR b, vI 0, vI 4, vR b1, vI 0, vR t3] [(.int 0), (.ref t3)])) rfl (by rw [hml]; rfl) (argsL := [(.ref t3), (.int 0)]) (rest := []) (lenOf own_pd6 rfl) rfl (Nat.le_of_eq rfl) (hb hby dC3_32) (fun _ _ => ⟨rfl, rfl, (by decide : 2 + 0 ≤ _), (by decide : 12 + 0 ≤ _)⟩)
  dsimp only [Pt.U, Pt.locs, Pt.cells, Pt.slots] at X4 l4 y4 z4 st4 hQ4
  subst l4 y4 z4
  obtain ⟨rfl, Nq4, sm4⟩ := hQ4
  have N4 := Fr.app N3 Nq4
  refine own_st st4 ?_
  refine s_sipush X4 hx (hb hby dC3_35) ?_
  show own_G p e below _ (T4.setTop (mkF m 38 #[vR b, vI 0, vI 4, vR b1, vI 0, vR t3] [(.int 255), (.int (StrChars.pairCh (L8 c0) (H8 c0)))]))
  refine own_st (fun tq kq => XS.icmpYes X4.here hx rfl (pc0 := 38) (pc' := 54) rfl (hb hby dC3_38) rfl (tlt (by rw [StrChars.pair_says hb0.1 hb0.2]; exact hg)).2.2.1 (by decide) (by decide) kq) ?_
  refine s_aload X4 hx (hb hby dC3_54) rfl rfl ?_
  show own_G p e below _ (T4.setTop (mkF m 56 #[vR b, vI 0, vI 4, vR b1, vI 0, vR t3] [(.ref t3)]))
  obtain ⟨fs, hr, hrun, hended, hW, hsame⟩ := X4.leave (v := some (.ref t3)) (fun h => by rw [Bd.returns] at h; cases h)
  refine ⟨_, _, retOut X4 hx Bd.returns rfl (Or.inr (Or.inr (Or.inr (Or.inr ⟨rfl, rfl, rfl⟩)))) (hb hby dC3_56) hr, hrun, hended, _, _, rfl, ?_, ⟨_, rfl⟩, hW, hsame.mono (by decide) (by decide)⟩
  change Q_own_cm3_4 Z b kC dv c0 c1 c2 c3 h0 n0 _ T4.heap _; rw [sm4]; exact ⟨t3, _, rfl, N4, K3, (by omega), Vt3.lt, Vt3⟩
 ·
  refine s_iloadN X0 hx (hb hby dC3_0) rfl ?_
  obtain ⟨T5, h5, k5, X5, e5, E5, A5, st5⟩ := newP X0 hx hZ (hw _ (List.mem_of_getElem? (i := 16) rfl)) e0 (g := (mkF m 1 #[vR b, vI 0, vI 4, .unset, .unset, .unset] [(.int 4)])) rfl (hb hby dC3_1) rfl (by decide) (cap := 4) (by decide) (by decide) (by decide) (by decide)
  obtain ⟨b5, g5⟩ : ∃ z, z = h0.size := ⟨_, rfl⟩
  rw [← g5] at A5 st5
  have lt5 : b5 < h5.size := A5.lt
  have V5 : Arv Z h5 b5 k5 .byte (4 : Int32) [(.int (0 : Int32)), (.int (0 : Int32)), (.int (0 : Int32)), (.int (0 : Int32))] (.int (0 : Int32)) := (Arv.new A5 (by decide)).pad (pad_rep [] (.int (0 : Int32)) 4)
  have sz5 : h0.size ≤ h5.size := E5.1
  have K5 : Keep h0 h5 [] := K0.ext E5
  refine own_st st5 ?_
  refine own_st (fun tq kq => XS.astoreN X5.here hx rfl (hb hby dC3_3) rfl rfl (l' := #[vR b, vI 0, vI 4, vR b5, .unset, .unset]) rfl kq) ?_
  refine s_aloadN X5 hx (hb hby dC3_4) rfl rfl ?_
  refine s_iloadN X5 hx (hb hby dC3_5) rfl ?_
  refine s_aloadN X5 hx (hb hby dC3_6) rfl rfl ?_
  show own_G p e below _ (T5.setTop (mkF m 7 #[vR b, vI 0, vI 4, vR b5, .unset, .unset] [(.ref b5), (.int 0), (.ref b)]))
  refine s_iconst X5 hx (hb hby dC3_7) ?_
  refine s_iloadN X5 hx (hb hby dC3_8) rfl ?_
  obtain ⟨_, _, ⟨T6, L6, k6, n6⟩, -, X6, ⟨Lc6, hQ6, l6, y6, z6⟩, st6⟩ := Jvm.LawKit.callS X5 hx (y := mN9) hown (mvT hZ (wd42 hw)) (mvT hZ (wd43 hw)) (mvT hZ (wd40 hw)) (mvT hZ (wd44 hw)) (by decide) (own_backN (W := 0) (own_cm5_4_1 l Z a0 hw [] (b) (b5) (kC) (k5) (dv) (c0) (c1) (c2) (c3) h5 n0 (by omega) (X00.keep K5 all0) (Vb.ext E5) V5 (by omega) (own_ne (by omega)) hl0 hg) hZ (wd44 hw) (wd40 hw) (by decide) (by decide)) (g := (mkF m 9 #[vR b, vI 0, vI 4, vR b5, .unset, .unset] [(.int 4), (.int 0), (.ref b5), (.int 0), (.ref b)])) rfl (by rw [hml]; rfl) (argsL := [(.ref b), (.int 0), (.ref b5), (.int 0), (.int 4)]) (rest := []) (lenOf own_pd4 rfl) rfl (Nat.le_of_eq rfl) (hb hby dC3_9) (fun _ _ => ⟨rfl, e5, (by decide : 1 + 0 ≤ _), (by decide : 4 + 0 ≤ _)⟩)
  dsimp only [Pt.U, Pt.locs, Pt.cells, Pt.slots] at X6 l6 y6 z6 st6 hQ6
  subst l6 y6 z6
  obtain ⟨rfl, Nq6, Kq6⟩ := hQ6
  have KK6 : Keep h5 T6.heap [b5] := Kq6
  have sz6 : h5.size ≤ T6.heap.size := KK6.1
  have K6 : Keep h0 T6.heap [] := K5.trans KK6 (allS (Or.inr (own_le (by omega))) all0)
  have N6 := Fr.app N0 Nq6
  refine own_st st6 ?_
  refine own_st (fun tq kq => XS.istore X6.here hx rfl (hb hby dC3_12) rfl (l' := #[vR b, vI 0, vI 4, vR b5, vI 1, .unset]) rfl kq) ?_
  refine s_iload X6 hx (hb hby dC3_14) rfl ?_
  refine s_iloadN X6 hx (hb hby dC3_16) rfl ?_
  show own_G p e below _ (T6.setTop (mkF m 17 #[vR b, vI 0, vI 4, vR b5, vI 1, .unset] [(.int 4), (.int 1)]))
  refine own_st (fun tq kq => XS.icmpNo X6.here hx rfl (hb hby dC3_17) rfl (feq (by decide : ¬ ((1 : Int32) = (4 : Int32)))).1 kq) ?_
  refine s_aloadN X6 hx (hb hby dC3_20) rfl rfl ?_
  refine s_iloadN X6 hx (hb hby dC3_21) rfl ?_
  refine s_iloadN X6 hx (hb hby dC3_22) rfl ?_
  show own_G p e below _ (T6.setTop (mkF m 23 #[vR b, vI 0, vI 4, vR b5, vI 1, .unset] [(.int 4), (.int 0), (.ref b)]))
  obtain ⟨_, _, ⟨T7, L7, k7, n7⟩, -, X7, ⟨Lc7, hQ7, l7, y7, z7⟩, st7⟩ := Jvm.LawKit.callS X6 hx (y := mN7) hown (mvT hZ (wd74 hw)) (mvT hZ (wd75 hw)) (mvT hZ (wd40 hw)) (mvT hZ (wd76 hw)) (by decide) (own_backN (W := 0) (own_toB4 l Z a0 hw [] (b) (kC) (dv) (c0) (c1) (c2) (c3) T6.heap n0 (by omega) (X00.keep K6 all0) OA OH OL ((Vb.ext E5).keep KK6 (ninS (own_ne (by omega)) nin0))) hZ (wd76 hw) (wd40 hw) (by decide) (by decide)) (g := (mkF m 23 #[vR b, vI 0, vI 4, vR b5, vI 1, .unset] [(.int 4), (.int 0), (.ref b)])) rfl (by rw [hml]; rfl) (argsL := [(.ref b), (.int 0), (.int 4)]) (rest := []) (lenOf own_pd5 rfl) rfl (Nat.le_of_eq rfl) (hb hby dC3_23) (fun _ _ => ⟨rfl, rfl, (by decide : 1 + 1 ≤ _), (by decide : 4 + 8 ≤ _)⟩)
  dsimp only [Pt.U, Pt.locs, Pt.cells, Pt.slots] at X7 l7 y7 z7 st7 hQ7
  subst l7 y7 z7
  obtain ⟨t7, kb7, rfl, Nq7, Kq7, gt7, lt7, Vt7⟩ := hQ7
  have KK7 : Keep T6.heap T7.heap [] := Kq7
  have sz7 : T6.heap.size ≤ T7.heap.size := KK7.1
  have K7 : Keep h0 T7.heap [] := K6.trans KK7 all0
  have N7 := Fr.app N6 Nq7
  refine own_st st7 ?_
  refine own_st (fun tq kq => XS.astore X7.here hx rfl (hb hby dC3_26) rfl rfl (l' := #[vR b, vI 0, vI 4, vR b5, vI 1, vR t7]) rfl kq) ?_
  refine s_aload X7 hx (hb hby dC3_28) rfl rfl ?_
  refine s_iload X7 hx (hb hby dC3_30) rfl ?_
  obtain ⟨_, _, ⟨T8, L8, k8, n8⟩, -, X8, ⟨Lc8, hQ8, l8, y8, z8⟩, st8⟩ := Jvm.LawKit.callS X7 hx (y := mN2) hown (mvT hZ (wd90 hw)) (mvT hZ (wd91 hw)) (mvT hZ (wd40 hw)) (mvT hZ (wd92 hw)) (by decide) (own_backN (W := 0) (own_get_1 l Z a0 hw [] (t7) (_) (_) (_) (_) (_) T7.heap n0 (by omega) (X00.keep K7 all0) OA OH OL Vt7 (by decide) (by decide) rfl rfl) hZ (wd92 hw) (wd40 hw) (by decide) (by decide)) (g := (mkF m 32 #[vR b, vI 0, vI 4, vR b5, vI 1, vR t7] [(.int 1), (.ref t7)])) rfl (by rw [hml]; rfl) (argsL := [(.ref t7), (.int 1)]) (rest := []) (lenOf own_pd6 rfl) rfl (Nat.le_of_eq rfl) (hb hby dC3_32) (fun _ _ => ⟨rfl, rfl, (by decide : 2 + 0 ≤ _), (by decide : 12 + 0 ≤ _)⟩)
  dsimp only [Pt.U, Pt.locs, Pt.cells, Pt.slots] at X8 l8 y8 z8 st8 hQ8
  subst l8 y8 z8
  obtain ⟨rfl, Nq8, sm8⟩ := hQ8
  have N8 := Fr.app N7 Nq8
  refine own_st st8 ?_
  refine s_sipush X8 hx (hb hby dC3_35) ?_
  show own_G p e below _ (T8.setTop (mkF m 38 #[vR b, vI 0, vI 4, vR b5, vI 1, vR t7] [(.int 255), (.int (StrChars.pairCh (L8 c1) (H8 c1)))]))
  refine own_st (fun tq kq => XS.icmpYes X8.here hx rfl (pc0 := 38) (pc' := 54) rfl (hb hby dC3_38) rfl (tlt (by rw [StrChars.pair_says hb1.1 hb1.2]; exact hg)).2.2.1 (by decide) (by decide) kq) ?_
  refine s_aload X8 hx (hb hby dC3_54) rfl rfl ?_
  show own_G p e below _ (T8.setTop (mkF m 56 #[vR b, vI 0, vI 4, vR b5, vI 1, vR t7] [(.ref t7)]))
  obtain ⟨fs, hr, hrun, hended, hW, hsame⟩ := X8.leave (v := some (.ref t7)) (fun h => by rw [Bd.returns] at h; cases h)
  refine ⟨_, _, retOut X8 hx Bd.returns rfl (Or.inr (Or.inr (Or.inr (Or.inr ⟨rfl, rfl, rfl⟩)))) (hb hby dC3_56) hr, hrun, hended, _, _, rfl, ?_, ⟨_, rfl⟩, hW, hsame.mono (by decide) (by decide)⟩
  change Q_own_cm3_4 Z b kC dv c0 c1 c2 c3 h0 n0 _ T8.heap _; rw [sm8]; exact ⟨t7, _, rfl, N8, K7, (by omega), Vt7.lt, Vt7⟩
 ·
  refine s_iloadN X0 hx (hb hby dC3_0) rfl ?_
  obtain ⟨T9, h9, k9, X9, e9, E9, A9, st9⟩ := newP X0 hx hZ (hw _ (List.mem_of_getElem? (i := 16) rfl)) e0 (g := (mkF m 1 #[vR b, vI 0, vI 4, .unset, .unset, .unset] [(.int 4)])) rfl (hb hby dC3_1) rfl (by decide) (cap := 4) (by decide) (by decide) (by decide) (by decide)
  obtain ⟨b9, g9⟩ : ∃ z, z = h0.size := ⟨_, rfl⟩
  rw [← g9] at A9 st9
  have lt9 : b9 < h9.size := A9.lt
  have V9 : Arv Z h9 b9 k9 .byte (4 : Int32) [(.int (0 : Int32)), (.int (0 : Int32)), (.int (0 : Int32)), (.int (0 : Int32))] (.int (0 : Int32)) := (Arv.new A9 (by decide)).pad (pad_rep [] (.int (0 : Int32)) 4)
  have sz9 : h0.size ≤ h9.size := E9.1
  have K9 : Keep h0 h9 [] := K0.ext E9
  refine own_st st9 ?_
  refine own_st (fun tq kq => XS.astoreN X9.here hx rfl (hb hby dC3_3) rfl rfl (l' := #[vR b, vI 0, vI 4, vR b9, .unset, .unset]) rfl kq) ?_
  refine s_aloadN X9 hx (hb hby dC3_4) rfl rfl ?_
  refine s_iloadN X9 hx (hb hby dC3_5) rfl ?_
  refine s_aloadN X9 hx (hb hby dC3_6) rfl rfl ?_
  show own_G p e below _ (T9.setTop (mkF m 7 #[vR b, vI 0, vI 4, vR b9, .unset, .unset] [(.ref b9), (.int 0), (.ref b)]))
  refine s_iconst X9 hx (hb hby dC3_7) ?_
  refine s_iloadN X9 hx (hb hby dC3_8) rfl ?_
  obtain ⟨_, _, ⟨T10, L10, k10, n10⟩, -, X10, ⟨Lc10, hQ10, l10, y10, z10⟩, st10⟩ := Jvm.LawKit.callS X9 hx (y := mN9) hown (mvT hZ (wd42 hw)) (mvT hZ (wd43 hw)) (mvT hZ (wd40 hw)) (mvT hZ (wd44 hw)) (by decide) (own_backN (W := 0) (own_cm5_4_2 l Z a0 hw [] (b) (b9) (kC) (k9) (dv) (c0) (c1) (c2) (c3) h9 n0 (by omega) (X00.keep K9 all0) (Vb.ext E9) V9 (by omega) (own_ne (by omega)) hl0 hl1 hg) hZ (wd44 hw) (wd40 hw) (by decide) (by decide)) (g := (mkF m 9 #[vR b, vI 0, vI 4, vR b9, .unset, .unset] [(.int 4), (.int 0), (.ref b9), (.int 0), (.ref b)])) rfl (by rw [hml]; rfl) (argsL := [(.ref b), (.int 0), (.ref b9), (.int 0), (.int 4)]) (rest := []) (lenOf own_pd4 rfl) rfl (Nat.le_of_eq rfl) (hb hby dC3_9) (fun _ _ => ⟨rfl, e9, (by decide : 1 + 0 ≤ _), (by decide : 4 + 0 ≤ _)⟩)
  dsimp only [Pt.U, Pt.locs, Pt.cells, Pt.slots] at X10 l10 y10 z10 st10 hQ10
  subst l10 y10 z10
  obtain ⟨rfl, Nq10, Kq10⟩ := hQ10
  have KK10 : Keep h9 T10.heap [b9] := Kq10
  have sz10 : h9.size ≤ T10.heap.size := KK10.1
  have K10 : Keep h0 T10.heap [] := K9.trans KK10 (allS (Or.inr (own_le (by omega))) all0)
  have N10 := Fr.app N0 Nq10
  refine own_st st10 ?_
  refine own_st (fun tq kq => XS.istore X10.here hx rfl (hb hby dC3_12) rfl (l' := #[vR b, vI 0, vI 4, vR b9, vI 2, .unset]) rfl kq) ?_
  refine s_iload X10 hx (hb hby dC3_14) rfl ?_
  refine s_iloadN X10 hx (hb hby dC3_16) rfl ?_
  show own_G p e below _ (T10.setTop (mkF m 17 #[vR b, vI 0, vI 4, vR b9, vI 2, .unset] [(.int 4), (.int 2)]))
  refine own_st (fun tq kq => XS.icmpNo X10.here hx rfl (hb hby dC3_17) rfl (feq (by decide : ¬ ((2 : Int32) = (4 : Int32)))).1 kq) ?_
  refine s_aloadN X10 hx (hb hby dC3_20) rfl rfl ?_
  refine s_iloadN X10 hx (hb hby dC3_21) rfl ?_
  refine s_iloadN X10 hx (hb hby dC3_22) rfl ?_
  show own_G p e below _ (T10.setTop (mkF m 23 #[vR b, vI 0, vI 4, vR b9, vI 2, .unset] [(.int 4), (.int 0), (.ref b)]))
  obtain ⟨_, _, ⟨T11, L11, k11, n11⟩, -, X11, ⟨Lc11, hQ11, l11, y11, z11⟩, st11⟩ := Jvm.LawKit.callS X10 hx (y := mN7) hown (mvT hZ (wd74 hw)) (mvT hZ (wd75 hw)) (mvT hZ (wd40 hw)) (mvT hZ (wd76 hw)) (by decide) (own_backN (W := 0) (own_toB4 l Z a0 hw [] (b) (kC) (dv) (c0) (c1) (c2) (c3) T10.heap n0 (by omega) (X00.keep K10 all0) OA OH OL ((Vb.ext E9).keep KK10 (ninS (own_ne (by omega)) nin0))) hZ (wd76 hw) (wd40 hw) (by decide) (by decide)) (g := (mkF m 23 #[vR b, vI 0, vI 4, vR b9, vI 2, .unset] [(.int 4), (.int 0), (.ref b)])) rfl (by rw [hml]; rfl) (argsL := [(.ref b), (.int 0), (.int 4)]) (rest := []) (lenOf own_pd5 rfl) rfl (Nat.le_of_eq rfl) (hb hby dC3_23) (fun _ _ => ⟨rfl, rfl, (by decide : 1 + 1 ≤ _), (by decide : 4 + 8 ≤ _)⟩)
  dsimp only [Pt.U, Pt.locs, Pt.cells, Pt.slots] at X11 l11 y11 z11 st11 hQ11
  subst l11 y11 z11
  obtain ⟨t11, kb11, rfl, Nq11, Kq11, gt11, lt11, Vt11⟩ := hQ11
  have KK11 : Keep T10.heap T11.heap [] := Kq11
  have sz11 : T10.heap.size ≤ T11.heap.size := KK11.1
  have K11 : Keep h0 T11.heap [] := K10.trans KK11 all0
  have N11 := Fr.app N10 Nq11
  refine own_st st11 ?_
  refine own_st (fun tq kq => XS.astore X11.here hx rfl (hb hby dC3_26) rfl rfl (l' := #[vR b, vI 0, vI 4, vR b9, vI 2, vR t11]) rfl kq) ?_
  refine s_aload X11 hx (hb hby dC3_28) rfl rfl ?_
  refine s_iload X11 hx (hb hby dC3_30) rfl ?_
  obtain ⟨_, _, ⟨T12, L12, k12, n12⟩, -, X12, ⟨Lc12, hQ12, l12, y12, z12⟩, st12⟩ := Jvm.LawKit.callS X11 hx (y := mN2) hown (mvT hZ (wd90 hw)) (mvT hZ (wd91 hw)) (mvT hZ (wd40 hw)) (mvT hZ (wd92 hw)) (by decide) (own_backN (W := 0) (own_get_2 l Z a0 hw [] (t11) (_) (_) (_) (_) (_) T11.heap n0 (by omega) (X00.keep K11 all0) OA OH OL Vt11 (by decide) (by decide) rfl rfl) hZ (wd92 hw) (wd40 hw) (by decide) (by decide)) (g := (mkF m 32 #[vR b, vI 0, vI 4, vR b9, vI 2, vR t11] [(.int 2), (.ref t11)])) rfl (by rw [hml]; rfl) (argsL := [(.ref t11), (.int 2)]) (rest := []) (lenOf own_pd6 rfl) rfl (Nat.le_of_eq rfl) (hb hby dC3_32) (fun _ _ => ⟨rfl, rfl, (by decide : 2 + 0 ≤ _), (by decide : 12 + 0 ≤ _)⟩)
  dsimp only [Pt.U, Pt.locs, Pt.cells, Pt.slots] at X12 l12 y12 z12 st12 hQ12
  subst l12 y12 z12
  obtain ⟨rfl, Nq12, sm12⟩ := hQ12
  have N12 := Fr.app N11 Nq12
  refine own_st st12 ?_
  refine s_sipush X12 hx (hb hby dC3_35) ?_
  show own_G p e below _ (T12.setTop (mkF m 38 #[vR b, vI 0, vI 4, vR b9, vI 2, vR t11] [(.int 255), (.int (StrChars.pairCh (L8 c2) (H8 c2)))]))
  refine own_st (fun tq kq => XS.icmpYes X12.here hx rfl (pc0 := 38) (pc' := 54) rfl (hb hby dC3_38) rfl (tlt (by rw [StrChars.pair_says hb2.1 hb2.2]; exact hg)).2.2.1 (by decide) (by decide) kq) ?_
  refine s_aload X12 hx (hb hby dC3_54) rfl rfl ?_
  show own_G p e below _ (T12.setTop (mkF m 56 #[vR b, vI 0, vI 4, vR b9, vI 2, vR t11] [(.ref t11)]))
  obtain ⟨fs, hr, hrun, hended, hW, hsame⟩ := X12.leave (v := some (.ref t11)) (fun h => by rw [Bd.returns] at h; cases h)
  refine ⟨_, _, retOut X12 hx Bd.returns rfl (Or.inr (Or.inr (Or.inr (Or.inr ⟨rfl, rfl, rfl⟩)))) (hb hby dC3_56) hr, hrun, hended, _, _, rfl, ?_, ⟨_, rfl⟩, hW, hsame.mono (by decide) (by decide)⟩
  change Q_own_cm3_4 Z b kC dv c0 c1 c2 c3 h0 n0 _ T12.heap _; rw [sm12]; exact ⟨t11, _, rfl, N12, K11, (by omega), Vt11.lt, Vt11⟩
 ·
  refine s_iloadN X0 hx (hb hby dC3_0) rfl ?_
  obtain ⟨T13, h13, k13, X13, e13, E13, A13, st13⟩ := newP X0 hx hZ (hw _ (List.mem_of_getElem? (i := 16) rfl)) e0 (g := (mkF m 1 #[vR b, vI 0, vI 4, .unset, .unset, .unset] [(.int 4)])) rfl (hb hby dC3_1) rfl (by decide) (cap := 4) (by decide) (by decide) (by decide) (by decide)
  obtain ⟨b13, g13⟩ : ∃ z, z = h0.size := ⟨_, rfl⟩
  rw [← g13] at A13 st13
  have lt13 : b13 < h13.size := A13.lt
  have V13 : Arv Z h13 b13 k13 .byte (4 : Int32) [(.int (0 : Int32)), (.int (0 : Int32)), (.int (0 : Int32)), (.int (0 : Int32))] (.int (0 : Int32)) := (Arv.new A13 (by decide)).pad (pad_rep [] (.int (0 : Int32)) 4)
  have sz13 : h0.size ≤ h13.size := E13.1
  have K13 : Keep h0 h13 [] := K0.ext E13
  refine own_st st13 ?_
  refine own_st (fun tq kq => XS.astoreN X13.here hx rfl (hb hby dC3_3) rfl rfl (l' := #[vR b, vI 0, vI 4, vR b13, .unset, .unset]) rfl kq) ?_
  refine s_aloadN X13 hx (hb hby dC3_4) rfl rfl ?_
  refine s_iloadN X13 hx (hb hby dC3_5) rfl ?_
  refine s_aloadN X13 hx (hb hby dC3_6) rfl rfl ?_
  show own_G p e below _ (T13.setTop (mkF m 7 #[vR b, vI 0, vI 4, vR b13, .unset, .unset] [(.ref b13), (.int 0), (.ref b)]))
  refine s_iconst X13 hx (hb hby dC3_7) ?_
  refine s_iloadN X13 hx (hb hby dC3_8) rfl ?_
  obtain ⟨_, _, ⟨T14, L14, k14, n14⟩, -, X14, ⟨Lc14, hQ14, l14, y14, z14⟩, st14⟩ := Jvm.LawKit.callS X13 hx (y := mN9) hown (mvT hZ (wd42 hw)) (mvT hZ (wd43 hw)) (mvT hZ (wd40 hw)) (mvT hZ (wd44 hw)) (by decide) (own_backN (W := 0) (own_cm5_4_3 l Z a0 hw [] (b) (b13) (kC) (k13) (dv) (c0) (c1) (c2) (c3) h13 n0 (by omega) (X00.keep K13 all0) (Vb.ext E13) V13 (by omega) (own_ne (by omega)) hl0 hl1 hl2 hg) hZ (wd44 hw) (wd40 hw) (by decide) (by decide)) (g := (mkF m 9 #[vR b, vI 0, vI 4, vR b13, .unset, .unset] [(.int 4), (.int 0), (.ref b13), (.int 0), (.ref b)])) rfl (by rw [hml]; rfl) (argsL := [(.ref b), (.int 0), (.ref b13), (.int 0), (.int 4)]) (rest := []) (lenOf own_pd4 rfl) rfl (Nat.le_of_eq rfl) (hb hby dC3_9) (fun _ _ => ⟨rfl, e13, (by decide : 1 + 0 ≤ _), (by decide : 4 + 0 ≤ _)⟩)
  dsimp only [Pt.U, Pt.locs, Pt.cells, Pt.slots] at X14 l14 y14 z14 st14 hQ14
  subst l14 y14 z14
  obtain ⟨rfl, Nq14, Kq14⟩ := hQ14
  have KK14 : Keep h13 T14.heap [b13] := Kq14
  have sz14 : h13.size ≤ T14.heap.size := KK14.1
  have K14 : Keep h0 T14.heap [] := K13.trans KK14 (allS (Or.inr (own_le (by omega))) all0)
  have N14 := Fr.app N0 Nq14
  refine own_st st14 ?_
  refine own_st (fun tq kq => XS.istore X14.here hx rfl (hb hby dC3_12) rfl (l' := #[vR b, vI 0, vI 4, vR b13, vI 3, .unset]) rfl kq) ?_
  refine s_iload X14 hx (hb hby dC3_14) rfl ?_
  refine s_iloadN X14 hx (hb hby dC3_16) rfl ?_
  show own_G p e below _ (T14.setTop (mkF m 17 #[vR b, vI 0, vI 4, vR b13, vI 3, .unset] [(.int 4), (.int 3)]))
  refine own_st (fun tq kq => XS.icmpNo X14.here hx rfl (hb hby dC3_17) rfl (feq (by decide : ¬ ((3 : Int32) = (4 : Int32)))).1 kq) ?_
  refine s_aloadN X14 hx (hb hby dC3_20) rfl rfl ?_
  refine s_iloadN X14 hx (hb hby dC3_21) rfl ?_
  refine s_iloadN X14 hx (hb hby dC3_22) rfl ?_
  show own_G p e below _ (T14.setTop (mkF m 23 #[vR b, vI 0, vI 4, vR b13, vI 3, .unset] [(.int 4), (.int 0), (.ref b)]))
  obtain ⟨_, _, ⟨T15, L15, k15, n15⟩, -, X15, ⟨Lc15, hQ15, l15, y15, z15⟩, st15⟩ := Jvm.LawKit.callS X14 hx (y := mN7) hown (mvT hZ (wd74 hw)) (mvT hZ (wd75 hw)) (mvT hZ (wd40 hw)) (mvT hZ (wd76 hw)) (by decide) (own_backN (W := 0) (own_toB4 l Z a0 hw [] (b) (kC) (dv) (c0) (c1) (c2) (c3) T14.heap n0 (by omega) (X00.keep K14 all0) OA OH OL ((Vb.ext E13).keep KK14 (ninS (own_ne (by omega)) nin0))) hZ (wd76 hw) (wd40 hw) (by decide) (by decide)) (g := (mkF m 23 #[vR b, vI 0, vI 4, vR b13, vI 3, .unset] [(.int 4), (.int 0), (.ref b)])) rfl (by rw [hml]; rfl) (argsL := [(.ref b), (.int 0), (.int 4)]) (rest := []) (lenOf own_pd5 rfl) rfl (Nat.le_of_eq rfl) (hb hby dC3_23) (fun _ _ => ⟨rfl, rfl, (by decide : 1 + 1 ≤ _), (by decide : 4 + 8 ≤ _)⟩)
  dsimp only [Pt.U, Pt.locs, Pt.cells, Pt.slots] at X15 l15 y15 z15 st15 hQ15
  subst l15 y15 z15
  obtain ⟨t15, kb15, rfl, Nq15, Kq15, gt15, lt15, Vt15⟩ := hQ15
  have KK15 : Keep T14.heap T15.heap [] := Kq15
  have sz15 : T14.heap.size ≤ T15.heap.size := KK15.1
  have K15 : Keep h0 T15.heap [] := K14.trans KK15 all0
  have N15 := Fr.app N14 Nq15
  refine own_st st15 ?_
  refine own_st (fun tq kq => XS.astore X15.here hx rfl (hb hby dC3_26) rfl rfl (l' := #[vR b, vI 0, vI 4, vR b13, vI 3, vR t15]) rfl kq) ?_
  refine s_aload X15 hx (hb hby dC3_28) rfl rfl ?_
  refine s_iload X15 hx (hb hby dC3_30) rfl ?_
  obtain ⟨_, _, ⟨T16, L16, k16, n16⟩, -, X16, ⟨Lc16, hQ16, l16, y16, z16⟩, st16⟩ := Jvm.LawKit.callS X15 hx (y := mN2) hown (mvT hZ (wd90 hw)) (mvT hZ (wd91 hw)) (mvT hZ (wd40 hw)) (mvT hZ (wd92 hw)) (by decide) (own_backN (W := 0) (own_get_3 l Z a0 hw [] (t15) (_) (_) (_) (_) (_) T15.heap n0 (by omega) (X00.keep K15 all0) OA OH OL Vt15 (by decide) (by decide) rfl rfl) hZ (wd92 hw) (wd40 hw) (by decide) (by decide)) (g := (mkF m 32 #[vR b, vI 0, vI 4, vR b13, vI 3, vR t15] [(.int 3), (.ref t15)])) rfl (by rw [hml]; rfl) (argsL := [(.ref t15), (.int 3)]) (rest := []) (lenOf own_pd6 rfl) rfl (Nat.le_of_eq rfl) (hb hby dC3_32) (fun _ _ => ⟨rfl, rfl, (by decide : 2 + 0 ≤ _), (by decide : 12 + 0 ≤ _)⟩)
  dsimp only [Pt.U, Pt.locs, Pt.cells, Pt.slots] at X16 l16 y16 z16 st16 hQ16
  subst l16 y16 z16
  obtain ⟨rfl, Nq16, sm16⟩ := hQ16
  have N16 := Fr.app N15 Nq16
  refine own_st st16 ?_
  refine s_sipush X16 hx (hb hby dC3_35) ?_
  show own_G p e below _ (T16.setTop (mkF m 38 #[vR b, vI 0, vI 4, vR b13, vI 3, vR t15] [(.int 255), (.int (StrChars.pairCh (L8 c3) (H8 c3)))]))
  refine own_st (fun tq kq => XS.icmpYes X16.here hx rfl (pc0 := 38) (pc' := 54) rfl (hb hby dC3_38) rfl (tlt (by rw [StrChars.pair_says hb3.1 hb3.2]; exact hg)).2.2.1 (by decide) (by decide) kq) ?_
  refine s_aload X16 hx (hb hby dC3_54) rfl rfl ?_
  show own_G p e below _ (T16.setTop (mkF m 56 #[vR b, vI 0, vI 4, vR b13, vI 3, vR t15] [(.ref t15)]))
  obtain ⟨fs, hr, hrun, hended, hW, hsame⟩ := X16.leave (v := some (.ref t15)) (fun h => by rw [Bd.returns] at h; cases h)
  refine ⟨_, _, retOut X16 hx Bd.returns rfl (Or.inr (Or.inr (Or.inr (Or.inr ⟨rfl, rfl, rfl⟩)))) (hb hby dC3_56) hr, hrun, hended, _, _, rfl, ?_, ⟨_, rfl⟩, hW, hsame.mono (by decide) (by decide)⟩
  change Q_own_cm3_4 Z b kC dv c0 c1 c2 c3 h0 n0 _ T16.heap _; rw [sm16]; exact ⟨t15, _, rfl, N16, K15, (by omega), Vt15.lt, Vt15⟩

def Q_own_n4_4 (Z : State) (x b : Nat) (v0 c_0 dv : Value) (kC : ClassId) (G1 : Int32) (c0 c1 c2 c3 : Int32) (h0 : Heap) (n0 : Nat) (v : Option Value) (h : Heap) (L : List Loc) : Prop := v = none ∧ Fr n0 L ∧ Keep h0 h [x] ∧ ∃ (t : Nat) (kb : ClassId), Fld Z h x "java/lang/String" "value" "[B" (.ref t) ∧ Fld Z h x "java/lang/String" "coder" "B" (.int (1 : Int32)) ∧ Arv Z h t kb .byte (8 : Int32) [.int (L8 c0), .int (H8 c0), .int (L8 c1), .int (H8 c1), .int (L8 c2), .int (H8 c2), .int (L8 c3), .int (H8 c3)] (.int 0)
theorem ef_own_n4_4 (m : MethodId) (x0 : Nat) (x1 : Nat) : entryFrame m #[(.ref x0), (.ref x1), (.int 0), (.int 4), .null] 6 = mkF m 0 #[.val (.ref x0), .val (.ref x1), .val (.int 0), .val (.int 4), .val .null, .unset] [] := by first | (simp [entryFrame, mkF, argsToLocals, Value.category]; done) | rfl
theorem own_n4_4 (l : Launch) (Z : State) (a0 : Array Value) (hw : hWt a0 Z) (ws : List Jvm.Cond) (x b : Nat) (v0 c_0 dv : Value) (kC : ClassId) (G1 : Int32) (c0 c1 c2 c3 : Int32) (h0 : Heap) (n0 : Nat) (Z0 : n0 ≤ h0.size) (X00 : Old Z n0 h0) (Ex : Exa Z h0 x "java/lang/String") (Fv : Fld Z h0 x "java/lang/String" "value" "[B" v0) (Fc : Fld Z h0 x "java/lang/String" "coder" "B" c_0) (gx : n0 ≤ x) (ltx : x < h0.size) (Vb : Arv Z h0 b kC .char (4 : Int32) [.int c0, .int c1, .int c2, .int c3] dv) (O2 : Sta Z Z.heap "java/lang/String" "COMPACT_STRINGS" "Z" (.int G1)) (P5 : ¬ (G1 = (0 : Int32))) (OA : oA Z) (OH : oH Z) (OL : oL Z) (hb0 : ¬ c0 < 0 ∧ ¬ (65535 : Int32) < c0) (hb1 : ¬ c1 < 0 ∧ ¬ (65535 : Int32) < c1) (hb2 : ¬ c2 < 0 ∧ ¬ (65535 : Int32) < c2) (hb3 : ¬ c3 < 0 ∧ ¬ (65535 : Int32) < c3) (hD : ((255 : Int32) < c0) ∨ (¬ (255 : Int32) < c0 ∧ (255 : Int32) < c1) ∨ (¬ (255 : Int32) < c0 ∧ ¬ (255 : Int32) < c1 ∧ (255 : Int32) < c2) ∨ (¬ (255 : Int32) < c0 ∧ ¬ (255 : Int32) < c1 ∧ ¬ (255 : Int32) < c2 ∧ (255 : Int32) < c3)) :
    MetFree l mN0 (head1 (Jvm.Cond.code mN0 jdk_42_method_149_code 6 none :: ws) rm_4_2_12_95) (fun av_ U => av_ = #[(.ref x), (.ref b), (.int 0), (.int 4), .null] ∧ Z.Warmed39 U.vm ∧ U.heap = h0) (fun _ _ _ _ _ => True) (own_EN (Q_own_n4_4 Z x b v0 c_0 dv kC G1 c0 c1 c2 c3 h0 n0) rm_4_2_12_95) := by
 refine MetFree.of_bodySF (plainFor_of_name own_pn0) hisR ?_
 intro p e s m args below meth c s₁ Bd hml0 hP hK
 obtain ⟨rfl, hZ, hh⟩ := hP
 have hx := Bd.exec
 have hby := Bd.bytes
 have hml : c.maxLocals = 6 := hml0
 have hown : s.vm.findClass "java/lang/String" = some m.cls := findClass_of_methodNamed Bd.named
 have hnm := (name_of_methodNamed Bd.named Bd.method).1
 have X0 : Stand p l e rm_4_2_12_95 s m _ below meth c s₁ [] 0 0 := Stand.of_body Bd
 have e0 : s₁.heap = h0 := by rw [← hh, Bd.state]; rfl
 have N0 := Fr.nil n0
 have K0 : Keep h0 h0 [x] := Keep.refl h0 [x]
 refine show own_G p e below (own_EN (Q_own_n4_4 Z x b v0 c_0 dv kC G1 c0 c1 c2 c3 h0 n0) rm_4_2_12_95 #[(.ref x), (.ref b), (.int 0), (.int 4), .null] s) _ from ?_
 refine own_st (fun tq kq => castTop (ef_own_n4_4 m (x) (b)) kq) ?_
 show own_G p e below _ (s₁.setTop (mkF m 0 #[vR x, vR b, vI 0, vI 4, .val .null, .unset] []))
 have hws0 : ∀ y ∈ [x], n0 ≤ y := allS gx all0
 refine s_aloadN X0 hx (hb hby dN4_0) rfl rfl ?_
 obtain ⟨T1, X1, e1, st1⟩ := initO X0 hx hZ hown (wd12 hw) (wd13 hw) (wd14 hw) e0 (g := (mkF m 1 #[vR x, vR b, vI 0, vI 4, .val .null, .unset] [(.ref x)])) rfl (by rw [hml]; rfl) rfl (hb hby dN4_1) (by decide) (W := 0) (Nat.le_of_eq rfl) (by decide)
 refine own_st st1 ?_
 refine s_iloadN X1 hx (hb hby dN4_4) rfl ?_
 show own_G p e below _ (T1.setTop (mkF m 5 #[vR x, vR b, vI 0, vI 4, .val .null, .unset] [(.int 4)]))
 refine own_st (fun tq kq => XS.ifYes X1.here hx rfl (pc0 := 5) (pc' := 27) rfl (hb hby dN4_5) rfl ((if0 _ _).trans (feq (by decide : ¬ ((4 : Int32) = (0 : Int32)))).2) (by decide) (by decide) kq) ?_
 obtain ⟨T2, X2, e2, st2⟩ := getS2 X1 hx hZ hown (host := "") (Or.inl (wd37 hw)) Via.refl e1 (O2.ext (X00.keep K0 hws0).2) (g := (mkF m 27 #[vR x, vR b, vI 0, vI 4, .val .null, .unset] [])) rfl (hb hby dN4_27)
 refine own_st st2 ?_
 refine own_st (fun tq kq => XS.ifNo X2.here hx rfl (hb hby dN4_30) rfl ((if0 _ _).trans (feq P5).1) kq) ?_
 refine s_aloadN X2 hx (hb hby dN4_33) rfl rfl ?_
 refine s_iloadN X2 hx (hb hby dN4_34) rfl ?_
 refine s_iloadN X2 hx (hb hby dN4_35) rfl ?_
 show own_G p e below _ (T2.setTop (mkF m 36 #[vR x, vR b, vI 0, vI 4, .val .null, .unset] [(.int 4), (.int 0), (.ref b)]))
 obtain ⟨_, _, ⟨T3, L3, k3, n3⟩, -, X3, ⟨Lc3, hQ3, l3, y3, z3⟩, st3⟩ := Jvm.LawKit.callS X2 hx (y := mN10) hown (mvT hZ (wd38 hw)) (mvT hZ (wd39 hw)) (mvT hZ (wd40 hw)) (mvT hZ (wd41 hw)) (by decide) (own_backN (W := 0) (own_cm3_4 l Z a0 hw [] (b) (kC) (dv) (c0) (c1) (c2) (c3) h0 n0 (by omega) (X00.keep K0 hws0) OA OH OL Vb hb0 hb1 hb2 hb3 hD) hZ (wd41 hw) (wd40 hw) (by decide) (by decide)) (g := (mkF m 36 #[vR x, vR b, vI 0, vI 4, .val .null, .unset] [(.int 4), (.int 0), (.ref b)])) rfl (by rw [hml]; rfl) (argsL := [(.ref b), (.int 0), (.int 4)]) (rest := []) (lenOf own_pd5 rfl) rfl (Nat.le_of_eq rfl) (hb hby dN4_36) (fun _ _ => ⟨rfl, e2, (by decide : 0 + 2 ≤ _), (by decide : 0 + 12 ≤ _)⟩)
 dsimp only [Pt.U, Pt.locs, Pt.cells, Pt.slots] at X3 l3 y3 z3 st3 hQ3
 subst l3 y3 z3
 obtain ⟨t3, kb3, rfl, Nq3, Kq3, gt3, lt3, Vt3⟩ := hQ3
 have KK3 : Keep h0 T3.heap [] := Kq3
 have sz3 : h0.size ≤ T3.heap.size := KK3.1
 have K3 : Keep h0 T3.heap [x] := K0.trans KK3 all0
 have N3 := Fr.app N0 Nq3
 refine own_st st3 ?_
 refine own_st (fun tq kq => XS.astore X3.here hx rfl (hb hby dN4_39) rfl rfl (l' := #[vR x, vR b, vI 0, vI 4, .val .null, vR t3]) rfl kq) ?_
 refine s_aloadN X3 hx (hb hby dN4_41) rfl rfl ?_
 refine s_aload X3 hx (hb hby dN4_42) rfl rfl ?_
 refine s_iloadN X3 hx (hb hby dN4_44) rfl ?_
 show own_G p e below _ (T3.setTop (mkF m 45 #[vR x, vR b, vI 0, vI 4, .val .null, vR t3] [(.int 4), (.ref t3), (.ref x)]))
 obtain ⟨_, _, ⟨T4, L4, k4, n4⟩, -, X4, ⟨Lc4, hQ4, l4, y4, z4⟩, st4⟩ := Jvm.LawKit.callS X3 hx (y := mN8) hown (mvT hZ (wd45 hw)) (mvT hZ (wd46 hw)) (mvT hZ (wd40 hw)) (mvT hZ (wd47 hw)) (by decide) (own_backN (W := 1) (own_cfl4 l Z a0 hw [] (t3) (_) (_) T3.heap n0 (by omega) (X00.keep K3 hws0) Vt3) hZ (wd47 hw) (wd40 hw) (by decide) (by decide)) (g := (mkF m 45 #[vR x, vR b, vI 0, vI 4, .val .null, vR t3] [(.int 4), (.ref t3), (.ref x)])) rfl (by rw [hml]; rfl) (argsL := [(.ref t3), (.int 4)]) (rest := [(.ref x)]) (lenOf own_pd7 rfl) rfl (Nat.le_of_eq rfl) (hb hby dN4_45) (fun _ _ => ⟨rfl, rfl, (by decide : 2 + 0 ≤ _), (by decide : 12 + 0 ≤ _)⟩)
 dsimp only [Pt.U, Pt.locs, Pt.cells, Pt.slots] at X4 l4 y4 z4 st4 hQ4
 subst l4 y4 z4
 obtain ⟨rfl, Nq4, sm4⟩ := hQ4
 have N4 := Fr.app N3 Nq4
 refine own_st st4 ?_
 obtain ⟨T5, h5, X5, e5, W5, st5⟩ := putF X4 hx hZ hown (host := "") (Or.inl (wd22 hw)) Via.refl sm4 (Fc.keep KK3 nin0) (Ex.keep KK3) (Or.inr ⟨(wd18 hw), rfl, hnm⟩) (wd3 hw) (ty := .byte) (by decide) rfl rfl (g := (mkF m 48 #[vR x, vR b, vI 0, vI 4, .val .null, vR t3] [(.int 1), (.ref x)])) rfl rfl (hb hby dN4_48)
 have Fw5 := (Fc.keep KK3 nin0).same W5
 have sz5 : T3.heap.size ≤ h5.size := (Keep.of_wr W5).1
 have K5 : Keep h0 h5 [x] := K3.wr W5 (Or.inl (by simp))
 have N5 := Fr.snoc X5 N4 (own_le (by omega))
 refine own_st st5 ?_
 refine s_aloadN X5 hx (hb hby dN4_51) rfl rfl ?_
 refine s_aload X5 hx (hb hby dN4_52) rfl rfl ?_
 obtain ⟨T6, h6, X6, e6, W6, st6⟩ := putF X5 hx hZ hown (host := "") (Or.inl (wd21 hw)) Via.refl e5 ((Fv.keep KK3 nin0).other W5 (Or.inr (slot_ne (Or.inr (wd17 hw)) (Or.inr (wd18 hw)) (by decide) (t := (.array .byte)) (t' := .byte) (by decide) (by decide)))) ((Ex.keep KK3).wr W5) (Or.inr ⟨(wd17 hw), rfl, hnm⟩) (wd3 hw) (ty := (.array .byte)) (by decide) rfl rfl (g := (mkF m 54 #[vR x, vR b, vI 0, vI 4, .val .null, vR t3] [(.ref t3), (.ref x)])) rfl rfl (hb hby dN4_54)
 have Fw6 := ((Fv.keep KK3 nin0).other W5 (Or.inr (slot_ne (Or.inr (wd17 hw)) (Or.inr (wd18 hw)) (by decide) (t := (.array .byte)) (t' := .byte) (by decide) (by decide)))).same W6
 have sz6 : h5.size ≤ h6.size := (Keep.of_wr W6).1
 have K6 : Keep h0 h6 [x] := K5.wr W6 (Or.inl (by simp))
 have N6 := Fr.snoc X6 N5 (own_le (by omega))
 refine own_st st6 ?_
 obtain ⟨fs, hr, hrun, hended, hW, hsame⟩ := X6.leave (v := none) (fun _ => rfl)
 refine ⟨_, _, X6.returnOut hx Bd.returns (hb hby dN4_57) hr, hrun, hended, _, _, rfl, ?_, ⟨_, rfl⟩, hW, hsame.mono (by decide) (by decide)⟩
 change Q_own_n4_4 Z x b v0 c_0 dv kC G1 c0 c1 c2 c3 h0 n0 _ T6.heap _; rw [e6]; exact ⟨rfl, N6, K6, t3, _, Fw6, (Fw5.other W6 (Or.inr (slot_ne (Or.inr (wd18 hw)) (Or.inr (wd17 hw)) (by decide) (t := .byte) (t' := (.array .byte)) (by decide) (by decide)))), ((Vt3.other W5 (own_ne (by omega))).other W6 (own_ne (by omega)))⟩

def Q_own_n1_4 (Z : State) (x b : Nat) (v0 c_0 dv : Value) (kC : ClassId) (G1 : Int32) (c0 c1 c2 c3 : Int32) (h0 : Heap) (n0 : Nat) (v : Option Value) (h : Heap) (L : List Loc) : Prop := v = none ∧ Fr n0 L ∧ Keep h0 h [x] ∧ ∃ (t : Nat) (kb : ClassId), Fld Z h x "java/lang/String" "value" "[B" (.ref t) ∧ Fld Z h x "java/lang/String" "coder" "B" (.int (1 : Int32)) ∧ Arv Z h t kb .byte (8 : Int32) [.int (L8 c0), .int (H8 c0), .int (L8 c1), .int (H8 c1), .int (L8 c2), .int (H8 c2), .int (L8 c3), .int (H8 c3)] (.int 0)
theorem ef_own_n1_4 (m : MethodId) (x0 : Nat) (x1 : Nat) : entryFrame m #[(.ref x0), (.ref x1)] 2 = mkF m 0 #[.val (.ref x0), .val (.ref x1)] [] := by first | (simp [entryFrame, mkF, argsToLocals, Value.category]; done) | rfl
theorem own_n1_4 (l : Launch) (Z : State) (a0 : Array Value) (hw : hWt a0 Z) (ws : List Jvm.Cond) (x b : Nat) (v0 c_0 dv : Value) (kC : ClassId) (G1 : Int32) (c0 c1 c2 c3 : Int32) (h0 : Heap) (n0 : Nat) (Z0 : n0 ≤ h0.size) (X00 : Old Z n0 h0) (Ex : Exa Z h0 x "java/lang/String") (Fv : Fld Z h0 x "java/lang/String" "value" "[B" v0) (Fc : Fld Z h0 x "java/lang/String" "coder" "B" c_0) (gx : n0 ≤ x) (ltx : x < h0.size) (Vb : Arv Z h0 b kC .char (4 : Int32) [.int c0, .int c1, .int c2, .int c3] dv) (O2 : Sta Z Z.heap "java/lang/String" "COMPACT_STRINGS" "Z" (.int G1)) (P5 : ¬ (G1 = (0 : Int32))) (OA : oA Z) (OH : oH Z) (OL : oL Z) (hb0 : ¬ c0 < 0 ∧ ¬ (65535 : Int32) < c0) (hb1 : ¬ c1 < 0 ∧ ¬ (65535 : Int32) < c1) (hb2 : ¬ c2 < 0 ∧ ¬ (65535 : Int32) < c2) (hb3 : ¬ c3 < 0 ∧ ¬ (65535 : Int32) < c3) (hD : ((255 : Int32) < c0) ∨ (¬ (255 : Int32) < c0 ∧ (255 : Int32) < c1) ∨ (¬ (255 : Int32) < c0 ∧ ¬ (255 : Int32) < c1 ∧ (255 : Int32) < c2) ∨ (¬ (255 : Int32) < c0 ∧ ¬ (255 : Int32) < c1 ∧ ¬ (255 : Int32) < c2 ∧ (255 : Int32) < c3)) :
    MetFree l mN1 (head1 (Jvm.Cond.code mN1 jdk_42_method_3_code 2 none :: ws) rm_5_2_12_115) (fun av_ U => av_ = #[(.ref x), (.ref b)] ∧ Z.Warmed39 U.vm ∧ U.heap = h0) (fun _ _ _ _ _ => True) (own_EN (Q_own_n1_4 Z x b v0 c_0 dv kC G1 c0 c1 c2 c3 h0 n0) rm_5_2_12_115) := by
 refine MetFree.of_bodySF (plainFor_of_name own_pn0) hisR ?_
 intro p e s m args below meth c s₁ Bd hml0 hP hK
 obtain ⟨rfl, hZ, hh⟩ := hP
 have hx := Bd.exec
 have hby := Bd.bytes
 have hml : c.maxLocals = 2 := hml0
 have hown : s.vm.findClass "java/lang/String" = some m.cls := findClass_of_methodNamed Bd.named
 have hnm := (name_of_methodNamed Bd.named Bd.method).1
 have X0 : Stand p l e rm_5_2_12_115 s m _ below meth c s₁ [] 0 0 := Stand.of_body Bd
 have e0 : s₁.heap = h0 := by rw [← hh, Bd.state]; rfl
 have N0 := Fr.nil n0
 have K0 : Keep h0 h0 [x] := Keep.refl h0 [x]
 refine show own_G p e below (own_EN (Q_own_n1_4 Z x b v0 c_0 dv kC G1 c0 c1 c2 c3 h0 n0) rm_5_2_12_115 #[(.ref x), (.ref b)] s) _ from ?_
 refine own_st (fun tq kq => castTop (ef_own_n1_4 m (x) (b)) kq) ?_
 show own_G p e below _ (s₁.setTop (mkF m 0 #[vR x, vR b] []))
 have hws0 : ∀ y ∈ [x], n0 ≤ y := allS gx all0
 refine s_aloadN X0 hx (hb hby dN1_0) rfl rfl ?_
 refine s_aloadN X0 hx (hb hby dN1_1) rfl rfl ?_
 refine s_iconst X0 hx (hb hby dN1_2) ?_
 refine s_aloadN X0 hx (hb hby dN1_3) rfl rfl ?_
 show own_G p e below _ (s₁.setTop (mkF m 4 #[vR x, vR b] [(.ref b), (.int 0), (.ref b), (.ref x)]))
 obtain ⟨cl1, Ar1, q1, S_1, N_1, H_1, G_1⟩ := id Vb
 refine own_st (fun tq kq => X0.arraylength hx (by rw [e0]; exact Ar1.1) (State.isArrayOf_alike hZ.alike Ar1.2.1) (g := (mkF m 4 #[vR x, vR b] [(.ref b), (.int 0), (.ref b), (.ref x)])) rfl rfl (hb hby dN1_4) _ kq) ?_
 rw [len_of S_1 N_1]
 show own_G p e below _ (s₁.setTop (mkF m 5 #[vR x, vR b] [(.int 4), (.int 0), (.ref b), (.ref x)]))
 refine own_st (fun tq kq => XS.aconstNull X0.here hx rfl (hb hby dN1_5) kq) ?_
 obtain ⟨_, _, ⟨T2, L2, k2, n2⟩, -, X2, ⟨Lc2, hQ2, l2, y2, z2⟩, st2⟩ := X0.specialBack hx (y := mN0) rfl hown (mvT hZ (wd8 hw)) (mvT hZ (wd9 hw)) (mvT hZ (wd11 hw)) (by decide) (own_backN (W := 0) (own_n4_4 l Z a0 hw [] (x) (b) (v0) (c_0) (dv) (kC) (G1) (c0) (c1) (c2) (c3) h0 n0 (by omega) (X00.keep K0 hws0) Ex Fv Fc gx ltx Vb O2 P5 OA OH OL hb0 hb1 hb2 hb3 hD) hZ (wd11 hw) (wd4 hw) (by decide) (by decide)) (g := (mkF m 6 #[vR x, vR b] [.null, (.int 4), (.int 0), (.ref b), (.ref x)])) rfl (by rw [hml]; rfl) (Steps.refl _) (a := x) (argsL := [(.ref b), (.int 0), (.int 4), .null]) (rest := []) (lenOf own_pd0 rfl) rfl (Nat.le_of_eq rfl) (hb hby dN1_6) (fun _ _ => ⟨rfl, e0, (by decide : 0 + 2 ≤ _), (by decide : 0 + 12 ≤ _)⟩)
 dsimp only [Pt.U, Pt.locs, Pt.cells, Pt.slots] at X2 l2 y2 z2 st2 hQ2
 subst l2 y2 z2
 obtain ⟨rfl, Nq2, Kq2, R2⟩ := hQ2
 have KK2 : Keep h0 T2.heap [x] := Kq2
 have sz2 : h0.size ≤ T2.heap.size := KK2.1
 have K2 : Keep h0 T2.heap [x] := K0.trans KK2 (allS (Or.inl (by simp)) all0)
 have N2 := Fr.app N0 Nq2
 refine own_st (fun tq kq => st2.trans kq) ?_
 obtain ⟨fs, hr, hrun, hended, hW, hsame⟩ := X2.leave (v := none) (fun _ => rfl)
 refine ⟨_, _, X2.returnOut hx Bd.returns (hb hby dN1_9) hr, hrun, hended, _, _, rfl, ?_, ⟨_, rfl⟩, hW, hsame.mono (by decide) (by decide)⟩
 change Q_own_n1_4 Z x b v0 c_0 dv kC G1 c0 c1 c2 c3 h0 n0 _ T2.heap _; exact ⟨rfl, N2, K2, R2⟩

set_option maxRecDepth 65536 in
set_option maxHeartbeats 40000000 in
theorem own_newU4 {p : Program} {l : Launch} {e : Env} {R : Room} {s : State} {args : Array Value} {below : List Frame} {len W : Nat} {Z : State} {a0 : Array Value} {h : Heap} {vm0 : Vm} (hZ : Z.Warmed39 vm0) (hw : ∀ d ∈ tables_1, d.before a0 Z = true) (hEL : EW Z a0 consts_1) (H : CHv Z consts_1 vm0 h)
    {x b : Nat} {kC : ClassId} {c0 c1 c2 c3 : Int32} {d v0 c_0 : Value} {z : Int32} {n0 : Nat} (hs : Safe Z consts_1 vm0 h x) (hx0 : n0 ≤ x) (X00 : Old Z n0 h) (E : Exa Z h x "java/lang/String") (V : Fld Z h x "java/lang/String" "value" "[B" v0) (F : Fld Z h x "java/lang/String" "coder" "B" c_0) (K : Arv Z h b kC .char (4 : Int32) [.int c0, .int c1, .int c2, .int c3] d) (S : Sta Z Z.heap "java/lang/String" "COMPACT_STRINGS" "Z" (.int z)) (hz : ¬ z = 0) (OA : oA Z) (OH : oH Z) (OL : oL Z)
    (hp : ∀ c ∈ ([c0, c1, c2, c3] : List Int32), ¬ c < 0 ∧ ¬ (65535 : Int32) < c) (hfr : 6 ≤ R.frames) (hlo : W + 128 ≤ R.locals) :
    BackS l R p e below (s.setVm vm0) args (⟨"java/lang/String", "<init>", "([C)V"⟩ : MethodName) len W (fun P a => a = #[.ref x, .ref b] ∧ P.U.heap = h ∧ P.cells + 2 ≤ R.cells ∧ P.slots + 16 ≤ R.slots)
      (fun P _ v B => ∃ L, own_QU Z x ([c0, c1, c2, c3] : List Int32) h n0 v B.U.heap L ∧ B.locs = P.locs ++ L ∧ B.cells = P.cells + 2 ∧ B.slots = P.slots + 16 ∧ CHr Z consts_1 vm0 h B.U.vm B.U.heap) := by
  have hh0 : n0 ≤ h.size := by have := X00.1; have := X00.2.1; omega
  have key : (((255 : Int32) < c0) ∨ (¬ (255 : Int32) < c0 ∧ (255 : Int32) < c1) ∨ (¬ (255 : Int32) < c0 ∧ ¬ (255 : Int32) < c1 ∧ (255 : Int32) < c2) ∨ (¬ (255 : Int32) < c0 ∧ ¬ (255 : Int32) < c1 ∧ ¬ (255 : Int32) < c2 ∧ (255 : Int32) < c3)) ∨ (¬ (255 : Int32) < c0 ∧ ¬ (255 : Int32) < c1 ∧ ¬ (255 : Int32) < c2 ∧ ¬ (255 : Int32) < c3) := by
    by_cases hl0 : (255 : Int32) < c0
    · exact Or.inl (Or.inl hl0)
    by_cases hl1 : (255 : Int32) < c1
    · exact Or.inl (Or.inr (Or.inl ⟨hl0, hl1⟩))
    by_cases hl2 : (255 : Int32) < c2
    · exact Or.inl (Or.inr (Or.inr (Or.inl ⟨hl0, hl1, hl2⟩)))
    by_cases hl3 : (255 : Int32) < c3
    · exact Or.inl (Or.inr (Or.inr (Or.inr (⟨hl0, hl1, hl2, hl3⟩))))
    exact Or.inr ⟨hl0, hl1, hl2, hl3⟩
  rcases key with hD | hL
  · have hex : ∃ c ∈ ([c0, c1, c2, c3] : List Int32), 255 < c := by
     rcases hD with hg | ⟨-, hg⟩ | ⟨-, -, hg⟩ | ⟨-, -, -, hg⟩
     · exact ⟨c0, by simp, hg⟩
     · exact ⟨c1, by simp, hg⟩
     · exact ⟨c2, by simp, hg⟩
     · exact ⟨c3, by simp, hg⟩
    intro m meth c P g ig mk a X hg hsize hdg hW hnn hp'
    obtain ⟨v, B, Y, ⟨L, hQ, e1, e2, e3⟩, st⟩ := own_backN (rm := rm_5_2_12_115) (R := R) (W := W) (s := s.setVm vm0) (own_n1_4 l Z a0 hw [] x b v0 c_0 d kC z c0 c1 c2 c3 h n0 hh0 X00 E V F hx0 E.lt K S hz OA OH OL (hp _ (by simp)) (hp _ (by simp)) (hp _ (by simp)) (hp _ (by simp)) hD) hZ (wd7 hw) (wd4 hw) (by show 5 + 1 ≤ _; omega) (by show W + (2 + 11) + 115 ≤ _; omega) m meth c P g ig mk a X hg hsize hdg hW hnn ⟨hp'.1, hp'.2.1, Nat.le_trans (by show _ + 2 ≤ _ + 2; exact Nat.le_refl _) hp'.2.2.1, Nat.le_trans (by show _ + 12 ≤ _ + 16; exact Nat.add_le_add_left (by decide) _) hp'.2.2.2⟩
    obtain ⟨BU, BL, Bc, Bs⟩ := B
    dsimp only [Pt.U, Pt.locs, Pt.cells, Pt.slots] at Y hQ e1 e2 e3 st
    obtain ⟨r1, r2, r3, t, kb, r5, r6, r7⟩ := hQ
    have hCH : CHr Z consts_1 vm0 h vm0 BU.heap := CHr.keep r3 (allS hs all0) H
    have Y2 : Stand p l e R (s.setVm vm0) m args below meth c BU BL (P.cells + 2) (P.slots + 16) := Y.mono (by rw [e2]; exact Nat.le_refl _) (by rw [e3]; exact Nat.add_le_add_left (by decide) _)
    refine ⟨v, ⟨BU, BL, P.cells + 2, P.slots + 16⟩, Y2.retabled Y2.warmed.wide, Y2.warmed.since _, ?_, ⟨L, ⟨r1, r2, r3, r5.lt, E.keep r3, hp, by simp, t, kb, 1, _, _, r7.lt, r5, r6, r7, Or.inr ⟨rfl, rfl, rfl, hex⟩⟩, e1, rfl, rfl, hCH.trans (CHv.at (s := s) (vm0 := vm0) Y2 hZ hEL hCH.1)⟩, st⟩
    show P.U.heap.size ≤ BU.heap.size
    rw [hp'.2.1]; exact r3.1
  obtain ⟨hl0, hl1, hl2, hl3⟩ := hL
  have hp2 : ∀ c ∈ ([c0, c1, c2, c3] : List Int32), ¬ c < 0 ∧ ¬ (255 : Int32) < c := by
    intro c hc
    simp only [List.mem_cons, List.not_mem_nil, or_false] at hc
    rcases hc with rfl | rfl | rfl | rfl
    · exact ⟨(hp _ (by simp)).1, hl0⟩
    · exact ⟨(hp _ (by simp)).1, hl1⟩
    · exact ⟨(hp _ (by simp)).1, hl2⟩
    · exact ⟨(hp _ (by simp)).1, hl3⟩
  intro m meth c P g ig mk a X hg hsize hdg hW hnn hp'
  obtain ⟨v, B, Y, q1, q2, ⟨L, hQ, e1, e2, e3, hc⟩, st⟩ := own_newStr (R := R) (W := W) (s := s) (vm0 := vm0) hZ hw hEL H (cs := ([c0, c1, c2, c3] : List Int32)) (n := 4) (n0 := n0) hs hx0 X00 E V F K S hz rfl rfl (by decide) hp2 (by omega) (by omega) m meth c P g ig mk a X hg hsize hdg hW hnn ⟨hp'.1, hp'.2.1, hp'.2.2.1, Nat.le_trans (Nat.add_le_add_left (by decide) _) hp'.2.2.2⟩
  obtain ⟨BU, BL, Bc, Bs⟩ := B
  dsimp only [Pt.U, Pt.locs, Pt.cells, Pt.slots] at Y q1 q2 hQ e1 e2 e3 st hc
  have Y2 : Stand p l e R ((s.setVm vm0).setVm BU.vm) m args below meth c BU BL (P.cells + 2) (P.slots + 16) := Y.mono (by rw [e2]; exact Nat.le_refl _) (by rw [e3]; exact Nat.add_le_add_left (by decide) _)
  exact ⟨v, ⟨BU, BL, P.cells + 2, P.slots + 16⟩, Y2, q1, q2, ⟨L, ⟨hQ.1, hQ.2.1, hQ.2.2.1, hQ.2.2.2.toU⟩, e1, rfl, rfl, hc⟩, st⟩

def Q_own_pidxN (Z : State) (i nn : Int32) (h0 : Heap) (n0 : Nat) (v : Option Value) (h : Heap) (L : List Loc) : Prop := v = some (.int i) ∧ Fr n0 L ∧ h = h0
theorem ef_own_pidxN (m : MethodId) (x0 : Int32) (x1 : Int32) : entryFrame m #[(.int x0), (.int x1), .null] 3 = mkF m 0 #[.val (.int x0), .val (.int x1), .val .null] [] := by first | (simp [entryFrame, mkF, argsToLocals, Value.category]; done) | rfl
theorem own_pidxN (l : Launch) (Z : State) (a0 : Array Value) (hw : hWt a0 Z) (ws : List Jvm.Cond) (i nn : Int32) (h0 : Heap) (n0 : Nat) (Z0 : n0 ≤ h0.size) (X00 : Old Z n0 h0) (h1 : ¬ i < (0 : Int32)) (h2 : i < nn) :
    MetFree l mN11 (head1 (Jvm.Cond.code mN11 jdk_41_method_11_code 3 (some .int) :: ws) rm_0_0_0_0) (fun av_ U => av_ = #[(.int i), (.int nn), .null] ∧ Z.Warmed39 U.vm ∧ U.heap = h0) (fun _ _ _ _ _ => True) (own_EN (Q_own_pidxN Z i nn h0 n0) rm_0_0_0_0) := by
 refine MetFree.of_bodySF (plainFor_of_name own_pn2) hisR ?_
 intro p e s m args below meth c s₁ Bd hml0 hP hK
 obtain ⟨rfl, hZ, hh⟩ := hP
 have hx := Bd.exec
 have hby := Bd.bytes
 have hml : c.maxLocals = 3 := hml0
 have hown : s.vm.findClass "jdk/internal/util/Preconditions" = some m.cls := findClass_of_methodNamed Bd.named
 have X0 : Stand p l e rm_0_0_0_0 s m _ below meth c s₁ [] 0 0 := Stand.of_body Bd
 have e0 : s₁.heap = h0 := by rw [← hh, Bd.state]; rfl
 have N0 := Fr.nil n0
 have K0 : Keep h0 h0 [] := Keep.refl h0 []
 refine show own_G p e below (own_EN (Q_own_pidxN Z i nn h0 n0) rm_0_0_0_0 #[(.int i), (.int nn), .null] s) _ from ?_
 refine own_st (fun tq kq => castTop (ef_own_pidxN m (i) (nn)) kq) ?_
 show own_G p e below _ (s₁.setTop (mkF m 0 #[vI i, vI nn, .val .null] []))
 refine s_iloadN X0 hx (hb hby dPI_0) rfl ?_
 show own_G p e below _ (s₁.setTop (mkF m 1 #[vI i, vI nn, .val .null] [(.int i)]))
 refine own_st (fun tq kq => XS.ifNo X0.here hx rfl (hb hby dPI_1) rfl ((if0 _ _).trans (flt h1).1) kq) ?_
 refine s_iloadN X0 hx (hb hby dPI_4) rfl ?_
 refine s_iloadN X0 hx (hb hby dPI_5) rfl ?_
 show own_G p e below _ (s₁.setTop (mkF m 6 #[vI i, vI nn, .val .null] [(.int nn), (.int i)]))
 refine own_st (fun tq kq => XS.icmpYes X0.here hx rfl (pc0 := 6) (pc' := 16) rfl (hb hby dPI_6) rfl (tlt h2).1 (by decide) (by decide) kq) ?_
 refine s_iloadN X0 hx (hb hby dPI_16) rfl ?_
 show own_G p e below _ (s₁.setTop (mkF m 17 #[vI i, vI nn, .val .null] [(.int i)]))
 obtain ⟨fs, hr, hrun, hended, hW, hsame⟩ := X0.leave (v := some (.int i)) (fun h => by rw [Bd.returns] at h; cases h)
 refine ⟨_, _, retOut X0 hx Bd.returns rfl (Or.inl ⟨rfl, by simp, _, rfl⟩) (hb hby dPI_17) hr, hrun, hended, _, _, rfl, ?_, ⟨_, rfl⟩, hW, hsame.mono (by decide) (by decide)⟩
 change Q_own_pidxN Z i nn h0 n0 _ s₁.heap _; rw [e0]; exact ⟨rfl, N0, rfl⟩

def Q_own_pidxR (Z : State) (i nn : Int32) (gf : Nat) (h0 : Heap) (n0 : Nat) (v : Option Value) (h : Heap) (L : List Loc) : Prop := v = some (.int i) ∧ Fr n0 L ∧ h = h0
theorem ef_own_pidxR (m : MethodId) (x0 : Int32) (x1 : Int32) (x2 : Nat) : entryFrame m #[(.int x0), (.int x1), (.ref x2)] 3 = mkF m 0 #[.val (.int x0), .val (.int x1), .val (.ref x2)] [] := by first | (simp [entryFrame, mkF, argsToLocals, Value.category]; done) | rfl
theorem own_pidxR (l : Launch) (Z : State) (a0 : Array Value) (hw : hWt a0 Z) (ws : List Jvm.Cond) (i nn : Int32) (gf : Nat) (h0 : Heap) (n0 : Nat) (Z0 : n0 ≤ h0.size) (X00 : Old Z n0 h0) (h1 : ¬ i < (0 : Int32)) (h2 : i < nn) :
    MetFree l mN11 (head1 (Jvm.Cond.code mN11 jdk_41_method_11_code 3 (some .int) :: ws) rm_0_0_0_0) (fun av_ U => av_ = #[(.int i), (.int nn), (.ref gf)] ∧ Z.Warmed39 U.vm ∧ U.heap = h0) (fun _ _ _ _ _ => True) (own_EN (Q_own_pidxR Z i nn gf h0 n0) rm_0_0_0_0) := by
 refine MetFree.of_bodySF (plainFor_of_name own_pn2) hisR ?_
 intro p e s m args below meth c s₁ Bd hml0 hP hK
 obtain ⟨rfl, hZ, hh⟩ := hP
 have hx := Bd.exec
 have hby := Bd.bytes
 have hml : c.maxLocals = 3 := hml0
 have hown : s.vm.findClass "jdk/internal/util/Preconditions" = some m.cls := findClass_of_methodNamed Bd.named
 have X0 : Stand p l e rm_0_0_0_0 s m _ below meth c s₁ [] 0 0 := Stand.of_body Bd
 have e0 : s₁.heap = h0 := by rw [← hh, Bd.state]; rfl
 have N0 := Fr.nil n0
 have K0 : Keep h0 h0 [] := Keep.refl h0 []
 refine show own_G p e below (own_EN (Q_own_pidxR Z i nn gf h0 n0) rm_0_0_0_0 #[(.int i), (.int nn), (.ref gf)] s) _ from ?_
 refine own_st (fun tq kq => castTop (ef_own_pidxR m (i) (nn) (gf)) kq) ?_
 show own_G p e below _ (s₁.setTop (mkF m 0 #[vI i, vI nn, vR gf] []))
 refine s_iloadN X0 hx (hb hby dPI_0) rfl ?_
 show own_G p e below _ (s₁.setTop (mkF m 1 #[vI i, vI nn, vR gf] [(.int i)]))
 refine own_st (fun tq kq => XS.ifNo X0.here hx rfl (hb hby dPI_1) rfl ((if0 _ _).trans (flt h1).1) kq) ?_
 refine s_iloadN X0 hx (hb hby dPI_4) rfl ?_
 refine s_iloadN X0 hx (hb hby dPI_5) rfl ?_
 show own_G p e below _ (s₁.setTop (mkF m 6 #[vI i, vI nn, vR gf] [(.int nn), (.int i)]))
 refine own_st (fun tq kq => XS.icmpYes X0.here hx rfl (pc0 := 6) (pc' := 16) rfl (hb hby dPI_6) rfl (tlt h2).1 (by decide) (by decide) kq) ?_
 refine s_iloadN X0 hx (hb hby dPI_16) rfl ?_
 show own_G p e below _ (s₁.setTop (mkF m 17 #[vI i, vI nn, vR gf] [(.int i)]))
 obtain ⟨fs, hr, hrun, hended, hW, hsame⟩ := X0.leave (v := some (.int i)) (fun h => by rw [Bd.returns] at h; cases h)
 refine ⟨_, _, retOut X0 hx Bd.returns rfl (Or.inl ⟨rfl, by simp, _, rfl⟩) (hb hby dPI_17) hr, hrun, hended, _, _, rfl, ?_, ⟨_, rfl⟩, hW, hsame.mono (by decide) (by decide)⟩
 change Q_own_pidxR Z i nn gf h0 n0 _ s₁.heap _; rw [e0]; exact ⟨rfl, N0, rfl⟩

def Q_own_cidx (Z : State) (i nn : Int32) (fm : Value) (h0 : Heap) (n0 : Nat) (v : Option Value) (h : Heap) (L : List Loc) : Prop := v = none ∧ Fr n0 L ∧ h = h0
theorem ef_own_cidx (m : MethodId) (x0 : Int32) (x1 : Int32) : entryFrame m #[(.int x0), (.int x1)] 2 = mkF m 0 #[.val (.int x0), .val (.int x1)] [] := by first | (simp [entryFrame, mkF, argsToLocals, Value.category]; done) | rfl
theorem own_cidx (l : Launch) (Z : State) (a0 : Array Value) (hw : hWt a0 Z) (ws : List Jvm.Cond) (i nn : Int32) (fm : Value) (h0 : Heap) (n0 : Nat) (Z0 : n0 ≤ h0.size) (X00 : Old Z n0 h0) (O4 : o4 Z fm) (rfm : fm.isRef = true) (h1 : ¬ i < (0 : Int32)) (h2 : i < nn) :
    MetFree l mN12 (head1 (Jvm.Cond.code mN12 jdk_42_method_155_code 2 none :: ws) rm_1_0_0_20) (fun av_ U => av_ = #[(.int i), (.int nn)] ∧ Z.Warmed39 U.vm ∧ U.heap = h0) (fun _ _ _ _ _ => True) (own_EN (Q_own_cidx Z i nn fm h0 n0) rm_1_0_0_20) := by
 refine MetFree.of_bodySF (plainFor_of_name own_pn0) hisR ?_
 intro p e s m args below meth c s₁ Bd hml0 hP hK
 obtain ⟨rfl, hZ, hh⟩ := hP
 have hx := Bd.exec
 have hby := Bd.bytes
 have hml : c.maxLocals = 2 := hml0
 have hown : s.vm.findClass "java/lang/String" = some m.cls := findClass_of_methodNamed Bd.named
 have X0 : Stand p l e rm_1_0_0_20 s m _ below meth c s₁ [] 0 0 := Stand.of_body Bd
 have e0 : s₁.heap = h0 := by rw [← hh, Bd.state]; rfl
 have N0 := Fr.nil n0
 have K0 : Keep h0 h0 [] := Keep.refl h0 []
 refine show own_G p e below (own_EN (Q_own_cidx Z i nn fm h0 n0) rm_1_0_0_20 #[(.int i), (.int nn)] s) _ from ?_
 refine own_st (fun tq kq => castTop (ef_own_cidx m (i) (nn)) kq) ?_
 show own_G p e below _ (s₁.setTop (mkF m 0 #[vI i, vI nn] []))
 rcases ref_cases rfm with rfl | ⟨gf, rfl⟩
 ·
  refine s_iloadN X0 hx (hb hby dCI_0) rfl ?_
  refine s_iloadN X0 hx (hb hby dCI_1) rfl ?_
  obtain ⟨T1, X1, e1, st1⟩ := getS2 X0 hx hZ hown (host := "") (Or.inl (wd69 hw)) Via.refl e0 (O4.ext (X00.keep K0 all0).2) (g := (mkF m 2 #[vI i, vI nn] [(.int nn), (.int i)])) rfl (hb hby dCI_2)
  refine own_st st1 ?_
  obtain ⟨_, _, ⟨T2, L2, k2, n2⟩, -, X2, ⟨Lc2, hQ2, l2, y2, z2⟩, st2⟩ := Jvm.LawKit.callS X1 hx (y := mN11) hown (mvT hZ (wd71 hw)) (mvT hZ (wd72 hw)) (mvT hZ (wd70 hw)) (mvT hZ (wd73 hw)) (by decide) (own_backN (W := 0) (own_pidxN l Z a0 hw [] (i) (nn) h0 n0 (by omega) (X00.keep K0 all0) h1 h2) hZ (wd73 hw) (wd70 hw) (by decide) (by decide)) (g := (mkF m 5 #[vI i, vI nn] [.null, (.int nn), (.int i)])) rfl (by rw [hml]; rfl) (argsL := [(.int i), (.int nn), .null]) (rest := []) (lenOf own_pd8 rfl) rfl (Nat.le_of_eq rfl) (hb hby dCI_5) (fun _ _ => ⟨rfl, e1, (by decide : 0 + 0 ≤ _), (by decide : 0 + 0 ≤ _)⟩)
  dsimp only [Pt.U, Pt.locs, Pt.cells, Pt.slots] at X2 l2 y2 z2 st2 hQ2
  subst l2 y2 z2
  obtain ⟨rfl, Nq2, sm2⟩ := hQ2
  have N2 := Fr.app N0 Nq2
  refine own_st st2 ?_
  refine own_st (fun tq kq => XS.pop X2.here hx rfl (hb hby dCI_8) rfl rfl kq) ?_
  obtain ⟨fs, hr, hrun, hended, hW, hsame⟩ := X2.leave (v := none) (fun _ => rfl)
  refine ⟨_, _, X2.returnOut hx Bd.returns (hb hby dCI_9) hr, hrun, hended, _, _, rfl, ?_, ⟨_, rfl⟩, hW, hsame.mono (by decide) (by decide)⟩
  change Q_own_cidx Z i nn .null h0 n0 _ T2.heap _; rw [sm2]; exact ⟨rfl, N2, rfl⟩
 ·
  refine s_iloadN X0 hx (hb hby dCI_0) rfl ?_
  refine s_iloadN X0 hx (hb hby dCI_1) rfl ?_
  obtain ⟨T3, X3, e3, st3⟩ := getS2 X0 hx hZ hown (host := "") (Or.inl (wd69 hw)) Via.refl e0 (O4.ext (X00.keep K0 all0).2) (g := (mkF m 2 #[vI i, vI nn] [(.int nn), (.int i)])) rfl (hb hby dCI_2)
  refine own_st st3 ?_
  obtain ⟨_, _, ⟨T4, L4, k4, n4⟩, -, X4, ⟨Lc4, hQ4, l4, y4, z4⟩, st4⟩ := Jvm.LawKit.callS X3 hx (y := mN11) hown (mvT hZ (wd71 hw)) (mvT hZ (wd72 hw)) (mvT hZ (wd70 hw)) (mvT hZ (wd73 hw)) (by decide) (own_backN (W := 0) (own_pidxR l Z a0 hw [] (i) (nn) (gf) h0 n0 (by omega) (X00.keep K0 all0) h1 h2) hZ (wd73 hw) (wd70 hw) (by decide) (by decide)) (g := (mkF m 5 #[vI i, vI nn] [(.ref gf), (.int nn), (.int i)])) rfl (by rw [hml]; rfl) (argsL := [(.int i), (.int nn), (.ref gf)]) (rest := []) (lenOf own_pd8 rfl) rfl (Nat.le_of_eq rfl) (hb hby dCI_5) (fun _ _ => ⟨rfl, e3, (by decide : 0 + 0 ≤ _), (by decide : 0 + 0 ≤ _)⟩)
  dsimp only [Pt.U, Pt.locs, Pt.cells, Pt.slots] at X4 l4 y4 z4 st4 hQ4
  subst l4 y4 z4
  obtain ⟨rfl, Nq4, sm4⟩ := hQ4
  have N4 := Fr.app N0 Nq4
  refine own_st st4 ?_
  refine own_st (fun tq kq => XS.pop X4.here hx rfl (hb hby dCI_8) rfl rfl kq) ?_
  obtain ⟨fs, hr, hrun, hended, hW, hsame⟩ := X4.leave (v := none) (fun _ => rfl)
  refine ⟨_, _, X4.returnOut hx Bd.returns (hb hby dCI_9) hr, hrun, hended, _, _, rfl, ?_, ⟨_, rfl⟩, hW, hsame.mono (by decide) (by decide)⟩
  change Q_own_cidx Z i nn (.ref gf) h0 n0 _ T4.heap _; rw [sm4]; exact ⟨rfl, N4, rfl⟩

def Q_own_isL (Z : State) (x : Nat) (G1 : Int32) (h0 : Heap) (n0 : Nat) (v : Option Value) (h : Heap) (L : List Loc) : Prop := v = some (.int (0 : Int32)) ∧ Fr n0 L ∧ h = h0
theorem ef_own_isL (m : MethodId) (x0 : Nat) : entryFrame m #[(.ref x0)] 1 = mkF m 0 #[.val (.ref x0)] [] := by first | (simp [entryFrame, mkF, argsToLocals, Value.category]; done) | rfl
theorem own_isL (l : Launch) (Z : State) (a0 : Array Value) (hw : hWt a0 Z) (ws : List Jvm.Cond) (x : Nat) (G1 : Int32) (h0 : Heap) (n0 : Nat) (Z0 : n0 ≤ h0.size) (X00 : Old Z n0 h0) (Fc : Fld Z h0 x "java/lang/String" "coder" "B" (.int (1 : Int32))) (O2 : Sta Z Z.heap "java/lang/String" "COMPACT_STRINGS" "Z" (.int G1)) (P5 : ¬ (G1 = (0 : Int32))) :
    MetFree l mN13 (head1 (Jvm.Cond.code mN13 jdk_42_method_154_code 1 (some .boolean) :: ws) rm_0_0_0_0) (fun av_ U => av_ = #[(.ref x)] ∧ Z.Warmed39 U.vm ∧ U.heap = h0) (fun _ _ _ _ _ => True) (own_EN (Q_own_isL Z x G1 h0 n0) rm_0_0_0_0) := by
 refine MetFree.of_bodySF (plainFor_of_name own_pn0) hisR ?_
 intro p e s m args below meth c s₁ Bd hml0 hP hK
 obtain ⟨rfl, hZ, hh⟩ := hP
 have hx := Bd.exec
 have hby := Bd.bytes
 have hml : c.maxLocals = 1 := hml0
 have hown : s.vm.findClass "java/lang/String" = some m.cls := findClass_of_methodNamed Bd.named
 have X0 : Stand p l e rm_0_0_0_0 s m _ below meth c s₁ [] 0 0 := Stand.of_body Bd
 have e0 : s₁.heap = h0 := by rw [← hh, Bd.state]; rfl
 have N0 := Fr.nil n0
 have K0 : Keep h0 h0 [] := Keep.refl h0 []
 refine show own_G p e below (own_EN (Q_own_isL Z x G1 h0 n0) rm_0_0_0_0 #[(.ref x)] s) _ from ?_
 refine own_st (fun tq kq => castTop (ef_own_isL m (x)) kq) ?_
 show own_G p e below _ (s₁.setTop (mkF m 0 #[vR x] []))
 obtain ⟨T1, X1, e1, st1⟩ := getS2 X0 hx hZ hown (host := "") (Or.inl (wd37 hw)) Via.refl e0 (O2.ext (X00.keep K0 all0).2) (g := (mkF m 0 #[vR x] [])) rfl (hb hby dIL_0)
 refine own_st st1 ?_
 refine own_st (fun tq kq => XS.ifNo X1.here hx rfl (hb hby dIL_3) rfl ((if0 _ _).trans (feq P5).1) kq) ?_
 refine s_aloadN X1 hx (hb hby dIL_6) rfl rfl ?_
 obtain ⟨T2, X2, e2, st2⟩ := getF X1 hx hZ hown (host := "") (Or.inl (wd22 hw)) Via.refl e1 Fc (g := (mkF m 7 #[vR x] [(.ref x)])) rfl rfl (hb hby dIL_7)
 refine own_st st2 ?_
 refine own_st (fun tq kq => XS.ifYes X2.here hx rfl (pc0 := 10) (pc' := 17) rfl (hb hby dIL_10) rfl ((if0 _ _).trans (feq (by decide : ¬ ((1 : Int32) = (0 : Int32)))).2) (by decide) (by decide) kq) ?_
 refine s_iconst X2 hx (hb hby dIL_17) ?_
 show own_G p e below _ (T2.setTop (mkF m 18 #[vR x] [(.int 0)]))
 obtain ⟨fs, hr, hrun, hended, hW, hsame⟩ := X2.leave (v := some (.int 0)) (fun h => by rw [Bd.returns] at h; cases h)
 refine ⟨_, _, retN X2 hx (t := .boolean) Bd.returns (by simp) (hb hby dIL_18) hr, hrun, hended, _, _, rfl, ?_, ⟨_, rfl⟩, hW, hsame.mono (by decide) (by decide)⟩
 change Q_own_isL Z x G1 h0 n0 _ T2.heap _; rw [e2]; exact ⟨rfl, N0, rfl⟩

def Q_own_uidx1 (Z : State) (i : Int32) (t : Nat) (kb : ClassId) (fm : Value) (c0 : Int32) (h0 : Heap) (n0 : Nat) (v : Option Value) (h : Heap) (L : List Loc) : Prop := v = none ∧ Fr n0 L ∧ h = h0
theorem ef_own_uidx1 (m : MethodId) (x0 : Int32) (x1 : Nat) : entryFrame m #[(.int x0), (.ref x1)] 2 = mkF m 0 #[.val (.int x0), .val (.ref x1)] [] := by first | (simp [entryFrame, mkF, argsToLocals, Value.category]; done) | rfl
theorem own_uidx1 (l : Launch) (Z : State) (a0 : Array Value) (hw : hWt a0 Z) (ws : List Jvm.Cond) (i : Int32) (t : Nat) (kb : ClassId) (fm : Value) (c0 : Int32) (h0 : Heap) (n0 : Nat) (Z0 : n0 ≤ h0.size) (X00 : Old Z n0 h0) (O4 : o4 Z fm) (rfm : fm.isRef = true) (Vt : Arv Z h0 t kb .byte (2 : Int32) [.int (L8 c0), .int (H8 c0)] (.int 0)) (h1 : ¬ i < (0 : Int32)) (h2 : i < (1 : Int32)) :
    MetFree l mN14 (head1 (Jvm.Cond.code mN14 jdk_52_method_91_code 2 none :: ws) rm_2_0_0_40) (fun av_ U => av_ = #[(.int i), (.ref t)] ∧ Z.Warmed39 U.vm ∧ U.heap = h0) (fun _ _ _ _ _ => True) (own_EN (Q_own_uidx1 Z i t kb fm c0 h0 n0) rm_2_0_0_40) := by
 refine MetFree.of_bodySF (plainFor_of_name own_pn1) hisR ?_
 intro p e s m args below meth c s₁ Bd hml0 hP hK
 obtain ⟨rfl, hZ, hh⟩ := hP
 have hx := Bd.exec
 have hby := Bd.bytes
 have hml : c.maxLocals = 2 := hml0
 have hown : s.vm.findClass "java/lang/StringUTF16" = some m.cls := findClass_of_methodNamed Bd.named
 have X0 : Stand p l e rm_2_0_0_40 s m _ below meth c s₁ [] 0 0 := Stand.of_body Bd
 have e0 : s₁.heap = h0 := by rw [← hh, Bd.state]; rfl
 have N0 := Fr.nil n0
 have K0 : Keep h0 h0 [] := Keep.refl h0 []
 refine show own_G p e below (own_EN (Q_own_uidx1 Z i t kb fm c0 h0 n0) rm_2_0_0_40 #[(.int i), (.ref t)] s) _ from ?_
 refine own_st (fun tq kq => castTop (ef_own_uidx1 m (i) (t)) kq) ?_
 show own_G p e below _ (s₁.setTop (mkF m 0 #[vI i, vR t] []))
 refine s_iloadN X0 hx (hb hby dUI_0) rfl ?_
 refine s_aloadN X0 hx (hb hby dUI_1) rfl rfl ?_
 obtain ⟨_, _, ⟨T1, L1, k1, n1⟩, -, X1, ⟨Lc1, hQ1, l1, y1, z1⟩, st1⟩ := Jvm.LawKit.callS X0 hx (y := mN3) hown (mvT hZ (wd99 hw)) (mvT hZ (wd100 hw)) (mvT hZ (wd40 hw)) (mvT hZ (wd101 hw)) (by decide) (own_backN (W := 1) (own_ulen1 l Z a0 hw [] (t) (_) (_) h0 n0 (by omega) (X00.keep K0 all0) Vt) hZ (wd101 hw) (wd40 hw) (by decide) (by decide)) (g := (mkF m 2 #[vI i, vR t] [(.ref t), (.int i)])) rfl (by rw [hml]; rfl) (argsL := [(.ref t)]) (rest := [(.int i)]) (lenOf own_pd9 rfl) rfl (Nat.le_of_eq rfl) (hb hby dUI_2) (fun _ _ => ⟨rfl, e0, (by decide : 0 + 0 ≤ _), (by decide : 0 + 0 ≤ _)⟩)
 dsimp only [Pt.U, Pt.locs, Pt.cells, Pt.slots] at X1 l1 y1 z1 st1 hQ1
 subst l1 y1 z1
 obtain ⟨rfl, Nq1, sm1⟩ := hQ1
 have N1 := Fr.app N0 Nq1
 refine own_st st1 ?_
 obtain ⟨_, _, ⟨T2, L2, k2, n2⟩, -, X2, ⟨Lc2, hQ2, l2, y2, z2⟩, st2⟩ := Jvm.LawKit.callS X1 hx (y := mN12) hown (mvT hZ (wd102 hw)) (mvT hZ (wd67 hw)) (mvT hZ (wd4 hw)) (mvT hZ (wd68 hw)) (by decide) (own_backN (W := 0) (own_cidx l Z a0 hw [] (i) ((1 : Int32)) (fm) h0 n0 (by omega) (X00.keep K0 all0) O4 rfm h1 h2) hZ (wd68 hw) (wd4 hw) (by decide) (by decide)) (g := (mkF m 5 #[vI i, vR t] [(.int 1), (.int i)])) rfl (by rw [hml]; rfl) (argsL := [(.int i), (.int 1)]) (rest := []) (lenOf own_pd10 rfl) rfl (Nat.le_of_eq rfl) (hb hby dUI_5) (fun _ _ => ⟨rfl, sm1, (by decide : 0 + 0 ≤ _), (by decide : 0 + 0 ≤ _)⟩)
 dsimp only [Pt.U, Pt.locs, Pt.cells, Pt.slots] at X2 l2 y2 z2 st2 hQ2
 subst l2 y2 z2
 obtain ⟨rfl, Nq2, sm2⟩ := hQ2
 have N2 := Fr.app N1 Nq2
 refine own_st st2 ?_
 obtain ⟨fs, hr, hrun, hended, hW, hsame⟩ := X2.leave (v := none) (fun _ => rfl)
 refine ⟨_, _, X2.returnOut hx Bd.returns (hb hby dUI_8) hr, hrun, hended, _, _, rfl, ?_, ⟨_, rfl⟩, hW, hsame.mono (by decide) (by decide)⟩
 change Q_own_uidx1 Z i t kb fm c0 h0 n0 _ T2.heap _; rw [sm2]; exact ⟨rfl, N2, rfl⟩

def Q_own_uch1_0 (Z : State) (t : Nat) (kb : ClassId) (fm : Value) (c0 : Int32) (h0 : Heap) (n0 : Nat) (v : Option Value) (h : Heap) (L : List Loc) : Prop := v = some (.int c0) ∧ Fr n0 L ∧ h = h0
theorem ef_own_uch1_0 (m : MethodId) (x0 : Nat) : entryFrame m #[(.ref x0), (.int 0)] 2 = mkF m 0 #[.val (.ref x0), .val (.int 0)] [] := by first | (simp [entryFrame, mkF, argsToLocals, Value.category]; done) | rfl
theorem own_uch1_0 (l : Launch) (Z : State) (a0 : Array Value) (hw : hWt a0 Z) (ws : List Jvm.Cond) (t : Nat) (kb : ClassId) (fm : Value) (c0 : Int32) (h0 : Heap) (n0 : Nat) (Z0 : n0 ≤ h0.size) (X00 : Old Z n0 h0) (OA : oA Z) (OH : oH Z) (OL : oL Z) (O4 : o4 Z fm) (rfm : fm.isRef = true) (Vt : Arv Z h0 t kb .byte (2 : Int32) [.int (L8 c0), .int (H8 c0)] (.int 0)) (hbi : ¬ c0 < 0 ∧ ¬ (65535 : Int32) < c0) :
    MetFree l mN15 (head1 (Jvm.Cond.code mN15 jdk_52_method_83_code 2 (some .char) :: ws) rm_3_0_0_60) (fun av_ U => av_ = #[(.ref t), (.int 0)] ∧ Z.Warmed39 U.vm ∧ U.heap = h0) (fun _ _ _ _ _ => True) (own_EN (Q_own_uch1_0 Z t kb fm c0 h0 n0) rm_3_0_0_60) := by
 refine MetFree.of_bodySF (plainFor_of_name own_pn1) hisR ?_
 intro p e s m args below meth c s₁ Bd hml0 hP hK
 obtain ⟨rfl, hZ, hh⟩ := hP
 have hx := Bd.exec
 have hby := Bd.bytes
 have hml : c.maxLocals = 2 := hml0
 have hown : s.vm.findClass "java/lang/StringUTF16" = some m.cls := findClass_of_methodNamed Bd.named
 have X0 : Stand p l e rm_3_0_0_60 s m _ below meth c s₁ [] 0 0 := Stand.of_body Bd
 have e0 : s₁.heap = h0 := by rw [← hh, Bd.state]; rfl
 have N0 := Fr.nil n0
 have K0 : Keep h0 h0 [] := Keep.refl h0 []
 refine show own_G p e below (own_EN (Q_own_uch1_0 Z t kb fm c0 h0 n0) rm_3_0_0_60 #[(.ref t), (.int 0)] s) _ from ?_
 refine own_st (fun tq kq => castTop (ef_own_uch1_0 m (t)) kq) ?_
 show own_G p e below _ (s₁.setTop (mkF m 0 #[vR t, vI 0] []))
 refine s_iloadN X0 hx (hb hby dUC_0) rfl ?_
 refine s_aloadN X0 hx (hb hby dUC_1) rfl rfl ?_
 obtain ⟨_, _, ⟨T1, L1, k1, n1⟩, -, X1, ⟨Lc1, hQ1, l1, y1, z1⟩, st1⟩ := Jvm.LawKit.callS X0 hx (y := mN14) hown (mvT hZ (wd96 hw)) (mvT hZ (wd97 hw)) (mvT hZ (wd40 hw)) (mvT hZ (wd98 hw)) (by decide) (own_backN (W := 0) (own_uidx1 l Z a0 hw [] ((0 : Int32)) (t) (kb) (fm) (c0) h0 n0 (by omega) (X00.keep K0 all0) O4 rfm Vt (by decide) (by decide)) hZ (wd98 hw) (wd40 hw) (by decide) (by decide)) (g := (mkF m 2 #[vR t, vI 0] [(.ref t), (.int 0)])) rfl (by rw [hml]; rfl) (argsL := [(.int 0), (.ref t)]) (rest := []) (lenOf own_pd11 rfl) rfl (Nat.le_of_eq rfl) (hb hby dUC_2) (fun _ _ => ⟨rfl, e0, (by decide : 0 + 0 ≤ _), (by decide : 0 + 0 ≤ _)⟩)
 dsimp only [Pt.U, Pt.locs, Pt.cells, Pt.slots] at X1 l1 y1 z1 st1 hQ1
 subst l1 y1 z1
 obtain ⟨rfl, Nq1, sm1⟩ := hQ1
 have N1 := Fr.app N0 Nq1
 refine own_st st1 ?_
 refine s_aloadN X1 hx (hb hby dUC_5) rfl rfl ?_
 refine s_iloadN X1 hx (hb hby dUC_6) rfl ?_
 obtain ⟨_, _, ⟨T2, L2, k2, n2⟩, -, X2, ⟨Lc2, hQ2, l2, y2, z2⟩, st2⟩ := Jvm.LawKit.callS X1 hx (y := mN2) hown (mvT hZ (wd90 hw)) (mvT hZ (wd91 hw)) (mvT hZ (wd40 hw)) (mvT hZ (wd92 hw)) (by decide) (own_backN (W := 0) (own_get_0 l Z a0 hw [] (t) (_) (_) (_) (_) (_) h0 n0 (by omega) (X00.keep K0 all0) OA OH OL Vt (by decide) (by decide) rfl rfl) hZ (wd92 hw) (wd40 hw) (by decide) (by decide)) (g := (mkF m 7 #[vR t, vI 0] [(.int 0), (.ref t)])) rfl (by rw [hml]; rfl) (argsL := [(.ref t), (.int 0)]) (rest := []) (lenOf own_pd6 rfl) rfl (Nat.le_of_eq rfl) (hb hby dUC_7) (fun _ _ => ⟨rfl, sm1, (by decide : 0 + 0 ≤ _), (by decide : 0 + 0 ≤ _)⟩)
 dsimp only [Pt.U, Pt.locs, Pt.cells, Pt.slots] at X2 l2 y2 z2 st2 hQ2
 subst l2 y2 z2
 obtain ⟨rfl, Nq2, sm2⟩ := hQ2
 have N2 := Fr.app N1 Nq2
 refine own_st st2 ?_
 obtain ⟨fs, hr, hrun, hended, hW, hsame⟩ := X2.leave (v := some (.int (nar .char (StrChars.pairCh (L8 c0) (H8 c0))))) (fun h => by rw [Bd.returns] at h; cases h)
 refine ⟨_, _, retN X2 hx (t := .char) Bd.returns (by simp) (hb hby dUC_10) hr, hrun, hended, _, _, rfl, ?_, ⟨_, rfl⟩, hW, hsame.mono (by decide) (by decide)⟩
 change Q_own_uch1_0 Z t kb fm c0 h0 n0 _ T2.heap _; rw [sm2]; exact ⟨congrArg (fun z => some (Value.int z)) ((own_pairN _ _).trans (StrChars.pair_says hbi.1 hbi.2)), N2, rfl⟩

def Q_own_cha1_0 (Z : State) (x t : Nat) (kb : ClassId) (fm : Value) (G1 : Int32) (c0 : Int32) (h0 : Heap) (n0 : Nat) (v : Option Value) (h : Heap) (L : List Loc) : Prop := v = some (.int c0) ∧ Fr n0 L ∧ h = h0
theorem ef_own_cha1_0 (m : MethodId) (x0 : Nat) : entryFrame m #[(.ref x0), (.int 0)] 2 = mkF m 0 #[.val (.ref x0), .val (.int 0)] [] := by first | (simp [entryFrame, mkF, argsToLocals, Value.category]; done) | rfl
theorem own_cha1_0 (l : Launch) (Z : State) (a0 : Array Value) (hw : hWt a0 Z) (ws : List Jvm.Cond) (x t : Nat) (kb : ClassId) (fm : Value) (G1 : Int32) (c0 : Int32) (h0 : Heap) (n0 : Nat) (Z0 : n0 ≤ h0.size) (X00 : Old Z n0 h0) (Ex : Exa Z h0 x "java/lang/String") (Fv : Fld Z h0 x "java/lang/String" "value" "[B" (.ref t)) (Fc : Fld Z h0 x "java/lang/String" "coder" "B" (.int (1 : Int32))) (O2 : Sta Z Z.heap "java/lang/String" "COMPACT_STRINGS" "Z" (.int G1)) (P5 : ¬ (G1 = (0 : Int32))) (OA : oA Z) (OH : oH Z) (OL : oL Z) (O4 : o4 Z fm) (rfm : fm.isRef = true) (Vt : Arv Z h0 t kb .byte (2 : Int32) [.int (L8 c0), .int (H8 c0)] (.int 0)) (hbi : ¬ c0 < 0 ∧ ¬ (65535 : Int32) < c0) :
    MetFree l mN16 (head1 (Jvm.Cond.code mN16 jdk_42_method_56_code 2 (some .char) :: ws) rm_4_0_0_80) (fun av_ U => av_ = #[(.ref x), (.int 0)] ∧ Z.Warmed39 U.vm ∧ U.heap = h0) (fun _ _ _ _ _ => True) (own_EN (Q_own_cha1_0 Z x t kb fm G1 c0 h0 n0) rm_4_0_0_80) := by
 refine MetFree.of_bodySF (plainFor_of_name own_pn0) hisR ?_
 intro p e s m args below meth c s₁ Bd hml0 hP hK
 obtain ⟨rfl, hZ, hh⟩ := hP
 have hx := Bd.exec
 have hby := Bd.bytes
 have hml : c.maxLocals = 2 := hml0
 have hown : s.vm.findClass "java/lang/String" = some m.cls := findClass_of_methodNamed Bd.named
 have X0 : Stand p l e rm_4_0_0_80 s m _ below meth c s₁ [] 0 0 := Stand.of_body Bd
 have e0 : s₁.heap = h0 := by rw [← hh, Bd.state]; rfl
 have N0 := Fr.nil n0
 have K0 : Keep h0 h0 [] := Keep.refl h0 []
 refine show own_G p e below (own_EN (Q_own_cha1_0 Z x t kb fm G1 c0 h0 n0) rm_4_0_0_80 #[(.ref x), (.int 0)] s) _ from ?_
 refine own_st (fun tq kq => castTop (ef_own_cha1_0 m (x)) kq) ?_
 show own_G p e below _ (s₁.setTop (mkF m 0 #[vR x, vI 0] []))
 refine s_aloadN X0 hx (hb hby dCA_0) rfl rfl ?_
 obtain ⟨cq1, kq1, q1a, q1b, q1c⟩ := isOf hZ e0 Ex
 obtain ⟨_, _, ⟨T1, L1, k1, n1⟩, -, X1, ⟨Lc1, hQ1, l1, y1, z1⟩, st1⟩ := X0.virtualBack hx (y := mN13) (z := mN13) hown (mvT hZ (wd57 hw)) (mvT hZ (wd58 hw)) (notFace_of_selects (args := #[]) (mvT hZ (wd60 hw))) (mvT hZ (wd60 hw)) (mvT hZ (wd59 hw)) (by decide) (own_backN (W := 0) (own_isL l Z a0 hw [] (x) (G1) h0 n0 (by omega) (X00.keep K0 all0) Fc O2 P5) hZ (wd61 hw) (wd4 hw) (by decide) (by decide)) q1a q1c (g := (mkF m 1 #[vR x, vI 0] [(.ref x)])) rfl (by rw [hml]; rfl) (Steps.refl _) (argsL := []) (rest := []) (lenOf own_pd12 rfl) rfl (Nat.le_of_eq rfl) (hb hby dCA_1) (fun _ _ => ⟨rfl, e0, (by decide : 0 + 0 ≤ _), (by decide : 0 + 0 ≤ _)⟩)
 dsimp only [Pt.U, Pt.locs, Pt.cells, Pt.slots] at X1 l1 y1 z1 st1 hQ1
 subst l1 y1 z1
 obtain ⟨rfl, Nq1, sm1⟩ := hQ1
 have N1 := Fr.app N0 Nq1
 refine own_st (fun tq kq => st1.trans kq) ?_
 refine own_st (fun tq kq => XS.ifYes X1.here hx rfl (pc0 := 4) (pc' := 16) rfl (hb hby dCA_4) rfl ((if0 _ _).trans (teq (by decide : ((0 : Int32) = (0 : Int32)))).1) (by decide) (by decide) kq) ?_
 refine s_aloadN X1 hx (hb hby dCA_16) rfl rfl ?_
 obtain ⟨T2, X2, e2, st2⟩ := getF X1 hx hZ hown (host := "") (Or.inl (wd21 hw)) Via.refl sm1 Fv (g := (mkF m 17 #[vR x, vI 0] [(.ref x)])) rfl rfl (hb hby dCA_17)
 refine own_st st2 ?_
 refine s_iloadN X2 hx (hb hby dCA_20) rfl ?_
 obtain ⟨_, _, ⟨T3, L3, k3, n3⟩, -, X3, ⟨Lc3, hQ3, l3, y3, z3⟩, st3⟩ := Jvm.LawKit.callS X2 hx (y := mN15) hown (mvT hZ (wd93 hw)) (mvT hZ (wd94 hw)) (mvT hZ (wd40 hw)) (mvT hZ (wd95 hw)) (by decide) (own_backN (W := 0) (own_uch1_0 l Z a0 hw [] (t) (kb) (fm) (c0) h0 n0 (by omega) (X00.keep K0 all0) OA OH OL O4 rfm Vt hbi) hZ (wd95 hw) (wd40 hw) (by decide) (by decide)) (g := (mkF m 21 #[vR x, vI 0] [(.int 0), (.ref t)])) rfl (by rw [hml]; rfl) (argsL := [(.ref t), (.int 0)]) (rest := []) (lenOf own_pd6 rfl) rfl (Nat.le_of_eq rfl) (hb hby dCA_21) (fun _ _ => ⟨rfl, e2, (by decide : 0 + 0 ≤ _), (by decide : 0 + 0 ≤ _)⟩)
 dsimp only [Pt.U, Pt.locs, Pt.cells, Pt.slots] at X3 l3 y3 z3 st3 hQ3
 subst l3 y3 z3
 obtain ⟨rfl, Nq3, sm3⟩ := hQ3
 have N3 := Fr.app N1 Nq3
 refine own_st st3 ?_
 obtain ⟨fs, hr, hrun, hended, hW, hsame⟩ := X3.leave (v := some (.int (nar .char c0))) (fun h => by rw [Bd.returns] at h; cases h)
 refine ⟨_, _, retN X3 hx (t := .char) Bd.returns (by simp) (hb hby dCA_24) hr, hrun, hended, _, _, rfl, ?_, ⟨_, rfl⟩, hW, hsame.mono (by decide) (by decide)⟩
 change Q_own_cha1_0 Z x t kb fm G1 c0 h0 n0 _ T3.heap _; rw [sm3]; exact ⟨congrArg (fun z => some (Value.int z)) (own_narc hbi), N3, rfl⟩

set_option maxRecDepth 65536 in
set_option maxHeartbeats 40000000 in
theorem own_chU1_0 {p : Program} {l : Launch} {e : Env} {R : Room} {s : State} {args : Array Value} {below : List Frame} {W : Nat} {Z : State} {a0 : Array Value} {h : Heap} (hZ : Z.Warmed39 s.vm) (hw : ∀ d ∈ tables_1, d.before a0 Z = true) {x n n0 : Nat} {c0 : Int32} {G1 : Int32} {fm : Value} (F : own_StrU Z n h x ([c0] : List Int32)) (X00 : Old Z n0 h) (O2 : Sta Z Z.heap "java/lang/String" "COMPACT_STRINGS" "Z" (.int G1)) (P5 : ¬ (G1 = (0 : Int32))) (OA : oA Z) (OH : oH Z) (OL : oL Z) (O4 : o4 Z fm) (rfm : fm.isRef = true) (hfr : 5 ≤ R.frames) (hlo : W + 93 ≤ R.locals) :
    Back l R p e below s args (⟨"java/lang/String", "charAt", "(I)C"⟩ : MethodName) 3 W (fun P a => a = #[.ref x, .int (0 : Int32)] ∧ P.U.heap = h ∧ P.cells + 0 ≤ R.cells ∧ P.slots + 0 ≤ R.slots)
      (fun P _ v B => ∃ L, (v = some (.int c0) ∧ Fr n0 L ∧ B.U.heap = h) ∧ B.locs = P.locs ++ L ∧ B.cells = P.cells + 0 ∧ B.slots = P.slots + 0) := by
  have hh0 : n0 ≤ h.size := by have := X00.1; have := X00.2.1; omega
  obtain ⟨-, E, hb, ln, t, kb, cd, N2, vs, -, V, Cc, A, hc⟩ := F
  rcases id hc with ⟨rfl, rfl, rfl, hl⟩ | ⟨rfl, rfl, rfl, hg⟩
  · refine Back.mono (StrChars.Road.chN (W := W) hZ (own_wCh hw) (kI := 4) (wd3 hw) E V Cc A hc hb (O2.ext X00.2) P5 (O4.ext X00.2) rfm ln (i := 0) (by simp) (j := (0 : Int32)) rfl (by omega) (by omega)) (fun P a q => q) (fun P a v B _ q => ?_)
    obtain ⟨L, ⟨q1, rfl, q3⟩, q4⟩ := q
    exact ⟨[], ⟨q1, Fr.nil n0, q3⟩, q4⟩
  · exact own_backN (W := W) (rm := rm_4_0_0_80) (own_cha1_0 l Z a0 hw [] x t kb fm G1 c0 h n0 hh0 X00 E V Cc O2 P5 OA OH OL O4 rfm A (hb _ (by simp))) hZ (wd56 hw) (wd4 hw) (by show 4 + 1 ≤ _; omega) (by show W + (2 + 11) + 80 ≤ _; omega)

def Q_own_uidx2 (Z : State) (i : Int32) (t : Nat) (kb : ClassId) (fm : Value) (c0 c1 : Int32) (h0 : Heap) (n0 : Nat) (v : Option Value) (h : Heap) (L : List Loc) : Prop := v = none ∧ Fr n0 L ∧ h = h0
theorem ef_own_uidx2 (m : MethodId) (x0 : Int32) (x1 : Nat) : entryFrame m #[(.int x0), (.ref x1)] 2 = mkF m 0 #[.val (.int x0), .val (.ref x1)] [] := by first | (simp [entryFrame, mkF, argsToLocals, Value.category]; done) | rfl
theorem own_uidx2 (l : Launch) (Z : State) (a0 : Array Value) (hw : hWt a0 Z) (ws : List Jvm.Cond) (i : Int32) (t : Nat) (kb : ClassId) (fm : Value) (c0 c1 : Int32) (h0 : Heap) (n0 : Nat) (Z0 : n0 ≤ h0.size) (X00 : Old Z n0 h0) (O4 : o4 Z fm) (rfm : fm.isRef = true) (Vt : Arv Z h0 t kb .byte (4 : Int32) [.int (L8 c0), .int (H8 c0), .int (L8 c1), .int (H8 c1)] (.int 0)) (h1 : ¬ i < (0 : Int32)) (h2 : i < (2 : Int32)) :
    MetFree l mN14 (head1 (Jvm.Cond.code mN14 jdk_52_method_91_code 2 none :: ws) rm_2_0_0_40) (fun av_ U => av_ = #[(.int i), (.ref t)] ∧ Z.Warmed39 U.vm ∧ U.heap = h0) (fun _ _ _ _ _ => True) (own_EN (Q_own_uidx2 Z i t kb fm c0 c1 h0 n0) rm_2_0_0_40) := by
 refine MetFree.of_bodySF (plainFor_of_name own_pn1) hisR ?_
 intro p e s m args below meth c s₁ Bd hml0 hP hK
 obtain ⟨rfl, hZ, hh⟩ := hP
 have hx := Bd.exec
 have hby := Bd.bytes
 have hml : c.maxLocals = 2 := hml0
 have hown : s.vm.findClass "java/lang/StringUTF16" = some m.cls := findClass_of_methodNamed Bd.named
 have X0 : Stand p l e rm_2_0_0_40 s m _ below meth c s₁ [] 0 0 := Stand.of_body Bd
 have e0 : s₁.heap = h0 := by rw [← hh, Bd.state]; rfl
 have N0 := Fr.nil n0
 have K0 : Keep h0 h0 [] := Keep.refl h0 []
 refine show own_G p e below (own_EN (Q_own_uidx2 Z i t kb fm c0 c1 h0 n0) rm_2_0_0_40 #[(.int i), (.ref t)] s) _ from ?_
 refine own_st (fun tq kq => castTop (ef_own_uidx2 m (i) (t)) kq) ?_
 show own_G p e below _ (s₁.setTop (mkF m 0 #[vI i, vR t] []))
 refine s_iloadN X0 hx (hb hby dUI_0) rfl ?_
 refine s_aloadN X0 hx (hb hby dUI_1) rfl rfl ?_
 obtain ⟨_, _, ⟨T1, L1, k1, n1⟩, -, X1, ⟨Lc1, hQ1, l1, y1, z1⟩, st1⟩ := Jvm.LawKit.callS X0 hx (y := mN3) hown (mvT hZ (wd99 hw)) (mvT hZ (wd100 hw)) (mvT hZ (wd40 hw)) (mvT hZ (wd101 hw)) (by decide) (own_backN (W := 1) (own_ulen2 l Z a0 hw [] (t) (_) (_) h0 n0 (by omega) (X00.keep K0 all0) Vt) hZ (wd101 hw) (wd40 hw) (by decide) (by decide)) (g := (mkF m 2 #[vI i, vR t] [(.ref t), (.int i)])) rfl (by rw [hml]; rfl) (argsL := [(.ref t)]) (rest := [(.int i)]) (lenOf own_pd9 rfl) rfl (Nat.le_of_eq rfl) (hb hby dUI_2) (fun _ _ => ⟨rfl, e0, (by decide : 0 + 0 ≤ _), (by decide : 0 + 0 ≤ _)⟩)
 dsimp only [Pt.U, Pt.locs, Pt.cells, Pt.slots] at X1 l1 y1 z1 st1 hQ1
 subst l1 y1 z1
 obtain ⟨rfl, Nq1, sm1⟩ := hQ1
 have N1 := Fr.app N0 Nq1
 refine own_st st1 ?_
 obtain ⟨_, _, ⟨T2, L2, k2, n2⟩, -, X2, ⟨Lc2, hQ2, l2, y2, z2⟩, st2⟩ := Jvm.LawKit.callS X1 hx (y := mN12) hown (mvT hZ (wd102 hw)) (mvT hZ (wd67 hw)) (mvT hZ (wd4 hw)) (mvT hZ (wd68 hw)) (by decide) (own_backN (W := 0) (own_cidx l Z a0 hw [] (i) ((2 : Int32)) (fm) h0 n0 (by omega) (X00.keep K0 all0) O4 rfm h1 h2) hZ (wd68 hw) (wd4 hw) (by decide) (by decide)) (g := (mkF m 5 #[vI i, vR t] [(.int 2), (.int i)])) rfl (by rw [hml]; rfl) (argsL := [(.int i), (.int 2)]) (rest := []) (lenOf own_pd10 rfl) rfl (Nat.le_of_eq rfl) (hb hby dUI_5) (fun _ _ => ⟨rfl, sm1, (by decide : 0 + 0 ≤ _), (by decide : 0 + 0 ≤ _)⟩)
 dsimp only [Pt.U, Pt.locs, Pt.cells, Pt.slots] at X2 l2 y2 z2 st2 hQ2
 subst l2 y2 z2
 obtain ⟨rfl, Nq2, sm2⟩ := hQ2
 have N2 := Fr.app N1 Nq2
 refine own_st st2 ?_
 obtain ⟨fs, hr, hrun, hended, hW, hsame⟩ := X2.leave (v := none) (fun _ => rfl)
 refine ⟨_, _, X2.returnOut hx Bd.returns (hb hby dUI_8) hr, hrun, hended, _, _, rfl, ?_, ⟨_, rfl⟩, hW, hsame.mono (by decide) (by decide)⟩
 change Q_own_uidx2 Z i t kb fm c0 c1 h0 n0 _ T2.heap _; rw [sm2]; exact ⟨rfl, N2, rfl⟩

def Q_own_uch2_0 (Z : State) (t : Nat) (kb : ClassId) (fm : Value) (c0 c1 : Int32) (h0 : Heap) (n0 : Nat) (v : Option Value) (h : Heap) (L : List Loc) : Prop := v = some (.int c0) ∧ Fr n0 L ∧ h = h0
theorem ef_own_uch2_0 (m : MethodId) (x0 : Nat) : entryFrame m #[(.ref x0), (.int 0)] 2 = mkF m 0 #[.val (.ref x0), .val (.int 0)] [] := by first | (simp [entryFrame, mkF, argsToLocals, Value.category]; done) | rfl
theorem own_uch2_0 (l : Launch) (Z : State) (a0 : Array Value) (hw : hWt a0 Z) (ws : List Jvm.Cond) (t : Nat) (kb : ClassId) (fm : Value) (c0 c1 : Int32) (h0 : Heap) (n0 : Nat) (Z0 : n0 ≤ h0.size) (X00 : Old Z n0 h0) (OA : oA Z) (OH : oH Z) (OL : oL Z) (O4 : o4 Z fm) (rfm : fm.isRef = true) (Vt : Arv Z h0 t kb .byte (4 : Int32) [.int (L8 c0), .int (H8 c0), .int (L8 c1), .int (H8 c1)] (.int 0)) (hbi : ¬ c0 < 0 ∧ ¬ (65535 : Int32) < c0) :
    MetFree l mN15 (head1 (Jvm.Cond.code mN15 jdk_52_method_83_code 2 (some .char) :: ws) rm_3_0_0_60) (fun av_ U => av_ = #[(.ref t), (.int 0)] ∧ Z.Warmed39 U.vm ∧ U.heap = h0) (fun _ _ _ _ _ => True) (own_EN (Q_own_uch2_0 Z t kb fm c0 c1 h0 n0) rm_3_0_0_60) := by
 refine MetFree.of_bodySF (plainFor_of_name own_pn1) hisR ?_
 intro p e s m args below meth c s₁ Bd hml0 hP hK
 obtain ⟨rfl, hZ, hh⟩ := hP
 have hx := Bd.exec
 have hby := Bd.bytes
 have hml : c.maxLocals = 2 := hml0
 have hown : s.vm.findClass "java/lang/StringUTF16" = some m.cls := findClass_of_methodNamed Bd.named
 have X0 : Stand p l e rm_3_0_0_60 s m _ below meth c s₁ [] 0 0 := Stand.of_body Bd
 have e0 : s₁.heap = h0 := by rw [← hh, Bd.state]; rfl
 have N0 := Fr.nil n0
 have K0 : Keep h0 h0 [] := Keep.refl h0 []
 refine show own_G p e below (own_EN (Q_own_uch2_0 Z t kb fm c0 c1 h0 n0) rm_3_0_0_60 #[(.ref t), (.int 0)] s) _ from ?_
 refine own_st (fun tq kq => castTop (ef_own_uch2_0 m (t)) kq) ?_
 show own_G p e below _ (s₁.setTop (mkF m 0 #[vR t, vI 0] []))
 refine s_iloadN X0 hx (hb hby dUC_0) rfl ?_
 refine s_aloadN X0 hx (hb hby dUC_1) rfl rfl ?_
 obtain ⟨_, _, ⟨T1, L1, k1, n1⟩, -, X1, ⟨Lc1, hQ1, l1, y1, z1⟩, st1⟩ := Jvm.LawKit.callS X0 hx (y := mN14) hown (mvT hZ (wd96 hw)) (mvT hZ (wd97 hw)) (mvT hZ (wd40 hw)) (mvT hZ (wd98 hw)) (by decide) (own_backN (W := 0) (own_uidx2 l Z a0 hw [] ((0 : Int32)) (t) (kb) (fm) (c0) (c1) h0 n0 (by omega) (X00.keep K0 all0) O4 rfm Vt (by decide) (by decide)) hZ (wd98 hw) (wd40 hw) (by decide) (by decide)) (g := (mkF m 2 #[vR t, vI 0] [(.ref t), (.int 0)])) rfl (by rw [hml]; rfl) (argsL := [(.int 0), (.ref t)]) (rest := []) (lenOf own_pd11 rfl) rfl (Nat.le_of_eq rfl) (hb hby dUC_2) (fun _ _ => ⟨rfl, e0, (by decide : 0 + 0 ≤ _), (by decide : 0 + 0 ≤ _)⟩)
 dsimp only [Pt.U, Pt.locs, Pt.cells, Pt.slots] at X1 l1 y1 z1 st1 hQ1
 subst l1 y1 z1
 obtain ⟨rfl, Nq1, sm1⟩ := hQ1
 have N1 := Fr.app N0 Nq1
 refine own_st st1 ?_
 refine s_aloadN X1 hx (hb hby dUC_5) rfl rfl ?_
 refine s_iloadN X1 hx (hb hby dUC_6) rfl ?_
 obtain ⟨_, _, ⟨T2, L2, k2, n2⟩, -, X2, ⟨Lc2, hQ2, l2, y2, z2⟩, st2⟩ := Jvm.LawKit.callS X1 hx (y := mN2) hown (mvT hZ (wd90 hw)) (mvT hZ (wd91 hw)) (mvT hZ (wd40 hw)) (mvT hZ (wd92 hw)) (by decide) (own_backN (W := 0) (own_get_0 l Z a0 hw [] (t) (_) (_) (_) (_) (_) h0 n0 (by omega) (X00.keep K0 all0) OA OH OL Vt (by decide) (by decide) rfl rfl) hZ (wd92 hw) (wd40 hw) (by decide) (by decide)) (g := (mkF m 7 #[vR t, vI 0] [(.int 0), (.ref t)])) rfl (by rw [hml]; rfl) (argsL := [(.ref t), (.int 0)]) (rest := []) (lenOf own_pd6 rfl) rfl (Nat.le_of_eq rfl) (hb hby dUC_7) (fun _ _ => ⟨rfl, sm1, (by decide : 0 + 0 ≤ _), (by decide : 0 + 0 ≤ _)⟩)
 dsimp only [Pt.U, Pt.locs, Pt.cells, Pt.slots] at X2 l2 y2 z2 st2 hQ2
 subst l2 y2 z2
 obtain ⟨rfl, Nq2, sm2⟩ := hQ2
 have N2 := Fr.app N1 Nq2
 refine own_st st2 ?_
 obtain ⟨fs, hr, hrun, hended, hW, hsame⟩ := X2.leave (v := some (.int (nar .char (StrChars.pairCh (L8 c0) (H8 c0))))) (fun h => by rw [Bd.returns] at h; cases h)
 refine ⟨_, _, retN X2 hx (t := .char) Bd.returns (by simp) (hb hby dUC_10) hr, hrun, hended, _, _, rfl, ?_, ⟨_, rfl⟩, hW, hsame.mono (by decide) (by decide)⟩
 change Q_own_uch2_0 Z t kb fm c0 c1 h0 n0 _ T2.heap _; rw [sm2]; exact ⟨congrArg (fun z => some (Value.int z)) ((own_pairN _ _).trans (StrChars.pair_says hbi.1 hbi.2)), N2, rfl⟩

def Q_own_cha2_0 (Z : State) (x t : Nat) (kb : ClassId) (fm : Value) (G1 : Int32) (c0 c1 : Int32) (h0 : Heap) (n0 : Nat) (v : Option Value) (h : Heap) (L : List Loc) : Prop := v = some (.int c0) ∧ Fr n0 L ∧ h = h0
theorem ef_own_cha2_0 (m : MethodId) (x0 : Nat) : entryFrame m #[(.ref x0), (.int 0)] 2 = mkF m 0 #[.val (.ref x0), .val (.int 0)] [] := by first | (simp [entryFrame, mkF, argsToLocals, Value.category]; done) | rfl
theorem own_cha2_0 (l : Launch) (Z : State) (a0 : Array Value) (hw : hWt a0 Z) (ws : List Jvm.Cond) (x t : Nat) (kb : ClassId) (fm : Value) (G1 : Int32) (c0 c1 : Int32) (h0 : Heap) (n0 : Nat) (Z0 : n0 ≤ h0.size) (X00 : Old Z n0 h0) (Ex : Exa Z h0 x "java/lang/String") (Fv : Fld Z h0 x "java/lang/String" "value" "[B" (.ref t)) (Fc : Fld Z h0 x "java/lang/String" "coder" "B" (.int (1 : Int32))) (O2 : Sta Z Z.heap "java/lang/String" "COMPACT_STRINGS" "Z" (.int G1)) (P5 : ¬ (G1 = (0 : Int32))) (OA : oA Z) (OH : oH Z) (OL : oL Z) (O4 : o4 Z fm) (rfm : fm.isRef = true) (Vt : Arv Z h0 t kb .byte (4 : Int32) [.int (L8 c0), .int (H8 c0), .int (L8 c1), .int (H8 c1)] (.int 0)) (hbi : ¬ c0 < 0 ∧ ¬ (65535 : Int32) < c0) :
    MetFree l mN16 (head1 (Jvm.Cond.code mN16 jdk_42_method_56_code 2 (some .char) :: ws) rm_4_0_0_80) (fun av_ U => av_ = #[(.ref x), (.int 0)] ∧ Z.Warmed39 U.vm ∧ U.heap = h0) (fun _ _ _ _ _ => True) (own_EN (Q_own_cha2_0 Z x t kb fm G1 c0 c1 h0 n0) rm_4_0_0_80) := by
 refine MetFree.of_bodySF (plainFor_of_name own_pn0) hisR ?_
 intro p e s m args below meth c s₁ Bd hml0 hP hK
 obtain ⟨rfl, hZ, hh⟩ := hP
 have hx := Bd.exec
 have hby := Bd.bytes
 have hml : c.maxLocals = 2 := hml0
 have hown : s.vm.findClass "java/lang/String" = some m.cls := findClass_of_methodNamed Bd.named
 have X0 : Stand p l e rm_4_0_0_80 s m _ below meth c s₁ [] 0 0 := Stand.of_body Bd
 have e0 : s₁.heap = h0 := by rw [← hh, Bd.state]; rfl
 have N0 := Fr.nil n0
 have K0 : Keep h0 h0 [] := Keep.refl h0 []
 refine show own_G p e below (own_EN (Q_own_cha2_0 Z x t kb fm G1 c0 c1 h0 n0) rm_4_0_0_80 #[(.ref x), (.int 0)] s) _ from ?_
 refine own_st (fun tq kq => castTop (ef_own_cha2_0 m (x)) kq) ?_
 show own_G p e below _ (s₁.setTop (mkF m 0 #[vR x, vI 0] []))
 refine s_aloadN X0 hx (hb hby dCA_0) rfl rfl ?_
 obtain ⟨cq1, kq1, q1a, q1b, q1c⟩ := isOf hZ e0 Ex
 obtain ⟨_, _, ⟨T1, L1, k1, n1⟩, -, X1, ⟨Lc1, hQ1, l1, y1, z1⟩, st1⟩ := X0.virtualBack hx (y := mN13) (z := mN13) hown (mvT hZ (wd57 hw)) (mvT hZ (wd58 hw)) (notFace_of_selects (args := #[]) (mvT hZ (wd60 hw))) (mvT hZ (wd60 hw)) (mvT hZ (wd59 hw)) (by decide) (own_backN (W := 0) (own_isL l Z a0 hw [] (x) (G1) h0 n0 (by omega) (X00.keep K0 all0) Fc O2 P5) hZ (wd61 hw) (wd4 hw) (by decide) (by decide)) q1a q1c (g := (mkF m 1 #[vR x, vI 0] [(.ref x)])) rfl (by rw [hml]; rfl) (Steps.refl _) (argsL := []) (rest := []) (lenOf own_pd12 rfl) rfl (Nat.le_of_eq rfl) (hb hby dCA_1) (fun _ _ => ⟨rfl, e0, (by decide : 0 + 0 ≤ _), (by decide : 0 + 0 ≤ _)⟩)
 dsimp only [Pt.U, Pt.locs, Pt.cells, Pt.slots] at X1 l1 y1 z1 st1 hQ1
 subst l1 y1 z1
 obtain ⟨rfl, Nq1, sm1⟩ := hQ1
 have N1 := Fr.app N0 Nq1
 refine own_st (fun tq kq => st1.trans kq) ?_
 refine own_st (fun tq kq => XS.ifYes X1.here hx rfl (pc0 := 4) (pc' := 16) rfl (hb hby dCA_4) rfl ((if0 _ _).trans (teq (by decide : ((0 : Int32) = (0 : Int32)))).1) (by decide) (by decide) kq) ?_
 refine s_aloadN X1 hx (hb hby dCA_16) rfl rfl ?_
 obtain ⟨T2, X2, e2, st2⟩ := getF X1 hx hZ hown (host := "") (Or.inl (wd21 hw)) Via.refl sm1 Fv (g := (mkF m 17 #[vR x, vI 0] [(.ref x)])) rfl rfl (hb hby dCA_17)
 refine own_st st2 ?_
 refine s_iloadN X2 hx (hb hby dCA_20) rfl ?_
 obtain ⟨_, _, ⟨T3, L3, k3, n3⟩, -, X3, ⟨Lc3, hQ3, l3, y3, z3⟩, st3⟩ := Jvm.LawKit.callS X2 hx (y := mN15) hown (mvT hZ (wd93 hw)) (mvT hZ (wd94 hw)) (mvT hZ (wd40 hw)) (mvT hZ (wd95 hw)) (by decide) (own_backN (W := 0) (own_uch2_0 l Z a0 hw [] (t) (kb) (fm) (c0) (c1) h0 n0 (by omega) (X00.keep K0 all0) OA OH OL O4 rfm Vt hbi) hZ (wd95 hw) (wd40 hw) (by decide) (by decide)) (g := (mkF m 21 #[vR x, vI 0] [(.int 0), (.ref t)])) rfl (by rw [hml]; rfl) (argsL := [(.ref t), (.int 0)]) (rest := []) (lenOf own_pd6 rfl) rfl (Nat.le_of_eq rfl) (hb hby dCA_21) (fun _ _ => ⟨rfl, e2, (by decide : 0 + 0 ≤ _), (by decide : 0 + 0 ≤ _)⟩)
 dsimp only [Pt.U, Pt.locs, Pt.cells, Pt.slots] at X3 l3 y3 z3 st3 hQ3
 subst l3 y3 z3
 obtain ⟨rfl, Nq3, sm3⟩ := hQ3
 have N3 := Fr.app N1 Nq3
 refine own_st st3 ?_
 obtain ⟨fs, hr, hrun, hended, hW, hsame⟩ := X3.leave (v := some (.int (nar .char c0))) (fun h => by rw [Bd.returns] at h; cases h)
 refine ⟨_, _, retN X3 hx (t := .char) Bd.returns (by simp) (hb hby dCA_24) hr, hrun, hended, _, _, rfl, ?_, ⟨_, rfl⟩, hW, hsame.mono (by decide) (by decide)⟩
 change Q_own_cha2_0 Z x t kb fm G1 c0 c1 h0 n0 _ T3.heap _; rw [sm3]; exact ⟨congrArg (fun z => some (Value.int z)) (own_narc hbi), N3, rfl⟩

set_option maxRecDepth 65536 in
set_option maxHeartbeats 40000000 in
theorem own_chU2_0 {p : Program} {l : Launch} {e : Env} {R : Room} {s : State} {args : Array Value} {below : List Frame} {W : Nat} {Z : State} {a0 : Array Value} {h : Heap} (hZ : Z.Warmed39 s.vm) (hw : ∀ d ∈ tables_1, d.before a0 Z = true) {x n n0 : Nat} {c0 c1 : Int32} {G1 : Int32} {fm : Value} (F : own_StrU Z n h x ([c0, c1] : List Int32)) (X00 : Old Z n0 h) (O2 : Sta Z Z.heap "java/lang/String" "COMPACT_STRINGS" "Z" (.int G1)) (P5 : ¬ (G1 = (0 : Int32))) (OA : oA Z) (OH : oH Z) (OL : oL Z) (O4 : o4 Z fm) (rfm : fm.isRef = true) (hfr : 5 ≤ R.frames) (hlo : W + 93 ≤ R.locals) :
    Back l R p e below s args (⟨"java/lang/String", "charAt", "(I)C"⟩ : MethodName) 3 W (fun P a => a = #[.ref x, .int (0 : Int32)] ∧ P.U.heap = h ∧ P.cells + 0 ≤ R.cells ∧ P.slots + 0 ≤ R.slots)
      (fun P _ v B => ∃ L, (v = some (.int c0) ∧ Fr n0 L ∧ B.U.heap = h) ∧ B.locs = P.locs ++ L ∧ B.cells = P.cells + 0 ∧ B.slots = P.slots + 0) := by
  have hh0 : n0 ≤ h.size := by have := X00.1; have := X00.2.1; omega
  obtain ⟨-, E, hb, ln, t, kb, cd, N2, vs, -, V, Cc, A, hc⟩ := F
  rcases id hc with ⟨rfl, rfl, rfl, hl⟩ | ⟨rfl, rfl, rfl, hg⟩
  · refine Back.mono (StrChars.Road.chN (W := W) hZ (own_wCh hw) (kI := 4) (wd3 hw) E V Cc A hc hb (O2.ext X00.2) P5 (O4.ext X00.2) rfm ln (i := 0) (by simp) (j := (0 : Int32)) rfl (by omega) (by omega)) (fun P a q => q) (fun P a v B _ q => ?_)
    obtain ⟨L, ⟨q1, rfl, q3⟩, q4⟩ := q
    exact ⟨[], ⟨q1, Fr.nil n0, q3⟩, q4⟩
  · exact own_backN (W := W) (rm := rm_4_0_0_80) (own_cha2_0 l Z a0 hw [] x t kb fm G1 c0 c1 h n0 hh0 X00 E V Cc O2 P5 OA OH OL O4 rfm A (hb _ (by simp))) hZ (wd56 hw) (wd4 hw) (by show 4 + 1 ≤ _; omega) (by show W + (2 + 11) + 80 ≤ _; omega)

def Q_own_uch2_1 (Z : State) (t : Nat) (kb : ClassId) (fm : Value) (c0 c1 : Int32) (h0 : Heap) (n0 : Nat) (v : Option Value) (h : Heap) (L : List Loc) : Prop := v = some (.int c1) ∧ Fr n0 L ∧ h = h0
theorem ef_own_uch2_1 (m : MethodId) (x0 : Nat) : entryFrame m #[(.ref x0), (.int 1)] 2 = mkF m 0 #[.val (.ref x0), .val (.int 1)] [] := by first | (simp [entryFrame, mkF, argsToLocals, Value.category]; done) | rfl
theorem own_uch2_1 (l : Launch) (Z : State) (a0 : Array Value) (hw : hWt a0 Z) (ws : List Jvm.Cond) (t : Nat) (kb : ClassId) (fm : Value) (c0 c1 : Int32) (h0 : Heap) (n0 : Nat) (Z0 : n0 ≤ h0.size) (X00 : Old Z n0 h0) (OA : oA Z) (OH : oH Z) (OL : oL Z) (O4 : o4 Z fm) (rfm : fm.isRef = true) (Vt : Arv Z h0 t kb .byte (4 : Int32) [.int (L8 c0), .int (H8 c0), .int (L8 c1), .int (H8 c1)] (.int 0)) (hbi : ¬ c1 < 0 ∧ ¬ (65535 : Int32) < c1) :
    MetFree l mN15 (head1 (Jvm.Cond.code mN15 jdk_52_method_83_code 2 (some .char) :: ws) rm_3_0_0_60) (fun av_ U => av_ = #[(.ref t), (.int 1)] ∧ Z.Warmed39 U.vm ∧ U.heap = h0) (fun _ _ _ _ _ => True) (own_EN (Q_own_uch2_1 Z t kb fm c0 c1 h0 n0) rm_3_0_0_60) := by
 refine MetFree.of_bodySF (plainFor_of_name own_pn1) hisR ?_
 intro p e s m args below meth c s₁ Bd hml0 hP hK
 obtain ⟨rfl, hZ, hh⟩ := hP
 have hx := Bd.exec
 have hby := Bd.bytes
 have hml : c.maxLocals = 2 := hml0
 have hown : s.vm.findClass "java/lang/StringUTF16" = some m.cls := findClass_of_methodNamed Bd.named
 have X0 : Stand p l e rm_3_0_0_60 s m _ below meth c s₁ [] 0 0 := Stand.of_body Bd
 have e0 : s₁.heap = h0 := by rw [← hh, Bd.state]; rfl
 have N0 := Fr.nil n0
 have K0 : Keep h0 h0 [] := Keep.refl h0 []
 refine show own_G p e below (own_EN (Q_own_uch2_1 Z t kb fm c0 c1 h0 n0) rm_3_0_0_60 #[(.ref t), (.int 1)] s) _ from ?_
 refine own_st (fun tq kq => castTop (ef_own_uch2_1 m (t)) kq) ?_
 show own_G p e below _ (s₁.setTop (mkF m 0 #[vR t, vI 1] []))
 refine s_iloadN X0 hx (hb hby dUC_0) rfl ?_
 refine s_aloadN X0 hx (hb hby dUC_1) rfl rfl ?_
 obtain ⟨_, _, ⟨T1, L1, k1, n1⟩, -, X1, ⟨Lc1, hQ1, l1, y1, z1⟩, st1⟩ := Jvm.LawKit.callS X0 hx (y := mN14) hown (mvT hZ (wd96 hw)) (mvT hZ (wd97 hw)) (mvT hZ (wd40 hw)) (mvT hZ (wd98 hw)) (by decide) (own_backN (W := 0) (own_uidx2 l Z a0 hw [] ((1 : Int32)) (t) (kb) (fm) (c0) (c1) h0 n0 (by omega) (X00.keep K0 all0) O4 rfm Vt (by decide) (by decide)) hZ (wd98 hw) (wd40 hw) (by decide) (by decide)) (g := (mkF m 2 #[vR t, vI 1] [(.ref t), (.int 1)])) rfl (by rw [hml]; rfl) (argsL := [(.int 1), (.ref t)]) (rest := []) (lenOf own_pd11 rfl) rfl (Nat.le_of_eq rfl) (hb hby dUC_2) (fun _ _ => ⟨rfl, e0, (by decide : 0 + 0 ≤ _), (by decide : 0 + 0 ≤ _)⟩)
 dsimp only [Pt.U, Pt.locs, Pt.cells, Pt.slots] at X1 l1 y1 z1 st1 hQ1
 subst l1 y1 z1
 obtain ⟨rfl, Nq1, sm1⟩ := hQ1
 have N1 := Fr.app N0 Nq1
 refine own_st st1 ?_
 refine s_aloadN X1 hx (hb hby dUC_5) rfl rfl ?_
 refine s_iloadN X1 hx (hb hby dUC_6) rfl ?_
 obtain ⟨_, _, ⟨T2, L2, k2, n2⟩, -, X2, ⟨Lc2, hQ2, l2, y2, z2⟩, st2⟩ := Jvm.LawKit.callS X1 hx (y := mN2) hown (mvT hZ (wd90 hw)) (mvT hZ (wd91 hw)) (mvT hZ (wd40 hw)) (mvT hZ (wd92 hw)) (by decide) (own_backN (W := 0) (own_get_1 l Z a0 hw [] (t) (_) (_) (_) (_) (_) h0 n0 (by omega) (X00.keep K0 all0) OA OH OL Vt (by decide) (by decide) rfl rfl) hZ (wd92 hw) (wd40 hw) (by decide) (by decide)) (g := (mkF m 7 #[vR t, vI 1] [(.int 1), (.ref t)])) rfl (by rw [hml]; rfl) (argsL := [(.ref t), (.int 1)]) (rest := []) (lenOf own_pd6 rfl) rfl (Nat.le_of_eq rfl) (hb hby dUC_7) (fun _ _ => ⟨rfl, sm1, (by decide : 0 + 0 ≤ _), (by decide : 0 + 0 ≤ _)⟩)
 dsimp only [Pt.U, Pt.locs, Pt.cells, Pt.slots] at X2 l2 y2 z2 st2 hQ2
 subst l2 y2 z2
 obtain ⟨rfl, Nq2, sm2⟩ := hQ2
 have N2 := Fr.app N1 Nq2
 refine own_st st2 ?_
 obtain ⟨fs, hr, hrun, hended, hW, hsame⟩ := X2.leave (v := some (.int (nar .char (StrChars.pairCh (L8 c1) (H8 c1))))) (fun h => by rw [Bd.returns] at h; cases h)
 refine ⟨_, _, retN X2 hx (t := .char) Bd.returns (by simp) (hb hby dUC_10) hr, hrun, hended, _, _, rfl, ?_, ⟨_, rfl⟩, hW, hsame.mono (by decide) (by decide)⟩
 change Q_own_uch2_1 Z t kb fm c0 c1 h0 n0 _ T2.heap _; rw [sm2]; exact ⟨congrArg (fun z => some (Value.int z)) ((own_pairN _ _).trans (StrChars.pair_says hbi.1 hbi.2)), N2, rfl⟩

def Q_own_cha2_1 (Z : State) (x t : Nat) (kb : ClassId) (fm : Value) (G1 : Int32) (c0 c1 : Int32) (h0 : Heap) (n0 : Nat) (v : Option Value) (h : Heap) (L : List Loc) : Prop := v = some (.int c1) ∧ Fr n0 L ∧ h = h0
theorem ef_own_cha2_1 (m : MethodId) (x0 : Nat) : entryFrame m #[(.ref x0), (.int 1)] 2 = mkF m 0 #[.val (.ref x0), .val (.int 1)] [] := by first | (simp [entryFrame, mkF, argsToLocals, Value.category]; done) | rfl
theorem own_cha2_1 (l : Launch) (Z : State) (a0 : Array Value) (hw : hWt a0 Z) (ws : List Jvm.Cond) (x t : Nat) (kb : ClassId) (fm : Value) (G1 : Int32) (c0 c1 : Int32) (h0 : Heap) (n0 : Nat) (Z0 : n0 ≤ h0.size) (X00 : Old Z n0 h0) (Ex : Exa Z h0 x "java/lang/String") (Fv : Fld Z h0 x "java/lang/String" "value" "[B" (.ref t)) (Fc : Fld Z h0 x "java/lang/String" "coder" "B" (.int (1 : Int32))) (O2 : Sta Z Z.heap "java/lang/String" "COMPACT_STRINGS" "Z" (.int G1)) (P5 : ¬ (G1 = (0 : Int32))) (OA : oA Z) (OH : oH Z) (OL : oL Z) (O4 : o4 Z fm) (rfm : fm.isRef = true) (Vt : Arv Z h0 t kb .byte (4 : Int32) [.int (L8 c0), .int (H8 c0), .int (L8 c1), .int (H8 c1)] (.int 0)) (hbi : ¬ c1 < 0 ∧ ¬ (65535 : Int32) < c1) :
    MetFree l mN16 (head1 (Jvm.Cond.code mN16 jdk_42_method_56_code 2 (some .char) :: ws) rm_4_0_0_80) (fun av_ U => av_ = #[(.ref x), (.int 1)] ∧ Z.Warmed39 U.vm ∧ U.heap = h0) (fun _ _ _ _ _ => True) (own_EN (Q_own_cha2_1 Z x t kb fm G1 c0 c1 h0 n0) rm_4_0_0_80) := by
 refine MetFree.of_bodySF (plainFor_of_name own_pn0) hisR ?_
 intro p e s m args below meth c s₁ Bd hml0 hP hK
 obtain ⟨rfl, hZ, hh⟩ := hP
 have hx := Bd.exec
 have hby := Bd.bytes
 have hml : c.maxLocals = 2 := hml0
 have hown : s.vm.findClass "java/lang/String" = some m.cls := findClass_of_methodNamed Bd.named
 have X0 : Stand p l e rm_4_0_0_80 s m _ below meth c s₁ [] 0 0 := Stand.of_body Bd
 have e0 : s₁.heap = h0 := by rw [← hh, Bd.state]; rfl
 have N0 := Fr.nil n0
 have K0 : Keep h0 h0 [] := Keep.refl h0 []
 refine show own_G p e below (own_EN (Q_own_cha2_1 Z x t kb fm G1 c0 c1 h0 n0) rm_4_0_0_80 #[(.ref x), (.int 1)] s) _ from ?_
 refine own_st (fun tq kq => castTop (ef_own_cha2_1 m (x)) kq) ?_
 show own_G p e below _ (s₁.setTop (mkF m 0 #[vR x, vI 1] []))
 refine s_aloadN X0 hx (hb hby dCA_0) rfl rfl ?_
 obtain ⟨cq1, kq1, q1a, q1b, q1c⟩ := isOf hZ e0 Ex
 obtain ⟨_, _, ⟨T1, L1, k1, n1⟩, -, X1, ⟨Lc1, hQ1, l1, y1, z1⟩, st1⟩ := X0.virtualBack hx (y := mN13) (z := mN13) hown (mvT hZ (wd57 hw)) (mvT hZ (wd58 hw)) (notFace_of_selects (args := #[]) (mvT hZ (wd60 hw))) (mvT hZ (wd60 hw)) (mvT hZ (wd59 hw)) (by decide) (own_backN (W := 0) (own_isL l Z a0 hw [] (x) (G1) h0 n0 (by omega) (X00.keep K0 all0) Fc O2 P5) hZ (wd61 hw) (wd4 hw) (by decide) (by decide)) q1a q1c (g := (mkF m 1 #[vR x, vI 1] [(.ref x)])) rfl (by rw [hml]; rfl) (Steps.refl _) (argsL := []) (rest := []) (lenOf own_pd12 rfl) rfl (Nat.le_of_eq rfl) (hb hby dCA_1) (fun _ _ => ⟨rfl, e0, (by decide : 0 + 0 ≤ _), (by decide : 0 + 0 ≤ _)⟩)
 dsimp only [Pt.U, Pt.locs, Pt.cells, Pt.slots] at X1 l1 y1 z1 st1 hQ1
 subst l1 y1 z1
 obtain ⟨rfl, Nq1, sm1⟩ := hQ1
 have N1 := Fr.app N0 Nq1
 refine own_st (fun tq kq => st1.trans kq) ?_
 refine own_st (fun tq kq => XS.ifYes X1.here hx rfl (pc0 := 4) (pc' := 16) rfl (hb hby dCA_4) rfl ((if0 _ _).trans (teq (by decide : ((0 : Int32) = (0 : Int32)))).1) (by decide) (by decide) kq) ?_
 refine s_aloadN X1 hx (hb hby dCA_16) rfl rfl ?_
 obtain ⟨T2, X2, e2, st2⟩ := getF X1 hx hZ hown (host := "") (Or.inl (wd21 hw)) Via.refl sm1 Fv (g := (mkF m 17 #[vR x, vI 1] [(.ref x)])) rfl rfl (hb hby dCA_17)
 refine own_st st2 ?_
 refine s_iloadN X2 hx (hb hby dCA_20) rfl ?_
 obtain ⟨_, _, ⟨T3, L3, k3, n3⟩, -, X3, ⟨Lc3, hQ3, l3, y3, z3⟩, st3⟩ := Jvm.LawKit.callS X2 hx (y := mN15) hown (mvT hZ (wd93 hw)) (mvT hZ (wd94 hw)) (mvT hZ (wd40 hw)) (mvT hZ (wd95 hw)) (by decide) (own_backN (W := 0) (own_uch2_1 l Z a0 hw [] (t) (kb) (fm) (c0) (c1) h0 n0 (by omega) (X00.keep K0 all0) OA OH OL O4 rfm Vt hbi) hZ (wd95 hw) (wd40 hw) (by decide) (by decide)) (g := (mkF m 21 #[vR x, vI 1] [(.int 1), (.ref t)])) rfl (by rw [hml]; rfl) (argsL := [(.ref t), (.int 1)]) (rest := []) (lenOf own_pd6 rfl) rfl (Nat.le_of_eq rfl) (hb hby dCA_21) (fun _ _ => ⟨rfl, e2, (by decide : 0 + 0 ≤ _), (by decide : 0 + 0 ≤ _)⟩)
 dsimp only [Pt.U, Pt.locs, Pt.cells, Pt.slots] at X3 l3 y3 z3 st3 hQ3
 subst l3 y3 z3
 obtain ⟨rfl, Nq3, sm3⟩ := hQ3
 have N3 := Fr.app N1 Nq3
 refine own_st st3 ?_
 obtain ⟨fs, hr, hrun, hended, hW, hsame⟩ := X3.leave (v := some (.int (nar .char c1))) (fun h => by rw [Bd.returns] at h; cases h)
 refine ⟨_, _, retN X3 hx (t := .char) Bd.returns (by simp) (hb hby dCA_24) hr, hrun, hended, _, _, rfl, ?_, ⟨_, rfl⟩, hW, hsame.mono (by decide) (by decide)⟩
 change Q_own_cha2_1 Z x t kb fm G1 c0 c1 h0 n0 _ T3.heap _; rw [sm3]; exact ⟨congrArg (fun z => some (Value.int z)) (own_narc hbi), N3, rfl⟩

set_option maxRecDepth 65536 in
set_option maxHeartbeats 40000000 in
theorem own_chU2_1 {p : Program} {l : Launch} {e : Env} {R : Room} {s : State} {args : Array Value} {below : List Frame} {W : Nat} {Z : State} {a0 : Array Value} {h : Heap} (hZ : Z.Warmed39 s.vm) (hw : ∀ d ∈ tables_1, d.before a0 Z = true) {x n n0 : Nat} {c0 c1 : Int32} {G1 : Int32} {fm : Value} (F : own_StrU Z n h x ([c0, c1] : List Int32)) (X00 : Old Z n0 h) (O2 : Sta Z Z.heap "java/lang/String" "COMPACT_STRINGS" "Z" (.int G1)) (P5 : ¬ (G1 = (0 : Int32))) (OA : oA Z) (OH : oH Z) (OL : oL Z) (O4 : o4 Z fm) (rfm : fm.isRef = true) (hfr : 5 ≤ R.frames) (hlo : W + 93 ≤ R.locals) :
    Back l R p e below s args (⟨"java/lang/String", "charAt", "(I)C"⟩ : MethodName) 3 W (fun P a => a = #[.ref x, .int (1 : Int32)] ∧ P.U.heap = h ∧ P.cells + 0 ≤ R.cells ∧ P.slots + 0 ≤ R.slots)
      (fun P _ v B => ∃ L, (v = some (.int c1) ∧ Fr n0 L ∧ B.U.heap = h) ∧ B.locs = P.locs ++ L ∧ B.cells = P.cells + 0 ∧ B.slots = P.slots + 0) := by
  have hh0 : n0 ≤ h.size := by have := X00.1; have := X00.2.1; omega
  obtain ⟨-, E, hb, ln, t, kb, cd, N2, vs, -, V, Cc, A, hc⟩ := F
  rcases id hc with ⟨rfl, rfl, rfl, hl⟩ | ⟨rfl, rfl, rfl, hg⟩
  · refine Back.mono (StrChars.Road.chN (W := W) hZ (own_wCh hw) (kI := 4) (wd3 hw) E V Cc A hc hb (O2.ext X00.2) P5 (O4.ext X00.2) rfm ln (i := 1) (by simp) (j := (1 : Int32)) rfl (by omega) (by omega)) (fun P a q => q) (fun P a v B _ q => ?_)
    obtain ⟨L, ⟨q1, rfl, q3⟩, q4⟩ := q
    exact ⟨[], ⟨q1, Fr.nil n0, q3⟩, q4⟩
  · exact own_backN (W := W) (rm := rm_4_0_0_80) (own_cha2_1 l Z a0 hw [] x t kb fm G1 c0 c1 h n0 hh0 X00 E V Cc O2 P5 OA OH OL O4 rfm A (hb _ (by simp))) hZ (wd56 hw) (wd4 hw) (by show 4 + 1 ≤ _; omega) (by show W + (2 + 11) + 80 ≤ _; omega)

def Q_own_uidx3 (Z : State) (i : Int32) (t : Nat) (kb : ClassId) (fm : Value) (c0 c1 c2 : Int32) (h0 : Heap) (n0 : Nat) (v : Option Value) (h : Heap) (L : List Loc) : Prop := v = none ∧ Fr n0 L ∧ h = h0
theorem ef_own_uidx3 (m : MethodId) (x0 : Int32) (x1 : Nat) : entryFrame m #[(.int x0), (.ref x1)] 2 = mkF m 0 #[.val (.int x0), .val (.ref x1)] [] := by first | (simp [entryFrame, mkF, argsToLocals, Value.category]; done) | rfl
theorem own_uidx3 (l : Launch) (Z : State) (a0 : Array Value) (hw : hWt a0 Z) (ws : List Jvm.Cond) (i : Int32) (t : Nat) (kb : ClassId) (fm : Value) (c0 c1 c2 : Int32) (h0 : Heap) (n0 : Nat) (Z0 : n0 ≤ h0.size) (X00 : Old Z n0 h0) (O4 : o4 Z fm) (rfm : fm.isRef = true) (Vt : Arv Z h0 t kb .byte (6 : Int32) [.int (L8 c0), .int (H8 c0), .int (L8 c1), .int (H8 c1), .int (L8 c2), .int (H8 c2)] (.int 0)) (h1 : ¬ i < (0 : Int32)) (h2 : i < (3 : Int32)) :
    MetFree l mN14 (head1 (Jvm.Cond.code mN14 jdk_52_method_91_code 2 none :: ws) rm_2_0_0_40) (fun av_ U => av_ = #[(.int i), (.ref t)] ∧ Z.Warmed39 U.vm ∧ U.heap = h0) (fun _ _ _ _ _ => True) (own_EN (Q_own_uidx3 Z i t kb fm c0 c1 c2 h0 n0) rm_2_0_0_40) := by
 refine MetFree.of_bodySF (plainFor_of_name own_pn1) hisR ?_
 intro p e s m args below meth c s₁ Bd hml0 hP hK
 obtain ⟨rfl, hZ, hh⟩ := hP
 have hx := Bd.exec
 have hby := Bd.bytes
 have hml : c.maxLocals = 2 := hml0
 have hown : s.vm.findClass "java/lang/StringUTF16" = some m.cls := findClass_of_methodNamed Bd.named
 have X0 : Stand p l e rm_2_0_0_40 s m _ below meth c s₁ [] 0 0 := Stand.of_body Bd
 have e0 : s₁.heap = h0 := by rw [← hh, Bd.state]; rfl
 have N0 := Fr.nil n0
 have K0 : Keep h0 h0 [] := Keep.refl h0 []
 refine show own_G p e below (own_EN (Q_own_uidx3 Z i t kb fm c0 c1 c2 h0 n0) rm_2_0_0_40 #[(.int i), (.ref t)] s) _ from ?_
 refine own_st (fun tq kq => castTop (ef_own_uidx3 m (i) (t)) kq) ?_
 show own_G p e below _ (s₁.setTop (mkF m 0 #[vI i, vR t] []))
 refine s_iloadN X0 hx (hb hby dUI_0) rfl ?_
 refine s_aloadN X0 hx (hb hby dUI_1) rfl rfl ?_
 obtain ⟨_, _, ⟨T1, L1, k1, n1⟩, -, X1, ⟨Lc1, hQ1, l1, y1, z1⟩, st1⟩ := Jvm.LawKit.callS X0 hx (y := mN3) hown (mvT hZ (wd99 hw)) (mvT hZ (wd100 hw)) (mvT hZ (wd40 hw)) (mvT hZ (wd101 hw)) (by decide) (own_backN (W := 1) (own_ulen3 l Z a0 hw [] (t) (_) (_) h0 n0 (by omega) (X00.keep K0 all0) Vt) hZ (wd101 hw) (wd40 hw) (by decide) (by decide)) (g := (mkF m 2 #[vI i, vR t] [(.ref t), (.int i)])) rfl (by rw [hml]; rfl) (argsL := [(.ref t)]) (rest := [(.int i)]) (lenOf own_pd9 rfl) rfl (Nat.le_of_eq rfl) (hb hby dUI_2) (fun _ _ => ⟨rfl, e0, (by decide : 0 + 0 ≤ _), (by decide : 0 + 0 ≤ _)⟩)
 dsimp only [Pt.U, Pt.locs, Pt.cells, Pt.slots] at X1 l1 y1 z1 st1 hQ1
 subst l1 y1 z1
 obtain ⟨rfl, Nq1, sm1⟩ := hQ1
 have N1 := Fr.app N0 Nq1
 refine own_st st1 ?_
 obtain ⟨_, _, ⟨T2, L2, k2, n2⟩, -, X2, ⟨Lc2, hQ2, l2, y2, z2⟩, st2⟩ := Jvm.LawKit.callS X1 hx (y := mN12) hown (mvT hZ (wd102 hw)) (mvT hZ (wd67 hw)) (mvT hZ (wd4 hw)) (mvT hZ (wd68 hw)) (by decide) (own_backN (W := 0) (own_cidx l Z a0 hw [] (i) ((3 : Int32)) (fm) h0 n0 (by omega) (X00.keep K0 all0) O4 rfm h1 h2) hZ (wd68 hw) (wd4 hw) (by decide) (by decide)) (g := (mkF m 5 #[vI i, vR t] [(.int 3), (.int i)])) rfl (by rw [hml]; rfl) (argsL := [(.int i), (.int 3)]) (rest := []) (lenOf own_pd10 rfl) rfl (Nat.le_of_eq rfl) (hb hby dUI_5) (fun _ _ => ⟨rfl, sm1, (by decide : 0 + 0 ≤ _), (by decide : 0 + 0 ≤ _)⟩)
 dsimp only [Pt.U, Pt.locs, Pt.cells, Pt.slots] at X2 l2 y2 z2 st2 hQ2
 subst l2 y2 z2
 obtain ⟨rfl, Nq2, sm2⟩ := hQ2
 have N2 := Fr.app N1 Nq2
 refine own_st st2 ?_
 obtain ⟨fs, hr, hrun, hended, hW, hsame⟩ := X2.leave (v := none) (fun _ => rfl)
 refine ⟨_, _, X2.returnOut hx Bd.returns (hb hby dUI_8) hr, hrun, hended, _, _, rfl, ?_, ⟨_, rfl⟩, hW, hsame.mono (by decide) (by decide)⟩
 change Q_own_uidx3 Z i t kb fm c0 c1 c2 h0 n0 _ T2.heap _; rw [sm2]; exact ⟨rfl, N2, rfl⟩

def Q_own_uch3_0 (Z : State) (t : Nat) (kb : ClassId) (fm : Value) (c0 c1 c2 : Int32) (h0 : Heap) (n0 : Nat) (v : Option Value) (h : Heap) (L : List Loc) : Prop := v = some (.int c0) ∧ Fr n0 L ∧ h = h0
theorem ef_own_uch3_0 (m : MethodId) (x0 : Nat) : entryFrame m #[(.ref x0), (.int 0)] 2 = mkF m 0 #[.val (.ref x0), .val (.int 0)] [] := by first | (simp [entryFrame, mkF, argsToLocals, Value.category]; done) | rfl
theorem own_uch3_0 (l : Launch) (Z : State) (a0 : Array Value) (hw : hWt a0 Z) (ws : List Jvm.Cond) (t : Nat) (kb : ClassId) (fm : Value) (c0 c1 c2 : Int32) (h0 : Heap) (n0 : Nat) (Z0 : n0 ≤ h0.size) (X00 : Old Z n0 h0) (OA : oA Z) (OH : oH Z) (OL : oL Z) (O4 : o4 Z fm) (rfm : fm.isRef = true) (Vt : Arv Z h0 t kb .byte (6 : Int32) [.int (L8 c0), .int (H8 c0), .int (L8 c1), .int (H8 c1), .int (L8 c2), .int (H8 c2)] (.int 0)) (hbi : ¬ c0 < 0 ∧ ¬ (65535 : Int32) < c0) :
    MetFree l mN15 (head1 (Jvm.Cond.code mN15 jdk_52_method_83_code 2 (some .char) :: ws) rm_3_0_0_60) (fun av_ U => av_ = #[(.ref t), (.int 0)] ∧ Z.Warmed39 U.vm ∧ U.heap = h0) (fun _ _ _ _ _ => True) (own_EN (Q_own_uch3_0 Z t kb fm c0 c1 c2 h0 n0) rm_3_0_0_60) := by
 refine MetFree.of_bodySF (plainFor_of_name own_pn1) hisR ?_
 intro p e s m args below meth c s₁ Bd hml0 hP hK
 obtain ⟨rfl, hZ, hh⟩ := hP
 have hx := Bd.exec
 have hby := Bd.bytes
 have hml : c.maxLocals = 2 := hml0
 have hown : s.vm.findClass "java/lang/StringUTF16" = some m.cls := findClass_of_methodNamed Bd.named
 have X0 : Stand p l e rm_3_0_0_60 s m _ below meth c s₁ [] 0 0 := Stand.of_body Bd
 have e0 : s₁.heap = h0 := by rw [← hh, Bd.state]; rfl
 have N0 := Fr.nil n0
 have K0 : Keep h0 h0 [] := Keep.refl h0 []
 refine show own_G p e below (own_EN (Q_own_uch3_0 Z t kb fm c0 c1 c2 h0 n0) rm_3_0_0_60 #[(.ref t), (.int 0)] s) _ from ?_
 refine own_st (fun tq kq => castTop (ef_own_uch3_0 m (t)) kq) ?_
 show own_G p e below _ (s₁.setTop (mkF m 0 #[vR t, vI 0] []))
 refine s_iloadN X0 hx (hb hby dUC_0) rfl ?_
 refine s_aloadN X0 hx (hb hby dUC_1) rfl rfl ?_
 obtain ⟨_, _, ⟨T1, L1, k1, n1⟩, -, X1, ⟨Lc1, hQ1, l1, y1, z1⟩, st1⟩ := Jvm.LawKit.callS X0 hx (y := mN14) hown (mvT hZ (wd96 hw)) (mvT hZ (wd97 hw)) (mvT hZ (wd40 hw)) (mvT hZ (wd98 hw)) (by decide) (own_backN (W := 0) (own_uidx3 l Z a0 hw [] ((0 : Int32)) (t) (kb) (fm) (c0) (c1) (c2) h0 n0 (by omega) (X00.keep K0 all0) O4 rfm Vt (by decide) (by decide)) hZ (wd98 hw) (wd40 hw) (by decide) (by decide)) (g := (mkF m 2 #[vR t, vI 0] [(.ref t), (.int 0)])) rfl (by rw [hml]; rfl) (argsL := [(.int 0), (.ref t)]) (rest := []) (lenOf own_pd11 rfl) rfl (Nat.le_of_eq rfl) (hb hby dUC_2) (fun _ _ => ⟨rfl, e0, (by decide : 0 + 0 ≤ _), (by decide : 0 + 0 ≤ _)⟩)
 dsimp only [Pt.U, Pt.locs, Pt.cells, Pt.slots] at X1 l1 y1 z1 st1 hQ1
 subst l1 y1 z1
 obtain ⟨rfl, Nq1, sm1⟩ := hQ1
 have N1 := Fr.app N0 Nq1
 refine own_st st1 ?_
 refine s_aloadN X1 hx (hb hby dUC_5) rfl rfl ?_
 refine s_iloadN X1 hx (hb hby dUC_6) rfl ?_
 obtain ⟨_, _, ⟨T2, L2, k2, n2⟩, -, X2, ⟨Lc2, hQ2, l2, y2, z2⟩, st2⟩ := Jvm.LawKit.callS X1 hx (y := mN2) hown (mvT hZ (wd90 hw)) (mvT hZ (wd91 hw)) (mvT hZ (wd40 hw)) (mvT hZ (wd92 hw)) (by decide) (own_backN (W := 0) (own_get_0 l Z a0 hw [] (t) (_) (_) (_) (_) (_) h0 n0 (by omega) (X00.keep K0 all0) OA OH OL Vt (by decide) (by decide) rfl rfl) hZ (wd92 hw) (wd40 hw) (by decide) (by decide)) (g := (mkF m 7 #[vR t, vI 0] [(.int 0), (.ref t)])) rfl (by rw [hml]; rfl) (argsL := [(.ref t), (.int 0)]) (rest := []) (lenOf own_pd6 rfl) rfl (Nat.le_of_eq rfl) (hb hby dUC_7) (fun _ _ => ⟨rfl, sm1, (by decide : 0 + 0 ≤ _), (by decide : 0 + 0 ≤ _)⟩)
 dsimp only [Pt.U, Pt.locs, Pt.cells, Pt.slots] at X2 l2 y2 z2 st2 hQ2
 subst l2 y2 z2
 obtain ⟨rfl, Nq2, sm2⟩ := hQ2
 have N2 := Fr.app N1 Nq2
 refine own_st st2 ?_
 obtain ⟨fs, hr, hrun, hended, hW, hsame⟩ := X2.leave (v := some (.int (nar .char (StrChars.pairCh (L8 c0) (H8 c0))))) (fun h => by rw [Bd.returns] at h; cases h)
 refine ⟨_, _, retN X2 hx (t := .char) Bd.returns (by simp) (hb hby dUC_10) hr, hrun, hended, _, _, rfl, ?_, ⟨_, rfl⟩, hW, hsame.mono (by decide) (by decide)⟩
 change Q_own_uch3_0 Z t kb fm c0 c1 c2 h0 n0 _ T2.heap _; rw [sm2]; exact ⟨congrArg (fun z => some (Value.int z)) ((own_pairN _ _).trans (StrChars.pair_says hbi.1 hbi.2)), N2, rfl⟩

def Q_own_cha3_0 (Z : State) (x t : Nat) (kb : ClassId) (fm : Value) (G1 : Int32) (c0 c1 c2 : Int32) (h0 : Heap) (n0 : Nat) (v : Option Value) (h : Heap) (L : List Loc) : Prop := v = some (.int c0) ∧ Fr n0 L ∧ h = h0
theorem ef_own_cha3_0 (m : MethodId) (x0 : Nat) : entryFrame m #[(.ref x0), (.int 0)] 2 = mkF m 0 #[.val (.ref x0), .val (.int 0)] [] := by first | (simp [entryFrame, mkF, argsToLocals, Value.category]; done) | rfl
theorem own_cha3_0 (l : Launch) (Z : State) (a0 : Array Value) (hw : hWt a0 Z) (ws : List Jvm.Cond) (x t : Nat) (kb : ClassId) (fm : Value) (G1 : Int32) (c0 c1 c2 : Int32) (h0 : Heap) (n0 : Nat) (Z0 : n0 ≤ h0.size) (X00 : Old Z n0 h0) (Ex : Exa Z h0 x "java/lang/String") (Fv : Fld Z h0 x "java/lang/String" "value" "[B" (.ref t)) (Fc : Fld Z h0 x "java/lang/String" "coder" "B" (.int (1 : Int32))) (O2 : Sta Z Z.heap "java/lang/String" "COMPACT_STRINGS" "Z" (.int G1)) (P5 : ¬ (G1 = (0 : Int32))) (OA : oA Z) (OH : oH Z) (OL : oL Z) (O4 : o4 Z fm) (rfm : fm.isRef = true) (Vt : Arv Z h0 t kb .byte (6 : Int32) [.int (L8 c0), .int (H8 c0), .int (L8 c1), .int (H8 c1), .int (L8 c2), .int (H8 c2)] (.int 0)) (hbi : ¬ c0 < 0 ∧ ¬ (65535 : Int32) < c0) :
    MetFree l mN16 (head1 (Jvm.Cond.code mN16 jdk_42_method_56_code 2 (some .char) :: ws) rm_4_0_0_80) (fun av_ U => av_ = #[(.ref x), (.int 0)] ∧ Z.Warmed39 U.vm ∧ U.heap = h0) (fun _ _ _ _ _ => True) (own_EN (Q_own_cha3_0 Z x t kb fm G1 c0 c1 c2 h0 n0) rm_4_0_0_80) := by
 refine MetFree.of_bodySF (plainFor_of_name own_pn0) hisR ?_
 intro p e s m args below meth c s₁ Bd hml0 hP hK
 obtain ⟨rfl, hZ, hh⟩ := hP
 have hx := Bd.exec
 have hby := Bd.bytes
 have hml : c.maxLocals = 2 := hml0
 have hown : s.vm.findClass "java/lang/String" = some m.cls := findClass_of_methodNamed Bd.named
 have X0 : Stand p l e rm_4_0_0_80 s m _ below meth c s₁ [] 0 0 := Stand.of_body Bd
 have e0 : s₁.heap = h0 := by rw [← hh, Bd.state]; rfl
 have N0 := Fr.nil n0
 have K0 : Keep h0 h0 [] := Keep.refl h0 []
 refine show own_G p e below (own_EN (Q_own_cha3_0 Z x t kb fm G1 c0 c1 c2 h0 n0) rm_4_0_0_80 #[(.ref x), (.int 0)] s) _ from ?_
 refine own_st (fun tq kq => castTop (ef_own_cha3_0 m (x)) kq) ?_
 show own_G p e below _ (s₁.setTop (mkF m 0 #[vR x, vI 0] []))
 refine s_aloadN X0 hx (hb hby dCA_0) rfl rfl ?_
 obtain ⟨cq1, kq1, q1a, q1b, q1c⟩ := isOf hZ e0 Ex
 obtain ⟨_, _, ⟨T1, L1, k1, n1⟩, -, X1, ⟨Lc1, hQ1, l1, y1, z1⟩, st1⟩ := X0.virtualBack hx (y := mN13) (z := mN13) hown (mvT hZ (wd57 hw)) (mvT hZ (wd58 hw)) (notFace_of_selects (args := #[]) (mvT hZ (wd60 hw))) (mvT hZ (wd60 hw)) (mvT hZ (wd59 hw)) (by decide) (own_backN (W := 0) (own_isL l Z a0 hw [] (x) (G1) h0 n0 (by omega) (X00.keep K0 all0) Fc O2 P5) hZ (wd61 hw) (wd4 hw) (by decide) (by decide)) q1a q1c (g := (mkF m 1 #[vR x, vI 0] [(.ref x)])) rfl (by rw [hml]; rfl) (Steps.refl _) (argsL := []) (rest := []) (lenOf own_pd12 rfl) rfl (Nat.le_of_eq rfl) (hb hby dCA_1) (fun _ _ => ⟨rfl, e0, (by decide : 0 + 0 ≤ _), (by decide : 0 + 0 ≤ _)⟩)
 dsimp only [Pt.U, Pt.locs, Pt.cells, Pt.slots] at X1 l1 y1 z1 st1 hQ1
 subst l1 y1 z1
 obtain ⟨rfl, Nq1, sm1⟩ := hQ1
 have N1 := Fr.app N0 Nq1
 refine own_st (fun tq kq => st1.trans kq) ?_
 refine own_st (fun tq kq => XS.ifYes X1.here hx rfl (pc0 := 4) (pc' := 16) rfl (hb hby dCA_4) rfl ((if0 _ _).trans (teq (by decide : ((0 : Int32) = (0 : Int32)))).1) (by decide) (by decide) kq) ?_
 refine s_aloadN X1 hx (hb hby dCA_16) rfl rfl ?_
 obtain ⟨T2, X2, e2, st2⟩ := getF X1 hx hZ hown (host := "") (Or.inl (wd21 hw)) Via.refl sm1 Fv (g := (mkF m 17 #[vR x, vI 0] [(.ref x)])) rfl rfl (hb hby dCA_17)
 refine own_st st2 ?_
 refine s_iloadN X2 hx (hb hby dCA_20) rfl ?_
 obtain ⟨_, _, ⟨T3, L3, k3, n3⟩, -, X3, ⟨Lc3, hQ3, l3, y3, z3⟩, st3⟩ := Jvm.LawKit.callS X2 hx (y := mN15) hown (mvT hZ (wd93 hw)) (mvT hZ (wd94 hw)) (mvT hZ (wd40 hw)) (mvT hZ (wd95 hw)) (by decide) (own_backN (W := 0) (own_uch3_0 l Z a0 hw [] (t) (kb) (fm) (c0) (c1) (c2) h0 n0 (by omega) (X00.keep K0 all0) OA OH OL O4 rfm Vt hbi) hZ (wd95 hw) (wd40 hw) (by decide) (by decide)) (g := (mkF m 21 #[vR x, vI 0] [(.int 0), (.ref t)])) rfl (by rw [hml]; rfl) (argsL := [(.ref t), (.int 0)]) (rest := []) (lenOf own_pd6 rfl) rfl (Nat.le_of_eq rfl) (hb hby dCA_21) (fun _ _ => ⟨rfl, e2, (by decide : 0 + 0 ≤ _), (by decide : 0 + 0 ≤ _)⟩)
 dsimp only [Pt.U, Pt.locs, Pt.cells, Pt.slots] at X3 l3 y3 z3 st3 hQ3
 subst l3 y3 z3
 obtain ⟨rfl, Nq3, sm3⟩ := hQ3
 have N3 := Fr.app N1 Nq3
 refine own_st st3 ?_
 obtain ⟨fs, hr, hrun, hended, hW, hsame⟩ := X3.leave (v := some (.int (nar .char c0))) (fun h => by rw [Bd.returns] at h; cases h)
 refine ⟨_, _, retN X3 hx (t := .char) Bd.returns (by simp) (hb hby dCA_24) hr, hrun, hended, _, _, rfl, ?_, ⟨_, rfl⟩, hW, hsame.mono (by decide) (by decide)⟩
 change Q_own_cha3_0 Z x t kb fm G1 c0 c1 c2 h0 n0 _ T3.heap _; rw [sm3]; exact ⟨congrArg (fun z => some (Value.int z)) (own_narc hbi), N3, rfl⟩

set_option maxRecDepth 65536 in
set_option maxHeartbeats 40000000 in
theorem own_chU3_0 {p : Program} {l : Launch} {e : Env} {R : Room} {s : State} {args : Array Value} {below : List Frame} {W : Nat} {Z : State} {a0 : Array Value} {h : Heap} (hZ : Z.Warmed39 s.vm) (hw : ∀ d ∈ tables_1, d.before a0 Z = true) {x n n0 : Nat} {c0 c1 c2 : Int32} {G1 : Int32} {fm : Value} (F : own_StrU Z n h x ([c0, c1, c2] : List Int32)) (X00 : Old Z n0 h) (O2 : Sta Z Z.heap "java/lang/String" "COMPACT_STRINGS" "Z" (.int G1)) (P5 : ¬ (G1 = (0 : Int32))) (OA : oA Z) (OH : oH Z) (OL : oL Z) (O4 : o4 Z fm) (rfm : fm.isRef = true) (hfr : 5 ≤ R.frames) (hlo : W + 93 ≤ R.locals) :
    Back l R p e below s args (⟨"java/lang/String", "charAt", "(I)C"⟩ : MethodName) 3 W (fun P a => a = #[.ref x, .int (0 : Int32)] ∧ P.U.heap = h ∧ P.cells + 0 ≤ R.cells ∧ P.slots + 0 ≤ R.slots)
      (fun P _ v B => ∃ L, (v = some (.int c0) ∧ Fr n0 L ∧ B.U.heap = h) ∧ B.locs = P.locs ++ L ∧ B.cells = P.cells + 0 ∧ B.slots = P.slots + 0) := by
  have hh0 : n0 ≤ h.size := by have := X00.1; have := X00.2.1; omega
  obtain ⟨-, E, hb, ln, t, kb, cd, N2, vs, -, V, Cc, A, hc⟩ := F
  rcases id hc with ⟨rfl, rfl, rfl, hl⟩ | ⟨rfl, rfl, rfl, hg⟩
  · refine Back.mono (StrChars.Road.chN (W := W) hZ (own_wCh hw) (kI := 4) (wd3 hw) E V Cc A hc hb (O2.ext X00.2) P5 (O4.ext X00.2) rfm ln (i := 0) (by simp) (j := (0 : Int32)) rfl (by omega) (by omega)) (fun P a q => q) (fun P a v B _ q => ?_)
    obtain ⟨L, ⟨q1, rfl, q3⟩, q4⟩ := q
    exact ⟨[], ⟨q1, Fr.nil n0, q3⟩, q4⟩
  · exact own_backN (W := W) (rm := rm_4_0_0_80) (own_cha3_0 l Z a0 hw [] x t kb fm G1 c0 c1 c2 h n0 hh0 X00 E V Cc O2 P5 OA OH OL O4 rfm A (hb _ (by simp))) hZ (wd56 hw) (wd4 hw) (by show 4 + 1 ≤ _; omega) (by show W + (2 + 11) + 80 ≤ _; omega)

def Q_own_uch3_1 (Z : State) (t : Nat) (kb : ClassId) (fm : Value) (c0 c1 c2 : Int32) (h0 : Heap) (n0 : Nat) (v : Option Value) (h : Heap) (L : List Loc) : Prop := v = some (.int c1) ∧ Fr n0 L ∧ h = h0
theorem ef_own_uch3_1 (m : MethodId) (x0 : Nat) : entryFrame m #[(.ref x0), (.int 1)] 2 = mkF m 0 #[.val (.ref x0), .val (.int 1)] [] := by first | (simp [entryFrame, mkF, argsToLocals, Value.category]; done) | rfl
theorem own_uch3_1 (l : Launch) (Z : State) (a0 : Array Value) (hw : hWt a0 Z) (ws : List Jvm.Cond) (t : Nat) (kb : ClassId) (fm : Value) (c0 c1 c2 : Int32) (h0 : Heap) (n0 : Nat) (Z0 : n0 ≤ h0.size) (X00 : Old Z n0 h0) (OA : oA Z) (OH : oH Z) (OL : oL Z) (O4 : o4 Z fm) (rfm : fm.isRef = true) (Vt : Arv Z h0 t kb .byte (6 : Int32) [.int (L8 c0), .int (H8 c0), .int (L8 c1), .int (H8 c1), .int (L8 c2), .int (H8 c2)] (.int 0)) (hbi : ¬ c1 < 0 ∧ ¬ (65535 : Int32) < c1) :
    MetFree l mN15 (head1 (Jvm.Cond.code mN15 jdk_52_method_83_code 2 (some .char) :: ws) rm_3_0_0_60) (fun av_ U => av_ = #[(.ref t), (.int 1)] ∧ Z.Warmed39 U.vm ∧ U.heap = h0) (fun _ _ _ _ _ => True) (own_EN (Q_own_uch3_1 Z t kb fm c0 c1 c2 h0 n0) rm_3_0_0_60) := by
 refine MetFree.of_bodySF (plainFor_of_name own_pn1) hisR ?_
 intro p e s m args below meth c s₁ Bd hml0 hP hK
 obtain ⟨rfl, hZ, hh⟩ := hP
 have hx := Bd.exec
 have hby := Bd.bytes
 have hml : c.maxLocals = 2 := hml0
 have hown : s.vm.findClass "java/lang/StringUTF16" = some m.cls := findClass_of_methodNamed Bd.named
 have X0 : Stand p l e rm_3_0_0_60 s m _ below meth c s₁ [] 0 0 := Stand.of_body Bd
 have e0 : s₁.heap = h0 := by rw [← hh, Bd.state]; rfl
 have N0 := Fr.nil n0
 have K0 : Keep h0 h0 [] := Keep.refl h0 []
 refine show own_G p e below (own_EN (Q_own_uch3_1 Z t kb fm c0 c1 c2 h0 n0) rm_3_0_0_60 #[(.ref t), (.int 1)] s) _ from ?_
 refine own_st (fun tq kq => castTop (ef_own_uch3_1 m (t)) kq) ?_
 show own_G p e below _ (s₁.setTop (mkF m 0 #[vR t, vI 1] []))
 refine s_iloadN X0 hx (hb hby dUC_0) rfl ?_
 refine s_aloadN X0 hx (hb hby dUC_1) rfl rfl ?_
 obtain ⟨_, _, ⟨T1, L1, k1, n1⟩, -, X1, ⟨Lc1, hQ1, l1, y1, z1⟩, st1⟩ := Jvm.LawKit.callS X0 hx (y := mN14) hown (mvT hZ (wd96 hw)) (mvT hZ (wd97 hw)) (mvT hZ (wd40 hw)) (mvT hZ (wd98 hw)) (by decide) (own_backN (W := 0) (own_uidx3 l Z a0 hw [] ((1 : Int32)) (t) (kb) (fm) (c0) (c1) (c2) h0 n0 (by omega) (X00.keep K0 all0) O4 rfm Vt (by decide) (by decide)) hZ (wd98 hw) (wd40 hw) (by decide) (by decide)) (g := (mkF m 2 #[vR t, vI 1] [(.ref t), (.int 1)])) rfl (by rw [hml]; rfl) (argsL := [(.int 1), (.ref t)]) (rest := []) (lenOf own_pd11 rfl) rfl (Nat.le_of_eq rfl) (hb hby dUC_2) (fun _ _ => ⟨rfl, e0, (by decide : 0 + 0 ≤ _), (by decide : 0 + 0 ≤ _)⟩)
 dsimp only [Pt.U, Pt.locs, Pt.cells, Pt.slots] at X1 l1 y1 z1 st1 hQ1
 subst l1 y1 z1
 obtain ⟨rfl, Nq1, sm1⟩ := hQ1
 have N1 := Fr.app N0 Nq1
 refine own_st st1 ?_
 refine s_aloadN X1 hx (hb hby dUC_5) rfl rfl ?_
 refine s_iloadN X1 hx (hb hby dUC_6) rfl ?_
 obtain ⟨_, _, ⟨T2, L2, k2, n2⟩, -, X2, ⟨Lc2, hQ2, l2, y2, z2⟩, st2⟩ := Jvm.LawKit.callS X1 hx (y := mN2) hown (mvT hZ (wd90 hw)) (mvT hZ (wd91 hw)) (mvT hZ (wd40 hw)) (mvT hZ (wd92 hw)) (by decide) (own_backN (W := 0) (own_get_1 l Z a0 hw [] (t) (_) (_) (_) (_) (_) h0 n0 (by omega) (X00.keep K0 all0) OA OH OL Vt (by decide) (by decide) rfl rfl) hZ (wd92 hw) (wd40 hw) (by decide) (by decide)) (g := (mkF m 7 #[vR t, vI 1] [(.int 1), (.ref t)])) rfl (by rw [hml]; rfl) (argsL := [(.ref t), (.int 1)]) (rest := []) (lenOf own_pd6 rfl) rfl (Nat.le_of_eq rfl) (hb hby dUC_7) (fun _ _ => ⟨rfl, sm1, (by decide : 0 + 0 ≤ _), (by decide : 0 + 0 ≤ _)⟩)
 dsimp only [Pt.U, Pt.locs, Pt.cells, Pt.slots] at X2 l2 y2 z2 st2 hQ2
 subst l2 y2 z2
 obtain ⟨rfl, Nq2, sm2⟩ := hQ2
 have N2 := Fr.app N1 Nq2
 refine own_st st2 ?_
 obtain ⟨fs, hr, hrun, hended, hW, hsame⟩ := X2.leave (v := some (.int (nar .char (StrChars.pairCh (L8 c1) (H8 c1))))) (fun h => by rw [Bd.returns] at h; cases h)
 refine ⟨_, _, retN X2 hx (t := .char) Bd.returns (by simp) (hb hby dUC_10) hr, hrun, hended, _, _, rfl, ?_, ⟨_, rfl⟩, hW, hsame.mono (by decide) (by decide)⟩
 change Q_own_uch3_1 Z t kb fm c0 c1 c2 h0 n0 _ T2.heap _; rw [sm2]; exact ⟨congrArg (fun z => some (Value.int z)) ((own_pairN _ _).trans (StrChars.pair_says hbi.1 hbi.2)), N2, rfl⟩

def Q_own_cha3_1 (Z : State) (x t : Nat) (kb : ClassId) (fm : Value) (G1 : Int32) (c0 c1 c2 : Int32) (h0 : Heap) (n0 : Nat) (v : Option Value) (h : Heap) (L : List Loc) : Prop := v = some (.int c1) ∧ Fr n0 L ∧ h = h0
theorem ef_own_cha3_1 (m : MethodId) (x0 : Nat) : entryFrame m #[(.ref x0), (.int 1)] 2 = mkF m 0 #[.val (.ref x0), .val (.int 1)] [] := by first | (simp [entryFrame, mkF, argsToLocals, Value.category]; done) | rfl
theorem own_cha3_1 (l : Launch) (Z : State) (a0 : Array Value) (hw : hWt a0 Z) (ws : List Jvm.Cond) (x t : Nat) (kb : ClassId) (fm : Value) (G1 : Int32) (c0 c1 c2 : Int32) (h0 : Heap) (n0 : Nat) (Z0 : n0 ≤ h0.size) (X00 : Old Z n0 h0) (Ex : Exa Z h0 x "java/lang/String") (Fv : Fld Z h0 x "java/lang/String" "value" "[B" (.ref t)) (Fc : Fld Z h0 x "java/lang/String" "coder" "B" (.int (1 : Int32))) (O2 : Sta Z Z.heap "java/lang/String" "COMPACT_STRINGS" "Z" (.int G1)) (P5 : ¬ (G1 = (0 : Int32))) (OA : oA Z) (OH : oH Z) (OL : oL Z) (O4 : o4 Z fm) (rfm : fm.isRef = true) (Vt : Arv Z h0 t kb .byte (6 : Int32) [.int (L8 c0), .int (H8 c0), .int (L8 c1), .int (H8 c1), .int (L8 c2), .int (H8 c2)] (.int 0)) (hbi : ¬ c1 < 0 ∧ ¬ (65535 : Int32) < c1) :
    MetFree l mN16 (head1 (Jvm.Cond.code mN16 jdk_42_method_56_code 2 (some .char) :: ws) rm_4_0_0_80) (fun av_ U => av_ = #[(.ref x), (.int 1)] ∧ Z.Warmed39 U.vm ∧ U.heap = h0) (fun _ _ _ _ _ => True) (own_EN (Q_own_cha3_1 Z x t kb fm G1 c0 c1 c2 h0 n0) rm_4_0_0_80) := by
 refine MetFree.of_bodySF (plainFor_of_name own_pn0) hisR ?_
 intro p e s m args below meth c s₁ Bd hml0 hP hK
 obtain ⟨rfl, hZ, hh⟩ := hP
 have hx := Bd.exec
 have hby := Bd.bytes
 have hml : c.maxLocals = 2 := hml0
 have hown : s.vm.findClass "java/lang/String" = some m.cls := findClass_of_methodNamed Bd.named
 have X0 : Stand p l e rm_4_0_0_80 s m _ below meth c s₁ [] 0 0 := Stand.of_body Bd
 have e0 : s₁.heap = h0 := by rw [← hh, Bd.state]; rfl
 have N0 := Fr.nil n0
 have K0 : Keep h0 h0 [] := Keep.refl h0 []
 refine show own_G p e below (own_EN (Q_own_cha3_1 Z x t kb fm G1 c0 c1 c2 h0 n0) rm_4_0_0_80 #[(.ref x), (.int 1)] s) _ from ?_
 refine own_st (fun tq kq => castTop (ef_own_cha3_1 m (x)) kq) ?_
 show own_G p e below _ (s₁.setTop (mkF m 0 #[vR x, vI 1] []))
 refine s_aloadN X0 hx (hb hby dCA_0) rfl rfl ?_
 obtain ⟨cq1, kq1, q1a, q1b, q1c⟩ := isOf hZ e0 Ex
 obtain ⟨_, _, ⟨T1, L1, k1, n1⟩, -, X1, ⟨Lc1, hQ1, l1, y1, z1⟩, st1⟩ := X0.virtualBack hx (y := mN13) (z := mN13) hown (mvT hZ (wd57 hw)) (mvT hZ (wd58 hw)) (notFace_of_selects (args := #[]) (mvT hZ (wd60 hw))) (mvT hZ (wd60 hw)) (mvT hZ (wd59 hw)) (by decide) (own_backN (W := 0) (own_isL l Z a0 hw [] (x) (G1) h0 n0 (by omega) (X00.keep K0 all0) Fc O2 P5) hZ (wd61 hw) (wd4 hw) (by decide) (by decide)) q1a q1c (g := (mkF m 1 #[vR x, vI 1] [(.ref x)])) rfl (by rw [hml]; rfl) (Steps.refl _) (argsL := []) (rest := []) (lenOf own_pd12 rfl) rfl (Nat.le_of_eq rfl) (hb hby dCA_1) (fun _ _ => ⟨rfl, e0, (by decide : 0 + 0 ≤ _), (by decide : 0 + 0 ≤ _)⟩)
 dsimp only [Pt.U, Pt.locs, Pt.cells, Pt.slots] at X1 l1 y1 z1 st1 hQ1
 subst l1 y1 z1
 obtain ⟨rfl, Nq1, sm1⟩ := hQ1
 have N1 := Fr.app N0 Nq1
 refine own_st (fun tq kq => st1.trans kq) ?_
 refine own_st (fun tq kq => XS.ifYes X1.here hx rfl (pc0 := 4) (pc' := 16) rfl (hb hby dCA_4) rfl ((if0 _ _).trans (teq (by decide : ((0 : Int32) = (0 : Int32)))).1) (by decide) (by decide) kq) ?_
 refine s_aloadN X1 hx (hb hby dCA_16) rfl rfl ?_
 obtain ⟨T2, X2, e2, st2⟩ := getF X1 hx hZ hown (host := "") (Or.inl (wd21 hw)) Via.refl sm1 Fv (g := (mkF m 17 #[vR x, vI 1] [(.ref x)])) rfl rfl (hb hby dCA_17)
 refine own_st st2 ?_
 refine s_iloadN X2 hx (hb hby dCA_20) rfl ?_
 obtain ⟨_, _, ⟨T3, L3, k3, n3⟩, -, X3, ⟨Lc3, hQ3, l3, y3, z3⟩, st3⟩ := Jvm.LawKit.callS X2 hx (y := mN15) hown (mvT hZ (wd93 hw)) (mvT hZ (wd94 hw)) (mvT hZ (wd40 hw)) (mvT hZ (wd95 hw)) (by decide) (own_backN (W := 0) (own_uch3_1 l Z a0 hw [] (t) (kb) (fm) (c0) (c1) (c2) h0 n0 (by omega) (X00.keep K0 all0) OA OH OL O4 rfm Vt hbi) hZ (wd95 hw) (wd40 hw) (by decide) (by decide)) (g := (mkF m 21 #[vR x, vI 1] [(.int 1), (.ref t)])) rfl (by rw [hml]; rfl) (argsL := [(.ref t), (.int 1)]) (rest := []) (lenOf own_pd6 rfl) rfl (Nat.le_of_eq rfl) (hb hby dCA_21) (fun _ _ => ⟨rfl, e2, (by decide : 0 + 0 ≤ _), (by decide : 0 + 0 ≤ _)⟩)
 dsimp only [Pt.U, Pt.locs, Pt.cells, Pt.slots] at X3 l3 y3 z3 st3 hQ3
 subst l3 y3 z3
 obtain ⟨rfl, Nq3, sm3⟩ := hQ3
 have N3 := Fr.app N1 Nq3
 refine own_st st3 ?_
 obtain ⟨fs, hr, hrun, hended, hW, hsame⟩ := X3.leave (v := some (.int (nar .char c1))) (fun h => by rw [Bd.returns] at h; cases h)
 refine ⟨_, _, retN X3 hx (t := .char) Bd.returns (by simp) (hb hby dCA_24) hr, hrun, hended, _, _, rfl, ?_, ⟨_, rfl⟩, hW, hsame.mono (by decide) (by decide)⟩
 change Q_own_cha3_1 Z x t kb fm G1 c0 c1 c2 h0 n0 _ T3.heap _; rw [sm3]; exact ⟨congrArg (fun z => some (Value.int z)) (own_narc hbi), N3, rfl⟩

set_option maxRecDepth 65536 in
set_option maxHeartbeats 40000000 in
theorem own_chU3_1 {p : Program} {l : Launch} {e : Env} {R : Room} {s : State} {args : Array Value} {below : List Frame} {W : Nat} {Z : State} {a0 : Array Value} {h : Heap} (hZ : Z.Warmed39 s.vm) (hw : ∀ d ∈ tables_1, d.before a0 Z = true) {x n n0 : Nat} {c0 c1 c2 : Int32} {G1 : Int32} {fm : Value} (F : own_StrU Z n h x ([c0, c1, c2] : List Int32)) (X00 : Old Z n0 h) (O2 : Sta Z Z.heap "java/lang/String" "COMPACT_STRINGS" "Z" (.int G1)) (P5 : ¬ (G1 = (0 : Int32))) (OA : oA Z) (OH : oH Z) (OL : oL Z) (O4 : o4 Z fm) (rfm : fm.isRef = true) (hfr : 5 ≤ R.frames) (hlo : W + 93 ≤ R.locals) :
    Back l R p e below s args (⟨"java/lang/String", "charAt", "(I)C"⟩ : MethodName) 3 W (fun P a => a = #[.ref x, .int (1 : Int32)] ∧ P.U.heap = h ∧ P.cells + 0 ≤ R.cells ∧ P.slots + 0 ≤ R.slots)
      (fun P _ v B => ∃ L, (v = some (.int c1) ∧ Fr n0 L ∧ B.U.heap = h) ∧ B.locs = P.locs ++ L ∧ B.cells = P.cells + 0 ∧ B.slots = P.slots + 0) := by
  have hh0 : n0 ≤ h.size := by have := X00.1; have := X00.2.1; omega
  obtain ⟨-, E, hb, ln, t, kb, cd, N2, vs, -, V, Cc, A, hc⟩ := F
  rcases id hc with ⟨rfl, rfl, rfl, hl⟩ | ⟨rfl, rfl, rfl, hg⟩
  · refine Back.mono (StrChars.Road.chN (W := W) hZ (own_wCh hw) (kI := 4) (wd3 hw) E V Cc A hc hb (O2.ext X00.2) P5 (O4.ext X00.2) rfm ln (i := 1) (by simp) (j := (1 : Int32)) rfl (by omega) (by omega)) (fun P a q => q) (fun P a v B _ q => ?_)
    obtain ⟨L, ⟨q1, rfl, q3⟩, q4⟩ := q
    exact ⟨[], ⟨q1, Fr.nil n0, q3⟩, q4⟩
  · exact own_backN (W := W) (rm := rm_4_0_0_80) (own_cha3_1 l Z a0 hw [] x t kb fm G1 c0 c1 c2 h n0 hh0 X00 E V Cc O2 P5 OA OH OL O4 rfm A (hb _ (by simp))) hZ (wd56 hw) (wd4 hw) (by show 4 + 1 ≤ _; omega) (by show W + (2 + 11) + 80 ≤ _; omega)

def Q_own_uch3_2 (Z : State) (t : Nat) (kb : ClassId) (fm : Value) (c0 c1 c2 : Int32) (h0 : Heap) (n0 : Nat) (v : Option Value) (h : Heap) (L : List Loc) : Prop := v = some (.int c2) ∧ Fr n0 L ∧ h = h0
theorem ef_own_uch3_2 (m : MethodId) (x0 : Nat) : entryFrame m #[(.ref x0), (.int 2)] 2 = mkF m 0 #[.val (.ref x0), .val (.int 2)] [] := by first | (simp [entryFrame, mkF, argsToLocals, Value.category]; done) | rfl
theorem own_uch3_2 (l : Launch) (Z : State) (a0 : Array Value) (hw : hWt a0 Z) (ws : List Jvm.Cond) (t : Nat) (kb : ClassId) (fm : Value) (c0 c1 c2 : Int32) (h0 : Heap) (n0 : Nat) (Z0 : n0 ≤ h0.size) (X00 : Old Z n0 h0) (OA : oA Z) (OH : oH Z) (OL : oL Z) (O4 : o4 Z fm) (rfm : fm.isRef = true) (Vt : Arv Z h0 t kb .byte (6 : Int32) [.int (L8 c0), .int (H8 c0), .int (L8 c1), .int (H8 c1), .int (L8 c2), .int (H8 c2)] (.int 0)) (hbi : ¬ c2 < 0 ∧ ¬ (65535 : Int32) < c2) :
    MetFree l mN15 (head1 (Jvm.Cond.code mN15 jdk_52_method_83_code 2 (some .char) :: ws) rm_3_0_0_60) (fun av_ U => av_ = #[(.ref t), (.int 2)] ∧ Z.Warmed39 U.vm ∧ U.heap = h0) (fun _ _ _ _ _ => True) (own_EN (Q_own_uch3_2 Z t kb fm c0 c1 c2 h0 n0) rm_3_0_0_60) := by
 refine MetFree.of_bodySF (plainFor_of_name own_pn1) hisR ?_
 intro p e s m args below meth c s₁ Bd hml0 hP hK
 obtain ⟨rfl, hZ, hh⟩ := hP
 have hx := Bd.exec
 have hby := Bd.bytes
 have hml : c.maxLocals = 2 := hml0
 have hown : s.vm.findClass "java/lang/StringUTF16" = some m.cls := findClass_of_methodNamed Bd.named
 have X0 : Stand p l e rm_3_0_0_60 s m _ below meth c s₁ [] 0 0 := Stand.of_body Bd
 have e0 : s₁.heap = h0 := by rw [← hh, Bd.state]; rfl
 have N0 := Fr.nil n0
 have K0 : Keep h0 h0 [] := Keep.refl h0 []
 refine show own_G p e below (own_EN (Q_own_uch3_2 Z t kb fm c0 c1 c2 h0 n0) rm_3_0_0_60 #[(.ref t), (.int 2)] s) _ from ?_
 refine own_st (fun tq kq => castTop (ef_own_uch3_2 m (t)) kq) ?_
 show own_G p e below _ (s₁.setTop (mkF m 0 #[vR t, vI 2] []))
 refine s_iloadN X0 hx (hb hby dUC_0) rfl ?_
 refine s_aloadN X0 hx (hb hby dUC_1) rfl rfl ?_
 obtain ⟨_, _, ⟨T1, L1, k1, n1⟩, -, X1, ⟨Lc1, hQ1, l1, y1, z1⟩, st1⟩ := Jvm.LawKit.callS X0 hx (y := mN14) hown (mvT hZ (wd96 hw)) (mvT hZ (wd97 hw)) (mvT hZ (wd40 hw)) (mvT hZ (wd98 hw)) (by decide) (own_backN (W := 0) (own_uidx3 l Z a0 hw [] ((2 : Int32)) (t) (kb) (fm) (c0) (c1) (c2) h0 n0 (by omega) (X00.keep K0 all0) O4 rfm Vt (by decide) (by decide)) hZ (wd98 hw) (wd40 hw) (by decide) (by decide)) (g := (mkF m 2 #[vR t, vI 2] [(.ref t), (.int 2)])) rfl (by rw [hml]; rfl) (argsL := [(.int 2), (.ref t)]) (rest := []) (lenOf own_pd11 rfl) rfl (Nat.le_of_eq rfl) (hb hby dUC_2) (fun _ _ => ⟨rfl, e0, (by decide : 0 + 0 ≤ _), (by decide : 0 + 0 ≤ _)⟩)
 dsimp only [Pt.U, Pt.locs, Pt.cells, Pt.slots] at X1 l1 y1 z1 st1 hQ1
 subst l1 y1 z1
 obtain ⟨rfl, Nq1, sm1⟩ := hQ1
 have N1 := Fr.app N0 Nq1
 refine own_st st1 ?_
 refine s_aloadN X1 hx (hb hby dUC_5) rfl rfl ?_
 refine s_iloadN X1 hx (hb hby dUC_6) rfl ?_
 obtain ⟨_, _, ⟨T2, L2, k2, n2⟩, -, X2, ⟨Lc2, hQ2, l2, y2, z2⟩, st2⟩ := Jvm.LawKit.callS X1 hx (y := mN2) hown (mvT hZ (wd90 hw)) (mvT hZ (wd91 hw)) (mvT hZ (wd40 hw)) (mvT hZ (wd92 hw)) (by decide) (own_backN (W := 0) (own_get_2 l Z a0 hw [] (t) (_) (_) (_) (_) (_) h0 n0 (by omega) (X00.keep K0 all0) OA OH OL Vt (by decide) (by decide) rfl rfl) hZ (wd92 hw) (wd40 hw) (by decide) (by decide)) (g := (mkF m 7 #[vR t, vI 2] [(.int 2), (.ref t)])) rfl (by rw [hml]; rfl) (argsL := [(.ref t), (.int 2)]) (rest := []) (lenOf own_pd6 rfl) rfl (Nat.le_of_eq rfl) (hb hby dUC_7) (fun _ _ => ⟨rfl, sm1, (by decide : 0 + 0 ≤ _), (by decide : 0 + 0 ≤ _)⟩)
 dsimp only [Pt.U, Pt.locs, Pt.cells, Pt.slots] at X2 l2 y2 z2 st2 hQ2
 subst l2 y2 z2
 obtain ⟨rfl, Nq2, sm2⟩ := hQ2
 have N2 := Fr.app N1 Nq2
 refine own_st st2 ?_
 obtain ⟨fs, hr, hrun, hended, hW, hsame⟩ := X2.leave (v := some (.int (nar .char (StrChars.pairCh (L8 c2) (H8 c2))))) (fun h => by rw [Bd.returns] at h; cases h)
 refine ⟨_, _, retN X2 hx (t := .char) Bd.returns (by simp) (hb hby dUC_10) hr, hrun, hended, _, _, rfl, ?_, ⟨_, rfl⟩, hW, hsame.mono (by decide) (by decide)⟩
 change Q_own_uch3_2 Z t kb fm c0 c1 c2 h0 n0 _ T2.heap _; rw [sm2]; exact ⟨congrArg (fun z => some (Value.int z)) ((own_pairN _ _).trans (StrChars.pair_says hbi.1 hbi.2)), N2, rfl⟩

def Q_own_cha3_2 (Z : State) (x t : Nat) (kb : ClassId) (fm : Value) (G1 : Int32) (c0 c1 c2 : Int32) (h0 : Heap) (n0 : Nat) (v : Option Value) (h : Heap) (L : List Loc) : Prop := v = some (.int c2) ∧ Fr n0 L ∧ h = h0
theorem ef_own_cha3_2 (m : MethodId) (x0 : Nat) : entryFrame m #[(.ref x0), (.int 2)] 2 = mkF m 0 #[.val (.ref x0), .val (.int 2)] [] := by first | (simp [entryFrame, mkF, argsToLocals, Value.category]; done) | rfl
theorem own_cha3_2 (l : Launch) (Z : State) (a0 : Array Value) (hw : hWt a0 Z) (ws : List Jvm.Cond) (x t : Nat) (kb : ClassId) (fm : Value) (G1 : Int32) (c0 c1 c2 : Int32) (h0 : Heap) (n0 : Nat) (Z0 : n0 ≤ h0.size) (X00 : Old Z n0 h0) (Ex : Exa Z h0 x "java/lang/String") (Fv : Fld Z h0 x "java/lang/String" "value" "[B" (.ref t)) (Fc : Fld Z h0 x "java/lang/String" "coder" "B" (.int (1 : Int32))) (O2 : Sta Z Z.heap "java/lang/String" "COMPACT_STRINGS" "Z" (.int G1)) (P5 : ¬ (G1 = (0 : Int32))) (OA : oA Z) (OH : oH Z) (OL : oL Z) (O4 : o4 Z fm) (rfm : fm.isRef = true) (Vt : Arv Z h0 t kb .byte (6 : Int32) [.int (L8 c0), .int (H8 c0), .int (L8 c1), .int (H8 c1), .int (L8 c2), .int (H8 c2)] (.int 0)) (hbi : ¬ c2 < 0 ∧ ¬ (65535 : Int32) < c2) :
    MetFree l mN16 (head1 (Jvm.Cond.code mN16 jdk_42_method_56_code 2 (some .char) :: ws) rm_4_0_0_80) (fun av_ U => av_ = #[(.ref x), (.int 2)] ∧ Z.Warmed39 U.vm ∧ U.heap = h0) (fun _ _ _ _ _ => True) (own_EN (Q_own_cha3_2 Z x t kb fm G1 c0 c1 c2 h0 n0) rm_4_0_0_80) := by
 refine MetFree.of_bodySF (plainFor_of_name own_pn0) hisR ?_
 intro p e s m args below meth c s₁ Bd hml0 hP hK
 obtain ⟨rfl, hZ, hh⟩ := hP
 have hx := Bd.exec
 have hby := Bd.bytes
 have hml : c.maxLocals = 2 := hml0
 have hown : s.vm.findClass "java/lang/String" = some m.cls := findClass_of_methodNamed Bd.named
 have X0 : Stand p l e rm_4_0_0_80 s m _ below meth c s₁ [] 0 0 := Stand.of_body Bd
 have e0 : s₁.heap = h0 := by rw [← hh, Bd.state]; rfl
 have N0 := Fr.nil n0
 have K0 : Keep h0 h0 [] := Keep.refl h0 []
 refine show own_G p e below (own_EN (Q_own_cha3_2 Z x t kb fm G1 c0 c1 c2 h0 n0) rm_4_0_0_80 #[(.ref x), (.int 2)] s) _ from ?_
 refine own_st (fun tq kq => castTop (ef_own_cha3_2 m (x)) kq) ?_
 show own_G p e below _ (s₁.setTop (mkF m 0 #[vR x, vI 2] []))
 refine s_aloadN X0 hx (hb hby dCA_0) rfl rfl ?_
 obtain ⟨cq1, kq1, q1a, q1b, q1c⟩ := isOf hZ e0 Ex
 obtain ⟨_, _, ⟨T1, L1, k1, n1⟩, -, X1, ⟨Lc1, hQ1, l1, y1, z1⟩, st1⟩ := X0.virtualBack hx (y := mN13) (z := mN13) hown (mvT hZ (wd57 hw)) (mvT hZ (wd58 hw)) (notFace_of_selects (args := #[]) (mvT hZ (wd60 hw))) (mvT hZ (wd60 hw)) (mvT hZ (wd59 hw)) (by decide) (own_backN (W := 0) (own_isL l Z a0 hw [] (x) (G1) h0 n0 (by omega) (X00.keep K0 all0) Fc O2 P5) hZ (wd61 hw) (wd4 hw) (by decide) (by decide)) q1a q1c (g := (mkF m 1 #[vR x, vI 2] [(.ref x)])) rfl (by rw [hml]; rfl) (Steps.refl _) (argsL := []) (rest := []) (lenOf own_pd12 rfl) rfl (Nat.le_of_eq rfl) (hb hby dCA_1) (fun _ _ => ⟨rfl, e0, (by decide : 0 + 0 ≤ _), (by decide : 0 + 0 ≤ _)⟩)
 dsimp only [Pt.U, Pt.locs, Pt.cells, Pt.slots] at X1 l1 y1 z1 st1 hQ1
 subst l1 y1 z1
 obtain ⟨rfl, Nq1, sm1⟩ := hQ1
 have N1 := Fr.app N0 Nq1
 refine own_st (fun tq kq => st1.trans kq) ?_
 refine own_st (fun tq kq => XS.ifYes X1.here hx rfl (pc0 := 4) (pc' := 16) rfl (hb hby dCA_4) rfl ((if0 _ _).trans (teq (by decide : ((0 : Int32) = (0 : Int32)))).1) (by decide) (by decide) kq) ?_
 refine s_aloadN X1 hx (hb hby dCA_16) rfl rfl ?_
 obtain ⟨T2, X2, e2, st2⟩ := getF X1 hx hZ hown (host := "") (Or.inl (wd21 hw)) Via.refl sm1 Fv (g := (mkF m 17 #[vR x, vI 2] [(.ref x)])) rfl rfl (hb hby dCA_17)
 refine own_st st2 ?_
 refine s_iloadN X2 hx (hb hby dCA_20) rfl ?_
 obtain ⟨_, _, ⟨T3, L3, k3, n3⟩, -, X3, ⟨Lc3, hQ3, l3, y3, z3⟩, st3⟩ := Jvm.LawKit.callS X2 hx (y := mN15) hown (mvT hZ (wd93 hw)) (mvT hZ (wd94 hw)) (mvT hZ (wd40 hw)) (mvT hZ (wd95 hw)) (by decide) (own_backN (W := 0) (own_uch3_2 l Z a0 hw [] (t) (kb) (fm) (c0) (c1) (c2) h0 n0 (by omega) (X00.keep K0 all0) OA OH OL O4 rfm Vt hbi) hZ (wd95 hw) (wd40 hw) (by decide) (by decide)) (g := (mkF m 21 #[vR x, vI 2] [(.int 2), (.ref t)])) rfl (by rw [hml]; rfl) (argsL := [(.ref t), (.int 2)]) (rest := []) (lenOf own_pd6 rfl) rfl (Nat.le_of_eq rfl) (hb hby dCA_21) (fun _ _ => ⟨rfl, e2, (by decide : 0 + 0 ≤ _), (by decide : 0 + 0 ≤ _)⟩)
 dsimp only [Pt.U, Pt.locs, Pt.cells, Pt.slots] at X3 l3 y3 z3 st3 hQ3
 subst l3 y3 z3
 obtain ⟨rfl, Nq3, sm3⟩ := hQ3
 have N3 := Fr.app N1 Nq3
 refine own_st st3 ?_
 obtain ⟨fs, hr, hrun, hended, hW, hsame⟩ := X3.leave (v := some (.int (nar .char c2))) (fun h => by rw [Bd.returns] at h; cases h)
 refine ⟨_, _, retN X3 hx (t := .char) Bd.returns (by simp) (hb hby dCA_24) hr, hrun, hended, _, _, rfl, ?_, ⟨_, rfl⟩, hW, hsame.mono (by decide) (by decide)⟩
 change Q_own_cha3_2 Z x t kb fm G1 c0 c1 c2 h0 n0 _ T3.heap _; rw [sm3]; exact ⟨congrArg (fun z => some (Value.int z)) (own_narc hbi), N3, rfl⟩

set_option maxRecDepth 65536 in
set_option maxHeartbeats 40000000 in
theorem own_chU3_2 {p : Program} {l : Launch} {e : Env} {R : Room} {s : State} {args : Array Value} {below : List Frame} {W : Nat} {Z : State} {a0 : Array Value} {h : Heap} (hZ : Z.Warmed39 s.vm) (hw : ∀ d ∈ tables_1, d.before a0 Z = true) {x n n0 : Nat} {c0 c1 c2 : Int32} {G1 : Int32} {fm : Value} (F : own_StrU Z n h x ([c0, c1, c2] : List Int32)) (X00 : Old Z n0 h) (O2 : Sta Z Z.heap "java/lang/String" "COMPACT_STRINGS" "Z" (.int G1)) (P5 : ¬ (G1 = (0 : Int32))) (OA : oA Z) (OH : oH Z) (OL : oL Z) (O4 : o4 Z fm) (rfm : fm.isRef = true) (hfr : 5 ≤ R.frames) (hlo : W + 93 ≤ R.locals) :
    Back l R p e below s args (⟨"java/lang/String", "charAt", "(I)C"⟩ : MethodName) 3 W (fun P a => a = #[.ref x, .int (2 : Int32)] ∧ P.U.heap = h ∧ P.cells + 0 ≤ R.cells ∧ P.slots + 0 ≤ R.slots)
      (fun P _ v B => ∃ L, (v = some (.int c2) ∧ Fr n0 L ∧ B.U.heap = h) ∧ B.locs = P.locs ++ L ∧ B.cells = P.cells + 0 ∧ B.slots = P.slots + 0) := by
  have hh0 : n0 ≤ h.size := by have := X00.1; have := X00.2.1; omega
  obtain ⟨-, E, hb, ln, t, kb, cd, N2, vs, -, V, Cc, A, hc⟩ := F
  rcases id hc with ⟨rfl, rfl, rfl, hl⟩ | ⟨rfl, rfl, rfl, hg⟩
  · refine Back.mono (StrChars.Road.chN (W := W) hZ (own_wCh hw) (kI := 4) (wd3 hw) E V Cc A hc hb (O2.ext X00.2) P5 (O4.ext X00.2) rfm ln (i := 2) (by simp) (j := (2 : Int32)) rfl (by omega) (by omega)) (fun P a q => q) (fun P a v B _ q => ?_)
    obtain ⟨L, ⟨q1, rfl, q3⟩, q4⟩ := q
    exact ⟨[], ⟨q1, Fr.nil n0, q3⟩, q4⟩
  · exact own_backN (W := W) (rm := rm_4_0_0_80) (own_cha3_2 l Z a0 hw [] x t kb fm G1 c0 c1 c2 h n0 hh0 X00 E V Cc O2 P5 OA OH OL O4 rfm A (hb _ (by simp))) hZ (wd56 hw) (wd4 hw) (by show 4 + 1 ≤ _; omega) (by show W + (2 + 11) + 80 ≤ _; omega)

def Q_own_uidx4 (Z : State) (i : Int32) (t : Nat) (kb : ClassId) (fm : Value) (c0 c1 c2 c3 : Int32) (h0 : Heap) (n0 : Nat) (v : Option Value) (h : Heap) (L : List Loc) : Prop := v = none ∧ Fr n0 L ∧ h = h0
theorem ef_own_uidx4 (m : MethodId) (x0 : Int32) (x1 : Nat) : entryFrame m #[(.int x0), (.ref x1)] 2 = mkF m 0 #[.val (.int x0), .val (.ref x1)] [] := by first | (simp [entryFrame, mkF, argsToLocals, Value.category]; done) | rfl
theorem own_uidx4 (l : Launch) (Z : State) (a0 : Array Value) (hw : hWt a0 Z) (ws : List Jvm.Cond) (i : Int32) (t : Nat) (kb : ClassId) (fm : Value) (c0 c1 c2 c3 : Int32) (h0 : Heap) (n0 : Nat) (Z0 : n0 ≤ h0.size) (X00 : Old Z n0 h0) (O4 : o4 Z fm) (rfm : fm.isRef = true) (Vt : Arv Z h0 t kb .byte (8 : Int32) [.int (L8 c0), .int (H8 c0), .int (L8 c1), .int (H8 c1), .int (L8 c2), .int (H8 c2), .int (L8 c3), .int (H8 c3)] (.int 0)) (h1 : ¬ i < (0 : Int32)) (h2 : i < (4 : Int32)) :
    MetFree l mN14 (head1 (Jvm.Cond.code mN14 jdk_52_method_91_code 2 none :: ws) rm_2_0_0_40) (fun av_ U => av_ = #[(.int i), (.ref t)] ∧ Z.Warmed39 U.vm ∧ U.heap = h0) (fun _ _ _ _ _ => True) (own_EN (Q_own_uidx4 Z i t kb fm c0 c1 c2 c3 h0 n0) rm_2_0_0_40) := by
 refine MetFree.of_bodySF (plainFor_of_name own_pn1) hisR ?_
 intro p e s m args below meth c s₁ Bd hml0 hP hK
 obtain ⟨rfl, hZ, hh⟩ := hP
 have hx := Bd.exec
 have hby := Bd.bytes
 have hml : c.maxLocals = 2 := hml0
 have hown : s.vm.findClass "java/lang/StringUTF16" = some m.cls := findClass_of_methodNamed Bd.named
 have X0 : Stand p l e rm_2_0_0_40 s m _ below meth c s₁ [] 0 0 := Stand.of_body Bd
 have e0 : s₁.heap = h0 := by rw [← hh, Bd.state]; rfl
 have N0 := Fr.nil n0
 have K0 : Keep h0 h0 [] := Keep.refl h0 []
 refine show own_G p e below (own_EN (Q_own_uidx4 Z i t kb fm c0 c1 c2 c3 h0 n0) rm_2_0_0_40 #[(.int i), (.ref t)] s) _ from ?_
 refine own_st (fun tq kq => castTop (ef_own_uidx4 m (i) (t)) kq) ?_
 show own_G p e below _ (s₁.setTop (mkF m 0 #[vI i, vR t] []))
 refine s_iloadN X0 hx (hb hby dUI_0) rfl ?_
 refine s_aloadN X0 hx (hb hby dUI_1) rfl rfl ?_
 obtain ⟨_, _, ⟨T1, L1, k1, n1⟩, -, X1, ⟨Lc1, hQ1, l1, y1, z1⟩, st1⟩ := Jvm.LawKit.callS X0 hx (y := mN3) hown (mvT hZ (wd99 hw)) (mvT hZ (wd100 hw)) (mvT hZ (wd40 hw)) (mvT hZ (wd101 hw)) (by decide) (own_backN (W := 1) (own_ulen4 l Z a0 hw [] (t) (_) (_) h0 n0 (by omega) (X00.keep K0 all0) Vt) hZ (wd101 hw) (wd40 hw) (by decide) (by decide)) (g := (mkF m 2 #[vI i, vR t] [(.ref t), (.int i)])) rfl (by rw [hml]; rfl) (argsL := [(.ref t)]) (rest := [(.int i)]) (lenOf own_pd9 rfl) rfl (Nat.le_of_eq rfl) (hb hby dUI_2) (fun _ _ => ⟨rfl, e0, (by decide : 0 + 0 ≤ _), (by decide : 0 + 0 ≤ _)⟩)
 dsimp only [Pt.U, Pt.locs, Pt.cells, Pt.slots] at X1 l1 y1 z1 st1 hQ1
 subst l1 y1 z1
 obtain ⟨rfl, Nq1, sm1⟩ := hQ1
 have N1 := Fr.app N0 Nq1
 refine own_st st1 ?_
 obtain ⟨_, _, ⟨T2, L2, k2, n2⟩, -, X2, ⟨Lc2, hQ2, l2, y2, z2⟩, st2⟩ := Jvm.LawKit.callS X1 hx (y := mN12) hown (mvT hZ (wd102 hw)) (mvT hZ (wd67 hw)) (mvT hZ (wd4 hw)) (mvT hZ (wd68 hw)) (by decide) (own_backN (W := 0) (own_cidx l Z a0 hw [] (i) ((4 : Int32)) (fm) h0 n0 (by omega) (X00.keep K0 all0) O4 rfm h1 h2) hZ (wd68 hw) (wd4 hw) (by decide) (by decide)) (g := (mkF m 5 #[vI i, vR t] [(.int 4), (.int i)])) rfl (by rw [hml]; rfl) (argsL := [(.int i), (.int 4)]) (rest := []) (lenOf own_pd10 rfl) rfl (Nat.le_of_eq rfl) (hb hby dUI_5) (fun _ _ => ⟨rfl, sm1, (by decide : 0 + 0 ≤ _), (by decide : 0 + 0 ≤ _)⟩)
 dsimp only [Pt.U, Pt.locs, Pt.cells, Pt.slots] at X2 l2 y2 z2 st2 hQ2
 subst l2 y2 z2
 obtain ⟨rfl, Nq2, sm2⟩ := hQ2
 have N2 := Fr.app N1 Nq2
 refine own_st st2 ?_
 obtain ⟨fs, hr, hrun, hended, hW, hsame⟩ := X2.leave (v := none) (fun _ => rfl)
 refine ⟨_, _, X2.returnOut hx Bd.returns (hb hby dUI_8) hr, hrun, hended, _, _, rfl, ?_, ⟨_, rfl⟩, hW, hsame.mono (by decide) (by decide)⟩
 change Q_own_uidx4 Z i t kb fm c0 c1 c2 c3 h0 n0 _ T2.heap _; rw [sm2]; exact ⟨rfl, N2, rfl⟩

def Q_own_uch4_0 (Z : State) (t : Nat) (kb : ClassId) (fm : Value) (c0 c1 c2 c3 : Int32) (h0 : Heap) (n0 : Nat) (v : Option Value) (h : Heap) (L : List Loc) : Prop := v = some (.int c0) ∧ Fr n0 L ∧ h = h0
theorem ef_own_uch4_0 (m : MethodId) (x0 : Nat) : entryFrame m #[(.ref x0), (.int 0)] 2 = mkF m 0 #[.val (.ref x0), .val (.int 0)] [] := by first | (simp [entryFrame, mkF, argsToLocals, Value.category]; done) | rfl
theorem own_uch4_0 (l : Launch) (Z : State) (a0 : Array Value) (hw : hWt a0 Z) (ws : List Jvm.Cond) (t : Nat) (kb : ClassId) (fm : Value) (c0 c1 c2 c3 : Int32) (h0 : Heap) (n0 : Nat) (Z0 : n0 ≤ h0.size) (X00 : Old Z n0 h0) (OA : oA Z) (OH : oH Z) (OL : oL Z) (O4 : o4 Z fm) (rfm : fm.isRef = true) (Vt : Arv Z h0 t kb .byte (8 : Int32) [.int (L8 c0), .int (H8 c0), .int (L8 c1), .int (H8 c1), .int (L8 c2), .int (H8 c2), .int (L8 c3), .int (H8 c3)] (.int 0)) (hbi : ¬ c0 < 0 ∧ ¬ (65535 : Int32) < c0) :
    MetFree l mN15 (head1 (Jvm.Cond.code mN15 jdk_52_method_83_code 2 (some .char) :: ws) rm_3_0_0_60) (fun av_ U => av_ = #[(.ref t), (.int 0)] ∧ Z.Warmed39 U.vm ∧ U.heap = h0) (fun _ _ _ _ _ => True) (own_EN (Q_own_uch4_0 Z t kb fm c0 c1 c2 c3 h0 n0) rm_3_0_0_60) := by
 refine MetFree.of_bodySF (plainFor_of_name own_pn1) hisR ?_
 intro p e s m args below meth c s₁ Bd hml0 hP hK
 obtain ⟨rfl, hZ, hh⟩ := hP
 have hx := Bd.exec
 have hby := Bd.bytes
 have hml : c.maxLocals = 2 := hml0
 have hown : s.vm.findClass "java/lang/StringUTF16" = some m.cls := findClass_of_methodNamed Bd.named
 have X0 : Stand p l e rm_3_0_0_60 s m _ below meth c s₁ [] 0 0 := Stand.of_body Bd
 have e0 : s₁.heap = h0 := by rw [← hh, Bd.state]; rfl
 have N0 := Fr.nil n0
 have K0 : Keep h0 h0 [] := Keep.refl h0 []
 refine show own_G p e below (own_EN (Q_own_uch4_0 Z t kb fm c0 c1 c2 c3 h0 n0) rm_3_0_0_60 #[(.ref t), (.int 0)] s) _ from ?_
 refine own_st (fun tq kq => castTop (ef_own_uch4_0 m (t)) kq) ?_
 show own_G p e below _ (s₁.setTop (mkF m 0 #[vR t, vI 0] []))
 refine s_iloadN X0 hx (hb hby dUC_0) rfl ?_
 refine s_aloadN X0 hx (hb hby dUC_1) rfl rfl ?_
 obtain ⟨_, _, ⟨T1, L1, k1, n1⟩, -, X1, ⟨Lc1, hQ1, l1, y1, z1⟩, st1⟩ := Jvm.LawKit.callS X0 hx (y := mN14) hown (mvT hZ (wd96 hw)) (mvT hZ (wd97 hw)) (mvT hZ (wd40 hw)) (mvT hZ (wd98 hw)) (by decide) (own_backN (W := 0) (own_uidx4 l Z a0 hw [] ((0 : Int32)) (t) (kb) (fm) (c0) (c1) (c2) (c3) h0 n0 (by omega) (X00.keep K0 all0) O4 rfm Vt (by decide) (by decide)) hZ (wd98 hw) (wd40 hw) (by decide) (by decide)) (g := (mkF m 2 #[vR t, vI 0] [(.ref t), (.int 0)])) rfl (by rw [hml]; rfl) (argsL := [(.int 0), (.ref t)]) (rest := []) (lenOf own_pd11 rfl) rfl (Nat.le_of_eq rfl) (hb hby dUC_2) (fun _ _ => ⟨rfl, e0, (by decide : 0 + 0 ≤ _), (by decide : 0 + 0 ≤ _)⟩)
 dsimp only [Pt.U, Pt.locs, Pt.cells, Pt.slots] at X1 l1 y1 z1 st1 hQ1
 subst l1 y1 z1
 obtain ⟨rfl, Nq1, sm1⟩ := hQ1
 have N1 := Fr.app N0 Nq1
 refine own_st st1 ?_
 refine s_aloadN X1 hx (hb hby dUC_5) rfl rfl ?_
 refine s_iloadN X1 hx (hb hby dUC_6) rfl ?_
 obtain ⟨_, _, ⟨T2, L2, k2, n2⟩, -, X2, ⟨Lc2, hQ2, l2, y2, z2⟩, st2⟩ := Jvm.LawKit.callS X1 hx (y := mN2) hown (mvT hZ (wd90 hw)) (mvT hZ (wd91 hw)) (mvT hZ (wd40 hw)) (mvT hZ (wd92 hw)) (by decide) (own_backN (W := 0) (own_get_0 l Z a0 hw [] (t) (_) (_) (_) (_) (_) h0 n0 (by omega) (X00.keep K0 all0) OA OH OL Vt (by decide) (by decide) rfl rfl) hZ (wd92 hw) (wd40 hw) (by decide) (by decide)) (g := (mkF m 7 #[vR t, vI 0] [(.int 0), (.ref t)])) rfl (by rw [hml]; rfl) (argsL := [(.ref t), (.int 0)]) (rest := []) (lenOf own_pd6 rfl) rfl (Nat.le_of_eq rfl) (hb hby dUC_7) (fun _ _ => ⟨rfl, sm1, (by decide : 0 + 0 ≤ _), (by decide : 0 + 0 ≤ _)⟩)
 dsimp only [Pt.U, Pt.locs, Pt.cells, Pt.slots] at X2 l2 y2 z2 st2 hQ2
 subst l2 y2 z2
 obtain ⟨rfl, Nq2, sm2⟩ := hQ2
 have N2 := Fr.app N1 Nq2
 refine own_st st2 ?_
 obtain ⟨fs, hr, hrun, hended, hW, hsame⟩ := X2.leave (v := some (.int (nar .char (StrChars.pairCh (L8 c0) (H8 c0))))) (fun h => by rw [Bd.returns] at h; cases h)
 refine ⟨_, _, retN X2 hx (t := .char) Bd.returns (by simp) (hb hby dUC_10) hr, hrun, hended, _, _, rfl, ?_, ⟨_, rfl⟩, hW, hsame.mono (by decide) (by decide)⟩
 change Q_own_uch4_0 Z t kb fm c0 c1 c2 c3 h0 n0 _ T2.heap _; rw [sm2]; exact ⟨congrArg (fun z => some (Value.int z)) ((own_pairN _ _).trans (StrChars.pair_says hbi.1 hbi.2)), N2, rfl⟩

def Q_own_cha4_0 (Z : State) (x t : Nat) (kb : ClassId) (fm : Value) (G1 : Int32) (c0 c1 c2 c3 : Int32) (h0 : Heap) (n0 : Nat) (v : Option Value) (h : Heap) (L : List Loc) : Prop := v = some (.int c0) ∧ Fr n0 L ∧ h = h0
theorem ef_own_cha4_0 (m : MethodId) (x0 : Nat) : entryFrame m #[(.ref x0), (.int 0)] 2 = mkF m 0 #[.val (.ref x0), .val (.int 0)] [] := by first | (simp [entryFrame, mkF, argsToLocals, Value.category]; done) | rfl
theorem own_cha4_0 (l : Launch) (Z : State) (a0 : Array Value) (hw : hWt a0 Z) (ws : List Jvm.Cond) (x t : Nat) (kb : ClassId) (fm : Value) (G1 : Int32) (c0 c1 c2 c3 : Int32) (h0 : Heap) (n0 : Nat) (Z0 : n0 ≤ h0.size) (X00 : Old Z n0 h0) (Ex : Exa Z h0 x "java/lang/String") (Fv : Fld Z h0 x "java/lang/String" "value" "[B" (.ref t)) (Fc : Fld Z h0 x "java/lang/String" "coder" "B" (.int (1 : Int32))) (O2 : Sta Z Z.heap "java/lang/String" "COMPACT_STRINGS" "Z" (.int G1)) (P5 : ¬ (G1 = (0 : Int32))) (OA : oA Z) (OH : oH Z) (OL : oL Z) (O4 : o4 Z fm) (rfm : fm.isRef = true) (Vt : Arv Z h0 t kb .byte (8 : Int32) [.int (L8 c0), .int (H8 c0), .int (L8 c1), .int (H8 c1), .int (L8 c2), .int (H8 c2), .int (L8 c3), .int (H8 c3)] (.int 0)) (hbi : ¬ c0 < 0 ∧ ¬ (65535 : Int32) < c0) :
    MetFree l mN16 (head1 (Jvm.Cond.code mN16 jdk_42_method_56_code 2 (some .char) :: ws) rm_4_0_0_80) (fun av_ U => av_ = #[(.ref x), (.int 0)] ∧ Z.Warmed39 U.vm ∧ U.heap = h0) (fun _ _ _ _ _ => True) (own_EN (Q_own_cha4_0 Z x t kb fm G1 c0 c1 c2 c3 h0 n0) rm_4_0_0_80) := by
 refine MetFree.of_bodySF (plainFor_of_name own_pn0) hisR ?_
 intro p e s m args below meth c s₁ Bd hml0 hP hK
 obtain ⟨rfl, hZ, hh⟩ := hP
 have hx := Bd.exec
 have hby := Bd.bytes
 have hml : c.maxLocals = 2 := hml0
 have hown : s.vm.findClass "java/lang/String" = some m.cls := findClass_of_methodNamed Bd.named
 have X0 : Stand p l e rm_4_0_0_80 s m _ below meth c s₁ [] 0 0 := Stand.of_body Bd
 have e0 : s₁.heap = h0 := by rw [← hh, Bd.state]; rfl
 have N0 := Fr.nil n0
 have K0 : Keep h0 h0 [] := Keep.refl h0 []
 refine show own_G p e below (own_EN (Q_own_cha4_0 Z x t kb fm G1 c0 c1 c2 c3 h0 n0) rm_4_0_0_80 #[(.ref x), (.int 0)] s) _ from ?_
 refine own_st (fun tq kq => castTop (ef_own_cha4_0 m (x)) kq) ?_
 show own_G p e below _ (s₁.setTop (mkF m 0 #[vR x, vI 0] []))
 refine s_aloadN X0 hx (hb hby dCA_0) rfl rfl ?_
 obtain ⟨cq1, kq1, q1a, q1b, q1c⟩ := isOf hZ e0 Ex
 obtain ⟨_, _, ⟨T1, L1, k1, n1⟩, -, X1, ⟨Lc1, hQ1, l1, y1, z1⟩, st1⟩ := X0.virtualBack hx (y := mN13) (z := mN13) hown (mvT hZ (wd57 hw)) (mvT hZ (wd58 hw)) (notFace_of_selects (args := #[]) (mvT hZ (wd60 hw))) (mvT hZ (wd60 hw)) (mvT hZ (wd59 hw)) (by decide) (own_backN (W := 0) (own_isL l Z a0 hw [] (x) (G1) h0 n0 (by omega) (X00.keep K0 all0) Fc O2 P5) hZ (wd61 hw) (wd4 hw) (by decide) (by decide)) q1a q1c (g := (mkF m 1 #[vR x, vI 0] [(.ref x)])) rfl (by rw [hml]; rfl) (Steps.refl _) (argsL := []) (rest := []) (lenOf own_pd12 rfl) rfl (Nat.le_of_eq rfl) (hb hby dCA_1) (fun _ _ => ⟨rfl, e0, (by decide : 0 + 0 ≤ _), (by decide : 0 + 0 ≤ _)⟩)
 dsimp only [Pt.U, Pt.locs, Pt.cells, Pt.slots] at X1 l1 y1 z1 st1 hQ1
 subst l1 y1 z1
 obtain ⟨rfl, Nq1, sm1⟩ := hQ1
 have N1 := Fr.app N0 Nq1
 refine own_st (fun tq kq => st1.trans kq) ?_
 refine own_st (fun tq kq => XS.ifYes X1.here hx rfl (pc0 := 4) (pc' := 16) rfl (hb hby dCA_4) rfl ((if0 _ _).trans (teq (by decide : ((0 : Int32) = (0 : Int32)))).1) (by decide) (by decide) kq) ?_
 refine s_aloadN X1 hx (hb hby dCA_16) rfl rfl ?_
 obtain ⟨T2, X2, e2, st2⟩ := getF X1 hx hZ hown (host := "") (Or.inl (wd21 hw)) Via.refl sm1 Fv (g := (mkF m 17 #[vR x, vI 0] [(.ref x)])) rfl rfl (hb hby dCA_17)
 refine own_st st2 ?_
 refine s_iloadN X2 hx (hb hby dCA_20) rfl ?_
 obtain ⟨_, _, ⟨T3, L3, k3, n3⟩, -, X3, ⟨Lc3, hQ3, l3, y3, z3⟩, st3⟩ := Jvm.LawKit.callS X2 hx (y := mN15) hown (mvT hZ (wd93 hw)) (mvT hZ (wd94 hw)) (mvT hZ (wd40 hw)) (mvT hZ (wd95 hw)) (by decide) (own_backN (W := 0) (own_uch4_0 l Z a0 hw [] (t) (kb) (fm) (c0) (c1) (c2) (c3) h0 n0 (by omega) (X00.keep K0 all0) OA OH OL O4 rfm Vt hbi) hZ (wd95 hw) (wd40 hw) (by decide) (by decide)) (g := (mkF m 21 #[vR x, vI 0] [(.int 0), (.ref t)])) rfl (by rw [hml]; rfl) (argsL := [(.ref t), (.int 0)]) (rest := []) (lenOf own_pd6 rfl) rfl (Nat.le_of_eq rfl) (hb hby dCA_21) (fun _ _ => ⟨rfl, e2, (by decide : 0 + 0 ≤ _), (by decide : 0 + 0 ≤ _)⟩)
 dsimp only [Pt.U, Pt.locs, Pt.cells, Pt.slots] at X3 l3 y3 z3 st3 hQ3
 subst l3 y3 z3
 obtain ⟨rfl, Nq3, sm3⟩ := hQ3
 have N3 := Fr.app N1 Nq3
 refine own_st st3 ?_
 obtain ⟨fs, hr, hrun, hended, hW, hsame⟩ := X3.leave (v := some (.int (nar .char c0))) (fun h => by rw [Bd.returns] at h; cases h)
 refine ⟨_, _, retN X3 hx (t := .char) Bd.returns (by simp) (hb hby dCA_24) hr, hrun, hended, _, _, rfl, ?_, ⟨_, rfl⟩, hW, hsame.mono (by decide) (by decide)⟩
 change Q_own_cha4_0 Z x t kb fm G1 c0 c1 c2 c3 h0 n0 _ T3.heap _; rw [sm3]; exact ⟨congrArg (fun z => some (Value.int z)) (own_narc hbi), N3, rfl⟩

set_option maxRecDepth 65536 in
set_option maxHeartbeats 40000000 in
theorem own_chU4_0 {p : Program} {l : Launch} {e : Env} {R : Room} {s : State} {args : Array Value} {below : List Frame} {W : Nat} {Z : State} {a0 : Array Value} {h : Heap} (hZ : Z.Warmed39 s.vm) (hw : ∀ d ∈ tables_1, d.before a0 Z = true) {x n n0 : Nat} {c0 c1 c2 c3 : Int32} {G1 : Int32} {fm : Value} (F : own_StrU Z n h x ([c0, c1, c2, c3] : List Int32)) (X00 : Old Z n0 h) (O2 : Sta Z Z.heap "java/lang/String" "COMPACT_STRINGS" "Z" (.int G1)) (P5 : ¬ (G1 = (0 : Int32))) (OA : oA Z) (OH : oH Z) (OL : oL Z) (O4 : o4 Z fm) (rfm : fm.isRef = true) (hfr : 5 ≤ R.frames) (hlo : W + 93 ≤ R.locals) :
    Back l R p e below s args (⟨"java/lang/String", "charAt", "(I)C"⟩ : MethodName) 3 W (fun P a => a = #[.ref x, .int (0 : Int32)] ∧ P.U.heap = h ∧ P.cells + 0 ≤ R.cells ∧ P.slots + 0 ≤ R.slots)
      (fun P _ v B => ∃ L, (v = some (.int c0) ∧ Fr n0 L ∧ B.U.heap = h) ∧ B.locs = P.locs ++ L ∧ B.cells = P.cells + 0 ∧ B.slots = P.slots + 0) := by
  have hh0 : n0 ≤ h.size := by have := X00.1; have := X00.2.1; omega
  obtain ⟨-, E, hb, ln, t, kb, cd, N2, vs, -, V, Cc, A, hc⟩ := F
  rcases id hc with ⟨rfl, rfl, rfl, hl⟩ | ⟨rfl, rfl, rfl, hg⟩
  · refine Back.mono (StrChars.Road.chN (W := W) hZ (own_wCh hw) (kI := 4) (wd3 hw) E V Cc A hc hb (O2.ext X00.2) P5 (O4.ext X00.2) rfm ln (i := 0) (by simp) (j := (0 : Int32)) rfl (by omega) (by omega)) (fun P a q => q) (fun P a v B _ q => ?_)
    obtain ⟨L, ⟨q1, rfl, q3⟩, q4⟩ := q
    exact ⟨[], ⟨q1, Fr.nil n0, q3⟩, q4⟩
  · exact own_backN (W := W) (rm := rm_4_0_0_80) (own_cha4_0 l Z a0 hw [] x t kb fm G1 c0 c1 c2 c3 h n0 hh0 X00 E V Cc O2 P5 OA OH OL O4 rfm A (hb _ (by simp))) hZ (wd56 hw) (wd4 hw) (by show 4 + 1 ≤ _; omega) (by show W + (2 + 11) + 80 ≤ _; omega)

def Q_own_uch4_1 (Z : State) (t : Nat) (kb : ClassId) (fm : Value) (c0 c1 c2 c3 : Int32) (h0 : Heap) (n0 : Nat) (v : Option Value) (h : Heap) (L : List Loc) : Prop := v = some (.int c1) ∧ Fr n0 L ∧ h = h0
theorem ef_own_uch4_1 (m : MethodId) (x0 : Nat) : entryFrame m #[(.ref x0), (.int 1)] 2 = mkF m 0 #[.val (.ref x0), .val (.int 1)] [] := by first | (simp [entryFrame, mkF, argsToLocals, Value.category]; done) | rfl
theorem own_uch4_1 (l : Launch) (Z : State) (a0 : Array Value) (hw : hWt a0 Z) (ws : List Jvm.Cond) (t : Nat) (kb : ClassId) (fm : Value) (c0 c1 c2 c3 : Int32) (h0 : Heap) (n0 : Nat) (Z0 : n0 ≤ h0.size) (X00 : Old Z n0 h0) (OA : oA Z) (OH : oH Z) (OL : oL Z) (O4 : o4 Z fm) (rfm : fm.isRef = true) (Vt : Arv Z h0 t kb .byte (8 : Int32) [.int (L8 c0), .int (H8 c0), .int (L8 c1), .int (H8 c1), .int (L8 c2), .int (H8 c2), .int (L8 c3), .int (H8 c3)] (.int 0)) (hbi : ¬ c1 < 0 ∧ ¬ (65535 : Int32) < c1) :
    MetFree l mN15 (head1 (Jvm.Cond.code mN15 jdk_52_method_83_code 2 (some .char) :: ws) rm_3_0_0_60) (fun av_ U => av_ = #[(.ref t), (.int 1)] ∧ Z.Warmed39 U.vm ∧ U.heap = h0) (fun _ _ _ _ _ => True) (own_EN (Q_own_uch4_1 Z t kb fm c0 c1 c2 c3 h0 n0) rm_3_0_0_60) := by
 refine MetFree.of_bodySF (plainFor_of_name own_pn1) hisR ?_
 intro p e s m args below meth c s₁ Bd hml0 hP hK
 obtain ⟨rfl, hZ, hh⟩ := hP
 have hx := Bd.exec
 have hby := Bd.bytes
 have hml : c.maxLocals = 2 := hml0
 have hown : s.vm.findClass "java/lang/StringUTF16" = some m.cls := findClass_of_methodNamed Bd.named
 have X0 : Stand p l e rm_3_0_0_60 s m _ below meth c s₁ [] 0 0 := Stand.of_body Bd
 have e0 : s₁.heap = h0 := by rw [← hh, Bd.state]; rfl
 have N0 := Fr.nil n0
 have K0 : Keep h0 h0 [] := Keep.refl h0 []
 refine show own_G p e below (own_EN (Q_own_uch4_1 Z t kb fm c0 c1 c2 c3 h0 n0) rm_3_0_0_60 #[(.ref t), (.int 1)] s) _ from ?_
 refine own_st (fun tq kq => castTop (ef_own_uch4_1 m (t)) kq) ?_
 show own_G p e below _ (s₁.setTop (mkF m 0 #[vR t, vI 1] []))
 refine s_iloadN X0 hx (hb hby dUC_0) rfl ?_
 refine s_aloadN X0 hx (hb hby dUC_1) rfl rfl ?_
 obtain ⟨_, _, ⟨T1, L1, k1, n1⟩, -, X1, ⟨Lc1, hQ1, l1, y1, z1⟩, st1⟩ := Jvm.LawKit.callS X0 hx (y := mN14) hown (mvT hZ (wd96 hw)) (mvT hZ (wd97 hw)) (mvT hZ (wd40 hw)) (mvT hZ (wd98 hw)) (by decide) (own_backN (W := 0) (own_uidx4 l Z a0 hw [] ((1 : Int32)) (t) (kb) (fm) (c0) (c1) (c2) (c3) h0 n0 (by omega) (X00.keep K0 all0) O4 rfm Vt (by decide) (by decide)) hZ (wd98 hw) (wd40 hw) (by decide) (by decide)) (g := (mkF m 2 #[vR t, vI 1] [(.ref t), (.int 1)])) rfl (by rw [hml]; rfl) (argsL := [(.int 1), (.ref t)]) (rest := []) (lenOf own_pd11 rfl) rfl (Nat.le_of_eq rfl) (hb hby dUC_2) (fun _ _ => ⟨rfl, e0, (by decide : 0 + 0 ≤ _), (by decide : 0 + 0 ≤ _)⟩)
 dsimp only [Pt.U, Pt.locs, Pt.cells, Pt.slots] at X1 l1 y1 z1 st1 hQ1
 subst l1 y1 z1
 obtain ⟨rfl, Nq1, sm1⟩ := hQ1
 have N1 := Fr.app N0 Nq1
 refine own_st st1 ?_
 refine s_aloadN X1 hx (hb hby dUC_5) rfl rfl ?_
 refine s_iloadN X1 hx (hb hby dUC_6) rfl ?_
 obtain ⟨_, _, ⟨T2, L2, k2, n2⟩, -, X2, ⟨Lc2, hQ2, l2, y2, z2⟩, st2⟩ := Jvm.LawKit.callS X1 hx (y := mN2) hown (mvT hZ (wd90 hw)) (mvT hZ (wd91 hw)) (mvT hZ (wd40 hw)) (mvT hZ (wd92 hw)) (by decide) (own_backN (W := 0) (own_get_1 l Z a0 hw [] (t) (_) (_) (_) (_) (_) h0 n0 (by omega) (X00.keep K0 all0) OA OH OL Vt (by decide) (by decide) rfl rfl) hZ (wd92 hw) (wd40 hw) (by decide) (by decide)) (g := (mkF m 7 #[vR t, vI 1] [(.int 1), (.ref t)])) rfl (by rw [hml]; rfl) (argsL := [(.ref t), (.int 1)]) (rest := []) (lenOf own_pd6 rfl) rfl (Nat.le_of_eq rfl) (hb hby dUC_7) (fun _ _ => ⟨rfl, sm1, (by decide : 0 + 0 ≤ _), (by decide : 0 + 0 ≤ _)⟩)
 dsimp only [Pt.U, Pt.locs, Pt.cells, Pt.slots] at X2 l2 y2 z2 st2 hQ2
 subst l2 y2 z2
 obtain ⟨rfl, Nq2, sm2⟩ := hQ2
 have N2 := Fr.app N1 Nq2
 refine own_st st2 ?_
 obtain ⟨fs, hr, hrun, hended, hW, hsame⟩ := X2.leave (v := some (.int (nar .char (StrChars.pairCh (L8 c1) (H8 c1))))) (fun h => by rw [Bd.returns] at h; cases h)
 refine ⟨_, _, retN X2 hx (t := .char) Bd.returns (by simp) (hb hby dUC_10) hr, hrun, hended, _, _, rfl, ?_, ⟨_, rfl⟩, hW, hsame.mono (by decide) (by decide)⟩
 change Q_own_uch4_1 Z t kb fm c0 c1 c2 c3 h0 n0 _ T2.heap _; rw [sm2]; exact ⟨congrArg (fun z => some (Value.int z)) ((own_pairN _ _).trans (StrChars.pair_says hbi.1 hbi.2)), N2, rfl⟩

def Q_own_cha4_1 (Z : State) (x t : Nat) (kb : ClassId) (fm : Value) (G1 : Int32) (c0 c1 c2 c3 : Int32) (h0 : Heap) (n0 : Nat) (v : Option Value) (h : Heap) (L : List Loc) : Prop := v = some (.int c1) ∧ Fr n0 L ∧ h = h0
theorem ef_own_cha4_1 (m : MethodId) (x0 : Nat) : entryFrame m #[(.ref x0), (.int 1)] 2 = mkF m 0 #[.val (.ref x0), .val (.int 1)] [] := by first | (simp [entryFrame, mkF, argsToLocals, Value.category]; done) | rfl
theorem own_cha4_1 (l : Launch) (Z : State) (a0 : Array Value) (hw : hWt a0 Z) (ws : List Jvm.Cond) (x t : Nat) (kb : ClassId) (fm : Value) (G1 : Int32) (c0 c1 c2 c3 : Int32) (h0 : Heap) (n0 : Nat) (Z0 : n0 ≤ h0.size) (X00 : Old Z n0 h0) (Ex : Exa Z h0 x "java/lang/String") (Fv : Fld Z h0 x "java/lang/String" "value" "[B" (.ref t)) (Fc : Fld Z h0 x "java/lang/String" "coder" "B" (.int (1 : Int32))) (O2 : Sta Z Z.heap "java/lang/String" "COMPACT_STRINGS" "Z" (.int G1)) (P5 : ¬ (G1 = (0 : Int32))) (OA : oA Z) (OH : oH Z) (OL : oL Z) (O4 : o4 Z fm) (rfm : fm.isRef = true) (Vt : Arv Z h0 t kb .byte (8 : Int32) [.int (L8 c0), .int (H8 c0), .int (L8 c1), .int (H8 c1), .int (L8 c2), .int (H8 c2), .int (L8 c3), .int (H8 c3)] (.int 0)) (hbi : ¬ c1 < 0 ∧ ¬ (65535 : Int32) < c1) :
    MetFree l mN16 (head1 (Jvm.Cond.code mN16 jdk_42_method_56_code 2 (some .char) :: ws) rm_4_0_0_80) (fun av_ U => av_ = #[(.ref x), (.int 1)] ∧ Z.Warmed39 U.vm ∧ U.heap = h0) (fun _ _ _ _ _ => True) (own_EN (Q_own_cha4_1 Z x t kb fm G1 c0 c1 c2 c3 h0 n0) rm_4_0_0_80) := by
 refine MetFree.of_bodySF (plainFor_of_name own_pn0) hisR ?_
 intro p e s m args below meth c s₁ Bd hml0 hP hK
 obtain ⟨rfl, hZ, hh⟩ := hP
 have hx := Bd.exec
 have hby := Bd.bytes
 have hml : c.maxLocals = 2 := hml0
 have hown : s.vm.findClass "java/lang/String" = some m.cls := findClass_of_methodNamed Bd.named
 have X0 : Stand p l e rm_4_0_0_80 s m _ below meth c s₁ [] 0 0 := Stand.of_body Bd
 have e0 : s₁.heap = h0 := by rw [← hh, Bd.state]; rfl
 have N0 := Fr.nil n0
 have K0 : Keep h0 h0 [] := Keep.refl h0 []
 refine show own_G p e below (own_EN (Q_own_cha4_1 Z x t kb fm G1 c0 c1 c2 c3 h0 n0) rm_4_0_0_80 #[(.ref x), (.int 1)] s) _ from ?_
 refine own_st (fun tq kq => castTop (ef_own_cha4_1 m (x)) kq) ?_
 show own_G p e below _ (s₁.setTop (mkF m 0 #[vR x, vI 1] []))
 refine s_aloadN X0 hx (hb hby dCA_0) rfl rfl ?_
 obtain ⟨cq1, kq1, q1a, q1b, q1c⟩ := isOf hZ e0 Ex
 obtain ⟨_, _, ⟨T1, L1, k1, n1⟩, -, X1, ⟨Lc1, hQ1, l1, y1, z1⟩, st1⟩ := X0.virtualBack hx (y := mN13) (z := mN13) hown (mvT hZ (wd57 hw)) (mvT hZ (wd58 hw)) (notFace_of_selects (args := #[]) (mvT hZ (wd60 hw))) (mvT hZ (wd60 hw)) (mvT hZ (wd59 hw)) (by decide) (own_backN (W := 0) (own_isL l Z a0 hw [] (x) (G1) h0 n0 (by omega) (X00.keep K0 all0) Fc O2 P5) hZ (wd61 hw) (wd4 hw) (by decide) (by decide)) q1a q1c (g := (mkF m 1 #[vR x, vI 1] [(.ref x)])) rfl (by rw [hml]; rfl) (Steps.refl _) (argsL := []) (rest := []) (lenOf own_pd12 rfl) rfl (Nat.le_of_eq rfl) (hb hby dCA_1) (fun _ _ => ⟨rfl, e0, (by decide : 0 + 0 ≤ _), (by decide : 0 + 0 ≤ _)⟩)
 dsimp only [Pt.U, Pt.locs, Pt.cells, Pt.slots] at X1 l1 y1 z1 st1 hQ1
 subst l1 y1 z1
 obtain ⟨rfl, Nq1, sm1⟩ := hQ1
 have N1 := Fr.app N0 Nq1
 refine own_st (fun tq kq => st1.trans kq) ?_
 refine own_st (fun tq kq => XS.ifYes X1.here hx rfl (pc0 := 4) (pc' := 16) rfl (hb hby dCA_4) rfl ((if0 _ _).trans (teq (by decide : ((0 : Int32) = (0 : Int32)))).1) (by decide) (by decide) kq) ?_
 refine s_aloadN X1 hx (hb hby dCA_16) rfl rfl ?_
 obtain ⟨T2, X2, e2, st2⟩ := getF X1 hx hZ hown (host := "") (Or.inl (wd21 hw)) Via.refl sm1 Fv (g := (mkF m 17 #[vR x, vI 1] [(.ref x)])) rfl rfl (hb hby dCA_17)
 refine own_st st2 ?_
 refine s_iloadN X2 hx (hb hby dCA_20) rfl ?_
 obtain ⟨_, _, ⟨T3, L3, k3, n3⟩, -, X3, ⟨Lc3, hQ3, l3, y3, z3⟩, st3⟩ := Jvm.LawKit.callS X2 hx (y := mN15) hown (mvT hZ (wd93 hw)) (mvT hZ (wd94 hw)) (mvT hZ (wd40 hw)) (mvT hZ (wd95 hw)) (by decide) (own_backN (W := 0) (own_uch4_1 l Z a0 hw [] (t) (kb) (fm) (c0) (c1) (c2) (c3) h0 n0 (by omega) (X00.keep K0 all0) OA OH OL O4 rfm Vt hbi) hZ (wd95 hw) (wd40 hw) (by decide) (by decide)) (g := (mkF m 21 #[vR x, vI 1] [(.int 1), (.ref t)])) rfl (by rw [hml]; rfl) (argsL := [(.ref t), (.int 1)]) (rest := []) (lenOf own_pd6 rfl) rfl (Nat.le_of_eq rfl) (hb hby dCA_21) (fun _ _ => ⟨rfl, e2, (by decide : 0 + 0 ≤ _), (by decide : 0 + 0 ≤ _)⟩)
 dsimp only [Pt.U, Pt.locs, Pt.cells, Pt.slots] at X3 l3 y3 z3 st3 hQ3
 subst l3 y3 z3
 obtain ⟨rfl, Nq3, sm3⟩ := hQ3
 have N3 := Fr.app N1 Nq3
 refine own_st st3 ?_
 obtain ⟨fs, hr, hrun, hended, hW, hsame⟩ := X3.leave (v := some (.int (nar .char c1))) (fun h => by rw [Bd.returns] at h; cases h)
 refine ⟨_, _, retN X3 hx (t := .char) Bd.returns (by simp) (hb hby dCA_24) hr, hrun, hended, _, _, rfl, ?_, ⟨_, rfl⟩, hW, hsame.mono (by decide) (by decide)⟩
 change Q_own_cha4_1 Z x t kb fm G1 c0 c1 c2 c3 h0 n0 _ T3.heap _; rw [sm3]; exact ⟨congrArg (fun z => some (Value.int z)) (own_narc hbi), N3, rfl⟩

set_option maxRecDepth 65536 in
set_option maxHeartbeats 40000000 in
theorem own_chU4_1 {p : Program} {l : Launch} {e : Env} {R : Room} {s : State} {args : Array Value} {below : List Frame} {W : Nat} {Z : State} {a0 : Array Value} {h : Heap} (hZ : Z.Warmed39 s.vm) (hw : ∀ d ∈ tables_1, d.before a0 Z = true) {x n n0 : Nat} {c0 c1 c2 c3 : Int32} {G1 : Int32} {fm : Value} (F : own_StrU Z n h x ([c0, c1, c2, c3] : List Int32)) (X00 : Old Z n0 h) (O2 : Sta Z Z.heap "java/lang/String" "COMPACT_STRINGS" "Z" (.int G1)) (P5 : ¬ (G1 = (0 : Int32))) (OA : oA Z) (OH : oH Z) (OL : oL Z) (O4 : o4 Z fm) (rfm : fm.isRef = true) (hfr : 5 ≤ R.frames) (hlo : W + 93 ≤ R.locals) :
    Back l R p e below s args (⟨"java/lang/String", "charAt", "(I)C"⟩ : MethodName) 3 W (fun P a => a = #[.ref x, .int (1 : Int32)] ∧ P.U.heap = h ∧ P.cells + 0 ≤ R.cells ∧ P.slots + 0 ≤ R.slots)
      (fun P _ v B => ∃ L, (v = some (.int c1) ∧ Fr n0 L ∧ B.U.heap = h) ∧ B.locs = P.locs ++ L ∧ B.cells = P.cells + 0 ∧ B.slots = P.slots + 0) := by
  have hh0 : n0 ≤ h.size := by have := X00.1; have := X00.2.1; omega
  obtain ⟨-, E, hb, ln, t, kb, cd, N2, vs, -, V, Cc, A, hc⟩ := F
  rcases id hc with ⟨rfl, rfl, rfl, hl⟩ | ⟨rfl, rfl, rfl, hg⟩
  · refine Back.mono (StrChars.Road.chN (W := W) hZ (own_wCh hw) (kI := 4) (wd3 hw) E V Cc A hc hb (O2.ext X00.2) P5 (O4.ext X00.2) rfm ln (i := 1) (by simp) (j := (1 : Int32)) rfl (by omega) (by omega)) (fun P a q => q) (fun P a v B _ q => ?_)
    obtain ⟨L, ⟨q1, rfl, q3⟩, q4⟩ := q
    exact ⟨[], ⟨q1, Fr.nil n0, q3⟩, q4⟩
  · exact own_backN (W := W) (rm := rm_4_0_0_80) (own_cha4_1 l Z a0 hw [] x t kb fm G1 c0 c1 c2 c3 h n0 hh0 X00 E V Cc O2 P5 OA OH OL O4 rfm A (hb _ (by simp))) hZ (wd56 hw) (wd4 hw) (by show 4 + 1 ≤ _; omega) (by show W + (2 + 11) + 80 ≤ _; omega)

def Q_own_uch4_2 (Z : State) (t : Nat) (kb : ClassId) (fm : Value) (c0 c1 c2 c3 : Int32) (h0 : Heap) (n0 : Nat) (v : Option Value) (h : Heap) (L : List Loc) : Prop := v = some (.int c2) ∧ Fr n0 L ∧ h = h0
theorem ef_own_uch4_2 (m : MethodId) (x0 : Nat) : entryFrame m #[(.ref x0), (.int 2)] 2 = mkF m 0 #[.val (.ref x0), .val (.int 2)] [] := by first | (simp [entryFrame, mkF, argsToLocals, Value.category]; done) | rfl
theorem own_uch4_2 (l : Launch) (Z : State) (a0 : Array Value) (hw : hWt a0 Z) (ws : List Jvm.Cond) (t : Nat) (kb : ClassId) (fm : Value) (c0 c1 c2 c3 : Int32) (h0 : Heap) (n0 : Nat) (Z0 : n0 ≤ h0.size) (X00 : Old Z n0 h0) (OA : oA Z) (OH : oH Z) (OL : oL Z) (O4 : o4 Z fm) (rfm : fm.isRef = true) (Vt : Arv Z h0 t kb .byte (8 : Int32) [.int (L8 c0), .int (H8 c0), .int (L8 c1), .int (H8 c1), .int (L8 c2), .int (H8 c2), .int (L8 c3), .int (H8 c3)] (.int 0)) (hbi : ¬ c2 < 0 ∧ ¬ (65535 : Int32) < c2) :
    MetFree l mN15 (head1 (Jvm.Cond.code mN15 jdk_52_method_83_code 2 (some .char) :: ws) rm_3_0_0_60) (fun av_ U => av_ = #[(.ref t), (.int 2)] ∧ Z.Warmed39 U.vm ∧ U.heap = h0) (fun _ _ _ _ _ => True) (own_EN (Q_own_uch4_2 Z t kb fm c0 c1 c2 c3 h0 n0) rm_3_0_0_60) := by
 refine MetFree.of_bodySF (plainFor_of_name own_pn1) hisR ?_
 intro p e s m args below meth c s₁ Bd hml0 hP hK
 obtain ⟨rfl, hZ, hh⟩ := hP
 have hx := Bd.exec
 have hby := Bd.bytes
 have hml : c.maxLocals = 2 := hml0
 have hown : s.vm.findClass "java/lang/StringUTF16" = some m.cls := findClass_of_methodNamed Bd.named
 have X0 : Stand p l e rm_3_0_0_60 s m _ below meth c s₁ [] 0 0 := Stand.of_body Bd
 have e0 : s₁.heap = h0 := by rw [← hh, Bd.state]; rfl
 have N0 := Fr.nil n0
 have K0 : Keep h0 h0 [] := Keep.refl h0 []
 refine show own_G p e below (own_EN (Q_own_uch4_2 Z t kb fm c0 c1 c2 c3 h0 n0) rm_3_0_0_60 #[(.ref t), (.int 2)] s) _ from ?_
 refine own_st (fun tq kq => castTop (ef_own_uch4_2 m (t)) kq) ?_
 show own_G p e below _ (s₁.setTop (mkF m 0 #[vR t, vI 2] []))
 refine s_iloadN X0 hx (hb hby dUC_0) rfl ?_
 refine s_aloadN X0 hx (hb hby dUC_1) rfl rfl ?_
 obtain ⟨_, _, ⟨T1, L1, k1, n1⟩, -, X1, ⟨Lc1, hQ1, l1, y1, z1⟩, st1⟩ := Jvm.LawKit.callS X0 hx (y := mN14) hown (mvT hZ (wd96 hw)) (mvT hZ (wd97 hw)) (mvT hZ (wd40 hw)) (mvT hZ (wd98 hw)) (by decide) (own_backN (W := 0) (own_uidx4 l Z a0 hw [] ((2 : Int32)) (t) (kb) (fm) (c0) (c1) (c2) (c3) h0 n0 (by omega) (X00.keep K0 all0) O4 rfm Vt (by decide) (by decide)) hZ (wd98 hw) (wd40 hw) (by decide) (by decide)) (g := (mkF m 2 #[vR t, vI 2] [(.ref t), (.int 2)])) rfl (by rw [hml]; rfl) (argsL := [(.int 2), (.ref t)]) (rest := []) (lenOf own_pd11 rfl) rfl (Nat.le_of_eq rfl) (hb hby dUC_2) (fun _ _ => ⟨rfl, e0, (by decide : 0 + 0 ≤ _), (by decide : 0 + 0 ≤ _)⟩)
 dsimp only [Pt.U, Pt.locs, Pt.cells, Pt.slots] at X1 l1 y1 z1 st1 hQ1
 subst l1 y1 z1
 obtain ⟨rfl, Nq1, sm1⟩ := hQ1
 have N1 := Fr.app N0 Nq1
 refine own_st st1 ?_
 refine s_aloadN X1 hx (hb hby dUC_5) rfl rfl ?_
 refine s_iloadN X1 hx (hb hby dUC_6) rfl ?_
 obtain ⟨_, _, ⟨T2, L2, k2, n2⟩, -, X2, ⟨Lc2, hQ2, l2, y2, z2⟩, st2⟩ := Jvm.LawKit.callS X1 hx (y := mN2) hown (mvT hZ (wd90 hw)) (mvT hZ (wd91 hw)) (mvT hZ (wd40 hw)) (mvT hZ (wd92 hw)) (by decide) (own_backN (W := 0) (own_get_2 l Z a0 hw [] (t) (_) (_) (_) (_) (_) h0 n0 (by omega) (X00.keep K0 all0) OA OH OL Vt (by decide) (by decide) rfl rfl) hZ (wd92 hw) (wd40 hw) (by decide) (by decide)) (g := (mkF m 7 #[vR t, vI 2] [(.int 2), (.ref t)])) rfl (by rw [hml]; rfl) (argsL := [(.ref t), (.int 2)]) (rest := []) (lenOf own_pd6 rfl) rfl (Nat.le_of_eq rfl) (hb hby dUC_7) (fun _ _ => ⟨rfl, sm1, (by decide : 0 + 0 ≤ _), (by decide : 0 + 0 ≤ _)⟩)
 dsimp only [Pt.U, Pt.locs, Pt.cells, Pt.slots] at X2 l2 y2 z2 st2 hQ2
 subst l2 y2 z2
 obtain ⟨rfl, Nq2, sm2⟩ := hQ2
 have N2 := Fr.app N1 Nq2
 refine own_st st2 ?_
 obtain ⟨fs, hr, hrun, hended, hW, hsame⟩ := X2.leave (v := some (.int (nar .char (StrChars.pairCh (L8 c2) (H8 c2))))) (fun h => by rw [Bd.returns] at h; cases h)
 refine ⟨_, _, retN X2 hx (t := .char) Bd.returns (by simp) (hb hby dUC_10) hr, hrun, hended, _, _, rfl, ?_, ⟨_, rfl⟩, hW, hsame.mono (by decide) (by decide)⟩
 change Q_own_uch4_2 Z t kb fm c0 c1 c2 c3 h0 n0 _ T2.heap _; rw [sm2]; exact ⟨congrArg (fun z => some (Value.int z)) ((own_pairN _ _).trans (StrChars.pair_says hbi.1 hbi.2)), N2, rfl⟩

def Q_own_cha4_2 (Z : State) (x t : Nat) (kb : ClassId) (fm : Value) (G1 : Int32) (c0 c1 c2 c3 : Int32) (h0 : Heap) (n0 : Nat) (v : Option Value) (h : Heap) (L : List Loc) : Prop := v = some (.int c2) ∧ Fr n0 L ∧ h = h0
theorem ef_own_cha4_2 (m : MethodId) (x0 : Nat) : entryFrame m #[(.ref x0), (.int 2)] 2 = mkF m 0 #[.val (.ref x0), .val (.int 2)] [] := by first | (simp [entryFrame, mkF, argsToLocals, Value.category]; done) | rfl
theorem own_cha4_2 (l : Launch) (Z : State) (a0 : Array Value) (hw : hWt a0 Z) (ws : List Jvm.Cond) (x t : Nat) (kb : ClassId) (fm : Value) (G1 : Int32) (c0 c1 c2 c3 : Int32) (h0 : Heap) (n0 : Nat) (Z0 : n0 ≤ h0.size) (X00 : Old Z n0 h0) (Ex : Exa Z h0 x "java/lang/String") (Fv : Fld Z h0 x "java/lang/String" "value" "[B" (.ref t)) (Fc : Fld Z h0 x "java/lang/String" "coder" "B" (.int (1 : Int32))) (O2 : Sta Z Z.heap "java/lang/String" "COMPACT_STRINGS" "Z" (.int G1)) (P5 : ¬ (G1 = (0 : Int32))) (OA : oA Z) (OH : oH Z) (OL : oL Z) (O4 : o4 Z fm) (rfm : fm.isRef = true) (Vt : Arv Z h0 t kb .byte (8 : Int32) [.int (L8 c0), .int (H8 c0), .int (L8 c1), .int (H8 c1), .int (L8 c2), .int (H8 c2), .int (L8 c3), .int (H8 c3)] (.int 0)) (hbi : ¬ c2 < 0 ∧ ¬ (65535 : Int32) < c2) :
    MetFree l mN16 (head1 (Jvm.Cond.code mN16 jdk_42_method_56_code 2 (some .char) :: ws) rm_4_0_0_80) (fun av_ U => av_ = #[(.ref x), (.int 2)] ∧ Z.Warmed39 U.vm ∧ U.heap = h0) (fun _ _ _ _ _ => True) (own_EN (Q_own_cha4_2 Z x t kb fm G1 c0 c1 c2 c3 h0 n0) rm_4_0_0_80) := by
 refine MetFree.of_bodySF (plainFor_of_name own_pn0) hisR ?_
 intro p e s m args below meth c s₁ Bd hml0 hP hK
 obtain ⟨rfl, hZ, hh⟩ := hP
 have hx := Bd.exec
 have hby := Bd.bytes
 have hml : c.maxLocals = 2 := hml0
 have hown : s.vm.findClass "java/lang/String" = some m.cls := findClass_of_methodNamed Bd.named
 have X0 : Stand p l e rm_4_0_0_80 s m _ below meth c s₁ [] 0 0 := Stand.of_body Bd
 have e0 : s₁.heap = h0 := by rw [← hh, Bd.state]; rfl
 have N0 := Fr.nil n0
 have K0 : Keep h0 h0 [] := Keep.refl h0 []
 refine show own_G p e below (own_EN (Q_own_cha4_2 Z x t kb fm G1 c0 c1 c2 c3 h0 n0) rm_4_0_0_80 #[(.ref x), (.int 2)] s) _ from ?_
 refine own_st (fun tq kq => castTop (ef_own_cha4_2 m (x)) kq) ?_
 show own_G p e below _ (s₁.setTop (mkF m 0 #[vR x, vI 2] []))
 refine s_aloadN X0 hx (hb hby dCA_0) rfl rfl ?_
 obtain ⟨cq1, kq1, q1a, q1b, q1c⟩ := isOf hZ e0 Ex
 obtain ⟨_, _, ⟨T1, L1, k1, n1⟩, -, X1, ⟨Lc1, hQ1, l1, y1, z1⟩, st1⟩ := X0.virtualBack hx (y := mN13) (z := mN13) hown (mvT hZ (wd57 hw)) (mvT hZ (wd58 hw)) (notFace_of_selects (args := #[]) (mvT hZ (wd60 hw))) (mvT hZ (wd60 hw)) (mvT hZ (wd59 hw)) (by decide) (own_backN (W := 0) (own_isL l Z a0 hw [] (x) (G1) h0 n0 (by omega) (X00.keep K0 all0) Fc O2 P5) hZ (wd61 hw) (wd4 hw) (by decide) (by decide)) q1a q1c (g := (mkF m 1 #[vR x, vI 2] [(.ref x)])) rfl (by rw [hml]; rfl) (Steps.refl _) (argsL := []) (rest := []) (lenOf own_pd12 rfl) rfl (Nat.le_of_eq rfl) (hb hby dCA_1) (fun _ _ => ⟨rfl, e0, (by decide : 0 + 0 ≤ _), (by decide : 0 + 0 ≤ _)⟩)
 dsimp only [Pt.U, Pt.locs, Pt.cells, Pt.slots] at X1 l1 y1 z1 st1 hQ1
 subst l1 y1 z1
 obtain ⟨rfl, Nq1, sm1⟩ := hQ1
 have N1 := Fr.app N0 Nq1
 refine own_st (fun tq kq => st1.trans kq) ?_
 refine own_st (fun tq kq => XS.ifYes X1.here hx rfl (pc0 := 4) (pc' := 16) rfl (hb hby dCA_4) rfl ((if0 _ _).trans (teq (by decide : ((0 : Int32) = (0 : Int32)))).1) (by decide) (by decide) kq) ?_
 refine s_aloadN X1 hx (hb hby dCA_16) rfl rfl ?_
 obtain ⟨T2, X2, e2, st2⟩ := getF X1 hx hZ hown (host := "") (Or.inl (wd21 hw)) Via.refl sm1 Fv (g := (mkF m 17 #[vR x, vI 2] [(.ref x)])) rfl rfl (hb hby dCA_17)
 refine own_st st2 ?_
 refine s_iloadN X2 hx (hb hby dCA_20) rfl ?_
 obtain ⟨_, _, ⟨T3, L3, k3, n3⟩, -, X3, ⟨Lc3, hQ3, l3, y3, z3⟩, st3⟩ := Jvm.LawKit.callS X2 hx (y := mN15) hown (mvT hZ (wd93 hw)) (mvT hZ (wd94 hw)) (mvT hZ (wd40 hw)) (mvT hZ (wd95 hw)) (by decide) (own_backN (W := 0) (own_uch4_2 l Z a0 hw [] (t) (kb) (fm) (c0) (c1) (c2) (c3) h0 n0 (by omega) (X00.keep K0 all0) OA OH OL O4 rfm Vt hbi) hZ (wd95 hw) (wd40 hw) (by decide) (by decide)) (g := (mkF m 21 #[vR x, vI 2] [(.int 2), (.ref t)])) rfl (by rw [hml]; rfl) (argsL := [(.ref t), (.int 2)]) (rest := []) (lenOf own_pd6 rfl) rfl (Nat.le_of_eq rfl) (hb hby dCA_21) (fun _ _ => ⟨rfl, e2, (by decide : 0 + 0 ≤ _), (by decide : 0 + 0 ≤ _)⟩)
 dsimp only [Pt.U, Pt.locs, Pt.cells, Pt.slots] at X3 l3 y3 z3 st3 hQ3
 subst l3 y3 z3
 obtain ⟨rfl, Nq3, sm3⟩ := hQ3
 have N3 := Fr.app N1 Nq3
 refine own_st st3 ?_
 obtain ⟨fs, hr, hrun, hended, hW, hsame⟩ := X3.leave (v := some (.int (nar .char c2))) (fun h => by rw [Bd.returns] at h; cases h)
 refine ⟨_, _, retN X3 hx (t := .char) Bd.returns (by simp) (hb hby dCA_24) hr, hrun, hended, _, _, rfl, ?_, ⟨_, rfl⟩, hW, hsame.mono (by decide) (by decide)⟩
 change Q_own_cha4_2 Z x t kb fm G1 c0 c1 c2 c3 h0 n0 _ T3.heap _; rw [sm3]; exact ⟨congrArg (fun z => some (Value.int z)) (own_narc hbi), N3, rfl⟩

set_option maxRecDepth 65536 in
set_option maxHeartbeats 40000000 in
theorem own_chU4_2 {p : Program} {l : Launch} {e : Env} {R : Room} {s : State} {args : Array Value} {below : List Frame} {W : Nat} {Z : State} {a0 : Array Value} {h : Heap} (hZ : Z.Warmed39 s.vm) (hw : ∀ d ∈ tables_1, d.before a0 Z = true) {x n n0 : Nat} {c0 c1 c2 c3 : Int32} {G1 : Int32} {fm : Value} (F : own_StrU Z n h x ([c0, c1, c2, c3] : List Int32)) (X00 : Old Z n0 h) (O2 : Sta Z Z.heap "java/lang/String" "COMPACT_STRINGS" "Z" (.int G1)) (P5 : ¬ (G1 = (0 : Int32))) (OA : oA Z) (OH : oH Z) (OL : oL Z) (O4 : o4 Z fm) (rfm : fm.isRef = true) (hfr : 5 ≤ R.frames) (hlo : W + 93 ≤ R.locals) :
    Back l R p e below s args (⟨"java/lang/String", "charAt", "(I)C"⟩ : MethodName) 3 W (fun P a => a = #[.ref x, .int (2 : Int32)] ∧ P.U.heap = h ∧ P.cells + 0 ≤ R.cells ∧ P.slots + 0 ≤ R.slots)
      (fun P _ v B => ∃ L, (v = some (.int c2) ∧ Fr n0 L ∧ B.U.heap = h) ∧ B.locs = P.locs ++ L ∧ B.cells = P.cells + 0 ∧ B.slots = P.slots + 0) := by
  have hh0 : n0 ≤ h.size := by have := X00.1; have := X00.2.1; omega
  obtain ⟨-, E, hb, ln, t, kb, cd, N2, vs, -, V, Cc, A, hc⟩ := F
  rcases id hc with ⟨rfl, rfl, rfl, hl⟩ | ⟨rfl, rfl, rfl, hg⟩
  · refine Back.mono (StrChars.Road.chN (W := W) hZ (own_wCh hw) (kI := 4) (wd3 hw) E V Cc A hc hb (O2.ext X00.2) P5 (O4.ext X00.2) rfm ln (i := 2) (by simp) (j := (2 : Int32)) rfl (by omega) (by omega)) (fun P a q => q) (fun P a v B _ q => ?_)
    obtain ⟨L, ⟨q1, rfl, q3⟩, q4⟩ := q
    exact ⟨[], ⟨q1, Fr.nil n0, q3⟩, q4⟩
  · exact own_backN (W := W) (rm := rm_4_0_0_80) (own_cha4_2 l Z a0 hw [] x t kb fm G1 c0 c1 c2 c3 h n0 hh0 X00 E V Cc O2 P5 OA OH OL O4 rfm A (hb _ (by simp))) hZ (wd56 hw) (wd4 hw) (by show 4 + 1 ≤ _; omega) (by show W + (2 + 11) + 80 ≤ _; omega)

def Q_own_uch4_3 (Z : State) (t : Nat) (kb : ClassId) (fm : Value) (c0 c1 c2 c3 : Int32) (h0 : Heap) (n0 : Nat) (v : Option Value) (h : Heap) (L : List Loc) : Prop := v = some (.int c3) ∧ Fr n0 L ∧ h = h0
theorem ef_own_uch4_3 (m : MethodId) (x0 : Nat) : entryFrame m #[(.ref x0), (.int 3)] 2 = mkF m 0 #[.val (.ref x0), .val (.int 3)] [] := by first | (simp [entryFrame, mkF, argsToLocals, Value.category]; done) | rfl
theorem own_uch4_3 (l : Launch) (Z : State) (a0 : Array Value) (hw : hWt a0 Z) (ws : List Jvm.Cond) (t : Nat) (kb : ClassId) (fm : Value) (c0 c1 c2 c3 : Int32) (h0 : Heap) (n0 : Nat) (Z0 : n0 ≤ h0.size) (X00 : Old Z n0 h0) (OA : oA Z) (OH : oH Z) (OL : oL Z) (O4 : o4 Z fm) (rfm : fm.isRef = true) (Vt : Arv Z h0 t kb .byte (8 : Int32) [.int (L8 c0), .int (H8 c0), .int (L8 c1), .int (H8 c1), .int (L8 c2), .int (H8 c2), .int (L8 c3), .int (H8 c3)] (.int 0)) (hbi : ¬ c3 < 0 ∧ ¬ (65535 : Int32) < c3) :
    MetFree l mN15 (head1 (Jvm.Cond.code mN15 jdk_52_method_83_code 2 (some .char) :: ws) rm_3_0_0_60) (fun av_ U => av_ = #[(.ref t), (.int 3)] ∧ Z.Warmed39 U.vm ∧ U.heap = h0) (fun _ _ _ _ _ => True) (own_EN (Q_own_uch4_3 Z t kb fm c0 c1 c2 c3 h0 n0) rm_3_0_0_60) := by
 refine MetFree.of_bodySF (plainFor_of_name own_pn1) hisR ?_
 intro p e s m args below meth c s₁ Bd hml0 hP hK
 obtain ⟨rfl, hZ, hh⟩ := hP
 have hx := Bd.exec
 have hby := Bd.bytes
 have hml : c.maxLocals = 2 := hml0
 have hown : s.vm.findClass "java/lang/StringUTF16" = some m.cls := findClass_of_methodNamed Bd.named
 have X0 : Stand p l e rm_3_0_0_60 s m _ below meth c s₁ [] 0 0 := Stand.of_body Bd
 have e0 : s₁.heap = h0 := by rw [← hh, Bd.state]; rfl
 have N0 := Fr.nil n0
 have K0 : Keep h0 h0 [] := Keep.refl h0 []
 refine show own_G p e below (own_EN (Q_own_uch4_3 Z t kb fm c0 c1 c2 c3 h0 n0) rm_3_0_0_60 #[(.ref t), (.int 3)] s) _ from ?_
 refine own_st (fun tq kq => castTop (ef_own_uch4_3 m (t)) kq) ?_
 show own_G p e below _ (s₁.setTop (mkF m 0 #[vR t, vI 3] []))
 refine s_iloadN X0 hx (hb hby dUC_0) rfl ?_
 refine s_aloadN X0 hx (hb hby dUC_1) rfl rfl ?_
 obtain ⟨_, _, ⟨T1, L1, k1, n1⟩, -, X1, ⟨Lc1, hQ1, l1, y1, z1⟩, st1⟩ := Jvm.LawKit.callS X0 hx (y := mN14) hown (mvT hZ (wd96 hw)) (mvT hZ (wd97 hw)) (mvT hZ (wd40 hw)) (mvT hZ (wd98 hw)) (by decide) (own_backN (W := 0) (own_uidx4 l Z a0 hw [] ((3 : Int32)) (t) (kb) (fm) (c0) (c1) (c2) (c3) h0 n0 (by omega) (X00.keep K0 all0) O4 rfm Vt (by decide) (by decide)) hZ (wd98 hw) (wd40 hw) (by decide) (by decide)) (g := (mkF m 2 #[vR t, vI 3] [(.ref t), (.int 3)])) rfl (by rw [hml]; rfl) (argsL := [(.int 3), (.ref t)]) (rest := []) (lenOf own_pd11 rfl) rfl (Nat.le_of_eq rfl) (hb hby dUC_2) (fun _ _ => ⟨rfl, e0, (by decide : 0 + 0 ≤ _), (by decide : 0 + 0 ≤ _)⟩)
 dsimp only [Pt.U, Pt.locs, Pt.cells, Pt.slots] at X1 l1 y1 z1 st1 hQ1
 subst l1 y1 z1
 obtain ⟨rfl, Nq1, sm1⟩ := hQ1
 have N1 := Fr.app N0 Nq1
 refine own_st st1 ?_
 refine s_aloadN X1 hx (hb hby dUC_5) rfl rfl ?_
 refine s_iloadN X1 hx (hb hby dUC_6) rfl ?_
 obtain ⟨_, _, ⟨T2, L2, k2, n2⟩, -, X2, ⟨Lc2, hQ2, l2, y2, z2⟩, st2⟩ := Jvm.LawKit.callS X1 hx (y := mN2) hown (mvT hZ (wd90 hw)) (mvT hZ (wd91 hw)) (mvT hZ (wd40 hw)) (mvT hZ (wd92 hw)) (by decide) (own_backN (W := 0) (own_get_3 l Z a0 hw [] (t) (_) (_) (_) (_) (_) h0 n0 (by omega) (X00.keep K0 all0) OA OH OL Vt (by decide) (by decide) rfl rfl) hZ (wd92 hw) (wd40 hw) (by decide) (by decide)) (g := (mkF m 7 #[vR t, vI 3] [(.int 3), (.ref t)])) rfl (by rw [hml]; rfl) (argsL := [(.ref t), (.int 3)]) (rest := []) (lenOf own_pd6 rfl) rfl (Nat.le_of_eq rfl) (hb hby dUC_7) (fun _ _ => ⟨rfl, sm1, (by decide : 0 + 0 ≤ _), (by decide : 0 + 0 ≤ _)⟩)
 dsimp only [Pt.U, Pt.locs, Pt.cells, Pt.slots] at X2 l2 y2 z2 st2 hQ2
 subst l2 y2 z2
 obtain ⟨rfl, Nq2, sm2⟩ := hQ2
 have N2 := Fr.app N1 Nq2
 refine own_st st2 ?_
 obtain ⟨fs, hr, hrun, hended, hW, hsame⟩ := X2.leave (v := some (.int (nar .char (StrChars.pairCh (L8 c3) (H8 c3))))) (fun h => by rw [Bd.returns] at h; cases h)
 refine ⟨_, _, retN X2 hx (t := .char) Bd.returns (by simp) (hb hby dUC_10) hr, hrun, hended, _, _, rfl, ?_, ⟨_, rfl⟩, hW, hsame.mono (by decide) (by decide)⟩
 change Q_own_uch4_3 Z t kb fm c0 c1 c2 c3 h0 n0 _ T2.heap _; rw [sm2]; exact ⟨congrArg (fun z => some (Value.int z)) ((own_pairN _ _).trans (StrChars.pair_says hbi.1 hbi.2)), N2, rfl⟩

def Q_own_cha4_3 (Z : State) (x t : Nat) (kb : ClassId) (fm : Value) (G1 : Int32) (c0 c1 c2 c3 : Int32) (h0 : Heap) (n0 : Nat) (v : Option Value) (h : Heap) (L : List Loc) : Prop := v = some (.int c3) ∧ Fr n0 L ∧ h = h0
theorem ef_own_cha4_3 (m : MethodId) (x0 : Nat) : entryFrame m #[(.ref x0), (.int 3)] 2 = mkF m 0 #[.val (.ref x0), .val (.int 3)] [] := by first | (simp [entryFrame, mkF, argsToLocals, Value.category]; done) | rfl
theorem own_cha4_3 (l : Launch) (Z : State) (a0 : Array Value) (hw : hWt a0 Z) (ws : List Jvm.Cond) (x t : Nat) (kb : ClassId) (fm : Value) (G1 : Int32) (c0 c1 c2 c3 : Int32) (h0 : Heap) (n0 : Nat) (Z0 : n0 ≤ h0.size) (X00 : Old Z n0 h0) (Ex : Exa Z h0 x "java/lang/String") (Fv : Fld Z h0 x "java/lang/String" "value" "[B" (.ref t)) (Fc : Fld Z h0 x "java/lang/String" "coder" "B" (.int (1 : Int32))) (O2 : Sta Z Z.heap "java/lang/String" "COMPACT_STRINGS" "Z" (.int G1)) (P5 : ¬ (G1 = (0 : Int32))) (OA : oA Z) (OH : oH Z) (OL : oL Z) (O4 : o4 Z fm) (rfm : fm.isRef = true) (Vt : Arv Z h0 t kb .byte (8 : Int32) [.int (L8 c0), .int (H8 c0), .int (L8 c1), .int (H8 c1), .int (L8 c2), .int (H8 c2), .int (L8 c3), .int (H8 c3)] (.int 0)) (hbi : ¬ c3 < 0 ∧ ¬ (65535 : Int32) < c3) :
    MetFree l mN16 (head1 (Jvm.Cond.code mN16 jdk_42_method_56_code 2 (some .char) :: ws) rm_4_0_0_80) (fun av_ U => av_ = #[(.ref x), (.int 3)] ∧ Z.Warmed39 U.vm ∧ U.heap = h0) (fun _ _ _ _ _ => True) (own_EN (Q_own_cha4_3 Z x t kb fm G1 c0 c1 c2 c3 h0 n0) rm_4_0_0_80) := by
 refine MetFree.of_bodySF (plainFor_of_name own_pn0) hisR ?_
 intro p e s m args below meth c s₁ Bd hml0 hP hK
 obtain ⟨rfl, hZ, hh⟩ := hP
 have hx := Bd.exec
 have hby := Bd.bytes
 have hml : c.maxLocals = 2 := hml0
 have hown : s.vm.findClass "java/lang/String" = some m.cls := findClass_of_methodNamed Bd.named
 have X0 : Stand p l e rm_4_0_0_80 s m _ below meth c s₁ [] 0 0 := Stand.of_body Bd
 have e0 : s₁.heap = h0 := by rw [← hh, Bd.state]; rfl
 have N0 := Fr.nil n0
 have K0 : Keep h0 h0 [] := Keep.refl h0 []
 refine show own_G p e below (own_EN (Q_own_cha4_3 Z x t kb fm G1 c0 c1 c2 c3 h0 n0) rm_4_0_0_80 #[(.ref x), (.int 3)] s) _ from ?_
 refine own_st (fun tq kq => castTop (ef_own_cha4_3 m (x)) kq) ?_
 show own_G p e below _ (s₁.setTop (mkF m 0 #[vR x, vI 3] []))
 refine s_aloadN X0 hx (hb hby dCA_0) rfl rfl ?_
 obtain ⟨cq1, kq1, q1a, q1b, q1c⟩ := isOf hZ e0 Ex
 obtain ⟨_, _, ⟨T1, L1, k1, n1⟩, -, X1, ⟨Lc1, hQ1, l1, y1, z1⟩, st1⟩ := X0.virtualBack hx (y := mN13) (z := mN13) hown (mvT hZ (wd57 hw)) (mvT hZ (wd58 hw)) (notFace_of_selects (args := #[]) (mvT hZ (wd60 hw))) (mvT hZ (wd60 hw)) (mvT hZ (wd59 hw)) (by decide) (own_backN (W := 0) (own_isL l Z a0 hw [] (x) (G1) h0 n0 (by omega) (X00.keep K0 all0) Fc O2 P5) hZ (wd61 hw) (wd4 hw) (by decide) (by decide)) q1a q1c (g := (mkF m 1 #[vR x, vI 3] [(.ref x)])) rfl (by rw [hml]; rfl) (Steps.refl _) (argsL := []) (rest := []) (lenOf own_pd12 rfl) rfl (Nat.le_of_eq rfl) (hb hby dCA_1) (fun _ _ => ⟨rfl, e0, (by decide : 0 + 0 ≤ _), (by decide : 0 + 0 ≤ _)⟩)
 dsimp only [Pt.U, Pt.locs, Pt.cells, Pt.slots] at X1 l1 y1 z1 st1 hQ1
 subst l1 y1 z1
 obtain ⟨rfl, Nq1, sm1⟩ := hQ1
 have N1 := Fr.app N0 Nq1
 refine own_st (fun tq kq => st1.trans kq) ?_
 refine own_st (fun tq kq => XS.ifYes X1.here hx rfl (pc0 := 4) (pc' := 16) rfl (hb hby dCA_4) rfl ((if0 _ _).trans (teq (by decide : ((0 : Int32) = (0 : Int32)))).1) (by decide) (by decide) kq) ?_
 refine s_aloadN X1 hx (hb hby dCA_16) rfl rfl ?_
 obtain ⟨T2, X2, e2, st2⟩ := getF X1 hx hZ hown (host := "") (Or.inl (wd21 hw)) Via.refl sm1 Fv (g := (mkF m 17 #[vR x, vI 3] [(.ref x)])) rfl rfl (hb hby dCA_17)
 refine own_st st2 ?_
 refine s_iloadN X2 hx (hb hby dCA_20) rfl ?_
 obtain ⟨_, _, ⟨T3, L3, k3, n3⟩, -, X3, ⟨Lc3, hQ3, l3, y3, z3⟩, st3⟩ := Jvm.LawKit.callS X2 hx (y := mN15) hown (mvT hZ (wd93 hw)) (mvT hZ (wd94 hw)) (mvT hZ (wd40 hw)) (mvT hZ (wd95 hw)) (by decide) (own_backN (W := 0) (own_uch4_3 l Z a0 hw [] (t) (kb) (fm) (c0) (c1) (c2) (c3) h0 n0 (by omega) (X00.keep K0 all0) OA OH OL O4 rfm Vt hbi) hZ (wd95 hw) (wd40 hw) (by decide) (by decide)) (g := (mkF m 21 #[vR x, vI 3] [(.int 3), (.ref t)])) rfl (by rw [hml]; rfl) (argsL := [(.ref t), (.int 3)]) (rest := []) (lenOf own_pd6 rfl) rfl (Nat.le_of_eq rfl) (hb hby dCA_21) (fun _ _ => ⟨rfl, e2, (by decide : 0 + 0 ≤ _), (by decide : 0 + 0 ≤ _)⟩)
 dsimp only [Pt.U, Pt.locs, Pt.cells, Pt.slots] at X3 l3 y3 z3 st3 hQ3
 subst l3 y3 z3
 obtain ⟨rfl, Nq3, sm3⟩ := hQ3
 have N3 := Fr.app N1 Nq3
 refine own_st st3 ?_
 obtain ⟨fs, hr, hrun, hended, hW, hsame⟩ := X3.leave (v := some (.int (nar .char c3))) (fun h => by rw [Bd.returns] at h; cases h)
 refine ⟨_, _, retN X3 hx (t := .char) Bd.returns (by simp) (hb hby dCA_24) hr, hrun, hended, _, _, rfl, ?_, ⟨_, rfl⟩, hW, hsame.mono (by decide) (by decide)⟩
 change Q_own_cha4_3 Z x t kb fm G1 c0 c1 c2 c3 h0 n0 _ T3.heap _; rw [sm3]; exact ⟨congrArg (fun z => some (Value.int z)) (own_narc hbi), N3, rfl⟩

set_option maxRecDepth 65536 in
set_option maxHeartbeats 40000000 in
theorem own_chU4_3 {p : Program} {l : Launch} {e : Env} {R : Room} {s : State} {args : Array Value} {below : List Frame} {W : Nat} {Z : State} {a0 : Array Value} {h : Heap} (hZ : Z.Warmed39 s.vm) (hw : ∀ d ∈ tables_1, d.before a0 Z = true) {x n n0 : Nat} {c0 c1 c2 c3 : Int32} {G1 : Int32} {fm : Value} (F : own_StrU Z n h x ([c0, c1, c2, c3] : List Int32)) (X00 : Old Z n0 h) (O2 : Sta Z Z.heap "java/lang/String" "COMPACT_STRINGS" "Z" (.int G1)) (P5 : ¬ (G1 = (0 : Int32))) (OA : oA Z) (OH : oH Z) (OL : oL Z) (O4 : o4 Z fm) (rfm : fm.isRef = true) (hfr : 5 ≤ R.frames) (hlo : W + 93 ≤ R.locals) :
    Back l R p e below s args (⟨"java/lang/String", "charAt", "(I)C"⟩ : MethodName) 3 W (fun P a => a = #[.ref x, .int (3 : Int32)] ∧ P.U.heap = h ∧ P.cells + 0 ≤ R.cells ∧ P.slots + 0 ≤ R.slots)
      (fun P _ v B => ∃ L, (v = some (.int c3) ∧ Fr n0 L ∧ B.U.heap = h) ∧ B.locs = P.locs ++ L ∧ B.cells = P.cells + 0 ∧ B.slots = P.slots + 0) := by
  have hh0 : n0 ≤ h.size := by have := X00.1; have := X00.2.1; omega
  obtain ⟨-, E, hb, ln, t, kb, cd, N2, vs, -, V, Cc, A, hc⟩ := F
  rcases id hc with ⟨rfl, rfl, rfl, hl⟩ | ⟨rfl, rfl, rfl, hg⟩
  · refine Back.mono (StrChars.Road.chN (W := W) hZ (own_wCh hw) (kI := 4) (wd3 hw) E V Cc A hc hb (O2.ext X00.2) P5 (O4.ext X00.2) rfm ln (i := 3) (by simp) (j := (3 : Int32)) rfl (by omega) (by omega)) (fun P a q => q) (fun P a v B _ q => ?_)
    obtain ⟨L, ⟨q1, rfl, q3⟩, q4⟩ := q
    exact ⟨[], ⟨q1, Fr.nil n0, q3⟩, q4⟩
  · exact own_backN (W := W) (rm := rm_4_0_0_80) (own_cha4_3 l Z a0 hw [] x t kb fm G1 c0 c1 c2 c3 h n0 hh0 X00 E V Cc O2 P5 OA OH OL O4 rfm A (hb _ (by simp))) hZ (wd56 hw) (wd4 hw) (by show 4 + 1 ≤ _; omega) (by show W + (2 + 11) + 80 ≤ _; omega)

def own_ctl (c : Int32) : Prop := c < (32 : Int32) ∨ c = (127 : Int32)
theorem own_lt32 {c : Int32} : ¬ (31 : Int32) < c ↔ c < (32 : Int32) := by
  rw [Int32.lt_iff_toInt_lt, Int32.lt_iff_toInt_lt]
  have e1 : (31 : Int32).toInt = 31 := rfl
  have e2 : (32 : Int32).toInt = 32 := rfl
  omega
theorem own_i2cb (x : Int32) : ¬ x.toUInt32.toUInt16.toUInt32.toInt32 < 0 ∧ ¬ (65535 : Int32) < x.toUInt32.toUInt16.toUInt32.toInt32 := by
  have h := c_i2c x
  rw [Int32.lt_iff_toInt_lt, Int32.lt_iff_toInt_lt]
  have e0 : (0 : Int32).toInt = 0 := rfl
  have e1 : (65535 : Int32).toInt = 65535 := rfl
  omega

def Q_own_hc0 (Z : State) (q nb : Nat) (fm : Value) (G1 : Int32) (h0 : Heap) (n0 : Nat) (v : Option Value) (h : Heap) (L : List Loc) : Prop := ((v = some (.int (1 : Int32)) ∧ ∃ c ∈ ([] : List Int32), own_ctl c) ∨ (v = some (.int (0 : Int32)) ∧ ∀ c ∈ ([] : List Int32), ¬ own_ctl c)) ∧ Fr n0 L ∧ h = h0
theorem ef_own_hc0 (m : MethodId) (x0 : Nat) : entryFrame m #[(.ref x0)] 3 = mkF m 0 #[.val (.ref x0), .unset, .unset] [] := by first | (simp [entryFrame, mkF, argsToLocals, Value.category]; done) | rfl
theorem own_hc0 (l : Launch) (Z : State) (a0 : Array Value) (hw : hWt a0 Z) (ws : List Jvm.Cond) (q nb : Nat) (fm : Value) (G1 : Int32) (h0 : Heap) (n0 : Nat) (Z0 : n0 ≤ h0.size) (X00 : Old Z n0 h0) (Sq : own_StrU Z nb h0 q ([] : List Int32)) (O2 : Sta Z Z.heap "java/lang/String" "COMPACT_STRINGS" "Z" (.int G1)) (P5 : ¬ (G1 = (0 : Int32))) (OA : oA Z) (OH : oH Z) (OL : oL Z) (O4 : o4 Z fm) (rfm : fm.isRef = true) :
    MetFree l mN17 (head1 (Jvm.Cond.code mN17 prog_4_method_3_code 3 (some .boolean) :: ws) rm_5_0_0_96) (fun av_ U => av_ = #[(.ref q)] ∧ Z.Warmed39 U.vm ∧ U.heap = h0) (fun _ _ _ _ _ => True) (own_EN (Q_own_hc0 Z q nb fm G1 h0 n0) rm_5_0_0_96) := by
 refine MetFree.of_bodySF (plainFor_of_name own_pn3) hisR ?_
 intro p e s m args below meth c s₁ Bd hml0 hP hK
 obtain ⟨rfl, hZ, hh⟩ := hP
 have hx := Bd.exec
 have hby := Bd.bytes
 have hml : c.maxLocals = 3 := hml0
 have hown : s.vm.findClass "com/example/ward/ward/BasicCredentials" = some m.cls := findClass_of_methodNamed Bd.named
 have X0 : Stand p l e rm_5_0_0_96 s m _ below meth c s₁ [] 0 0 := Stand.of_body Bd
 have e0 : s₁.heap = h0 := by rw [← hh, Bd.state]; rfl
 have N0 := Fr.nil n0
 have K0 : Keep h0 h0 [] := Keep.refl h0 []
 refine show own_G p e below (own_EN (Q_own_hc0 Z q nb fm G1 h0 n0) rm_5_0_0_96 #[(.ref q)] s) _ from ?_
 refine own_st (fun tq kq => castTop (ef_own_hc0 m (q)) kq) ?_
 show own_G p e below _ (s₁.setTop (mkF m 0 #[vR q, .unset, .unset] []))
 refine s_iconst X0 hx (hb hby dHC_0) ?_
 refine own_st (fun tq kq => XS.istoreN X0.here hx rfl (hb hby dHC_1) rfl (l' := #[vR q, vI 0, .unset]) rfl kq) ?_
 refine s_iloadN X0 hx (hb hby dHC_2) rfl ?_
 refine s_aloadN X0 hx (hb hby dHC_3) rfl rfl ?_
 show own_G p e below _ (s₁.setTop (mkF m 4 #[vR q, vI 0, .unset] [(.ref q), (.int 0)]))
 obtain ⟨-, E_1, hb_1, ln_1, t_1, kb_1, cd_1, N2_1, vs_1, -, V_1, C_1, A_1, hc_1⟩ := id Sq
 obtain ⟨cq1, kq1, q1a, q1b, q1c⟩ := isOf hZ e0 Sq.2.1
 obtain ⟨_, _, ⟨T1, L1, k1, n1⟩, -, X1, ⟨Lc1, hQ1, l1, y1, z1⟩, st1⟩ := X0.virtualBack hx (y := mN18) (z := mN18) hown (mvT hZ (wd27 hw)) (mvT hZ (wd28 hw)) (notFace_of_selects (args := #[]) (mvT hZ (wd30 hw))) (mvT hZ (wd30 hw)) (mvT hZ (wd29 hw)) (by decide) (StrChars.Road.lenW (W := 1) hZ (own_wLen hw) (kI := 4) (wd3 hw) E_1 V_1 C_1 A_1 hc_1 hb_1 (O2.ext (X00.keep K0 all0).2) P5 ln_1 (by decide) (by decide)) q1a q1c (g := (mkF m 4 #[vR q, vI 0, .unset] [(.ref q), (.int 0)])) rfl (by rw [hml]; rfl) (Steps.refl _) (argsL := []) (rest := [(.int 0)]) (lenOf own_pd13 rfl) rfl (Nat.le_of_eq rfl) (hb hby dHC_4) (fun _ _ => ⟨rfl, e0, (by decide : 0 + 0 ≤ _), (by decide : 0 + 0 ≤ _)⟩)
 dsimp only [Pt.U, Pt.locs, Pt.cells, Pt.slots] at X1 l1 y1 z1 st1 hQ1
 subst l1 y1 z1
 obtain ⟨rfl, rfl, sm1⟩ := hQ1
 have N1 := Fr.app N0 (Fr.nil n0)
 refine own_st (fun tq kq => st1.trans kq) ?_
 refine own_st (fun tq kq => XS.icmpYes X1.here hx rfl (pc0 := 7) (pc' := 36) rfl (hb hby dHC_7) rfl (flt (by decide : ¬ ((0 : Int32) < (0 : Int32)))).2.1 (by decide) (by decide) kq) ?_
 refine s_iconst X1 hx (hb hby dHC_36) ?_
 show own_G p e below _ (T1.setTop (mkF m 37 #[vR q, vI 0, .unset] [(.int 0)]))
 obtain ⟨fs, hr, hrun, hended, hW, hsame⟩ := X1.leave (v := some (.int 0)) (fun h => by rw [Bd.returns] at h; cases h)
 refine ⟨_, _, retN X1 hx (t := .boolean) Bd.returns (by simp) (hb hby dHC_37) hr, hrun, hended, _, _, rfl, ?_, ⟨_, rfl⟩, hW, hsame.mono (by decide) (by decide)⟩
 change Q_own_hc0 Z q nb fm G1 h0 n0 _ T1.heap _; rw [sm1]; exact ⟨Or.inr ⟨rfl, by intro c hc; cases hc⟩, N1, rfl⟩

theorem own_all1 {P : Int32 → Prop} {c0 : Int32} (h0 : ¬ P c0) : ∀ c ∈ ([c0] : List Int32), ¬ P c := by
  intro c hc
  simp only [List.mem_cons, List.not_mem_nil, or_false] at hc
  rcases hc with rfl
  · exact h0

def Q_own_hc1 (Z : State) (q nb : Nat) (fm : Value) (G1 : Int32) (c0 : Int32) (h0 : Heap) (n0 : Nat) (v : Option Value) (h : Heap) (L : List Loc) : Prop := ((v = some (.int (1 : Int32)) ∧ ∃ c ∈ ([c0] : List Int32), own_ctl c) ∨ (v = some (.int (0 : Int32)) ∧ ∀ c ∈ ([c0] : List Int32), ¬ own_ctl c)) ∧ Fr n0 L ∧ h = h0
theorem ef_own_hc1 (m : MethodId) (x0 : Nat) : entryFrame m #[(.ref x0)] 3 = mkF m 0 #[.val (.ref x0), .unset, .unset] [] := by first | (simp [entryFrame, mkF, argsToLocals, Value.category]; done) | rfl
theorem own_hc1 (l : Launch) (Z : State) (a0 : Array Value) (hw : hWt a0 Z) (ws : List Jvm.Cond) (q nb : Nat) (fm : Value) (G1 : Int32) (c0 : Int32) (h0 : Heap) (n0 : Nat) (Z0 : n0 ≤ h0.size) (X00 : Old Z n0 h0) (Sq : own_StrU Z nb h0 q ([c0] : List Int32)) (O2 : Sta Z Z.heap "java/lang/String" "COMPACT_STRINGS" "Z" (.int G1)) (P5 : ¬ (G1 = (0 : Int32))) (OA : oA Z) (OH : oH Z) (OL : oL Z) (O4 : o4 Z fm) (rfm : fm.isRef = true) :
    MetFree l mN17 (head1 (Jvm.Cond.code mN17 prog_4_method_3_code 3 (some .boolean) :: ws) rm_5_0_0_96) (fun av_ U => av_ = #[(.ref q)] ∧ Z.Warmed39 U.vm ∧ U.heap = h0) (fun _ _ _ _ _ => True) (own_EN (Q_own_hc1 Z q nb fm G1 c0 h0 n0) rm_5_0_0_96) := by
 refine MetFree.of_bodySF (plainFor_of_name own_pn3) hisR ?_
 intro p e s m args below meth c s₁ Bd hml0 hP hK
 obtain ⟨rfl, hZ, hh⟩ := hP
 have hx := Bd.exec
 have hby := Bd.bytes
 have hml : c.maxLocals = 3 := hml0
 have hown : s.vm.findClass "com/example/ward/ward/BasicCredentials" = some m.cls := findClass_of_methodNamed Bd.named
 have X0 : Stand p l e rm_5_0_0_96 s m _ below meth c s₁ [] 0 0 := Stand.of_body Bd
 have e0 : s₁.heap = h0 := by rw [← hh, Bd.state]; rfl
 have N0 := Fr.nil n0
 have K0 : Keep h0 h0 [] := Keep.refl h0 []
 refine show own_G p e below (own_EN (Q_own_hc1 Z q nb fm G1 c0 h0 n0) rm_5_0_0_96 #[(.ref q)] s) _ from ?_
 refine own_st (fun tq kq => castTop (ef_own_hc1 m (q)) kq) ?_
 show own_G p e below _ (s₁.setTop (mkF m 0 #[vR q, .unset, .unset] []))
 refine s_iconst X0 hx (hb hby dHC_0) ?_
 refine own_st (fun tq kq => XS.istoreN X0.here hx rfl (hb hby dHC_1) rfl (l' := #[vR q, vI 0, .unset]) rfl kq) ?_
 refine s_iloadN X0 hx (hb hby dHC_2) rfl ?_
 refine s_aloadN X0 hx (hb hby dHC_3) rfl rfl ?_
 show own_G p e below _ (s₁.setTop (mkF m 4 #[vR q, vI 0, .unset] [(.ref q), (.int 0)]))
 obtain ⟨-, E_1, hb_1, ln_1, t_1, kb_1, cd_1, N2_1, vs_1, -, V_1, C_1, A_1, hc_1⟩ := id Sq
 obtain ⟨cq1, kq1, q1a, q1b, q1c⟩ := isOf hZ e0 Sq.2.1
 obtain ⟨_, _, ⟨T1, L1, k1, n1⟩, -, X1, ⟨Lc1, hQ1, l1, y1, z1⟩, st1⟩ := X0.virtualBack hx (y := mN18) (z := mN18) hown (mvT hZ (wd27 hw)) (mvT hZ (wd28 hw)) (notFace_of_selects (args := #[]) (mvT hZ (wd30 hw))) (mvT hZ (wd30 hw)) (mvT hZ (wd29 hw)) (by decide) (StrChars.Road.lenW (W := 1) hZ (own_wLen hw) (kI := 4) (wd3 hw) E_1 V_1 C_1 A_1 hc_1 hb_1 (O2.ext (X00.keep K0 all0).2) P5 ln_1 (by decide) (by decide)) q1a q1c (g := (mkF m 4 #[vR q, vI 0, .unset] [(.ref q), (.int 0)])) rfl (by rw [hml]; rfl) (Steps.refl _) (argsL := []) (rest := [(.int 0)]) (lenOf own_pd13 rfl) rfl (Nat.le_of_eq rfl) (hb hby dHC_4) (fun _ _ => ⟨rfl, e0, (by decide : 0 + 0 ≤ _), (by decide : 0 + 0 ≤ _)⟩)
 dsimp only [Pt.U, Pt.locs, Pt.cells, Pt.slots] at X1 l1 y1 z1 st1 hQ1
 subst l1 y1 z1
 obtain ⟨rfl, rfl, sm1⟩ := hQ1
 have N1 := Fr.app N0 (Fr.nil n0)
 refine own_st (fun tq kq => st1.trans kq) ?_
 refine own_st (fun tq kq => XS.icmpNo X1.here hx rfl (hb hby dHC_7) rfl (tlt (by decide : ((0 : Int32) < (1 : Int32)))).2.1 kq) ?_
 refine s_aloadN X1 hx (hb hby dHC_10) rfl rfl ?_
 refine s_iloadN X1 hx (hb hby dHC_11) rfl ?_
 obtain ⟨cq2, kq2, q2a, q2b, q2c⟩ := isOf hZ sm1 Sq.2.1
 obtain ⟨_, _, ⟨T2, L2, k2, n2⟩, -, X2, ⟨Lc2, hQ2, l2, y2, z2⟩, st2⟩ := X1.virtualBack hx (y := mN16) (z := mN16) hown (mvT hZ (wd52 hw)) (mvT hZ (wd53 hw)) (notFace_of_selects (args := #[]) (mvT hZ (wd55 hw))) (mvT hZ (wd55 hw)) (mvT hZ (wd54 hw)) (by decide) (own_chU1_0 (W := 0) hZ hw Sq (X00.keep K0 all0) O2 P5 OA OH OL O4 rfm (by decide) (by decide)) q2a q2c (g := (mkF m 12 #[vR q, vI 0, .unset] [(.int 0), (.ref q)])) rfl (by rw [hml]; rfl) (Steps.refl _) (argsL := [(.int 0)]) (rest := []) (lenOf own_pd14 rfl) rfl (Nat.le_of_eq rfl) (hb hby dHC_12) (fun _ _ => ⟨rfl, sm1, (by decide : 0 + 0 ≤ _), (by decide : 0 + 0 ≤ _)⟩)
 dsimp only [Pt.U, Pt.locs, Pt.cells, Pt.slots] at X2 l2 y2 z2 st2 hQ2
 subst l2 y2 z2
 obtain ⟨rfl, Nq2, sm2⟩ := hQ2
 have N2 := Fr.app N1 Nq2
 refine own_st (fun tq kq => st2.trans kq) ?_
 refine own_st (fun tq kq => XS.istoreN X2.here hx rfl (hb hby dHC_15) rfl (l' := #[vR q, vI 0, vI c0]) rfl kq) ?_
 refine s_iloadN X2 hx (hb hby dHC_16) rfl ?_
 refine s_bipush X2 hx (hb hby dHC_17) ?_
 show own_G p e below _ (T2.setTop (mkF m 19 #[vR q, vI 0, vI c0] [(.int 32), (.int c0)]))
 by_cases hc19_3 : (c0 < (32 : Int32))
 ·
  refine own_st (fun tq kq => XS.icmpYes X2.here hx rfl (pc0 := 19) (pc' := 28) rfl (hb hby dHC_19) rfl (tlt hc19_3).1 (by decide) (by decide) kq) ?_
  refine s_iconst X2 hx (hb hby dHC_28) ?_
  show own_G p e below _ (T2.setTop (mkF m 29 #[vR q, vI 0, vI c0] [(.int 1)]))
  obtain ⟨fs, hr, hrun, hended, hW, hsame⟩ := X2.leave (v := some (.int 1)) (fun h => by rw [Bd.returns] at h; cases h)
  refine ⟨_, _, retN X2 hx (t := .boolean) Bd.returns (by simp) (hb hby dHC_29) hr, hrun, hended, _, _, rfl, ?_, ⟨_, rfl⟩, hW, hsame.mono (by decide) (by decide)⟩
  change Q_own_hc1 Z q nb fm G1 c0 h0 n0 _ T2.heap _; rw [sm2]; exact ⟨Or.inl ⟨rfl, c0, by simp, Or.inl hc19_3⟩, N2, rfl⟩
 ·
  refine own_st (fun tq kq => XS.icmpNo X2.here hx rfl (hb hby dHC_19) rfl (flt hc19_3).1 kq) ?_
  refine s_iloadN X2 hx (hb hby dHC_22) rfl ?_
  refine s_bipush X2 hx (hb hby dHC_23) ?_
  show own_G p e below _ (T2.setTop (mkF m 25 #[vR q, vI 0, vI c0] [(.int 127), (.int c0)]))
  by_cases hc25_4 : (c0 = (127 : Int32))
  ·
   refine own_st (fun tq kq => XS.icmpNo X2.here hx rfl (hb hby dHC_25) rfl (teq hc25_4).2 kq) ?_
   refine s_iconst X2 hx (hb hby dHC_28) ?_
   show own_G p e below _ (T2.setTop (mkF m 29 #[vR q, vI 0, vI c0] [(.int 1)]))
   obtain ⟨fs, hr, hrun, hended, hW, hsame⟩ := X2.leave (v := some (.int 1)) (fun h => by rw [Bd.returns] at h; cases h)
   refine ⟨_, _, retN X2 hx (t := .boolean) Bd.returns (by simp) (hb hby dHC_29) hr, hrun, hended, _, _, rfl, ?_, ⟨_, rfl⟩, hW, hsame.mono (by decide) (by decide)⟩
   change Q_own_hc1 Z q nb fm G1 c0 h0 n0 _ T2.heap _; rw [sm2]; exact ⟨Or.inl ⟨rfl, c0, by simp, Or.inr hc25_4⟩, N2, rfl⟩
  ·
   refine own_st (fun tq kq => XS.icmpYes X2.here hx rfl (pc0 := 25) (pc' := 30) rfl (hb hby dHC_25) rfl (feq hc25_4).2 (by decide) (by decide) kq) ?_
   refine own_st (fun tq kq => XS.iinc X2.here hx rfl (hb hby dHC_30) rfl (l' := #[vR q, vI 1, vI c0]) rfl kq) ?_
   refine own_st (fun tq kq => XS.goto X2.here hx rfl (pc0 := 33) (pc' := 2) rfl (hb hby dHC_33) (by decide) (by decide) kq) ?_
   refine s_iloadN X2 hx (hb hby dHC_2) rfl ?_
   show own_G p e below _ (T2.setTop (mkF m 3 #[vR q, vI 1, vI c0] [(.int 1)]))
   refine s_aloadN X2 hx (hb hby dHC_3) rfl rfl ?_
   obtain ⟨-, E_5, hb_5, ln_5, t_5, kb_5, cd_5, N2_5, vs_5, -, V_5, C_5, A_5, hc_5⟩ := id Sq
   obtain ⟨cq5, kq5, q5a, q5b, q5c⟩ := isOf hZ sm2 Sq.2.1
   obtain ⟨_, _, ⟨T5, L5, k5, n5⟩, -, X5, ⟨Lc5, hQ5, l5, y5, z5⟩, st5⟩ := X2.virtualBack hx (y := mN18) (z := mN18) hown (mvT hZ (wd27 hw)) (mvT hZ (wd28 hw)) (notFace_of_selects (args := #[]) (mvT hZ (wd30 hw))) (mvT hZ (wd30 hw)) (mvT hZ (wd29 hw)) (by decide) (StrChars.Road.lenW (W := 1) hZ (own_wLen hw) (kI := 4) (wd3 hw) E_5 V_5 C_5 A_5 hc_5 hb_5 (O2.ext (X00.keep K0 all0).2) P5 ln_5 (by decide) (by decide)) q5a q5c (g := (mkF m 4 #[vR q, vI 1, vI c0] [(.ref q), (.int 1)])) rfl (by rw [hml]; rfl) (Steps.refl _) (argsL := []) (rest := [(.int 1)]) (lenOf own_pd13 rfl) rfl (Nat.le_of_eq rfl) (hb hby dHC_4) (fun _ _ => ⟨rfl, sm2, (by decide : 0 + 0 ≤ _), (by decide : 0 + 0 ≤ _)⟩)
   dsimp only [Pt.U, Pt.locs, Pt.cells, Pt.slots] at X5 l5 y5 z5 st5 hQ5
   subst l5 y5 z5
   obtain ⟨rfl, rfl, sm5⟩ := hQ5
   have N5 := Fr.app N2 (Fr.nil n0)
   refine own_st (fun tq kq => st5.trans kq) ?_
   refine own_st (fun tq kq => XS.icmpYes X5.here hx rfl (pc0 := 7) (pc' := 36) rfl (hb hby dHC_7) rfl (flt (by decide : ¬ ((1 : Int32) < (1 : Int32)))).2.1 (by decide) (by decide) kq) ?_
   refine s_iconst X5 hx (hb hby dHC_36) ?_
   show own_G p e below _ (T5.setTop (mkF m 37 #[vR q, vI 1, vI c0] [(.int 0)]))
   obtain ⟨fs, hr, hrun, hended, hW, hsame⟩ := X5.leave (v := some (.int 0)) (fun h => by rw [Bd.returns] at h; cases h)
   refine ⟨_, _, retN X5 hx (t := .boolean) Bd.returns (by simp) (hb hby dHC_37) hr, hrun, hended, _, _, rfl, ?_, ⟨_, rfl⟩, hW, hsame.mono (by decide) (by decide)⟩
   change Q_own_hc1 Z q nb fm G1 c0 h0 n0 _ T5.heap _; rw [sm5]; exact ⟨Or.inr ⟨rfl, fun y hy => own_all1 (fun q => q.elim hc19_3 hc25_4) y hy⟩, N5, rfl⟩

theorem own_all2 {P : Int32 → Prop} {c0 c1 : Int32} (h0 : ¬ P c0) (h1 : ¬ P c1) : ∀ c ∈ ([c0, c1] : List Int32), ¬ P c := by
  intro c hc
  simp only [List.mem_cons, List.not_mem_nil, or_false] at hc
  rcases hc with rfl | rfl
  · exact h0
  · exact h1

def Q_own_hc2 (Z : State) (q nb : Nat) (fm : Value) (G1 : Int32) (c0 c1 : Int32) (h0 : Heap) (n0 : Nat) (v : Option Value) (h : Heap) (L : List Loc) : Prop := ((v = some (.int (1 : Int32)) ∧ ∃ c ∈ ([c0, c1] : List Int32), own_ctl c) ∨ (v = some (.int (0 : Int32)) ∧ ∀ c ∈ ([c0, c1] : List Int32), ¬ own_ctl c)) ∧ Fr n0 L ∧ h = h0
theorem ef_own_hc2 (m : MethodId) (x0 : Nat) : entryFrame m #[(.ref x0)] 3 = mkF m 0 #[.val (.ref x0), .unset, .unset] [] := by first | (simp [entryFrame, mkF, argsToLocals, Value.category]; done) | rfl
theorem own_hc2 (l : Launch) (Z : State) (a0 : Array Value) (hw : hWt a0 Z) (ws : List Jvm.Cond) (q nb : Nat) (fm : Value) (G1 : Int32) (c0 c1 : Int32) (h0 : Heap) (n0 : Nat) (Z0 : n0 ≤ h0.size) (X00 : Old Z n0 h0) (Sq : own_StrU Z nb h0 q ([c0, c1] : List Int32)) (O2 : Sta Z Z.heap "java/lang/String" "COMPACT_STRINGS" "Z" (.int G1)) (P5 : ¬ (G1 = (0 : Int32))) (OA : oA Z) (OH : oH Z) (OL : oL Z) (O4 : o4 Z fm) (rfm : fm.isRef = true) :
    MetFree l mN17 (head1 (Jvm.Cond.code mN17 prog_4_method_3_code 3 (some .boolean) :: ws) rm_5_0_0_96) (fun av_ U => av_ = #[(.ref q)] ∧ Z.Warmed39 U.vm ∧ U.heap = h0) (fun _ _ _ _ _ => True) (own_EN (Q_own_hc2 Z q nb fm G1 c0 c1 h0 n0) rm_5_0_0_96) := by
 refine MetFree.of_bodySF (plainFor_of_name own_pn3) hisR ?_
 intro p e s m args below meth c s₁ Bd hml0 hP hK
 obtain ⟨rfl, hZ, hh⟩ := hP
 have hx := Bd.exec
 have hby := Bd.bytes
 have hml : c.maxLocals = 3 := hml0
 have hown : s.vm.findClass "com/example/ward/ward/BasicCredentials" = some m.cls := findClass_of_methodNamed Bd.named
 have X0 : Stand p l e rm_5_0_0_96 s m _ below meth c s₁ [] 0 0 := Stand.of_body Bd
 have e0 : s₁.heap = h0 := by rw [← hh, Bd.state]; rfl
 have N0 := Fr.nil n0
 have K0 : Keep h0 h0 [] := Keep.refl h0 []
 refine show own_G p e below (own_EN (Q_own_hc2 Z q nb fm G1 c0 c1 h0 n0) rm_5_0_0_96 #[(.ref q)] s) _ from ?_
 refine own_st (fun tq kq => castTop (ef_own_hc2 m (q)) kq) ?_
 show own_G p e below _ (s₁.setTop (mkF m 0 #[vR q, .unset, .unset] []))
 refine s_iconst X0 hx (hb hby dHC_0) ?_
 refine own_st (fun tq kq => XS.istoreN X0.here hx rfl (hb hby dHC_1) rfl (l' := #[vR q, vI 0, .unset]) rfl kq) ?_
 refine s_iloadN X0 hx (hb hby dHC_2) rfl ?_
 refine s_aloadN X0 hx (hb hby dHC_3) rfl rfl ?_
 show own_G p e below _ (s₁.setTop (mkF m 4 #[vR q, vI 0, .unset] [(.ref q), (.int 0)]))
 obtain ⟨-, E_1, hb_1, ln_1, t_1, kb_1, cd_1, N2_1, vs_1, -, V_1, C_1, A_1, hc_1⟩ := id Sq
 obtain ⟨cq1, kq1, q1a, q1b, q1c⟩ := isOf hZ e0 Sq.2.1
 obtain ⟨_, _, ⟨T1, L1, k1, n1⟩, -, X1, ⟨Lc1, hQ1, l1, y1, z1⟩, st1⟩ := X0.virtualBack hx (y := mN18) (z := mN18) hown (mvT hZ (wd27 hw)) (mvT hZ (wd28 hw)) (notFace_of_selects (args := #[]) (mvT hZ (wd30 hw))) (mvT hZ (wd30 hw)) (mvT hZ (wd29 hw)) (by decide) (StrChars.Road.lenW (W := 1) hZ (own_wLen hw) (kI := 4) (wd3 hw) E_1 V_1 C_1 A_1 hc_1 hb_1 (O2.ext (X00.keep K0 all0).2) P5 ln_1 (by decide) (by decide)) q1a q1c (g := (mkF m 4 #[vR q, vI 0, .unset] [(.ref q), (.int 0)])) rfl (by rw [hml]; rfl) (Steps.refl _) (argsL := []) (rest := [(.int 0)]) (lenOf own_pd13 rfl) rfl (Nat.le_of_eq rfl) (hb hby dHC_4) (fun _ _ => ⟨rfl, e0, (by decide : 0 + 0 ≤ _), (by decide : 0 + 0 ≤ _)⟩)
 dsimp only [Pt.U, Pt.locs, Pt.cells, Pt.slots] at X1 l1 y1 z1 st1 hQ1
 subst l1 y1 z1
 obtain ⟨rfl, rfl, sm1⟩ := hQ1
 have N1 := Fr.app N0 (Fr.nil n0)
 refine own_st (fun tq kq => st1.trans kq) ?_
 refine own_st (fun tq kq => XS.icmpNo X1.here hx rfl (hb hby dHC_7) rfl (tlt (by decide : ((0 : Int32) < (2 : Int32)))).2.1 kq) ?_
 refine s_aloadN X1 hx (hb hby dHC_10) rfl rfl ?_
 refine s_iloadN X1 hx (hb hby dHC_11) rfl ?_
 obtain ⟨cq2, kq2, q2a, q2b, q2c⟩ := isOf hZ sm1 Sq.2.1
 obtain ⟨_, _, ⟨T2, L2, k2, n2⟩, -, X2, ⟨Lc2, hQ2, l2, y2, z2⟩, st2⟩ := X1.virtualBack hx (y := mN16) (z := mN16) hown (mvT hZ (wd52 hw)) (mvT hZ (wd53 hw)) (notFace_of_selects (args := #[]) (mvT hZ (wd55 hw))) (mvT hZ (wd55 hw)) (mvT hZ (wd54 hw)) (by decide) (own_chU2_0 (W := 0) hZ hw Sq (X00.keep K0 all0) O2 P5 OA OH OL O4 rfm (by decide) (by decide)) q2a q2c (g := (mkF m 12 #[vR q, vI 0, .unset] [(.int 0), (.ref q)])) rfl (by rw [hml]; rfl) (Steps.refl _) (argsL := [(.int 0)]) (rest := []) (lenOf own_pd14 rfl) rfl (Nat.le_of_eq rfl) (hb hby dHC_12) (fun _ _ => ⟨rfl, sm1, (by decide : 0 + 0 ≤ _), (by decide : 0 + 0 ≤ _)⟩)
 dsimp only [Pt.U, Pt.locs, Pt.cells, Pt.slots] at X2 l2 y2 z2 st2 hQ2
 subst l2 y2 z2
 obtain ⟨rfl, Nq2, sm2⟩ := hQ2
 have N2 := Fr.app N1 Nq2
 refine own_st (fun tq kq => st2.trans kq) ?_
 refine own_st (fun tq kq => XS.istoreN X2.here hx rfl (hb hby dHC_15) rfl (l' := #[vR q, vI 0, vI c0]) rfl kq) ?_
 refine s_iloadN X2 hx (hb hby dHC_16) rfl ?_
 refine s_bipush X2 hx (hb hby dHC_17) ?_
 show own_G p e below _ (T2.setTop (mkF m 19 #[vR q, vI 0, vI c0] [(.int 32), (.int c0)]))
 by_cases hc19_3 : (c0 < (32 : Int32))
 ·
  refine own_st (fun tq kq => XS.icmpYes X2.here hx rfl (pc0 := 19) (pc' := 28) rfl (hb hby dHC_19) rfl (tlt hc19_3).1 (by decide) (by decide) kq) ?_
  refine s_iconst X2 hx (hb hby dHC_28) ?_
  show own_G p e below _ (T2.setTop (mkF m 29 #[vR q, vI 0, vI c0] [(.int 1)]))
  obtain ⟨fs, hr, hrun, hended, hW, hsame⟩ := X2.leave (v := some (.int 1)) (fun h => by rw [Bd.returns] at h; cases h)
  refine ⟨_, _, retN X2 hx (t := .boolean) Bd.returns (by simp) (hb hby dHC_29) hr, hrun, hended, _, _, rfl, ?_, ⟨_, rfl⟩, hW, hsame.mono (by decide) (by decide)⟩
  change Q_own_hc2 Z q nb fm G1 c0 c1 h0 n0 _ T2.heap _; rw [sm2]; exact ⟨Or.inl ⟨rfl, c0, by simp, Or.inl hc19_3⟩, N2, rfl⟩
 ·
  refine own_st (fun tq kq => XS.icmpNo X2.here hx rfl (hb hby dHC_19) rfl (flt hc19_3).1 kq) ?_
  refine s_iloadN X2 hx (hb hby dHC_22) rfl ?_
  refine s_bipush X2 hx (hb hby dHC_23) ?_
  show own_G p e below _ (T2.setTop (mkF m 25 #[vR q, vI 0, vI c0] [(.int 127), (.int c0)]))
  by_cases hc25_4 : (c0 = (127 : Int32))
  ·
   refine own_st (fun tq kq => XS.icmpNo X2.here hx rfl (hb hby dHC_25) rfl (teq hc25_4).2 kq) ?_
   refine s_iconst X2 hx (hb hby dHC_28) ?_
   show own_G p e below _ (T2.setTop (mkF m 29 #[vR q, vI 0, vI c0] [(.int 1)]))
   obtain ⟨fs, hr, hrun, hended, hW, hsame⟩ := X2.leave (v := some (.int 1)) (fun h => by rw [Bd.returns] at h; cases h)
   refine ⟨_, _, retN X2 hx (t := .boolean) Bd.returns (by simp) (hb hby dHC_29) hr, hrun, hended, _, _, rfl, ?_, ⟨_, rfl⟩, hW, hsame.mono (by decide) (by decide)⟩
   change Q_own_hc2 Z q nb fm G1 c0 c1 h0 n0 _ T2.heap _; rw [sm2]; exact ⟨Or.inl ⟨rfl, c0, by simp, Or.inr hc25_4⟩, N2, rfl⟩
  ·
   refine own_st (fun tq kq => XS.icmpYes X2.here hx rfl (pc0 := 25) (pc' := 30) rfl (hb hby dHC_25) rfl (feq hc25_4).2 (by decide) (by decide) kq) ?_
   refine own_st (fun tq kq => XS.iinc X2.here hx rfl (hb hby dHC_30) rfl (l' := #[vR q, vI 1, vI c0]) rfl kq) ?_
   refine own_st (fun tq kq => XS.goto X2.here hx rfl (pc0 := 33) (pc' := 2) rfl (hb hby dHC_33) (by decide) (by decide) kq) ?_
   refine s_iloadN X2 hx (hb hby dHC_2) rfl ?_
   show own_G p e below _ (T2.setTop (mkF m 3 #[vR q, vI 1, vI c0] [(.int 1)]))
   refine s_aloadN X2 hx (hb hby dHC_3) rfl rfl ?_
   obtain ⟨-, E_5, hb_5, ln_5, t_5, kb_5, cd_5, N2_5, vs_5, -, V_5, C_5, A_5, hc_5⟩ := id Sq
   obtain ⟨cq5, kq5, q5a, q5b, q5c⟩ := isOf hZ sm2 Sq.2.1
   obtain ⟨_, _, ⟨T5, L5, k5, n5⟩, -, X5, ⟨Lc5, hQ5, l5, y5, z5⟩, st5⟩ := X2.virtualBack hx (y := mN18) (z := mN18) hown (mvT hZ (wd27 hw)) (mvT hZ (wd28 hw)) (notFace_of_selects (args := #[]) (mvT hZ (wd30 hw))) (mvT hZ (wd30 hw)) (mvT hZ (wd29 hw)) (by decide) (StrChars.Road.lenW (W := 1) hZ (own_wLen hw) (kI := 4) (wd3 hw) E_5 V_5 C_5 A_5 hc_5 hb_5 (O2.ext (X00.keep K0 all0).2) P5 ln_5 (by decide) (by decide)) q5a q5c (g := (mkF m 4 #[vR q, vI 1, vI c0] [(.ref q), (.int 1)])) rfl (by rw [hml]; rfl) (Steps.refl _) (argsL := []) (rest := [(.int 1)]) (lenOf own_pd13 rfl) rfl (Nat.le_of_eq rfl) (hb hby dHC_4) (fun _ _ => ⟨rfl, sm2, (by decide : 0 + 0 ≤ _), (by decide : 0 + 0 ≤ _)⟩)
   dsimp only [Pt.U, Pt.locs, Pt.cells, Pt.slots] at X5 l5 y5 z5 st5 hQ5
   subst l5 y5 z5
   obtain ⟨rfl, rfl, sm5⟩ := hQ5
   have N5 := Fr.app N2 (Fr.nil n0)
   refine own_st (fun tq kq => st5.trans kq) ?_
   refine own_st (fun tq kq => XS.icmpNo X5.here hx rfl (hb hby dHC_7) rfl (tlt (by decide : ((1 : Int32) < (2 : Int32)))).2.1 kq) ?_
   refine s_aloadN X5 hx (hb hby dHC_10) rfl rfl ?_
   refine s_iloadN X5 hx (hb hby dHC_11) rfl ?_
   obtain ⟨cq6, kq6, q6a, q6b, q6c⟩ := isOf hZ sm5 Sq.2.1
   obtain ⟨_, _, ⟨T6, L6, k6, n6⟩, -, X6, ⟨Lc6, hQ6, l6, y6, z6⟩, st6⟩ := X5.virtualBack hx (y := mN16) (z := mN16) hown (mvT hZ (wd52 hw)) (mvT hZ (wd53 hw)) (notFace_of_selects (args := #[]) (mvT hZ (wd55 hw))) (mvT hZ (wd55 hw)) (mvT hZ (wd54 hw)) (by decide) (own_chU2_1 (W := 0) hZ hw Sq (X00.keep K0 all0) O2 P5 OA OH OL O4 rfm (by decide) (by decide)) q6a q6c (g := (mkF m 12 #[vR q, vI 1, vI c0] [(.int 1), (.ref q)])) rfl (by rw [hml]; rfl) (Steps.refl _) (argsL := [(.int 1)]) (rest := []) (lenOf own_pd14 rfl) rfl (Nat.le_of_eq rfl) (hb hby dHC_12) (fun _ _ => ⟨rfl, sm5, (by decide : 0 + 0 ≤ _), (by decide : 0 + 0 ≤ _)⟩)
   dsimp only [Pt.U, Pt.locs, Pt.cells, Pt.slots] at X6 l6 y6 z6 st6 hQ6
   subst l6 y6 z6
   obtain ⟨rfl, Nq6, sm6⟩ := hQ6
   have N6 := Fr.app N5 Nq6
   refine own_st (fun tq kq => st6.trans kq) ?_
   refine own_st (fun tq kq => XS.istoreN X6.here hx rfl (hb hby dHC_15) rfl (l' := #[vR q, vI 1, vI c1]) rfl kq) ?_
   refine s_iloadN X6 hx (hb hby dHC_16) rfl ?_
   refine s_bipush X6 hx (hb hby dHC_17) ?_
   show own_G p e below _ (T6.setTop (mkF m 19 #[vR q, vI 1, vI c1] [(.int 32), (.int c1)]))
   by_cases hc19_7 : (c1 < (32 : Int32))
   ·
    refine own_st (fun tq kq => XS.icmpYes X6.here hx rfl (pc0 := 19) (pc' := 28) rfl (hb hby dHC_19) rfl (tlt hc19_7).1 (by decide) (by decide) kq) ?_
    refine s_iconst X6 hx (hb hby dHC_28) ?_
    show own_G p e below _ (T6.setTop (mkF m 29 #[vR q, vI 1, vI c1] [(.int 1)]))
    obtain ⟨fs, hr, hrun, hended, hW, hsame⟩ := X6.leave (v := some (.int 1)) (fun h => by rw [Bd.returns] at h; cases h)
    refine ⟨_, _, retN X6 hx (t := .boolean) Bd.returns (by simp) (hb hby dHC_29) hr, hrun, hended, _, _, rfl, ?_, ⟨_, rfl⟩, hW, hsame.mono (by decide) (by decide)⟩
    change Q_own_hc2 Z q nb fm G1 c0 c1 h0 n0 _ T6.heap _; rw [sm6]; exact ⟨Or.inl ⟨rfl, c1, by simp, Or.inl hc19_7⟩, N6, rfl⟩
   ·
    refine own_st (fun tq kq => XS.icmpNo X6.here hx rfl (hb hby dHC_19) rfl (flt hc19_7).1 kq) ?_
    refine s_iloadN X6 hx (hb hby dHC_22) rfl ?_
    refine s_bipush X6 hx (hb hby dHC_23) ?_
    show own_G p e below _ (T6.setTop (mkF m 25 #[vR q, vI 1, vI c1] [(.int 127), (.int c1)]))
    by_cases hc25_8 : (c1 = (127 : Int32))
    ·
     refine own_st (fun tq kq => XS.icmpNo X6.here hx rfl (hb hby dHC_25) rfl (teq hc25_8).2 kq) ?_
     refine s_iconst X6 hx (hb hby dHC_28) ?_
     show own_G p e below _ (T6.setTop (mkF m 29 #[vR q, vI 1, vI c1] [(.int 1)]))
     obtain ⟨fs, hr, hrun, hended, hW, hsame⟩ := X6.leave (v := some (.int 1)) (fun h => by rw [Bd.returns] at h; cases h)
     refine ⟨_, _, retN X6 hx (t := .boolean) Bd.returns (by simp) (hb hby dHC_29) hr, hrun, hended, _, _, rfl, ?_, ⟨_, rfl⟩, hW, hsame.mono (by decide) (by decide)⟩
     change Q_own_hc2 Z q nb fm G1 c0 c1 h0 n0 _ T6.heap _; rw [sm6]; exact ⟨Or.inl ⟨rfl, c1, by simp, Or.inr hc25_8⟩, N6, rfl⟩
    ·
     refine own_st (fun tq kq => XS.icmpYes X6.here hx rfl (pc0 := 25) (pc' := 30) rfl (hb hby dHC_25) rfl (feq hc25_8).2 (by decide) (by decide) kq) ?_
     refine own_st (fun tq kq => XS.iinc X6.here hx rfl (hb hby dHC_30) rfl (l' := #[vR q, vI 2, vI c1]) rfl kq) ?_
     refine own_st (fun tq kq => XS.goto X6.here hx rfl (pc0 := 33) (pc' := 2) rfl (hb hby dHC_33) (by decide) (by decide) kq) ?_
     refine s_iloadN X6 hx (hb hby dHC_2) rfl ?_
     show own_G p e below _ (T6.setTop (mkF m 3 #[vR q, vI 2, vI c1] [(.int 2)]))
     refine s_aloadN X6 hx (hb hby dHC_3) rfl rfl ?_
     obtain ⟨-, E_9, hb_9, ln_9, t_9, kb_9, cd_9, N2_9, vs_9, -, V_9, C_9, A_9, hc_9⟩ := id Sq
     obtain ⟨cq9, kq9, q9a, q9b, q9c⟩ := isOf hZ sm6 Sq.2.1
     obtain ⟨_, _, ⟨T9, L9, k9, n9⟩, -, X9, ⟨Lc9, hQ9, l9, y9, z9⟩, st9⟩ := X6.virtualBack hx (y := mN18) (z := mN18) hown (mvT hZ (wd27 hw)) (mvT hZ (wd28 hw)) (notFace_of_selects (args := #[]) (mvT hZ (wd30 hw))) (mvT hZ (wd30 hw)) (mvT hZ (wd29 hw)) (by decide) (StrChars.Road.lenW (W := 1) hZ (own_wLen hw) (kI := 4) (wd3 hw) E_9 V_9 C_9 A_9 hc_9 hb_9 (O2.ext (X00.keep K0 all0).2) P5 ln_9 (by decide) (by decide)) q9a q9c (g := (mkF m 4 #[vR q, vI 2, vI c1] [(.ref q), (.int 2)])) rfl (by rw [hml]; rfl) (Steps.refl _) (argsL := []) (rest := [(.int 2)]) (lenOf own_pd13 rfl) rfl (Nat.le_of_eq rfl) (hb hby dHC_4) (fun _ _ => ⟨rfl, sm6, (by decide : 0 + 0 ≤ _), (by decide : 0 + 0 ≤ _)⟩)
     dsimp only [Pt.U, Pt.locs, Pt.cells, Pt.slots] at X9 l9 y9 z9 st9 hQ9
     subst l9 y9 z9
     obtain ⟨rfl, rfl, sm9⟩ := hQ9
     have N9 := Fr.app N6 (Fr.nil n0)
     refine own_st (fun tq kq => st9.trans kq) ?_
     refine own_st (fun tq kq => XS.icmpYes X9.here hx rfl (pc0 := 7) (pc' := 36) rfl (hb hby dHC_7) rfl (flt (by decide : ¬ ((2 : Int32) < (2 : Int32)))).2.1 (by decide) (by decide) kq) ?_
     refine s_iconst X9 hx (hb hby dHC_36) ?_
     show own_G p e below _ (T9.setTop (mkF m 37 #[vR q, vI 2, vI c1] [(.int 0)]))
     obtain ⟨fs, hr, hrun, hended, hW, hsame⟩ := X9.leave (v := some (.int 0)) (fun h => by rw [Bd.returns] at h; cases h)
     refine ⟨_, _, retN X9 hx (t := .boolean) Bd.returns (by simp) (hb hby dHC_37) hr, hrun, hended, _, _, rfl, ?_, ⟨_, rfl⟩, hW, hsame.mono (by decide) (by decide)⟩
     change Q_own_hc2 Z q nb fm G1 c0 c1 h0 n0 _ T9.heap _; rw [sm9]; exact ⟨Or.inr ⟨rfl, fun y hy => own_all2 (fun q => q.elim hc19_3 hc25_4) (fun q => q.elim hc19_7 hc25_8) y hy⟩, N9, rfl⟩

theorem own_all3 {P : Int32 → Prop} {c0 c1 c2 : Int32} (h0 : ¬ P c0) (h1 : ¬ P c1) (h2 : ¬ P c2) : ∀ c ∈ ([c0, c1, c2] : List Int32), ¬ P c := by
  intro c hc
  simp only [List.mem_cons, List.not_mem_nil, or_false] at hc
  rcases hc with rfl | rfl | rfl
  · exact h0
  · exact h1
  · exact h2

def Q_own_hc3 (Z : State) (q nb : Nat) (fm : Value) (G1 : Int32) (c0 c1 c2 : Int32) (h0 : Heap) (n0 : Nat) (v : Option Value) (h : Heap) (L : List Loc) : Prop := ((v = some (.int (1 : Int32)) ∧ ∃ c ∈ ([c0, c1, c2] : List Int32), own_ctl c) ∨ (v = some (.int (0 : Int32)) ∧ ∀ c ∈ ([c0, c1, c2] : List Int32), ¬ own_ctl c)) ∧ Fr n0 L ∧ h = h0
theorem ef_own_hc3 (m : MethodId) (x0 : Nat) : entryFrame m #[(.ref x0)] 3 = mkF m 0 #[.val (.ref x0), .unset, .unset] [] := by first | (simp [entryFrame, mkF, argsToLocals, Value.category]; done) | rfl
theorem own_hc3 (l : Launch) (Z : State) (a0 : Array Value) (hw : hWt a0 Z) (ws : List Jvm.Cond) (q nb : Nat) (fm : Value) (G1 : Int32) (c0 c1 c2 : Int32) (h0 : Heap) (n0 : Nat) (Z0 : n0 ≤ h0.size) (X00 : Old Z n0 h0) (Sq : own_StrU Z nb h0 q ([c0, c1, c2] : List Int32)) (O2 : Sta Z Z.heap "java/lang/String" "COMPACT_STRINGS" "Z" (.int G1)) (P5 : ¬ (G1 = (0 : Int32))) (OA : oA Z) (OH : oH Z) (OL : oL Z) (O4 : o4 Z fm) (rfm : fm.isRef = true) :
    MetFree l mN17 (head1 (Jvm.Cond.code mN17 prog_4_method_3_code 3 (some .boolean) :: ws) rm_5_0_0_96) (fun av_ U => av_ = #[(.ref q)] ∧ Z.Warmed39 U.vm ∧ U.heap = h0) (fun _ _ _ _ _ => True) (own_EN (Q_own_hc3 Z q nb fm G1 c0 c1 c2 h0 n0) rm_5_0_0_96) := by
 refine MetFree.of_bodySF (plainFor_of_name own_pn3) hisR ?_
 intro p e s m args below meth c s₁ Bd hml0 hP hK
 obtain ⟨rfl, hZ, hh⟩ := hP
 have hx := Bd.exec
 have hby := Bd.bytes
 have hml : c.maxLocals = 3 := hml0
 have hown : s.vm.findClass "com/example/ward/ward/BasicCredentials" = some m.cls := findClass_of_methodNamed Bd.named
 have X0 : Stand p l e rm_5_0_0_96 s m _ below meth c s₁ [] 0 0 := Stand.of_body Bd
 have e0 : s₁.heap = h0 := by rw [← hh, Bd.state]; rfl
 have N0 := Fr.nil n0
 have K0 : Keep h0 h0 [] := Keep.refl h0 []
 refine show own_G p e below (own_EN (Q_own_hc3 Z q nb fm G1 c0 c1 c2 h0 n0) rm_5_0_0_96 #[(.ref q)] s) _ from ?_
 refine own_st (fun tq kq => castTop (ef_own_hc3 m (q)) kq) ?_
 show own_G p e below _ (s₁.setTop (mkF m 0 #[vR q, .unset, .unset] []))
 refine s_iconst X0 hx (hb hby dHC_0) ?_
 refine own_st (fun tq kq => XS.istoreN X0.here hx rfl (hb hby dHC_1) rfl (l' := #[vR q, vI 0, .unset]) rfl kq) ?_
 refine s_iloadN X0 hx (hb hby dHC_2) rfl ?_
 refine s_aloadN X0 hx (hb hby dHC_3) rfl rfl ?_
 show own_G p e below _ (s₁.setTop (mkF m 4 #[vR q, vI 0, .unset] [(.ref q), (.int 0)]))
 obtain ⟨-, E_1, hb_1, ln_1, t_1, kb_1, cd_1, N2_1, vs_1, -, V_1, C_1, A_1, hc_1⟩ := id Sq
 obtain ⟨cq1, kq1, q1a, q1b, q1c⟩ := isOf hZ e0 Sq.2.1
 obtain ⟨_, _, ⟨T1, L1, k1, n1⟩, -, X1, ⟨Lc1, hQ1, l1, y1, z1⟩, st1⟩ := X0.virtualBack hx (y := mN18) (z := mN18) hown (mvT hZ (wd27 hw)) (mvT hZ (wd28 hw)) (notFace_of_selects (args := #[]) (mvT hZ (wd30 hw))) (mvT hZ (wd30 hw)) (mvT hZ (wd29 hw)) (by decide) (StrChars.Road.lenW (W := 1) hZ (own_wLen hw) (kI := 4) (wd3 hw) E_1 V_1 C_1 A_1 hc_1 hb_1 (O2.ext (X00.keep K0 all0).2) P5 ln_1 (by decide) (by decide)) q1a q1c (g := (mkF m 4 #[vR q, vI 0, .unset] [(.ref q), (.int 0)])) rfl (by rw [hml]; rfl) (Steps.refl _) (argsL := []) (rest := [(.int 0)]) (lenOf own_pd13 rfl) rfl (Nat.le_of_eq rfl) (hb hby dHC_4) (fun _ _ => ⟨rfl, e0, (by decide : 0 + 0 ≤ _), (by decide : 0 + 0 ≤ _)⟩)
 dsimp only [Pt.U, Pt.locs, Pt.cells, Pt.slots] at X1 l1 y1 z1 st1 hQ1
 subst l1 y1 z1
 obtain ⟨rfl, rfl, sm1⟩ := hQ1
 have N1 := Fr.app N0 (Fr.nil n0)
 refine own_st (fun tq kq => st1.trans kq) ?_
 refine own_st (fun tq kq => XS.icmpNo X1.here hx rfl (hb hby dHC_7) rfl (tlt (by decide : ((0 : Int32) < (3 : Int32)))).2.1 kq) ?_
 refine s_aloadN X1 hx (hb hby dHC_10) rfl rfl ?_
 refine s_iloadN X1 hx (hb hby dHC_11) rfl ?_
 obtain ⟨cq2, kq2, q2a, q2b, q2c⟩ := isOf hZ sm1 Sq.2.1
 obtain ⟨_, _, ⟨T2, L2, k2, n2⟩, -, X2, ⟨Lc2, hQ2, l2, y2, z2⟩, st2⟩ := X1.virtualBack hx (y := mN16) (z := mN16) hown (mvT hZ (wd52 hw)) (mvT hZ (wd53 hw)) (notFace_of_selects (args := #[]) (mvT hZ (wd55 hw))) (mvT hZ (wd55 hw)) (mvT hZ (wd54 hw)) (by decide) (own_chU3_0 (W := 0) hZ hw Sq (X00.keep K0 all0) O2 P5 OA OH OL O4 rfm (by decide) (by decide)) q2a q2c (g := (mkF m 12 #[vR q, vI 0, .unset] [(.int 0), (.ref q)])) rfl (by rw [hml]; rfl) (Steps.refl _) (argsL := [(.int 0)]) (rest := []) (lenOf own_pd14 rfl) rfl (Nat.le_of_eq rfl) (hb hby dHC_12) (fun _ _ => ⟨rfl, sm1, (by decide : 0 + 0 ≤ _), (by decide : 0 + 0 ≤ _)⟩)
 dsimp only [Pt.U, Pt.locs, Pt.cells, Pt.slots] at X2 l2 y2 z2 st2 hQ2
 subst l2 y2 z2
 obtain ⟨rfl, Nq2, sm2⟩ := hQ2
 have N2 := Fr.app N1 Nq2
 refine own_st (fun tq kq => st2.trans kq) ?_
 refine own_st (fun tq kq => XS.istoreN X2.here hx rfl (hb hby dHC_15) rfl (l' := #[vR q, vI 0, vI c0]) rfl kq) ?_
 refine s_iloadN X2 hx (hb hby dHC_16) rfl ?_
 refine s_bipush X2 hx (hb hby dHC_17) ?_
 show own_G p e below _ (T2.setTop (mkF m 19 #[vR q, vI 0, vI c0] [(.int 32), (.int c0)]))
 by_cases hc19_3 : (c0 < (32 : Int32))
 ·
  refine own_st (fun tq kq => XS.icmpYes X2.here hx rfl (pc0 := 19) (pc' := 28) rfl (hb hby dHC_19) rfl (tlt hc19_3).1 (by decide) (by decide) kq) ?_
  refine s_iconst X2 hx (hb hby dHC_28) ?_
  show own_G p e below _ (T2.setTop (mkF m 29 #[vR q, vI 0, vI c0] [(.int 1)]))
  obtain ⟨fs, hr, hrun, hended, hW, hsame⟩ := X2.leave (v := some (.int 1)) (fun h => by rw [Bd.returns] at h; cases h)
  refine ⟨_, _, retN X2 hx (t := .boolean) Bd.returns (by simp) (hb hby dHC_29) hr, hrun, hended, _, _, rfl, ?_, ⟨_, rfl⟩, hW, hsame.mono (by decide) (by decide)⟩
  change Q_own_hc3 Z q nb fm G1 c0 c1 c2 h0 n0 _ T2.heap _; rw [sm2]; exact ⟨Or.inl ⟨rfl, c0, by simp, Or.inl hc19_3⟩, N2, rfl⟩
 ·
  refine own_st (fun tq kq => XS.icmpNo X2.here hx rfl (hb hby dHC_19) rfl (flt hc19_3).1 kq) ?_
  refine s_iloadN X2 hx (hb hby dHC_22) rfl ?_
  refine s_bipush X2 hx (hb hby dHC_23) ?_
  show own_G p e below _ (T2.setTop (mkF m 25 #[vR q, vI 0, vI c0] [(.int 127), (.int c0)]))
  by_cases hc25_4 : (c0 = (127 : Int32))
  ·
   refine own_st (fun tq kq => XS.icmpNo X2.here hx rfl (hb hby dHC_25) rfl (teq hc25_4).2 kq) ?_
   refine s_iconst X2 hx (hb hby dHC_28) ?_
   show own_G p e below _ (T2.setTop (mkF m 29 #[vR q, vI 0, vI c0] [(.int 1)]))
   obtain ⟨fs, hr, hrun, hended, hW, hsame⟩ := X2.leave (v := some (.int 1)) (fun h => by rw [Bd.returns] at h; cases h)
   refine ⟨_, _, retN X2 hx (t := .boolean) Bd.returns (by simp) (hb hby dHC_29) hr, hrun, hended, _, _, rfl, ?_, ⟨_, rfl⟩, hW, hsame.mono (by decide) (by decide)⟩
   change Q_own_hc3 Z q nb fm G1 c0 c1 c2 h0 n0 _ T2.heap _; rw [sm2]; exact ⟨Or.inl ⟨rfl, c0, by simp, Or.inr hc25_4⟩, N2, rfl⟩
  ·
   refine own_st (fun tq kq => XS.icmpYes X2.here hx rfl (pc0 := 25) (pc' := 30) rfl (hb hby dHC_25) rfl (feq hc25_4).2 (by decide) (by decide) kq) ?_
   refine own_st (fun tq kq => XS.iinc X2.here hx rfl (hb hby dHC_30) rfl (l' := #[vR q, vI 1, vI c0]) rfl kq) ?_
   refine own_st (fun tq kq => XS.goto X2.here hx rfl (pc0 := 33) (pc' := 2) rfl (hb hby dHC_33) (by decide) (by decide) kq) ?_
   refine s_iloadN X2 hx (hb hby dHC_2) rfl ?_
   show own_G p e below _ (T2.setTop (mkF m 3 #[vR q, vI 1, vI c0] [(.int 1)]))
   refine s_aloadN X2 hx (hb hby dHC_3) rfl rfl ?_
   obtain ⟨-, E_5, hb_5, ln_5, t_5, kb_5, cd_5, N2_5, vs_5, -, V_5, C_5, A_5, hc_5⟩ := id Sq
   obtain ⟨cq5, kq5, q5a, q5b, q5c⟩ := isOf hZ sm2 Sq.2.1
   obtain ⟨_, _, ⟨T5, L5, k5, n5⟩, -, X5, ⟨Lc5, hQ5, l5, y5, z5⟩, st5⟩ := X2.virtualBack hx (y := mN18) (z := mN18) hown (mvT hZ (wd27 hw)) (mvT hZ (wd28 hw)) (notFace_of_selects (args := #[]) (mvT hZ (wd30 hw))) (mvT hZ (wd30 hw)) (mvT hZ (wd29 hw)) (by decide) (StrChars.Road.lenW (W := 1) hZ (own_wLen hw) (kI := 4) (wd3 hw) E_5 V_5 C_5 A_5 hc_5 hb_5 (O2.ext (X00.keep K0 all0).2) P5 ln_5 (by decide) (by decide)) q5a q5c (g := (mkF m 4 #[vR q, vI 1, vI c0] [(.ref q), (.int 1)])) rfl (by rw [hml]; rfl) (Steps.refl _) (argsL := []) (rest := [(.int 1)]) (lenOf own_pd13 rfl) rfl (Nat.le_of_eq rfl) (hb hby dHC_4) (fun _ _ => ⟨rfl, sm2, (by decide : 0 + 0 ≤ _), (by decide : 0 + 0 ≤ _)⟩)
   dsimp only [Pt.U, Pt.locs, Pt.cells, Pt.slots] at X5 l5 y5 z5 st5 hQ5
   subst l5 y5 z5
   obtain ⟨rfl, rfl, sm5⟩ := hQ5
   have N5 := Fr.app N2 (Fr.nil n0)
   refine own_st (fun tq kq => st5.trans kq) ?_
   refine own_st (fun tq kq => XS.icmpNo X5.here hx rfl (hb hby dHC_7) rfl (tlt (by decide : ((1 : Int32) < (3 : Int32)))).2.1 kq) ?_
   refine s_aloadN X5 hx (hb hby dHC_10) rfl rfl ?_
   refine s_iloadN X5 hx (hb hby dHC_11) rfl ?_
   obtain ⟨cq6, kq6, q6a, q6b, q6c⟩ := isOf hZ sm5 Sq.2.1
   obtain ⟨_, _, ⟨T6, L6, k6, n6⟩, -, X6, ⟨Lc6, hQ6, l6, y6, z6⟩, st6⟩ := X5.virtualBack hx (y := mN16) (z := mN16) hown (mvT hZ (wd52 hw)) (mvT hZ (wd53 hw)) (notFace_of_selects (args := #[]) (mvT hZ (wd55 hw))) (mvT hZ (wd55 hw)) (mvT hZ (wd54 hw)) (by decide) (own_chU3_1 (W := 0) hZ hw Sq (X00.keep K0 all0) O2 P5 OA OH OL O4 rfm (by decide) (by decide)) q6a q6c (g := (mkF m 12 #[vR q, vI 1, vI c0] [(.int 1), (.ref q)])) rfl (by rw [hml]; rfl) (Steps.refl _) (argsL := [(.int 1)]) (rest := []) (lenOf own_pd14 rfl) rfl (Nat.le_of_eq rfl) (hb hby dHC_12) (fun _ _ => ⟨rfl, sm5, (by decide : 0 + 0 ≤ _), (by decide : 0 + 0 ≤ _)⟩)
   dsimp only [Pt.U, Pt.locs, Pt.cells, Pt.slots] at X6 l6 y6 z6 st6 hQ6
   subst l6 y6 z6
   obtain ⟨rfl, Nq6, sm6⟩ := hQ6
   have N6 := Fr.app N5 Nq6
   refine own_st (fun tq kq => st6.trans kq) ?_
   refine own_st (fun tq kq => XS.istoreN X6.here hx rfl (hb hby dHC_15) rfl (l' := #[vR q, vI 1, vI c1]) rfl kq) ?_
   refine s_iloadN X6 hx (hb hby dHC_16) rfl ?_
   refine s_bipush X6 hx (hb hby dHC_17) ?_
   show own_G p e below _ (T6.setTop (mkF m 19 #[vR q, vI 1, vI c1] [(.int 32), (.int c1)]))
   by_cases hc19_7 : (c1 < (32 : Int32))
   ·
    refine own_st (fun tq kq => XS.icmpYes X6.here hx rfl (pc0 := 19) (pc' := 28) rfl (hb hby dHC_19) rfl (tlt hc19_7).1 (by decide) (by decide) kq) ?_
    refine s_iconst X6 hx (hb hby dHC_28) ?_
    show own_G p e below _ (T6.setTop (mkF m 29 #[vR q, vI 1, vI c1] [(.int 1)]))
    obtain ⟨fs, hr, hrun, hended, hW, hsame⟩ := X6.leave (v := some (.int 1)) (fun h => by rw [Bd.returns] at h; cases h)
    refine ⟨_, _, retN X6 hx (t := .boolean) Bd.returns (by simp) (hb hby dHC_29) hr, hrun, hended, _, _, rfl, ?_, ⟨_, rfl⟩, hW, hsame.mono (by decide) (by decide)⟩
    change Q_own_hc3 Z q nb fm G1 c0 c1 c2 h0 n0 _ T6.heap _; rw [sm6]; exact ⟨Or.inl ⟨rfl, c1, by simp, Or.inl hc19_7⟩, N6, rfl⟩
   ·
    refine own_st (fun tq kq => XS.icmpNo X6.here hx rfl (hb hby dHC_19) rfl (flt hc19_7).1 kq) ?_
    refine s_iloadN X6 hx (hb hby dHC_22) rfl ?_
    refine s_bipush X6 hx (hb hby dHC_23) ?_
    show own_G p e below _ (T6.setTop (mkF m 25 #[vR q, vI 1, vI c1] [(.int 127), (.int c1)]))
    by_cases hc25_8 : (c1 = (127 : Int32))
    ·
     refine own_st (fun tq kq => XS.icmpNo X6.here hx rfl (hb hby dHC_25) rfl (teq hc25_8).2 kq) ?_
     refine s_iconst X6 hx (hb hby dHC_28) ?_
     show own_G p e below _ (T6.setTop (mkF m 29 #[vR q, vI 1, vI c1] [(.int 1)]))
     obtain ⟨fs, hr, hrun, hended, hW, hsame⟩ := X6.leave (v := some (.int 1)) (fun h => by rw [Bd.returns] at h; cases h)
     refine ⟨_, _, retN X6 hx (t := .boolean) Bd.returns (by simp) (hb hby dHC_29) hr, hrun, hended, _, _, rfl, ?_, ⟨_, rfl⟩, hW, hsame.mono (by decide) (by decide)⟩
     change Q_own_hc3 Z q nb fm G1 c0 c1 c2 h0 n0 _ T6.heap _; rw [sm6]; exact ⟨Or.inl ⟨rfl, c1, by simp, Or.inr hc25_8⟩, N6, rfl⟩
    ·
     refine own_st (fun tq kq => XS.icmpYes X6.here hx rfl (pc0 := 25) (pc' := 30) rfl (hb hby dHC_25) rfl (feq hc25_8).2 (by decide) (by decide) kq) ?_
     refine own_st (fun tq kq => XS.iinc X6.here hx rfl (hb hby dHC_30) rfl (l' := #[vR q, vI 2, vI c1]) rfl kq) ?_
     refine own_st (fun tq kq => XS.goto X6.here hx rfl (pc0 := 33) (pc' := 2) rfl (hb hby dHC_33) (by decide) (by decide) kq) ?_
     refine s_iloadN X6 hx (hb hby dHC_2) rfl ?_
     show own_G p e below _ (T6.setTop (mkF m 3 #[vR q, vI 2, vI c1] [(.int 2)]))
     refine s_aloadN X6 hx (hb hby dHC_3) rfl rfl ?_
     obtain ⟨-, E_9, hb_9, ln_9, t_9, kb_9, cd_9, N2_9, vs_9, -, V_9, C_9, A_9, hc_9⟩ := id Sq
     obtain ⟨cq9, kq9, q9a, q9b, q9c⟩ := isOf hZ sm6 Sq.2.1
     obtain ⟨_, _, ⟨T9, L9, k9, n9⟩, -, X9, ⟨Lc9, hQ9, l9, y9, z9⟩, st9⟩ := X6.virtualBack hx (y := mN18) (z := mN18) hown (mvT hZ (wd27 hw)) (mvT hZ (wd28 hw)) (notFace_of_selects (args := #[]) (mvT hZ (wd30 hw))) (mvT hZ (wd30 hw)) (mvT hZ (wd29 hw)) (by decide) (StrChars.Road.lenW (W := 1) hZ (own_wLen hw) (kI := 4) (wd3 hw) E_9 V_9 C_9 A_9 hc_9 hb_9 (O2.ext (X00.keep K0 all0).2) P5 ln_9 (by decide) (by decide)) q9a q9c (g := (mkF m 4 #[vR q, vI 2, vI c1] [(.ref q), (.int 2)])) rfl (by rw [hml]; rfl) (Steps.refl _) (argsL := []) (rest := [(.int 2)]) (lenOf own_pd13 rfl) rfl (Nat.le_of_eq rfl) (hb hby dHC_4) (fun _ _ => ⟨rfl, sm6, (by decide : 0 + 0 ≤ _), (by decide : 0 + 0 ≤ _)⟩)
     dsimp only [Pt.U, Pt.locs, Pt.cells, Pt.slots] at X9 l9 y9 z9 st9 hQ9
     subst l9 y9 z9
     obtain ⟨rfl, rfl, sm9⟩ := hQ9
     have N9 := Fr.app N6 (Fr.nil n0)
     refine own_st (fun tq kq => st9.trans kq) ?_
     refine own_st (fun tq kq => XS.icmpNo X9.here hx rfl (hb hby dHC_7) rfl (tlt (by decide : ((2 : Int32) < (3 : Int32)))).2.1 kq) ?_
     refine s_aloadN X9 hx (hb hby dHC_10) rfl rfl ?_
     refine s_iloadN X9 hx (hb hby dHC_11) rfl ?_
     obtain ⟨cq10, kq10, q10a, q10b, q10c⟩ := isOf hZ sm9 Sq.2.1
     obtain ⟨_, _, ⟨T10, L10, k10, n10⟩, -, X10, ⟨Lc10, hQ10, l10, y10, z10⟩, st10⟩ := X9.virtualBack hx (y := mN16) (z := mN16) hown (mvT hZ (wd52 hw)) (mvT hZ (wd53 hw)) (notFace_of_selects (args := #[]) (mvT hZ (wd55 hw))) (mvT hZ (wd55 hw)) (mvT hZ (wd54 hw)) (by decide) (own_chU3_2 (W := 0) hZ hw Sq (X00.keep K0 all0) O2 P5 OA OH OL O4 rfm (by decide) (by decide)) q10a q10c (g := (mkF m 12 #[vR q, vI 2, vI c1] [(.int 2), (.ref q)])) rfl (by rw [hml]; rfl) (Steps.refl _) (argsL := [(.int 2)]) (rest := []) (lenOf own_pd14 rfl) rfl (Nat.le_of_eq rfl) (hb hby dHC_12) (fun _ _ => ⟨rfl, sm9, (by decide : 0 + 0 ≤ _), (by decide : 0 + 0 ≤ _)⟩)
     dsimp only [Pt.U, Pt.locs, Pt.cells, Pt.slots] at X10 l10 y10 z10 st10 hQ10
     subst l10 y10 z10
     obtain ⟨rfl, Nq10, sm10⟩ := hQ10
     have N10 := Fr.app N9 Nq10
     refine own_st (fun tq kq => st10.trans kq) ?_
     refine own_st (fun tq kq => XS.istoreN X10.here hx rfl (hb hby dHC_15) rfl (l' := #[vR q, vI 2, vI c2]) rfl kq) ?_
     refine s_iloadN X10 hx (hb hby dHC_16) rfl ?_
     refine s_bipush X10 hx (hb hby dHC_17) ?_
     show own_G p e below _ (T10.setTop (mkF m 19 #[vR q, vI 2, vI c2] [(.int 32), (.int c2)]))
     by_cases hc19_11 : (c2 < (32 : Int32))
     ·
      refine own_st (fun tq kq => XS.icmpYes X10.here hx rfl (pc0 := 19) (pc' := 28) rfl (hb hby dHC_19) rfl (tlt hc19_11).1 (by decide) (by decide) kq) ?_
      refine s_iconst X10 hx (hb hby dHC_28) ?_
      show own_G p e below _ (T10.setTop (mkF m 29 #[vR q, vI 2, vI c2] [(.int 1)]))
      obtain ⟨fs, hr, hrun, hended, hW, hsame⟩ := X10.leave (v := some (.int 1)) (fun h => by rw [Bd.returns] at h; cases h)
      refine ⟨_, _, retN X10 hx (t := .boolean) Bd.returns (by simp) (hb hby dHC_29) hr, hrun, hended, _, _, rfl, ?_, ⟨_, rfl⟩, hW, hsame.mono (by decide) (by decide)⟩
      change Q_own_hc3 Z q nb fm G1 c0 c1 c2 h0 n0 _ T10.heap _; rw [sm10]; exact ⟨Or.inl ⟨rfl, c2, by simp, Or.inl hc19_11⟩, N10, rfl⟩
     ·
      refine own_st (fun tq kq => XS.icmpNo X10.here hx rfl (hb hby dHC_19) rfl (flt hc19_11).1 kq) ?_
      refine s_iloadN X10 hx (hb hby dHC_22) rfl ?_
      refine s_bipush X10 hx (hb hby dHC_23) ?_
      show own_G p e below _ (T10.setTop (mkF m 25 #[vR q, vI 2, vI c2] [(.int 127), (.int c2)]))
      by_cases hc25_12 : (c2 = (127 : Int32))
      ·
       refine own_st (fun tq kq => XS.icmpNo X10.here hx rfl (hb hby dHC_25) rfl (teq hc25_12).2 kq) ?_
       refine s_iconst X10 hx (hb hby dHC_28) ?_
       show own_G p e below _ (T10.setTop (mkF m 29 #[vR q, vI 2, vI c2] [(.int 1)]))
       obtain ⟨fs, hr, hrun, hended, hW, hsame⟩ := X10.leave (v := some (.int 1)) (fun h => by rw [Bd.returns] at h; cases h)
       refine ⟨_, _, retN X10 hx (t := .boolean) Bd.returns (by simp) (hb hby dHC_29) hr, hrun, hended, _, _, rfl, ?_, ⟨_, rfl⟩, hW, hsame.mono (by decide) (by decide)⟩
       change Q_own_hc3 Z q nb fm G1 c0 c1 c2 h0 n0 _ T10.heap _; rw [sm10]; exact ⟨Or.inl ⟨rfl, c2, by simp, Or.inr hc25_12⟩, N10, rfl⟩
      ·
       refine own_st (fun tq kq => XS.icmpYes X10.here hx rfl (pc0 := 25) (pc' := 30) rfl (hb hby dHC_25) rfl (feq hc25_12).2 (by decide) (by decide) kq) ?_
       refine own_st (fun tq kq => XS.iinc X10.here hx rfl (hb hby dHC_30) rfl (l' := #[vR q, vI 3, vI c2]) rfl kq) ?_
       refine own_st (fun tq kq => XS.goto X10.here hx rfl (pc0 := 33) (pc' := 2) rfl (hb hby dHC_33) (by decide) (by decide) kq) ?_
       refine s_iloadN X10 hx (hb hby dHC_2) rfl ?_
       show own_G p e below _ (T10.setTop (mkF m 3 #[vR q, vI 3, vI c2] [(.int 3)]))
       refine s_aloadN X10 hx (hb hby dHC_3) rfl rfl ?_
       obtain ⟨-, E_13, hb_13, ln_13, t_13, kb_13, cd_13, N2_13, vs_13, -, V_13, C_13, A_13, hc_13⟩ := id Sq
       obtain ⟨cq13, kq13, q13a, q13b, q13c⟩ := isOf hZ sm10 Sq.2.1
       obtain ⟨_, _, ⟨T13, L13, k13, n13⟩, -, X13, ⟨Lc13, hQ13, l13, y13, z13⟩, st13⟩ := X10.virtualBack hx (y := mN18) (z := mN18) hown (mvT hZ (wd27 hw)) (mvT hZ (wd28 hw)) (notFace_of_selects (args := #[]) (mvT hZ (wd30 hw))) (mvT hZ (wd30 hw)) (mvT hZ (wd29 hw)) (by decide) (StrChars.Road.lenW (W := 1) hZ (own_wLen hw) (kI := 4) (wd3 hw) E_13 V_13 C_13 A_13 hc_13 hb_13 (O2.ext (X00.keep K0 all0).2) P5 ln_13 (by decide) (by decide)) q13a q13c (g := (mkF m 4 #[vR q, vI 3, vI c2] [(.ref q), (.int 3)])) rfl (by rw [hml]; rfl) (Steps.refl _) (argsL := []) (rest := [(.int 3)]) (lenOf own_pd13 rfl) rfl (Nat.le_of_eq rfl) (hb hby dHC_4) (fun _ _ => ⟨rfl, sm10, (by decide : 0 + 0 ≤ _), (by decide : 0 + 0 ≤ _)⟩)
       dsimp only [Pt.U, Pt.locs, Pt.cells, Pt.slots] at X13 l13 y13 z13 st13 hQ13
       subst l13 y13 z13
       obtain ⟨rfl, rfl, sm13⟩ := hQ13
       have N13 := Fr.app N10 (Fr.nil n0)
       refine own_st (fun tq kq => st13.trans kq) ?_
       refine own_st (fun tq kq => XS.icmpYes X13.here hx rfl (pc0 := 7) (pc' := 36) rfl (hb hby dHC_7) rfl (flt (by decide : ¬ ((3 : Int32) < (3 : Int32)))).2.1 (by decide) (by decide) kq) ?_
       refine s_iconst X13 hx (hb hby dHC_36) ?_
       show own_G p e below _ (T13.setTop (mkF m 37 #[vR q, vI 3, vI c2] [(.int 0)]))
       obtain ⟨fs, hr, hrun, hended, hW, hsame⟩ := X13.leave (v := some (.int 0)) (fun h => by rw [Bd.returns] at h; cases h)
       refine ⟨_, _, retN X13 hx (t := .boolean) Bd.returns (by simp) (hb hby dHC_37) hr, hrun, hended, _, _, rfl, ?_, ⟨_, rfl⟩, hW, hsame.mono (by decide) (by decide)⟩
       change Q_own_hc3 Z q nb fm G1 c0 c1 c2 h0 n0 _ T13.heap _; rw [sm13]; exact ⟨Or.inr ⟨rfl, fun y hy => own_all3 (fun q => q.elim hc19_3 hc25_4) (fun q => q.elim hc19_7 hc25_8) (fun q => q.elim hc19_11 hc25_12) y hy⟩, N13, rfl⟩

theorem own_all4 {P : Int32 → Prop} {c0 c1 c2 c3 : Int32} (h0 : ¬ P c0) (h1 : ¬ P c1) (h2 : ¬ P c2) (h3 : ¬ P c3) : ∀ c ∈ ([c0, c1, c2, c3] : List Int32), ¬ P c := by
  intro c hc
  simp only [List.mem_cons, List.not_mem_nil, or_false] at hc
  rcases hc with rfl | rfl | rfl | rfl
  · exact h0
  · exact h1
  · exact h2
  · exact h3

def Q_own_hc4 (Z : State) (q nb : Nat) (fm : Value) (G1 : Int32) (c0 c1 c2 c3 : Int32) (h0 : Heap) (n0 : Nat) (v : Option Value) (h : Heap) (L : List Loc) : Prop := ((v = some (.int (1 : Int32)) ∧ ∃ c ∈ ([c0, c1, c2, c3] : List Int32), own_ctl c) ∨ (v = some (.int (0 : Int32)) ∧ ∀ c ∈ ([c0, c1, c2, c3] : List Int32), ¬ own_ctl c)) ∧ Fr n0 L ∧ h = h0
theorem ef_own_hc4 (m : MethodId) (x0 : Nat) : entryFrame m #[(.ref x0)] 3 = mkF m 0 #[.val (.ref x0), .unset, .unset] [] := by first | (simp [entryFrame, mkF, argsToLocals, Value.category]; done) | rfl
theorem own_hc4 (l : Launch) (Z : State) (a0 : Array Value) (hw : hWt a0 Z) (ws : List Jvm.Cond) (q nb : Nat) (fm : Value) (G1 : Int32) (c0 c1 c2 c3 : Int32) (h0 : Heap) (n0 : Nat) (Z0 : n0 ≤ h0.size) (X00 : Old Z n0 h0) (Sq : own_StrU Z nb h0 q ([c0, c1, c2, c3] : List Int32)) (O2 : Sta Z Z.heap "java/lang/String" "COMPACT_STRINGS" "Z" (.int G1)) (P5 : ¬ (G1 = (0 : Int32))) (OA : oA Z) (OH : oH Z) (OL : oL Z) (O4 : o4 Z fm) (rfm : fm.isRef = true) :
    MetFree l mN17 (head1 (Jvm.Cond.code mN17 prog_4_method_3_code 3 (some .boolean) :: ws) rm_5_0_0_96) (fun av_ U => av_ = #[(.ref q)] ∧ Z.Warmed39 U.vm ∧ U.heap = h0) (fun _ _ _ _ _ => True) (own_EN (Q_own_hc4 Z q nb fm G1 c0 c1 c2 c3 h0 n0) rm_5_0_0_96) := by
 refine MetFree.of_bodySF (plainFor_of_name own_pn3) hisR ?_
 intro p e s m args below meth c s₁ Bd hml0 hP hK
 obtain ⟨rfl, hZ, hh⟩ := hP
 have hx := Bd.exec
 have hby := Bd.bytes
 have hml : c.maxLocals = 3 := hml0
 have hown : s.vm.findClass "com/example/ward/ward/BasicCredentials" = some m.cls := findClass_of_methodNamed Bd.named
 have X0 : Stand p l e rm_5_0_0_96 s m _ below meth c s₁ [] 0 0 := Stand.of_body Bd
 have e0 : s₁.heap = h0 := by rw [← hh, Bd.state]; rfl
 have N0 := Fr.nil n0
 have K0 : Keep h0 h0 [] := Keep.refl h0 []
 refine show own_G p e below (own_EN (Q_own_hc4 Z q nb fm G1 c0 c1 c2 c3 h0 n0) rm_5_0_0_96 #[(.ref q)] s) _ from ?_
 refine own_st (fun tq kq => castTop (ef_own_hc4 m (q)) kq) ?_
 show own_G p e below _ (s₁.setTop (mkF m 0 #[vR q, .unset, .unset] []))
 refine s_iconst X0 hx (hb hby dHC_0) ?_
 refine own_st (fun tq kq => XS.istoreN X0.here hx rfl (hb hby dHC_1) rfl (l' := #[vR q, vI 0, .unset]) rfl kq) ?_
 refine s_iloadN X0 hx (hb hby dHC_2) rfl ?_
 refine s_aloadN X0 hx (hb hby dHC_3) rfl rfl ?_
 show own_G p e below _ (s₁.setTop (mkF m 4 #[vR q, vI 0, .unset] [(.ref q), (.int 0)]))
 obtain ⟨-, E_1, hb_1, ln_1, t_1, kb_1, cd_1, N2_1, vs_1, -, V_1, C_1, A_1, hc_1⟩ := id Sq
 obtain ⟨cq1, kq1, q1a, q1b, q1c⟩ := isOf hZ e0 Sq.2.1
 obtain ⟨_, _, ⟨T1, L1, k1, n1⟩, -, X1, ⟨Lc1, hQ1, l1, y1, z1⟩, st1⟩ := X0.virtualBack hx (y := mN18) (z := mN18) hown (mvT hZ (wd27 hw)) (mvT hZ (wd28 hw)) (notFace_of_selects (args := #[]) (mvT hZ (wd30 hw))) (mvT hZ (wd30 hw)) (mvT hZ (wd29 hw)) (by decide) (StrChars.Road.lenW (W := 1) hZ (own_wLen hw) (kI := 4) (wd3 hw) E_1 V_1 C_1 A_1 hc_1 hb_1 (O2.ext (X00.keep K0 all0).2) P5 ln_1 (by decide) (by decide)) q1a q1c (g := (mkF m 4 #[vR q, vI 0, .unset] [(.ref q), (.int 0)])) rfl (by rw [hml]; rfl) (Steps.refl _) (argsL := []) (rest := [(.int 0)]) (lenOf own_pd13 rfl) rfl (Nat.le_of_eq rfl) (hb hby dHC_4) (fun _ _ => ⟨rfl, e0, (by decide : 0 + 0 ≤ _), (by decide : 0 + 0 ≤ _)⟩)
 dsimp only [Pt.U, Pt.locs, Pt.cells, Pt.slots] at X1 l1 y1 z1 st1 hQ1
 subst l1 y1 z1
 obtain ⟨rfl, rfl, sm1⟩ := hQ1
 have N1 := Fr.app N0 (Fr.nil n0)
 refine own_st (fun tq kq => st1.trans kq) ?_
 refine own_st (fun tq kq => XS.icmpNo X1.here hx rfl (hb hby dHC_7) rfl (tlt (by decide : ((0 : Int32) < (4 : Int32)))).2.1 kq) ?_
 refine s_aloadN X1 hx (hb hby dHC_10) rfl rfl ?_
 refine s_iloadN X1 hx (hb hby dHC_11) rfl ?_
 obtain ⟨cq2, kq2, q2a, q2b, q2c⟩ := isOf hZ sm1 Sq.2.1
 obtain ⟨_, _, ⟨T2, L2, k2, n2⟩, -, X2, ⟨Lc2, hQ2, l2, y2, z2⟩, st2⟩ := X1.virtualBack hx (y := mN16) (z := mN16) hown (mvT hZ (wd52 hw)) (mvT hZ (wd53 hw)) (notFace_of_selects (args := #[]) (mvT hZ (wd55 hw))) (mvT hZ (wd55 hw)) (mvT hZ (wd54 hw)) (by decide) (own_chU4_0 (W := 0) hZ hw Sq (X00.keep K0 all0) O2 P5 OA OH OL O4 rfm (by decide) (by decide)) q2a q2c (g := (mkF m 12 #[vR q, vI 0, .unset] [(.int 0), (.ref q)])) rfl (by rw [hml]; rfl) (Steps.refl _) (argsL := [(.int 0)]) (rest := []) (lenOf own_pd14 rfl) rfl (Nat.le_of_eq rfl) (hb hby dHC_12) (fun _ _ => ⟨rfl, sm1, (by decide : 0 + 0 ≤ _), (by decide : 0 + 0 ≤ _)⟩)
 dsimp only [Pt.U, Pt.locs, Pt.cells, Pt.slots] at X2 l2 y2 z2 st2 hQ2
 subst l2 y2 z2
 obtain ⟨rfl, Nq2, sm2⟩ := hQ2
 have N2 := Fr.app N1 Nq2
 refine own_st (fun tq kq => st2.trans kq) ?_
 refine own_st (fun tq kq => XS.istoreN X2.here hx rfl (hb hby dHC_15) rfl (l' := #[vR q, vI 0, vI c0]) rfl kq) ?_
 refine s_iloadN X2 hx (hb hby dHC_16) rfl ?_
 refine s_bipush X2 hx (hb hby dHC_17) ?_
 show own_G p e below _ (T2.setTop (mkF m 19 #[vR q, vI 0, vI c0] [(.int 32), (.int c0)]))
 by_cases hc19_3 : (c0 < (32 : Int32))
 ·
  refine own_st (fun tq kq => XS.icmpYes X2.here hx rfl (pc0 := 19) (pc' := 28) rfl (hb hby dHC_19) rfl (tlt hc19_3).1 (by decide) (by decide) kq) ?_
  refine s_iconst X2 hx (hb hby dHC_28) ?_
  show own_G p e below _ (T2.setTop (mkF m 29 #[vR q, vI 0, vI c0] [(.int 1)]))
  obtain ⟨fs, hr, hrun, hended, hW, hsame⟩ := X2.leave (v := some (.int 1)) (fun h => by rw [Bd.returns] at h; cases h)
  refine ⟨_, _, retN X2 hx (t := .boolean) Bd.returns (by simp) (hb hby dHC_29) hr, hrun, hended, _, _, rfl, ?_, ⟨_, rfl⟩, hW, hsame.mono (by decide) (by decide)⟩
  change Q_own_hc4 Z q nb fm G1 c0 c1 c2 c3 h0 n0 _ T2.heap _; rw [sm2]; exact ⟨Or.inl ⟨rfl, c0, by simp, Or.inl hc19_3⟩, N2, rfl⟩
 ·
  refine own_st (fun tq kq => XS.icmpNo X2.here hx rfl (hb hby dHC_19) rfl (flt hc19_3).1 kq) ?_
  refine s_iloadN X2 hx (hb hby dHC_22) rfl ?_
  refine s_bipush X2 hx (hb hby dHC_23) ?_
  show own_G p e below _ (T2.setTop (mkF m 25 #[vR q, vI 0, vI c0] [(.int 127), (.int c0)]))
  by_cases hc25_4 : (c0 = (127 : Int32))
  ·
   refine own_st (fun tq kq => XS.icmpNo X2.here hx rfl (hb hby dHC_25) rfl (teq hc25_4).2 kq) ?_
   refine s_iconst X2 hx (hb hby dHC_28) ?_
   show own_G p e below _ (T2.setTop (mkF m 29 #[vR q, vI 0, vI c0] [(.int 1)]))
   obtain ⟨fs, hr, hrun, hended, hW, hsame⟩ := X2.leave (v := some (.int 1)) (fun h => by rw [Bd.returns] at h; cases h)
   refine ⟨_, _, retN X2 hx (t := .boolean) Bd.returns (by simp) (hb hby dHC_29) hr, hrun, hended, _, _, rfl, ?_, ⟨_, rfl⟩, hW, hsame.mono (by decide) (by decide)⟩
   change Q_own_hc4 Z q nb fm G1 c0 c1 c2 c3 h0 n0 _ T2.heap _; rw [sm2]; exact ⟨Or.inl ⟨rfl, c0, by simp, Or.inr hc25_4⟩, N2, rfl⟩
  ·
   refine own_st (fun tq kq => XS.icmpYes X2.here hx rfl (pc0 := 25) (pc' := 30) rfl (hb hby dHC_25) rfl (feq hc25_4).2 (by decide) (by decide) kq) ?_
   refine own_st (fun tq kq => XS.iinc X2.here hx rfl (hb hby dHC_30) rfl (l' := #[vR q, vI 1, vI c0]) rfl kq) ?_
   refine own_st (fun tq kq => XS.goto X2.here hx rfl (pc0 := 33) (pc' := 2) rfl (hb hby dHC_33) (by decide) (by decide) kq) ?_
   refine s_iloadN X2 hx (hb hby dHC_2) rfl ?_
   show own_G p e below _ (T2.setTop (mkF m 3 #[vR q, vI 1, vI c0] [(.int 1)]))
   refine s_aloadN X2 hx (hb hby dHC_3) rfl rfl ?_
   obtain ⟨-, E_5, hb_5, ln_5, t_5, kb_5, cd_5, N2_5, vs_5, -, V_5, C_5, A_5, hc_5⟩ := id Sq
   obtain ⟨cq5, kq5, q5a, q5b, q5c⟩ := isOf hZ sm2 Sq.2.1
   obtain ⟨_, _, ⟨T5, L5, k5, n5⟩, -, X5, ⟨Lc5, hQ5, l5, y5, z5⟩, st5⟩ := X2.virtualBack hx (y := mN18) (z := mN18) hown (mvT hZ (wd27 hw)) (mvT hZ (wd28 hw)) (notFace_of_selects (args := #[]) (mvT hZ (wd30 hw))) (mvT hZ (wd30 hw)) (mvT hZ (wd29 hw)) (by decide) (StrChars.Road.lenW (W := 1) hZ (own_wLen hw) (kI := 4) (wd3 hw) E_5 V_5 C_5 A_5 hc_5 hb_5 (O2.ext (X00.keep K0 all0).2) P5 ln_5 (by decide) (by decide)) q5a q5c (g := (mkF m 4 #[vR q, vI 1, vI c0] [(.ref q), (.int 1)])) rfl (by rw [hml]; rfl) (Steps.refl _) (argsL := []) (rest := [(.int 1)]) (lenOf own_pd13 rfl) rfl (Nat.le_of_eq rfl) (hb hby dHC_4) (fun _ _ => ⟨rfl, sm2, (by decide : 0 + 0 ≤ _), (by decide : 0 + 0 ≤ _)⟩)
   dsimp only [Pt.U, Pt.locs, Pt.cells, Pt.slots] at X5 l5 y5 z5 st5 hQ5
   subst l5 y5 z5
   obtain ⟨rfl, rfl, sm5⟩ := hQ5
   have N5 := Fr.app N2 (Fr.nil n0)
   refine own_st (fun tq kq => st5.trans kq) ?_
   refine own_st (fun tq kq => XS.icmpNo X5.here hx rfl (hb hby dHC_7) rfl (tlt (by decide : ((1 : Int32) < (4 : Int32)))).2.1 kq) ?_
   refine s_aloadN X5 hx (hb hby dHC_10) rfl rfl ?_
   refine s_iloadN X5 hx (hb hby dHC_11) rfl ?_
   obtain ⟨cq6, kq6, q6a, q6b, q6c⟩ := isOf hZ sm5 Sq.2.1
   obtain ⟨_, _, ⟨T6, L6, k6, n6⟩, -, X6, ⟨Lc6, hQ6, l6, y6, z6⟩, st6⟩ := X5.virtualBack hx (y := mN16) (z := mN16) hown (mvT hZ (wd52 hw)) (mvT hZ (wd53 hw)) (notFace_of_selects (args := #[]) (mvT hZ (wd55 hw))) (mvT hZ (wd55 hw)) (mvT hZ (wd54 hw)) (by decide) (own_chU4_1 (W := 0) hZ hw Sq (X00.keep K0 all0) O2 P5 OA OH OL O4 rfm (by decide) (by decide)) q6a q6c (g := (mkF m 12 #[vR q, vI 1, vI c0] [(.int 1), (.ref q)])) rfl (by rw [hml]; rfl) (Steps.refl _) (argsL := [(.int 1)]) (rest := []) (lenOf own_pd14 rfl) rfl (Nat.le_of_eq rfl) (hb hby dHC_12) (fun _ _ => ⟨rfl, sm5, (by decide : 0 + 0 ≤ _), (by decide : 0 + 0 ≤ _)⟩)
   dsimp only [Pt.U, Pt.locs, Pt.cells, Pt.slots] at X6 l6 y6 z6 st6 hQ6
   subst l6 y6 z6
   obtain ⟨rfl, Nq6, sm6⟩ := hQ6
   have N6 := Fr.app N5 Nq6
   refine own_st (fun tq kq => st6.trans kq) ?_
   refine own_st (fun tq kq => XS.istoreN X6.here hx rfl (hb hby dHC_15) rfl (l' := #[vR q, vI 1, vI c1]) rfl kq) ?_
   refine s_iloadN X6 hx (hb hby dHC_16) rfl ?_
   refine s_bipush X6 hx (hb hby dHC_17) ?_
   show own_G p e below _ (T6.setTop (mkF m 19 #[vR q, vI 1, vI c1] [(.int 32), (.int c1)]))
   by_cases hc19_7 : (c1 < (32 : Int32))
   ·
    refine own_st (fun tq kq => XS.icmpYes X6.here hx rfl (pc0 := 19) (pc' := 28) rfl (hb hby dHC_19) rfl (tlt hc19_7).1 (by decide) (by decide) kq) ?_
    refine s_iconst X6 hx (hb hby dHC_28) ?_
    show own_G p e below _ (T6.setTop (mkF m 29 #[vR q, vI 1, vI c1] [(.int 1)]))
    obtain ⟨fs, hr, hrun, hended, hW, hsame⟩ := X6.leave (v := some (.int 1)) (fun h => by rw [Bd.returns] at h; cases h)
    refine ⟨_, _, retN X6 hx (t := .boolean) Bd.returns (by simp) (hb hby dHC_29) hr, hrun, hended, _, _, rfl, ?_, ⟨_, rfl⟩, hW, hsame.mono (by decide) (by decide)⟩
    change Q_own_hc4 Z q nb fm G1 c0 c1 c2 c3 h0 n0 _ T6.heap _; rw [sm6]; exact ⟨Or.inl ⟨rfl, c1, by simp, Or.inl hc19_7⟩, N6, rfl⟩
   ·
    refine own_st (fun tq kq => XS.icmpNo X6.here hx rfl (hb hby dHC_19) rfl (flt hc19_7).1 kq) ?_
    refine s_iloadN X6 hx (hb hby dHC_22) rfl ?_
    refine s_bipush X6 hx (hb hby dHC_23) ?_
    show own_G p e below _ (T6.setTop (mkF m 25 #[vR q, vI 1, vI c1] [(.int 127), (.int c1)]))
    by_cases hc25_8 : (c1 = (127 : Int32))
    ·
     refine own_st (fun tq kq => XS.icmpNo X6.here hx rfl (hb hby dHC_25) rfl (teq hc25_8).2 kq) ?_
     refine s_iconst X6 hx (hb hby dHC_28) ?_
     show own_G p e below _ (T6.setTop (mkF m 29 #[vR q, vI 1, vI c1] [(.int 1)]))
     obtain ⟨fs, hr, hrun, hended, hW, hsame⟩ := X6.leave (v := some (.int 1)) (fun h => by rw [Bd.returns] at h; cases h)
     refine ⟨_, _, retN X6 hx (t := .boolean) Bd.returns (by simp) (hb hby dHC_29) hr, hrun, hended, _, _, rfl, ?_, ⟨_, rfl⟩, hW, hsame.mono (by decide) (by decide)⟩
     change Q_own_hc4 Z q nb fm G1 c0 c1 c2 c3 h0 n0 _ T6.heap _; rw [sm6]; exact ⟨Or.inl ⟨rfl, c1, by simp, Or.inr hc25_8⟩, N6, rfl⟩
    ·
     refine own_st (fun tq kq => XS.icmpYes X6.here hx rfl (pc0 := 25) (pc' := 30) rfl (hb hby dHC_25) rfl (feq hc25_8).2 (by decide) (by decide) kq) ?_
     refine own_st (fun tq kq => XS.iinc X6.here hx rfl (hb hby dHC_30) rfl (l' := #[vR q, vI 2, vI c1]) rfl kq) ?_
     refine own_st (fun tq kq => XS.goto X6.here hx rfl (pc0 := 33) (pc' := 2) rfl (hb hby dHC_33) (by decide) (by decide) kq) ?_
     refine s_iloadN X6 hx (hb hby dHC_2) rfl ?_
     show own_G p e below _ (T6.setTop (mkF m 3 #[vR q, vI 2, vI c1] [(.int 2)]))
     refine s_aloadN X6 hx (hb hby dHC_3) rfl rfl ?_
     obtain ⟨-, E_9, hb_9, ln_9, t_9, kb_9, cd_9, N2_9, vs_9, -, V_9, C_9, A_9, hc_9⟩ := id Sq
     obtain ⟨cq9, kq9, q9a, q9b, q9c⟩ := isOf hZ sm6 Sq.2.1
     obtain ⟨_, _, ⟨T9, L9, k9, n9⟩, -, X9, ⟨Lc9, hQ9, l9, y9, z9⟩, st9⟩ := X6.virtualBack hx (y := mN18) (z := mN18) hown (mvT hZ (wd27 hw)) (mvT hZ (wd28 hw)) (notFace_of_selects (args := #[]) (mvT hZ (wd30 hw))) (mvT hZ (wd30 hw)) (mvT hZ (wd29 hw)) (by decide) (StrChars.Road.lenW (W := 1) hZ (own_wLen hw) (kI := 4) (wd3 hw) E_9 V_9 C_9 A_9 hc_9 hb_9 (O2.ext (X00.keep K0 all0).2) P5 ln_9 (by decide) (by decide)) q9a q9c (g := (mkF m 4 #[vR q, vI 2, vI c1] [(.ref q), (.int 2)])) rfl (by rw [hml]; rfl) (Steps.refl _) (argsL := []) (rest := [(.int 2)]) (lenOf own_pd13 rfl) rfl (Nat.le_of_eq rfl) (hb hby dHC_4) (fun _ _ => ⟨rfl, sm6, (by decide : 0 + 0 ≤ _), (by decide : 0 + 0 ≤ _)⟩)
     dsimp only [Pt.U, Pt.locs, Pt.cells, Pt.slots] at X9 l9 y9 z9 st9 hQ9
     subst l9 y9 z9
     obtain ⟨rfl, rfl, sm9⟩ := hQ9
     have N9 := Fr.app N6 (Fr.nil n0)
     refine own_st (fun tq kq => st9.trans kq) ?_
     refine own_st (fun tq kq => XS.icmpNo X9.here hx rfl (hb hby dHC_7) rfl (tlt (by decide : ((2 : Int32) < (4 : Int32)))).2.1 kq) ?_
     refine s_aloadN X9 hx (hb hby dHC_10) rfl rfl ?_
     refine s_iloadN X9 hx (hb hby dHC_11) rfl ?_
     obtain ⟨cq10, kq10, q10a, q10b, q10c⟩ := isOf hZ sm9 Sq.2.1
     obtain ⟨_, _, ⟨T10, L10, k10, n10⟩, -, X10, ⟨Lc10, hQ10, l10, y10, z10⟩, st10⟩ := X9.virtualBack hx (y := mN16) (z := mN16) hown (mvT hZ (wd52 hw)) (mvT hZ (wd53 hw)) (notFace_of_selects (args := #[]) (mvT hZ (wd55 hw))) (mvT hZ (wd55 hw)) (mvT hZ (wd54 hw)) (by decide) (own_chU4_2 (W := 0) hZ hw Sq (X00.keep K0 all0) O2 P5 OA OH OL O4 rfm (by decide) (by decide)) q10a q10c (g := (mkF m 12 #[vR q, vI 2, vI c1] [(.int 2), (.ref q)])) rfl (by rw [hml]; rfl) (Steps.refl _) (argsL := [(.int 2)]) (rest := []) (lenOf own_pd14 rfl) rfl (Nat.le_of_eq rfl) (hb hby dHC_12) (fun _ _ => ⟨rfl, sm9, (by decide : 0 + 0 ≤ _), (by decide : 0 + 0 ≤ _)⟩)
     dsimp only [Pt.U, Pt.locs, Pt.cells, Pt.slots] at X10 l10 y10 z10 st10 hQ10
     subst l10 y10 z10
     obtain ⟨rfl, Nq10, sm10⟩ := hQ10
     have N10 := Fr.app N9 Nq10
     refine own_st (fun tq kq => st10.trans kq) ?_
     refine own_st (fun tq kq => XS.istoreN X10.here hx rfl (hb hby dHC_15) rfl (l' := #[vR q, vI 2, vI c2]) rfl kq) ?_
     refine s_iloadN X10 hx (hb hby dHC_16) rfl ?_
     refine s_bipush X10 hx (hb hby dHC_17) ?_
     show own_G p e below _ (T10.setTop (mkF m 19 #[vR q, vI 2, vI c2] [(.int 32), (.int c2)]))
     by_cases hc19_11 : (c2 < (32 : Int32))
     ·
      refine own_st (fun tq kq => XS.icmpYes X10.here hx rfl (pc0 := 19) (pc' := 28) rfl (hb hby dHC_19) rfl (tlt hc19_11).1 (by decide) (by decide) kq) ?_
      refine s_iconst X10 hx (hb hby dHC_28) ?_
      show own_G p e below _ (T10.setTop (mkF m 29 #[vR q, vI 2, vI c2] [(.int 1)]))
      obtain ⟨fs, hr, hrun, hended, hW, hsame⟩ := X10.leave (v := some (.int 1)) (fun h => by rw [Bd.returns] at h; cases h)
      refine ⟨_, _, retN X10 hx (t := .boolean) Bd.returns (by simp) (hb hby dHC_29) hr, hrun, hended, _, _, rfl, ?_, ⟨_, rfl⟩, hW, hsame.mono (by decide) (by decide)⟩
      change Q_own_hc4 Z q nb fm G1 c0 c1 c2 c3 h0 n0 _ T10.heap _; rw [sm10]; exact ⟨Or.inl ⟨rfl, c2, by simp, Or.inl hc19_11⟩, N10, rfl⟩
     ·
      refine own_st (fun tq kq => XS.icmpNo X10.here hx rfl (hb hby dHC_19) rfl (flt hc19_11).1 kq) ?_
      refine s_iloadN X10 hx (hb hby dHC_22) rfl ?_
      refine s_bipush X10 hx (hb hby dHC_23) ?_
      show own_G p e below _ (T10.setTop (mkF m 25 #[vR q, vI 2, vI c2] [(.int 127), (.int c2)]))
      by_cases hc25_12 : (c2 = (127 : Int32))
      ·
       refine own_st (fun tq kq => XS.icmpNo X10.here hx rfl (hb hby dHC_25) rfl (teq hc25_12).2 kq) ?_
       refine s_iconst X10 hx (hb hby dHC_28) ?_
       show own_G p e below _ (T10.setTop (mkF m 29 #[vR q, vI 2, vI c2] [(.int 1)]))
       obtain ⟨fs, hr, hrun, hended, hW, hsame⟩ := X10.leave (v := some (.int 1)) (fun h => by rw [Bd.returns] at h; cases h)
       refine ⟨_, _, retN X10 hx (t := .boolean) Bd.returns (by simp) (hb hby dHC_29) hr, hrun, hended, _, _, rfl, ?_, ⟨_, rfl⟩, hW, hsame.mono (by decide) (by decide)⟩
       change Q_own_hc4 Z q nb fm G1 c0 c1 c2 c3 h0 n0 _ T10.heap _; rw [sm10]; exact ⟨Or.inl ⟨rfl, c2, by simp, Or.inr hc25_12⟩, N10, rfl⟩
      ·
       refine own_st (fun tq kq => XS.icmpYes X10.here hx rfl (pc0 := 25) (pc' := 30) rfl (hb hby dHC_25) rfl (feq hc25_12).2 (by decide) (by decide) kq) ?_
       refine own_st (fun tq kq => XS.iinc X10.here hx rfl (hb hby dHC_30) rfl (l' := #[vR q, vI 3, vI c2]) rfl kq) ?_
       refine own_st (fun tq kq => XS.goto X10.here hx rfl (pc0 := 33) (pc' := 2) rfl (hb hby dHC_33) (by decide) (by decide) kq) ?_
       refine s_iloadN X10 hx (hb hby dHC_2) rfl ?_
       show own_G p e below _ (T10.setTop (mkF m 3 #[vR q, vI 3, vI c2] [(.int 3)]))
       refine s_aloadN X10 hx (hb hby dHC_3) rfl rfl ?_
       obtain ⟨-, E_13, hb_13, ln_13, t_13, kb_13, cd_13, N2_13, vs_13, -, V_13, C_13, A_13, hc_13⟩ := id Sq
       obtain ⟨cq13, kq13, q13a, q13b, q13c⟩ := isOf hZ sm10 Sq.2.1
       obtain ⟨_, _, ⟨T13, L13, k13, n13⟩, -, X13, ⟨Lc13, hQ13, l13, y13, z13⟩, st13⟩ := X10.virtualBack hx (y := mN18) (z := mN18) hown (mvT hZ (wd27 hw)) (mvT hZ (wd28 hw)) (notFace_of_selects (args := #[]) (mvT hZ (wd30 hw))) (mvT hZ (wd30 hw)) (mvT hZ (wd29 hw)) (by decide) (StrChars.Road.lenW (W := 1) hZ (own_wLen hw) (kI := 4) (wd3 hw) E_13 V_13 C_13 A_13 hc_13 hb_13 (O2.ext (X00.keep K0 all0).2) P5 ln_13 (by decide) (by decide)) q13a q13c (g := (mkF m 4 #[vR q, vI 3, vI c2] [(.ref q), (.int 3)])) rfl (by rw [hml]; rfl) (Steps.refl _) (argsL := []) (rest := [(.int 3)]) (lenOf own_pd13 rfl) rfl (Nat.le_of_eq rfl) (hb hby dHC_4) (fun _ _ => ⟨rfl, sm10, (by decide : 0 + 0 ≤ _), (by decide : 0 + 0 ≤ _)⟩)
       dsimp only [Pt.U, Pt.locs, Pt.cells, Pt.slots] at X13 l13 y13 z13 st13 hQ13
       subst l13 y13 z13
       obtain ⟨rfl, rfl, sm13⟩ := hQ13
       have N13 := Fr.app N10 (Fr.nil n0)
       refine own_st (fun tq kq => st13.trans kq) ?_
       refine own_st (fun tq kq => XS.icmpNo X13.here hx rfl (hb hby dHC_7) rfl (tlt (by decide : ((3 : Int32) < (4 : Int32)))).2.1 kq) ?_
       refine s_aloadN X13 hx (hb hby dHC_10) rfl rfl ?_
       refine s_iloadN X13 hx (hb hby dHC_11) rfl ?_
       obtain ⟨cq14, kq14, q14a, q14b, q14c⟩ := isOf hZ sm13 Sq.2.1
       obtain ⟨_, _, ⟨T14, L14, k14, n14⟩, -, X14, ⟨Lc14, hQ14, l14, y14, z14⟩, st14⟩ := X13.virtualBack hx (y := mN16) (z := mN16) hown (mvT hZ (wd52 hw)) (mvT hZ (wd53 hw)) (notFace_of_selects (args := #[]) (mvT hZ (wd55 hw))) (mvT hZ (wd55 hw)) (mvT hZ (wd54 hw)) (by decide) (own_chU4_3 (W := 0) hZ hw Sq (X00.keep K0 all0) O2 P5 OA OH OL O4 rfm (by decide) (by decide)) q14a q14c (g := (mkF m 12 #[vR q, vI 3, vI c2] [(.int 3), (.ref q)])) rfl (by rw [hml]; rfl) (Steps.refl _) (argsL := [(.int 3)]) (rest := []) (lenOf own_pd14 rfl) rfl (Nat.le_of_eq rfl) (hb hby dHC_12) (fun _ _ => ⟨rfl, sm13, (by decide : 0 + 0 ≤ _), (by decide : 0 + 0 ≤ _)⟩)
       dsimp only [Pt.U, Pt.locs, Pt.cells, Pt.slots] at X14 l14 y14 z14 st14 hQ14
       subst l14 y14 z14
       obtain ⟨rfl, Nq14, sm14⟩ := hQ14
       have N14 := Fr.app N13 Nq14
       refine own_st (fun tq kq => st14.trans kq) ?_
       refine own_st (fun tq kq => XS.istoreN X14.here hx rfl (hb hby dHC_15) rfl (l' := #[vR q, vI 3, vI c3]) rfl kq) ?_
       refine s_iloadN X14 hx (hb hby dHC_16) rfl ?_
       refine s_bipush X14 hx (hb hby dHC_17) ?_
       show own_G p e below _ (T14.setTop (mkF m 19 #[vR q, vI 3, vI c3] [(.int 32), (.int c3)]))
       by_cases hc19_15 : (c3 < (32 : Int32))
       ·
        refine own_st (fun tq kq => XS.icmpYes X14.here hx rfl (pc0 := 19) (pc' := 28) rfl (hb hby dHC_19) rfl (tlt hc19_15).1 (by decide) (by decide) kq) ?_
        refine s_iconst X14 hx (hb hby dHC_28) ?_
        show own_G p e below _ (T14.setTop (mkF m 29 #[vR q, vI 3, vI c3] [(.int 1)]))
        obtain ⟨fs, hr, hrun, hended, hW, hsame⟩ := X14.leave (v := some (.int 1)) (fun h => by rw [Bd.returns] at h; cases h)
        refine ⟨_, _, retN X14 hx (t := .boolean) Bd.returns (by simp) (hb hby dHC_29) hr, hrun, hended, _, _, rfl, ?_, ⟨_, rfl⟩, hW, hsame.mono (by decide) (by decide)⟩
        change Q_own_hc4 Z q nb fm G1 c0 c1 c2 c3 h0 n0 _ T14.heap _; rw [sm14]; exact ⟨Or.inl ⟨rfl, c3, by simp, Or.inl hc19_15⟩, N14, rfl⟩
       ·
        refine own_st (fun tq kq => XS.icmpNo X14.here hx rfl (hb hby dHC_19) rfl (flt hc19_15).1 kq) ?_
        refine s_iloadN X14 hx (hb hby dHC_22) rfl ?_
        refine s_bipush X14 hx (hb hby dHC_23) ?_
        show own_G p e below _ (T14.setTop (mkF m 25 #[vR q, vI 3, vI c3] [(.int 127), (.int c3)]))
        by_cases hc25_16 : (c3 = (127 : Int32))
        ·
         refine own_st (fun tq kq => XS.icmpNo X14.here hx rfl (hb hby dHC_25) rfl (teq hc25_16).2 kq) ?_
         refine s_iconst X14 hx (hb hby dHC_28) ?_
         show own_G p e below _ (T14.setTop (mkF m 29 #[vR q, vI 3, vI c3] [(.int 1)]))
         obtain ⟨fs, hr, hrun, hended, hW, hsame⟩ := X14.leave (v := some (.int 1)) (fun h => by rw [Bd.returns] at h; cases h)
         refine ⟨_, _, retN X14 hx (t := .boolean) Bd.returns (by simp) (hb hby dHC_29) hr, hrun, hended, _, _, rfl, ?_, ⟨_, rfl⟩, hW, hsame.mono (by decide) (by decide)⟩
         change Q_own_hc4 Z q nb fm G1 c0 c1 c2 c3 h0 n0 _ T14.heap _; rw [sm14]; exact ⟨Or.inl ⟨rfl, c3, by simp, Or.inr hc25_16⟩, N14, rfl⟩
        ·
         refine own_st (fun tq kq => XS.icmpYes X14.here hx rfl (pc0 := 25) (pc' := 30) rfl (hb hby dHC_25) rfl (feq hc25_16).2 (by decide) (by decide) kq) ?_
         refine own_st (fun tq kq => XS.iinc X14.here hx rfl (hb hby dHC_30) rfl (l' := #[vR q, vI 4, vI c3]) rfl kq) ?_
         refine own_st (fun tq kq => XS.goto X14.here hx rfl (pc0 := 33) (pc' := 2) rfl (hb hby dHC_33) (by decide) (by decide) kq) ?_
         refine s_iloadN X14 hx (hb hby dHC_2) rfl ?_
         show own_G p e below _ (T14.setTop (mkF m 3 #[vR q, vI 4, vI c3] [(.int 4)]))
         refine s_aloadN X14 hx (hb hby dHC_3) rfl rfl ?_
         obtain ⟨-, E_17, hb_17, ln_17, t_17, kb_17, cd_17, N2_17, vs_17, -, V_17, C_17, A_17, hc_17⟩ := id Sq
         obtain ⟨cq17, kq17, q17a, q17b, q17c⟩ := isOf hZ sm14 Sq.2.1
         obtain ⟨_, _, ⟨T17, L17, k17, n17⟩, -, X17, ⟨Lc17, hQ17, l17, y17, z17⟩, st17⟩ := X14.virtualBack hx (y := mN18) (z := mN18) hown (mvT hZ (wd27 hw)) (mvT hZ (wd28 hw)) (notFace_of_selects (args := #[]) (mvT hZ (wd30 hw))) (mvT hZ (wd30 hw)) (mvT hZ (wd29 hw)) (by decide) (StrChars.Road.lenW (W := 1) hZ (own_wLen hw) (kI := 4) (wd3 hw) E_17 V_17 C_17 A_17 hc_17 hb_17 (O2.ext (X00.keep K0 all0).2) P5 ln_17 (by decide) (by decide)) q17a q17c (g := (mkF m 4 #[vR q, vI 4, vI c3] [(.ref q), (.int 4)])) rfl (by rw [hml]; rfl) (Steps.refl _) (argsL := []) (rest := [(.int 4)]) (lenOf own_pd13 rfl) rfl (Nat.le_of_eq rfl) (hb hby dHC_4) (fun _ _ => ⟨rfl, sm14, (by decide : 0 + 0 ≤ _), (by decide : 0 + 0 ≤ _)⟩)
         dsimp only [Pt.U, Pt.locs, Pt.cells, Pt.slots] at X17 l17 y17 z17 st17 hQ17
         subst l17 y17 z17
         obtain ⟨rfl, rfl, sm17⟩ := hQ17
         have N17 := Fr.app N14 (Fr.nil n0)
         refine own_st (fun tq kq => st17.trans kq) ?_
         refine own_st (fun tq kq => XS.icmpYes X17.here hx rfl (pc0 := 7) (pc' := 36) rfl (hb hby dHC_7) rfl (flt (by decide : ¬ ((4 : Int32) < (4 : Int32)))).2.1 (by decide) (by decide) kq) ?_
         refine s_iconst X17 hx (hb hby dHC_36) ?_
         show own_G p e below _ (T17.setTop (mkF m 37 #[vR q, vI 4, vI c3] [(.int 0)]))
         obtain ⟨fs, hr, hrun, hended, hW, hsame⟩ := X17.leave (v := some (.int 0)) (fun h => by rw [Bd.returns] at h; cases h)
         refine ⟨_, _, retN X17 hx (t := .boolean) Bd.returns (by simp) (hb hby dHC_37) hr, hrun, hended, _, _, rfl, ?_, ⟨_, rfl⟩, hW, hsame.mono (by decide) (by decide)⟩
         change Q_own_hc4 Z q nb fm G1 c0 c1 c2 c3 h0 n0 _ T17.heap _; rw [sm17]; exact ⟨Or.inr ⟨rfl, fun y hy => own_all4 (fun q => q.elim hc19_3 hc25_4) (fun q => q.elim hc19_7 hc25_8) (fun q => q.elim hc19_11 hc25_12) (fun q => q.elim hc19_15 hc25_16) y hy⟩, N17, rfl⟩

def Q_own_ctlC (Z : State) (ch : Int32) (h0 : Heap) (n0 : Nat) (v : Option Value) (h : Heap) (L : List Loc) : Prop := ((v = some (.int (1 : Int32)) ∧ own_ctl ch) ∨ (v = some (.int (0 : Int32)) ∧ ¬ own_ctl ch)) ∧ Fr n0 L ∧ h = h0
theorem ef_own_ctlC (m : MethodId) (x0 : Int32) : entryFrame m #[(.int x0)] 2 = mkF m 0 #[.val (.int x0), .unset] [] := by first | (simp [entryFrame, mkF, argsToLocals, Value.category]; done) | rfl
theorem own_ctlC (l : Launch) (Z : State) (a0 : Array Value) (hw : hWt a0 Z) (ws : List Jvm.Cond) (ch : Int32) (h0 : Heap) (n0 : Nat) (Z0 : n0 ≤ h0.size) (X00 : Old Z n0 h0) (h0_ : ¬ ch < (0 : Int32)) :
    MetFree l mN19 (head1 (Jvm.Cond.code mN19 method_2_code 2 (some .boolean) :: ws) rm_0_0_0_0) (fun av_ U => av_ = #[(.int ch)] ∧ Z.Warmed39 U.vm ∧ U.heap = h0) (fun _ _ _ _ _ => True) (own_EN (Q_own_ctlC Z ch h0 n0) rm_0_0_0_0) := by
 refine MetFree.of_bodySF (plainFor_of_name own_pn4) hisR ?_
 intro p e s m args below meth c s₁ Bd hml0 hP hK
 obtain ⟨rfl, hZ, hh⟩ := hP
 have hx := Bd.exec
 have hby := Bd.bytes
 have hml : c.maxLocals = 2 := hml0
 have hown : s.vm.findClass "com/example/ward/ward/BasicCredentialsHoldsControlPinLaw" = some m.cls := findClass_of_methodNamed Bd.named
 have X0 : Stand p l e rm_0_0_0_0 s m _ below meth c s₁ [] 0 0 := Stand.of_body Bd
 have e0 : s₁.heap = h0 := by rw [← hh, Bd.state]; rfl
 have N0 := Fr.nil n0
 have K0 : Keep h0 h0 [] := Keep.refl h0 []
 refine show own_G p e below (own_EN (Q_own_ctlC Z ch h0 n0) rm_0_0_0_0 #[(.int ch)] s) _ from ?_
 refine own_st (fun tq kq => castTop (ef_own_ctlC m (ch)) kq) ?_
 show own_G p e below _ (s₁.setTop (mkF m 0 #[vI ch, .unset] []))
 refine s_iloadN X0 hx (hb hby dCT_0) rfl ?_
 refine own_st (fun tq kq => XS.istoreN X0.here hx rfl (hb hby dCT_1) rfl (l' := #[vI ch, vI ch]) rfl kq) ?_
 refine s_iloadN X0 hx (hb hby dCT_2) rfl ?_
 show own_G p e below _ (s₁.setTop (mkF m 3 #[vI ch, vI ch] [(.int ch)]))
 refine own_st (fun tq kq => XS.ifNo X0.here hx rfl (hb hby dCT_3) rfl ((if0 _ _).trans (flt h0_).1) kq) ?_
 refine s_iloadN X0 hx (hb hby dCT_6) rfl ?_
 refine s_bipush X0 hx (hb hby dCT_7) ?_
 show own_G p e below _ (s₁.setTop (mkF m 9 #[vI ch, vI ch] [(.int 31), (.int ch)]))
 by_cases hc9_1 : ((31 : Int32) < ch)
 ·
  refine own_st (fun tq kq => XS.icmpNo X0.here hx rfl (hb hby dCT_9) rfl (tlt hc9_1).2.2.2 kq) ?_
  refine s_iloadN X0 hx (hb hby dCT_12) rfl ?_
  refine s_bipush X0 hx (hb hby dCT_13) ?_
  show own_G p e below _ (s₁.setTop (mkF m 15 #[vI ch, vI ch] [(.int 127), (.int ch)]))
  by_cases hc15_2 : (ch = (127 : Int32))
  ·
   refine own_st (fun tq kq => XS.icmpNo X0.here hx rfl (hb hby dCT_15) rfl (teq hc15_2).2 kq) ?_
   refine s_iconst X0 hx (hb hby dCT_18) ?_
   refine own_st (fun tq kq => XS.goto X0.here hx rfl (pc0 := 19) (pc' := 23) rfl (hb hby dCT_19) (by decide) (by decide) kq) ?_
   show own_G p e below _ (s₁.setTop (mkF m 23 #[vI ch, vI ch] [(.int 1)]))
   obtain ⟨fs, hr, hrun, hended, hW, hsame⟩ := X0.leave (v := some (.int 1)) (fun h => by rw [Bd.returns] at h; cases h)
   refine ⟨_, _, retN X0 hx (t := .boolean) Bd.returns (by simp) (hb hby dCT_23) hr, hrun, hended, _, _, rfl, ?_, ⟨_, rfl⟩, hW, hsame.mono (by decide) (by decide)⟩
   change Q_own_ctlC Z ch h0 n0 _ s₁.heap _; rw [e0]; exact ⟨Or.inl ⟨rfl, Or.inr hc15_2⟩, N0, rfl⟩
  ·
   refine own_st (fun tq kq => XS.icmpYes X0.here hx rfl (pc0 := 15) (pc' := 22) rfl (hb hby dCT_15) rfl (feq hc15_2).2 (by decide) (by decide) kq) ?_
   refine s_iconst X0 hx (hb hby dCT_22) ?_
   show own_G p e below _ (s₁.setTop (mkF m 23 #[vI ch, vI ch] [(.int 0)]))
   obtain ⟨fs, hr, hrun, hended, hW, hsame⟩ := X0.leave (v := some (.int 0)) (fun h => by rw [Bd.returns] at h; cases h)
   refine ⟨_, _, retN X0 hx (t := .boolean) Bd.returns (by simp) (hb hby dCT_23) hr, hrun, hended, _, _, rfl, ?_, ⟨_, rfl⟩, hW, hsame.mono (by decide) (by decide)⟩
   change Q_own_ctlC Z ch h0 n0 _ s₁.heap _; rw [e0]; exact ⟨Or.inr ⟨rfl, fun q => q.elim (fun a => own_lt32.mpr a hc9_1) hc15_2⟩, N0, rfl⟩
 ·
  refine own_st (fun tq kq => XS.icmpYes X0.here hx rfl (pc0 := 9) (pc' := 18) rfl (hb hby dCT_9) rfl (flt hc9_1).2.2.2 (by decide) (by decide) kq) ?_
  refine s_iconst X0 hx (hb hby dCT_18) ?_
  refine own_st (fun tq kq => XS.goto X0.here hx rfl (pc0 := 19) (pc' := 23) rfl (hb hby dCT_19) (by decide) (by decide) kq) ?_
  show own_G p e below _ (s₁.setTop (mkF m 23 #[vI ch, vI ch] [(.int 1)]))
  obtain ⟨fs, hr, hrun, hended, hW, hsame⟩ := X0.leave (v := some (.int 1)) (fun h => by rw [Bd.returns] at h; cases h)
  refine ⟨_, _, retN X0 hx (t := .boolean) Bd.returns (by simp) (hb hby dCT_23) hr, hrun, hended, _, _, rfl, ?_, ⟨_, rfl⟩, hW, hsame.mono (by decide) (by decide)⟩
  change Q_own_ctlC Z ch h0 n0 _ s₁.heap _; rw [e0]; exact ⟨Or.inl ⟨rfl, Or.inl (own_lt32.mp hc9_1)⟩, N0, rfl⟩

theorem own_rem5 (x : Int32) : (x &&& (2147483647 : Int32)) % (5 : Int32) = 0 ∨ (x &&& (2147483647 : Int32)) % (5 : Int32) = 1 ∨ (x &&& (2147483647 : Int32)) % (5 : Int32) = 2 ∨ (x &&& (2147483647 : Int32)) % (5 : Int32) = 3 ∨ (x &&& (2147483647 : Int32)) % (5 : Int32) = 4 := by
  have h := c_and x (2147483647 : Int32) (by decide)
  have e0 : (0 : Int32).toInt = 0 := rfl
  have e1 : (1 : Int32).toInt = 1 := rfl
  have e2 : (2 : Int32).toInt = 2 := rfl
  have e3 : (3 : Int32).toInt = 3 := rfl
  have e4 : (4 : Int32).toInt = 4 := rfl
  have q := (c_irem (x &&& (2147483647 : Int32)) (5 : Int32) 5 rfl).1 h.1
  simp only [← Int32.toInt_inj, q, e0, e1, e2, e3, e4]
  omega

def Q_rm0 (Z : State) (p0 p1 p2 p3 p4 G1 : Int32) (fm : Value) (h0 : Heap) (n0 : Nat) (v : Option Value) (_vm : Vm) (h : Heap) (L : List Loc) : Prop := v = some (.int (1 : Int32)) ∧ Fr n0 L
theorem ef_rm0 (m : MethodId) (x0 : Int32) (x1 : Int32) (x2 : Int32) (x3 : Int32) (x4 : Int32) : entryFrame m #[(.int x0), (.int x1), (.int x2), (.int x3), (.int x4)] maxLocals = mkF m 0 #[.val (.int x0), .val (.int x1), .val (.int x2), .val (.int x3), .val (.int x4), .unset, .unset, .unset, .unset, .unset, .unset, .unset, .unset] [] := by first | (simp [entryFrame, mkF, argsToLocals, Value.category, maxLocals]; done) | rfl
theorem rm0 (l : Launch) (Z : State) (a0 : Array Value) (hw : hWt a0 Z) (hEL : EW Z a0 consts_1) (ws : List Jvm.Cond) (p0 p1 p2 p3 p4 G1 : Int32) (fm : Value) (h0 : Heap) (n0 : Nat) (Z0 : n0 ≤ h0.size) (X00 : Old Z n0 h0) (O2 : Sta Z Z.heap "java/lang/String" "COMPACT_STRINGS" "Z" (.int G1)) (P5 : ¬ (G1 = (0 : Int32))) (OA : oA Z) (OH : oH Z) (OL : oL Z) (O4 : o4 Z fm) (rfm : fm.isRef = true) :
    MetFree l x (head1 (Jvm.Cond.code x code maxLocals ret :: ws) room_1) (own_P Z consts_1 #[(.int p0), (.int p1), (.int p2), (.int p3), (.int p4)] h0 []) (fun _ _ _ _ _ => True) (own_E Z consts_1 (Q_rm0 Z p0 p1 p2 p3 p4 G1 fm h0 n0) room_1) := by
 refine MetFree.of_bodySF (plainFor_of_name own_pn4) hisR ?_
 intro p e s m args below meth c s₁ Bd hml0 hP hK
 obtain ⟨rfl, hZ, hh, hCH, hSafe⟩ := hP
 have hx := Bd.exec
 have hby := Bd.bytes
 have hml : c.maxLocals = 13 := hml0
 have hown : s.vm.findClass "com/example/ward/ward/BasicCredentialsHoldsControlPinLaw" = some m.cls := findClass_of_methodNamed Bd.named
 have X0 : Stand p l e room_1 (s.setVm s.vm) m #[(.int p0), (.int p1), (.int p2), (.int p3), (.int p4)] below meth c s₁ [] 0 0 := Stand.of_body Bd
 have e0 : s₁.heap = h0 := by rw [← hh, Bd.state]; rfl
 have N0 := Fr.nil n0
 have K0 : Keep h0 h0 [] := Keep.refl h0 []
 have S0 : s.Since s.vm 0 := own_since s
 have C0 : CHr Z consts_1 s.vm h0 s.vm h0 := CHr.refl hCH
 refine show own_G p e below (own_E Z consts_1 (Q_rm0 Z p0 p1 p2 p3 p4 G1 fm h0 n0) room_1 #[(.int p0), (.int p1), (.int p2), (.int p3), (.int p4)] s) _ from ?_
 have tail : ∀ (T : State) (nn u0 u1 u2 u3 : Int32), Stand p l e room_1 (s.setVm s.vm) m #[(.int p0), (.int p1), (.int p2), (.int p3), (.int p4)] below meth c T [] 0 0 → T.heap = h0 → (nn = 0 ∨ nn = 1 ∨ nn = 2 ∨ nn = 3 ∨ nn = 4) → (¬ u0 < 0 ∧ ¬ (65535 : Int32) < u0) → (¬ u1 < 0 ∧ ¬ (65535 : Int32) < u1) → (¬ u2 < 0 ∧ ¬ (65535 : Int32) < u2) → (¬ u3 < 0 ∧ ¬ (65535 : Int32) < u3) → (nar .char u0 = u0) → (nar .char u1 = u1) → (nar .char u2 = u2) → (nar .char u3 = u3) → own_G p e below (own_E Z consts_1 (Q_rm0 Z p0 p1 p2 p3 p4 G1 fm h0 n0) room_1 #[(.int p0), (.int p1), (.int p2), (.int p3), (.int p4)] s) (T.setTop (mkF m 25 #[vI p0, vI p1, vI p2, vI p3, vI p4, vI nn, vI u0, vI u1, vI u2, vI u3, .unset, .unset, .unset] [])) := by
  intro T nn u0 u1 u2 u3 X0 e0 hnn hu0 hu1 hu2 hu3 nu0 nu1 nu2 nu3
  rcases hnn with rfl | rfl | rfl | rfl | rfl
  ·
   show own_G p e below _ (T.setTop (mkF m 25 #[vI p0, vI p1, vI p2, vI p3, vI p4, vI 0, vI u0, vI u1, vI u2, vI u3, .unset, .unset, .unset] []))
   refine s_iload X0 hx (hb hby at_25) rfl ?_
   show own_G p e below _ (T.setTop (mkF m 27 #[vI p0, vI p1, vI p2, vI p3, vI p4, vI 0, vI u0, vI u1, vI u2, vI u3, .unset, .unset, .unset] [(.int 0)]))
   refine own_st (fun tq kq => XS.ifNo X0.here hx rfl (hb hby at_27) rfl ((if0 _ _).trans (teq (by decide : ((0 : Int32) = (0 : Int32)))).2) kq) ?_
   refine s_iconst X0 hx (hb hby at_30) ?_
   obtain ⟨T1, h1, k1, X1, e1, E1, A1, st1⟩ := newP X0 hx hZ (hw _ (List.mem_of_getElem? (i := 1) rfl)) e0 (g := (mkF m 31 #[vI p0, vI p1, vI p2, vI p3, vI p4, vI 0, vI u0, vI u1, vI u2, vI u3, .unset, .unset, .unset] [(.int 0)])) rfl (hb hby at_31) rfl (by decide) (cap := 0) (by decide) (by decide) (by decide) (by decide)
   obtain ⟨b1, g1⟩ : ∃ z, z = h0.size := ⟨_, rfl⟩
   rw [← g1] at A1 st1
   have lt1 : b1 < h1.size := A1.lt
   have V1 : Arv Z h1 b1 k1 .char (0 : Int32) [] (.int (0 : Int32)) := Arv.new A1 (by decide)
   have sz1 : h0.size ≤ h1.size := E1.1
   have K1 : Keep h0 h1 [] := K0.ext E1
   have c1 : CHr Z consts_1 s.vm h0 s.vm h1 := CHr.ext E1 C0.1
   have C1 := C0.trans c1
   refine own_st st1 ?_
   refine own_st (fun tq kq => XS.astore X1.here hx rfl (hb hby at_33) rfl rfl (l' := #[vI p0, vI p1, vI p2, vI p3, vI p4, vI 0, vI u0, vI u1, vI u2, vI u3, vR b1, .unset, .unset]) rfl kq) ?_
   refine own_st (fun tq kq => XS.goto X1.here hx rfl (pc0 := 35) (pc' := 135) rfl (hb hby at_35) (by decide) (by decide) kq) ?_
   obtain ⟨T2, h2, X2, e2, E2, A2, D2, -, st2⟩ := newO X1 hx hZ hown (wd2 hw) (wd3 hw) (wd4 hw) e1 (g := (mkF m 135 #[vI p0, vI p1, vI p2, vI p3, vI p4, vI 0, vI u0, vI u1, vI u2, vI u3, vR b1, .unset, .unset] [])) rfl (hb hby at_135) (by decide) (by decide)
   obtain ⟨b2, g2⟩ : ∃ z, z = h1.size := ⟨_, rfl⟩
   rw [← g2] at A2 D2 st2
   have lt2 : b2 < h2.size := A2.lt
   have Sn2 : Safe Z consts_1 s.vm h1 b2 := Safe.new (own_le (by omega))
   have sz2 : h1.size ≤ h2.size := E2.1
   have K2 : Keep h0 h2 [] := K1.ext E2
   have c2 : CHr Z consts_1 s.vm h1 s.vm h2 := CHr.ext E2 C1.1
   have C2 := C1.trans c2
   have Sf2 : Safe Z consts_1 s.vm h2 b2 := Safe.ext E2 C1.1 Sn2
   have F2_value : Fld Z h2 b2 "java/lang/String" "value" "[B" .null := D2 (Or.inr (wd17 hw)) (ty := (.array .byte)) (by decide)
   have F2_coder : Fld Z h2 b2 "java/lang/String" "coder" "B" (.int 0) := D2 (Or.inr (wd18 hw)) (ty := .byte) (by decide)
   refine own_st st2 ?_
   refine own_st (fun tq kq => XS.dup X2.here hx rfl (hb hby at_138) rfl rfl kq) ?_
   refine s_aload X2 hx (hb hby at_139) rfl rfl ?_
   have hp3 : ∀ c ∈ ([] : List Int32), ¬ c < 0 ∧ ¬ (255 : Int32) < c := fun c hc => by cases hc
   obtain ⟨_, _, ⟨T3, L3, k3, n3⟩, -, Y3, S3p, gr3, ⟨Lc3, hQ3, l3, y3, z3, c3⟩, st3⟩ := X2.specialBackS hx (y := mN1) rfl hown (mvT hZ (wd5 hw)) (mvT hZ (wd6 hw)) (mvT hZ (wd7 hw)) (by decide) (own_newStr (s := s) (vm0 := s.vm) (W := 1) hZ hw hEL C2.1 (cs := ([] : List Int32)) (n := 0) (n0 := n0) Sf2 (by omega) (X00.keep K2 all0) A2 F2_value F2_coder (V1.ext E2) O2 P5 rfl rfl (by decide) hp3 (by decide) (by decide)) (g := (mkF m 141 #[vI p0, vI p1, vI p2, vI p3, vI p4, vI 0, vI u0, vI u1, vI u2, vI u3, vR b1, .unset, .unset] [(.ref b1), (.ref b2), (.ref b2)])) rfl (by rw [hml]; rfl) (Steps.refl _) (a := b2) (argsL := [(.ref b1)]) (rest := [(.ref b2)]) (lenOf own_pd15 rfl) rfl (Nat.le_of_eq rfl) (hb hby at_141) (fun _ _ => ⟨rfl, e2, (by decide : 2 + 2 ≤ _), (by decide : 4 + 4 ≤ _)⟩)
   dsimp only [Pt.U, Pt.locs, Pt.cells, Pt.slots] at Y3 S3p gr3 l3 y3 z3 st3 hQ3 c3
   subst l3 y3 z3
   obtain ⟨X3, S3, Z3, o3⟩ := rebS S0 (by rw [e2]; exact (own_le (by omega))) Y3 S3p gr3 hZ hown
   obtain ⟨rfl, Nq3, Kq3, Str3⟩ := hQ3
   have KK3 : Keep h2 T3.heap [b2] := Kq3
   have sz3 : h2.size ≤ T3.heap.size := KK3.1
   have K3 : Keep h0 T3.heap [] := K2.trans KK3 (allS (Or.inr (own_le (by omega))) all0)
   have C3 := C2.trans c3
   have Sf3_4 := c3.safe (own_lt (by omega)) Sf2
   have N3 := Fr.app N0 Nq3
   have Su3 : own_StrU Z T3.heap.size T3.heap b2 ([] : List Int32) := Str3.toU
   refine own_st (fun tq kq => st3.trans kq) ?_
   refine own_st (fun tq kq => XS.astore X3.here hx rfl (hb hby at_144) rfl rfl (l' := #[vI p0, vI p1, vI p2, vI p3, vI p4, vI 0, vI u0, vI u1, vI u2, vI u3, vR b1, vR b2, .unset]) rfl kq) ?_
   refine s_iload X3 hx (hb hby at_146) rfl ?_
   show own_G p e below _ (T3.setTop (mkF m 148 #[vI p0, vI p1, vI p2, vI p3, vI p4, vI 0, vI u0, vI u1, vI u2, vI u3, vR b1, vR b2, .unset] [(.int 0)]))
   refine own_st (fun tq kq => XS.ifYes X3.here hx rfl (pc0 := 148) (pc' := 159) rfl (hb hby at_148) rfl ((if0 _ _).trans (flt (by decide : ¬ ((0 : Int32) < (0 : Int32)))).2.2.2) (by decide) (by decide) kq) ?_
   refine s_iload X3 hx (hb hby at_159) rfl ?_
   refine s_iconst X3 hx (hb hby at_161) ?_
   show own_G p e below _ (T3.setTop (mkF m 162 #[vI p0, vI p1, vI p2, vI p3, vI p4, vI 0, vI u0, vI u1, vI u2, vI u3, vR b1, vR b2, .unset] [(.int 1), (.int 0)]))
   refine own_st (fun tq kq => XS.icmpYes X3.here hx rfl (pc0 := 162) (pc' := 173) rfl (hb hby at_162) rfl (flt (by decide : ¬ ((1 : Int32) < (0 : Int32)))).2.2.2 (by decide) (by decide) kq) ?_
   refine s_iload X3 hx (hb hby at_173) rfl ?_
   refine s_iconst X3 hx (hb hby at_175) ?_
   show own_G p e below _ (T3.setTop (mkF m 176 #[vI p0, vI p1, vI p2, vI p3, vI p4, vI 0, vI u0, vI u1, vI u2, vI u3, vR b1, vR b2, .unset] [(.int 2), (.int 0)]))
   refine own_st (fun tq kq => XS.icmpYes X3.here hx rfl (pc0 := 176) (pc' := 187) rfl (hb hby at_176) rfl (flt (by decide : ¬ ((2 : Int32) < (0 : Int32)))).2.2.2 (by decide) (by decide) kq) ?_
   refine s_iload X3 hx (hb hby at_187) rfl ?_
   refine s_iconst X3 hx (hb hby at_189) ?_
   show own_G p e below _ (T3.setTop (mkF m 190 #[vI p0, vI p1, vI p2, vI p3, vI p4, vI 0, vI u0, vI u1, vI u2, vI u3, vR b1, vR b2, .unset] [(.int 3), (.int 0)]))
   refine own_st (fun tq kq => XS.icmpYes X3.here hx rfl (pc0 := 190) (pc' := 205) rfl (hb hby at_190) rfl (flt (by decide : ¬ ((3 : Int32) < (0 : Int32)))).2.2.2 (by decide) (by decide) kq) ?_
   refine s_iconst X3 hx (hb hby at_205) ?_
   refine own_st (fun tq kq => XS.istore X3.here hx rfl (hb hby at_206) rfl (l' := #[vI p0, vI p1, vI p2, vI p3, vI p4, vI 0, vI u0, vI u1, vI u2, vI u3, vR b1, vR b2, vI 0]) rfl kq) ?_
   refine s_aload X3 hx (hb hby at_208) rfl rfl ?_
   show own_G p e below _ (T3.setTop (mkF m 210 #[vI p0, vI p1, vI p2, vI p3, vI p4, vI 0, vI u0, vI u1, vI u2, vI u3, vR b1, vR b2, vI 0] [(.ref b2)]))
   obtain ⟨_, _, ⟨T5, L5, k5, n5⟩, -, X5, ⟨Lc5, hQ5, l5, y5, z5⟩, st5⟩ := Jvm.LawKit.callS X3 hx (y := mN17) o3 (mvT Z3 (wd23 hw)) (mvT Z3 (wd24 hw)) (mvT Z3 (wd25 hw)) (mvT Z3 (wd26 hw)) (by decide) (own_backN (W := 0) (own_hc0 l Z a0 hw [] (b2) (T3.heap.size) (fm) (G1) T3.heap n0 (by omega) (X00.keep K3 all0) Su3 O2 P5 OA OH OL O4 rfm) Z3 (wd26 hw) (wd25 hw) (by decide) (by decide)) (g := (mkF m 210 #[vI p0, vI p1, vI p2, vI p3, vI p4, vI 0, vI u0, vI u1, vI u2, vI u3, vR b1, vR b2, vI 0] [(.ref b2)])) rfl (by rw [hml]; rfl) (argsL := [(.ref b2)]) (rest := []) (lenOf own_pd16 rfl) rfl (Nat.le_of_eq rfl) (hb hby at_210) (fun _ _ => ⟨rfl, rfl, (by decide : 4 + 0 ≤ _), (by decide : 8 + 0 ≤ _)⟩)
   dsimp only [Pt.U, Pt.locs, Pt.cells, Pt.slots] at X5 l5 y5 z5 st5 hQ5
   subst l5 y5 z5
   obtain ⟨hr5, Nq5, sm5⟩ := hQ5
   obtain ⟨rfl, ee5⟩ := hr5.resolve_left (fun q => by obtain ⟨y, hy, hq⟩ := q.2; have qq : ∀ c ∈ ([] : List Int32), ¬ own_ctl c := (fun c hc => by cases hc); exact qq y hy hq)
   have N5 := Fr.app N3 Nq5
   refine own_st st5 ?_
   refine s_iload X5 hx (hb hby at_213) rfl ?_
   show own_G p e below _ (T5.setTop (mkF m 215 #[vI p0, vI p1, vI p2, vI p3, vI p4, vI 0, vI u0, vI u1, vI u2, vI u3, vR b1, vR b2, vI 0] [(.int 0), (.int 0)]))
   refine own_st (fun tq kq => XS.icmpNo X5.here hx rfl (hb hby at_215) rfl (teq (by decide : ((0 : Int32) = (0 : Int32)))).2 kq) ?_
   refine s_iconst X5 hx (hb hby at_218) ?_
   refine own_st (fun tq kq => XS.goto X5.here hx rfl (pc0 := 219) (pc' := 223) rfl (hb hby at_219) (by decide) (by decide) kq) ?_
   show own_G p e below _ (T5.setTop (mkF m 223 #[vI p0, vI p1, vI p2, vI p3, vI p4, vI 0, vI u0, vI u1, vI u2, vI u3, vR b1, vR b2, vI 0] [(.int 1)]))
   obtain ⟨fs, hr, hrun, hended, hRW⟩ := X5.leaveW S3 (by rw [sm5]; exact (own_le (by omega))) (v := some (.int 1)) (fun h => by rw [Bd.returns] at h; cases h)
   have cE := C3.trans (CHv.at (s := s) (vm0 := T3.vm) X5 Z3 hEL C3.1)
   refine ⟨_, _, retN X5 hx (t := .boolean) Bd.returns (by simp) (hb hby at_223) hr, hrun, hended, _, _, rfl, ?_, ?_, own_RW hRW (by decide) (by decide)⟩
   · change Q_rm0 Z p0 p1 p2 p3 p4 G1 fm h0 n0 _ T5.vm T5.heap _; rw [sm5]; exact ⟨rfl, N5⟩
   · rw [hh]; change CHr Z consts_1 s.vm h0 T5.vm T5.heap; rw [sm5]; exact cE
  ·
   show own_G p e below _ (T.setTop (mkF m 25 #[vI p0, vI p1, vI p2, vI p3, vI p4, vI 1, vI u0, vI u1, vI u2, vI u3, .unset, .unset, .unset] []))
   refine s_iload X0 hx (hb hby at_25) rfl ?_
   show own_G p e below _ (T.setTop (mkF m 27 #[vI p0, vI p1, vI p2, vI p3, vI p4, vI 1, vI u0, vI u1, vI u2, vI u3, .unset, .unset, .unset] [(.int 1)]))
   refine own_st (fun tq kq => XS.ifYes X0.here hx rfl (pc0 := 27) (pc' := 38) rfl (hb hby at_27) rfl ((if0 _ _).trans (feq (by decide : ¬ ((1 : Int32) = (0 : Int32)))).2) (by decide) (by decide) kq) ?_
   refine s_iload X0 hx (hb hby at_38) rfl ?_
   refine s_iconst X0 hx (hb hby at_40) ?_
   show own_G p e below _ (T.setTop (mkF m 41 #[vI p0, vI p1, vI p2, vI p3, vI p4, vI 1, vI u0, vI u1, vI u2, vI u3, .unset, .unset, .unset] [(.int 1), (.int 1)]))
   refine own_st (fun tq kq => XS.icmpNo X0.here hx rfl (hb hby at_41) rfl (teq (by decide : ((1 : Int32) = (1 : Int32)))).2 kq) ?_
   refine s_iconst X0 hx (hb hby at_44) ?_
   obtain ⟨T6, h6, k6, X6, e6, E6, A6, st6⟩ := newP X0 hx hZ (hw _ (List.mem_of_getElem? (i := 1) rfl)) e0 (g := (mkF m 45 #[vI p0, vI p1, vI p2, vI p3, vI p4, vI 1, vI u0, vI u1, vI u2, vI u3, .unset, .unset, .unset] [(.int 1)])) rfl (hb hby at_45) rfl (by decide) (cap := 1) (by decide) (by decide) (by decide) (by decide)
   obtain ⟨b6, g6⟩ : ∃ z, z = h0.size := ⟨_, rfl⟩
   rw [← g6] at A6 st6
   have lt6 : b6 < h6.size := A6.lt
   have V6 : Arv Z h6 b6 k6 .char (1 : Int32) [(.int (0 : Int32))] (.int (0 : Int32)) := (Arv.new A6 (by decide)).pad (pad_rep [] (.int (0 : Int32)) 1)
   have sz6 : h0.size ≤ h6.size := E6.1
   have K6 : Keep h0 h6 [] := K0.ext E6
   have c6 : CHr Z consts_1 s.vm h0 s.vm h6 := CHr.ext E6 C0.1
   have C6 := C0.trans c6
   refine own_st st6 ?_
   refine own_st (fun tq kq => XS.dup X6.here hx rfl (hb hby at_47) rfl rfl kq) ?_
   refine s_iconst X6 hx (hb hby at_48) ?_
   refine s_iload X6 hx (hb hby at_49) rfl ?_
   obtain ⟨cl7, Ar7, q7, S_7, N_7, H_7, G_7⟩ := id V6
   have in7 : ¬ ((0 : Int32) < 0 ∨ cl7.slots.size ≤ ((0 : Int32)).toNatClampNeg) := inb_of S_7 ⟨by decide, by decide⟩
   obtain ⟨T7, h7, X7, e7, W7, st7⟩ := stC X6 hx hZ e6 Ar7 (j := (0 : Int32)) in7 (g := (mkF m 51 #[vI p0, vI p1, vI p2, vI p3, vI p4, vI 1, vI u0, vI u1, vI u2, vI u3, .unset, .unset, .unset] [(.int u0), (.int 0), (.ref b6), (.ref b6)])) rfl rfl (hb hby at_51)
   have V7 := Arv.set Ar7 q7 S_7 N_7 H_7 G_7 (fits_nar_char _) W7 0 rfl (Nat.le_of_ble_eq_true rfl)
   have sz7 : h6.size ≤ h7.size := (Keep.of_wr W7).1
   have K7 : Keep h0 h7 [] := K6.wr W7 (Or.inr (own_le (by omega)))
   have c7 : CHr Z consts_1 s.vm h6 s.vm h7 := CHr.wr W7 (Safe.arr hZ.alike Ar7 (by decide)) C6.1
   have C7 := C6.trans c7
   have N7 := Fr.snoc X7 N0 (own_le (by omega))
   refine own_st st7 ?_
   refine own_st (fun tq kq => XS.astore X7.here hx rfl (hb hby at_52) rfl rfl (l' := #[vI p0, vI p1, vI p2, vI p3, vI p4, vI 1, vI u0, vI u1, vI u2, vI u3, vR b6, .unset, .unset]) rfl kq) ?_
   refine own_st (fun tq kq => XS.goto X7.here hx rfl (pc0 := 54) (pc' := 135) rfl (hb hby at_54) (by decide) (by decide) kq) ?_
   obtain ⟨T8, h8, X8, e8, E8, A8, D8, -, st8⟩ := newO X7 hx hZ hown (wd2 hw) (wd3 hw) (wd4 hw) e7 (g := (mkF m 135 #[vI p0, vI p1, vI p2, vI p3, vI p4, vI 1, vI u0, vI u1, vI u2, vI u3, vR b6, .unset, .unset] [])) rfl (hb hby at_135) (by decide) (by decide)
   obtain ⟨b8, g8⟩ : ∃ z, z = h7.size := ⟨_, rfl⟩
   rw [← g8] at A8 D8 st8
   have lt8 : b8 < h8.size := A8.lt
   have Sn8 : Safe Z consts_1 s.vm h7 b8 := Safe.new (own_le (by omega))
   have sz8 : h7.size ≤ h8.size := E8.1
   have K8 : Keep h0 h8 [] := K7.ext E8
   have c8 : CHr Z consts_1 s.vm h7 s.vm h8 := CHr.ext E8 C7.1
   have C8 := C7.trans c8
   have Sf8 : Safe Z consts_1 s.vm h8 b8 := Safe.ext E8 C7.1 Sn8
   have F8_value : Fld Z h8 b8 "java/lang/String" "value" "[B" .null := D8 (Or.inr (wd17 hw)) (ty := (.array .byte)) (by decide)
   have F8_coder : Fld Z h8 b8 "java/lang/String" "coder" "B" (.int 0) := D8 (Or.inr (wd18 hw)) (ty := .byte) (by decide)
   refine own_st st8 ?_
   refine own_st (fun tq kq => XS.dup X8.here hx rfl (hb hby at_138) rfl rfl kq) ?_
   refine s_aload X8 hx (hb hby at_139) rfl rfl ?_
   have Vx9 : Arv Z h8 b6 k6 .char (1 : Int32) [.int (nar .char u0)] (.int (0 : Int32)) := (V7.ext E8)
   rw [nu0] at Vx9
   have hp9 : ∀ c ∈ ([u0] : List Int32), ¬ c < 0 ∧ ¬ (65535 : Int32) < c := by
     intro c hc
     simp only [List.mem_cons, List.not_mem_nil, or_false] at hc
     rcases hc with rfl
     · exact hu0
   obtain ⟨_, _, ⟨T9, L9, k9, n9⟩, -, Y9, S9p, gr9, ⟨Lc9, hQ9, l9, y9, z9, c9⟩, st9⟩ := X8.specialBackS hx (y := mN1) rfl hown (mvT hZ (wd5 hw)) (mvT hZ (wd6 hw)) (mvT hZ (wd7 hw)) (by decide) (own_newU1 (s := s) (vm0 := s.vm) (W := 1) hZ hw hEL C8.1 (n0 := n0) Sf8 (own_le (by omega)) (X00.keep K8 all0) A8 F8_value F8_coder Vx9 O2 P5 OA OH OL hp9 (by decide) (by decide)) (g := (mkF m 141 #[vI p0, vI p1, vI p2, vI p3, vI p4, vI 1, vI u0, vI u1, vI u2, vI u3, vR b6, .unset, .unset] [(.ref b6), (.ref b8), (.ref b8)])) rfl (by rw [hml]; rfl) (Steps.refl _) (a := b8) (argsL := [(.ref b6)]) (rest := [(.ref b8)]) (lenOf own_pd15 rfl) rfl (Nat.le_of_eq rfl) (hb hby at_141) (fun _ _ => ⟨rfl, e8, (by decide : 2 + 2 ≤ _), (by decide : 5 + 7 ≤ _)⟩)
   dsimp only [Pt.U, Pt.locs, Pt.cells, Pt.slots] at Y9 S9p gr9 l9 y9 z9 st9 hQ9 c9
   subst l9 y9 z9
   obtain ⟨X9, S9, Z9, o9⟩ := rebS S0 (by rw [e8]; exact (own_le (by omega))) Y9 S9p gr9 hZ hown
   obtain ⟨rfl, Nq9, Kq9, Su9⟩ := hQ9
   have KK9 : Keep h8 T9.heap [b8] := Kq9
   have sz9 : h8.size ≤ T9.heap.size := KK9.1
   have K9 : Keep h0 T9.heap [] := K8.trans KK9 (allS (Or.inr (own_le (by omega))) all0)
   have C9 := C8.trans c9
   have Sf9_10 := c9.safe (own_lt (by omega)) Sf8
   have N9 := Fr.app N7 Nq9
   refine own_st (fun tq kq => st9.trans kq) ?_
   refine own_st (fun tq kq => XS.astore X9.here hx rfl (hb hby at_144) rfl rfl (l' := #[vI p0, vI p1, vI p2, vI p3, vI p4, vI 1, vI u0, vI u1, vI u2, vI u3, vR b6, vR b8, .unset]) rfl kq) ?_
   refine s_iload X9 hx (hb hby at_146) rfl ?_
   show own_G p e below _ (T9.setTop (mkF m 148 #[vI p0, vI p1, vI p2, vI p3, vI p4, vI 1, vI u0, vI u1, vI u2, vI u3, vR b6, vR b8, .unset] [(.int 1)]))
   refine own_st (fun tq kq => XS.ifNo X9.here hx rfl (hb hby at_148) rfl ((if0 _ _).trans (tlt (by decide : ((0 : Int32) < (1 : Int32)))).2.2.2) kq) ?_
   refine s_iload X9 hx (hb hby at_151) rfl ?_
   obtain ⟨_, _, ⟨T11, L11, k11, n11⟩, -, X11, ⟨Lc11, hQ11, l11, y11, z11⟩, st11⟩ := Jvm.LawKit.callS X9 hx (y := mN19) o9 (mvT Z9 (wd48 hw)) (mvT Z9 (wd49 hw)) (mvT Z9 (wd50 hw)) (mvT Z9 (wd51 hw)) (by decide) (own_backN (W := 0) (own_ctlC l Z a0 hw [] (u0) T9.heap n0 (by omega) (X00.keep K9 all0) hu0.1) Z9 (wd51 hw) (wd50 hw) (by decide) (by decide)) (g := (mkF m 153 #[vI p0, vI p1, vI p2, vI p3, vI p4, vI 1, vI u0, vI u1, vI u2, vI u3, vR b6, vR b8, .unset] [(.int u0)])) rfl (by rw [hml]; rfl) (argsL := [(.int u0)]) (rest := []) (lenOf own_pd17 rfl) rfl (Nat.le_of_eq rfl) (hb hby at_153) (fun _ _ => ⟨rfl, rfl, (by decide : 4 + 0 ≤ _), (by decide : 12 + 0 ≤ _)⟩)
   dsimp only [Pt.U, Pt.locs, Pt.cells, Pt.slots] at X11 l11 y11 z11 st11 hQ11
   subst l11 y11 z11
   obtain ⟨hr11, Nq11, sm11⟩ := hQ11
   have N11 := Fr.app N9 Nq11
   rcases hr11 with ⟨rfl, ct11⟩ | ⟨rfl, ct11⟩
   ·
    refine own_st st11 ?_
    refine own_st (fun tq kq => XS.ifYes X11.here hx rfl (pc0 := 156) (pc' := 201) rfl (hb hby at_156) rfl ((if0 _ _).trans (feq (by decide : ¬ ((1 : Int32) = (0 : Int32)))).2) (by decide) (by decide) kq) ?_
    refine s_iconst X11 hx (hb hby at_201) ?_
    refine own_st (fun tq kq => XS.goto X11.here hx rfl (pc0 := 202) (pc' := 206) rfl (hb hby at_202) (by decide) (by decide) kq) ?_
    refine own_st (fun tq kq => XS.istore X11.here hx rfl (hb hby at_206) rfl (l' := #[vI p0, vI p1, vI p2, vI p3, vI p4, vI 1, vI u0, vI u1, vI u2, vI u3, vR b6, vR b8, vI 1]) rfl kq) ?_
    show own_G p e below _ (T11.setTop (mkF m 208 #[vI p0, vI p1, vI p2, vI p3, vI p4, vI 1, vI u0, vI u1, vI u2, vI u3, vR b6, vR b8, vI 1] []))
    refine s_aload X11 hx (hb hby at_208) rfl rfl ?_
    obtain ⟨_, _, ⟨T12, L12, k12, n12⟩, -, X12, ⟨Lc12, hQ12, l12, y12, z12⟩, st12⟩ := Jvm.LawKit.callS X11 hx (y := mN17) o9 (mvT Z9 (wd23 hw)) (mvT Z9 (wd24 hw)) (mvT Z9 (wd25 hw)) (mvT Z9 (wd26 hw)) (by decide) (own_backN (W := 0) (own_hc1 l Z a0 hw [] (b8) (T9.heap.size) (fm) (G1) (u0) T9.heap n0 (by omega) (X00.keep K9 all0) Su9 O2 P5 OA OH OL O4 rfm) Z9 (wd26 hw) (wd25 hw) (by decide) (by decide)) (g := (mkF m 210 #[vI p0, vI p1, vI p2, vI p3, vI p4, vI 1, vI u0, vI u1, vI u2, vI u3, vR b6, vR b8, vI 1] [(.ref b8)])) rfl (by rw [hml]; rfl) (argsL := [(.ref b8)]) (rest := []) (lenOf own_pd16 rfl) rfl (Nat.le_of_eq rfl) (hb hby at_210) (fun _ _ => ⟨rfl, sm11, (by decide : 4 + 0 ≤ _), (by decide : 12 + 0 ≤ _)⟩)
    dsimp only [Pt.U, Pt.locs, Pt.cells, Pt.slots] at X12 l12 y12 z12 st12 hQ12
    subst l12 y12 z12
    obtain ⟨hr12, Nq12, sm12⟩ := hQ12
    obtain ⟨rfl, ee12⟩ := hr12.resolve_right (fun q => q.2 u0 (by simp) ct11)
    have N12 := Fr.app N11 Nq12
    refine own_st st12 ?_
    refine s_iload X12 hx (hb hby at_213) rfl ?_
    show own_G p e below _ (T12.setTop (mkF m 215 #[vI p0, vI p1, vI p2, vI p3, vI p4, vI 1, vI u0, vI u1, vI u2, vI u3, vR b6, vR b8, vI 1] [(.int 1), (.int 1)]))
    refine own_st (fun tq kq => XS.icmpNo X12.here hx rfl (hb hby at_215) rfl (teq (by decide : ((1 : Int32) = (1 : Int32)))).2 kq) ?_
    refine s_iconst X12 hx (hb hby at_218) ?_
    refine own_st (fun tq kq => XS.goto X12.here hx rfl (pc0 := 219) (pc' := 223) rfl (hb hby at_219) (by decide) (by decide) kq) ?_
    show own_G p e below _ (T12.setTop (mkF m 223 #[vI p0, vI p1, vI p2, vI p3, vI p4, vI 1, vI u0, vI u1, vI u2, vI u3, vR b6, vR b8, vI 1] [(.int 1)]))
    obtain ⟨fs, hr, hrun, hended, hRW⟩ := X12.leaveW S9 (by rw [sm12]; exact (own_le (by omega))) (v := some (.int 1)) (fun h => by rw [Bd.returns] at h; cases h)
    have cE := C9.trans (CHv.at (s := s) (vm0 := T9.vm) X12 Z9 hEL C9.1)
    refine ⟨_, _, retN X12 hx (t := .boolean) Bd.returns (by simp) (hb hby at_223) hr, hrun, hended, _, _, rfl, ?_, ?_, own_RW hRW (by decide) (by decide)⟩
    · change Q_rm0 Z p0 p1 p2 p3 p4 G1 fm h0 n0 _ T12.vm T12.heap _; rw [sm12]; exact ⟨rfl, N12⟩
    · rw [hh]; change CHr Z consts_1 s.vm h0 T12.vm T12.heap; rw [sm12]; exact cE
   ·
    refine own_st st11 ?_
    refine own_st (fun tq kq => XS.ifNo X11.here hx rfl (hb hby at_156) rfl ((if0 _ _).trans (teq (by decide : ((0 : Int32) = (0 : Int32)))).2) kq) ?_
    refine s_iload X11 hx (hb hby at_159) rfl ?_
    refine s_iconst X11 hx (hb hby at_161) ?_
    show own_G p e below _ (T11.setTop (mkF m 162 #[vI p0, vI p1, vI p2, vI p3, vI p4, vI 1, vI u0, vI u1, vI u2, vI u3, vR b6, vR b8, .unset] [(.int 1), (.int 1)]))
    refine own_st (fun tq kq => XS.icmpYes X11.here hx rfl (pc0 := 162) (pc' := 173) rfl (hb hby at_162) rfl (flt (by decide : ¬ ((1 : Int32) < (1 : Int32)))).2.2.2 (by decide) (by decide) kq) ?_
    refine s_iload X11 hx (hb hby at_173) rfl ?_
    refine s_iconst X11 hx (hb hby at_175) ?_
    show own_G p e below _ (T11.setTop (mkF m 176 #[vI p0, vI p1, vI p2, vI p3, vI p4, vI 1, vI u0, vI u1, vI u2, vI u3, vR b6, vR b8, .unset] [(.int 2), (.int 1)]))
    refine own_st (fun tq kq => XS.icmpYes X11.here hx rfl (pc0 := 176) (pc' := 187) rfl (hb hby at_176) rfl (flt (by decide : ¬ ((2 : Int32) < (1 : Int32)))).2.2.2 (by decide) (by decide) kq) ?_
    refine s_iload X11 hx (hb hby at_187) rfl ?_
    refine s_iconst X11 hx (hb hby at_189) ?_
    show own_G p e below _ (T11.setTop (mkF m 190 #[vI p0, vI p1, vI p2, vI p3, vI p4, vI 1, vI u0, vI u1, vI u2, vI u3, vR b6, vR b8, .unset] [(.int 3), (.int 1)]))
    refine own_st (fun tq kq => XS.icmpYes X11.here hx rfl (pc0 := 190) (pc' := 205) rfl (hb hby at_190) rfl (flt (by decide : ¬ ((3 : Int32) < (1 : Int32)))).2.2.2 (by decide) (by decide) kq) ?_
    refine s_iconst X11 hx (hb hby at_205) ?_
    refine own_st (fun tq kq => XS.istore X11.here hx rfl (hb hby at_206) rfl (l' := #[vI p0, vI p1, vI p2, vI p3, vI p4, vI 1, vI u0, vI u1, vI u2, vI u3, vR b6, vR b8, vI 0]) rfl kq) ?_
    refine s_aload X11 hx (hb hby at_208) rfl rfl ?_
    show own_G p e below _ (T11.setTop (mkF m 210 #[vI p0, vI p1, vI p2, vI p3, vI p4, vI 1, vI u0, vI u1, vI u2, vI u3, vR b6, vR b8, vI 0] [(.ref b8)]))
    obtain ⟨_, _, ⟨T13, L13, k13, n13⟩, -, X13, ⟨Lc13, hQ13, l13, y13, z13⟩, st13⟩ := Jvm.LawKit.callS X11 hx (y := mN17) o9 (mvT Z9 (wd23 hw)) (mvT Z9 (wd24 hw)) (mvT Z9 (wd25 hw)) (mvT Z9 (wd26 hw)) (by decide) (own_backN (W := 0) (own_hc1 l Z a0 hw [] (b8) (T9.heap.size) (fm) (G1) (u0) T9.heap n0 (by omega) (X00.keep K9 all0) Su9 O2 P5 OA OH OL O4 rfm) Z9 (wd26 hw) (wd25 hw) (by decide) (by decide)) (g := (mkF m 210 #[vI p0, vI p1, vI p2, vI p3, vI p4, vI 1, vI u0, vI u1, vI u2, vI u3, vR b6, vR b8, vI 0] [(.ref b8)])) rfl (by rw [hml]; rfl) (argsL := [(.ref b8)]) (rest := []) (lenOf own_pd16 rfl) rfl (Nat.le_of_eq rfl) (hb hby at_210) (fun _ _ => ⟨rfl, sm11, (by decide : 4 + 0 ≤ _), (by decide : 12 + 0 ≤ _)⟩)
    dsimp only [Pt.U, Pt.locs, Pt.cells, Pt.slots] at X13 l13 y13 z13 st13 hQ13
    subst l13 y13 z13
    obtain ⟨hr13, Nq13, sm13⟩ := hQ13
    obtain ⟨rfl, ee13⟩ := hr13.resolve_left (fun q => by obtain ⟨y, hy, hq⟩ := q.2; have qq : ∀ c ∈ ([u0] : List Int32), ¬ own_ctl c := own_all1 ct11; exact qq y hy hq)
    have N13 := Fr.app N11 Nq13
    refine own_st st13 ?_
    refine s_iload X13 hx (hb hby at_213) rfl ?_
    show own_G p e below _ (T13.setTop (mkF m 215 #[vI p0, vI p1, vI p2, vI p3, vI p4, vI 1, vI u0, vI u1, vI u2, vI u3, vR b6, vR b8, vI 0] [(.int 0), (.int 0)]))
    refine own_st (fun tq kq => XS.icmpNo X13.here hx rfl (hb hby at_215) rfl (teq (by decide : ((0 : Int32) = (0 : Int32)))).2 kq) ?_
    refine s_iconst X13 hx (hb hby at_218) ?_
    refine own_st (fun tq kq => XS.goto X13.here hx rfl (pc0 := 219) (pc' := 223) rfl (hb hby at_219) (by decide) (by decide) kq) ?_
    show own_G p e below _ (T13.setTop (mkF m 223 #[vI p0, vI p1, vI p2, vI p3, vI p4, vI 1, vI u0, vI u1, vI u2, vI u3, vR b6, vR b8, vI 0] [(.int 1)]))
    obtain ⟨fs, hr, hrun, hended, hRW⟩ := X13.leaveW S9 (by rw [sm13]; exact (own_le (by omega))) (v := some (.int 1)) (fun h => by rw [Bd.returns] at h; cases h)
    have cE := C9.trans (CHv.at (s := s) (vm0 := T9.vm) X13 Z9 hEL C9.1)
    refine ⟨_, _, retN X13 hx (t := .boolean) Bd.returns (by simp) (hb hby at_223) hr, hrun, hended, _, _, rfl, ?_, ?_, own_RW hRW (by decide) (by decide)⟩
    · change Q_rm0 Z p0 p1 p2 p3 p4 G1 fm h0 n0 _ T13.vm T13.heap _; rw [sm13]; exact ⟨rfl, N13⟩
    · rw [hh]; change CHr Z consts_1 s.vm h0 T13.vm T13.heap; rw [sm13]; exact cE
  ·
   show own_G p e below _ (T.setTop (mkF m 25 #[vI p0, vI p1, vI p2, vI p3, vI p4, vI 2, vI u0, vI u1, vI u2, vI u3, .unset, .unset, .unset] []))
   refine s_iload X0 hx (hb hby at_25) rfl ?_
   show own_G p e below _ (T.setTop (mkF m 27 #[vI p0, vI p1, vI p2, vI p3, vI p4, vI 2, vI u0, vI u1, vI u2, vI u3, .unset, .unset, .unset] [(.int 2)]))
   refine own_st (fun tq kq => XS.ifYes X0.here hx rfl (pc0 := 27) (pc' := 38) rfl (hb hby at_27) rfl ((if0 _ _).trans (feq (by decide : ¬ ((2 : Int32) = (0 : Int32)))).2) (by decide) (by decide) kq) ?_
   refine s_iload X0 hx (hb hby at_38) rfl ?_
   refine s_iconst X0 hx (hb hby at_40) ?_
   show own_G p e below _ (T.setTop (mkF m 41 #[vI p0, vI p1, vI p2, vI p3, vI p4, vI 2, vI u0, vI u1, vI u2, vI u3, .unset, .unset, .unset] [(.int 1), (.int 2)]))
   refine own_st (fun tq kq => XS.icmpYes X0.here hx rfl (pc0 := 41) (pc' := 57) rfl (hb hby at_41) rfl (feq (by decide : ¬ ((2 : Int32) = (1 : Int32)))).2 (by decide) (by decide) kq) ?_
   refine s_iload X0 hx (hb hby at_57) rfl ?_
   refine s_iconst X0 hx (hb hby at_59) ?_
   show own_G p e below _ (T.setTop (mkF m 60 #[vI p0, vI p1, vI p2, vI p3, vI p4, vI 2, vI u0, vI u1, vI u2, vI u3, .unset, .unset, .unset] [(.int 2), (.int 2)]))
   refine own_st (fun tq kq => XS.icmpNo X0.here hx rfl (hb hby at_60) rfl (teq (by decide : ((2 : Int32) = (2 : Int32)))).2 kq) ?_
   refine s_iconst X0 hx (hb hby at_63) ?_
   obtain ⟨T14, h14, k14, X14, e14, E14, A14, st14⟩ := newP X0 hx hZ (hw _ (List.mem_of_getElem? (i := 1) rfl)) e0 (g := (mkF m 64 #[vI p0, vI p1, vI p2, vI p3, vI p4, vI 2, vI u0, vI u1, vI u2, vI u3, .unset, .unset, .unset] [(.int 2)])) rfl (hb hby at_64) rfl (by decide) (cap := 2) (by decide) (by decide) (by decide) (by decide)
   obtain ⟨b14, g14⟩ : ∃ z, z = h0.size := ⟨_, rfl⟩
   rw [← g14] at A14 st14
   have lt14 : b14 < h14.size := A14.lt
   have V14 : Arv Z h14 b14 k14 .char (2 : Int32) [(.int (0 : Int32)), (.int (0 : Int32))] (.int (0 : Int32)) := (Arv.new A14 (by decide)).pad (pad_rep [] (.int (0 : Int32)) 2)
   have sz14 : h0.size ≤ h14.size := E14.1
   have K14 : Keep h0 h14 [] := K0.ext E14
   have c14 : CHr Z consts_1 s.vm h0 s.vm h14 := CHr.ext E14 C0.1
   have C14 := C0.trans c14
   refine own_st st14 ?_
   refine own_st (fun tq kq => XS.dup X14.here hx rfl (hb hby at_66) rfl rfl kq) ?_
   refine s_iconst X14 hx (hb hby at_67) ?_
   refine s_iload X14 hx (hb hby at_68) rfl ?_
   obtain ⟨cl15, Ar15, q15, S_15, N_15, H_15, G_15⟩ := id V14
   have in15 : ¬ ((0 : Int32) < 0 ∨ cl15.slots.size ≤ ((0 : Int32)).toNatClampNeg) := inb_of S_15 ⟨by decide, by decide⟩
   obtain ⟨T15, h15, X15, e15, W15, st15⟩ := stC X14 hx hZ e14 Ar15 (j := (0 : Int32)) in15 (g := (mkF m 70 #[vI p0, vI p1, vI p2, vI p3, vI p4, vI 2, vI u0, vI u1, vI u2, vI u3, .unset, .unset, .unset] [(.int u0), (.int 0), (.ref b14), (.ref b14)])) rfl rfl (hb hby at_70)
   have V15 := Arv.set Ar15 q15 S_15 N_15 H_15 G_15 (fits_nar_char _) W15 0 rfl (Nat.le_of_ble_eq_true rfl)
   have sz15 : h14.size ≤ h15.size := (Keep.of_wr W15).1
   have K15 : Keep h0 h15 [] := K14.wr W15 (Or.inr (own_le (by omega)))
   have c15 : CHr Z consts_1 s.vm h14 s.vm h15 := CHr.wr W15 (Safe.arr hZ.alike Ar15 (by decide)) C14.1
   have C15 := C14.trans c15
   have N15 := Fr.snoc X15 N0 (own_le (by omega))
   refine own_st st15 ?_
   refine own_st (fun tq kq => XS.dup X15.here hx rfl (hb hby at_71) rfl rfl kq) ?_
   refine s_iconst X15 hx (hb hby at_72) ?_
   refine s_iload X15 hx (hb hby at_73) rfl ?_
   obtain ⟨cl16, Ar16, q16, S_16, N_16, H_16, G_16⟩ := id V15
   have in16 : ¬ ((1 : Int32) < 0 ∨ cl16.slots.size ≤ ((1 : Int32)).toNatClampNeg) := inb_of S_16 ⟨by decide, by decide⟩
   obtain ⟨T16, h16, X16, e16, W16, st16⟩ := stC X15 hx hZ e15 Ar16 (j := (1 : Int32)) in16 (g := (mkF m 75 #[vI p0, vI p1, vI p2, vI p3, vI p4, vI 2, vI u0, vI u1, vI u2, vI u3, .unset, .unset, .unset] [(.int u1), (.int 1), (.ref b14), (.ref b14)])) rfl rfl (hb hby at_75)
   have V16 := Arv.set Ar16 q16 S_16 N_16 H_16 G_16 (fits_nar_char _) W16 1 rfl (Nat.le_of_ble_eq_true rfl)
   have sz16 : h15.size ≤ h16.size := (Keep.of_wr W16).1
   have K16 : Keep h0 h16 [] := K15.wr W16 (Or.inr (own_le (by omega)))
   have c16 : CHr Z consts_1 s.vm h15 s.vm h16 := CHr.wr W16 (Safe.arr hZ.alike Ar16 (by decide)) C15.1
   have C16 := C15.trans c16
   have N16 := Fr.snoc X16 N15 (own_le (by omega))
   refine own_st st16 ?_
   refine own_st (fun tq kq => XS.astore X16.here hx rfl (hb hby at_76) rfl rfl (l' := #[vI p0, vI p1, vI p2, vI p3, vI p4, vI 2, vI u0, vI u1, vI u2, vI u3, vR b14, .unset, .unset]) rfl kq) ?_
   refine own_st (fun tq kq => XS.goto X16.here hx rfl (pc0 := 78) (pc' := 135) rfl (hb hby at_78) (by decide) (by decide) kq) ?_
   obtain ⟨T17, h17, X17, e17, E17, A17, D17, -, st17⟩ := newO X16 hx hZ hown (wd2 hw) (wd3 hw) (wd4 hw) e16 (g := (mkF m 135 #[vI p0, vI p1, vI p2, vI p3, vI p4, vI 2, vI u0, vI u1, vI u2, vI u3, vR b14, .unset, .unset] [])) rfl (hb hby at_135) (by decide) (by decide)
   obtain ⟨b17, g17⟩ : ∃ z, z = h16.size := ⟨_, rfl⟩
   rw [← g17] at A17 D17 st17
   have lt17 : b17 < h17.size := A17.lt
   have Sn17 : Safe Z consts_1 s.vm h16 b17 := Safe.new (own_le (by omega))
   have sz17 : h16.size ≤ h17.size := E17.1
   have K17 : Keep h0 h17 [] := K16.ext E17
   have c17 : CHr Z consts_1 s.vm h16 s.vm h17 := CHr.ext E17 C16.1
   have C17 := C16.trans c17
   have Sf17 : Safe Z consts_1 s.vm h17 b17 := Safe.ext E17 C16.1 Sn17
   have F17_value : Fld Z h17 b17 "java/lang/String" "value" "[B" .null := D17 (Or.inr (wd17 hw)) (ty := (.array .byte)) (by decide)
   have F17_coder : Fld Z h17 b17 "java/lang/String" "coder" "B" (.int 0) := D17 (Or.inr (wd18 hw)) (ty := .byte) (by decide)
   refine own_st st17 ?_
   refine own_st (fun tq kq => XS.dup X17.here hx rfl (hb hby at_138) rfl rfl kq) ?_
   refine s_aload X17 hx (hb hby at_139) rfl rfl ?_
   have Vx18 : Arv Z h17 b14 k14 .char (2 : Int32) [.int (nar .char u0), .int (nar .char u1)] (.int (0 : Int32)) := (V16.ext E17)
   rw [nu0, nu1] at Vx18
   have hp18 : ∀ c ∈ ([u0, u1] : List Int32), ¬ c < 0 ∧ ¬ (65535 : Int32) < c := by
     intro c hc
     simp only [List.mem_cons, List.not_mem_nil, or_false] at hc
     rcases hc with rfl | rfl
     · exact hu0
     · exact hu1
   obtain ⟨_, _, ⟨T18, L18, k18, n18⟩, -, Y18, S18p, gr18, ⟨Lc18, hQ18, l18, y18, z18, c18⟩, st18⟩ := X17.specialBackS hx (y := mN1) rfl hown (mvT hZ (wd5 hw)) (mvT hZ (wd6 hw)) (mvT hZ (wd7 hw)) (by decide) (own_newU2 (s := s) (vm0 := s.vm) (W := 1) hZ hw hEL C17.1 (n0 := n0) Sf17 (own_le (by omega)) (X00.keep K17 all0) A17 F17_value F17_coder Vx18 O2 P5 OA OH OL hp18 (by decide) (by decide)) (g := (mkF m 141 #[vI p0, vI p1, vI p2, vI p3, vI p4, vI 2, vI u0, vI u1, vI u2, vI u3, vR b14, .unset, .unset] [(.ref b14), (.ref b17), (.ref b17)])) rfl (by rw [hml]; rfl) (Steps.refl _) (a := b17) (argsL := [(.ref b14)]) (rest := [(.ref b17)]) (lenOf own_pd15 rfl) rfl (Nat.le_of_eq rfl) (hb hby at_141) (fun _ _ => ⟨rfl, e17, (by decide : 2 + 2 ≤ _), (by decide : 6 + 10 ≤ _)⟩)
   dsimp only [Pt.U, Pt.locs, Pt.cells, Pt.slots] at Y18 S18p gr18 l18 y18 z18 st18 hQ18 c18
   subst l18 y18 z18
   obtain ⟨X18, S18, Z18, o18⟩ := rebS S0 (by rw [e17]; exact (own_le (by omega))) Y18 S18p gr18 hZ hown
   obtain ⟨rfl, Nq18, Kq18, Su18⟩ := hQ18
   have KK18 : Keep h17 T18.heap [b17] := Kq18
   have sz18 : h17.size ≤ T18.heap.size := KK18.1
   have K18 : Keep h0 T18.heap [] := K17.trans KK18 (allS (Or.inr (own_le (by omega))) all0)
   have C18 := C17.trans c18
   have Sf18_19 := c18.safe (own_lt (by omega)) Sf17
   have N18 := Fr.app N16 Nq18
   refine own_st (fun tq kq => st18.trans kq) ?_
   refine own_st (fun tq kq => XS.astore X18.here hx rfl (hb hby at_144) rfl rfl (l' := #[vI p0, vI p1, vI p2, vI p3, vI p4, vI 2, vI u0, vI u1, vI u2, vI u3, vR b14, vR b17, .unset]) rfl kq) ?_
   refine s_iload X18 hx (hb hby at_146) rfl ?_
   show own_G p e below _ (T18.setTop (mkF m 148 #[vI p0, vI p1, vI p2, vI p3, vI p4, vI 2, vI u0, vI u1, vI u2, vI u3, vR b14, vR b17, .unset] [(.int 2)]))
   refine own_st (fun tq kq => XS.ifNo X18.here hx rfl (hb hby at_148) rfl ((if0 _ _).trans (tlt (by decide : ((0 : Int32) < (2 : Int32)))).2.2.2) kq) ?_
   refine s_iload X18 hx (hb hby at_151) rfl ?_
   obtain ⟨_, _, ⟨T20, L20, k20, n20⟩, -, X20, ⟨Lc20, hQ20, l20, y20, z20⟩, st20⟩ := Jvm.LawKit.callS X18 hx (y := mN19) o18 (mvT Z18 (wd48 hw)) (mvT Z18 (wd49 hw)) (mvT Z18 (wd50 hw)) (mvT Z18 (wd51 hw)) (by decide) (own_backN (W := 0) (own_ctlC l Z a0 hw [] (u0) T18.heap n0 (by omega) (X00.keep K18 all0) hu0.1) Z18 (wd51 hw) (wd50 hw) (by decide) (by decide)) (g := (mkF m 153 #[vI p0, vI p1, vI p2, vI p3, vI p4, vI 2, vI u0, vI u1, vI u2, vI u3, vR b14, vR b17, .unset] [(.int u0)])) rfl (by rw [hml]; rfl) (argsL := [(.int u0)]) (rest := []) (lenOf own_pd17 rfl) rfl (Nat.le_of_eq rfl) (hb hby at_153) (fun _ _ => ⟨rfl, rfl, (by decide : 4 + 0 ≤ _), (by decide : 16 + 0 ≤ _)⟩)
   dsimp only [Pt.U, Pt.locs, Pt.cells, Pt.slots] at X20 l20 y20 z20 st20 hQ20
   subst l20 y20 z20
   obtain ⟨hr20, Nq20, sm20⟩ := hQ20
   have N20 := Fr.app N18 Nq20
   rcases hr20 with ⟨rfl, ct20⟩ | ⟨rfl, ct20⟩
   ·
    refine own_st st20 ?_
    refine own_st (fun tq kq => XS.ifYes X20.here hx rfl (pc0 := 156) (pc' := 201) rfl (hb hby at_156) rfl ((if0 _ _).trans (feq (by decide : ¬ ((1 : Int32) = (0 : Int32)))).2) (by decide) (by decide) kq) ?_
    refine s_iconst X20 hx (hb hby at_201) ?_
    refine own_st (fun tq kq => XS.goto X20.here hx rfl (pc0 := 202) (pc' := 206) rfl (hb hby at_202) (by decide) (by decide) kq) ?_
    refine own_st (fun tq kq => XS.istore X20.here hx rfl (hb hby at_206) rfl (l' := #[vI p0, vI p1, vI p2, vI p3, vI p4, vI 2, vI u0, vI u1, vI u2, vI u3, vR b14, vR b17, vI 1]) rfl kq) ?_
    show own_G p e below _ (T20.setTop (mkF m 208 #[vI p0, vI p1, vI p2, vI p3, vI p4, vI 2, vI u0, vI u1, vI u2, vI u3, vR b14, vR b17, vI 1] []))
    refine s_aload X20 hx (hb hby at_208) rfl rfl ?_
    obtain ⟨_, _, ⟨T21, L21, k21, n21⟩, -, X21, ⟨Lc21, hQ21, l21, y21, z21⟩, st21⟩ := Jvm.LawKit.callS X20 hx (y := mN17) o18 (mvT Z18 (wd23 hw)) (mvT Z18 (wd24 hw)) (mvT Z18 (wd25 hw)) (mvT Z18 (wd26 hw)) (by decide) (own_backN (W := 0) (own_hc2 l Z a0 hw [] (b17) (T18.heap.size) (fm) (G1) (u0) (u1) T18.heap n0 (by omega) (X00.keep K18 all0) Su18 O2 P5 OA OH OL O4 rfm) Z18 (wd26 hw) (wd25 hw) (by decide) (by decide)) (g := (mkF m 210 #[vI p0, vI p1, vI p2, vI p3, vI p4, vI 2, vI u0, vI u1, vI u2, vI u3, vR b14, vR b17, vI 1] [(.ref b17)])) rfl (by rw [hml]; rfl) (argsL := [(.ref b17)]) (rest := []) (lenOf own_pd16 rfl) rfl (Nat.le_of_eq rfl) (hb hby at_210) (fun _ _ => ⟨rfl, sm20, (by decide : 4 + 0 ≤ _), (by decide : 16 + 0 ≤ _)⟩)
    dsimp only [Pt.U, Pt.locs, Pt.cells, Pt.slots] at X21 l21 y21 z21 st21 hQ21
    subst l21 y21 z21
    obtain ⟨hr21, Nq21, sm21⟩ := hQ21
    obtain ⟨rfl, ee21⟩ := hr21.resolve_right (fun q => q.2 u0 (by simp) ct20)
    have N21 := Fr.app N20 Nq21
    refine own_st st21 ?_
    refine s_iload X21 hx (hb hby at_213) rfl ?_
    show own_G p e below _ (T21.setTop (mkF m 215 #[vI p0, vI p1, vI p2, vI p3, vI p4, vI 2, vI u0, vI u1, vI u2, vI u3, vR b14, vR b17, vI 1] [(.int 1), (.int 1)]))
    refine own_st (fun tq kq => XS.icmpNo X21.here hx rfl (hb hby at_215) rfl (teq (by decide : ((1 : Int32) = (1 : Int32)))).2 kq) ?_
    refine s_iconst X21 hx (hb hby at_218) ?_
    refine own_st (fun tq kq => XS.goto X21.here hx rfl (pc0 := 219) (pc' := 223) rfl (hb hby at_219) (by decide) (by decide) kq) ?_
    show own_G p e below _ (T21.setTop (mkF m 223 #[vI p0, vI p1, vI p2, vI p3, vI p4, vI 2, vI u0, vI u1, vI u2, vI u3, vR b14, vR b17, vI 1] [(.int 1)]))
    obtain ⟨fs, hr, hrun, hended, hRW⟩ := X21.leaveW S18 (by rw [sm21]; exact (own_le (by omega))) (v := some (.int 1)) (fun h => by rw [Bd.returns] at h; cases h)
    have cE := C18.trans (CHv.at (s := s) (vm0 := T18.vm) X21 Z18 hEL C18.1)
    refine ⟨_, _, retN X21 hx (t := .boolean) Bd.returns (by simp) (hb hby at_223) hr, hrun, hended, _, _, rfl, ?_, ?_, own_RW hRW (by decide) (by decide)⟩
    · change Q_rm0 Z p0 p1 p2 p3 p4 G1 fm h0 n0 _ T21.vm T21.heap _; rw [sm21]; exact ⟨rfl, N21⟩
    · rw [hh]; change CHr Z consts_1 s.vm h0 T21.vm T21.heap; rw [sm21]; exact cE
   ·
    refine own_st st20 ?_
    refine own_st (fun tq kq => XS.ifNo X20.here hx rfl (hb hby at_156) rfl ((if0 _ _).trans (teq (by decide : ((0 : Int32) = (0 : Int32)))).2) kq) ?_
    refine s_iload X20 hx (hb hby at_159) rfl ?_
    refine s_iconst X20 hx (hb hby at_161) ?_
    show own_G p e below _ (T20.setTop (mkF m 162 #[vI p0, vI p1, vI p2, vI p3, vI p4, vI 2, vI u0, vI u1, vI u2, vI u3, vR b14, vR b17, .unset] [(.int 1), (.int 2)]))
    refine own_st (fun tq kq => XS.icmpNo X20.here hx rfl (hb hby at_162) rfl (tlt (by decide : ((1 : Int32) < (2 : Int32)))).2.2.2 kq) ?_
    refine s_iload X20 hx (hb hby at_165) rfl ?_
    obtain ⟨_, _, ⟨T22, L22, k22, n22⟩, -, X22, ⟨Lc22, hQ22, l22, y22, z22⟩, st22⟩ := Jvm.LawKit.callS X20 hx (y := mN19) o18 (mvT Z18 (wd48 hw)) (mvT Z18 (wd49 hw)) (mvT Z18 (wd50 hw)) (mvT Z18 (wd51 hw)) (by decide) (own_backN (W := 0) (own_ctlC l Z a0 hw [] (u1) T18.heap n0 (by omega) (X00.keep K18 all0) hu1.1) Z18 (wd51 hw) (wd50 hw) (by decide) (by decide)) (g := (mkF m 167 #[vI p0, vI p1, vI p2, vI p3, vI p4, vI 2, vI u0, vI u1, vI u2, vI u3, vR b14, vR b17, .unset] [(.int u1)])) rfl (by rw [hml]; rfl) (argsL := [(.int u1)]) (rest := []) (lenOf own_pd17 rfl) rfl (Nat.le_of_eq rfl) (hb hby at_167) (fun _ _ => ⟨rfl, sm20, (by decide : 4 + 0 ≤ _), (by decide : 16 + 0 ≤ _)⟩)
    dsimp only [Pt.U, Pt.locs, Pt.cells, Pt.slots] at X22 l22 y22 z22 st22 hQ22
    subst l22 y22 z22
    obtain ⟨hr22, Nq22, sm22⟩ := hQ22
    have N22 := Fr.app N20 Nq22
    rcases hr22 with ⟨rfl, ct22⟩ | ⟨rfl, ct22⟩
    ·
     refine own_st st22 ?_
     refine own_st (fun tq kq => XS.ifYes X22.here hx rfl (pc0 := 170) (pc' := 201) rfl (hb hby at_170) rfl ((if0 _ _).trans (feq (by decide : ¬ ((1 : Int32) = (0 : Int32)))).2) (by decide) (by decide) kq) ?_
     refine s_iconst X22 hx (hb hby at_201) ?_
     refine own_st (fun tq kq => XS.goto X22.here hx rfl (pc0 := 202) (pc' := 206) rfl (hb hby at_202) (by decide) (by decide) kq) ?_
     refine own_st (fun tq kq => XS.istore X22.here hx rfl (hb hby at_206) rfl (l' := #[vI p0, vI p1, vI p2, vI p3, vI p4, vI 2, vI u0, vI u1, vI u2, vI u3, vR b14, vR b17, vI 1]) rfl kq) ?_
     show own_G p e below _ (T22.setTop (mkF m 208 #[vI p0, vI p1, vI p2, vI p3, vI p4, vI 2, vI u0, vI u1, vI u2, vI u3, vR b14, vR b17, vI 1] []))
     refine s_aload X22 hx (hb hby at_208) rfl rfl ?_
     obtain ⟨_, _, ⟨T23, L23, k23, n23⟩, -, X23, ⟨Lc23, hQ23, l23, y23, z23⟩, st23⟩ := Jvm.LawKit.callS X22 hx (y := mN17) o18 (mvT Z18 (wd23 hw)) (mvT Z18 (wd24 hw)) (mvT Z18 (wd25 hw)) (mvT Z18 (wd26 hw)) (by decide) (own_backN (W := 0) (own_hc2 l Z a0 hw [] (b17) (T18.heap.size) (fm) (G1) (u0) (u1) T18.heap n0 (by omega) (X00.keep K18 all0) Su18 O2 P5 OA OH OL O4 rfm) Z18 (wd26 hw) (wd25 hw) (by decide) (by decide)) (g := (mkF m 210 #[vI p0, vI p1, vI p2, vI p3, vI p4, vI 2, vI u0, vI u1, vI u2, vI u3, vR b14, vR b17, vI 1] [(.ref b17)])) rfl (by rw [hml]; rfl) (argsL := [(.ref b17)]) (rest := []) (lenOf own_pd16 rfl) rfl (Nat.le_of_eq rfl) (hb hby at_210) (fun _ _ => ⟨rfl, sm22, (by decide : 4 + 0 ≤ _), (by decide : 16 + 0 ≤ _)⟩)
     dsimp only [Pt.U, Pt.locs, Pt.cells, Pt.slots] at X23 l23 y23 z23 st23 hQ23
     subst l23 y23 z23
     obtain ⟨hr23, Nq23, sm23⟩ := hQ23
     obtain ⟨rfl, ee23⟩ := hr23.resolve_right (fun q => q.2 u1 (by simp) ct22)
     have N23 := Fr.app N22 Nq23
     refine own_st st23 ?_
     refine s_iload X23 hx (hb hby at_213) rfl ?_
     show own_G p e below _ (T23.setTop (mkF m 215 #[vI p0, vI p1, vI p2, vI p3, vI p4, vI 2, vI u0, vI u1, vI u2, vI u3, vR b14, vR b17, vI 1] [(.int 1), (.int 1)]))
     refine own_st (fun tq kq => XS.icmpNo X23.here hx rfl (hb hby at_215) rfl (teq (by decide : ((1 : Int32) = (1 : Int32)))).2 kq) ?_
     refine s_iconst X23 hx (hb hby at_218) ?_
     refine own_st (fun tq kq => XS.goto X23.here hx rfl (pc0 := 219) (pc' := 223) rfl (hb hby at_219) (by decide) (by decide) kq) ?_
     show own_G p e below _ (T23.setTop (mkF m 223 #[vI p0, vI p1, vI p2, vI p3, vI p4, vI 2, vI u0, vI u1, vI u2, vI u3, vR b14, vR b17, vI 1] [(.int 1)]))
     obtain ⟨fs, hr, hrun, hended, hRW⟩ := X23.leaveW S18 (by rw [sm23]; exact (own_le (by omega))) (v := some (.int 1)) (fun h => by rw [Bd.returns] at h; cases h)
     have cE := C18.trans (CHv.at (s := s) (vm0 := T18.vm) X23 Z18 hEL C18.1)
     refine ⟨_, _, retN X23 hx (t := .boolean) Bd.returns (by simp) (hb hby at_223) hr, hrun, hended, _, _, rfl, ?_, ?_, own_RW hRW (by decide) (by decide)⟩
     · change Q_rm0 Z p0 p1 p2 p3 p4 G1 fm h0 n0 _ T23.vm T23.heap _; rw [sm23]; exact ⟨rfl, N23⟩
     · rw [hh]; change CHr Z consts_1 s.vm h0 T23.vm T23.heap; rw [sm23]; exact cE
    ·
     refine own_st st22 ?_
     refine own_st (fun tq kq => XS.ifNo X22.here hx rfl (hb hby at_170) rfl ((if0 _ _).trans (teq (by decide : ((0 : Int32) = (0 : Int32)))).2) kq) ?_
     refine s_iload X22 hx (hb hby at_173) rfl ?_
     refine s_iconst X22 hx (hb hby at_175) ?_
     show own_G p e below _ (T22.setTop (mkF m 176 #[vI p0, vI p1, vI p2, vI p3, vI p4, vI 2, vI u0, vI u1, vI u2, vI u3, vR b14, vR b17, .unset] [(.int 2), (.int 2)]))
     refine own_st (fun tq kq => XS.icmpYes X22.here hx rfl (pc0 := 176) (pc' := 187) rfl (hb hby at_176) rfl (flt (by decide : ¬ ((2 : Int32) < (2 : Int32)))).2.2.2 (by decide) (by decide) kq) ?_
     refine s_iload X22 hx (hb hby at_187) rfl ?_
     refine s_iconst X22 hx (hb hby at_189) ?_
     show own_G p e below _ (T22.setTop (mkF m 190 #[vI p0, vI p1, vI p2, vI p3, vI p4, vI 2, vI u0, vI u1, vI u2, vI u3, vR b14, vR b17, .unset] [(.int 3), (.int 2)]))
     refine own_st (fun tq kq => XS.icmpYes X22.here hx rfl (pc0 := 190) (pc' := 205) rfl (hb hby at_190) rfl (flt (by decide : ¬ ((3 : Int32) < (2 : Int32)))).2.2.2 (by decide) (by decide) kq) ?_
     refine s_iconst X22 hx (hb hby at_205) ?_
     refine own_st (fun tq kq => XS.istore X22.here hx rfl (hb hby at_206) rfl (l' := #[vI p0, vI p1, vI p2, vI p3, vI p4, vI 2, vI u0, vI u1, vI u2, vI u3, vR b14, vR b17, vI 0]) rfl kq) ?_
     refine s_aload X22 hx (hb hby at_208) rfl rfl ?_
     show own_G p e below _ (T22.setTop (mkF m 210 #[vI p0, vI p1, vI p2, vI p3, vI p4, vI 2, vI u0, vI u1, vI u2, vI u3, vR b14, vR b17, vI 0] [(.ref b17)]))
     obtain ⟨_, _, ⟨T24, L24, k24, n24⟩, -, X24, ⟨Lc24, hQ24, l24, y24, z24⟩, st24⟩ := Jvm.LawKit.callS X22 hx (y := mN17) o18 (mvT Z18 (wd23 hw)) (mvT Z18 (wd24 hw)) (mvT Z18 (wd25 hw)) (mvT Z18 (wd26 hw)) (by decide) (own_backN (W := 0) (own_hc2 l Z a0 hw [] (b17) (T18.heap.size) (fm) (G1) (u0) (u1) T18.heap n0 (by omega) (X00.keep K18 all0) Su18 O2 P5 OA OH OL O4 rfm) Z18 (wd26 hw) (wd25 hw) (by decide) (by decide)) (g := (mkF m 210 #[vI p0, vI p1, vI p2, vI p3, vI p4, vI 2, vI u0, vI u1, vI u2, vI u3, vR b14, vR b17, vI 0] [(.ref b17)])) rfl (by rw [hml]; rfl) (argsL := [(.ref b17)]) (rest := []) (lenOf own_pd16 rfl) rfl (Nat.le_of_eq rfl) (hb hby at_210) (fun _ _ => ⟨rfl, sm22, (by decide : 4 + 0 ≤ _), (by decide : 16 + 0 ≤ _)⟩)
     dsimp only [Pt.U, Pt.locs, Pt.cells, Pt.slots] at X24 l24 y24 z24 st24 hQ24
     subst l24 y24 z24
     obtain ⟨hr24, Nq24, sm24⟩ := hQ24
     obtain ⟨rfl, ee24⟩ := hr24.resolve_left (fun q => by obtain ⟨y, hy, hq⟩ := q.2; have qq : ∀ c ∈ ([u0, u1] : List Int32), ¬ own_ctl c := own_all2 ct20 ct22; exact qq y hy hq)
     have N24 := Fr.app N22 Nq24
     refine own_st st24 ?_
     refine s_iload X24 hx (hb hby at_213) rfl ?_
     show own_G p e below _ (T24.setTop (mkF m 215 #[vI p0, vI p1, vI p2, vI p3, vI p4, vI 2, vI u0, vI u1, vI u2, vI u3, vR b14, vR b17, vI 0] [(.int 0), (.int 0)]))
     refine own_st (fun tq kq => XS.icmpNo X24.here hx rfl (hb hby at_215) rfl (teq (by decide : ((0 : Int32) = (0 : Int32)))).2 kq) ?_
     refine s_iconst X24 hx (hb hby at_218) ?_
     refine own_st (fun tq kq => XS.goto X24.here hx rfl (pc0 := 219) (pc' := 223) rfl (hb hby at_219) (by decide) (by decide) kq) ?_
     show own_G p e below _ (T24.setTop (mkF m 223 #[vI p0, vI p1, vI p2, vI p3, vI p4, vI 2, vI u0, vI u1, vI u2, vI u3, vR b14, vR b17, vI 0] [(.int 1)]))
     obtain ⟨fs, hr, hrun, hended, hRW⟩ := X24.leaveW S18 (by rw [sm24]; exact (own_le (by omega))) (v := some (.int 1)) (fun h => by rw [Bd.returns] at h; cases h)
     have cE := C18.trans (CHv.at (s := s) (vm0 := T18.vm) X24 Z18 hEL C18.1)
     refine ⟨_, _, retN X24 hx (t := .boolean) Bd.returns (by simp) (hb hby at_223) hr, hrun, hended, _, _, rfl, ?_, ?_, own_RW hRW (by decide) (by decide)⟩
     · change Q_rm0 Z p0 p1 p2 p3 p4 G1 fm h0 n0 _ T24.vm T24.heap _; rw [sm24]; exact ⟨rfl, N24⟩
     · rw [hh]; change CHr Z consts_1 s.vm h0 T24.vm T24.heap; rw [sm24]; exact cE
  ·
   show own_G p e below _ (T.setTop (mkF m 25 #[vI p0, vI p1, vI p2, vI p3, vI p4, vI 3, vI u0, vI u1, vI u2, vI u3, .unset, .unset, .unset] []))
   refine s_iload X0 hx (hb hby at_25) rfl ?_
   show own_G p e below _ (T.setTop (mkF m 27 #[vI p0, vI p1, vI p2, vI p3, vI p4, vI 3, vI u0, vI u1, vI u2, vI u3, .unset, .unset, .unset] [(.int 3)]))
   refine own_st (fun tq kq => XS.ifYes X0.here hx rfl (pc0 := 27) (pc' := 38) rfl (hb hby at_27) rfl ((if0 _ _).trans (feq (by decide : ¬ ((3 : Int32) = (0 : Int32)))).2) (by decide) (by decide) kq) ?_
   refine s_iload X0 hx (hb hby at_38) rfl ?_
   refine s_iconst X0 hx (hb hby at_40) ?_
   show own_G p e below _ (T.setTop (mkF m 41 #[vI p0, vI p1, vI p2, vI p3, vI p4, vI 3, vI u0, vI u1, vI u2, vI u3, .unset, .unset, .unset] [(.int 1), (.int 3)]))
   refine own_st (fun tq kq => XS.icmpYes X0.here hx rfl (pc0 := 41) (pc' := 57) rfl (hb hby at_41) rfl (feq (by decide : ¬ ((3 : Int32) = (1 : Int32)))).2 (by decide) (by decide) kq) ?_
   refine s_iload X0 hx (hb hby at_57) rfl ?_
   refine s_iconst X0 hx (hb hby at_59) ?_
   show own_G p e below _ (T.setTop (mkF m 60 #[vI p0, vI p1, vI p2, vI p3, vI p4, vI 3, vI u0, vI u1, vI u2, vI u3, .unset, .unset, .unset] [(.int 2), (.int 3)]))
   refine own_st (fun tq kq => XS.icmpYes X0.here hx rfl (pc0 := 60) (pc' := 81) rfl (hb hby at_60) rfl (feq (by decide : ¬ ((3 : Int32) = (2 : Int32)))).2 (by decide) (by decide) kq) ?_
   refine s_iload X0 hx (hb hby at_81) rfl ?_
   refine s_iconst X0 hx (hb hby at_83) ?_
   show own_G p e below _ (T.setTop (mkF m 84 #[vI p0, vI p1, vI p2, vI p3, vI p4, vI 3, vI u0, vI u1, vI u2, vI u3, .unset, .unset, .unset] [(.int 3), (.int 3)]))
   refine own_st (fun tq kq => XS.icmpNo X0.here hx rfl (hb hby at_84) rfl (teq (by decide : ((3 : Int32) = (3 : Int32)))).2 kq) ?_
   refine s_iconst X0 hx (hb hby at_87) ?_
   obtain ⟨T25, h25, k25, X25, e25, E25, A25, st25⟩ := newP X0 hx hZ (hw _ (List.mem_of_getElem? (i := 1) rfl)) e0 (g := (mkF m 88 #[vI p0, vI p1, vI p2, vI p3, vI p4, vI 3, vI u0, vI u1, vI u2, vI u3, .unset, .unset, .unset] [(.int 3)])) rfl (hb hby at_88) rfl (by decide) (cap := 3) (by decide) (by decide) (by decide) (by decide)
   obtain ⟨b25, g25⟩ : ∃ z, z = h0.size := ⟨_, rfl⟩
   rw [← g25] at A25 st25
   have lt25 : b25 < h25.size := A25.lt
   have V25 : Arv Z h25 b25 k25 .char (3 : Int32) [(.int (0 : Int32)), (.int (0 : Int32)), (.int (0 : Int32))] (.int (0 : Int32)) := (Arv.new A25 (by decide)).pad (pad_rep [] (.int (0 : Int32)) 3)
   have sz25 : h0.size ≤ h25.size := E25.1
   have K25 : Keep h0 h25 [] := K0.ext E25
   have c25 : CHr Z consts_1 s.vm h0 s.vm h25 := CHr.ext E25 C0.1
   have C25 := C0.trans c25
   refine own_st st25 ?_
   refine own_st (fun tq kq => XS.dup X25.here hx rfl (hb hby at_90) rfl rfl kq) ?_
   refine s_iconst X25 hx (hb hby at_91) ?_
   refine s_iload X25 hx (hb hby at_92) rfl ?_
   obtain ⟨cl26, Ar26, q26, S_26, N_26, H_26, G_26⟩ := id V25
   have in26 : ¬ ((0 : Int32) < 0 ∨ cl26.slots.size ≤ ((0 : Int32)).toNatClampNeg) := inb_of S_26 ⟨by decide, by decide⟩
   obtain ⟨T26, h26, X26, e26, W26, st26⟩ := stC X25 hx hZ e25 Ar26 (j := (0 : Int32)) in26 (g := (mkF m 94 #[vI p0, vI p1, vI p2, vI p3, vI p4, vI 3, vI u0, vI u1, vI u2, vI u3, .unset, .unset, .unset] [(.int u0), (.int 0), (.ref b25), (.ref b25)])) rfl rfl (hb hby at_94)
   have V26 := Arv.set Ar26 q26 S_26 N_26 H_26 G_26 (fits_nar_char _) W26 0 rfl (Nat.le_of_ble_eq_true rfl)
   have sz26 : h25.size ≤ h26.size := (Keep.of_wr W26).1
   have K26 : Keep h0 h26 [] := K25.wr W26 (Or.inr (own_le (by omega)))
   have c26 : CHr Z consts_1 s.vm h25 s.vm h26 := CHr.wr W26 (Safe.arr hZ.alike Ar26 (by decide)) C25.1
   have C26 := C25.trans c26
   have N26 := Fr.snoc X26 N0 (own_le (by omega))
   refine own_st st26 ?_
   refine own_st (fun tq kq => XS.dup X26.here hx rfl (hb hby at_95) rfl rfl kq) ?_
   refine s_iconst X26 hx (hb hby at_96) ?_
   refine s_iload X26 hx (hb hby at_97) rfl ?_
   obtain ⟨cl27, Ar27, q27, S_27, N_27, H_27, G_27⟩ := id V26
   have in27 : ¬ ((1 : Int32) < 0 ∨ cl27.slots.size ≤ ((1 : Int32)).toNatClampNeg) := inb_of S_27 ⟨by decide, by decide⟩
   obtain ⟨T27, h27, X27, e27, W27, st27⟩ := stC X26 hx hZ e26 Ar27 (j := (1 : Int32)) in27 (g := (mkF m 99 #[vI p0, vI p1, vI p2, vI p3, vI p4, vI 3, vI u0, vI u1, vI u2, vI u3, .unset, .unset, .unset] [(.int u1), (.int 1), (.ref b25), (.ref b25)])) rfl rfl (hb hby at_99)
   have V27 := Arv.set Ar27 q27 S_27 N_27 H_27 G_27 (fits_nar_char _) W27 1 rfl (Nat.le_of_ble_eq_true rfl)
   have sz27 : h26.size ≤ h27.size := (Keep.of_wr W27).1
   have K27 : Keep h0 h27 [] := K26.wr W27 (Or.inr (own_le (by omega)))
   have c27 : CHr Z consts_1 s.vm h26 s.vm h27 := CHr.wr W27 (Safe.arr hZ.alike Ar27 (by decide)) C26.1
   have C27 := C26.trans c27
   have N27 := Fr.snoc X27 N26 (own_le (by omega))
   refine own_st st27 ?_
   refine own_st (fun tq kq => XS.dup X27.here hx rfl (hb hby at_100) rfl rfl kq) ?_
   refine s_iconst X27 hx (hb hby at_101) ?_
   refine s_iload X27 hx (hb hby at_102) rfl ?_
   obtain ⟨cl28, Ar28, q28, S_28, N_28, H_28, G_28⟩ := id V27
   have in28 : ¬ ((2 : Int32) < 0 ∨ cl28.slots.size ≤ ((2 : Int32)).toNatClampNeg) := inb_of S_28 ⟨by decide, by decide⟩
   obtain ⟨T28, h28, X28, e28, W28, st28⟩ := stC X27 hx hZ e27 Ar28 (j := (2 : Int32)) in28 (g := (mkF m 104 #[vI p0, vI p1, vI p2, vI p3, vI p4, vI 3, vI u0, vI u1, vI u2, vI u3, .unset, .unset, .unset] [(.int u2), (.int 2), (.ref b25), (.ref b25)])) rfl rfl (hb hby at_104)
   have V28 := Arv.set Ar28 q28 S_28 N_28 H_28 G_28 (fits_nar_char _) W28 2 rfl (Nat.le_of_ble_eq_true rfl)
   have sz28 : h27.size ≤ h28.size := (Keep.of_wr W28).1
   have K28 : Keep h0 h28 [] := K27.wr W28 (Or.inr (own_le (by omega)))
   have c28 : CHr Z consts_1 s.vm h27 s.vm h28 := CHr.wr W28 (Safe.arr hZ.alike Ar28 (by decide)) C27.1
   have C28 := C27.trans c28
   have N28 := Fr.snoc X28 N27 (own_le (by omega))
   refine own_st st28 ?_
   refine own_st (fun tq kq => XS.astore X28.here hx rfl (hb hby at_105) rfl rfl (l' := #[vI p0, vI p1, vI p2, vI p3, vI p4, vI 3, vI u0, vI u1, vI u2, vI u3, vR b25, .unset, .unset]) rfl kq) ?_
   refine own_st (fun tq kq => XS.goto X28.here hx rfl (pc0 := 107) (pc' := 135) rfl (hb hby at_107) (by decide) (by decide) kq) ?_
   obtain ⟨T29, h29, X29, e29, E29, A29, D29, -, st29⟩ := newO X28 hx hZ hown (wd2 hw) (wd3 hw) (wd4 hw) e28 (g := (mkF m 135 #[vI p0, vI p1, vI p2, vI p3, vI p4, vI 3, vI u0, vI u1, vI u2, vI u3, vR b25, .unset, .unset] [])) rfl (hb hby at_135) (by decide) (by decide)
   obtain ⟨b29, g29⟩ : ∃ z, z = h28.size := ⟨_, rfl⟩
   rw [← g29] at A29 D29 st29
   have lt29 : b29 < h29.size := A29.lt
   have Sn29 : Safe Z consts_1 s.vm h28 b29 := Safe.new (own_le (by omega))
   have sz29 : h28.size ≤ h29.size := E29.1
   have K29 : Keep h0 h29 [] := K28.ext E29
   have c29 : CHr Z consts_1 s.vm h28 s.vm h29 := CHr.ext E29 C28.1
   have C29 := C28.trans c29
   have Sf29 : Safe Z consts_1 s.vm h29 b29 := Safe.ext E29 C28.1 Sn29
   have F29_value : Fld Z h29 b29 "java/lang/String" "value" "[B" .null := D29 (Or.inr (wd17 hw)) (ty := (.array .byte)) (by decide)
   have F29_coder : Fld Z h29 b29 "java/lang/String" "coder" "B" (.int 0) := D29 (Or.inr (wd18 hw)) (ty := .byte) (by decide)
   refine own_st st29 ?_
   refine own_st (fun tq kq => XS.dup X29.here hx rfl (hb hby at_138) rfl rfl kq) ?_
   refine s_aload X29 hx (hb hby at_139) rfl rfl ?_
   have Vx30 : Arv Z h29 b25 k25 .char (3 : Int32) [.int (nar .char u0), .int (nar .char u1), .int (nar .char u2)] (.int (0 : Int32)) := (V28.ext E29)
   rw [nu0, nu1, nu2] at Vx30
   have hp30 : ∀ c ∈ ([u0, u1, u2] : List Int32), ¬ c < 0 ∧ ¬ (65535 : Int32) < c := by
     intro c hc
     simp only [List.mem_cons, List.not_mem_nil, or_false] at hc
     rcases hc with rfl | rfl | rfl
     · exact hu0
     · exact hu1
     · exact hu2
   obtain ⟨_, _, ⟨T30, L30, k30, n30⟩, -, Y30, S30p, gr30, ⟨Lc30, hQ30, l30, y30, z30, c30⟩, st30⟩ := X29.specialBackS hx (y := mN1) rfl hown (mvT hZ (wd5 hw)) (mvT hZ (wd6 hw)) (mvT hZ (wd7 hw)) (by decide) (own_newU3 (s := s) (vm0 := s.vm) (W := 1) hZ hw hEL C29.1 (n0 := n0) Sf29 (own_le (by omega)) (X00.keep K29 all0) A29 F29_value F29_coder Vx30 O2 P5 OA OH OL hp30 (by decide) (by decide)) (g := (mkF m 141 #[vI p0, vI p1, vI p2, vI p3, vI p4, vI 3, vI u0, vI u1, vI u2, vI u3, vR b25, .unset, .unset] [(.ref b25), (.ref b29), (.ref b29)])) rfl (by rw [hml]; rfl) (Steps.refl _) (a := b29) (argsL := [(.ref b25)]) (rest := [(.ref b29)]) (lenOf own_pd15 rfl) rfl (Nat.le_of_eq rfl) (hb hby at_141) (fun _ _ => ⟨rfl, e29, (by decide : 2 + 2 ≤ _), (by decide : 7 + 13 ≤ _)⟩)
   dsimp only [Pt.U, Pt.locs, Pt.cells, Pt.slots] at Y30 S30p gr30 l30 y30 z30 st30 hQ30 c30
   subst l30 y30 z30
   obtain ⟨X30, S30, Z30, o30⟩ := rebS S0 (by rw [e29]; exact (own_le (by omega))) Y30 S30p gr30 hZ hown
   obtain ⟨rfl, Nq30, Kq30, Su30⟩ := hQ30
   have KK30 : Keep h29 T30.heap [b29] := Kq30
   have sz30 : h29.size ≤ T30.heap.size := KK30.1
   have K30 : Keep h0 T30.heap [] := K29.trans KK30 (allS (Or.inr (own_le (by omega))) all0)
   have C30 := C29.trans c30
   have Sf30_31 := c30.safe (own_lt (by omega)) Sf29
   have N30 := Fr.app N28 Nq30
   refine own_st (fun tq kq => st30.trans kq) ?_
   refine own_st (fun tq kq => XS.astore X30.here hx rfl (hb hby at_144) rfl rfl (l' := #[vI p0, vI p1, vI p2, vI p3, vI p4, vI 3, vI u0, vI u1, vI u2, vI u3, vR b25, vR b29, .unset]) rfl kq) ?_
   refine s_iload X30 hx (hb hby at_146) rfl ?_
   show own_G p e below _ (T30.setTop (mkF m 148 #[vI p0, vI p1, vI p2, vI p3, vI p4, vI 3, vI u0, vI u1, vI u2, vI u3, vR b25, vR b29, .unset] [(.int 3)]))
   refine own_st (fun tq kq => XS.ifNo X30.here hx rfl (hb hby at_148) rfl ((if0 _ _).trans (tlt (by decide : ((0 : Int32) < (3 : Int32)))).2.2.2) kq) ?_
   refine s_iload X30 hx (hb hby at_151) rfl ?_
   obtain ⟨_, _, ⟨T32, L32, k32, n32⟩, -, X32, ⟨Lc32, hQ32, l32, y32, z32⟩, st32⟩ := Jvm.LawKit.callS X30 hx (y := mN19) o30 (mvT Z30 (wd48 hw)) (mvT Z30 (wd49 hw)) (mvT Z30 (wd50 hw)) (mvT Z30 (wd51 hw)) (by decide) (own_backN (W := 0) (own_ctlC l Z a0 hw [] (u0) T30.heap n0 (by omega) (X00.keep K30 all0) hu0.1) Z30 (wd51 hw) (wd50 hw) (by decide) (by decide)) (g := (mkF m 153 #[vI p0, vI p1, vI p2, vI p3, vI p4, vI 3, vI u0, vI u1, vI u2, vI u3, vR b25, vR b29, .unset] [(.int u0)])) rfl (by rw [hml]; rfl) (argsL := [(.int u0)]) (rest := []) (lenOf own_pd17 rfl) rfl (Nat.le_of_eq rfl) (hb hby at_153) (fun _ _ => ⟨rfl, rfl, (by decide : 4 + 0 ≤ _), (by decide : 20 + 0 ≤ _)⟩)
   dsimp only [Pt.U, Pt.locs, Pt.cells, Pt.slots] at X32 l32 y32 z32 st32 hQ32
   subst l32 y32 z32
   obtain ⟨hr32, Nq32, sm32⟩ := hQ32
   have N32 := Fr.app N30 Nq32
   rcases hr32 with ⟨rfl, ct32⟩ | ⟨rfl, ct32⟩
   ·
    refine own_st st32 ?_
    refine own_st (fun tq kq => XS.ifYes X32.here hx rfl (pc0 := 156) (pc' := 201) rfl (hb hby at_156) rfl ((if0 _ _).trans (feq (by decide : ¬ ((1 : Int32) = (0 : Int32)))).2) (by decide) (by decide) kq) ?_
    refine s_iconst X32 hx (hb hby at_201) ?_
    refine own_st (fun tq kq => XS.goto X32.here hx rfl (pc0 := 202) (pc' := 206) rfl (hb hby at_202) (by decide) (by decide) kq) ?_
    refine own_st (fun tq kq => XS.istore X32.here hx rfl (hb hby at_206) rfl (l' := #[vI p0, vI p1, vI p2, vI p3, vI p4, vI 3, vI u0, vI u1, vI u2, vI u3, vR b25, vR b29, vI 1]) rfl kq) ?_
    show own_G p e below _ (T32.setTop (mkF m 208 #[vI p0, vI p1, vI p2, vI p3, vI p4, vI 3, vI u0, vI u1, vI u2, vI u3, vR b25, vR b29, vI 1] []))
    refine s_aload X32 hx (hb hby at_208) rfl rfl ?_
    obtain ⟨_, _, ⟨T33, L33, k33, n33⟩, -, X33, ⟨Lc33, hQ33, l33, y33, z33⟩, st33⟩ := Jvm.LawKit.callS X32 hx (y := mN17) o30 (mvT Z30 (wd23 hw)) (mvT Z30 (wd24 hw)) (mvT Z30 (wd25 hw)) (mvT Z30 (wd26 hw)) (by decide) (own_backN (W := 0) (own_hc3 l Z a0 hw [] (b29) (T30.heap.size) (fm) (G1) (u0) (u1) (u2) T30.heap n0 (by omega) (X00.keep K30 all0) Su30 O2 P5 OA OH OL O4 rfm) Z30 (wd26 hw) (wd25 hw) (by decide) (by decide)) (g := (mkF m 210 #[vI p0, vI p1, vI p2, vI p3, vI p4, vI 3, vI u0, vI u1, vI u2, vI u3, vR b25, vR b29, vI 1] [(.ref b29)])) rfl (by rw [hml]; rfl) (argsL := [(.ref b29)]) (rest := []) (lenOf own_pd16 rfl) rfl (Nat.le_of_eq rfl) (hb hby at_210) (fun _ _ => ⟨rfl, sm32, (by decide : 4 + 0 ≤ _), (by decide : 20 + 0 ≤ _)⟩)
    dsimp only [Pt.U, Pt.locs, Pt.cells, Pt.slots] at X33 l33 y33 z33 st33 hQ33
    subst l33 y33 z33
    obtain ⟨hr33, Nq33, sm33⟩ := hQ33
    obtain ⟨rfl, ee33⟩ := hr33.resolve_right (fun q => q.2 u0 (by simp) ct32)
    have N33 := Fr.app N32 Nq33
    refine own_st st33 ?_
    refine s_iload X33 hx (hb hby at_213) rfl ?_
    show own_G p e below _ (T33.setTop (mkF m 215 #[vI p0, vI p1, vI p2, vI p3, vI p4, vI 3, vI u0, vI u1, vI u2, vI u3, vR b25, vR b29, vI 1] [(.int 1), (.int 1)]))
    refine own_st (fun tq kq => XS.icmpNo X33.here hx rfl (hb hby at_215) rfl (teq (by decide : ((1 : Int32) = (1 : Int32)))).2 kq) ?_
    refine s_iconst X33 hx (hb hby at_218) ?_
    refine own_st (fun tq kq => XS.goto X33.here hx rfl (pc0 := 219) (pc' := 223) rfl (hb hby at_219) (by decide) (by decide) kq) ?_
    show own_G p e below _ (T33.setTop (mkF m 223 #[vI p0, vI p1, vI p2, vI p3, vI p4, vI 3, vI u0, vI u1, vI u2, vI u3, vR b25, vR b29, vI 1] [(.int 1)]))
    obtain ⟨fs, hr, hrun, hended, hRW⟩ := X33.leaveW S30 (by rw [sm33]; exact (own_le (by omega))) (v := some (.int 1)) (fun h => by rw [Bd.returns] at h; cases h)
    have cE := C30.trans (CHv.at (s := s) (vm0 := T30.vm) X33 Z30 hEL C30.1)
    refine ⟨_, _, retN X33 hx (t := .boolean) Bd.returns (by simp) (hb hby at_223) hr, hrun, hended, _, _, rfl, ?_, ?_, own_RW hRW (by decide) (by decide)⟩
    · change Q_rm0 Z p0 p1 p2 p3 p4 G1 fm h0 n0 _ T33.vm T33.heap _; rw [sm33]; exact ⟨rfl, N33⟩
    · rw [hh]; change CHr Z consts_1 s.vm h0 T33.vm T33.heap; rw [sm33]; exact cE
   ·
    refine own_st st32 ?_
    refine own_st (fun tq kq => XS.ifNo X32.here hx rfl (hb hby at_156) rfl ((if0 _ _).trans (teq (by decide : ((0 : Int32) = (0 : Int32)))).2) kq) ?_
    refine s_iload X32 hx (hb hby at_159) rfl ?_
    refine s_iconst X32 hx (hb hby at_161) ?_
    show own_G p e below _ (T32.setTop (mkF m 162 #[vI p0, vI p1, vI p2, vI p3, vI p4, vI 3, vI u0, vI u1, vI u2, vI u3, vR b25, vR b29, .unset] [(.int 1), (.int 3)]))
    refine own_st (fun tq kq => XS.icmpNo X32.here hx rfl (hb hby at_162) rfl (tlt (by decide : ((1 : Int32) < (3 : Int32)))).2.2.2 kq) ?_
    refine s_iload X32 hx (hb hby at_165) rfl ?_
    obtain ⟨_, _, ⟨T34, L34, k34, n34⟩, -, X34, ⟨Lc34, hQ34, l34, y34, z34⟩, st34⟩ := Jvm.LawKit.callS X32 hx (y := mN19) o30 (mvT Z30 (wd48 hw)) (mvT Z30 (wd49 hw)) (mvT Z30 (wd50 hw)) (mvT Z30 (wd51 hw)) (by decide) (own_backN (W := 0) (own_ctlC l Z a0 hw [] (u1) T30.heap n0 (by omega) (X00.keep K30 all0) hu1.1) Z30 (wd51 hw) (wd50 hw) (by decide) (by decide)) (g := (mkF m 167 #[vI p0, vI p1, vI p2, vI p3, vI p4, vI 3, vI u0, vI u1, vI u2, vI u3, vR b25, vR b29, .unset] [(.int u1)])) rfl (by rw [hml]; rfl) (argsL := [(.int u1)]) (rest := []) (lenOf own_pd17 rfl) rfl (Nat.le_of_eq rfl) (hb hby at_167) (fun _ _ => ⟨rfl, sm32, (by decide : 4 + 0 ≤ _), (by decide : 20 + 0 ≤ _)⟩)
    dsimp only [Pt.U, Pt.locs, Pt.cells, Pt.slots] at X34 l34 y34 z34 st34 hQ34
    subst l34 y34 z34
    obtain ⟨hr34, Nq34, sm34⟩ := hQ34
    have N34 := Fr.app N32 Nq34
    rcases hr34 with ⟨rfl, ct34⟩ | ⟨rfl, ct34⟩
    ·
     refine own_st st34 ?_
     refine own_st (fun tq kq => XS.ifYes X34.here hx rfl (pc0 := 170) (pc' := 201) rfl (hb hby at_170) rfl ((if0 _ _).trans (feq (by decide : ¬ ((1 : Int32) = (0 : Int32)))).2) (by decide) (by decide) kq) ?_
     refine s_iconst X34 hx (hb hby at_201) ?_
     refine own_st (fun tq kq => XS.goto X34.here hx rfl (pc0 := 202) (pc' := 206) rfl (hb hby at_202) (by decide) (by decide) kq) ?_
     refine own_st (fun tq kq => XS.istore X34.here hx rfl (hb hby at_206) rfl (l' := #[vI p0, vI p1, vI p2, vI p3, vI p4, vI 3, vI u0, vI u1, vI u2, vI u3, vR b25, vR b29, vI 1]) rfl kq) ?_
     show own_G p e below _ (T34.setTop (mkF m 208 #[vI p0, vI p1, vI p2, vI p3, vI p4, vI 3, vI u0, vI u1, vI u2, vI u3, vR b25, vR b29, vI 1] []))
     refine s_aload X34 hx (hb hby at_208) rfl rfl ?_
     obtain ⟨_, _, ⟨T35, L35, k35, n35⟩, -, X35, ⟨Lc35, hQ35, l35, y35, z35⟩, st35⟩ := Jvm.LawKit.callS X34 hx (y := mN17) o30 (mvT Z30 (wd23 hw)) (mvT Z30 (wd24 hw)) (mvT Z30 (wd25 hw)) (mvT Z30 (wd26 hw)) (by decide) (own_backN (W := 0) (own_hc3 l Z a0 hw [] (b29) (T30.heap.size) (fm) (G1) (u0) (u1) (u2) T30.heap n0 (by omega) (X00.keep K30 all0) Su30 O2 P5 OA OH OL O4 rfm) Z30 (wd26 hw) (wd25 hw) (by decide) (by decide)) (g := (mkF m 210 #[vI p0, vI p1, vI p2, vI p3, vI p4, vI 3, vI u0, vI u1, vI u2, vI u3, vR b25, vR b29, vI 1] [(.ref b29)])) rfl (by rw [hml]; rfl) (argsL := [(.ref b29)]) (rest := []) (lenOf own_pd16 rfl) rfl (Nat.le_of_eq rfl) (hb hby at_210) (fun _ _ => ⟨rfl, sm34, (by decide : 4 + 0 ≤ _), (by decide : 20 + 0 ≤ _)⟩)
     dsimp only [Pt.U, Pt.locs, Pt.cells, Pt.slots] at X35 l35 y35 z35 st35 hQ35
     subst l35 y35 z35
     obtain ⟨hr35, Nq35, sm35⟩ := hQ35
     obtain ⟨rfl, ee35⟩ := hr35.resolve_right (fun q => q.2 u1 (by simp) ct34)
     have N35 := Fr.app N34 Nq35
     refine own_st st35 ?_
     refine s_iload X35 hx (hb hby at_213) rfl ?_
     show own_G p e below _ (T35.setTop (mkF m 215 #[vI p0, vI p1, vI p2, vI p3, vI p4, vI 3, vI u0, vI u1, vI u2, vI u3, vR b25, vR b29, vI 1] [(.int 1), (.int 1)]))
     refine own_st (fun tq kq => XS.icmpNo X35.here hx rfl (hb hby at_215) rfl (teq (by decide : ((1 : Int32) = (1 : Int32)))).2 kq) ?_
     refine s_iconst X35 hx (hb hby at_218) ?_
     refine own_st (fun tq kq => XS.goto X35.here hx rfl (pc0 := 219) (pc' := 223) rfl (hb hby at_219) (by decide) (by decide) kq) ?_
     show own_G p e below _ (T35.setTop (mkF m 223 #[vI p0, vI p1, vI p2, vI p3, vI p4, vI 3, vI u0, vI u1, vI u2, vI u3, vR b25, vR b29, vI 1] [(.int 1)]))
     obtain ⟨fs, hr, hrun, hended, hRW⟩ := X35.leaveW S30 (by rw [sm35]; exact (own_le (by omega))) (v := some (.int 1)) (fun h => by rw [Bd.returns] at h; cases h)
     have cE := C30.trans (CHv.at (s := s) (vm0 := T30.vm) X35 Z30 hEL C30.1)
     refine ⟨_, _, retN X35 hx (t := .boolean) Bd.returns (by simp) (hb hby at_223) hr, hrun, hended, _, _, rfl, ?_, ?_, own_RW hRW (by decide) (by decide)⟩
     · change Q_rm0 Z p0 p1 p2 p3 p4 G1 fm h0 n0 _ T35.vm T35.heap _; rw [sm35]; exact ⟨rfl, N35⟩
     · rw [hh]; change CHr Z consts_1 s.vm h0 T35.vm T35.heap; rw [sm35]; exact cE
    ·
     refine own_st st34 ?_
     refine own_st (fun tq kq => XS.ifNo X34.here hx rfl (hb hby at_170) rfl ((if0 _ _).trans (teq (by decide : ((0 : Int32) = (0 : Int32)))).2) kq) ?_
     refine s_iload X34 hx (hb hby at_173) rfl ?_
     refine s_iconst X34 hx (hb hby at_175) ?_
     show own_G p e below _ (T34.setTop (mkF m 176 #[vI p0, vI p1, vI p2, vI p3, vI p4, vI 3, vI u0, vI u1, vI u2, vI u3, vR b25, vR b29, .unset] [(.int 2), (.int 3)]))
     refine own_st (fun tq kq => XS.icmpNo X34.here hx rfl (hb hby at_176) rfl (tlt (by decide : ((2 : Int32) < (3 : Int32)))).2.2.2 kq) ?_
     refine s_iload X34 hx (hb hby at_179) rfl ?_
     obtain ⟨_, _, ⟨T36, L36, k36, n36⟩, -, X36, ⟨Lc36, hQ36, l36, y36, z36⟩, st36⟩ := Jvm.LawKit.callS X34 hx (y := mN19) o30 (mvT Z30 (wd48 hw)) (mvT Z30 (wd49 hw)) (mvT Z30 (wd50 hw)) (mvT Z30 (wd51 hw)) (by decide) (own_backN (W := 0) (own_ctlC l Z a0 hw [] (u2) T30.heap n0 (by omega) (X00.keep K30 all0) hu2.1) Z30 (wd51 hw) (wd50 hw) (by decide) (by decide)) (g := (mkF m 181 #[vI p0, vI p1, vI p2, vI p3, vI p4, vI 3, vI u0, vI u1, vI u2, vI u3, vR b25, vR b29, .unset] [(.int u2)])) rfl (by rw [hml]; rfl) (argsL := [(.int u2)]) (rest := []) (lenOf own_pd17 rfl) rfl (Nat.le_of_eq rfl) (hb hby at_181) (fun _ _ => ⟨rfl, sm34, (by decide : 4 + 0 ≤ _), (by decide : 20 + 0 ≤ _)⟩)
     dsimp only [Pt.U, Pt.locs, Pt.cells, Pt.slots] at X36 l36 y36 z36 st36 hQ36
     subst l36 y36 z36
     obtain ⟨hr36, Nq36, sm36⟩ := hQ36
     have N36 := Fr.app N34 Nq36
     rcases hr36 with ⟨rfl, ct36⟩ | ⟨rfl, ct36⟩
     ·
      refine own_st st36 ?_
      refine own_st (fun tq kq => XS.ifYes X36.here hx rfl (pc0 := 184) (pc' := 201) rfl (hb hby at_184) rfl ((if0 _ _).trans (feq (by decide : ¬ ((1 : Int32) = (0 : Int32)))).2) (by decide) (by decide) kq) ?_
      refine s_iconst X36 hx (hb hby at_201) ?_
      refine own_st (fun tq kq => XS.goto X36.here hx rfl (pc0 := 202) (pc' := 206) rfl (hb hby at_202) (by decide) (by decide) kq) ?_
      refine own_st (fun tq kq => XS.istore X36.here hx rfl (hb hby at_206) rfl (l' := #[vI p0, vI p1, vI p2, vI p3, vI p4, vI 3, vI u0, vI u1, vI u2, vI u3, vR b25, vR b29, vI 1]) rfl kq) ?_
      show own_G p e below _ (T36.setTop (mkF m 208 #[vI p0, vI p1, vI p2, vI p3, vI p4, vI 3, vI u0, vI u1, vI u2, vI u3, vR b25, vR b29, vI 1] []))
      refine s_aload X36 hx (hb hby at_208) rfl rfl ?_
      obtain ⟨_, _, ⟨T37, L37, k37, n37⟩, -, X37, ⟨Lc37, hQ37, l37, y37, z37⟩, st37⟩ := Jvm.LawKit.callS X36 hx (y := mN17) o30 (mvT Z30 (wd23 hw)) (mvT Z30 (wd24 hw)) (mvT Z30 (wd25 hw)) (mvT Z30 (wd26 hw)) (by decide) (own_backN (W := 0) (own_hc3 l Z a0 hw [] (b29) (T30.heap.size) (fm) (G1) (u0) (u1) (u2) T30.heap n0 (by omega) (X00.keep K30 all0) Su30 O2 P5 OA OH OL O4 rfm) Z30 (wd26 hw) (wd25 hw) (by decide) (by decide)) (g := (mkF m 210 #[vI p0, vI p1, vI p2, vI p3, vI p4, vI 3, vI u0, vI u1, vI u2, vI u3, vR b25, vR b29, vI 1] [(.ref b29)])) rfl (by rw [hml]; rfl) (argsL := [(.ref b29)]) (rest := []) (lenOf own_pd16 rfl) rfl (Nat.le_of_eq rfl) (hb hby at_210) (fun _ _ => ⟨rfl, sm36, (by decide : 4 + 0 ≤ _), (by decide : 20 + 0 ≤ _)⟩)
      dsimp only [Pt.U, Pt.locs, Pt.cells, Pt.slots] at X37 l37 y37 z37 st37 hQ37
      subst l37 y37 z37
      obtain ⟨hr37, Nq37, sm37⟩ := hQ37
      obtain ⟨rfl, ee37⟩ := hr37.resolve_right (fun q => q.2 u2 (by simp) ct36)
      have N37 := Fr.app N36 Nq37
      refine own_st st37 ?_
      refine s_iload X37 hx (hb hby at_213) rfl ?_
      show own_G p e below _ (T37.setTop (mkF m 215 #[vI p0, vI p1, vI p2, vI p3, vI p4, vI 3, vI u0, vI u1, vI u2, vI u3, vR b25, vR b29, vI 1] [(.int 1), (.int 1)]))
      refine own_st (fun tq kq => XS.icmpNo X37.here hx rfl (hb hby at_215) rfl (teq (by decide : ((1 : Int32) = (1 : Int32)))).2 kq) ?_
      refine s_iconst X37 hx (hb hby at_218) ?_
      refine own_st (fun tq kq => XS.goto X37.here hx rfl (pc0 := 219) (pc' := 223) rfl (hb hby at_219) (by decide) (by decide) kq) ?_
      show own_G p e below _ (T37.setTop (mkF m 223 #[vI p0, vI p1, vI p2, vI p3, vI p4, vI 3, vI u0, vI u1, vI u2, vI u3, vR b25, vR b29, vI 1] [(.int 1)]))
      obtain ⟨fs, hr, hrun, hended, hRW⟩ := X37.leaveW S30 (by rw [sm37]; exact (own_le (by omega))) (v := some (.int 1)) (fun h => by rw [Bd.returns] at h; cases h)
      have cE := C30.trans (CHv.at (s := s) (vm0 := T30.vm) X37 Z30 hEL C30.1)
      refine ⟨_, _, retN X37 hx (t := .boolean) Bd.returns (by simp) (hb hby at_223) hr, hrun, hended, _, _, rfl, ?_, ?_, own_RW hRW (by decide) (by decide)⟩
      · change Q_rm0 Z p0 p1 p2 p3 p4 G1 fm h0 n0 _ T37.vm T37.heap _; rw [sm37]; exact ⟨rfl, N37⟩
      · rw [hh]; change CHr Z consts_1 s.vm h0 T37.vm T37.heap; rw [sm37]; exact cE
     ·
      refine own_st st36 ?_
      refine own_st (fun tq kq => XS.ifNo X36.here hx rfl (hb hby at_184) rfl ((if0 _ _).trans (teq (by decide : ((0 : Int32) = (0 : Int32)))).2) kq) ?_
      refine s_iload X36 hx (hb hby at_187) rfl ?_
      refine s_iconst X36 hx (hb hby at_189) ?_
      show own_G p e below _ (T36.setTop (mkF m 190 #[vI p0, vI p1, vI p2, vI p3, vI p4, vI 3, vI u0, vI u1, vI u2, vI u3, vR b25, vR b29, .unset] [(.int 3), (.int 3)]))
      refine own_st (fun tq kq => XS.icmpYes X36.here hx rfl (pc0 := 190) (pc' := 205) rfl (hb hby at_190) rfl (flt (by decide : ¬ ((3 : Int32) < (3 : Int32)))).2.2.2 (by decide) (by decide) kq) ?_
      refine s_iconst X36 hx (hb hby at_205) ?_
      refine own_st (fun tq kq => XS.istore X36.here hx rfl (hb hby at_206) rfl (l' := #[vI p0, vI p1, vI p2, vI p3, vI p4, vI 3, vI u0, vI u1, vI u2, vI u3, vR b25, vR b29, vI 0]) rfl kq) ?_
      refine s_aload X36 hx (hb hby at_208) rfl rfl ?_
      show own_G p e below _ (T36.setTop (mkF m 210 #[vI p0, vI p1, vI p2, vI p3, vI p4, vI 3, vI u0, vI u1, vI u2, vI u3, vR b25, vR b29, vI 0] [(.ref b29)]))
      obtain ⟨_, _, ⟨T38, L38, k38, n38⟩, -, X38, ⟨Lc38, hQ38, l38, y38, z38⟩, st38⟩ := Jvm.LawKit.callS X36 hx (y := mN17) o30 (mvT Z30 (wd23 hw)) (mvT Z30 (wd24 hw)) (mvT Z30 (wd25 hw)) (mvT Z30 (wd26 hw)) (by decide) (own_backN (W := 0) (own_hc3 l Z a0 hw [] (b29) (T30.heap.size) (fm) (G1) (u0) (u1) (u2) T30.heap n0 (by omega) (X00.keep K30 all0) Su30 O2 P5 OA OH OL O4 rfm) Z30 (wd26 hw) (wd25 hw) (by decide) (by decide)) (g := (mkF m 210 #[vI p0, vI p1, vI p2, vI p3, vI p4, vI 3, vI u0, vI u1, vI u2, vI u3, vR b25, vR b29, vI 0] [(.ref b29)])) rfl (by rw [hml]; rfl) (argsL := [(.ref b29)]) (rest := []) (lenOf own_pd16 rfl) rfl (Nat.le_of_eq rfl) (hb hby at_210) (fun _ _ => ⟨rfl, sm36, (by decide : 4 + 0 ≤ _), (by decide : 20 + 0 ≤ _)⟩)
      dsimp only [Pt.U, Pt.locs, Pt.cells, Pt.slots] at X38 l38 y38 z38 st38 hQ38
      subst l38 y38 z38
      obtain ⟨hr38, Nq38, sm38⟩ := hQ38
      obtain ⟨rfl, ee38⟩ := hr38.resolve_left (fun q => by obtain ⟨y, hy, hq⟩ := q.2; have qq : ∀ c ∈ ([u0, u1, u2] : List Int32), ¬ own_ctl c := own_all3 ct32 ct34 ct36; exact qq y hy hq)
      have N38 := Fr.app N36 Nq38
      refine own_st st38 ?_
      refine s_iload X38 hx (hb hby at_213) rfl ?_
      show own_G p e below _ (T38.setTop (mkF m 215 #[vI p0, vI p1, vI p2, vI p3, vI p4, vI 3, vI u0, vI u1, vI u2, vI u3, vR b25, vR b29, vI 0] [(.int 0), (.int 0)]))
      refine own_st (fun tq kq => XS.icmpNo X38.here hx rfl (hb hby at_215) rfl (teq (by decide : ((0 : Int32) = (0 : Int32)))).2 kq) ?_
      refine s_iconst X38 hx (hb hby at_218) ?_
      refine own_st (fun tq kq => XS.goto X38.here hx rfl (pc0 := 219) (pc' := 223) rfl (hb hby at_219) (by decide) (by decide) kq) ?_
      show own_G p e below _ (T38.setTop (mkF m 223 #[vI p0, vI p1, vI p2, vI p3, vI p4, vI 3, vI u0, vI u1, vI u2, vI u3, vR b25, vR b29, vI 0] [(.int 1)]))
      obtain ⟨fs, hr, hrun, hended, hRW⟩ := X38.leaveW S30 (by rw [sm38]; exact (own_le (by omega))) (v := some (.int 1)) (fun h => by rw [Bd.returns] at h; cases h)
      have cE := C30.trans (CHv.at (s := s) (vm0 := T30.vm) X38 Z30 hEL C30.1)
      refine ⟨_, _, retN X38 hx (t := .boolean) Bd.returns (by simp) (hb hby at_223) hr, hrun, hended, _, _, rfl, ?_, ?_, own_RW hRW (by decide) (by decide)⟩
      · change Q_rm0 Z p0 p1 p2 p3 p4 G1 fm h0 n0 _ T38.vm T38.heap _; rw [sm38]; exact ⟨rfl, N38⟩
      · rw [hh]; change CHr Z consts_1 s.vm h0 T38.vm T38.heap; rw [sm38]; exact cE
  ·
   show own_G p e below _ (T.setTop (mkF m 25 #[vI p0, vI p1, vI p2, vI p3, vI p4, vI 4, vI u0, vI u1, vI u2, vI u3, .unset, .unset, .unset] []))
   refine s_iload X0 hx (hb hby at_25) rfl ?_
   show own_G p e below _ (T.setTop (mkF m 27 #[vI p0, vI p1, vI p2, vI p3, vI p4, vI 4, vI u0, vI u1, vI u2, vI u3, .unset, .unset, .unset] [(.int 4)]))
   refine own_st (fun tq kq => XS.ifYes X0.here hx rfl (pc0 := 27) (pc' := 38) rfl (hb hby at_27) rfl ((if0 _ _).trans (feq (by decide : ¬ ((4 : Int32) = (0 : Int32)))).2) (by decide) (by decide) kq) ?_
   refine s_iload X0 hx (hb hby at_38) rfl ?_
   refine s_iconst X0 hx (hb hby at_40) ?_
   show own_G p e below _ (T.setTop (mkF m 41 #[vI p0, vI p1, vI p2, vI p3, vI p4, vI 4, vI u0, vI u1, vI u2, vI u3, .unset, .unset, .unset] [(.int 1), (.int 4)]))
   refine own_st (fun tq kq => XS.icmpYes X0.here hx rfl (pc0 := 41) (pc' := 57) rfl (hb hby at_41) rfl (feq (by decide : ¬ ((4 : Int32) = (1 : Int32)))).2 (by decide) (by decide) kq) ?_
   refine s_iload X0 hx (hb hby at_57) rfl ?_
   refine s_iconst X0 hx (hb hby at_59) ?_
   show own_G p e below _ (T.setTop (mkF m 60 #[vI p0, vI p1, vI p2, vI p3, vI p4, vI 4, vI u0, vI u1, vI u2, vI u3, .unset, .unset, .unset] [(.int 2), (.int 4)]))
   refine own_st (fun tq kq => XS.icmpYes X0.here hx rfl (pc0 := 60) (pc' := 81) rfl (hb hby at_60) rfl (feq (by decide : ¬ ((4 : Int32) = (2 : Int32)))).2 (by decide) (by decide) kq) ?_
   refine s_iload X0 hx (hb hby at_81) rfl ?_
   refine s_iconst X0 hx (hb hby at_83) ?_
   show own_G p e below _ (T.setTop (mkF m 84 #[vI p0, vI p1, vI p2, vI p3, vI p4, vI 4, vI u0, vI u1, vI u2, vI u3, .unset, .unset, .unset] [(.int 3), (.int 4)]))
   refine own_st (fun tq kq => XS.icmpYes X0.here hx rfl (pc0 := 84) (pc' := 110) rfl (hb hby at_84) rfl (feq (by decide : ¬ ((4 : Int32) = (3 : Int32)))).2 (by decide) (by decide) kq) ?_
   refine s_iconst X0 hx (hb hby at_110) ?_
   obtain ⟨T39, h39, k39, X39, e39, E39, A39, st39⟩ := newP X0 hx hZ (hw _ (List.mem_of_getElem? (i := 1) rfl)) e0 (g := (mkF m 111 #[vI p0, vI p1, vI p2, vI p3, vI p4, vI 4, vI u0, vI u1, vI u2, vI u3, .unset, .unset, .unset] [(.int 4)])) rfl (hb hby at_111) rfl (by decide) (cap := 4) (by decide) (by decide) (by decide) (by decide)
   obtain ⟨b39, g39⟩ : ∃ z, z = h0.size := ⟨_, rfl⟩
   rw [← g39] at A39 st39
   have lt39 : b39 < h39.size := A39.lt
   have V39 : Arv Z h39 b39 k39 .char (4 : Int32) [(.int (0 : Int32)), (.int (0 : Int32)), (.int (0 : Int32)), (.int (0 : Int32))] (.int (0 : Int32)) := (Arv.new A39 (by decide)).pad (pad_rep [] (.int (0 : Int32)) 4)
   have sz39 : h0.size ≤ h39.size := E39.1
   have K39 : Keep h0 h39 [] := K0.ext E39
   have c39 : CHr Z consts_1 s.vm h0 s.vm h39 := CHr.ext E39 C0.1
   have C39 := C0.trans c39
   refine own_st st39 ?_
   refine own_st (fun tq kq => XS.dup X39.here hx rfl (hb hby at_113) rfl rfl kq) ?_
   refine s_iconst X39 hx (hb hby at_114) ?_
   refine s_iload X39 hx (hb hby at_115) rfl ?_
   obtain ⟨cl40, Ar40, q40, S_40, N_40, H_40, G_40⟩ := id V39
   have in40 : ¬ ((0 : Int32) < 0 ∨ cl40.slots.size ≤ ((0 : Int32)).toNatClampNeg) := inb_of S_40 ⟨by decide, by decide⟩
   obtain ⟨T40, h40, X40, e40, W40, st40⟩ := stC X39 hx hZ e39 Ar40 (j := (0 : Int32)) in40 (g := (mkF m 117 #[vI p0, vI p1, vI p2, vI p3, vI p4, vI 4, vI u0, vI u1, vI u2, vI u3, .unset, .unset, .unset] [(.int u0), (.int 0), (.ref b39), (.ref b39)])) rfl rfl (hb hby at_117)
   have V40 := Arv.set Ar40 q40 S_40 N_40 H_40 G_40 (fits_nar_char _) W40 0 rfl (Nat.le_of_ble_eq_true rfl)
   have sz40 : h39.size ≤ h40.size := (Keep.of_wr W40).1
   have K40 : Keep h0 h40 [] := K39.wr W40 (Or.inr (own_le (by omega)))
   have c40 : CHr Z consts_1 s.vm h39 s.vm h40 := CHr.wr W40 (Safe.arr hZ.alike Ar40 (by decide)) C39.1
   have C40 := C39.trans c40
   have N40 := Fr.snoc X40 N0 (own_le (by omega))
   refine own_st st40 ?_
   refine own_st (fun tq kq => XS.dup X40.here hx rfl (hb hby at_118) rfl rfl kq) ?_
   refine s_iconst X40 hx (hb hby at_119) ?_
   refine s_iload X40 hx (hb hby at_120) rfl ?_
   obtain ⟨cl41, Ar41, q41, S_41, N_41, H_41, G_41⟩ := id V40
   have in41 : ¬ ((1 : Int32) < 0 ∨ cl41.slots.size ≤ ((1 : Int32)).toNatClampNeg) := inb_of S_41 ⟨by decide, by decide⟩
   obtain ⟨T41, h41, X41, e41, W41, st41⟩ := stC X40 hx hZ e40 Ar41 (j := (1 : Int32)) in41 (g := (mkF m 122 #[vI p0, vI p1, vI p2, vI p3, vI p4, vI 4, vI u0, vI u1, vI u2, vI u3, .unset, .unset, .unset] [(.int u1), (.int 1), (.ref b39), (.ref b39)])) rfl rfl (hb hby at_122)
   have V41 := Arv.set Ar41 q41 S_41 N_41 H_41 G_41 (fits_nar_char _) W41 1 rfl (Nat.le_of_ble_eq_true rfl)
   have sz41 : h40.size ≤ h41.size := (Keep.of_wr W41).1
   have K41 : Keep h0 h41 [] := K40.wr W41 (Or.inr (own_le (by omega)))
   have c41 : CHr Z consts_1 s.vm h40 s.vm h41 := CHr.wr W41 (Safe.arr hZ.alike Ar41 (by decide)) C40.1
   have C41 := C40.trans c41
   have N41 := Fr.snoc X41 N40 (own_le (by omega))
   refine own_st st41 ?_
   refine own_st (fun tq kq => XS.dup X41.here hx rfl (hb hby at_123) rfl rfl kq) ?_
   refine s_iconst X41 hx (hb hby at_124) ?_
   refine s_iload X41 hx (hb hby at_125) rfl ?_
   obtain ⟨cl42, Ar42, q42, S_42, N_42, H_42, G_42⟩ := id V41
   have in42 : ¬ ((2 : Int32) < 0 ∨ cl42.slots.size ≤ ((2 : Int32)).toNatClampNeg) := inb_of S_42 ⟨by decide, by decide⟩
   obtain ⟨T42, h42, X42, e42, W42, st42⟩ := stC X41 hx hZ e41 Ar42 (j := (2 : Int32)) in42 (g := (mkF m 127 #[vI p0, vI p1, vI p2, vI p3, vI p4, vI 4, vI u0, vI u1, vI u2, vI u3, .unset, .unset, .unset] [(.int u2), (.int 2), (.ref b39), (.ref b39)])) rfl rfl (hb hby at_127)
   have V42 := Arv.set Ar42 q42 S_42 N_42 H_42 G_42 (fits_nar_char _) W42 2 rfl (Nat.le_of_ble_eq_true rfl)
   have sz42 : h41.size ≤ h42.size := (Keep.of_wr W42).1
   have K42 : Keep h0 h42 [] := K41.wr W42 (Or.inr (own_le (by omega)))
   have c42 : CHr Z consts_1 s.vm h41 s.vm h42 := CHr.wr W42 (Safe.arr hZ.alike Ar42 (by decide)) C41.1
   have C42 := C41.trans c42
   have N42 := Fr.snoc X42 N41 (own_le (by omega))
   refine own_st st42 ?_
   refine own_st (fun tq kq => XS.dup X42.here hx rfl (hb hby at_128) rfl rfl kq) ?_
   refine s_iconst X42 hx (hb hby at_129) ?_
   refine s_iload X42 hx (hb hby at_130) rfl ?_
   obtain ⟨cl43, Ar43, q43, S_43, N_43, H_43, G_43⟩ := id V42
   have in43 : ¬ ((3 : Int32) < 0 ∨ cl43.slots.size ≤ ((3 : Int32)).toNatClampNeg) := inb_of S_43 ⟨by decide, by decide⟩
   obtain ⟨T43, h43, X43, e43, W43, st43⟩ := stC X42 hx hZ e42 Ar43 (j := (3 : Int32)) in43 (g := (mkF m 132 #[vI p0, vI p1, vI p2, vI p3, vI p4, vI 4, vI u0, vI u1, vI u2, vI u3, .unset, .unset, .unset] [(.int u3), (.int 3), (.ref b39), (.ref b39)])) rfl rfl (hb hby at_132)
   have V43 := Arv.set Ar43 q43 S_43 N_43 H_43 G_43 (fits_nar_char _) W43 3 rfl (Nat.le_of_ble_eq_true rfl)
   have sz43 : h42.size ≤ h43.size := (Keep.of_wr W43).1
   have K43 : Keep h0 h43 [] := K42.wr W43 (Or.inr (own_le (by omega)))
   have c43 : CHr Z consts_1 s.vm h42 s.vm h43 := CHr.wr W43 (Safe.arr hZ.alike Ar43 (by decide)) C42.1
   have C43 := C42.trans c43
   have N43 := Fr.snoc X43 N42 (own_le (by omega))
   refine own_st st43 ?_
   refine own_st (fun tq kq => XS.astore X43.here hx rfl (hb hby at_133) rfl rfl (l' := #[vI p0, vI p1, vI p2, vI p3, vI p4, vI 4, vI u0, vI u1, vI u2, vI u3, vR b39, .unset, .unset]) rfl kq) ?_
   obtain ⟨T44, h44, X44, e44, E44, A44, D44, -, st44⟩ := newO X43 hx hZ hown (wd2 hw) (wd3 hw) (wd4 hw) e43 (g := (mkF m 135 #[vI p0, vI p1, vI p2, vI p3, vI p4, vI 4, vI u0, vI u1, vI u2, vI u3, vR b39, .unset, .unset] [])) rfl (hb hby at_135) (by decide) (by decide)
   obtain ⟨b44, g44⟩ : ∃ z, z = h43.size := ⟨_, rfl⟩
   rw [← g44] at A44 D44 st44
   have lt44 : b44 < h44.size := A44.lt
   have Sn44 : Safe Z consts_1 s.vm h43 b44 := Safe.new (own_le (by omega))
   have sz44 : h43.size ≤ h44.size := E44.1
   have K44 : Keep h0 h44 [] := K43.ext E44
   have c44 : CHr Z consts_1 s.vm h43 s.vm h44 := CHr.ext E44 C43.1
   have C44 := C43.trans c44
   have Sf44 : Safe Z consts_1 s.vm h44 b44 := Safe.ext E44 C43.1 Sn44
   have F44_value : Fld Z h44 b44 "java/lang/String" "value" "[B" .null := D44 (Or.inr (wd17 hw)) (ty := (.array .byte)) (by decide)
   have F44_coder : Fld Z h44 b44 "java/lang/String" "coder" "B" (.int 0) := D44 (Or.inr (wd18 hw)) (ty := .byte) (by decide)
   refine own_st st44 ?_
   refine own_st (fun tq kq => XS.dup X44.here hx rfl (hb hby at_138) rfl rfl kq) ?_
   refine s_aload X44 hx (hb hby at_139) rfl rfl ?_
   have Vx45 : Arv Z h44 b39 k39 .char (4 : Int32) [.int (nar .char u0), .int (nar .char u1), .int (nar .char u2), .int (nar .char u3)] (.int (0 : Int32)) := (V43.ext E44)
   rw [nu0, nu1, nu2, nu3] at Vx45
   have hp45 : ∀ c ∈ ([u0, u1, u2, u3] : List Int32), ¬ c < 0 ∧ ¬ (65535 : Int32) < c := by
     intro c hc
     simp only [List.mem_cons, List.not_mem_nil, or_false] at hc
     rcases hc with rfl | rfl | rfl | rfl
     · exact hu0
     · exact hu1
     · exact hu2
     · exact hu3
   obtain ⟨_, _, ⟨T45, L45, k45, n45⟩, -, Y45, S45p, gr45, ⟨Lc45, hQ45, l45, y45, z45, c45⟩, st45⟩ := X44.specialBackS hx (y := mN1) rfl hown (mvT hZ (wd5 hw)) (mvT hZ (wd6 hw)) (mvT hZ (wd7 hw)) (by decide) (own_newU4 (s := s) (vm0 := s.vm) (W := 1) hZ hw hEL C44.1 (n0 := n0) Sf44 (own_le (by omega)) (X00.keep K44 all0) A44 F44_value F44_coder Vx45 O2 P5 OA OH OL hp45 (by decide) (by decide)) (g := (mkF m 141 #[vI p0, vI p1, vI p2, vI p3, vI p4, vI 4, vI u0, vI u1, vI u2, vI u3, vR b39, .unset, .unset] [(.ref b39), (.ref b44), (.ref b44)])) rfl (by rw [hml]; rfl) (Steps.refl _) (a := b44) (argsL := [(.ref b39)]) (rest := [(.ref b44)]) (lenOf own_pd15 rfl) rfl (Nat.le_of_eq rfl) (hb hby at_141) (fun _ _ => ⟨rfl, e44, (by decide : 2 + 2 ≤ _), (by decide : 8 + 16 ≤ _)⟩)
   dsimp only [Pt.U, Pt.locs, Pt.cells, Pt.slots] at Y45 S45p gr45 l45 y45 z45 st45 hQ45 c45
   subst l45 y45 z45
   obtain ⟨X45, S45, Z45, o45⟩ := rebS S0 (by rw [e44]; exact (own_le (by omega))) Y45 S45p gr45 hZ hown
   obtain ⟨rfl, Nq45, Kq45, Su45⟩ := hQ45
   have KK45 : Keep h44 T45.heap [b44] := Kq45
   have sz45 : h44.size ≤ T45.heap.size := KK45.1
   have K45 : Keep h0 T45.heap [] := K44.trans KK45 (allS (Or.inr (own_le (by omega))) all0)
   have C45 := C44.trans c45
   have Sf45_46 := c45.safe (own_lt (by omega)) Sf44
   have N45 := Fr.app N43 Nq45
   refine own_st (fun tq kq => st45.trans kq) ?_
   refine own_st (fun tq kq => XS.astore X45.here hx rfl (hb hby at_144) rfl rfl (l' := #[vI p0, vI p1, vI p2, vI p3, vI p4, vI 4, vI u0, vI u1, vI u2, vI u3, vR b39, vR b44, .unset]) rfl kq) ?_
   refine s_iload X45 hx (hb hby at_146) rfl ?_
   show own_G p e below _ (T45.setTop (mkF m 148 #[vI p0, vI p1, vI p2, vI p3, vI p4, vI 4, vI u0, vI u1, vI u2, vI u3, vR b39, vR b44, .unset] [(.int 4)]))
   refine own_st (fun tq kq => XS.ifNo X45.here hx rfl (hb hby at_148) rfl ((if0 _ _).trans (tlt (by decide : ((0 : Int32) < (4 : Int32)))).2.2.2) kq) ?_
   refine s_iload X45 hx (hb hby at_151) rfl ?_
   obtain ⟨_, _, ⟨T47, L47, k47, n47⟩, -, X47, ⟨Lc47, hQ47, l47, y47, z47⟩, st47⟩ := Jvm.LawKit.callS X45 hx (y := mN19) o45 (mvT Z45 (wd48 hw)) (mvT Z45 (wd49 hw)) (mvT Z45 (wd50 hw)) (mvT Z45 (wd51 hw)) (by decide) (own_backN (W := 0) (own_ctlC l Z a0 hw [] (u0) T45.heap n0 (by omega) (X00.keep K45 all0) hu0.1) Z45 (wd51 hw) (wd50 hw) (by decide) (by decide)) (g := (mkF m 153 #[vI p0, vI p1, vI p2, vI p3, vI p4, vI 4, vI u0, vI u1, vI u2, vI u3, vR b39, vR b44, .unset] [(.int u0)])) rfl (by rw [hml]; rfl) (argsL := [(.int u0)]) (rest := []) (lenOf own_pd17 rfl) rfl (Nat.le_of_eq rfl) (hb hby at_153) (fun _ _ => ⟨rfl, rfl, (by decide : 4 + 0 ≤ _), (by decide : 24 + 0 ≤ _)⟩)
   dsimp only [Pt.U, Pt.locs, Pt.cells, Pt.slots] at X47 l47 y47 z47 st47 hQ47
   subst l47 y47 z47
   obtain ⟨hr47, Nq47, sm47⟩ := hQ47
   have N47 := Fr.app N45 Nq47
   rcases hr47 with ⟨rfl, ct47⟩ | ⟨rfl, ct47⟩
   ·
    refine own_st st47 ?_
    refine own_st (fun tq kq => XS.ifYes X47.here hx rfl (pc0 := 156) (pc' := 201) rfl (hb hby at_156) rfl ((if0 _ _).trans (feq (by decide : ¬ ((1 : Int32) = (0 : Int32)))).2) (by decide) (by decide) kq) ?_
    refine s_iconst X47 hx (hb hby at_201) ?_
    refine own_st (fun tq kq => XS.goto X47.here hx rfl (pc0 := 202) (pc' := 206) rfl (hb hby at_202) (by decide) (by decide) kq) ?_
    refine own_st (fun tq kq => XS.istore X47.here hx rfl (hb hby at_206) rfl (l' := #[vI p0, vI p1, vI p2, vI p3, vI p4, vI 4, vI u0, vI u1, vI u2, vI u3, vR b39, vR b44, vI 1]) rfl kq) ?_
    show own_G p e below _ (T47.setTop (mkF m 208 #[vI p0, vI p1, vI p2, vI p3, vI p4, vI 4, vI u0, vI u1, vI u2, vI u3, vR b39, vR b44, vI 1] []))
    refine s_aload X47 hx (hb hby at_208) rfl rfl ?_
    obtain ⟨_, _, ⟨T48, L48, k48, n48⟩, -, X48, ⟨Lc48, hQ48, l48, y48, z48⟩, st48⟩ := Jvm.LawKit.callS X47 hx (y := mN17) o45 (mvT Z45 (wd23 hw)) (mvT Z45 (wd24 hw)) (mvT Z45 (wd25 hw)) (mvT Z45 (wd26 hw)) (by decide) (own_backN (W := 0) (own_hc4 l Z a0 hw [] (b44) (T45.heap.size) (fm) (G1) (u0) (u1) (u2) (u3) T45.heap n0 (by omega) (X00.keep K45 all0) Su45 O2 P5 OA OH OL O4 rfm) Z45 (wd26 hw) (wd25 hw) (by decide) (by decide)) (g := (mkF m 210 #[vI p0, vI p1, vI p2, vI p3, vI p4, vI 4, vI u0, vI u1, vI u2, vI u3, vR b39, vR b44, vI 1] [(.ref b44)])) rfl (by rw [hml]; rfl) (argsL := [(.ref b44)]) (rest := []) (lenOf own_pd16 rfl) rfl (Nat.le_of_eq rfl) (hb hby at_210) (fun _ _ => ⟨rfl, sm47, (by decide : 4 + 0 ≤ _), (by decide : 24 + 0 ≤ _)⟩)
    dsimp only [Pt.U, Pt.locs, Pt.cells, Pt.slots] at X48 l48 y48 z48 st48 hQ48
    subst l48 y48 z48
    obtain ⟨hr48, Nq48, sm48⟩ := hQ48
    obtain ⟨rfl, ee48⟩ := hr48.resolve_right (fun q => q.2 u0 (by simp) ct47)
    have N48 := Fr.app N47 Nq48
    refine own_st st48 ?_
    refine s_iload X48 hx (hb hby at_213) rfl ?_
    show own_G p e below _ (T48.setTop (mkF m 215 #[vI p0, vI p1, vI p2, vI p3, vI p4, vI 4, vI u0, vI u1, vI u2, vI u3, vR b39, vR b44, vI 1] [(.int 1), (.int 1)]))
    refine own_st (fun tq kq => XS.icmpNo X48.here hx rfl (hb hby at_215) rfl (teq (by decide : ((1 : Int32) = (1 : Int32)))).2 kq) ?_
    refine s_iconst X48 hx (hb hby at_218) ?_
    refine own_st (fun tq kq => XS.goto X48.here hx rfl (pc0 := 219) (pc' := 223) rfl (hb hby at_219) (by decide) (by decide) kq) ?_
    show own_G p e below _ (T48.setTop (mkF m 223 #[vI p0, vI p1, vI p2, vI p3, vI p4, vI 4, vI u0, vI u1, vI u2, vI u3, vR b39, vR b44, vI 1] [(.int 1)]))
    obtain ⟨fs, hr, hrun, hended, hRW⟩ := X48.leaveW S45 (by rw [sm48]; exact (own_le (by omega))) (v := some (.int 1)) (fun h => by rw [Bd.returns] at h; cases h)
    have cE := C45.trans (CHv.at (s := s) (vm0 := T45.vm) X48 Z45 hEL C45.1)
    refine ⟨_, _, retN X48 hx (t := .boolean) Bd.returns (by simp) (hb hby at_223) hr, hrun, hended, _, _, rfl, ?_, ?_, own_RW hRW (by decide) (by decide)⟩
    · change Q_rm0 Z p0 p1 p2 p3 p4 G1 fm h0 n0 _ T48.vm T48.heap _; rw [sm48]; exact ⟨rfl, N48⟩
    · rw [hh]; change CHr Z consts_1 s.vm h0 T48.vm T48.heap; rw [sm48]; exact cE
   ·
    refine own_st st47 ?_
    refine own_st (fun tq kq => XS.ifNo X47.here hx rfl (hb hby at_156) rfl ((if0 _ _).trans (teq (by decide : ((0 : Int32) = (0 : Int32)))).2) kq) ?_
    refine s_iload X47 hx (hb hby at_159) rfl ?_
    refine s_iconst X47 hx (hb hby at_161) ?_
    show own_G p e below _ (T47.setTop (mkF m 162 #[vI p0, vI p1, vI p2, vI p3, vI p4, vI 4, vI u0, vI u1, vI u2, vI u3, vR b39, vR b44, .unset] [(.int 1), (.int 4)]))
    refine own_st (fun tq kq => XS.icmpNo X47.here hx rfl (hb hby at_162) rfl (tlt (by decide : ((1 : Int32) < (4 : Int32)))).2.2.2 kq) ?_
    refine s_iload X47 hx (hb hby at_165) rfl ?_
    obtain ⟨_, _, ⟨T49, L49, k49, n49⟩, -, X49, ⟨Lc49, hQ49, l49, y49, z49⟩, st49⟩ := Jvm.LawKit.callS X47 hx (y := mN19) o45 (mvT Z45 (wd48 hw)) (mvT Z45 (wd49 hw)) (mvT Z45 (wd50 hw)) (mvT Z45 (wd51 hw)) (by decide) (own_backN (W := 0) (own_ctlC l Z a0 hw [] (u1) T45.heap n0 (by omega) (X00.keep K45 all0) hu1.1) Z45 (wd51 hw) (wd50 hw) (by decide) (by decide)) (g := (mkF m 167 #[vI p0, vI p1, vI p2, vI p3, vI p4, vI 4, vI u0, vI u1, vI u2, vI u3, vR b39, vR b44, .unset] [(.int u1)])) rfl (by rw [hml]; rfl) (argsL := [(.int u1)]) (rest := []) (lenOf own_pd17 rfl) rfl (Nat.le_of_eq rfl) (hb hby at_167) (fun _ _ => ⟨rfl, sm47, (by decide : 4 + 0 ≤ _), (by decide : 24 + 0 ≤ _)⟩)
    dsimp only [Pt.U, Pt.locs, Pt.cells, Pt.slots] at X49 l49 y49 z49 st49 hQ49
    subst l49 y49 z49
    obtain ⟨hr49, Nq49, sm49⟩ := hQ49
    have N49 := Fr.app N47 Nq49
    rcases hr49 with ⟨rfl, ct49⟩ | ⟨rfl, ct49⟩
    ·
     refine own_st st49 ?_
     refine own_st (fun tq kq => XS.ifYes X49.here hx rfl (pc0 := 170) (pc' := 201) rfl (hb hby at_170) rfl ((if0 _ _).trans (feq (by decide : ¬ ((1 : Int32) = (0 : Int32)))).2) (by decide) (by decide) kq) ?_
     refine s_iconst X49 hx (hb hby at_201) ?_
     refine own_st (fun tq kq => XS.goto X49.here hx rfl (pc0 := 202) (pc' := 206) rfl (hb hby at_202) (by decide) (by decide) kq) ?_
     refine own_st (fun tq kq => XS.istore X49.here hx rfl (hb hby at_206) rfl (l' := #[vI p0, vI p1, vI p2, vI p3, vI p4, vI 4, vI u0, vI u1, vI u2, vI u3, vR b39, vR b44, vI 1]) rfl kq) ?_
     show own_G p e below _ (T49.setTop (mkF m 208 #[vI p0, vI p1, vI p2, vI p3, vI p4, vI 4, vI u0, vI u1, vI u2, vI u3, vR b39, vR b44, vI 1] []))
     refine s_aload X49 hx (hb hby at_208) rfl rfl ?_
     obtain ⟨_, _, ⟨T50, L50, k50, n50⟩, -, X50, ⟨Lc50, hQ50, l50, y50, z50⟩, st50⟩ := Jvm.LawKit.callS X49 hx (y := mN17) o45 (mvT Z45 (wd23 hw)) (mvT Z45 (wd24 hw)) (mvT Z45 (wd25 hw)) (mvT Z45 (wd26 hw)) (by decide) (own_backN (W := 0) (own_hc4 l Z a0 hw [] (b44) (T45.heap.size) (fm) (G1) (u0) (u1) (u2) (u3) T45.heap n0 (by omega) (X00.keep K45 all0) Su45 O2 P5 OA OH OL O4 rfm) Z45 (wd26 hw) (wd25 hw) (by decide) (by decide)) (g := (mkF m 210 #[vI p0, vI p1, vI p2, vI p3, vI p4, vI 4, vI u0, vI u1, vI u2, vI u3, vR b39, vR b44, vI 1] [(.ref b44)])) rfl (by rw [hml]; rfl) (argsL := [(.ref b44)]) (rest := []) (lenOf own_pd16 rfl) rfl (Nat.le_of_eq rfl) (hb hby at_210) (fun _ _ => ⟨rfl, sm49, (by decide : 4 + 0 ≤ _), (by decide : 24 + 0 ≤ _)⟩)
     dsimp only [Pt.U, Pt.locs, Pt.cells, Pt.slots] at X50 l50 y50 z50 st50 hQ50
     subst l50 y50 z50
     obtain ⟨hr50, Nq50, sm50⟩ := hQ50
     obtain ⟨rfl, ee50⟩ := hr50.resolve_right (fun q => q.2 u1 (by simp) ct49)
     have N50 := Fr.app N49 Nq50
     refine own_st st50 ?_
     refine s_iload X50 hx (hb hby at_213) rfl ?_
     show own_G p e below _ (T50.setTop (mkF m 215 #[vI p0, vI p1, vI p2, vI p3, vI p4, vI 4, vI u0, vI u1, vI u2, vI u3, vR b39, vR b44, vI 1] [(.int 1), (.int 1)]))
     refine own_st (fun tq kq => XS.icmpNo X50.here hx rfl (hb hby at_215) rfl (teq (by decide : ((1 : Int32) = (1 : Int32)))).2 kq) ?_
     refine s_iconst X50 hx (hb hby at_218) ?_
     refine own_st (fun tq kq => XS.goto X50.here hx rfl (pc0 := 219) (pc' := 223) rfl (hb hby at_219) (by decide) (by decide) kq) ?_
     show own_G p e below _ (T50.setTop (mkF m 223 #[vI p0, vI p1, vI p2, vI p3, vI p4, vI 4, vI u0, vI u1, vI u2, vI u3, vR b39, vR b44, vI 1] [(.int 1)]))
     obtain ⟨fs, hr, hrun, hended, hRW⟩ := X50.leaveW S45 (by rw [sm50]; exact (own_le (by omega))) (v := some (.int 1)) (fun h => by rw [Bd.returns] at h; cases h)
     have cE := C45.trans (CHv.at (s := s) (vm0 := T45.vm) X50 Z45 hEL C45.1)
     refine ⟨_, _, retN X50 hx (t := .boolean) Bd.returns (by simp) (hb hby at_223) hr, hrun, hended, _, _, rfl, ?_, ?_, own_RW hRW (by decide) (by decide)⟩
     · change Q_rm0 Z p0 p1 p2 p3 p4 G1 fm h0 n0 _ T50.vm T50.heap _; rw [sm50]; exact ⟨rfl, N50⟩
     · rw [hh]; change CHr Z consts_1 s.vm h0 T50.vm T50.heap; rw [sm50]; exact cE
    ·
     refine own_st st49 ?_
     refine own_st (fun tq kq => XS.ifNo X49.here hx rfl (hb hby at_170) rfl ((if0 _ _).trans (teq (by decide : ((0 : Int32) = (0 : Int32)))).2) kq) ?_
     refine s_iload X49 hx (hb hby at_173) rfl ?_
     refine s_iconst X49 hx (hb hby at_175) ?_
     show own_G p e below _ (T49.setTop (mkF m 176 #[vI p0, vI p1, vI p2, vI p3, vI p4, vI 4, vI u0, vI u1, vI u2, vI u3, vR b39, vR b44, .unset] [(.int 2), (.int 4)]))
     refine own_st (fun tq kq => XS.icmpNo X49.here hx rfl (hb hby at_176) rfl (tlt (by decide : ((2 : Int32) < (4 : Int32)))).2.2.2 kq) ?_
     refine s_iload X49 hx (hb hby at_179) rfl ?_
     obtain ⟨_, _, ⟨T51, L51, k51, n51⟩, -, X51, ⟨Lc51, hQ51, l51, y51, z51⟩, st51⟩ := Jvm.LawKit.callS X49 hx (y := mN19) o45 (mvT Z45 (wd48 hw)) (mvT Z45 (wd49 hw)) (mvT Z45 (wd50 hw)) (mvT Z45 (wd51 hw)) (by decide) (own_backN (W := 0) (own_ctlC l Z a0 hw [] (u2) T45.heap n0 (by omega) (X00.keep K45 all0) hu2.1) Z45 (wd51 hw) (wd50 hw) (by decide) (by decide)) (g := (mkF m 181 #[vI p0, vI p1, vI p2, vI p3, vI p4, vI 4, vI u0, vI u1, vI u2, vI u3, vR b39, vR b44, .unset] [(.int u2)])) rfl (by rw [hml]; rfl) (argsL := [(.int u2)]) (rest := []) (lenOf own_pd17 rfl) rfl (Nat.le_of_eq rfl) (hb hby at_181) (fun _ _ => ⟨rfl, sm49, (by decide : 4 + 0 ≤ _), (by decide : 24 + 0 ≤ _)⟩)
     dsimp only [Pt.U, Pt.locs, Pt.cells, Pt.slots] at X51 l51 y51 z51 st51 hQ51
     subst l51 y51 z51
     obtain ⟨hr51, Nq51, sm51⟩ := hQ51
     have N51 := Fr.app N49 Nq51
     rcases hr51 with ⟨rfl, ct51⟩ | ⟨rfl, ct51⟩
     ·
      refine own_st st51 ?_
      refine own_st (fun tq kq => XS.ifYes X51.here hx rfl (pc0 := 184) (pc' := 201) rfl (hb hby at_184) rfl ((if0 _ _).trans (feq (by decide : ¬ ((1 : Int32) = (0 : Int32)))).2) (by decide) (by decide) kq) ?_
      refine s_iconst X51 hx (hb hby at_201) ?_
      refine own_st (fun tq kq => XS.goto X51.here hx rfl (pc0 := 202) (pc' := 206) rfl (hb hby at_202) (by decide) (by decide) kq) ?_
      refine own_st (fun tq kq => XS.istore X51.here hx rfl (hb hby at_206) rfl (l' := #[vI p0, vI p1, vI p2, vI p3, vI p4, vI 4, vI u0, vI u1, vI u2, vI u3, vR b39, vR b44, vI 1]) rfl kq) ?_
      show own_G p e below _ (T51.setTop (mkF m 208 #[vI p0, vI p1, vI p2, vI p3, vI p4, vI 4, vI u0, vI u1, vI u2, vI u3, vR b39, vR b44, vI 1] []))
      refine s_aload X51 hx (hb hby at_208) rfl rfl ?_
      obtain ⟨_, _, ⟨T52, L52, k52, n52⟩, -, X52, ⟨Lc52, hQ52, l52, y52, z52⟩, st52⟩ := Jvm.LawKit.callS X51 hx (y := mN17) o45 (mvT Z45 (wd23 hw)) (mvT Z45 (wd24 hw)) (mvT Z45 (wd25 hw)) (mvT Z45 (wd26 hw)) (by decide) (own_backN (W := 0) (own_hc4 l Z a0 hw [] (b44) (T45.heap.size) (fm) (G1) (u0) (u1) (u2) (u3) T45.heap n0 (by omega) (X00.keep K45 all0) Su45 O2 P5 OA OH OL O4 rfm) Z45 (wd26 hw) (wd25 hw) (by decide) (by decide)) (g := (mkF m 210 #[vI p0, vI p1, vI p2, vI p3, vI p4, vI 4, vI u0, vI u1, vI u2, vI u3, vR b39, vR b44, vI 1] [(.ref b44)])) rfl (by rw [hml]; rfl) (argsL := [(.ref b44)]) (rest := []) (lenOf own_pd16 rfl) rfl (Nat.le_of_eq rfl) (hb hby at_210) (fun _ _ => ⟨rfl, sm51, (by decide : 4 + 0 ≤ _), (by decide : 24 + 0 ≤ _)⟩)
      dsimp only [Pt.U, Pt.locs, Pt.cells, Pt.slots] at X52 l52 y52 z52 st52 hQ52
      subst l52 y52 z52
      obtain ⟨hr52, Nq52, sm52⟩ := hQ52
      obtain ⟨rfl, ee52⟩ := hr52.resolve_right (fun q => q.2 u2 (by simp) ct51)
      have N52 := Fr.app N51 Nq52
      refine own_st st52 ?_
      refine s_iload X52 hx (hb hby at_213) rfl ?_
      show own_G p e below _ (T52.setTop (mkF m 215 #[vI p0, vI p1, vI p2, vI p3, vI p4, vI 4, vI u0, vI u1, vI u2, vI u3, vR b39, vR b44, vI 1] [(.int 1), (.int 1)]))
      refine own_st (fun tq kq => XS.icmpNo X52.here hx rfl (hb hby at_215) rfl (teq (by decide : ((1 : Int32) = (1 : Int32)))).2 kq) ?_
      refine s_iconst X52 hx (hb hby at_218) ?_
      refine own_st (fun tq kq => XS.goto X52.here hx rfl (pc0 := 219) (pc' := 223) rfl (hb hby at_219) (by decide) (by decide) kq) ?_
      show own_G p e below _ (T52.setTop (mkF m 223 #[vI p0, vI p1, vI p2, vI p3, vI p4, vI 4, vI u0, vI u1, vI u2, vI u3, vR b39, vR b44, vI 1] [(.int 1)]))
      obtain ⟨fs, hr, hrun, hended, hRW⟩ := X52.leaveW S45 (by rw [sm52]; exact (own_le (by omega))) (v := some (.int 1)) (fun h => by rw [Bd.returns] at h; cases h)
      have cE := C45.trans (CHv.at (s := s) (vm0 := T45.vm) X52 Z45 hEL C45.1)
      refine ⟨_, _, retN X52 hx (t := .boolean) Bd.returns (by simp) (hb hby at_223) hr, hrun, hended, _, _, rfl, ?_, ?_, own_RW hRW (by decide) (by decide)⟩
      · change Q_rm0 Z p0 p1 p2 p3 p4 G1 fm h0 n0 _ T52.vm T52.heap _; rw [sm52]; exact ⟨rfl, N52⟩
      · rw [hh]; change CHr Z consts_1 s.vm h0 T52.vm T52.heap; rw [sm52]; exact cE
     ·
      refine own_st st51 ?_
      refine own_st (fun tq kq => XS.ifNo X51.here hx rfl (hb hby at_184) rfl ((if0 _ _).trans (teq (by decide : ((0 : Int32) = (0 : Int32)))).2) kq) ?_
      refine s_iload X51 hx (hb hby at_187) rfl ?_
      refine s_iconst X51 hx (hb hby at_189) ?_
      show own_G p e below _ (T51.setTop (mkF m 190 #[vI p0, vI p1, vI p2, vI p3, vI p4, vI 4, vI u0, vI u1, vI u2, vI u3, vR b39, vR b44, .unset] [(.int 3), (.int 4)]))
      refine own_st (fun tq kq => XS.icmpNo X51.here hx rfl (hb hby at_190) rfl (tlt (by decide : ((3 : Int32) < (4 : Int32)))).2.2.2 kq) ?_
      refine s_iload X51 hx (hb hby at_193) rfl ?_
      obtain ⟨_, _, ⟨T53, L53, k53, n53⟩, -, X53, ⟨Lc53, hQ53, l53, y53, z53⟩, st53⟩ := Jvm.LawKit.callS X51 hx (y := mN19) o45 (mvT Z45 (wd48 hw)) (mvT Z45 (wd49 hw)) (mvT Z45 (wd50 hw)) (mvT Z45 (wd51 hw)) (by decide) (own_backN (W := 0) (own_ctlC l Z a0 hw [] (u3) T45.heap n0 (by omega) (X00.keep K45 all0) hu3.1) Z45 (wd51 hw) (wd50 hw) (by decide) (by decide)) (g := (mkF m 195 #[vI p0, vI p1, vI p2, vI p3, vI p4, vI 4, vI u0, vI u1, vI u2, vI u3, vR b39, vR b44, .unset] [(.int u3)])) rfl (by rw [hml]; rfl) (argsL := [(.int u3)]) (rest := []) (lenOf own_pd17 rfl) rfl (Nat.le_of_eq rfl) (hb hby at_195) (fun _ _ => ⟨rfl, sm51, (by decide : 4 + 0 ≤ _), (by decide : 24 + 0 ≤ _)⟩)
      dsimp only [Pt.U, Pt.locs, Pt.cells, Pt.slots] at X53 l53 y53 z53 st53 hQ53
      subst l53 y53 z53
      obtain ⟨hr53, Nq53, sm53⟩ := hQ53
      have N53 := Fr.app N51 Nq53
      rcases hr53 with ⟨rfl, ct53⟩ | ⟨rfl, ct53⟩
      ·
       refine own_st st53 ?_
       refine own_st (fun tq kq => XS.ifNo X53.here hx rfl (hb hby at_198) rfl ((if0 _ _).trans (feq (by decide : ¬ ((1 : Int32) = (0 : Int32)))).1) kq) ?_
       refine s_iconst X53 hx (hb hby at_201) ?_
       refine own_st (fun tq kq => XS.goto X53.here hx rfl (pc0 := 202) (pc' := 206) rfl (hb hby at_202) (by decide) (by decide) kq) ?_
       refine own_st (fun tq kq => XS.istore X53.here hx rfl (hb hby at_206) rfl (l' := #[vI p0, vI p1, vI p2, vI p3, vI p4, vI 4, vI u0, vI u1, vI u2, vI u3, vR b39, vR b44, vI 1]) rfl kq) ?_
       show own_G p e below _ (T53.setTop (mkF m 208 #[vI p0, vI p1, vI p2, vI p3, vI p4, vI 4, vI u0, vI u1, vI u2, vI u3, vR b39, vR b44, vI 1] []))
       refine s_aload X53 hx (hb hby at_208) rfl rfl ?_
       obtain ⟨_, _, ⟨T54, L54, k54, n54⟩, -, X54, ⟨Lc54, hQ54, l54, y54, z54⟩, st54⟩ := Jvm.LawKit.callS X53 hx (y := mN17) o45 (mvT Z45 (wd23 hw)) (mvT Z45 (wd24 hw)) (mvT Z45 (wd25 hw)) (mvT Z45 (wd26 hw)) (by decide) (own_backN (W := 0) (own_hc4 l Z a0 hw [] (b44) (T45.heap.size) (fm) (G1) (u0) (u1) (u2) (u3) T45.heap n0 (by omega) (X00.keep K45 all0) Su45 O2 P5 OA OH OL O4 rfm) Z45 (wd26 hw) (wd25 hw) (by decide) (by decide)) (g := (mkF m 210 #[vI p0, vI p1, vI p2, vI p3, vI p4, vI 4, vI u0, vI u1, vI u2, vI u3, vR b39, vR b44, vI 1] [(.ref b44)])) rfl (by rw [hml]; rfl) (argsL := [(.ref b44)]) (rest := []) (lenOf own_pd16 rfl) rfl (Nat.le_of_eq rfl) (hb hby at_210) (fun _ _ => ⟨rfl, sm53, (by decide : 4 + 0 ≤ _), (by decide : 24 + 0 ≤ _)⟩)
       dsimp only [Pt.U, Pt.locs, Pt.cells, Pt.slots] at X54 l54 y54 z54 st54 hQ54
       subst l54 y54 z54
       obtain ⟨hr54, Nq54, sm54⟩ := hQ54
       obtain ⟨rfl, ee54⟩ := hr54.resolve_right (fun q => q.2 u3 (by simp) ct53)
       have N54 := Fr.app N53 Nq54
       refine own_st st54 ?_
       refine s_iload X54 hx (hb hby at_213) rfl ?_
       show own_G p e below _ (T54.setTop (mkF m 215 #[vI p0, vI p1, vI p2, vI p3, vI p4, vI 4, vI u0, vI u1, vI u2, vI u3, vR b39, vR b44, vI 1] [(.int 1), (.int 1)]))
       refine own_st (fun tq kq => XS.icmpNo X54.here hx rfl (hb hby at_215) rfl (teq (by decide : ((1 : Int32) = (1 : Int32)))).2 kq) ?_
       refine s_iconst X54 hx (hb hby at_218) ?_
       refine own_st (fun tq kq => XS.goto X54.here hx rfl (pc0 := 219) (pc' := 223) rfl (hb hby at_219) (by decide) (by decide) kq) ?_
       show own_G p e below _ (T54.setTop (mkF m 223 #[vI p0, vI p1, vI p2, vI p3, vI p4, vI 4, vI u0, vI u1, vI u2, vI u3, vR b39, vR b44, vI 1] [(.int 1)]))
       obtain ⟨fs, hr, hrun, hended, hRW⟩ := X54.leaveW S45 (by rw [sm54]; exact (own_le (by omega))) (v := some (.int 1)) (fun h => by rw [Bd.returns] at h; cases h)
       have cE := C45.trans (CHv.at (s := s) (vm0 := T45.vm) X54 Z45 hEL C45.1)
       refine ⟨_, _, retN X54 hx (t := .boolean) Bd.returns (by simp) (hb hby at_223) hr, hrun, hended, _, _, rfl, ?_, ?_, own_RW hRW (by decide) (by decide)⟩
       · change Q_rm0 Z p0 p1 p2 p3 p4 G1 fm h0 n0 _ T54.vm T54.heap _; rw [sm54]; exact ⟨rfl, N54⟩
       · rw [hh]; change CHr Z consts_1 s.vm h0 T54.vm T54.heap; rw [sm54]; exact cE
      ·
       refine own_st st53 ?_
       refine own_st (fun tq kq => XS.ifYes X53.here hx rfl (pc0 := 198) (pc' := 205) rfl (hb hby at_198) rfl ((if0 _ _).trans (teq (by decide : ((0 : Int32) = (0 : Int32)))).1) (by decide) (by decide) kq) ?_
       refine s_iconst X53 hx (hb hby at_205) ?_
       refine own_st (fun tq kq => XS.istore X53.here hx rfl (hb hby at_206) rfl (l' := #[vI p0, vI p1, vI p2, vI p3, vI p4, vI 4, vI u0, vI u1, vI u2, vI u3, vR b39, vR b44, vI 0]) rfl kq) ?_
       refine s_aload X53 hx (hb hby at_208) rfl rfl ?_
       show own_G p e below _ (T53.setTop (mkF m 210 #[vI p0, vI p1, vI p2, vI p3, vI p4, vI 4, vI u0, vI u1, vI u2, vI u3, vR b39, vR b44, vI 0] [(.ref b44)]))
       obtain ⟨_, _, ⟨T55, L55, k55, n55⟩, -, X55, ⟨Lc55, hQ55, l55, y55, z55⟩, st55⟩ := Jvm.LawKit.callS X53 hx (y := mN17) o45 (mvT Z45 (wd23 hw)) (mvT Z45 (wd24 hw)) (mvT Z45 (wd25 hw)) (mvT Z45 (wd26 hw)) (by decide) (own_backN (W := 0) (own_hc4 l Z a0 hw [] (b44) (T45.heap.size) (fm) (G1) (u0) (u1) (u2) (u3) T45.heap n0 (by omega) (X00.keep K45 all0) Su45 O2 P5 OA OH OL O4 rfm) Z45 (wd26 hw) (wd25 hw) (by decide) (by decide)) (g := (mkF m 210 #[vI p0, vI p1, vI p2, vI p3, vI p4, vI 4, vI u0, vI u1, vI u2, vI u3, vR b39, vR b44, vI 0] [(.ref b44)])) rfl (by rw [hml]; rfl) (argsL := [(.ref b44)]) (rest := []) (lenOf own_pd16 rfl) rfl (Nat.le_of_eq rfl) (hb hby at_210) (fun _ _ => ⟨rfl, sm53, (by decide : 4 + 0 ≤ _), (by decide : 24 + 0 ≤ _)⟩)
       dsimp only [Pt.U, Pt.locs, Pt.cells, Pt.slots] at X55 l55 y55 z55 st55 hQ55
       subst l55 y55 z55
       obtain ⟨hr55, Nq55, sm55⟩ := hQ55
       obtain ⟨rfl, ee55⟩ := hr55.resolve_left (fun q => by obtain ⟨y, hy, hq⟩ := q.2; have qq : ∀ c ∈ ([u0, u1, u2, u3] : List Int32), ¬ own_ctl c := own_all4 ct47 ct49 ct51 ct53; exact qq y hy hq)
       have N55 := Fr.app N53 Nq55
       refine own_st st55 ?_
       refine s_iload X55 hx (hb hby at_213) rfl ?_
       show own_G p e below _ (T55.setTop (mkF m 215 #[vI p0, vI p1, vI p2, vI p3, vI p4, vI 4, vI u0, vI u1, vI u2, vI u3, vR b39, vR b44, vI 0] [(.int 0), (.int 0)]))
       refine own_st (fun tq kq => XS.icmpNo X55.here hx rfl (hb hby at_215) rfl (teq (by decide : ((0 : Int32) = (0 : Int32)))).2 kq) ?_
       refine s_iconst X55 hx (hb hby at_218) ?_
       refine own_st (fun tq kq => XS.goto X55.here hx rfl (pc0 := 219) (pc' := 223) rfl (hb hby at_219) (by decide) (by decide) kq) ?_
       show own_G p e below _ (T55.setTop (mkF m 223 #[vI p0, vI p1, vI p2, vI p3, vI p4, vI 4, vI u0, vI u1, vI u2, vI u3, vR b39, vR b44, vI 0] [(.int 1)]))
       obtain ⟨fs, hr, hrun, hended, hRW⟩ := X55.leaveW S45 (by rw [sm55]; exact (own_le (by omega))) (v := some (.int 1)) (fun h => by rw [Bd.returns] at h; cases h)
       have cE := C45.trans (CHv.at (s := s) (vm0 := T45.vm) X55 Z45 hEL C45.1)
       refine ⟨_, _, retN X55 hx (t := .boolean) Bd.returns (by simp) (hb hby at_223) hr, hrun, hended, _, _, rfl, ?_, ?_, own_RW hRW (by decide) (by decide)⟩
       · change Q_rm0 Z p0 p1 p2 p3 p4 G1 fm h0 n0 _ T55.vm T55.heap _; rw [sm55]; exact ⟨rfl, N55⟩
       · rw [hh]; change CHr Z consts_1 s.vm h0 T55.vm T55.heap; rw [sm55]; exact cE
 refine own_st (fun tq kq => castTop (ef_rm0 m (p0) (p1) (p2) (p3) (p4)) kq) ?_
 show own_G p e below _ (s₁.setTop (mkF m 0 #[vI p0, vI p1, vI p2, vI p3, vI p4, .unset, .unset, .unset, .unset, .unset, .unset, .unset, .unset] []))
 refine s_iloadN X0 hx (hb hby at_0) rfl ?_
 refine own_st (fun tq kq => X0.ldcInt hx hown (mvT hZ (wd0 hw)) (g := (mkF m 1 #[vI p0, vI p1, vI p2, vI p3, vI p4, .unset, .unset, .unset, .unset, .unset, .unset, .unset, .unset] [(.int p0)])) rfl (hb hby at_1) _ kq) ?_
 refine own_st (fun tq kq => XS.iand X0.here hx rfl (hb hby at_3) rfl kq) ?_
 refine s_iconst X0 hx (hb hby at_4) ?_
 show own_G p e below _ (s₁.setTop (mkF m 5 #[vI p0, vI p1, vI p2, vI p3, vI p4, .unset, .unset, .unset, .unset, .unset, .unset, .unset, .unset] [(.int 5), (.int (p0 &&& (2147483647 : Int32)))]))
 refine own_st (fun tq kq => Jvm.RoadKit.iremM (g := (mkF m 5 #[vI p0, vI p1, vI p2, vI p3, vI p4, .unset, .unset, .unset, .unset, .unset, .unset, .unset, .unset] [(.int 5), (.int (p0 &&& (2147483647 : Int32)))])) X0 hx rfl (hb hby at_5) rfl (by decide) kq) ?_
 refine own_st (fun tq kq => XS.istore X0.here hx rfl (hb hby at_6) rfl (l' := #[vI p0, vI p1, vI p2, vI p3, vI p4, vI ((p0 &&& (2147483647 : Int32)) % (5 : Int32)), .unset, .unset, .unset, .unset, .unset, .unset, .unset]) rfl kq) ?_
 refine s_iloadN X0 hx (hb hby at_8) rfl ?_
 refine own_st (fun tq kq => XS.i2c X0.here hx rfl (hb hby at_9) rfl kq) ?_
 show own_G p e below _ (s₁.setTop (mkF m 10 #[vI p0, vI p1, vI p2, vI p3, vI p4, vI ((p0 &&& (2147483647 : Int32)) % (5 : Int32)), .unset, .unset, .unset, .unset, .unset, .unset, .unset] [(.int (p1.toUInt32.toUInt16.toUInt32.toInt32))]))
 refine own_st (fun tq kq => XS.istore X0.here hx rfl (hb hby at_10) rfl (l' := #[vI p0, vI p1, vI p2, vI p3, vI p4, vI ((p0 &&& (2147483647 : Int32)) % (5 : Int32)), vI (p1.toUInt32.toUInt16.toUInt32.toInt32), .unset, .unset, .unset, .unset, .unset, .unset]) rfl kq) ?_
 refine s_iloadN X0 hx (hb hby at_12) rfl ?_
 refine own_st (fun tq kq => XS.i2c X0.here hx rfl (hb hby at_13) rfl kq) ?_
 refine own_st (fun tq kq => XS.istore X0.here hx rfl (hb hby at_14) rfl (l' := #[vI p0, vI p1, vI p2, vI p3, vI p4, vI ((p0 &&& (2147483647 : Int32)) % (5 : Int32)), vI (p1.toUInt32.toUInt16.toUInt32.toInt32), vI (p2.toUInt32.toUInt16.toUInt32.toInt32), .unset, .unset, .unset, .unset, .unset]) rfl kq) ?_
 show own_G p e below _ (s₁.setTop (mkF m 16 #[vI p0, vI p1, vI p2, vI p3, vI p4, vI ((p0 &&& (2147483647 : Int32)) % (5 : Int32)), vI (p1.toUInt32.toUInt16.toUInt32.toInt32), vI (p2.toUInt32.toUInt16.toUInt32.toInt32), .unset, .unset, .unset, .unset, .unset] []))
 refine s_iloadN X0 hx (hb hby at_16) rfl ?_
 refine own_st (fun tq kq => XS.i2c X0.here hx rfl (hb hby at_17) rfl kq) ?_
 refine own_st (fun tq kq => XS.istore X0.here hx rfl (hb hby at_18) rfl (l' := #[vI p0, vI p1, vI p2, vI p3, vI p4, vI ((p0 &&& (2147483647 : Int32)) % (5 : Int32)), vI (p1.toUInt32.toUInt16.toUInt32.toInt32), vI (p2.toUInt32.toUInt16.toUInt32.toInt32), vI (p3.toUInt32.toUInt16.toUInt32.toInt32), .unset, .unset, .unset, .unset]) rfl kq) ?_
 refine s_iload X0 hx (hb hby at_20) rfl ?_
 show own_G p e below _ (s₁.setTop (mkF m 22 #[vI p0, vI p1, vI p2, vI p3, vI p4, vI ((p0 &&& (2147483647 : Int32)) % (5 : Int32)), vI (p1.toUInt32.toUInt16.toUInt32.toInt32), vI (p2.toUInt32.toUInt16.toUInt32.toInt32), vI (p3.toUInt32.toUInt16.toUInt32.toInt32), .unset, .unset, .unset, .unset] [(.int p4)]))
 refine own_st (fun tq kq => XS.i2c X0.here hx rfl (hb hby at_22) rfl kq) ?_
 refine own_st (fun tq kq => XS.istore X0.here hx rfl (hb hby at_23) rfl (l' := #[vI p0, vI p1, vI p2, vI p3, vI p4, vI ((p0 &&& (2147483647 : Int32)) % (5 : Int32)), vI (p1.toUInt32.toUInt16.toUInt32.toInt32), vI (p2.toUInt32.toUInt16.toUInt32.toInt32), vI (p3.toUInt32.toUInt16.toUInt32.toInt32), vI (p4.toUInt32.toUInt16.toUInt32.toInt32), .unset, .unset, .unset]) rfl kq) ?_
 show own_G p e below _ (s₁.setTop (mkF m 25 #[vI p0, vI p1, vI p2, vI p3, vI p4, vI ((p0 &&& (2147483647 : Int32)) % (5 : Int32)), vI (p1.toUInt32.toUInt16.toUInt32.toInt32), vI (p2.toUInt32.toUInt16.toUInt32.toInt32), vI (p3.toUInt32.toUInt16.toUInt32.toInt32), vI (p4.toUInt32.toUInt16.toUInt32.toInt32), .unset, .unset, .unset] []))
 exact tail s₁ ((p0 &&& (2147483647 : Int32)) % (5 : Int32)) (p1.toUInt32.toUInt16.toUInt32.toInt32) (p2.toUInt32.toUInt16.toUInt32.toInt32) (p3.toUInt32.toUInt16.toUInt32.toInt32) (p4.toUInt32.toUInt16.toUInt32.toInt32) X0 e0 (own_rem5 _) (own_i2cb _) (own_i2cb _) (own_i2cb _) (own_i2cb _) (own_i2cn _) (own_i2cn _) (own_i2cn _) (own_i2cn _)

set_option maxRecDepth 65536 in
set_option maxHeartbeats 40000000 in
theorem comes_1 {Post : Tables → Env → Array Value → State → Outcome → State → Prop} (hpost : ∀ tb e args s v u, (limb_1_1.after args s (.returned v) u = true ∧ limb_1_2.after args s (.returned v) u = true ∧ True) → ReturnedEndW s (.returned v) u (Jvm.fieldLocs frame_1_writes args s ++ Jvm.arrayLocs frame_1_arrays args s ++ Jvm.staticLocs frame_1_statics s) 24 1152 → Post tb e args s (.returned v) u) :
    ArmFor flags0 classFile x code maxLocals ret World_1 tables_1 room_1 Calls_1 rest_1 Pre_1 Post := by
  intro l hfl _ _ p e ha hc hk s m args below hf hA hF happ hP
  obtain ⟨hcalls, hrest, hpre⟩ := hP
  obtain ⟨-, -, -, hnamed, -, -, -, hat⟩ := (Spec.applies_iff hf).mp happ
  obtain ⟨hg, hn⟩ := and_e (Cond.before_iff.mp (show (Jvm.Cond.and given_1 narrow_1).before args s = true from hpre))
  obtain ⟨ga0, gb0⟩ := and_e hg
  obtain ⟨ga1, gb1⟩ := and_e gb0
  obtain ⟨ga2, gb2⟩ := and_e gb1
  obtain ⟨ga3, gb3⟩ := and_e gb2
  obtain ⟨ga4, gb4⟩ := and_e gb3
  obtain ⟨w0, w1, w2, w3, w4, rfl⟩ : ∃ w0 w1 w2 w3 w4 : Value, args = #[w0, w1, w2, w3, w4] := by
    have hs : args.size = 5 := by simpa [Cond.value, given_1] using ga0
    obtain ⟨L⟩ := args
    match L, hs with
    | [w0, w1, w2, w3, w4], _ => exact ⟨w0, w1, w2, w3, w4, rfl⟩
  have hw := fun d (hd : d ∈ tables_1) => atoms_spec (ws := Jvm.Cond.code x code maxLocals ret :: tables_1) hat d (List.mem_cons_of_mem _ hd)
  have hfit : Fit s := fun {y c} hc i hi => by
    obtain ⟨ha, rfl⟩ := Array.getElem?_eq_some_iff.mp hc
    have q := List.all_eq_true.mp ((Array.all_eq_true_iff_forall_mem.mp hF) _ (Array.getElem_mem ha)) i (List.mem_range.mpr hi)
    simpa [Array.getElem?_eq_getElem hi] using q
  obtain ⟨hsets, hown0⟩ := atoms_of _ (rest_1_c_eq ▸ (show rest_1_c.before _ s = true from hrest))
  have hr0 := Cond.before_iff.mp hown0
  obtain ⟨i0, ei0⟩ := is_v ga1
  obtain rfl : w0 = (.int i0) := Option.some.inj ei0
  obtain ⟨i1, ei1⟩ := is_v ga2
  obtain rfl : w1 = (.int i1) := Option.some.inj ei1
  obtain ⟨i2, ei2⟩ := is_v ga3
  obtain rfl : w2 = (.int i2) := Option.some.inj ei2
  obtain ⟨i3, ei3⟩ := is_v ga4
  obtain rfl : w3 = (.int i3) := Option.some.inj ei3
  obtain ⟨i4, ei4⟩ := is_v gb4
  obtain rfl : w4 = (.int i4) := Option.some.inj ei4
  have n5 := not_v (Cond.before_iff.mp (hsets _ (List.mem_of_getElem? (i := 2) rfl)))
  obtain ⟨iG, eG⟩ := is_v (Cond.before_iff.mp (hsets _ (List.mem_of_getElem? (i := 1) rfl)))
  have SG : Sta s s.heap "java/lang/String" "COMPACT_STRINGS" "Z" (.int iG) := Sta.start eG (Or.inl (hsets _ (List.mem_of_getElem? (i := 0) rfl)))
  have cG : ¬ (iG = (0 : Int32)) := gotF (Cond.eq_ints eG (Term.int_eval (0))) n5
  have OA : Sta s s.heap "java/lang/StringUTF16" "$assertionsDisabled" "Z" (.int (1 : Int32)) := Sta.start (Cond.eq_int (hsets _ (List.mem_of_getElem? (i := 12) rfl)) rfl) (Or.inl (hsets _ (List.mem_of_getElem? (i := 11) rfl)))
  have OH : Sta s s.heap "java/lang/StringUTF16" "HI_BYTE_SHIFT" "I" (.int (0 : Int32)) := Sta.start (Cond.eq_int (hsets _ (List.mem_of_getElem? (i := 15) rfl)) rfl) (Or.inl (hsets _ (List.mem_of_getElem? (i := 14) rfl)))
  have OL : Sta s s.heap "java/lang/StringUTF16" "LO_BYTE_SHIFT" "I" (.int (8 : Int32)) := Sta.start (Cond.eq_int (hsets _ (List.mem_of_getElem? (i := 18) rfl)) rfl) (Or.inl (hsets _ (List.mem_of_getElem? (i := 17) rfl)))
  obtain ⟨fm, efm, rfm⟩ := isR_v (Cond.before_iff.mp (hsets _ (List.mem_of_getElem? (i := 8) rfl)))
  have O4 : Sta s s.heap "jdk/internal/util/Preconditions" "SIOOBE_FORMATTER" "Ljava/util/function/BiFunction;" fm := Sta.start efm (Or.inl (hsets _ (List.mem_of_getElem? (i := 7) rfl)))
  have hEL : EW s _ consts_1 := (EW.cons (wd15 hw) (by decide) EW.nil)
  have hheld : ∀ p ∈ consts_1, Jvm.Lit.constHeld s p.1 p.2 := hcalls.1
  have hcw : Jvm.Lit.compactW.before _ s = true := hsets _ (List.mem_of_getElem? (i := 2) rfl)
  have hCH : CHv s consts_1 s.vm s.heap := CHv.start hEL hheld hcw (wd16 hw) (wd3 hw)
  obtain ⟨n, o, h1, h2, h3, _, L, rfl, ⟨rfl, N⟩, -, hq⟩ := rm0 l s _ hw hEL tables_1 i0 i1 i2 i3 i4 iG fm s.heap s.heap.size (Nat.le_refl _) (Old.start s) SG cG OA OH OL O4 rfm p e ha hc hk s m _ below hf ((Spec.applies_iff_loose hf).mp happ).1 ⟨rfl, State.Warmed39.refl s, rfl, hCH, all0⟩ trivial
  refine ⟨n, _, h1, h2, h3, hpost _ _ _ _ _ _ ⟨Cond.after_iff.mpr rfl, Cond.after_iff.mpr (eq_i res_at (Term.int_eval (1)) rfl), trivial⟩ ⟨hq.1, hq.2.1, hq.2.2.1, (hq.2.2.2.sift fun y hy => Or.inr (N y hy)).mono (by decide) (by decide)⟩⟩
theorem main_1_1 : Claimed_1_1 := comes_1 fun _ _ _ _ _ _ h hF => ⟨h.1, hF⟩
theorem main_1_2 : Claimed_1_2 := comes_1 fun _ _ _ _ _ _ h hF => ⟨h.2.1, hF⟩
end Jvm.Pilot.@@N@@
namespace Jvm.Pilot.@@N@@
open Jvm Jvm.ClassFile Sem Op Lib Jvm.Free Jvm.Stand Jvm.Pilot.@@N@@.Jvm.D
/-! MADE BY PROGRAM (witnessworld.py) out of the Statement's table words and the real class files: 20 classes; the members and pool entries that the words name. The judged class is class 1, her method 2. -/
namespace start1
open Jvm.ClassFile
def u (s : String) : CpInfo := .utf8 (stringToUtf16 s)
/-- a pool by its gaps: so many unusable entries, then the entry; so many at the end -/
def gap : Nat → List CpInfo → List CpInfo
  | 0, r => r
  | n + 1, r => .unusable :: gap n r
def poolList (es : List (Nat × CpInfo)) (last : Nat) : List CpInfo := es.foldr (fun e r => gap e.1 (e.2 :: r)) (gap last [])
def pool (es : List (Nat × CpInfo)) (last : Nat) : Array CpInfo := ⟨poolList es last⟩
def fileOf (pool : Array CpInfo) (this : Nat) (attrs : Array Attribute := #[]) (ms : Array MethodInfo := #[]) (fl : Nat := 33) (sup : Nat := 0) (ifs : Array Nat := #[]) (fds : Array FieldInfo := #[]) : ClassFile where
  minorVersion := 0
  majorVersion := 65
  constantPool := pool
  accessFlags := fl
  thisClass := this
  superClass := sup
  interfaces := ifs
  fields := fds
  methods := ms
  attributes := attrs
def plain (name : String) (sup : Option ClassId) : Class where
  name := name
  kind := .ordinary
  loader := none
  accessFlags := 33
  super := sup
  interfaces := #[]
  cf := none
  fields := #[]
  methods := #[]
  instanceTypes := #[]
  staticTypes := #[]
  resolved := #[]
  callSites := []
  init := .initialized
  statics := none
  mirror := none

def pool0 : Array CpInfo := pool [(5, u "<init>"), (0, u "()V"), (1, .class_ 10), (1, u "java/lang/Object")] 113

def k0c0 : Code := { maxStack := 0, maxLocals := 1, code := object_method_1_code, exceptionTable := #[], attributes := #[] }
def k0m0 : Method := { name := "<init>", desc := "()V", sig := { parameters := [], returnType := none }, accessFlags := 1, code := some k0c0 }
/-- java/lang/Object -/
def k0 : Class := { plain "java/lang/Object" none with
  accessFlags := 33
  interfaces := #[]
  cf := some (fileOf pool0 8 #[] #[{ accessFlags := 1, nameIndex := 5, descriptorIndex := 6, attributes := #[] }] 33 0 #[] #[])
  fields := #[]
  methods := #[k0m0]
  instanceTypes := #[]
  staticTypes := #[]
  resolved := Array.replicate 124 none
  statics := none }

def pool1 : Array CpInfo := pool [(2, .class_ 4), (1, u "java/lang/Object"), (0, u "<init>"), (0, u "()V"), (0, .integer 2147483647), (0, .class_ 9), (0, u "java/lang/String"), (0, .methodref 8 11), (0, .nameAndType 5 12), (0, u "([C)V"), (0, .methodref 14 15), (0, .class_ 16), (0, .nameAndType 17 18), (0, u "com/example/ward/ward/BasicCredentialsHoldsControlPinLaw"), (0, u "ctl"), (0, u "(C)Z"), (0, .methodref 20 21), (0, .class_ 22), (0, .nameAndType 23 24), (0, u "com/example/ward/ward/BasicCredentials"), (0, u "holdsControl"), (0, u "(Ljava/lang/String;)Z"), (3, u "law"), (0, u "(IIIII)Z")] 4

def k1m0 : Method := { name := "<init>", desc := "()V", sig := { parameters := [], returnType := none }, accessFlags := 2, code := none }
def k1c1 : Code := { maxStack := 2, maxLocals := 2, code := method_2_code, exceptionTable := #[], attributes := #[] }
def k1m1 : Method := { name := "ctl", desc := "(C)Z", sig := { parameters := [.char], returnType := some .boolean }, accessFlags := 10, code := some k1c1 }
def k1c2 : Code := { maxStack := 4, maxLocals := 13, code := code, exceptionTable := #[], attributes := #[] }
def k1m2 : Method := { name := "law", desc := "(IIIII)Z", sig := { parameters := [.int, .int, .int, .int, .int], returnType := some .boolean }, accessFlags := 9, code := some k1c2 }
/-- com/example/ward/ward/BasicCredentialsHoldsControlPinLaw -/
def k1 : Class := { plain "com/example/ward/ward/BasicCredentialsHoldsControlPinLaw" (some 0) with
  accessFlags := 49
  interfaces := #[]
  cf := some (fileOf pool1 14 #[] #[{ accessFlags := 2, nameIndex := 5, descriptorIndex := 6, attributes := #[] }, { accessFlags := 10, nameIndex := 17, descriptorIndex := 18, attributes := #[] }, { accessFlags := 9, nameIndex := 28, descriptorIndex := 29, attributes := #[] }] 49 2 #[] #[])
  fields := #[]
  methods := #[k1m0, k1m1, k1m2]
  instanceTypes := #[]
  staticTypes := #[]
  resolved := Array.replicate 34 none
  statics := none }

def pool2 : Array CpInfo := pool [(1, .class_ 2), (0, u "java/io/Serializable"), (0, .class_ 4), (0, u "java/lang/Object")] 2

/-- java/io/Serializable -/
def k2 : Class := { plain "java/io/Serializable" (some 0) with
  accessFlags := 1537
  interfaces := #[]
  cf := some (fileOf pool2 1 #[] #[] 1537 3 #[] #[])
  fields := #[]
  methods := #[]
  instanceTypes := #[]
  staticTypes := #[]
  resolved := Array.replicate 7 none
  statics := none }

def pool3 : Array CpInfo := pool [(1, .class_ 2), (0, u "java/lang/Comparable"), (0, .class_ 4), (0, u "java/lang/Object")] 7

/-- java/lang/Comparable -/
def k3 : Class := { plain "java/lang/Comparable" (some 0) with
  accessFlags := 1537
  interfaces := #[]
  cf := some (fileOf pool3 1 #[] #[] 1537 3 #[] #[])
  fields := #[]
  methods := #[]
  instanceTypes := #[]
  staticTypes := #[]
  resolved := Array.replicate 12 none
  statics := none }

def pool4 : Array CpInfo := pool [(2, .class_ 4), (1, u "java/lang/CharSequence"), (42, .class_ 48), (0, u "java/lang/CharSequence$1CodePointIterator"), (10, .class_ 60), (0, u "java/lang/CharSequence$1CharIterator"), (5, .class_ 67), (0, u "java/lang/Object")] 63

/-- java/lang/CharSequence -/
def k4 : Class := { plain "java/lang/CharSequence" (some 0) with
  accessFlags := 1537
  interfaces := #[]
  cf := some (fileOf pool4 2 #[.nestMembers #[47, 59]] #[] 1537 66 #[] #[])
  fields := #[]
  methods := #[]
  instanceTypes := #[]
  staticTypes := #[]
  resolved := Array.replicate 131 none
  statics := none }

def pool5 : Array CpInfo := pool [(1, .class_ 2), (0, u "java/lang/constant/Constable"), (0, .class_ 4), (0, u "java/lang/Object")] 6

/-- java/lang/constant/Constable -/
def k5 : Class := { plain "java/lang/constant/Constable" (some 0) with
  accessFlags := 1537
  interfaces := #[]
  cf := some (fileOf pool5 1 #[] #[] 1537 3 #[] #[])
  fields := #[]
  methods := #[]
  instanceTypes := #[]
  staticTypes := #[]
  resolved := Array.replicate 11 none
  statics := none }

def pool6 : Array CpInfo := pool [(1, .class_ 2), (0, u "java/lang/constant/ConstantDesc"), (0, .class_ 4), (0, u "java/lang/Object")] 32

/-- java/lang/constant/ConstantDesc -/
def k6 : Class := { plain "java/lang/constant/ConstantDesc" (some 0) with
  accessFlags := 1537
  interfaces := #[]
  cf := some (fileOf pool6 1 #[] #[] 1537 3 #[] #[])
  fields := #[]
  methods := #[]
  instanceTypes := #[]
  staticTypes := #[]
  resolved := Array.replicate 37 none
  statics := none }

def pool7 : Array CpInfo := pool [(1, .methodref 2 3), (0, .class_ 4), (0, .nameAndType 5 6), (0, u "java/lang/Object"), (0, u "<init>"), (0, u "()V"), (0, .string 8), (0, u ""), (0, .fieldref 10 11), (0, .class_ 12), (0, .nameAndType 13 14), (0, u "java/lang/String"), (0, u "value"), (0, u "[B"), (0, .fieldref 10 16), (0, .nameAndType 17 18), (0, u "coder"), (0, u "B"), (2, u "hash"), (0, u "I"), (2, u "hashIsZero"), (0, u "Z"), (0, .methodref 10 28), (0, .nameAndType 5 29), (0, u "([CIILjava/lang/Void;)V"), (8, .fieldref 10 39), (0, .nameAndType 40 26), (0, u "COMPACT_STRINGS"), (1, .class_ 44), (1, u "java/lang/StringUTF16"), (0, u "compress"), (1, .methodref 42 48), (0, .nameAndType 49 50), (0, u "coderFromArrayLen"), (0, u "([BI)B"), (56, .class_ 109), (1, u "java/lang/StringLatin1"), (32, u "()Z"), (34, .methodref 42 178), (0, .nameAndType 45 179), (0, u "([CII)[B"), (154, u "()I"), (0, .methodref 10 336), (0, .nameAndType 17 337), (0, u "()B"), (25, u "([BI)C"), (27, u "(II)V"), (35, u "(I)C"), (64, .methodref 10 493), (0, .nameAndType 494 142), (0, u "isLatin1"), (0, .methodref 107 496), (0, .nameAndType 497 363), (0, u "charAt"), (0, .methodref 42 496), (2, u "checkIndex"), (5, u "length"), (67, .class_ 576), (0, u "java/lang/CharSequence"), (22, u "CASE_INSENSITIVE_ORDER"), (0, u "Ljava/util/Comparator;"), (409, u "([C)V"), (42, .fieldref 1054 1055), (0, .class_ 1056), (0, .nameAndType 1057 1058), (0, u "jdk/internal/util/Preconditions"), (0, u "SIOOBE_FORMATTER"), (0, u "Ljava/util/function/BiFunction;"), (0, .methodref 1054 1060), (0, .nameAndType 501 1061), (0, u "(IILjava/util/function/BiFunction;)I"), (39, u "serialPersistentFields"), (0, u "[Ljava/io/ObjectStreamField;"), (0, .class_ 1104), (0, u "java/lang/String$CaseInsensitiveComparator"), (1, .class_ 1107), (0, u "java/io/Serializable"), (0, .class_ 1109), (0, u "java/lang/Comparable"), (0, .class_ 1111), (0, u "java/lang/constant/Constable"), (0, .class_ 1113), (0, u "java/lang/constant/ConstantDesc"), (2, u "serialVersionUID"), (0, u "J"), (3, u "REPL"), (0, u "C"), (2, u "LATIN1"), (1, u "UTF16")] 323

def k7m0 : Method := { name := "<init>", desc := "()V", sig := { parameters := [], returnType := none }, accessFlags := 1, code := none }
def k7c1 : Code := { maxStack := 5, maxLocals := 2, code := jdk_42_method_3_code, exceptionTable := #[], attributes := #[] }
def k7m1 : Method := { name := "<init>", desc := "([C)V", sig := { parameters := [(.array .char)], returnType := none }, accessFlags := 1, code := some k7c1 }
def k7c2 : Code := { maxStack := 2, maxLocals := 1, code := jdk_42_method_54_code, exceptionTable := #[], attributes := #[] }
def k7m2 : Method := { name := "length", desc := "()I", sig := { parameters := [], returnType := some .int }, accessFlags := 1, code := some k7c2 }
def k7c3 : Code := { maxStack := 2, maxLocals := 2, code := jdk_42_method_56_code, exceptionTable := #[], attributes := #[] }
def k7m3 : Method := { name := "charAt", desc := "(I)C", sig := { parameters := [.int], returnType := some .char }, accessFlags := 1, code := some k7c3 }
def k7c4 : Code := { maxStack := 4, maxLocals := 6, code := jdk_42_method_149_code, exceptionTable := #[], attributes := #[] }
def k7m4 : Method := { name := "<init>", desc := "([CIILjava/lang/Void;)V", sig := { parameters := [(.array .char), .int, .int, (.object "java/lang/Void")], returnType := none }, accessFlags := 2, code := some k7c4 }
def k7c5 : Code := { maxStack := 1, maxLocals := 1, code := jdk_42_method_152_code, exceptionTable := #[], attributes := #[] }
def k7m5 : Method := { name := "coder", desc := "()B", sig := { parameters := [], returnType := some .byte }, accessFlags := 0, code := some k7c5 }
def k7c6 : Code := { maxStack := 1, maxLocals := 1, code := jdk_42_method_154_code, exceptionTable := #[], attributes := #[] }
def k7m6 : Method := { name := "isLatin1", desc := "()Z", sig := { parameters := [], returnType := some .boolean }, accessFlags := 0, code := some k7c6 }
def k7c7 : Code := { maxStack := 3, maxLocals := 2, code := jdk_42_method_155_code, exceptionTable := #[], attributes := #[] }
def k7m7 : Method := { name := "checkIndex", desc := "(II)V", sig := { parameters := [.int, .int], returnType := none }, accessFlags := 8, code := some k7c7 }
/-- java/lang/String -/
def k7 : Class := { plain "java/lang/String" (some 0) with
  accessFlags := 49
  interfaces := #[2, 3, 4, 5, 6]
  cf := some (fileOf pool7 10 #[.nestMembers #[1103]] #[{ accessFlags := 1, nameIndex := 5, descriptorIndex := 6, attributes := #[] }, { accessFlags := 1, nameIndex := 5, descriptorIndex := 1010, attributes := #[] }, { accessFlags := 1, nameIndex := 507, descriptorIndex := 334, attributes := #[] }, { accessFlags := 1, nameIndex := 497, descriptorIndex := 427, attributes := #[] }, { accessFlags := 2, nameIndex := 5, descriptorIndex := 29, attributes := #[] }, { accessFlags := 0, nameIndex := 17, descriptorIndex := 337, attributes := #[] }, { accessFlags := 0, nameIndex := 494, descriptorIndex := 142, attributes := #[] }, { accessFlags := 8, nameIndex := 501, descriptorIndex := 391, attributes := #[] }] 49 2 #[1106, 1108, 575, 1110, 1112] #[{ accessFlags := 18, nameIndex := 13, descriptorIndex := 14, attributes := #[] }, { accessFlags := 18, nameIndex := 17, descriptorIndex := 18, attributes := #[] }, { accessFlags := 2, nameIndex := 21, descriptorIndex := 22, attributes := #[] }, { accessFlags := 2, nameIndex := 25, descriptorIndex := 26, attributes := #[] }, { accessFlags := 26, nameIndex := 1116, descriptorIndex := 1117, attributes := #[] }, { accessFlags := 24, nameIndex := 40, descriptorIndex := 26, attributes := #[] }, { accessFlags := 26, nameIndex := 1101, descriptorIndex := 1102, attributes := #[] }, { accessFlags := 26, nameIndex := 1121, descriptorIndex := 1122, attributes := #[] }, { accessFlags := 25, nameIndex := 599, descriptorIndex := 600, attributes := #[] }, { accessFlags := 24, nameIndex := 1125, descriptorIndex := 18, attributes := #[] }, { accessFlags := 24, nameIndex := 1127, descriptorIndex := 18, attributes := #[] }])
  fields := #[{ name := "value", type := (.array .byte), accessFlags := 18, slot := 0, constantValue := 0 }, { name := "coder", type := .byte, accessFlags := 18, slot := 1, constantValue := 0 }, { name := "hash", type := .int, accessFlags := 2, slot := 2, constantValue := 0 }, { name := "hashIsZero", type := .boolean, accessFlags := 2, slot := 3, constantValue := 0 }, { name := "serialVersionUID", type := .long, accessFlags := 26, slot := 0, constantValue := 0 }, { name := "COMPACT_STRINGS", type := .boolean, accessFlags := 24, slot := 1, constantValue := 0 }, { name := "serialPersistentFields", type := (.array (.object "java/io/ObjectStreamField")), accessFlags := 26, slot := 2, constantValue := 0 }, { name := "REPL", type := .char, accessFlags := 26, slot := 3, constantValue := 0 }, { name := "CASE_INSENSITIVE_ORDER", type := (.object "java/util/Comparator"), accessFlags := 25, slot := 4, constantValue := 0 }, { name := "LATIN1", type := .byte, accessFlags := 24, slot := 5, constantValue := 0 }, { name := "UTF16", type := .byte, accessFlags := 24, slot := 6, constantValue := 0 }]
  methods := #[k7m0, k7m1, k7m2, k7m3, k7m4, k7m5, k7m6, k7m7]
  instanceTypes := #[(.array .byte), .byte, .int, .boolean]
  staticTypes := #[.long, .boolean, (.array (.object "java/io/ObjectStreamField")), .char, (.object "java/util/Comparator"), .byte, .byte]
  resolved := Array.replicate 1451 none
  statics := some 0 }

def pool8 : Array CpInfo := pool [(2, .class_ 4), (1, u "java/lang/Object"), (3, .class_ 10), (1, u "com/example/ward/ward/BasicCredentials"), (0, u "userId"), (0, u "Ljava/lang/String;"), (2, u "password"), (7, .class_ 25), (1, u "java/lang/String"), (2, .methodref 23 29), (0, .nameAndType 30 31), (0, u "length"), (0, u "()I"), (9, u "(Ljava/lang/String;)Z"), (0, .methodref 23 43), (0, .nameAndType 44 45), (0, u "charAt"), (0, u "(I)C"), (16, u "holdsControl"), (73, u "SCHEME")] 29

def k8c0 : Code := { maxStack := 2, maxLocals := 3, code := prog_4_method_3_code, exceptionTable := #[], attributes := #[] }
def k8m0 : Method := { name := "holdsControl", desc := "(Ljava/lang/String;)Z", sig := { parameters := [(.object "java/lang/String")], returnType := some .boolean }, accessFlags := 8, code := some k8c0 }
/-- com/example/ward/ward/BasicCredentials -/
def k8 : Class := { plain "com/example/ward/ward/BasicCredentials" (some 0) with
  accessFlags := 48
  interfaces := #[]
  cf := some (fileOf pool8 8 #[] #[{ accessFlags := 8, nameIndex := 62, descriptorIndex := 41, attributes := #[] }] 48 2 #[] #[{ accessFlags := 26, nameIndex := 136, descriptorIndex := 12, attributes := #[] }, { accessFlags := 18, nameIndex := 11, descriptorIndex := 12, attributes := #[] }, { accessFlags := 18, nameIndex := 15, descriptorIndex := 12, attributes := #[] }])
  fields := #[{ name := "SCHEME", type := (.object "java/lang/String"), accessFlags := 26, slot := 0, constantValue := 0 }, { name := "userId", type := (.object "java/lang/String"), accessFlags := 18, slot := 0, constantValue := 0 }, { name := "password", type := (.object "java/lang/String"), accessFlags := 18, slot := 1, constantValue := 0 }]
  methods := #[k8m0]
  instanceTypes := #[(.object "java/lang/String"), (.object "java/lang/String")]
  staticTypes := #[(.object "java/lang/String")]
  resolved := Array.replicate 166 none
  statics := none }

def pool9 : Array CpInfo := pool [(3, .class_ 4), (0, u "java/lang/String"), (1, .class_ 8), (1, u "java/lang/Object"), (0, u "<init>"), (0, u "()V"), (0, .methodref 12 13), (0, .class_ 14), (0, .nameAndType 15 16), (0, u "java/lang/StringUTF16"), (0, u "newBytesLength"), (0, u "(I)I"), (3, .integer 1073741823), (23, .fieldref 12 45), (0, .nameAndType 46 47), (0, u "$assertionsDisabled"), (0, u "Z"), (0, .methodref 12 49), (0, .nameAndType 50 51), (0, u "length"), (0, u "([B)I"), (7, .fieldref 12 60), (0, .nameAndType 61 62), (0, u "HI_BYTE_SHIFT"), (0, u "I"), (0, .fieldref 12 64), (0, .nameAndType 65 62), (0, u "LO_BYTE_SHIFT"), (1, .methodref 12 68), (0, .nameAndType 69 70), (0, u "checkIndex"), (0, u "(I[B)V"), (0, .methodref 12 72), (0, .nameAndType 73 74), (0, u "getChar"), (0, u "([BI)C"), (32, .methodref 12 108), (0, .nameAndType 109 110), (0, u "newBytesFor"), (0, u "(I)[B"), (0, .methodref 12 112), (0, .nameAndType 113 114), (0, u "putChar"), (0, u "([BII)V"), (0, .methodref 12 116), (0, .nameAndType 117 118), (0, u "compress"), (0, u "([CI[BII)I"), (0, .methodref 12 120), (0, .nameAndType 121 122), (0, u "toBytes"), (0, u "([CII)[B"), (138, u "coderFromArrayLen"), (0, u "([BI)B"), (106, .class_ 371), (1, u "java/lang/StringUTF16$LinesSpliterator"), (20, u "charAt"), (21, .methodref 3 415), (0, .nameAndType 69 416), (0, u "(II)V"), (13, u "MAX_LENGTH"), (196, .class_ 628), (0, u "java/lang/StringUTF16$CodePointsSpliterator"), (0, .class_ 630), (0, u "java/lang/StringUTF16$CharsSpliterator")] 4

def k9m0 : Method := { name := "<init>", desc := "()V", sig := { parameters := [], returnType := none }, accessFlags := 0, code := none }
def k9c1 : Code := { maxStack := 1, maxLocals := 1, code := jdk_52_method_2_code, exceptionTable := #[], attributes := #[] }
def k9m1 : Method := { name := "newBytesFor", desc := "(I)[B", sig := { parameters := [.int], returnType := some (.array .byte) }, accessFlags := 9, code := some k9c1 }
def k9c2 : Code := { maxStack := 4, maxLocals := 1, code := jdk_52_method_3_code, exceptionTable := #[], attributes := #[] }
def k9m2 : Method := { name := "newBytesLength", desc := "(I)I", sig := { parameters := [.int], returnType := some .int }, accessFlags := 9, code := some k9c2 }
def k9c3 : Code := { maxStack := 4, maxLocals := 3, code := jdk_52_method_4_code, exceptionTable := #[], attributes := #[] }
def k9m3 : Method := { name := "putChar", desc := "([BII)V", sig := { parameters := [(.array .byte), .int, .int], returnType := none }, accessFlags := 8, code := some k9c3 }
def k9c4 : Code := { maxStack := 3, maxLocals := 2, code := jdk_52_method_5_code, exceptionTable := #[], attributes := #[] }
def k9m4 : Method := { name := "getChar", desc := "([BI)C", sig := { parameters := [(.array .byte), .int], returnType := some .char }, accessFlags := 8, code := some k9c4 }
def k9c5 : Code := { maxStack := 2, maxLocals := 1, code := jdk_52_method_6_code, exceptionTable := #[], attributes := #[] }
def k9m5 : Method := { name := "length", desc := "([B)I", sig := { parameters := [(.array .byte)], returnType := some .int }, accessFlags := 9, code := some k9c5 }
def k9c6 : Code := { maxStack := 4, maxLocals := 5, code := jdk_52_method_14_code, exceptionTable := #[], attributes := #[] }
def k9m6 : Method := { name := "toBytes", desc := "([CII)[B", sig := { parameters := [(.array .char), .int, .int], returnType := some (.array .byte) }, accessFlags := 9, code := some k9c6 }
def k9c7 : Code := { maxStack := 2, maxLocals := 2, code := jdk_52_method_15_code, exceptionTable := #[], attributes := #[] }
def k9m7 : Method := { name := "coderFromArrayLen", desc := "([BI)B", sig := { parameters := [(.array .byte), .int], returnType := some .byte }, accessFlags := 8, code := some k9c7 }
def k9c8 : Code := { maxStack := 5, maxLocals := 6, code := jdk_52_method_16_code, exceptionTable := #[], attributes := #[] }
def k9m8 : Method := { name := "compress", desc := "([CII)[B", sig := { parameters := [(.array .char), .int, .int], returnType := some (.array .byte) }, accessFlags := 9, code := some k9c8 }
def k9c9 : Code := { maxStack := 3, maxLocals := 7, code := jdk_52_method_21_code, exceptionTable := #[], attributes := #[] }
def k9m9 : Method := { name := "compress", desc := "([CI[BII)I", sig := { parameters := [(.array .char), .int, (.array .byte), .int, .int], returnType := some .int }, accessFlags := 9, code := some k9c9 }
def k9c10 : Code := { maxStack := 2, maxLocals := 2, code := jdk_52_method_83_code, exceptionTable := #[], attributes := #[] }
def k9m10 : Method := { name := "charAt", desc := "([BI)C", sig := { parameters := [(.array .byte), .int], returnType := some .char }, accessFlags := 9, code := some k9c10 }
def k9c11 : Code := { maxStack := 2, maxLocals := 2, code := jdk_52_method_91_code, exceptionTable := #[], attributes := #[] }
def k9m11 : Method := { name := "checkIndex", desc := "(I[B)V", sig := { parameters := [.int, (.array .byte)], returnType := none }, accessFlags := 9, code := some k9c11 }
/-- java/lang/StringUTF16 -/
def k9 : Class := { plain "java/lang/StringUTF16" (some 0) with
  accessFlags := 48
  interfaces := #[]
  cf := some (fileOf pool9 12 #[.nestMembers #[627, 629, 369]] #[{ accessFlags := 0, nameIndex := 9, descriptorIndex := 10, attributes := #[] }, { accessFlags := 9, nameIndex := 109, descriptorIndex := 110, attributes := #[] }, { accessFlags := 9, nameIndex := 15, descriptorIndex := 16, attributes := #[] }, { accessFlags := 8, nameIndex := 113, descriptorIndex := 114, attributes := #[] }, { accessFlags := 8, nameIndex := 73, descriptorIndex := 74, attributes := #[] }, { accessFlags := 9, nameIndex := 50, descriptorIndex := 51, attributes := #[] }, { accessFlags := 9, nameIndex := 121, descriptorIndex := 122, attributes := #[] }, { accessFlags := 8, nameIndex := 261, descriptorIndex := 262, attributes := #[] }, { accessFlags := 9, nameIndex := 117, descriptorIndex := 122, attributes := #[] }, { accessFlags := 9, nameIndex := 117, descriptorIndex := 118, attributes := #[] }, { accessFlags := 9, nameIndex := 392, descriptorIndex := 74, attributes := #[] }, { accessFlags := 9, nameIndex := 69, descriptorIndex := 70, attributes := #[] }] 48 6 #[] #[{ accessFlags := 26, nameIndex := 61, descriptorIndex := 62, attributes := #[] }, { accessFlags := 26, nameIndex := 65, descriptorIndex := 62, attributes := #[] }, { accessFlags := 24, nameIndex := 430, descriptorIndex := 62, attributes := #[] }, { accessFlags := 4120, nameIndex := 46, descriptorIndex := 47, attributes := #[] }])
  fields := #[{ name := "HI_BYTE_SHIFT", type := .int, accessFlags := 26, slot := 0, constantValue := 0 }, { name := "LO_BYTE_SHIFT", type := .int, accessFlags := 26, slot := 1, constantValue := 0 }, { name := "MAX_LENGTH", type := .int, accessFlags := 24, slot := 2, constantValue := 0 }, { name := "$assertionsDisabled", type := .boolean, accessFlags := 4120, slot := 3, constantValue := 0 }]
  methods := #[k9m0, k9m1, k9m2, k9m3, k9m4, k9m5, k9m6, k9m7, k9m8, k9m9, k9m10, k9m11]
  instanceTypes := #[]
  staticTypes := #[.int, .int, .int, .boolean]
  resolved := Array.replicate 635 none
  statics := some 1 }

def pool10 : Array CpInfo := pool [(1, .class_ 2), (0, u "java/lang/String"), (1, .class_ 6), (1, u "java/lang/Object"), (0, u "<init>"), (0, u "()V"), (0, .methodref 1 10), (0, .nameAndType 11 12), (0, u "checkIndex"), (0, u "(II)V"), (1, .class_ 16), (1, u "java/lang/StringLatin1"), (36, u "([BI)C"), (67, u "$assertionsDisabled"), (0, u "Z"), (98, .class_ 223), (1, u "java/lang/StringLatin1$LinesSpliterator"), (28, u "charAt"), (137, .class_ 391), (0, u "java/lang/StringLatin1$CharsSpliterator")] 3

def k10m0 : Method := { name := "<init>", desc := "()V", sig := { parameters := [], returnType := none }, accessFlags := 0, code := none }
def k10c1 : Code := { maxStack := 2, maxLocals := 2, code := jdk_43_method_2_code, exceptionTable := #[], attributes := #[] }
def k10m1 : Method := { name := "charAt", desc := "([BI)C", sig := { parameters := [(.array .byte), .int], returnType := some .char }, accessFlags := 9, code := some k10c1 }
/-- java/lang/StringLatin1 -/
def k10 : Class := { plain "java/lang/StringLatin1" (some 0) with
  accessFlags := 48
  interfaces := #[]
  cf := some (fileOf pool10 14 #[.nestMembers #[390, 221]] #[{ accessFlags := 0, nameIndex := 7, descriptorIndex := 8, attributes := #[] }, { accessFlags := 9, nameIndex := 252, descriptorIndex := 53, attributes := #[] }] 48 4 #[] #[{ accessFlags := 4120, nameIndex := 121, descriptorIndex := 122, attributes := #[] }])
  fields := #[{ name := "$assertionsDisabled", type := .boolean, accessFlags := 4120, slot := 0, constantValue := 0 }]
  methods := #[k10m0, k10m1]
  instanceTypes := #[]
  staticTypes := #[.boolean]
  resolved := Array.replicate 395 none
  statics := none }

def pool11 : Array CpInfo := pool [(2, .class_ 4), (1, u "java/lang/Object"), (0, u "<init>"), (0, u "()V"), (17, .class_ 26), (1, u "jdk/internal/util/Preconditions"), (6, u "checkIndex"), (21, .class_ 56), (0, u "jdk/internal/util/Preconditions$4"), (57, .class_ 115), (0, u "jdk/internal/util/Preconditions$1"), (7, u "SIOOBE_FORMATTER"), (0, u "Ljava/util/function/BiFunction;"), (0, .class_ 126), (0, u "jdk/internal/util/Preconditions$2"), (3, u "AIOOBE_FORMATTER"), (0, .class_ 132), (0, u "jdk/internal/util/Preconditions$3"), (3, u "IOOBE_FORMATTER"), (41, u "(IILjava/util/function/BiFunction;)I")] 15

def k11m0 : Method := { name := "<init>", desc := "()V", sig := { parameters := [], returnType := none }, accessFlags := 1, code := none }
def k11c1 : Code := { maxStack := 3, maxLocals := 3, code := jdk_41_method_11_code, exceptionTable := #[], attributes := #[] }
def k11m1 : Method := { name := "checkIndex", desc := "(IILjava/util/function/BiFunction;)I", sig := { parameters := [.int, .int, (.object "java/util/function/BiFunction")], returnType := some .int }, accessFlags := 9, code := some k11c1 }
/-- jdk/internal/util/Preconditions -/
def k11 : Class := { plain "jdk/internal/util/Preconditions" (some 0) with
  accessFlags := 33
  interfaces := #[]
  cf := some (fileOf pool11 24 #[.nestMembers #[55, 131, 125, 114]] #[{ accessFlags := 1, nameIndex := 5, descriptorIndex := 6, attributes := #[] }, { accessFlags := 9, nameIndex := 33, descriptorIndex := 178, attributes := #[] }] 33 2 #[] #[{ accessFlags := 25, nameIndex := 123, descriptorIndex := 124, attributes := #[] }, { accessFlags := 25, nameIndex := 130, descriptorIndex := 124, attributes := #[] }, { accessFlags := 25, nameIndex := 136, descriptorIndex := 124, attributes := #[] }])
  fields := #[{ name := "SIOOBE_FORMATTER", type := (.object "java/util/function/BiFunction"), accessFlags := 25, slot := 0, constantValue := 0 }, { name := "AIOOBE_FORMATTER", type := (.object "java/util/function/BiFunction"), accessFlags := 25, slot := 1, constantValue := 0 }, { name := "IOOBE_FORMATTER", type := (.object "java/util/function/BiFunction"), accessFlags := 25, slot := 2, constantValue := 0 }]
  methods := #[k11m0, k11m1]
  instanceTypes := #[]
  staticTypes := #[(.object "java/util/function/BiFunction"), (.object "java/util/function/BiFunction"), (.object "java/util/function/BiFunction")]
  resolved := Array.replicate 194 none
  statics := some 2 }

def pool12 : Array CpInfo := pool [(9, u "<init>"), (6, .class_ 18), (1, u "java/lang/Object"), (0, u "()V"), (1, .class_ 23), (1, u "jdk/internal/util/ArraysSupport"), (0, u "LOG2_ARRAY_LONG_INDEX_SCALE"), (0, u "I"), (2, u "U"), (0, u "Ljdk/internal/misc/Unsafe;"), (8, u "BIG_ENDIAN"), (0, u "Z"), (8, u "LOG2_BYTE_BIT_SIZE"), (4, u "LOG2_ARRAY_INT_INDEX_SCALE"), (54, u "JLA"), (0, u "Ljdk/internal/access/JavaLangAccess;"), (11, u "LOG2_ARRAY_BOOLEAN_INDEX_SCALE"), (9, u "LOG2_ARRAY_BYTE_INDEX_SCALE"), (5, u "LOG2_ARRAY_CHAR_INDEX_SCALE"), (5, u "LOG2_ARRAY_SHORT_INDEX_SCALE"), (18, u "LOG2_ARRAY_FLOAT_INDEX_SCALE"), (24, u "LOG2_ARRAY_DOUBLE_INDEX_SCALE"), (89, u "T_BOOLEAN"), (2, u "T_CHAR"), (1, u "T_FLOAT"), (1, u "T_DOUBLE"), (1, u "T_BYTE"), (1, u "T_SHORT"), (1, u "T_INT"), (1, u "T_LONG"), (1, u "SOFT_MAX_ARRAY_LENGTH")] 83

def k12m0 : Method := { name := "<init>", desc := "()V", sig := { parameters := [], returnType := none }, accessFlags := 2, code := none }
/-- jdk/internal/util/ArraysSupport -/
def k12 : Class := { plain "jdk/internal/util/ArraysSupport" (some 0) with
  accessFlags := 33
  interfaces := #[]
  cf := some (fileOf pool12 21 #[] #[{ accessFlags := 2, nameIndex := 9, descriptorIndex := 19, attributes := #[] }] 33 16 #[] #[{ accessFlags := 24, nameIndex := 28, descriptorIndex := 29, attributes := #[] }, { accessFlags := 26, nameIndex := 38, descriptorIndex := 39, attributes := #[] }, { accessFlags := 25, nameIndex := 121, descriptorIndex := 25, attributes := #[] }, { accessFlags := 25, nameIndex := 131, descriptorIndex := 25, attributes := #[] }, { accessFlags := 25, nameIndex := 137, descriptorIndex := 25, attributes := #[] }, { accessFlags := 25, nameIndex := 143, descriptorIndex := 25, attributes := #[] }, { accessFlags := 25, nameIndex := 53, descriptorIndex := 25, attributes := #[] }, { accessFlags := 25, nameIndex := 24, descriptorIndex := 25, attributes := #[] }, { accessFlags := 25, nameIndex := 162, descriptorIndex := 25, attributes := #[] }, { accessFlags := 25, nameIndex := 187, descriptorIndex := 25, attributes := #[] }, { accessFlags := 26, nameIndex := 48, descriptorIndex := 25, attributes := #[] }, { accessFlags := 25, nameIndex := 277, descriptorIndex := 25, attributes := #[] }, { accessFlags := 25, nameIndex := 280, descriptorIndex := 25, attributes := #[] }, { accessFlags := 25, nameIndex := 282, descriptorIndex := 25, attributes := #[] }, { accessFlags := 25, nameIndex := 284, descriptorIndex := 25, attributes := #[] }, { accessFlags := 25, nameIndex := 286, descriptorIndex := 25, attributes := #[] }, { accessFlags := 25, nameIndex := 288, descriptorIndex := 25, attributes := #[] }, { accessFlags := 25, nameIndex := 290, descriptorIndex := 25, attributes := #[] }, { accessFlags := 25, nameIndex := 292, descriptorIndex := 25, attributes := #[] }, { accessFlags := 26, nameIndex := 108, descriptorIndex := 109, attributes := #[] }, { accessFlags := 25, nameIndex := 294, descriptorIndex := 25, attributes := #[] }])
  fields := #[{ name := "U", type := (.object "jdk/internal/misc/Unsafe"), accessFlags := 24, slot := 0, constantValue := 0 }, { name := "BIG_ENDIAN", type := .boolean, accessFlags := 26, slot := 1, constantValue := 0 }, { name := "LOG2_ARRAY_BOOLEAN_INDEX_SCALE", type := .int, accessFlags := 25, slot := 2, constantValue := 0 }, { name := "LOG2_ARRAY_BYTE_INDEX_SCALE", type := .int, accessFlags := 25, slot := 3, constantValue := 0 }, { name := "LOG2_ARRAY_CHAR_INDEX_SCALE", type := .int, accessFlags := 25, slot := 4, constantValue := 0 }, { name := "LOG2_ARRAY_SHORT_INDEX_SCALE", type := .int, accessFlags := 25, slot := 5, constantValue := 0 }, { name := "LOG2_ARRAY_INT_INDEX_SCALE", type := .int, accessFlags := 25, slot := 6, constantValue := 0 }, { name := "LOG2_ARRAY_LONG_INDEX_SCALE", type := .int, accessFlags := 25, slot := 7, constantValue := 0 }, { name := "LOG2_ARRAY_FLOAT_INDEX_SCALE", type := .int, accessFlags := 25, slot := 8, constantValue := 0 }, { name := "LOG2_ARRAY_DOUBLE_INDEX_SCALE", type := .int, accessFlags := 25, slot := 9, constantValue := 0 }, { name := "LOG2_BYTE_BIT_SIZE", type := .int, accessFlags := 26, slot := 10, constantValue := 0 }, { name := "T_BOOLEAN", type := .int, accessFlags := 25, slot := 11, constantValue := 0 }, { name := "T_CHAR", type := .int, accessFlags := 25, slot := 12, constantValue := 0 }, { name := "T_FLOAT", type := .int, accessFlags := 25, slot := 13, constantValue := 0 }, { name := "T_DOUBLE", type := .int, accessFlags := 25, slot := 14, constantValue := 0 }, { name := "T_BYTE", type := .int, accessFlags := 25, slot := 15, constantValue := 0 }, { name := "T_SHORT", type := .int, accessFlags := 25, slot := 16, constantValue := 0 }, { name := "T_INT", type := .int, accessFlags := 25, slot := 17, constantValue := 0 }, { name := "T_LONG", type := .int, accessFlags := 25, slot := 18, constantValue := 0 }, { name := "JLA", type := (.object "jdk/internal/access/JavaLangAccess"), accessFlags := 26, slot := 19, constantValue := 0 }, { name := "SOFT_MAX_ARRAY_LENGTH", type := .int, accessFlags := 25, slot := 20, constantValue := 0 }]
  methods := #[k12m0]
  instanceTypes := #[]
  staticTypes := #[(.object "jdk/internal/misc/Unsafe"), .boolean, .int, .int, .int, .int, .int, .int, .int, .int, .int, .int, .int, .int, .int, .int, .int, .int, .int, (.object "jdk/internal/access/JavaLangAccess"), .int]
  resolved := Array.replicate 378 none
  statics := none }

def pool13 : Array CpInfo := pool [(1, u "java/lang/Cloneable"), (0, .class_ 1), (0, u "java/lang/Object"), (0, .class_ 3)] 3

/-- java/lang/Cloneable -/
def k13 : Class := { plain "java/lang/Cloneable" (some 0) with
  accessFlags := 1537
  interfaces := #[]
  cf := some (fileOf pool13 2 #[] #[] 1537 4 #[] #[])
  fields := #[]
  methods := #[]
  instanceTypes := #[]
  staticTypes := #[]
  resolved := Array.replicate 8 none
  statics := none }

/-- the primitive byte -/
def k14 : Class := { plain "byte" none with kind := .primitive 'B', accessFlags := 0x411 }
/-- [B -/
def k15 : Class := { plain "[B" (some 0) with kind := .array 14 .byte, interfaces := #[13, 2], accessFlags := 1041 }

/-- the primitive char -/
def k16 : Class := { plain "char" none with kind := .primitive 'C', accessFlags := 0x411 }
/-- [C -/
def k17 : Class := { plain "[C" (some 0) with kind := .array 16 .char, interfaces := #[13, 2], accessFlags := 1041 }

/-- the primitive int -/
def k18 : Class := { plain "int" none with kind := .primitive 'I', accessFlags := 0x411 }
/-- [I -/
def k19 : Class := { plain "[I" (some 0) with kind := .array 18 .int, interfaces := #[13, 2], accessFlags := 1041 }

def heap : Heap := #[{ cls := 7, slots := #[.long 0, .int 1, .null, .int 0, .null, .int 0, .int 0], vm := .statics 7 },
  { cls := 9, slots := #[.int 0, .int 8, .int 0, .int 1], vm := .statics 9 },
  { cls := 11, slots := #[.null, .null, .null], vm := .statics 11 }]
def classes : Array Class := #[k0, k1, k2, k3, k4, k5, k6, k7, k8, k9, k10, k11, k12, k13, k14, k15, k16, k17, k18, k19]
def interned : List (Array UInt16 × Addr) := []
def slotsUsed : Nat := 14
def theMethod : MethodId := ⟨1, 2⟩
def args0 : Array Value := #[.int 5, .int 6, .int 7, .int 8, .int 9]
def aboutOver (below : List Frame) : State where
  vm := { classes := classes, interned := interned.toArray }
  heap := heap
  slotsUsed := slotsUsed
  threads := #[{ frames := .invoking theMethod args0 :: below }]
def below0 : List Frame := [.native { method := ⟨0, 0⟩, args := #[] }]
def about1 : State := aboutOver below0
def p0 : Program := .bare "" "" ""
def e0 : Env := launch0.env 0 0 0
theorem w_frames : about1.frames = Frame.invoking theMethod args0 :: below0 := rfl
set_option maxRecDepth 65536 in
theorem w_args : argsFit about1.vm theMethod args0 = true := by decide +kernel
set_option maxRecDepth 65536 in
theorem w_heap : heapFits about1 = true := by decide +kernel
set_option maxRecDepth 65536 in
theorem w_runnable : about1.curStatus? = some .runnable := by decide +kernel
set_option maxRecDepth 65536 in
theorem w_alone : about1.alone = true := by decide +kernel
set_option maxRecDepth 65536 in
theorem w_named : about1.methodNamed? x = some theMethod := by decide +kernel
set_option maxRecDepth 65536 in
theorem w_hears : about1.hears theMethod below0 = true := by decide +kernel
set_option maxRecDepth 65536 in
theorem w_ripe : about1.ripe theMethod args0 below0 = true := by decide +kernel
theorem w_running : about1.status = .running := rfl
set_option maxRecDepth 65536 in
theorem w_room : about1.hasRoom e0.platform room_1 = true :=
  launch0.hasRoom_least _ room_1 (by decide +kernel) (by decide +kernel) (by decide +kernel) (by decide +kernel) (by decide +kernel) (by decide +kernel)
theorem allAtoms_all (ts : List Jvm.Cond) (a : Array Jvm.Value) (st : Jvm.State) : (allAtoms ts).before a st = ts.all (fun c => c.before a st) := by
  induction ts with
  | nil => rfl
  | cons c t ih =>
    show (Jvm.Cond.and c (allAtoms t)).before a st = _
    rw [Jvm.Cond.before_and, ih, List.all_cons]
def words1 : List Jvm.Cond := Jvm.Cond.code x code maxLocals ret :: tables_1
/-- a 'code' word, met by the world's own term for the bytes: nothing is compared byte by byte -/
theorem code_word {y : MethodName} {bytes : ByteArray} {mx : Nat} {rt : Option FieldType} {a : Array Value} {s : State} {m : MethodId} {meth : Method} {c : Code} (h1 : s.methodNamed? y = some m) (h2 : s.vm.method? m = some meth) (h3 : meth.code = some c) (h4 : c.code = bytes)
    (h5 : (c.maxLocals == mx && c.exceptionTable.isEmpty && decide (c.maxStack ≤ mostOperands) && decide (meth.sig.returnType = rt) && !meth.locks && decide (parseMethodDescriptor y.desc = some meth.sig)) = true) : (Jvm.Cond.code y bytes mx rt).before a s = true := by
  simp only [Bool.and_eq_true, beq_iff_eq, Bool.not_eq_true', decide_eq_true_eq] at h5
  obtain ⟨⟨⟨⟨⟨g1, g2⟩, g3⟩, g4⟩, g5⟩, g6⟩ := h5
  simp [Cond.before, Cond.holds, Cond.value, h1, h2, h3, h4, g1, g2, g3, g4, g5, g6]
def isCode : Jvm.Cond → Bool
  | .code _ _ _ _ => true
  | _ => false
theorem all_split {L : List Jvm.Cond} {P : Jvm.Cond → Bool} (h1 : L.all (fun c => isCode c || P c) = true) (h2 : ∀ c ∈ L.filter isCode, P c = true) : L.all P = true := by
  refine List.all_eq_true.mpr fun c hc => ?_
  have h := List.all_eq_true.mp h1 c hc
  rcases Bool.eq_false_or_eq_true (isCode c) with hi | hi
  · exact h2 c (List.mem_filter.mpr ⟨hc, hi⟩)
  · simpa [hi] using h
set_option maxRecDepth 65536 in
theorem w_c0 : (Jvm.Cond.code x code maxLocals ret).before args0 about1 = true := code_word (m := ⟨1, 2⟩) (meth := k1m2) (c := k1c2) (by decide +kernel) rfl rfl rfl (by decide +kernel)
set_option maxRecDepth 65536 in
theorem w_c1 : (Jvm.Cond.code ({ cls := "java/lang/String", name := "<init>", desc := "([C)V" } : Jvm.MethodName) jdk_42_method_3_code (2 : Nat) (Option.none : Option Jvm.ClassFile.FieldType)).before args0 about1 = true := code_word (m := ⟨7, 1⟩) (meth := k7m1) (c := k7c1) (by decide +kernel) rfl rfl rfl (by decide +kernel)
set_option maxRecDepth 65536 in
theorem w_c2 : (Jvm.Cond.code ({ cls := "java/lang/String", name := "<init>", desc := "([CIILjava/lang/Void;)V" } : Jvm.MethodName) jdk_42_method_149_code (6 : Nat) (Option.none : Option Jvm.ClassFile.FieldType)).before args0 about1 = true := code_word (m := ⟨7, 4⟩) (meth := k7m4) (c := k7c4) (by decide +kernel) rfl rfl rfl (by decide +kernel)
set_option maxRecDepth 65536 in
theorem w_c3 : (Jvm.Cond.code ({ cls := "java/lang/Object", name := "<init>", desc := "()V" } : Jvm.MethodName) object_method_1_code (1 : Nat) (Option.none : Option Jvm.ClassFile.FieldType)).before args0 about1 = true := code_word (m := ⟨0, 0⟩) (meth := k0m0) (c := k0c0) (by decide +kernel) rfl rfl rfl (by decide +kernel)
set_option maxRecDepth 65536 in
theorem w_c4 : (Jvm.Cond.code ({ cls := "com/example/ward/ward/BasicCredentials", name := "holdsControl", desc := "(Ljava/lang/String;)Z" } : Jvm.MethodName) prog_4_method_3_code (3 : Nat) (Option.some Jvm.ClassFile.FieldType.boolean)).before args0 about1 = true := code_word (m := ⟨8, 0⟩) (meth := k8m0) (c := k8c0) (by decide +kernel) rfl rfl rfl (by decide +kernel)
set_option maxRecDepth 65536 in
theorem w_c5 : (Jvm.Cond.code ({ cls := "java/lang/String", name := "length", desc := "()I" } : Jvm.MethodName) jdk_42_method_54_code (1 : Nat) (Option.some Jvm.ClassFile.FieldType.int)).before args0 about1 = true := code_word (m := ⟨7, 2⟩) (meth := k7m2) (c := k7c2) (by decide +kernel) rfl rfl rfl (by decide +kernel)
set_option maxRecDepth 65536 in
theorem w_c6 : (Jvm.Cond.code ({ cls := "java/lang/String", name := "coder", desc := "()B" } : Jvm.MethodName) jdk_42_method_152_code (1 : Nat) (Option.some Jvm.ClassFile.FieldType.byte)).before args0 about1 = true := code_word (m := ⟨7, 5⟩) (meth := k7m5) (c := k7c5) (by decide +kernel) rfl rfl rfl (by decide +kernel)
set_option maxRecDepth 65536 in
theorem w_c7 : (Jvm.Cond.code ({ cls := "java/lang/StringUTF16", name := "compress", desc := "([CII)[B" } : Jvm.MethodName) jdk_52_method_16_code (6 : Nat) (Option.some (Jvm.ClassFile.FieldType.array Jvm.ClassFile.FieldType.byte))).before args0 about1 = true := code_word (m := ⟨9, 8⟩) (meth := k9m8) (c := k9c8) (by decide +kernel) rfl rfl rfl (by decide +kernel)
set_option maxRecDepth 65536 in
theorem w_c8 : (Jvm.Cond.code ({ cls := "java/lang/StringUTF16", name := "compress", desc := "([CI[BII)I" } : Jvm.MethodName) jdk_52_method_21_code (7 : Nat) (Option.some Jvm.ClassFile.FieldType.int)).before args0 about1 = true := code_word (m := ⟨9, 9⟩) (meth := k9m9) (c := k9c9) (by decide +kernel) rfl rfl rfl (by decide +kernel)
set_option maxRecDepth 65536 in
theorem w_c9 : (Jvm.Cond.code ({ cls := "java/lang/StringUTF16", name := "coderFromArrayLen", desc := "([BI)B" } : Jvm.MethodName) jdk_52_method_15_code (2 : Nat) (Option.some Jvm.ClassFile.FieldType.byte)).before args0 about1 = true := code_word (m := ⟨9, 7⟩) (meth := k9m7) (c := k9c7) (by decide +kernel) rfl rfl rfl (by decide +kernel)
set_option maxRecDepth 65536 in
theorem w_c10 : (Jvm.Cond.code ({ cls := "com/example/ward/ward/BasicCredentialsHoldsControlPinLaw", name := "ctl", desc := "(C)Z" } : Jvm.MethodName) method_2_code (2 : Nat) (Option.some Jvm.ClassFile.FieldType.boolean)).before args0 about1 = true := code_word (m := ⟨1, 1⟩) (meth := k1m1) (c := k1c1) (by decide +kernel) rfl rfl rfl (by decide +kernel)
set_option maxRecDepth 65536 in
theorem w_c11 : (Jvm.Cond.code ({ cls := "java/lang/String", name := "charAt", desc := "(I)C" } : Jvm.MethodName) jdk_42_method_56_code (2 : Nat) (Option.some Jvm.ClassFile.FieldType.char)).before args0 about1 = true := code_word (m := ⟨7, 3⟩) (meth := k7m3) (c := k7c3) (by decide +kernel) rfl rfl rfl (by decide +kernel)
set_option maxRecDepth 65536 in
theorem w_c12 : (Jvm.Cond.code ({ cls := "java/lang/String", name := "isLatin1", desc := "()Z" } : Jvm.MethodName) jdk_42_method_154_code (1 : Nat) (Option.some Jvm.ClassFile.FieldType.boolean)).before args0 about1 = true := code_word (m := ⟨7, 6⟩) (meth := k7m6) (c := k7c6) (by decide +kernel) rfl rfl rfl (by decide +kernel)
set_option maxRecDepth 65536 in
theorem w_c13 : (Jvm.Cond.code ({ cls := "java/lang/StringLatin1", name := "charAt", desc := "([BI)C" } : Jvm.MethodName) jdk_43_method_2_code (2 : Nat) (Option.some Jvm.ClassFile.FieldType.char)).before args0 about1 = true := code_word (m := ⟨10, 1⟩) (meth := k10m1) (c := k10c1) (by decide +kernel) rfl rfl rfl (by decide +kernel)
set_option maxRecDepth 65536 in
theorem w_c14 : (Jvm.Cond.code ({ cls := "java/lang/String", name := "checkIndex", desc := "(II)V" } : Jvm.MethodName) jdk_42_method_155_code (2 : Nat) (Option.none : Option Jvm.ClassFile.FieldType)).before args0 about1 = true := code_word (m := ⟨7, 7⟩) (meth := k7m7) (c := k7c7) (by decide +kernel) rfl rfl rfl (by decide +kernel)
set_option maxRecDepth 65536 in
theorem w_c15 : (Jvm.Cond.code ({ cls := "jdk/internal/util/Preconditions", name := "checkIndex", desc := "(IILjava/util/function/BiFunction;)I" } : Jvm.MethodName) jdk_41_method_11_code (3 : Nat) (Option.some Jvm.ClassFile.FieldType.int)).before args0 about1 = true := code_word (m := ⟨11, 1⟩) (meth := k11m1) (c := k11c1) (by decide +kernel) rfl rfl rfl (by decide +kernel)
set_option maxRecDepth 65536 in
theorem w_c16 : (Jvm.Cond.code ({ cls := "java/lang/StringUTF16", name := "toBytes", desc := "([CII)[B" } : Jvm.MethodName) jdk_52_method_14_code (5 : Nat) (Option.some (Jvm.ClassFile.FieldType.array Jvm.ClassFile.FieldType.byte))).before args0 about1 = true := code_word (m := ⟨9, 6⟩) (meth := k9m6) (c := k9c6) (by decide +kernel) rfl rfl rfl (by decide +kernel)
set_option maxRecDepth 65536 in
theorem w_c17 : (Jvm.Cond.code ({ cls := "java/lang/StringUTF16", name := "newBytesFor", desc := "(I)[B" } : Jvm.MethodName) jdk_52_method_2_code (1 : Nat) (Option.some (Jvm.ClassFile.FieldType.array Jvm.ClassFile.FieldType.byte))).before args0 about1 = true := code_word (m := ⟨9, 1⟩) (meth := k9m1) (c := k9c1) (by decide +kernel) rfl rfl rfl (by decide +kernel)
set_option maxRecDepth 65536 in
theorem w_c18 : (Jvm.Cond.code ({ cls := "java/lang/StringUTF16", name := "newBytesLength", desc := "(I)I" } : Jvm.MethodName) jdk_52_method_3_code (1 : Nat) (Option.some Jvm.ClassFile.FieldType.int)).before args0 about1 = true := code_word (m := ⟨9, 2⟩) (meth := k9m2) (c := k9c2) (by decide +kernel) rfl rfl rfl (by decide +kernel)
set_option maxRecDepth 65536 in
theorem w_c19 : (Jvm.Cond.code ({ cls := "java/lang/StringUTF16", name := "putChar", desc := "([BII)V" } : Jvm.MethodName) jdk_52_method_4_code (3 : Nat) (Option.none : Option Jvm.ClassFile.FieldType)).before args0 about1 = true := code_word (m := ⟨9, 3⟩) (meth := k9m3) (c := k9c3) (by decide +kernel) rfl rfl rfl (by decide +kernel)
set_option maxRecDepth 65536 in
theorem w_c20 : (Jvm.Cond.code ({ cls := "java/lang/StringUTF16", name := "getChar", desc := "([BI)C" } : Jvm.MethodName) jdk_52_method_5_code (2 : Nat) (Option.some Jvm.ClassFile.FieldType.char)).before args0 about1 = true := code_word (m := ⟨9, 4⟩) (meth := k9m4) (c := k9c4) (by decide +kernel) rfl rfl rfl (by decide +kernel)
set_option maxRecDepth 65536 in
theorem w_c21 : (Jvm.Cond.code ({ cls := "java/lang/StringUTF16", name := "charAt", desc := "([BI)C" } : Jvm.MethodName) jdk_52_method_83_code (2 : Nat) (Option.some Jvm.ClassFile.FieldType.char)).before args0 about1 = true := code_word (m := ⟨9, 10⟩) (meth := k9m10) (c := k9c10) (by decide +kernel) rfl rfl rfl (by decide +kernel)
set_option maxRecDepth 65536 in
theorem w_c22 : (Jvm.Cond.code ({ cls := "java/lang/StringUTF16", name := "checkIndex", desc := "(I[B)V" } : Jvm.MethodName) jdk_52_method_91_code (2 : Nat) (Option.none : Option Jvm.ClassFile.FieldType)).before args0 about1 = true := code_word (m := ⟨9, 11⟩) (meth := k9m11) (c := k9c11) (by decide +kernel) rfl rfl rfl (by decide +kernel)
set_option maxRecDepth 65536 in
theorem w_c23 : (Jvm.Cond.code ({ cls := "java/lang/StringUTF16", name := "length", desc := "([B)I" } : Jvm.MethodName) jdk_52_method_6_code (1 : Nat) (Option.some Jvm.ClassFile.FieldType.int)).before args0 about1 = true := code_word (m := ⟨9, 5⟩) (meth := k9m5) (c := k9c5) (by decide +kernel) rfl rfl rfl (by decide +kernel)
def codes1 : List Jvm.Cond := [Jvm.Cond.code x code maxLocals ret, Jvm.Cond.code ({ cls := "java/lang/String", name := "<init>", desc := "([C)V" } : Jvm.MethodName) jdk_42_method_3_code (2 : Nat) (Option.none : Option Jvm.ClassFile.FieldType), Jvm.Cond.code ({ cls := "java/lang/String", name := "<init>", desc := "([CIILjava/lang/Void;)V" } : Jvm.MethodName) jdk_42_method_149_code (6 : Nat) (Option.none : Option Jvm.ClassFile.FieldType), Jvm.Cond.code ({ cls := "java/lang/Object", name := "<init>", desc := "()V" } : Jvm.MethodName) object_method_1_code (1 : Nat) (Option.none : Option Jvm.ClassFile.FieldType), Jvm.Cond.code ({ cls := "com/example/ward/ward/BasicCredentials", name := "holdsControl", desc := "(Ljava/lang/String;)Z" } : Jvm.MethodName) prog_4_method_3_code (3 : Nat) (Option.some Jvm.ClassFile.FieldType.boolean), Jvm.Cond.code ({ cls := "java/lang/String", name := "length", desc := "()I" } : Jvm.MethodName) jdk_42_method_54_code (1 : Nat) (Option.some Jvm.ClassFile.FieldType.int), Jvm.Cond.code ({ cls := "java/lang/String", name := "coder", desc := "()B" } : Jvm.MethodName) jdk_42_method_152_code (1 : Nat) (Option.some Jvm.ClassFile.FieldType.byte), Jvm.Cond.code ({ cls := "java/lang/StringUTF16", name := "compress", desc := "([CII)[B" } : Jvm.MethodName) jdk_52_method_16_code (6 : Nat) (Option.some (Jvm.ClassFile.FieldType.array Jvm.ClassFile.FieldType.byte)), Jvm.Cond.code ({ cls := "java/lang/StringUTF16", name := "compress", desc := "([CI[BII)I" } : Jvm.MethodName) jdk_52_method_21_code (7 : Nat) (Option.some Jvm.ClassFile.FieldType.int), Jvm.Cond.code ({ cls := "java/lang/StringUTF16", name := "coderFromArrayLen", desc := "([BI)B" } : Jvm.MethodName) jdk_52_method_15_code (2 : Nat) (Option.some Jvm.ClassFile.FieldType.byte), Jvm.Cond.code ({ cls := "com/example/ward/ward/BasicCredentialsHoldsControlPinLaw", name := "ctl", desc := "(C)Z" } : Jvm.MethodName) method_2_code (2 : Nat) (Option.some Jvm.ClassFile.FieldType.boolean), Jvm.Cond.code ({ cls := "java/lang/String", name := "charAt", desc := "(I)C" } : Jvm.MethodName) jdk_42_method_56_code (2 : Nat) (Option.some Jvm.ClassFile.FieldType.char), Jvm.Cond.code ({ cls := "java/lang/String", name := "isLatin1", desc := "()Z" } : Jvm.MethodName) jdk_42_method_154_code (1 : Nat) (Option.some Jvm.ClassFile.FieldType.boolean), Jvm.Cond.code ({ cls := "java/lang/StringLatin1", name := "charAt", desc := "([BI)C" } : Jvm.MethodName) jdk_43_method_2_code (2 : Nat) (Option.some Jvm.ClassFile.FieldType.char), Jvm.Cond.code ({ cls := "java/lang/String", name := "checkIndex", desc := "(II)V" } : Jvm.MethodName) jdk_42_method_155_code (2 : Nat) (Option.none : Option Jvm.ClassFile.FieldType), Jvm.Cond.code ({ cls := "jdk/internal/util/Preconditions", name := "checkIndex", desc := "(IILjava/util/function/BiFunction;)I" } : Jvm.MethodName) jdk_41_method_11_code (3 : Nat) (Option.some Jvm.ClassFile.FieldType.int), Jvm.Cond.code ({ cls := "java/lang/StringUTF16", name := "toBytes", desc := "([CII)[B" } : Jvm.MethodName) jdk_52_method_14_code (5 : Nat) (Option.some (Jvm.ClassFile.FieldType.array Jvm.ClassFile.FieldType.byte)), Jvm.Cond.code ({ cls := "java/lang/StringUTF16", name := "newBytesFor", desc := "(I)[B" } : Jvm.MethodName) jdk_52_method_2_code (1 : Nat) (Option.some (Jvm.ClassFile.FieldType.array Jvm.ClassFile.FieldType.byte)), Jvm.Cond.code ({ cls := "java/lang/StringUTF16", name := "newBytesLength", desc := "(I)I" } : Jvm.MethodName) jdk_52_method_3_code (1 : Nat) (Option.some Jvm.ClassFile.FieldType.int), Jvm.Cond.code ({ cls := "java/lang/StringUTF16", name := "putChar", desc := "([BII)V" } : Jvm.MethodName) jdk_52_method_4_code (3 : Nat) (Option.none : Option Jvm.ClassFile.FieldType), Jvm.Cond.code ({ cls := "java/lang/StringUTF16", name := "getChar", desc := "([BI)C" } : Jvm.MethodName) jdk_52_method_5_code (2 : Nat) (Option.some Jvm.ClassFile.FieldType.char), Jvm.Cond.code ({ cls := "java/lang/StringUTF16", name := "charAt", desc := "([BI)C" } : Jvm.MethodName) jdk_52_method_83_code (2 : Nat) (Option.some Jvm.ClassFile.FieldType.char), Jvm.Cond.code ({ cls := "java/lang/StringUTF16", name := "checkIndex", desc := "(I[B)V" } : Jvm.MethodName) jdk_52_method_91_code (2 : Nat) (Option.none : Option Jvm.ClassFile.FieldType), Jvm.Cond.code ({ cls := "java/lang/StringUTF16", name := "length", desc := "([B)I" } : Jvm.MethodName) jdk_52_method_6_code (1 : Nat) (Option.some Jvm.ClassFile.FieldType.int)]
set_option maxRecDepth 65536 in
theorem codes_eq : words1.filter isCode = codes1 := rfl
theorem w_codes : ∀ c ∈ words1.filter isCode, c.before args0 about1 = true := by
  rw [codes_eq]
  intro c hc
  simp only [codes1, List.mem_cons, List.not_mem_nil, or_false] at hc
  rcases hc with rfl | rfl | rfl | rfl | rfl | rfl | rfl | rfl | rfl | rfl | rfl | rfl | rfl | rfl | rfl | rfl | rfl | rfl | rfl | rfl | rfl | rfl | rfl | rfl
  · exact w_c0
  · exact w_c1
  · exact w_c2
  · exact w_c3
  · exact w_c4
  · exact w_c5
  · exact w_c6
  · exact w_c7
  · exact w_c8
  · exact w_c9
  · exact w_c10
  · exact w_c11
  · exact w_c12
  · exact w_c13
  · exact w_c14
  · exact w_c15
  · exact w_c16
  · exact w_c17
  · exact w_c18
  · exact w_c19
  · exact w_c20
  · exact w_c21
  · exact w_c22
  · exact w_c23
set_option maxRecDepth 65536 in
theorem w_t1 : (words1.take 24).all (fun c => isCode c || c.before args0 about1) = true := by decide +kernel
set_option maxRecDepth 65536 in
theorem w_t2 : ((words1.drop 24).take 24).all (fun c => isCode c || c.before args0 about1) = true := by decide +kernel
set_option maxRecDepth 65536 in
theorem w_t3 : (((words1.drop 24).drop 24).take 24).all (fun c => isCode c || c.before args0 about1) = true := by decide +kernel
set_option maxRecDepth 65536 in
theorem w_t4 : ((((words1.drop 24).drop 24).drop 24).take 24).all (fun c => isCode c || c.before args0 about1) = true := by decide +kernel
set_option maxRecDepth 65536 in
theorem w_t5 : ((((words1.drop 24).drop 24).drop 24).drop 24).all (fun c => isCode c || c.before args0 about1) = true := by decide +kernel
theorem w_tables : (allAtoms (Jvm.Cond.code x code maxLocals ret :: tables_1)).before args0 about1 = true := by
  rw [allAtoms_all]
  show words1.all (fun c => c.before args0 about1) = true
  refine all_split ?_ w_codes
  rw [← List.take_append_drop 24 words1, List.all_append, w_t1, ← List.take_append_drop 24 (words1.drop 24), List.all_append, w_t2, ← List.take_append_drop 24 ((words1.drop 24).drop 24), List.all_append, w_t3, ← List.take_append_drop 24 (((words1.drop 24).drop 24).drop 24), List.all_append, w_t4, w_t5]
  rfl
set_option maxRecDepth 65536 in
theorem w_rest : rest_1_c.before args0 about1 = true := by decide +kernel
set_option maxRecDepth 65536 in
theorem w_case : (Jvm.Cond.and given_1 narrow_1).before args0 about1 = true := by decide +kernel
set_option maxRecDepth 65536 in
theorem w_consts : constsHeld consts_1 about1 := Jvm.Lit.constsHeldB_iff.mp (by decide +kernel)
theorem w_applies : (headSpec (Jvm.Cond.code x code maxLocals ret :: tables_1) room_1).applies x e0.platform about1 = true :=
  (Spec.applies_iff w_frames).mpr ⟨w_running, w_runnable, w_alone, w_named, w_hears, w_ripe, w_room, w_tables⟩
theorem atStart : AtStart classFile x code maxLocals ret World_1 tables_1 room_1 Calls_1 rest_1 Pre_1 launch0 p0 e0 about1 theMethod args0 below0 :=
  ⟨lists_1, trivial, launch0.admits_env _ _ _, launch0.least_env, fairChoices_fair.cas, fairChoices_fair.clock, w_frames, w_args, w_heap, w_applies, ⟨w_consts, trivial⟩, w_rest, w_case⟩
end start1
theorem witness_1 : WitnessClaimed_1 := ⟨start1.p0, start1.e0, start1.about1, start1.theMethod, start1.args0, start1.below0, start1.atStart⟩
end Jvm.Pilot.@@N@@
